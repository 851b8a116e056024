import JvmDerived
import JvmDerived.Pilot.@@N@@Statement
import JvmDerived.Pilot.@@N@@Code
set_option linter.unusedVariables false
set_option linter.unusedSimpArgs false
namespace Jvm.RoadKit
open Sem ClassFile Op Lib Jvm.Stand Jvm.Free Jvm.LawKit
section New
variable {p : Program} {l : Launch} {e : Env} {R : Room} {s : State} {m : MethodId} {args : Array Value} {below : List Frame} {meth : Method} {c : Code} {T : State} {locs : List Loc} {cells slots : Nat}
theorem retI (X : Stand p l e R s m args below meth c T locs cells slots) (hx : p.tables.exec = Jvm.exec) {pc : Nat} {Ls : Array Slot} {z : Int32} {rest : List Value} (hret : meth.sig.returnType = some .int) (hd : decode c.code pc = .ok (.ireturn, 1)) {fs : List Frame}
    (hl : ∀ (f : JFrame) (acts : List Action), f.method = m → f.locked = none → f.entered = [] → (doReturn e (T.setTop f) acts (some (.int z))).1 = T.setFrames fs) : Steps p.tables e below (T.setTop (mkF m pc Ls (.int z :: rest))) (T.setFrames fs) := by
  have hm' : T.vm.method? m = some meth := X.method'
  have hn : narrow .int (.int z) = .int z := rfl
  show Steps p.tables e below (T.setTop { method := m, pc := pc, locals := Ls, stack := _ :: rest, locked := none }) _
  jvm_step X.here [X.here.top, hx, hd, hm', hret, hn]
  first | (intro acts; rw [hl _ acts rfl rfl rfl]) | rw [hl _ _ rfl rfl rfl]
  exact Steps.refl _
end New
end Jvm.RoadKit
namespace Jvm.Pilot.@@N@@
open Jvm Jvm.ClassFile Sem Op Lib Jvm.Free Jvm.Stand Jvm.LawKit Jvm.RoadKit Bundle Jvm.Pilot.@@N@@.Jvm.D
theorem own_backV {p : Program} {l : Launch} {e : Env} {R : Room} {s : State} {m : MethodId} {args : Array Value} {below : List Frame} {meth : Method} {c : Code} {T s₀ : State} {locs : List Loc} {cells slots k n : Nat} {Q : Option Value → Heap → List Loc → Prop} {g : JFrame} {rest : List Value}
    (X0 : Stand p l e R s m args below meth c T locs cells slots) (h : ∃ (v : Option Value) (vm₁ : Vm) (B : Pt), s.WarmedH vm₁ ∧ Stand p l e R s m args below meth c B.U B.locs B.cells B.slots ∧ (∃ L, Q v B.U.heap L ∧ B.locs = locs ++ L ∧ B.cells = cells + k ∧ B.slots = slots + n) ∧ Steps p.tables e below s₀ (B.U.setTop { g with pc := g.pc + 3, stack := v.toList ++ rest })) :
    ∃ (v : Option Value) (T' : State) (L : List Loc), Stand p l e R s m args below meth c T' (locs ++ L) (cells + k) (slots + n) ∧ Q v T'.heap L ∧ Steps p.tables e below s₀ (T'.setTop { g with pc := g.pc + 3, stack := v.toList ++ rest }) := by
  obtain ⟨v, vm1, ⟨U, Ls, ks, ns⟩, -, X, ⟨L, hQ, rfl, rfl, rfl⟩, st⟩ := h
  exact ⟨v, U, L, X, hQ, st⟩
theorem own_backI {p : Program} {l : Launch} {e : Env} {R : Room} {s : State} {m : MethodId} {args : Array Value} {below : List Frame} {meth : Method} {c : Code} {T s₀ : State} {locs : List Loc} {cells slots k n : Nat} {Q : Option Value → Heap → List Loc → Prop} {g : JFrame} {rest : List Value}
    (X0 : Stand p l e R s m args below meth c T locs cells slots) (h : ∃ (v : Option Value) (vm₁ : Vm) (B : Pt), s.WarmedH vm₁ ∧ Stand p l e R s m args below meth c B.U B.locs B.cells B.slots ∧ (∃ L, Q v B.U.heap L ∧ B.locs = locs ++ L ∧ B.cells = cells + k ∧ B.slots = slots + n) ∧ Steps p.tables e below s₀ (B.U.setTop { g with pc := g.pc + 5, stack := v.toList ++ rest })) :
    ∃ (v : Option Value) (T' : State) (L : List Loc), Stand p l e R s m args below meth c T' (locs ++ L) (cells + k) (slots + n) ∧ Q v T'.heap L ∧ Steps p.tables e below s₀ (T'.setTop { g with pc := g.pc + 5, stack := v.toList ++ rest }) := by
  obtain ⟨v, vm1, ⟨U, Ls, ks, ns⟩, -, X, ⟨L, hQ, rfl, rfl, rfl⟩, st⟩ := h
  exact ⟨v, U, L, X, hQ, st⟩
theorem own_backS {p : Program} {l : Launch} {e : Env} {R : Room} {s : State} {m : MethodId} {args : Array Value} {below : List Frame} {meth : Method} {c : Code} {T s₀ : State} {locs : List Loc} {cells slots k n : Nat} {Q : Option Value → Heap → List Loc → Prop} {g : JFrame} {rest : List Value}
    (X0 : Stand p l e R s m args below meth c T locs cells slots) (h : ∃ (v : Option Value) (vm₁ : Vm) (B : Pt), s.WarmedH vm₁ ∧ Stand p l e R s m args below meth c B.U B.locs B.cells B.slots ∧ (∃ L, Q v B.U.heap L ∧ B.locs = locs ++ L ∧ B.cells = cells + k ∧ B.slots = slots + n) ∧ ∀ target, Steps p.tables e below (B.U.setTop { g with pc := g.pc + 3, stack := v.toList ++ rest }) target → Steps p.tables e below (T.setTop g) target) :
    ∃ (v : Option Value) (T' : State) (L : List Loc), Stand p l e R s m args below meth c T' (locs ++ L) (cells + k) (slots + n) ∧ Q v T'.heap L ∧ ∀ target, Steps p.tables e below (T'.setTop { g with pc := g.pc + 3, stack := v.toList ++ rest }) target → Steps p.tables e below (T.setTop g) target := by
  obtain ⟨v, vm1, ⟨U, Ls, ks, ns⟩, -, X, ⟨L, hQ, rfl, rfl, rfl⟩, st⟩ := h
  exact ⟨v, U, L, X, hQ, st⟩
theorem own_pin {args : Array Value} {s : State} {C n d K : String} (hx : (Jvm.Cond.exactly (Jvm.Term.static C n d) K).value args s none s [] = some true) (hi : (Jvm.Cond.initialized C).before args s = true) (hl : (Jvm.Cond.laysStatic C n d).before args s = true) :
    ∃ w, (Jvm.Term.static C n d).eval args s none [] s = some (.ref w) ∧ Sta s s.heap C n d (.ref w) ∧ Exa s s.heap w K := by
  obtain ⟨w, ev⟩ := exa_v hx
  exact ⟨w, ev, Sta.start ev (Or.inr ⟨hi, hl⟩), Exa.start ev hx⟩
theorem own_fld {args : Array Value} {s : State} {t : Jvm.Term} {C n d : String} {k : Int32} {w : Addr} (ev : t.eval args s none [] s = some (.ref w)) (h : (Jvm.Cond.eq (Jvm.Term.field t C n d) (Jvm.Term.int k)).value args s none s [] = some true) : s.fieldOf? w C n d = some (.int k) := by
  obtain ⟨x, y, hx, hy, -, hk⟩ := cmp_v (Or.inl h)
  have hy' : (Jvm.Term.int k).eval args s none [] s = some (.int k) := Term.int_eval k
  cases hy.symm.trans hy'
  obtain ⟨z, rfl⟩ := hk
  have e : (Jvm.Cond.eq (Jvm.Term.field t C n d) (Jvm.Term.int k)).value args s none s [] = some (decide (z = k)) := by simp [Cond.value, hx, hy']
  have q := gotT e h
  rw [fld_at ev] at hx
  rw [hx, q]
theorem own_ne {s : State} {w w' : Addr} {C n d : String} {k k' : Int32} (h1 : s.fieldOf? w C n d = some (.int k)) (h2 : s.fieldOf? w' C n d = some (.int k')) (hk : k ≠ k') : w ≠ w' := fun e => by
  subst e
  exact hk (Value.int.inj (Option.some.inj (h1.symm.trans h2)))
def own_Chain (Z : State) (h : Heap) : List Addr → Prop
  | [] => True
  | [a] => Fld Z h a "com/example/gridloom/gridloom/mapping/ItemType" "_parent" "Lcom/example/gridloom/gridloom/mapping/ItemType;" .null
  | a :: b :: L => Fld Z h a "com/example/gridloom/gridloom/mapping/ItemType" "_parent" "Lcom/example/gridloom/gridloom/mapping/ItemType;" (.ref b) ∧ own_Chain Z h (b :: L)
theorem own_chain_keep {Z : State} {h h' : Heap} (Kp : Keep h h' []) : ∀ (L : List Addr), own_Chain Z h L → own_Chain Z h' L
  | [], _ => trivial
  | [_], F => Fld.keep F Kp nin0
  | _ :: b :: L, F => ⟨Fld.keep F.1 Kp nin0, own_chain_keep Kp (b :: L) F.2⟩
theorem d1_0 : decode prog_81_method_6_code 0 = .ok (.aload_n 1, 1) := by decide +kernel
theorem d1_1 : decode prog_81_method_6_code 1 = .ok (.astore_n 2, 1) := by decide +kernel
theorem d1_2 : decode prog_81_method_6_code 2 = .ok (.aload_n 2, 1) := by decide +kernel
theorem d1_3 : decode prog_81_method_6_code 3 = .ok (.ifnull 18, 3) := by decide +kernel
theorem d1_6 : decode prog_81_method_6_code 6 = .ok (.aload_n 2, 1) := by decide +kernel
theorem d1_7 : decode prog_81_method_6_code 7 = .ok (.aload_n 0, 1) := by decide +kernel
theorem d1_8 : decode prog_81_method_6_code 8 = .ok (.if_acmp .ne 5, 3) := by decide +kernel
theorem d1_11 : decode prog_81_method_6_code 11 = .ok (.iconst 1, 1) := by decide +kernel
theorem d1_12 : decode prog_81_method_6_code 12 = .ok (.ireturn, 1) := by decide +kernel
def Q_inc1T (Z : State) (a : Addr) (b : Addr) (h0 : Heap) (n0 : Nat) (v : Option Value) (h : Heap) (L : List Loc) : Prop := v = some (.int (1 : Int32)) ∧ Fr n0 L ∧ h = h0
theorem pn_1 : plainName "com/example/gridloom/gridloom/mapping/ItemType" = true := by first | (simp [plainName, overriddenIn]; done) | decide +kernel
theorem ef_inc1T (m : MethodId) (a : Addr) (b : Addr) : entryFrame m #[(.ref a), (.ref b)] 3 = mkF m 0 #[.val (.ref a), .val (.ref b), .unset] [] := by first | (simp [entryFrame, mkF, argsToLocals, Value.category]; done) | rfl
set_option maxRecDepth 65536 in
set_option maxHeartbeats 40000000 in
theorem rm_inc1T_0 (l : Launch) (Z : State) (a0 : Array Value) (hw : ∀ d ∈ tables_1, d.before a0 Z = true) (ws : List Jvm.Cond) (a : Addr) (b : Addr) (h0 : Heap) (n0 : Nat) (Z0 : n0 ≤ h0.size) (F__parent_b : Fld Z h0 b "com/example/gridloom/gridloom/mapping/ItemType" "_parent" "Lcom/example/gridloom/gridloom/mapping/ItemType;" .null) (ha8 : b = a) :
    MetFree l (⟨"com/example/gridloom/gridloom/mapping/ItemType", "includes", "(Lcom/example/gridloom/gridloom/mapping/ItemType;)Z"⟩ : MethodName) (head1 (Jvm.Cond.code (⟨"com/example/gridloom/gridloom/mapping/ItemType", "includes", "(Lcom/example/gridloom/gridloom/mapping/ItemType;)Z"⟩ : MethodName) prog_81_method_6_code 3 (some .boolean) :: ws) ({ frames := 0, cells := 0, slots := 0, locals := 0 } : Room)) (fun a_ U => a_ = #[(.ref a), (.ref b)] ∧ Z.Warmed39 U.vm ∧ U.heap = h0) (fun _ _ _ _ _ => True) (fun _ U o U' => ∃ v L, o = .returned v ∧ Q_inc1T Z a b h0 n0 v U'.heap L ∧ FrameEnd U o U' L ({ frames := 0, cells := 0, slots := 0, locals := 0 } : Room).cells ({ frames := 0, cells := 0, slots := 0, locals := 0 } : Room).slots) := by
  refine MetFree.of_bodySF (plainFor_of_name pn_1) hisR ?_
  intro p e s m args below meth c s₁ Bd hml0 hP hK
  obtain ⟨rfl, hZ, hh⟩ := hP
  have hx := Bd.exec
  have hby := Bd.bytes
  have hml : c.maxLocals = 3 := hml0
  have hown : s.vm.findClass "com/example/gridloom/gridloom/mapping/ItemType" = some m.cls := findClass_of_methodNamed Bd.named
  have hnm := (name_of_methodNamed Bd.named Bd.method).1
  have X0 : Stand p l e ({ frames := 0, cells := 0, slots := 0, locals := 0 } : Room) s m #[(.ref a), (.ref b)] below meth c s₁ [] 0 0 := Stand.of_body Bd
  have e0 : s₁.heap = h0 := by rw [← hh, Bd.state]; rfl
  have N0 := Fr.nil n0
  have pre0 : ∀ t, Steps p.tables e below (s₁.setTop (mkF m 0 #[.val (.ref a), .val (.ref b), .unset] [])) t → Steps p.tables e below (s₁.setTop (entryFrame m #[(.ref a), (.ref b)] 3)) t := fun t_ k_ => castTop (ef_inc1T m a b) k_
  obtain ⟨fs, hr, hrun, hended, hW, hsame⟩ := X0.leave (v := some (.int (1 : Int32))) (fun h => by rw [Bd.returns] at h; cases h)
  refine ⟨_, _, pre0 _ ?_, hrun, hended, _, _, rfl, ?_, ⟨_, rfl⟩, hW, hsame.mono (by decide) (by decide)⟩
  · show Steps p.tables e below (s₁.setTop (mkF m 0 #[.val (.ref a), .val (.ref b), .unset] [])) _
    refine XS.aloadN X0.here hx rfl (hb hby d1_0) rfl rfl ?_
    show Steps p.tables e below (s₁.setTop (mkF m 1 #[.val (.ref a), .val (.ref b), .unset] [(.ref b)])) _
    refine XS.astoreN X0.here hx rfl (hb hby d1_1) rfl rfl (l' := #[.val (.ref a), .val (.ref b), .val (.ref b)]) rfl ?_
    show Steps p.tables e below (s₁.setTop (mkF m 2 #[.val (.ref a), .val (.ref b), .val (.ref b)] [])) _
    refine XS.aloadN X0.here hx rfl (hb hby d1_2) rfl rfl ?_
    show Steps p.tables e below (s₁.setTop (mkF m 3 #[.val (.ref a), .val (.ref b), .val (.ref b)] [(.ref b)])) _
    refine XS.ifnullNo X0.here hx rfl (hb hby d1_3) rfl ?_
    show Steps p.tables e below (s₁.setTop (mkF m 6 #[.val (.ref a), .val (.ref b), .val (.ref b)] [])) _
    refine XS.aloadN X0.here hx rfl (hb hby d1_6) rfl rfl ?_
    show Steps p.tables e below (s₁.setTop (mkF m 7 #[.val (.ref a), .val (.ref b), .val (.ref b)] [(.ref b)])) _
    refine XS.aloadN X0.here hx rfl (hb hby d1_7) rfl rfl ?_
    show Steps p.tables e below (s₁.setTop (mkF m 8 #[.val (.ref a), .val (.ref b), .val (.ref b)] [(.ref a), (.ref b)])) _
    refine Jvm.RoadKit.acmp (g := (mkF m 8 #[.val (.ref a), .val (.ref b), .val (.ref b)] [(.ref a), (.ref b)])) X0 hx rfl rfl rfl (pc0 := 8) (pc' := 11) (same := true) rfl (hb hby d1_8) rfl (decide_eq_true (congrArg Value.ref ha8)) (by decide) (by decide) ?_
    show Steps p.tables e below (s₁.setTop (mkF m 11 #[.val (.ref a), .val (.ref b), .val (.ref b)] [])) _
    refine XS.iconst X0.here hx rfl (hb hby d1_11) ?_
    show Steps p.tables e below (s₁.setTop (mkF m 12 #[.val (.ref a), .val (.ref b), .val (.ref b)] [(.int (1 : Int32))])) _
    exact retN X0 hx (t := .boolean) Bd.returns (by simp) (hb hby d1_12) hr
  · show Q_inc1T Z a b h0 n0 _ s₁.heap _
    rw [e0]
    exact ⟨rfl, N0, rfl⟩
theorem d1_13 : decode prog_81_method_6_code 13 = .ok (.aload_n 2, 1) := by decide +kernel
theorem d1_14 : decode prog_81_method_6_code 14 = .ok (.getfield 80, 3) := by decide +kernel
theorem d1_17 : decode prog_81_method_6_code 17 = .ok (.astore_n 2, 1) := by decide +kernel
theorem d1_18 : decode prog_81_method_6_code 18 = .ok (.goto (-16), 3) := by decide +kernel
theorem d1_21 : decode prog_81_method_6_code 21 = .ok (.iconst 0, 1) := by decide +kernel
theorem d1_22 : decode prog_81_method_6_code 22 = .ok (.ireturn, 1) := by decide +kernel
def Q_inc1F (Z : State) (a : Addr) (b : Addr) (h0 : Heap) (n0 : Nat) (v : Option Value) (h : Heap) (L : List Loc) : Prop := v = some (.int (0 : Int32)) ∧ Fr n0 L ∧ h = h0
theorem ef_inc1F (m : MethodId) (a : Addr) (b : Addr) : entryFrame m #[(.ref a), (.ref b)] 3 = mkF m 0 #[.val (.ref a), .val (.ref b), .unset] [] := by first | (simp [entryFrame, mkF, argsToLocals, Value.category]; done) | rfl
set_option maxRecDepth 65536 in
set_option maxHeartbeats 40000000 in
theorem rm_inc1F (l : Launch) (Z : State) (a0 : Array Value) (hw : ∀ d ∈ tables_1, d.before a0 Z = true) (ws : List Jvm.Cond) (a : Addr) (b : Addr) (h0 : Heap) (n0 : Nat) (Z0 : n0 ≤ h0.size) (F__parent_b : Fld Z h0 b "com/example/gridloom/gridloom/mapping/ItemType" "_parent" "Lcom/example/gridloom/gridloom/mapping/ItemType;" .null) (ha8 : ¬ (b = a)) :
    MetFree l (⟨"com/example/gridloom/gridloom/mapping/ItemType", "includes", "(Lcom/example/gridloom/gridloom/mapping/ItemType;)Z"⟩ : MethodName) (head1 (Jvm.Cond.code (⟨"com/example/gridloom/gridloom/mapping/ItemType", "includes", "(Lcom/example/gridloom/gridloom/mapping/ItemType;)Z"⟩ : MethodName) prog_81_method_6_code 3 (some .boolean) :: ws) ({ frames := 0, cells := 0, slots := 0, locals := 0 } : Room)) (fun a_ U => a_ = #[(.ref a), (.ref b)] ∧ Z.Warmed39 U.vm ∧ U.heap = h0) (fun _ _ _ _ _ => True) (fun _ U o U' => ∃ v L, o = .returned v ∧ Q_inc1F Z a b h0 n0 v U'.heap L ∧ FrameEnd U o U' L ({ frames := 0, cells := 0, slots := 0, locals := 0 } : Room).cells ({ frames := 0, cells := 0, slots := 0, locals := 0 } : Room).slots) := by
  refine MetFree.of_bodySF (plainFor_of_name pn_1) hisR ?_
  intro p e s m args below meth c s₁ Bd hml0 hP hK
  obtain ⟨rfl, hZ, hh⟩ := hP
  have hx := Bd.exec
  have hby := Bd.bytes
  have hml : c.maxLocals = 3 := hml0
  have hown : s.vm.findClass "com/example/gridloom/gridloom/mapping/ItemType" = some m.cls := findClass_of_methodNamed Bd.named
  have hnm := (name_of_methodNamed Bd.named Bd.method).1
  have X0 : Stand p l e ({ frames := 0, cells := 0, slots := 0, locals := 0 } : Room) s m #[(.ref a), (.ref b)] below meth c s₁ [] 0 0 := Stand.of_body Bd
  have e0 : s₁.heap = h0 := by rw [← hh, Bd.state]; rfl
  have N0 := Fr.nil n0
  have pre0 : ∀ t, Steps p.tables e below (s₁.setTop (mkF m 0 #[.val (.ref a), .val (.ref b), .unset] [])) t → Steps p.tables e below (s₁.setTop (entryFrame m #[(.ref a), (.ref b)] 3)) t := fun t_ k_ => castTop (ef_inc1F m a b) k_
  obtain ⟨T1, X1, e1, st1⟩ := getF X0 hx hZ hown (host := "") (Or.inl (hw _ (List.mem_of_getElem? (i := 53) rfl))) Via.refl e0 F__parent_b (g := (mkF m 14 #[.val (.ref a), .val (.ref b), .val (.ref b)] [(.ref b)])) rfl rfl (hb hby d1_14)
  obtain ⟨fs, hr, hrun, hended, hW, hsame⟩ := X1.leave (v := some (.int (0 : Int32))) (fun h => by rw [Bd.returns] at h; cases h)
  refine ⟨_, _, pre0 _ ?_, hrun, hended, _, _, rfl, ?_, ⟨_, rfl⟩, hW, hsame.mono (by decide) (by decide)⟩
  · show Steps p.tables e below (s₁.setTop (mkF m 0 #[.val (.ref a), .val (.ref b), .unset] [])) _
    refine XS.aloadN X0.here hx rfl (hb hby d1_0) rfl rfl ?_
    show Steps p.tables e below (s₁.setTop (mkF m 1 #[.val (.ref a), .val (.ref b), .unset] [(.ref b)])) _
    refine XS.astoreN X0.here hx rfl (hb hby d1_1) rfl rfl (l' := #[.val (.ref a), .val (.ref b), .val (.ref b)]) rfl ?_
    show Steps p.tables e below (s₁.setTop (mkF m 2 #[.val (.ref a), .val (.ref b), .val (.ref b)] [])) _
    refine XS.aloadN X0.here hx rfl (hb hby d1_2) rfl rfl ?_
    show Steps p.tables e below (s₁.setTop (mkF m 3 #[.val (.ref a), .val (.ref b), .val (.ref b)] [(.ref b)])) _
    refine XS.ifnullNo X0.here hx rfl (hb hby d1_3) rfl ?_
    show Steps p.tables e below (s₁.setTop (mkF m 6 #[.val (.ref a), .val (.ref b), .val (.ref b)] [])) _
    refine XS.aloadN X0.here hx rfl (hb hby d1_6) rfl rfl ?_
    show Steps p.tables e below (s₁.setTop (mkF m 7 #[.val (.ref a), .val (.ref b), .val (.ref b)] [(.ref b)])) _
    refine XS.aloadN X0.here hx rfl (hb hby d1_7) rfl rfl ?_
    show Steps p.tables e below (s₁.setTop (mkF m 8 #[.val (.ref a), .val (.ref b), .val (.ref b)] [(.ref a), (.ref b)])) _
    refine Jvm.RoadKit.acmp (g := (mkF m 8 #[.val (.ref a), .val (.ref b), .val (.ref b)] [(.ref a), (.ref b)])) X0 hx rfl rfl rfl (pc0 := 8) (pc' := 13) (same := false) rfl (hb hby d1_8) rfl (decide_eq_false fun q => ha8 (Value.ref.inj q)) (by decide) (by decide) ?_
    show Steps p.tables e below (s₁.setTop (mkF m 13 #[.val (.ref a), .val (.ref b), .val (.ref b)] [])) _
    refine XS.aloadN X0.here hx rfl (hb hby d1_13) rfl rfl ?_
    show Steps p.tables e below (s₁.setTop (mkF m 14 #[.val (.ref a), .val (.ref b), .val (.ref b)] [(.ref b)])) _
    refine st1 _ ?_
    show Steps p.tables e below (T1.setTop (mkF m 17 #[.val (.ref a), .val (.ref b), .val (.ref b)] [.null])) _
    refine XS.astoreN X1.here hx rfl (hb hby d1_17) rfl rfl (l' := #[.val (.ref a), .val (.ref b), .val .null]) rfl ?_
    show Steps p.tables e below (T1.setTop (mkF m 18 #[.val (.ref a), .val (.ref b), .val .null] [])) _
    refine XS.goto X1.here hx rfl (pc0 := 18) (pc' := 2) rfl (hb hby d1_18) (by decide) (by decide) ?_
    show Steps p.tables e below (T1.setTop (mkF m 2 #[.val (.ref a), .val (.ref b), .val .null] [])) _
    refine XS.aloadN X1.here hx rfl (hb hby d1_2) rfl rfl ?_
    show Steps p.tables e below (T1.setTop (mkF m 3 #[.val (.ref a), .val (.ref b), .val .null] [.null])) _
    refine XS.ifnullYes X1.here hx rfl (pc0 := 3) (pc' := 21) rfl (hb hby d1_3) rfl (by decide) (by decide) ?_
    show Steps p.tables e below (T1.setTop (mkF m 21 #[.val (.ref a), .val (.ref b), .val .null] [])) _
    refine XS.iconst X1.here hx rfl (hb hby d1_21) ?_
    show Steps p.tables e below (T1.setTop (mkF m 22 #[.val (.ref a), .val (.ref b), .val .null] [(.int (0 : Int32))])) _
    exact retN X1 hx (t := .boolean) Bd.returns (by simp) (hb hby d1_22) hr
  · show Q_inc1F Z a b h0 n0 _ T1.heap _
    rw [e1]
    exact ⟨rfl, N0, rfl⟩
def Q_inc2T (Z : State) (a : Addr) (b : Addr) (c2 : Addr) (h0 : Heap) (n0 : Nat) (v : Option Value) (h : Heap) (L : List Loc) : Prop := v = some (.int (1 : Int32)) ∧ Fr n0 L ∧ h = h0
theorem ef_inc2T (m : MethodId) (a : Addr) (b : Addr) : entryFrame m #[(.ref a), (.ref b)] 3 = mkF m 0 #[.val (.ref a), .val (.ref b), .unset] [] := by first | (simp [entryFrame, mkF, argsToLocals, Value.category]; done) | rfl
set_option maxRecDepth 65536 in
set_option maxHeartbeats 40000000 in
theorem rm_inc2T_0 (l : Launch) (Z : State) (a0 : Array Value) (hw : ∀ d ∈ tables_1, d.before a0 Z = true) (ws : List Jvm.Cond) (a : Addr) (b : Addr) (c2 : Addr) (h0 : Heap) (n0 : Nat) (Z0 : n0 ≤ h0.size) (F__parent_b : Fld Z h0 b "com/example/gridloom/gridloom/mapping/ItemType" "_parent" "Lcom/example/gridloom/gridloom/mapping/ItemType;" (.ref c2)) (F__parent_c2 : Fld Z h0 c2 "com/example/gridloom/gridloom/mapping/ItemType" "_parent" "Lcom/example/gridloom/gridloom/mapping/ItemType;" .null) (ha8 : b = a) :
    MetFree l (⟨"com/example/gridloom/gridloom/mapping/ItemType", "includes", "(Lcom/example/gridloom/gridloom/mapping/ItemType;)Z"⟩ : MethodName) (head1 (Jvm.Cond.code (⟨"com/example/gridloom/gridloom/mapping/ItemType", "includes", "(Lcom/example/gridloom/gridloom/mapping/ItemType;)Z"⟩ : MethodName) prog_81_method_6_code 3 (some .boolean) :: ws) ({ frames := 0, cells := 0, slots := 0, locals := 0 } : Room)) (fun a_ U => a_ = #[(.ref a), (.ref b)] ∧ Z.Warmed39 U.vm ∧ U.heap = h0) (fun _ _ _ _ _ => True) (fun _ U o U' => ∃ v L, o = .returned v ∧ Q_inc2T Z a b c2 h0 n0 v U'.heap L ∧ FrameEnd U o U' L ({ frames := 0, cells := 0, slots := 0, locals := 0 } : Room).cells ({ frames := 0, cells := 0, slots := 0, locals := 0 } : Room).slots) := by
  refine MetFree.of_bodySF (plainFor_of_name pn_1) hisR ?_
  intro p e s m args below meth c s₁ Bd hml0 hP hK
  obtain ⟨rfl, hZ, hh⟩ := hP
  have hx := Bd.exec
  have hby := Bd.bytes
  have hml : c.maxLocals = 3 := hml0
  have hown : s.vm.findClass "com/example/gridloom/gridloom/mapping/ItemType" = some m.cls := findClass_of_methodNamed Bd.named
  have hnm := (name_of_methodNamed Bd.named Bd.method).1
  have X0 : Stand p l e ({ frames := 0, cells := 0, slots := 0, locals := 0 } : Room) s m #[(.ref a), (.ref b)] below meth c s₁ [] 0 0 := Stand.of_body Bd
  have e0 : s₁.heap = h0 := by rw [← hh, Bd.state]; rfl
  have N0 := Fr.nil n0
  have pre0 : ∀ t, Steps p.tables e below (s₁.setTop (mkF m 0 #[.val (.ref a), .val (.ref b), .unset] [])) t → Steps p.tables e below (s₁.setTop (entryFrame m #[(.ref a), (.ref b)] 3)) t := fun t_ k_ => castTop (ef_inc2T m a b) k_
  obtain ⟨fs, hr, hrun, hended, hW, hsame⟩ := X0.leave (v := some (.int (1 : Int32))) (fun h => by rw [Bd.returns] at h; cases h)
  refine ⟨_, _, pre0 _ ?_, hrun, hended, _, _, rfl, ?_, ⟨_, rfl⟩, hW, hsame.mono (by decide) (by decide)⟩
  · show Steps p.tables e below (s₁.setTop (mkF m 0 #[.val (.ref a), .val (.ref b), .unset] [])) _
    refine XS.aloadN X0.here hx rfl (hb hby d1_0) rfl rfl ?_
    show Steps p.tables e below (s₁.setTop (mkF m 1 #[.val (.ref a), .val (.ref b), .unset] [(.ref b)])) _
    refine XS.astoreN X0.here hx rfl (hb hby d1_1) rfl rfl (l' := #[.val (.ref a), .val (.ref b), .val (.ref b)]) rfl ?_
    show Steps p.tables e below (s₁.setTop (mkF m 2 #[.val (.ref a), .val (.ref b), .val (.ref b)] [])) _
    refine XS.aloadN X0.here hx rfl (hb hby d1_2) rfl rfl ?_
    show Steps p.tables e below (s₁.setTop (mkF m 3 #[.val (.ref a), .val (.ref b), .val (.ref b)] [(.ref b)])) _
    refine XS.ifnullNo X0.here hx rfl (hb hby d1_3) rfl ?_
    show Steps p.tables e below (s₁.setTop (mkF m 6 #[.val (.ref a), .val (.ref b), .val (.ref b)] [])) _
    refine XS.aloadN X0.here hx rfl (hb hby d1_6) rfl rfl ?_
    show Steps p.tables e below (s₁.setTop (mkF m 7 #[.val (.ref a), .val (.ref b), .val (.ref b)] [(.ref b)])) _
    refine XS.aloadN X0.here hx rfl (hb hby d1_7) rfl rfl ?_
    show Steps p.tables e below (s₁.setTop (mkF m 8 #[.val (.ref a), .val (.ref b), .val (.ref b)] [(.ref a), (.ref b)])) _
    refine Jvm.RoadKit.acmp (g := (mkF m 8 #[.val (.ref a), .val (.ref b), .val (.ref b)] [(.ref a), (.ref b)])) X0 hx rfl rfl rfl (pc0 := 8) (pc' := 11) (same := true) rfl (hb hby d1_8) rfl (decide_eq_true (congrArg Value.ref ha8)) (by decide) (by decide) ?_
    show Steps p.tables e below (s₁.setTop (mkF m 11 #[.val (.ref a), .val (.ref b), .val (.ref b)] [])) _
    refine XS.iconst X0.here hx rfl (hb hby d1_11) ?_
    show Steps p.tables e below (s₁.setTop (mkF m 12 #[.val (.ref a), .val (.ref b), .val (.ref b)] [(.int (1 : Int32))])) _
    exact retN X0 hx (t := .boolean) Bd.returns (by simp) (hb hby d1_12) hr
  · show Q_inc2T Z a b c2 h0 n0 _ s₁.heap _
    rw [e0]
    exact ⟨rfl, N0, rfl⟩
set_option maxRecDepth 65536 in
set_option maxHeartbeats 40000000 in
theorem rm_inc2T_1 (l : Launch) (Z : State) (a0 : Array Value) (hw : ∀ d ∈ tables_1, d.before a0 Z = true) (ws : List Jvm.Cond) (a : Addr) (b : Addr) (c2 : Addr) (h0 : Heap) (n0 : Nat) (Z0 : n0 ≤ h0.size) (F__parent_b : Fld Z h0 b "com/example/gridloom/gridloom/mapping/ItemType" "_parent" "Lcom/example/gridloom/gridloom/mapping/ItemType;" (.ref c2)) (F__parent_c2 : Fld Z h0 c2 "com/example/gridloom/gridloom/mapping/ItemType" "_parent" "Lcom/example/gridloom/gridloom/mapping/ItemType;" .null) (ha8 : ¬ (b = a)) (ha8_2 : c2 = a) :
    MetFree l (⟨"com/example/gridloom/gridloom/mapping/ItemType", "includes", "(Lcom/example/gridloom/gridloom/mapping/ItemType;)Z"⟩ : MethodName) (head1 (Jvm.Cond.code (⟨"com/example/gridloom/gridloom/mapping/ItemType", "includes", "(Lcom/example/gridloom/gridloom/mapping/ItemType;)Z"⟩ : MethodName) prog_81_method_6_code 3 (some .boolean) :: ws) ({ frames := 0, cells := 0, slots := 0, locals := 0 } : Room)) (fun a_ U => a_ = #[(.ref a), (.ref b)] ∧ Z.Warmed39 U.vm ∧ U.heap = h0) (fun _ _ _ _ _ => True) (fun _ U o U' => ∃ v L, o = .returned v ∧ Q_inc2T Z a b c2 h0 n0 v U'.heap L ∧ FrameEnd U o U' L ({ frames := 0, cells := 0, slots := 0, locals := 0 } : Room).cells ({ frames := 0, cells := 0, slots := 0, locals := 0 } : Room).slots) := by
  refine MetFree.of_bodySF (plainFor_of_name pn_1) hisR ?_
  intro p e s m args below meth c s₁ Bd hml0 hP hK
  obtain ⟨rfl, hZ, hh⟩ := hP
  have hx := Bd.exec
  have hby := Bd.bytes
  have hml : c.maxLocals = 3 := hml0
  have hown : s.vm.findClass "com/example/gridloom/gridloom/mapping/ItemType" = some m.cls := findClass_of_methodNamed Bd.named
  have hnm := (name_of_methodNamed Bd.named Bd.method).1
  have X0 : Stand p l e ({ frames := 0, cells := 0, slots := 0, locals := 0 } : Room) s m #[(.ref a), (.ref b)] below meth c s₁ [] 0 0 := Stand.of_body Bd
  have e0 : s₁.heap = h0 := by rw [← hh, Bd.state]; rfl
  have N0 := Fr.nil n0
  have pre0 : ∀ t, Steps p.tables e below (s₁.setTop (mkF m 0 #[.val (.ref a), .val (.ref b), .unset] [])) t → Steps p.tables e below (s₁.setTop (entryFrame m #[(.ref a), (.ref b)] 3)) t := fun t_ k_ => castTop (ef_inc2T m a b) k_
  obtain ⟨T1, X1, e1, st1⟩ := getF X0 hx hZ hown (host := "") (Or.inl (hw _ (List.mem_of_getElem? (i := 53) rfl))) Via.refl e0 F__parent_b (g := (mkF m 14 #[.val (.ref a), .val (.ref b), .val (.ref b)] [(.ref b)])) rfl rfl (hb hby d1_14)
  obtain ⟨fs, hr, hrun, hended, hW, hsame⟩ := X1.leave (v := some (.int (1 : Int32))) (fun h => by rw [Bd.returns] at h; cases h)
  refine ⟨_, _, pre0 _ ?_, hrun, hended, _, _, rfl, ?_, ⟨_, rfl⟩, hW, hsame.mono (by decide) (by decide)⟩
  · show Steps p.tables e below (s₁.setTop (mkF m 0 #[.val (.ref a), .val (.ref b), .unset] [])) _
    refine XS.aloadN X0.here hx rfl (hb hby d1_0) rfl rfl ?_
    show Steps p.tables e below (s₁.setTop (mkF m 1 #[.val (.ref a), .val (.ref b), .unset] [(.ref b)])) _
    refine XS.astoreN X0.here hx rfl (hb hby d1_1) rfl rfl (l' := #[.val (.ref a), .val (.ref b), .val (.ref b)]) rfl ?_
    show Steps p.tables e below (s₁.setTop (mkF m 2 #[.val (.ref a), .val (.ref b), .val (.ref b)] [])) _
    refine XS.aloadN X0.here hx rfl (hb hby d1_2) rfl rfl ?_
    show Steps p.tables e below (s₁.setTop (mkF m 3 #[.val (.ref a), .val (.ref b), .val (.ref b)] [(.ref b)])) _
    refine XS.ifnullNo X0.here hx rfl (hb hby d1_3) rfl ?_
    show Steps p.tables e below (s₁.setTop (mkF m 6 #[.val (.ref a), .val (.ref b), .val (.ref b)] [])) _
    refine XS.aloadN X0.here hx rfl (hb hby d1_6) rfl rfl ?_
    show Steps p.tables e below (s₁.setTop (mkF m 7 #[.val (.ref a), .val (.ref b), .val (.ref b)] [(.ref b)])) _
    refine XS.aloadN X0.here hx rfl (hb hby d1_7) rfl rfl ?_
    show Steps p.tables e below (s₁.setTop (mkF m 8 #[.val (.ref a), .val (.ref b), .val (.ref b)] [(.ref a), (.ref b)])) _
    refine Jvm.RoadKit.acmp (g := (mkF m 8 #[.val (.ref a), .val (.ref b), .val (.ref b)] [(.ref a), (.ref b)])) X0 hx rfl rfl rfl (pc0 := 8) (pc' := 13) (same := false) rfl (hb hby d1_8) rfl (decide_eq_false fun q => ha8 (Value.ref.inj q)) (by decide) (by decide) ?_
    show Steps p.tables e below (s₁.setTop (mkF m 13 #[.val (.ref a), .val (.ref b), .val (.ref b)] [])) _
    refine XS.aloadN X0.here hx rfl (hb hby d1_13) rfl rfl ?_
    show Steps p.tables e below (s₁.setTop (mkF m 14 #[.val (.ref a), .val (.ref b), .val (.ref b)] [(.ref b)])) _
    refine st1 _ ?_
    show Steps p.tables e below (T1.setTop (mkF m 17 #[.val (.ref a), .val (.ref b), .val (.ref b)] [(.ref c2)])) _
    refine XS.astoreN X1.here hx rfl (hb hby d1_17) rfl rfl (l' := #[.val (.ref a), .val (.ref b), .val (.ref c2)]) rfl ?_
    show Steps p.tables e below (T1.setTop (mkF m 18 #[.val (.ref a), .val (.ref b), .val (.ref c2)] [])) _
    refine XS.goto X1.here hx rfl (pc0 := 18) (pc' := 2) rfl (hb hby d1_18) (by decide) (by decide) ?_
    show Steps p.tables e below (T1.setTop (mkF m 2 #[.val (.ref a), .val (.ref b), .val (.ref c2)] [])) _
    refine XS.aloadN X1.here hx rfl (hb hby d1_2) rfl rfl ?_
    show Steps p.tables e below (T1.setTop (mkF m 3 #[.val (.ref a), .val (.ref b), .val (.ref c2)] [(.ref c2)])) _
    refine XS.ifnullNo X1.here hx rfl (hb hby d1_3) rfl ?_
    show Steps p.tables e below (T1.setTop (mkF m 6 #[.val (.ref a), .val (.ref b), .val (.ref c2)] [])) _
    refine XS.aloadN X1.here hx rfl (hb hby d1_6) rfl rfl ?_
    show Steps p.tables e below (T1.setTop (mkF m 7 #[.val (.ref a), .val (.ref b), .val (.ref c2)] [(.ref c2)])) _
    refine XS.aloadN X1.here hx rfl (hb hby d1_7) rfl rfl ?_
    show Steps p.tables e below (T1.setTop (mkF m 8 #[.val (.ref a), .val (.ref b), .val (.ref c2)] [(.ref a), (.ref c2)])) _
    refine Jvm.RoadKit.acmp (g := (mkF m 8 #[.val (.ref a), .val (.ref b), .val (.ref c2)] [(.ref a), (.ref c2)])) X1 hx rfl rfl rfl (pc0 := 8) (pc' := 11) (same := true) rfl (hb hby d1_8) rfl (decide_eq_true (congrArg Value.ref ha8_2)) (by decide) (by decide) ?_
    show Steps p.tables e below (T1.setTop (mkF m 11 #[.val (.ref a), .val (.ref b), .val (.ref c2)] [])) _
    refine XS.iconst X1.here hx rfl (hb hby d1_11) ?_
    show Steps p.tables e below (T1.setTop (mkF m 12 #[.val (.ref a), .val (.ref b), .val (.ref c2)] [(.int (1 : Int32))])) _
    exact retN X1 hx (t := .boolean) Bd.returns (by simp) (hb hby d1_12) hr
  · show Q_inc2T Z a b c2 h0 n0 _ T1.heap _
    rw [e1]
    exact ⟨rfl, N0, rfl⟩
def Q_inc2F (Z : State) (a : Addr) (b : Addr) (c2 : Addr) (h0 : Heap) (n0 : Nat) (v : Option Value) (h : Heap) (L : List Loc) : Prop := v = some (.int (0 : Int32)) ∧ Fr n0 L ∧ h = h0
theorem ef_inc2F (m : MethodId) (a : Addr) (b : Addr) : entryFrame m #[(.ref a), (.ref b)] 3 = mkF m 0 #[.val (.ref a), .val (.ref b), .unset] [] := by first | (simp [entryFrame, mkF, argsToLocals, Value.category]; done) | rfl
set_option maxRecDepth 65536 in
set_option maxHeartbeats 40000000 in
theorem rm_inc2F (l : Launch) (Z : State) (a0 : Array Value) (hw : ∀ d ∈ tables_1, d.before a0 Z = true) (ws : List Jvm.Cond) (a : Addr) (b : Addr) (c2 : Addr) (h0 : Heap) (n0 : Nat) (Z0 : n0 ≤ h0.size) (F__parent_b : Fld Z h0 b "com/example/gridloom/gridloom/mapping/ItemType" "_parent" "Lcom/example/gridloom/gridloom/mapping/ItemType;" (.ref c2)) (F__parent_c2 : Fld Z h0 c2 "com/example/gridloom/gridloom/mapping/ItemType" "_parent" "Lcom/example/gridloom/gridloom/mapping/ItemType;" .null) (ha8 : ¬ (b = a)) (ha8_2 : ¬ (c2 = a)) :
    MetFree l (⟨"com/example/gridloom/gridloom/mapping/ItemType", "includes", "(Lcom/example/gridloom/gridloom/mapping/ItemType;)Z"⟩ : MethodName) (head1 (Jvm.Cond.code (⟨"com/example/gridloom/gridloom/mapping/ItemType", "includes", "(Lcom/example/gridloom/gridloom/mapping/ItemType;)Z"⟩ : MethodName) prog_81_method_6_code 3 (some .boolean) :: ws) ({ frames := 0, cells := 0, slots := 0, locals := 0 } : Room)) (fun a_ U => a_ = #[(.ref a), (.ref b)] ∧ Z.Warmed39 U.vm ∧ U.heap = h0) (fun _ _ _ _ _ => True) (fun _ U o U' => ∃ v L, o = .returned v ∧ Q_inc2F Z a b c2 h0 n0 v U'.heap L ∧ FrameEnd U o U' L ({ frames := 0, cells := 0, slots := 0, locals := 0 } : Room).cells ({ frames := 0, cells := 0, slots := 0, locals := 0 } : Room).slots) := by
  refine MetFree.of_bodySF (plainFor_of_name pn_1) hisR ?_
  intro p e s m args below meth c s₁ Bd hml0 hP hK
  obtain ⟨rfl, hZ, hh⟩ := hP
  have hx := Bd.exec
  have hby := Bd.bytes
  have hml : c.maxLocals = 3 := hml0
  have hown : s.vm.findClass "com/example/gridloom/gridloom/mapping/ItemType" = some m.cls := findClass_of_methodNamed Bd.named
  have hnm := (name_of_methodNamed Bd.named Bd.method).1
  have X0 : Stand p l e ({ frames := 0, cells := 0, slots := 0, locals := 0 } : Room) s m #[(.ref a), (.ref b)] below meth c s₁ [] 0 0 := Stand.of_body Bd
  have e0 : s₁.heap = h0 := by rw [← hh, Bd.state]; rfl
  have N0 := Fr.nil n0
  have pre0 : ∀ t, Steps p.tables e below (s₁.setTop (mkF m 0 #[.val (.ref a), .val (.ref b), .unset] [])) t → Steps p.tables e below (s₁.setTop (entryFrame m #[(.ref a), (.ref b)] 3)) t := fun t_ k_ => castTop (ef_inc2F m a b) k_
  obtain ⟨T1, X1, e1, st1⟩ := getF X0 hx hZ hown (host := "") (Or.inl (hw _ (List.mem_of_getElem? (i := 53) rfl))) Via.refl e0 F__parent_b (g := (mkF m 14 #[.val (.ref a), .val (.ref b), .val (.ref b)] [(.ref b)])) rfl rfl (hb hby d1_14)
  obtain ⟨T2, X2, e2, st2⟩ := getF X1 hx hZ hown (host := "") (Or.inl (hw _ (List.mem_of_getElem? (i := 53) rfl))) Via.refl e1 F__parent_c2 (g := (mkF m 14 #[.val (.ref a), .val (.ref b), .val (.ref c2)] [(.ref c2)])) rfl rfl (hb hby d1_14)
  obtain ⟨fs, hr, hrun, hended, hW, hsame⟩ := X2.leave (v := some (.int (0 : Int32))) (fun h => by rw [Bd.returns] at h; cases h)
  refine ⟨_, _, pre0 _ ?_, hrun, hended, _, _, rfl, ?_, ⟨_, rfl⟩, hW, hsame.mono (by decide) (by decide)⟩
  · show Steps p.tables e below (s₁.setTop (mkF m 0 #[.val (.ref a), .val (.ref b), .unset] [])) _
    refine XS.aloadN X0.here hx rfl (hb hby d1_0) rfl rfl ?_
    show Steps p.tables e below (s₁.setTop (mkF m 1 #[.val (.ref a), .val (.ref b), .unset] [(.ref b)])) _
    refine XS.astoreN X0.here hx rfl (hb hby d1_1) rfl rfl (l' := #[.val (.ref a), .val (.ref b), .val (.ref b)]) rfl ?_
    show Steps p.tables e below (s₁.setTop (mkF m 2 #[.val (.ref a), .val (.ref b), .val (.ref b)] [])) _
    refine XS.aloadN X0.here hx rfl (hb hby d1_2) rfl rfl ?_
    show Steps p.tables e below (s₁.setTop (mkF m 3 #[.val (.ref a), .val (.ref b), .val (.ref b)] [(.ref b)])) _
    refine XS.ifnullNo X0.here hx rfl (hb hby d1_3) rfl ?_
    show Steps p.tables e below (s₁.setTop (mkF m 6 #[.val (.ref a), .val (.ref b), .val (.ref b)] [])) _
    refine XS.aloadN X0.here hx rfl (hb hby d1_6) rfl rfl ?_
    show Steps p.tables e below (s₁.setTop (mkF m 7 #[.val (.ref a), .val (.ref b), .val (.ref b)] [(.ref b)])) _
    refine XS.aloadN X0.here hx rfl (hb hby d1_7) rfl rfl ?_
    show Steps p.tables e below (s₁.setTop (mkF m 8 #[.val (.ref a), .val (.ref b), .val (.ref b)] [(.ref a), (.ref b)])) _
    refine Jvm.RoadKit.acmp (g := (mkF m 8 #[.val (.ref a), .val (.ref b), .val (.ref b)] [(.ref a), (.ref b)])) X0 hx rfl rfl rfl (pc0 := 8) (pc' := 13) (same := false) rfl (hb hby d1_8) rfl (decide_eq_false fun q => ha8 (Value.ref.inj q)) (by decide) (by decide) ?_
    show Steps p.tables e below (s₁.setTop (mkF m 13 #[.val (.ref a), .val (.ref b), .val (.ref b)] [])) _
    refine XS.aloadN X0.here hx rfl (hb hby d1_13) rfl rfl ?_
    show Steps p.tables e below (s₁.setTop (mkF m 14 #[.val (.ref a), .val (.ref b), .val (.ref b)] [(.ref b)])) _
    refine st1 _ ?_
    show Steps p.tables e below (T1.setTop (mkF m 17 #[.val (.ref a), .val (.ref b), .val (.ref b)] [(.ref c2)])) _
    refine XS.astoreN X1.here hx rfl (hb hby d1_17) rfl rfl (l' := #[.val (.ref a), .val (.ref b), .val (.ref c2)]) rfl ?_
    show Steps p.tables e below (T1.setTop (mkF m 18 #[.val (.ref a), .val (.ref b), .val (.ref c2)] [])) _
    refine XS.goto X1.here hx rfl (pc0 := 18) (pc' := 2) rfl (hb hby d1_18) (by decide) (by decide) ?_
    show Steps p.tables e below (T1.setTop (mkF m 2 #[.val (.ref a), .val (.ref b), .val (.ref c2)] [])) _
    refine XS.aloadN X1.here hx rfl (hb hby d1_2) rfl rfl ?_
    show Steps p.tables e below (T1.setTop (mkF m 3 #[.val (.ref a), .val (.ref b), .val (.ref c2)] [(.ref c2)])) _
    refine XS.ifnullNo X1.here hx rfl (hb hby d1_3) rfl ?_
    show Steps p.tables e below (T1.setTop (mkF m 6 #[.val (.ref a), .val (.ref b), .val (.ref c2)] [])) _
    refine XS.aloadN X1.here hx rfl (hb hby d1_6) rfl rfl ?_
    show Steps p.tables e below (T1.setTop (mkF m 7 #[.val (.ref a), .val (.ref b), .val (.ref c2)] [(.ref c2)])) _
    refine XS.aloadN X1.here hx rfl (hb hby d1_7) rfl rfl ?_
    show Steps p.tables e below (T1.setTop (mkF m 8 #[.val (.ref a), .val (.ref b), .val (.ref c2)] [(.ref a), (.ref c2)])) _
    refine Jvm.RoadKit.acmp (g := (mkF m 8 #[.val (.ref a), .val (.ref b), .val (.ref c2)] [(.ref a), (.ref c2)])) X1 hx rfl rfl rfl (pc0 := 8) (pc' := 13) (same := false) rfl (hb hby d1_8) rfl (decide_eq_false fun q => ha8_2 (Value.ref.inj q)) (by decide) (by decide) ?_
    show Steps p.tables e below (T1.setTop (mkF m 13 #[.val (.ref a), .val (.ref b), .val (.ref c2)] [])) _
    refine XS.aloadN X1.here hx rfl (hb hby d1_13) rfl rfl ?_
    show Steps p.tables e below (T1.setTop (mkF m 14 #[.val (.ref a), .val (.ref b), .val (.ref c2)] [(.ref c2)])) _
    refine st2 _ ?_
    show Steps p.tables e below (T2.setTop (mkF m 17 #[.val (.ref a), .val (.ref b), .val (.ref c2)] [.null])) _
    refine XS.astoreN X2.here hx rfl (hb hby d1_17) rfl rfl (l' := #[.val (.ref a), .val (.ref b), .val .null]) rfl ?_
    show Steps p.tables e below (T2.setTop (mkF m 18 #[.val (.ref a), .val (.ref b), .val .null] [])) _
    refine XS.goto X2.here hx rfl (pc0 := 18) (pc' := 2) rfl (hb hby d1_18) (by decide) (by decide) ?_
    show Steps p.tables e below (T2.setTop (mkF m 2 #[.val (.ref a), .val (.ref b), .val .null] [])) _
    refine XS.aloadN X2.here hx rfl (hb hby d1_2) rfl rfl ?_
    show Steps p.tables e below (T2.setTop (mkF m 3 #[.val (.ref a), .val (.ref b), .val .null] [.null])) _
    refine XS.ifnullYes X2.here hx rfl (pc0 := 3) (pc' := 21) rfl (hb hby d1_3) rfl (by decide) (by decide) ?_
    show Steps p.tables e below (T2.setTop (mkF m 21 #[.val (.ref a), .val (.ref b), .val .null] [])) _
    refine XS.iconst X2.here hx rfl (hb hby d1_21) ?_
    show Steps p.tables e below (T2.setTop (mkF m 22 #[.val (.ref a), .val (.ref b), .val .null] [(.int (0 : Int32))])) _
    exact retN X2 hx (t := .boolean) Bd.returns (by simp) (hb hby d1_22) hr
  · show Q_inc2F Z a b c2 h0 n0 _ T2.heap _
    rw [e2]
    exact ⟨rfl, N0, rfl⟩
def Q_inc3T (Z : State) (a : Addr) (b : Addr) (c2 : Addr) (c3 : Addr) (h0 : Heap) (n0 : Nat) (v : Option Value) (h : Heap) (L : List Loc) : Prop := v = some (.int (1 : Int32)) ∧ Fr n0 L ∧ h = h0
theorem ef_inc3T (m : MethodId) (a : Addr) (b : Addr) : entryFrame m #[(.ref a), (.ref b)] 3 = mkF m 0 #[.val (.ref a), .val (.ref b), .unset] [] := by first | (simp [entryFrame, mkF, argsToLocals, Value.category]; done) | rfl
set_option maxRecDepth 65536 in
set_option maxHeartbeats 40000000 in
theorem rm_inc3T_0 (l : Launch) (Z : State) (a0 : Array Value) (hw : ∀ d ∈ tables_1, d.before a0 Z = true) (ws : List Jvm.Cond) (a : Addr) (b : Addr) (c2 : Addr) (c3 : Addr) (h0 : Heap) (n0 : Nat) (Z0 : n0 ≤ h0.size) (F__parent_b : Fld Z h0 b "com/example/gridloom/gridloom/mapping/ItemType" "_parent" "Lcom/example/gridloom/gridloom/mapping/ItemType;" (.ref c2)) (F__parent_c2 : Fld Z h0 c2 "com/example/gridloom/gridloom/mapping/ItemType" "_parent" "Lcom/example/gridloom/gridloom/mapping/ItemType;" (.ref c3)) (F__parent_c3 : Fld Z h0 c3 "com/example/gridloom/gridloom/mapping/ItemType" "_parent" "Lcom/example/gridloom/gridloom/mapping/ItemType;" .null) (ha8 : b = a) :
    MetFree l (⟨"com/example/gridloom/gridloom/mapping/ItemType", "includes", "(Lcom/example/gridloom/gridloom/mapping/ItemType;)Z"⟩ : MethodName) (head1 (Jvm.Cond.code (⟨"com/example/gridloom/gridloom/mapping/ItemType", "includes", "(Lcom/example/gridloom/gridloom/mapping/ItemType;)Z"⟩ : MethodName) prog_81_method_6_code 3 (some .boolean) :: ws) ({ frames := 0, cells := 0, slots := 0, locals := 0 } : Room)) (fun a_ U => a_ = #[(.ref a), (.ref b)] ∧ Z.Warmed39 U.vm ∧ U.heap = h0) (fun _ _ _ _ _ => True) (fun _ U o U' => ∃ v L, o = .returned v ∧ Q_inc3T Z a b c2 c3 h0 n0 v U'.heap L ∧ FrameEnd U o U' L ({ frames := 0, cells := 0, slots := 0, locals := 0 } : Room).cells ({ frames := 0, cells := 0, slots := 0, locals := 0 } : Room).slots) := by
  refine MetFree.of_bodySF (plainFor_of_name pn_1) hisR ?_
  intro p e s m args below meth c s₁ Bd hml0 hP hK
  obtain ⟨rfl, hZ, hh⟩ := hP
  have hx := Bd.exec
  have hby := Bd.bytes
  have hml : c.maxLocals = 3 := hml0
  have hown : s.vm.findClass "com/example/gridloom/gridloom/mapping/ItemType" = some m.cls := findClass_of_methodNamed Bd.named
  have hnm := (name_of_methodNamed Bd.named Bd.method).1
  have X0 : Stand p l e ({ frames := 0, cells := 0, slots := 0, locals := 0 } : Room) s m #[(.ref a), (.ref b)] below meth c s₁ [] 0 0 := Stand.of_body Bd
  have e0 : s₁.heap = h0 := by rw [← hh, Bd.state]; rfl
  have N0 := Fr.nil n0
  have pre0 : ∀ t, Steps p.tables e below (s₁.setTop (mkF m 0 #[.val (.ref a), .val (.ref b), .unset] [])) t → Steps p.tables e below (s₁.setTop (entryFrame m #[(.ref a), (.ref b)] 3)) t := fun t_ k_ => castTop (ef_inc3T m a b) k_
  obtain ⟨fs, hr, hrun, hended, hW, hsame⟩ := X0.leave (v := some (.int (1 : Int32))) (fun h => by rw [Bd.returns] at h; cases h)
  refine ⟨_, _, pre0 _ ?_, hrun, hended, _, _, rfl, ?_, ⟨_, rfl⟩, hW, hsame.mono (by decide) (by decide)⟩
  · show Steps p.tables e below (s₁.setTop (mkF m 0 #[.val (.ref a), .val (.ref b), .unset] [])) _
    refine XS.aloadN X0.here hx rfl (hb hby d1_0) rfl rfl ?_
    show Steps p.tables e below (s₁.setTop (mkF m 1 #[.val (.ref a), .val (.ref b), .unset] [(.ref b)])) _
    refine XS.astoreN X0.here hx rfl (hb hby d1_1) rfl rfl (l' := #[.val (.ref a), .val (.ref b), .val (.ref b)]) rfl ?_
    show Steps p.tables e below (s₁.setTop (mkF m 2 #[.val (.ref a), .val (.ref b), .val (.ref b)] [])) _
    refine XS.aloadN X0.here hx rfl (hb hby d1_2) rfl rfl ?_
    show Steps p.tables e below (s₁.setTop (mkF m 3 #[.val (.ref a), .val (.ref b), .val (.ref b)] [(.ref b)])) _
    refine XS.ifnullNo X0.here hx rfl (hb hby d1_3) rfl ?_
    show Steps p.tables e below (s₁.setTop (mkF m 6 #[.val (.ref a), .val (.ref b), .val (.ref b)] [])) _
    refine XS.aloadN X0.here hx rfl (hb hby d1_6) rfl rfl ?_
    show Steps p.tables e below (s₁.setTop (mkF m 7 #[.val (.ref a), .val (.ref b), .val (.ref b)] [(.ref b)])) _
    refine XS.aloadN X0.here hx rfl (hb hby d1_7) rfl rfl ?_
    show Steps p.tables e below (s₁.setTop (mkF m 8 #[.val (.ref a), .val (.ref b), .val (.ref b)] [(.ref a), (.ref b)])) _
    refine Jvm.RoadKit.acmp (g := (mkF m 8 #[.val (.ref a), .val (.ref b), .val (.ref b)] [(.ref a), (.ref b)])) X0 hx rfl rfl rfl (pc0 := 8) (pc' := 11) (same := true) rfl (hb hby d1_8) rfl (decide_eq_true (congrArg Value.ref ha8)) (by decide) (by decide) ?_
    show Steps p.tables e below (s₁.setTop (mkF m 11 #[.val (.ref a), .val (.ref b), .val (.ref b)] [])) _
    refine XS.iconst X0.here hx rfl (hb hby d1_11) ?_
    show Steps p.tables e below (s₁.setTop (mkF m 12 #[.val (.ref a), .val (.ref b), .val (.ref b)] [(.int (1 : Int32))])) _
    exact retN X0 hx (t := .boolean) Bd.returns (by simp) (hb hby d1_12) hr
  · show Q_inc3T Z a b c2 c3 h0 n0 _ s₁.heap _
    rw [e0]
    exact ⟨rfl, N0, rfl⟩
set_option maxRecDepth 65536 in
set_option maxHeartbeats 40000000 in
theorem rm_inc3T_1 (l : Launch) (Z : State) (a0 : Array Value) (hw : ∀ d ∈ tables_1, d.before a0 Z = true) (ws : List Jvm.Cond) (a : Addr) (b : Addr) (c2 : Addr) (c3 : Addr) (h0 : Heap) (n0 : Nat) (Z0 : n0 ≤ h0.size) (F__parent_b : Fld Z h0 b "com/example/gridloom/gridloom/mapping/ItemType" "_parent" "Lcom/example/gridloom/gridloom/mapping/ItemType;" (.ref c2)) (F__parent_c2 : Fld Z h0 c2 "com/example/gridloom/gridloom/mapping/ItemType" "_parent" "Lcom/example/gridloom/gridloom/mapping/ItemType;" (.ref c3)) (F__parent_c3 : Fld Z h0 c3 "com/example/gridloom/gridloom/mapping/ItemType" "_parent" "Lcom/example/gridloom/gridloom/mapping/ItemType;" .null) (ha8 : ¬ (b = a)) (ha8_2 : c2 = a) :
    MetFree l (⟨"com/example/gridloom/gridloom/mapping/ItemType", "includes", "(Lcom/example/gridloom/gridloom/mapping/ItemType;)Z"⟩ : MethodName) (head1 (Jvm.Cond.code (⟨"com/example/gridloom/gridloom/mapping/ItemType", "includes", "(Lcom/example/gridloom/gridloom/mapping/ItemType;)Z"⟩ : MethodName) prog_81_method_6_code 3 (some .boolean) :: ws) ({ frames := 0, cells := 0, slots := 0, locals := 0 } : Room)) (fun a_ U => a_ = #[(.ref a), (.ref b)] ∧ Z.Warmed39 U.vm ∧ U.heap = h0) (fun _ _ _ _ _ => True) (fun _ U o U' => ∃ v L, o = .returned v ∧ Q_inc3T Z a b c2 c3 h0 n0 v U'.heap L ∧ FrameEnd U o U' L ({ frames := 0, cells := 0, slots := 0, locals := 0 } : Room).cells ({ frames := 0, cells := 0, slots := 0, locals := 0 } : Room).slots) := by
  refine MetFree.of_bodySF (plainFor_of_name pn_1) hisR ?_
  intro p e s m args below meth c s₁ Bd hml0 hP hK
  obtain ⟨rfl, hZ, hh⟩ := hP
  have hx := Bd.exec
  have hby := Bd.bytes
  have hml : c.maxLocals = 3 := hml0
  have hown : s.vm.findClass "com/example/gridloom/gridloom/mapping/ItemType" = some m.cls := findClass_of_methodNamed Bd.named
  have hnm := (name_of_methodNamed Bd.named Bd.method).1
  have X0 : Stand p l e ({ frames := 0, cells := 0, slots := 0, locals := 0 } : Room) s m #[(.ref a), (.ref b)] below meth c s₁ [] 0 0 := Stand.of_body Bd
  have e0 : s₁.heap = h0 := by rw [← hh, Bd.state]; rfl
  have N0 := Fr.nil n0
  have pre0 : ∀ t, Steps p.tables e below (s₁.setTop (mkF m 0 #[.val (.ref a), .val (.ref b), .unset] [])) t → Steps p.tables e below (s₁.setTop (entryFrame m #[(.ref a), (.ref b)] 3)) t := fun t_ k_ => castTop (ef_inc3T m a b) k_
  obtain ⟨T1, X1, e1, st1⟩ := getF X0 hx hZ hown (host := "") (Or.inl (hw _ (List.mem_of_getElem? (i := 53) rfl))) Via.refl e0 F__parent_b (g := (mkF m 14 #[.val (.ref a), .val (.ref b), .val (.ref b)] [(.ref b)])) rfl rfl (hb hby d1_14)
  obtain ⟨fs, hr, hrun, hended, hW, hsame⟩ := X1.leave (v := some (.int (1 : Int32))) (fun h => by rw [Bd.returns] at h; cases h)
  refine ⟨_, _, pre0 _ ?_, hrun, hended, _, _, rfl, ?_, ⟨_, rfl⟩, hW, hsame.mono (by decide) (by decide)⟩
  · show Steps p.tables e below (s₁.setTop (mkF m 0 #[.val (.ref a), .val (.ref b), .unset] [])) _
    refine XS.aloadN X0.here hx rfl (hb hby d1_0) rfl rfl ?_
    show Steps p.tables e below (s₁.setTop (mkF m 1 #[.val (.ref a), .val (.ref b), .unset] [(.ref b)])) _
    refine XS.astoreN X0.here hx rfl (hb hby d1_1) rfl rfl (l' := #[.val (.ref a), .val (.ref b), .val (.ref b)]) rfl ?_
    show Steps p.tables e below (s₁.setTop (mkF m 2 #[.val (.ref a), .val (.ref b), .val (.ref b)] [])) _
    refine XS.aloadN X0.here hx rfl (hb hby d1_2) rfl rfl ?_
    show Steps p.tables e below (s₁.setTop (mkF m 3 #[.val (.ref a), .val (.ref b), .val (.ref b)] [(.ref b)])) _
    refine XS.ifnullNo X0.here hx rfl (hb hby d1_3) rfl ?_
    show Steps p.tables e below (s₁.setTop (mkF m 6 #[.val (.ref a), .val (.ref b), .val (.ref b)] [])) _
    refine XS.aloadN X0.here hx rfl (hb hby d1_6) rfl rfl ?_
    show Steps p.tables e below (s₁.setTop (mkF m 7 #[.val (.ref a), .val (.ref b), .val (.ref b)] [(.ref b)])) _
    refine XS.aloadN X0.here hx rfl (hb hby d1_7) rfl rfl ?_
    show Steps p.tables e below (s₁.setTop (mkF m 8 #[.val (.ref a), .val (.ref b), .val (.ref b)] [(.ref a), (.ref b)])) _
    refine Jvm.RoadKit.acmp (g := (mkF m 8 #[.val (.ref a), .val (.ref b), .val (.ref b)] [(.ref a), (.ref b)])) X0 hx rfl rfl rfl (pc0 := 8) (pc' := 13) (same := false) rfl (hb hby d1_8) rfl (decide_eq_false fun q => ha8 (Value.ref.inj q)) (by decide) (by decide) ?_
    show Steps p.tables e below (s₁.setTop (mkF m 13 #[.val (.ref a), .val (.ref b), .val (.ref b)] [])) _
    refine XS.aloadN X0.here hx rfl (hb hby d1_13) rfl rfl ?_
    show Steps p.tables e below (s₁.setTop (mkF m 14 #[.val (.ref a), .val (.ref b), .val (.ref b)] [(.ref b)])) _
    refine st1 _ ?_
    show Steps p.tables e below (T1.setTop (mkF m 17 #[.val (.ref a), .val (.ref b), .val (.ref b)] [(.ref c2)])) _
    refine XS.astoreN X1.here hx rfl (hb hby d1_17) rfl rfl (l' := #[.val (.ref a), .val (.ref b), .val (.ref c2)]) rfl ?_
    show Steps p.tables e below (T1.setTop (mkF m 18 #[.val (.ref a), .val (.ref b), .val (.ref c2)] [])) _
    refine XS.goto X1.here hx rfl (pc0 := 18) (pc' := 2) rfl (hb hby d1_18) (by decide) (by decide) ?_
    show Steps p.tables e below (T1.setTop (mkF m 2 #[.val (.ref a), .val (.ref b), .val (.ref c2)] [])) _
    refine XS.aloadN X1.here hx rfl (hb hby d1_2) rfl rfl ?_
    show Steps p.tables e below (T1.setTop (mkF m 3 #[.val (.ref a), .val (.ref b), .val (.ref c2)] [(.ref c2)])) _
    refine XS.ifnullNo X1.here hx rfl (hb hby d1_3) rfl ?_
    show Steps p.tables e below (T1.setTop (mkF m 6 #[.val (.ref a), .val (.ref b), .val (.ref c2)] [])) _
    refine XS.aloadN X1.here hx rfl (hb hby d1_6) rfl rfl ?_
    show Steps p.tables e below (T1.setTop (mkF m 7 #[.val (.ref a), .val (.ref b), .val (.ref c2)] [(.ref c2)])) _
    refine XS.aloadN X1.here hx rfl (hb hby d1_7) rfl rfl ?_
    show Steps p.tables e below (T1.setTop (mkF m 8 #[.val (.ref a), .val (.ref b), .val (.ref c2)] [(.ref a), (.ref c2)])) _
    refine Jvm.RoadKit.acmp (g := (mkF m 8 #[.val (.ref a), .val (.ref b), .val (.ref c2)] [(.ref a), (.ref c2)])) X1 hx rfl rfl rfl (pc0 := 8) (pc' := 11) (same := true) rfl (hb hby d1_8) rfl (decide_eq_true (congrArg Value.ref ha8_2)) (by decide) (by decide) ?_
    show Steps p.tables e below (T1.setTop (mkF m 11 #[.val (.ref a), .val (.ref b), .val (.ref c2)] [])) _
    refine XS.iconst X1.here hx rfl (hb hby d1_11) ?_
    show Steps p.tables e below (T1.setTop (mkF m 12 #[.val (.ref a), .val (.ref b), .val (.ref c2)] [(.int (1 : Int32))])) _
    exact retN X1 hx (t := .boolean) Bd.returns (by simp) (hb hby d1_12) hr
  · show Q_inc3T Z a b c2 c3 h0 n0 _ T1.heap _
    rw [e1]
    exact ⟨rfl, N0, rfl⟩
set_option maxRecDepth 65536 in
set_option maxHeartbeats 40000000 in
theorem rm_inc3T_2 (l : Launch) (Z : State) (a0 : Array Value) (hw : ∀ d ∈ tables_1, d.before a0 Z = true) (ws : List Jvm.Cond) (a : Addr) (b : Addr) (c2 : Addr) (c3 : Addr) (h0 : Heap) (n0 : Nat) (Z0 : n0 ≤ h0.size) (F__parent_b : Fld Z h0 b "com/example/gridloom/gridloom/mapping/ItemType" "_parent" "Lcom/example/gridloom/gridloom/mapping/ItemType;" (.ref c2)) (F__parent_c2 : Fld Z h0 c2 "com/example/gridloom/gridloom/mapping/ItemType" "_parent" "Lcom/example/gridloom/gridloom/mapping/ItemType;" (.ref c3)) (F__parent_c3 : Fld Z h0 c3 "com/example/gridloom/gridloom/mapping/ItemType" "_parent" "Lcom/example/gridloom/gridloom/mapping/ItemType;" .null) (ha8 : ¬ (b = a)) (ha8_2 : ¬ (c2 = a)) (ha8_3 : c3 = a) :
    MetFree l (⟨"com/example/gridloom/gridloom/mapping/ItemType", "includes", "(Lcom/example/gridloom/gridloom/mapping/ItemType;)Z"⟩ : MethodName) (head1 (Jvm.Cond.code (⟨"com/example/gridloom/gridloom/mapping/ItemType", "includes", "(Lcom/example/gridloom/gridloom/mapping/ItemType;)Z"⟩ : MethodName) prog_81_method_6_code 3 (some .boolean) :: ws) ({ frames := 0, cells := 0, slots := 0, locals := 0 } : Room)) (fun a_ U => a_ = #[(.ref a), (.ref b)] ∧ Z.Warmed39 U.vm ∧ U.heap = h0) (fun _ _ _ _ _ => True) (fun _ U o U' => ∃ v L, o = .returned v ∧ Q_inc3T Z a b c2 c3 h0 n0 v U'.heap L ∧ FrameEnd U o U' L ({ frames := 0, cells := 0, slots := 0, locals := 0 } : Room).cells ({ frames := 0, cells := 0, slots := 0, locals := 0 } : Room).slots) := by
  refine MetFree.of_bodySF (plainFor_of_name pn_1) hisR ?_
  intro p e s m args below meth c s₁ Bd hml0 hP hK
  obtain ⟨rfl, hZ, hh⟩ := hP
  have hx := Bd.exec
  have hby := Bd.bytes
  have hml : c.maxLocals = 3 := hml0
  have hown : s.vm.findClass "com/example/gridloom/gridloom/mapping/ItemType" = some m.cls := findClass_of_methodNamed Bd.named
  have hnm := (name_of_methodNamed Bd.named Bd.method).1
  have X0 : Stand p l e ({ frames := 0, cells := 0, slots := 0, locals := 0 } : Room) s m #[(.ref a), (.ref b)] below meth c s₁ [] 0 0 := Stand.of_body Bd
  have e0 : s₁.heap = h0 := by rw [← hh, Bd.state]; rfl
  have N0 := Fr.nil n0
  have pre0 : ∀ t, Steps p.tables e below (s₁.setTop (mkF m 0 #[.val (.ref a), .val (.ref b), .unset] [])) t → Steps p.tables e below (s₁.setTop (entryFrame m #[(.ref a), (.ref b)] 3)) t := fun t_ k_ => castTop (ef_inc3T m a b) k_
  obtain ⟨T1, X1, e1, st1⟩ := getF X0 hx hZ hown (host := "") (Or.inl (hw _ (List.mem_of_getElem? (i := 53) rfl))) Via.refl e0 F__parent_b (g := (mkF m 14 #[.val (.ref a), .val (.ref b), .val (.ref b)] [(.ref b)])) rfl rfl (hb hby d1_14)
  obtain ⟨T2, X2, e2, st2⟩ := getF X1 hx hZ hown (host := "") (Or.inl (hw _ (List.mem_of_getElem? (i := 53) rfl))) Via.refl e1 F__parent_c2 (g := (mkF m 14 #[.val (.ref a), .val (.ref b), .val (.ref c2)] [(.ref c2)])) rfl rfl (hb hby d1_14)
  obtain ⟨fs, hr, hrun, hended, hW, hsame⟩ := X2.leave (v := some (.int (1 : Int32))) (fun h => by rw [Bd.returns] at h; cases h)
  refine ⟨_, _, pre0 _ ?_, hrun, hended, _, _, rfl, ?_, ⟨_, rfl⟩, hW, hsame.mono (by decide) (by decide)⟩
  · show Steps p.tables e below (s₁.setTop (mkF m 0 #[.val (.ref a), .val (.ref b), .unset] [])) _
    refine XS.aloadN X0.here hx rfl (hb hby d1_0) rfl rfl ?_
    show Steps p.tables e below (s₁.setTop (mkF m 1 #[.val (.ref a), .val (.ref b), .unset] [(.ref b)])) _
    refine XS.astoreN X0.here hx rfl (hb hby d1_1) rfl rfl (l' := #[.val (.ref a), .val (.ref b), .val (.ref b)]) rfl ?_
    show Steps p.tables e below (s₁.setTop (mkF m 2 #[.val (.ref a), .val (.ref b), .val (.ref b)] [])) _
    refine XS.aloadN X0.here hx rfl (hb hby d1_2) rfl rfl ?_
    show Steps p.tables e below (s₁.setTop (mkF m 3 #[.val (.ref a), .val (.ref b), .val (.ref b)] [(.ref b)])) _
    refine XS.ifnullNo X0.here hx rfl (hb hby d1_3) rfl ?_
    show Steps p.tables e below (s₁.setTop (mkF m 6 #[.val (.ref a), .val (.ref b), .val (.ref b)] [])) _
    refine XS.aloadN X0.here hx rfl (hb hby d1_6) rfl rfl ?_
    show Steps p.tables e below (s₁.setTop (mkF m 7 #[.val (.ref a), .val (.ref b), .val (.ref b)] [(.ref b)])) _
    refine XS.aloadN X0.here hx rfl (hb hby d1_7) rfl rfl ?_
    show Steps p.tables e below (s₁.setTop (mkF m 8 #[.val (.ref a), .val (.ref b), .val (.ref b)] [(.ref a), (.ref b)])) _
    refine Jvm.RoadKit.acmp (g := (mkF m 8 #[.val (.ref a), .val (.ref b), .val (.ref b)] [(.ref a), (.ref b)])) X0 hx rfl rfl rfl (pc0 := 8) (pc' := 13) (same := false) rfl (hb hby d1_8) rfl (decide_eq_false fun q => ha8 (Value.ref.inj q)) (by decide) (by decide) ?_
    show Steps p.tables e below (s₁.setTop (mkF m 13 #[.val (.ref a), .val (.ref b), .val (.ref b)] [])) _
    refine XS.aloadN X0.here hx rfl (hb hby d1_13) rfl rfl ?_
    show Steps p.tables e below (s₁.setTop (mkF m 14 #[.val (.ref a), .val (.ref b), .val (.ref b)] [(.ref b)])) _
    refine st1 _ ?_
    show Steps p.tables e below (T1.setTop (mkF m 17 #[.val (.ref a), .val (.ref b), .val (.ref b)] [(.ref c2)])) _
    refine XS.astoreN X1.here hx rfl (hb hby d1_17) rfl rfl (l' := #[.val (.ref a), .val (.ref b), .val (.ref c2)]) rfl ?_
    show Steps p.tables e below (T1.setTop (mkF m 18 #[.val (.ref a), .val (.ref b), .val (.ref c2)] [])) _
    refine XS.goto X1.here hx rfl (pc0 := 18) (pc' := 2) rfl (hb hby d1_18) (by decide) (by decide) ?_
    show Steps p.tables e below (T1.setTop (mkF m 2 #[.val (.ref a), .val (.ref b), .val (.ref c2)] [])) _
    refine XS.aloadN X1.here hx rfl (hb hby d1_2) rfl rfl ?_
    show Steps p.tables e below (T1.setTop (mkF m 3 #[.val (.ref a), .val (.ref b), .val (.ref c2)] [(.ref c2)])) _
    refine XS.ifnullNo X1.here hx rfl (hb hby d1_3) rfl ?_
    show Steps p.tables e below (T1.setTop (mkF m 6 #[.val (.ref a), .val (.ref b), .val (.ref c2)] [])) _
    refine XS.aloadN X1.here hx rfl (hb hby d1_6) rfl rfl ?_
    show Steps p.tables e below (T1.setTop (mkF m 7 #[.val (.ref a), .val (.ref b), .val (.ref c2)] [(.ref c2)])) _
    refine XS.aloadN X1.here hx rfl (hb hby d1_7) rfl rfl ?_
    show Steps p.tables e below (T1.setTop (mkF m 8 #[.val (.ref a), .val (.ref b), .val (.ref c2)] [(.ref a), (.ref c2)])) _
    refine Jvm.RoadKit.acmp (g := (mkF m 8 #[.val (.ref a), .val (.ref b), .val (.ref c2)] [(.ref a), (.ref c2)])) X1 hx rfl rfl rfl (pc0 := 8) (pc' := 13) (same := false) rfl (hb hby d1_8) rfl (decide_eq_false fun q => ha8_2 (Value.ref.inj q)) (by decide) (by decide) ?_
    show Steps p.tables e below (T1.setTop (mkF m 13 #[.val (.ref a), .val (.ref b), .val (.ref c2)] [])) _
    refine XS.aloadN X1.here hx rfl (hb hby d1_13) rfl rfl ?_
    show Steps p.tables e below (T1.setTop (mkF m 14 #[.val (.ref a), .val (.ref b), .val (.ref c2)] [(.ref c2)])) _
    refine st2 _ ?_
    show Steps p.tables e below (T2.setTop (mkF m 17 #[.val (.ref a), .val (.ref b), .val (.ref c2)] [(.ref c3)])) _
    refine XS.astoreN X2.here hx rfl (hb hby d1_17) rfl rfl (l' := #[.val (.ref a), .val (.ref b), .val (.ref c3)]) rfl ?_
    show Steps p.tables e below (T2.setTop (mkF m 18 #[.val (.ref a), .val (.ref b), .val (.ref c3)] [])) _
    refine XS.goto X2.here hx rfl (pc0 := 18) (pc' := 2) rfl (hb hby d1_18) (by decide) (by decide) ?_
    show Steps p.tables e below (T2.setTop (mkF m 2 #[.val (.ref a), .val (.ref b), .val (.ref c3)] [])) _
    refine XS.aloadN X2.here hx rfl (hb hby d1_2) rfl rfl ?_
    show Steps p.tables e below (T2.setTop (mkF m 3 #[.val (.ref a), .val (.ref b), .val (.ref c3)] [(.ref c3)])) _
    refine XS.ifnullNo X2.here hx rfl (hb hby d1_3) rfl ?_
    show Steps p.tables e below (T2.setTop (mkF m 6 #[.val (.ref a), .val (.ref b), .val (.ref c3)] [])) _
    refine XS.aloadN X2.here hx rfl (hb hby d1_6) rfl rfl ?_
    show Steps p.tables e below (T2.setTop (mkF m 7 #[.val (.ref a), .val (.ref b), .val (.ref c3)] [(.ref c3)])) _
    refine XS.aloadN X2.here hx rfl (hb hby d1_7) rfl rfl ?_
    show Steps p.tables e below (T2.setTop (mkF m 8 #[.val (.ref a), .val (.ref b), .val (.ref c3)] [(.ref a), (.ref c3)])) _
    refine Jvm.RoadKit.acmp (g := (mkF m 8 #[.val (.ref a), .val (.ref b), .val (.ref c3)] [(.ref a), (.ref c3)])) X2 hx rfl rfl rfl (pc0 := 8) (pc' := 11) (same := true) rfl (hb hby d1_8) rfl (decide_eq_true (congrArg Value.ref ha8_3)) (by decide) (by decide) ?_
    show Steps p.tables e below (T2.setTop (mkF m 11 #[.val (.ref a), .val (.ref b), .val (.ref c3)] [])) _
    refine XS.iconst X2.here hx rfl (hb hby d1_11) ?_
    show Steps p.tables e below (T2.setTop (mkF m 12 #[.val (.ref a), .val (.ref b), .val (.ref c3)] [(.int (1 : Int32))])) _
    exact retN X2 hx (t := .boolean) Bd.returns (by simp) (hb hby d1_12) hr
  · show Q_inc3T Z a b c2 c3 h0 n0 _ T2.heap _
    rw [e2]
    exact ⟨rfl, N0, rfl⟩
def Q_inc3F (Z : State) (a : Addr) (b : Addr) (c2 : Addr) (c3 : Addr) (h0 : Heap) (n0 : Nat) (v : Option Value) (h : Heap) (L : List Loc) : Prop := v = some (.int (0 : Int32)) ∧ Fr n0 L ∧ h = h0
theorem ef_inc3F (m : MethodId) (a : Addr) (b : Addr) : entryFrame m #[(.ref a), (.ref b)] 3 = mkF m 0 #[.val (.ref a), .val (.ref b), .unset] [] := by first | (simp [entryFrame, mkF, argsToLocals, Value.category]; done) | rfl
set_option maxRecDepth 65536 in
set_option maxHeartbeats 40000000 in
theorem rm_inc3F (l : Launch) (Z : State) (a0 : Array Value) (hw : ∀ d ∈ tables_1, d.before a0 Z = true) (ws : List Jvm.Cond) (a : Addr) (b : Addr) (c2 : Addr) (c3 : Addr) (h0 : Heap) (n0 : Nat) (Z0 : n0 ≤ h0.size) (F__parent_b : Fld Z h0 b "com/example/gridloom/gridloom/mapping/ItemType" "_parent" "Lcom/example/gridloom/gridloom/mapping/ItemType;" (.ref c2)) (F__parent_c2 : Fld Z h0 c2 "com/example/gridloom/gridloom/mapping/ItemType" "_parent" "Lcom/example/gridloom/gridloom/mapping/ItemType;" (.ref c3)) (F__parent_c3 : Fld Z h0 c3 "com/example/gridloom/gridloom/mapping/ItemType" "_parent" "Lcom/example/gridloom/gridloom/mapping/ItemType;" .null) (ha8 : ¬ (b = a)) (ha8_2 : ¬ (c2 = a)) (ha8_3 : ¬ (c3 = a)) :
    MetFree l (⟨"com/example/gridloom/gridloom/mapping/ItemType", "includes", "(Lcom/example/gridloom/gridloom/mapping/ItemType;)Z"⟩ : MethodName) (head1 (Jvm.Cond.code (⟨"com/example/gridloom/gridloom/mapping/ItemType", "includes", "(Lcom/example/gridloom/gridloom/mapping/ItemType;)Z"⟩ : MethodName) prog_81_method_6_code 3 (some .boolean) :: ws) ({ frames := 0, cells := 0, slots := 0, locals := 0 } : Room)) (fun a_ U => a_ = #[(.ref a), (.ref b)] ∧ Z.Warmed39 U.vm ∧ U.heap = h0) (fun _ _ _ _ _ => True) (fun _ U o U' => ∃ v L, o = .returned v ∧ Q_inc3F Z a b c2 c3 h0 n0 v U'.heap L ∧ FrameEnd U o U' L ({ frames := 0, cells := 0, slots := 0, locals := 0 } : Room).cells ({ frames := 0, cells := 0, slots := 0, locals := 0 } : Room).slots) := by
  refine MetFree.of_bodySF (plainFor_of_name pn_1) hisR ?_
  intro p e s m args below meth c s₁ Bd hml0 hP hK
  obtain ⟨rfl, hZ, hh⟩ := hP
  have hx := Bd.exec
  have hby := Bd.bytes
  have hml : c.maxLocals = 3 := hml0
  have hown : s.vm.findClass "com/example/gridloom/gridloom/mapping/ItemType" = some m.cls := findClass_of_methodNamed Bd.named
  have hnm := (name_of_methodNamed Bd.named Bd.method).1
  have X0 : Stand p l e ({ frames := 0, cells := 0, slots := 0, locals := 0 } : Room) s m #[(.ref a), (.ref b)] below meth c s₁ [] 0 0 := Stand.of_body Bd
  have e0 : s₁.heap = h0 := by rw [← hh, Bd.state]; rfl
  have N0 := Fr.nil n0
  have pre0 : ∀ t, Steps p.tables e below (s₁.setTop (mkF m 0 #[.val (.ref a), .val (.ref b), .unset] [])) t → Steps p.tables e below (s₁.setTop (entryFrame m #[(.ref a), (.ref b)] 3)) t := fun t_ k_ => castTop (ef_inc3F m a b) k_
  obtain ⟨T1, X1, e1, st1⟩ := getF X0 hx hZ hown (host := "") (Or.inl (hw _ (List.mem_of_getElem? (i := 53) rfl))) Via.refl e0 F__parent_b (g := (mkF m 14 #[.val (.ref a), .val (.ref b), .val (.ref b)] [(.ref b)])) rfl rfl (hb hby d1_14)
  obtain ⟨T2, X2, e2, st2⟩ := getF X1 hx hZ hown (host := "") (Or.inl (hw _ (List.mem_of_getElem? (i := 53) rfl))) Via.refl e1 F__parent_c2 (g := (mkF m 14 #[.val (.ref a), .val (.ref b), .val (.ref c2)] [(.ref c2)])) rfl rfl (hb hby d1_14)
  obtain ⟨T3, X3, e3, st3⟩ := getF X2 hx hZ hown (host := "") (Or.inl (hw _ (List.mem_of_getElem? (i := 53) rfl))) Via.refl e2 F__parent_c3 (g := (mkF m 14 #[.val (.ref a), .val (.ref b), .val (.ref c3)] [(.ref c3)])) rfl rfl (hb hby d1_14)
  obtain ⟨fs, hr, hrun, hended, hW, hsame⟩ := X3.leave (v := some (.int (0 : Int32))) (fun h => by rw [Bd.returns] at h; cases h)
  refine ⟨_, _, pre0 _ ?_, hrun, hended, _, _, rfl, ?_, ⟨_, rfl⟩, hW, hsame.mono (by decide) (by decide)⟩
  · show Steps p.tables e below (s₁.setTop (mkF m 0 #[.val (.ref a), .val (.ref b), .unset] [])) _
    refine XS.aloadN X0.here hx rfl (hb hby d1_0) rfl rfl ?_
    show Steps p.tables e below (s₁.setTop (mkF m 1 #[.val (.ref a), .val (.ref b), .unset] [(.ref b)])) _
    refine XS.astoreN X0.here hx rfl (hb hby d1_1) rfl rfl (l' := #[.val (.ref a), .val (.ref b), .val (.ref b)]) rfl ?_
    show Steps p.tables e below (s₁.setTop (mkF m 2 #[.val (.ref a), .val (.ref b), .val (.ref b)] [])) _
    refine XS.aloadN X0.here hx rfl (hb hby d1_2) rfl rfl ?_
    show Steps p.tables e below (s₁.setTop (mkF m 3 #[.val (.ref a), .val (.ref b), .val (.ref b)] [(.ref b)])) _
    refine XS.ifnullNo X0.here hx rfl (hb hby d1_3) rfl ?_
    show Steps p.tables e below (s₁.setTop (mkF m 6 #[.val (.ref a), .val (.ref b), .val (.ref b)] [])) _
    refine XS.aloadN X0.here hx rfl (hb hby d1_6) rfl rfl ?_
    show Steps p.tables e below (s₁.setTop (mkF m 7 #[.val (.ref a), .val (.ref b), .val (.ref b)] [(.ref b)])) _
    refine XS.aloadN X0.here hx rfl (hb hby d1_7) rfl rfl ?_
    show Steps p.tables e below (s₁.setTop (mkF m 8 #[.val (.ref a), .val (.ref b), .val (.ref b)] [(.ref a), (.ref b)])) _
    refine Jvm.RoadKit.acmp (g := (mkF m 8 #[.val (.ref a), .val (.ref b), .val (.ref b)] [(.ref a), (.ref b)])) X0 hx rfl rfl rfl (pc0 := 8) (pc' := 13) (same := false) rfl (hb hby d1_8) rfl (decide_eq_false fun q => ha8 (Value.ref.inj q)) (by decide) (by decide) ?_
    show Steps p.tables e below (s₁.setTop (mkF m 13 #[.val (.ref a), .val (.ref b), .val (.ref b)] [])) _
    refine XS.aloadN X0.here hx rfl (hb hby d1_13) rfl rfl ?_
    show Steps p.tables e below (s₁.setTop (mkF m 14 #[.val (.ref a), .val (.ref b), .val (.ref b)] [(.ref b)])) _
    refine st1 _ ?_
    show Steps p.tables e below (T1.setTop (mkF m 17 #[.val (.ref a), .val (.ref b), .val (.ref b)] [(.ref c2)])) _
    refine XS.astoreN X1.here hx rfl (hb hby d1_17) rfl rfl (l' := #[.val (.ref a), .val (.ref b), .val (.ref c2)]) rfl ?_
    show Steps p.tables e below (T1.setTop (mkF m 18 #[.val (.ref a), .val (.ref b), .val (.ref c2)] [])) _
    refine XS.goto X1.here hx rfl (pc0 := 18) (pc' := 2) rfl (hb hby d1_18) (by decide) (by decide) ?_
    show Steps p.tables e below (T1.setTop (mkF m 2 #[.val (.ref a), .val (.ref b), .val (.ref c2)] [])) _
    refine XS.aloadN X1.here hx rfl (hb hby d1_2) rfl rfl ?_
    show Steps p.tables e below (T1.setTop (mkF m 3 #[.val (.ref a), .val (.ref b), .val (.ref c2)] [(.ref c2)])) _
    refine XS.ifnullNo X1.here hx rfl (hb hby d1_3) rfl ?_
    show Steps p.tables e below (T1.setTop (mkF m 6 #[.val (.ref a), .val (.ref b), .val (.ref c2)] [])) _
    refine XS.aloadN X1.here hx rfl (hb hby d1_6) rfl rfl ?_
    show Steps p.tables e below (T1.setTop (mkF m 7 #[.val (.ref a), .val (.ref b), .val (.ref c2)] [(.ref c2)])) _
    refine XS.aloadN X1.here hx rfl (hb hby d1_7) rfl rfl ?_
    show Steps p.tables e below (T1.setTop (mkF m 8 #[.val (.ref a), .val (.ref b), .val (.ref c2)] [(.ref a), (.ref c2)])) _
    refine Jvm.RoadKit.acmp (g := (mkF m 8 #[.val (.ref a), .val (.ref b), .val (.ref c2)] [(.ref a), (.ref c2)])) X1 hx rfl rfl rfl (pc0 := 8) (pc' := 13) (same := false) rfl (hb hby d1_8) rfl (decide_eq_false fun q => ha8_2 (Value.ref.inj q)) (by decide) (by decide) ?_
    show Steps p.tables e below (T1.setTop (mkF m 13 #[.val (.ref a), .val (.ref b), .val (.ref c2)] [])) _
    refine XS.aloadN X1.here hx rfl (hb hby d1_13) rfl rfl ?_
    show Steps p.tables e below (T1.setTop (mkF m 14 #[.val (.ref a), .val (.ref b), .val (.ref c2)] [(.ref c2)])) _
    refine st2 _ ?_
    show Steps p.tables e below (T2.setTop (mkF m 17 #[.val (.ref a), .val (.ref b), .val (.ref c2)] [(.ref c3)])) _
    refine XS.astoreN X2.here hx rfl (hb hby d1_17) rfl rfl (l' := #[.val (.ref a), .val (.ref b), .val (.ref c3)]) rfl ?_
    show Steps p.tables e below (T2.setTop (mkF m 18 #[.val (.ref a), .val (.ref b), .val (.ref c3)] [])) _
    refine XS.goto X2.here hx rfl (pc0 := 18) (pc' := 2) rfl (hb hby d1_18) (by decide) (by decide) ?_
    show Steps p.tables e below (T2.setTop (mkF m 2 #[.val (.ref a), .val (.ref b), .val (.ref c3)] [])) _
    refine XS.aloadN X2.here hx rfl (hb hby d1_2) rfl rfl ?_
    show Steps p.tables e below (T2.setTop (mkF m 3 #[.val (.ref a), .val (.ref b), .val (.ref c3)] [(.ref c3)])) _
    refine XS.ifnullNo X2.here hx rfl (hb hby d1_3) rfl ?_
    show Steps p.tables e below (T2.setTop (mkF m 6 #[.val (.ref a), .val (.ref b), .val (.ref c3)] [])) _
    refine XS.aloadN X2.here hx rfl (hb hby d1_6) rfl rfl ?_
    show Steps p.tables e below (T2.setTop (mkF m 7 #[.val (.ref a), .val (.ref b), .val (.ref c3)] [(.ref c3)])) _
    refine XS.aloadN X2.here hx rfl (hb hby d1_7) rfl rfl ?_
    show Steps p.tables e below (T2.setTop (mkF m 8 #[.val (.ref a), .val (.ref b), .val (.ref c3)] [(.ref a), (.ref c3)])) _
    refine Jvm.RoadKit.acmp (g := (mkF m 8 #[.val (.ref a), .val (.ref b), .val (.ref c3)] [(.ref a), (.ref c3)])) X2 hx rfl rfl rfl (pc0 := 8) (pc' := 13) (same := false) rfl (hb hby d1_8) rfl (decide_eq_false fun q => ha8_3 (Value.ref.inj q)) (by decide) (by decide) ?_
    show Steps p.tables e below (T2.setTop (mkF m 13 #[.val (.ref a), .val (.ref b), .val (.ref c3)] [])) _
    refine XS.aloadN X2.here hx rfl (hb hby d1_13) rfl rfl ?_
    show Steps p.tables e below (T2.setTop (mkF m 14 #[.val (.ref a), .val (.ref b), .val (.ref c3)] [(.ref c3)])) _
    refine st3 _ ?_
    show Steps p.tables e below (T3.setTop (mkF m 17 #[.val (.ref a), .val (.ref b), .val (.ref c3)] [.null])) _
    refine XS.astoreN X3.here hx rfl (hb hby d1_17) rfl rfl (l' := #[.val (.ref a), .val (.ref b), .val .null]) rfl ?_
    show Steps p.tables e below (T3.setTop (mkF m 18 #[.val (.ref a), .val (.ref b), .val .null] [])) _
    refine XS.goto X3.here hx rfl (pc0 := 18) (pc' := 2) rfl (hb hby d1_18) (by decide) (by decide) ?_
    show Steps p.tables e below (T3.setTop (mkF m 2 #[.val (.ref a), .val (.ref b), .val .null] [])) _
    refine XS.aloadN X3.here hx rfl (hb hby d1_2) rfl rfl ?_
    show Steps p.tables e below (T3.setTop (mkF m 3 #[.val (.ref a), .val (.ref b), .val .null] [.null])) _
    refine XS.ifnullYes X3.here hx rfl (pc0 := 3) (pc' := 21) rfl (hb hby d1_3) rfl (by decide) (by decide) ?_
    show Steps p.tables e below (T3.setTop (mkF m 21 #[.val (.ref a), .val (.ref b), .val .null] [])) _
    refine XS.iconst X3.here hx rfl (hb hby d1_21) ?_
    show Steps p.tables e below (T3.setTop (mkF m 22 #[.val (.ref a), .val (.ref b), .val .null] [(.int (0 : Int32))])) _
    exact retN X3 hx (t := .boolean) Bd.returns (by simp) (hb hby d1_22) hr
  · show Q_inc3F Z a b c2 c3 h0 n0 _ T3.heap _
    rw [e3]
    exact ⟨rfl, N0, rfl⟩
def Q_inc4T (Z : State) (a : Addr) (b : Addr) (c2 : Addr) (c3 : Addr) (c4 : Addr) (h0 : Heap) (n0 : Nat) (v : Option Value) (h : Heap) (L : List Loc) : Prop := v = some (.int (1 : Int32)) ∧ Fr n0 L ∧ h = h0
theorem ef_inc4T (m : MethodId) (a : Addr) (b : Addr) : entryFrame m #[(.ref a), (.ref b)] 3 = mkF m 0 #[.val (.ref a), .val (.ref b), .unset] [] := by first | (simp [entryFrame, mkF, argsToLocals, Value.category]; done) | rfl
set_option maxRecDepth 65536 in
set_option maxHeartbeats 40000000 in
theorem rm_inc4T_0 (l : Launch) (Z : State) (a0 : Array Value) (hw : ∀ d ∈ tables_1, d.before a0 Z = true) (ws : List Jvm.Cond) (a : Addr) (b : Addr) (c2 : Addr) (c3 : Addr) (c4 : Addr) (h0 : Heap) (n0 : Nat) (Z0 : n0 ≤ h0.size) (F__parent_b : Fld Z h0 b "com/example/gridloom/gridloom/mapping/ItemType" "_parent" "Lcom/example/gridloom/gridloom/mapping/ItemType;" (.ref c2)) (F__parent_c2 : Fld Z h0 c2 "com/example/gridloom/gridloom/mapping/ItemType" "_parent" "Lcom/example/gridloom/gridloom/mapping/ItemType;" (.ref c3)) (F__parent_c3 : Fld Z h0 c3 "com/example/gridloom/gridloom/mapping/ItemType" "_parent" "Lcom/example/gridloom/gridloom/mapping/ItemType;" (.ref c4)) (F__parent_c4 : Fld Z h0 c4 "com/example/gridloom/gridloom/mapping/ItemType" "_parent" "Lcom/example/gridloom/gridloom/mapping/ItemType;" .null) (ha8 : b = a) :
    MetFree l (⟨"com/example/gridloom/gridloom/mapping/ItemType", "includes", "(Lcom/example/gridloom/gridloom/mapping/ItemType;)Z"⟩ : MethodName) (head1 (Jvm.Cond.code (⟨"com/example/gridloom/gridloom/mapping/ItemType", "includes", "(Lcom/example/gridloom/gridloom/mapping/ItemType;)Z"⟩ : MethodName) prog_81_method_6_code 3 (some .boolean) :: ws) ({ frames := 0, cells := 0, slots := 0, locals := 0 } : Room)) (fun a_ U => a_ = #[(.ref a), (.ref b)] ∧ Z.Warmed39 U.vm ∧ U.heap = h0) (fun _ _ _ _ _ => True) (fun _ U o U' => ∃ v L, o = .returned v ∧ Q_inc4T Z a b c2 c3 c4 h0 n0 v U'.heap L ∧ FrameEnd U o U' L ({ frames := 0, cells := 0, slots := 0, locals := 0 } : Room).cells ({ frames := 0, cells := 0, slots := 0, locals := 0 } : Room).slots) := by
  refine MetFree.of_bodySF (plainFor_of_name pn_1) hisR ?_
  intro p e s m args below meth c s₁ Bd hml0 hP hK
  obtain ⟨rfl, hZ, hh⟩ := hP
  have hx := Bd.exec
  have hby := Bd.bytes
  have hml : c.maxLocals = 3 := hml0
  have hown : s.vm.findClass "com/example/gridloom/gridloom/mapping/ItemType" = some m.cls := findClass_of_methodNamed Bd.named
  have hnm := (name_of_methodNamed Bd.named Bd.method).1
  have X0 : Stand p l e ({ frames := 0, cells := 0, slots := 0, locals := 0 } : Room) s m #[(.ref a), (.ref b)] below meth c s₁ [] 0 0 := Stand.of_body Bd
  have e0 : s₁.heap = h0 := by rw [← hh, Bd.state]; rfl
  have N0 := Fr.nil n0
  have pre0 : ∀ t, Steps p.tables e below (s₁.setTop (mkF m 0 #[.val (.ref a), .val (.ref b), .unset] [])) t → Steps p.tables e below (s₁.setTop (entryFrame m #[(.ref a), (.ref b)] 3)) t := fun t_ k_ => castTop (ef_inc4T m a b) k_
  obtain ⟨fs, hr, hrun, hended, hW, hsame⟩ := X0.leave (v := some (.int (1 : Int32))) (fun h => by rw [Bd.returns] at h; cases h)
  refine ⟨_, _, pre0 _ ?_, hrun, hended, _, _, rfl, ?_, ⟨_, rfl⟩, hW, hsame.mono (by decide) (by decide)⟩
  · show Steps p.tables e below (s₁.setTop (mkF m 0 #[.val (.ref a), .val (.ref b), .unset] [])) _
    refine XS.aloadN X0.here hx rfl (hb hby d1_0) rfl rfl ?_
    show Steps p.tables e below (s₁.setTop (mkF m 1 #[.val (.ref a), .val (.ref b), .unset] [(.ref b)])) _
    refine XS.astoreN X0.here hx rfl (hb hby d1_1) rfl rfl (l' := #[.val (.ref a), .val (.ref b), .val (.ref b)]) rfl ?_
    show Steps p.tables e below (s₁.setTop (mkF m 2 #[.val (.ref a), .val (.ref b), .val (.ref b)] [])) _
    refine XS.aloadN X0.here hx rfl (hb hby d1_2) rfl rfl ?_
    show Steps p.tables e below (s₁.setTop (mkF m 3 #[.val (.ref a), .val (.ref b), .val (.ref b)] [(.ref b)])) _
    refine XS.ifnullNo X0.here hx rfl (hb hby d1_3) rfl ?_
    show Steps p.tables e below (s₁.setTop (mkF m 6 #[.val (.ref a), .val (.ref b), .val (.ref b)] [])) _
    refine XS.aloadN X0.here hx rfl (hb hby d1_6) rfl rfl ?_
    show Steps p.tables e below (s₁.setTop (mkF m 7 #[.val (.ref a), .val (.ref b), .val (.ref b)] [(.ref b)])) _
    refine XS.aloadN X0.here hx rfl (hb hby d1_7) rfl rfl ?_
    show Steps p.tables e below (s₁.setTop (mkF m 8 #[.val (.ref a), .val (.ref b), .val (.ref b)] [(.ref a), (.ref b)])) _
    refine Jvm.RoadKit.acmp (g := (mkF m 8 #[.val (.ref a), .val (.ref b), .val (.ref b)] [(.ref a), (.ref b)])) X0 hx rfl rfl rfl (pc0 := 8) (pc' := 11) (same := true) rfl (hb hby d1_8) rfl (decide_eq_true (congrArg Value.ref ha8)) (by decide) (by decide) ?_
    show Steps p.tables e below (s₁.setTop (mkF m 11 #[.val (.ref a), .val (.ref b), .val (.ref b)] [])) _
    refine XS.iconst X0.here hx rfl (hb hby d1_11) ?_
    show Steps p.tables e below (s₁.setTop (mkF m 12 #[.val (.ref a), .val (.ref b), .val (.ref b)] [(.int (1 : Int32))])) _
    exact retN X0 hx (t := .boolean) Bd.returns (by simp) (hb hby d1_12) hr
  · show Q_inc4T Z a b c2 c3 c4 h0 n0 _ s₁.heap _
    rw [e0]
    exact ⟨rfl, N0, rfl⟩
set_option maxRecDepth 65536 in
set_option maxHeartbeats 40000000 in
theorem rm_inc4T_1 (l : Launch) (Z : State) (a0 : Array Value) (hw : ∀ d ∈ tables_1, d.before a0 Z = true) (ws : List Jvm.Cond) (a : Addr) (b : Addr) (c2 : Addr) (c3 : Addr) (c4 : Addr) (h0 : Heap) (n0 : Nat) (Z0 : n0 ≤ h0.size) (F__parent_b : Fld Z h0 b "com/example/gridloom/gridloom/mapping/ItemType" "_parent" "Lcom/example/gridloom/gridloom/mapping/ItemType;" (.ref c2)) (F__parent_c2 : Fld Z h0 c2 "com/example/gridloom/gridloom/mapping/ItemType" "_parent" "Lcom/example/gridloom/gridloom/mapping/ItemType;" (.ref c3)) (F__parent_c3 : Fld Z h0 c3 "com/example/gridloom/gridloom/mapping/ItemType" "_parent" "Lcom/example/gridloom/gridloom/mapping/ItemType;" (.ref c4)) (F__parent_c4 : Fld Z h0 c4 "com/example/gridloom/gridloom/mapping/ItemType" "_parent" "Lcom/example/gridloom/gridloom/mapping/ItemType;" .null) (ha8 : ¬ (b = a)) (ha8_2 : c2 = a) :
    MetFree l (⟨"com/example/gridloom/gridloom/mapping/ItemType", "includes", "(Lcom/example/gridloom/gridloom/mapping/ItemType;)Z"⟩ : MethodName) (head1 (Jvm.Cond.code (⟨"com/example/gridloom/gridloom/mapping/ItemType", "includes", "(Lcom/example/gridloom/gridloom/mapping/ItemType;)Z"⟩ : MethodName) prog_81_method_6_code 3 (some .boolean) :: ws) ({ frames := 0, cells := 0, slots := 0, locals := 0 } : Room)) (fun a_ U => a_ = #[(.ref a), (.ref b)] ∧ Z.Warmed39 U.vm ∧ U.heap = h0) (fun _ _ _ _ _ => True) (fun _ U o U' => ∃ v L, o = .returned v ∧ Q_inc4T Z a b c2 c3 c4 h0 n0 v U'.heap L ∧ FrameEnd U o U' L ({ frames := 0, cells := 0, slots := 0, locals := 0 } : Room).cells ({ frames := 0, cells := 0, slots := 0, locals := 0 } : Room).slots) := by
  refine MetFree.of_bodySF (plainFor_of_name pn_1) hisR ?_
  intro p e s m args below meth c s₁ Bd hml0 hP hK
  obtain ⟨rfl, hZ, hh⟩ := hP
  have hx := Bd.exec
  have hby := Bd.bytes
  have hml : c.maxLocals = 3 := hml0
  have hown : s.vm.findClass "com/example/gridloom/gridloom/mapping/ItemType" = some m.cls := findClass_of_methodNamed Bd.named
  have hnm := (name_of_methodNamed Bd.named Bd.method).1
  have X0 : Stand p l e ({ frames := 0, cells := 0, slots := 0, locals := 0 } : Room) s m #[(.ref a), (.ref b)] below meth c s₁ [] 0 0 := Stand.of_body Bd
  have e0 : s₁.heap = h0 := by rw [← hh, Bd.state]; rfl
  have N0 := Fr.nil n0
  have pre0 : ∀ t, Steps p.tables e below (s₁.setTop (mkF m 0 #[.val (.ref a), .val (.ref b), .unset] [])) t → Steps p.tables e below (s₁.setTop (entryFrame m #[(.ref a), (.ref b)] 3)) t := fun t_ k_ => castTop (ef_inc4T m a b) k_
  obtain ⟨T1, X1, e1, st1⟩ := getF X0 hx hZ hown (host := "") (Or.inl (hw _ (List.mem_of_getElem? (i := 53) rfl))) Via.refl e0 F__parent_b (g := (mkF m 14 #[.val (.ref a), .val (.ref b), .val (.ref b)] [(.ref b)])) rfl rfl (hb hby d1_14)
  obtain ⟨fs, hr, hrun, hended, hW, hsame⟩ := X1.leave (v := some (.int (1 : Int32))) (fun h => by rw [Bd.returns] at h; cases h)
  refine ⟨_, _, pre0 _ ?_, hrun, hended, _, _, rfl, ?_, ⟨_, rfl⟩, hW, hsame.mono (by decide) (by decide)⟩
  · show Steps p.tables e below (s₁.setTop (mkF m 0 #[.val (.ref a), .val (.ref b), .unset] [])) _
    refine XS.aloadN X0.here hx rfl (hb hby d1_0) rfl rfl ?_
    show Steps p.tables e below (s₁.setTop (mkF m 1 #[.val (.ref a), .val (.ref b), .unset] [(.ref b)])) _
    refine XS.astoreN X0.here hx rfl (hb hby d1_1) rfl rfl (l' := #[.val (.ref a), .val (.ref b), .val (.ref b)]) rfl ?_
    show Steps p.tables e below (s₁.setTop (mkF m 2 #[.val (.ref a), .val (.ref b), .val (.ref b)] [])) _
    refine XS.aloadN X0.here hx rfl (hb hby d1_2) rfl rfl ?_
    show Steps p.tables e below (s₁.setTop (mkF m 3 #[.val (.ref a), .val (.ref b), .val (.ref b)] [(.ref b)])) _
    refine XS.ifnullNo X0.here hx rfl (hb hby d1_3) rfl ?_
    show Steps p.tables e below (s₁.setTop (mkF m 6 #[.val (.ref a), .val (.ref b), .val (.ref b)] [])) _
    refine XS.aloadN X0.here hx rfl (hb hby d1_6) rfl rfl ?_
    show Steps p.tables e below (s₁.setTop (mkF m 7 #[.val (.ref a), .val (.ref b), .val (.ref b)] [(.ref b)])) _
    refine XS.aloadN X0.here hx rfl (hb hby d1_7) rfl rfl ?_
    show Steps p.tables e below (s₁.setTop (mkF m 8 #[.val (.ref a), .val (.ref b), .val (.ref b)] [(.ref a), (.ref b)])) _
    refine Jvm.RoadKit.acmp (g := (mkF m 8 #[.val (.ref a), .val (.ref b), .val (.ref b)] [(.ref a), (.ref b)])) X0 hx rfl rfl rfl (pc0 := 8) (pc' := 13) (same := false) rfl (hb hby d1_8) rfl (decide_eq_false fun q => ha8 (Value.ref.inj q)) (by decide) (by decide) ?_
    show Steps p.tables e below (s₁.setTop (mkF m 13 #[.val (.ref a), .val (.ref b), .val (.ref b)] [])) _
    refine XS.aloadN X0.here hx rfl (hb hby d1_13) rfl rfl ?_
    show Steps p.tables e below (s₁.setTop (mkF m 14 #[.val (.ref a), .val (.ref b), .val (.ref b)] [(.ref b)])) _
    refine st1 _ ?_
    show Steps p.tables e below (T1.setTop (mkF m 17 #[.val (.ref a), .val (.ref b), .val (.ref b)] [(.ref c2)])) _
    refine XS.astoreN X1.here hx rfl (hb hby d1_17) rfl rfl (l' := #[.val (.ref a), .val (.ref b), .val (.ref c2)]) rfl ?_
    show Steps p.tables e below (T1.setTop (mkF m 18 #[.val (.ref a), .val (.ref b), .val (.ref c2)] [])) _
    refine XS.goto X1.here hx rfl (pc0 := 18) (pc' := 2) rfl (hb hby d1_18) (by decide) (by decide) ?_
    show Steps p.tables e below (T1.setTop (mkF m 2 #[.val (.ref a), .val (.ref b), .val (.ref c2)] [])) _
    refine XS.aloadN X1.here hx rfl (hb hby d1_2) rfl rfl ?_
    show Steps p.tables e below (T1.setTop (mkF m 3 #[.val (.ref a), .val (.ref b), .val (.ref c2)] [(.ref c2)])) _
    refine XS.ifnullNo X1.here hx rfl (hb hby d1_3) rfl ?_
    show Steps p.tables e below (T1.setTop (mkF m 6 #[.val (.ref a), .val (.ref b), .val (.ref c2)] [])) _
    refine XS.aloadN X1.here hx rfl (hb hby d1_6) rfl rfl ?_
    show Steps p.tables e below (T1.setTop (mkF m 7 #[.val (.ref a), .val (.ref b), .val (.ref c2)] [(.ref c2)])) _
    refine XS.aloadN X1.here hx rfl (hb hby d1_7) rfl rfl ?_
    show Steps p.tables e below (T1.setTop (mkF m 8 #[.val (.ref a), .val (.ref b), .val (.ref c2)] [(.ref a), (.ref c2)])) _
    refine Jvm.RoadKit.acmp (g := (mkF m 8 #[.val (.ref a), .val (.ref b), .val (.ref c2)] [(.ref a), (.ref c2)])) X1 hx rfl rfl rfl (pc0 := 8) (pc' := 11) (same := true) rfl (hb hby d1_8) rfl (decide_eq_true (congrArg Value.ref ha8_2)) (by decide) (by decide) ?_
    show Steps p.tables e below (T1.setTop (mkF m 11 #[.val (.ref a), .val (.ref b), .val (.ref c2)] [])) _
    refine XS.iconst X1.here hx rfl (hb hby d1_11) ?_
    show Steps p.tables e below (T1.setTop (mkF m 12 #[.val (.ref a), .val (.ref b), .val (.ref c2)] [(.int (1 : Int32))])) _
    exact retN X1 hx (t := .boolean) Bd.returns (by simp) (hb hby d1_12) hr
  · show Q_inc4T Z a b c2 c3 c4 h0 n0 _ T1.heap _
    rw [e1]
    exact ⟨rfl, N0, rfl⟩
set_option maxRecDepth 65536 in
set_option maxHeartbeats 40000000 in
theorem rm_inc4T_2 (l : Launch) (Z : State) (a0 : Array Value) (hw : ∀ d ∈ tables_1, d.before a0 Z = true) (ws : List Jvm.Cond) (a : Addr) (b : Addr) (c2 : Addr) (c3 : Addr) (c4 : Addr) (h0 : Heap) (n0 : Nat) (Z0 : n0 ≤ h0.size) (F__parent_b : Fld Z h0 b "com/example/gridloom/gridloom/mapping/ItemType" "_parent" "Lcom/example/gridloom/gridloom/mapping/ItemType;" (.ref c2)) (F__parent_c2 : Fld Z h0 c2 "com/example/gridloom/gridloom/mapping/ItemType" "_parent" "Lcom/example/gridloom/gridloom/mapping/ItemType;" (.ref c3)) (F__parent_c3 : Fld Z h0 c3 "com/example/gridloom/gridloom/mapping/ItemType" "_parent" "Lcom/example/gridloom/gridloom/mapping/ItemType;" (.ref c4)) (F__parent_c4 : Fld Z h0 c4 "com/example/gridloom/gridloom/mapping/ItemType" "_parent" "Lcom/example/gridloom/gridloom/mapping/ItemType;" .null) (ha8 : ¬ (b = a)) (ha8_2 : ¬ (c2 = a)) (ha8_3 : c3 = a) :
    MetFree l (⟨"com/example/gridloom/gridloom/mapping/ItemType", "includes", "(Lcom/example/gridloom/gridloom/mapping/ItemType;)Z"⟩ : MethodName) (head1 (Jvm.Cond.code (⟨"com/example/gridloom/gridloom/mapping/ItemType", "includes", "(Lcom/example/gridloom/gridloom/mapping/ItemType;)Z"⟩ : MethodName) prog_81_method_6_code 3 (some .boolean) :: ws) ({ frames := 0, cells := 0, slots := 0, locals := 0 } : Room)) (fun a_ U => a_ = #[(.ref a), (.ref b)] ∧ Z.Warmed39 U.vm ∧ U.heap = h0) (fun _ _ _ _ _ => True) (fun _ U o U' => ∃ v L, o = .returned v ∧ Q_inc4T Z a b c2 c3 c4 h0 n0 v U'.heap L ∧ FrameEnd U o U' L ({ frames := 0, cells := 0, slots := 0, locals := 0 } : Room).cells ({ frames := 0, cells := 0, slots := 0, locals := 0 } : Room).slots) := by
  refine MetFree.of_bodySF (plainFor_of_name pn_1) hisR ?_
  intro p e s m args below meth c s₁ Bd hml0 hP hK
  obtain ⟨rfl, hZ, hh⟩ := hP
  have hx := Bd.exec
  have hby := Bd.bytes
  have hml : c.maxLocals = 3 := hml0
  have hown : s.vm.findClass "com/example/gridloom/gridloom/mapping/ItemType" = some m.cls := findClass_of_methodNamed Bd.named
  have hnm := (name_of_methodNamed Bd.named Bd.method).1
  have X0 : Stand p l e ({ frames := 0, cells := 0, slots := 0, locals := 0 } : Room) s m #[(.ref a), (.ref b)] below meth c s₁ [] 0 0 := Stand.of_body Bd
  have e0 : s₁.heap = h0 := by rw [← hh, Bd.state]; rfl
  have N0 := Fr.nil n0
  have pre0 : ∀ t, Steps p.tables e below (s₁.setTop (mkF m 0 #[.val (.ref a), .val (.ref b), .unset] [])) t → Steps p.tables e below (s₁.setTop (entryFrame m #[(.ref a), (.ref b)] 3)) t := fun t_ k_ => castTop (ef_inc4T m a b) k_
  obtain ⟨T1, X1, e1, st1⟩ := getF X0 hx hZ hown (host := "") (Or.inl (hw _ (List.mem_of_getElem? (i := 53) rfl))) Via.refl e0 F__parent_b (g := (mkF m 14 #[.val (.ref a), .val (.ref b), .val (.ref b)] [(.ref b)])) rfl rfl (hb hby d1_14)
  obtain ⟨T2, X2, e2, st2⟩ := getF X1 hx hZ hown (host := "") (Or.inl (hw _ (List.mem_of_getElem? (i := 53) rfl))) Via.refl e1 F__parent_c2 (g := (mkF m 14 #[.val (.ref a), .val (.ref b), .val (.ref c2)] [(.ref c2)])) rfl rfl (hb hby d1_14)
  obtain ⟨fs, hr, hrun, hended, hW, hsame⟩ := X2.leave (v := some (.int (1 : Int32))) (fun h => by rw [Bd.returns] at h; cases h)
  refine ⟨_, _, pre0 _ ?_, hrun, hended, _, _, rfl, ?_, ⟨_, rfl⟩, hW, hsame.mono (by decide) (by decide)⟩
  · show Steps p.tables e below (s₁.setTop (mkF m 0 #[.val (.ref a), .val (.ref b), .unset] [])) _
    refine XS.aloadN X0.here hx rfl (hb hby d1_0) rfl rfl ?_
    show Steps p.tables e below (s₁.setTop (mkF m 1 #[.val (.ref a), .val (.ref b), .unset] [(.ref b)])) _
    refine XS.astoreN X0.here hx rfl (hb hby d1_1) rfl rfl (l' := #[.val (.ref a), .val (.ref b), .val (.ref b)]) rfl ?_
    show Steps p.tables e below (s₁.setTop (mkF m 2 #[.val (.ref a), .val (.ref b), .val (.ref b)] [])) _
    refine XS.aloadN X0.here hx rfl (hb hby d1_2) rfl rfl ?_
    show Steps p.tables e below (s₁.setTop (mkF m 3 #[.val (.ref a), .val (.ref b), .val (.ref b)] [(.ref b)])) _
    refine XS.ifnullNo X0.here hx rfl (hb hby d1_3) rfl ?_
    show Steps p.tables e below (s₁.setTop (mkF m 6 #[.val (.ref a), .val (.ref b), .val (.ref b)] [])) _
    refine XS.aloadN X0.here hx rfl (hb hby d1_6) rfl rfl ?_
    show Steps p.tables e below (s₁.setTop (mkF m 7 #[.val (.ref a), .val (.ref b), .val (.ref b)] [(.ref b)])) _
    refine XS.aloadN X0.here hx rfl (hb hby d1_7) rfl rfl ?_
    show Steps p.tables e below (s₁.setTop (mkF m 8 #[.val (.ref a), .val (.ref b), .val (.ref b)] [(.ref a), (.ref b)])) _
    refine Jvm.RoadKit.acmp (g := (mkF m 8 #[.val (.ref a), .val (.ref b), .val (.ref b)] [(.ref a), (.ref b)])) X0 hx rfl rfl rfl (pc0 := 8) (pc' := 13) (same := false) rfl (hb hby d1_8) rfl (decide_eq_false fun q => ha8 (Value.ref.inj q)) (by decide) (by decide) ?_
    show Steps p.tables e below (s₁.setTop (mkF m 13 #[.val (.ref a), .val (.ref b), .val (.ref b)] [])) _
    refine XS.aloadN X0.here hx rfl (hb hby d1_13) rfl rfl ?_
    show Steps p.tables e below (s₁.setTop (mkF m 14 #[.val (.ref a), .val (.ref b), .val (.ref b)] [(.ref b)])) _
    refine st1 _ ?_
    show Steps p.tables e below (T1.setTop (mkF m 17 #[.val (.ref a), .val (.ref b), .val (.ref b)] [(.ref c2)])) _
    refine XS.astoreN X1.here hx rfl (hb hby d1_17) rfl rfl (l' := #[.val (.ref a), .val (.ref b), .val (.ref c2)]) rfl ?_
    show Steps p.tables e below (T1.setTop (mkF m 18 #[.val (.ref a), .val (.ref b), .val (.ref c2)] [])) _
    refine XS.goto X1.here hx rfl (pc0 := 18) (pc' := 2) rfl (hb hby d1_18) (by decide) (by decide) ?_
    show Steps p.tables e below (T1.setTop (mkF m 2 #[.val (.ref a), .val (.ref b), .val (.ref c2)] [])) _
    refine XS.aloadN X1.here hx rfl (hb hby d1_2) rfl rfl ?_
    show Steps p.tables e below (T1.setTop (mkF m 3 #[.val (.ref a), .val (.ref b), .val (.ref c2)] [(.ref c2)])) _
    refine XS.ifnullNo X1.here hx rfl (hb hby d1_3) rfl ?_
    show Steps p.tables e below (T1.setTop (mkF m 6 #[.val (.ref a), .val (.ref b), .val (.ref c2)] [])) _
    refine XS.aloadN X1.here hx rfl (hb hby d1_6) rfl rfl ?_
    show Steps p.tables e below (T1.setTop (mkF m 7 #[.val (.ref a), .val (.ref b), .val (.ref c2)] [(.ref c2)])) _
    refine XS.aloadN X1.here hx rfl (hb hby d1_7) rfl rfl ?_
    show Steps p.tables e below (T1.setTop (mkF m 8 #[.val (.ref a), .val (.ref b), .val (.ref c2)] [(.ref a), (.ref c2)])) _
    refine Jvm.RoadKit.acmp (g := (mkF m 8 #[.val (.ref a), .val (.ref b), .val (.ref c2)] [(.ref a), (.ref c2)])) X1 hx rfl rfl rfl (pc0 := 8) (pc' := 13) (same := false) rfl (hb hby d1_8) rfl (decide_eq_false fun q => ha8_2 (Value.ref.inj q)) (by decide) (by decide) ?_
    show Steps p.tables e below (T1.setTop (mkF m 13 #[.val (.ref a), .val (.ref b), .val (.ref c2)] [])) _
    refine XS.aloadN X1.here hx rfl (hb hby d1_13) rfl rfl ?_
    show Steps p.tables e below (T1.setTop (mkF m 14 #[.val (.ref a), .val (.ref b), .val (.ref c2)] [(.ref c2)])) _
    refine st2 _ ?_
    show Steps p.tables e below (T2.setTop (mkF m 17 #[.val (.ref a), .val (.ref b), .val (.ref c2)] [(.ref c3)])) _
    refine XS.astoreN X2.here hx rfl (hb hby d1_17) rfl rfl (l' := #[.val (.ref a), .val (.ref b), .val (.ref c3)]) rfl ?_
    show Steps p.tables e below (T2.setTop (mkF m 18 #[.val (.ref a), .val (.ref b), .val (.ref c3)] [])) _
    refine XS.goto X2.here hx rfl (pc0 := 18) (pc' := 2) rfl (hb hby d1_18) (by decide) (by decide) ?_
    show Steps p.tables e below (T2.setTop (mkF m 2 #[.val (.ref a), .val (.ref b), .val (.ref c3)] [])) _
    refine XS.aloadN X2.here hx rfl (hb hby d1_2) rfl rfl ?_
    show Steps p.tables e below (T2.setTop (mkF m 3 #[.val (.ref a), .val (.ref b), .val (.ref c3)] [(.ref c3)])) _
    refine XS.ifnullNo X2.here hx rfl (hb hby d1_3) rfl ?_
    show Steps p.tables e below (T2.setTop (mkF m 6 #[.val (.ref a), .val (.ref b), .val (.ref c3)] [])) _
    refine XS.aloadN X2.here hx rfl (hb hby d1_6) rfl rfl ?_
    show Steps p.tables e below (T2.setTop (mkF m 7 #[.val (.ref a), .val (.ref b), .val (.ref c3)] [(.ref c3)])) _
    refine XS.aloadN X2.here hx rfl (hb hby d1_7) rfl rfl ?_
    show Steps p.tables e below (T2.setTop (mkF m 8 #[.val (.ref a), .val (.ref b), .val (.ref c3)] [(.ref a), (.ref c3)])) _
    refine Jvm.RoadKit.acmp (g := (mkF m 8 #[.val (.ref a), .val (.ref b), .val (.ref c3)] [(.ref a), (.ref c3)])) X2 hx rfl rfl rfl (pc0 := 8) (pc' := 11) (same := true) rfl (hb hby d1_8) rfl (decide_eq_true (congrArg Value.ref ha8_3)) (by decide) (by decide) ?_
    show Steps p.tables e below (T2.setTop (mkF m 11 #[.val (.ref a), .val (.ref b), .val (.ref c3)] [])) _
    refine XS.iconst X2.here hx rfl (hb hby d1_11) ?_
    show Steps p.tables e below (T2.setTop (mkF m 12 #[.val (.ref a), .val (.ref b), .val (.ref c3)] [(.int (1 : Int32))])) _
    exact retN X2 hx (t := .boolean) Bd.returns (by simp) (hb hby d1_12) hr
  · show Q_inc4T Z a b c2 c3 c4 h0 n0 _ T2.heap _
    rw [e2]
    exact ⟨rfl, N0, rfl⟩
set_option maxRecDepth 65536 in
set_option maxHeartbeats 40000000 in
theorem rm_inc4T_3 (l : Launch) (Z : State) (a0 : Array Value) (hw : ∀ d ∈ tables_1, d.before a0 Z = true) (ws : List Jvm.Cond) (a : Addr) (b : Addr) (c2 : Addr) (c3 : Addr) (c4 : Addr) (h0 : Heap) (n0 : Nat) (Z0 : n0 ≤ h0.size) (F__parent_b : Fld Z h0 b "com/example/gridloom/gridloom/mapping/ItemType" "_parent" "Lcom/example/gridloom/gridloom/mapping/ItemType;" (.ref c2)) (F__parent_c2 : Fld Z h0 c2 "com/example/gridloom/gridloom/mapping/ItemType" "_parent" "Lcom/example/gridloom/gridloom/mapping/ItemType;" (.ref c3)) (F__parent_c3 : Fld Z h0 c3 "com/example/gridloom/gridloom/mapping/ItemType" "_parent" "Lcom/example/gridloom/gridloom/mapping/ItemType;" (.ref c4)) (F__parent_c4 : Fld Z h0 c4 "com/example/gridloom/gridloom/mapping/ItemType" "_parent" "Lcom/example/gridloom/gridloom/mapping/ItemType;" .null) (ha8 : ¬ (b = a)) (ha8_2 : ¬ (c2 = a)) (ha8_3 : ¬ (c3 = a)) (ha8_4 : c4 = a) :
    MetFree l (⟨"com/example/gridloom/gridloom/mapping/ItemType", "includes", "(Lcom/example/gridloom/gridloom/mapping/ItemType;)Z"⟩ : MethodName) (head1 (Jvm.Cond.code (⟨"com/example/gridloom/gridloom/mapping/ItemType", "includes", "(Lcom/example/gridloom/gridloom/mapping/ItemType;)Z"⟩ : MethodName) prog_81_method_6_code 3 (some .boolean) :: ws) ({ frames := 0, cells := 0, slots := 0, locals := 0 } : Room)) (fun a_ U => a_ = #[(.ref a), (.ref b)] ∧ Z.Warmed39 U.vm ∧ U.heap = h0) (fun _ _ _ _ _ => True) (fun _ U o U' => ∃ v L, o = .returned v ∧ Q_inc4T Z a b c2 c3 c4 h0 n0 v U'.heap L ∧ FrameEnd U o U' L ({ frames := 0, cells := 0, slots := 0, locals := 0 } : Room).cells ({ frames := 0, cells := 0, slots := 0, locals := 0 } : Room).slots) := by
  refine MetFree.of_bodySF (plainFor_of_name pn_1) hisR ?_
  intro p e s m args below meth c s₁ Bd hml0 hP hK
  obtain ⟨rfl, hZ, hh⟩ := hP
  have hx := Bd.exec
  have hby := Bd.bytes
  have hml : c.maxLocals = 3 := hml0
  have hown : s.vm.findClass "com/example/gridloom/gridloom/mapping/ItemType" = some m.cls := findClass_of_methodNamed Bd.named
  have hnm := (name_of_methodNamed Bd.named Bd.method).1
  have X0 : Stand p l e ({ frames := 0, cells := 0, slots := 0, locals := 0 } : Room) s m #[(.ref a), (.ref b)] below meth c s₁ [] 0 0 := Stand.of_body Bd
  have e0 : s₁.heap = h0 := by rw [← hh, Bd.state]; rfl
  have N0 := Fr.nil n0
  have pre0 : ∀ t, Steps p.tables e below (s₁.setTop (mkF m 0 #[.val (.ref a), .val (.ref b), .unset] [])) t → Steps p.tables e below (s₁.setTop (entryFrame m #[(.ref a), (.ref b)] 3)) t := fun t_ k_ => castTop (ef_inc4T m a b) k_
  obtain ⟨T1, X1, e1, st1⟩ := getF X0 hx hZ hown (host := "") (Or.inl (hw _ (List.mem_of_getElem? (i := 53) rfl))) Via.refl e0 F__parent_b (g := (mkF m 14 #[.val (.ref a), .val (.ref b), .val (.ref b)] [(.ref b)])) rfl rfl (hb hby d1_14)
  obtain ⟨T2, X2, e2, st2⟩ := getF X1 hx hZ hown (host := "") (Or.inl (hw _ (List.mem_of_getElem? (i := 53) rfl))) Via.refl e1 F__parent_c2 (g := (mkF m 14 #[.val (.ref a), .val (.ref b), .val (.ref c2)] [(.ref c2)])) rfl rfl (hb hby d1_14)
  obtain ⟨T3, X3, e3, st3⟩ := getF X2 hx hZ hown (host := "") (Or.inl (hw _ (List.mem_of_getElem? (i := 53) rfl))) Via.refl e2 F__parent_c3 (g := (mkF m 14 #[.val (.ref a), .val (.ref b), .val (.ref c3)] [(.ref c3)])) rfl rfl (hb hby d1_14)
  obtain ⟨fs, hr, hrun, hended, hW, hsame⟩ := X3.leave (v := some (.int (1 : Int32))) (fun h => by rw [Bd.returns] at h; cases h)
  refine ⟨_, _, pre0 _ ?_, hrun, hended, _, _, rfl, ?_, ⟨_, rfl⟩, hW, hsame.mono (by decide) (by decide)⟩
  · show Steps p.tables e below (s₁.setTop (mkF m 0 #[.val (.ref a), .val (.ref b), .unset] [])) _
    refine XS.aloadN X0.here hx rfl (hb hby d1_0) rfl rfl ?_
    show Steps p.tables e below (s₁.setTop (mkF m 1 #[.val (.ref a), .val (.ref b), .unset] [(.ref b)])) _
    refine XS.astoreN X0.here hx rfl (hb hby d1_1) rfl rfl (l' := #[.val (.ref a), .val (.ref b), .val (.ref b)]) rfl ?_
    show Steps p.tables e below (s₁.setTop (mkF m 2 #[.val (.ref a), .val (.ref b), .val (.ref b)] [])) _
    refine XS.aloadN X0.here hx rfl (hb hby d1_2) rfl rfl ?_
    show Steps p.tables e below (s₁.setTop (mkF m 3 #[.val (.ref a), .val (.ref b), .val (.ref b)] [(.ref b)])) _
    refine XS.ifnullNo X0.here hx rfl (hb hby d1_3) rfl ?_
    show Steps p.tables e below (s₁.setTop (mkF m 6 #[.val (.ref a), .val (.ref b), .val (.ref b)] [])) _
    refine XS.aloadN X0.here hx rfl (hb hby d1_6) rfl rfl ?_
    show Steps p.tables e below (s₁.setTop (mkF m 7 #[.val (.ref a), .val (.ref b), .val (.ref b)] [(.ref b)])) _
    refine XS.aloadN X0.here hx rfl (hb hby d1_7) rfl rfl ?_
    show Steps p.tables e below (s₁.setTop (mkF m 8 #[.val (.ref a), .val (.ref b), .val (.ref b)] [(.ref a), (.ref b)])) _
    refine Jvm.RoadKit.acmp (g := (mkF m 8 #[.val (.ref a), .val (.ref b), .val (.ref b)] [(.ref a), (.ref b)])) X0 hx rfl rfl rfl (pc0 := 8) (pc' := 13) (same := false) rfl (hb hby d1_8) rfl (decide_eq_false fun q => ha8 (Value.ref.inj q)) (by decide) (by decide) ?_
    show Steps p.tables e below (s₁.setTop (mkF m 13 #[.val (.ref a), .val (.ref b), .val (.ref b)] [])) _
    refine XS.aloadN X0.here hx rfl (hb hby d1_13) rfl rfl ?_
    show Steps p.tables e below (s₁.setTop (mkF m 14 #[.val (.ref a), .val (.ref b), .val (.ref b)] [(.ref b)])) _
    refine st1 _ ?_
    show Steps p.tables e below (T1.setTop (mkF m 17 #[.val (.ref a), .val (.ref b), .val (.ref b)] [(.ref c2)])) _
    refine XS.astoreN X1.here hx rfl (hb hby d1_17) rfl rfl (l' := #[.val (.ref a), .val (.ref b), .val (.ref c2)]) rfl ?_
    show Steps p.tables e below (T1.setTop (mkF m 18 #[.val (.ref a), .val (.ref b), .val (.ref c2)] [])) _
    refine XS.goto X1.here hx rfl (pc0 := 18) (pc' := 2) rfl (hb hby d1_18) (by decide) (by decide) ?_
    show Steps p.tables e below (T1.setTop (mkF m 2 #[.val (.ref a), .val (.ref b), .val (.ref c2)] [])) _
    refine XS.aloadN X1.here hx rfl (hb hby d1_2) rfl rfl ?_
    show Steps p.tables e below (T1.setTop (mkF m 3 #[.val (.ref a), .val (.ref b), .val (.ref c2)] [(.ref c2)])) _
    refine XS.ifnullNo X1.here hx rfl (hb hby d1_3) rfl ?_
    show Steps p.tables e below (T1.setTop (mkF m 6 #[.val (.ref a), .val (.ref b), .val (.ref c2)] [])) _
    refine XS.aloadN X1.here hx rfl (hb hby d1_6) rfl rfl ?_
    show Steps p.tables e below (T1.setTop (mkF m 7 #[.val (.ref a), .val (.ref b), .val (.ref c2)] [(.ref c2)])) _
    refine XS.aloadN X1.here hx rfl (hb hby d1_7) rfl rfl ?_
    show Steps p.tables e below (T1.setTop (mkF m 8 #[.val (.ref a), .val (.ref b), .val (.ref c2)] [(.ref a), (.ref c2)])) _
    refine Jvm.RoadKit.acmp (g := (mkF m 8 #[.val (.ref a), .val (.ref b), .val (.ref c2)] [(.ref a), (.ref c2)])) X1 hx rfl rfl rfl (pc0 := 8) (pc' := 13) (same := false) rfl (hb hby d1_8) rfl (decide_eq_false fun q => ha8_2 (Value.ref.inj q)) (by decide) (by decide) ?_
    show Steps p.tables e below (T1.setTop (mkF m 13 #[.val (.ref a), .val (.ref b), .val (.ref c2)] [])) _
    refine XS.aloadN X1.here hx rfl (hb hby d1_13) rfl rfl ?_
    show Steps p.tables e below (T1.setTop (mkF m 14 #[.val (.ref a), .val (.ref b), .val (.ref c2)] [(.ref c2)])) _
    refine st2 _ ?_
    show Steps p.tables e below (T2.setTop (mkF m 17 #[.val (.ref a), .val (.ref b), .val (.ref c2)] [(.ref c3)])) _
    refine XS.astoreN X2.here hx rfl (hb hby d1_17) rfl rfl (l' := #[.val (.ref a), .val (.ref b), .val (.ref c3)]) rfl ?_
    show Steps p.tables e below (T2.setTop (mkF m 18 #[.val (.ref a), .val (.ref b), .val (.ref c3)] [])) _
    refine XS.goto X2.here hx rfl (pc0 := 18) (pc' := 2) rfl (hb hby d1_18) (by decide) (by decide) ?_
    show Steps p.tables e below (T2.setTop (mkF m 2 #[.val (.ref a), .val (.ref b), .val (.ref c3)] [])) _
    refine XS.aloadN X2.here hx rfl (hb hby d1_2) rfl rfl ?_
    show Steps p.tables e below (T2.setTop (mkF m 3 #[.val (.ref a), .val (.ref b), .val (.ref c3)] [(.ref c3)])) _
    refine XS.ifnullNo X2.here hx rfl (hb hby d1_3) rfl ?_
    show Steps p.tables e below (T2.setTop (mkF m 6 #[.val (.ref a), .val (.ref b), .val (.ref c3)] [])) _
    refine XS.aloadN X2.here hx rfl (hb hby d1_6) rfl rfl ?_
    show Steps p.tables e below (T2.setTop (mkF m 7 #[.val (.ref a), .val (.ref b), .val (.ref c3)] [(.ref c3)])) _
    refine XS.aloadN X2.here hx rfl (hb hby d1_7) rfl rfl ?_
    show Steps p.tables e below (T2.setTop (mkF m 8 #[.val (.ref a), .val (.ref b), .val (.ref c3)] [(.ref a), (.ref c3)])) _
    refine Jvm.RoadKit.acmp (g := (mkF m 8 #[.val (.ref a), .val (.ref b), .val (.ref c3)] [(.ref a), (.ref c3)])) X2 hx rfl rfl rfl (pc0 := 8) (pc' := 13) (same := false) rfl (hb hby d1_8) rfl (decide_eq_false fun q => ha8_3 (Value.ref.inj q)) (by decide) (by decide) ?_
    show Steps p.tables e below (T2.setTop (mkF m 13 #[.val (.ref a), .val (.ref b), .val (.ref c3)] [])) _
    refine XS.aloadN X2.here hx rfl (hb hby d1_13) rfl rfl ?_
    show Steps p.tables e below (T2.setTop (mkF m 14 #[.val (.ref a), .val (.ref b), .val (.ref c3)] [(.ref c3)])) _
    refine st3 _ ?_
    show Steps p.tables e below (T3.setTop (mkF m 17 #[.val (.ref a), .val (.ref b), .val (.ref c3)] [(.ref c4)])) _
    refine XS.astoreN X3.here hx rfl (hb hby d1_17) rfl rfl (l' := #[.val (.ref a), .val (.ref b), .val (.ref c4)]) rfl ?_
    show Steps p.tables e below (T3.setTop (mkF m 18 #[.val (.ref a), .val (.ref b), .val (.ref c4)] [])) _
    refine XS.goto X3.here hx rfl (pc0 := 18) (pc' := 2) rfl (hb hby d1_18) (by decide) (by decide) ?_
    show Steps p.tables e below (T3.setTop (mkF m 2 #[.val (.ref a), .val (.ref b), .val (.ref c4)] [])) _
    refine XS.aloadN X3.here hx rfl (hb hby d1_2) rfl rfl ?_
    show Steps p.tables e below (T3.setTop (mkF m 3 #[.val (.ref a), .val (.ref b), .val (.ref c4)] [(.ref c4)])) _
    refine XS.ifnullNo X3.here hx rfl (hb hby d1_3) rfl ?_
    show Steps p.tables e below (T3.setTop (mkF m 6 #[.val (.ref a), .val (.ref b), .val (.ref c4)] [])) _
    refine XS.aloadN X3.here hx rfl (hb hby d1_6) rfl rfl ?_
    show Steps p.tables e below (T3.setTop (mkF m 7 #[.val (.ref a), .val (.ref b), .val (.ref c4)] [(.ref c4)])) _
    refine XS.aloadN X3.here hx rfl (hb hby d1_7) rfl rfl ?_
    show Steps p.tables e below (T3.setTop (mkF m 8 #[.val (.ref a), .val (.ref b), .val (.ref c4)] [(.ref a), (.ref c4)])) _
    refine Jvm.RoadKit.acmp (g := (mkF m 8 #[.val (.ref a), .val (.ref b), .val (.ref c4)] [(.ref a), (.ref c4)])) X3 hx rfl rfl rfl (pc0 := 8) (pc' := 11) (same := true) rfl (hb hby d1_8) rfl (decide_eq_true (congrArg Value.ref ha8_4)) (by decide) (by decide) ?_
    show Steps p.tables e below (T3.setTop (mkF m 11 #[.val (.ref a), .val (.ref b), .val (.ref c4)] [])) _
    refine XS.iconst X3.here hx rfl (hb hby d1_11) ?_
    show Steps p.tables e below (T3.setTop (mkF m 12 #[.val (.ref a), .val (.ref b), .val (.ref c4)] [(.int (1 : Int32))])) _
    exact retN X3 hx (t := .boolean) Bd.returns (by simp) (hb hby d1_12) hr
  · show Q_inc4T Z a b c2 c3 c4 h0 n0 _ T3.heap _
    rw [e3]
    exact ⟨rfl, N0, rfl⟩
def Q_inc4F (Z : State) (a : Addr) (b : Addr) (c2 : Addr) (c3 : Addr) (c4 : Addr) (h0 : Heap) (n0 : Nat) (v : Option Value) (h : Heap) (L : List Loc) : Prop := v = some (.int (0 : Int32)) ∧ Fr n0 L ∧ h = h0
theorem ef_inc4F (m : MethodId) (a : Addr) (b : Addr) : entryFrame m #[(.ref a), (.ref b)] 3 = mkF m 0 #[.val (.ref a), .val (.ref b), .unset] [] := by first | (simp [entryFrame, mkF, argsToLocals, Value.category]; done) | rfl
set_option maxRecDepth 65536 in
set_option maxHeartbeats 40000000 in
theorem rm_inc4F (l : Launch) (Z : State) (a0 : Array Value) (hw : ∀ d ∈ tables_1, d.before a0 Z = true) (ws : List Jvm.Cond) (a : Addr) (b : Addr) (c2 : Addr) (c3 : Addr) (c4 : Addr) (h0 : Heap) (n0 : Nat) (Z0 : n0 ≤ h0.size) (F__parent_b : Fld Z h0 b "com/example/gridloom/gridloom/mapping/ItemType" "_parent" "Lcom/example/gridloom/gridloom/mapping/ItemType;" (.ref c2)) (F__parent_c2 : Fld Z h0 c2 "com/example/gridloom/gridloom/mapping/ItemType" "_parent" "Lcom/example/gridloom/gridloom/mapping/ItemType;" (.ref c3)) (F__parent_c3 : Fld Z h0 c3 "com/example/gridloom/gridloom/mapping/ItemType" "_parent" "Lcom/example/gridloom/gridloom/mapping/ItemType;" (.ref c4)) (F__parent_c4 : Fld Z h0 c4 "com/example/gridloom/gridloom/mapping/ItemType" "_parent" "Lcom/example/gridloom/gridloom/mapping/ItemType;" .null) (ha8 : ¬ (b = a)) (ha8_2 : ¬ (c2 = a)) (ha8_3 : ¬ (c3 = a)) (ha8_4 : ¬ (c4 = a)) :
    MetFree l (⟨"com/example/gridloom/gridloom/mapping/ItemType", "includes", "(Lcom/example/gridloom/gridloom/mapping/ItemType;)Z"⟩ : MethodName) (head1 (Jvm.Cond.code (⟨"com/example/gridloom/gridloom/mapping/ItemType", "includes", "(Lcom/example/gridloom/gridloom/mapping/ItemType;)Z"⟩ : MethodName) prog_81_method_6_code 3 (some .boolean) :: ws) ({ frames := 0, cells := 0, slots := 0, locals := 0 } : Room)) (fun a_ U => a_ = #[(.ref a), (.ref b)] ∧ Z.Warmed39 U.vm ∧ U.heap = h0) (fun _ _ _ _ _ => True) (fun _ U o U' => ∃ v L, o = .returned v ∧ Q_inc4F Z a b c2 c3 c4 h0 n0 v U'.heap L ∧ FrameEnd U o U' L ({ frames := 0, cells := 0, slots := 0, locals := 0 } : Room).cells ({ frames := 0, cells := 0, slots := 0, locals := 0 } : Room).slots) := by
  refine MetFree.of_bodySF (plainFor_of_name pn_1) hisR ?_
  intro p e s m args below meth c s₁ Bd hml0 hP hK
  obtain ⟨rfl, hZ, hh⟩ := hP
  have hx := Bd.exec
  have hby := Bd.bytes
  have hml : c.maxLocals = 3 := hml0
  have hown : s.vm.findClass "com/example/gridloom/gridloom/mapping/ItemType" = some m.cls := findClass_of_methodNamed Bd.named
  have hnm := (name_of_methodNamed Bd.named Bd.method).1
  have X0 : Stand p l e ({ frames := 0, cells := 0, slots := 0, locals := 0 } : Room) s m #[(.ref a), (.ref b)] below meth c s₁ [] 0 0 := Stand.of_body Bd
  have e0 : s₁.heap = h0 := by rw [← hh, Bd.state]; rfl
  have N0 := Fr.nil n0
  have pre0 : ∀ t, Steps p.tables e below (s₁.setTop (mkF m 0 #[.val (.ref a), .val (.ref b), .unset] [])) t → Steps p.tables e below (s₁.setTop (entryFrame m #[(.ref a), (.ref b)] 3)) t := fun t_ k_ => castTop (ef_inc4F m a b) k_
  obtain ⟨T1, X1, e1, st1⟩ := getF X0 hx hZ hown (host := "") (Or.inl (hw _ (List.mem_of_getElem? (i := 53) rfl))) Via.refl e0 F__parent_b (g := (mkF m 14 #[.val (.ref a), .val (.ref b), .val (.ref b)] [(.ref b)])) rfl rfl (hb hby d1_14)
  obtain ⟨T2, X2, e2, st2⟩ := getF X1 hx hZ hown (host := "") (Or.inl (hw _ (List.mem_of_getElem? (i := 53) rfl))) Via.refl e1 F__parent_c2 (g := (mkF m 14 #[.val (.ref a), .val (.ref b), .val (.ref c2)] [(.ref c2)])) rfl rfl (hb hby d1_14)
  obtain ⟨T3, X3, e3, st3⟩ := getF X2 hx hZ hown (host := "") (Or.inl (hw _ (List.mem_of_getElem? (i := 53) rfl))) Via.refl e2 F__parent_c3 (g := (mkF m 14 #[.val (.ref a), .val (.ref b), .val (.ref c3)] [(.ref c3)])) rfl rfl (hb hby d1_14)
  obtain ⟨T4, X4, e4, st4⟩ := getF X3 hx hZ hown (host := "") (Or.inl (hw _ (List.mem_of_getElem? (i := 53) rfl))) Via.refl e3 F__parent_c4 (g := (mkF m 14 #[.val (.ref a), .val (.ref b), .val (.ref c4)] [(.ref c4)])) rfl rfl (hb hby d1_14)
  obtain ⟨fs, hr, hrun, hended, hW, hsame⟩ := X4.leave (v := some (.int (0 : Int32))) (fun h => by rw [Bd.returns] at h; cases h)
  refine ⟨_, _, pre0 _ ?_, hrun, hended, _, _, rfl, ?_, ⟨_, rfl⟩, hW, hsame.mono (by decide) (by decide)⟩
  · show Steps p.tables e below (s₁.setTop (mkF m 0 #[.val (.ref a), .val (.ref b), .unset] [])) _
    refine XS.aloadN X0.here hx rfl (hb hby d1_0) rfl rfl ?_
    show Steps p.tables e below (s₁.setTop (mkF m 1 #[.val (.ref a), .val (.ref b), .unset] [(.ref b)])) _
    refine XS.astoreN X0.here hx rfl (hb hby d1_1) rfl rfl (l' := #[.val (.ref a), .val (.ref b), .val (.ref b)]) rfl ?_
    show Steps p.tables e below (s₁.setTop (mkF m 2 #[.val (.ref a), .val (.ref b), .val (.ref b)] [])) _
    refine XS.aloadN X0.here hx rfl (hb hby d1_2) rfl rfl ?_
    show Steps p.tables e below (s₁.setTop (mkF m 3 #[.val (.ref a), .val (.ref b), .val (.ref b)] [(.ref b)])) _
    refine XS.ifnullNo X0.here hx rfl (hb hby d1_3) rfl ?_
    show Steps p.tables e below (s₁.setTop (mkF m 6 #[.val (.ref a), .val (.ref b), .val (.ref b)] [])) _
    refine XS.aloadN X0.here hx rfl (hb hby d1_6) rfl rfl ?_
    show Steps p.tables e below (s₁.setTop (mkF m 7 #[.val (.ref a), .val (.ref b), .val (.ref b)] [(.ref b)])) _
    refine XS.aloadN X0.here hx rfl (hb hby d1_7) rfl rfl ?_
    show Steps p.tables e below (s₁.setTop (mkF m 8 #[.val (.ref a), .val (.ref b), .val (.ref b)] [(.ref a), (.ref b)])) _
    refine Jvm.RoadKit.acmp (g := (mkF m 8 #[.val (.ref a), .val (.ref b), .val (.ref b)] [(.ref a), (.ref b)])) X0 hx rfl rfl rfl (pc0 := 8) (pc' := 13) (same := false) rfl (hb hby d1_8) rfl (decide_eq_false fun q => ha8 (Value.ref.inj q)) (by decide) (by decide) ?_
    show Steps p.tables e below (s₁.setTop (mkF m 13 #[.val (.ref a), .val (.ref b), .val (.ref b)] [])) _
    refine XS.aloadN X0.here hx rfl (hb hby d1_13) rfl rfl ?_
    show Steps p.tables e below (s₁.setTop (mkF m 14 #[.val (.ref a), .val (.ref b), .val (.ref b)] [(.ref b)])) _
    refine st1 _ ?_
    show Steps p.tables e below (T1.setTop (mkF m 17 #[.val (.ref a), .val (.ref b), .val (.ref b)] [(.ref c2)])) _
    refine XS.astoreN X1.here hx rfl (hb hby d1_17) rfl rfl (l' := #[.val (.ref a), .val (.ref b), .val (.ref c2)]) rfl ?_
    show Steps p.tables e below (T1.setTop (mkF m 18 #[.val (.ref a), .val (.ref b), .val (.ref c2)] [])) _
    refine XS.goto X1.here hx rfl (pc0 := 18) (pc' := 2) rfl (hb hby d1_18) (by decide) (by decide) ?_
    show Steps p.tables e below (T1.setTop (mkF m 2 #[.val (.ref a), .val (.ref b), .val (.ref c2)] [])) _
    refine XS.aloadN X1.here hx rfl (hb hby d1_2) rfl rfl ?_
    show Steps p.tables e below (T1.setTop (mkF m 3 #[.val (.ref a), .val (.ref b), .val (.ref c2)] [(.ref c2)])) _
    refine XS.ifnullNo X1.here hx rfl (hb hby d1_3) rfl ?_
    show Steps p.tables e below (T1.setTop (mkF m 6 #[.val (.ref a), .val (.ref b), .val (.ref c2)] [])) _
    refine XS.aloadN X1.here hx rfl (hb hby d1_6) rfl rfl ?_
    show Steps p.tables e below (T1.setTop (mkF m 7 #[.val (.ref a), .val (.ref b), .val (.ref c2)] [(.ref c2)])) _
    refine XS.aloadN X1.here hx rfl (hb hby d1_7) rfl rfl ?_
    show Steps p.tables e below (T1.setTop (mkF m 8 #[.val (.ref a), .val (.ref b), .val (.ref c2)] [(.ref a), (.ref c2)])) _
    refine Jvm.RoadKit.acmp (g := (mkF m 8 #[.val (.ref a), .val (.ref b), .val (.ref c2)] [(.ref a), (.ref c2)])) X1 hx rfl rfl rfl (pc0 := 8) (pc' := 13) (same := false) rfl (hb hby d1_8) rfl (decide_eq_false fun q => ha8_2 (Value.ref.inj q)) (by decide) (by decide) ?_
    show Steps p.tables e below (T1.setTop (mkF m 13 #[.val (.ref a), .val (.ref b), .val (.ref c2)] [])) _
    refine XS.aloadN X1.here hx rfl (hb hby d1_13) rfl rfl ?_
    show Steps p.tables e below (T1.setTop (mkF m 14 #[.val (.ref a), .val (.ref b), .val (.ref c2)] [(.ref c2)])) _
    refine st2 _ ?_
    show Steps p.tables e below (T2.setTop (mkF m 17 #[.val (.ref a), .val (.ref b), .val (.ref c2)] [(.ref c3)])) _
    refine XS.astoreN X2.here hx rfl (hb hby d1_17) rfl rfl (l' := #[.val (.ref a), .val (.ref b), .val (.ref c3)]) rfl ?_
    show Steps p.tables e below (T2.setTop (mkF m 18 #[.val (.ref a), .val (.ref b), .val (.ref c3)] [])) _
    refine XS.goto X2.here hx rfl (pc0 := 18) (pc' := 2) rfl (hb hby d1_18) (by decide) (by decide) ?_
    show Steps p.tables e below (T2.setTop (mkF m 2 #[.val (.ref a), .val (.ref b), .val (.ref c3)] [])) _
    refine XS.aloadN X2.here hx rfl (hb hby d1_2) rfl rfl ?_
    show Steps p.tables e below (T2.setTop (mkF m 3 #[.val (.ref a), .val (.ref b), .val (.ref c3)] [(.ref c3)])) _
    refine XS.ifnullNo X2.here hx rfl (hb hby d1_3) rfl ?_
    show Steps p.tables e below (T2.setTop (mkF m 6 #[.val (.ref a), .val (.ref b), .val (.ref c3)] [])) _
    refine XS.aloadN X2.here hx rfl (hb hby d1_6) rfl rfl ?_
    show Steps p.tables e below (T2.setTop (mkF m 7 #[.val (.ref a), .val (.ref b), .val (.ref c3)] [(.ref c3)])) _
    refine XS.aloadN X2.here hx rfl (hb hby d1_7) rfl rfl ?_
    show Steps p.tables e below (T2.setTop (mkF m 8 #[.val (.ref a), .val (.ref b), .val (.ref c3)] [(.ref a), (.ref c3)])) _
    refine Jvm.RoadKit.acmp (g := (mkF m 8 #[.val (.ref a), .val (.ref b), .val (.ref c3)] [(.ref a), (.ref c3)])) X2 hx rfl rfl rfl (pc0 := 8) (pc' := 13) (same := false) rfl (hb hby d1_8) rfl (decide_eq_false fun q => ha8_3 (Value.ref.inj q)) (by decide) (by decide) ?_
    show Steps p.tables e below (T2.setTop (mkF m 13 #[.val (.ref a), .val (.ref b), .val (.ref c3)] [])) _
    refine XS.aloadN X2.here hx rfl (hb hby d1_13) rfl rfl ?_
    show Steps p.tables e below (T2.setTop (mkF m 14 #[.val (.ref a), .val (.ref b), .val (.ref c3)] [(.ref c3)])) _
    refine st3 _ ?_
    show Steps p.tables e below (T3.setTop (mkF m 17 #[.val (.ref a), .val (.ref b), .val (.ref c3)] [(.ref c4)])) _
    refine XS.astoreN X3.here hx rfl (hb hby d1_17) rfl rfl (l' := #[.val (.ref a), .val (.ref b), .val (.ref c4)]) rfl ?_
    show Steps p.tables e below (T3.setTop (mkF m 18 #[.val (.ref a), .val (.ref b), .val (.ref c4)] [])) _
    refine XS.goto X3.here hx rfl (pc0 := 18) (pc' := 2) rfl (hb hby d1_18) (by decide) (by decide) ?_
    show Steps p.tables e below (T3.setTop (mkF m 2 #[.val (.ref a), .val (.ref b), .val (.ref c4)] [])) _
    refine XS.aloadN X3.here hx rfl (hb hby d1_2) rfl rfl ?_
    show Steps p.tables e below (T3.setTop (mkF m 3 #[.val (.ref a), .val (.ref b), .val (.ref c4)] [(.ref c4)])) _
    refine XS.ifnullNo X3.here hx rfl (hb hby d1_3) rfl ?_
    show Steps p.tables e below (T3.setTop (mkF m 6 #[.val (.ref a), .val (.ref b), .val (.ref c4)] [])) _
    refine XS.aloadN X3.here hx rfl (hb hby d1_6) rfl rfl ?_
    show Steps p.tables e below (T3.setTop (mkF m 7 #[.val (.ref a), .val (.ref b), .val (.ref c4)] [(.ref c4)])) _
    refine XS.aloadN X3.here hx rfl (hb hby d1_7) rfl rfl ?_
    show Steps p.tables e below (T3.setTop (mkF m 8 #[.val (.ref a), .val (.ref b), .val (.ref c4)] [(.ref a), (.ref c4)])) _
    refine Jvm.RoadKit.acmp (g := (mkF m 8 #[.val (.ref a), .val (.ref b), .val (.ref c4)] [(.ref a), (.ref c4)])) X3 hx rfl rfl rfl (pc0 := 8) (pc' := 13) (same := false) rfl (hb hby d1_8) rfl (decide_eq_false fun q => ha8_4 (Value.ref.inj q)) (by decide) (by decide) ?_
    show Steps p.tables e below (T3.setTop (mkF m 13 #[.val (.ref a), .val (.ref b), .val (.ref c4)] [])) _
    refine XS.aloadN X3.here hx rfl (hb hby d1_13) rfl rfl ?_
    show Steps p.tables e below (T3.setTop (mkF m 14 #[.val (.ref a), .val (.ref b), .val (.ref c4)] [(.ref c4)])) _
    refine st4 _ ?_
    show Steps p.tables e below (T4.setTop (mkF m 17 #[.val (.ref a), .val (.ref b), .val (.ref c4)] [.null])) _
    refine XS.astoreN X4.here hx rfl (hb hby d1_17) rfl rfl (l' := #[.val (.ref a), .val (.ref b), .val .null]) rfl ?_
    show Steps p.tables e below (T4.setTop (mkF m 18 #[.val (.ref a), .val (.ref b), .val .null] [])) _
    refine XS.goto X4.here hx rfl (pc0 := 18) (pc' := 2) rfl (hb hby d1_18) (by decide) (by decide) ?_
    show Steps p.tables e below (T4.setTop (mkF m 2 #[.val (.ref a), .val (.ref b), .val .null] [])) _
    refine XS.aloadN X4.here hx rfl (hb hby d1_2) rfl rfl ?_
    show Steps p.tables e below (T4.setTop (mkF m 3 #[.val (.ref a), .val (.ref b), .val .null] [.null])) _
    refine XS.ifnullYes X4.here hx rfl (pc0 := 3) (pc' := 21) rfl (hb hby d1_3) rfl (by decide) (by decide) ?_
    show Steps p.tables e below (T4.setTop (mkF m 21 #[.val (.ref a), .val (.ref b), .val .null] [])) _
    refine XS.iconst X4.here hx rfl (hb hby d1_21) ?_
    show Steps p.tables e below (T4.setTop (mkF m 22 #[.val (.ref a), .val (.ref b), .val .null] [(.int (0 : Int32))])) _
    exact retN X4 hx (t := .boolean) Bd.returns (by simp) (hb hby d1_22) hr
  · show Q_inc4F Z a b c2 c3 c4 h0 n0 _ T4.heap _
    rw [e4]
    exact ⟨rfl, N0, rfl⟩
def Q_inc5T (Z : State) (a : Addr) (b : Addr) (c2 : Addr) (c3 : Addr) (c4 : Addr) (c5 : Addr) (h0 : Heap) (n0 : Nat) (v : Option Value) (h : Heap) (L : List Loc) : Prop := v = some (.int (1 : Int32)) ∧ Fr n0 L ∧ h = h0
theorem ef_inc5T (m : MethodId) (a : Addr) (b : Addr) : entryFrame m #[(.ref a), (.ref b)] 3 = mkF m 0 #[.val (.ref a), .val (.ref b), .unset] [] := by first | (simp [entryFrame, mkF, argsToLocals, Value.category]; done) | rfl
set_option maxRecDepth 65536 in
set_option maxHeartbeats 40000000 in
theorem rm_inc5T_0 (l : Launch) (Z : State) (a0 : Array Value) (hw : ∀ d ∈ tables_1, d.before a0 Z = true) (ws : List Jvm.Cond) (a : Addr) (b : Addr) (c2 : Addr) (c3 : Addr) (c4 : Addr) (c5 : Addr) (h0 : Heap) (n0 : Nat) (Z0 : n0 ≤ h0.size) (F__parent_b : Fld Z h0 b "com/example/gridloom/gridloom/mapping/ItemType" "_parent" "Lcom/example/gridloom/gridloom/mapping/ItemType;" (.ref c2)) (F__parent_c2 : Fld Z h0 c2 "com/example/gridloom/gridloom/mapping/ItemType" "_parent" "Lcom/example/gridloom/gridloom/mapping/ItemType;" (.ref c3)) (F__parent_c3 : Fld Z h0 c3 "com/example/gridloom/gridloom/mapping/ItemType" "_parent" "Lcom/example/gridloom/gridloom/mapping/ItemType;" (.ref c4)) (F__parent_c4 : Fld Z h0 c4 "com/example/gridloom/gridloom/mapping/ItemType" "_parent" "Lcom/example/gridloom/gridloom/mapping/ItemType;" (.ref c5)) (F__parent_c5 : Fld Z h0 c5 "com/example/gridloom/gridloom/mapping/ItemType" "_parent" "Lcom/example/gridloom/gridloom/mapping/ItemType;" .null) (ha8 : b = a) :
    MetFree l (⟨"com/example/gridloom/gridloom/mapping/ItemType", "includes", "(Lcom/example/gridloom/gridloom/mapping/ItemType;)Z"⟩ : MethodName) (head1 (Jvm.Cond.code (⟨"com/example/gridloom/gridloom/mapping/ItemType", "includes", "(Lcom/example/gridloom/gridloom/mapping/ItemType;)Z"⟩ : MethodName) prog_81_method_6_code 3 (some .boolean) :: ws) ({ frames := 0, cells := 0, slots := 0, locals := 0 } : Room)) (fun a_ U => a_ = #[(.ref a), (.ref b)] ∧ Z.Warmed39 U.vm ∧ U.heap = h0) (fun _ _ _ _ _ => True) (fun _ U o U' => ∃ v L, o = .returned v ∧ Q_inc5T Z a b c2 c3 c4 c5 h0 n0 v U'.heap L ∧ FrameEnd U o U' L ({ frames := 0, cells := 0, slots := 0, locals := 0 } : Room).cells ({ frames := 0, cells := 0, slots := 0, locals := 0 } : Room).slots) := by
  refine MetFree.of_bodySF (plainFor_of_name pn_1) hisR ?_
  intro p e s m args below meth c s₁ Bd hml0 hP hK
  obtain ⟨rfl, hZ, hh⟩ := hP
  have hx := Bd.exec
  have hby := Bd.bytes
  have hml : c.maxLocals = 3 := hml0
  have hown : s.vm.findClass "com/example/gridloom/gridloom/mapping/ItemType" = some m.cls := findClass_of_methodNamed Bd.named
  have hnm := (name_of_methodNamed Bd.named Bd.method).1
  have X0 : Stand p l e ({ frames := 0, cells := 0, slots := 0, locals := 0 } : Room) s m #[(.ref a), (.ref b)] below meth c s₁ [] 0 0 := Stand.of_body Bd
  have e0 : s₁.heap = h0 := by rw [← hh, Bd.state]; rfl
  have N0 := Fr.nil n0
  have pre0 : ∀ t, Steps p.tables e below (s₁.setTop (mkF m 0 #[.val (.ref a), .val (.ref b), .unset] [])) t → Steps p.tables e below (s₁.setTop (entryFrame m #[(.ref a), (.ref b)] 3)) t := fun t_ k_ => castTop (ef_inc5T m a b) k_
  obtain ⟨fs, hr, hrun, hended, hW, hsame⟩ := X0.leave (v := some (.int (1 : Int32))) (fun h => by rw [Bd.returns] at h; cases h)
  refine ⟨_, _, pre0 _ ?_, hrun, hended, _, _, rfl, ?_, ⟨_, rfl⟩, hW, hsame.mono (by decide) (by decide)⟩
  · show Steps p.tables e below (s₁.setTop (mkF m 0 #[.val (.ref a), .val (.ref b), .unset] [])) _
    refine XS.aloadN X0.here hx rfl (hb hby d1_0) rfl rfl ?_
    show Steps p.tables e below (s₁.setTop (mkF m 1 #[.val (.ref a), .val (.ref b), .unset] [(.ref b)])) _
    refine XS.astoreN X0.here hx rfl (hb hby d1_1) rfl rfl (l' := #[.val (.ref a), .val (.ref b), .val (.ref b)]) rfl ?_
    show Steps p.tables e below (s₁.setTop (mkF m 2 #[.val (.ref a), .val (.ref b), .val (.ref b)] [])) _
    refine XS.aloadN X0.here hx rfl (hb hby d1_2) rfl rfl ?_
    show Steps p.tables e below (s₁.setTop (mkF m 3 #[.val (.ref a), .val (.ref b), .val (.ref b)] [(.ref b)])) _
    refine XS.ifnullNo X0.here hx rfl (hb hby d1_3) rfl ?_
    show Steps p.tables e below (s₁.setTop (mkF m 6 #[.val (.ref a), .val (.ref b), .val (.ref b)] [])) _
    refine XS.aloadN X0.here hx rfl (hb hby d1_6) rfl rfl ?_
    show Steps p.tables e below (s₁.setTop (mkF m 7 #[.val (.ref a), .val (.ref b), .val (.ref b)] [(.ref b)])) _
    refine XS.aloadN X0.here hx rfl (hb hby d1_7) rfl rfl ?_
    show Steps p.tables e below (s₁.setTop (mkF m 8 #[.val (.ref a), .val (.ref b), .val (.ref b)] [(.ref a), (.ref b)])) _
    refine Jvm.RoadKit.acmp (g := (mkF m 8 #[.val (.ref a), .val (.ref b), .val (.ref b)] [(.ref a), (.ref b)])) X0 hx rfl rfl rfl (pc0 := 8) (pc' := 11) (same := true) rfl (hb hby d1_8) rfl (decide_eq_true (congrArg Value.ref ha8)) (by decide) (by decide) ?_
    show Steps p.tables e below (s₁.setTop (mkF m 11 #[.val (.ref a), .val (.ref b), .val (.ref b)] [])) _
    refine XS.iconst X0.here hx rfl (hb hby d1_11) ?_
    show Steps p.tables e below (s₁.setTop (mkF m 12 #[.val (.ref a), .val (.ref b), .val (.ref b)] [(.int (1 : Int32))])) _
    exact retN X0 hx (t := .boolean) Bd.returns (by simp) (hb hby d1_12) hr
  · show Q_inc5T Z a b c2 c3 c4 c5 h0 n0 _ s₁.heap _
    rw [e0]
    exact ⟨rfl, N0, rfl⟩
set_option maxRecDepth 65536 in
set_option maxHeartbeats 40000000 in
theorem rm_inc5T_1 (l : Launch) (Z : State) (a0 : Array Value) (hw : ∀ d ∈ tables_1, d.before a0 Z = true) (ws : List Jvm.Cond) (a : Addr) (b : Addr) (c2 : Addr) (c3 : Addr) (c4 : Addr) (c5 : Addr) (h0 : Heap) (n0 : Nat) (Z0 : n0 ≤ h0.size) (F__parent_b : Fld Z h0 b "com/example/gridloom/gridloom/mapping/ItemType" "_parent" "Lcom/example/gridloom/gridloom/mapping/ItemType;" (.ref c2)) (F__parent_c2 : Fld Z h0 c2 "com/example/gridloom/gridloom/mapping/ItemType" "_parent" "Lcom/example/gridloom/gridloom/mapping/ItemType;" (.ref c3)) (F__parent_c3 : Fld Z h0 c3 "com/example/gridloom/gridloom/mapping/ItemType" "_parent" "Lcom/example/gridloom/gridloom/mapping/ItemType;" (.ref c4)) (F__parent_c4 : Fld Z h0 c4 "com/example/gridloom/gridloom/mapping/ItemType" "_parent" "Lcom/example/gridloom/gridloom/mapping/ItemType;" (.ref c5)) (F__parent_c5 : Fld Z h0 c5 "com/example/gridloom/gridloom/mapping/ItemType" "_parent" "Lcom/example/gridloom/gridloom/mapping/ItemType;" .null) (ha8 : ¬ (b = a)) (ha8_2 : c2 = a) :
    MetFree l (⟨"com/example/gridloom/gridloom/mapping/ItemType", "includes", "(Lcom/example/gridloom/gridloom/mapping/ItemType;)Z"⟩ : MethodName) (head1 (Jvm.Cond.code (⟨"com/example/gridloom/gridloom/mapping/ItemType", "includes", "(Lcom/example/gridloom/gridloom/mapping/ItemType;)Z"⟩ : MethodName) prog_81_method_6_code 3 (some .boolean) :: ws) ({ frames := 0, cells := 0, slots := 0, locals := 0 } : Room)) (fun a_ U => a_ = #[(.ref a), (.ref b)] ∧ Z.Warmed39 U.vm ∧ U.heap = h0) (fun _ _ _ _ _ => True) (fun _ U o U' => ∃ v L, o = .returned v ∧ Q_inc5T Z a b c2 c3 c4 c5 h0 n0 v U'.heap L ∧ FrameEnd U o U' L ({ frames := 0, cells := 0, slots := 0, locals := 0 } : Room).cells ({ frames := 0, cells := 0, slots := 0, locals := 0 } : Room).slots) := by
  refine MetFree.of_bodySF (plainFor_of_name pn_1) hisR ?_
  intro p e s m args below meth c s₁ Bd hml0 hP hK
  obtain ⟨rfl, hZ, hh⟩ := hP
  have hx := Bd.exec
  have hby := Bd.bytes
  have hml : c.maxLocals = 3 := hml0
  have hown : s.vm.findClass "com/example/gridloom/gridloom/mapping/ItemType" = some m.cls := findClass_of_methodNamed Bd.named
  have hnm := (name_of_methodNamed Bd.named Bd.method).1
  have X0 : Stand p l e ({ frames := 0, cells := 0, slots := 0, locals := 0 } : Room) s m #[(.ref a), (.ref b)] below meth c s₁ [] 0 0 := Stand.of_body Bd
  have e0 : s₁.heap = h0 := by rw [← hh, Bd.state]; rfl
  have N0 := Fr.nil n0
  have pre0 : ∀ t, Steps p.tables e below (s₁.setTop (mkF m 0 #[.val (.ref a), .val (.ref b), .unset] [])) t → Steps p.tables e below (s₁.setTop (entryFrame m #[(.ref a), (.ref b)] 3)) t := fun t_ k_ => castTop (ef_inc5T m a b) k_
  obtain ⟨T1, X1, e1, st1⟩ := getF X0 hx hZ hown (host := "") (Or.inl (hw _ (List.mem_of_getElem? (i := 53) rfl))) Via.refl e0 F__parent_b (g := (mkF m 14 #[.val (.ref a), .val (.ref b), .val (.ref b)] [(.ref b)])) rfl rfl (hb hby d1_14)
  obtain ⟨fs, hr, hrun, hended, hW, hsame⟩ := X1.leave (v := some (.int (1 : Int32))) (fun h => by rw [Bd.returns] at h; cases h)
  refine ⟨_, _, pre0 _ ?_, hrun, hended, _, _, rfl, ?_, ⟨_, rfl⟩, hW, hsame.mono (by decide) (by decide)⟩
  · show Steps p.tables e below (s₁.setTop (mkF m 0 #[.val (.ref a), .val (.ref b), .unset] [])) _
    refine XS.aloadN X0.here hx rfl (hb hby d1_0) rfl rfl ?_
    show Steps p.tables e below (s₁.setTop (mkF m 1 #[.val (.ref a), .val (.ref b), .unset] [(.ref b)])) _
    refine XS.astoreN X0.here hx rfl (hb hby d1_1) rfl rfl (l' := #[.val (.ref a), .val (.ref b), .val (.ref b)]) rfl ?_
    show Steps p.tables e below (s₁.setTop (mkF m 2 #[.val (.ref a), .val (.ref b), .val (.ref b)] [])) _
    refine XS.aloadN X0.here hx rfl (hb hby d1_2) rfl rfl ?_
    show Steps p.tables e below (s₁.setTop (mkF m 3 #[.val (.ref a), .val (.ref b), .val (.ref b)] [(.ref b)])) _
    refine XS.ifnullNo X0.here hx rfl (hb hby d1_3) rfl ?_
    show Steps p.tables e below (s₁.setTop (mkF m 6 #[.val (.ref a), .val (.ref b), .val (.ref b)] [])) _
    refine XS.aloadN X0.here hx rfl (hb hby d1_6) rfl rfl ?_
    show Steps p.tables e below (s₁.setTop (mkF m 7 #[.val (.ref a), .val (.ref b), .val (.ref b)] [(.ref b)])) _
    refine XS.aloadN X0.here hx rfl (hb hby d1_7) rfl rfl ?_
    show Steps p.tables e below (s₁.setTop (mkF m 8 #[.val (.ref a), .val (.ref b), .val (.ref b)] [(.ref a), (.ref b)])) _
    refine Jvm.RoadKit.acmp (g := (mkF m 8 #[.val (.ref a), .val (.ref b), .val (.ref b)] [(.ref a), (.ref b)])) X0 hx rfl rfl rfl (pc0 := 8) (pc' := 13) (same := false) rfl (hb hby d1_8) rfl (decide_eq_false fun q => ha8 (Value.ref.inj q)) (by decide) (by decide) ?_
    show Steps p.tables e below (s₁.setTop (mkF m 13 #[.val (.ref a), .val (.ref b), .val (.ref b)] [])) _
    refine XS.aloadN X0.here hx rfl (hb hby d1_13) rfl rfl ?_
    show Steps p.tables e below (s₁.setTop (mkF m 14 #[.val (.ref a), .val (.ref b), .val (.ref b)] [(.ref b)])) _
    refine st1 _ ?_
    show Steps p.tables e below (T1.setTop (mkF m 17 #[.val (.ref a), .val (.ref b), .val (.ref b)] [(.ref c2)])) _
    refine XS.astoreN X1.here hx rfl (hb hby d1_17) rfl rfl (l' := #[.val (.ref a), .val (.ref b), .val (.ref c2)]) rfl ?_
    show Steps p.tables e below (T1.setTop (mkF m 18 #[.val (.ref a), .val (.ref b), .val (.ref c2)] [])) _
    refine XS.goto X1.here hx rfl (pc0 := 18) (pc' := 2) rfl (hb hby d1_18) (by decide) (by decide) ?_
    show Steps p.tables e below (T1.setTop (mkF m 2 #[.val (.ref a), .val (.ref b), .val (.ref c2)] [])) _
    refine XS.aloadN X1.here hx rfl (hb hby d1_2) rfl rfl ?_
    show Steps p.tables e below (T1.setTop (mkF m 3 #[.val (.ref a), .val (.ref b), .val (.ref c2)] [(.ref c2)])) _
    refine XS.ifnullNo X1.here hx rfl (hb hby d1_3) rfl ?_
    show Steps p.tables e below (T1.setTop (mkF m 6 #[.val (.ref a), .val (.ref b), .val (.ref c2)] [])) _
    refine XS.aloadN X1.here hx rfl (hb hby d1_6) rfl rfl ?_
    show Steps p.tables e below (T1.setTop (mkF m 7 #[.val (.ref a), .val (.ref b), .val (.ref c2)] [(.ref c2)])) _
    refine XS.aloadN X1.here hx rfl (hb hby d1_7) rfl rfl ?_
    show Steps p.tables e below (T1.setTop (mkF m 8 #[.val (.ref a), .val (.ref b), .val (.ref c2)] [(.ref a), (.ref c2)])) _
    refine Jvm.RoadKit.acmp (g := (mkF m 8 #[.val (.ref a), .val (.ref b), .val (.ref c2)] [(.ref a), (.ref c2)])) X1 hx rfl rfl rfl (pc0 := 8) (pc' := 11) (same := true) rfl (hb hby d1_8) rfl (decide_eq_true (congrArg Value.ref ha8_2)) (by decide) (by decide) ?_
    show Steps p.tables e below (T1.setTop (mkF m 11 #[.val (.ref a), .val (.ref b), .val (.ref c2)] [])) _
    refine XS.iconst X1.here hx rfl (hb hby d1_11) ?_
    show Steps p.tables e below (T1.setTop (mkF m 12 #[.val (.ref a), .val (.ref b), .val (.ref c2)] [(.int (1 : Int32))])) _
    exact retN X1 hx (t := .boolean) Bd.returns (by simp) (hb hby d1_12) hr
  · show Q_inc5T Z a b c2 c3 c4 c5 h0 n0 _ T1.heap _
    rw [e1]
    exact ⟨rfl, N0, rfl⟩
set_option maxRecDepth 65536 in
set_option maxHeartbeats 40000000 in
theorem rm_inc5T_2 (l : Launch) (Z : State) (a0 : Array Value) (hw : ∀ d ∈ tables_1, d.before a0 Z = true) (ws : List Jvm.Cond) (a : Addr) (b : Addr) (c2 : Addr) (c3 : Addr) (c4 : Addr) (c5 : Addr) (h0 : Heap) (n0 : Nat) (Z0 : n0 ≤ h0.size) (F__parent_b : Fld Z h0 b "com/example/gridloom/gridloom/mapping/ItemType" "_parent" "Lcom/example/gridloom/gridloom/mapping/ItemType;" (.ref c2)) (F__parent_c2 : Fld Z h0 c2 "com/example/gridloom/gridloom/mapping/ItemType" "_parent" "Lcom/example/gridloom/gridloom/mapping/ItemType;" (.ref c3)) (F__parent_c3 : Fld Z h0 c3 "com/example/gridloom/gridloom/mapping/ItemType" "_parent" "Lcom/example/gridloom/gridloom/mapping/ItemType;" (.ref c4)) (F__parent_c4 : Fld Z h0 c4 "com/example/gridloom/gridloom/mapping/ItemType" "_parent" "Lcom/example/gridloom/gridloom/mapping/ItemType;" (.ref c5)) (F__parent_c5 : Fld Z h0 c5 "com/example/gridloom/gridloom/mapping/ItemType" "_parent" "Lcom/example/gridloom/gridloom/mapping/ItemType;" .null) (ha8 : ¬ (b = a)) (ha8_2 : ¬ (c2 = a)) (ha8_3 : c3 = a) :
    MetFree l (⟨"com/example/gridloom/gridloom/mapping/ItemType", "includes", "(Lcom/example/gridloom/gridloom/mapping/ItemType;)Z"⟩ : MethodName) (head1 (Jvm.Cond.code (⟨"com/example/gridloom/gridloom/mapping/ItemType", "includes", "(Lcom/example/gridloom/gridloom/mapping/ItemType;)Z"⟩ : MethodName) prog_81_method_6_code 3 (some .boolean) :: ws) ({ frames := 0, cells := 0, slots := 0, locals := 0 } : Room)) (fun a_ U => a_ = #[(.ref a), (.ref b)] ∧ Z.Warmed39 U.vm ∧ U.heap = h0) (fun _ _ _ _ _ => True) (fun _ U o U' => ∃ v L, o = .returned v ∧ Q_inc5T Z a b c2 c3 c4 c5 h0 n0 v U'.heap L ∧ FrameEnd U o U' L ({ frames := 0, cells := 0, slots := 0, locals := 0 } : Room).cells ({ frames := 0, cells := 0, slots := 0, locals := 0 } : Room).slots) := by
  refine MetFree.of_bodySF (plainFor_of_name pn_1) hisR ?_
  intro p e s m args below meth c s₁ Bd hml0 hP hK
  obtain ⟨rfl, hZ, hh⟩ := hP
  have hx := Bd.exec
  have hby := Bd.bytes
  have hml : c.maxLocals = 3 := hml0
  have hown : s.vm.findClass "com/example/gridloom/gridloom/mapping/ItemType" = some m.cls := findClass_of_methodNamed Bd.named
  have hnm := (name_of_methodNamed Bd.named Bd.method).1
  have X0 : Stand p l e ({ frames := 0, cells := 0, slots := 0, locals := 0 } : Room) s m #[(.ref a), (.ref b)] below meth c s₁ [] 0 0 := Stand.of_body Bd
  have e0 : s₁.heap = h0 := by rw [← hh, Bd.state]; rfl
  have N0 := Fr.nil n0
  have pre0 : ∀ t, Steps p.tables e below (s₁.setTop (mkF m 0 #[.val (.ref a), .val (.ref b), .unset] [])) t → Steps p.tables e below (s₁.setTop (entryFrame m #[(.ref a), (.ref b)] 3)) t := fun t_ k_ => castTop (ef_inc5T m a b) k_
  obtain ⟨T1, X1, e1, st1⟩ := getF X0 hx hZ hown (host := "") (Or.inl (hw _ (List.mem_of_getElem? (i := 53) rfl))) Via.refl e0 F__parent_b (g := (mkF m 14 #[.val (.ref a), .val (.ref b), .val (.ref b)] [(.ref b)])) rfl rfl (hb hby d1_14)
  obtain ⟨T2, X2, e2, st2⟩ := getF X1 hx hZ hown (host := "") (Or.inl (hw _ (List.mem_of_getElem? (i := 53) rfl))) Via.refl e1 F__parent_c2 (g := (mkF m 14 #[.val (.ref a), .val (.ref b), .val (.ref c2)] [(.ref c2)])) rfl rfl (hb hby d1_14)
  obtain ⟨fs, hr, hrun, hended, hW, hsame⟩ := X2.leave (v := some (.int (1 : Int32))) (fun h => by rw [Bd.returns] at h; cases h)
  refine ⟨_, _, pre0 _ ?_, hrun, hended, _, _, rfl, ?_, ⟨_, rfl⟩, hW, hsame.mono (by decide) (by decide)⟩
  · show Steps p.tables e below (s₁.setTop (mkF m 0 #[.val (.ref a), .val (.ref b), .unset] [])) _
    refine XS.aloadN X0.here hx rfl (hb hby d1_0) rfl rfl ?_
    show Steps p.tables e below (s₁.setTop (mkF m 1 #[.val (.ref a), .val (.ref b), .unset] [(.ref b)])) _
    refine XS.astoreN X0.here hx rfl (hb hby d1_1) rfl rfl (l' := #[.val (.ref a), .val (.ref b), .val (.ref b)]) rfl ?_
    show Steps p.tables e below (s₁.setTop (mkF m 2 #[.val (.ref a), .val (.ref b), .val (.ref b)] [])) _
    refine XS.aloadN X0.here hx rfl (hb hby d1_2) rfl rfl ?_
    show Steps p.tables e below (s₁.setTop (mkF m 3 #[.val (.ref a), .val (.ref b), .val (.ref b)] [(.ref b)])) _
    refine XS.ifnullNo X0.here hx rfl (hb hby d1_3) rfl ?_
    show Steps p.tables e below (s₁.setTop (mkF m 6 #[.val (.ref a), .val (.ref b), .val (.ref b)] [])) _
    refine XS.aloadN X0.here hx rfl (hb hby d1_6) rfl rfl ?_
    show Steps p.tables e below (s₁.setTop (mkF m 7 #[.val (.ref a), .val (.ref b), .val (.ref b)] [(.ref b)])) _
    refine XS.aloadN X0.here hx rfl (hb hby d1_7) rfl rfl ?_
    show Steps p.tables e below (s₁.setTop (mkF m 8 #[.val (.ref a), .val (.ref b), .val (.ref b)] [(.ref a), (.ref b)])) _
    refine Jvm.RoadKit.acmp (g := (mkF m 8 #[.val (.ref a), .val (.ref b), .val (.ref b)] [(.ref a), (.ref b)])) X0 hx rfl rfl rfl (pc0 := 8) (pc' := 13) (same := false) rfl (hb hby d1_8) rfl (decide_eq_false fun q => ha8 (Value.ref.inj q)) (by decide) (by decide) ?_
    show Steps p.tables e below (s₁.setTop (mkF m 13 #[.val (.ref a), .val (.ref b), .val (.ref b)] [])) _
    refine XS.aloadN X0.here hx rfl (hb hby d1_13) rfl rfl ?_
    show Steps p.tables e below (s₁.setTop (mkF m 14 #[.val (.ref a), .val (.ref b), .val (.ref b)] [(.ref b)])) _
    refine st1 _ ?_
    show Steps p.tables e below (T1.setTop (mkF m 17 #[.val (.ref a), .val (.ref b), .val (.ref b)] [(.ref c2)])) _
    refine XS.astoreN X1.here hx rfl (hb hby d1_17) rfl rfl (l' := #[.val (.ref a), .val (.ref b), .val (.ref c2)]) rfl ?_
    show Steps p.tables e below (T1.setTop (mkF m 18 #[.val (.ref a), .val (.ref b), .val (.ref c2)] [])) _
    refine XS.goto X1.here hx rfl (pc0 := 18) (pc' := 2) rfl (hb hby d1_18) (by decide) (by decide) ?_
    show Steps p.tables e below (T1.setTop (mkF m 2 #[.val (.ref a), .val (.ref b), .val (.ref c2)] [])) _
    refine XS.aloadN X1.here hx rfl (hb hby d1_2) rfl rfl ?_
    show Steps p.tables e below (T1.setTop (mkF m 3 #[.val (.ref a), .val (.ref b), .val (.ref c2)] [(.ref c2)])) _
    refine XS.ifnullNo X1.here hx rfl (hb hby d1_3) rfl ?_
    show Steps p.tables e below (T1.setTop (mkF m 6 #[.val (.ref a), .val (.ref b), .val (.ref c2)] [])) _
    refine XS.aloadN X1.here hx rfl (hb hby d1_6) rfl rfl ?_
    show Steps p.tables e below (T1.setTop (mkF m 7 #[.val (.ref a), .val (.ref b), .val (.ref c2)] [(.ref c2)])) _
    refine XS.aloadN X1.here hx rfl (hb hby d1_7) rfl rfl ?_
    show Steps p.tables e below (T1.setTop (mkF m 8 #[.val (.ref a), .val (.ref b), .val (.ref c2)] [(.ref a), (.ref c2)])) _
    refine Jvm.RoadKit.acmp (g := (mkF m 8 #[.val (.ref a), .val (.ref b), .val (.ref c2)] [(.ref a), (.ref c2)])) X1 hx rfl rfl rfl (pc0 := 8) (pc' := 13) (same := false) rfl (hb hby d1_8) rfl (decide_eq_false fun q => ha8_2 (Value.ref.inj q)) (by decide) (by decide) ?_
    show Steps p.tables e below (T1.setTop (mkF m 13 #[.val (.ref a), .val (.ref b), .val (.ref c2)] [])) _
    refine XS.aloadN X1.here hx rfl (hb hby d1_13) rfl rfl ?_
    show Steps p.tables e below (T1.setTop (mkF m 14 #[.val (.ref a), .val (.ref b), .val (.ref c2)] [(.ref c2)])) _
    refine st2 _ ?_
    show Steps p.tables e below (T2.setTop (mkF m 17 #[.val (.ref a), .val (.ref b), .val (.ref c2)] [(.ref c3)])) _
    refine XS.astoreN X2.here hx rfl (hb hby d1_17) rfl rfl (l' := #[.val (.ref a), .val (.ref b), .val (.ref c3)]) rfl ?_
    show Steps p.tables e below (T2.setTop (mkF m 18 #[.val (.ref a), .val (.ref b), .val (.ref c3)] [])) _
    refine XS.goto X2.here hx rfl (pc0 := 18) (pc' := 2) rfl (hb hby d1_18) (by decide) (by decide) ?_
    show Steps p.tables e below (T2.setTop (mkF m 2 #[.val (.ref a), .val (.ref b), .val (.ref c3)] [])) _
    refine XS.aloadN X2.here hx rfl (hb hby d1_2) rfl rfl ?_
    show Steps p.tables e below (T2.setTop (mkF m 3 #[.val (.ref a), .val (.ref b), .val (.ref c3)] [(.ref c3)])) _
    refine XS.ifnullNo X2.here hx rfl (hb hby d1_3) rfl ?_
    show Steps p.tables e below (T2.setTop (mkF m 6 #[.val (.ref a), .val (.ref b), .val (.ref c3)] [])) _
    refine XS.aloadN X2.here hx rfl (hb hby d1_6) rfl rfl ?_
    show Steps p.tables e below (T2.setTop (mkF m 7 #[.val (.ref a), .val (.ref b), .val (.ref c3)] [(.ref c3)])) _
    refine XS.aloadN X2.here hx rfl (hb hby d1_7) rfl rfl ?_
    show Steps p.tables e below (T2.setTop (mkF m 8 #[.val (.ref a), .val (.ref b), .val (.ref c3)] [(.ref a), (.ref c3)])) _
    refine Jvm.RoadKit.acmp (g := (mkF m 8 #[.val (.ref a), .val (.ref b), .val (.ref c3)] [(.ref a), (.ref c3)])) X2 hx rfl rfl rfl (pc0 := 8) (pc' := 11) (same := true) rfl (hb hby d1_8) rfl (decide_eq_true (congrArg Value.ref ha8_3)) (by decide) (by decide) ?_
    show Steps p.tables e below (T2.setTop (mkF m 11 #[.val (.ref a), .val (.ref b), .val (.ref c3)] [])) _
    refine XS.iconst X2.here hx rfl (hb hby d1_11) ?_
    show Steps p.tables e below (T2.setTop (mkF m 12 #[.val (.ref a), .val (.ref b), .val (.ref c3)] [(.int (1 : Int32))])) _
    exact retN X2 hx (t := .boolean) Bd.returns (by simp) (hb hby d1_12) hr
  · show Q_inc5T Z a b c2 c3 c4 c5 h0 n0 _ T2.heap _
    rw [e2]
    exact ⟨rfl, N0, rfl⟩
set_option maxRecDepth 65536 in
set_option maxHeartbeats 40000000 in
theorem rm_inc5T_3 (l : Launch) (Z : State) (a0 : Array Value) (hw : ∀ d ∈ tables_1, d.before a0 Z = true) (ws : List Jvm.Cond) (a : Addr) (b : Addr) (c2 : Addr) (c3 : Addr) (c4 : Addr) (c5 : Addr) (h0 : Heap) (n0 : Nat) (Z0 : n0 ≤ h0.size) (F__parent_b : Fld Z h0 b "com/example/gridloom/gridloom/mapping/ItemType" "_parent" "Lcom/example/gridloom/gridloom/mapping/ItemType;" (.ref c2)) (F__parent_c2 : Fld Z h0 c2 "com/example/gridloom/gridloom/mapping/ItemType" "_parent" "Lcom/example/gridloom/gridloom/mapping/ItemType;" (.ref c3)) (F__parent_c3 : Fld Z h0 c3 "com/example/gridloom/gridloom/mapping/ItemType" "_parent" "Lcom/example/gridloom/gridloom/mapping/ItemType;" (.ref c4)) (F__parent_c4 : Fld Z h0 c4 "com/example/gridloom/gridloom/mapping/ItemType" "_parent" "Lcom/example/gridloom/gridloom/mapping/ItemType;" (.ref c5)) (F__parent_c5 : Fld Z h0 c5 "com/example/gridloom/gridloom/mapping/ItemType" "_parent" "Lcom/example/gridloom/gridloom/mapping/ItemType;" .null) (ha8 : ¬ (b = a)) (ha8_2 : ¬ (c2 = a)) (ha8_3 : ¬ (c3 = a)) (ha8_4 : c4 = a) :
    MetFree l (⟨"com/example/gridloom/gridloom/mapping/ItemType", "includes", "(Lcom/example/gridloom/gridloom/mapping/ItemType;)Z"⟩ : MethodName) (head1 (Jvm.Cond.code (⟨"com/example/gridloom/gridloom/mapping/ItemType", "includes", "(Lcom/example/gridloom/gridloom/mapping/ItemType;)Z"⟩ : MethodName) prog_81_method_6_code 3 (some .boolean) :: ws) ({ frames := 0, cells := 0, slots := 0, locals := 0 } : Room)) (fun a_ U => a_ = #[(.ref a), (.ref b)] ∧ Z.Warmed39 U.vm ∧ U.heap = h0) (fun _ _ _ _ _ => True) (fun _ U o U' => ∃ v L, o = .returned v ∧ Q_inc5T Z a b c2 c3 c4 c5 h0 n0 v U'.heap L ∧ FrameEnd U o U' L ({ frames := 0, cells := 0, slots := 0, locals := 0 } : Room).cells ({ frames := 0, cells := 0, slots := 0, locals := 0 } : Room).slots) := by
  refine MetFree.of_bodySF (plainFor_of_name pn_1) hisR ?_
  intro p e s m args below meth c s₁ Bd hml0 hP hK
  obtain ⟨rfl, hZ, hh⟩ := hP
  have hx := Bd.exec
  have hby := Bd.bytes
  have hml : c.maxLocals = 3 := hml0
  have hown : s.vm.findClass "com/example/gridloom/gridloom/mapping/ItemType" = some m.cls := findClass_of_methodNamed Bd.named
  have hnm := (name_of_methodNamed Bd.named Bd.method).1
  have X0 : Stand p l e ({ frames := 0, cells := 0, slots := 0, locals := 0 } : Room) s m #[(.ref a), (.ref b)] below meth c s₁ [] 0 0 := Stand.of_body Bd
  have e0 : s₁.heap = h0 := by rw [← hh, Bd.state]; rfl
  have N0 := Fr.nil n0
  have pre0 : ∀ t, Steps p.tables e below (s₁.setTop (mkF m 0 #[.val (.ref a), .val (.ref b), .unset] [])) t → Steps p.tables e below (s₁.setTop (entryFrame m #[(.ref a), (.ref b)] 3)) t := fun t_ k_ => castTop (ef_inc5T m a b) k_
  obtain ⟨T1, X1, e1, st1⟩ := getF X0 hx hZ hown (host := "") (Or.inl (hw _ (List.mem_of_getElem? (i := 53) rfl))) Via.refl e0 F__parent_b (g := (mkF m 14 #[.val (.ref a), .val (.ref b), .val (.ref b)] [(.ref b)])) rfl rfl (hb hby d1_14)
  obtain ⟨T2, X2, e2, st2⟩ := getF X1 hx hZ hown (host := "") (Or.inl (hw _ (List.mem_of_getElem? (i := 53) rfl))) Via.refl e1 F__parent_c2 (g := (mkF m 14 #[.val (.ref a), .val (.ref b), .val (.ref c2)] [(.ref c2)])) rfl rfl (hb hby d1_14)
  obtain ⟨T3, X3, e3, st3⟩ := getF X2 hx hZ hown (host := "") (Or.inl (hw _ (List.mem_of_getElem? (i := 53) rfl))) Via.refl e2 F__parent_c3 (g := (mkF m 14 #[.val (.ref a), .val (.ref b), .val (.ref c3)] [(.ref c3)])) rfl rfl (hb hby d1_14)
  obtain ⟨fs, hr, hrun, hended, hW, hsame⟩ := X3.leave (v := some (.int (1 : Int32))) (fun h => by rw [Bd.returns] at h; cases h)
  refine ⟨_, _, pre0 _ ?_, hrun, hended, _, _, rfl, ?_, ⟨_, rfl⟩, hW, hsame.mono (by decide) (by decide)⟩
  · show Steps p.tables e below (s₁.setTop (mkF m 0 #[.val (.ref a), .val (.ref b), .unset] [])) _
    refine XS.aloadN X0.here hx rfl (hb hby d1_0) rfl rfl ?_
    show Steps p.tables e below (s₁.setTop (mkF m 1 #[.val (.ref a), .val (.ref b), .unset] [(.ref b)])) _
    refine XS.astoreN X0.here hx rfl (hb hby d1_1) rfl rfl (l' := #[.val (.ref a), .val (.ref b), .val (.ref b)]) rfl ?_
    show Steps p.tables e below (s₁.setTop (mkF m 2 #[.val (.ref a), .val (.ref b), .val (.ref b)] [])) _
    refine XS.aloadN X0.here hx rfl (hb hby d1_2) rfl rfl ?_
    show Steps p.tables e below (s₁.setTop (mkF m 3 #[.val (.ref a), .val (.ref b), .val (.ref b)] [(.ref b)])) _
    refine XS.ifnullNo X0.here hx rfl (hb hby d1_3) rfl ?_
    show Steps p.tables e below (s₁.setTop (mkF m 6 #[.val (.ref a), .val (.ref b), .val (.ref b)] [])) _
    refine XS.aloadN X0.here hx rfl (hb hby d1_6) rfl rfl ?_
    show Steps p.tables e below (s₁.setTop (mkF m 7 #[.val (.ref a), .val (.ref b), .val (.ref b)] [(.ref b)])) _
    refine XS.aloadN X0.here hx rfl (hb hby d1_7) rfl rfl ?_
    show Steps p.tables e below (s₁.setTop (mkF m 8 #[.val (.ref a), .val (.ref b), .val (.ref b)] [(.ref a), (.ref b)])) _
    refine Jvm.RoadKit.acmp (g := (mkF m 8 #[.val (.ref a), .val (.ref b), .val (.ref b)] [(.ref a), (.ref b)])) X0 hx rfl rfl rfl (pc0 := 8) (pc' := 13) (same := false) rfl (hb hby d1_8) rfl (decide_eq_false fun q => ha8 (Value.ref.inj q)) (by decide) (by decide) ?_
    show Steps p.tables e below (s₁.setTop (mkF m 13 #[.val (.ref a), .val (.ref b), .val (.ref b)] [])) _
    refine XS.aloadN X0.here hx rfl (hb hby d1_13) rfl rfl ?_
    show Steps p.tables e below (s₁.setTop (mkF m 14 #[.val (.ref a), .val (.ref b), .val (.ref b)] [(.ref b)])) _
    refine st1 _ ?_
    show Steps p.tables e below (T1.setTop (mkF m 17 #[.val (.ref a), .val (.ref b), .val (.ref b)] [(.ref c2)])) _
    refine XS.astoreN X1.here hx rfl (hb hby d1_17) rfl rfl (l' := #[.val (.ref a), .val (.ref b), .val (.ref c2)]) rfl ?_
    show Steps p.tables e below (T1.setTop (mkF m 18 #[.val (.ref a), .val (.ref b), .val (.ref c2)] [])) _
    refine XS.goto X1.here hx rfl (pc0 := 18) (pc' := 2) rfl (hb hby d1_18) (by decide) (by decide) ?_
    show Steps p.tables e below (T1.setTop (mkF m 2 #[.val (.ref a), .val (.ref b), .val (.ref c2)] [])) _
    refine XS.aloadN X1.here hx rfl (hb hby d1_2) rfl rfl ?_
    show Steps p.tables e below (T1.setTop (mkF m 3 #[.val (.ref a), .val (.ref b), .val (.ref c2)] [(.ref c2)])) _
    refine XS.ifnullNo X1.here hx rfl (hb hby d1_3) rfl ?_
    show Steps p.tables e below (T1.setTop (mkF m 6 #[.val (.ref a), .val (.ref b), .val (.ref c2)] [])) _
    refine XS.aloadN X1.here hx rfl (hb hby d1_6) rfl rfl ?_
    show Steps p.tables e below (T1.setTop (mkF m 7 #[.val (.ref a), .val (.ref b), .val (.ref c2)] [(.ref c2)])) _
    refine XS.aloadN X1.here hx rfl (hb hby d1_7) rfl rfl ?_
    show Steps p.tables e below (T1.setTop (mkF m 8 #[.val (.ref a), .val (.ref b), .val (.ref c2)] [(.ref a), (.ref c2)])) _
    refine Jvm.RoadKit.acmp (g := (mkF m 8 #[.val (.ref a), .val (.ref b), .val (.ref c2)] [(.ref a), (.ref c2)])) X1 hx rfl rfl rfl (pc0 := 8) (pc' := 13) (same := false) rfl (hb hby d1_8) rfl (decide_eq_false fun q => ha8_2 (Value.ref.inj q)) (by decide) (by decide) ?_
    show Steps p.tables e below (T1.setTop (mkF m 13 #[.val (.ref a), .val (.ref b), .val (.ref c2)] [])) _
    refine XS.aloadN X1.here hx rfl (hb hby d1_13) rfl rfl ?_
    show Steps p.tables e below (T1.setTop (mkF m 14 #[.val (.ref a), .val (.ref b), .val (.ref c2)] [(.ref c2)])) _
    refine st2 _ ?_
    show Steps p.tables e below (T2.setTop (mkF m 17 #[.val (.ref a), .val (.ref b), .val (.ref c2)] [(.ref c3)])) _
    refine XS.astoreN X2.here hx rfl (hb hby d1_17) rfl rfl (l' := #[.val (.ref a), .val (.ref b), .val (.ref c3)]) rfl ?_
    show Steps p.tables e below (T2.setTop (mkF m 18 #[.val (.ref a), .val (.ref b), .val (.ref c3)] [])) _
    refine XS.goto X2.here hx rfl (pc0 := 18) (pc' := 2) rfl (hb hby d1_18) (by decide) (by decide) ?_
    show Steps p.tables e below (T2.setTop (mkF m 2 #[.val (.ref a), .val (.ref b), .val (.ref c3)] [])) _
    refine XS.aloadN X2.here hx rfl (hb hby d1_2) rfl rfl ?_
    show Steps p.tables e below (T2.setTop (mkF m 3 #[.val (.ref a), .val (.ref b), .val (.ref c3)] [(.ref c3)])) _
    refine XS.ifnullNo X2.here hx rfl (hb hby d1_3) rfl ?_
    show Steps p.tables e below (T2.setTop (mkF m 6 #[.val (.ref a), .val (.ref b), .val (.ref c3)] [])) _
    refine XS.aloadN X2.here hx rfl (hb hby d1_6) rfl rfl ?_
    show Steps p.tables e below (T2.setTop (mkF m 7 #[.val (.ref a), .val (.ref b), .val (.ref c3)] [(.ref c3)])) _
    refine XS.aloadN X2.here hx rfl (hb hby d1_7) rfl rfl ?_
    show Steps p.tables e below (T2.setTop (mkF m 8 #[.val (.ref a), .val (.ref b), .val (.ref c3)] [(.ref a), (.ref c3)])) _
    refine Jvm.RoadKit.acmp (g := (mkF m 8 #[.val (.ref a), .val (.ref b), .val (.ref c3)] [(.ref a), (.ref c3)])) X2 hx rfl rfl rfl (pc0 := 8) (pc' := 13) (same := false) rfl (hb hby d1_8) rfl (decide_eq_false fun q => ha8_3 (Value.ref.inj q)) (by decide) (by decide) ?_
    show Steps p.tables e below (T2.setTop (mkF m 13 #[.val (.ref a), .val (.ref b), .val (.ref c3)] [])) _
    refine XS.aloadN X2.here hx rfl (hb hby d1_13) rfl rfl ?_
    show Steps p.tables e below (T2.setTop (mkF m 14 #[.val (.ref a), .val (.ref b), .val (.ref c3)] [(.ref c3)])) _
    refine st3 _ ?_
    show Steps p.tables e below (T3.setTop (mkF m 17 #[.val (.ref a), .val (.ref b), .val (.ref c3)] [(.ref c4)])) _
    refine XS.astoreN X3.here hx rfl (hb hby d1_17) rfl rfl (l' := #[.val (.ref a), .val (.ref b), .val (.ref c4)]) rfl ?_
    show Steps p.tables e below (T3.setTop (mkF m 18 #[.val (.ref a), .val (.ref b), .val (.ref c4)] [])) _
    refine XS.goto X3.here hx rfl (pc0 := 18) (pc' := 2) rfl (hb hby d1_18) (by decide) (by decide) ?_
    show Steps p.tables e below (T3.setTop (mkF m 2 #[.val (.ref a), .val (.ref b), .val (.ref c4)] [])) _
    refine XS.aloadN X3.here hx rfl (hb hby d1_2) rfl rfl ?_
    show Steps p.tables e below (T3.setTop (mkF m 3 #[.val (.ref a), .val (.ref b), .val (.ref c4)] [(.ref c4)])) _
    refine XS.ifnullNo X3.here hx rfl (hb hby d1_3) rfl ?_
    show Steps p.tables e below (T3.setTop (mkF m 6 #[.val (.ref a), .val (.ref b), .val (.ref c4)] [])) _
    refine XS.aloadN X3.here hx rfl (hb hby d1_6) rfl rfl ?_
    show Steps p.tables e below (T3.setTop (mkF m 7 #[.val (.ref a), .val (.ref b), .val (.ref c4)] [(.ref c4)])) _
    refine XS.aloadN X3.here hx rfl (hb hby d1_7) rfl rfl ?_
    show Steps p.tables e below (T3.setTop (mkF m 8 #[.val (.ref a), .val (.ref b), .val (.ref c4)] [(.ref a), (.ref c4)])) _
    refine Jvm.RoadKit.acmp (g := (mkF m 8 #[.val (.ref a), .val (.ref b), .val (.ref c4)] [(.ref a), (.ref c4)])) X3 hx rfl rfl rfl (pc0 := 8) (pc' := 11) (same := true) rfl (hb hby d1_8) rfl (decide_eq_true (congrArg Value.ref ha8_4)) (by decide) (by decide) ?_
    show Steps p.tables e below (T3.setTop (mkF m 11 #[.val (.ref a), .val (.ref b), .val (.ref c4)] [])) _
    refine XS.iconst X3.here hx rfl (hb hby d1_11) ?_
    show Steps p.tables e below (T3.setTop (mkF m 12 #[.val (.ref a), .val (.ref b), .val (.ref c4)] [(.int (1 : Int32))])) _
    exact retN X3 hx (t := .boolean) Bd.returns (by simp) (hb hby d1_12) hr
  · show Q_inc5T Z a b c2 c3 c4 c5 h0 n0 _ T3.heap _
    rw [e3]
    exact ⟨rfl, N0, rfl⟩
set_option maxRecDepth 65536 in
set_option maxHeartbeats 40000000 in
theorem rm_inc5T_4 (l : Launch) (Z : State) (a0 : Array Value) (hw : ∀ d ∈ tables_1, d.before a0 Z = true) (ws : List Jvm.Cond) (a : Addr) (b : Addr) (c2 : Addr) (c3 : Addr) (c4 : Addr) (c5 : Addr) (h0 : Heap) (n0 : Nat) (Z0 : n0 ≤ h0.size) (F__parent_b : Fld Z h0 b "com/example/gridloom/gridloom/mapping/ItemType" "_parent" "Lcom/example/gridloom/gridloom/mapping/ItemType;" (.ref c2)) (F__parent_c2 : Fld Z h0 c2 "com/example/gridloom/gridloom/mapping/ItemType" "_parent" "Lcom/example/gridloom/gridloom/mapping/ItemType;" (.ref c3)) (F__parent_c3 : Fld Z h0 c3 "com/example/gridloom/gridloom/mapping/ItemType" "_parent" "Lcom/example/gridloom/gridloom/mapping/ItemType;" (.ref c4)) (F__parent_c4 : Fld Z h0 c4 "com/example/gridloom/gridloom/mapping/ItemType" "_parent" "Lcom/example/gridloom/gridloom/mapping/ItemType;" (.ref c5)) (F__parent_c5 : Fld Z h0 c5 "com/example/gridloom/gridloom/mapping/ItemType" "_parent" "Lcom/example/gridloom/gridloom/mapping/ItemType;" .null) (ha8 : ¬ (b = a)) (ha8_2 : ¬ (c2 = a)) (ha8_3 : ¬ (c3 = a)) (ha8_4 : ¬ (c4 = a)) (ha8_5 : c5 = a) :
    MetFree l (⟨"com/example/gridloom/gridloom/mapping/ItemType", "includes", "(Lcom/example/gridloom/gridloom/mapping/ItemType;)Z"⟩ : MethodName) (head1 (Jvm.Cond.code (⟨"com/example/gridloom/gridloom/mapping/ItemType", "includes", "(Lcom/example/gridloom/gridloom/mapping/ItemType;)Z"⟩ : MethodName) prog_81_method_6_code 3 (some .boolean) :: ws) ({ frames := 0, cells := 0, slots := 0, locals := 0 } : Room)) (fun a_ U => a_ = #[(.ref a), (.ref b)] ∧ Z.Warmed39 U.vm ∧ U.heap = h0) (fun _ _ _ _ _ => True) (fun _ U o U' => ∃ v L, o = .returned v ∧ Q_inc5T Z a b c2 c3 c4 c5 h0 n0 v U'.heap L ∧ FrameEnd U o U' L ({ frames := 0, cells := 0, slots := 0, locals := 0 } : Room).cells ({ frames := 0, cells := 0, slots := 0, locals := 0 } : Room).slots) := by
  refine MetFree.of_bodySF (plainFor_of_name pn_1) hisR ?_
  intro p e s m args below meth c s₁ Bd hml0 hP hK
  obtain ⟨rfl, hZ, hh⟩ := hP
  have hx := Bd.exec
  have hby := Bd.bytes
  have hml : c.maxLocals = 3 := hml0
  have hown : s.vm.findClass "com/example/gridloom/gridloom/mapping/ItemType" = some m.cls := findClass_of_methodNamed Bd.named
  have hnm := (name_of_methodNamed Bd.named Bd.method).1
  have X0 : Stand p l e ({ frames := 0, cells := 0, slots := 0, locals := 0 } : Room) s m #[(.ref a), (.ref b)] below meth c s₁ [] 0 0 := Stand.of_body Bd
  have e0 : s₁.heap = h0 := by rw [← hh, Bd.state]; rfl
  have N0 := Fr.nil n0
  have pre0 : ∀ t, Steps p.tables e below (s₁.setTop (mkF m 0 #[.val (.ref a), .val (.ref b), .unset] [])) t → Steps p.tables e below (s₁.setTop (entryFrame m #[(.ref a), (.ref b)] 3)) t := fun t_ k_ => castTop (ef_inc5T m a b) k_
  obtain ⟨T1, X1, e1, st1⟩ := getF X0 hx hZ hown (host := "") (Or.inl (hw _ (List.mem_of_getElem? (i := 53) rfl))) Via.refl e0 F__parent_b (g := (mkF m 14 #[.val (.ref a), .val (.ref b), .val (.ref b)] [(.ref b)])) rfl rfl (hb hby d1_14)
  obtain ⟨T2, X2, e2, st2⟩ := getF X1 hx hZ hown (host := "") (Or.inl (hw _ (List.mem_of_getElem? (i := 53) rfl))) Via.refl e1 F__parent_c2 (g := (mkF m 14 #[.val (.ref a), .val (.ref b), .val (.ref c2)] [(.ref c2)])) rfl rfl (hb hby d1_14)
  obtain ⟨T3, X3, e3, st3⟩ := getF X2 hx hZ hown (host := "") (Or.inl (hw _ (List.mem_of_getElem? (i := 53) rfl))) Via.refl e2 F__parent_c3 (g := (mkF m 14 #[.val (.ref a), .val (.ref b), .val (.ref c3)] [(.ref c3)])) rfl rfl (hb hby d1_14)
  obtain ⟨T4, X4, e4, st4⟩ := getF X3 hx hZ hown (host := "") (Or.inl (hw _ (List.mem_of_getElem? (i := 53) rfl))) Via.refl e3 F__parent_c4 (g := (mkF m 14 #[.val (.ref a), .val (.ref b), .val (.ref c4)] [(.ref c4)])) rfl rfl (hb hby d1_14)
  obtain ⟨fs, hr, hrun, hended, hW, hsame⟩ := X4.leave (v := some (.int (1 : Int32))) (fun h => by rw [Bd.returns] at h; cases h)
  refine ⟨_, _, pre0 _ ?_, hrun, hended, _, _, rfl, ?_, ⟨_, rfl⟩, hW, hsame.mono (by decide) (by decide)⟩
  · show Steps p.tables e below (s₁.setTop (mkF m 0 #[.val (.ref a), .val (.ref b), .unset] [])) _
    refine XS.aloadN X0.here hx rfl (hb hby d1_0) rfl rfl ?_
    show Steps p.tables e below (s₁.setTop (mkF m 1 #[.val (.ref a), .val (.ref b), .unset] [(.ref b)])) _
    refine XS.astoreN X0.here hx rfl (hb hby d1_1) rfl rfl (l' := #[.val (.ref a), .val (.ref b), .val (.ref b)]) rfl ?_
    show Steps p.tables e below (s₁.setTop (mkF m 2 #[.val (.ref a), .val (.ref b), .val (.ref b)] [])) _
    refine XS.aloadN X0.here hx rfl (hb hby d1_2) rfl rfl ?_
    show Steps p.tables e below (s₁.setTop (mkF m 3 #[.val (.ref a), .val (.ref b), .val (.ref b)] [(.ref b)])) _
    refine XS.ifnullNo X0.here hx rfl (hb hby d1_3) rfl ?_
    show Steps p.tables e below (s₁.setTop (mkF m 6 #[.val (.ref a), .val (.ref b), .val (.ref b)] [])) _
    refine XS.aloadN X0.here hx rfl (hb hby d1_6) rfl rfl ?_
    show Steps p.tables e below (s₁.setTop (mkF m 7 #[.val (.ref a), .val (.ref b), .val (.ref b)] [(.ref b)])) _
    refine XS.aloadN X0.here hx rfl (hb hby d1_7) rfl rfl ?_
    show Steps p.tables e below (s₁.setTop (mkF m 8 #[.val (.ref a), .val (.ref b), .val (.ref b)] [(.ref a), (.ref b)])) _
    refine Jvm.RoadKit.acmp (g := (mkF m 8 #[.val (.ref a), .val (.ref b), .val (.ref b)] [(.ref a), (.ref b)])) X0 hx rfl rfl rfl (pc0 := 8) (pc' := 13) (same := false) rfl (hb hby d1_8) rfl (decide_eq_false fun q => ha8 (Value.ref.inj q)) (by decide) (by decide) ?_
    show Steps p.tables e below (s₁.setTop (mkF m 13 #[.val (.ref a), .val (.ref b), .val (.ref b)] [])) _
    refine XS.aloadN X0.here hx rfl (hb hby d1_13) rfl rfl ?_
    show Steps p.tables e below (s₁.setTop (mkF m 14 #[.val (.ref a), .val (.ref b), .val (.ref b)] [(.ref b)])) _
    refine st1 _ ?_
    show Steps p.tables e below (T1.setTop (mkF m 17 #[.val (.ref a), .val (.ref b), .val (.ref b)] [(.ref c2)])) _
    refine XS.astoreN X1.here hx rfl (hb hby d1_17) rfl rfl (l' := #[.val (.ref a), .val (.ref b), .val (.ref c2)]) rfl ?_
    show Steps p.tables e below (T1.setTop (mkF m 18 #[.val (.ref a), .val (.ref b), .val (.ref c2)] [])) _
    refine XS.goto X1.here hx rfl (pc0 := 18) (pc' := 2) rfl (hb hby d1_18) (by decide) (by decide) ?_
    show Steps p.tables e below (T1.setTop (mkF m 2 #[.val (.ref a), .val (.ref b), .val (.ref c2)] [])) _
    refine XS.aloadN X1.here hx rfl (hb hby d1_2) rfl rfl ?_
    show Steps p.tables e below (T1.setTop (mkF m 3 #[.val (.ref a), .val (.ref b), .val (.ref c2)] [(.ref c2)])) _
    refine XS.ifnullNo X1.here hx rfl (hb hby d1_3) rfl ?_
    show Steps p.tables e below (T1.setTop (mkF m 6 #[.val (.ref a), .val (.ref b), .val (.ref c2)] [])) _
    refine XS.aloadN X1.here hx rfl (hb hby d1_6) rfl rfl ?_
    show Steps p.tables e below (T1.setTop (mkF m 7 #[.val (.ref a), .val (.ref b), .val (.ref c2)] [(.ref c2)])) _
    refine XS.aloadN X1.here hx rfl (hb hby d1_7) rfl rfl ?_
    show Steps p.tables e below (T1.setTop (mkF m 8 #[.val (.ref a), .val (.ref b), .val (.ref c2)] [(.ref a), (.ref c2)])) _
    refine Jvm.RoadKit.acmp (g := (mkF m 8 #[.val (.ref a), .val (.ref b), .val (.ref c2)] [(.ref a), (.ref c2)])) X1 hx rfl rfl rfl (pc0 := 8) (pc' := 13) (same := false) rfl (hb hby d1_8) rfl (decide_eq_false fun q => ha8_2 (Value.ref.inj q)) (by decide) (by decide) ?_
    show Steps p.tables e below (T1.setTop (mkF m 13 #[.val (.ref a), .val (.ref b), .val (.ref c2)] [])) _
    refine XS.aloadN X1.here hx rfl (hb hby d1_13) rfl rfl ?_
    show Steps p.tables e below (T1.setTop (mkF m 14 #[.val (.ref a), .val (.ref b), .val (.ref c2)] [(.ref c2)])) _
    refine st2 _ ?_
    show Steps p.tables e below (T2.setTop (mkF m 17 #[.val (.ref a), .val (.ref b), .val (.ref c2)] [(.ref c3)])) _
    refine XS.astoreN X2.here hx rfl (hb hby d1_17) rfl rfl (l' := #[.val (.ref a), .val (.ref b), .val (.ref c3)]) rfl ?_
    show Steps p.tables e below (T2.setTop (mkF m 18 #[.val (.ref a), .val (.ref b), .val (.ref c3)] [])) _
    refine XS.goto X2.here hx rfl (pc0 := 18) (pc' := 2) rfl (hb hby d1_18) (by decide) (by decide) ?_
    show Steps p.tables e below (T2.setTop (mkF m 2 #[.val (.ref a), .val (.ref b), .val (.ref c3)] [])) _
    refine XS.aloadN X2.here hx rfl (hb hby d1_2) rfl rfl ?_
    show Steps p.tables e below (T2.setTop (mkF m 3 #[.val (.ref a), .val (.ref b), .val (.ref c3)] [(.ref c3)])) _
    refine XS.ifnullNo X2.here hx rfl (hb hby d1_3) rfl ?_
    show Steps p.tables e below (T2.setTop (mkF m 6 #[.val (.ref a), .val (.ref b), .val (.ref c3)] [])) _
    refine XS.aloadN X2.here hx rfl (hb hby d1_6) rfl rfl ?_
    show Steps p.tables e below (T2.setTop (mkF m 7 #[.val (.ref a), .val (.ref b), .val (.ref c3)] [(.ref c3)])) _
    refine XS.aloadN X2.here hx rfl (hb hby d1_7) rfl rfl ?_
    show Steps p.tables e below (T2.setTop (mkF m 8 #[.val (.ref a), .val (.ref b), .val (.ref c3)] [(.ref a), (.ref c3)])) _
    refine Jvm.RoadKit.acmp (g := (mkF m 8 #[.val (.ref a), .val (.ref b), .val (.ref c3)] [(.ref a), (.ref c3)])) X2 hx rfl rfl rfl (pc0 := 8) (pc' := 13) (same := false) rfl (hb hby d1_8) rfl (decide_eq_false fun q => ha8_3 (Value.ref.inj q)) (by decide) (by decide) ?_
    show Steps p.tables e below (T2.setTop (mkF m 13 #[.val (.ref a), .val (.ref b), .val (.ref c3)] [])) _
    refine XS.aloadN X2.here hx rfl (hb hby d1_13) rfl rfl ?_
    show Steps p.tables e below (T2.setTop (mkF m 14 #[.val (.ref a), .val (.ref b), .val (.ref c3)] [(.ref c3)])) _
    refine st3 _ ?_
    show Steps p.tables e below (T3.setTop (mkF m 17 #[.val (.ref a), .val (.ref b), .val (.ref c3)] [(.ref c4)])) _
    refine XS.astoreN X3.here hx rfl (hb hby d1_17) rfl rfl (l' := #[.val (.ref a), .val (.ref b), .val (.ref c4)]) rfl ?_
    show Steps p.tables e below (T3.setTop (mkF m 18 #[.val (.ref a), .val (.ref b), .val (.ref c4)] [])) _
    refine XS.goto X3.here hx rfl (pc0 := 18) (pc' := 2) rfl (hb hby d1_18) (by decide) (by decide) ?_
    show Steps p.tables e below (T3.setTop (mkF m 2 #[.val (.ref a), .val (.ref b), .val (.ref c4)] [])) _
    refine XS.aloadN X3.here hx rfl (hb hby d1_2) rfl rfl ?_
    show Steps p.tables e below (T3.setTop (mkF m 3 #[.val (.ref a), .val (.ref b), .val (.ref c4)] [(.ref c4)])) _
    refine XS.ifnullNo X3.here hx rfl (hb hby d1_3) rfl ?_
    show Steps p.tables e below (T3.setTop (mkF m 6 #[.val (.ref a), .val (.ref b), .val (.ref c4)] [])) _
    refine XS.aloadN X3.here hx rfl (hb hby d1_6) rfl rfl ?_
    show Steps p.tables e below (T3.setTop (mkF m 7 #[.val (.ref a), .val (.ref b), .val (.ref c4)] [(.ref c4)])) _
    refine XS.aloadN X3.here hx rfl (hb hby d1_7) rfl rfl ?_
    show Steps p.tables e below (T3.setTop (mkF m 8 #[.val (.ref a), .val (.ref b), .val (.ref c4)] [(.ref a), (.ref c4)])) _
    refine Jvm.RoadKit.acmp (g := (mkF m 8 #[.val (.ref a), .val (.ref b), .val (.ref c4)] [(.ref a), (.ref c4)])) X3 hx rfl rfl rfl (pc0 := 8) (pc' := 13) (same := false) rfl (hb hby d1_8) rfl (decide_eq_false fun q => ha8_4 (Value.ref.inj q)) (by decide) (by decide) ?_
    show Steps p.tables e below (T3.setTop (mkF m 13 #[.val (.ref a), .val (.ref b), .val (.ref c4)] [])) _
    refine XS.aloadN X3.here hx rfl (hb hby d1_13) rfl rfl ?_
    show Steps p.tables e below (T3.setTop (mkF m 14 #[.val (.ref a), .val (.ref b), .val (.ref c4)] [(.ref c4)])) _
    refine st4 _ ?_
    show Steps p.tables e below (T4.setTop (mkF m 17 #[.val (.ref a), .val (.ref b), .val (.ref c4)] [(.ref c5)])) _
    refine XS.astoreN X4.here hx rfl (hb hby d1_17) rfl rfl (l' := #[.val (.ref a), .val (.ref b), .val (.ref c5)]) rfl ?_
    show Steps p.tables e below (T4.setTop (mkF m 18 #[.val (.ref a), .val (.ref b), .val (.ref c5)] [])) _
    refine XS.goto X4.here hx rfl (pc0 := 18) (pc' := 2) rfl (hb hby d1_18) (by decide) (by decide) ?_
    show Steps p.tables e below (T4.setTop (mkF m 2 #[.val (.ref a), .val (.ref b), .val (.ref c5)] [])) _
    refine XS.aloadN X4.here hx rfl (hb hby d1_2) rfl rfl ?_
    show Steps p.tables e below (T4.setTop (mkF m 3 #[.val (.ref a), .val (.ref b), .val (.ref c5)] [(.ref c5)])) _
    refine XS.ifnullNo X4.here hx rfl (hb hby d1_3) rfl ?_
    show Steps p.tables e below (T4.setTop (mkF m 6 #[.val (.ref a), .val (.ref b), .val (.ref c5)] [])) _
    refine XS.aloadN X4.here hx rfl (hb hby d1_6) rfl rfl ?_
    show Steps p.tables e below (T4.setTop (mkF m 7 #[.val (.ref a), .val (.ref b), .val (.ref c5)] [(.ref c5)])) _
    refine XS.aloadN X4.here hx rfl (hb hby d1_7) rfl rfl ?_
    show Steps p.tables e below (T4.setTop (mkF m 8 #[.val (.ref a), .val (.ref b), .val (.ref c5)] [(.ref a), (.ref c5)])) _
    refine Jvm.RoadKit.acmp (g := (mkF m 8 #[.val (.ref a), .val (.ref b), .val (.ref c5)] [(.ref a), (.ref c5)])) X4 hx rfl rfl rfl (pc0 := 8) (pc' := 11) (same := true) rfl (hb hby d1_8) rfl (decide_eq_true (congrArg Value.ref ha8_5)) (by decide) (by decide) ?_
    show Steps p.tables e below (T4.setTop (mkF m 11 #[.val (.ref a), .val (.ref b), .val (.ref c5)] [])) _
    refine XS.iconst X4.here hx rfl (hb hby d1_11) ?_
    show Steps p.tables e below (T4.setTop (mkF m 12 #[.val (.ref a), .val (.ref b), .val (.ref c5)] [(.int (1 : Int32))])) _
    exact retN X4 hx (t := .boolean) Bd.returns (by simp) (hb hby d1_12) hr
  · show Q_inc5T Z a b c2 c3 c4 c5 h0 n0 _ T4.heap _
    rw [e4]
    exact ⟨rfl, N0, rfl⟩
def Q_inc5F (Z : State) (a : Addr) (b : Addr) (c2 : Addr) (c3 : Addr) (c4 : Addr) (c5 : Addr) (h0 : Heap) (n0 : Nat) (v : Option Value) (h : Heap) (L : List Loc) : Prop := v = some (.int (0 : Int32)) ∧ Fr n0 L ∧ h = h0
theorem ef_inc5F (m : MethodId) (a : Addr) (b : Addr) : entryFrame m #[(.ref a), (.ref b)] 3 = mkF m 0 #[.val (.ref a), .val (.ref b), .unset] [] := by first | (simp [entryFrame, mkF, argsToLocals, Value.category]; done) | rfl
set_option maxRecDepth 65536 in
set_option maxHeartbeats 40000000 in
theorem rm_inc5F (l : Launch) (Z : State) (a0 : Array Value) (hw : ∀ d ∈ tables_1, d.before a0 Z = true) (ws : List Jvm.Cond) (a : Addr) (b : Addr) (c2 : Addr) (c3 : Addr) (c4 : Addr) (c5 : Addr) (h0 : Heap) (n0 : Nat) (Z0 : n0 ≤ h0.size) (F__parent_b : Fld Z h0 b "com/example/gridloom/gridloom/mapping/ItemType" "_parent" "Lcom/example/gridloom/gridloom/mapping/ItemType;" (.ref c2)) (F__parent_c2 : Fld Z h0 c2 "com/example/gridloom/gridloom/mapping/ItemType" "_parent" "Lcom/example/gridloom/gridloom/mapping/ItemType;" (.ref c3)) (F__parent_c3 : Fld Z h0 c3 "com/example/gridloom/gridloom/mapping/ItemType" "_parent" "Lcom/example/gridloom/gridloom/mapping/ItemType;" (.ref c4)) (F__parent_c4 : Fld Z h0 c4 "com/example/gridloom/gridloom/mapping/ItemType" "_parent" "Lcom/example/gridloom/gridloom/mapping/ItemType;" (.ref c5)) (F__parent_c5 : Fld Z h0 c5 "com/example/gridloom/gridloom/mapping/ItemType" "_parent" "Lcom/example/gridloom/gridloom/mapping/ItemType;" .null) (ha8 : ¬ (b = a)) (ha8_2 : ¬ (c2 = a)) (ha8_3 : ¬ (c3 = a)) (ha8_4 : ¬ (c4 = a)) (ha8_5 : ¬ (c5 = a)) :
    MetFree l (⟨"com/example/gridloom/gridloom/mapping/ItemType", "includes", "(Lcom/example/gridloom/gridloom/mapping/ItemType;)Z"⟩ : MethodName) (head1 (Jvm.Cond.code (⟨"com/example/gridloom/gridloom/mapping/ItemType", "includes", "(Lcom/example/gridloom/gridloom/mapping/ItemType;)Z"⟩ : MethodName) prog_81_method_6_code 3 (some .boolean) :: ws) ({ frames := 0, cells := 0, slots := 0, locals := 0 } : Room)) (fun a_ U => a_ = #[(.ref a), (.ref b)] ∧ Z.Warmed39 U.vm ∧ U.heap = h0) (fun _ _ _ _ _ => True) (fun _ U o U' => ∃ v L, o = .returned v ∧ Q_inc5F Z a b c2 c3 c4 c5 h0 n0 v U'.heap L ∧ FrameEnd U o U' L ({ frames := 0, cells := 0, slots := 0, locals := 0 } : Room).cells ({ frames := 0, cells := 0, slots := 0, locals := 0 } : Room).slots) := by
  refine MetFree.of_bodySF (plainFor_of_name pn_1) hisR ?_
  intro p e s m args below meth c s₁ Bd hml0 hP hK
  obtain ⟨rfl, hZ, hh⟩ := hP
  have hx := Bd.exec
  have hby := Bd.bytes
  have hml : c.maxLocals = 3 := hml0
  have hown : s.vm.findClass "com/example/gridloom/gridloom/mapping/ItemType" = some m.cls := findClass_of_methodNamed Bd.named
  have hnm := (name_of_methodNamed Bd.named Bd.method).1
  have X0 : Stand p l e ({ frames := 0, cells := 0, slots := 0, locals := 0 } : Room) s m #[(.ref a), (.ref b)] below meth c s₁ [] 0 0 := Stand.of_body Bd
  have e0 : s₁.heap = h0 := by rw [← hh, Bd.state]; rfl
  have N0 := Fr.nil n0
  have pre0 : ∀ t, Steps p.tables e below (s₁.setTop (mkF m 0 #[.val (.ref a), .val (.ref b), .unset] [])) t → Steps p.tables e below (s₁.setTop (entryFrame m #[(.ref a), (.ref b)] 3)) t := fun t_ k_ => castTop (ef_inc5F m a b) k_
  obtain ⟨T1, X1, e1, st1⟩ := getF X0 hx hZ hown (host := "") (Or.inl (hw _ (List.mem_of_getElem? (i := 53) rfl))) Via.refl e0 F__parent_b (g := (mkF m 14 #[.val (.ref a), .val (.ref b), .val (.ref b)] [(.ref b)])) rfl rfl (hb hby d1_14)
  obtain ⟨T2, X2, e2, st2⟩ := getF X1 hx hZ hown (host := "") (Or.inl (hw _ (List.mem_of_getElem? (i := 53) rfl))) Via.refl e1 F__parent_c2 (g := (mkF m 14 #[.val (.ref a), .val (.ref b), .val (.ref c2)] [(.ref c2)])) rfl rfl (hb hby d1_14)
  obtain ⟨T3, X3, e3, st3⟩ := getF X2 hx hZ hown (host := "") (Or.inl (hw _ (List.mem_of_getElem? (i := 53) rfl))) Via.refl e2 F__parent_c3 (g := (mkF m 14 #[.val (.ref a), .val (.ref b), .val (.ref c3)] [(.ref c3)])) rfl rfl (hb hby d1_14)
  obtain ⟨T4, X4, e4, st4⟩ := getF X3 hx hZ hown (host := "") (Or.inl (hw _ (List.mem_of_getElem? (i := 53) rfl))) Via.refl e3 F__parent_c4 (g := (mkF m 14 #[.val (.ref a), .val (.ref b), .val (.ref c4)] [(.ref c4)])) rfl rfl (hb hby d1_14)
  obtain ⟨T5, X5, e5, st5⟩ := getF X4 hx hZ hown (host := "") (Or.inl (hw _ (List.mem_of_getElem? (i := 53) rfl))) Via.refl e4 F__parent_c5 (g := (mkF m 14 #[.val (.ref a), .val (.ref b), .val (.ref c5)] [(.ref c5)])) rfl rfl (hb hby d1_14)
  obtain ⟨fs, hr, hrun, hended, hW, hsame⟩ := X5.leave (v := some (.int (0 : Int32))) (fun h => by rw [Bd.returns] at h; cases h)
  refine ⟨_, _, pre0 _ ?_, hrun, hended, _, _, rfl, ?_, ⟨_, rfl⟩, hW, hsame.mono (by decide) (by decide)⟩
  · show Steps p.tables e below (s₁.setTop (mkF m 0 #[.val (.ref a), .val (.ref b), .unset] [])) _
    refine XS.aloadN X0.here hx rfl (hb hby d1_0) rfl rfl ?_
    show Steps p.tables e below (s₁.setTop (mkF m 1 #[.val (.ref a), .val (.ref b), .unset] [(.ref b)])) _
    refine XS.astoreN X0.here hx rfl (hb hby d1_1) rfl rfl (l' := #[.val (.ref a), .val (.ref b), .val (.ref b)]) rfl ?_
    show Steps p.tables e below (s₁.setTop (mkF m 2 #[.val (.ref a), .val (.ref b), .val (.ref b)] [])) _
    refine XS.aloadN X0.here hx rfl (hb hby d1_2) rfl rfl ?_
    show Steps p.tables e below (s₁.setTop (mkF m 3 #[.val (.ref a), .val (.ref b), .val (.ref b)] [(.ref b)])) _
    refine XS.ifnullNo X0.here hx rfl (hb hby d1_3) rfl ?_
    show Steps p.tables e below (s₁.setTop (mkF m 6 #[.val (.ref a), .val (.ref b), .val (.ref b)] [])) _
    refine XS.aloadN X0.here hx rfl (hb hby d1_6) rfl rfl ?_
    show Steps p.tables e below (s₁.setTop (mkF m 7 #[.val (.ref a), .val (.ref b), .val (.ref b)] [(.ref b)])) _
    refine XS.aloadN X0.here hx rfl (hb hby d1_7) rfl rfl ?_
    show Steps p.tables e below (s₁.setTop (mkF m 8 #[.val (.ref a), .val (.ref b), .val (.ref b)] [(.ref a), (.ref b)])) _
    refine Jvm.RoadKit.acmp (g := (mkF m 8 #[.val (.ref a), .val (.ref b), .val (.ref b)] [(.ref a), (.ref b)])) X0 hx rfl rfl rfl (pc0 := 8) (pc' := 13) (same := false) rfl (hb hby d1_8) rfl (decide_eq_false fun q => ha8 (Value.ref.inj q)) (by decide) (by decide) ?_
    show Steps p.tables e below (s₁.setTop (mkF m 13 #[.val (.ref a), .val (.ref b), .val (.ref b)] [])) _
    refine XS.aloadN X0.here hx rfl (hb hby d1_13) rfl rfl ?_
    show Steps p.tables e below (s₁.setTop (mkF m 14 #[.val (.ref a), .val (.ref b), .val (.ref b)] [(.ref b)])) _
    refine st1 _ ?_
    show Steps p.tables e below (T1.setTop (mkF m 17 #[.val (.ref a), .val (.ref b), .val (.ref b)] [(.ref c2)])) _
    refine XS.astoreN X1.here hx rfl (hb hby d1_17) rfl rfl (l' := #[.val (.ref a), .val (.ref b), .val (.ref c2)]) rfl ?_
    show Steps p.tables e below (T1.setTop (mkF m 18 #[.val (.ref a), .val (.ref b), .val (.ref c2)] [])) _
    refine XS.goto X1.here hx rfl (pc0 := 18) (pc' := 2) rfl (hb hby d1_18) (by decide) (by decide) ?_
    show Steps p.tables e below (T1.setTop (mkF m 2 #[.val (.ref a), .val (.ref b), .val (.ref c2)] [])) _
    refine XS.aloadN X1.here hx rfl (hb hby d1_2) rfl rfl ?_
    show Steps p.tables e below (T1.setTop (mkF m 3 #[.val (.ref a), .val (.ref b), .val (.ref c2)] [(.ref c2)])) _
    refine XS.ifnullNo X1.here hx rfl (hb hby d1_3) rfl ?_
    show Steps p.tables e below (T1.setTop (mkF m 6 #[.val (.ref a), .val (.ref b), .val (.ref c2)] [])) _
    refine XS.aloadN X1.here hx rfl (hb hby d1_6) rfl rfl ?_
    show Steps p.tables e below (T1.setTop (mkF m 7 #[.val (.ref a), .val (.ref b), .val (.ref c2)] [(.ref c2)])) _
    refine XS.aloadN X1.here hx rfl (hb hby d1_7) rfl rfl ?_
    show Steps p.tables e below (T1.setTop (mkF m 8 #[.val (.ref a), .val (.ref b), .val (.ref c2)] [(.ref a), (.ref c2)])) _
    refine Jvm.RoadKit.acmp (g := (mkF m 8 #[.val (.ref a), .val (.ref b), .val (.ref c2)] [(.ref a), (.ref c2)])) X1 hx rfl rfl rfl (pc0 := 8) (pc' := 13) (same := false) rfl (hb hby d1_8) rfl (decide_eq_false fun q => ha8_2 (Value.ref.inj q)) (by decide) (by decide) ?_
    show Steps p.tables e below (T1.setTop (mkF m 13 #[.val (.ref a), .val (.ref b), .val (.ref c2)] [])) _
    refine XS.aloadN X1.here hx rfl (hb hby d1_13) rfl rfl ?_
    show Steps p.tables e below (T1.setTop (mkF m 14 #[.val (.ref a), .val (.ref b), .val (.ref c2)] [(.ref c2)])) _
    refine st2 _ ?_
    show Steps p.tables e below (T2.setTop (mkF m 17 #[.val (.ref a), .val (.ref b), .val (.ref c2)] [(.ref c3)])) _
    refine XS.astoreN X2.here hx rfl (hb hby d1_17) rfl rfl (l' := #[.val (.ref a), .val (.ref b), .val (.ref c3)]) rfl ?_
    show Steps p.tables e below (T2.setTop (mkF m 18 #[.val (.ref a), .val (.ref b), .val (.ref c3)] [])) _
    refine XS.goto X2.here hx rfl (pc0 := 18) (pc' := 2) rfl (hb hby d1_18) (by decide) (by decide) ?_
    show Steps p.tables e below (T2.setTop (mkF m 2 #[.val (.ref a), .val (.ref b), .val (.ref c3)] [])) _
    refine XS.aloadN X2.here hx rfl (hb hby d1_2) rfl rfl ?_
    show Steps p.tables e below (T2.setTop (mkF m 3 #[.val (.ref a), .val (.ref b), .val (.ref c3)] [(.ref c3)])) _
    refine XS.ifnullNo X2.here hx rfl (hb hby d1_3) rfl ?_
    show Steps p.tables e below (T2.setTop (mkF m 6 #[.val (.ref a), .val (.ref b), .val (.ref c3)] [])) _
    refine XS.aloadN X2.here hx rfl (hb hby d1_6) rfl rfl ?_
    show Steps p.tables e below (T2.setTop (mkF m 7 #[.val (.ref a), .val (.ref b), .val (.ref c3)] [(.ref c3)])) _
    refine XS.aloadN X2.here hx rfl (hb hby d1_7) rfl rfl ?_
    show Steps p.tables e below (T2.setTop (mkF m 8 #[.val (.ref a), .val (.ref b), .val (.ref c3)] [(.ref a), (.ref c3)])) _
    refine Jvm.RoadKit.acmp (g := (mkF m 8 #[.val (.ref a), .val (.ref b), .val (.ref c3)] [(.ref a), (.ref c3)])) X2 hx rfl rfl rfl (pc0 := 8) (pc' := 13) (same := false) rfl (hb hby d1_8) rfl (decide_eq_false fun q => ha8_3 (Value.ref.inj q)) (by decide) (by decide) ?_
    show Steps p.tables e below (T2.setTop (mkF m 13 #[.val (.ref a), .val (.ref b), .val (.ref c3)] [])) _
    refine XS.aloadN X2.here hx rfl (hb hby d1_13) rfl rfl ?_
    show Steps p.tables e below (T2.setTop (mkF m 14 #[.val (.ref a), .val (.ref b), .val (.ref c3)] [(.ref c3)])) _
    refine st3 _ ?_
    show Steps p.tables e below (T3.setTop (mkF m 17 #[.val (.ref a), .val (.ref b), .val (.ref c3)] [(.ref c4)])) _
    refine XS.astoreN X3.here hx rfl (hb hby d1_17) rfl rfl (l' := #[.val (.ref a), .val (.ref b), .val (.ref c4)]) rfl ?_
    show Steps p.tables e below (T3.setTop (mkF m 18 #[.val (.ref a), .val (.ref b), .val (.ref c4)] [])) _
    refine XS.goto X3.here hx rfl (pc0 := 18) (pc' := 2) rfl (hb hby d1_18) (by decide) (by decide) ?_
    show Steps p.tables e below (T3.setTop (mkF m 2 #[.val (.ref a), .val (.ref b), .val (.ref c4)] [])) _
    refine XS.aloadN X3.here hx rfl (hb hby d1_2) rfl rfl ?_
    show Steps p.tables e below (T3.setTop (mkF m 3 #[.val (.ref a), .val (.ref b), .val (.ref c4)] [(.ref c4)])) _
    refine XS.ifnullNo X3.here hx rfl (hb hby d1_3) rfl ?_
    show Steps p.tables e below (T3.setTop (mkF m 6 #[.val (.ref a), .val (.ref b), .val (.ref c4)] [])) _
    refine XS.aloadN X3.here hx rfl (hb hby d1_6) rfl rfl ?_
    show Steps p.tables e below (T3.setTop (mkF m 7 #[.val (.ref a), .val (.ref b), .val (.ref c4)] [(.ref c4)])) _
    refine XS.aloadN X3.here hx rfl (hb hby d1_7) rfl rfl ?_
    show Steps p.tables e below (T3.setTop (mkF m 8 #[.val (.ref a), .val (.ref b), .val (.ref c4)] [(.ref a), (.ref c4)])) _
    refine Jvm.RoadKit.acmp (g := (mkF m 8 #[.val (.ref a), .val (.ref b), .val (.ref c4)] [(.ref a), (.ref c4)])) X3 hx rfl rfl rfl (pc0 := 8) (pc' := 13) (same := false) rfl (hb hby d1_8) rfl (decide_eq_false fun q => ha8_4 (Value.ref.inj q)) (by decide) (by decide) ?_
    show Steps p.tables e below (T3.setTop (mkF m 13 #[.val (.ref a), .val (.ref b), .val (.ref c4)] [])) _
    refine XS.aloadN X3.here hx rfl (hb hby d1_13) rfl rfl ?_
    show Steps p.tables e below (T3.setTop (mkF m 14 #[.val (.ref a), .val (.ref b), .val (.ref c4)] [(.ref c4)])) _
    refine st4 _ ?_
    show Steps p.tables e below (T4.setTop (mkF m 17 #[.val (.ref a), .val (.ref b), .val (.ref c4)] [(.ref c5)])) _
    refine XS.astoreN X4.here hx rfl (hb hby d1_17) rfl rfl (l' := #[.val (.ref a), .val (.ref b), .val (.ref c5)]) rfl ?_
    show Steps p.tables e below (T4.setTop (mkF m 18 #[.val (.ref a), .val (.ref b), .val (.ref c5)] [])) _
    refine XS.goto X4.here hx rfl (pc0 := 18) (pc' := 2) rfl (hb hby d1_18) (by decide) (by decide) ?_
    show Steps p.tables e below (T4.setTop (mkF m 2 #[.val (.ref a), .val (.ref b), .val (.ref c5)] [])) _
    refine XS.aloadN X4.here hx rfl (hb hby d1_2) rfl rfl ?_
    show Steps p.tables e below (T4.setTop (mkF m 3 #[.val (.ref a), .val (.ref b), .val (.ref c5)] [(.ref c5)])) _
    refine XS.ifnullNo X4.here hx rfl (hb hby d1_3) rfl ?_
    show Steps p.tables e below (T4.setTop (mkF m 6 #[.val (.ref a), .val (.ref b), .val (.ref c5)] [])) _
    refine XS.aloadN X4.here hx rfl (hb hby d1_6) rfl rfl ?_
    show Steps p.tables e below (T4.setTop (mkF m 7 #[.val (.ref a), .val (.ref b), .val (.ref c5)] [(.ref c5)])) _
    refine XS.aloadN X4.here hx rfl (hb hby d1_7) rfl rfl ?_
    show Steps p.tables e below (T4.setTop (mkF m 8 #[.val (.ref a), .val (.ref b), .val (.ref c5)] [(.ref a), (.ref c5)])) _
    refine Jvm.RoadKit.acmp (g := (mkF m 8 #[.val (.ref a), .val (.ref b), .val (.ref c5)] [(.ref a), (.ref c5)])) X4 hx rfl rfl rfl (pc0 := 8) (pc' := 13) (same := false) rfl (hb hby d1_8) rfl (decide_eq_false fun q => ha8_5 (Value.ref.inj q)) (by decide) (by decide) ?_
    show Steps p.tables e below (T4.setTop (mkF m 13 #[.val (.ref a), .val (.ref b), .val (.ref c5)] [])) _
    refine XS.aloadN X4.here hx rfl (hb hby d1_13) rfl rfl ?_
    show Steps p.tables e below (T4.setTop (mkF m 14 #[.val (.ref a), .val (.ref b), .val (.ref c5)] [(.ref c5)])) _
    refine st5 _ ?_
    show Steps p.tables e below (T5.setTop (mkF m 17 #[.val (.ref a), .val (.ref b), .val (.ref c5)] [.null])) _
    refine XS.astoreN X5.here hx rfl (hb hby d1_17) rfl rfl (l' := #[.val (.ref a), .val (.ref b), .val .null]) rfl ?_
    show Steps p.tables e below (T5.setTop (mkF m 18 #[.val (.ref a), .val (.ref b), .val .null] [])) _
    refine XS.goto X5.here hx rfl (pc0 := 18) (pc' := 2) rfl (hb hby d1_18) (by decide) (by decide) ?_
    show Steps p.tables e below (T5.setTop (mkF m 2 #[.val (.ref a), .val (.ref b), .val .null] [])) _
    refine XS.aloadN X5.here hx rfl (hb hby d1_2) rfl rfl ?_
    show Steps p.tables e below (T5.setTop (mkF m 3 #[.val (.ref a), .val (.ref b), .val .null] [.null])) _
    refine XS.ifnullYes X5.here hx rfl (pc0 := 3) (pc' := 21) rfl (hb hby d1_3) rfl (by decide) (by decide) ?_
    show Steps p.tables e below (T5.setTop (mkF m 21 #[.val (.ref a), .val (.ref b), .val .null] [])) _
    refine XS.iconst X5.here hx rfl (hb hby d1_21) ?_
    show Steps p.tables e below (T5.setTop (mkF m 22 #[.val (.ref a), .val (.ref b), .val .null] [(.int (0 : Int32))])) _
    exact retN X5 hx (t := .boolean) Bd.returns (by simp) (hb hby d1_22) hr
  · show Q_inc5F Z a b c2 c3 c4 c5 h0 n0 _ T5.heap _
    rw [e5]
    exact ⟨rfl, N0, rfl⟩
def Q_inc (Z : State) (a : Addr) (b : Addr) (CL : List Addr) (r : Int32) (h0 : Heap) (n0 : Nat) (v : Option Value) (h : Heap) (L : List Loc) : Prop := v = some (.int r) ∧ Fr n0 L ∧ h = h0
theorem rm_inc (l : Launch) (Z : State) (a0 : Array Value) (hw : ∀ d ∈ tables_1, d.before a0 Z = true) (ws : List Jvm.Cond) (a : Addr) (b : Addr) (CL : List Addr) (r : Int32) (h0 : Heap) (n0 : Nat) (Z0 : n0 ≤ h0.size) (hhd : CL.head? = some b) (hch : own_Chain Z h0 CL) (hlen : CL.length ≤ 5) (hr : r = if a ∈ CL then 1 else 0) :
    MetFree l (⟨"com/example/gridloom/gridloom/mapping/ItemType", "includes", "(Lcom/example/gridloom/gridloom/mapping/ItemType;)Z"⟩ : MethodName) (head1 (Jvm.Cond.code (⟨"com/example/gridloom/gridloom/mapping/ItemType", "includes", "(Lcom/example/gridloom/gridloom/mapping/ItemType;)Z"⟩ : MethodName) prog_81_method_6_code 3 (some .boolean) :: ws) ({ frames := 0, cells := 0, slots := 0, locals := 0 } : Room)) (fun a_ U => a_ = #[(.ref a), (.ref b)] ∧ Z.Warmed39 U.vm ∧ U.heap = h0) (fun _ _ _ _ _ => True) (fun _ U o U' => ∃ v L, o = .returned v ∧ Q_inc Z a b CL r h0 n0 v U'.heap L ∧ FrameEnd U o U' L ({ frames := 0, cells := 0, slots := 0, locals := 0 } : Room).cells ({ frames := 0, cells := 0, slots := 0, locals := 0 } : Room).slots) := by
  match CL, hhd, hch, hlen, hr with
  | [b'], hhd, hch, hlen, hr =>
    obtain rfl : b' = b := Option.some.inj hhd
    have F0 := hch
    by_cases q0 : b' = a
    · obtain rfl : r = 1 := by rw [hr, if_pos (by simp [q0])]
      exact rm_inc1T_0 l Z a0 hw ws a b'  h0 n0 Z0 F0 q0
    obtain rfl : r = 0 := by rw [hr, if_neg (by simp [Ne.symm q0])]
    exact rm_inc1F l Z a0 hw ws a b'  h0 n0 Z0 F0 q0
  | [b', c2], hhd, hch, hlen, hr =>
    obtain rfl : b' = b := Option.some.inj hhd
    obtain ⟨F0, F1⟩ := hch
    by_cases q0 : b' = a
    · obtain rfl : r = 1 := by rw [hr, if_pos (by simp [q0])]
      exact rm_inc2T_0 l Z a0 hw ws a b' c2 h0 n0 Z0 F0 F1 q0
    by_cases q1 : c2 = a
    · obtain rfl : r = 1 := by rw [hr, if_pos (by simp [q1])]
      exact rm_inc2T_1 l Z a0 hw ws a b' c2 h0 n0 Z0 F0 F1 q0 q1
    obtain rfl : r = 0 := by rw [hr, if_neg (by simp [Ne.symm q0, Ne.symm q1])]
    exact rm_inc2F l Z a0 hw ws a b' c2 h0 n0 Z0 F0 F1 q0 q1
  | [b', c2, c3], hhd, hch, hlen, hr =>
    obtain rfl : b' = b := Option.some.inj hhd
    obtain ⟨F0, F1, F2⟩ := hch
    by_cases q0 : b' = a
    · obtain rfl : r = 1 := by rw [hr, if_pos (by simp [q0])]
      exact rm_inc3T_0 l Z a0 hw ws a b' c2 c3 h0 n0 Z0 F0 F1 F2 q0
    by_cases q1 : c2 = a
    · obtain rfl : r = 1 := by rw [hr, if_pos (by simp [q1])]
      exact rm_inc3T_1 l Z a0 hw ws a b' c2 c3 h0 n0 Z0 F0 F1 F2 q0 q1
    by_cases q2 : c3 = a
    · obtain rfl : r = 1 := by rw [hr, if_pos (by simp [q2])]
      exact rm_inc3T_2 l Z a0 hw ws a b' c2 c3 h0 n0 Z0 F0 F1 F2 q0 q1 q2
    obtain rfl : r = 0 := by rw [hr, if_neg (by simp [Ne.symm q0, Ne.symm q1, Ne.symm q2])]
    exact rm_inc3F l Z a0 hw ws a b' c2 c3 h0 n0 Z0 F0 F1 F2 q0 q1 q2
  | [b', c2, c3, c4], hhd, hch, hlen, hr =>
    obtain rfl : b' = b := Option.some.inj hhd
    obtain ⟨F0, F1, F2, F3⟩ := hch
    by_cases q0 : b' = a
    · obtain rfl : r = 1 := by rw [hr, if_pos (by simp [q0])]
      exact rm_inc4T_0 l Z a0 hw ws a b' c2 c3 c4 h0 n0 Z0 F0 F1 F2 F3 q0
    by_cases q1 : c2 = a
    · obtain rfl : r = 1 := by rw [hr, if_pos (by simp [q1])]
      exact rm_inc4T_1 l Z a0 hw ws a b' c2 c3 c4 h0 n0 Z0 F0 F1 F2 F3 q0 q1
    by_cases q2 : c3 = a
    · obtain rfl : r = 1 := by rw [hr, if_pos (by simp [q2])]
      exact rm_inc4T_2 l Z a0 hw ws a b' c2 c3 c4 h0 n0 Z0 F0 F1 F2 F3 q0 q1 q2
    by_cases q3 : c4 = a
    · obtain rfl : r = 1 := by rw [hr, if_pos (by simp [q3])]
      exact rm_inc4T_3 l Z a0 hw ws a b' c2 c3 c4 h0 n0 Z0 F0 F1 F2 F3 q0 q1 q2 q3
    obtain rfl : r = 0 := by rw [hr, if_neg (by simp [Ne.symm q0, Ne.symm q1, Ne.symm q2, Ne.symm q3])]
    exact rm_inc4F l Z a0 hw ws a b' c2 c3 c4 h0 n0 Z0 F0 F1 F2 F3 q0 q1 q2 q3
  | [b', c2, c3, c4, c5], hhd, hch, hlen, hr =>
    obtain rfl : b' = b := Option.some.inj hhd
    obtain ⟨F0, F1, F2, F3, F4⟩ := hch
    by_cases q0 : b' = a
    · obtain rfl : r = 1 := by rw [hr, if_pos (by simp [q0])]
      exact rm_inc5T_0 l Z a0 hw ws a b' c2 c3 c4 c5 h0 n0 Z0 F0 F1 F2 F3 F4 q0
    by_cases q1 : c2 = a
    · obtain rfl : r = 1 := by rw [hr, if_pos (by simp [q1])]
      exact rm_inc5T_1 l Z a0 hw ws a b' c2 c3 c4 c5 h0 n0 Z0 F0 F1 F2 F3 F4 q0 q1
    by_cases q2 : c3 = a
    · obtain rfl : r = 1 := by rw [hr, if_pos (by simp [q2])]
      exact rm_inc5T_2 l Z a0 hw ws a b' c2 c3 c4 c5 h0 n0 Z0 F0 F1 F2 F3 F4 q0 q1 q2
    by_cases q3 : c4 = a
    · obtain rfl : r = 1 := by rw [hr, if_pos (by simp [q3])]
      exact rm_inc5T_3 l Z a0 hw ws a b' c2 c3 c4 c5 h0 n0 Z0 F0 F1 F2 F3 F4 q0 q1 q2 q3
    by_cases q4 : c5 = a
    · obtain rfl : r = 1 := by rw [hr, if_pos (by simp [q4])]
      exact rm_inc5T_4 l Z a0 hw ws a b' c2 c3 c4 c5 h0 n0 Z0 F0 F1 F2 F3 F4 q0 q1 q2 q3 q4
    obtain rfl : r = 0 := by rw [hr, if_neg (by simp [Ne.symm q0, Ne.symm q1, Ne.symm q2, Ne.symm q3, Ne.symm q4])]
    exact rm_inc5F l Z a0 hw ws a b' c2 c3 c4 c5 h0 n0 Z0 F0 F1 F2 F3 F4 q0 q1 q2 q3 q4
  | [], hhd, _, _, _ => cases hhd
  | _ :: _ :: _ :: _ :: _ :: _ :: _, _, _, hlen, _ => simp at hlen
theorem pd__28Lcom_2fexample_2fgridloom_2fgridloom_2fmapping_2fItemType_3b_29Z : parseMethodDescriptor "(Lcom/example/gridloom/gridloom/mapping/ItemType;)Z" = some ⟨[(.object "com/example/gridloom/gridloom/mapping/ItemType")], some .boolean⟩ := by decide +kernel
def Q_law (Z : State) (p1 : Int32) (p2 : Int32) (w0 : Addr) (w1 : Addr) (w2 : Addr) (w3 : Addr) (w4 : Addr) (w5 : Addr) (w6 : Addr) (w7 : Addr) (w8 : Addr) (w9 : Addr) (w10 : Addr) (w11 : Addr) (w12 : Addr) (w13 : Addr) (w14 : Addr) (w15 : Addr) (w16 : Addr) (w17 : Addr) (w18 : Addr) (a : Addr) (b : Addr) (y : Int32) (CL : List Addr) (h0 : Heap) (n0 : Nat) (v : Option Value) (h : Heap) (L : List Loc) : Prop := v = some (.int (1 : Int32)) ∧ Fr n0 L
theorem pn_0 : plainName "com/example/gridloom/gridloom/mapping/ItemTypeIncludesPinLaw" = true := by first | (simp [plainName, overriddenIn]; done) | decide +kernel
theorem ef_law (m : MethodId) (p1 : Int32) (p2 : Int32) : entryFrame m #[(.int p1), (.int p2)] maxLocals = mkF m 0 #[.val (.int p1), .val (.int p2), .unset, .unset, .unset, .unset, .unset] [] := by first | (simp [entryFrame, mkF, argsToLocals, Value.category, maxLocals]; done) | rfl
set_option maxRecDepth 65536 in
set_option maxHeartbeats 40000000 in
theorem rm_law_y (l : Launch) (Z : State) (a0 : Array Value) (hw : ∀ d ∈ tables_1, d.before a0 Z = true) (ws : List Jvm.Cond) (p1 : Int32) (p2 : Int32) (w0 : Addr) (w1 : Addr) (w2 : Addr) (w3 : Addr) (w4 : Addr) (w5 : Addr) (w6 : Addr) (w7 : Addr) (w8 : Addr) (w9 : Addr) (w10 : Addr) (w11 : Addr) (w12 : Addr) (w13 : Addr) (w14 : Addr) (w15 : Addr) (w16 : Addr) (w17 : Addr) (w18 : Addr) (a : Addr) (b : Addr) (y : Int32) (CL : List Addr) (h0 : Heap) (n0 : Nat) (Z0 : n0 ≤ h0.size) (S_ITEM : Sta Z h0 "com/example/gridloom/gridloom/mapping/ItemType" "ITEM" "Lcom/example/gridloom/gridloom/mapping/ItemType;" (.ref w0)) (S_ATOMIC : Sta Z h0 "com/example/gridloom/gridloom/mapping/ItemType" "ATOMIC" "Lcom/example/gridloom/gridloom/mapping/ItemType;" (.ref w1)) (S_STRING : Sta Z h0 "com/example/gridloom/gridloom/mapping/ItemType" "STRING" "Lcom/example/gridloom/gridloom/mapping/ItemType;" (.ref w2)) (S_NUMERIC : Sta Z h0 "com/example/gridloom/gridloom/mapping/ItemType" "NUMERIC" "Lcom/example/gridloom/gridloom/mapping/ItemType;" (.ref w3)) (S_DECIMAL : Sta Z h0 "com/example/gridloom/gridloom/mapping/ItemType" "DECIMAL" "Lcom/example/gridloom/gridloom/mapping/ItemType;" (.ref w4)) (S_INTEGER : Sta Z h0 "com/example/gridloom/gridloom/mapping/ItemType" "INTEGER" "Lcom/example/gridloom/gridloom/mapping/ItemType;" (.ref w5)) (S_DOUBLE : Sta Z h0 "com/example/gridloom/gridloom/mapping/ItemType" "DOUBLE" "Lcom/example/gridloom/gridloom/mapping/ItemType;" (.ref w6)) (S_BOOLEAN : Sta Z h0 "com/example/gridloom/gridloom/mapping/ItemType" "BOOLEAN" "Lcom/example/gridloom/gridloom/mapping/ItemType;" (.ref w7)) (S_DATE_TIME : Sta Z h0 "com/example/gridloom/gridloom/mapping/ItemType" "DATE_TIME" "Lcom/example/gridloom/gridloom/mapping/ItemType;" (.ref w8)) (S_DATE : Sta Z h0 "com/example/gridloom/gridloom/mapping/ItemType" "DATE" "Lcom/example/gridloom/gridloom/mapping/ItemType;" (.ref w9)) (S_TIME : Sta Z h0 "com/example/gridloom/gridloom/mapping/ItemType" "TIME" "Lcom/example/gridloom/gridloom/mapping/ItemType;" (.ref w10)) (S_DURATION : Sta Z h0 "com/example/gridloom/gridloom/mapping/ItemType" "DURATION" "Lcom/example/gridloom/gridloom/mapping/ItemType;" (.ref w11)) (S_YEAR_MONTH_DURATION : Sta Z h0 "com/example/gridloom/gridloom/mapping/ItemType" "YEAR_MONTH_DURATION" "Lcom/example/gridloom/gridloom/mapping/ItemType;" (.ref w12)) (S_DAY_TIME_DURATION : Sta Z h0 "com/example/gridloom/gridloom/mapping/ItemType" "DAY_TIME_DURATION" "Lcom/example/gridloom/gridloom/mapping/ItemType;" (.ref w13)) (S_NULL : Sta Z h0 "com/example/gridloom/gridloom/mapping/ItemType" "NULL" "Lcom/example/gridloom/gridloom/mapping/ItemType;" (.ref w14)) (S_JSON_ITEM : Sta Z h0 "com/example/gridloom/gridloom/mapping/ItemType" "JSON_ITEM" "Lcom/example/gridloom/gridloom/mapping/ItemType;" (.ref w15)) (S_OBJECT : Sta Z h0 "com/example/gridloom/gridloom/mapping/ItemType" "OBJECT" "Lcom/example/gridloom/gridloom/mapping/ItemType;" (.ref w16)) (S_ARRAY : Sta Z h0 "com/example/gridloom/gridloom/mapping/ItemType" "ARRAY" "Lcom/example/gridloom/gridloom/mapping/ItemType;" (.ref w17)) (S_FUNCTION : Sta Z h0 "com/example/gridloom/gridloom/mapping/ItemType" "FUNCTION" "Lcom/example/gridloom/gridloom/mapping/ItemType;" (.ref w18)) (E_w0 : Exa Z h0 w0 "com/example/gridloom/gridloom/mapping/ItemType") (E_w1 : Exa Z h0 w1 "com/example/gridloom/gridloom/mapping/ItemType") (E_w2 : Exa Z h0 w2 "com/example/gridloom/gridloom/mapping/ItemType") (E_w3 : Exa Z h0 w3 "com/example/gridloom/gridloom/mapping/ItemType") (E_w4 : Exa Z h0 w4 "com/example/gridloom/gridloom/mapping/ItemType") (E_w5 : Exa Z h0 w5 "com/example/gridloom/gridloom/mapping/ItemType") (E_w6 : Exa Z h0 w6 "com/example/gridloom/gridloom/mapping/ItemType") (E_w7 : Exa Z h0 w7 "com/example/gridloom/gridloom/mapping/ItemType") (E_w8 : Exa Z h0 w8 "com/example/gridloom/gridloom/mapping/ItemType") (E_w9 : Exa Z h0 w9 "com/example/gridloom/gridloom/mapping/ItemType") (E_w10 : Exa Z h0 w10 "com/example/gridloom/gridloom/mapping/ItemType") (E_w11 : Exa Z h0 w11 "com/example/gridloom/gridloom/mapping/ItemType") (E_w12 : Exa Z h0 w12 "com/example/gridloom/gridloom/mapping/ItemType") (E_w13 : Exa Z h0 w13 "com/example/gridloom/gridloom/mapping/ItemType") (E_w14 : Exa Z h0 w14 "com/example/gridloom/gridloom/mapping/ItemType") (E_w15 : Exa Z h0 w15 "com/example/gridloom/gridloom/mapping/ItemType") (E_w16 : Exa Z h0 w16 "com/example/gridloom/gridloom/mapping/ItemType") (E_w17 : Exa Z h0 w17 "com/example/gridloom/gridloom/mapping/ItemType") (E_w18 : Exa Z h0 w18 "com/example/gridloom/gridloom/mapping/ItemType") (E_a : Exa Z h0 a "com/example/gridloom/gridloom/mapping/ItemType") (E_b : Exa Z h0 b "com/example/gridloom/gridloom/mapping/ItemType") (lo1 : ¬ ((p1 &&& (2147483647 : Int32)) % (19 : Int32)) < 0) (hi1 : ((p1 &&& (2147483647 : Int32)) % (19 : Int32)) < 19) (lo2 : ¬ ((p2 &&& (2147483647 : Int32)) % (19 : Int32)) < 0) (hi2 : ((p2 &&& (2147483647 : Int32)) % (19 : Int32)) < 19) (sel1 : List.getD [(Value.ref w0), (Value.ref w1), (Value.ref w2), (Value.ref w3), (Value.ref w4), (Value.ref w5), (Value.ref w6), (Value.ref w7), (Value.ref w8), (Value.ref w9), (Value.ref w10), (Value.ref w11), (Value.ref w12), (Value.ref w13), (Value.ref w14), (Value.ref w15), (Value.ref w16), (Value.ref w17), (Value.ref w18)] (((p1 &&& (2147483647 : Int32)) % (19 : Int32))).toNatClampNeg .null = .ref a) (sel2 : List.getD [(Value.ref w0), (Value.ref w1), (Value.ref w2), (Value.ref w3), (Value.ref w4), (Value.ref w5), (Value.ref w6), (Value.ref w7), (Value.ref w8), (Value.ref w9), (Value.ref w10), (Value.ref w11), (Value.ref w12), (Value.ref w13), (Value.ref w14), (Value.ref w15), (Value.ref w16), (Value.ref w17), (Value.ref w18)] (((p2 &&& (2147483647 : Int32)) % (19 : Int32))).toNatClampNeg .null = .ref b) (sel3 : List.getD [(Value.int (1 : Int32)), (Value.int (3 : Int32)), (Value.int (7 : Int32)), (Value.int (11 : Int32)), (Value.int (27 : Int32)), (Value.int (59 : Int32)), (Value.int (75 : Int32)), (Value.int (131 : Int32)), (Value.int (259 : Int32)), (Value.int (515 : Int32)), (Value.int (1027 : Int32)), (Value.int (2051 : Int32)), (Value.int (6147 : Int32)), (Value.int (10243 : Int32)), (Value.int (16387 : Int32)), (Value.int (32769 : Int32)), (Value.int (98305 : Int32)), (Value.int (163841 : Int32)), (Value.int (262145 : Int32))] (((p2 &&& (2147483647 : Int32)) % (19 : Int32))).toNatClampNeg (.int (0 : Int32)) = .int y) (hhd : CL.head? = some b) (hch : own_Chain Z h0 CL) (hlen : CL.length ≤ 5) (hret : (1 : Int32) = if a ∈ CL then 1 else 0) (hc279 : ¬ ((((y.toUInt32 >>> (((p1 &&& (2147483647 : Int32)) % (19 : Int32)) &&& 31).toUInt32).toInt32) &&& (1 : Int32)) = (0 : Int32))) :
    MetFree l x (head1 (Jvm.Cond.code x code maxLocals ret :: ws) room_1) (fun a_ U => a_ = #[(.int p1), (.int p2)] ∧ Z.Warmed39 U.vm ∧ U.heap = h0) (fun _ _ _ _ _ => True) (fun _ U o U' => ∃ v L, o = .returned v ∧ Q_law Z p1 p2 w0 w1 w2 w3 w4 w5 w6 w7 w8 w9 w10 w11 w12 w13 w14 w15 w16 w17 w18 a b y CL h0 n0 v U'.heap L ∧ FrameEnd U o U' L room_1.cells room_1.slots) := by
  refine MetFree.of_bodySF (plainFor_of_name pn_0) hisR ?_
  intro p e s m args below meth c s₁ Bd hml0 hP hK
  obtain ⟨rfl, hZ, hh⟩ := hP
  have hx := Bd.exec
  have hby := Bd.bytes
  have hml : c.maxLocals = 7 := hml0
  have hown : s.vm.findClass "com/example/gridloom/gridloom/mapping/ItemTypeIncludesPinLaw" = some m.cls := findClass_of_methodNamed Bd.named
  have hnm := (name_of_methodNamed Bd.named Bd.method).1
  have X0 : Stand p l e room_1 s m #[(.int p1), (.int p2)] below meth c s₁ [] 0 0 := Stand.of_body Bd
  have e0 : s₁.heap = h0 := by rw [← hh, Bd.state]; rfl
  have N0 := Fr.nil n0
  have pre0 : ∀ t, Steps p.tables e below (s₁.setTop (mkF m 0 #[.val (.int p1), .val (.int p2), .unset, .unset, .unset, .unset, .unset] [])) t → Steps p.tables e below (s₁.setTop (entryFrame m #[(.int p1), (.int p2)] maxLocals)) t := fun t_ k_ => castTop (ef_law m p1 p2) k_
  obtain ⟨T1, h1, k1, X1, e1, E1, A1, O1, st1⟩ := newR X0 hx hZ hown (hw _ (List.mem_of_getElem? (i := 0) rfl)) (hw _ (List.mem_of_getElem? (i := 1) rfl)) e0 (g := (mkF m 2 #[.val (.int p1), .val (.int p2), .unset, .unset, .unset, .unset, .unset] [(.int (19 : Int32))])) rfl (hb hby at_2) rfl (by decide) (cap := 19) (by decide) (by decide) (by decide) (by decide)
  obtain ⟨b1, g1⟩ : ∃ z, z = h0.size := ⟨_, rfl⟩
  rw [← g1] at A1 st1
  have sz_b1 : h0.size ≤ b1 := Nat.le_trans (Keep.refl h0 []).1 (Nat.le_of_eq g1.symm)
  have g_b1 : n0 ≤ b1 := Nat.le_trans Z0 sz_b1
  have Kc1 : Keep h0 h1 [] := (Keep.refl h0 []).ext E1
  have V_b1 : Arv Z h1 b1 k1 (.object "com/example/gridloom/gridloom/mapping/ItemType") (19 : Int32) [.null, .null, .null, .null, .null, .null, .null, .null, .null, .null, .null, .null, .null, .null, .null, .null, .null, .null, .null] .null := (Arv.new A1 (by decide)).pad (pad_rep [] .null 19)
  have f2 : Sta Z h1 "com/example/gridloom/gridloom/mapping/ItemType" "ITEM" "Lcom/example/gridloom/gridloom/mapping/ItemType;" (.ref w0) := (Sta.ext E1 S_ITEM)
  obtain ⟨T3, X3, e3, st3⟩ := getS2 X1 hx hZ hown (host := "") (Or.inl (hw _ (List.mem_of_getElem? (i := 2) rfl))) Via.refl e1 f2 (g := (mkF m 7 #[.val (.int p1), .val (.int p2), .unset, .unset, .unset, .unset, .unset] [(.int (0 : Int32)), (.ref b1), (.ref b1)])) rfl (hb hby at_7)
  obtain ⟨cl4, Ar4, qq4, Sz4, Nn4, Hs4, Gg4⟩ := id V_b1
  have hin4_10 : ¬ ((0 : Int32) < 0 ∨ cl4.slots.size ≤ ((0 : Int32)).toNatClampNeg) := inb_of Sz4 ⟨by decide, by decide⟩
  have f6 : Exa Z h1 w0 "com/example/gridloom/gridloom/mapping/ItemType" := (Exa.ext E1 E_w0)
  obtain ⟨T5, h5, X5, e5, W5, st5⟩ := stR X3 hx hZ e3 Ar4 (j := (0 : Int32)) hin4_10 rfl (Sto.ofV Ar4 qq4 O1 (Ins.self f6)) (g := (mkF m 10 #[.val (.int p1), .val (.int p2), .unset, .unset, .unset, .unset, .unset] [(.ref w0), (.int (0 : Int32)), (.ref b1), (.ref b1)])) rfl rfl (hb hby at_10)
  have N5 := Fr.snoc X5 N0 g_b1
  have Kc5 : Keep h0 h5 [] := Kc1.wr W5 (Or.inr sz_b1)
  have Vw5 : Arv Z h5 b1 k1 (.object "com/example/gridloom/gridloom/mapping/ItemType") (19 : Int32) [(.ref w0), .null, .null, .null, .null, .null, .null, .null, .null, .null, .null, .null, .null, .null, .null, .null, .null, .null, .null] .null := Arv.set Ar4 qq4 Sz4 Nn4 Hs4 Gg4 rfl W5 0 rfl (Nat.le_of_ble_eq_true rfl)
  have f7 : Sta Z h5 "com/example/gridloom/gridloom/mapping/ItemType" "ATOMIC" "Lcom/example/gridloom/gridloom/mapping/ItemType;" (.ref w1) := (Sta.wr W5 (Sta.ext E1 S_ATOMIC))
  obtain ⟨T8, X8, e8, st8⟩ := getS2 X5 hx hZ hown (host := "") (Or.inl (hw _ (List.mem_of_getElem? (i := 6) rfl))) Via.refl e5 f7 (g := (mkF m 13 #[.val (.int p1), .val (.int p2), .unset, .unset, .unset, .unset, .unset] [(.int (1 : Int32)), (.ref b1), (.ref b1)])) rfl (hb hby at_13)
  obtain ⟨cl9, Ar9, qq9, Sz9, Nn9, Hs9, Gg9⟩ := id Vw5
  have hin9_16 : ¬ ((1 : Int32) < 0 ∨ cl9.slots.size ≤ ((1 : Int32)).toNatClampNeg) := inb_of Sz9 ⟨by decide, by decide⟩
  have f11 : Exa Z h5 w1 "com/example/gridloom/gridloom/mapping/ItemType" := (Exa.wr W5 (Exa.ext E1 E_w1))
  obtain ⟨T10, h10, X10, e10, W10, st10⟩ := stR X8 hx hZ e8 Ar9 (j := (1 : Int32)) hin9_16 rfl (Sto.ofV Ar9 qq9 O1 (Ins.self f11)) (g := (mkF m 16 #[.val (.int p1), .val (.int p2), .unset, .unset, .unset, .unset, .unset] [(.ref w1), (.int (1 : Int32)), (.ref b1), (.ref b1)])) rfl rfl (hb hby at_16)
  have N10 := Fr.snoc X10 N5 g_b1
  have Kc10 : Keep h0 h10 [] := Kc5.wr W10 (Or.inr sz_b1)
  have Vw10 : Arv Z h10 b1 k1 (.object "com/example/gridloom/gridloom/mapping/ItemType") (19 : Int32) [(.ref w0), (.ref w1), .null, .null, .null, .null, .null, .null, .null, .null, .null, .null, .null, .null, .null, .null, .null, .null, .null] .null := Arv.set Ar9 qq9 Sz9 Nn9 Hs9 Gg9 rfl W10 1 rfl (Nat.le_of_ble_eq_true rfl)
  have f12 : Sta Z h10 "com/example/gridloom/gridloom/mapping/ItemType" "STRING" "Lcom/example/gridloom/gridloom/mapping/ItemType;" (.ref w2) := (Sta.wr W10 (Sta.wr W5 (Sta.ext E1 S_STRING)))
  obtain ⟨T13, X13, e13, st13⟩ := getS2 X10 hx hZ hown (host := "") (Or.inl (hw _ (List.mem_of_getElem? (i := 8) rfl))) Via.refl e10 f12 (g := (mkF m 19 #[.val (.int p1), .val (.int p2), .unset, .unset, .unset, .unset, .unset] [(.int (2 : Int32)), (.ref b1), (.ref b1)])) rfl (hb hby at_19)
  obtain ⟨cl14, Ar14, qq14, Sz14, Nn14, Hs14, Gg14⟩ := id Vw10
  have hin14_22 : ¬ ((2 : Int32) < 0 ∨ cl14.slots.size ≤ ((2 : Int32)).toNatClampNeg) := inb_of Sz14 ⟨by decide, by decide⟩
  have f16 : Exa Z h10 w2 "com/example/gridloom/gridloom/mapping/ItemType" := (Exa.wr W10 (Exa.wr W5 (Exa.ext E1 E_w2)))
  obtain ⟨T15, h15, X15, e15, W15, st15⟩ := stR X13 hx hZ e13 Ar14 (j := (2 : Int32)) hin14_22 rfl (Sto.ofV Ar14 qq14 O1 (Ins.self f16)) (g := (mkF m 22 #[.val (.int p1), .val (.int p2), .unset, .unset, .unset, .unset, .unset] [(.ref w2), (.int (2 : Int32)), (.ref b1), (.ref b1)])) rfl rfl (hb hby at_22)
  have N15 := Fr.snoc X15 N10 g_b1
  have Kc15 : Keep h0 h15 [] := Kc10.wr W15 (Or.inr sz_b1)
  have Vw15 : Arv Z h15 b1 k1 (.object "com/example/gridloom/gridloom/mapping/ItemType") (19 : Int32) [(.ref w0), (.ref w1), (.ref w2), .null, .null, .null, .null, .null, .null, .null, .null, .null, .null, .null, .null, .null, .null, .null, .null] .null := Arv.set Ar14 qq14 Sz14 Nn14 Hs14 Gg14 rfl W15 2 rfl (Nat.le_of_ble_eq_true rfl)
  have f17 : Sta Z h15 "com/example/gridloom/gridloom/mapping/ItemType" "NUMERIC" "Lcom/example/gridloom/gridloom/mapping/ItemType;" (.ref w3) := (Sta.wr W15 (Sta.wr W10 (Sta.wr W5 (Sta.ext E1 S_NUMERIC))))
  obtain ⟨T18, X18, e18, st18⟩ := getS2 X15 hx hZ hown (host := "") (Or.inl (hw _ (List.mem_of_getElem? (i := 10) rfl))) Via.refl e15 f17 (g := (mkF m 25 #[.val (.int p1), .val (.int p2), .unset, .unset, .unset, .unset, .unset] [(.int (3 : Int32)), (.ref b1), (.ref b1)])) rfl (hb hby at_25)
  obtain ⟨cl19, Ar19, qq19, Sz19, Nn19, Hs19, Gg19⟩ := id Vw15
  have hin19_28 : ¬ ((3 : Int32) < 0 ∨ cl19.slots.size ≤ ((3 : Int32)).toNatClampNeg) := inb_of Sz19 ⟨by decide, by decide⟩
  have f21 : Exa Z h15 w3 "com/example/gridloom/gridloom/mapping/ItemType" := (Exa.wr W15 (Exa.wr W10 (Exa.wr W5 (Exa.ext E1 E_w3))))
  obtain ⟨T20, h20, X20, e20, W20, st20⟩ := stR X18 hx hZ e18 Ar19 (j := (3 : Int32)) hin19_28 rfl (Sto.ofV Ar19 qq19 O1 (Ins.self f21)) (g := (mkF m 28 #[.val (.int p1), .val (.int p2), .unset, .unset, .unset, .unset, .unset] [(.ref w3), (.int (3 : Int32)), (.ref b1), (.ref b1)])) rfl rfl (hb hby at_28)
  have N20 := Fr.snoc X20 N15 g_b1
  have Kc20 : Keep h0 h20 [] := Kc15.wr W20 (Or.inr sz_b1)
  have Vw20 : Arv Z h20 b1 k1 (.object "com/example/gridloom/gridloom/mapping/ItemType") (19 : Int32) [(.ref w0), (.ref w1), (.ref w2), (.ref w3), .null, .null, .null, .null, .null, .null, .null, .null, .null, .null, .null, .null, .null, .null, .null] .null := Arv.set Ar19 qq19 Sz19 Nn19 Hs19 Gg19 rfl W20 3 rfl (Nat.le_of_ble_eq_true rfl)
  have f22 : Sta Z h20 "com/example/gridloom/gridloom/mapping/ItemType" "DECIMAL" "Lcom/example/gridloom/gridloom/mapping/ItemType;" (.ref w4) := (Sta.wr W20 (Sta.wr W15 (Sta.wr W10 (Sta.wr W5 (Sta.ext E1 S_DECIMAL)))))
  obtain ⟨T23, X23, e23, st23⟩ := getS2 X20 hx hZ hown (host := "") (Or.inl (hw _ (List.mem_of_getElem? (i := 12) rfl))) Via.refl e20 f22 (g := (mkF m 31 #[.val (.int p1), .val (.int p2), .unset, .unset, .unset, .unset, .unset] [(.int (4 : Int32)), (.ref b1), (.ref b1)])) rfl (hb hby at_31)
  obtain ⟨cl24, Ar24, qq24, Sz24, Nn24, Hs24, Gg24⟩ := id Vw20
  have hin24_34 : ¬ ((4 : Int32) < 0 ∨ cl24.slots.size ≤ ((4 : Int32)).toNatClampNeg) := inb_of Sz24 ⟨by decide, by decide⟩
  have f26 : Exa Z h20 w4 "com/example/gridloom/gridloom/mapping/ItemType" := (Exa.wr W20 (Exa.wr W15 (Exa.wr W10 (Exa.wr W5 (Exa.ext E1 E_w4)))))
  obtain ⟨T25, h25, X25, e25, W25, st25⟩ := stR X23 hx hZ e23 Ar24 (j := (4 : Int32)) hin24_34 rfl (Sto.ofV Ar24 qq24 O1 (Ins.self f26)) (g := (mkF m 34 #[.val (.int p1), .val (.int p2), .unset, .unset, .unset, .unset, .unset] [(.ref w4), (.int (4 : Int32)), (.ref b1), (.ref b1)])) rfl rfl (hb hby at_34)
  have N25 := Fr.snoc X25 N20 g_b1
  have Kc25 : Keep h0 h25 [] := Kc20.wr W25 (Or.inr sz_b1)
  have Vw25 : Arv Z h25 b1 k1 (.object "com/example/gridloom/gridloom/mapping/ItemType") (19 : Int32) [(.ref w0), (.ref w1), (.ref w2), (.ref w3), (.ref w4), .null, .null, .null, .null, .null, .null, .null, .null, .null, .null, .null, .null, .null, .null] .null := Arv.set Ar24 qq24 Sz24 Nn24 Hs24 Gg24 rfl W25 4 rfl (Nat.le_of_ble_eq_true rfl)
  have f27 : Sta Z h25 "com/example/gridloom/gridloom/mapping/ItemType" "INTEGER" "Lcom/example/gridloom/gridloom/mapping/ItemType;" (.ref w5) := (Sta.wr W25 (Sta.wr W20 (Sta.wr W15 (Sta.wr W10 (Sta.wr W5 (Sta.ext E1 S_INTEGER))))))
  obtain ⟨T28, X28, e28, st28⟩ := getS2 X25 hx hZ hown (host := "") (Or.inl (hw _ (List.mem_of_getElem? (i := 14) rfl))) Via.refl e25 f27 (g := (mkF m 37 #[.val (.int p1), .val (.int p2), .unset, .unset, .unset, .unset, .unset] [(.int (5 : Int32)), (.ref b1), (.ref b1)])) rfl (hb hby at_37)
  obtain ⟨cl29, Ar29, qq29, Sz29, Nn29, Hs29, Gg29⟩ := id Vw25
  have hin29_40 : ¬ ((5 : Int32) < 0 ∨ cl29.slots.size ≤ ((5 : Int32)).toNatClampNeg) := inb_of Sz29 ⟨by decide, by decide⟩
  have f31 : Exa Z h25 w5 "com/example/gridloom/gridloom/mapping/ItemType" := (Exa.wr W25 (Exa.wr W20 (Exa.wr W15 (Exa.wr W10 (Exa.wr W5 (Exa.ext E1 E_w5))))))
  obtain ⟨T30, h30, X30, e30, W30, st30⟩ := stR X28 hx hZ e28 Ar29 (j := (5 : Int32)) hin29_40 rfl (Sto.ofV Ar29 qq29 O1 (Ins.self f31)) (g := (mkF m 40 #[.val (.int p1), .val (.int p2), .unset, .unset, .unset, .unset, .unset] [(.ref w5), (.int (5 : Int32)), (.ref b1), (.ref b1)])) rfl rfl (hb hby at_40)
  have N30 := Fr.snoc X30 N25 g_b1
  have Kc30 : Keep h0 h30 [] := Kc25.wr W30 (Or.inr sz_b1)
  have Vw30 : Arv Z h30 b1 k1 (.object "com/example/gridloom/gridloom/mapping/ItemType") (19 : Int32) [(.ref w0), (.ref w1), (.ref w2), (.ref w3), (.ref w4), (.ref w5), .null, .null, .null, .null, .null, .null, .null, .null, .null, .null, .null, .null, .null] .null := Arv.set Ar29 qq29 Sz29 Nn29 Hs29 Gg29 rfl W30 5 rfl (Nat.le_of_ble_eq_true rfl)
  have f32 : Sta Z h30 "com/example/gridloom/gridloom/mapping/ItemType" "DOUBLE" "Lcom/example/gridloom/gridloom/mapping/ItemType;" (.ref w6) := (Sta.wr W30 (Sta.wr W25 (Sta.wr W20 (Sta.wr W15 (Sta.wr W10 (Sta.wr W5 (Sta.ext E1 S_DOUBLE)))))))
  obtain ⟨T33, X33, e33, st33⟩ := getS2 X30 hx hZ hown (host := "") (Or.inl (hw _ (List.mem_of_getElem? (i := 16) rfl))) Via.refl e30 f32 (g := (mkF m 44 #[.val (.int p1), .val (.int p2), .unset, .unset, .unset, .unset, .unset] [(.int (6 : Int32)), (.ref b1), (.ref b1)])) rfl (hb hby at_44)
  obtain ⟨cl34, Ar34, qq34, Sz34, Nn34, Hs34, Gg34⟩ := id Vw30
  have hin34_47 : ¬ ((6 : Int32) < 0 ∨ cl34.slots.size ≤ ((6 : Int32)).toNatClampNeg) := inb_of Sz34 ⟨by decide, by decide⟩
  have f36 : Exa Z h30 w6 "com/example/gridloom/gridloom/mapping/ItemType" := (Exa.wr W30 (Exa.wr W25 (Exa.wr W20 (Exa.wr W15 (Exa.wr W10 (Exa.wr W5 (Exa.ext E1 E_w6)))))))
  obtain ⟨T35, h35, X35, e35, W35, st35⟩ := stR X33 hx hZ e33 Ar34 (j := (6 : Int32)) hin34_47 rfl (Sto.ofV Ar34 qq34 O1 (Ins.self f36)) (g := (mkF m 47 #[.val (.int p1), .val (.int p2), .unset, .unset, .unset, .unset, .unset] [(.ref w6), (.int (6 : Int32)), (.ref b1), (.ref b1)])) rfl rfl (hb hby at_47)
  have N35 := Fr.snoc X35 N30 g_b1
  have Kc35 : Keep h0 h35 [] := Kc30.wr W35 (Or.inr sz_b1)
  have Vw35 : Arv Z h35 b1 k1 (.object "com/example/gridloom/gridloom/mapping/ItemType") (19 : Int32) [(.ref w0), (.ref w1), (.ref w2), (.ref w3), (.ref w4), (.ref w5), (.ref w6), .null, .null, .null, .null, .null, .null, .null, .null, .null, .null, .null, .null] .null := Arv.set Ar34 qq34 Sz34 Nn34 Hs34 Gg34 rfl W35 6 rfl (Nat.le_of_ble_eq_true rfl)
  have f37 : Sta Z h35 "com/example/gridloom/gridloom/mapping/ItemType" "BOOLEAN" "Lcom/example/gridloom/gridloom/mapping/ItemType;" (.ref w7) := (Sta.wr W35 (Sta.wr W30 (Sta.wr W25 (Sta.wr W20 (Sta.wr W15 (Sta.wr W10 (Sta.wr W5 (Sta.ext E1 S_BOOLEAN))))))))
  obtain ⟨T38, X38, e38, st38⟩ := getS2 X35 hx hZ hown (host := "") (Or.inl (hw _ (List.mem_of_getElem? (i := 18) rfl))) Via.refl e35 f37 (g := (mkF m 51 #[.val (.int p1), .val (.int p2), .unset, .unset, .unset, .unset, .unset] [(.int (7 : Int32)), (.ref b1), (.ref b1)])) rfl (hb hby at_51)
  obtain ⟨cl39, Ar39, qq39, Sz39, Nn39, Hs39, Gg39⟩ := id Vw35
  have hin39_54 : ¬ ((7 : Int32) < 0 ∨ cl39.slots.size ≤ ((7 : Int32)).toNatClampNeg) := inb_of Sz39 ⟨by decide, by decide⟩
  have f41 : Exa Z h35 w7 "com/example/gridloom/gridloom/mapping/ItemType" := (Exa.wr W35 (Exa.wr W30 (Exa.wr W25 (Exa.wr W20 (Exa.wr W15 (Exa.wr W10 (Exa.wr W5 (Exa.ext E1 E_w7))))))))
  obtain ⟨T40, h40, X40, e40, W40, st40⟩ := stR X38 hx hZ e38 Ar39 (j := (7 : Int32)) hin39_54 rfl (Sto.ofV Ar39 qq39 O1 (Ins.self f41)) (g := (mkF m 54 #[.val (.int p1), .val (.int p2), .unset, .unset, .unset, .unset, .unset] [(.ref w7), (.int (7 : Int32)), (.ref b1), (.ref b1)])) rfl rfl (hb hby at_54)
  have N40 := Fr.snoc X40 N35 g_b1
  have Kc40 : Keep h0 h40 [] := Kc35.wr W40 (Or.inr sz_b1)
  have Vw40 : Arv Z h40 b1 k1 (.object "com/example/gridloom/gridloom/mapping/ItemType") (19 : Int32) [(.ref w0), (.ref w1), (.ref w2), (.ref w3), (.ref w4), (.ref w5), (.ref w6), (.ref w7), .null, .null, .null, .null, .null, .null, .null, .null, .null, .null, .null] .null := Arv.set Ar39 qq39 Sz39 Nn39 Hs39 Gg39 rfl W40 7 rfl (Nat.le_of_ble_eq_true rfl)
  have f42 : Sta Z h40 "com/example/gridloom/gridloom/mapping/ItemType" "DATE_TIME" "Lcom/example/gridloom/gridloom/mapping/ItemType;" (.ref w8) := (Sta.wr W40 (Sta.wr W35 (Sta.wr W30 (Sta.wr W25 (Sta.wr W20 (Sta.wr W15 (Sta.wr W10 (Sta.wr W5 (Sta.ext E1 S_DATE_TIME)))))))))
  obtain ⟨T43, X43, e43, st43⟩ := getS2 X40 hx hZ hown (host := "") (Or.inl (hw _ (List.mem_of_getElem? (i := 20) rfl))) Via.refl e40 f42 (g := (mkF m 58 #[.val (.int p1), .val (.int p2), .unset, .unset, .unset, .unset, .unset] [(.int (8 : Int32)), (.ref b1), (.ref b1)])) rfl (hb hby at_58)
  obtain ⟨cl44, Ar44, qq44, Sz44, Nn44, Hs44, Gg44⟩ := id Vw40
  have hin44_61 : ¬ ((8 : Int32) < 0 ∨ cl44.slots.size ≤ ((8 : Int32)).toNatClampNeg) := inb_of Sz44 ⟨by decide, by decide⟩
  have f46 : Exa Z h40 w8 "com/example/gridloom/gridloom/mapping/ItemType" := (Exa.wr W40 (Exa.wr W35 (Exa.wr W30 (Exa.wr W25 (Exa.wr W20 (Exa.wr W15 (Exa.wr W10 (Exa.wr W5 (Exa.ext E1 E_w8)))))))))
  obtain ⟨T45, h45, X45, e45, W45, st45⟩ := stR X43 hx hZ e43 Ar44 (j := (8 : Int32)) hin44_61 rfl (Sto.ofV Ar44 qq44 O1 (Ins.self f46)) (g := (mkF m 61 #[.val (.int p1), .val (.int p2), .unset, .unset, .unset, .unset, .unset] [(.ref w8), (.int (8 : Int32)), (.ref b1), (.ref b1)])) rfl rfl (hb hby at_61)
  have N45 := Fr.snoc X45 N40 g_b1
  have Kc45 : Keep h0 h45 [] := Kc40.wr W45 (Or.inr sz_b1)
  have Vw45 : Arv Z h45 b1 k1 (.object "com/example/gridloom/gridloom/mapping/ItemType") (19 : Int32) [(.ref w0), (.ref w1), (.ref w2), (.ref w3), (.ref w4), (.ref w5), (.ref w6), (.ref w7), (.ref w8), .null, .null, .null, .null, .null, .null, .null, .null, .null, .null] .null := Arv.set Ar44 qq44 Sz44 Nn44 Hs44 Gg44 rfl W45 8 rfl (Nat.le_of_ble_eq_true rfl)
  have f47 : Sta Z h45 "com/example/gridloom/gridloom/mapping/ItemType" "DATE" "Lcom/example/gridloom/gridloom/mapping/ItemType;" (.ref w9) := (Sta.wr W45 (Sta.wr W40 (Sta.wr W35 (Sta.wr W30 (Sta.wr W25 (Sta.wr W20 (Sta.wr W15 (Sta.wr W10 (Sta.wr W5 (Sta.ext E1 S_DATE))))))))))
  obtain ⟨T48, X48, e48, st48⟩ := getS2 X45 hx hZ hown (host := "") (Or.inl (hw _ (List.mem_of_getElem? (i := 22) rfl))) Via.refl e45 f47 (g := (mkF m 65 #[.val (.int p1), .val (.int p2), .unset, .unset, .unset, .unset, .unset] [(.int (9 : Int32)), (.ref b1), (.ref b1)])) rfl (hb hby at_65)
  obtain ⟨cl49, Ar49, qq49, Sz49, Nn49, Hs49, Gg49⟩ := id Vw45
  have hin49_68 : ¬ ((9 : Int32) < 0 ∨ cl49.slots.size ≤ ((9 : Int32)).toNatClampNeg) := inb_of Sz49 ⟨by decide, by decide⟩
  have f51 : Exa Z h45 w9 "com/example/gridloom/gridloom/mapping/ItemType" := (Exa.wr W45 (Exa.wr W40 (Exa.wr W35 (Exa.wr W30 (Exa.wr W25 (Exa.wr W20 (Exa.wr W15 (Exa.wr W10 (Exa.wr W5 (Exa.ext E1 E_w9))))))))))
  obtain ⟨T50, h50, X50, e50, W50, st50⟩ := stR X48 hx hZ e48 Ar49 (j := (9 : Int32)) hin49_68 rfl (Sto.ofV Ar49 qq49 O1 (Ins.self f51)) (g := (mkF m 68 #[.val (.int p1), .val (.int p2), .unset, .unset, .unset, .unset, .unset] [(.ref w9), (.int (9 : Int32)), (.ref b1), (.ref b1)])) rfl rfl (hb hby at_68)
  have N50 := Fr.snoc X50 N45 g_b1
  have Kc50 : Keep h0 h50 [] := Kc45.wr W50 (Or.inr sz_b1)
  have Vw50 : Arv Z h50 b1 k1 (.object "com/example/gridloom/gridloom/mapping/ItemType") (19 : Int32) [(.ref w0), (.ref w1), (.ref w2), (.ref w3), (.ref w4), (.ref w5), (.ref w6), (.ref w7), (.ref w8), (.ref w9), .null, .null, .null, .null, .null, .null, .null, .null, .null] .null := Arv.set Ar49 qq49 Sz49 Nn49 Hs49 Gg49 rfl W50 9 rfl (Nat.le_of_ble_eq_true rfl)
  have f52 : Sta Z h50 "com/example/gridloom/gridloom/mapping/ItemType" "TIME" "Lcom/example/gridloom/gridloom/mapping/ItemType;" (.ref w10) := (Sta.wr W50 (Sta.wr W45 (Sta.wr W40 (Sta.wr W35 (Sta.wr W30 (Sta.wr W25 (Sta.wr W20 (Sta.wr W15 (Sta.wr W10 (Sta.wr W5 (Sta.ext E1 S_TIME)))))))))))
  obtain ⟨T53, X53, e53, st53⟩ := getS2 X50 hx hZ hown (host := "") (Or.inl (hw _ (List.mem_of_getElem? (i := 24) rfl))) Via.refl e50 f52 (g := (mkF m 72 #[.val (.int p1), .val (.int p2), .unset, .unset, .unset, .unset, .unset] [(.int (10 : Int32)), (.ref b1), (.ref b1)])) rfl (hb hby at_72)
  obtain ⟨cl54, Ar54, qq54, Sz54, Nn54, Hs54, Gg54⟩ := id Vw50
  have hin54_75 : ¬ ((10 : Int32) < 0 ∨ cl54.slots.size ≤ ((10 : Int32)).toNatClampNeg) := inb_of Sz54 ⟨by decide, by decide⟩
  have f56 : Exa Z h50 w10 "com/example/gridloom/gridloom/mapping/ItemType" := (Exa.wr W50 (Exa.wr W45 (Exa.wr W40 (Exa.wr W35 (Exa.wr W30 (Exa.wr W25 (Exa.wr W20 (Exa.wr W15 (Exa.wr W10 (Exa.wr W5 (Exa.ext E1 E_w10)))))))))))
  obtain ⟨T55, h55, X55, e55, W55, st55⟩ := stR X53 hx hZ e53 Ar54 (j := (10 : Int32)) hin54_75 rfl (Sto.ofV Ar54 qq54 O1 (Ins.self f56)) (g := (mkF m 75 #[.val (.int p1), .val (.int p2), .unset, .unset, .unset, .unset, .unset] [(.ref w10), (.int (10 : Int32)), (.ref b1), (.ref b1)])) rfl rfl (hb hby at_75)
  have N55 := Fr.snoc X55 N50 g_b1
  have Kc55 : Keep h0 h55 [] := Kc50.wr W55 (Or.inr sz_b1)
  have Vw55 : Arv Z h55 b1 k1 (.object "com/example/gridloom/gridloom/mapping/ItemType") (19 : Int32) [(.ref w0), (.ref w1), (.ref w2), (.ref w3), (.ref w4), (.ref w5), (.ref w6), (.ref w7), (.ref w8), (.ref w9), (.ref w10), .null, .null, .null, .null, .null, .null, .null, .null] .null := Arv.set Ar54 qq54 Sz54 Nn54 Hs54 Gg54 rfl W55 10 rfl (Nat.le_of_ble_eq_true rfl)
  have f57 : Sta Z h55 "com/example/gridloom/gridloom/mapping/ItemType" "DURATION" "Lcom/example/gridloom/gridloom/mapping/ItemType;" (.ref w11) := (Sta.wr W55 (Sta.wr W50 (Sta.wr W45 (Sta.wr W40 (Sta.wr W35 (Sta.wr W30 (Sta.wr W25 (Sta.wr W20 (Sta.wr W15 (Sta.wr W10 (Sta.wr W5 (Sta.ext E1 S_DURATION))))))))))))
  obtain ⟨T58, X58, e58, st58⟩ := getS2 X55 hx hZ hown (host := "") (Or.inl (hw _ (List.mem_of_getElem? (i := 26) rfl))) Via.refl e55 f57 (g := (mkF m 79 #[.val (.int p1), .val (.int p2), .unset, .unset, .unset, .unset, .unset] [(.int (11 : Int32)), (.ref b1), (.ref b1)])) rfl (hb hby at_79)
  obtain ⟨cl59, Ar59, qq59, Sz59, Nn59, Hs59, Gg59⟩ := id Vw55
  have hin59_82 : ¬ ((11 : Int32) < 0 ∨ cl59.slots.size ≤ ((11 : Int32)).toNatClampNeg) := inb_of Sz59 ⟨by decide, by decide⟩
  have f61 : Exa Z h55 w11 "com/example/gridloom/gridloom/mapping/ItemType" := (Exa.wr W55 (Exa.wr W50 (Exa.wr W45 (Exa.wr W40 (Exa.wr W35 (Exa.wr W30 (Exa.wr W25 (Exa.wr W20 (Exa.wr W15 (Exa.wr W10 (Exa.wr W5 (Exa.ext E1 E_w11))))))))))))
  obtain ⟨T60, h60, X60, e60, W60, st60⟩ := stR X58 hx hZ e58 Ar59 (j := (11 : Int32)) hin59_82 rfl (Sto.ofV Ar59 qq59 O1 (Ins.self f61)) (g := (mkF m 82 #[.val (.int p1), .val (.int p2), .unset, .unset, .unset, .unset, .unset] [(.ref w11), (.int (11 : Int32)), (.ref b1), (.ref b1)])) rfl rfl (hb hby at_82)
  have N60 := Fr.snoc X60 N55 g_b1
  have Kc60 : Keep h0 h60 [] := Kc55.wr W60 (Or.inr sz_b1)
  have Vw60 : Arv Z h60 b1 k1 (.object "com/example/gridloom/gridloom/mapping/ItemType") (19 : Int32) [(.ref w0), (.ref w1), (.ref w2), (.ref w3), (.ref w4), (.ref w5), (.ref w6), (.ref w7), (.ref w8), (.ref w9), (.ref w10), (.ref w11), .null, .null, .null, .null, .null, .null, .null] .null := Arv.set Ar59 qq59 Sz59 Nn59 Hs59 Gg59 rfl W60 11 rfl (Nat.le_of_ble_eq_true rfl)
  have f62 : Sta Z h60 "com/example/gridloom/gridloom/mapping/ItemType" "YEAR_MONTH_DURATION" "Lcom/example/gridloom/gridloom/mapping/ItemType;" (.ref w12) := (Sta.wr W60 (Sta.wr W55 (Sta.wr W50 (Sta.wr W45 (Sta.wr W40 (Sta.wr W35 (Sta.wr W30 (Sta.wr W25 (Sta.wr W20 (Sta.wr W15 (Sta.wr W10 (Sta.wr W5 (Sta.ext E1 S_YEAR_MONTH_DURATION)))))))))))))
  obtain ⟨T63, X63, e63, st63⟩ := getS2 X60 hx hZ hown (host := "") (Or.inl (hw _ (List.mem_of_getElem? (i := 28) rfl))) Via.refl e60 f62 (g := (mkF m 86 #[.val (.int p1), .val (.int p2), .unset, .unset, .unset, .unset, .unset] [(.int (12 : Int32)), (.ref b1), (.ref b1)])) rfl (hb hby at_86)
  obtain ⟨cl64, Ar64, qq64, Sz64, Nn64, Hs64, Gg64⟩ := id Vw60
  have hin64_89 : ¬ ((12 : Int32) < 0 ∨ cl64.slots.size ≤ ((12 : Int32)).toNatClampNeg) := inb_of Sz64 ⟨by decide, by decide⟩
  have f66 : Exa Z h60 w12 "com/example/gridloom/gridloom/mapping/ItemType" := (Exa.wr W60 (Exa.wr W55 (Exa.wr W50 (Exa.wr W45 (Exa.wr W40 (Exa.wr W35 (Exa.wr W30 (Exa.wr W25 (Exa.wr W20 (Exa.wr W15 (Exa.wr W10 (Exa.wr W5 (Exa.ext E1 E_w12)))))))))))))
  obtain ⟨T65, h65, X65, e65, W65, st65⟩ := stR X63 hx hZ e63 Ar64 (j := (12 : Int32)) hin64_89 rfl (Sto.ofV Ar64 qq64 O1 (Ins.self f66)) (g := (mkF m 89 #[.val (.int p1), .val (.int p2), .unset, .unset, .unset, .unset, .unset] [(.ref w12), (.int (12 : Int32)), (.ref b1), (.ref b1)])) rfl rfl (hb hby at_89)
  have N65 := Fr.snoc X65 N60 g_b1
  have Kc65 : Keep h0 h65 [] := Kc60.wr W65 (Or.inr sz_b1)
  have Vw65 : Arv Z h65 b1 k1 (.object "com/example/gridloom/gridloom/mapping/ItemType") (19 : Int32) [(.ref w0), (.ref w1), (.ref w2), (.ref w3), (.ref w4), (.ref w5), (.ref w6), (.ref w7), (.ref w8), (.ref w9), (.ref w10), (.ref w11), (.ref w12), .null, .null, .null, .null, .null, .null] .null := Arv.set Ar64 qq64 Sz64 Nn64 Hs64 Gg64 rfl W65 12 rfl (Nat.le_of_ble_eq_true rfl)
  have f67 : Sta Z h65 "com/example/gridloom/gridloom/mapping/ItemType" "DAY_TIME_DURATION" "Lcom/example/gridloom/gridloom/mapping/ItemType;" (.ref w13) := (Sta.wr W65 (Sta.wr W60 (Sta.wr W55 (Sta.wr W50 (Sta.wr W45 (Sta.wr W40 (Sta.wr W35 (Sta.wr W30 (Sta.wr W25 (Sta.wr W20 (Sta.wr W15 (Sta.wr W10 (Sta.wr W5 (Sta.ext E1 S_DAY_TIME_DURATION))))))))))))))
  obtain ⟨T68, X68, e68, st68⟩ := getS2 X65 hx hZ hown (host := "") (Or.inl (hw _ (List.mem_of_getElem? (i := 30) rfl))) Via.refl e65 f67 (g := (mkF m 93 #[.val (.int p1), .val (.int p2), .unset, .unset, .unset, .unset, .unset] [(.int (13 : Int32)), (.ref b1), (.ref b1)])) rfl (hb hby at_93)
  obtain ⟨cl69, Ar69, qq69, Sz69, Nn69, Hs69, Gg69⟩ := id Vw65
  have hin69_96 : ¬ ((13 : Int32) < 0 ∨ cl69.slots.size ≤ ((13 : Int32)).toNatClampNeg) := inb_of Sz69 ⟨by decide, by decide⟩
  have f71 : Exa Z h65 w13 "com/example/gridloom/gridloom/mapping/ItemType" := (Exa.wr W65 (Exa.wr W60 (Exa.wr W55 (Exa.wr W50 (Exa.wr W45 (Exa.wr W40 (Exa.wr W35 (Exa.wr W30 (Exa.wr W25 (Exa.wr W20 (Exa.wr W15 (Exa.wr W10 (Exa.wr W5 (Exa.ext E1 E_w13))))))))))))))
  obtain ⟨T70, h70, X70, e70, W70, st70⟩ := stR X68 hx hZ e68 Ar69 (j := (13 : Int32)) hin69_96 rfl (Sto.ofV Ar69 qq69 O1 (Ins.self f71)) (g := (mkF m 96 #[.val (.int p1), .val (.int p2), .unset, .unset, .unset, .unset, .unset] [(.ref w13), (.int (13 : Int32)), (.ref b1), (.ref b1)])) rfl rfl (hb hby at_96)
  have N70 := Fr.snoc X70 N65 g_b1
  have Kc70 : Keep h0 h70 [] := Kc65.wr W70 (Or.inr sz_b1)
  have Vw70 : Arv Z h70 b1 k1 (.object "com/example/gridloom/gridloom/mapping/ItemType") (19 : Int32) [(.ref w0), (.ref w1), (.ref w2), (.ref w3), (.ref w4), (.ref w5), (.ref w6), (.ref w7), (.ref w8), (.ref w9), (.ref w10), (.ref w11), (.ref w12), (.ref w13), .null, .null, .null, .null, .null] .null := Arv.set Ar69 qq69 Sz69 Nn69 Hs69 Gg69 rfl W70 13 rfl (Nat.le_of_ble_eq_true rfl)
  have f72 : Sta Z h70 "com/example/gridloom/gridloom/mapping/ItemType" "NULL" "Lcom/example/gridloom/gridloom/mapping/ItemType;" (.ref w14) := (Sta.wr W70 (Sta.wr W65 (Sta.wr W60 (Sta.wr W55 (Sta.wr W50 (Sta.wr W45 (Sta.wr W40 (Sta.wr W35 (Sta.wr W30 (Sta.wr W25 (Sta.wr W20 (Sta.wr W15 (Sta.wr W10 (Sta.wr W5 (Sta.ext E1 S_NULL)))))))))))))))
  obtain ⟨T73, X73, e73, st73⟩ := getS2 X70 hx hZ hown (host := "") (Or.inl (hw _ (List.mem_of_getElem? (i := 32) rfl))) Via.refl e70 f72 (g := (mkF m 100 #[.val (.int p1), .val (.int p2), .unset, .unset, .unset, .unset, .unset] [(.int (14 : Int32)), (.ref b1), (.ref b1)])) rfl (hb hby at_100)
  obtain ⟨cl74, Ar74, qq74, Sz74, Nn74, Hs74, Gg74⟩ := id Vw70
  have hin74_103 : ¬ ((14 : Int32) < 0 ∨ cl74.slots.size ≤ ((14 : Int32)).toNatClampNeg) := inb_of Sz74 ⟨by decide, by decide⟩
  have f76 : Exa Z h70 w14 "com/example/gridloom/gridloom/mapping/ItemType" := (Exa.wr W70 (Exa.wr W65 (Exa.wr W60 (Exa.wr W55 (Exa.wr W50 (Exa.wr W45 (Exa.wr W40 (Exa.wr W35 (Exa.wr W30 (Exa.wr W25 (Exa.wr W20 (Exa.wr W15 (Exa.wr W10 (Exa.wr W5 (Exa.ext E1 E_w14)))))))))))))))
  obtain ⟨T75, h75, X75, e75, W75, st75⟩ := stR X73 hx hZ e73 Ar74 (j := (14 : Int32)) hin74_103 rfl (Sto.ofV Ar74 qq74 O1 (Ins.self f76)) (g := (mkF m 103 #[.val (.int p1), .val (.int p2), .unset, .unset, .unset, .unset, .unset] [(.ref w14), (.int (14 : Int32)), (.ref b1), (.ref b1)])) rfl rfl (hb hby at_103)
  have N75 := Fr.snoc X75 N70 g_b1
  have Kc75 : Keep h0 h75 [] := Kc70.wr W75 (Or.inr sz_b1)
  have Vw75 : Arv Z h75 b1 k1 (.object "com/example/gridloom/gridloom/mapping/ItemType") (19 : Int32) [(.ref w0), (.ref w1), (.ref w2), (.ref w3), (.ref w4), (.ref w5), (.ref w6), (.ref w7), (.ref w8), (.ref w9), (.ref w10), (.ref w11), (.ref w12), (.ref w13), (.ref w14), .null, .null, .null, .null] .null := Arv.set Ar74 qq74 Sz74 Nn74 Hs74 Gg74 rfl W75 14 rfl (Nat.le_of_ble_eq_true rfl)
  have f77 : Sta Z h75 "com/example/gridloom/gridloom/mapping/ItemType" "JSON_ITEM" "Lcom/example/gridloom/gridloom/mapping/ItemType;" (.ref w15) := (Sta.wr W75 (Sta.wr W70 (Sta.wr W65 (Sta.wr W60 (Sta.wr W55 (Sta.wr W50 (Sta.wr W45 (Sta.wr W40 (Sta.wr W35 (Sta.wr W30 (Sta.wr W25 (Sta.wr W20 (Sta.wr W15 (Sta.wr W10 (Sta.wr W5 (Sta.ext E1 S_JSON_ITEM))))))))))))))))
  obtain ⟨T78, X78, e78, st78⟩ := getS2 X75 hx hZ hown (host := "") (Or.inl (hw _ (List.mem_of_getElem? (i := 34) rfl))) Via.refl e75 f77 (g := (mkF m 107 #[.val (.int p1), .val (.int p2), .unset, .unset, .unset, .unset, .unset] [(.int (15 : Int32)), (.ref b1), (.ref b1)])) rfl (hb hby at_107)
  obtain ⟨cl79, Ar79, qq79, Sz79, Nn79, Hs79, Gg79⟩ := id Vw75
  have hin79_110 : ¬ ((15 : Int32) < 0 ∨ cl79.slots.size ≤ ((15 : Int32)).toNatClampNeg) := inb_of Sz79 ⟨by decide, by decide⟩
  have f81 : Exa Z h75 w15 "com/example/gridloom/gridloom/mapping/ItemType" := (Exa.wr W75 (Exa.wr W70 (Exa.wr W65 (Exa.wr W60 (Exa.wr W55 (Exa.wr W50 (Exa.wr W45 (Exa.wr W40 (Exa.wr W35 (Exa.wr W30 (Exa.wr W25 (Exa.wr W20 (Exa.wr W15 (Exa.wr W10 (Exa.wr W5 (Exa.ext E1 E_w15))))))))))))))))
  obtain ⟨T80, h80, X80, e80, W80, st80⟩ := stR X78 hx hZ e78 Ar79 (j := (15 : Int32)) hin79_110 rfl (Sto.ofV Ar79 qq79 O1 (Ins.self f81)) (g := (mkF m 110 #[.val (.int p1), .val (.int p2), .unset, .unset, .unset, .unset, .unset] [(.ref w15), (.int (15 : Int32)), (.ref b1), (.ref b1)])) rfl rfl (hb hby at_110)
  have N80 := Fr.snoc X80 N75 g_b1
  have Kc80 : Keep h0 h80 [] := Kc75.wr W80 (Or.inr sz_b1)
  have Vw80 : Arv Z h80 b1 k1 (.object "com/example/gridloom/gridloom/mapping/ItemType") (19 : Int32) [(.ref w0), (.ref w1), (.ref w2), (.ref w3), (.ref w4), (.ref w5), (.ref w6), (.ref w7), (.ref w8), (.ref w9), (.ref w10), (.ref w11), (.ref w12), (.ref w13), (.ref w14), (.ref w15), .null, .null, .null] .null := Arv.set Ar79 qq79 Sz79 Nn79 Hs79 Gg79 rfl W80 15 rfl (Nat.le_of_ble_eq_true rfl)
  have f82 : Sta Z h80 "com/example/gridloom/gridloom/mapping/ItemType" "OBJECT" "Lcom/example/gridloom/gridloom/mapping/ItemType;" (.ref w16) := (Sta.wr W80 (Sta.wr W75 (Sta.wr W70 (Sta.wr W65 (Sta.wr W60 (Sta.wr W55 (Sta.wr W50 (Sta.wr W45 (Sta.wr W40 (Sta.wr W35 (Sta.wr W30 (Sta.wr W25 (Sta.wr W20 (Sta.wr W15 (Sta.wr W10 (Sta.wr W5 (Sta.ext E1 S_OBJECT)))))))))))))))))
  obtain ⟨T83, X83, e83, st83⟩ := getS2 X80 hx hZ hown (host := "") (Or.inl (hw _ (List.mem_of_getElem? (i := 36) rfl))) Via.refl e80 f82 (g := (mkF m 114 #[.val (.int p1), .val (.int p2), .unset, .unset, .unset, .unset, .unset] [(.int (16 : Int32)), (.ref b1), (.ref b1)])) rfl (hb hby at_114)
  obtain ⟨cl84, Ar84, qq84, Sz84, Nn84, Hs84, Gg84⟩ := id Vw80
  have hin84_117 : ¬ ((16 : Int32) < 0 ∨ cl84.slots.size ≤ ((16 : Int32)).toNatClampNeg) := inb_of Sz84 ⟨by decide, by decide⟩
  have f86 : Exa Z h80 w16 "com/example/gridloom/gridloom/mapping/ItemType" := (Exa.wr W80 (Exa.wr W75 (Exa.wr W70 (Exa.wr W65 (Exa.wr W60 (Exa.wr W55 (Exa.wr W50 (Exa.wr W45 (Exa.wr W40 (Exa.wr W35 (Exa.wr W30 (Exa.wr W25 (Exa.wr W20 (Exa.wr W15 (Exa.wr W10 (Exa.wr W5 (Exa.ext E1 E_w16)))))))))))))))))
  obtain ⟨T85, h85, X85, e85, W85, st85⟩ := stR X83 hx hZ e83 Ar84 (j := (16 : Int32)) hin84_117 rfl (Sto.ofV Ar84 qq84 O1 (Ins.self f86)) (g := (mkF m 117 #[.val (.int p1), .val (.int p2), .unset, .unset, .unset, .unset, .unset] [(.ref w16), (.int (16 : Int32)), (.ref b1), (.ref b1)])) rfl rfl (hb hby at_117)
  have N85 := Fr.snoc X85 N80 g_b1
  have Kc85 : Keep h0 h85 [] := Kc80.wr W85 (Or.inr sz_b1)
  have Vw85 : Arv Z h85 b1 k1 (.object "com/example/gridloom/gridloom/mapping/ItemType") (19 : Int32) [(.ref w0), (.ref w1), (.ref w2), (.ref w3), (.ref w4), (.ref w5), (.ref w6), (.ref w7), (.ref w8), (.ref w9), (.ref w10), (.ref w11), (.ref w12), (.ref w13), (.ref w14), (.ref w15), (.ref w16), .null, .null] .null := Arv.set Ar84 qq84 Sz84 Nn84 Hs84 Gg84 rfl W85 16 rfl (Nat.le_of_ble_eq_true rfl)
  have f87 : Sta Z h85 "com/example/gridloom/gridloom/mapping/ItemType" "ARRAY" "Lcom/example/gridloom/gridloom/mapping/ItemType;" (.ref w17) := (Sta.wr W85 (Sta.wr W80 (Sta.wr W75 (Sta.wr W70 (Sta.wr W65 (Sta.wr W60 (Sta.wr W55 (Sta.wr W50 (Sta.wr W45 (Sta.wr W40 (Sta.wr W35 (Sta.wr W30 (Sta.wr W25 (Sta.wr W20 (Sta.wr W15 (Sta.wr W10 (Sta.wr W5 (Sta.ext E1 S_ARRAY))))))))))))))))))
  obtain ⟨T88, X88, e88, st88⟩ := getS2 X85 hx hZ hown (host := "") (Or.inl (hw _ (List.mem_of_getElem? (i := 38) rfl))) Via.refl e85 f87 (g := (mkF m 121 #[.val (.int p1), .val (.int p2), .unset, .unset, .unset, .unset, .unset] [(.int (17 : Int32)), (.ref b1), (.ref b1)])) rfl (hb hby at_121)
  obtain ⟨cl89, Ar89, qq89, Sz89, Nn89, Hs89, Gg89⟩ := id Vw85
  have hin89_124 : ¬ ((17 : Int32) < 0 ∨ cl89.slots.size ≤ ((17 : Int32)).toNatClampNeg) := inb_of Sz89 ⟨by decide, by decide⟩
  have f91 : Exa Z h85 w17 "com/example/gridloom/gridloom/mapping/ItemType" := (Exa.wr W85 (Exa.wr W80 (Exa.wr W75 (Exa.wr W70 (Exa.wr W65 (Exa.wr W60 (Exa.wr W55 (Exa.wr W50 (Exa.wr W45 (Exa.wr W40 (Exa.wr W35 (Exa.wr W30 (Exa.wr W25 (Exa.wr W20 (Exa.wr W15 (Exa.wr W10 (Exa.wr W5 (Exa.ext E1 E_w17))))))))))))))))))
  obtain ⟨T90, h90, X90, e90, W90, st90⟩ := stR X88 hx hZ e88 Ar89 (j := (17 : Int32)) hin89_124 rfl (Sto.ofV Ar89 qq89 O1 (Ins.self f91)) (g := (mkF m 124 #[.val (.int p1), .val (.int p2), .unset, .unset, .unset, .unset, .unset] [(.ref w17), (.int (17 : Int32)), (.ref b1), (.ref b1)])) rfl rfl (hb hby at_124)
  have N90 := Fr.snoc X90 N85 g_b1
  have Kc90 : Keep h0 h90 [] := Kc85.wr W90 (Or.inr sz_b1)
  have Vw90 : Arv Z h90 b1 k1 (.object "com/example/gridloom/gridloom/mapping/ItemType") (19 : Int32) [(.ref w0), (.ref w1), (.ref w2), (.ref w3), (.ref w4), (.ref w5), (.ref w6), (.ref w7), (.ref w8), (.ref w9), (.ref w10), (.ref w11), (.ref w12), (.ref w13), (.ref w14), (.ref w15), (.ref w16), (.ref w17), .null] .null := Arv.set Ar89 qq89 Sz89 Nn89 Hs89 Gg89 rfl W90 17 rfl (Nat.le_of_ble_eq_true rfl)
  have f92 : Sta Z h90 "com/example/gridloom/gridloom/mapping/ItemType" "FUNCTION" "Lcom/example/gridloom/gridloom/mapping/ItemType;" (.ref w18) := (Sta.wr W90 (Sta.wr W85 (Sta.wr W80 (Sta.wr W75 (Sta.wr W70 (Sta.wr W65 (Sta.wr W60 (Sta.wr W55 (Sta.wr W50 (Sta.wr W45 (Sta.wr W40 (Sta.wr W35 (Sta.wr W30 (Sta.wr W25 (Sta.wr W20 (Sta.wr W15 (Sta.wr W10 (Sta.wr W5 (Sta.ext E1 S_FUNCTION)))))))))))))))))))
  obtain ⟨T93, X93, e93, st93⟩ := getS2 X90 hx hZ hown (host := "") (Or.inl (hw _ (List.mem_of_getElem? (i := 40) rfl))) Via.refl e90 f92 (g := (mkF m 128 #[.val (.int p1), .val (.int p2), .unset, .unset, .unset, .unset, .unset] [(.int (18 : Int32)), (.ref b1), (.ref b1)])) rfl (hb hby at_128)
  obtain ⟨cl94, Ar94, qq94, Sz94, Nn94, Hs94, Gg94⟩ := id Vw90
  have hin94_131 : ¬ ((18 : Int32) < 0 ∨ cl94.slots.size ≤ ((18 : Int32)).toNatClampNeg) := inb_of Sz94 ⟨by decide, by decide⟩
  have f96 : Exa Z h90 w18 "com/example/gridloom/gridloom/mapping/ItemType" := (Exa.wr W90 (Exa.wr W85 (Exa.wr W80 (Exa.wr W75 (Exa.wr W70 (Exa.wr W65 (Exa.wr W60 (Exa.wr W55 (Exa.wr W50 (Exa.wr W45 (Exa.wr W40 (Exa.wr W35 (Exa.wr W30 (Exa.wr W25 (Exa.wr W20 (Exa.wr W15 (Exa.wr W10 (Exa.wr W5 (Exa.ext E1 E_w18)))))))))))))))))))
  obtain ⟨T95, h95, X95, e95, W95, st95⟩ := stR X93 hx hZ e93 Ar94 (j := (18 : Int32)) hin94_131 rfl (Sto.ofV Ar94 qq94 O1 (Ins.self f96)) (g := (mkF m 131 #[.val (.int p1), .val (.int p2), .unset, .unset, .unset, .unset, .unset] [(.ref w18), (.int (18 : Int32)), (.ref b1), (.ref b1)])) rfl rfl (hb hby at_131)
  have N95 := Fr.snoc X95 N90 g_b1
  have Kc95 : Keep h0 h95 [] := Kc90.wr W95 (Or.inr sz_b1)
  have Vw95 : Arv Z h95 b1 k1 (.object "com/example/gridloom/gridloom/mapping/ItemType") (19 : Int32) [(.ref w0), (.ref w1), (.ref w2), (.ref w3), (.ref w4), (.ref w5), (.ref w6), (.ref w7), (.ref w8), (.ref w9), (.ref w10), (.ref w11), (.ref w12), (.ref w13), (.ref w14), (.ref w15), (.ref w16), (.ref w17), (.ref w18)] .null := Arv.set Ar94 qq94 Sz94 Nn94 Hs94 Gg94 rfl W95 18 rfl (Nat.le_of_ble_eq_true rfl)
  obtain ⟨T97, h97, k97, X97, e97, E97, A97, st97⟩ := newP X95 hx hZ (hw _ (List.mem_of_getElem? (i := 42) rfl)) e95 (g := (mkF m 135 #[.val (.int p1), .val (.int p2), .val (.ref b1), .unset, .unset, .unset, .unset] [(.int (19 : Int32))])) rfl (hb hby at_135) rfl (by decide) (cap := 19) (by decide) (by decide) (by decide) (by decide)
  obtain ⟨b97, g97⟩ : ∃ z, z = h95.size := ⟨_, rfl⟩
  rw [← g97] at A97 st97
  have ne_b1_b97 : b1 ≠ b97 := Nat.ne_of_lt (Nat.lt_of_lt_of_le Vw95.lt (Nat.le_of_eq g97.symm))
  have sz_b97 : h0.size ≤ b97 := Nat.le_trans Kc95.1 (Nat.le_of_eq g97.symm)
  have g_b97 : n0 ≤ b97 := Nat.le_trans Z0 sz_b97
  have Kc97 : Keep h0 h97 [] := Kc95.ext E97
  have V_b97 : Arv Z h97 b97 k97 .int (19 : Int32) [(.int (0 : Int32)), (.int (0 : Int32)), (.int (0 : Int32)), (.int (0 : Int32)), (.int (0 : Int32)), (.int (0 : Int32)), (.int (0 : Int32)), (.int (0 : Int32)), (.int (0 : Int32)), (.int (0 : Int32)), (.int (0 : Int32)), (.int (0 : Int32)), (.int (0 : Int32)), (.int (0 : Int32)), (.int (0 : Int32)), (.int (0 : Int32)), (.int (0 : Int32)), (.int (0 : Int32)), (.int (0 : Int32))] (.int (0 : Int32)) := (Arv.new A97 (by decide)).pad (pad_rep [] (.int (0 : Int32)) 19)
  obtain ⟨cl98, Ar98, qq98, Sz98, Nn98, Hs98, Gg98⟩ := id V_b97
  have hin98_140 : ¬ ((0 : Int32) < 0 ∨ cl98.slots.size ≤ ((0 : Int32)).toNatClampNeg) := inb_of Sz98 ⟨by decide, by decide⟩
  obtain ⟨T99, h99, X99, e99, W99, st99⟩ := stI X97 hx hZ e97 Ar98 (j := (0 : Int32)) hin98_140 (g := (mkF m 140 #[.val (.int p1), .val (.int p2), .val (.ref b1), .unset, .unset, .unset, .unset] [(.int (1 : Int32)), (.int (0 : Int32)), (.ref b97), (.ref b97)])) rfl rfl (hb hby at_140)
  have N99 := Fr.snoc X99 N95 g_b97
  have Kc99 : Keep h0 h99 [] := Kc97.wr W99 (Or.inr sz_b97)
  have Vw99 : Arv Z h99 b97 k97 .int (19 : Int32) [(.int (1 : Int32)), (.int (0 : Int32)), (.int (0 : Int32)), (.int (0 : Int32)), (.int (0 : Int32)), (.int (0 : Int32)), (.int (0 : Int32)), (.int (0 : Int32)), (.int (0 : Int32)), (.int (0 : Int32)), (.int (0 : Int32)), (.int (0 : Int32)), (.int (0 : Int32)), (.int (0 : Int32)), (.int (0 : Int32)), (.int (0 : Int32)), (.int (0 : Int32)), (.int (0 : Int32)), (.int (0 : Int32))] (.int (0 : Int32)) := Arv.set Ar98 qq98 Sz98 Nn98 Hs98 Gg98 rfl W99 0 rfl (Nat.le_of_ble_eq_true rfl)
  obtain ⟨cl100, Ar100, qq100, Sz100, Nn100, Hs100, Gg100⟩ := id Vw99
  have hin100_144 : ¬ ((1 : Int32) < 0 ∨ cl100.slots.size ≤ ((1 : Int32)).toNatClampNeg) := inb_of Sz100 ⟨by decide, by decide⟩
  obtain ⟨T101, h101, X101, e101, W101, st101⟩ := stI X99 hx hZ e99 Ar100 (j := (1 : Int32)) hin100_144 (g := (mkF m 144 #[.val (.int p1), .val (.int p2), .val (.ref b1), .unset, .unset, .unset, .unset] [(.int (3 : Int32)), (.int (1 : Int32)), (.ref b97), (.ref b97)])) rfl rfl (hb hby at_144)
  have N101 := Fr.snoc X101 N99 g_b97
  have Kc101 : Keep h0 h101 [] := Kc99.wr W101 (Or.inr sz_b97)
  have Vw101 : Arv Z h101 b97 k97 .int (19 : Int32) [(.int (1 : Int32)), (.int (3 : Int32)), (.int (0 : Int32)), (.int (0 : Int32)), (.int (0 : Int32)), (.int (0 : Int32)), (.int (0 : Int32)), (.int (0 : Int32)), (.int (0 : Int32)), (.int (0 : Int32)), (.int (0 : Int32)), (.int (0 : Int32)), (.int (0 : Int32)), (.int (0 : Int32)), (.int (0 : Int32)), (.int (0 : Int32)), (.int (0 : Int32)), (.int (0 : Int32)), (.int (0 : Int32))] (.int (0 : Int32)) := Arv.set Ar100 qq100 Sz100 Nn100 Hs100 Gg100 rfl W101 1 rfl (Nat.le_of_ble_eq_true rfl)
  obtain ⟨cl102, Ar102, qq102, Sz102, Nn102, Hs102, Gg102⟩ := id Vw101
  have hin102_149 : ¬ ((2 : Int32) < 0 ∨ cl102.slots.size ≤ ((2 : Int32)).toNatClampNeg) := inb_of Sz102 ⟨by decide, by decide⟩
  obtain ⟨T103, h103, X103, e103, W103, st103⟩ := stI X101 hx hZ e101 Ar102 (j := (2 : Int32)) hin102_149 (g := (mkF m 149 #[.val (.int p1), .val (.int p2), .val (.ref b1), .unset, .unset, .unset, .unset] [(.int (7 : Int32)), (.int (2 : Int32)), (.ref b97), (.ref b97)])) rfl rfl (hb hby at_149)
  have N103 := Fr.snoc X103 N101 g_b97
  have Kc103 : Keep h0 h103 [] := Kc101.wr W103 (Or.inr sz_b97)
  have Vw103 : Arv Z h103 b97 k97 .int (19 : Int32) [(.int (1 : Int32)), (.int (3 : Int32)), (.int (7 : Int32)), (.int (0 : Int32)), (.int (0 : Int32)), (.int (0 : Int32)), (.int (0 : Int32)), (.int (0 : Int32)), (.int (0 : Int32)), (.int (0 : Int32)), (.int (0 : Int32)), (.int (0 : Int32)), (.int (0 : Int32)), (.int (0 : Int32)), (.int (0 : Int32)), (.int (0 : Int32)), (.int (0 : Int32)), (.int (0 : Int32)), (.int (0 : Int32))] (.int (0 : Int32)) := Arv.set Ar102 qq102 Sz102 Nn102 Hs102 Gg102 rfl W103 2 rfl (Nat.le_of_ble_eq_true rfl)
  obtain ⟨cl104, Ar104, qq104, Sz104, Nn104, Hs104, Gg104⟩ := id Vw103
  have hin104_154 : ¬ ((3 : Int32) < 0 ∨ cl104.slots.size ≤ ((3 : Int32)).toNatClampNeg) := inb_of Sz104 ⟨by decide, by decide⟩
  obtain ⟨T105, h105, X105, e105, W105, st105⟩ := stI X103 hx hZ e103 Ar104 (j := (3 : Int32)) hin104_154 (g := (mkF m 154 #[.val (.int p1), .val (.int p2), .val (.ref b1), .unset, .unset, .unset, .unset] [(.int (11 : Int32)), (.int (3 : Int32)), (.ref b97), (.ref b97)])) rfl rfl (hb hby at_154)
  have N105 := Fr.snoc X105 N103 g_b97
  have Kc105 : Keep h0 h105 [] := Kc103.wr W105 (Or.inr sz_b97)
  have Vw105 : Arv Z h105 b97 k97 .int (19 : Int32) [(.int (1 : Int32)), (.int (3 : Int32)), (.int (7 : Int32)), (.int (11 : Int32)), (.int (0 : Int32)), (.int (0 : Int32)), (.int (0 : Int32)), (.int (0 : Int32)), (.int (0 : Int32)), (.int (0 : Int32)), (.int (0 : Int32)), (.int (0 : Int32)), (.int (0 : Int32)), (.int (0 : Int32)), (.int (0 : Int32)), (.int (0 : Int32)), (.int (0 : Int32)), (.int (0 : Int32)), (.int (0 : Int32))] (.int (0 : Int32)) := Arv.set Ar104 qq104 Sz104 Nn104 Hs104 Gg104 rfl W105 3 rfl (Nat.le_of_ble_eq_true rfl)
  obtain ⟨cl106, Ar106, qq106, Sz106, Nn106, Hs106, Gg106⟩ := id Vw105
  have hin106_159 : ¬ ((4 : Int32) < 0 ∨ cl106.slots.size ≤ ((4 : Int32)).toNatClampNeg) := inb_of Sz106 ⟨by decide, by decide⟩
  obtain ⟨T107, h107, X107, e107, W107, st107⟩ := stI X105 hx hZ e105 Ar106 (j := (4 : Int32)) hin106_159 (g := (mkF m 159 #[.val (.int p1), .val (.int p2), .val (.ref b1), .unset, .unset, .unset, .unset] [(.int (27 : Int32)), (.int (4 : Int32)), (.ref b97), (.ref b97)])) rfl rfl (hb hby at_159)
  have N107 := Fr.snoc X107 N105 g_b97
  have Kc107 : Keep h0 h107 [] := Kc105.wr W107 (Or.inr sz_b97)
  have Vw107 : Arv Z h107 b97 k97 .int (19 : Int32) [(.int (1 : Int32)), (.int (3 : Int32)), (.int (7 : Int32)), (.int (11 : Int32)), (.int (27 : Int32)), (.int (0 : Int32)), (.int (0 : Int32)), (.int (0 : Int32)), (.int (0 : Int32)), (.int (0 : Int32)), (.int (0 : Int32)), (.int (0 : Int32)), (.int (0 : Int32)), (.int (0 : Int32)), (.int (0 : Int32)), (.int (0 : Int32)), (.int (0 : Int32)), (.int (0 : Int32)), (.int (0 : Int32))] (.int (0 : Int32)) := Arv.set Ar106 qq106 Sz106 Nn106 Hs106 Gg106 rfl W107 4 rfl (Nat.le_of_ble_eq_true rfl)
  obtain ⟨cl108, Ar108, qq108, Sz108, Nn108, Hs108, Gg108⟩ := id Vw107
  have hin108_164 : ¬ ((5 : Int32) < 0 ∨ cl108.slots.size ≤ ((5 : Int32)).toNatClampNeg) := inb_of Sz108 ⟨by decide, by decide⟩
  obtain ⟨T109, h109, X109, e109, W109, st109⟩ := stI X107 hx hZ e107 Ar108 (j := (5 : Int32)) hin108_164 (g := (mkF m 164 #[.val (.int p1), .val (.int p2), .val (.ref b1), .unset, .unset, .unset, .unset] [(.int (59 : Int32)), (.int (5 : Int32)), (.ref b97), (.ref b97)])) rfl rfl (hb hby at_164)
  have N109 := Fr.snoc X109 N107 g_b97
  have Kc109 : Keep h0 h109 [] := Kc107.wr W109 (Or.inr sz_b97)
  have Vw109 : Arv Z h109 b97 k97 .int (19 : Int32) [(.int (1 : Int32)), (.int (3 : Int32)), (.int (7 : Int32)), (.int (11 : Int32)), (.int (27 : Int32)), (.int (59 : Int32)), (.int (0 : Int32)), (.int (0 : Int32)), (.int (0 : Int32)), (.int (0 : Int32)), (.int (0 : Int32)), (.int (0 : Int32)), (.int (0 : Int32)), (.int (0 : Int32)), (.int (0 : Int32)), (.int (0 : Int32)), (.int (0 : Int32)), (.int (0 : Int32)), (.int (0 : Int32))] (.int (0 : Int32)) := Arv.set Ar108 qq108 Sz108 Nn108 Hs108 Gg108 rfl W109 5 rfl (Nat.le_of_ble_eq_true rfl)
  obtain ⟨cl110, Ar110, qq110, Sz110, Nn110, Hs110, Gg110⟩ := id Vw109
  have hin110_170 : ¬ ((6 : Int32) < 0 ∨ cl110.slots.size ≤ ((6 : Int32)).toNatClampNeg) := inb_of Sz110 ⟨by decide, by decide⟩
  obtain ⟨T111, h111, X111, e111, W111, st111⟩ := stI X109 hx hZ e109 Ar110 (j := (6 : Int32)) hin110_170 (g := (mkF m 170 #[.val (.int p1), .val (.int p2), .val (.ref b1), .unset, .unset, .unset, .unset] [(.int (75 : Int32)), (.int (6 : Int32)), (.ref b97), (.ref b97)])) rfl rfl (hb hby at_170)
  have N111 := Fr.snoc X111 N109 g_b97
  have Kc111 : Keep h0 h111 [] := Kc109.wr W111 (Or.inr sz_b97)
  have Vw111 : Arv Z h111 b97 k97 .int (19 : Int32) [(.int (1 : Int32)), (.int (3 : Int32)), (.int (7 : Int32)), (.int (11 : Int32)), (.int (27 : Int32)), (.int (59 : Int32)), (.int (75 : Int32)), (.int (0 : Int32)), (.int (0 : Int32)), (.int (0 : Int32)), (.int (0 : Int32)), (.int (0 : Int32)), (.int (0 : Int32)), (.int (0 : Int32)), (.int (0 : Int32)), (.int (0 : Int32)), (.int (0 : Int32)), (.int (0 : Int32)), (.int (0 : Int32))] (.int (0 : Int32)) := Arv.set Ar110 qq110 Sz110 Nn110 Hs110 Gg110 rfl W111 6 rfl (Nat.le_of_ble_eq_true rfl)
  obtain ⟨cl112, Ar112, qq112, Sz112, Nn112, Hs112, Gg112⟩ := id Vw111
  have hin112_177 : ¬ ((7 : Int32) < 0 ∨ cl112.slots.size ≤ ((7 : Int32)).toNatClampNeg) := inb_of Sz112 ⟨by decide, by decide⟩
  obtain ⟨T113, h113, X113, e113, W113, st113⟩ := stI X111 hx hZ e111 Ar112 (j := (7 : Int32)) hin112_177 (g := (mkF m 177 #[.val (.int p1), .val (.int p2), .val (.ref b1), .unset, .unset, .unset, .unset] [(.int (131 : Int32)), (.int (7 : Int32)), (.ref b97), (.ref b97)])) rfl rfl (hb hby at_177)
  have N113 := Fr.snoc X113 N111 g_b97
  have Kc113 : Keep h0 h113 [] := Kc111.wr W113 (Or.inr sz_b97)
  have Vw113 : Arv Z h113 b97 k97 .int (19 : Int32) [(.int (1 : Int32)), (.int (3 : Int32)), (.int (7 : Int32)), (.int (11 : Int32)), (.int (27 : Int32)), (.int (59 : Int32)), (.int (75 : Int32)), (.int (131 : Int32)), (.int (0 : Int32)), (.int (0 : Int32)), (.int (0 : Int32)), (.int (0 : Int32)), (.int (0 : Int32)), (.int (0 : Int32)), (.int (0 : Int32)), (.int (0 : Int32)), (.int (0 : Int32)), (.int (0 : Int32)), (.int (0 : Int32))] (.int (0 : Int32)) := Arv.set Ar112 qq112 Sz112 Nn112 Hs112 Gg112 rfl W113 7 rfl (Nat.le_of_ble_eq_true rfl)
  obtain ⟨cl114, Ar114, qq114, Sz114, Nn114, Hs114, Gg114⟩ := id Vw113
  have hin114_184 : ¬ ((8 : Int32) < 0 ∨ cl114.slots.size ≤ ((8 : Int32)).toNatClampNeg) := inb_of Sz114 ⟨by decide, by decide⟩
  obtain ⟨T115, h115, X115, e115, W115, st115⟩ := stI X113 hx hZ e113 Ar114 (j := (8 : Int32)) hin114_184 (g := (mkF m 184 #[.val (.int p1), .val (.int p2), .val (.ref b1), .unset, .unset, .unset, .unset] [(.int (259 : Int32)), (.int (8 : Int32)), (.ref b97), (.ref b97)])) rfl rfl (hb hby at_184)
  have N115 := Fr.snoc X115 N113 g_b97
  have Kc115 : Keep h0 h115 [] := Kc113.wr W115 (Or.inr sz_b97)
  have Vw115 : Arv Z h115 b97 k97 .int (19 : Int32) [(.int (1 : Int32)), (.int (3 : Int32)), (.int (7 : Int32)), (.int (11 : Int32)), (.int (27 : Int32)), (.int (59 : Int32)), (.int (75 : Int32)), (.int (131 : Int32)), (.int (259 : Int32)), (.int (0 : Int32)), (.int (0 : Int32)), (.int (0 : Int32)), (.int (0 : Int32)), (.int (0 : Int32)), (.int (0 : Int32)), (.int (0 : Int32)), (.int (0 : Int32)), (.int (0 : Int32)), (.int (0 : Int32))] (.int (0 : Int32)) := Arv.set Ar114 qq114 Sz114 Nn114 Hs114 Gg114 rfl W115 8 rfl (Nat.le_of_ble_eq_true rfl)
  obtain ⟨cl116, Ar116, qq116, Sz116, Nn116, Hs116, Gg116⟩ := id Vw115
  have hin116_191 : ¬ ((9 : Int32) < 0 ∨ cl116.slots.size ≤ ((9 : Int32)).toNatClampNeg) := inb_of Sz116 ⟨by decide, by decide⟩
  obtain ⟨T117, h117, X117, e117, W117, st117⟩ := stI X115 hx hZ e115 Ar116 (j := (9 : Int32)) hin116_191 (g := (mkF m 191 #[.val (.int p1), .val (.int p2), .val (.ref b1), .unset, .unset, .unset, .unset] [(.int (515 : Int32)), (.int (9 : Int32)), (.ref b97), (.ref b97)])) rfl rfl (hb hby at_191)
  have N117 := Fr.snoc X117 N115 g_b97
  have Kc117 : Keep h0 h117 [] := Kc115.wr W117 (Or.inr sz_b97)
  have Vw117 : Arv Z h117 b97 k97 .int (19 : Int32) [(.int (1 : Int32)), (.int (3 : Int32)), (.int (7 : Int32)), (.int (11 : Int32)), (.int (27 : Int32)), (.int (59 : Int32)), (.int (75 : Int32)), (.int (131 : Int32)), (.int (259 : Int32)), (.int (515 : Int32)), (.int (0 : Int32)), (.int (0 : Int32)), (.int (0 : Int32)), (.int (0 : Int32)), (.int (0 : Int32)), (.int (0 : Int32)), (.int (0 : Int32)), (.int (0 : Int32)), (.int (0 : Int32))] (.int (0 : Int32)) := Arv.set Ar116 qq116 Sz116 Nn116 Hs116 Gg116 rfl W117 9 rfl (Nat.le_of_ble_eq_true rfl)
  obtain ⟨cl118, Ar118, qq118, Sz118, Nn118, Hs118, Gg118⟩ := id Vw117
  have hin118_198 : ¬ ((10 : Int32) < 0 ∨ cl118.slots.size ≤ ((10 : Int32)).toNatClampNeg) := inb_of Sz118 ⟨by decide, by decide⟩
  obtain ⟨T119, h119, X119, e119, W119, st119⟩ := stI X117 hx hZ e117 Ar118 (j := (10 : Int32)) hin118_198 (g := (mkF m 198 #[.val (.int p1), .val (.int p2), .val (.ref b1), .unset, .unset, .unset, .unset] [(.int (1027 : Int32)), (.int (10 : Int32)), (.ref b97), (.ref b97)])) rfl rfl (hb hby at_198)
  have N119 := Fr.snoc X119 N117 g_b97
  have Kc119 : Keep h0 h119 [] := Kc117.wr W119 (Or.inr sz_b97)
  have Vw119 : Arv Z h119 b97 k97 .int (19 : Int32) [(.int (1 : Int32)), (.int (3 : Int32)), (.int (7 : Int32)), (.int (11 : Int32)), (.int (27 : Int32)), (.int (59 : Int32)), (.int (75 : Int32)), (.int (131 : Int32)), (.int (259 : Int32)), (.int (515 : Int32)), (.int (1027 : Int32)), (.int (0 : Int32)), (.int (0 : Int32)), (.int (0 : Int32)), (.int (0 : Int32)), (.int (0 : Int32)), (.int (0 : Int32)), (.int (0 : Int32)), (.int (0 : Int32))] (.int (0 : Int32)) := Arv.set Ar118 qq118 Sz118 Nn118 Hs118 Gg118 rfl W119 10 rfl (Nat.le_of_ble_eq_true rfl)
  obtain ⟨cl120, Ar120, qq120, Sz120, Nn120, Hs120, Gg120⟩ := id Vw119
  have hin120_205 : ¬ ((11 : Int32) < 0 ∨ cl120.slots.size ≤ ((11 : Int32)).toNatClampNeg) := inb_of Sz120 ⟨by decide, by decide⟩
  obtain ⟨T121, h121, X121, e121, W121, st121⟩ := stI X119 hx hZ e119 Ar120 (j := (11 : Int32)) hin120_205 (g := (mkF m 205 #[.val (.int p1), .val (.int p2), .val (.ref b1), .unset, .unset, .unset, .unset] [(.int (2051 : Int32)), (.int (11 : Int32)), (.ref b97), (.ref b97)])) rfl rfl (hb hby at_205)
  have N121 := Fr.snoc X121 N119 g_b97
  have Kc121 : Keep h0 h121 [] := Kc119.wr W121 (Or.inr sz_b97)
  have Vw121 : Arv Z h121 b97 k97 .int (19 : Int32) [(.int (1 : Int32)), (.int (3 : Int32)), (.int (7 : Int32)), (.int (11 : Int32)), (.int (27 : Int32)), (.int (59 : Int32)), (.int (75 : Int32)), (.int (131 : Int32)), (.int (259 : Int32)), (.int (515 : Int32)), (.int (1027 : Int32)), (.int (2051 : Int32)), (.int (0 : Int32)), (.int (0 : Int32)), (.int (0 : Int32)), (.int (0 : Int32)), (.int (0 : Int32)), (.int (0 : Int32)), (.int (0 : Int32))] (.int (0 : Int32)) := Arv.set Ar120 qq120 Sz120 Nn120 Hs120 Gg120 rfl W121 11 rfl (Nat.le_of_ble_eq_true rfl)
  obtain ⟨cl122, Ar122, qq122, Sz122, Nn122, Hs122, Gg122⟩ := id Vw121
  have hin122_212 : ¬ ((12 : Int32) < 0 ∨ cl122.slots.size ≤ ((12 : Int32)).toNatClampNeg) := inb_of Sz122 ⟨by decide, by decide⟩
  obtain ⟨T123, h123, X123, e123, W123, st123⟩ := stI X121 hx hZ e121 Ar122 (j := (12 : Int32)) hin122_212 (g := (mkF m 212 #[.val (.int p1), .val (.int p2), .val (.ref b1), .unset, .unset, .unset, .unset] [(.int (6147 : Int32)), (.int (12 : Int32)), (.ref b97), (.ref b97)])) rfl rfl (hb hby at_212)
  have N123 := Fr.snoc X123 N121 g_b97
  have Kc123 : Keep h0 h123 [] := Kc121.wr W123 (Or.inr sz_b97)
  have Vw123 : Arv Z h123 b97 k97 .int (19 : Int32) [(.int (1 : Int32)), (.int (3 : Int32)), (.int (7 : Int32)), (.int (11 : Int32)), (.int (27 : Int32)), (.int (59 : Int32)), (.int (75 : Int32)), (.int (131 : Int32)), (.int (259 : Int32)), (.int (515 : Int32)), (.int (1027 : Int32)), (.int (2051 : Int32)), (.int (6147 : Int32)), (.int (0 : Int32)), (.int (0 : Int32)), (.int (0 : Int32)), (.int (0 : Int32)), (.int (0 : Int32)), (.int (0 : Int32))] (.int (0 : Int32)) := Arv.set Ar122 qq122 Sz122 Nn122 Hs122 Gg122 rfl W123 12 rfl (Nat.le_of_ble_eq_true rfl)
  obtain ⟨cl124, Ar124, qq124, Sz124, Nn124, Hs124, Gg124⟩ := id Vw123
  have hin124_219 : ¬ ((13 : Int32) < 0 ∨ cl124.slots.size ≤ ((13 : Int32)).toNatClampNeg) := inb_of Sz124 ⟨by decide, by decide⟩
  obtain ⟨T125, h125, X125, e125, W125, st125⟩ := stI X123 hx hZ e123 Ar124 (j := (13 : Int32)) hin124_219 (g := (mkF m 219 #[.val (.int p1), .val (.int p2), .val (.ref b1), .unset, .unset, .unset, .unset] [(.int (10243 : Int32)), (.int (13 : Int32)), (.ref b97), (.ref b97)])) rfl rfl (hb hby at_219)
  have N125 := Fr.snoc X125 N123 g_b97
  have Kc125 : Keep h0 h125 [] := Kc123.wr W125 (Or.inr sz_b97)
  have Vw125 : Arv Z h125 b97 k97 .int (19 : Int32) [(.int (1 : Int32)), (.int (3 : Int32)), (.int (7 : Int32)), (.int (11 : Int32)), (.int (27 : Int32)), (.int (59 : Int32)), (.int (75 : Int32)), (.int (131 : Int32)), (.int (259 : Int32)), (.int (515 : Int32)), (.int (1027 : Int32)), (.int (2051 : Int32)), (.int (6147 : Int32)), (.int (10243 : Int32)), (.int (0 : Int32)), (.int (0 : Int32)), (.int (0 : Int32)), (.int (0 : Int32)), (.int (0 : Int32))] (.int (0 : Int32)) := Arv.set Ar124 qq124 Sz124 Nn124 Hs124 Gg124 rfl W125 13 rfl (Nat.le_of_ble_eq_true rfl)
  obtain ⟨cl126, Ar126, qq126, Sz126, Nn126, Hs126, Gg126⟩ := id Vw125
  have hin126_226 : ¬ ((14 : Int32) < 0 ∨ cl126.slots.size ≤ ((14 : Int32)).toNatClampNeg) := inb_of Sz126 ⟨by decide, by decide⟩
  obtain ⟨T127, h127, X127, e127, W127, st127⟩ := stI X125 hx hZ e125 Ar126 (j := (14 : Int32)) hin126_226 (g := (mkF m 226 #[.val (.int p1), .val (.int p2), .val (.ref b1), .unset, .unset, .unset, .unset] [(.int (16387 : Int32)), (.int (14 : Int32)), (.ref b97), (.ref b97)])) rfl rfl (hb hby at_226)
  have N127 := Fr.snoc X127 N125 g_b97
  have Kc127 : Keep h0 h127 [] := Kc125.wr W127 (Or.inr sz_b97)
  have Vw127 : Arv Z h127 b97 k97 .int (19 : Int32) [(.int (1 : Int32)), (.int (3 : Int32)), (.int (7 : Int32)), (.int (11 : Int32)), (.int (27 : Int32)), (.int (59 : Int32)), (.int (75 : Int32)), (.int (131 : Int32)), (.int (259 : Int32)), (.int (515 : Int32)), (.int (1027 : Int32)), (.int (2051 : Int32)), (.int (6147 : Int32)), (.int (10243 : Int32)), (.int (16387 : Int32)), (.int (0 : Int32)), (.int (0 : Int32)), (.int (0 : Int32)), (.int (0 : Int32))] (.int (0 : Int32)) := Arv.set Ar126 qq126 Sz126 Nn126 Hs126 Gg126 rfl W127 14 rfl (Nat.le_of_ble_eq_true rfl)
  obtain ⟨cl128, Ar128, qq128, Sz128, Nn128, Hs128, Gg128⟩ := id Vw127
  have hin128_232 : ¬ ((15 : Int32) < 0 ∨ cl128.slots.size ≤ ((15 : Int32)).toNatClampNeg) := inb_of Sz128 ⟨by decide, by decide⟩
  obtain ⟨T129, h129, X129, e129, W129, st129⟩ := stI X127 hx hZ e127 Ar128 (j := (15 : Int32)) hin128_232 (g := (mkF m 232 #[.val (.int p1), .val (.int p2), .val (.ref b1), .unset, .unset, .unset, .unset] [(.int (32769 : Int32)), (.int (15 : Int32)), (.ref b97), (.ref b97)])) rfl rfl (hb hby at_232)
  have N129 := Fr.snoc X129 N127 g_b97
  have Kc129 : Keep h0 h129 [] := Kc127.wr W129 (Or.inr sz_b97)
  have Vw129 : Arv Z h129 b97 k97 .int (19 : Int32) [(.int (1 : Int32)), (.int (3 : Int32)), (.int (7 : Int32)), (.int (11 : Int32)), (.int (27 : Int32)), (.int (59 : Int32)), (.int (75 : Int32)), (.int (131 : Int32)), (.int (259 : Int32)), (.int (515 : Int32)), (.int (1027 : Int32)), (.int (2051 : Int32)), (.int (6147 : Int32)), (.int (10243 : Int32)), (.int (16387 : Int32)), (.int (32769 : Int32)), (.int (0 : Int32)), (.int (0 : Int32)), (.int (0 : Int32))] (.int (0 : Int32)) := Arv.set Ar128 qq128 Sz128 Nn128 Hs128 Gg128 rfl W129 15 rfl (Nat.le_of_ble_eq_true rfl)
  obtain ⟨cl130, Ar130, qq130, Sz130, Nn130, Hs130, Gg130⟩ := id Vw129
  have hin130_238 : ¬ ((16 : Int32) < 0 ∨ cl130.slots.size ≤ ((16 : Int32)).toNatClampNeg) := inb_of Sz130 ⟨by decide, by decide⟩
  obtain ⟨T131, h131, X131, e131, W131, st131⟩ := stI X129 hx hZ e129 Ar130 (j := (16 : Int32)) hin130_238 (g := (mkF m 238 #[.val (.int p1), .val (.int p2), .val (.ref b1), .unset, .unset, .unset, .unset] [(.int (98305 : Int32)), (.int (16 : Int32)), (.ref b97), (.ref b97)])) rfl rfl (hb hby at_238)
  have N131 := Fr.snoc X131 N129 g_b97
  have Kc131 : Keep h0 h131 [] := Kc129.wr W131 (Or.inr sz_b97)
  have Vw131 : Arv Z h131 b97 k97 .int (19 : Int32) [(.int (1 : Int32)), (.int (3 : Int32)), (.int (7 : Int32)), (.int (11 : Int32)), (.int (27 : Int32)), (.int (59 : Int32)), (.int (75 : Int32)), (.int (131 : Int32)), (.int (259 : Int32)), (.int (515 : Int32)), (.int (1027 : Int32)), (.int (2051 : Int32)), (.int (6147 : Int32)), (.int (10243 : Int32)), (.int (16387 : Int32)), (.int (32769 : Int32)), (.int (98305 : Int32)), (.int (0 : Int32)), (.int (0 : Int32))] (.int (0 : Int32)) := Arv.set Ar130 qq130 Sz130 Nn130 Hs130 Gg130 rfl W131 16 rfl (Nat.le_of_ble_eq_true rfl)
  obtain ⟨cl132, Ar132, qq132, Sz132, Nn132, Hs132, Gg132⟩ := id Vw131
  have hin132_244 : ¬ ((17 : Int32) < 0 ∨ cl132.slots.size ≤ ((17 : Int32)).toNatClampNeg) := inb_of Sz132 ⟨by decide, by decide⟩
  obtain ⟨T133, h133, X133, e133, W133, st133⟩ := stI X131 hx hZ e131 Ar132 (j := (17 : Int32)) hin132_244 (g := (mkF m 244 #[.val (.int p1), .val (.int p2), .val (.ref b1), .unset, .unset, .unset, .unset] [(.int (163841 : Int32)), (.int (17 : Int32)), (.ref b97), (.ref b97)])) rfl rfl (hb hby at_244)
  have N133 := Fr.snoc X133 N131 g_b97
  have Kc133 : Keep h0 h133 [] := Kc131.wr W133 (Or.inr sz_b97)
  have Vw133 : Arv Z h133 b97 k97 .int (19 : Int32) [(.int (1 : Int32)), (.int (3 : Int32)), (.int (7 : Int32)), (.int (11 : Int32)), (.int (27 : Int32)), (.int (59 : Int32)), (.int (75 : Int32)), (.int (131 : Int32)), (.int (259 : Int32)), (.int (515 : Int32)), (.int (1027 : Int32)), (.int (2051 : Int32)), (.int (6147 : Int32)), (.int (10243 : Int32)), (.int (16387 : Int32)), (.int (32769 : Int32)), (.int (98305 : Int32)), (.int (163841 : Int32)), (.int (0 : Int32))] (.int (0 : Int32)) := Arv.set Ar132 qq132 Sz132 Nn132 Hs132 Gg132 rfl W133 17 rfl (Nat.le_of_ble_eq_true rfl)
  obtain ⟨cl134, Ar134, qq134, Sz134, Nn134, Hs134, Gg134⟩ := id Vw133
  have hin134_250 : ¬ ((18 : Int32) < 0 ∨ cl134.slots.size ≤ ((18 : Int32)).toNatClampNeg) := inb_of Sz134 ⟨by decide, by decide⟩
  obtain ⟨T135, h135, X135, e135, W135, st135⟩ := stI X133 hx hZ e133 Ar134 (j := (18 : Int32)) hin134_250 (g := (mkF m 250 #[.val (.int p1), .val (.int p2), .val (.ref b1), .unset, .unset, .unset, .unset] [(.int (262145 : Int32)), (.int (18 : Int32)), (.ref b97), (.ref b97)])) rfl rfl (hb hby at_250)
  have N135 := Fr.snoc X135 N133 g_b97
  have Kc135 : Keep h0 h135 [] := Kc133.wr W135 (Or.inr sz_b97)
  have Vw135 : Arv Z h135 b97 k97 .int (19 : Int32) [(.int (1 : Int32)), (.int (3 : Int32)), (.int (7 : Int32)), (.int (11 : Int32)), (.int (27 : Int32)), (.int (59 : Int32)), (.int (75 : Int32)), (.int (131 : Int32)), (.int (259 : Int32)), (.int (515 : Int32)), (.int (1027 : Int32)), (.int (2051 : Int32)), (.int (6147 : Int32)), (.int (10243 : Int32)), (.int (16387 : Int32)), (.int (32769 : Int32)), (.int (98305 : Int32)), (.int (163841 : Int32)), (.int (262145 : Int32))] (.int (0 : Int32)) := Arv.set Ar134 qq134 Sz134 Nn134 Hs134 Gg134 rfl W135 18 rfl (Nat.le_of_ble_eq_true rfl)
  obtain ⟨cl136, Ar136, qq136, Sz136, Nn136, Hs136, Gg136⟩ := id Vw135
  have hin136_273 : ¬ (((p2 &&& (2147483647 : Int32)) % (19 : Int32)) < 0 ∨ cl136.slots.size ≤ (((p2 &&& (2147483647 : Int32)) % (19 : Int32))).toNatClampNeg) := inb_of Sz136 ⟨lo2, hi2⟩
  have hat136_273 : cl136.slots[(((p2 &&& (2147483647 : Int32)) % (19 : Int32))).toNatClampNeg]? = some (.int y) := Has.at Hs136 hin136_273 sel3
  have f137 : Arv Z h135 b1 k1 (.object "com/example/gridloom/gridloom/mapping/ItemType") (19 : Int32) [(.ref w0), (.ref w1), (.ref w2), (.ref w3), (.ref w4), (.ref w5), (.ref w6), (.ref w7), (.ref w8), (.ref w9), (.ref w10), (.ref w11), (.ref w12), (.ref w13), (.ref w14), (.ref w15), (.ref w16), (.ref w17), (.ref w18)] .null := ((((((((((((((((((((Vw95.ext E97).other W99 ne_b1_b97).other W101 ne_b1_b97).other W103 ne_b1_b97).other W105 ne_b1_b97).other W107 ne_b1_b97).other W109 ne_b1_b97).other W111 ne_b1_b97).other W113 ne_b1_b97).other W115 ne_b1_b97).other W117 ne_b1_b97).other W119 ne_b1_b97).other W121 ne_b1_b97).other W123 ne_b1_b97).other W125 ne_b1_b97).other W127 ne_b1_b97).other W129 ne_b1_b97).other W131 ne_b1_b97).other W133 ne_b1_b97).other W135 ne_b1_b97)
  obtain ⟨cl138, Ar138, qq138, Sz138, Nn138, Hs138, Gg138⟩ := id f137
  have hin138_292 : ¬ (((p1 &&& (2147483647 : Int32)) % (19 : Int32)) < 0 ∨ cl138.slots.size ≤ (((p1 &&& (2147483647 : Int32)) % (19 : Int32))).toNatClampNeg) := inb_of Sz138 ⟨lo1, hi1⟩
  have hat138_292 : cl138.slots[(((p1 &&& (2147483647 : Int32)) % (19 : Int32))).toNatClampNeg]? = some (.ref a) := Has.at Hs138 hin138_292 sel1
  have hin138_296 : ¬ (((p2 &&& (2147483647 : Int32)) % (19 : Int32)) < 0 ∨ cl138.slots.size ≤ (((p2 &&& (2147483647 : Int32)) % (19 : Int32))).toNatClampNeg) := inb_of Sz138 ⟨lo2, hi2⟩
  have hat138_296 : cl138.slots[(((p2 &&& (2147483647 : Int32)) % (19 : Int32))).toNatClampNeg]? = some (.ref b) := Has.at Hs138 hin138_296 sel2
  have f140 : Exa Z h135 a "com/example/gridloom/gridloom/mapping/ItemType" := (Exa.wr W135 (Exa.wr W133 (Exa.wr W131 (Exa.wr W129 (Exa.wr W127 (Exa.wr W125 (Exa.wr W123 (Exa.wr W121 (Exa.wr W119 (Exa.wr W117 (Exa.wr W115 (Exa.wr W113 (Exa.wr W111 (Exa.wr W109 (Exa.wr W107 (Exa.wr W105 (Exa.wr W103 (Exa.wr W101 (Exa.wr W99 (Exa.ext E97 (Exa.wr W95 (Exa.wr W90 (Exa.wr W85 (Exa.wr W80 (Exa.wr W75 (Exa.wr W70 (Exa.wr W65 (Exa.wr W60 (Exa.wr W55 (Exa.wr W50 (Exa.wr W45 (Exa.wr W40 (Exa.wr W35 (Exa.wr W30 (Exa.wr W25 (Exa.wr W20 (Exa.wr W15 (Exa.wr W10 (Exa.wr W5 (Exa.ext E1 E_a))))))))))))))))))))))))))))))))))))))))
  obtain ⟨cq139, kq139, q139a, q139b, q139c⟩ := isOf hZ e135 f140
  obtain ⟨_, T139, L139, X139, hQ139, st139⟩ := own_backV (Q := Q_inc Z a b CL (1 : Int32) h135 n0) (k := 0) (n := 0) X135 <| X135.virtualBack hx (y := (⟨"com/example/gridloom/gridloom/mapping/ItemType", "includes", "(Lcom/example/gridloom/gridloom/mapping/ItemType;)Z"⟩ : MethodName)) (z := (⟨"com/example/gridloom/gridloom/mapping/ItemType", "includes", "(Lcom/example/gridloom/gridloom/mapping/ItemType;)Z"⟩ : MethodName)) hown (mvT hZ (hw _ (List.mem_of_getElem? (i := 48) rfl))) (mvT hZ (hw _ (List.mem_of_getElem? (i := 49) rfl))) (notFace_of_selects (args := #[]) (mvT hZ (hw _ (List.mem_of_getElem? (i := 51) rfl)))) (mvT hZ (hw _ (List.mem_of_getElem? (i := 51) rfl))) (mvT hZ (hw _ (List.mem_of_getElem? (i := 50) rfl))) (by decide) (backOf (W := 0) (rm_inc l Z a0 hw [] a b CL (1 : Int32) h135 n0 (Nat.le_trans Z0 Kc135.1) hhd (own_chain_keep Kc135 CL hch) hlen hret) hZ (hw _ (List.mem_of_getElem? (i := 52) rfl)) (hw _ (List.mem_of_getElem? (i := 3) rfl)) (by decide) (by decide)) q139a q139c (g := (mkF m 297 #[.val (.int p1), .val (.int p2), .val (.ref b1), .val (.ref b97), .val (.int ((p1 &&& (2147483647 : Int32)) % (19 : Int32))), .val (.int ((p2 &&& (2147483647 : Int32)) % (19 : Int32))), .val (.int (1 : Int32))] [(.ref b), (.ref a)])) rfl (by rw [hml]; rfl) (Steps.refl _) (argsL := [(.ref b)]) (rest := []) (lenOf pd__28Lcom_2fexample_2fgridloom_2fgridloom_2fmapping_2fItemType_3b_29Z rfl) rfl (by show 2 * 0 + _ ≤ _; exact Nat.le_of_eq rfl) (hb hby at_297) (fun _ _ => ⟨rfl, e135, (by decide : 2 + 0 ≤ _), (by decide : 38 + 0 ≤ _)⟩)
  obtain ⟨rfl, N139q, e139⟩ := hQ139
  have N139 := Fr.app N135 N139q
  obtain ⟨fs, hr, hrun, hended, hW, hsame⟩ := X139.leave (v := some (.int (1 : Int32))) (fun h => by rw [Bd.returns] at h; cases h)
  refine ⟨_, _, pre0 _ ?_, hrun, hended, _, _, rfl, ?_, ⟨_, rfl⟩, hW, hsame.mono (by decide) (by decide)⟩
  · show Steps p.tables e below (s₁.setTop (mkF m 0 #[.val (.int p1), .val (.int p2), .unset, .unset, .unset, .unset, .unset] [])) _
    refine XS.bipush X0.here hx rfl (hb hby at_0) ?_
    show Steps p.tables e below (s₁.setTop (mkF m 2 #[.val (.int p1), .val (.int p2), .unset, .unset, .unset, .unset, .unset] [(.int (19 : Int32))])) _
    refine st1 _ ?_
    show Steps p.tables e below (T1.setTop (mkF m 5 #[.val (.int p1), .val (.int p2), .unset, .unset, .unset, .unset, .unset] [(.ref b1)])) _
    refine XS.dup X1.here hx rfl (hb hby at_5) rfl rfl ?_
    show Steps p.tables e below (T1.setTop (mkF m 6 #[.val (.int p1), .val (.int p2), .unset, .unset, .unset, .unset, .unset] [(.ref b1), (.ref b1)])) _
    refine XS.iconst X1.here hx rfl (hb hby at_6) ?_
    show Steps p.tables e below (T1.setTop (mkF m 7 #[.val (.int p1), .val (.int p2), .unset, .unset, .unset, .unset, .unset] [(.int (0 : Int32)), (.ref b1), (.ref b1)])) _
    refine st3 _ ?_
    show Steps p.tables e below (T3.setTop (mkF m 10 #[.val (.int p1), .val (.int p2), .unset, .unset, .unset, .unset, .unset] [(.ref w0), (.int (0 : Int32)), (.ref b1), (.ref b1)])) _
    refine st5 _ ?_
    show Steps p.tables e below (T5.setTop (mkF m 11 #[.val (.int p1), .val (.int p2), .unset, .unset, .unset, .unset, .unset] [(.ref b1)])) _
    refine XS.dup X5.here hx rfl (hb hby at_11) rfl rfl ?_
    show Steps p.tables e below (T5.setTop (mkF m 12 #[.val (.int p1), .val (.int p2), .unset, .unset, .unset, .unset, .unset] [(.ref b1), (.ref b1)])) _
    refine XS.iconst X5.here hx rfl (hb hby at_12) ?_
    show Steps p.tables e below (T5.setTop (mkF m 13 #[.val (.int p1), .val (.int p2), .unset, .unset, .unset, .unset, .unset] [(.int (1 : Int32)), (.ref b1), (.ref b1)])) _
    refine st8 _ ?_
    show Steps p.tables e below (T8.setTop (mkF m 16 #[.val (.int p1), .val (.int p2), .unset, .unset, .unset, .unset, .unset] [(.ref w1), (.int (1 : Int32)), (.ref b1), (.ref b1)])) _
    refine st10 _ ?_
    show Steps p.tables e below (T10.setTop (mkF m 17 #[.val (.int p1), .val (.int p2), .unset, .unset, .unset, .unset, .unset] [(.ref b1)])) _
    refine XS.dup X10.here hx rfl (hb hby at_17) rfl rfl ?_
    show Steps p.tables e below (T10.setTop (mkF m 18 #[.val (.int p1), .val (.int p2), .unset, .unset, .unset, .unset, .unset] [(.ref b1), (.ref b1)])) _
    refine XS.iconst X10.here hx rfl (hb hby at_18) ?_
    show Steps p.tables e below (T10.setTop (mkF m 19 #[.val (.int p1), .val (.int p2), .unset, .unset, .unset, .unset, .unset] [(.int (2 : Int32)), (.ref b1), (.ref b1)])) _
    refine st13 _ ?_
    show Steps p.tables e below (T13.setTop (mkF m 22 #[.val (.int p1), .val (.int p2), .unset, .unset, .unset, .unset, .unset] [(.ref w2), (.int (2 : Int32)), (.ref b1), (.ref b1)])) _
    refine st15 _ ?_
    show Steps p.tables e below (T15.setTop (mkF m 23 #[.val (.int p1), .val (.int p2), .unset, .unset, .unset, .unset, .unset] [(.ref b1)])) _
    refine XS.dup X15.here hx rfl (hb hby at_23) rfl rfl ?_
    show Steps p.tables e below (T15.setTop (mkF m 24 #[.val (.int p1), .val (.int p2), .unset, .unset, .unset, .unset, .unset] [(.ref b1), (.ref b1)])) _
    refine XS.iconst X15.here hx rfl (hb hby at_24) ?_
    show Steps p.tables e below (T15.setTop (mkF m 25 #[.val (.int p1), .val (.int p2), .unset, .unset, .unset, .unset, .unset] [(.int (3 : Int32)), (.ref b1), (.ref b1)])) _
    refine st18 _ ?_
    show Steps p.tables e below (T18.setTop (mkF m 28 #[.val (.int p1), .val (.int p2), .unset, .unset, .unset, .unset, .unset] [(.ref w3), (.int (3 : Int32)), (.ref b1), (.ref b1)])) _
    refine st20 _ ?_
    show Steps p.tables e below (T20.setTop (mkF m 29 #[.val (.int p1), .val (.int p2), .unset, .unset, .unset, .unset, .unset] [(.ref b1)])) _
    refine XS.dup X20.here hx rfl (hb hby at_29) rfl rfl ?_
    show Steps p.tables e below (T20.setTop (mkF m 30 #[.val (.int p1), .val (.int p2), .unset, .unset, .unset, .unset, .unset] [(.ref b1), (.ref b1)])) _
    refine XS.iconst X20.here hx rfl (hb hby at_30) ?_
    show Steps p.tables e below (T20.setTop (mkF m 31 #[.val (.int p1), .val (.int p2), .unset, .unset, .unset, .unset, .unset] [(.int (4 : Int32)), (.ref b1), (.ref b1)])) _
    refine st23 _ ?_
    show Steps p.tables e below (T23.setTop (mkF m 34 #[.val (.int p1), .val (.int p2), .unset, .unset, .unset, .unset, .unset] [(.ref w4), (.int (4 : Int32)), (.ref b1), (.ref b1)])) _
    refine st25 _ ?_
    show Steps p.tables e below (T25.setTop (mkF m 35 #[.val (.int p1), .val (.int p2), .unset, .unset, .unset, .unset, .unset] [(.ref b1)])) _
    refine XS.dup X25.here hx rfl (hb hby at_35) rfl rfl ?_
    show Steps p.tables e below (T25.setTop (mkF m 36 #[.val (.int p1), .val (.int p2), .unset, .unset, .unset, .unset, .unset] [(.ref b1), (.ref b1)])) _
    refine XS.iconst X25.here hx rfl (hb hby at_36) ?_
    show Steps p.tables e below (T25.setTop (mkF m 37 #[.val (.int p1), .val (.int p2), .unset, .unset, .unset, .unset, .unset] [(.int (5 : Int32)), (.ref b1), (.ref b1)])) _
    refine st28 _ ?_
    show Steps p.tables e below (T28.setTop (mkF m 40 #[.val (.int p1), .val (.int p2), .unset, .unset, .unset, .unset, .unset] [(.ref w5), (.int (5 : Int32)), (.ref b1), (.ref b1)])) _
    refine st30 _ ?_
    show Steps p.tables e below (T30.setTop (mkF m 41 #[.val (.int p1), .val (.int p2), .unset, .unset, .unset, .unset, .unset] [(.ref b1)])) _
    refine XS.dup X30.here hx rfl (hb hby at_41) rfl rfl ?_
    show Steps p.tables e below (T30.setTop (mkF m 42 #[.val (.int p1), .val (.int p2), .unset, .unset, .unset, .unset, .unset] [(.ref b1), (.ref b1)])) _
    refine XS.bipush X30.here hx rfl (hb hby at_42) ?_
    show Steps p.tables e below (T30.setTop (mkF m 44 #[.val (.int p1), .val (.int p2), .unset, .unset, .unset, .unset, .unset] [(.int (6 : Int32)), (.ref b1), (.ref b1)])) _
    refine st33 _ ?_
    show Steps p.tables e below (T33.setTop (mkF m 47 #[.val (.int p1), .val (.int p2), .unset, .unset, .unset, .unset, .unset] [(.ref w6), (.int (6 : Int32)), (.ref b1), (.ref b1)])) _
    refine st35 _ ?_
    show Steps p.tables e below (T35.setTop (mkF m 48 #[.val (.int p1), .val (.int p2), .unset, .unset, .unset, .unset, .unset] [(.ref b1)])) _
    refine XS.dup X35.here hx rfl (hb hby at_48) rfl rfl ?_
    show Steps p.tables e below (T35.setTop (mkF m 49 #[.val (.int p1), .val (.int p2), .unset, .unset, .unset, .unset, .unset] [(.ref b1), (.ref b1)])) _
    refine XS.bipush X35.here hx rfl (hb hby at_49) ?_
    show Steps p.tables e below (T35.setTop (mkF m 51 #[.val (.int p1), .val (.int p2), .unset, .unset, .unset, .unset, .unset] [(.int (7 : Int32)), (.ref b1), (.ref b1)])) _
    refine st38 _ ?_
    show Steps p.tables e below (T38.setTop (mkF m 54 #[.val (.int p1), .val (.int p2), .unset, .unset, .unset, .unset, .unset] [(.ref w7), (.int (7 : Int32)), (.ref b1), (.ref b1)])) _
    refine st40 _ ?_
    show Steps p.tables e below (T40.setTop (mkF m 55 #[.val (.int p1), .val (.int p2), .unset, .unset, .unset, .unset, .unset] [(.ref b1)])) _
    refine XS.dup X40.here hx rfl (hb hby at_55) rfl rfl ?_
    show Steps p.tables e below (T40.setTop (mkF m 56 #[.val (.int p1), .val (.int p2), .unset, .unset, .unset, .unset, .unset] [(.ref b1), (.ref b1)])) _
    refine XS.bipush X40.here hx rfl (hb hby at_56) ?_
    show Steps p.tables e below (T40.setTop (mkF m 58 #[.val (.int p1), .val (.int p2), .unset, .unset, .unset, .unset, .unset] [(.int (8 : Int32)), (.ref b1), (.ref b1)])) _
    refine st43 _ ?_
    show Steps p.tables e below (T43.setTop (mkF m 61 #[.val (.int p1), .val (.int p2), .unset, .unset, .unset, .unset, .unset] [(.ref w8), (.int (8 : Int32)), (.ref b1), (.ref b1)])) _
    refine st45 _ ?_
    show Steps p.tables e below (T45.setTop (mkF m 62 #[.val (.int p1), .val (.int p2), .unset, .unset, .unset, .unset, .unset] [(.ref b1)])) _
    refine XS.dup X45.here hx rfl (hb hby at_62) rfl rfl ?_
    show Steps p.tables e below (T45.setTop (mkF m 63 #[.val (.int p1), .val (.int p2), .unset, .unset, .unset, .unset, .unset] [(.ref b1), (.ref b1)])) _
    refine XS.bipush X45.here hx rfl (hb hby at_63) ?_
    show Steps p.tables e below (T45.setTop (mkF m 65 #[.val (.int p1), .val (.int p2), .unset, .unset, .unset, .unset, .unset] [(.int (9 : Int32)), (.ref b1), (.ref b1)])) _
    refine st48 _ ?_
    show Steps p.tables e below (T48.setTop (mkF m 68 #[.val (.int p1), .val (.int p2), .unset, .unset, .unset, .unset, .unset] [(.ref w9), (.int (9 : Int32)), (.ref b1), (.ref b1)])) _
    refine st50 _ ?_
    show Steps p.tables e below (T50.setTop (mkF m 69 #[.val (.int p1), .val (.int p2), .unset, .unset, .unset, .unset, .unset] [(.ref b1)])) _
    refine XS.dup X50.here hx rfl (hb hby at_69) rfl rfl ?_
    show Steps p.tables e below (T50.setTop (mkF m 70 #[.val (.int p1), .val (.int p2), .unset, .unset, .unset, .unset, .unset] [(.ref b1), (.ref b1)])) _
    refine XS.bipush X50.here hx rfl (hb hby at_70) ?_
    show Steps p.tables e below (T50.setTop (mkF m 72 #[.val (.int p1), .val (.int p2), .unset, .unset, .unset, .unset, .unset] [(.int (10 : Int32)), (.ref b1), (.ref b1)])) _
    refine st53 _ ?_
    show Steps p.tables e below (T53.setTop (mkF m 75 #[.val (.int p1), .val (.int p2), .unset, .unset, .unset, .unset, .unset] [(.ref w10), (.int (10 : Int32)), (.ref b1), (.ref b1)])) _
    refine st55 _ ?_
    show Steps p.tables e below (T55.setTop (mkF m 76 #[.val (.int p1), .val (.int p2), .unset, .unset, .unset, .unset, .unset] [(.ref b1)])) _
    refine XS.dup X55.here hx rfl (hb hby at_76) rfl rfl ?_
    show Steps p.tables e below (T55.setTop (mkF m 77 #[.val (.int p1), .val (.int p2), .unset, .unset, .unset, .unset, .unset] [(.ref b1), (.ref b1)])) _
    refine XS.bipush X55.here hx rfl (hb hby at_77) ?_
    show Steps p.tables e below (T55.setTop (mkF m 79 #[.val (.int p1), .val (.int p2), .unset, .unset, .unset, .unset, .unset] [(.int (11 : Int32)), (.ref b1), (.ref b1)])) _
    refine st58 _ ?_
    show Steps p.tables e below (T58.setTop (mkF m 82 #[.val (.int p1), .val (.int p2), .unset, .unset, .unset, .unset, .unset] [(.ref w11), (.int (11 : Int32)), (.ref b1), (.ref b1)])) _
    refine st60 _ ?_
    show Steps p.tables e below (T60.setTop (mkF m 83 #[.val (.int p1), .val (.int p2), .unset, .unset, .unset, .unset, .unset] [(.ref b1)])) _
    refine XS.dup X60.here hx rfl (hb hby at_83) rfl rfl ?_
    show Steps p.tables e below (T60.setTop (mkF m 84 #[.val (.int p1), .val (.int p2), .unset, .unset, .unset, .unset, .unset] [(.ref b1), (.ref b1)])) _
    refine XS.bipush X60.here hx rfl (hb hby at_84) ?_
    show Steps p.tables e below (T60.setTop (mkF m 86 #[.val (.int p1), .val (.int p2), .unset, .unset, .unset, .unset, .unset] [(.int (12 : Int32)), (.ref b1), (.ref b1)])) _
    refine st63 _ ?_
    show Steps p.tables e below (T63.setTop (mkF m 89 #[.val (.int p1), .val (.int p2), .unset, .unset, .unset, .unset, .unset] [(.ref w12), (.int (12 : Int32)), (.ref b1), (.ref b1)])) _
    refine st65 _ ?_
    show Steps p.tables e below (T65.setTop (mkF m 90 #[.val (.int p1), .val (.int p2), .unset, .unset, .unset, .unset, .unset] [(.ref b1)])) _
    refine XS.dup X65.here hx rfl (hb hby at_90) rfl rfl ?_
    show Steps p.tables e below (T65.setTop (mkF m 91 #[.val (.int p1), .val (.int p2), .unset, .unset, .unset, .unset, .unset] [(.ref b1), (.ref b1)])) _
    refine XS.bipush X65.here hx rfl (hb hby at_91) ?_
    show Steps p.tables e below (T65.setTop (mkF m 93 #[.val (.int p1), .val (.int p2), .unset, .unset, .unset, .unset, .unset] [(.int (13 : Int32)), (.ref b1), (.ref b1)])) _
    refine st68 _ ?_
    show Steps p.tables e below (T68.setTop (mkF m 96 #[.val (.int p1), .val (.int p2), .unset, .unset, .unset, .unset, .unset] [(.ref w13), (.int (13 : Int32)), (.ref b1), (.ref b1)])) _
    refine st70 _ ?_
    show Steps p.tables e below (T70.setTop (mkF m 97 #[.val (.int p1), .val (.int p2), .unset, .unset, .unset, .unset, .unset] [(.ref b1)])) _
    refine XS.dup X70.here hx rfl (hb hby at_97) rfl rfl ?_
    show Steps p.tables e below (T70.setTop (mkF m 98 #[.val (.int p1), .val (.int p2), .unset, .unset, .unset, .unset, .unset] [(.ref b1), (.ref b1)])) _
    refine XS.bipush X70.here hx rfl (hb hby at_98) ?_
    show Steps p.tables e below (T70.setTop (mkF m 100 #[.val (.int p1), .val (.int p2), .unset, .unset, .unset, .unset, .unset] [(.int (14 : Int32)), (.ref b1), (.ref b1)])) _
    refine st73 _ ?_
    show Steps p.tables e below (T73.setTop (mkF m 103 #[.val (.int p1), .val (.int p2), .unset, .unset, .unset, .unset, .unset] [(.ref w14), (.int (14 : Int32)), (.ref b1), (.ref b1)])) _
    refine st75 _ ?_
    show Steps p.tables e below (T75.setTop (mkF m 104 #[.val (.int p1), .val (.int p2), .unset, .unset, .unset, .unset, .unset] [(.ref b1)])) _
    refine XS.dup X75.here hx rfl (hb hby at_104) rfl rfl ?_
    show Steps p.tables e below (T75.setTop (mkF m 105 #[.val (.int p1), .val (.int p2), .unset, .unset, .unset, .unset, .unset] [(.ref b1), (.ref b1)])) _
    refine XS.bipush X75.here hx rfl (hb hby at_105) ?_
    show Steps p.tables e below (T75.setTop (mkF m 107 #[.val (.int p1), .val (.int p2), .unset, .unset, .unset, .unset, .unset] [(.int (15 : Int32)), (.ref b1), (.ref b1)])) _
    refine st78 _ ?_
    show Steps p.tables e below (T78.setTop (mkF m 110 #[.val (.int p1), .val (.int p2), .unset, .unset, .unset, .unset, .unset] [(.ref w15), (.int (15 : Int32)), (.ref b1), (.ref b1)])) _
    refine st80 _ ?_
    show Steps p.tables e below (T80.setTop (mkF m 111 #[.val (.int p1), .val (.int p2), .unset, .unset, .unset, .unset, .unset] [(.ref b1)])) _
    refine XS.dup X80.here hx rfl (hb hby at_111) rfl rfl ?_
    show Steps p.tables e below (T80.setTop (mkF m 112 #[.val (.int p1), .val (.int p2), .unset, .unset, .unset, .unset, .unset] [(.ref b1), (.ref b1)])) _
    refine XS.bipush X80.here hx rfl (hb hby at_112) ?_
    show Steps p.tables e below (T80.setTop (mkF m 114 #[.val (.int p1), .val (.int p2), .unset, .unset, .unset, .unset, .unset] [(.int (16 : Int32)), (.ref b1), (.ref b1)])) _
    refine st83 _ ?_
    show Steps p.tables e below (T83.setTop (mkF m 117 #[.val (.int p1), .val (.int p2), .unset, .unset, .unset, .unset, .unset] [(.ref w16), (.int (16 : Int32)), (.ref b1), (.ref b1)])) _
    refine st85 _ ?_
    show Steps p.tables e below (T85.setTop (mkF m 118 #[.val (.int p1), .val (.int p2), .unset, .unset, .unset, .unset, .unset] [(.ref b1)])) _
    refine XS.dup X85.here hx rfl (hb hby at_118) rfl rfl ?_
    show Steps p.tables e below (T85.setTop (mkF m 119 #[.val (.int p1), .val (.int p2), .unset, .unset, .unset, .unset, .unset] [(.ref b1), (.ref b1)])) _
    refine XS.bipush X85.here hx rfl (hb hby at_119) ?_
    show Steps p.tables e below (T85.setTop (mkF m 121 #[.val (.int p1), .val (.int p2), .unset, .unset, .unset, .unset, .unset] [(.int (17 : Int32)), (.ref b1), (.ref b1)])) _
    refine st88 _ ?_
    show Steps p.tables e below (T88.setTop (mkF m 124 #[.val (.int p1), .val (.int p2), .unset, .unset, .unset, .unset, .unset] [(.ref w17), (.int (17 : Int32)), (.ref b1), (.ref b1)])) _
    refine st90 _ ?_
    show Steps p.tables e below (T90.setTop (mkF m 125 #[.val (.int p1), .val (.int p2), .unset, .unset, .unset, .unset, .unset] [(.ref b1)])) _
    refine XS.dup X90.here hx rfl (hb hby at_125) rfl rfl ?_
    show Steps p.tables e below (T90.setTop (mkF m 126 #[.val (.int p1), .val (.int p2), .unset, .unset, .unset, .unset, .unset] [(.ref b1), (.ref b1)])) _
    refine XS.bipush X90.here hx rfl (hb hby at_126) ?_
    show Steps p.tables e below (T90.setTop (mkF m 128 #[.val (.int p1), .val (.int p2), .unset, .unset, .unset, .unset, .unset] [(.int (18 : Int32)), (.ref b1), (.ref b1)])) _
    refine st93 _ ?_
    show Steps p.tables e below (T93.setTop (mkF m 131 #[.val (.int p1), .val (.int p2), .unset, .unset, .unset, .unset, .unset] [(.ref w18), (.int (18 : Int32)), (.ref b1), (.ref b1)])) _
    refine st95 _ ?_
    show Steps p.tables e below (T95.setTop (mkF m 132 #[.val (.int p1), .val (.int p2), .unset, .unset, .unset, .unset, .unset] [(.ref b1)])) _
    refine XS.astoreN X95.here hx rfl (hb hby at_132) rfl rfl (l' := #[.val (.int p1), .val (.int p2), .val (.ref b1), .unset, .unset, .unset, .unset]) rfl ?_
    show Steps p.tables e below (T95.setTop (mkF m 133 #[.val (.int p1), .val (.int p2), .val (.ref b1), .unset, .unset, .unset, .unset] [])) _
    refine XS.bipush X95.here hx rfl (hb hby at_133) ?_
    show Steps p.tables e below (T95.setTop (mkF m 135 #[.val (.int p1), .val (.int p2), .val (.ref b1), .unset, .unset, .unset, .unset] [(.int (19 : Int32))])) _
    refine st97 _ ?_
    show Steps p.tables e below (T97.setTop (mkF m 137 #[.val (.int p1), .val (.int p2), .val (.ref b1), .unset, .unset, .unset, .unset] [(.ref b97)])) _
    refine XS.dup X97.here hx rfl (hb hby at_137) rfl rfl ?_
    show Steps p.tables e below (T97.setTop (mkF m 138 #[.val (.int p1), .val (.int p2), .val (.ref b1), .unset, .unset, .unset, .unset] [(.ref b97), (.ref b97)])) _
    refine XS.iconst X97.here hx rfl (hb hby at_138) ?_
    show Steps p.tables e below (T97.setTop (mkF m 139 #[.val (.int p1), .val (.int p2), .val (.ref b1), .unset, .unset, .unset, .unset] [(.int (0 : Int32)), (.ref b97), (.ref b97)])) _
    refine XS.iconst X97.here hx rfl (hb hby at_139) ?_
    show Steps p.tables e below (T97.setTop (mkF m 140 #[.val (.int p1), .val (.int p2), .val (.ref b1), .unset, .unset, .unset, .unset] [(.int (1 : Int32)), (.int (0 : Int32)), (.ref b97), (.ref b97)])) _
    refine st99 _ ?_
    show Steps p.tables e below (T99.setTop (mkF m 141 #[.val (.int p1), .val (.int p2), .val (.ref b1), .unset, .unset, .unset, .unset] [(.ref b97)])) _
    refine XS.dup X99.here hx rfl (hb hby at_141) rfl rfl ?_
    show Steps p.tables e below (T99.setTop (mkF m 142 #[.val (.int p1), .val (.int p2), .val (.ref b1), .unset, .unset, .unset, .unset] [(.ref b97), (.ref b97)])) _
    refine XS.iconst X99.here hx rfl (hb hby at_142) ?_
    show Steps p.tables e below (T99.setTop (mkF m 143 #[.val (.int p1), .val (.int p2), .val (.ref b1), .unset, .unset, .unset, .unset] [(.int (1 : Int32)), (.ref b97), (.ref b97)])) _
    refine XS.iconst X99.here hx rfl (hb hby at_143) ?_
    show Steps p.tables e below (T99.setTop (mkF m 144 #[.val (.int p1), .val (.int p2), .val (.ref b1), .unset, .unset, .unset, .unset] [(.int (3 : Int32)), (.int (1 : Int32)), (.ref b97), (.ref b97)])) _
    refine st101 _ ?_
    show Steps p.tables e below (T101.setTop (mkF m 145 #[.val (.int p1), .val (.int p2), .val (.ref b1), .unset, .unset, .unset, .unset] [(.ref b97)])) _
    refine XS.dup X101.here hx rfl (hb hby at_145) rfl rfl ?_
    show Steps p.tables e below (T101.setTop (mkF m 146 #[.val (.int p1), .val (.int p2), .val (.ref b1), .unset, .unset, .unset, .unset] [(.ref b97), (.ref b97)])) _
    refine XS.iconst X101.here hx rfl (hb hby at_146) ?_
    show Steps p.tables e below (T101.setTop (mkF m 147 #[.val (.int p1), .val (.int p2), .val (.ref b1), .unset, .unset, .unset, .unset] [(.int (2 : Int32)), (.ref b97), (.ref b97)])) _
    refine XS.bipush X101.here hx rfl (hb hby at_147) ?_
    show Steps p.tables e below (T101.setTop (mkF m 149 #[.val (.int p1), .val (.int p2), .val (.ref b1), .unset, .unset, .unset, .unset] [(.int (7 : Int32)), (.int (2 : Int32)), (.ref b97), (.ref b97)])) _
    refine st103 _ ?_
    show Steps p.tables e below (T103.setTop (mkF m 150 #[.val (.int p1), .val (.int p2), .val (.ref b1), .unset, .unset, .unset, .unset] [(.ref b97)])) _
    refine XS.dup X103.here hx rfl (hb hby at_150) rfl rfl ?_
    show Steps p.tables e below (T103.setTop (mkF m 151 #[.val (.int p1), .val (.int p2), .val (.ref b1), .unset, .unset, .unset, .unset] [(.ref b97), (.ref b97)])) _
    refine XS.iconst X103.here hx rfl (hb hby at_151) ?_
    show Steps p.tables e below (T103.setTop (mkF m 152 #[.val (.int p1), .val (.int p2), .val (.ref b1), .unset, .unset, .unset, .unset] [(.int (3 : Int32)), (.ref b97), (.ref b97)])) _
    refine XS.bipush X103.here hx rfl (hb hby at_152) ?_
    show Steps p.tables e below (T103.setTop (mkF m 154 #[.val (.int p1), .val (.int p2), .val (.ref b1), .unset, .unset, .unset, .unset] [(.int (11 : Int32)), (.int (3 : Int32)), (.ref b97), (.ref b97)])) _
    refine st105 _ ?_
    show Steps p.tables e below (T105.setTop (mkF m 155 #[.val (.int p1), .val (.int p2), .val (.ref b1), .unset, .unset, .unset, .unset] [(.ref b97)])) _
    refine XS.dup X105.here hx rfl (hb hby at_155) rfl rfl ?_
    show Steps p.tables e below (T105.setTop (mkF m 156 #[.val (.int p1), .val (.int p2), .val (.ref b1), .unset, .unset, .unset, .unset] [(.ref b97), (.ref b97)])) _
    refine XS.iconst X105.here hx rfl (hb hby at_156) ?_
    show Steps p.tables e below (T105.setTop (mkF m 157 #[.val (.int p1), .val (.int p2), .val (.ref b1), .unset, .unset, .unset, .unset] [(.int (4 : Int32)), (.ref b97), (.ref b97)])) _
    refine XS.bipush X105.here hx rfl (hb hby at_157) ?_
    show Steps p.tables e below (T105.setTop (mkF m 159 #[.val (.int p1), .val (.int p2), .val (.ref b1), .unset, .unset, .unset, .unset] [(.int (27 : Int32)), (.int (4 : Int32)), (.ref b97), (.ref b97)])) _
    refine st107 _ ?_
    show Steps p.tables e below (T107.setTop (mkF m 160 #[.val (.int p1), .val (.int p2), .val (.ref b1), .unset, .unset, .unset, .unset] [(.ref b97)])) _
    refine XS.dup X107.here hx rfl (hb hby at_160) rfl rfl ?_
    show Steps p.tables e below (T107.setTop (mkF m 161 #[.val (.int p1), .val (.int p2), .val (.ref b1), .unset, .unset, .unset, .unset] [(.ref b97), (.ref b97)])) _
    refine XS.iconst X107.here hx rfl (hb hby at_161) ?_
    show Steps p.tables e below (T107.setTop (mkF m 162 #[.val (.int p1), .val (.int p2), .val (.ref b1), .unset, .unset, .unset, .unset] [(.int (5 : Int32)), (.ref b97), (.ref b97)])) _
    refine XS.bipush X107.here hx rfl (hb hby at_162) ?_
    show Steps p.tables e below (T107.setTop (mkF m 164 #[.val (.int p1), .val (.int p2), .val (.ref b1), .unset, .unset, .unset, .unset] [(.int (59 : Int32)), (.int (5 : Int32)), (.ref b97), (.ref b97)])) _
    refine st109 _ ?_
    show Steps p.tables e below (T109.setTop (mkF m 165 #[.val (.int p1), .val (.int p2), .val (.ref b1), .unset, .unset, .unset, .unset] [(.ref b97)])) _
    refine XS.dup X109.here hx rfl (hb hby at_165) rfl rfl ?_
    show Steps p.tables e below (T109.setTop (mkF m 166 #[.val (.int p1), .val (.int p2), .val (.ref b1), .unset, .unset, .unset, .unset] [(.ref b97), (.ref b97)])) _
    refine XS.bipush X109.here hx rfl (hb hby at_166) ?_
    show Steps p.tables e below (T109.setTop (mkF m 168 #[.val (.int p1), .val (.int p2), .val (.ref b1), .unset, .unset, .unset, .unset] [(.int (6 : Int32)), (.ref b97), (.ref b97)])) _
    refine XS.bipush X109.here hx rfl (hb hby at_168) ?_
    show Steps p.tables e below (T109.setTop (mkF m 170 #[.val (.int p1), .val (.int p2), .val (.ref b1), .unset, .unset, .unset, .unset] [(.int (75 : Int32)), (.int (6 : Int32)), (.ref b97), (.ref b97)])) _
    refine st111 _ ?_
    show Steps p.tables e below (T111.setTop (mkF m 171 #[.val (.int p1), .val (.int p2), .val (.ref b1), .unset, .unset, .unset, .unset] [(.ref b97)])) _
    refine XS.dup X111.here hx rfl (hb hby at_171) rfl rfl ?_
    show Steps p.tables e below (T111.setTop (mkF m 172 #[.val (.int p1), .val (.int p2), .val (.ref b1), .unset, .unset, .unset, .unset] [(.ref b97), (.ref b97)])) _
    refine XS.bipush X111.here hx rfl (hb hby at_172) ?_
    show Steps p.tables e below (T111.setTop (mkF m 174 #[.val (.int p1), .val (.int p2), .val (.ref b1), .unset, .unset, .unset, .unset] [(.int (7 : Int32)), (.ref b97), (.ref b97)])) _
    refine XS.sipush X111.here hx rfl (hb hby at_174) ?_
    show Steps p.tables e below (T111.setTop (mkF m 177 #[.val (.int p1), .val (.int p2), .val (.ref b1), .unset, .unset, .unset, .unset] [(.int (131 : Int32)), (.int (7 : Int32)), (.ref b97), (.ref b97)])) _
    refine st113 _ ?_
    show Steps p.tables e below (T113.setTop (mkF m 178 #[.val (.int p1), .val (.int p2), .val (.ref b1), .unset, .unset, .unset, .unset] [(.ref b97)])) _
    refine XS.dup X113.here hx rfl (hb hby at_178) rfl rfl ?_
    show Steps p.tables e below (T113.setTop (mkF m 179 #[.val (.int p1), .val (.int p2), .val (.ref b1), .unset, .unset, .unset, .unset] [(.ref b97), (.ref b97)])) _
    refine XS.bipush X113.here hx rfl (hb hby at_179) ?_
    show Steps p.tables e below (T113.setTop (mkF m 181 #[.val (.int p1), .val (.int p2), .val (.ref b1), .unset, .unset, .unset, .unset] [(.int (8 : Int32)), (.ref b97), (.ref b97)])) _
    refine XS.sipush X113.here hx rfl (hb hby at_181) ?_
    show Steps p.tables e below (T113.setTop (mkF m 184 #[.val (.int p1), .val (.int p2), .val (.ref b1), .unset, .unset, .unset, .unset] [(.int (259 : Int32)), (.int (8 : Int32)), (.ref b97), (.ref b97)])) _
    refine st115 _ ?_
    show Steps p.tables e below (T115.setTop (mkF m 185 #[.val (.int p1), .val (.int p2), .val (.ref b1), .unset, .unset, .unset, .unset] [(.ref b97)])) _
    refine XS.dup X115.here hx rfl (hb hby at_185) rfl rfl ?_
    show Steps p.tables e below (T115.setTop (mkF m 186 #[.val (.int p1), .val (.int p2), .val (.ref b1), .unset, .unset, .unset, .unset] [(.ref b97), (.ref b97)])) _
    refine XS.bipush X115.here hx rfl (hb hby at_186) ?_
    show Steps p.tables e below (T115.setTop (mkF m 188 #[.val (.int p1), .val (.int p2), .val (.ref b1), .unset, .unset, .unset, .unset] [(.int (9 : Int32)), (.ref b97), (.ref b97)])) _
    refine XS.sipush X115.here hx rfl (hb hby at_188) ?_
    show Steps p.tables e below (T115.setTop (mkF m 191 #[.val (.int p1), .val (.int p2), .val (.ref b1), .unset, .unset, .unset, .unset] [(.int (515 : Int32)), (.int (9 : Int32)), (.ref b97), (.ref b97)])) _
    refine st117 _ ?_
    show Steps p.tables e below (T117.setTop (mkF m 192 #[.val (.int p1), .val (.int p2), .val (.ref b1), .unset, .unset, .unset, .unset] [(.ref b97)])) _
    refine XS.dup X117.here hx rfl (hb hby at_192) rfl rfl ?_
    show Steps p.tables e below (T117.setTop (mkF m 193 #[.val (.int p1), .val (.int p2), .val (.ref b1), .unset, .unset, .unset, .unset] [(.ref b97), (.ref b97)])) _
    refine XS.bipush X117.here hx rfl (hb hby at_193) ?_
    show Steps p.tables e below (T117.setTop (mkF m 195 #[.val (.int p1), .val (.int p2), .val (.ref b1), .unset, .unset, .unset, .unset] [(.int (10 : Int32)), (.ref b97), (.ref b97)])) _
    refine XS.sipush X117.here hx rfl (hb hby at_195) ?_
    show Steps p.tables e below (T117.setTop (mkF m 198 #[.val (.int p1), .val (.int p2), .val (.ref b1), .unset, .unset, .unset, .unset] [(.int (1027 : Int32)), (.int (10 : Int32)), (.ref b97), (.ref b97)])) _
    refine st119 _ ?_
    show Steps p.tables e below (T119.setTop (mkF m 199 #[.val (.int p1), .val (.int p2), .val (.ref b1), .unset, .unset, .unset, .unset] [(.ref b97)])) _
    refine XS.dup X119.here hx rfl (hb hby at_199) rfl rfl ?_
    show Steps p.tables e below (T119.setTop (mkF m 200 #[.val (.int p1), .val (.int p2), .val (.ref b1), .unset, .unset, .unset, .unset] [(.ref b97), (.ref b97)])) _
    refine XS.bipush X119.here hx rfl (hb hby at_200) ?_
    show Steps p.tables e below (T119.setTop (mkF m 202 #[.val (.int p1), .val (.int p2), .val (.ref b1), .unset, .unset, .unset, .unset] [(.int (11 : Int32)), (.ref b97), (.ref b97)])) _
    refine XS.sipush X119.here hx rfl (hb hby at_202) ?_
    show Steps p.tables e below (T119.setTop (mkF m 205 #[.val (.int p1), .val (.int p2), .val (.ref b1), .unset, .unset, .unset, .unset] [(.int (2051 : Int32)), (.int (11 : Int32)), (.ref b97), (.ref b97)])) _
    refine st121 _ ?_
    show Steps p.tables e below (T121.setTop (mkF m 206 #[.val (.int p1), .val (.int p2), .val (.ref b1), .unset, .unset, .unset, .unset] [(.ref b97)])) _
    refine XS.dup X121.here hx rfl (hb hby at_206) rfl rfl ?_
    show Steps p.tables e below (T121.setTop (mkF m 207 #[.val (.int p1), .val (.int p2), .val (.ref b1), .unset, .unset, .unset, .unset] [(.ref b97), (.ref b97)])) _
    refine XS.bipush X121.here hx rfl (hb hby at_207) ?_
    show Steps p.tables e below (T121.setTop (mkF m 209 #[.val (.int p1), .val (.int p2), .val (.ref b1), .unset, .unset, .unset, .unset] [(.int (12 : Int32)), (.ref b97), (.ref b97)])) _
    refine XS.sipush X121.here hx rfl (hb hby at_209) ?_
    show Steps p.tables e below (T121.setTop (mkF m 212 #[.val (.int p1), .val (.int p2), .val (.ref b1), .unset, .unset, .unset, .unset] [(.int (6147 : Int32)), (.int (12 : Int32)), (.ref b97), (.ref b97)])) _
    refine st123 _ ?_
    show Steps p.tables e below (T123.setTop (mkF m 213 #[.val (.int p1), .val (.int p2), .val (.ref b1), .unset, .unset, .unset, .unset] [(.ref b97)])) _
    refine XS.dup X123.here hx rfl (hb hby at_213) rfl rfl ?_
    show Steps p.tables e below (T123.setTop (mkF m 214 #[.val (.int p1), .val (.int p2), .val (.ref b1), .unset, .unset, .unset, .unset] [(.ref b97), (.ref b97)])) _
    refine XS.bipush X123.here hx rfl (hb hby at_214) ?_
    show Steps p.tables e below (T123.setTop (mkF m 216 #[.val (.int p1), .val (.int p2), .val (.ref b1), .unset, .unset, .unset, .unset] [(.int (13 : Int32)), (.ref b97), (.ref b97)])) _
    refine XS.sipush X123.here hx rfl (hb hby at_216) ?_
    show Steps p.tables e below (T123.setTop (mkF m 219 #[.val (.int p1), .val (.int p2), .val (.ref b1), .unset, .unset, .unset, .unset] [(.int (10243 : Int32)), (.int (13 : Int32)), (.ref b97), (.ref b97)])) _
    refine st125 _ ?_
    show Steps p.tables e below (T125.setTop (mkF m 220 #[.val (.int p1), .val (.int p2), .val (.ref b1), .unset, .unset, .unset, .unset] [(.ref b97)])) _
    refine XS.dup X125.here hx rfl (hb hby at_220) rfl rfl ?_
    show Steps p.tables e below (T125.setTop (mkF m 221 #[.val (.int p1), .val (.int p2), .val (.ref b1), .unset, .unset, .unset, .unset] [(.ref b97), (.ref b97)])) _
    refine XS.bipush X125.here hx rfl (hb hby at_221) ?_
    show Steps p.tables e below (T125.setTop (mkF m 223 #[.val (.int p1), .val (.int p2), .val (.ref b1), .unset, .unset, .unset, .unset] [(.int (14 : Int32)), (.ref b97), (.ref b97)])) _
    refine XS.sipush X125.here hx rfl (hb hby at_223) ?_
    show Steps p.tables e below (T125.setTop (mkF m 226 #[.val (.int p1), .val (.int p2), .val (.ref b1), .unset, .unset, .unset, .unset] [(.int (16387 : Int32)), (.int (14 : Int32)), (.ref b97), (.ref b97)])) _
    refine st127 _ ?_
    show Steps p.tables e below (T127.setTop (mkF m 227 #[.val (.int p1), .val (.int p2), .val (.ref b1), .unset, .unset, .unset, .unset] [(.ref b97)])) _
    refine XS.dup X127.here hx rfl (hb hby at_227) rfl rfl ?_
    show Steps p.tables e below (T127.setTop (mkF m 228 #[.val (.int p1), .val (.int p2), .val (.ref b1), .unset, .unset, .unset, .unset] [(.ref b97), (.ref b97)])) _
    refine XS.bipush X127.here hx rfl (hb hby at_228) ?_
    show Steps p.tables e below (T127.setTop (mkF m 230 #[.val (.int p1), .val (.int p2), .val (.ref b1), .unset, .unset, .unset, .unset] [(.int (15 : Int32)), (.ref b97), (.ref b97)])) _
    refine X127.ldcInt hx hown (mvT hZ (hw _ (List.mem_of_getElem? (i := 43) rfl))) (g := (mkF m 230 #[.val (.int p1), .val (.int p2), .val (.ref b1), .unset, .unset, .unset, .unset] [(.int (15 : Int32)), (.ref b97), (.ref b97)])) rfl (hb hby at_230) _ ?_
    show Steps p.tables e below (T127.setTop (mkF m 232 #[.val (.int p1), .val (.int p2), .val (.ref b1), .unset, .unset, .unset, .unset] [(.int (32769 : Int32)), (.int (15 : Int32)), (.ref b97), (.ref b97)])) _
    refine st129 _ ?_
    show Steps p.tables e below (T129.setTop (mkF m 233 #[.val (.int p1), .val (.int p2), .val (.ref b1), .unset, .unset, .unset, .unset] [(.ref b97)])) _
    refine XS.dup X129.here hx rfl (hb hby at_233) rfl rfl ?_
    show Steps p.tables e below (T129.setTop (mkF m 234 #[.val (.int p1), .val (.int p2), .val (.ref b1), .unset, .unset, .unset, .unset] [(.ref b97), (.ref b97)])) _
    refine XS.bipush X129.here hx rfl (hb hby at_234) ?_
    show Steps p.tables e below (T129.setTop (mkF m 236 #[.val (.int p1), .val (.int p2), .val (.ref b1), .unset, .unset, .unset, .unset] [(.int (16 : Int32)), (.ref b97), (.ref b97)])) _
    refine X129.ldcInt hx hown (mvT hZ (hw _ (List.mem_of_getElem? (i := 44) rfl))) (g := (mkF m 236 #[.val (.int p1), .val (.int p2), .val (.ref b1), .unset, .unset, .unset, .unset] [(.int (16 : Int32)), (.ref b97), (.ref b97)])) rfl (hb hby at_236) _ ?_
    show Steps p.tables e below (T129.setTop (mkF m 238 #[.val (.int p1), .val (.int p2), .val (.ref b1), .unset, .unset, .unset, .unset] [(.int (98305 : Int32)), (.int (16 : Int32)), (.ref b97), (.ref b97)])) _
    refine st131 _ ?_
    show Steps p.tables e below (T131.setTop (mkF m 239 #[.val (.int p1), .val (.int p2), .val (.ref b1), .unset, .unset, .unset, .unset] [(.ref b97)])) _
    refine XS.dup X131.here hx rfl (hb hby at_239) rfl rfl ?_
    show Steps p.tables e below (T131.setTop (mkF m 240 #[.val (.int p1), .val (.int p2), .val (.ref b1), .unset, .unset, .unset, .unset] [(.ref b97), (.ref b97)])) _
    refine XS.bipush X131.here hx rfl (hb hby at_240) ?_
    show Steps p.tables e below (T131.setTop (mkF m 242 #[.val (.int p1), .val (.int p2), .val (.ref b1), .unset, .unset, .unset, .unset] [(.int (17 : Int32)), (.ref b97), (.ref b97)])) _
    refine X131.ldcInt hx hown (mvT hZ (hw _ (List.mem_of_getElem? (i := 45) rfl))) (g := (mkF m 242 #[.val (.int p1), .val (.int p2), .val (.ref b1), .unset, .unset, .unset, .unset] [(.int (17 : Int32)), (.ref b97), (.ref b97)])) rfl (hb hby at_242) _ ?_
    show Steps p.tables e below (T131.setTop (mkF m 244 #[.val (.int p1), .val (.int p2), .val (.ref b1), .unset, .unset, .unset, .unset] [(.int (163841 : Int32)), (.int (17 : Int32)), (.ref b97), (.ref b97)])) _
    refine st133 _ ?_
    show Steps p.tables e below (T133.setTop (mkF m 245 #[.val (.int p1), .val (.int p2), .val (.ref b1), .unset, .unset, .unset, .unset] [(.ref b97)])) _
    refine XS.dup X133.here hx rfl (hb hby at_245) rfl rfl ?_
    show Steps p.tables e below (T133.setTop (mkF m 246 #[.val (.int p1), .val (.int p2), .val (.ref b1), .unset, .unset, .unset, .unset] [(.ref b97), (.ref b97)])) _
    refine XS.bipush X133.here hx rfl (hb hby at_246) ?_
    show Steps p.tables e below (T133.setTop (mkF m 248 #[.val (.int p1), .val (.int p2), .val (.ref b1), .unset, .unset, .unset, .unset] [(.int (18 : Int32)), (.ref b97), (.ref b97)])) _
    refine X133.ldcInt hx hown (mvT hZ (hw _ (List.mem_of_getElem? (i := 46) rfl))) (g := (mkF m 248 #[.val (.int p1), .val (.int p2), .val (.ref b1), .unset, .unset, .unset, .unset] [(.int (18 : Int32)), (.ref b97), (.ref b97)])) rfl (hb hby at_248) _ ?_
    show Steps p.tables e below (T133.setTop (mkF m 250 #[.val (.int p1), .val (.int p2), .val (.ref b1), .unset, .unset, .unset, .unset] [(.int (262145 : Int32)), (.int (18 : Int32)), (.ref b97), (.ref b97)])) _
    refine st135 _ ?_
    show Steps p.tables e below (T135.setTop (mkF m 251 #[.val (.int p1), .val (.int p2), .val (.ref b1), .unset, .unset, .unset, .unset] [(.ref b97)])) _
    refine XS.astoreN X135.here hx rfl (hb hby at_251) rfl rfl (l' := #[.val (.int p1), .val (.int p2), .val (.ref b1), .val (.ref b97), .unset, .unset, .unset]) rfl ?_
    show Steps p.tables e below (T135.setTop (mkF m 252 #[.val (.int p1), .val (.int p2), .val (.ref b1), .val (.ref b97), .unset, .unset, .unset] [])) _
    refine XS.iloadN X135.here hx rfl (hb hby at_252) rfl ?_
    show Steps p.tables e below (T135.setTop (mkF m 253 #[.val (.int p1), .val (.int p2), .val (.ref b1), .val (.ref b97), .unset, .unset, .unset] [(.int p1)])) _
    refine X135.ldcInt hx hown (mvT hZ (hw _ (List.mem_of_getElem? (i := 47) rfl))) (g := (mkF m 253 #[.val (.int p1), .val (.int p2), .val (.ref b1), .val (.ref b97), .unset, .unset, .unset] [(.int p1)])) rfl (hb hby at_253) _ ?_
    show Steps p.tables e below (T135.setTop (mkF m 255 #[.val (.int p1), .val (.int p2), .val (.ref b1), .val (.ref b97), .unset, .unset, .unset] [(.int (2147483647 : Int32)), (.int p1)])) _
    refine XS.iand X135.here hx rfl (hb hby at_255) rfl ?_
    show Steps p.tables e below (T135.setTop (mkF m 256 #[.val (.int p1), .val (.int p2), .val (.ref b1), .val (.ref b97), .unset, .unset, .unset] [(.int (p1 &&& (2147483647 : Int32)))])) _
    refine XS.bipush X135.here hx rfl (hb hby at_256) ?_
    show Steps p.tables e below (T135.setTop (mkF m 258 #[.val (.int p1), .val (.int p2), .val (.ref b1), .val (.ref b97), .unset, .unset, .unset] [(.int (19 : Int32)), (.int (p1 &&& (2147483647 : Int32)))])) _
    refine iremM (g := (mkF m 258 #[.val (.int p1), .val (.int p2), .val (.ref b1), .val (.ref b97), .unset, .unset, .unset] [(.int (19 : Int32)), (.int (p1 &&& (2147483647 : Int32)))])) X135 hx rfl (hb hby at_258) rfl (by decide) ?_
    show Steps p.tables e below (T135.setTop (mkF m 259 #[.val (.int p1), .val (.int p2), .val (.ref b1), .val (.ref b97), .unset, .unset, .unset] [(.int ((p1 &&& (2147483647 : Int32)) % (19 : Int32)))])) _
    refine XS.istore X135.here hx rfl (hb hby at_259) rfl (l' := #[.val (.int p1), .val (.int p2), .val (.ref b1), .val (.ref b97), .val (.int ((p1 &&& (2147483647 : Int32)) % (19 : Int32))), .unset, .unset]) rfl ?_
    show Steps p.tables e below (T135.setTop (mkF m 261 #[.val (.int p1), .val (.int p2), .val (.ref b1), .val (.ref b97), .val (.int ((p1 &&& (2147483647 : Int32)) % (19 : Int32))), .unset, .unset] [])) _
    refine XS.iloadN X135.here hx rfl (hb hby at_261) rfl ?_
    show Steps p.tables e below (T135.setTop (mkF m 262 #[.val (.int p1), .val (.int p2), .val (.ref b1), .val (.ref b97), .val (.int ((p1 &&& (2147483647 : Int32)) % (19 : Int32))), .unset, .unset] [(.int p2)])) _
    refine X135.ldcInt hx hown (mvT hZ (hw _ (List.mem_of_getElem? (i := 47) rfl))) (g := (mkF m 262 #[.val (.int p1), .val (.int p2), .val (.ref b1), .val (.ref b97), .val (.int ((p1 &&& (2147483647 : Int32)) % (19 : Int32))), .unset, .unset] [(.int p2)])) rfl (hb hby at_262) _ ?_
    show Steps p.tables e below (T135.setTop (mkF m 264 #[.val (.int p1), .val (.int p2), .val (.ref b1), .val (.ref b97), .val (.int ((p1 &&& (2147483647 : Int32)) % (19 : Int32))), .unset, .unset] [(.int (2147483647 : Int32)), (.int p2)])) _
    refine XS.iand X135.here hx rfl (hb hby at_264) rfl ?_
    show Steps p.tables e below (T135.setTop (mkF m 265 #[.val (.int p1), .val (.int p2), .val (.ref b1), .val (.ref b97), .val (.int ((p1 &&& (2147483647 : Int32)) % (19 : Int32))), .unset, .unset] [(.int (p2 &&& (2147483647 : Int32)))])) _
    refine XS.bipush X135.here hx rfl (hb hby at_265) ?_
    show Steps p.tables e below (T135.setTop (mkF m 267 #[.val (.int p1), .val (.int p2), .val (.ref b1), .val (.ref b97), .val (.int ((p1 &&& (2147483647 : Int32)) % (19 : Int32))), .unset, .unset] [(.int (19 : Int32)), (.int (p2 &&& (2147483647 : Int32)))])) _
    refine iremM (g := (mkF m 267 #[.val (.int p1), .val (.int p2), .val (.ref b1), .val (.ref b97), .val (.int ((p1 &&& (2147483647 : Int32)) % (19 : Int32))), .unset, .unset] [(.int (19 : Int32)), (.int (p2 &&& (2147483647 : Int32)))])) X135 hx rfl (hb hby at_267) rfl (by decide) ?_
    show Steps p.tables e below (T135.setTop (mkF m 268 #[.val (.int p1), .val (.int p2), .val (.ref b1), .val (.ref b97), .val (.int ((p1 &&& (2147483647 : Int32)) % (19 : Int32))), .unset, .unset] [(.int ((p2 &&& (2147483647 : Int32)) % (19 : Int32)))])) _
    refine XS.istore X135.here hx rfl (hb hby at_268) rfl (l' := #[.val (.int p1), .val (.int p2), .val (.ref b1), .val (.ref b97), .val (.int ((p1 &&& (2147483647 : Int32)) % (19 : Int32))), .val (.int ((p2 &&& (2147483647 : Int32)) % (19 : Int32))), .unset]) rfl ?_
    show Steps p.tables e below (T135.setTop (mkF m 270 #[.val (.int p1), .val (.int p2), .val (.ref b1), .val (.ref b97), .val (.int ((p1 &&& (2147483647 : Int32)) % (19 : Int32))), .val (.int ((p2 &&& (2147483647 : Int32)) % (19 : Int32))), .unset] [])) _
    refine XS.aloadN X135.here hx rfl (hb hby at_270) rfl rfl ?_
    show Steps p.tables e below (T135.setTop (mkF m 271 #[.val (.int p1), .val (.int p2), .val (.ref b1), .val (.ref b97), .val (.int ((p1 &&& (2147483647 : Int32)) % (19 : Int32))), .val (.int ((p2 &&& (2147483647 : Int32)) % (19 : Int32))), .unset] [(.ref b97)])) _
    refine XS.iload X135.here hx rfl (hb hby at_271) rfl ?_
    show Steps p.tables e below (T135.setTop (mkF m 273 #[.val (.int p1), .val (.int p2), .val (.ref b1), .val (.ref b97), .val (.int ((p1 &&& (2147483647 : Int32)) % (19 : Int32))), .val (.int ((p2 &&& (2147483647 : Int32)) % (19 : Int32))), .unset] [(.int ((p2 &&& (2147483647 : Int32)) % (19 : Int32))), (.ref b97)])) _
    refine X135.iaload hx (j := ((p2 &&& (2147483647 : Int32)) % (19 : Int32))) (v := (.int y)) (by rw [e135]; exact Ar136.1) (State.isArrayOf_alike hZ.alike Ar136.2.1) Ar136.2.2 hin136_273 hat136_273 (g := (mkF m 273 #[.val (.int p1), .val (.int p2), .val (.ref b1), .val (.ref b97), .val (.int ((p1 &&& (2147483647 : Int32)) % (19 : Int32))), .val (.int ((p2 &&& (2147483647 : Int32)) % (19 : Int32))), .unset] [(.int ((p2 &&& (2147483647 : Int32)) % (19 : Int32))), (.ref b97)])) rfl rfl (hb hby at_273) _ ?_
    show Steps p.tables e below (T135.setTop (mkF m 274 #[.val (.int p1), .val (.int p2), .val (.ref b1), .val (.ref b97), .val (.int ((p1 &&& (2147483647 : Int32)) % (19 : Int32))), .val (.int ((p2 &&& (2147483647 : Int32)) % (19 : Int32))), .unset] [(.int y)])) _
    refine XS.iload X135.here hx rfl (hb hby at_274) rfl ?_
    show Steps p.tables e below (T135.setTop (mkF m 276 #[.val (.int p1), .val (.int p2), .val (.ref b1), .val (.ref b97), .val (.int ((p1 &&& (2147483647 : Int32)) % (19 : Int32))), .val (.int ((p2 &&& (2147483647 : Int32)) % (19 : Int32))), .unset] [(.int ((p1 &&& (2147483647 : Int32)) % (19 : Int32))), (.int y)])) _
    refine XS.iushr X135.here hx rfl (hb hby at_276) rfl ?_
    show Steps p.tables e below (T135.setTop (mkF m 277 #[.val (.int p1), .val (.int p2), .val (.ref b1), .val (.ref b97), .val (.int ((p1 &&& (2147483647 : Int32)) % (19 : Int32))), .val (.int ((p2 &&& (2147483647 : Int32)) % (19 : Int32))), .unset] [(.int ((y.toUInt32 >>> (((p1 &&& (2147483647 : Int32)) % (19 : Int32)) &&& 31).toUInt32).toInt32))])) _
    refine XS.iconst X135.here hx rfl (hb hby at_277) ?_
    show Steps p.tables e below (T135.setTop (mkF m 278 #[.val (.int p1), .val (.int p2), .val (.ref b1), .val (.ref b97), .val (.int ((p1 &&& (2147483647 : Int32)) % (19 : Int32))), .val (.int ((p2 &&& (2147483647 : Int32)) % (19 : Int32))), .unset] [(.int (1 : Int32)), (.int ((y.toUInt32 >>> (((p1 &&& (2147483647 : Int32)) % (19 : Int32)) &&& 31).toUInt32).toInt32))])) _
    refine XS.iand X135.here hx rfl (hb hby at_278) rfl ?_
    show Steps p.tables e below (T135.setTop (mkF m 279 #[.val (.int p1), .val (.int p2), .val (.ref b1), .val (.ref b97), .val (.int ((p1 &&& (2147483647 : Int32)) % (19 : Int32))), .val (.int ((p2 &&& (2147483647 : Int32)) % (19 : Int32))), .unset] [(.int (((y.toUInt32 >>> (((p1 &&& (2147483647 : Int32)) % (19 : Int32)) &&& 31).toUInt32).toInt32) &&& (1 : Int32)))])) _
    refine XS.ifNo X135.here hx rfl (hb hby at_279) rfl ((if0 _ _).trans (feq (hc279 : ¬ ((((y.toUInt32 >>> (((p1 &&& (2147483647 : Int32)) % (19 : Int32)) &&& 31).toUInt32).toInt32) &&& (1 : Int32)) = (0 : Int32)))).1) ?_
    show Steps p.tables e below (T135.setTop (mkF m 282 #[.val (.int p1), .val (.int p2), .val (.ref b1), .val (.ref b97), .val (.int ((p1 &&& (2147483647 : Int32)) % (19 : Int32))), .val (.int ((p2 &&& (2147483647 : Int32)) % (19 : Int32))), .unset] [])) _
    refine XS.iconst X135.here hx rfl (hb hby at_282) ?_
    show Steps p.tables e below (T135.setTop (mkF m 283 #[.val (.int p1), .val (.int p2), .val (.ref b1), .val (.ref b97), .val (.int ((p1 &&& (2147483647 : Int32)) % (19 : Int32))), .val (.int ((p2 &&& (2147483647 : Int32)) % (19 : Int32))), .unset] [(.int (1 : Int32))])) _
    refine XS.goto X135.here hx rfl (pc0 := 283) (pc' := 287) rfl (hb hby at_283) (by decide) (by decide) ?_
    show Steps p.tables e below (T135.setTop (mkF m 287 #[.val (.int p1), .val (.int p2), .val (.ref b1), .val (.ref b97), .val (.int ((p1 &&& (2147483647 : Int32)) % (19 : Int32))), .val (.int ((p2 &&& (2147483647 : Int32)) % (19 : Int32))), .unset] [(.int (1 : Int32))])) _
    refine XS.istore X135.here hx rfl (hb hby at_287) rfl (l' := #[.val (.int p1), .val (.int p2), .val (.ref b1), .val (.ref b97), .val (.int ((p1 &&& (2147483647 : Int32)) % (19 : Int32))), .val (.int ((p2 &&& (2147483647 : Int32)) % (19 : Int32))), .val (.int (1 : Int32))]) rfl ?_
    show Steps p.tables e below (T135.setTop (mkF m 289 #[.val (.int p1), .val (.int p2), .val (.ref b1), .val (.ref b97), .val (.int ((p1 &&& (2147483647 : Int32)) % (19 : Int32))), .val (.int ((p2 &&& (2147483647 : Int32)) % (19 : Int32))), .val (.int (1 : Int32))] [])) _
    refine XS.aloadN X135.here hx rfl (hb hby at_289) rfl rfl ?_
    show Steps p.tables e below (T135.setTop (mkF m 290 #[.val (.int p1), .val (.int p2), .val (.ref b1), .val (.ref b97), .val (.int ((p1 &&& (2147483647 : Int32)) % (19 : Int32))), .val (.int ((p2 &&& (2147483647 : Int32)) % (19 : Int32))), .val (.int (1 : Int32))] [(.ref b1)])) _
    refine XS.iload X135.here hx rfl (hb hby at_290) rfl ?_
    show Steps p.tables e below (T135.setTop (mkF m 292 #[.val (.int p1), .val (.int p2), .val (.ref b1), .val (.ref b97), .val (.int ((p1 &&& (2147483647 : Int32)) % (19 : Int32))), .val (.int ((p2 &&& (2147483647 : Int32)) % (19 : Int32))), .val (.int (1 : Int32))] [(.int ((p1 &&& (2147483647 : Int32)) % (19 : Int32))), (.ref b1)])) _
    refine X135.aaload hx (j := ((p1 &&& (2147483647 : Int32)) % (19 : Int32))) (v := (.ref a)) (by rw [e135]; exact Ar138.1) (State.isArrayOf_alike hZ.alike Ar138.2.1) rfl Ar138.2.2 hin138_292 hat138_292 (g := (mkF m 292 #[.val (.int p1), .val (.int p2), .val (.ref b1), .val (.ref b97), .val (.int ((p1 &&& (2147483647 : Int32)) % (19 : Int32))), .val (.int ((p2 &&& (2147483647 : Int32)) % (19 : Int32))), .val (.int (1 : Int32))] [(.int ((p1 &&& (2147483647 : Int32)) % (19 : Int32))), (.ref b1)])) rfl rfl (hb hby at_292) _ ?_
    show Steps p.tables e below (T135.setTop (mkF m 293 #[.val (.int p1), .val (.int p2), .val (.ref b1), .val (.ref b97), .val (.int ((p1 &&& (2147483647 : Int32)) % (19 : Int32))), .val (.int ((p2 &&& (2147483647 : Int32)) % (19 : Int32))), .val (.int (1 : Int32))] [(.ref a)])) _
    refine XS.aloadN X135.here hx rfl (hb hby at_293) rfl rfl ?_
    show Steps p.tables e below (T135.setTop (mkF m 294 #[.val (.int p1), .val (.int p2), .val (.ref b1), .val (.ref b97), .val (.int ((p1 &&& (2147483647 : Int32)) % (19 : Int32))), .val (.int ((p2 &&& (2147483647 : Int32)) % (19 : Int32))), .val (.int (1 : Int32))] [(.ref b1), (.ref a)])) _
    refine XS.iload X135.here hx rfl (hb hby at_294) rfl ?_
    show Steps p.tables e below (T135.setTop (mkF m 296 #[.val (.int p1), .val (.int p2), .val (.ref b1), .val (.ref b97), .val (.int ((p1 &&& (2147483647 : Int32)) % (19 : Int32))), .val (.int ((p2 &&& (2147483647 : Int32)) % (19 : Int32))), .val (.int (1 : Int32))] [(.int ((p2 &&& (2147483647 : Int32)) % (19 : Int32))), (.ref b1), (.ref a)])) _
    refine X135.aaload hx (j := ((p2 &&& (2147483647 : Int32)) % (19 : Int32))) (v := (.ref b)) (by rw [e135]; exact Ar138.1) (State.isArrayOf_alike hZ.alike Ar138.2.1) rfl Ar138.2.2 hin138_296 hat138_296 (g := (mkF m 296 #[.val (.int p1), .val (.int p2), .val (.ref b1), .val (.ref b97), .val (.int ((p1 &&& (2147483647 : Int32)) % (19 : Int32))), .val (.int ((p2 &&& (2147483647 : Int32)) % (19 : Int32))), .val (.int (1 : Int32))] [(.int ((p2 &&& (2147483647 : Int32)) % (19 : Int32))), (.ref b1), (.ref a)])) rfl rfl (hb hby at_296) _ ?_
    show Steps p.tables e below (T135.setTop (mkF m 297 #[.val (.int p1), .val (.int p2), .val (.ref b1), .val (.ref b97), .val (.int ((p1 &&& (2147483647 : Int32)) % (19 : Int32))), .val (.int ((p2 &&& (2147483647 : Int32)) % (19 : Int32))), .val (.int (1 : Int32))] [(.ref b), (.ref a)])) _
    refine st139.trans ?_
    show Steps p.tables e below (T139.setTop (mkF m 300 #[.val (.int p1), .val (.int p2), .val (.ref b1), .val (.ref b97), .val (.int ((p1 &&& (2147483647 : Int32)) % (19 : Int32))), .val (.int ((p2 &&& (2147483647 : Int32)) % (19 : Int32))), .val (.int (1 : Int32))] [(.int (1 : Int32))])) _
    refine XS.iload X139.here hx rfl (hb hby at_300) rfl ?_
    show Steps p.tables e below (T139.setTop (mkF m 302 #[.val (.int p1), .val (.int p2), .val (.ref b1), .val (.ref b97), .val (.int ((p1 &&& (2147483647 : Int32)) % (19 : Int32))), .val (.int ((p2 &&& (2147483647 : Int32)) % (19 : Int32))), .val (.int (1 : Int32))] [(.int (1 : Int32)), (.int (1 : Int32))])) _
    refine XS.icmpNo X139.here hx rfl (hb hby at_302) rfl (teq ((by decide) : (1 : Int32) = (1 : Int32))).2 ?_
    show Steps p.tables e below (T139.setTop (mkF m 305 #[.val (.int p1), .val (.int p2), .val (.ref b1), .val (.ref b97), .val (.int ((p1 &&& (2147483647 : Int32)) % (19 : Int32))), .val (.int ((p2 &&& (2147483647 : Int32)) % (19 : Int32))), .val (.int (1 : Int32))] [])) _
    refine XS.iconst X139.here hx rfl (hb hby at_305) ?_
    show Steps p.tables e below (T139.setTop (mkF m 306 #[.val (.int p1), .val (.int p2), .val (.ref b1), .val (.ref b97), .val (.int ((p1 &&& (2147483647 : Int32)) % (19 : Int32))), .val (.int ((p2 &&& (2147483647 : Int32)) % (19 : Int32))), .val (.int (1 : Int32))] [(.int (1 : Int32))])) _
    refine XS.goto X139.here hx rfl (pc0 := 306) (pc' := 310) rfl (hb hby at_306) (by decide) (by decide) ?_
    show Steps p.tables e below (T139.setTop (mkF m 310 #[.val (.int p1), .val (.int p2), .val (.ref b1), .val (.ref b97), .val (.int ((p1 &&& (2147483647 : Int32)) % (19 : Int32))), .val (.int ((p2 &&& (2147483647 : Int32)) % (19 : Int32))), .val (.int (1 : Int32))] [(.int (1 : Int32))])) _
    exact retN X139 hx (t := .boolean) Bd.returns (by simp) (hb hby at_310) hr
  · show Q_law Z p1 p2 w0 w1 w2 w3 w4 w5 w6 w7 w8 w9 w10 w11 w12 w13 w14 w15 w16 w17 w18 a b y CL h0 n0 _ T139.heap _
    rw [e139]
    exact ⟨rfl, N139⟩
set_option maxRecDepth 65536 in
set_option maxHeartbeats 40000000 in
theorem rm_law_n (l : Launch) (Z : State) (a0 : Array Value) (hw : ∀ d ∈ tables_1, d.before a0 Z = true) (ws : List Jvm.Cond) (p1 : Int32) (p2 : Int32) (w0 : Addr) (w1 : Addr) (w2 : Addr) (w3 : Addr) (w4 : Addr) (w5 : Addr) (w6 : Addr) (w7 : Addr) (w8 : Addr) (w9 : Addr) (w10 : Addr) (w11 : Addr) (w12 : Addr) (w13 : Addr) (w14 : Addr) (w15 : Addr) (w16 : Addr) (w17 : Addr) (w18 : Addr) (a : Addr) (b : Addr) (y : Int32) (CL : List Addr) (h0 : Heap) (n0 : Nat) (Z0 : n0 ≤ h0.size) (S_ITEM : Sta Z h0 "com/example/gridloom/gridloom/mapping/ItemType" "ITEM" "Lcom/example/gridloom/gridloom/mapping/ItemType;" (.ref w0)) (S_ATOMIC : Sta Z h0 "com/example/gridloom/gridloom/mapping/ItemType" "ATOMIC" "Lcom/example/gridloom/gridloom/mapping/ItemType;" (.ref w1)) (S_STRING : Sta Z h0 "com/example/gridloom/gridloom/mapping/ItemType" "STRING" "Lcom/example/gridloom/gridloom/mapping/ItemType;" (.ref w2)) (S_NUMERIC : Sta Z h0 "com/example/gridloom/gridloom/mapping/ItemType" "NUMERIC" "Lcom/example/gridloom/gridloom/mapping/ItemType;" (.ref w3)) (S_DECIMAL : Sta Z h0 "com/example/gridloom/gridloom/mapping/ItemType" "DECIMAL" "Lcom/example/gridloom/gridloom/mapping/ItemType;" (.ref w4)) (S_INTEGER : Sta Z h0 "com/example/gridloom/gridloom/mapping/ItemType" "INTEGER" "Lcom/example/gridloom/gridloom/mapping/ItemType;" (.ref w5)) (S_DOUBLE : Sta Z h0 "com/example/gridloom/gridloom/mapping/ItemType" "DOUBLE" "Lcom/example/gridloom/gridloom/mapping/ItemType;" (.ref w6)) (S_BOOLEAN : Sta Z h0 "com/example/gridloom/gridloom/mapping/ItemType" "BOOLEAN" "Lcom/example/gridloom/gridloom/mapping/ItemType;" (.ref w7)) (S_DATE_TIME : Sta Z h0 "com/example/gridloom/gridloom/mapping/ItemType" "DATE_TIME" "Lcom/example/gridloom/gridloom/mapping/ItemType;" (.ref w8)) (S_DATE : Sta Z h0 "com/example/gridloom/gridloom/mapping/ItemType" "DATE" "Lcom/example/gridloom/gridloom/mapping/ItemType;" (.ref w9)) (S_TIME : Sta Z h0 "com/example/gridloom/gridloom/mapping/ItemType" "TIME" "Lcom/example/gridloom/gridloom/mapping/ItemType;" (.ref w10)) (S_DURATION : Sta Z h0 "com/example/gridloom/gridloom/mapping/ItemType" "DURATION" "Lcom/example/gridloom/gridloom/mapping/ItemType;" (.ref w11)) (S_YEAR_MONTH_DURATION : Sta Z h0 "com/example/gridloom/gridloom/mapping/ItemType" "YEAR_MONTH_DURATION" "Lcom/example/gridloom/gridloom/mapping/ItemType;" (.ref w12)) (S_DAY_TIME_DURATION : Sta Z h0 "com/example/gridloom/gridloom/mapping/ItemType" "DAY_TIME_DURATION" "Lcom/example/gridloom/gridloom/mapping/ItemType;" (.ref w13)) (S_NULL : Sta Z h0 "com/example/gridloom/gridloom/mapping/ItemType" "NULL" "Lcom/example/gridloom/gridloom/mapping/ItemType;" (.ref w14)) (S_JSON_ITEM : Sta Z h0 "com/example/gridloom/gridloom/mapping/ItemType" "JSON_ITEM" "Lcom/example/gridloom/gridloom/mapping/ItemType;" (.ref w15)) (S_OBJECT : Sta Z h0 "com/example/gridloom/gridloom/mapping/ItemType" "OBJECT" "Lcom/example/gridloom/gridloom/mapping/ItemType;" (.ref w16)) (S_ARRAY : Sta Z h0 "com/example/gridloom/gridloom/mapping/ItemType" "ARRAY" "Lcom/example/gridloom/gridloom/mapping/ItemType;" (.ref w17)) (S_FUNCTION : Sta Z h0 "com/example/gridloom/gridloom/mapping/ItemType" "FUNCTION" "Lcom/example/gridloom/gridloom/mapping/ItemType;" (.ref w18)) (E_w0 : Exa Z h0 w0 "com/example/gridloom/gridloom/mapping/ItemType") (E_w1 : Exa Z h0 w1 "com/example/gridloom/gridloom/mapping/ItemType") (E_w2 : Exa Z h0 w2 "com/example/gridloom/gridloom/mapping/ItemType") (E_w3 : Exa Z h0 w3 "com/example/gridloom/gridloom/mapping/ItemType") (E_w4 : Exa Z h0 w4 "com/example/gridloom/gridloom/mapping/ItemType") (E_w5 : Exa Z h0 w5 "com/example/gridloom/gridloom/mapping/ItemType") (E_w6 : Exa Z h0 w6 "com/example/gridloom/gridloom/mapping/ItemType") (E_w7 : Exa Z h0 w7 "com/example/gridloom/gridloom/mapping/ItemType") (E_w8 : Exa Z h0 w8 "com/example/gridloom/gridloom/mapping/ItemType") (E_w9 : Exa Z h0 w9 "com/example/gridloom/gridloom/mapping/ItemType") (E_w10 : Exa Z h0 w10 "com/example/gridloom/gridloom/mapping/ItemType") (E_w11 : Exa Z h0 w11 "com/example/gridloom/gridloom/mapping/ItemType") (E_w12 : Exa Z h0 w12 "com/example/gridloom/gridloom/mapping/ItemType") (E_w13 : Exa Z h0 w13 "com/example/gridloom/gridloom/mapping/ItemType") (E_w14 : Exa Z h0 w14 "com/example/gridloom/gridloom/mapping/ItemType") (E_w15 : Exa Z h0 w15 "com/example/gridloom/gridloom/mapping/ItemType") (E_w16 : Exa Z h0 w16 "com/example/gridloom/gridloom/mapping/ItemType") (E_w17 : Exa Z h0 w17 "com/example/gridloom/gridloom/mapping/ItemType") (E_w18 : Exa Z h0 w18 "com/example/gridloom/gridloom/mapping/ItemType") (E_a : Exa Z h0 a "com/example/gridloom/gridloom/mapping/ItemType") (E_b : Exa Z h0 b "com/example/gridloom/gridloom/mapping/ItemType") (lo1 : ¬ ((p1 &&& (2147483647 : Int32)) % (19 : Int32)) < 0) (hi1 : ((p1 &&& (2147483647 : Int32)) % (19 : Int32)) < 19) (lo2 : ¬ ((p2 &&& (2147483647 : Int32)) % (19 : Int32)) < 0) (hi2 : ((p2 &&& (2147483647 : Int32)) % (19 : Int32)) < 19) (sel1 : List.getD [(Value.ref w0), (Value.ref w1), (Value.ref w2), (Value.ref w3), (Value.ref w4), (Value.ref w5), (Value.ref w6), (Value.ref w7), (Value.ref w8), (Value.ref w9), (Value.ref w10), (Value.ref w11), (Value.ref w12), (Value.ref w13), (Value.ref w14), (Value.ref w15), (Value.ref w16), (Value.ref w17), (Value.ref w18)] (((p1 &&& (2147483647 : Int32)) % (19 : Int32))).toNatClampNeg .null = .ref a) (sel2 : List.getD [(Value.ref w0), (Value.ref w1), (Value.ref w2), (Value.ref w3), (Value.ref w4), (Value.ref w5), (Value.ref w6), (Value.ref w7), (Value.ref w8), (Value.ref w9), (Value.ref w10), (Value.ref w11), (Value.ref w12), (Value.ref w13), (Value.ref w14), (Value.ref w15), (Value.ref w16), (Value.ref w17), (Value.ref w18)] (((p2 &&& (2147483647 : Int32)) % (19 : Int32))).toNatClampNeg .null = .ref b) (sel3 : List.getD [(Value.int (1 : Int32)), (Value.int (3 : Int32)), (Value.int (7 : Int32)), (Value.int (11 : Int32)), (Value.int (27 : Int32)), (Value.int (59 : Int32)), (Value.int (75 : Int32)), (Value.int (131 : Int32)), (Value.int (259 : Int32)), (Value.int (515 : Int32)), (Value.int (1027 : Int32)), (Value.int (2051 : Int32)), (Value.int (6147 : Int32)), (Value.int (10243 : Int32)), (Value.int (16387 : Int32)), (Value.int (32769 : Int32)), (Value.int (98305 : Int32)), (Value.int (163841 : Int32)), (Value.int (262145 : Int32))] (((p2 &&& (2147483647 : Int32)) % (19 : Int32))).toNatClampNeg (.int (0 : Int32)) = .int y) (hhd : CL.head? = some b) (hch : own_Chain Z h0 CL) (hlen : CL.length ≤ 5) (hret : (0 : Int32) = if a ∈ CL then 1 else 0) (hc279 : (((y.toUInt32 >>> (((p1 &&& (2147483647 : Int32)) % (19 : Int32)) &&& 31).toUInt32).toInt32) &&& (1 : Int32)) = (0 : Int32)) :
    MetFree l x (head1 (Jvm.Cond.code x code maxLocals ret :: ws) room_1) (fun a_ U => a_ = #[(.int p1), (.int p2)] ∧ Z.Warmed39 U.vm ∧ U.heap = h0) (fun _ _ _ _ _ => True) (fun _ U o U' => ∃ v L, o = .returned v ∧ Q_law Z p1 p2 w0 w1 w2 w3 w4 w5 w6 w7 w8 w9 w10 w11 w12 w13 w14 w15 w16 w17 w18 a b y CL h0 n0 v U'.heap L ∧ FrameEnd U o U' L room_1.cells room_1.slots) := by
  refine MetFree.of_bodySF (plainFor_of_name pn_0) hisR ?_
  intro p e s m args below meth c s₁ Bd hml0 hP hK
  obtain ⟨rfl, hZ, hh⟩ := hP
  have hx := Bd.exec
  have hby := Bd.bytes
  have hml : c.maxLocals = 7 := hml0
  have hown : s.vm.findClass "com/example/gridloom/gridloom/mapping/ItemTypeIncludesPinLaw" = some m.cls := findClass_of_methodNamed Bd.named
  have hnm := (name_of_methodNamed Bd.named Bd.method).1
  have X0 : Stand p l e room_1 s m #[(.int p1), (.int p2)] below meth c s₁ [] 0 0 := Stand.of_body Bd
  have e0 : s₁.heap = h0 := by rw [← hh, Bd.state]; rfl
  have N0 := Fr.nil n0
  have pre0 : ∀ t, Steps p.tables e below (s₁.setTop (mkF m 0 #[.val (.int p1), .val (.int p2), .unset, .unset, .unset, .unset, .unset] [])) t → Steps p.tables e below (s₁.setTop (entryFrame m #[(.int p1), (.int p2)] maxLocals)) t := fun t_ k_ => castTop (ef_law m p1 p2) k_
  obtain ⟨T1, h1, k1, X1, e1, E1, A1, O1, st1⟩ := newR X0 hx hZ hown (hw _ (List.mem_of_getElem? (i := 0) rfl)) (hw _ (List.mem_of_getElem? (i := 1) rfl)) e0 (g := (mkF m 2 #[.val (.int p1), .val (.int p2), .unset, .unset, .unset, .unset, .unset] [(.int (19 : Int32))])) rfl (hb hby at_2) rfl (by decide) (cap := 19) (by decide) (by decide) (by decide) (by decide)
  obtain ⟨b1, g1⟩ : ∃ z, z = h0.size := ⟨_, rfl⟩
  rw [← g1] at A1 st1
  have sz_b1 : h0.size ≤ b1 := Nat.le_trans (Keep.refl h0 []).1 (Nat.le_of_eq g1.symm)
  have g_b1 : n0 ≤ b1 := Nat.le_trans Z0 sz_b1
  have Kc1 : Keep h0 h1 [] := (Keep.refl h0 []).ext E1
  have V_b1 : Arv Z h1 b1 k1 (.object "com/example/gridloom/gridloom/mapping/ItemType") (19 : Int32) [.null, .null, .null, .null, .null, .null, .null, .null, .null, .null, .null, .null, .null, .null, .null, .null, .null, .null, .null] .null := (Arv.new A1 (by decide)).pad (pad_rep [] .null 19)
  have f2 : Sta Z h1 "com/example/gridloom/gridloom/mapping/ItemType" "ITEM" "Lcom/example/gridloom/gridloom/mapping/ItemType;" (.ref w0) := (Sta.ext E1 S_ITEM)
  obtain ⟨T3, X3, e3, st3⟩ := getS2 X1 hx hZ hown (host := "") (Or.inl (hw _ (List.mem_of_getElem? (i := 2) rfl))) Via.refl e1 f2 (g := (mkF m 7 #[.val (.int p1), .val (.int p2), .unset, .unset, .unset, .unset, .unset] [(.int (0 : Int32)), (.ref b1), (.ref b1)])) rfl (hb hby at_7)
  obtain ⟨cl4, Ar4, qq4, Sz4, Nn4, Hs4, Gg4⟩ := id V_b1
  have hin4_10 : ¬ ((0 : Int32) < 0 ∨ cl4.slots.size ≤ ((0 : Int32)).toNatClampNeg) := inb_of Sz4 ⟨by decide, by decide⟩
  have f6 : Exa Z h1 w0 "com/example/gridloom/gridloom/mapping/ItemType" := (Exa.ext E1 E_w0)
  obtain ⟨T5, h5, X5, e5, W5, st5⟩ := stR X3 hx hZ e3 Ar4 (j := (0 : Int32)) hin4_10 rfl (Sto.ofV Ar4 qq4 O1 (Ins.self f6)) (g := (mkF m 10 #[.val (.int p1), .val (.int p2), .unset, .unset, .unset, .unset, .unset] [(.ref w0), (.int (0 : Int32)), (.ref b1), (.ref b1)])) rfl rfl (hb hby at_10)
  have N5 := Fr.snoc X5 N0 g_b1
  have Kc5 : Keep h0 h5 [] := Kc1.wr W5 (Or.inr sz_b1)
  have Vw5 : Arv Z h5 b1 k1 (.object "com/example/gridloom/gridloom/mapping/ItemType") (19 : Int32) [(.ref w0), .null, .null, .null, .null, .null, .null, .null, .null, .null, .null, .null, .null, .null, .null, .null, .null, .null, .null] .null := Arv.set Ar4 qq4 Sz4 Nn4 Hs4 Gg4 rfl W5 0 rfl (Nat.le_of_ble_eq_true rfl)
  have f7 : Sta Z h5 "com/example/gridloom/gridloom/mapping/ItemType" "ATOMIC" "Lcom/example/gridloom/gridloom/mapping/ItemType;" (.ref w1) := (Sta.wr W5 (Sta.ext E1 S_ATOMIC))
  obtain ⟨T8, X8, e8, st8⟩ := getS2 X5 hx hZ hown (host := "") (Or.inl (hw _ (List.mem_of_getElem? (i := 6) rfl))) Via.refl e5 f7 (g := (mkF m 13 #[.val (.int p1), .val (.int p2), .unset, .unset, .unset, .unset, .unset] [(.int (1 : Int32)), (.ref b1), (.ref b1)])) rfl (hb hby at_13)
  obtain ⟨cl9, Ar9, qq9, Sz9, Nn9, Hs9, Gg9⟩ := id Vw5
  have hin9_16 : ¬ ((1 : Int32) < 0 ∨ cl9.slots.size ≤ ((1 : Int32)).toNatClampNeg) := inb_of Sz9 ⟨by decide, by decide⟩
  have f11 : Exa Z h5 w1 "com/example/gridloom/gridloom/mapping/ItemType" := (Exa.wr W5 (Exa.ext E1 E_w1))
  obtain ⟨T10, h10, X10, e10, W10, st10⟩ := stR X8 hx hZ e8 Ar9 (j := (1 : Int32)) hin9_16 rfl (Sto.ofV Ar9 qq9 O1 (Ins.self f11)) (g := (mkF m 16 #[.val (.int p1), .val (.int p2), .unset, .unset, .unset, .unset, .unset] [(.ref w1), (.int (1 : Int32)), (.ref b1), (.ref b1)])) rfl rfl (hb hby at_16)
  have N10 := Fr.snoc X10 N5 g_b1
  have Kc10 : Keep h0 h10 [] := Kc5.wr W10 (Or.inr sz_b1)
  have Vw10 : Arv Z h10 b1 k1 (.object "com/example/gridloom/gridloom/mapping/ItemType") (19 : Int32) [(.ref w0), (.ref w1), .null, .null, .null, .null, .null, .null, .null, .null, .null, .null, .null, .null, .null, .null, .null, .null, .null] .null := Arv.set Ar9 qq9 Sz9 Nn9 Hs9 Gg9 rfl W10 1 rfl (Nat.le_of_ble_eq_true rfl)
  have f12 : Sta Z h10 "com/example/gridloom/gridloom/mapping/ItemType" "STRING" "Lcom/example/gridloom/gridloom/mapping/ItemType;" (.ref w2) := (Sta.wr W10 (Sta.wr W5 (Sta.ext E1 S_STRING)))
  obtain ⟨T13, X13, e13, st13⟩ := getS2 X10 hx hZ hown (host := "") (Or.inl (hw _ (List.mem_of_getElem? (i := 8) rfl))) Via.refl e10 f12 (g := (mkF m 19 #[.val (.int p1), .val (.int p2), .unset, .unset, .unset, .unset, .unset] [(.int (2 : Int32)), (.ref b1), (.ref b1)])) rfl (hb hby at_19)
  obtain ⟨cl14, Ar14, qq14, Sz14, Nn14, Hs14, Gg14⟩ := id Vw10
  have hin14_22 : ¬ ((2 : Int32) < 0 ∨ cl14.slots.size ≤ ((2 : Int32)).toNatClampNeg) := inb_of Sz14 ⟨by decide, by decide⟩
  have f16 : Exa Z h10 w2 "com/example/gridloom/gridloom/mapping/ItemType" := (Exa.wr W10 (Exa.wr W5 (Exa.ext E1 E_w2)))
  obtain ⟨T15, h15, X15, e15, W15, st15⟩ := stR X13 hx hZ e13 Ar14 (j := (2 : Int32)) hin14_22 rfl (Sto.ofV Ar14 qq14 O1 (Ins.self f16)) (g := (mkF m 22 #[.val (.int p1), .val (.int p2), .unset, .unset, .unset, .unset, .unset] [(.ref w2), (.int (2 : Int32)), (.ref b1), (.ref b1)])) rfl rfl (hb hby at_22)
  have N15 := Fr.snoc X15 N10 g_b1
  have Kc15 : Keep h0 h15 [] := Kc10.wr W15 (Or.inr sz_b1)
  have Vw15 : Arv Z h15 b1 k1 (.object "com/example/gridloom/gridloom/mapping/ItemType") (19 : Int32) [(.ref w0), (.ref w1), (.ref w2), .null, .null, .null, .null, .null, .null, .null, .null, .null, .null, .null, .null, .null, .null, .null, .null] .null := Arv.set Ar14 qq14 Sz14 Nn14 Hs14 Gg14 rfl W15 2 rfl (Nat.le_of_ble_eq_true rfl)
  have f17 : Sta Z h15 "com/example/gridloom/gridloom/mapping/ItemType" "NUMERIC" "Lcom/example/gridloom/gridloom/mapping/ItemType;" (.ref w3) := (Sta.wr W15 (Sta.wr W10 (Sta.wr W5 (Sta.ext E1 S_NUMERIC))))
  obtain ⟨T18, X18, e18, st18⟩ := getS2 X15 hx hZ hown (host := "") (Or.inl (hw _ (List.mem_of_getElem? (i := 10) rfl))) Via.refl e15 f17 (g := (mkF m 25 #[.val (.int p1), .val (.int p2), .unset, .unset, .unset, .unset, .unset] [(.int (3 : Int32)), (.ref b1), (.ref b1)])) rfl (hb hby at_25)
  obtain ⟨cl19, Ar19, qq19, Sz19, Nn19, Hs19, Gg19⟩ := id Vw15
  have hin19_28 : ¬ ((3 : Int32) < 0 ∨ cl19.slots.size ≤ ((3 : Int32)).toNatClampNeg) := inb_of Sz19 ⟨by decide, by decide⟩
  have f21 : Exa Z h15 w3 "com/example/gridloom/gridloom/mapping/ItemType" := (Exa.wr W15 (Exa.wr W10 (Exa.wr W5 (Exa.ext E1 E_w3))))
  obtain ⟨T20, h20, X20, e20, W20, st20⟩ := stR X18 hx hZ e18 Ar19 (j := (3 : Int32)) hin19_28 rfl (Sto.ofV Ar19 qq19 O1 (Ins.self f21)) (g := (mkF m 28 #[.val (.int p1), .val (.int p2), .unset, .unset, .unset, .unset, .unset] [(.ref w3), (.int (3 : Int32)), (.ref b1), (.ref b1)])) rfl rfl (hb hby at_28)
  have N20 := Fr.snoc X20 N15 g_b1
  have Kc20 : Keep h0 h20 [] := Kc15.wr W20 (Or.inr sz_b1)
  have Vw20 : Arv Z h20 b1 k1 (.object "com/example/gridloom/gridloom/mapping/ItemType") (19 : Int32) [(.ref w0), (.ref w1), (.ref w2), (.ref w3), .null, .null, .null, .null, .null, .null, .null, .null, .null, .null, .null, .null, .null, .null, .null] .null := Arv.set Ar19 qq19 Sz19 Nn19 Hs19 Gg19 rfl W20 3 rfl (Nat.le_of_ble_eq_true rfl)
  have f22 : Sta Z h20 "com/example/gridloom/gridloom/mapping/ItemType" "DECIMAL" "Lcom/example/gridloom/gridloom/mapping/ItemType;" (.ref w4) := (Sta.wr W20 (Sta.wr W15 (Sta.wr W10 (Sta.wr W5 (Sta.ext E1 S_DECIMAL)))))
  obtain ⟨T23, X23, e23, st23⟩ := getS2 X20 hx hZ hown (host := "") (Or.inl (hw _ (List.mem_of_getElem? (i := 12) rfl))) Via.refl e20 f22 (g := (mkF m 31 #[.val (.int p1), .val (.int p2), .unset, .unset, .unset, .unset, .unset] [(.int (4 : Int32)), (.ref b1), (.ref b1)])) rfl (hb hby at_31)
  obtain ⟨cl24, Ar24, qq24, Sz24, Nn24, Hs24, Gg24⟩ := id Vw20
  have hin24_34 : ¬ ((4 : Int32) < 0 ∨ cl24.slots.size ≤ ((4 : Int32)).toNatClampNeg) := inb_of Sz24 ⟨by decide, by decide⟩
  have f26 : Exa Z h20 w4 "com/example/gridloom/gridloom/mapping/ItemType" := (Exa.wr W20 (Exa.wr W15 (Exa.wr W10 (Exa.wr W5 (Exa.ext E1 E_w4)))))
  obtain ⟨T25, h25, X25, e25, W25, st25⟩ := stR X23 hx hZ e23 Ar24 (j := (4 : Int32)) hin24_34 rfl (Sto.ofV Ar24 qq24 O1 (Ins.self f26)) (g := (mkF m 34 #[.val (.int p1), .val (.int p2), .unset, .unset, .unset, .unset, .unset] [(.ref w4), (.int (4 : Int32)), (.ref b1), (.ref b1)])) rfl rfl (hb hby at_34)
  have N25 := Fr.snoc X25 N20 g_b1
  have Kc25 : Keep h0 h25 [] := Kc20.wr W25 (Or.inr sz_b1)
  have Vw25 : Arv Z h25 b1 k1 (.object "com/example/gridloom/gridloom/mapping/ItemType") (19 : Int32) [(.ref w0), (.ref w1), (.ref w2), (.ref w3), (.ref w4), .null, .null, .null, .null, .null, .null, .null, .null, .null, .null, .null, .null, .null, .null] .null := Arv.set Ar24 qq24 Sz24 Nn24 Hs24 Gg24 rfl W25 4 rfl (Nat.le_of_ble_eq_true rfl)
  have f27 : Sta Z h25 "com/example/gridloom/gridloom/mapping/ItemType" "INTEGER" "Lcom/example/gridloom/gridloom/mapping/ItemType;" (.ref w5) := (Sta.wr W25 (Sta.wr W20 (Sta.wr W15 (Sta.wr W10 (Sta.wr W5 (Sta.ext E1 S_INTEGER))))))
  obtain ⟨T28, X28, e28, st28⟩ := getS2 X25 hx hZ hown (host := "") (Or.inl (hw _ (List.mem_of_getElem? (i := 14) rfl))) Via.refl e25 f27 (g := (mkF m 37 #[.val (.int p1), .val (.int p2), .unset, .unset, .unset, .unset, .unset] [(.int (5 : Int32)), (.ref b1), (.ref b1)])) rfl (hb hby at_37)
  obtain ⟨cl29, Ar29, qq29, Sz29, Nn29, Hs29, Gg29⟩ := id Vw25
  have hin29_40 : ¬ ((5 : Int32) < 0 ∨ cl29.slots.size ≤ ((5 : Int32)).toNatClampNeg) := inb_of Sz29 ⟨by decide, by decide⟩
  have f31 : Exa Z h25 w5 "com/example/gridloom/gridloom/mapping/ItemType" := (Exa.wr W25 (Exa.wr W20 (Exa.wr W15 (Exa.wr W10 (Exa.wr W5 (Exa.ext E1 E_w5))))))
  obtain ⟨T30, h30, X30, e30, W30, st30⟩ := stR X28 hx hZ e28 Ar29 (j := (5 : Int32)) hin29_40 rfl (Sto.ofV Ar29 qq29 O1 (Ins.self f31)) (g := (mkF m 40 #[.val (.int p1), .val (.int p2), .unset, .unset, .unset, .unset, .unset] [(.ref w5), (.int (5 : Int32)), (.ref b1), (.ref b1)])) rfl rfl (hb hby at_40)
  have N30 := Fr.snoc X30 N25 g_b1
  have Kc30 : Keep h0 h30 [] := Kc25.wr W30 (Or.inr sz_b1)
  have Vw30 : Arv Z h30 b1 k1 (.object "com/example/gridloom/gridloom/mapping/ItemType") (19 : Int32) [(.ref w0), (.ref w1), (.ref w2), (.ref w3), (.ref w4), (.ref w5), .null, .null, .null, .null, .null, .null, .null, .null, .null, .null, .null, .null, .null] .null := Arv.set Ar29 qq29 Sz29 Nn29 Hs29 Gg29 rfl W30 5 rfl (Nat.le_of_ble_eq_true rfl)
  have f32 : Sta Z h30 "com/example/gridloom/gridloom/mapping/ItemType" "DOUBLE" "Lcom/example/gridloom/gridloom/mapping/ItemType;" (.ref w6) := (Sta.wr W30 (Sta.wr W25 (Sta.wr W20 (Sta.wr W15 (Sta.wr W10 (Sta.wr W5 (Sta.ext E1 S_DOUBLE)))))))
  obtain ⟨T33, X33, e33, st33⟩ := getS2 X30 hx hZ hown (host := "") (Or.inl (hw _ (List.mem_of_getElem? (i := 16) rfl))) Via.refl e30 f32 (g := (mkF m 44 #[.val (.int p1), .val (.int p2), .unset, .unset, .unset, .unset, .unset] [(.int (6 : Int32)), (.ref b1), (.ref b1)])) rfl (hb hby at_44)
  obtain ⟨cl34, Ar34, qq34, Sz34, Nn34, Hs34, Gg34⟩ := id Vw30
  have hin34_47 : ¬ ((6 : Int32) < 0 ∨ cl34.slots.size ≤ ((6 : Int32)).toNatClampNeg) := inb_of Sz34 ⟨by decide, by decide⟩
  have f36 : Exa Z h30 w6 "com/example/gridloom/gridloom/mapping/ItemType" := (Exa.wr W30 (Exa.wr W25 (Exa.wr W20 (Exa.wr W15 (Exa.wr W10 (Exa.wr W5 (Exa.ext E1 E_w6)))))))
  obtain ⟨T35, h35, X35, e35, W35, st35⟩ := stR X33 hx hZ e33 Ar34 (j := (6 : Int32)) hin34_47 rfl (Sto.ofV Ar34 qq34 O1 (Ins.self f36)) (g := (mkF m 47 #[.val (.int p1), .val (.int p2), .unset, .unset, .unset, .unset, .unset] [(.ref w6), (.int (6 : Int32)), (.ref b1), (.ref b1)])) rfl rfl (hb hby at_47)
  have N35 := Fr.snoc X35 N30 g_b1
  have Kc35 : Keep h0 h35 [] := Kc30.wr W35 (Or.inr sz_b1)
  have Vw35 : Arv Z h35 b1 k1 (.object "com/example/gridloom/gridloom/mapping/ItemType") (19 : Int32) [(.ref w0), (.ref w1), (.ref w2), (.ref w3), (.ref w4), (.ref w5), (.ref w6), .null, .null, .null, .null, .null, .null, .null, .null, .null, .null, .null, .null] .null := Arv.set Ar34 qq34 Sz34 Nn34 Hs34 Gg34 rfl W35 6 rfl (Nat.le_of_ble_eq_true rfl)
  have f37 : Sta Z h35 "com/example/gridloom/gridloom/mapping/ItemType" "BOOLEAN" "Lcom/example/gridloom/gridloom/mapping/ItemType;" (.ref w7) := (Sta.wr W35 (Sta.wr W30 (Sta.wr W25 (Sta.wr W20 (Sta.wr W15 (Sta.wr W10 (Sta.wr W5 (Sta.ext E1 S_BOOLEAN))))))))
  obtain ⟨T38, X38, e38, st38⟩ := getS2 X35 hx hZ hown (host := "") (Or.inl (hw _ (List.mem_of_getElem? (i := 18) rfl))) Via.refl e35 f37 (g := (mkF m 51 #[.val (.int p1), .val (.int p2), .unset, .unset, .unset, .unset, .unset] [(.int (7 : Int32)), (.ref b1), (.ref b1)])) rfl (hb hby at_51)
  obtain ⟨cl39, Ar39, qq39, Sz39, Nn39, Hs39, Gg39⟩ := id Vw35
  have hin39_54 : ¬ ((7 : Int32) < 0 ∨ cl39.slots.size ≤ ((7 : Int32)).toNatClampNeg) := inb_of Sz39 ⟨by decide, by decide⟩
  have f41 : Exa Z h35 w7 "com/example/gridloom/gridloom/mapping/ItemType" := (Exa.wr W35 (Exa.wr W30 (Exa.wr W25 (Exa.wr W20 (Exa.wr W15 (Exa.wr W10 (Exa.wr W5 (Exa.ext E1 E_w7))))))))
  obtain ⟨T40, h40, X40, e40, W40, st40⟩ := stR X38 hx hZ e38 Ar39 (j := (7 : Int32)) hin39_54 rfl (Sto.ofV Ar39 qq39 O1 (Ins.self f41)) (g := (mkF m 54 #[.val (.int p1), .val (.int p2), .unset, .unset, .unset, .unset, .unset] [(.ref w7), (.int (7 : Int32)), (.ref b1), (.ref b1)])) rfl rfl (hb hby at_54)
  have N40 := Fr.snoc X40 N35 g_b1
  have Kc40 : Keep h0 h40 [] := Kc35.wr W40 (Or.inr sz_b1)
  have Vw40 : Arv Z h40 b1 k1 (.object "com/example/gridloom/gridloom/mapping/ItemType") (19 : Int32) [(.ref w0), (.ref w1), (.ref w2), (.ref w3), (.ref w4), (.ref w5), (.ref w6), (.ref w7), .null, .null, .null, .null, .null, .null, .null, .null, .null, .null, .null] .null := Arv.set Ar39 qq39 Sz39 Nn39 Hs39 Gg39 rfl W40 7 rfl (Nat.le_of_ble_eq_true rfl)
  have f42 : Sta Z h40 "com/example/gridloom/gridloom/mapping/ItemType" "DATE_TIME" "Lcom/example/gridloom/gridloom/mapping/ItemType;" (.ref w8) := (Sta.wr W40 (Sta.wr W35 (Sta.wr W30 (Sta.wr W25 (Sta.wr W20 (Sta.wr W15 (Sta.wr W10 (Sta.wr W5 (Sta.ext E1 S_DATE_TIME)))))))))
  obtain ⟨T43, X43, e43, st43⟩ := getS2 X40 hx hZ hown (host := "") (Or.inl (hw _ (List.mem_of_getElem? (i := 20) rfl))) Via.refl e40 f42 (g := (mkF m 58 #[.val (.int p1), .val (.int p2), .unset, .unset, .unset, .unset, .unset] [(.int (8 : Int32)), (.ref b1), (.ref b1)])) rfl (hb hby at_58)
  obtain ⟨cl44, Ar44, qq44, Sz44, Nn44, Hs44, Gg44⟩ := id Vw40
  have hin44_61 : ¬ ((8 : Int32) < 0 ∨ cl44.slots.size ≤ ((8 : Int32)).toNatClampNeg) := inb_of Sz44 ⟨by decide, by decide⟩
  have f46 : Exa Z h40 w8 "com/example/gridloom/gridloom/mapping/ItemType" := (Exa.wr W40 (Exa.wr W35 (Exa.wr W30 (Exa.wr W25 (Exa.wr W20 (Exa.wr W15 (Exa.wr W10 (Exa.wr W5 (Exa.ext E1 E_w8)))))))))
  obtain ⟨T45, h45, X45, e45, W45, st45⟩ := stR X43 hx hZ e43 Ar44 (j := (8 : Int32)) hin44_61 rfl (Sto.ofV Ar44 qq44 O1 (Ins.self f46)) (g := (mkF m 61 #[.val (.int p1), .val (.int p2), .unset, .unset, .unset, .unset, .unset] [(.ref w8), (.int (8 : Int32)), (.ref b1), (.ref b1)])) rfl rfl (hb hby at_61)
  have N45 := Fr.snoc X45 N40 g_b1
  have Kc45 : Keep h0 h45 [] := Kc40.wr W45 (Or.inr sz_b1)
  have Vw45 : Arv Z h45 b1 k1 (.object "com/example/gridloom/gridloom/mapping/ItemType") (19 : Int32) [(.ref w0), (.ref w1), (.ref w2), (.ref w3), (.ref w4), (.ref w5), (.ref w6), (.ref w7), (.ref w8), .null, .null, .null, .null, .null, .null, .null, .null, .null, .null] .null := Arv.set Ar44 qq44 Sz44 Nn44 Hs44 Gg44 rfl W45 8 rfl (Nat.le_of_ble_eq_true rfl)
  have f47 : Sta Z h45 "com/example/gridloom/gridloom/mapping/ItemType" "DATE" "Lcom/example/gridloom/gridloom/mapping/ItemType;" (.ref w9) := (Sta.wr W45 (Sta.wr W40 (Sta.wr W35 (Sta.wr W30 (Sta.wr W25 (Sta.wr W20 (Sta.wr W15 (Sta.wr W10 (Sta.wr W5 (Sta.ext E1 S_DATE))))))))))
  obtain ⟨T48, X48, e48, st48⟩ := getS2 X45 hx hZ hown (host := "") (Or.inl (hw _ (List.mem_of_getElem? (i := 22) rfl))) Via.refl e45 f47 (g := (mkF m 65 #[.val (.int p1), .val (.int p2), .unset, .unset, .unset, .unset, .unset] [(.int (9 : Int32)), (.ref b1), (.ref b1)])) rfl (hb hby at_65)
  obtain ⟨cl49, Ar49, qq49, Sz49, Nn49, Hs49, Gg49⟩ := id Vw45
  have hin49_68 : ¬ ((9 : Int32) < 0 ∨ cl49.slots.size ≤ ((9 : Int32)).toNatClampNeg) := inb_of Sz49 ⟨by decide, by decide⟩
  have f51 : Exa Z h45 w9 "com/example/gridloom/gridloom/mapping/ItemType" := (Exa.wr W45 (Exa.wr W40 (Exa.wr W35 (Exa.wr W30 (Exa.wr W25 (Exa.wr W20 (Exa.wr W15 (Exa.wr W10 (Exa.wr W5 (Exa.ext E1 E_w9))))))))))
  obtain ⟨T50, h50, X50, e50, W50, st50⟩ := stR X48 hx hZ e48 Ar49 (j := (9 : Int32)) hin49_68 rfl (Sto.ofV Ar49 qq49 O1 (Ins.self f51)) (g := (mkF m 68 #[.val (.int p1), .val (.int p2), .unset, .unset, .unset, .unset, .unset] [(.ref w9), (.int (9 : Int32)), (.ref b1), (.ref b1)])) rfl rfl (hb hby at_68)
  have N50 := Fr.snoc X50 N45 g_b1
  have Kc50 : Keep h0 h50 [] := Kc45.wr W50 (Or.inr sz_b1)
  have Vw50 : Arv Z h50 b1 k1 (.object "com/example/gridloom/gridloom/mapping/ItemType") (19 : Int32) [(.ref w0), (.ref w1), (.ref w2), (.ref w3), (.ref w4), (.ref w5), (.ref w6), (.ref w7), (.ref w8), (.ref w9), .null, .null, .null, .null, .null, .null, .null, .null, .null] .null := Arv.set Ar49 qq49 Sz49 Nn49 Hs49 Gg49 rfl W50 9 rfl (Nat.le_of_ble_eq_true rfl)
  have f52 : Sta Z h50 "com/example/gridloom/gridloom/mapping/ItemType" "TIME" "Lcom/example/gridloom/gridloom/mapping/ItemType;" (.ref w10) := (Sta.wr W50 (Sta.wr W45 (Sta.wr W40 (Sta.wr W35 (Sta.wr W30 (Sta.wr W25 (Sta.wr W20 (Sta.wr W15 (Sta.wr W10 (Sta.wr W5 (Sta.ext E1 S_TIME)))))))))))
  obtain ⟨T53, X53, e53, st53⟩ := getS2 X50 hx hZ hown (host := "") (Or.inl (hw _ (List.mem_of_getElem? (i := 24) rfl))) Via.refl e50 f52 (g := (mkF m 72 #[.val (.int p1), .val (.int p2), .unset, .unset, .unset, .unset, .unset] [(.int (10 : Int32)), (.ref b1), (.ref b1)])) rfl (hb hby at_72)
  obtain ⟨cl54, Ar54, qq54, Sz54, Nn54, Hs54, Gg54⟩ := id Vw50
  have hin54_75 : ¬ ((10 : Int32) < 0 ∨ cl54.slots.size ≤ ((10 : Int32)).toNatClampNeg) := inb_of Sz54 ⟨by decide, by decide⟩
  have f56 : Exa Z h50 w10 "com/example/gridloom/gridloom/mapping/ItemType" := (Exa.wr W50 (Exa.wr W45 (Exa.wr W40 (Exa.wr W35 (Exa.wr W30 (Exa.wr W25 (Exa.wr W20 (Exa.wr W15 (Exa.wr W10 (Exa.wr W5 (Exa.ext E1 E_w10)))))))))))
  obtain ⟨T55, h55, X55, e55, W55, st55⟩ := stR X53 hx hZ e53 Ar54 (j := (10 : Int32)) hin54_75 rfl (Sto.ofV Ar54 qq54 O1 (Ins.self f56)) (g := (mkF m 75 #[.val (.int p1), .val (.int p2), .unset, .unset, .unset, .unset, .unset] [(.ref w10), (.int (10 : Int32)), (.ref b1), (.ref b1)])) rfl rfl (hb hby at_75)
  have N55 := Fr.snoc X55 N50 g_b1
  have Kc55 : Keep h0 h55 [] := Kc50.wr W55 (Or.inr sz_b1)
  have Vw55 : Arv Z h55 b1 k1 (.object "com/example/gridloom/gridloom/mapping/ItemType") (19 : Int32) [(.ref w0), (.ref w1), (.ref w2), (.ref w3), (.ref w4), (.ref w5), (.ref w6), (.ref w7), (.ref w8), (.ref w9), (.ref w10), .null, .null, .null, .null, .null, .null, .null, .null] .null := Arv.set Ar54 qq54 Sz54 Nn54 Hs54 Gg54 rfl W55 10 rfl (Nat.le_of_ble_eq_true rfl)
  have f57 : Sta Z h55 "com/example/gridloom/gridloom/mapping/ItemType" "DURATION" "Lcom/example/gridloom/gridloom/mapping/ItemType;" (.ref w11) := (Sta.wr W55 (Sta.wr W50 (Sta.wr W45 (Sta.wr W40 (Sta.wr W35 (Sta.wr W30 (Sta.wr W25 (Sta.wr W20 (Sta.wr W15 (Sta.wr W10 (Sta.wr W5 (Sta.ext E1 S_DURATION))))))))))))
  obtain ⟨T58, X58, e58, st58⟩ := getS2 X55 hx hZ hown (host := "") (Or.inl (hw _ (List.mem_of_getElem? (i := 26) rfl))) Via.refl e55 f57 (g := (mkF m 79 #[.val (.int p1), .val (.int p2), .unset, .unset, .unset, .unset, .unset] [(.int (11 : Int32)), (.ref b1), (.ref b1)])) rfl (hb hby at_79)
  obtain ⟨cl59, Ar59, qq59, Sz59, Nn59, Hs59, Gg59⟩ := id Vw55
  have hin59_82 : ¬ ((11 : Int32) < 0 ∨ cl59.slots.size ≤ ((11 : Int32)).toNatClampNeg) := inb_of Sz59 ⟨by decide, by decide⟩
  have f61 : Exa Z h55 w11 "com/example/gridloom/gridloom/mapping/ItemType" := (Exa.wr W55 (Exa.wr W50 (Exa.wr W45 (Exa.wr W40 (Exa.wr W35 (Exa.wr W30 (Exa.wr W25 (Exa.wr W20 (Exa.wr W15 (Exa.wr W10 (Exa.wr W5 (Exa.ext E1 E_w11))))))))))))
  obtain ⟨T60, h60, X60, e60, W60, st60⟩ := stR X58 hx hZ e58 Ar59 (j := (11 : Int32)) hin59_82 rfl (Sto.ofV Ar59 qq59 O1 (Ins.self f61)) (g := (mkF m 82 #[.val (.int p1), .val (.int p2), .unset, .unset, .unset, .unset, .unset] [(.ref w11), (.int (11 : Int32)), (.ref b1), (.ref b1)])) rfl rfl (hb hby at_82)
  have N60 := Fr.snoc X60 N55 g_b1
  have Kc60 : Keep h0 h60 [] := Kc55.wr W60 (Or.inr sz_b1)
  have Vw60 : Arv Z h60 b1 k1 (.object "com/example/gridloom/gridloom/mapping/ItemType") (19 : Int32) [(.ref w0), (.ref w1), (.ref w2), (.ref w3), (.ref w4), (.ref w5), (.ref w6), (.ref w7), (.ref w8), (.ref w9), (.ref w10), (.ref w11), .null, .null, .null, .null, .null, .null, .null] .null := Arv.set Ar59 qq59 Sz59 Nn59 Hs59 Gg59 rfl W60 11 rfl (Nat.le_of_ble_eq_true rfl)
  have f62 : Sta Z h60 "com/example/gridloom/gridloom/mapping/ItemType" "YEAR_MONTH_DURATION" "Lcom/example/gridloom/gridloom/mapping/ItemType;" (.ref w12) := (Sta.wr W60 (Sta.wr W55 (Sta.wr W50 (Sta.wr W45 (Sta.wr W40 (Sta.wr W35 (Sta.wr W30 (Sta.wr W25 (Sta.wr W20 (Sta.wr W15 (Sta.wr W10 (Sta.wr W5 (Sta.ext E1 S_YEAR_MONTH_DURATION)))))))))))))
  obtain ⟨T63, X63, e63, st63⟩ := getS2 X60 hx hZ hown (host := "") (Or.inl (hw _ (List.mem_of_getElem? (i := 28) rfl))) Via.refl e60 f62 (g := (mkF m 86 #[.val (.int p1), .val (.int p2), .unset, .unset, .unset, .unset, .unset] [(.int (12 : Int32)), (.ref b1), (.ref b1)])) rfl (hb hby at_86)
  obtain ⟨cl64, Ar64, qq64, Sz64, Nn64, Hs64, Gg64⟩ := id Vw60
  have hin64_89 : ¬ ((12 : Int32) < 0 ∨ cl64.slots.size ≤ ((12 : Int32)).toNatClampNeg) := inb_of Sz64 ⟨by decide, by decide⟩
  have f66 : Exa Z h60 w12 "com/example/gridloom/gridloom/mapping/ItemType" := (Exa.wr W60 (Exa.wr W55 (Exa.wr W50 (Exa.wr W45 (Exa.wr W40 (Exa.wr W35 (Exa.wr W30 (Exa.wr W25 (Exa.wr W20 (Exa.wr W15 (Exa.wr W10 (Exa.wr W5 (Exa.ext E1 E_w12)))))))))))))
  obtain ⟨T65, h65, X65, e65, W65, st65⟩ := stR X63 hx hZ e63 Ar64 (j := (12 : Int32)) hin64_89 rfl (Sto.ofV Ar64 qq64 O1 (Ins.self f66)) (g := (mkF m 89 #[.val (.int p1), .val (.int p2), .unset, .unset, .unset, .unset, .unset] [(.ref w12), (.int (12 : Int32)), (.ref b1), (.ref b1)])) rfl rfl (hb hby at_89)
  have N65 := Fr.snoc X65 N60 g_b1
  have Kc65 : Keep h0 h65 [] := Kc60.wr W65 (Or.inr sz_b1)
  have Vw65 : Arv Z h65 b1 k1 (.object "com/example/gridloom/gridloom/mapping/ItemType") (19 : Int32) [(.ref w0), (.ref w1), (.ref w2), (.ref w3), (.ref w4), (.ref w5), (.ref w6), (.ref w7), (.ref w8), (.ref w9), (.ref w10), (.ref w11), (.ref w12), .null, .null, .null, .null, .null, .null] .null := Arv.set Ar64 qq64 Sz64 Nn64 Hs64 Gg64 rfl W65 12 rfl (Nat.le_of_ble_eq_true rfl)
  have f67 : Sta Z h65 "com/example/gridloom/gridloom/mapping/ItemType" "DAY_TIME_DURATION" "Lcom/example/gridloom/gridloom/mapping/ItemType;" (.ref w13) := (Sta.wr W65 (Sta.wr W60 (Sta.wr W55 (Sta.wr W50 (Sta.wr W45 (Sta.wr W40 (Sta.wr W35 (Sta.wr W30 (Sta.wr W25 (Sta.wr W20 (Sta.wr W15 (Sta.wr W10 (Sta.wr W5 (Sta.ext E1 S_DAY_TIME_DURATION))))))))))))))
  obtain ⟨T68, X68, e68, st68⟩ := getS2 X65 hx hZ hown (host := "") (Or.inl (hw _ (List.mem_of_getElem? (i := 30) rfl))) Via.refl e65 f67 (g := (mkF m 93 #[.val (.int p1), .val (.int p2), .unset, .unset, .unset, .unset, .unset] [(.int (13 : Int32)), (.ref b1), (.ref b1)])) rfl (hb hby at_93)
  obtain ⟨cl69, Ar69, qq69, Sz69, Nn69, Hs69, Gg69⟩ := id Vw65
  have hin69_96 : ¬ ((13 : Int32) < 0 ∨ cl69.slots.size ≤ ((13 : Int32)).toNatClampNeg) := inb_of Sz69 ⟨by decide, by decide⟩
  have f71 : Exa Z h65 w13 "com/example/gridloom/gridloom/mapping/ItemType" := (Exa.wr W65 (Exa.wr W60 (Exa.wr W55 (Exa.wr W50 (Exa.wr W45 (Exa.wr W40 (Exa.wr W35 (Exa.wr W30 (Exa.wr W25 (Exa.wr W20 (Exa.wr W15 (Exa.wr W10 (Exa.wr W5 (Exa.ext E1 E_w13))))))))))))))
  obtain ⟨T70, h70, X70, e70, W70, st70⟩ := stR X68 hx hZ e68 Ar69 (j := (13 : Int32)) hin69_96 rfl (Sto.ofV Ar69 qq69 O1 (Ins.self f71)) (g := (mkF m 96 #[.val (.int p1), .val (.int p2), .unset, .unset, .unset, .unset, .unset] [(.ref w13), (.int (13 : Int32)), (.ref b1), (.ref b1)])) rfl rfl (hb hby at_96)
  have N70 := Fr.snoc X70 N65 g_b1
  have Kc70 : Keep h0 h70 [] := Kc65.wr W70 (Or.inr sz_b1)
  have Vw70 : Arv Z h70 b1 k1 (.object "com/example/gridloom/gridloom/mapping/ItemType") (19 : Int32) [(.ref w0), (.ref w1), (.ref w2), (.ref w3), (.ref w4), (.ref w5), (.ref w6), (.ref w7), (.ref w8), (.ref w9), (.ref w10), (.ref w11), (.ref w12), (.ref w13), .null, .null, .null, .null, .null] .null := Arv.set Ar69 qq69 Sz69 Nn69 Hs69 Gg69 rfl W70 13 rfl (Nat.le_of_ble_eq_true rfl)
  have f72 : Sta Z h70 "com/example/gridloom/gridloom/mapping/ItemType" "NULL" "Lcom/example/gridloom/gridloom/mapping/ItemType;" (.ref w14) := (Sta.wr W70 (Sta.wr W65 (Sta.wr W60 (Sta.wr W55 (Sta.wr W50 (Sta.wr W45 (Sta.wr W40 (Sta.wr W35 (Sta.wr W30 (Sta.wr W25 (Sta.wr W20 (Sta.wr W15 (Sta.wr W10 (Sta.wr W5 (Sta.ext E1 S_NULL)))))))))))))))
  obtain ⟨T73, X73, e73, st73⟩ := getS2 X70 hx hZ hown (host := "") (Or.inl (hw _ (List.mem_of_getElem? (i := 32) rfl))) Via.refl e70 f72 (g := (mkF m 100 #[.val (.int p1), .val (.int p2), .unset, .unset, .unset, .unset, .unset] [(.int (14 : Int32)), (.ref b1), (.ref b1)])) rfl (hb hby at_100)
  obtain ⟨cl74, Ar74, qq74, Sz74, Nn74, Hs74, Gg74⟩ := id Vw70
  have hin74_103 : ¬ ((14 : Int32) < 0 ∨ cl74.slots.size ≤ ((14 : Int32)).toNatClampNeg) := inb_of Sz74 ⟨by decide, by decide⟩
  have f76 : Exa Z h70 w14 "com/example/gridloom/gridloom/mapping/ItemType" := (Exa.wr W70 (Exa.wr W65 (Exa.wr W60 (Exa.wr W55 (Exa.wr W50 (Exa.wr W45 (Exa.wr W40 (Exa.wr W35 (Exa.wr W30 (Exa.wr W25 (Exa.wr W20 (Exa.wr W15 (Exa.wr W10 (Exa.wr W5 (Exa.ext E1 E_w14)))))))))))))))
  obtain ⟨T75, h75, X75, e75, W75, st75⟩ := stR X73 hx hZ e73 Ar74 (j := (14 : Int32)) hin74_103 rfl (Sto.ofV Ar74 qq74 O1 (Ins.self f76)) (g := (mkF m 103 #[.val (.int p1), .val (.int p2), .unset, .unset, .unset, .unset, .unset] [(.ref w14), (.int (14 : Int32)), (.ref b1), (.ref b1)])) rfl rfl (hb hby at_103)
  have N75 := Fr.snoc X75 N70 g_b1
  have Kc75 : Keep h0 h75 [] := Kc70.wr W75 (Or.inr sz_b1)
  have Vw75 : Arv Z h75 b1 k1 (.object "com/example/gridloom/gridloom/mapping/ItemType") (19 : Int32) [(.ref w0), (.ref w1), (.ref w2), (.ref w3), (.ref w4), (.ref w5), (.ref w6), (.ref w7), (.ref w8), (.ref w9), (.ref w10), (.ref w11), (.ref w12), (.ref w13), (.ref w14), .null, .null, .null, .null] .null := Arv.set Ar74 qq74 Sz74 Nn74 Hs74 Gg74 rfl W75 14 rfl (Nat.le_of_ble_eq_true rfl)
  have f77 : Sta Z h75 "com/example/gridloom/gridloom/mapping/ItemType" "JSON_ITEM" "Lcom/example/gridloom/gridloom/mapping/ItemType;" (.ref w15) := (Sta.wr W75 (Sta.wr W70 (Sta.wr W65 (Sta.wr W60 (Sta.wr W55 (Sta.wr W50 (Sta.wr W45 (Sta.wr W40 (Sta.wr W35 (Sta.wr W30 (Sta.wr W25 (Sta.wr W20 (Sta.wr W15 (Sta.wr W10 (Sta.wr W5 (Sta.ext E1 S_JSON_ITEM))))))))))))))))
  obtain ⟨T78, X78, e78, st78⟩ := getS2 X75 hx hZ hown (host := "") (Or.inl (hw _ (List.mem_of_getElem? (i := 34) rfl))) Via.refl e75 f77 (g := (mkF m 107 #[.val (.int p1), .val (.int p2), .unset, .unset, .unset, .unset, .unset] [(.int (15 : Int32)), (.ref b1), (.ref b1)])) rfl (hb hby at_107)
  obtain ⟨cl79, Ar79, qq79, Sz79, Nn79, Hs79, Gg79⟩ := id Vw75
  have hin79_110 : ¬ ((15 : Int32) < 0 ∨ cl79.slots.size ≤ ((15 : Int32)).toNatClampNeg) := inb_of Sz79 ⟨by decide, by decide⟩
  have f81 : Exa Z h75 w15 "com/example/gridloom/gridloom/mapping/ItemType" := (Exa.wr W75 (Exa.wr W70 (Exa.wr W65 (Exa.wr W60 (Exa.wr W55 (Exa.wr W50 (Exa.wr W45 (Exa.wr W40 (Exa.wr W35 (Exa.wr W30 (Exa.wr W25 (Exa.wr W20 (Exa.wr W15 (Exa.wr W10 (Exa.wr W5 (Exa.ext E1 E_w15))))))))))))))))
  obtain ⟨T80, h80, X80, e80, W80, st80⟩ := stR X78 hx hZ e78 Ar79 (j := (15 : Int32)) hin79_110 rfl (Sto.ofV Ar79 qq79 O1 (Ins.self f81)) (g := (mkF m 110 #[.val (.int p1), .val (.int p2), .unset, .unset, .unset, .unset, .unset] [(.ref w15), (.int (15 : Int32)), (.ref b1), (.ref b1)])) rfl rfl (hb hby at_110)
  have N80 := Fr.snoc X80 N75 g_b1
  have Kc80 : Keep h0 h80 [] := Kc75.wr W80 (Or.inr sz_b1)
  have Vw80 : Arv Z h80 b1 k1 (.object "com/example/gridloom/gridloom/mapping/ItemType") (19 : Int32) [(.ref w0), (.ref w1), (.ref w2), (.ref w3), (.ref w4), (.ref w5), (.ref w6), (.ref w7), (.ref w8), (.ref w9), (.ref w10), (.ref w11), (.ref w12), (.ref w13), (.ref w14), (.ref w15), .null, .null, .null] .null := Arv.set Ar79 qq79 Sz79 Nn79 Hs79 Gg79 rfl W80 15 rfl (Nat.le_of_ble_eq_true rfl)
  have f82 : Sta Z h80 "com/example/gridloom/gridloom/mapping/ItemType" "OBJECT" "Lcom/example/gridloom/gridloom/mapping/ItemType;" (.ref w16) := (Sta.wr W80 (Sta.wr W75 (Sta.wr W70 (Sta.wr W65 (Sta.wr W60 (Sta.wr W55 (Sta.wr W50 (Sta.wr W45 (Sta.wr W40 (Sta.wr W35 (Sta.wr W30 (Sta.wr W25 (Sta.wr W20 (Sta.wr W15 (Sta.wr W10 (Sta.wr W5 (Sta.ext E1 S_OBJECT)))))))))))))))))
  obtain ⟨T83, X83, e83, st83⟩ := getS2 X80 hx hZ hown (host := "") (Or.inl (hw _ (List.mem_of_getElem? (i := 36) rfl))) Via.refl e80 f82 (g := (mkF m 114 #[.val (.int p1), .val (.int p2), .unset, .unset, .unset, .unset, .unset] [(.int (16 : Int32)), (.ref b1), (.ref b1)])) rfl (hb hby at_114)
  obtain ⟨cl84, Ar84, qq84, Sz84, Nn84, Hs84, Gg84⟩ := id Vw80
  have hin84_117 : ¬ ((16 : Int32) < 0 ∨ cl84.slots.size ≤ ((16 : Int32)).toNatClampNeg) := inb_of Sz84 ⟨by decide, by decide⟩
  have f86 : Exa Z h80 w16 "com/example/gridloom/gridloom/mapping/ItemType" := (Exa.wr W80 (Exa.wr W75 (Exa.wr W70 (Exa.wr W65 (Exa.wr W60 (Exa.wr W55 (Exa.wr W50 (Exa.wr W45 (Exa.wr W40 (Exa.wr W35 (Exa.wr W30 (Exa.wr W25 (Exa.wr W20 (Exa.wr W15 (Exa.wr W10 (Exa.wr W5 (Exa.ext E1 E_w16)))))))))))))))))
  obtain ⟨T85, h85, X85, e85, W85, st85⟩ := stR X83 hx hZ e83 Ar84 (j := (16 : Int32)) hin84_117 rfl (Sto.ofV Ar84 qq84 O1 (Ins.self f86)) (g := (mkF m 117 #[.val (.int p1), .val (.int p2), .unset, .unset, .unset, .unset, .unset] [(.ref w16), (.int (16 : Int32)), (.ref b1), (.ref b1)])) rfl rfl (hb hby at_117)
  have N85 := Fr.snoc X85 N80 g_b1
  have Kc85 : Keep h0 h85 [] := Kc80.wr W85 (Or.inr sz_b1)
  have Vw85 : Arv Z h85 b1 k1 (.object "com/example/gridloom/gridloom/mapping/ItemType") (19 : Int32) [(.ref w0), (.ref w1), (.ref w2), (.ref w3), (.ref w4), (.ref w5), (.ref w6), (.ref w7), (.ref w8), (.ref w9), (.ref w10), (.ref w11), (.ref w12), (.ref w13), (.ref w14), (.ref w15), (.ref w16), .null, .null] .null := Arv.set Ar84 qq84 Sz84 Nn84 Hs84 Gg84 rfl W85 16 rfl (Nat.le_of_ble_eq_true rfl)
  have f87 : Sta Z h85 "com/example/gridloom/gridloom/mapping/ItemType" "ARRAY" "Lcom/example/gridloom/gridloom/mapping/ItemType;" (.ref w17) := (Sta.wr W85 (Sta.wr W80 (Sta.wr W75 (Sta.wr W70 (Sta.wr W65 (Sta.wr W60 (Sta.wr W55 (Sta.wr W50 (Sta.wr W45 (Sta.wr W40 (Sta.wr W35 (Sta.wr W30 (Sta.wr W25 (Sta.wr W20 (Sta.wr W15 (Sta.wr W10 (Sta.wr W5 (Sta.ext E1 S_ARRAY))))))))))))))))))
  obtain ⟨T88, X88, e88, st88⟩ := getS2 X85 hx hZ hown (host := "") (Or.inl (hw _ (List.mem_of_getElem? (i := 38) rfl))) Via.refl e85 f87 (g := (mkF m 121 #[.val (.int p1), .val (.int p2), .unset, .unset, .unset, .unset, .unset] [(.int (17 : Int32)), (.ref b1), (.ref b1)])) rfl (hb hby at_121)
  obtain ⟨cl89, Ar89, qq89, Sz89, Nn89, Hs89, Gg89⟩ := id Vw85
  have hin89_124 : ¬ ((17 : Int32) < 0 ∨ cl89.slots.size ≤ ((17 : Int32)).toNatClampNeg) := inb_of Sz89 ⟨by decide, by decide⟩
  have f91 : Exa Z h85 w17 "com/example/gridloom/gridloom/mapping/ItemType" := (Exa.wr W85 (Exa.wr W80 (Exa.wr W75 (Exa.wr W70 (Exa.wr W65 (Exa.wr W60 (Exa.wr W55 (Exa.wr W50 (Exa.wr W45 (Exa.wr W40 (Exa.wr W35 (Exa.wr W30 (Exa.wr W25 (Exa.wr W20 (Exa.wr W15 (Exa.wr W10 (Exa.wr W5 (Exa.ext E1 E_w17))))))))))))))))))
  obtain ⟨T90, h90, X90, e90, W90, st90⟩ := stR X88 hx hZ e88 Ar89 (j := (17 : Int32)) hin89_124 rfl (Sto.ofV Ar89 qq89 O1 (Ins.self f91)) (g := (mkF m 124 #[.val (.int p1), .val (.int p2), .unset, .unset, .unset, .unset, .unset] [(.ref w17), (.int (17 : Int32)), (.ref b1), (.ref b1)])) rfl rfl (hb hby at_124)
  have N90 := Fr.snoc X90 N85 g_b1
  have Kc90 : Keep h0 h90 [] := Kc85.wr W90 (Or.inr sz_b1)
  have Vw90 : Arv Z h90 b1 k1 (.object "com/example/gridloom/gridloom/mapping/ItemType") (19 : Int32) [(.ref w0), (.ref w1), (.ref w2), (.ref w3), (.ref w4), (.ref w5), (.ref w6), (.ref w7), (.ref w8), (.ref w9), (.ref w10), (.ref w11), (.ref w12), (.ref w13), (.ref w14), (.ref w15), (.ref w16), (.ref w17), .null] .null := Arv.set Ar89 qq89 Sz89 Nn89 Hs89 Gg89 rfl W90 17 rfl (Nat.le_of_ble_eq_true rfl)
  have f92 : Sta Z h90 "com/example/gridloom/gridloom/mapping/ItemType" "FUNCTION" "Lcom/example/gridloom/gridloom/mapping/ItemType;" (.ref w18) := (Sta.wr W90 (Sta.wr W85 (Sta.wr W80 (Sta.wr W75 (Sta.wr W70 (Sta.wr W65 (Sta.wr W60 (Sta.wr W55 (Sta.wr W50 (Sta.wr W45 (Sta.wr W40 (Sta.wr W35 (Sta.wr W30 (Sta.wr W25 (Sta.wr W20 (Sta.wr W15 (Sta.wr W10 (Sta.wr W5 (Sta.ext E1 S_FUNCTION)))))))))))))))))))
  obtain ⟨T93, X93, e93, st93⟩ := getS2 X90 hx hZ hown (host := "") (Or.inl (hw _ (List.mem_of_getElem? (i := 40) rfl))) Via.refl e90 f92 (g := (mkF m 128 #[.val (.int p1), .val (.int p2), .unset, .unset, .unset, .unset, .unset] [(.int (18 : Int32)), (.ref b1), (.ref b1)])) rfl (hb hby at_128)
  obtain ⟨cl94, Ar94, qq94, Sz94, Nn94, Hs94, Gg94⟩ := id Vw90
  have hin94_131 : ¬ ((18 : Int32) < 0 ∨ cl94.slots.size ≤ ((18 : Int32)).toNatClampNeg) := inb_of Sz94 ⟨by decide, by decide⟩
  have f96 : Exa Z h90 w18 "com/example/gridloom/gridloom/mapping/ItemType" := (Exa.wr W90 (Exa.wr W85 (Exa.wr W80 (Exa.wr W75 (Exa.wr W70 (Exa.wr W65 (Exa.wr W60 (Exa.wr W55 (Exa.wr W50 (Exa.wr W45 (Exa.wr W40 (Exa.wr W35 (Exa.wr W30 (Exa.wr W25 (Exa.wr W20 (Exa.wr W15 (Exa.wr W10 (Exa.wr W5 (Exa.ext E1 E_w18)))))))))))))))))))
  obtain ⟨T95, h95, X95, e95, W95, st95⟩ := stR X93 hx hZ e93 Ar94 (j := (18 : Int32)) hin94_131 rfl (Sto.ofV Ar94 qq94 O1 (Ins.self f96)) (g := (mkF m 131 #[.val (.int p1), .val (.int p2), .unset, .unset, .unset, .unset, .unset] [(.ref w18), (.int (18 : Int32)), (.ref b1), (.ref b1)])) rfl rfl (hb hby at_131)
  have N95 := Fr.snoc X95 N90 g_b1
  have Kc95 : Keep h0 h95 [] := Kc90.wr W95 (Or.inr sz_b1)
  have Vw95 : Arv Z h95 b1 k1 (.object "com/example/gridloom/gridloom/mapping/ItemType") (19 : Int32) [(.ref w0), (.ref w1), (.ref w2), (.ref w3), (.ref w4), (.ref w5), (.ref w6), (.ref w7), (.ref w8), (.ref w9), (.ref w10), (.ref w11), (.ref w12), (.ref w13), (.ref w14), (.ref w15), (.ref w16), (.ref w17), (.ref w18)] .null := Arv.set Ar94 qq94 Sz94 Nn94 Hs94 Gg94 rfl W95 18 rfl (Nat.le_of_ble_eq_true rfl)
  obtain ⟨T97, h97, k97, X97, e97, E97, A97, st97⟩ := newP X95 hx hZ (hw _ (List.mem_of_getElem? (i := 42) rfl)) e95 (g := (mkF m 135 #[.val (.int p1), .val (.int p2), .val (.ref b1), .unset, .unset, .unset, .unset] [(.int (19 : Int32))])) rfl (hb hby at_135) rfl (by decide) (cap := 19) (by decide) (by decide) (by decide) (by decide)
  obtain ⟨b97, g97⟩ : ∃ z, z = h95.size := ⟨_, rfl⟩
  rw [← g97] at A97 st97
  have ne_b1_b97 : b1 ≠ b97 := Nat.ne_of_lt (Nat.lt_of_lt_of_le Vw95.lt (Nat.le_of_eq g97.symm))
  have sz_b97 : h0.size ≤ b97 := Nat.le_trans Kc95.1 (Nat.le_of_eq g97.symm)
  have g_b97 : n0 ≤ b97 := Nat.le_trans Z0 sz_b97
  have Kc97 : Keep h0 h97 [] := Kc95.ext E97
  have V_b97 : Arv Z h97 b97 k97 .int (19 : Int32) [(.int (0 : Int32)), (.int (0 : Int32)), (.int (0 : Int32)), (.int (0 : Int32)), (.int (0 : Int32)), (.int (0 : Int32)), (.int (0 : Int32)), (.int (0 : Int32)), (.int (0 : Int32)), (.int (0 : Int32)), (.int (0 : Int32)), (.int (0 : Int32)), (.int (0 : Int32)), (.int (0 : Int32)), (.int (0 : Int32)), (.int (0 : Int32)), (.int (0 : Int32)), (.int (0 : Int32)), (.int (0 : Int32))] (.int (0 : Int32)) := (Arv.new A97 (by decide)).pad (pad_rep [] (.int (0 : Int32)) 19)
  obtain ⟨cl98, Ar98, qq98, Sz98, Nn98, Hs98, Gg98⟩ := id V_b97
  have hin98_140 : ¬ ((0 : Int32) < 0 ∨ cl98.slots.size ≤ ((0 : Int32)).toNatClampNeg) := inb_of Sz98 ⟨by decide, by decide⟩
  obtain ⟨T99, h99, X99, e99, W99, st99⟩ := stI X97 hx hZ e97 Ar98 (j := (0 : Int32)) hin98_140 (g := (mkF m 140 #[.val (.int p1), .val (.int p2), .val (.ref b1), .unset, .unset, .unset, .unset] [(.int (1 : Int32)), (.int (0 : Int32)), (.ref b97), (.ref b97)])) rfl rfl (hb hby at_140)
  have N99 := Fr.snoc X99 N95 g_b97
  have Kc99 : Keep h0 h99 [] := Kc97.wr W99 (Or.inr sz_b97)
  have Vw99 : Arv Z h99 b97 k97 .int (19 : Int32) [(.int (1 : Int32)), (.int (0 : Int32)), (.int (0 : Int32)), (.int (0 : Int32)), (.int (0 : Int32)), (.int (0 : Int32)), (.int (0 : Int32)), (.int (0 : Int32)), (.int (0 : Int32)), (.int (0 : Int32)), (.int (0 : Int32)), (.int (0 : Int32)), (.int (0 : Int32)), (.int (0 : Int32)), (.int (0 : Int32)), (.int (0 : Int32)), (.int (0 : Int32)), (.int (0 : Int32)), (.int (0 : Int32))] (.int (0 : Int32)) := Arv.set Ar98 qq98 Sz98 Nn98 Hs98 Gg98 rfl W99 0 rfl (Nat.le_of_ble_eq_true rfl)
  obtain ⟨cl100, Ar100, qq100, Sz100, Nn100, Hs100, Gg100⟩ := id Vw99
  have hin100_144 : ¬ ((1 : Int32) < 0 ∨ cl100.slots.size ≤ ((1 : Int32)).toNatClampNeg) := inb_of Sz100 ⟨by decide, by decide⟩
  obtain ⟨T101, h101, X101, e101, W101, st101⟩ := stI X99 hx hZ e99 Ar100 (j := (1 : Int32)) hin100_144 (g := (mkF m 144 #[.val (.int p1), .val (.int p2), .val (.ref b1), .unset, .unset, .unset, .unset] [(.int (3 : Int32)), (.int (1 : Int32)), (.ref b97), (.ref b97)])) rfl rfl (hb hby at_144)
  have N101 := Fr.snoc X101 N99 g_b97
  have Kc101 : Keep h0 h101 [] := Kc99.wr W101 (Or.inr sz_b97)
  have Vw101 : Arv Z h101 b97 k97 .int (19 : Int32) [(.int (1 : Int32)), (.int (3 : Int32)), (.int (0 : Int32)), (.int (0 : Int32)), (.int (0 : Int32)), (.int (0 : Int32)), (.int (0 : Int32)), (.int (0 : Int32)), (.int (0 : Int32)), (.int (0 : Int32)), (.int (0 : Int32)), (.int (0 : Int32)), (.int (0 : Int32)), (.int (0 : Int32)), (.int (0 : Int32)), (.int (0 : Int32)), (.int (0 : Int32)), (.int (0 : Int32)), (.int (0 : Int32))] (.int (0 : Int32)) := Arv.set Ar100 qq100 Sz100 Nn100 Hs100 Gg100 rfl W101 1 rfl (Nat.le_of_ble_eq_true rfl)
  obtain ⟨cl102, Ar102, qq102, Sz102, Nn102, Hs102, Gg102⟩ := id Vw101
  have hin102_149 : ¬ ((2 : Int32) < 0 ∨ cl102.slots.size ≤ ((2 : Int32)).toNatClampNeg) := inb_of Sz102 ⟨by decide, by decide⟩
  obtain ⟨T103, h103, X103, e103, W103, st103⟩ := stI X101 hx hZ e101 Ar102 (j := (2 : Int32)) hin102_149 (g := (mkF m 149 #[.val (.int p1), .val (.int p2), .val (.ref b1), .unset, .unset, .unset, .unset] [(.int (7 : Int32)), (.int (2 : Int32)), (.ref b97), (.ref b97)])) rfl rfl (hb hby at_149)
  have N103 := Fr.snoc X103 N101 g_b97
  have Kc103 : Keep h0 h103 [] := Kc101.wr W103 (Or.inr sz_b97)
  have Vw103 : Arv Z h103 b97 k97 .int (19 : Int32) [(.int (1 : Int32)), (.int (3 : Int32)), (.int (7 : Int32)), (.int (0 : Int32)), (.int (0 : Int32)), (.int (0 : Int32)), (.int (0 : Int32)), (.int (0 : Int32)), (.int (0 : Int32)), (.int (0 : Int32)), (.int (0 : Int32)), (.int (0 : Int32)), (.int (0 : Int32)), (.int (0 : Int32)), (.int (0 : Int32)), (.int (0 : Int32)), (.int (0 : Int32)), (.int (0 : Int32)), (.int (0 : Int32))] (.int (0 : Int32)) := Arv.set Ar102 qq102 Sz102 Nn102 Hs102 Gg102 rfl W103 2 rfl (Nat.le_of_ble_eq_true rfl)
  obtain ⟨cl104, Ar104, qq104, Sz104, Nn104, Hs104, Gg104⟩ := id Vw103
  have hin104_154 : ¬ ((3 : Int32) < 0 ∨ cl104.slots.size ≤ ((3 : Int32)).toNatClampNeg) := inb_of Sz104 ⟨by decide, by decide⟩
  obtain ⟨T105, h105, X105, e105, W105, st105⟩ := stI X103 hx hZ e103 Ar104 (j := (3 : Int32)) hin104_154 (g := (mkF m 154 #[.val (.int p1), .val (.int p2), .val (.ref b1), .unset, .unset, .unset, .unset] [(.int (11 : Int32)), (.int (3 : Int32)), (.ref b97), (.ref b97)])) rfl rfl (hb hby at_154)
  have N105 := Fr.snoc X105 N103 g_b97
  have Kc105 : Keep h0 h105 [] := Kc103.wr W105 (Or.inr sz_b97)
  have Vw105 : Arv Z h105 b97 k97 .int (19 : Int32) [(.int (1 : Int32)), (.int (3 : Int32)), (.int (7 : Int32)), (.int (11 : Int32)), (.int (0 : Int32)), (.int (0 : Int32)), (.int (0 : Int32)), (.int (0 : Int32)), (.int (0 : Int32)), (.int (0 : Int32)), (.int (0 : Int32)), (.int (0 : Int32)), (.int (0 : Int32)), (.int (0 : Int32)), (.int (0 : Int32)), (.int (0 : Int32)), (.int (0 : Int32)), (.int (0 : Int32)), (.int (0 : Int32))] (.int (0 : Int32)) := Arv.set Ar104 qq104 Sz104 Nn104 Hs104 Gg104 rfl W105 3 rfl (Nat.le_of_ble_eq_true rfl)
  obtain ⟨cl106, Ar106, qq106, Sz106, Nn106, Hs106, Gg106⟩ := id Vw105
  have hin106_159 : ¬ ((4 : Int32) < 0 ∨ cl106.slots.size ≤ ((4 : Int32)).toNatClampNeg) := inb_of Sz106 ⟨by decide, by decide⟩
  obtain ⟨T107, h107, X107, e107, W107, st107⟩ := stI X105 hx hZ e105 Ar106 (j := (4 : Int32)) hin106_159 (g := (mkF m 159 #[.val (.int p1), .val (.int p2), .val (.ref b1), .unset, .unset, .unset, .unset] [(.int (27 : Int32)), (.int (4 : Int32)), (.ref b97), (.ref b97)])) rfl rfl (hb hby at_159)
  have N107 := Fr.snoc X107 N105 g_b97
  have Kc107 : Keep h0 h107 [] := Kc105.wr W107 (Or.inr sz_b97)
  have Vw107 : Arv Z h107 b97 k97 .int (19 : Int32) [(.int (1 : Int32)), (.int (3 : Int32)), (.int (7 : Int32)), (.int (11 : Int32)), (.int (27 : Int32)), (.int (0 : Int32)), (.int (0 : Int32)), (.int (0 : Int32)), (.int (0 : Int32)), (.int (0 : Int32)), (.int (0 : Int32)), (.int (0 : Int32)), (.int (0 : Int32)), (.int (0 : Int32)), (.int (0 : Int32)), (.int (0 : Int32)), (.int (0 : Int32)), (.int (0 : Int32)), (.int (0 : Int32))] (.int (0 : Int32)) := Arv.set Ar106 qq106 Sz106 Nn106 Hs106 Gg106 rfl W107 4 rfl (Nat.le_of_ble_eq_true rfl)
  obtain ⟨cl108, Ar108, qq108, Sz108, Nn108, Hs108, Gg108⟩ := id Vw107
  have hin108_164 : ¬ ((5 : Int32) < 0 ∨ cl108.slots.size ≤ ((5 : Int32)).toNatClampNeg) := inb_of Sz108 ⟨by decide, by decide⟩
  obtain ⟨T109, h109, X109, e109, W109, st109⟩ := stI X107 hx hZ e107 Ar108 (j := (5 : Int32)) hin108_164 (g := (mkF m 164 #[.val (.int p1), .val (.int p2), .val (.ref b1), .unset, .unset, .unset, .unset] [(.int (59 : Int32)), (.int (5 : Int32)), (.ref b97), (.ref b97)])) rfl rfl (hb hby at_164)
  have N109 := Fr.snoc X109 N107 g_b97
  have Kc109 : Keep h0 h109 [] := Kc107.wr W109 (Or.inr sz_b97)
  have Vw109 : Arv Z h109 b97 k97 .int (19 : Int32) [(.int (1 : Int32)), (.int (3 : Int32)), (.int (7 : Int32)), (.int (11 : Int32)), (.int (27 : Int32)), (.int (59 : Int32)), (.int (0 : Int32)), (.int (0 : Int32)), (.int (0 : Int32)), (.int (0 : Int32)), (.int (0 : Int32)), (.int (0 : Int32)), (.int (0 : Int32)), (.int (0 : Int32)), (.int (0 : Int32)), (.int (0 : Int32)), (.int (0 : Int32)), (.int (0 : Int32)), (.int (0 : Int32))] (.int (0 : Int32)) := Arv.set Ar108 qq108 Sz108 Nn108 Hs108 Gg108 rfl W109 5 rfl (Nat.le_of_ble_eq_true rfl)
  obtain ⟨cl110, Ar110, qq110, Sz110, Nn110, Hs110, Gg110⟩ := id Vw109
  have hin110_170 : ¬ ((6 : Int32) < 0 ∨ cl110.slots.size ≤ ((6 : Int32)).toNatClampNeg) := inb_of Sz110 ⟨by decide, by decide⟩
  obtain ⟨T111, h111, X111, e111, W111, st111⟩ := stI X109 hx hZ e109 Ar110 (j := (6 : Int32)) hin110_170 (g := (mkF m 170 #[.val (.int p1), .val (.int p2), .val (.ref b1), .unset, .unset, .unset, .unset] [(.int (75 : Int32)), (.int (6 : Int32)), (.ref b97), (.ref b97)])) rfl rfl (hb hby at_170)
  have N111 := Fr.snoc X111 N109 g_b97
  have Kc111 : Keep h0 h111 [] := Kc109.wr W111 (Or.inr sz_b97)
  have Vw111 : Arv Z h111 b97 k97 .int (19 : Int32) [(.int (1 : Int32)), (.int (3 : Int32)), (.int (7 : Int32)), (.int (11 : Int32)), (.int (27 : Int32)), (.int (59 : Int32)), (.int (75 : Int32)), (.int (0 : Int32)), (.int (0 : Int32)), (.int (0 : Int32)), (.int (0 : Int32)), (.int (0 : Int32)), (.int (0 : Int32)), (.int (0 : Int32)), (.int (0 : Int32)), (.int (0 : Int32)), (.int (0 : Int32)), (.int (0 : Int32)), (.int (0 : Int32))] (.int (0 : Int32)) := Arv.set Ar110 qq110 Sz110 Nn110 Hs110 Gg110 rfl W111 6 rfl (Nat.le_of_ble_eq_true rfl)
  obtain ⟨cl112, Ar112, qq112, Sz112, Nn112, Hs112, Gg112⟩ := id Vw111
  have hin112_177 : ¬ ((7 : Int32) < 0 ∨ cl112.slots.size ≤ ((7 : Int32)).toNatClampNeg) := inb_of Sz112 ⟨by decide, by decide⟩
  obtain ⟨T113, h113, X113, e113, W113, st113⟩ := stI X111 hx hZ e111 Ar112 (j := (7 : Int32)) hin112_177 (g := (mkF m 177 #[.val (.int p1), .val (.int p2), .val (.ref b1), .unset, .unset, .unset, .unset] [(.int (131 : Int32)), (.int (7 : Int32)), (.ref b97), (.ref b97)])) rfl rfl (hb hby at_177)
  have N113 := Fr.snoc X113 N111 g_b97
  have Kc113 : Keep h0 h113 [] := Kc111.wr W113 (Or.inr sz_b97)
  have Vw113 : Arv Z h113 b97 k97 .int (19 : Int32) [(.int (1 : Int32)), (.int (3 : Int32)), (.int (7 : Int32)), (.int (11 : Int32)), (.int (27 : Int32)), (.int (59 : Int32)), (.int (75 : Int32)), (.int (131 : Int32)), (.int (0 : Int32)), (.int (0 : Int32)), (.int (0 : Int32)), (.int (0 : Int32)), (.int (0 : Int32)), (.int (0 : Int32)), (.int (0 : Int32)), (.int (0 : Int32)), (.int (0 : Int32)), (.int (0 : Int32)), (.int (0 : Int32))] (.int (0 : Int32)) := Arv.set Ar112 qq112 Sz112 Nn112 Hs112 Gg112 rfl W113 7 rfl (Nat.le_of_ble_eq_true rfl)
  obtain ⟨cl114, Ar114, qq114, Sz114, Nn114, Hs114, Gg114⟩ := id Vw113
  have hin114_184 : ¬ ((8 : Int32) < 0 ∨ cl114.slots.size ≤ ((8 : Int32)).toNatClampNeg) := inb_of Sz114 ⟨by decide, by decide⟩
  obtain ⟨T115, h115, X115, e115, W115, st115⟩ := stI X113 hx hZ e113 Ar114 (j := (8 : Int32)) hin114_184 (g := (mkF m 184 #[.val (.int p1), .val (.int p2), .val (.ref b1), .unset, .unset, .unset, .unset] [(.int (259 : Int32)), (.int (8 : Int32)), (.ref b97), (.ref b97)])) rfl rfl (hb hby at_184)
  have N115 := Fr.snoc X115 N113 g_b97
  have Kc115 : Keep h0 h115 [] := Kc113.wr W115 (Or.inr sz_b97)
  have Vw115 : Arv Z h115 b97 k97 .int (19 : Int32) [(.int (1 : Int32)), (.int (3 : Int32)), (.int (7 : Int32)), (.int (11 : Int32)), (.int (27 : Int32)), (.int (59 : Int32)), (.int (75 : Int32)), (.int (131 : Int32)), (.int (259 : Int32)), (.int (0 : Int32)), (.int (0 : Int32)), (.int (0 : Int32)), (.int (0 : Int32)), (.int (0 : Int32)), (.int (0 : Int32)), (.int (0 : Int32)), (.int (0 : Int32)), (.int (0 : Int32)), (.int (0 : Int32))] (.int (0 : Int32)) := Arv.set Ar114 qq114 Sz114 Nn114 Hs114 Gg114 rfl W115 8 rfl (Nat.le_of_ble_eq_true rfl)
  obtain ⟨cl116, Ar116, qq116, Sz116, Nn116, Hs116, Gg116⟩ := id Vw115
  have hin116_191 : ¬ ((9 : Int32) < 0 ∨ cl116.slots.size ≤ ((9 : Int32)).toNatClampNeg) := inb_of Sz116 ⟨by decide, by decide⟩
  obtain ⟨T117, h117, X117, e117, W117, st117⟩ := stI X115 hx hZ e115 Ar116 (j := (9 : Int32)) hin116_191 (g := (mkF m 191 #[.val (.int p1), .val (.int p2), .val (.ref b1), .unset, .unset, .unset, .unset] [(.int (515 : Int32)), (.int (9 : Int32)), (.ref b97), (.ref b97)])) rfl rfl (hb hby at_191)
  have N117 := Fr.snoc X117 N115 g_b97
  have Kc117 : Keep h0 h117 [] := Kc115.wr W117 (Or.inr sz_b97)
  have Vw117 : Arv Z h117 b97 k97 .int (19 : Int32) [(.int (1 : Int32)), (.int (3 : Int32)), (.int (7 : Int32)), (.int (11 : Int32)), (.int (27 : Int32)), (.int (59 : Int32)), (.int (75 : Int32)), (.int (131 : Int32)), (.int (259 : Int32)), (.int (515 : Int32)), (.int (0 : Int32)), (.int (0 : Int32)), (.int (0 : Int32)), (.int (0 : Int32)), (.int (0 : Int32)), (.int (0 : Int32)), (.int (0 : Int32)), (.int (0 : Int32)), (.int (0 : Int32))] (.int (0 : Int32)) := Arv.set Ar116 qq116 Sz116 Nn116 Hs116 Gg116 rfl W117 9 rfl (Nat.le_of_ble_eq_true rfl)
  obtain ⟨cl118, Ar118, qq118, Sz118, Nn118, Hs118, Gg118⟩ := id Vw117
  have hin118_198 : ¬ ((10 : Int32) < 0 ∨ cl118.slots.size ≤ ((10 : Int32)).toNatClampNeg) := inb_of Sz118 ⟨by decide, by decide⟩
  obtain ⟨T119, h119, X119, e119, W119, st119⟩ := stI X117 hx hZ e117 Ar118 (j := (10 : Int32)) hin118_198 (g := (mkF m 198 #[.val (.int p1), .val (.int p2), .val (.ref b1), .unset, .unset, .unset, .unset] [(.int (1027 : Int32)), (.int (10 : Int32)), (.ref b97), (.ref b97)])) rfl rfl (hb hby at_198)
  have N119 := Fr.snoc X119 N117 g_b97
  have Kc119 : Keep h0 h119 [] := Kc117.wr W119 (Or.inr sz_b97)
  have Vw119 : Arv Z h119 b97 k97 .int (19 : Int32) [(.int (1 : Int32)), (.int (3 : Int32)), (.int (7 : Int32)), (.int (11 : Int32)), (.int (27 : Int32)), (.int (59 : Int32)), (.int (75 : Int32)), (.int (131 : Int32)), (.int (259 : Int32)), (.int (515 : Int32)), (.int (1027 : Int32)), (.int (0 : Int32)), (.int (0 : Int32)), (.int (0 : Int32)), (.int (0 : Int32)), (.int (0 : Int32)), (.int (0 : Int32)), (.int (0 : Int32)), (.int (0 : Int32))] (.int (0 : Int32)) := Arv.set Ar118 qq118 Sz118 Nn118 Hs118 Gg118 rfl W119 10 rfl (Nat.le_of_ble_eq_true rfl)
  obtain ⟨cl120, Ar120, qq120, Sz120, Nn120, Hs120, Gg120⟩ := id Vw119
  have hin120_205 : ¬ ((11 : Int32) < 0 ∨ cl120.slots.size ≤ ((11 : Int32)).toNatClampNeg) := inb_of Sz120 ⟨by decide, by decide⟩
  obtain ⟨T121, h121, X121, e121, W121, st121⟩ := stI X119 hx hZ e119 Ar120 (j := (11 : Int32)) hin120_205 (g := (mkF m 205 #[.val (.int p1), .val (.int p2), .val (.ref b1), .unset, .unset, .unset, .unset] [(.int (2051 : Int32)), (.int (11 : Int32)), (.ref b97), (.ref b97)])) rfl rfl (hb hby at_205)
  have N121 := Fr.snoc X121 N119 g_b97
  have Kc121 : Keep h0 h121 [] := Kc119.wr W121 (Or.inr sz_b97)
  have Vw121 : Arv Z h121 b97 k97 .int (19 : Int32) [(.int (1 : Int32)), (.int (3 : Int32)), (.int (7 : Int32)), (.int (11 : Int32)), (.int (27 : Int32)), (.int (59 : Int32)), (.int (75 : Int32)), (.int (131 : Int32)), (.int (259 : Int32)), (.int (515 : Int32)), (.int (1027 : Int32)), (.int (2051 : Int32)), (.int (0 : Int32)), (.int (0 : Int32)), (.int (0 : Int32)), (.int (0 : Int32)), (.int (0 : Int32)), (.int (0 : Int32)), (.int (0 : Int32))] (.int (0 : Int32)) := Arv.set Ar120 qq120 Sz120 Nn120 Hs120 Gg120 rfl W121 11 rfl (Nat.le_of_ble_eq_true rfl)
  obtain ⟨cl122, Ar122, qq122, Sz122, Nn122, Hs122, Gg122⟩ := id Vw121
  have hin122_212 : ¬ ((12 : Int32) < 0 ∨ cl122.slots.size ≤ ((12 : Int32)).toNatClampNeg) := inb_of Sz122 ⟨by decide, by decide⟩
  obtain ⟨T123, h123, X123, e123, W123, st123⟩ := stI X121 hx hZ e121 Ar122 (j := (12 : Int32)) hin122_212 (g := (mkF m 212 #[.val (.int p1), .val (.int p2), .val (.ref b1), .unset, .unset, .unset, .unset] [(.int (6147 : Int32)), (.int (12 : Int32)), (.ref b97), (.ref b97)])) rfl rfl (hb hby at_212)
  have N123 := Fr.snoc X123 N121 g_b97
  have Kc123 : Keep h0 h123 [] := Kc121.wr W123 (Or.inr sz_b97)
  have Vw123 : Arv Z h123 b97 k97 .int (19 : Int32) [(.int (1 : Int32)), (.int (3 : Int32)), (.int (7 : Int32)), (.int (11 : Int32)), (.int (27 : Int32)), (.int (59 : Int32)), (.int (75 : Int32)), (.int (131 : Int32)), (.int (259 : Int32)), (.int (515 : Int32)), (.int (1027 : Int32)), (.int (2051 : Int32)), (.int (6147 : Int32)), (.int (0 : Int32)), (.int (0 : Int32)), (.int (0 : Int32)), (.int (0 : Int32)), (.int (0 : Int32)), (.int (0 : Int32))] (.int (0 : Int32)) := Arv.set Ar122 qq122 Sz122 Nn122 Hs122 Gg122 rfl W123 12 rfl (Nat.le_of_ble_eq_true rfl)
  obtain ⟨cl124, Ar124, qq124, Sz124, Nn124, Hs124, Gg124⟩ := id Vw123
  have hin124_219 : ¬ ((13 : Int32) < 0 ∨ cl124.slots.size ≤ ((13 : Int32)).toNatClampNeg) := inb_of Sz124 ⟨by decide, by decide⟩
  obtain ⟨T125, h125, X125, e125, W125, st125⟩ := stI X123 hx hZ e123 Ar124 (j := (13 : Int32)) hin124_219 (g := (mkF m 219 #[.val (.int p1), .val (.int p2), .val (.ref b1), .unset, .unset, .unset, .unset] [(.int (10243 : Int32)), (.int (13 : Int32)), (.ref b97), (.ref b97)])) rfl rfl (hb hby at_219)
  have N125 := Fr.snoc X125 N123 g_b97
  have Kc125 : Keep h0 h125 [] := Kc123.wr W125 (Or.inr sz_b97)
  have Vw125 : Arv Z h125 b97 k97 .int (19 : Int32) [(.int (1 : Int32)), (.int (3 : Int32)), (.int (7 : Int32)), (.int (11 : Int32)), (.int (27 : Int32)), (.int (59 : Int32)), (.int (75 : Int32)), (.int (131 : Int32)), (.int (259 : Int32)), (.int (515 : Int32)), (.int (1027 : Int32)), (.int (2051 : Int32)), (.int (6147 : Int32)), (.int (10243 : Int32)), (.int (0 : Int32)), (.int (0 : Int32)), (.int (0 : Int32)), (.int (0 : Int32)), (.int (0 : Int32))] (.int (0 : Int32)) := Arv.set Ar124 qq124 Sz124 Nn124 Hs124 Gg124 rfl W125 13 rfl (Nat.le_of_ble_eq_true rfl)
  obtain ⟨cl126, Ar126, qq126, Sz126, Nn126, Hs126, Gg126⟩ := id Vw125
  have hin126_226 : ¬ ((14 : Int32) < 0 ∨ cl126.slots.size ≤ ((14 : Int32)).toNatClampNeg) := inb_of Sz126 ⟨by decide, by decide⟩
  obtain ⟨T127, h127, X127, e127, W127, st127⟩ := stI X125 hx hZ e125 Ar126 (j := (14 : Int32)) hin126_226 (g := (mkF m 226 #[.val (.int p1), .val (.int p2), .val (.ref b1), .unset, .unset, .unset, .unset] [(.int (16387 : Int32)), (.int (14 : Int32)), (.ref b97), (.ref b97)])) rfl rfl (hb hby at_226)
  have N127 := Fr.snoc X127 N125 g_b97
  have Kc127 : Keep h0 h127 [] := Kc125.wr W127 (Or.inr sz_b97)
  have Vw127 : Arv Z h127 b97 k97 .int (19 : Int32) [(.int (1 : Int32)), (.int (3 : Int32)), (.int (7 : Int32)), (.int (11 : Int32)), (.int (27 : Int32)), (.int (59 : Int32)), (.int (75 : Int32)), (.int (131 : Int32)), (.int (259 : Int32)), (.int (515 : Int32)), (.int (1027 : Int32)), (.int (2051 : Int32)), (.int (6147 : Int32)), (.int (10243 : Int32)), (.int (16387 : Int32)), (.int (0 : Int32)), (.int (0 : Int32)), (.int (0 : Int32)), (.int (0 : Int32))] (.int (0 : Int32)) := Arv.set Ar126 qq126 Sz126 Nn126 Hs126 Gg126 rfl W127 14 rfl (Nat.le_of_ble_eq_true rfl)
  obtain ⟨cl128, Ar128, qq128, Sz128, Nn128, Hs128, Gg128⟩ := id Vw127
  have hin128_232 : ¬ ((15 : Int32) < 0 ∨ cl128.slots.size ≤ ((15 : Int32)).toNatClampNeg) := inb_of Sz128 ⟨by decide, by decide⟩
  obtain ⟨T129, h129, X129, e129, W129, st129⟩ := stI X127 hx hZ e127 Ar128 (j := (15 : Int32)) hin128_232 (g := (mkF m 232 #[.val (.int p1), .val (.int p2), .val (.ref b1), .unset, .unset, .unset, .unset] [(.int (32769 : Int32)), (.int (15 : Int32)), (.ref b97), (.ref b97)])) rfl rfl (hb hby at_232)
  have N129 := Fr.snoc X129 N127 g_b97
  have Kc129 : Keep h0 h129 [] := Kc127.wr W129 (Or.inr sz_b97)
  have Vw129 : Arv Z h129 b97 k97 .int (19 : Int32) [(.int (1 : Int32)), (.int (3 : Int32)), (.int (7 : Int32)), (.int (11 : Int32)), (.int (27 : Int32)), (.int (59 : Int32)), (.int (75 : Int32)), (.int (131 : Int32)), (.int (259 : Int32)), (.int (515 : Int32)), (.int (1027 : Int32)), (.int (2051 : Int32)), (.int (6147 : Int32)), (.int (10243 : Int32)), (.int (16387 : Int32)), (.int (32769 : Int32)), (.int (0 : Int32)), (.int (0 : Int32)), (.int (0 : Int32))] (.int (0 : Int32)) := Arv.set Ar128 qq128 Sz128 Nn128 Hs128 Gg128 rfl W129 15 rfl (Nat.le_of_ble_eq_true rfl)
  obtain ⟨cl130, Ar130, qq130, Sz130, Nn130, Hs130, Gg130⟩ := id Vw129
  have hin130_238 : ¬ ((16 : Int32) < 0 ∨ cl130.slots.size ≤ ((16 : Int32)).toNatClampNeg) := inb_of Sz130 ⟨by decide, by decide⟩
  obtain ⟨T131, h131, X131, e131, W131, st131⟩ := stI X129 hx hZ e129 Ar130 (j := (16 : Int32)) hin130_238 (g := (mkF m 238 #[.val (.int p1), .val (.int p2), .val (.ref b1), .unset, .unset, .unset, .unset] [(.int (98305 : Int32)), (.int (16 : Int32)), (.ref b97), (.ref b97)])) rfl rfl (hb hby at_238)
  have N131 := Fr.snoc X131 N129 g_b97
  have Kc131 : Keep h0 h131 [] := Kc129.wr W131 (Or.inr sz_b97)
  have Vw131 : Arv Z h131 b97 k97 .int (19 : Int32) [(.int (1 : Int32)), (.int (3 : Int32)), (.int (7 : Int32)), (.int (11 : Int32)), (.int (27 : Int32)), (.int (59 : Int32)), (.int (75 : Int32)), (.int (131 : Int32)), (.int (259 : Int32)), (.int (515 : Int32)), (.int (1027 : Int32)), (.int (2051 : Int32)), (.int (6147 : Int32)), (.int (10243 : Int32)), (.int (16387 : Int32)), (.int (32769 : Int32)), (.int (98305 : Int32)), (.int (0 : Int32)), (.int (0 : Int32))] (.int (0 : Int32)) := Arv.set Ar130 qq130 Sz130 Nn130 Hs130 Gg130 rfl W131 16 rfl (Nat.le_of_ble_eq_true rfl)
  obtain ⟨cl132, Ar132, qq132, Sz132, Nn132, Hs132, Gg132⟩ := id Vw131
  have hin132_244 : ¬ ((17 : Int32) < 0 ∨ cl132.slots.size ≤ ((17 : Int32)).toNatClampNeg) := inb_of Sz132 ⟨by decide, by decide⟩
  obtain ⟨T133, h133, X133, e133, W133, st133⟩ := stI X131 hx hZ e131 Ar132 (j := (17 : Int32)) hin132_244 (g := (mkF m 244 #[.val (.int p1), .val (.int p2), .val (.ref b1), .unset, .unset, .unset, .unset] [(.int (163841 : Int32)), (.int (17 : Int32)), (.ref b97), (.ref b97)])) rfl rfl (hb hby at_244)
  have N133 := Fr.snoc X133 N131 g_b97
  have Kc133 : Keep h0 h133 [] := Kc131.wr W133 (Or.inr sz_b97)
  have Vw133 : Arv Z h133 b97 k97 .int (19 : Int32) [(.int (1 : Int32)), (.int (3 : Int32)), (.int (7 : Int32)), (.int (11 : Int32)), (.int (27 : Int32)), (.int (59 : Int32)), (.int (75 : Int32)), (.int (131 : Int32)), (.int (259 : Int32)), (.int (515 : Int32)), (.int (1027 : Int32)), (.int (2051 : Int32)), (.int (6147 : Int32)), (.int (10243 : Int32)), (.int (16387 : Int32)), (.int (32769 : Int32)), (.int (98305 : Int32)), (.int (163841 : Int32)), (.int (0 : Int32))] (.int (0 : Int32)) := Arv.set Ar132 qq132 Sz132 Nn132 Hs132 Gg132 rfl W133 17 rfl (Nat.le_of_ble_eq_true rfl)
  obtain ⟨cl134, Ar134, qq134, Sz134, Nn134, Hs134, Gg134⟩ := id Vw133
  have hin134_250 : ¬ ((18 : Int32) < 0 ∨ cl134.slots.size ≤ ((18 : Int32)).toNatClampNeg) := inb_of Sz134 ⟨by decide, by decide⟩
  obtain ⟨T135, h135, X135, e135, W135, st135⟩ := stI X133 hx hZ e133 Ar134 (j := (18 : Int32)) hin134_250 (g := (mkF m 250 #[.val (.int p1), .val (.int p2), .val (.ref b1), .unset, .unset, .unset, .unset] [(.int (262145 : Int32)), (.int (18 : Int32)), (.ref b97), (.ref b97)])) rfl rfl (hb hby at_250)
  have N135 := Fr.snoc X135 N133 g_b97
  have Kc135 : Keep h0 h135 [] := Kc133.wr W135 (Or.inr sz_b97)
  have Vw135 : Arv Z h135 b97 k97 .int (19 : Int32) [(.int (1 : Int32)), (.int (3 : Int32)), (.int (7 : Int32)), (.int (11 : Int32)), (.int (27 : Int32)), (.int (59 : Int32)), (.int (75 : Int32)), (.int (131 : Int32)), (.int (259 : Int32)), (.int (515 : Int32)), (.int (1027 : Int32)), (.int (2051 : Int32)), (.int (6147 : Int32)), (.int (10243 : Int32)), (.int (16387 : Int32)), (.int (32769 : Int32)), (.int (98305 : Int32)), (.int (163841 : Int32)), (.int (262145 : Int32))] (.int (0 : Int32)) := Arv.set Ar134 qq134 Sz134 Nn134 Hs134 Gg134 rfl W135 18 rfl (Nat.le_of_ble_eq_true rfl)
  obtain ⟨cl136, Ar136, qq136, Sz136, Nn136, Hs136, Gg136⟩ := id Vw135
  have hin136_273 : ¬ (((p2 &&& (2147483647 : Int32)) % (19 : Int32)) < 0 ∨ cl136.slots.size ≤ (((p2 &&& (2147483647 : Int32)) % (19 : Int32))).toNatClampNeg) := inb_of Sz136 ⟨lo2, hi2⟩
  have hat136_273 : cl136.slots[(((p2 &&& (2147483647 : Int32)) % (19 : Int32))).toNatClampNeg]? = some (.int y) := Has.at Hs136 hin136_273 sel3
  have f137 : Arv Z h135 b1 k1 (.object "com/example/gridloom/gridloom/mapping/ItemType") (19 : Int32) [(.ref w0), (.ref w1), (.ref w2), (.ref w3), (.ref w4), (.ref w5), (.ref w6), (.ref w7), (.ref w8), (.ref w9), (.ref w10), (.ref w11), (.ref w12), (.ref w13), (.ref w14), (.ref w15), (.ref w16), (.ref w17), (.ref w18)] .null := ((((((((((((((((((((Vw95.ext E97).other W99 ne_b1_b97).other W101 ne_b1_b97).other W103 ne_b1_b97).other W105 ne_b1_b97).other W107 ne_b1_b97).other W109 ne_b1_b97).other W111 ne_b1_b97).other W113 ne_b1_b97).other W115 ne_b1_b97).other W117 ne_b1_b97).other W119 ne_b1_b97).other W121 ne_b1_b97).other W123 ne_b1_b97).other W125 ne_b1_b97).other W127 ne_b1_b97).other W129 ne_b1_b97).other W131 ne_b1_b97).other W133 ne_b1_b97).other W135 ne_b1_b97)
  obtain ⟨cl138, Ar138, qq138, Sz138, Nn138, Hs138, Gg138⟩ := id f137
  have hin138_292 : ¬ (((p1 &&& (2147483647 : Int32)) % (19 : Int32)) < 0 ∨ cl138.slots.size ≤ (((p1 &&& (2147483647 : Int32)) % (19 : Int32))).toNatClampNeg) := inb_of Sz138 ⟨lo1, hi1⟩
  have hat138_292 : cl138.slots[(((p1 &&& (2147483647 : Int32)) % (19 : Int32))).toNatClampNeg]? = some (.ref a) := Has.at Hs138 hin138_292 sel1
  have hin138_296 : ¬ (((p2 &&& (2147483647 : Int32)) % (19 : Int32)) < 0 ∨ cl138.slots.size ≤ (((p2 &&& (2147483647 : Int32)) % (19 : Int32))).toNatClampNeg) := inb_of Sz138 ⟨lo2, hi2⟩
  have hat138_296 : cl138.slots[(((p2 &&& (2147483647 : Int32)) % (19 : Int32))).toNatClampNeg]? = some (.ref b) := Has.at Hs138 hin138_296 sel2
  have f140 : Exa Z h135 a "com/example/gridloom/gridloom/mapping/ItemType" := (Exa.wr W135 (Exa.wr W133 (Exa.wr W131 (Exa.wr W129 (Exa.wr W127 (Exa.wr W125 (Exa.wr W123 (Exa.wr W121 (Exa.wr W119 (Exa.wr W117 (Exa.wr W115 (Exa.wr W113 (Exa.wr W111 (Exa.wr W109 (Exa.wr W107 (Exa.wr W105 (Exa.wr W103 (Exa.wr W101 (Exa.wr W99 (Exa.ext E97 (Exa.wr W95 (Exa.wr W90 (Exa.wr W85 (Exa.wr W80 (Exa.wr W75 (Exa.wr W70 (Exa.wr W65 (Exa.wr W60 (Exa.wr W55 (Exa.wr W50 (Exa.wr W45 (Exa.wr W40 (Exa.wr W35 (Exa.wr W30 (Exa.wr W25 (Exa.wr W20 (Exa.wr W15 (Exa.wr W10 (Exa.wr W5 (Exa.ext E1 E_a))))))))))))))))))))))))))))))))))))))))
  obtain ⟨cq139, kq139, q139a, q139b, q139c⟩ := isOf hZ e135 f140
  obtain ⟨_, T139, L139, X139, hQ139, st139⟩ := own_backV (Q := Q_inc Z a b CL (0 : Int32) h135 n0) (k := 0) (n := 0) X135 <| X135.virtualBack hx (y := (⟨"com/example/gridloom/gridloom/mapping/ItemType", "includes", "(Lcom/example/gridloom/gridloom/mapping/ItemType;)Z"⟩ : MethodName)) (z := (⟨"com/example/gridloom/gridloom/mapping/ItemType", "includes", "(Lcom/example/gridloom/gridloom/mapping/ItemType;)Z"⟩ : MethodName)) hown (mvT hZ (hw _ (List.mem_of_getElem? (i := 48) rfl))) (mvT hZ (hw _ (List.mem_of_getElem? (i := 49) rfl))) (notFace_of_selects (args := #[]) (mvT hZ (hw _ (List.mem_of_getElem? (i := 51) rfl)))) (mvT hZ (hw _ (List.mem_of_getElem? (i := 51) rfl))) (mvT hZ (hw _ (List.mem_of_getElem? (i := 50) rfl))) (by decide) (backOf (W := 0) (rm_inc l Z a0 hw [] a b CL (0 : Int32) h135 n0 (Nat.le_trans Z0 Kc135.1) hhd (own_chain_keep Kc135 CL hch) hlen hret) hZ (hw _ (List.mem_of_getElem? (i := 52) rfl)) (hw _ (List.mem_of_getElem? (i := 3) rfl)) (by decide) (by decide)) q139a q139c (g := (mkF m 297 #[.val (.int p1), .val (.int p2), .val (.ref b1), .val (.ref b97), .val (.int ((p1 &&& (2147483647 : Int32)) % (19 : Int32))), .val (.int ((p2 &&& (2147483647 : Int32)) % (19 : Int32))), .val (.int (0 : Int32))] [(.ref b), (.ref a)])) rfl (by rw [hml]; rfl) (Steps.refl _) (argsL := [(.ref b)]) (rest := []) (lenOf pd__28Lcom_2fexample_2fgridloom_2fgridloom_2fmapping_2fItemType_3b_29Z rfl) rfl (by show 2 * 0 + _ ≤ _; exact Nat.le_of_eq rfl) (hb hby at_297) (fun _ _ => ⟨rfl, e135, (by decide : 2 + 0 ≤ _), (by decide : 38 + 0 ≤ _)⟩)
  obtain ⟨rfl, N139q, e139⟩ := hQ139
  have N139 := Fr.app N135 N139q
  obtain ⟨fs, hr, hrun, hended, hW, hsame⟩ := X139.leave (v := some (.int (1 : Int32))) (fun h => by rw [Bd.returns] at h; cases h)
  refine ⟨_, _, pre0 _ ?_, hrun, hended, _, _, rfl, ?_, ⟨_, rfl⟩, hW, hsame.mono (by decide) (by decide)⟩
  · show Steps p.tables e below (s₁.setTop (mkF m 0 #[.val (.int p1), .val (.int p2), .unset, .unset, .unset, .unset, .unset] [])) _
    refine XS.bipush X0.here hx rfl (hb hby at_0) ?_
    show Steps p.tables e below (s₁.setTop (mkF m 2 #[.val (.int p1), .val (.int p2), .unset, .unset, .unset, .unset, .unset] [(.int (19 : Int32))])) _
    refine st1 _ ?_
    show Steps p.tables e below (T1.setTop (mkF m 5 #[.val (.int p1), .val (.int p2), .unset, .unset, .unset, .unset, .unset] [(.ref b1)])) _
    refine XS.dup X1.here hx rfl (hb hby at_5) rfl rfl ?_
    show Steps p.tables e below (T1.setTop (mkF m 6 #[.val (.int p1), .val (.int p2), .unset, .unset, .unset, .unset, .unset] [(.ref b1), (.ref b1)])) _
    refine XS.iconst X1.here hx rfl (hb hby at_6) ?_
    show Steps p.tables e below (T1.setTop (mkF m 7 #[.val (.int p1), .val (.int p2), .unset, .unset, .unset, .unset, .unset] [(.int (0 : Int32)), (.ref b1), (.ref b1)])) _
    refine st3 _ ?_
    show Steps p.tables e below (T3.setTop (mkF m 10 #[.val (.int p1), .val (.int p2), .unset, .unset, .unset, .unset, .unset] [(.ref w0), (.int (0 : Int32)), (.ref b1), (.ref b1)])) _
    refine st5 _ ?_
    show Steps p.tables e below (T5.setTop (mkF m 11 #[.val (.int p1), .val (.int p2), .unset, .unset, .unset, .unset, .unset] [(.ref b1)])) _
    refine XS.dup X5.here hx rfl (hb hby at_11) rfl rfl ?_
    show Steps p.tables e below (T5.setTop (mkF m 12 #[.val (.int p1), .val (.int p2), .unset, .unset, .unset, .unset, .unset] [(.ref b1), (.ref b1)])) _
    refine XS.iconst X5.here hx rfl (hb hby at_12) ?_
    show Steps p.tables e below (T5.setTop (mkF m 13 #[.val (.int p1), .val (.int p2), .unset, .unset, .unset, .unset, .unset] [(.int (1 : Int32)), (.ref b1), (.ref b1)])) _
    refine st8 _ ?_
    show Steps p.tables e below (T8.setTop (mkF m 16 #[.val (.int p1), .val (.int p2), .unset, .unset, .unset, .unset, .unset] [(.ref w1), (.int (1 : Int32)), (.ref b1), (.ref b1)])) _
    refine st10 _ ?_
    show Steps p.tables e below (T10.setTop (mkF m 17 #[.val (.int p1), .val (.int p2), .unset, .unset, .unset, .unset, .unset] [(.ref b1)])) _
    refine XS.dup X10.here hx rfl (hb hby at_17) rfl rfl ?_
    show Steps p.tables e below (T10.setTop (mkF m 18 #[.val (.int p1), .val (.int p2), .unset, .unset, .unset, .unset, .unset] [(.ref b1), (.ref b1)])) _
    refine XS.iconst X10.here hx rfl (hb hby at_18) ?_
    show Steps p.tables e below (T10.setTop (mkF m 19 #[.val (.int p1), .val (.int p2), .unset, .unset, .unset, .unset, .unset] [(.int (2 : Int32)), (.ref b1), (.ref b1)])) _
    refine st13 _ ?_
    show Steps p.tables e below (T13.setTop (mkF m 22 #[.val (.int p1), .val (.int p2), .unset, .unset, .unset, .unset, .unset] [(.ref w2), (.int (2 : Int32)), (.ref b1), (.ref b1)])) _
    refine st15 _ ?_
    show Steps p.tables e below (T15.setTop (mkF m 23 #[.val (.int p1), .val (.int p2), .unset, .unset, .unset, .unset, .unset] [(.ref b1)])) _
    refine XS.dup X15.here hx rfl (hb hby at_23) rfl rfl ?_
    show Steps p.tables e below (T15.setTop (mkF m 24 #[.val (.int p1), .val (.int p2), .unset, .unset, .unset, .unset, .unset] [(.ref b1), (.ref b1)])) _
    refine XS.iconst X15.here hx rfl (hb hby at_24) ?_
    show Steps p.tables e below (T15.setTop (mkF m 25 #[.val (.int p1), .val (.int p2), .unset, .unset, .unset, .unset, .unset] [(.int (3 : Int32)), (.ref b1), (.ref b1)])) _
    refine st18 _ ?_
    show Steps p.tables e below (T18.setTop (mkF m 28 #[.val (.int p1), .val (.int p2), .unset, .unset, .unset, .unset, .unset] [(.ref w3), (.int (3 : Int32)), (.ref b1), (.ref b1)])) _
    refine st20 _ ?_
    show Steps p.tables e below (T20.setTop (mkF m 29 #[.val (.int p1), .val (.int p2), .unset, .unset, .unset, .unset, .unset] [(.ref b1)])) _
    refine XS.dup X20.here hx rfl (hb hby at_29) rfl rfl ?_
    show Steps p.tables e below (T20.setTop (mkF m 30 #[.val (.int p1), .val (.int p2), .unset, .unset, .unset, .unset, .unset] [(.ref b1), (.ref b1)])) _
    refine XS.iconst X20.here hx rfl (hb hby at_30) ?_
    show Steps p.tables e below (T20.setTop (mkF m 31 #[.val (.int p1), .val (.int p2), .unset, .unset, .unset, .unset, .unset] [(.int (4 : Int32)), (.ref b1), (.ref b1)])) _
    refine st23 _ ?_
    show Steps p.tables e below (T23.setTop (mkF m 34 #[.val (.int p1), .val (.int p2), .unset, .unset, .unset, .unset, .unset] [(.ref w4), (.int (4 : Int32)), (.ref b1), (.ref b1)])) _
    refine st25 _ ?_
    show Steps p.tables e below (T25.setTop (mkF m 35 #[.val (.int p1), .val (.int p2), .unset, .unset, .unset, .unset, .unset] [(.ref b1)])) _
    refine XS.dup X25.here hx rfl (hb hby at_35) rfl rfl ?_
    show Steps p.tables e below (T25.setTop (mkF m 36 #[.val (.int p1), .val (.int p2), .unset, .unset, .unset, .unset, .unset] [(.ref b1), (.ref b1)])) _
    refine XS.iconst X25.here hx rfl (hb hby at_36) ?_
    show Steps p.tables e below (T25.setTop (mkF m 37 #[.val (.int p1), .val (.int p2), .unset, .unset, .unset, .unset, .unset] [(.int (5 : Int32)), (.ref b1), (.ref b1)])) _
    refine st28 _ ?_
    show Steps p.tables e below (T28.setTop (mkF m 40 #[.val (.int p1), .val (.int p2), .unset, .unset, .unset, .unset, .unset] [(.ref w5), (.int (5 : Int32)), (.ref b1), (.ref b1)])) _
    refine st30 _ ?_
    show Steps p.tables e below (T30.setTop (mkF m 41 #[.val (.int p1), .val (.int p2), .unset, .unset, .unset, .unset, .unset] [(.ref b1)])) _
    refine XS.dup X30.here hx rfl (hb hby at_41) rfl rfl ?_
    show Steps p.tables e below (T30.setTop (mkF m 42 #[.val (.int p1), .val (.int p2), .unset, .unset, .unset, .unset, .unset] [(.ref b1), (.ref b1)])) _
    refine XS.bipush X30.here hx rfl (hb hby at_42) ?_
    show Steps p.tables e below (T30.setTop (mkF m 44 #[.val (.int p1), .val (.int p2), .unset, .unset, .unset, .unset, .unset] [(.int (6 : Int32)), (.ref b1), (.ref b1)])) _
    refine st33 _ ?_
    show Steps p.tables e below (T33.setTop (mkF m 47 #[.val (.int p1), .val (.int p2), .unset, .unset, .unset, .unset, .unset] [(.ref w6), (.int (6 : Int32)), (.ref b1), (.ref b1)])) _
    refine st35 _ ?_
    show Steps p.tables e below (T35.setTop (mkF m 48 #[.val (.int p1), .val (.int p2), .unset, .unset, .unset, .unset, .unset] [(.ref b1)])) _
    refine XS.dup X35.here hx rfl (hb hby at_48) rfl rfl ?_
    show Steps p.tables e below (T35.setTop (mkF m 49 #[.val (.int p1), .val (.int p2), .unset, .unset, .unset, .unset, .unset] [(.ref b1), (.ref b1)])) _
    refine XS.bipush X35.here hx rfl (hb hby at_49) ?_
    show Steps p.tables e below (T35.setTop (mkF m 51 #[.val (.int p1), .val (.int p2), .unset, .unset, .unset, .unset, .unset] [(.int (7 : Int32)), (.ref b1), (.ref b1)])) _
    refine st38 _ ?_
    show Steps p.tables e below (T38.setTop (mkF m 54 #[.val (.int p1), .val (.int p2), .unset, .unset, .unset, .unset, .unset] [(.ref w7), (.int (7 : Int32)), (.ref b1), (.ref b1)])) _
    refine st40 _ ?_
    show Steps p.tables e below (T40.setTop (mkF m 55 #[.val (.int p1), .val (.int p2), .unset, .unset, .unset, .unset, .unset] [(.ref b1)])) _
    refine XS.dup X40.here hx rfl (hb hby at_55) rfl rfl ?_
    show Steps p.tables e below (T40.setTop (mkF m 56 #[.val (.int p1), .val (.int p2), .unset, .unset, .unset, .unset, .unset] [(.ref b1), (.ref b1)])) _
    refine XS.bipush X40.here hx rfl (hb hby at_56) ?_
    show Steps p.tables e below (T40.setTop (mkF m 58 #[.val (.int p1), .val (.int p2), .unset, .unset, .unset, .unset, .unset] [(.int (8 : Int32)), (.ref b1), (.ref b1)])) _
    refine st43 _ ?_
    show Steps p.tables e below (T43.setTop (mkF m 61 #[.val (.int p1), .val (.int p2), .unset, .unset, .unset, .unset, .unset] [(.ref w8), (.int (8 : Int32)), (.ref b1), (.ref b1)])) _
    refine st45 _ ?_
    show Steps p.tables e below (T45.setTop (mkF m 62 #[.val (.int p1), .val (.int p2), .unset, .unset, .unset, .unset, .unset] [(.ref b1)])) _
    refine XS.dup X45.here hx rfl (hb hby at_62) rfl rfl ?_
    show Steps p.tables e below (T45.setTop (mkF m 63 #[.val (.int p1), .val (.int p2), .unset, .unset, .unset, .unset, .unset] [(.ref b1), (.ref b1)])) _
    refine XS.bipush X45.here hx rfl (hb hby at_63) ?_
    show Steps p.tables e below (T45.setTop (mkF m 65 #[.val (.int p1), .val (.int p2), .unset, .unset, .unset, .unset, .unset] [(.int (9 : Int32)), (.ref b1), (.ref b1)])) _
    refine st48 _ ?_
    show Steps p.tables e below (T48.setTop (mkF m 68 #[.val (.int p1), .val (.int p2), .unset, .unset, .unset, .unset, .unset] [(.ref w9), (.int (9 : Int32)), (.ref b1), (.ref b1)])) _
    refine st50 _ ?_
    show Steps p.tables e below (T50.setTop (mkF m 69 #[.val (.int p1), .val (.int p2), .unset, .unset, .unset, .unset, .unset] [(.ref b1)])) _
    refine XS.dup X50.here hx rfl (hb hby at_69) rfl rfl ?_
    show Steps p.tables e below (T50.setTop (mkF m 70 #[.val (.int p1), .val (.int p2), .unset, .unset, .unset, .unset, .unset] [(.ref b1), (.ref b1)])) _
    refine XS.bipush X50.here hx rfl (hb hby at_70) ?_
    show Steps p.tables e below (T50.setTop (mkF m 72 #[.val (.int p1), .val (.int p2), .unset, .unset, .unset, .unset, .unset] [(.int (10 : Int32)), (.ref b1), (.ref b1)])) _
    refine st53 _ ?_
    show Steps p.tables e below (T53.setTop (mkF m 75 #[.val (.int p1), .val (.int p2), .unset, .unset, .unset, .unset, .unset] [(.ref w10), (.int (10 : Int32)), (.ref b1), (.ref b1)])) _
    refine st55 _ ?_
    show Steps p.tables e below (T55.setTop (mkF m 76 #[.val (.int p1), .val (.int p2), .unset, .unset, .unset, .unset, .unset] [(.ref b1)])) _
    refine XS.dup X55.here hx rfl (hb hby at_76) rfl rfl ?_
    show Steps p.tables e below (T55.setTop (mkF m 77 #[.val (.int p1), .val (.int p2), .unset, .unset, .unset, .unset, .unset] [(.ref b1), (.ref b1)])) _
    refine XS.bipush X55.here hx rfl (hb hby at_77) ?_
    show Steps p.tables e below (T55.setTop (mkF m 79 #[.val (.int p1), .val (.int p2), .unset, .unset, .unset, .unset, .unset] [(.int (11 : Int32)), (.ref b1), (.ref b1)])) _
    refine st58 _ ?_
    show Steps p.tables e below (T58.setTop (mkF m 82 #[.val (.int p1), .val (.int p2), .unset, .unset, .unset, .unset, .unset] [(.ref w11), (.int (11 : Int32)), (.ref b1), (.ref b1)])) _
    refine st60 _ ?_
    show Steps p.tables e below (T60.setTop (mkF m 83 #[.val (.int p1), .val (.int p2), .unset, .unset, .unset, .unset, .unset] [(.ref b1)])) _
    refine XS.dup X60.here hx rfl (hb hby at_83) rfl rfl ?_
    show Steps p.tables e below (T60.setTop (mkF m 84 #[.val (.int p1), .val (.int p2), .unset, .unset, .unset, .unset, .unset] [(.ref b1), (.ref b1)])) _
    refine XS.bipush X60.here hx rfl (hb hby at_84) ?_
    show Steps p.tables e below (T60.setTop (mkF m 86 #[.val (.int p1), .val (.int p2), .unset, .unset, .unset, .unset, .unset] [(.int (12 : Int32)), (.ref b1), (.ref b1)])) _
    refine st63 _ ?_
    show Steps p.tables e below (T63.setTop (mkF m 89 #[.val (.int p1), .val (.int p2), .unset, .unset, .unset, .unset, .unset] [(.ref w12), (.int (12 : Int32)), (.ref b1), (.ref b1)])) _
    refine st65 _ ?_
    show Steps p.tables e below (T65.setTop (mkF m 90 #[.val (.int p1), .val (.int p2), .unset, .unset, .unset, .unset, .unset] [(.ref b1)])) _
    refine XS.dup X65.here hx rfl (hb hby at_90) rfl rfl ?_
    show Steps p.tables e below (T65.setTop (mkF m 91 #[.val (.int p1), .val (.int p2), .unset, .unset, .unset, .unset, .unset] [(.ref b1), (.ref b1)])) _
    refine XS.bipush X65.here hx rfl (hb hby at_91) ?_
    show Steps p.tables e below (T65.setTop (mkF m 93 #[.val (.int p1), .val (.int p2), .unset, .unset, .unset, .unset, .unset] [(.int (13 : Int32)), (.ref b1), (.ref b1)])) _
    refine st68 _ ?_
    show Steps p.tables e below (T68.setTop (mkF m 96 #[.val (.int p1), .val (.int p2), .unset, .unset, .unset, .unset, .unset] [(.ref w13), (.int (13 : Int32)), (.ref b1), (.ref b1)])) _
    refine st70 _ ?_
    show Steps p.tables e below (T70.setTop (mkF m 97 #[.val (.int p1), .val (.int p2), .unset, .unset, .unset, .unset, .unset] [(.ref b1)])) _
    refine XS.dup X70.here hx rfl (hb hby at_97) rfl rfl ?_
    show Steps p.tables e below (T70.setTop (mkF m 98 #[.val (.int p1), .val (.int p2), .unset, .unset, .unset, .unset, .unset] [(.ref b1), (.ref b1)])) _
    refine XS.bipush X70.here hx rfl (hb hby at_98) ?_
    show Steps p.tables e below (T70.setTop (mkF m 100 #[.val (.int p1), .val (.int p2), .unset, .unset, .unset, .unset, .unset] [(.int (14 : Int32)), (.ref b1), (.ref b1)])) _
    refine st73 _ ?_
    show Steps p.tables e below (T73.setTop (mkF m 103 #[.val (.int p1), .val (.int p2), .unset, .unset, .unset, .unset, .unset] [(.ref w14), (.int (14 : Int32)), (.ref b1), (.ref b1)])) _
    refine st75 _ ?_
    show Steps p.tables e below (T75.setTop (mkF m 104 #[.val (.int p1), .val (.int p2), .unset, .unset, .unset, .unset, .unset] [(.ref b1)])) _
    refine XS.dup X75.here hx rfl (hb hby at_104) rfl rfl ?_
    show Steps p.tables e below (T75.setTop (mkF m 105 #[.val (.int p1), .val (.int p2), .unset, .unset, .unset, .unset, .unset] [(.ref b1), (.ref b1)])) _
    refine XS.bipush X75.here hx rfl (hb hby at_105) ?_
    show Steps p.tables e below (T75.setTop (mkF m 107 #[.val (.int p1), .val (.int p2), .unset, .unset, .unset, .unset, .unset] [(.int (15 : Int32)), (.ref b1), (.ref b1)])) _
    refine st78 _ ?_
    show Steps p.tables e below (T78.setTop (mkF m 110 #[.val (.int p1), .val (.int p2), .unset, .unset, .unset, .unset, .unset] [(.ref w15), (.int (15 : Int32)), (.ref b1), (.ref b1)])) _
    refine st80 _ ?_
    show Steps p.tables e below (T80.setTop (mkF m 111 #[.val (.int p1), .val (.int p2), .unset, .unset, .unset, .unset, .unset] [(.ref b1)])) _
    refine XS.dup X80.here hx rfl (hb hby at_111) rfl rfl ?_
    show Steps p.tables e below (T80.setTop (mkF m 112 #[.val (.int p1), .val (.int p2), .unset, .unset, .unset, .unset, .unset] [(.ref b1), (.ref b1)])) _
    refine XS.bipush X80.here hx rfl (hb hby at_112) ?_
    show Steps p.tables e below (T80.setTop (mkF m 114 #[.val (.int p1), .val (.int p2), .unset, .unset, .unset, .unset, .unset] [(.int (16 : Int32)), (.ref b1), (.ref b1)])) _
    refine st83 _ ?_
    show Steps p.tables e below (T83.setTop (mkF m 117 #[.val (.int p1), .val (.int p2), .unset, .unset, .unset, .unset, .unset] [(.ref w16), (.int (16 : Int32)), (.ref b1), (.ref b1)])) _
    refine st85 _ ?_
    show Steps p.tables e below (T85.setTop (mkF m 118 #[.val (.int p1), .val (.int p2), .unset, .unset, .unset, .unset, .unset] [(.ref b1)])) _
    refine XS.dup X85.here hx rfl (hb hby at_118) rfl rfl ?_
    show Steps p.tables e below (T85.setTop (mkF m 119 #[.val (.int p1), .val (.int p2), .unset, .unset, .unset, .unset, .unset] [(.ref b1), (.ref b1)])) _
    refine XS.bipush X85.here hx rfl (hb hby at_119) ?_
    show Steps p.tables e below (T85.setTop (mkF m 121 #[.val (.int p1), .val (.int p2), .unset, .unset, .unset, .unset, .unset] [(.int (17 : Int32)), (.ref b1), (.ref b1)])) _
    refine st88 _ ?_
    show Steps p.tables e below (T88.setTop (mkF m 124 #[.val (.int p1), .val (.int p2), .unset, .unset, .unset, .unset, .unset] [(.ref w17), (.int (17 : Int32)), (.ref b1), (.ref b1)])) _
    refine st90 _ ?_
    show Steps p.tables e below (T90.setTop (mkF m 125 #[.val (.int p1), .val (.int p2), .unset, .unset, .unset, .unset, .unset] [(.ref b1)])) _
    refine XS.dup X90.here hx rfl (hb hby at_125) rfl rfl ?_
    show Steps p.tables e below (T90.setTop (mkF m 126 #[.val (.int p1), .val (.int p2), .unset, .unset, .unset, .unset, .unset] [(.ref b1), (.ref b1)])) _
    refine XS.bipush X90.here hx rfl (hb hby at_126) ?_
    show Steps p.tables e below (T90.setTop (mkF m 128 #[.val (.int p1), .val (.int p2), .unset, .unset, .unset, .unset, .unset] [(.int (18 : Int32)), (.ref b1), (.ref b1)])) _
    refine st93 _ ?_
    show Steps p.tables e below (T93.setTop (mkF m 131 #[.val (.int p1), .val (.int p2), .unset, .unset, .unset, .unset, .unset] [(.ref w18), (.int (18 : Int32)), (.ref b1), (.ref b1)])) _
    refine st95 _ ?_
    show Steps p.tables e below (T95.setTop (mkF m 132 #[.val (.int p1), .val (.int p2), .unset, .unset, .unset, .unset, .unset] [(.ref b1)])) _
    refine XS.astoreN X95.here hx rfl (hb hby at_132) rfl rfl (l' := #[.val (.int p1), .val (.int p2), .val (.ref b1), .unset, .unset, .unset, .unset]) rfl ?_
    show Steps p.tables e below (T95.setTop (mkF m 133 #[.val (.int p1), .val (.int p2), .val (.ref b1), .unset, .unset, .unset, .unset] [])) _
    refine XS.bipush X95.here hx rfl (hb hby at_133) ?_
    show Steps p.tables e below (T95.setTop (mkF m 135 #[.val (.int p1), .val (.int p2), .val (.ref b1), .unset, .unset, .unset, .unset] [(.int (19 : Int32))])) _
    refine st97 _ ?_
    show Steps p.tables e below (T97.setTop (mkF m 137 #[.val (.int p1), .val (.int p2), .val (.ref b1), .unset, .unset, .unset, .unset] [(.ref b97)])) _
    refine XS.dup X97.here hx rfl (hb hby at_137) rfl rfl ?_
    show Steps p.tables e below (T97.setTop (mkF m 138 #[.val (.int p1), .val (.int p2), .val (.ref b1), .unset, .unset, .unset, .unset] [(.ref b97), (.ref b97)])) _
    refine XS.iconst X97.here hx rfl (hb hby at_138) ?_
    show Steps p.tables e below (T97.setTop (mkF m 139 #[.val (.int p1), .val (.int p2), .val (.ref b1), .unset, .unset, .unset, .unset] [(.int (0 : Int32)), (.ref b97), (.ref b97)])) _
    refine XS.iconst X97.here hx rfl (hb hby at_139) ?_
    show Steps p.tables e below (T97.setTop (mkF m 140 #[.val (.int p1), .val (.int p2), .val (.ref b1), .unset, .unset, .unset, .unset] [(.int (1 : Int32)), (.int (0 : Int32)), (.ref b97), (.ref b97)])) _
    refine st99 _ ?_
    show Steps p.tables e below (T99.setTop (mkF m 141 #[.val (.int p1), .val (.int p2), .val (.ref b1), .unset, .unset, .unset, .unset] [(.ref b97)])) _
    refine XS.dup X99.here hx rfl (hb hby at_141) rfl rfl ?_
    show Steps p.tables e below (T99.setTop (mkF m 142 #[.val (.int p1), .val (.int p2), .val (.ref b1), .unset, .unset, .unset, .unset] [(.ref b97), (.ref b97)])) _
    refine XS.iconst X99.here hx rfl (hb hby at_142) ?_
    show Steps p.tables e below (T99.setTop (mkF m 143 #[.val (.int p1), .val (.int p2), .val (.ref b1), .unset, .unset, .unset, .unset] [(.int (1 : Int32)), (.ref b97), (.ref b97)])) _
    refine XS.iconst X99.here hx rfl (hb hby at_143) ?_
    show Steps p.tables e below (T99.setTop (mkF m 144 #[.val (.int p1), .val (.int p2), .val (.ref b1), .unset, .unset, .unset, .unset] [(.int (3 : Int32)), (.int (1 : Int32)), (.ref b97), (.ref b97)])) _
    refine st101 _ ?_
    show Steps p.tables e below (T101.setTop (mkF m 145 #[.val (.int p1), .val (.int p2), .val (.ref b1), .unset, .unset, .unset, .unset] [(.ref b97)])) _
    refine XS.dup X101.here hx rfl (hb hby at_145) rfl rfl ?_
    show Steps p.tables e below (T101.setTop (mkF m 146 #[.val (.int p1), .val (.int p2), .val (.ref b1), .unset, .unset, .unset, .unset] [(.ref b97), (.ref b97)])) _
    refine XS.iconst X101.here hx rfl (hb hby at_146) ?_
    show Steps p.tables e below (T101.setTop (mkF m 147 #[.val (.int p1), .val (.int p2), .val (.ref b1), .unset, .unset, .unset, .unset] [(.int (2 : Int32)), (.ref b97), (.ref b97)])) _
    refine XS.bipush X101.here hx rfl (hb hby at_147) ?_
    show Steps p.tables e below (T101.setTop (mkF m 149 #[.val (.int p1), .val (.int p2), .val (.ref b1), .unset, .unset, .unset, .unset] [(.int (7 : Int32)), (.int (2 : Int32)), (.ref b97), (.ref b97)])) _
    refine st103 _ ?_
    show Steps p.tables e below (T103.setTop (mkF m 150 #[.val (.int p1), .val (.int p2), .val (.ref b1), .unset, .unset, .unset, .unset] [(.ref b97)])) _
    refine XS.dup X103.here hx rfl (hb hby at_150) rfl rfl ?_
    show Steps p.tables e below (T103.setTop (mkF m 151 #[.val (.int p1), .val (.int p2), .val (.ref b1), .unset, .unset, .unset, .unset] [(.ref b97), (.ref b97)])) _
    refine XS.iconst X103.here hx rfl (hb hby at_151) ?_
    show Steps p.tables e below (T103.setTop (mkF m 152 #[.val (.int p1), .val (.int p2), .val (.ref b1), .unset, .unset, .unset, .unset] [(.int (3 : Int32)), (.ref b97), (.ref b97)])) _
    refine XS.bipush X103.here hx rfl (hb hby at_152) ?_
    show Steps p.tables e below (T103.setTop (mkF m 154 #[.val (.int p1), .val (.int p2), .val (.ref b1), .unset, .unset, .unset, .unset] [(.int (11 : Int32)), (.int (3 : Int32)), (.ref b97), (.ref b97)])) _
    refine st105 _ ?_
    show Steps p.tables e below (T105.setTop (mkF m 155 #[.val (.int p1), .val (.int p2), .val (.ref b1), .unset, .unset, .unset, .unset] [(.ref b97)])) _
    refine XS.dup X105.here hx rfl (hb hby at_155) rfl rfl ?_
    show Steps p.tables e below (T105.setTop (mkF m 156 #[.val (.int p1), .val (.int p2), .val (.ref b1), .unset, .unset, .unset, .unset] [(.ref b97), (.ref b97)])) _
    refine XS.iconst X105.here hx rfl (hb hby at_156) ?_
    show Steps p.tables e below (T105.setTop (mkF m 157 #[.val (.int p1), .val (.int p2), .val (.ref b1), .unset, .unset, .unset, .unset] [(.int (4 : Int32)), (.ref b97), (.ref b97)])) _
    refine XS.bipush X105.here hx rfl (hb hby at_157) ?_
    show Steps p.tables e below (T105.setTop (mkF m 159 #[.val (.int p1), .val (.int p2), .val (.ref b1), .unset, .unset, .unset, .unset] [(.int (27 : Int32)), (.int (4 : Int32)), (.ref b97), (.ref b97)])) _
    refine st107 _ ?_
    show Steps p.tables e below (T107.setTop (mkF m 160 #[.val (.int p1), .val (.int p2), .val (.ref b1), .unset, .unset, .unset, .unset] [(.ref b97)])) _
    refine XS.dup X107.here hx rfl (hb hby at_160) rfl rfl ?_
    show Steps p.tables e below (T107.setTop (mkF m 161 #[.val (.int p1), .val (.int p2), .val (.ref b1), .unset, .unset, .unset, .unset] [(.ref b97), (.ref b97)])) _
    refine XS.iconst X107.here hx rfl (hb hby at_161) ?_
    show Steps p.tables e below (T107.setTop (mkF m 162 #[.val (.int p1), .val (.int p2), .val (.ref b1), .unset, .unset, .unset, .unset] [(.int (5 : Int32)), (.ref b97), (.ref b97)])) _
    refine XS.bipush X107.here hx rfl (hb hby at_162) ?_
    show Steps p.tables e below (T107.setTop (mkF m 164 #[.val (.int p1), .val (.int p2), .val (.ref b1), .unset, .unset, .unset, .unset] [(.int (59 : Int32)), (.int (5 : Int32)), (.ref b97), (.ref b97)])) _
    refine st109 _ ?_
    show Steps p.tables e below (T109.setTop (mkF m 165 #[.val (.int p1), .val (.int p2), .val (.ref b1), .unset, .unset, .unset, .unset] [(.ref b97)])) _
    refine XS.dup X109.here hx rfl (hb hby at_165) rfl rfl ?_
    show Steps p.tables e below (T109.setTop (mkF m 166 #[.val (.int p1), .val (.int p2), .val (.ref b1), .unset, .unset, .unset, .unset] [(.ref b97), (.ref b97)])) _
    refine XS.bipush X109.here hx rfl (hb hby at_166) ?_
    show Steps p.tables e below (T109.setTop (mkF m 168 #[.val (.int p1), .val (.int p2), .val (.ref b1), .unset, .unset, .unset, .unset] [(.int (6 : Int32)), (.ref b97), (.ref b97)])) _
    refine XS.bipush X109.here hx rfl (hb hby at_168) ?_
    show Steps p.tables e below (T109.setTop (mkF m 170 #[.val (.int p1), .val (.int p2), .val (.ref b1), .unset, .unset, .unset, .unset] [(.int (75 : Int32)), (.int (6 : Int32)), (.ref b97), (.ref b97)])) _
    refine st111 _ ?_
    show Steps p.tables e below (T111.setTop (mkF m 171 #[.val (.int p1), .val (.int p2), .val (.ref b1), .unset, .unset, .unset, .unset] [(.ref b97)])) _
    refine XS.dup X111.here hx rfl (hb hby at_171) rfl rfl ?_
    show Steps p.tables e below (T111.setTop (mkF m 172 #[.val (.int p1), .val (.int p2), .val (.ref b1), .unset, .unset, .unset, .unset] [(.ref b97), (.ref b97)])) _
    refine XS.bipush X111.here hx rfl (hb hby at_172) ?_
    show Steps p.tables e below (T111.setTop (mkF m 174 #[.val (.int p1), .val (.int p2), .val (.ref b1), .unset, .unset, .unset, .unset] [(.int (7 : Int32)), (.ref b97), (.ref b97)])) _
    refine XS.sipush X111.here hx rfl (hb hby at_174) ?_
    show Steps p.tables e below (T111.setTop (mkF m 177 #[.val (.int p1), .val (.int p2), .val (.ref b1), .unset, .unset, .unset, .unset] [(.int (131 : Int32)), (.int (7 : Int32)), (.ref b97), (.ref b97)])) _
    refine st113 _ ?_
    show Steps p.tables e below (T113.setTop (mkF m 178 #[.val (.int p1), .val (.int p2), .val (.ref b1), .unset, .unset, .unset, .unset] [(.ref b97)])) _
    refine XS.dup X113.here hx rfl (hb hby at_178) rfl rfl ?_
    show Steps p.tables e below (T113.setTop (mkF m 179 #[.val (.int p1), .val (.int p2), .val (.ref b1), .unset, .unset, .unset, .unset] [(.ref b97), (.ref b97)])) _
    refine XS.bipush X113.here hx rfl (hb hby at_179) ?_
    show Steps p.tables e below (T113.setTop (mkF m 181 #[.val (.int p1), .val (.int p2), .val (.ref b1), .unset, .unset, .unset, .unset] [(.int (8 : Int32)), (.ref b97), (.ref b97)])) _
    refine XS.sipush X113.here hx rfl (hb hby at_181) ?_
    show Steps p.tables e below (T113.setTop (mkF m 184 #[.val (.int p1), .val (.int p2), .val (.ref b1), .unset, .unset, .unset, .unset] [(.int (259 : Int32)), (.int (8 : Int32)), (.ref b97), (.ref b97)])) _
    refine st115 _ ?_
    show Steps p.tables e below (T115.setTop (mkF m 185 #[.val (.int p1), .val (.int p2), .val (.ref b1), .unset, .unset, .unset, .unset] [(.ref b97)])) _
    refine XS.dup X115.here hx rfl (hb hby at_185) rfl rfl ?_
    show Steps p.tables e below (T115.setTop (mkF m 186 #[.val (.int p1), .val (.int p2), .val (.ref b1), .unset, .unset, .unset, .unset] [(.ref b97), (.ref b97)])) _
    refine XS.bipush X115.here hx rfl (hb hby at_186) ?_
    show Steps p.tables e below (T115.setTop (mkF m 188 #[.val (.int p1), .val (.int p2), .val (.ref b1), .unset, .unset, .unset, .unset] [(.int (9 : Int32)), (.ref b97), (.ref b97)])) _
    refine XS.sipush X115.here hx rfl (hb hby at_188) ?_
    show Steps p.tables e below (T115.setTop (mkF m 191 #[.val (.int p1), .val (.int p2), .val (.ref b1), .unset, .unset, .unset, .unset] [(.int (515 : Int32)), (.int (9 : Int32)), (.ref b97), (.ref b97)])) _
    refine st117 _ ?_
    show Steps p.tables e below (T117.setTop (mkF m 192 #[.val (.int p1), .val (.int p2), .val (.ref b1), .unset, .unset, .unset, .unset] [(.ref b97)])) _
    refine XS.dup X117.here hx rfl (hb hby at_192) rfl rfl ?_
    show Steps p.tables e below (T117.setTop (mkF m 193 #[.val (.int p1), .val (.int p2), .val (.ref b1), .unset, .unset, .unset, .unset] [(.ref b97), (.ref b97)])) _
    refine XS.bipush X117.here hx rfl (hb hby at_193) ?_
    show Steps p.tables e below (T117.setTop (mkF m 195 #[.val (.int p1), .val (.int p2), .val (.ref b1), .unset, .unset, .unset, .unset] [(.int (10 : Int32)), (.ref b97), (.ref b97)])) _
    refine XS.sipush X117.here hx rfl (hb hby at_195) ?_
    show Steps p.tables e below (T117.setTop (mkF m 198 #[.val (.int p1), .val (.int p2), .val (.ref b1), .unset, .unset, .unset, .unset] [(.int (1027 : Int32)), (.int (10 : Int32)), (.ref b97), (.ref b97)])) _
    refine st119 _ ?_
    show Steps p.tables e below (T119.setTop (mkF m 199 #[.val (.int p1), .val (.int p2), .val (.ref b1), .unset, .unset, .unset, .unset] [(.ref b97)])) _
    refine XS.dup X119.here hx rfl (hb hby at_199) rfl rfl ?_
    show Steps p.tables e below (T119.setTop (mkF m 200 #[.val (.int p1), .val (.int p2), .val (.ref b1), .unset, .unset, .unset, .unset] [(.ref b97), (.ref b97)])) _
    refine XS.bipush X119.here hx rfl (hb hby at_200) ?_
    show Steps p.tables e below (T119.setTop (mkF m 202 #[.val (.int p1), .val (.int p2), .val (.ref b1), .unset, .unset, .unset, .unset] [(.int (11 : Int32)), (.ref b97), (.ref b97)])) _
    refine XS.sipush X119.here hx rfl (hb hby at_202) ?_
    show Steps p.tables e below (T119.setTop (mkF m 205 #[.val (.int p1), .val (.int p2), .val (.ref b1), .unset, .unset, .unset, .unset] [(.int (2051 : Int32)), (.int (11 : Int32)), (.ref b97), (.ref b97)])) _
    refine st121 _ ?_
    show Steps p.tables e below (T121.setTop (mkF m 206 #[.val (.int p1), .val (.int p2), .val (.ref b1), .unset, .unset, .unset, .unset] [(.ref b97)])) _
    refine XS.dup X121.here hx rfl (hb hby at_206) rfl rfl ?_
    show Steps p.tables e below (T121.setTop (mkF m 207 #[.val (.int p1), .val (.int p2), .val (.ref b1), .unset, .unset, .unset, .unset] [(.ref b97), (.ref b97)])) _
    refine XS.bipush X121.here hx rfl (hb hby at_207) ?_
    show Steps p.tables e below (T121.setTop (mkF m 209 #[.val (.int p1), .val (.int p2), .val (.ref b1), .unset, .unset, .unset, .unset] [(.int (12 : Int32)), (.ref b97), (.ref b97)])) _
    refine XS.sipush X121.here hx rfl (hb hby at_209) ?_
    show Steps p.tables e below (T121.setTop (mkF m 212 #[.val (.int p1), .val (.int p2), .val (.ref b1), .unset, .unset, .unset, .unset] [(.int (6147 : Int32)), (.int (12 : Int32)), (.ref b97), (.ref b97)])) _
    refine st123 _ ?_
    show Steps p.tables e below (T123.setTop (mkF m 213 #[.val (.int p1), .val (.int p2), .val (.ref b1), .unset, .unset, .unset, .unset] [(.ref b97)])) _
    refine XS.dup X123.here hx rfl (hb hby at_213) rfl rfl ?_
    show Steps p.tables e below (T123.setTop (mkF m 214 #[.val (.int p1), .val (.int p2), .val (.ref b1), .unset, .unset, .unset, .unset] [(.ref b97), (.ref b97)])) _
    refine XS.bipush X123.here hx rfl (hb hby at_214) ?_
    show Steps p.tables e below (T123.setTop (mkF m 216 #[.val (.int p1), .val (.int p2), .val (.ref b1), .unset, .unset, .unset, .unset] [(.int (13 : Int32)), (.ref b97), (.ref b97)])) _
    refine XS.sipush X123.here hx rfl (hb hby at_216) ?_
    show Steps p.tables e below (T123.setTop (mkF m 219 #[.val (.int p1), .val (.int p2), .val (.ref b1), .unset, .unset, .unset, .unset] [(.int (10243 : Int32)), (.int (13 : Int32)), (.ref b97), (.ref b97)])) _
    refine st125 _ ?_
    show Steps p.tables e below (T125.setTop (mkF m 220 #[.val (.int p1), .val (.int p2), .val (.ref b1), .unset, .unset, .unset, .unset] [(.ref b97)])) _
    refine XS.dup X125.here hx rfl (hb hby at_220) rfl rfl ?_
    show Steps p.tables e below (T125.setTop (mkF m 221 #[.val (.int p1), .val (.int p2), .val (.ref b1), .unset, .unset, .unset, .unset] [(.ref b97), (.ref b97)])) _
    refine XS.bipush X125.here hx rfl (hb hby at_221) ?_
    show Steps p.tables e below (T125.setTop (mkF m 223 #[.val (.int p1), .val (.int p2), .val (.ref b1), .unset, .unset, .unset, .unset] [(.int (14 : Int32)), (.ref b97), (.ref b97)])) _
    refine XS.sipush X125.here hx rfl (hb hby at_223) ?_
    show Steps p.tables e below (T125.setTop (mkF m 226 #[.val (.int p1), .val (.int p2), .val (.ref b1), .unset, .unset, .unset, .unset] [(.int (16387 : Int32)), (.int (14 : Int32)), (.ref b97), (.ref b97)])) _
    refine st127 _ ?_
    show Steps p.tables e below (T127.setTop (mkF m 227 #[.val (.int p1), .val (.int p2), .val (.ref b1), .unset, .unset, .unset, .unset] [(.ref b97)])) _
    refine XS.dup X127.here hx rfl (hb hby at_227) rfl rfl ?_
    show Steps p.tables e below (T127.setTop (mkF m 228 #[.val (.int p1), .val (.int p2), .val (.ref b1), .unset, .unset, .unset, .unset] [(.ref b97), (.ref b97)])) _
    refine XS.bipush X127.here hx rfl (hb hby at_228) ?_
    show Steps p.tables e below (T127.setTop (mkF m 230 #[.val (.int p1), .val (.int p2), .val (.ref b1), .unset, .unset, .unset, .unset] [(.int (15 : Int32)), (.ref b97), (.ref b97)])) _
    refine X127.ldcInt hx hown (mvT hZ (hw _ (List.mem_of_getElem? (i := 43) rfl))) (g := (mkF m 230 #[.val (.int p1), .val (.int p2), .val (.ref b1), .unset, .unset, .unset, .unset] [(.int (15 : Int32)), (.ref b97), (.ref b97)])) rfl (hb hby at_230) _ ?_
    show Steps p.tables e below (T127.setTop (mkF m 232 #[.val (.int p1), .val (.int p2), .val (.ref b1), .unset, .unset, .unset, .unset] [(.int (32769 : Int32)), (.int (15 : Int32)), (.ref b97), (.ref b97)])) _
    refine st129 _ ?_
    show Steps p.tables e below (T129.setTop (mkF m 233 #[.val (.int p1), .val (.int p2), .val (.ref b1), .unset, .unset, .unset, .unset] [(.ref b97)])) _
    refine XS.dup X129.here hx rfl (hb hby at_233) rfl rfl ?_
    show Steps p.tables e below (T129.setTop (mkF m 234 #[.val (.int p1), .val (.int p2), .val (.ref b1), .unset, .unset, .unset, .unset] [(.ref b97), (.ref b97)])) _
    refine XS.bipush X129.here hx rfl (hb hby at_234) ?_
    show Steps p.tables e below (T129.setTop (mkF m 236 #[.val (.int p1), .val (.int p2), .val (.ref b1), .unset, .unset, .unset, .unset] [(.int (16 : Int32)), (.ref b97), (.ref b97)])) _
    refine X129.ldcInt hx hown (mvT hZ (hw _ (List.mem_of_getElem? (i := 44) rfl))) (g := (mkF m 236 #[.val (.int p1), .val (.int p2), .val (.ref b1), .unset, .unset, .unset, .unset] [(.int (16 : Int32)), (.ref b97), (.ref b97)])) rfl (hb hby at_236) _ ?_
    show Steps p.tables e below (T129.setTop (mkF m 238 #[.val (.int p1), .val (.int p2), .val (.ref b1), .unset, .unset, .unset, .unset] [(.int (98305 : Int32)), (.int (16 : Int32)), (.ref b97), (.ref b97)])) _
    refine st131 _ ?_
    show Steps p.tables e below (T131.setTop (mkF m 239 #[.val (.int p1), .val (.int p2), .val (.ref b1), .unset, .unset, .unset, .unset] [(.ref b97)])) _
    refine XS.dup X131.here hx rfl (hb hby at_239) rfl rfl ?_
    show Steps p.tables e below (T131.setTop (mkF m 240 #[.val (.int p1), .val (.int p2), .val (.ref b1), .unset, .unset, .unset, .unset] [(.ref b97), (.ref b97)])) _
    refine XS.bipush X131.here hx rfl (hb hby at_240) ?_
    show Steps p.tables e below (T131.setTop (mkF m 242 #[.val (.int p1), .val (.int p2), .val (.ref b1), .unset, .unset, .unset, .unset] [(.int (17 : Int32)), (.ref b97), (.ref b97)])) _
    refine X131.ldcInt hx hown (mvT hZ (hw _ (List.mem_of_getElem? (i := 45) rfl))) (g := (mkF m 242 #[.val (.int p1), .val (.int p2), .val (.ref b1), .unset, .unset, .unset, .unset] [(.int (17 : Int32)), (.ref b97), (.ref b97)])) rfl (hb hby at_242) _ ?_
    show Steps p.tables e below (T131.setTop (mkF m 244 #[.val (.int p1), .val (.int p2), .val (.ref b1), .unset, .unset, .unset, .unset] [(.int (163841 : Int32)), (.int (17 : Int32)), (.ref b97), (.ref b97)])) _
    refine st133 _ ?_
    show Steps p.tables e below (T133.setTop (mkF m 245 #[.val (.int p1), .val (.int p2), .val (.ref b1), .unset, .unset, .unset, .unset] [(.ref b97)])) _
    refine XS.dup X133.here hx rfl (hb hby at_245) rfl rfl ?_
    show Steps p.tables e below (T133.setTop (mkF m 246 #[.val (.int p1), .val (.int p2), .val (.ref b1), .unset, .unset, .unset, .unset] [(.ref b97), (.ref b97)])) _
    refine XS.bipush X133.here hx rfl (hb hby at_246) ?_
    show Steps p.tables e below (T133.setTop (mkF m 248 #[.val (.int p1), .val (.int p2), .val (.ref b1), .unset, .unset, .unset, .unset] [(.int (18 : Int32)), (.ref b97), (.ref b97)])) _
    refine X133.ldcInt hx hown (mvT hZ (hw _ (List.mem_of_getElem? (i := 46) rfl))) (g := (mkF m 248 #[.val (.int p1), .val (.int p2), .val (.ref b1), .unset, .unset, .unset, .unset] [(.int (18 : Int32)), (.ref b97), (.ref b97)])) rfl (hb hby at_248) _ ?_
    show Steps p.tables e below (T133.setTop (mkF m 250 #[.val (.int p1), .val (.int p2), .val (.ref b1), .unset, .unset, .unset, .unset] [(.int (262145 : Int32)), (.int (18 : Int32)), (.ref b97), (.ref b97)])) _
    refine st135 _ ?_
    show Steps p.tables e below (T135.setTop (mkF m 251 #[.val (.int p1), .val (.int p2), .val (.ref b1), .unset, .unset, .unset, .unset] [(.ref b97)])) _
    refine XS.astoreN X135.here hx rfl (hb hby at_251) rfl rfl (l' := #[.val (.int p1), .val (.int p2), .val (.ref b1), .val (.ref b97), .unset, .unset, .unset]) rfl ?_
    show Steps p.tables e below (T135.setTop (mkF m 252 #[.val (.int p1), .val (.int p2), .val (.ref b1), .val (.ref b97), .unset, .unset, .unset] [])) _
    refine XS.iloadN X135.here hx rfl (hb hby at_252) rfl ?_
    show Steps p.tables e below (T135.setTop (mkF m 253 #[.val (.int p1), .val (.int p2), .val (.ref b1), .val (.ref b97), .unset, .unset, .unset] [(.int p1)])) _
    refine X135.ldcInt hx hown (mvT hZ (hw _ (List.mem_of_getElem? (i := 47) rfl))) (g := (mkF m 253 #[.val (.int p1), .val (.int p2), .val (.ref b1), .val (.ref b97), .unset, .unset, .unset] [(.int p1)])) rfl (hb hby at_253) _ ?_
    show Steps p.tables e below (T135.setTop (mkF m 255 #[.val (.int p1), .val (.int p2), .val (.ref b1), .val (.ref b97), .unset, .unset, .unset] [(.int (2147483647 : Int32)), (.int p1)])) _
    refine XS.iand X135.here hx rfl (hb hby at_255) rfl ?_
    show Steps p.tables e below (T135.setTop (mkF m 256 #[.val (.int p1), .val (.int p2), .val (.ref b1), .val (.ref b97), .unset, .unset, .unset] [(.int (p1 &&& (2147483647 : Int32)))])) _
    refine XS.bipush X135.here hx rfl (hb hby at_256) ?_
    show Steps p.tables e below (T135.setTop (mkF m 258 #[.val (.int p1), .val (.int p2), .val (.ref b1), .val (.ref b97), .unset, .unset, .unset] [(.int (19 : Int32)), (.int (p1 &&& (2147483647 : Int32)))])) _
    refine iremM (g := (mkF m 258 #[.val (.int p1), .val (.int p2), .val (.ref b1), .val (.ref b97), .unset, .unset, .unset] [(.int (19 : Int32)), (.int (p1 &&& (2147483647 : Int32)))])) X135 hx rfl (hb hby at_258) rfl (by decide) ?_
    show Steps p.tables e below (T135.setTop (mkF m 259 #[.val (.int p1), .val (.int p2), .val (.ref b1), .val (.ref b97), .unset, .unset, .unset] [(.int ((p1 &&& (2147483647 : Int32)) % (19 : Int32)))])) _
    refine XS.istore X135.here hx rfl (hb hby at_259) rfl (l' := #[.val (.int p1), .val (.int p2), .val (.ref b1), .val (.ref b97), .val (.int ((p1 &&& (2147483647 : Int32)) % (19 : Int32))), .unset, .unset]) rfl ?_
    show Steps p.tables e below (T135.setTop (mkF m 261 #[.val (.int p1), .val (.int p2), .val (.ref b1), .val (.ref b97), .val (.int ((p1 &&& (2147483647 : Int32)) % (19 : Int32))), .unset, .unset] [])) _
    refine XS.iloadN X135.here hx rfl (hb hby at_261) rfl ?_
    show Steps p.tables e below (T135.setTop (mkF m 262 #[.val (.int p1), .val (.int p2), .val (.ref b1), .val (.ref b97), .val (.int ((p1 &&& (2147483647 : Int32)) % (19 : Int32))), .unset, .unset] [(.int p2)])) _
    refine X135.ldcInt hx hown (mvT hZ (hw _ (List.mem_of_getElem? (i := 47) rfl))) (g := (mkF m 262 #[.val (.int p1), .val (.int p2), .val (.ref b1), .val (.ref b97), .val (.int ((p1 &&& (2147483647 : Int32)) % (19 : Int32))), .unset, .unset] [(.int p2)])) rfl (hb hby at_262) _ ?_
    show Steps p.tables e below (T135.setTop (mkF m 264 #[.val (.int p1), .val (.int p2), .val (.ref b1), .val (.ref b97), .val (.int ((p1 &&& (2147483647 : Int32)) % (19 : Int32))), .unset, .unset] [(.int (2147483647 : Int32)), (.int p2)])) _
    refine XS.iand X135.here hx rfl (hb hby at_264) rfl ?_
    show Steps p.tables e below (T135.setTop (mkF m 265 #[.val (.int p1), .val (.int p2), .val (.ref b1), .val (.ref b97), .val (.int ((p1 &&& (2147483647 : Int32)) % (19 : Int32))), .unset, .unset] [(.int (p2 &&& (2147483647 : Int32)))])) _
    refine XS.bipush X135.here hx rfl (hb hby at_265) ?_
    show Steps p.tables e below (T135.setTop (mkF m 267 #[.val (.int p1), .val (.int p2), .val (.ref b1), .val (.ref b97), .val (.int ((p1 &&& (2147483647 : Int32)) % (19 : Int32))), .unset, .unset] [(.int (19 : Int32)), (.int (p2 &&& (2147483647 : Int32)))])) _
    refine iremM (g := (mkF m 267 #[.val (.int p1), .val (.int p2), .val (.ref b1), .val (.ref b97), .val (.int ((p1 &&& (2147483647 : Int32)) % (19 : Int32))), .unset, .unset] [(.int (19 : Int32)), (.int (p2 &&& (2147483647 : Int32)))])) X135 hx rfl (hb hby at_267) rfl (by decide) ?_
    show Steps p.tables e below (T135.setTop (mkF m 268 #[.val (.int p1), .val (.int p2), .val (.ref b1), .val (.ref b97), .val (.int ((p1 &&& (2147483647 : Int32)) % (19 : Int32))), .unset, .unset] [(.int ((p2 &&& (2147483647 : Int32)) % (19 : Int32)))])) _
    refine XS.istore X135.here hx rfl (hb hby at_268) rfl (l' := #[.val (.int p1), .val (.int p2), .val (.ref b1), .val (.ref b97), .val (.int ((p1 &&& (2147483647 : Int32)) % (19 : Int32))), .val (.int ((p2 &&& (2147483647 : Int32)) % (19 : Int32))), .unset]) rfl ?_
    show Steps p.tables e below (T135.setTop (mkF m 270 #[.val (.int p1), .val (.int p2), .val (.ref b1), .val (.ref b97), .val (.int ((p1 &&& (2147483647 : Int32)) % (19 : Int32))), .val (.int ((p2 &&& (2147483647 : Int32)) % (19 : Int32))), .unset] [])) _
    refine XS.aloadN X135.here hx rfl (hb hby at_270) rfl rfl ?_
    show Steps p.tables e below (T135.setTop (mkF m 271 #[.val (.int p1), .val (.int p2), .val (.ref b1), .val (.ref b97), .val (.int ((p1 &&& (2147483647 : Int32)) % (19 : Int32))), .val (.int ((p2 &&& (2147483647 : Int32)) % (19 : Int32))), .unset] [(.ref b97)])) _
    refine XS.iload X135.here hx rfl (hb hby at_271) rfl ?_
    show Steps p.tables e below (T135.setTop (mkF m 273 #[.val (.int p1), .val (.int p2), .val (.ref b1), .val (.ref b97), .val (.int ((p1 &&& (2147483647 : Int32)) % (19 : Int32))), .val (.int ((p2 &&& (2147483647 : Int32)) % (19 : Int32))), .unset] [(.int ((p2 &&& (2147483647 : Int32)) % (19 : Int32))), (.ref b97)])) _
    refine X135.iaload hx (j := ((p2 &&& (2147483647 : Int32)) % (19 : Int32))) (v := (.int y)) (by rw [e135]; exact Ar136.1) (State.isArrayOf_alike hZ.alike Ar136.2.1) Ar136.2.2 hin136_273 hat136_273 (g := (mkF m 273 #[.val (.int p1), .val (.int p2), .val (.ref b1), .val (.ref b97), .val (.int ((p1 &&& (2147483647 : Int32)) % (19 : Int32))), .val (.int ((p2 &&& (2147483647 : Int32)) % (19 : Int32))), .unset] [(.int ((p2 &&& (2147483647 : Int32)) % (19 : Int32))), (.ref b97)])) rfl rfl (hb hby at_273) _ ?_
    show Steps p.tables e below (T135.setTop (mkF m 274 #[.val (.int p1), .val (.int p2), .val (.ref b1), .val (.ref b97), .val (.int ((p1 &&& (2147483647 : Int32)) % (19 : Int32))), .val (.int ((p2 &&& (2147483647 : Int32)) % (19 : Int32))), .unset] [(.int y)])) _
    refine XS.iload X135.here hx rfl (hb hby at_274) rfl ?_
    show Steps p.tables e below (T135.setTop (mkF m 276 #[.val (.int p1), .val (.int p2), .val (.ref b1), .val (.ref b97), .val (.int ((p1 &&& (2147483647 : Int32)) % (19 : Int32))), .val (.int ((p2 &&& (2147483647 : Int32)) % (19 : Int32))), .unset] [(.int ((p1 &&& (2147483647 : Int32)) % (19 : Int32))), (.int y)])) _
    refine XS.iushr X135.here hx rfl (hb hby at_276) rfl ?_
    show Steps p.tables e below (T135.setTop (mkF m 277 #[.val (.int p1), .val (.int p2), .val (.ref b1), .val (.ref b97), .val (.int ((p1 &&& (2147483647 : Int32)) % (19 : Int32))), .val (.int ((p2 &&& (2147483647 : Int32)) % (19 : Int32))), .unset] [(.int ((y.toUInt32 >>> (((p1 &&& (2147483647 : Int32)) % (19 : Int32)) &&& 31).toUInt32).toInt32))])) _
    refine XS.iconst X135.here hx rfl (hb hby at_277) ?_
    show Steps p.tables e below (T135.setTop (mkF m 278 #[.val (.int p1), .val (.int p2), .val (.ref b1), .val (.ref b97), .val (.int ((p1 &&& (2147483647 : Int32)) % (19 : Int32))), .val (.int ((p2 &&& (2147483647 : Int32)) % (19 : Int32))), .unset] [(.int (1 : Int32)), (.int ((y.toUInt32 >>> (((p1 &&& (2147483647 : Int32)) % (19 : Int32)) &&& 31).toUInt32).toInt32))])) _
    refine XS.iand X135.here hx rfl (hb hby at_278) rfl ?_
    show Steps p.tables e below (T135.setTop (mkF m 279 #[.val (.int p1), .val (.int p2), .val (.ref b1), .val (.ref b97), .val (.int ((p1 &&& (2147483647 : Int32)) % (19 : Int32))), .val (.int ((p2 &&& (2147483647 : Int32)) % (19 : Int32))), .unset] [(.int (((y.toUInt32 >>> (((p1 &&& (2147483647 : Int32)) % (19 : Int32)) &&& 31).toUInt32).toInt32) &&& (1 : Int32)))])) _
    refine XS.ifYes X135.here hx rfl (pc0 := 279) (pc' := 286) rfl (hb hby at_279) rfl ((if0 _ _).trans (teq (hc279 : (((y.toUInt32 >>> (((p1 &&& (2147483647 : Int32)) % (19 : Int32)) &&& 31).toUInt32).toInt32) &&& (1 : Int32)) = (0 : Int32))).1) (by decide) (by decide) ?_
    show Steps p.tables e below (T135.setTop (mkF m 286 #[.val (.int p1), .val (.int p2), .val (.ref b1), .val (.ref b97), .val (.int ((p1 &&& (2147483647 : Int32)) % (19 : Int32))), .val (.int ((p2 &&& (2147483647 : Int32)) % (19 : Int32))), .unset] [])) _
    refine XS.iconst X135.here hx rfl (hb hby at_286) ?_
    show Steps p.tables e below (T135.setTop (mkF m 287 #[.val (.int p1), .val (.int p2), .val (.ref b1), .val (.ref b97), .val (.int ((p1 &&& (2147483647 : Int32)) % (19 : Int32))), .val (.int ((p2 &&& (2147483647 : Int32)) % (19 : Int32))), .unset] [(.int (0 : Int32))])) _
    refine XS.istore X135.here hx rfl (hb hby at_287) rfl (l' := #[.val (.int p1), .val (.int p2), .val (.ref b1), .val (.ref b97), .val (.int ((p1 &&& (2147483647 : Int32)) % (19 : Int32))), .val (.int ((p2 &&& (2147483647 : Int32)) % (19 : Int32))), .val (.int (0 : Int32))]) rfl ?_
    show Steps p.tables e below (T135.setTop (mkF m 289 #[.val (.int p1), .val (.int p2), .val (.ref b1), .val (.ref b97), .val (.int ((p1 &&& (2147483647 : Int32)) % (19 : Int32))), .val (.int ((p2 &&& (2147483647 : Int32)) % (19 : Int32))), .val (.int (0 : Int32))] [])) _
    refine XS.aloadN X135.here hx rfl (hb hby at_289) rfl rfl ?_
    show Steps p.tables e below (T135.setTop (mkF m 290 #[.val (.int p1), .val (.int p2), .val (.ref b1), .val (.ref b97), .val (.int ((p1 &&& (2147483647 : Int32)) % (19 : Int32))), .val (.int ((p2 &&& (2147483647 : Int32)) % (19 : Int32))), .val (.int (0 : Int32))] [(.ref b1)])) _
    refine XS.iload X135.here hx rfl (hb hby at_290) rfl ?_
    show Steps p.tables e below (T135.setTop (mkF m 292 #[.val (.int p1), .val (.int p2), .val (.ref b1), .val (.ref b97), .val (.int ((p1 &&& (2147483647 : Int32)) % (19 : Int32))), .val (.int ((p2 &&& (2147483647 : Int32)) % (19 : Int32))), .val (.int (0 : Int32))] [(.int ((p1 &&& (2147483647 : Int32)) % (19 : Int32))), (.ref b1)])) _
    refine X135.aaload hx (j := ((p1 &&& (2147483647 : Int32)) % (19 : Int32))) (v := (.ref a)) (by rw [e135]; exact Ar138.1) (State.isArrayOf_alike hZ.alike Ar138.2.1) rfl Ar138.2.2 hin138_292 hat138_292 (g := (mkF m 292 #[.val (.int p1), .val (.int p2), .val (.ref b1), .val (.ref b97), .val (.int ((p1 &&& (2147483647 : Int32)) % (19 : Int32))), .val (.int ((p2 &&& (2147483647 : Int32)) % (19 : Int32))), .val (.int (0 : Int32))] [(.int ((p1 &&& (2147483647 : Int32)) % (19 : Int32))), (.ref b1)])) rfl rfl (hb hby at_292) _ ?_
    show Steps p.tables e below (T135.setTop (mkF m 293 #[.val (.int p1), .val (.int p2), .val (.ref b1), .val (.ref b97), .val (.int ((p1 &&& (2147483647 : Int32)) % (19 : Int32))), .val (.int ((p2 &&& (2147483647 : Int32)) % (19 : Int32))), .val (.int (0 : Int32))] [(.ref a)])) _
    refine XS.aloadN X135.here hx rfl (hb hby at_293) rfl rfl ?_
    show Steps p.tables e below (T135.setTop (mkF m 294 #[.val (.int p1), .val (.int p2), .val (.ref b1), .val (.ref b97), .val (.int ((p1 &&& (2147483647 : Int32)) % (19 : Int32))), .val (.int ((p2 &&& (2147483647 : Int32)) % (19 : Int32))), .val (.int (0 : Int32))] [(.ref b1), (.ref a)])) _
    refine XS.iload X135.here hx rfl (hb hby at_294) rfl ?_
    show Steps p.tables e below (T135.setTop (mkF m 296 #[.val (.int p1), .val (.int p2), .val (.ref b1), .val (.ref b97), .val (.int ((p1 &&& (2147483647 : Int32)) % (19 : Int32))), .val (.int ((p2 &&& (2147483647 : Int32)) % (19 : Int32))), .val (.int (0 : Int32))] [(.int ((p2 &&& (2147483647 : Int32)) % (19 : Int32))), (.ref b1), (.ref a)])) _
    refine X135.aaload hx (j := ((p2 &&& (2147483647 : Int32)) % (19 : Int32))) (v := (.ref b)) (by rw [e135]; exact Ar138.1) (State.isArrayOf_alike hZ.alike Ar138.2.1) rfl Ar138.2.2 hin138_296 hat138_296 (g := (mkF m 296 #[.val (.int p1), .val (.int p2), .val (.ref b1), .val (.ref b97), .val (.int ((p1 &&& (2147483647 : Int32)) % (19 : Int32))), .val (.int ((p2 &&& (2147483647 : Int32)) % (19 : Int32))), .val (.int (0 : Int32))] [(.int ((p2 &&& (2147483647 : Int32)) % (19 : Int32))), (.ref b1), (.ref a)])) rfl rfl (hb hby at_296) _ ?_
    show Steps p.tables e below (T135.setTop (mkF m 297 #[.val (.int p1), .val (.int p2), .val (.ref b1), .val (.ref b97), .val (.int ((p1 &&& (2147483647 : Int32)) % (19 : Int32))), .val (.int ((p2 &&& (2147483647 : Int32)) % (19 : Int32))), .val (.int (0 : Int32))] [(.ref b), (.ref a)])) _
    refine st139.trans ?_
    show Steps p.tables e below (T139.setTop (mkF m 300 #[.val (.int p1), .val (.int p2), .val (.ref b1), .val (.ref b97), .val (.int ((p1 &&& (2147483647 : Int32)) % (19 : Int32))), .val (.int ((p2 &&& (2147483647 : Int32)) % (19 : Int32))), .val (.int (0 : Int32))] [(.int (0 : Int32))])) _
    refine XS.iload X139.here hx rfl (hb hby at_300) rfl ?_
    show Steps p.tables e below (T139.setTop (mkF m 302 #[.val (.int p1), .val (.int p2), .val (.ref b1), .val (.ref b97), .val (.int ((p1 &&& (2147483647 : Int32)) % (19 : Int32))), .val (.int ((p2 &&& (2147483647 : Int32)) % (19 : Int32))), .val (.int (0 : Int32))] [(.int (0 : Int32)), (.int (0 : Int32))])) _
    refine XS.icmpNo X139.here hx rfl (hb hby at_302) rfl (teq ((by decide) : (0 : Int32) = (0 : Int32))).2 ?_
    show Steps p.tables e below (T139.setTop (mkF m 305 #[.val (.int p1), .val (.int p2), .val (.ref b1), .val (.ref b97), .val (.int ((p1 &&& (2147483647 : Int32)) % (19 : Int32))), .val (.int ((p2 &&& (2147483647 : Int32)) % (19 : Int32))), .val (.int (0 : Int32))] [])) _
    refine XS.iconst X139.here hx rfl (hb hby at_305) ?_
    show Steps p.tables e below (T139.setTop (mkF m 306 #[.val (.int p1), .val (.int p2), .val (.ref b1), .val (.ref b97), .val (.int ((p1 &&& (2147483647 : Int32)) % (19 : Int32))), .val (.int ((p2 &&& (2147483647 : Int32)) % (19 : Int32))), .val (.int (0 : Int32))] [(.int (1 : Int32))])) _
    refine XS.goto X139.here hx rfl (pc0 := 306) (pc' := 310) rfl (hb hby at_306) (by decide) (by decide) ?_
    show Steps p.tables e below (T139.setTop (mkF m 310 #[.val (.int p1), .val (.int p2), .val (.ref b1), .val (.ref b97), .val (.int ((p1 &&& (2147483647 : Int32)) % (19 : Int32))), .val (.int ((p2 &&& (2147483647 : Int32)) % (19 : Int32))), .val (.int (0 : Int32))] [(.int (1 : Int32))])) _
    exact retN X139 hx (t := .boolean) Bd.returns (by simp) (hb hby at_310) hr
  · show Q_law Z p1 p2 w0 w1 w2 w3 w4 w5 w6 w7 w8 w9 w10 w11 w12 w13 w14 w15 w16 w17 w18 a b y CL h0 n0 _ T139.heap _
    rw [e139]
    exact ⟨rfl, N139⟩
theorem own_sel (w : Fin 19 → Addr) : ∀ (i : Nat) (hi : i < 19), List.getD [(Value.ref (w 0)), (Value.ref (w 1)), (Value.ref (w 2)), (Value.ref (w 3)), (Value.ref (w 4)), (Value.ref (w 5)), (Value.ref (w 6)), (Value.ref (w 7)), (Value.ref (w 8)), (Value.ref (w 9)), (Value.ref (w 10)), (Value.ref (w 11)), (Value.ref (w 12)), (Value.ref (w 13)), (Value.ref (w 14)), (Value.ref (w 15)), (Value.ref (w 16)), (Value.ref (w 17)), (Value.ref (w 18))] i .null = Value.ref (w ⟨i, hi⟩)
  | 0, _ => rfl
  | 1, _ => rfl
  | 2, _ => rfl
  | 3, _ => rfl
  | 4, _ => rfl
  | 5, _ => rfl
  | 6, _ => rfl
  | 7, _ => rfl
  | 8, _ => rfl
  | 9, _ => rfl
  | 10, _ => rfl
  | 11, _ => rfl
  | 12, _ => rfl
  | 13, _ => rfl
  | 14, _ => rfl
  | 15, _ => rfl
  | 16, _ => rfl
  | 17, _ => rfl
  | 18, _ => rfl
  | n + 19, h => absurd h (by omega)
def own_anc : List Int32 := [1, 3, 7, 11, 27, 59, 75, 131, 259, 515, 1027, 2051, 6147, 10243, 16387, 32769, 98305, 163841, 262145]
def own_ch : List (List (Fin 19)) := [[0], [1, 0], [2, 1, 0], [3, 1, 0], [4, 3, 1, 0], [5, 4, 3, 1, 0], [6, 3, 1, 0], [7, 1, 0], [8, 1, 0], [9, 1, 0], [10, 1, 0], [11, 1, 0], [12, 11, 1, 0], [13, 11, 1, 0], [14, 1, 0], [15, 0], [16, 15, 0], [17, 15, 0], [18, 0]]
theorem own_sel3 : ∀ (i : Nat) (hi : i < 19), List.getD [(Value.int (1 : Int32)), (Value.int (3 : Int32)), (Value.int (7 : Int32)), (Value.int (11 : Int32)), (Value.int (27 : Int32)), (Value.int (59 : Int32)), (Value.int (75 : Int32)), (Value.int (131 : Int32)), (Value.int (259 : Int32)), (Value.int (515 : Int32)), (Value.int (1027 : Int32)), (Value.int (2051 : Int32)), (Value.int (6147 : Int32)), (Value.int (10243 : Int32)), (Value.int (16387 : Int32)), (Value.int (32769 : Int32)), (Value.int (98305 : Int32)), (Value.int (163841 : Int32)), (Value.int (262145 : Int32))] i (.int (0 : Int32)) = Value.int (own_anc.getD i 0)
  | 0, _ => rfl
  | 1, _ => rfl
  | 2, _ => rfl
  | 3, _ => rfl
  | 4, _ => rfl
  | 5, _ => rfl
  | 6, _ => rfl
  | 7, _ => rfl
  | 8, _ => rfl
  | 9, _ => rfl
  | 10, _ => rfl
  | 11, _ => rfl
  | 12, _ => rfl
  | 13, _ => rfl
  | 14, _ => rfl
  | 15, _ => rfl
  | 16, _ => rfl
  | 17, _ => rfl
  | 18, _ => rfl
  | n + 19, h => absurd h (by omega)
theorem own_bits : ∀ (i j : Fin 19), (¬ ((((own_anc.getD j.val 0).toUInt32 >>> ((Int32.ofNat i.val) &&& 31).toUInt32).toInt32) &&& (1 : Int32)) = (0 : Int32)) ↔ i ∈ own_ch.getD j.val [] := by decide +kernel
theorem own_ch_len : ∀ (j : Fin 19), (own_ch.getD j.val []).length ≤ 5 ∧ (own_ch.getD j.val []).head? = some j := by decide +kernel
theorem own_idx (q : Int32) : ∃ i : Fin 19, ((q &&& (2147483647 : Int32)) % (19 : Int32)) = Int32.ofNat i.val ∧ (¬ ((q &&& (2147483647 : Int32)) % (19 : Int32)) < 0) ∧ ((q &&& (2147483647 : Int32)) % (19 : Int32)) < 19 ∧ (((q &&& (2147483647 : Int32)) % (19 : Int32))).toNatClampNeg = i.val := by
  have h1 := c_mask q (2147483647 : Int32) 31 (by decide) (by decide)
  have h2 := (c_irem (q &&& (2147483647 : Int32)) (19 : Int32) 19 (by decide)).1
  have h3 := rng32 q
  generalize (q &&& (2147483647 : Int32)) = y at *
  have h4 := h2 (by omega)
  have e0 : (0 : Int32).toInt = 0 := rfl
  have e19 : (19 : Int32).toInt = 19 := rfl
  have hn : (y % (19 : Int32)).toNatClampNeg = (y.toInt % 19).toNat := by simp only [Int32.toNatClampNeg, h4]
  refine ⟨⟨(y.toInt % 19).toNat, by omega⟩, ?_, ?_, ?_, hn⟩
  · rw [← Int32.toInt_inj, h4]
    have : (Int32.ofNat (y.toInt % 19).toNat).toInt = ((y.toInt % 19).toNat : Int) := Int32.toInt_ofNat_small (by omega)
    rw [this]; omega
  · rw [Int32.lt_iff_toInt_lt, h4, e0]; omega
  · rw [Int32.lt_iff_toInt_lt, h4, e19]; omega
theorem own_chain {Z : State} {h : Heap} (w : Fin 19 → Addr) (f0 : Fld Z h (w 0) "com/example/gridloom/gridloom/mapping/ItemType" "_parent" "Lcom/example/gridloom/gridloom/mapping/ItemType;" .null) (f1 : Fld Z h (w 1) "com/example/gridloom/gridloom/mapping/ItemType" "_parent" "Lcom/example/gridloom/gridloom/mapping/ItemType;" (.ref (w 0))) (f2 : Fld Z h (w 2) "com/example/gridloom/gridloom/mapping/ItemType" "_parent" "Lcom/example/gridloom/gridloom/mapping/ItemType;" (.ref (w 1))) (f3 : Fld Z h (w 3) "com/example/gridloom/gridloom/mapping/ItemType" "_parent" "Lcom/example/gridloom/gridloom/mapping/ItemType;" (.ref (w 1))) (f4 : Fld Z h (w 4) "com/example/gridloom/gridloom/mapping/ItemType" "_parent" "Lcom/example/gridloom/gridloom/mapping/ItemType;" (.ref (w 3))) (f5 : Fld Z h (w 5) "com/example/gridloom/gridloom/mapping/ItemType" "_parent" "Lcom/example/gridloom/gridloom/mapping/ItemType;" (.ref (w 4))) (f6 : Fld Z h (w 6) "com/example/gridloom/gridloom/mapping/ItemType" "_parent" "Lcom/example/gridloom/gridloom/mapping/ItemType;" (.ref (w 3))) (f7 : Fld Z h (w 7) "com/example/gridloom/gridloom/mapping/ItemType" "_parent" "Lcom/example/gridloom/gridloom/mapping/ItemType;" (.ref (w 1))) (f8 : Fld Z h (w 8) "com/example/gridloom/gridloom/mapping/ItemType" "_parent" "Lcom/example/gridloom/gridloom/mapping/ItemType;" (.ref (w 1))) (f9 : Fld Z h (w 9) "com/example/gridloom/gridloom/mapping/ItemType" "_parent" "Lcom/example/gridloom/gridloom/mapping/ItemType;" (.ref (w 1))) (f10 : Fld Z h (w 10) "com/example/gridloom/gridloom/mapping/ItemType" "_parent" "Lcom/example/gridloom/gridloom/mapping/ItemType;" (.ref (w 1))) (f11 : Fld Z h (w 11) "com/example/gridloom/gridloom/mapping/ItemType" "_parent" "Lcom/example/gridloom/gridloom/mapping/ItemType;" (.ref (w 1))) (f12 : Fld Z h (w 12) "com/example/gridloom/gridloom/mapping/ItemType" "_parent" "Lcom/example/gridloom/gridloom/mapping/ItemType;" (.ref (w 11))) (f13 : Fld Z h (w 13) "com/example/gridloom/gridloom/mapping/ItemType" "_parent" "Lcom/example/gridloom/gridloom/mapping/ItemType;" (.ref (w 11))) (f14 : Fld Z h (w 14) "com/example/gridloom/gridloom/mapping/ItemType" "_parent" "Lcom/example/gridloom/gridloom/mapping/ItemType;" (.ref (w 1))) (f15 : Fld Z h (w 15) "com/example/gridloom/gridloom/mapping/ItemType" "_parent" "Lcom/example/gridloom/gridloom/mapping/ItemType;" (.ref (w 0))) (f16 : Fld Z h (w 16) "com/example/gridloom/gridloom/mapping/ItemType" "_parent" "Lcom/example/gridloom/gridloom/mapping/ItemType;" (.ref (w 15))) (f17 : Fld Z h (w 17) "com/example/gridloom/gridloom/mapping/ItemType" "_parent" "Lcom/example/gridloom/gridloom/mapping/ItemType;" (.ref (w 15))) (f18 : Fld Z h (w 18) "com/example/gridloom/gridloom/mapping/ItemType" "_parent" "Lcom/example/gridloom/gridloom/mapping/ItemType;" (.ref (w 0))) : ∀ (j : Nat) (hj : j < 19), own_Chain Z h ((own_ch.getD j []).map w)
  | 0, _ => f0
  | 1, _ => ⟨f1, f0⟩
  | 2, _ => ⟨f2, f1, f0⟩
  | 3, _ => ⟨f3, f1, f0⟩
  | 4, _ => ⟨f4, f3, f1, f0⟩
  | 5, _ => ⟨f5, f4, f3, f1, f0⟩
  | 6, _ => ⟨f6, f3, f1, f0⟩
  | 7, _ => ⟨f7, f1, f0⟩
  | 8, _ => ⟨f8, f1, f0⟩
  | 9, _ => ⟨f9, f1, f0⟩
  | 10, _ => ⟨f10, f1, f0⟩
  | 11, _ => ⟨f11, f1, f0⟩
  | 12, _ => ⟨f12, f11, f1, f0⟩
  | 13, _ => ⟨f13, f11, f1, f0⟩
  | 14, _ => ⟨f14, f1, f0⟩
  | 15, _ => ⟨f15, f0⟩
  | 16, _ => ⟨f16, f15, f0⟩
  | 17, _ => ⟨f17, f15, f0⟩
  | 18, _ => ⟨f18, f0⟩
  | n + 19, h => absurd h (by omega)
def Q_lawj (Z : State) (p1 : Int32) (p2 : Int32) (w : Fin 19 → Addr) (h0 : Heap) (n0 : Nat) (v : Option Value) (h : Heap) (L : List Loc) : Prop := v = some (.int (1 : Int32)) ∧ Fr n0 L
theorem rm_lawj (l : Launch) (Z : State) (a0 : Array Value) (hw : ∀ d ∈ tables_1, d.before a0 Z = true) (ws : List Jvm.Cond) (p1 : Int32) (p2 : Int32) (w : Fin 19 → Addr) (h0 : Heap) (n0 : Nat) (Z0 : n0 ≤ h0.size) (S_ITEM : Sta Z h0 "com/example/gridloom/gridloom/mapping/ItemType" "ITEM" "Lcom/example/gridloom/gridloom/mapping/ItemType;" (.ref (w 0))) (S_ATOMIC : Sta Z h0 "com/example/gridloom/gridloom/mapping/ItemType" "ATOMIC" "Lcom/example/gridloom/gridloom/mapping/ItemType;" (.ref (w 1))) (S_STRING : Sta Z h0 "com/example/gridloom/gridloom/mapping/ItemType" "STRING" "Lcom/example/gridloom/gridloom/mapping/ItemType;" (.ref (w 2))) (S_NUMERIC : Sta Z h0 "com/example/gridloom/gridloom/mapping/ItemType" "NUMERIC" "Lcom/example/gridloom/gridloom/mapping/ItemType;" (.ref (w 3))) (S_DECIMAL : Sta Z h0 "com/example/gridloom/gridloom/mapping/ItemType" "DECIMAL" "Lcom/example/gridloom/gridloom/mapping/ItemType;" (.ref (w 4))) (S_INTEGER : Sta Z h0 "com/example/gridloom/gridloom/mapping/ItemType" "INTEGER" "Lcom/example/gridloom/gridloom/mapping/ItemType;" (.ref (w 5))) (S_DOUBLE : Sta Z h0 "com/example/gridloom/gridloom/mapping/ItemType" "DOUBLE" "Lcom/example/gridloom/gridloom/mapping/ItemType;" (.ref (w 6))) (S_BOOLEAN : Sta Z h0 "com/example/gridloom/gridloom/mapping/ItemType" "BOOLEAN" "Lcom/example/gridloom/gridloom/mapping/ItemType;" (.ref (w 7))) (S_DATE_TIME : Sta Z h0 "com/example/gridloom/gridloom/mapping/ItemType" "DATE_TIME" "Lcom/example/gridloom/gridloom/mapping/ItemType;" (.ref (w 8))) (S_DATE : Sta Z h0 "com/example/gridloom/gridloom/mapping/ItemType" "DATE" "Lcom/example/gridloom/gridloom/mapping/ItemType;" (.ref (w 9))) (S_TIME : Sta Z h0 "com/example/gridloom/gridloom/mapping/ItemType" "TIME" "Lcom/example/gridloom/gridloom/mapping/ItemType;" (.ref (w 10))) (S_DURATION : Sta Z h0 "com/example/gridloom/gridloom/mapping/ItemType" "DURATION" "Lcom/example/gridloom/gridloom/mapping/ItemType;" (.ref (w 11))) (S_YEAR_MONTH_DURATION : Sta Z h0 "com/example/gridloom/gridloom/mapping/ItemType" "YEAR_MONTH_DURATION" "Lcom/example/gridloom/gridloom/mapping/ItemType;" (.ref (w 12))) (S_DAY_TIME_DURATION : Sta Z h0 "com/example/gridloom/gridloom/mapping/ItemType" "DAY_TIME_DURATION" "Lcom/example/gridloom/gridloom/mapping/ItemType;" (.ref (w 13))) (S_NULL : Sta Z h0 "com/example/gridloom/gridloom/mapping/ItemType" "NULL" "Lcom/example/gridloom/gridloom/mapping/ItemType;" (.ref (w 14))) (S_JSON_ITEM : Sta Z h0 "com/example/gridloom/gridloom/mapping/ItemType" "JSON_ITEM" "Lcom/example/gridloom/gridloom/mapping/ItemType;" (.ref (w 15))) (S_OBJECT : Sta Z h0 "com/example/gridloom/gridloom/mapping/ItemType" "OBJECT" "Lcom/example/gridloom/gridloom/mapping/ItemType;" (.ref (w 16))) (S_ARRAY : Sta Z h0 "com/example/gridloom/gridloom/mapping/ItemType" "ARRAY" "Lcom/example/gridloom/gridloom/mapping/ItemType;" (.ref (w 17))) (S_FUNCTION : Sta Z h0 "com/example/gridloom/gridloom/mapping/ItemType" "FUNCTION" "Lcom/example/gridloom/gridloom/mapping/ItemType;" (.ref (w 18))) (hE : Z = Z ∧ ∀ i, Exa Z h0 (w i) "com/example/gridloom/gridloom/mapping/ItemType") (hC : ∀ (j : Nat) (hj : j < 19), own_Chain Z h0 ((own_ch.getD j []).map w)) (inj : ∀ i j, w i = w j → i = j) :
    MetFree l x (head1 (Jvm.Cond.code x code maxLocals ret :: ws) room_1) (fun a_ U => a_ = #[(.int p1), (.int p2)] ∧ Z.Warmed39 U.vm ∧ U.heap = h0) (fun _ _ _ _ _ => True) (fun _ U o U' => ∃ v L, o = .returned v ∧ Q_lawj Z p1 p2 w h0 n0 v U'.heap L ∧ FrameEnd U o U' L room_1.cells room_1.slots) := by
  obtain ⟨i, e1, lo1, hi1, n1⟩ := own_idx p1
  obtain ⟨j, e2, lo2, hi2, n2⟩ := own_idx p2
  have hm : w i ∈ (own_ch.getD j.val []).map w ↔ i ∈ own_ch.getD j.val [] := by
    constructor
    · intro q
      obtain ⟨k, hk, e⟩ := List.mem_map.mp q
      exact inj _ _ e ▸ hk
    · exact fun q => List.mem_map.mpr ⟨i, q, rfl⟩
  have hb := own_bits i j
  rw [← e1] at hb
  by_cases q : i ∈ own_ch.getD j.val []
  · exact rm_law_y l Z a0 hw ws p1 p2 (w 0) (w 1) (w 2) (w 3) (w 4) (w 5) (w 6) (w 7) (w 8) (w 9) (w 10) (w 11) (w 12) (w 13) (w 14) (w 15) (w 16) (w 17) (w 18) (w i) (w j) (own_anc.getD j.val 0) ((own_ch.getD j.val []).map w) h0 n0 Z0 S_ITEM S_ATOMIC S_STRING S_NUMERIC S_DECIMAL S_INTEGER S_DOUBLE S_BOOLEAN S_DATE_TIME S_DATE S_TIME S_DURATION S_YEAR_MONTH_DURATION S_DAY_TIME_DURATION S_NULL S_JSON_ITEM S_OBJECT S_ARRAY S_FUNCTION (hE.2 0) (hE.2 1) (hE.2 2) (hE.2 3) (hE.2 4) (hE.2 5) (hE.2 6) (hE.2 7) (hE.2 8) (hE.2 9) (hE.2 10) (hE.2 11) (hE.2 12) (hE.2 13) (hE.2 14) (hE.2 15) (hE.2 16) (hE.2 17) (hE.2 18) (hE.2 i) (hE.2 j) lo1 hi1 lo2 hi2 (by rw [n1]; exact own_sel w i.val i.isLt) (by rw [n2]; exact own_sel w j.val j.isLt) (by rw [n2]; exact own_sel3 j.val j.isLt) (by rw [List.head?_map, (own_ch_len j).2]; rfl) (hC j.val j.isLt) (by rw [List.length_map]; exact (own_ch_len j).1) (by rw [if_pos (hm.mpr q)]) (hb.mpr q)
  · exact rm_law_n l Z a0 hw ws p1 p2 (w 0) (w 1) (w 2) (w 3) (w 4) (w 5) (w 6) (w 7) (w 8) (w 9) (w 10) (w 11) (w 12) (w 13) (w 14) (w 15) (w 16) (w 17) (w 18) (w i) (w j) (own_anc.getD j.val 0) ((own_ch.getD j.val []).map w) h0 n0 Z0 S_ITEM S_ATOMIC S_STRING S_NUMERIC S_DECIMAL S_INTEGER S_DOUBLE S_BOOLEAN S_DATE_TIME S_DATE S_TIME S_DURATION S_YEAR_MONTH_DURATION S_DAY_TIME_DURATION S_NULL S_JSON_ITEM S_OBJECT S_ARRAY S_FUNCTION (hE.2 0) (hE.2 1) (hE.2 2) (hE.2 3) (hE.2 4) (hE.2 5) (hE.2 6) (hE.2 7) (hE.2 8) (hE.2 9) (hE.2 10) (hE.2 11) (hE.2 12) (hE.2 13) (hE.2 14) (hE.2 15) (hE.2 16) (hE.2 17) (hE.2 18) (hE.2 i) (hE.2 j) lo1 hi1 lo2 hi2 (by rw [n1]; exact own_sel w i.val i.isLt) (by rw [n2]; exact own_sel w j.val j.isLt) (by rw [n2]; exact own_sel3 j.val j.isLt) (by rw [List.head?_map, (own_ch_len j).2]; rfl) (hC j.val j.isLt) (by rw [List.length_map]; exact (own_ch_len j).1) (by rw [if_neg (fun z => q (hm.mp z))]) (Classical.not_not.mp fun z => q (hb.mp z))
theorem own_ref {args : Array Value} {s : State} {t r : Jvm.Term} {C n d : String} {w : Addr} {v : Value} (ev : t.eval args s none [] s = some (.ref w)) (er : r.eval args s none [] s = some v) (hv : v.isRef = true) (h : (Jvm.Cond.eq (Jvm.Term.field t C n d) r).value args s none s [] = some true) : Fld s s.heap w C n d v := by
  obtain ⟨x, y, hx, hy, hk, hk'⟩ := cmp_v (Or.inl h)
  cases hy.symm.trans er
  have hxr : x.isRef = true := by
    rcases ref_cases hv with rfl | ⟨a, rfl⟩ <;> cases x <;> first | rfl | (simp [Kin, Value.isRef] at hk hk')
  have e := eq_R hx er hxr hv
  have q := gotT e h
  rw [fld_at ev, q] at hx
  exact Fld.start hx
set_option maxRecDepth 65536 in
set_option maxHeartbeats 40000000 in
theorem comes_1 {Post : Tables → Env → Array Value → State → Outcome → State → Prop} (hpost : ∀ tb e args s v u, (limb_1_1.after args s (.returned v) u = true ∧ limb_1_2.after args s (.returned v) u = true ∧ True) → FrameEnd s (.returned v) u (Jvm.fieldLocs frame_1_writes args s ++ Jvm.arrayLocs frame_1_arrays args s ++ Jvm.staticLocs frame_1_statics s) 16 192 → Post tb e args s (.returned v) u) :
    ArmFor flags0 classFile x code maxLocals ret World_1 tables_1 room_1 Calls_1 rest_1 Pre_1 Post := by
  intro l hfl _ _ p e ha hc hk s m args below hf hA hF happ hP
  obtain ⟨hcalls, hrest, hpre⟩ := hP
  obtain ⟨-, -, -, hnamed, -, -, -, hat⟩ := (Spec.applies_iff hf).mp happ
  obtain ⟨hg, hn⟩ := and_e (Cond.before_iff.mp (show (Jvm.Cond.and given_1 narrow_1).before args s = true from hpre))
  obtain ⟨gc, ga0⟩ := and_e hg
  obtain ⟨gi0, ga1⟩ := and_e ga0
  have gi1 := ga1
  obtain ⟨w0, w1, rfl⟩ : ∃ w0 w1 : Value, args = #[w0, w1] := by
    have hs : args.size = 2 := by simpa [Cond.value, given_1] using gc
    obtain ⟨L⟩ := args
    match L, hs with
    | [w0, w1], _ => exact ⟨w0, w1, rfl⟩
  have hw := fun d (hd : d ∈ tables_1) => atoms_spec (ws := Jvm.Cond.code x code maxLocals ret :: tables_1) hat d (List.mem_cons_of_mem _ hd)
  have hfit : Fit s := fun {y c} hc i hi => by
    obtain ⟨ha, rfl⟩ := Array.getElem?_eq_some_iff.mp hc
    have q := List.all_eq_true.mp ((Array.all_eq_true_iff_forall_mem.mp hF) _ (Array.getElem_mem ha)) i (List.mem_range.mpr hi)
    simpa [Array.getElem?_eq_getElem hi] using q
  obtain ⟨i0, ei0⟩ := is_v gi0
  obtain rfl : w0 = (.int i0) := Option.some.inj ei0
  obtain ⟨i1, ei1⟩ := is_v gi1
  obtain rfl : w1 = (.int i1) := Option.some.inj ei1
  obtain ⟨m0, r0⟩ := and_e hn
  obtain ⟨m1, r1⟩ := and_e r0
  obtain ⟨m2, r2⟩ := and_e r1
  obtain ⟨m3, r3⟩ := and_e r2
  obtain ⟨m4, r4⟩ := and_e r3
  obtain ⟨m5, r5⟩ := and_e r4
  obtain ⟨m6, r6⟩ := and_e r5
  obtain ⟨m7, r7⟩ := and_e r6
  obtain ⟨m8, r8⟩ := and_e r7
  obtain ⟨m9, r9⟩ := and_e r8
  obtain ⟨m10, r10⟩ := and_e r9
  obtain ⟨m11, r11⟩ := and_e r10
  obtain ⟨m12, r12⟩ := and_e r11
  obtain ⟨m13, r13⟩ := and_e r12
  obtain ⟨m14, r14⟩ := and_e r13
  obtain ⟨m15, r15⟩ := and_e r14
  obtain ⟨m16, r16⟩ := and_e r15
  obtain ⟨m17, r17⟩ := and_e r16
  obtain ⟨m18, r18⟩ := and_e r17
  obtain ⟨m19, r19⟩ := and_e r18
  obtain ⟨m20, r20⟩ := and_e r19
  obtain ⟨m21, r21⟩ := and_e r20
  obtain ⟨m22, r22⟩ := and_e r21
  obtain ⟨m23, r23⟩ := and_e r22
  obtain ⟨m24, r24⟩ := and_e r23
  obtain ⟨m25, r25⟩ := and_e r24
  obtain ⟨m26, r26⟩ := and_e r25
  obtain ⟨m27, r27⟩ := and_e r26
  obtain ⟨m28, r28⟩ := and_e r27
  obtain ⟨m29, r29⟩ := and_e r28
  obtain ⟨m30, r30⟩ := and_e r29
  obtain ⟨m31, r31⟩ := and_e r30
  obtain ⟨m32, r32⟩ := and_e r31
  obtain ⟨m33, r33⟩ := and_e r32
  obtain ⟨m34, r34⟩ := and_e r33
  obtain ⟨m35, r35⟩ := and_e r34
  obtain ⟨m36, r36⟩ := and_e r35
  obtain ⟨m37, r37⟩ := and_e r36
  obtain ⟨m38, r38⟩ := and_e r37
  obtain ⟨m39, r39⟩ := and_e r38
  obtain ⟨m40, r40⟩ := and_e r39
  obtain ⟨m41, r41⟩ := and_e r40
  obtain ⟨m42, r42⟩ := and_e r41
  obtain ⟨m43, r43⟩ := and_e r42
  obtain ⟨m44, r44⟩ := and_e r43
  obtain ⟨m45, r45⟩ := and_e r44
  obtain ⟨m46, r46⟩ := and_e r45
  obtain ⟨m47, r47⟩ := and_e r46
  obtain ⟨m48, r48⟩ := and_e r47
  obtain ⟨m49, r49⟩ := and_e r48
  obtain ⟨m50, r50⟩ := and_e r49
  obtain ⟨m51, r51⟩ := and_e r50
  obtain ⟨m52, r52⟩ := and_e r51
  obtain ⟨m53, r53⟩ := and_e r52
  obtain ⟨m54, r54⟩ := and_e r53
  obtain ⟨m55, r55⟩ := and_e r54
  have m56 := r55
  obtain ⟨w_ITEM, ev_ITEM, S_ITEM, E_ITEM⟩ := own_pin m0 (hw _ (List.mem_of_getElem? (i := 3) rfl)) (hw _ (List.mem_of_getElem? (i := 4) rfl))
  obtain ⟨w_ATOMIC, ev_ATOMIC, S_ATOMIC, E_ATOMIC⟩ := own_pin m1 (hw _ (List.mem_of_getElem? (i := 3) rfl)) (hw _ (List.mem_of_getElem? (i := 7) rfl))
  obtain ⟨w_STRING, ev_STRING, S_STRING, E_STRING⟩ := own_pin m2 (hw _ (List.mem_of_getElem? (i := 3) rfl)) (hw _ (List.mem_of_getElem? (i := 9) rfl))
  obtain ⟨w_NUMERIC, ev_NUMERIC, S_NUMERIC, E_NUMERIC⟩ := own_pin m3 (hw _ (List.mem_of_getElem? (i := 3) rfl)) (hw _ (List.mem_of_getElem? (i := 11) rfl))
  obtain ⟨w_DECIMAL, ev_DECIMAL, S_DECIMAL, E_DECIMAL⟩ := own_pin m4 (hw _ (List.mem_of_getElem? (i := 3) rfl)) (hw _ (List.mem_of_getElem? (i := 13) rfl))
  obtain ⟨w_INTEGER, ev_INTEGER, S_INTEGER, E_INTEGER⟩ := own_pin m5 (hw _ (List.mem_of_getElem? (i := 3) rfl)) (hw _ (List.mem_of_getElem? (i := 15) rfl))
  obtain ⟨w_DOUBLE, ev_DOUBLE, S_DOUBLE, E_DOUBLE⟩ := own_pin m6 (hw _ (List.mem_of_getElem? (i := 3) rfl)) (hw _ (List.mem_of_getElem? (i := 17) rfl))
  obtain ⟨w_BOOLEAN, ev_BOOLEAN, S_BOOLEAN, E_BOOLEAN⟩ := own_pin m7 (hw _ (List.mem_of_getElem? (i := 3) rfl)) (hw _ (List.mem_of_getElem? (i := 19) rfl))
  obtain ⟨w_DATE_TIME, ev_DATE_TIME, S_DATE_TIME, E_DATE_TIME⟩ := own_pin m8 (hw _ (List.mem_of_getElem? (i := 3) rfl)) (hw _ (List.mem_of_getElem? (i := 21) rfl))
  obtain ⟨w_DATE, ev_DATE, S_DATE, E_DATE⟩ := own_pin m9 (hw _ (List.mem_of_getElem? (i := 3) rfl)) (hw _ (List.mem_of_getElem? (i := 23) rfl))
  obtain ⟨w_TIME, ev_TIME, S_TIME, E_TIME⟩ := own_pin m10 (hw _ (List.mem_of_getElem? (i := 3) rfl)) (hw _ (List.mem_of_getElem? (i := 25) rfl))
  obtain ⟨w_DURATION, ev_DURATION, S_DURATION, E_DURATION⟩ := own_pin m11 (hw _ (List.mem_of_getElem? (i := 3) rfl)) (hw _ (List.mem_of_getElem? (i := 27) rfl))
  obtain ⟨w_YEAR_MONTH_DURATION, ev_YEAR_MONTH_DURATION, S_YEAR_MONTH_DURATION, E_YEAR_MONTH_DURATION⟩ := own_pin m12 (hw _ (List.mem_of_getElem? (i := 3) rfl)) (hw _ (List.mem_of_getElem? (i := 29) rfl))
  obtain ⟨w_DAY_TIME_DURATION, ev_DAY_TIME_DURATION, S_DAY_TIME_DURATION, E_DAY_TIME_DURATION⟩ := own_pin m13 (hw _ (List.mem_of_getElem? (i := 3) rfl)) (hw _ (List.mem_of_getElem? (i := 31) rfl))
  obtain ⟨w_NULL, ev_NULL, S_NULL, E_NULL⟩ := own_pin m14 (hw _ (List.mem_of_getElem? (i := 3) rfl)) (hw _ (List.mem_of_getElem? (i := 33) rfl))
  obtain ⟨w_JSON_ITEM, ev_JSON_ITEM, S_JSON_ITEM, E_JSON_ITEM⟩ := own_pin m15 (hw _ (List.mem_of_getElem? (i := 3) rfl)) (hw _ (List.mem_of_getElem? (i := 35) rfl))
  obtain ⟨w_OBJECT, ev_OBJECT, S_OBJECT, E_OBJECT⟩ := own_pin m16 (hw _ (List.mem_of_getElem? (i := 3) rfl)) (hw _ (List.mem_of_getElem? (i := 37) rfl))
  obtain ⟨w_ARRAY, ev_ARRAY, S_ARRAY, E_ARRAY⟩ := own_pin m17 (hw _ (List.mem_of_getElem? (i := 3) rfl)) (hw _ (List.mem_of_getElem? (i := 39) rfl))
  obtain ⟨w_FUNCTION, ev_FUNCTION, S_FUNCTION, E_FUNCTION⟩ := own_pin m18 (hw _ (List.mem_of_getElem? (i := 3) rfl)) (hw _ (List.mem_of_getElem? (i := 41) rfl))
  have o_NUMERIC_ordinal := own_fld ev_NUMERIC m19
  have o_ITEM_ordinal := own_fld ev_ITEM m20
  have o_ATOMIC_ordinal := own_fld ev_ATOMIC m22
  have o_NULL_ordinal := own_fld ev_NULL m24
  have o_ARRAY_ordinal := own_fld ev_ARRAY m26
  have o_DAY_TIME_DURATION_ordinal := own_fld ev_DAY_TIME_DURATION m27
  have o_JSON_ITEM_ordinal := own_fld ev_JSON_ITEM m29
  have o_STRING_ordinal := own_fld ev_STRING m31
  have o_DATE_ordinal := own_fld ev_DATE m32
  have o_DURATION_ordinal := own_fld ev_DURATION m34
  have o_TIME_ordinal := own_fld ev_TIME m36
  have o_DOUBLE_ordinal := own_fld ev_DOUBLE m37
  have o_DATE_TIME_ordinal := own_fld ev_DATE_TIME m39
  have o_INTEGER_ordinal := own_fld ev_INTEGER m41
  have o_YEAR_MONTH_DURATION_ordinal := own_fld ev_YEAR_MONTH_DURATION m42
  have o_DECIMAL_ordinal := own_fld ev_DECIMAL m44
  have o_BOOLEAN_ordinal := own_fld ev_BOOLEAN m46
  have o_OBJECT_ordinal := own_fld ev_OBJECT m47
  have o_FUNCTION_ordinal := own_fld ev_FUNCTION m51
  have f_ITEM := own_ref ev_ITEM (show (Jvm.Term.null).eval _ s none [] s = some .null from rfl) rfl m25
  have f_ATOMIC := own_ref ev_ATOMIC ev_ITEM rfl m23
  have f_STRING := own_ref ev_STRING ev_ATOMIC rfl m40
  have f_NUMERIC := own_ref ev_NUMERIC ev_ATOMIC rfl m21
  have f_DECIMAL := own_ref ev_DECIMAL ev_NUMERIC rfl m45
  have f_INTEGER := own_ref ev_INTEGER ev_DECIMAL rfl m43
  have f_DOUBLE := own_ref ev_DOUBLE ev_NUMERIC rfl m53
  have f_BOOLEAN := own_ref ev_BOOLEAN ev_ATOMIC rfl m50
  have f_DATE_TIME := own_ref ev_DATE_TIME ev_ATOMIC rfl m48
  have f_DATE := own_ref ev_DATE ev_ATOMIC rfl m49
  have f_TIME := own_ref ev_TIME ev_ATOMIC rfl m38
  have f_DURATION := own_ref ev_DURATION ev_ATOMIC rfl m35
  have f_YEAR_MONTH_DURATION := own_ref ev_YEAR_MONTH_DURATION ev_DURATION rfl m55
  have f_DAY_TIME_DURATION := own_ref ev_DAY_TIME_DURATION ev_DURATION rfl m33
  have f_NULL := own_ref ev_NULL ev_ATOMIC rfl m54
  have f_JSON_ITEM := own_ref ev_JSON_ITEM ev_ITEM rfl m30
  have f_OBJECT := own_ref ev_OBJECT ev_JSON_ITEM rfl m56
  have f_ARRAY := own_ref ev_ARRAY ev_JSON_ITEM rfl m28
  have f_FUNCTION := own_ref ev_FUNCTION ev_ITEM rfl m52
  let w : Fin 19 → Addr := fun i => [w_ITEM, w_ATOMIC, w_STRING, w_NUMERIC, w_DECIMAL, w_INTEGER, w_DOUBLE, w_BOOLEAN, w_DATE_TIME, w_DATE, w_TIME, w_DURATION, w_YEAR_MONTH_DURATION, w_DAY_TIME_DURATION, w_NULL, w_JSON_ITEM, w_OBJECT, w_ARRAY, w_FUNCTION].getD i.val 0
  have ho : ∀ (i : Nat) (hi : i < 19), s.fieldOf? (w ⟨i, hi⟩) "java/lang/Enum" "ordinal" "I" = some (.int (Int32.ofNat i))
    | 0, _ => o_ITEM_ordinal
    | 1, _ => o_ATOMIC_ordinal
    | 2, _ => o_STRING_ordinal
    | 3, _ => o_NUMERIC_ordinal
    | 4, _ => o_DECIMAL_ordinal
    | 5, _ => o_INTEGER_ordinal
    | 6, _ => o_DOUBLE_ordinal
    | 7, _ => o_BOOLEAN_ordinal
    | 8, _ => o_DATE_TIME_ordinal
    | 9, _ => o_DATE_ordinal
    | 10, _ => o_TIME_ordinal
    | 11, _ => o_DURATION_ordinal
    | 12, _ => o_YEAR_MONTH_DURATION_ordinal
    | 13, _ => o_DAY_TIME_DURATION_ordinal
    | 14, _ => o_NULL_ordinal
    | 15, _ => o_JSON_ITEM_ordinal
    | 16, _ => o_OBJECT_ordinal
    | 17, _ => o_ARRAY_ordinal
    | 18, _ => o_FUNCTION_ordinal
    | n + 19, h => absurd h (by omega)
  have hE : ∀ (i : Nat) (hi : i < 19), Exa s s.heap (w ⟨i, hi⟩) "com/example/gridloom/gridloom/mapping/ItemType"
    | 0, _ => E_ITEM
    | 1, _ => E_ATOMIC
    | 2, _ => E_STRING
    | 3, _ => E_NUMERIC
    | 4, _ => E_DECIMAL
    | 5, _ => E_INTEGER
    | 6, _ => E_DOUBLE
    | 7, _ => E_BOOLEAN
    | 8, _ => E_DATE_TIME
    | 9, _ => E_DATE
    | 10, _ => E_TIME
    | 11, _ => E_DURATION
    | 12, _ => E_YEAR_MONTH_DURATION
    | 13, _ => E_DAY_TIME_DURATION
    | 14, _ => E_NULL
    | 15, _ => E_JSON_ITEM
    | 16, _ => E_OBJECT
    | 17, _ => E_ARRAY
    | 18, _ => E_FUNCTION
    | n + 19, h => absurd h (by omega)
  have inj : ∀ i j : Fin 19, w i = w j → i = j := fun i j e => by
    have q1 := ho i.val i.isLt
    have q2 := ho j.val j.isLt
    rw [show (⟨i.val, i.isLt⟩ : Fin 19) = i from rfl, e] at q1
    have q3 := Value.int.inj (Option.some.inj (q1.symm.trans q2))
    have q4 := congrArg Int32.toInt q3
    rw [Int32.toInt_ofNat_small (by omega), Int32.toInt_ofNat_small (by omega)] at q4
    exact Fin.ext (by omega)
  obtain ⟨n, o, h1, h2, h3, _, L, rfl, ⟨rfl, N⟩, hq⟩ := rm_lawj l s _ hw tables_1 i0 i1 w s.heap s.heap.size (Nat.le_refl _) S_ITEM S_ATOMIC S_STRING S_NUMERIC S_DECIMAL S_INTEGER S_DOUBLE S_BOOLEAN S_DATE_TIME S_DATE S_TIME S_DURATION S_YEAR_MONTH_DURATION S_DAY_TIME_DURATION S_NULL S_JSON_ITEM S_OBJECT S_ARRAY S_FUNCTION ⟨rfl, fun i => hE i.val i.isLt⟩ (own_chain w f_ITEM f_ATOMIC f_STRING f_NUMERIC f_DECIMAL f_INTEGER f_DOUBLE f_BOOLEAN f_DATE_TIME f_DATE f_TIME f_DURATION f_YEAR_MONTH_DURATION f_DAY_TIME_DURATION f_NULL f_JSON_ITEM f_OBJECT f_ARRAY f_FUNCTION) inj p e ha hc hk s m _ below hf ((Spec.applies_iff_loose hf).mp happ).1 ⟨rfl, State.Warmed39.refl s, rfl⟩ trivial
  refine ⟨n, _, h1, h2, h3, hpost _ _ _ _ _ _ ⟨Cond.after_iff.mpr rfl, Cond.after_iff.mpr (eq_i res_at (Term.int_eval (1)) rfl), trivial⟩ ⟨hq.1, hq.2.1, (hq.2.2.sift fun y hy => Or.inr (N y hy)).mono (by decide) (by decide)⟩⟩
theorem main_1_1 : Claimed_1_1 := comes_1 fun _ _ _ _ _ _ h hF => ⟨h.1, hF⟩
theorem main_1_2 : Claimed_1_2 := comes_1 fun _ _ _ _ _ _ h hF => ⟨h.2.1, hF⟩
end Jvm.Pilot.@@N@@
namespace Jvm.Pilot.@@N@@
open Jvm Jvm.ClassFile Sem Op Lib Jvm.Free Jvm.Stand Jvm.Pilot.@@N@@.Jvm.D
/-! MADE BY PROGRAM (witnessworld.py) out of the Statement's table words and the real class files: 13 classes; the members and pool entries that the words name. The judged class is class 1, her method 1. -/
namespace start1
open Jvm.ClassFile
def u (s : String) : CpInfo := .utf8 (stringToUtf16 s)
/-- a pool by its gaps: so many unusable entries, then the entry; so many at the end -/
def gap : Nat → List CpInfo → List CpInfo
  | 0, r => r
  | n + 1, r => .unusable :: gap n r
def poolList (es : List (Nat × CpInfo)) (last : Nat) : List CpInfo := es.foldr (fun e r => gap e.1 (e.2 :: r)) (gap last [])
def pool (es : List (Nat × CpInfo)) (last : Nat) : Array CpInfo := ⟨poolList es last⟩
def fileOf (pool : Array CpInfo) (this : Nat) (attrs : Array Attribute := #[]) (ms : Array MethodInfo := #[]) (fl : Nat := 33) (sup : Nat := 0) (ifs : Array Nat := #[]) (fds : Array FieldInfo := #[]) : ClassFile where
  minorVersion := 0
  majorVersion := 65
  constantPool := pool
  accessFlags := fl
  thisClass := this
  superClass := sup
  interfaces := ifs
  fields := fds
  methods := ms
  attributes := attrs
def plain (name : String) (sup : Option ClassId) : Class where
  name := name
  kind := .ordinary
  loader := none
  accessFlags := 33
  super := sup
  interfaces := #[]
  cf := none
  fields := #[]
  methods := #[]
  instanceTypes := #[]
  staticTypes := #[]
  resolved := #[]
  callSites := []
  init := .initialized
  statics := none
  mirror := none

def pool0 : Array CpInfo := pool [(5, u "<init>"), (0, u "()V"), (1, .class_ 10), (1, u "java/lang/Object")] 113

def k0m0 : Method := { name := "<init>", desc := "()V", sig := { parameters := [], returnType := none }, accessFlags := 1, code := none }
/-- java/lang/Object -/
def k0 : Class := { plain "java/lang/Object" none with
  accessFlags := 33
  interfaces := #[]
  cf := some (fileOf pool0 8 #[] #[{ accessFlags := 1, nameIndex := 5, descriptorIndex := 6, attributes := #[] }] 33 0 #[] #[])
  fields := #[]
  methods := #[k0m0]
  instanceTypes := #[]
  staticTypes := #[]
  resolved := Array.replicate 124 none
  statics := none }

def pool1 : Array CpInfo := pool [(2, .class_ 4), (1, u "java/lang/Object"), (0, u "<init>"), (0, u "()V"), (0, .class_ 8), (0, u "com/example/gridloom/gridloom/mapping/ItemType"), (0, .fieldref 7 10), (0, .nameAndType 11 12), (0, u "ITEM"), (0, u "Lcom/example/gridloom/gridloom/mapping/ItemType;"), (0, .fieldref 7 14), (0, .nameAndType 15 12), (0, u "ATOMIC"), (0, .fieldref 7 17), (0, .nameAndType 18 12), (0, u "STRING"), (0, .fieldref 7 20), (0, .nameAndType 21 12), (0, u "NUMERIC"), (0, .fieldref 7 23), (0, .nameAndType 24 12), (0, u "DECIMAL"), (0, .fieldref 7 26), (0, .nameAndType 27 12), (0, u "INTEGER"), (0, .fieldref 7 29), (0, .nameAndType 30 12), (0, u "DOUBLE"), (0, .fieldref 7 32), (0, .nameAndType 33 12), (0, u "BOOLEAN"), (0, .fieldref 7 35), (0, .nameAndType 36 12), (0, u "DATE_TIME"), (0, .fieldref 7 38), (0, .nameAndType 39 12), (0, u "DATE"), (0, .fieldref 7 41), (0, .nameAndType 42 12), (0, u "TIME"), (0, .fieldref 7 44), (0, .nameAndType 45 12), (0, u "DURATION"), (0, .fieldref 7 47), (0, .nameAndType 48 12), (0, u "YEAR_MONTH_DURATION"), (0, .fieldref 7 50), (0, .nameAndType 51 12), (0, u "DAY_TIME_DURATION"), (0, .fieldref 7 53), (0, .nameAndType 54 12), (0, u "NULL"), (0, .fieldref 7 56), (0, .nameAndType 57 12), (0, u "JSON_ITEM"), (0, .fieldref 7 59), (0, .nameAndType 60 12), (0, u "OBJECT"), (0, .fieldref 7 62), (0, .nameAndType 63 12), (0, u "ARRAY"), (0, .fieldref 7 65), (0, .nameAndType 66 12), (0, u "FUNCTION"), (0, .integer 32769), (0, .integer 98305), (0, .integer 163841), (0, .integer 262145), (0, .integer 2147483647), (0, .methodref 7 73), (0, .nameAndType 74 75), (0, u "includes"), (0, u "(Lcom/example/gridloom/gridloom/mapping/ItemType;)Z"), (0, .class_ 77), (0, u "com/example/gridloom/gridloom/mapping/ItemTypeIncludesPinLaw"), (2, u "law"), (0, u "(II)Z")] 7

def k1m0 : Method := { name := "<init>", desc := "()V", sig := { parameters := [], returnType := none }, accessFlags := 1, code := none }
def k1c1 : Code := { maxStack := 4, maxLocals := 7, code := code, exceptionTable := #[], attributes := #[] }
def k1m1 : Method := { name := "law", desc := "(II)Z", sig := { parameters := [.int, .int], returnType := some .boolean }, accessFlags := 9, code := some k1c1 }
/-- com/example/gridloom/gridloom/mapping/ItemTypeIncludesPinLaw -/
def k1 : Class := { plain "com/example/gridloom/gridloom/mapping/ItemTypeIncludesPinLaw" (some 0) with
  accessFlags := 49
  interfaces := #[]
  cf := some (fileOf pool1 76 #[] #[{ accessFlags := 1, nameIndex := 5, descriptorIndex := 6, attributes := #[] }, { accessFlags := 9, nameIndex := 80, descriptorIndex := 81, attributes := #[] }] 49 2 #[] #[])
  fields := #[]
  methods := #[k1m0, k1m1]
  instanceTypes := #[]
  staticTypes := #[]
  resolved := Array.replicate 89 none
  statics := none }

def pool2 : Array CpInfo := pool [(1, .class_ 2), (0, u "java/lang/constant/Constable"), (0, .class_ 4), (0, u "java/lang/Object")] 6

/-- java/lang/constant/Constable -/
def k2 : Class := { plain "java/lang/constant/Constable" (some 0) with
  accessFlags := 1537
  interfaces := #[]
  cf := some (fileOf pool2 1 #[] #[] 1537 3 #[] #[])
  fields := #[]
  methods := #[]
  instanceTypes := #[]
  staticTypes := #[]
  resolved := Array.replicate 11 none
  statics := none }

def pool3 : Array CpInfo := pool [(1, .class_ 2), (0, u "java/lang/Comparable"), (0, .class_ 4), (0, u "java/lang/Object")] 7

/-- java/lang/Comparable -/
def k3 : Class := { plain "java/lang/Comparable" (some 0) with
  accessFlags := 1537
  interfaces := #[]
  cf := some (fileOf pool3 1 #[] #[] 1537 3 #[] #[])
  fields := #[]
  methods := #[]
  instanceTypes := #[]
  staticTypes := #[]
  resolved := Array.replicate 12 none
  statics := none }

def pool4 : Array CpInfo := pool [(1, .class_ 2), (0, u "java/io/Serializable"), (0, .class_ 4), (0, u "java/lang/Object")] 2

/-- java/io/Serializable -/
def k4 : Class := { plain "java/io/Serializable" (some 0) with
  accessFlags := 1537
  interfaces := #[]
  cf := some (fileOf pool4 1 #[] #[] 1537 3 #[] #[])
  fields := #[]
  methods := #[]
  instanceTypes := #[]
  staticTypes := #[]
  resolved := Array.replicate 7 none
  statics := none }

def pool5 : Array CpInfo := pool [(2, .class_ 4), (1, u "java/lang/Enum"), (0, u "name"), (0, u "Ljava/lang/String;"), (2, u "ordinal"), (0, u "I"), (1, .class_ 14), (1, u "java/lang/Object"), (4, u "hash"), (86, .class_ 108), (1, u "java/lang/Enum$EnumDesc"), (2, .class_ 112), (0, u "java/lang/constant/Constable"), (0, .class_ 114), (0, u "java/lang/Comparable"), (0, .class_ 116), (0, u "java/io/Serializable")] 87

/-- java/lang/Enum -/
def k5 : Class := { plain "java/lang/Enum" (some 0) with
  accessFlags := 1057
  interfaces := #[2, 3, 4]
  cf := some (fileOf pool5 2 #[.nestMembers #[106]] #[] 1057 12 #[111, 113, 115] #[{ accessFlags := 18, nameIndex := 5, descriptorIndex := 6, attributes := #[] }, { accessFlags := 18, nameIndex := 9, descriptorIndex := 10, attributes := #[] }, { accessFlags := 2, nameIndex := 19, descriptorIndex := 10, attributes := #[] }])
  fields := #[{ name := "name", type := (.object "java/lang/String"), accessFlags := 18, slot := 0, constantValue := 0 }, { name := "ordinal", type := .int, accessFlags := 18, slot := 1, constantValue := 0 }, { name := "hash", type := .int, accessFlags := 2, slot := 2, constantValue := 0 }]
  methods := #[]
  instanceTypes := #[(.object "java/lang/String"), .int, .int]
  staticTypes := #[]
  resolved := Array.replicate 204 none
  statics := none }

def pool6 : Array CpInfo := pool [(1, .class_ 2), (0, u "com/example/gridloom/gridloom/mapping/ItemType"), (2, u "ITEM"), (0, u "Lcom/example/gridloom/gridloom/mapping/ItemType;"), (2, u "ATOMIC"), (2, u "STRING"), (2, u "NUMERIC"), (2, u "DECIMAL"), (2, u "INTEGER"), (2, u "DOUBLE"), (2, u "BOOLEAN"), (2, u "DATE_TIME"), (2, u "DATE"), (2, u "TIME"), (2, u "DURATION"), (2, u "YEAR_MONTH_DURATION"), (2, u "DAY_TIME_DURATION"), (2, u "NULL"), (2, u "JSON_ITEM"), (2, u "OBJECT"), (2, u "ARRAY"), (2, u "FUNCTION"), (2, u "$VALUES"), (0, u "[Lcom/example/gridloom/gridloom/mapping/ItemType;"), (6, .class_ 73), (1, u "java/lang/Enum"), (6, .fieldref 1 81), (0, .nameAndType 82 6), (0, u "_parent"), (2, u "_names"), (0, u "[Ljava/lang/String;"), (18, u "includes"), (0, u "(Lcom/example/gridloom/gridloom/mapping/ItemType;)Z")] 142

def k6c0 : Code := { maxStack := 2, maxLocals := 3, code := prog_81_method_6_code, exceptionTable := #[], attributes := #[] }
def k6m0 : Method := { name := "includes", desc := "(Lcom/example/gridloom/gridloom/mapping/ItemType;)Z", sig := { parameters := [(.object "com/example/gridloom/gridloom/mapping/ItemType")], returnType := some .boolean }, accessFlags := 0, code := some k6c0 }
/-- com/example/gridloom/gridloom/mapping/ItemType -/
def k6 : Class := { plain "com/example/gridloom/gridloom/mapping/ItemType" (some 5) with
  accessFlags := 16432
  interfaces := #[]
  cf := some (fileOf pool6 1 #[] #[{ accessFlags := 0, nameIndex := 105, descriptorIndex := 106, attributes := #[] }] 16432 71 #[] #[{ accessFlags := 16409, nameIndex := 5, descriptorIndex := 6, attributes := #[] }, { accessFlags := 16409, nameIndex := 9, descriptorIndex := 6, attributes := #[] }, { accessFlags := 16409, nameIndex := 12, descriptorIndex := 6, attributes := #[] }, { accessFlags := 16409, nameIndex := 15, descriptorIndex := 6, attributes := #[] }, { accessFlags := 16409, nameIndex := 18, descriptorIndex := 6, attributes := #[] }, { accessFlags := 16409, nameIndex := 21, descriptorIndex := 6, attributes := #[] }, { accessFlags := 16409, nameIndex := 24, descriptorIndex := 6, attributes := #[] }, { accessFlags := 16409, nameIndex := 27, descriptorIndex := 6, attributes := #[] }, { accessFlags := 16409, nameIndex := 30, descriptorIndex := 6, attributes := #[] }, { accessFlags := 16409, nameIndex := 33, descriptorIndex := 6, attributes := #[] }, { accessFlags := 16409, nameIndex := 36, descriptorIndex := 6, attributes := #[] }, { accessFlags := 16409, nameIndex := 39, descriptorIndex := 6, attributes := #[] }, { accessFlags := 16409, nameIndex := 42, descriptorIndex := 6, attributes := #[] }, { accessFlags := 16409, nameIndex := 45, descriptorIndex := 6, attributes := #[] }, { accessFlags := 16409, nameIndex := 48, descriptorIndex := 6, attributes := #[] }, { accessFlags := 16409, nameIndex := 51, descriptorIndex := 6, attributes := #[] }, { accessFlags := 16409, nameIndex := 54, descriptorIndex := 6, attributes := #[] }, { accessFlags := 16409, nameIndex := 57, descriptorIndex := 6, attributes := #[] }, { accessFlags := 16409, nameIndex := 60, descriptorIndex := 6, attributes := #[] }, { accessFlags := 18, nameIndex := 82, descriptorIndex := 6, attributes := #[] }, { accessFlags := 18, nameIndex := 85, descriptorIndex := 86, attributes := #[] }, { accessFlags := 4122, nameIndex := 63, descriptorIndex := 64, attributes := #[] }])
  fields := #[{ name := "ITEM", type := (.object "com/example/gridloom/gridloom/mapping/ItemType"), accessFlags := 16409, slot := 0, constantValue := 0 }, { name := "ATOMIC", type := (.object "com/example/gridloom/gridloom/mapping/ItemType"), accessFlags := 16409, slot := 1, constantValue := 0 }, { name := "STRING", type := (.object "com/example/gridloom/gridloom/mapping/ItemType"), accessFlags := 16409, slot := 2, constantValue := 0 }, { name := "NUMERIC", type := (.object "com/example/gridloom/gridloom/mapping/ItemType"), accessFlags := 16409, slot := 3, constantValue := 0 }, { name := "DECIMAL", type := (.object "com/example/gridloom/gridloom/mapping/ItemType"), accessFlags := 16409, slot := 4, constantValue := 0 }, { name := "INTEGER", type := (.object "com/example/gridloom/gridloom/mapping/ItemType"), accessFlags := 16409, slot := 5, constantValue := 0 }, { name := "DOUBLE", type := (.object "com/example/gridloom/gridloom/mapping/ItemType"), accessFlags := 16409, slot := 6, constantValue := 0 }, { name := "BOOLEAN", type := (.object "com/example/gridloom/gridloom/mapping/ItemType"), accessFlags := 16409, slot := 7, constantValue := 0 }, { name := "DATE_TIME", type := (.object "com/example/gridloom/gridloom/mapping/ItemType"), accessFlags := 16409, slot := 8, constantValue := 0 }, { name := "DATE", type := (.object "com/example/gridloom/gridloom/mapping/ItemType"), accessFlags := 16409, slot := 9, constantValue := 0 }, { name := "TIME", type := (.object "com/example/gridloom/gridloom/mapping/ItemType"), accessFlags := 16409, slot := 10, constantValue := 0 }, { name := "DURATION", type := (.object "com/example/gridloom/gridloom/mapping/ItemType"), accessFlags := 16409, slot := 11, constantValue := 0 }, { name := "YEAR_MONTH_DURATION", type := (.object "com/example/gridloom/gridloom/mapping/ItemType"), accessFlags := 16409, slot := 12, constantValue := 0 }, { name := "DAY_TIME_DURATION", type := (.object "com/example/gridloom/gridloom/mapping/ItemType"), accessFlags := 16409, slot := 13, constantValue := 0 }, { name := "NULL", type := (.object "com/example/gridloom/gridloom/mapping/ItemType"), accessFlags := 16409, slot := 14, constantValue := 0 }, { name := "JSON_ITEM", type := (.object "com/example/gridloom/gridloom/mapping/ItemType"), accessFlags := 16409, slot := 15, constantValue := 0 }, { name := "OBJECT", type := (.object "com/example/gridloom/gridloom/mapping/ItemType"), accessFlags := 16409, slot := 16, constantValue := 0 }, { name := "ARRAY", type := (.object "com/example/gridloom/gridloom/mapping/ItemType"), accessFlags := 16409, slot := 17, constantValue := 0 }, { name := "FUNCTION", type := (.object "com/example/gridloom/gridloom/mapping/ItemType"), accessFlags := 16409, slot := 18, constantValue := 0 }, { name := "_parent", type := (.object "com/example/gridloom/gridloom/mapping/ItemType"), accessFlags := 18, slot := 3, constantValue := 0 }, { name := "_names", type := (.array (.object "java/lang/String")), accessFlags := 18, slot := 4, constantValue := 0 }, { name := "$VALUES", type := (.array (.object "com/example/gridloom/gridloom/mapping/ItemType")), accessFlags := 4122, slot := 19, constantValue := 0 }]
  methods := #[k6m0]
  instanceTypes := #[(.object "java/lang/String"), .int, .int, (.object "com/example/gridloom/gridloom/mapping/ItemType"), (.array (.object "java/lang/String"))]
  staticTypes := #[(.object "com/example/gridloom/gridloom/mapping/ItemType"), (.object "com/example/gridloom/gridloom/mapping/ItemType"), (.object "com/example/gridloom/gridloom/mapping/ItemType"), (.object "com/example/gridloom/gridloom/mapping/ItemType"), (.object "com/example/gridloom/gridloom/mapping/ItemType"), (.object "com/example/gridloom/gridloom/mapping/ItemType"), (.object "com/example/gridloom/gridloom/mapping/ItemType"), (.object "com/example/gridloom/gridloom/mapping/ItemType"), (.object "com/example/gridloom/gridloom/mapping/ItemType"), (.object "com/example/gridloom/gridloom/mapping/ItemType"), (.object "com/example/gridloom/gridloom/mapping/ItemType"), (.object "com/example/gridloom/gridloom/mapping/ItemType"), (.object "com/example/gridloom/gridloom/mapping/ItemType"), (.object "com/example/gridloom/gridloom/mapping/ItemType"), (.object "com/example/gridloom/gridloom/mapping/ItemType"), (.object "com/example/gridloom/gridloom/mapping/ItemType"), (.object "com/example/gridloom/gridloom/mapping/ItemType"), (.object "com/example/gridloom/gridloom/mapping/ItemType"), (.object "com/example/gridloom/gridloom/mapping/ItemType"), (.array (.object "com/example/gridloom/gridloom/mapping/ItemType"))]
  resolved := Array.replicate 249 none
  statics := some 0 }

def pool7 : Array CpInfo := pool [(1, u "java/lang/Cloneable"), (0, .class_ 1), (0, u "java/lang/Object"), (0, .class_ 3)] 3

/-- java/lang/Cloneable -/
def k7 : Class := { plain "java/lang/Cloneable" (some 0) with
  accessFlags := 1537
  interfaces := #[]
  cf := some (fileOf pool7 2 #[] #[] 1537 4 #[] #[])
  fields := #[]
  methods := #[]
  instanceTypes := #[]
  staticTypes := #[]
  resolved := Array.replicate 8 none
  statics := none }

/-- the primitive byte -/
def k8 : Class := { plain "byte" none with kind := .primitive 'B', accessFlags := 0x411 }
/-- [B -/
def k9 : Class := { plain "[B" (some 0) with kind := .array 8 .byte, interfaces := #[7, 4], accessFlags := 1041 }

/-- the primitive int -/
def k10 : Class := { plain "int" none with kind := .primitive 'I', accessFlags := 0x411 }
/-- [I -/
def k11 : Class := { plain "[I" (some 0) with kind := .array 10 .int, interfaces := #[7, 4], accessFlags := 1041 }

/-- [Lcom/example/gridloom/gridloom/mapping/ItemType; -/
def k12 : Class := { plain "[Lcom/example/gridloom/gridloom/mapping/ItemType;" (some 0) with kind := .array 6 (.object "com/example/gridloom/gridloom/mapping/ItemType"), interfaces := #[7, 4], accessFlags := 1041 }

def heap : Heap := #[{ cls := 6, slots := #[.ref 1, .ref 2, .ref 3, .ref 4, .ref 5, .ref 6, .ref 7, .ref 8, .ref 9, .ref 10, .ref 11, .ref 12, .ref 13, .ref 14, .ref 15, .ref 16, .ref 17, .ref 18, .ref 19, .null], vm := .statics 6 },
  { cls := 6, slots := #[.null, .int 0, .int 0, .null, .null], vm := .none },
  { cls := 6, slots := #[.null, .int 1, .int 0, .ref 1, .null], vm := .none },
  { cls := 6, slots := #[.null, .int 2, .int 0, .ref 2, .null], vm := .none },
  { cls := 6, slots := #[.null, .int 3, .int 0, .ref 2, .null], vm := .none },
  { cls := 6, slots := #[.null, .int 4, .int 0, .ref 4, .null], vm := .none },
  { cls := 6, slots := #[.null, .int 5, .int 0, .ref 5, .null], vm := .none },
  { cls := 6, slots := #[.null, .int 6, .int 0, .ref 4, .null], vm := .none },
  { cls := 6, slots := #[.null, .int 7, .int 0, .ref 2, .null], vm := .none },
  { cls := 6, slots := #[.null, .int 8, .int 0, .ref 2, .null], vm := .none },
  { cls := 6, slots := #[.null, .int 9, .int 0, .ref 2, .null], vm := .none },
  { cls := 6, slots := #[.null, .int 10, .int 0, .ref 2, .null], vm := .none },
  { cls := 6, slots := #[.null, .int 11, .int 0, .ref 2, .null], vm := .none },
  { cls := 6, slots := #[.null, .int 12, .int 0, .ref 12, .null], vm := .none },
  { cls := 6, slots := #[.null, .int 13, .int 0, .ref 12, .null], vm := .none },
  { cls := 6, slots := #[.null, .int 14, .int 0, .ref 2, .null], vm := .none },
  { cls := 6, slots := #[.null, .int 15, .int 0, .ref 1, .null], vm := .none },
  { cls := 6, slots := #[.null, .int 16, .int 0, .ref 16, .null], vm := .none },
  { cls := 6, slots := #[.null, .int 17, .int 0, .ref 16, .null], vm := .none },
  { cls := 6, slots := #[.null, .int 18, .int 0, .ref 1, .null], vm := .none }]
def classes : Array Class := #[k0, k1, k2, k3, k4, k5, k6, k7, k8, k9, k10, k11, k12]
def interned : List (Array UInt16 × Addr) := []
def slotsUsed : Nat := 115
def theMethod : MethodId := ⟨1, 1⟩
def args0 : Array Value := #[.int 5, .int 7]
def aboutOver (below : List Frame) : State where
  vm := { classes := classes, interned := interned.toArray }
  heap := heap
  slotsUsed := slotsUsed
  threads := #[{ frames := .invoking theMethod args0 :: below }]
def below0 : List Frame := [.native { method := ⟨0, 0⟩, args := #[] }]
def about1 : State := aboutOver below0
def p0 : Program := .bare "" "" ""
def e0 : Env := launch0.env 0 0 0
theorem w_frames : about1.frames = Frame.invoking theMethod args0 :: below0 := rfl
set_option maxRecDepth 65536 in
theorem w_args : argsFit about1.vm theMethod args0 = true := by decide +kernel
set_option maxRecDepth 65536 in
theorem w_heap : heapFits about1 = true := by decide +kernel
set_option maxRecDepth 65536 in
theorem w_runnable : about1.curStatus? = some .runnable := by decide +kernel
set_option maxRecDepth 65536 in
theorem w_alone : about1.alone = true := by decide +kernel
set_option maxRecDepth 65536 in
theorem w_named : about1.methodNamed? x = some theMethod := by decide +kernel
set_option maxRecDepth 65536 in
theorem w_hears : about1.hears theMethod below0 = true := by decide +kernel
set_option maxRecDepth 65536 in
theorem w_ripe : about1.ripe theMethod args0 below0 = true := by decide +kernel
theorem w_running : about1.status = .running := rfl
set_option maxRecDepth 65536 in
theorem w_room : about1.hasRoom e0.platform room_1 = true :=
  launch0.hasRoom_least _ room_1 (by decide +kernel) (by decide +kernel) (by decide +kernel) (by decide +kernel) (by decide +kernel) (by decide +kernel)
theorem allAtoms_all (ts : List Jvm.Cond) (a : Array Jvm.Value) (st : Jvm.State) : (allAtoms ts).before a st = ts.all (fun c => c.before a st) := by
  induction ts with
  | nil => rfl
  | cons c t ih =>
    show (Jvm.Cond.and c (allAtoms t)).before a st = _
    rw [Jvm.Cond.before_and, ih, List.all_cons]
def words1 : List Jvm.Cond := Jvm.Cond.code x code maxLocals ret :: tables_1
/-- a 'code' word, met by the world's own term for the bytes: nothing is compared byte by byte -/
theorem code_word {y : MethodName} {bytes : ByteArray} {mx : Nat} {rt : Option FieldType} {a : Array Value} {s : State} {m : MethodId} {meth : Method} {c : Code} (h1 : s.methodNamed? y = some m) (h2 : s.vm.method? m = some meth) (h3 : meth.code = some c) (h4 : c.code = bytes)
    (h5 : (c.maxLocals == mx && c.exceptionTable.isEmpty && decide (c.maxStack ≤ mostOperands) && decide (meth.sig.returnType = rt) && !meth.locks && decide (parseMethodDescriptor y.desc = some meth.sig)) = true) : (Jvm.Cond.code y bytes mx rt).before a s = true := by
  simp only [Bool.and_eq_true, beq_iff_eq, Bool.not_eq_true', decide_eq_true_eq] at h5
  obtain ⟨⟨⟨⟨⟨g1, g2⟩, g3⟩, g4⟩, g5⟩, g6⟩ := h5
  simp [Cond.before, Cond.holds, Cond.value, h1, h2, h3, h4, g1, g2, g3, g4, g5, g6]
def isCode : Jvm.Cond → Bool
  | .code _ _ _ _ => true
  | _ => false
theorem all_split {L : List Jvm.Cond} {P : Jvm.Cond → Bool} (h1 : L.all (fun c => isCode c || P c) = true) (h2 : ∀ c ∈ L.filter isCode, P c = true) : L.all P = true := by
  refine List.all_eq_true.mpr fun c hc => ?_
  have h := List.all_eq_true.mp h1 c hc
  rcases Bool.eq_false_or_eq_true (isCode c) with hi | hi
  · exact h2 c (List.mem_filter.mpr ⟨hc, hi⟩)
  · simpa [hi] using h
set_option maxRecDepth 65536 in
theorem w_c0 : (Jvm.Cond.code x code maxLocals ret).before args0 about1 = true := code_word (m := ⟨1, 1⟩) (meth := k1m1) (c := k1c1) (by decide +kernel) rfl rfl rfl (by decide +kernel)
set_option maxRecDepth 65536 in
theorem w_c1 : (Jvm.Cond.code ({ cls := "com/example/gridloom/gridloom/mapping/ItemType", name := "includes", desc := "(Lcom/example/gridloom/gridloom/mapping/ItemType;)Z" } : Jvm.MethodName) prog_81_method_6_code (3 : Nat) (Option.some Jvm.ClassFile.FieldType.boolean)).before args0 about1 = true := code_word (m := ⟨6, 0⟩) (meth := k6m0) (c := k6c0) (by decide +kernel) rfl rfl rfl (by decide +kernel)
def codes1 : List Jvm.Cond := [Jvm.Cond.code x code maxLocals ret, Jvm.Cond.code ({ cls := "com/example/gridloom/gridloom/mapping/ItemType", name := "includes", desc := "(Lcom/example/gridloom/gridloom/mapping/ItemType;)Z" } : Jvm.MethodName) prog_81_method_6_code (3 : Nat) (Option.some Jvm.ClassFile.FieldType.boolean)]
set_option maxRecDepth 65536 in
theorem codes_eq : words1.filter isCode = codes1 := rfl
theorem w_codes : ∀ c ∈ words1.filter isCode, c.before args0 about1 = true := by
  rw [codes_eq]
  intro c hc
  simp only [codes1, List.mem_cons, List.not_mem_nil, or_false] at hc
  rcases hc with rfl | rfl
  · exact w_c0
  · exact w_c1
set_option maxRecDepth 65536 in
theorem w_t1 : (words1.take 24).all (fun c => isCode c || c.before args0 about1) = true := by decide +kernel
set_option maxRecDepth 65536 in
theorem w_t2 : ((words1.drop 24).take 24).all (fun c => isCode c || c.before args0 about1) = true := by decide +kernel
set_option maxRecDepth 65536 in
theorem w_t3 : ((words1.drop 24).drop 24).all (fun c => isCode c || c.before args0 about1) = true := by decide +kernel
theorem w_tables : (allAtoms (Jvm.Cond.code x code maxLocals ret :: tables_1)).before args0 about1 = true := by
  rw [allAtoms_all]
  show words1.all (fun c => c.before args0 about1) = true
  refine all_split ?_ w_codes
  rw [← List.take_append_drop 24 words1, List.all_append, w_t1, ← List.take_append_drop 24 (words1.drop 24), List.all_append, w_t2, w_t3]
  rfl
set_option maxRecDepth 65536 in
theorem w_case : (Jvm.Cond.and given_1 narrow_1).before args0 about1 = true := by decide +kernel
theorem w_applies : (headSpec (Jvm.Cond.code x code maxLocals ret :: tables_1) room_1).applies x e0.platform about1 = true :=
  (Spec.applies_iff w_frames).mpr ⟨w_running, w_runnable, w_alone, w_named, w_hears, w_ripe, w_room, w_tables⟩
theorem atStart : AtStart classFile x code maxLocals ret World_1 tables_1 room_1 Calls_1 rest_1 Pre_1 launch0 p0 e0 about1 theMethod args0 below0 :=
  ⟨lists_1, trivial, launch0.admits_env _ _ _, launch0.least_env, fairChoices_fair.cas, fairChoices_fair.clock, w_frames, w_args, w_heap, w_applies, trivial, trivial, w_case⟩
end start1
theorem witness_1 : WitnessClaimed_1 := ⟨start1.p0, start1.e0, start1.about1, start1.theMethod, start1.args0, start1.below0, start1.atStart⟩
end Jvm.Pilot.@@N@@
