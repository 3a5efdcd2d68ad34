import JvmDerived
import JvmDerived.Pilot.@@N@@Statement
import JvmDerived.Pilot.@@N@@Code
set_option linter.unusedVariables false
set_option linter.unusedSimpArgs false
namespace Jvm.RoadKit
open Sem ClassFile Op Lib Jvm.Stand Jvm.Free Jvm.LawKit
section New
variable {p : Program} {l : Launch} {e : Env} {R : Room} {s : State} {m : MethodId} {args : Array Value} {below : List Frame} {meth : Method} {c : Code} {T : State} {locs : List Loc} {cells slots : Nat}
theorem retI (X : Stand p l e R s m args below meth c T locs cells slots) (hx : p.tables.exec = Jvm.exec) {pc : Nat} {Ls : Array Slot} {z : Int32} {rest : List Value} (hret : meth.sig.returnType = some .int) (hd : decode c.code pc = .ok (.ireturn, 1)) {fs : List Frame}
    (hl : ∀ (f : JFrame) (acts : List Action), f.method = m → f.locked = none → f.entered = [] → (doReturn e (T.setTop f) acts (some (.int z))).1 = T.setFrames fs) : Steps p.tables e below (T.setTop (mkF m pc Ls (.int z :: rest))) (T.setFrames fs) := by
  have hm' : T.vm.method? m = some meth := X.method'
  have hn : narrow .int (.int z) = .int z := rfl
  show Steps p.tables e below (T.setTop { method := m, pc := pc, locals := Ls, stack := _ :: rest, locked := none }) _
  jvm_step X.here [X.here.top, hx, hd, hm', hret, hn]
  first | (intro acts; rw [hl _ acts rfl rfl rfl]) | rw [hl _ _ rfl rfl rfl]
  exact Steps.refl _
end New
end Jvm.RoadKit
namespace Jvm.Pilot.@@N@@
open Jvm Jvm.ClassFile Sem Op Lib Jvm.Free Jvm.Stand Jvm.LawKit Jvm.RoadKit Bundle Jvm.Pilot.@@N@@.Jvm.D
def own_Qv (r : Option Value) (h0 : Heap) (n0 : Nat) (v : Option Value) (h : Heap) (L : List Loc) : Prop := v = r ∧ Fr n0 L ∧ h = h0
def own_Q0 (h0 : Heap) (n0 : Nat) (v : Option Value) (h : Heap) (L : List Loc) : Prop := v = some (.int (1 : Int32)) ∧ Fr n0 L
theorem own_nar0 : nar .boolean (0 : Int32) = (0 : Int32) := by decide
theorem own_nar1 : nar .boolean (1 : Int32) = (1 : Int32) := by decide
theorem own_eqI {args : Array Value} {s : State} {t : Term} {n : Int32} (h : (Jvm.Cond.eq t (.int n)).value args s none s [] = some true) : t.eval args s none [] s = some (.int n) :=
  Jvm.Free.NT.SwA.eq_int (Cond.before_iff.mpr h)
theorem own_start {args : Array Value} {s : State} {C n d E : String} (hx : (Jvm.Cond.exactly (Term.static C n d) E).value args s none s [] = some true) (hi : (Jvm.Cond.initialized C).before args s = true) (hl : (Jvm.Cond.laysStatic C n d).before args s = true) :
    ∃ w, (Term.static C n d).eval args s none [] s = some (.ref w) ∧ Sta s s.heap C n d (.ref w) ∧ Exa s s.heap w E := by
  obtain ⟨w, ev⟩ := exa_v hx
  exact ⟨w, ev, Sta.start ev (Or.inr ⟨hi, hl⟩), Exa.start ev hx⟩
theorem own_fld {args : Array Value} {s : State} {t : Term} {w : Addr} {C n d : String} {z : Int32} (ev : t.eval args s none [] s = some (.ref w)) (h : (Jvm.Cond.eq (Term.field t C n d) (.int z)).value args s none s [] = some true) : Fld s s.heap w C n d (.int z) :=
  Fld.start ((fld_at ev).symm.trans (own_eqI h))
theorem own_ne {Z : State} {h : Heap} {a b : Addr} {C n d : String} {x y : Int32} (F : Fld Z h a C n d (.int x)) (G : Fld Z h b C n d (.int y)) (q : x ≠ y) : a ≠ b := F.ne G (fun e => q (Value.int.inj e))
theorem own_plE {Z : State} {h : Heap} {a : Addr} {C : String} (E : Exa Z h a C) : ∀ c : Cell, h[a]? = some c → c.vm.isStatics = false := fun c hc => by
  obtain ⟨cell, k, h1, -, -, h4, -⟩ := E
  cases h1.symm.trans hc
  exact h4
theorem own_plV {Z : State} {h : Heap} {a : Addr} {k : ClassId} {ty : FieldType} {z : Int32} {vs : List Value} {d : Value} (V : Arv Z h a k ty z vs d) : ∀ c : Cell, h[a]? = some c → c.vm.isStatics = false := fun c hc => by
  obtain ⟨cell, A, -⟩ := V
  cases A.1.symm.trans hc
  exact A.plain
theorem own_staK {Z : State} {h h' : Heap} {C n d : String} {v : Value} {ws : List Addr} (F : Sta Z h C n d v) (K : Keep h h' ws) (q : ∀ x ∈ ws, ∀ c : Cell, h[x]? = some c → c.vm.isStatics = false) : Sta Z h' C n d v := by
  obtain ⟨cf, i, k, f, st, cell, h1, h2, h3, h4, h5, h6, h7⟩ := F
  exact ⟨cf, i, k, f, st, cell, h1, h2, h3, h4, K.2.1 _ _ h5 (fun hm => by rw [q _ hm _ h5] at h6; cases h6), h6, h7⟩
theorem own_ext {h h' : Heap} (K : Keep h h' []) : Ext h h' := ⟨K.1, fun x c hx => K.2.1 x c hx nin0⟩
theorem own_mvM {Z s : State} {a0 args : Array Value} {own host : String} {index : Nat} {y : MethodName} (hZ : Z.Warmed39 s.vm) (w : (Jvm.Cond.methodLinkNest own index y host).before a0 Z = true) : (Jvm.Cond.methodLinkNest own index y host).before args s = true := (Cond.methodLinkNest_wide hZ w :)
theorem d1_0 : decode prog_62_method_6_code 0 = .ok (.aload_n 0, 1) := by decide +kernel
theorem d1_1 : decode prog_62_method_6_code 1 = .ok (.getstatic 19, 3) := by decide +kernel
theorem d1_4 : decode prog_62_method_6_code 4 = .ok (.if_acmp .eq 10, 3) := by decide +kernel
theorem d1_14 : decode prog_62_method_6_code 14 = .ok (.iconst 1, 1) := by decide +kernel
theorem d1_15 : decode prog_62_method_6_code 15 = .ok (.goto 4, 3) := by decide +kernel
theorem d1_19 : decode prog_62_method_6_code 19 = .ok (.ireturn, 1) := by decide +kernel
theorem pn_1 : plainName "com/example/earnest_repository/earnestrepository/core/Result" = true := by first | (simp [plainName, overriddenIn]; done) | decide +kernel
theorem ef_1 (m : MethodId) (x0 : Addr) : entryFrame m #[(.ref x0)] 1 = mkF m 0 #[.val (.ref x0)] [] := by first | (simp [entryFrame, mkF, argsToLocals, Value.category]; done) | rfl
set_option maxRecDepth 65536 in
set_option maxHeartbeats 40000000 in
theorem rm1_s (l : Launch) (Z : State) (a0 : Array Value) (hw : ∀ d ∈ tables_1, d.before a0 Z = true) (ws : List Jvm.Cond) (a1 : Addr) (w_ENTITY : Addr) (h0 : Heap) (n0 : Nat) (Z0 : n0 ≤ h0.size) (S_ENTITY : Sta Z h0 "com/example/earnest_repository/earnestrepository/core/Result" "ENTITY" "Lcom/example/earnest_repository/earnestrepository/core/Result;" (.ref w_ENTITY)) (ha4 : a1 = w_ENTITY) :
    MetFree l (⟨"com/example/earnest_repository/earnestrepository/core/Result", "single", "()Z"⟩ : MethodName) (head1 (Jvm.Cond.code (⟨"com/example/earnest_repository/earnestrepository/core/Result", "single", "()Z"⟩ : MethodName) prog_62_method_6_code 1 (some .boolean) :: ws) ({ frames := 0, cells := 0, slots := 0, locals := 0 } : Room)) (fun a U => a = #[(.ref a1)] ∧ Z.Warmed39 U.vm ∧ U.heap = h0) (fun _ _ _ _ _ => True) (fun _ U o U' => ∃ v L, o = .returned v ∧ own_Qv (some (.int (1 : Int32))) h0 n0 v U'.heap L ∧ FrameEnd U o U' L ({ frames := 0, cells := 0, slots := 0, locals := 0 } : Room).cells ({ frames := 0, cells := 0, slots := 0, locals := 0 } : Room).slots) := by
  refine MetFree.of_bodySF (plainFor_of_name pn_1) hisR ?_
  intro p e s m args below meth c s₁ Bd hml0 hP hK
  obtain ⟨rfl, hZ, hh⟩ := hP
  have hx := Bd.exec
  have hby := Bd.bytes
  have hml : c.maxLocals = 1 := hml0
  have hown : s.vm.findClass "com/example/earnest_repository/earnestrepository/core/Result" = some m.cls := findClass_of_methodNamed Bd.named
  have hnm := (name_of_methodNamed Bd.named Bd.method).1
  have X0 : Stand p l e ({ frames := 0, cells := 0, slots := 0, locals := 0 } : Room) s m #[(.ref a1)] below meth c s₁ [] 0 0 := Stand.of_body Bd
  have e0 : s₁.heap = h0 := by rw [← hh, Bd.state]; rfl
  have N0 := Fr.nil n0
  have pre0 : ∀ t, Steps p.tables e below (s₁.setTop (mkF m 0 #[.val (.ref a1)] [])) t → Steps p.tables e below (s₁.setTop (entryFrame m #[(.ref a1)] 1)) t := fun t k => castTop (ef_1 m a1) k
  obtain ⟨T3, X3, e3, st3⟩ := getS2 X0 hx hZ hown (host := "") (Or.inl (hw _ (List.mem_of_getElem? (i := 37) rfl))) Via.refl e0 S_ENTITY (g := (mkF m 1 #[.val (.ref a1)] [(.ref a1)])) rfl (hb hby d1_1)
  obtain ⟨fs, hr, hrun, hended, hW, hsame⟩ := X3.leave (v := some (.int (1 : Int32))) (fun h => by rw [Bd.returns] at h; cases h)
  refine ⟨_, _, pre0 _ ?_, hrun, hended, _, _, rfl, ?_, ⟨_, rfl⟩, hW, hsame.mono (by decide) (by decide)⟩
  · show Steps p.tables e below (s₁.setTop (mkF m 0 #[.val (.ref a1)] [])) _
    refine XS.aloadN X0.here hx rfl (hb hby d1_0) rfl rfl ?_
    show Steps p.tables e below (s₁.setTop (mkF m 1 #[.val (.ref a1)] [(.ref a1)])) _
    refine st3 _ ?_
    show Steps p.tables e below (T3.setTop (mkF m 4 #[.val (.ref a1)] [(.ref w_ENTITY), (.ref a1)])) _
    refine Jvm.RoadKit.acmp (g := (mkF m 4 #[.val (.ref a1)] [(.ref w_ENTITY), (.ref a1)])) X3 hx rfl rfl rfl (pc0 := 4) (pc' := 14) (same := true) rfl (hb hby d1_4) rfl (decide_eq_true (congrArg Value.ref ha4)) (by decide) (by decide) ?_
    show Steps p.tables e below (T3.setTop (mkF m 14 #[.val (.ref a1)] [])) _
    refine XS.iconst X3.here hx rfl (hb hby d1_14) ?_
    show Steps p.tables e below (T3.setTop (mkF m 15 #[.val (.ref a1)] [(.int (1 : Int32))])) _
    refine XS.goto X3.here hx rfl (pc0 := 15) (pc' := 19) rfl (hb hby d1_15) (by decide) (by decide) ?_
    show Steps p.tables e below (T3.setTop (mkF m 19 #[.val (.ref a1)] [(.int (1 : Int32))])) _
    exact retN X3 hx (t := .boolean) Bd.returns (by simp) (hb hby d1_19) hr
  · show own_Qv (some (.int (1 : Int32))) h0 n0 _ T3.heap _
    rw [e3]
    exact ⟨rfl, N0, rfl⟩
theorem d1_7 : decode prog_62_method_6_code 7 = .ok (.aload_n 0, 1) := by decide +kernel
theorem d1_8 : decode prog_62_method_6_code 8 = .ok (.getstatic 22, 3) := by decide +kernel
theorem d1_11 : decode prog_62_method_6_code 11 = .ok (.if_acmp .ne 7, 3) := by decide +kernel
set_option maxRecDepth 65536 in
set_option maxHeartbeats 40000000 in
theorem rm1_f (l : Launch) (Z : State) (a0 : Array Value) (hw : ∀ d ∈ tables_1, d.before a0 Z = true) (ws : List Jvm.Cond) (a1 : Addr) (w_ENTITY : Addr) (w_OPTIONAL : Addr) (h0 : Heap) (n0 : Nat) (Z0 : n0 ≤ h0.size) (S_ENTITY : Sta Z h0 "com/example/earnest_repository/earnestrepository/core/Result" "ENTITY" "Lcom/example/earnest_repository/earnestrepository/core/Result;" (.ref w_ENTITY)) (S_OPTIONAL : Sta Z h0 "com/example/earnest_repository/earnestrepository/core/Result" "OPTIONAL" "Lcom/example/earnest_repository/earnestrepository/core/Result;" (.ref w_OPTIONAL)) (ha4 : ¬ (a1 = w_ENTITY)) (ha11 : a1 = w_OPTIONAL) :
    MetFree l (⟨"com/example/earnest_repository/earnestrepository/core/Result", "single", "()Z"⟩ : MethodName) (head1 (Jvm.Cond.code (⟨"com/example/earnest_repository/earnestrepository/core/Result", "single", "()Z"⟩ : MethodName) prog_62_method_6_code 1 (some .boolean) :: ws) ({ frames := 0, cells := 0, slots := 0, locals := 0 } : Room)) (fun a U => a = #[(.ref a1)] ∧ Z.Warmed39 U.vm ∧ U.heap = h0) (fun _ _ _ _ _ => True) (fun _ U o U' => ∃ v L, o = .returned v ∧ own_Qv (some (.int (1 : Int32))) h0 n0 v U'.heap L ∧ FrameEnd U o U' L ({ frames := 0, cells := 0, slots := 0, locals := 0 } : Room).cells ({ frames := 0, cells := 0, slots := 0, locals := 0 } : Room).slots) := by
  refine MetFree.of_bodySF (plainFor_of_name pn_1) hisR ?_
  intro p e s m args below meth c s₁ Bd hml0 hP hK
  obtain ⟨rfl, hZ, hh⟩ := hP
  have hx := Bd.exec
  have hby := Bd.bytes
  have hml : c.maxLocals = 1 := hml0
  have hown : s.vm.findClass "com/example/earnest_repository/earnestrepository/core/Result" = some m.cls := findClass_of_methodNamed Bd.named
  have hnm := (name_of_methodNamed Bd.named Bd.method).1
  have X0 : Stand p l e ({ frames := 0, cells := 0, slots := 0, locals := 0 } : Room) s m #[(.ref a1)] below meth c s₁ [] 0 0 := Stand.of_body Bd
  have e0 : s₁.heap = h0 := by rw [← hh, Bd.state]; rfl
  have N0 := Fr.nil n0
  have pre0 : ∀ t, Steps p.tables e below (s₁.setTop (mkF m 0 #[.val (.ref a1)] [])) t → Steps p.tables e below (s₁.setTop (entryFrame m #[(.ref a1)] 1)) t := fun t k => castTop (ef_1 m a1) k
  obtain ⟨T3, X3, e3, st3⟩ := getS2 X0 hx hZ hown (host := "") (Or.inl (hw _ (List.mem_of_getElem? (i := 37) rfl))) Via.refl e0 S_ENTITY (g := (mkF m 1 #[.val (.ref a1)] [(.ref a1)])) rfl (hb hby d1_1)
  obtain ⟨T5, X5, e5, st5⟩ := getS2 X3 hx hZ hown (host := "") (Or.inl (hw _ (List.mem_of_getElem? (i := 38) rfl))) Via.refl e3 S_OPTIONAL (g := (mkF m 8 #[.val (.ref a1)] [(.ref a1)])) rfl (hb hby d1_8)
  obtain ⟨fs, hr, hrun, hended, hW, hsame⟩ := X5.leave (v := some (.int (1 : Int32))) (fun h => by rw [Bd.returns] at h; cases h)
  refine ⟨_, _, pre0 _ ?_, hrun, hended, _, _, rfl, ?_, ⟨_, rfl⟩, hW, hsame.mono (by decide) (by decide)⟩
  · show Steps p.tables e below (s₁.setTop (mkF m 0 #[.val (.ref a1)] [])) _
    refine XS.aloadN X0.here hx rfl (hb hby d1_0) rfl rfl ?_
    show Steps p.tables e below (s₁.setTop (mkF m 1 #[.val (.ref a1)] [(.ref a1)])) _
    refine st3 _ ?_
    show Steps p.tables e below (T3.setTop (mkF m 4 #[.val (.ref a1)] [(.ref w_ENTITY), (.ref a1)])) _
    refine Jvm.RoadKit.acmp (g := (mkF m 4 #[.val (.ref a1)] [(.ref w_ENTITY), (.ref a1)])) X3 hx rfl rfl rfl (pc0 := 4) (pc' := 7) (same := false) rfl (hb hby d1_4) rfl (decide_eq_false fun q => ha4 (Value.ref.inj q)) (by decide) (by decide) ?_
    show Steps p.tables e below (T3.setTop (mkF m 7 #[.val (.ref a1)] [])) _
    refine XS.aloadN X3.here hx rfl (hb hby d1_7) rfl rfl ?_
    show Steps p.tables e below (T3.setTop (mkF m 8 #[.val (.ref a1)] [(.ref a1)])) _
    refine st5 _ ?_
    show Steps p.tables e below (T5.setTop (mkF m 11 #[.val (.ref a1)] [(.ref w_OPTIONAL), (.ref a1)])) _
    refine Jvm.RoadKit.acmp (g := (mkF m 11 #[.val (.ref a1)] [(.ref w_OPTIONAL), (.ref a1)])) X5 hx rfl rfl rfl (pc0 := 11) (pc' := 14) (same := true) rfl (hb hby d1_11) rfl (decide_eq_true (congrArg Value.ref ha11)) (by decide) (by decide) ?_
    show Steps p.tables e below (T5.setTop (mkF m 14 #[.val (.ref a1)] [])) _
    refine XS.iconst X5.here hx rfl (hb hby d1_14) ?_
    show Steps p.tables e below (T5.setTop (mkF m 15 #[.val (.ref a1)] [(.int (1 : Int32))])) _
    refine XS.goto X5.here hx rfl (pc0 := 15) (pc' := 19) rfl (hb hby d1_15) (by decide) (by decide) ?_
    show Steps p.tables e below (T5.setTop (mkF m 19 #[.val (.ref a1)] [(.int (1 : Int32))])) _
    exact retN X5 hx (t := .boolean) Bd.returns (by simp) (hb hby d1_19) hr
  · show own_Qv (some (.int (1 : Int32))) h0 n0 _ T5.heap _
    rw [e5]
    exact ⟨rfl, N0, rfl⟩
theorem d1_18 : decode prog_62_method_6_code 18 = .ok (.iconst 0, 1) := by decide +kernel
set_option maxRecDepth 65536 in
set_option maxHeartbeats 40000000 in
theorem rm1_n (l : Launch) (Z : State) (a0 : Array Value) (hw : ∀ d ∈ tables_1, d.before a0 Z = true) (ws : List Jvm.Cond) (a1 : Addr) (w_ENTITY : Addr) (w_OPTIONAL : Addr) (h0 : Heap) (n0 : Nat) (Z0 : n0 ≤ h0.size) (S_ENTITY : Sta Z h0 "com/example/earnest_repository/earnestrepository/core/Result" "ENTITY" "Lcom/example/earnest_repository/earnestrepository/core/Result;" (.ref w_ENTITY)) (S_OPTIONAL : Sta Z h0 "com/example/earnest_repository/earnestrepository/core/Result" "OPTIONAL" "Lcom/example/earnest_repository/earnestrepository/core/Result;" (.ref w_OPTIONAL)) (ha4 : ¬ (a1 = w_ENTITY)) (ha11 : ¬ (a1 = w_OPTIONAL)) :
    MetFree l (⟨"com/example/earnest_repository/earnestrepository/core/Result", "single", "()Z"⟩ : MethodName) (head1 (Jvm.Cond.code (⟨"com/example/earnest_repository/earnestrepository/core/Result", "single", "()Z"⟩ : MethodName) prog_62_method_6_code 1 (some .boolean) :: ws) ({ frames := 0, cells := 0, slots := 0, locals := 0 } : Room)) (fun a U => a = #[(.ref a1)] ∧ Z.Warmed39 U.vm ∧ U.heap = h0) (fun _ _ _ _ _ => True) (fun _ U o U' => ∃ v L, o = .returned v ∧ own_Qv (some (.int (0 : Int32))) h0 n0 v U'.heap L ∧ FrameEnd U o U' L ({ frames := 0, cells := 0, slots := 0, locals := 0 } : Room).cells ({ frames := 0, cells := 0, slots := 0, locals := 0 } : Room).slots) := by
  refine MetFree.of_bodySF (plainFor_of_name pn_1) hisR ?_
  intro p e s m args below meth c s₁ Bd hml0 hP hK
  obtain ⟨rfl, hZ, hh⟩ := hP
  have hx := Bd.exec
  have hby := Bd.bytes
  have hml : c.maxLocals = 1 := hml0
  have hown : s.vm.findClass "com/example/earnest_repository/earnestrepository/core/Result" = some m.cls := findClass_of_methodNamed Bd.named
  have hnm := (name_of_methodNamed Bd.named Bd.method).1
  have X0 : Stand p l e ({ frames := 0, cells := 0, slots := 0, locals := 0 } : Room) s m #[(.ref a1)] below meth c s₁ [] 0 0 := Stand.of_body Bd
  have e0 : s₁.heap = h0 := by rw [← hh, Bd.state]; rfl
  have N0 := Fr.nil n0
  have pre0 : ∀ t, Steps p.tables e below (s₁.setTop (mkF m 0 #[.val (.ref a1)] [])) t → Steps p.tables e below (s₁.setTop (entryFrame m #[(.ref a1)] 1)) t := fun t k => castTop (ef_1 m a1) k
  obtain ⟨T3, X3, e3, st3⟩ := getS2 X0 hx hZ hown (host := "") (Or.inl (hw _ (List.mem_of_getElem? (i := 37) rfl))) Via.refl e0 S_ENTITY (g := (mkF m 1 #[.val (.ref a1)] [(.ref a1)])) rfl (hb hby d1_1)
  obtain ⟨T5, X5, e5, st5⟩ := getS2 X3 hx hZ hown (host := "") (Or.inl (hw _ (List.mem_of_getElem? (i := 38) rfl))) Via.refl e3 S_OPTIONAL (g := (mkF m 8 #[.val (.ref a1)] [(.ref a1)])) rfl (hb hby d1_8)
  obtain ⟨fs, hr, hrun, hended, hW, hsame⟩ := X5.leave (v := some (.int (0 : Int32))) (fun h => by rw [Bd.returns] at h; cases h)
  refine ⟨_, _, pre0 _ ?_, hrun, hended, _, _, rfl, ?_, ⟨_, rfl⟩, hW, hsame.mono (by decide) (by decide)⟩
  · show Steps p.tables e below (s₁.setTop (mkF m 0 #[.val (.ref a1)] [])) _
    refine XS.aloadN X0.here hx rfl (hb hby d1_0) rfl rfl ?_
    show Steps p.tables e below (s₁.setTop (mkF m 1 #[.val (.ref a1)] [(.ref a1)])) _
    refine st3 _ ?_
    show Steps p.tables e below (T3.setTop (mkF m 4 #[.val (.ref a1)] [(.ref w_ENTITY), (.ref a1)])) _
    refine Jvm.RoadKit.acmp (g := (mkF m 4 #[.val (.ref a1)] [(.ref w_ENTITY), (.ref a1)])) X3 hx rfl rfl rfl (pc0 := 4) (pc' := 7) (same := false) rfl (hb hby d1_4) rfl (decide_eq_false fun q => ha4 (Value.ref.inj q)) (by decide) (by decide) ?_
    show Steps p.tables e below (T3.setTop (mkF m 7 #[.val (.ref a1)] [])) _
    refine XS.aloadN X3.here hx rfl (hb hby d1_7) rfl rfl ?_
    show Steps p.tables e below (T3.setTop (mkF m 8 #[.val (.ref a1)] [(.ref a1)])) _
    refine st5 _ ?_
    show Steps p.tables e below (T5.setTop (mkF m 11 #[.val (.ref a1)] [(.ref w_OPTIONAL), (.ref a1)])) _
    refine Jvm.RoadKit.acmp (g := (mkF m 11 #[.val (.ref a1)] [(.ref w_OPTIONAL), (.ref a1)])) X5 hx rfl rfl rfl (pc0 := 11) (pc' := 18) (same := false) rfl (hb hby d1_11) rfl (decide_eq_false fun q => ha11 (Value.ref.inj q)) (by decide) (by decide) ?_
    show Steps p.tables e below (T5.setTop (mkF m 18 #[.val (.ref a1)] [])) _
    refine XS.iconst X5.here hx rfl (hb hby d1_18) ?_
    show Steps p.tables e below (T5.setTop (mkF m 19 #[.val (.ref a1)] [(.int (0 : Int32))])) _
    exact retN X5 hx (t := .boolean) Bd.returns (by simp) (hb hby d1_19) hr
  · show own_Qv (some (.int (0 : Int32))) h0 n0 _ T5.heap _
    rw [e5]
    exact ⟨rfl, N0, rfl⟩
theorem rm1_all (l : Launch) (Z : State) (a0 : Array Value) (hw : ∀ d ∈ tables_1, d.before a0 Z = true) (ws : List Jvm.Cond) (a1 : Addr) (w_ENTITY w_OPTIONAL : Addr) (b : Int32) (h0 : Heap) (n0 : Nat) (Z0 : n0 ≤ h0.size) (S_ENTITY : Sta Z h0 "com/example/earnest_repository/earnestrepository/core/Result" "ENTITY" "Lcom/example/earnest_repository/earnestrepository/core/Result;" (.ref w_ENTITY)) (S_OPTIONAL : Sta Z h0 "com/example/earnest_repository/earnestrepository/core/Result" "OPTIONAL" "Lcom/example/earnest_repository/earnestrepository/core/Result;" (.ref w_OPTIONAL)) (hb1 : ((a1 = w_ENTITY ∧ b = (1 : Int32)) ∨ (¬ a1 = w_ENTITY ∧ a1 = w_OPTIONAL ∧ b = (1 : Int32)) ∨ (¬ a1 = w_ENTITY ∧ ¬ a1 = w_OPTIONAL ∧ b = (0 : Int32)))) :
    MetFree l (⟨"com/example/earnest_repository/earnestrepository/core/Result", "single", "()Z"⟩ : MethodName) (head1 (Jvm.Cond.code (⟨"com/example/earnest_repository/earnestrepository/core/Result", "single", "()Z"⟩ : MethodName) prog_62_method_6_code 1 (some .boolean) :: ws) ({ frames := 0, cells := 0, slots := 0, locals := 0 } : Room)) (fun a U => a = #[(.ref a1)] ∧ Z.Warmed39 U.vm ∧ U.heap = h0) (fun _ _ _ _ _ => True) (fun _ U o U' => ∃ v L, o = .returned v ∧ own_Qv (some (.int b)) h0 n0 v U'.heap L ∧ FrameEnd U o U' L ({ frames := 0, cells := 0, slots := 0, locals := 0 } : Room).cells ({ frames := 0, cells := 0, slots := 0, locals := 0 } : Room).slots) := by
  rcases hb1 with ⟨q1, rfl⟩ | ⟨q1, q2, rfl⟩ | ⟨q1, q2, rfl⟩
  · exact rm1_s l Z a0 hw ws _ _ h0 n0 Z0 S_ENTITY q1
  · exact rm1_f l Z a0 hw ws _ _ _ h0 n0 Z0 S_ENTITY S_OPTIONAL q1 q2
  · exact rm1_n l Z a0 hw ws _ _ _ h0 n0 Z0 S_ENTITY S_OPTIONAL q1 q2
theorem d2_0 : decode prog_62_method_4_code 0 = .ok (.aload_n 0, 1) := by decide +kernel
theorem d2_1 : decode prog_62_method_4_code 1 = .ok (.getfield 66, 3) := by decide +kernel
theorem d2_4 : decode prog_62_method_4_code 4 = .ok (.ireturn, 1) := by decide +kernel
theorem pn_2 : plainName "com/example/earnest_repository/earnestrepository/core/Result" = true := by first | (simp [plainName, overriddenIn]; done) | decide +kernel
theorem ef_2 (m : MethodId) (x0 : Addr) : entryFrame m #[(.ref x0)] 1 = mkF m 0 #[.val (.ref x0)] [] := by first | (simp [entryFrame, mkF, argsToLocals, Value.category]; done) | rfl
set_option maxRecDepth 65536 in
set_option maxHeartbeats 40000000 in
theorem rm2 (l : Launch) (Z : State) (a0 : Array Value) (hw : ∀ d ∈ tables_1, d.before a0 Z = true) (ws : List Jvm.Cond) (a1 : Addr) (w2 : Int32) (h0 : Heap) (n0 : Nat) (Z0 : n0 ≤ h0.size) (hw2 : w2 &&& 1 = w2) (F_readsRows_a1 : Fld Z h0 a1 "com/example/earnest_repository/earnestrepository/core/Result" "readsRows" "Z" (.int w2)) :
    MetFree l (⟨"com/example/earnest_repository/earnestrepository/core/Result", "readsRows", "()Z"⟩ : MethodName) (head1 (Jvm.Cond.code (⟨"com/example/earnest_repository/earnestrepository/core/Result", "readsRows", "()Z"⟩ : MethodName) prog_62_method_4_code 1 (some .boolean) :: ws) ({ frames := 0, cells := 0, slots := 0, locals := 0 } : Room)) (fun a U => a = #[(.ref a1)] ∧ Z.Warmed39 U.vm ∧ U.heap = h0) (fun _ _ _ _ _ => True) (fun _ U o U' => ∃ v L, o = .returned v ∧ own_Qv (some (.int w2)) h0 n0 v U'.heap L ∧ FrameEnd U o U' L ({ frames := 0, cells := 0, slots := 0, locals := 0 } : Room).cells ({ frames := 0, cells := 0, slots := 0, locals := 0 } : Room).slots) := by
  refine MetFree.of_bodySF (plainFor_of_name pn_2) hisR ?_
  intro p e s m args below meth c s₁ Bd hml0 hP hK
  obtain ⟨rfl, hZ, hh⟩ := hP
  have hx := Bd.exec
  have hby := Bd.bytes
  have hml : c.maxLocals = 1 := hml0
  have hown : s.vm.findClass "com/example/earnest_repository/earnestrepository/core/Result" = some m.cls := findClass_of_methodNamed Bd.named
  have hnm := (name_of_methodNamed Bd.named Bd.method).1
  have X0 : Stand p l e ({ frames := 0, cells := 0, slots := 0, locals := 0 } : Room) s m #[(.ref a1)] below meth c s₁ [] 0 0 := Stand.of_body Bd
  have e0 : s₁.heap = h0 := by rw [← hh, Bd.state]; rfl
  have N0 := Fr.nil n0
  have pre0 : ∀ t, Steps p.tables e below (s₁.setTop (mkF m 0 #[.val (.ref a1)] [])) t → Steps p.tables e below (s₁.setTop (entryFrame m #[(.ref a1)] 1)) t := fun t k => castTop (ef_2 m a1) k
  obtain ⟨T3, X3, e3, st3⟩ := getF X0 hx hZ hown (host := "") (Or.inl (hw _ (List.mem_of_getElem? (i := 44) rfl))) Via.refl e0 F_readsRows_a1 (g := (mkF m 1 #[.val (.ref a1)] [(.ref a1)])) rfl rfl (hb hby d2_1)
  obtain ⟨fs, hr, hrun, hended, hW, hsame⟩ := X3.leave (v := some (.int w2)) (fun h => by rw [Bd.returns] at h; cases h)
  refine ⟨_, _, pre0 _ ?_, hrun, hended, _, _, rfl, ?_, ⟨_, rfl⟩, hW, hsame.mono (by decide) (by decide)⟩
  · show Steps p.tables e below (s₁.setTop (mkF m 0 #[.val (.ref a1)] [])) _
    refine XS.aloadN X0.here hx rfl (hb hby d2_0) rfl rfl ?_
    show Steps p.tables e below (s₁.setTop (mkF m 1 #[.val (.ref a1)] [(.ref a1)])) _
    refine st3 _ ?_
    show Steps p.tables e below (T3.setTop (mkF m 4 #[.val (.ref a1)] [(.int w2)])) _
    exact retN X3 hx (t := .boolean) Bd.returns (by simp) (hb hby d2_4) (by rw [show nar .boolean w2 = w2 from hw2]; exact hr)
  · show own_Qv (some (.int w2)) h0 n0 _ T3.heap _
    rw [e3]
    exact ⟨rfl, N0, rfl⟩
theorem d3_0 : decode prog_62_method_7_code 0 = .ok (.aload_n 0, 1) := by decide +kernel
theorem d3_1 : decode prog_62_method_7_code 1 = .ok (.getstatic 25, 3) := by decide +kernel
theorem d3_4 : decode prog_62_method_7_code 4 = .ok (.if_acmp .eq 10, 3) := by decide +kernel
theorem d3_7 : decode prog_62_method_7_code 7 = .ok (.aload_n 0, 1) := by decide +kernel
theorem d3_8 : decode prog_62_method_7_code 8 = .ok (.getstatic 28, 3) := by decide +kernel
theorem d3_11 : decode prog_62_method_7_code 11 = .ok (.if_acmp .ne 7, 3) := by decide +kernel
theorem d3_18 : decode prog_62_method_7_code 18 = .ok (.iconst 0, 1) := by decide +kernel
theorem d3_19 : decode prog_62_method_7_code 19 = .ok (.ireturn, 1) := by decide +kernel
theorem pn_3 : plainName "com/example/earnest_repository/earnestrepository/core/Result" = true := by first | (simp [plainName, overriddenIn]; done) | decide +kernel
theorem ef_3 (m : MethodId) (x0 : Addr) : entryFrame m #[(.ref x0)] 1 = mkF m 0 #[.val (.ref x0)] [] := by first | (simp [entryFrame, mkF, argsToLocals, Value.category]; done) | rfl
set_option maxRecDepth 65536 in
set_option maxHeartbeats 40000000 in
theorem rm3_n (l : Launch) (Z : State) (a0 : Array Value) (hw : ∀ d ∈ tables_1, d.before a0 Z = true) (ws : List Jvm.Cond) (a1 : Addr) (w_SLICE : Addr) (w_PAGE : Addr) (h0 : Heap) (n0 : Nat) (Z0 : n0 ≤ h0.size) (S_SLICE : Sta Z h0 "com/example/earnest_repository/earnestrepository/core/Result" "SLICE" "Lcom/example/earnest_repository/earnestrepository/core/Result;" (.ref w_SLICE)) (S_PAGE : Sta Z h0 "com/example/earnest_repository/earnestrepository/core/Result" "PAGE" "Lcom/example/earnest_repository/earnestrepository/core/Result;" (.ref w_PAGE)) (ha4 : ¬ (a1 = w_SLICE)) (ha11 : ¬ (a1 = w_PAGE)) :
    MetFree l (⟨"com/example/earnest_repository/earnestrepository/core/Result", "paged", "()Z"⟩ : MethodName) (head1 (Jvm.Cond.code (⟨"com/example/earnest_repository/earnestrepository/core/Result", "paged", "()Z"⟩ : MethodName) prog_62_method_7_code 1 (some .boolean) :: ws) ({ frames := 0, cells := 0, slots := 0, locals := 0 } : Room)) (fun a U => a = #[(.ref a1)] ∧ Z.Warmed39 U.vm ∧ U.heap = h0) (fun _ _ _ _ _ => True) (fun _ U o U' => ∃ v L, o = .returned v ∧ own_Qv (some (.int (0 : Int32))) h0 n0 v U'.heap L ∧ FrameEnd U o U' L ({ frames := 0, cells := 0, slots := 0, locals := 0 } : Room).cells ({ frames := 0, cells := 0, slots := 0, locals := 0 } : Room).slots) := by
  refine MetFree.of_bodySF (plainFor_of_name pn_3) hisR ?_
  intro p e s m args below meth c s₁ Bd hml0 hP hK
  obtain ⟨rfl, hZ, hh⟩ := hP
  have hx := Bd.exec
  have hby := Bd.bytes
  have hml : c.maxLocals = 1 := hml0
  have hown : s.vm.findClass "com/example/earnest_repository/earnestrepository/core/Result" = some m.cls := findClass_of_methodNamed Bd.named
  have hnm := (name_of_methodNamed Bd.named Bd.method).1
  have X0 : Stand p l e ({ frames := 0, cells := 0, slots := 0, locals := 0 } : Room) s m #[(.ref a1)] below meth c s₁ [] 0 0 := Stand.of_body Bd
  have e0 : s₁.heap = h0 := by rw [← hh, Bd.state]; rfl
  have N0 := Fr.nil n0
  have pre0 : ∀ t, Steps p.tables e below (s₁.setTop (mkF m 0 #[.val (.ref a1)] [])) t → Steps p.tables e below (s₁.setTop (entryFrame m #[(.ref a1)] 1)) t := fun t k => castTop (ef_3 m a1) k
  obtain ⟨T3, X3, e3, st3⟩ := getS2 X0 hx hZ hown (host := "") (Or.inl (hw _ (List.mem_of_getElem? (i := 51) rfl))) Via.refl e0 S_SLICE (g := (mkF m 1 #[.val (.ref a1)] [(.ref a1)])) rfl (hb hby d3_1)
  obtain ⟨T5, X5, e5, st5⟩ := getS2 X3 hx hZ hown (host := "") (Or.inl (hw _ (List.mem_of_getElem? (i := 52) rfl))) Via.refl e3 S_PAGE (g := (mkF m 8 #[.val (.ref a1)] [(.ref a1)])) rfl (hb hby d3_8)
  obtain ⟨fs, hr, hrun, hended, hW, hsame⟩ := X5.leave (v := some (.int (0 : Int32))) (fun h => by rw [Bd.returns] at h; cases h)
  refine ⟨_, _, pre0 _ ?_, hrun, hended, _, _, rfl, ?_, ⟨_, rfl⟩, hW, hsame.mono (by decide) (by decide)⟩
  · show Steps p.tables e below (s₁.setTop (mkF m 0 #[.val (.ref a1)] [])) _
    refine XS.aloadN X0.here hx rfl (hb hby d3_0) rfl rfl ?_
    show Steps p.tables e below (s₁.setTop (mkF m 1 #[.val (.ref a1)] [(.ref a1)])) _
    refine st3 _ ?_
    show Steps p.tables e below (T3.setTop (mkF m 4 #[.val (.ref a1)] [(.ref w_SLICE), (.ref a1)])) _
    refine Jvm.RoadKit.acmp (g := (mkF m 4 #[.val (.ref a1)] [(.ref w_SLICE), (.ref a1)])) X3 hx rfl rfl rfl (pc0 := 4) (pc' := 7) (same := false) rfl (hb hby d3_4) rfl (decide_eq_false fun q => ha4 (Value.ref.inj q)) (by decide) (by decide) ?_
    show Steps p.tables e below (T3.setTop (mkF m 7 #[.val (.ref a1)] [])) _
    refine XS.aloadN X3.here hx rfl (hb hby d3_7) rfl rfl ?_
    show Steps p.tables e below (T3.setTop (mkF m 8 #[.val (.ref a1)] [(.ref a1)])) _
    refine st5 _ ?_
    show Steps p.tables e below (T5.setTop (mkF m 11 #[.val (.ref a1)] [(.ref w_PAGE), (.ref a1)])) _
    refine Jvm.RoadKit.acmp (g := (mkF m 11 #[.val (.ref a1)] [(.ref w_PAGE), (.ref a1)])) X5 hx rfl rfl rfl (pc0 := 11) (pc' := 18) (same := false) rfl (hb hby d3_11) rfl (decide_eq_false fun q => ha11 (Value.ref.inj q)) (by decide) (by decide) ?_
    show Steps p.tables e below (T5.setTop (mkF m 18 #[.val (.ref a1)] [])) _
    refine XS.iconst X5.here hx rfl (hb hby d3_18) ?_
    show Steps p.tables e below (T5.setTop (mkF m 19 #[.val (.ref a1)] [(.int (0 : Int32))])) _
    exact retN X5 hx (t := .boolean) Bd.returns (by simp) (hb hby d3_19) hr
  · show own_Qv (some (.int (0 : Int32))) h0 n0 _ T5.heap _
    rw [e5]
    exact ⟨rfl, N0, rfl⟩
theorem d4_0 : decode prog_62_method_5_code 0 = .ok (.aload_n 0, 1) := by decide +kernel
theorem d4_1 : decode prog_62_method_5_code 1 = .ok (.getstatic 13, 3) := by decide +kernel
theorem d4_4 : decode prog_62_method_5_code 4 = .ok (.if_acmp .ne 7, 3) := by decide +kernel
theorem d4_11 : decode prog_62_method_5_code 11 = .ok (.iconst 0, 1) := by decide +kernel
theorem d4_12 : decode prog_62_method_5_code 12 = .ok (.ireturn, 1) := by decide +kernel
theorem pn_4 : plainName "com/example/earnest_repository/earnestrepository/core/Result" = true := by first | (simp [plainName, overriddenIn]; done) | decide +kernel
theorem ef_4 (m : MethodId) (x0 : Addr) : entryFrame m #[(.ref x0)] 1 = mkF m 0 #[.val (.ref x0)] [] := by first | (simp [entryFrame, mkF, argsToLocals, Value.category]; done) | rfl
set_option maxRecDepth 65536 in
set_option maxHeartbeats 40000000 in
theorem rm4_n (l : Launch) (Z : State) (a0 : Array Value) (hw : ∀ d ∈ tables_1, d.before a0 Z = true) (ws : List Jvm.Cond) (a1 : Addr) (w_STREAM : Addr) (h0 : Heap) (n0 : Nat) (Z0 : n0 ≤ h0.size) (S_STREAM : Sta Z h0 "com/example/earnest_repository/earnestrepository/core/Result" "STREAM" "Lcom/example/earnest_repository/earnestrepository/core/Result;" (.ref w_STREAM)) (ha4 : ¬ (a1 = w_STREAM)) :
    MetFree l (⟨"com/example/earnest_repository/earnestrepository/core/Result", "readAsConsumed", "()Z"⟩ : MethodName) (head1 (Jvm.Cond.code (⟨"com/example/earnest_repository/earnestrepository/core/Result", "readAsConsumed", "()Z"⟩ : MethodName) prog_62_method_5_code 1 (some .boolean) :: ws) ({ frames := 0, cells := 0, slots := 0, locals := 0 } : Room)) (fun a U => a = #[(.ref a1)] ∧ Z.Warmed39 U.vm ∧ U.heap = h0) (fun _ _ _ _ _ => True) (fun _ U o U' => ∃ v L, o = .returned v ∧ own_Qv (some (.int (0 : Int32))) h0 n0 v U'.heap L ∧ FrameEnd U o U' L ({ frames := 0, cells := 0, slots := 0, locals := 0 } : Room).cells ({ frames := 0, cells := 0, slots := 0, locals := 0 } : Room).slots) := by
  refine MetFree.of_bodySF (plainFor_of_name pn_4) hisR ?_
  intro p e s m args below meth c s₁ Bd hml0 hP hK
  obtain ⟨rfl, hZ, hh⟩ := hP
  have hx := Bd.exec
  have hby := Bd.bytes
  have hml : c.maxLocals = 1 := hml0
  have hown : s.vm.findClass "com/example/earnest_repository/earnestrepository/core/Result" = some m.cls := findClass_of_methodNamed Bd.named
  have hnm := (name_of_methodNamed Bd.named Bd.method).1
  have X0 : Stand p l e ({ frames := 0, cells := 0, slots := 0, locals := 0 } : Room) s m #[(.ref a1)] below meth c s₁ [] 0 0 := Stand.of_body Bd
  have e0 : s₁.heap = h0 := by rw [← hh, Bd.state]; rfl
  have N0 := Fr.nil n0
  have pre0 : ∀ t, Steps p.tables e below (s₁.setTop (mkF m 0 #[.val (.ref a1)] [])) t → Steps p.tables e below (s₁.setTop (entryFrame m #[(.ref a1)] 1)) t := fun t k => castTop (ef_4 m a1) k
  obtain ⟨T3, X3, e3, st3⟩ := getS2 X0 hx hZ hown (host := "") (Or.inl (hw _ (List.mem_of_getElem? (i := 58) rfl))) Via.refl e0 S_STREAM (g := (mkF m 1 #[.val (.ref a1)] [(.ref a1)])) rfl (hb hby d4_1)
  obtain ⟨fs, hr, hrun, hended, hW, hsame⟩ := X3.leave (v := some (.int (0 : Int32))) (fun h => by rw [Bd.returns] at h; cases h)
  refine ⟨_, _, pre0 _ ?_, hrun, hended, _, _, rfl, ?_, ⟨_, rfl⟩, hW, hsame.mono (by decide) (by decide)⟩
  · show Steps p.tables e below (s₁.setTop (mkF m 0 #[.val (.ref a1)] [])) _
    refine XS.aloadN X0.here hx rfl (hb hby d4_0) rfl rfl ?_
    show Steps p.tables e below (s₁.setTop (mkF m 1 #[.val (.ref a1)] [(.ref a1)])) _
    refine st3 _ ?_
    show Steps p.tables e below (T3.setTop (mkF m 4 #[.val (.ref a1)] [(.ref w_STREAM), (.ref a1)])) _
    refine Jvm.RoadKit.acmp (g := (mkF m 4 #[.val (.ref a1)] [(.ref w_STREAM), (.ref a1)])) X3 hx rfl rfl rfl (pc0 := 4) (pc' := 11) (same := false) rfl (hb hby d4_4) rfl (decide_eq_false fun q => ha4 (Value.ref.inj q)) (by decide) (by decide) ?_
    show Steps p.tables e below (T3.setTop (mkF m 11 #[.val (.ref a1)] [])) _
    refine XS.iconst X3.here hx rfl (hb hby d4_11) ?_
    show Steps p.tables e below (T3.setTop (mkF m 12 #[.val (.ref a1)] [(.int (0 : Int32))])) _
    exact retN X3 hx (t := .boolean) Bd.returns (by simp) (hb hby d4_12) hr
  · show own_Qv (some (.int (0 : Int32))) h0 n0 _ T3.heap _
    rw [e3]
    exact ⟨rfl, N0, rfl⟩
theorem pn_0 : plainName "com/example/earnest_repository/earnestrepository/core/ResultSinglePinLaw" = true := by first | (simp [plainName, overriddenIn]; done) | decide +kernel
theorem pd_0_0 : parseMethodDescriptor "()Z" = some ⟨[], some .boolean⟩ := by decide +kernel
theorem ef_0 (m : MethodId) (x0 : Int32) : entryFrame m #[(.int x0)] maxLocals = mkF m 0 #[.val (.int x0), .unset, .unset, .unset, .unset, .unset] [] := by first | (simp [entryFrame, mkF, argsToLocals, Value.category, maxLocals]; done) | rfl
set_option maxRecDepth 65536 in
set_option maxHeartbeats 40000000 in
theorem rm0_tt (l : Launch) (Z : State) (a0 : Array Value) (hw : ∀ d ∈ tables_1, d.before a0 Z = true) (ws : List Jvm.Cond) (p1 : Int32) (r : Addr) (w_ENTITIES : Addr) (w_ENTITY_SET : Addr) (w_ITERATOR : Addr) (w_STREAM : Addr) (w_STREAMABLE : Addr) (w_ENTITY : Addr) (w_OPTIONAL : Addr) (w_SLICE : Addr) (w_PAGE : Addr) (w_NUMBER : Addr) (w_INT_NUMBER : Addr) (w_PRESENCE : Addr) (w_NOTHING : Addr) (h0 : Heap) (n0 : Nat) (Z0 : n0 ≤ h0.size) (hb1 : ((r = w_ENTITY ∧ (0 : Int32) = (1 : Int32)) ∨ (¬ r = w_ENTITY ∧ r = w_OPTIONAL ∧ (0 : Int32) = (1 : Int32)) ∨ (¬ r = w_ENTITY ∧ ¬ r = w_OPTIONAL ∧ (0 : Int32) = (0 : Int32)))) (S_ENTITIES : Sta Z h0 "com/example/earnest_repository/earnestrepository/core/Result" "ENTITIES" "Lcom/example/earnest_repository/earnestrepository/core/Result;" (.ref w_ENTITIES)) (E_ENTITIES : Exa Z h0 w_ENTITIES "com/example/earnest_repository/earnestrepository/core/Result") (S_ENTITY_SET : Sta Z h0 "com/example/earnest_repository/earnestrepository/core/Result" "ENTITY_SET" "Lcom/example/earnest_repository/earnestrepository/core/Result;" (.ref w_ENTITY_SET)) (E_ENTITY_SET : Exa Z h0 w_ENTITY_SET "com/example/earnest_repository/earnestrepository/core/Result") (S_ITERATOR : Sta Z h0 "com/example/earnest_repository/earnestrepository/core/Result" "ITERATOR" "Lcom/example/earnest_repository/earnestrepository/core/Result;" (.ref w_ITERATOR)) (E_ITERATOR : Exa Z h0 w_ITERATOR "com/example/earnest_repository/earnestrepository/core/Result") (S_STREAM : Sta Z h0 "com/example/earnest_repository/earnestrepository/core/Result" "STREAM" "Lcom/example/earnest_repository/earnestrepository/core/Result;" (.ref w_STREAM)) (E_STREAM : Exa Z h0 w_STREAM "com/example/earnest_repository/earnestrepository/core/Result") (S_STREAMABLE : Sta Z h0 "com/example/earnest_repository/earnestrepository/core/Result" "STREAMABLE" "Lcom/example/earnest_repository/earnestrepository/core/Result;" (.ref w_STREAMABLE)) (E_STREAMABLE : Exa Z h0 w_STREAMABLE "com/example/earnest_repository/earnestrepository/core/Result") (S_ENTITY : Sta Z h0 "com/example/earnest_repository/earnestrepository/core/Result" "ENTITY" "Lcom/example/earnest_repository/earnestrepository/core/Result;" (.ref w_ENTITY)) (E_ENTITY : Exa Z h0 w_ENTITY "com/example/earnest_repository/earnestrepository/core/Result") (S_OPTIONAL : Sta Z h0 "com/example/earnest_repository/earnestrepository/core/Result" "OPTIONAL" "Lcom/example/earnest_repository/earnestrepository/core/Result;" (.ref w_OPTIONAL)) (E_OPTIONAL : Exa Z h0 w_OPTIONAL "com/example/earnest_repository/earnestrepository/core/Result") (S_SLICE : Sta Z h0 "com/example/earnest_repository/earnestrepository/core/Result" "SLICE" "Lcom/example/earnest_repository/earnestrepository/core/Result;" (.ref w_SLICE)) (E_SLICE : Exa Z h0 w_SLICE "com/example/earnest_repository/earnestrepository/core/Result") (S_PAGE : Sta Z h0 "com/example/earnest_repository/earnestrepository/core/Result" "PAGE" "Lcom/example/earnest_repository/earnestrepository/core/Result;" (.ref w_PAGE)) (E_PAGE : Exa Z h0 w_PAGE "com/example/earnest_repository/earnestrepository/core/Result") (S_NUMBER : Sta Z h0 "com/example/earnest_repository/earnestrepository/core/Result" "NUMBER" "Lcom/example/earnest_repository/earnestrepository/core/Result;" (.ref w_NUMBER)) (E_NUMBER : Exa Z h0 w_NUMBER "com/example/earnest_repository/earnestrepository/core/Result") (S_INT_NUMBER : Sta Z h0 "com/example/earnest_repository/earnestrepository/core/Result" "INT_NUMBER" "Lcom/example/earnest_repository/earnestrepository/core/Result;" (.ref w_INT_NUMBER)) (E_INT_NUMBER : Exa Z h0 w_INT_NUMBER "com/example/earnest_repository/earnestrepository/core/Result") (S_PRESENCE : Sta Z h0 "com/example/earnest_repository/earnestrepository/core/Result" "PRESENCE" "Lcom/example/earnest_repository/earnestrepository/core/Result;" (.ref w_PRESENCE)) (E_PRESENCE : Exa Z h0 w_PRESENCE "com/example/earnest_repository/earnestrepository/core/Result") (S_NOTHING : Sta Z h0 "com/example/earnest_repository/earnestrepository/core/Result" "NOTHING" "Lcom/example/earnest_repository/earnestrepository/core/Result;" (.ref w_NOTHING)) (E_NOTHING : Exa Z h0 w_NOTHING "com/example/earnest_repository/earnestrepository/core/Result") (hix119 : ¬ ((p1 &&& (2147483647 : Int32)) % (13 : Int32)) < 0 ∧ ((p1 &&& (2147483647 : Int32)) % (13 : Int32)) < (13 : Int32)) (hel119 : ([(.ref w_ENTITIES), (.ref w_ENTITY_SET), (.ref w_ITERATOR), (.ref w_STREAM), (.ref w_STREAMABLE), (.ref w_ENTITY), (.ref w_OPTIONAL), (.ref w_SLICE), (.ref w_PAGE), (.ref w_NUMBER), (.ref w_INT_NUMBER), (.ref w_PRESENCE), (.ref w_NOTHING)] : List Value).getD (((p1 &&& (2147483647 : Int32)) % (13 : Int32))).toNatClampNeg .null = (.ref r)) (E_r : Exa Z h0 r "com/example/earnest_repository/earnestrepository/core/Result") (hix127 : ¬ ((p1 &&& (2147483647 : Int32)) % (13 : Int32)) < 0 ∧ ((p1 &&& (2147483647 : Int32)) % (13 : Int32)) < (13 : Int32)) (hel127 : ([(.int (0 : Int32)), (.int (0 : Int32)), (.int (0 : Int32)), (.int (0 : Int32)), (.int (0 : Int32)), (.int (1 : Int32)), (.int (1 : Int32)), (.int (0 : Int32)), (.int (0 : Int32)), (.int (0 : Int32)), (.int (0 : Int32)), (.int (0 : Int32)), (.int (0 : Int32))] : List Value).getD (((p1 &&& (2147483647 : Int32)) % (13 : Int32))).toNatClampNeg (.int (0 : Int32)) = (.int (0 : Int32))) :
    MetFree l x (head1 (Jvm.Cond.code x code maxLocals ret :: ws) room_1) (fun a U => a = #[(.int p1)] ∧ Z.Warmed39 U.vm ∧ U.heap = h0) (fun _ _ _ _ _ => True) (fun _ U o U' => ∃ v L, o = .returned v ∧ own_Q0 h0 n0 v U'.heap L ∧ FrameEnd U o U' L room_1.cells room_1.slots) := by
  refine MetFree.of_bodySF (plainFor_of_name pn_0) hisR ?_
  intro p e s m args below meth c s₁ Bd hml0 hP hK
  obtain ⟨rfl, hZ, hh⟩ := hP
  have hx := Bd.exec
  have hby := Bd.bytes
  have hml : c.maxLocals = 6 := hml0
  have hown : s.vm.findClass "com/example/earnest_repository/earnestrepository/core/ResultSinglePinLaw" = some m.cls := findClass_of_methodNamed Bd.named
  have hnm := (name_of_methodNamed Bd.named Bd.method).1
  have X0 : Stand p l e room_1 s m #[(.int p1)] below meth c s₁ [] 0 0 := Stand.of_body Bd
  have e0 : s₁.heap = h0 := by rw [← hh, Bd.state]; rfl
  have N0 := Fr.nil n0
  have pre0 : ∀ t, Steps p.tables e below (s₁.setTop (mkF m 0 #[.val (.int p1), .unset, .unset, .unset, .unset, .unset] [])) t → Steps p.tables e below (s₁.setTop (entryFrame m #[(.int p1)] maxLocals)) t := fun t k => castTop (ef_0 m p1) k
  obtain ⟨T2, h2, k2, X2, e2, E2, A2, O2, st2⟩ := newR X0 hx hZ hown (hw _ (List.mem_of_getElem? (i := 0) rfl)) (hw _ (List.mem_of_getElem? (i := 1) rfl)) e0 (g := (mkF m 2 #[.val (.int p1), .unset, .unset, .unset, .unset, .unset] [(.int (13 : Int32))])) rfl (hb hby at_2) rfl (by decide) (cap := 13) (by decide) (by decide) (by decide) (by decide)
  obtain ⟨b2, g2⟩ : ∃ z, z = h0.size := ⟨_, rfl⟩      -- the fresh array's address
  rw [← g2] at A2 st2
  have V_b2 : Arv Z h2 b2 k2 (.object "com/example/earnest_repository/earnestrepository/core/Result") (13 : Int32) [.null, .null, .null, .null, .null, .null, .null, .null, .null, .null, .null, .null, .null] .null := (Arv.new A2 (by decide)).pad (pad_rep [] .null 13)
  have g_b2 : n0 ≤ b2 := Nat.le_trans Z0 (Nat.le_of_eq g2.symm)
  have sz_b2 : h0.size ≤ b2 := (Nat.le_trans (Keep.refl h0 []).1 (Nat.le_of_eq g2.symm))
  have K2 : Keep h0 h2 [] := (Keep.refl h0 []).ext E2
  obtain ⟨T4, X4, e4, st4⟩ := getS2 X2 hx hZ hown (host := "") (Or.inl (hw _ (List.mem_of_getElem? (i := 2) rfl))) Via.refl e2 (S_ENTITIES.ext E2) (g := (mkF m 7 #[.val (.int p1), .unset, .unset, .unset, .unset, .unset] [(.int (0 : Int32)), (.ref b2), (.ref b2)])) rfl (hb hby at_7)
  obtain ⟨cl_b2_6, Ar_b2_6, q_b2_6, S_b2_6, N_b2_6, H_b2_6, G_b2_6⟩ := id V_b2
  have hin6 : ¬ ((0 : Int32) < 0 ∨ cl_b2_6.slots.size ≤ ((0 : Int32)).toNatClampNeg) := inb_of S_b2_6 ⟨by decide, by decide⟩
  obtain ⟨T5, h5, X5, e5, W5, st5⟩ := stR X4 hx hZ e4 Ar_b2_6 (j := (0 : Int32)) hin6 rfl (Sto.ofV Ar_b2_6 q_b2_6 O2 (Ins.self (E_ENTITIES.ext E2))) (g := (mkF m 10 #[.val (.int p1), .unset, .unset, .unset, .unset, .unset] [(.ref w_ENTITIES), (.int (0 : Int32)), (.ref b2), (.ref b2)])) rfl rfl (hb hby at_10)
  have V_b2_5 : Arv Z h5 b2 k2 (.object "com/example/earnest_repository/earnestrepository/core/Result") (13 : Int32) [(.ref w_ENTITIES), .null, .null, .null, .null, .null, .null, .null, .null, .null, .null, .null, .null] .null := Arv.set Ar_b2_6 q_b2_6 S_b2_6 N_b2_6 H_b2_6 G_b2_6 rfl W5 0 rfl (Nat.le_of_ble_eq_true rfl)
  have K5 : Keep h0 h5 [] := K2.wr W5 (Or.inr sz_b2)
  have N5 := Fr.snoc X5 N0 g_b2
  obtain ⟨T7, X7, e7, st7⟩ := getS2 X5 hx hZ hown (host := "") (Or.inl (hw _ (List.mem_of_getElem? (i := 6) rfl))) Via.refl e5 (own_staK S_ENTITY_SET K5 all0) (g := (mkF m 13 #[.val (.int p1), .unset, .unset, .unset, .unset, .unset] [(.int (1 : Int32)), (.ref b2), (.ref b2)])) rfl (hb hby at_13)
  obtain ⟨cl_b2_10, Ar_b2_10, q_b2_10, S_b2_10, N_b2_10, H_b2_10, G_b2_10⟩ := id V_b2_5
  have hin10 : ¬ ((1 : Int32) < 0 ∨ cl_b2_10.slots.size ≤ ((1 : Int32)).toNatClampNeg) := inb_of S_b2_10 ⟨by decide, by decide⟩
  obtain ⟨T8, h8, X8, e8, W8, st8⟩ := stR X7 hx hZ e7 Ar_b2_10 (j := (1 : Int32)) hin10 rfl (Sto.ofV Ar_b2_10 q_b2_10 O2 (Ins.self (E_ENTITY_SET.keep K5))) (g := (mkF m 16 #[.val (.int p1), .unset, .unset, .unset, .unset, .unset] [(.ref w_ENTITY_SET), (.int (1 : Int32)), (.ref b2), (.ref b2)])) rfl rfl (hb hby at_16)
  have V_b2_8 : Arv Z h8 b2 k2 (.object "com/example/earnest_repository/earnestrepository/core/Result") (13 : Int32) [(.ref w_ENTITIES), (.ref w_ENTITY_SET), .null, .null, .null, .null, .null, .null, .null, .null, .null, .null, .null] .null := Arv.set Ar_b2_10 q_b2_10 S_b2_10 N_b2_10 H_b2_10 G_b2_10 rfl W8 1 rfl (Nat.le_of_ble_eq_true rfl)
  have K8 : Keep h0 h8 [] := K5.wr W8 (Or.inr sz_b2)
  have N8 := Fr.snoc X8 N5 g_b2
  obtain ⟨T10, X10, e10, st10⟩ := getS2 X8 hx hZ hown (host := "") (Or.inl (hw _ (List.mem_of_getElem? (i := 8) rfl))) Via.refl e8 (own_staK S_ITERATOR K8 all0) (g := (mkF m 19 #[.val (.int p1), .unset, .unset, .unset, .unset, .unset] [(.int (2 : Int32)), (.ref b2), (.ref b2)])) rfl (hb hby at_19)
  obtain ⟨cl_b2_14, Ar_b2_14, q_b2_14, S_b2_14, N_b2_14, H_b2_14, G_b2_14⟩ := id V_b2_8
  have hin14 : ¬ ((2 : Int32) < 0 ∨ cl_b2_14.slots.size ≤ ((2 : Int32)).toNatClampNeg) := inb_of S_b2_14 ⟨by decide, by decide⟩
  obtain ⟨T11, h11, X11, e11, W11, st11⟩ := stR X10 hx hZ e10 Ar_b2_14 (j := (2 : Int32)) hin14 rfl (Sto.ofV Ar_b2_14 q_b2_14 O2 (Ins.self (E_ITERATOR.keep K8))) (g := (mkF m 22 #[.val (.int p1), .unset, .unset, .unset, .unset, .unset] [(.ref w_ITERATOR), (.int (2 : Int32)), (.ref b2), (.ref b2)])) rfl rfl (hb hby at_22)
  have V_b2_11 : Arv Z h11 b2 k2 (.object "com/example/earnest_repository/earnestrepository/core/Result") (13 : Int32) [(.ref w_ENTITIES), (.ref w_ENTITY_SET), (.ref w_ITERATOR), .null, .null, .null, .null, .null, .null, .null, .null, .null, .null] .null := Arv.set Ar_b2_14 q_b2_14 S_b2_14 N_b2_14 H_b2_14 G_b2_14 rfl W11 2 rfl (Nat.le_of_ble_eq_true rfl)
  have K11 : Keep h0 h11 [] := K8.wr W11 (Or.inr sz_b2)
  have N11 := Fr.snoc X11 N8 g_b2
  obtain ⟨T13, X13, e13, st13⟩ := getS2 X11 hx hZ hown (host := "") (Or.inl (hw _ (List.mem_of_getElem? (i := 10) rfl))) Via.refl e11 (own_staK S_STREAM K11 all0) (g := (mkF m 25 #[.val (.int p1), .unset, .unset, .unset, .unset, .unset] [(.int (3 : Int32)), (.ref b2), (.ref b2)])) rfl (hb hby at_25)
  obtain ⟨cl_b2_18, Ar_b2_18, q_b2_18, S_b2_18, N_b2_18, H_b2_18, G_b2_18⟩ := id V_b2_11
  have hin18 : ¬ ((3 : Int32) < 0 ∨ cl_b2_18.slots.size ≤ ((3 : Int32)).toNatClampNeg) := inb_of S_b2_18 ⟨by decide, by decide⟩
  obtain ⟨T14, h14, X14, e14, W14, st14⟩ := stR X13 hx hZ e13 Ar_b2_18 (j := (3 : Int32)) hin18 rfl (Sto.ofV Ar_b2_18 q_b2_18 O2 (Ins.self (E_STREAM.keep K11))) (g := (mkF m 28 #[.val (.int p1), .unset, .unset, .unset, .unset, .unset] [(.ref w_STREAM), (.int (3 : Int32)), (.ref b2), (.ref b2)])) rfl rfl (hb hby at_28)
  have V_b2_14 : Arv Z h14 b2 k2 (.object "com/example/earnest_repository/earnestrepository/core/Result") (13 : Int32) [(.ref w_ENTITIES), (.ref w_ENTITY_SET), (.ref w_ITERATOR), (.ref w_STREAM), .null, .null, .null, .null, .null, .null, .null, .null, .null] .null := Arv.set Ar_b2_18 q_b2_18 S_b2_18 N_b2_18 H_b2_18 G_b2_18 rfl W14 3 rfl (Nat.le_of_ble_eq_true rfl)
  have K14 : Keep h0 h14 [] := K11.wr W14 (Or.inr sz_b2)
  have N14 := Fr.snoc X14 N11 g_b2
  obtain ⟨T16, X16, e16, st16⟩ := getS2 X14 hx hZ hown (host := "") (Or.inl (hw _ (List.mem_of_getElem? (i := 12) rfl))) Via.refl e14 (own_staK S_STREAMABLE K14 all0) (g := (mkF m 31 #[.val (.int p1), .unset, .unset, .unset, .unset, .unset] [(.int (4 : Int32)), (.ref b2), (.ref b2)])) rfl (hb hby at_31)
  obtain ⟨cl_b2_22, Ar_b2_22, q_b2_22, S_b2_22, N_b2_22, H_b2_22, G_b2_22⟩ := id V_b2_14
  have hin22 : ¬ ((4 : Int32) < 0 ∨ cl_b2_22.slots.size ≤ ((4 : Int32)).toNatClampNeg) := inb_of S_b2_22 ⟨by decide, by decide⟩
  obtain ⟨T17, h17, X17, e17, W17, st17⟩ := stR X16 hx hZ e16 Ar_b2_22 (j := (4 : Int32)) hin22 rfl (Sto.ofV Ar_b2_22 q_b2_22 O2 (Ins.self (E_STREAMABLE.keep K14))) (g := (mkF m 34 #[.val (.int p1), .unset, .unset, .unset, .unset, .unset] [(.ref w_STREAMABLE), (.int (4 : Int32)), (.ref b2), (.ref b2)])) rfl rfl (hb hby at_34)
  have V_b2_17 : Arv Z h17 b2 k2 (.object "com/example/earnest_repository/earnestrepository/core/Result") (13 : Int32) [(.ref w_ENTITIES), (.ref w_ENTITY_SET), (.ref w_ITERATOR), (.ref w_STREAM), (.ref w_STREAMABLE), .null, .null, .null, .null, .null, .null, .null, .null] .null := Arv.set Ar_b2_22 q_b2_22 S_b2_22 N_b2_22 H_b2_22 G_b2_22 rfl W17 4 rfl (Nat.le_of_ble_eq_true rfl)
  have K17 : Keep h0 h17 [] := K14.wr W17 (Or.inr sz_b2)
  have N17 := Fr.snoc X17 N14 g_b2
  obtain ⟨T19, X19, e19, st19⟩ := getS2 X17 hx hZ hown (host := "") (Or.inl (hw _ (List.mem_of_getElem? (i := 14) rfl))) Via.refl e17 (own_staK S_ENTITY K17 all0) (g := (mkF m 37 #[.val (.int p1), .unset, .unset, .unset, .unset, .unset] [(.int (5 : Int32)), (.ref b2), (.ref b2)])) rfl (hb hby at_37)
  obtain ⟨cl_b2_26, Ar_b2_26, q_b2_26, S_b2_26, N_b2_26, H_b2_26, G_b2_26⟩ := id V_b2_17
  have hin26 : ¬ ((5 : Int32) < 0 ∨ cl_b2_26.slots.size ≤ ((5 : Int32)).toNatClampNeg) := inb_of S_b2_26 ⟨by decide, by decide⟩
  obtain ⟨T20, h20, X20, e20, W20, st20⟩ := stR X19 hx hZ e19 Ar_b2_26 (j := (5 : Int32)) hin26 rfl (Sto.ofV Ar_b2_26 q_b2_26 O2 (Ins.self (E_ENTITY.keep K17))) (g := (mkF m 40 #[.val (.int p1), .unset, .unset, .unset, .unset, .unset] [(.ref w_ENTITY), (.int (5 : Int32)), (.ref b2), (.ref b2)])) rfl rfl (hb hby at_40)
  have V_b2_20 : Arv Z h20 b2 k2 (.object "com/example/earnest_repository/earnestrepository/core/Result") (13 : Int32) [(.ref w_ENTITIES), (.ref w_ENTITY_SET), (.ref w_ITERATOR), (.ref w_STREAM), (.ref w_STREAMABLE), (.ref w_ENTITY), .null, .null, .null, .null, .null, .null, .null] .null := Arv.set Ar_b2_26 q_b2_26 S_b2_26 N_b2_26 H_b2_26 G_b2_26 rfl W20 5 rfl (Nat.le_of_ble_eq_true rfl)
  have K20 : Keep h0 h20 [] := K17.wr W20 (Or.inr sz_b2)
  have N20 := Fr.snoc X20 N17 g_b2
  obtain ⟨T22, X22, e22, st22⟩ := getS2 X20 hx hZ hown (host := "") (Or.inl (hw _ (List.mem_of_getElem? (i := 16) rfl))) Via.refl e20 (own_staK S_OPTIONAL K20 all0) (g := (mkF m 44 #[.val (.int p1), .unset, .unset, .unset, .unset, .unset] [(.int (6 : Int32)), (.ref b2), (.ref b2)])) rfl (hb hby at_44)
  obtain ⟨cl_b2_30, Ar_b2_30, q_b2_30, S_b2_30, N_b2_30, H_b2_30, G_b2_30⟩ := id V_b2_20
  have hin30 : ¬ ((6 : Int32) < 0 ∨ cl_b2_30.slots.size ≤ ((6 : Int32)).toNatClampNeg) := inb_of S_b2_30 ⟨by decide, by decide⟩
  obtain ⟨T23, h23, X23, e23, W23, st23⟩ := stR X22 hx hZ e22 Ar_b2_30 (j := (6 : Int32)) hin30 rfl (Sto.ofV Ar_b2_30 q_b2_30 O2 (Ins.self (E_OPTIONAL.keep K20))) (g := (mkF m 47 #[.val (.int p1), .unset, .unset, .unset, .unset, .unset] [(.ref w_OPTIONAL), (.int (6 : Int32)), (.ref b2), (.ref b2)])) rfl rfl (hb hby at_47)
  have V_b2_23 : Arv Z h23 b2 k2 (.object "com/example/earnest_repository/earnestrepository/core/Result") (13 : Int32) [(.ref w_ENTITIES), (.ref w_ENTITY_SET), (.ref w_ITERATOR), (.ref w_STREAM), (.ref w_STREAMABLE), (.ref w_ENTITY), (.ref w_OPTIONAL), .null, .null, .null, .null, .null, .null] .null := Arv.set Ar_b2_30 q_b2_30 S_b2_30 N_b2_30 H_b2_30 G_b2_30 rfl W23 6 rfl (Nat.le_of_ble_eq_true rfl)
  have K23 : Keep h0 h23 [] := K20.wr W23 (Or.inr sz_b2)
  have N23 := Fr.snoc X23 N20 g_b2
  obtain ⟨T25, X25, e25, st25⟩ := getS2 X23 hx hZ hown (host := "") (Or.inl (hw _ (List.mem_of_getElem? (i := 18) rfl))) Via.refl e23 (own_staK S_SLICE K23 all0) (g := (mkF m 51 #[.val (.int p1), .unset, .unset, .unset, .unset, .unset] [(.int (7 : Int32)), (.ref b2), (.ref b2)])) rfl (hb hby at_51)
  obtain ⟨cl_b2_34, Ar_b2_34, q_b2_34, S_b2_34, N_b2_34, H_b2_34, G_b2_34⟩ := id V_b2_23
  have hin34 : ¬ ((7 : Int32) < 0 ∨ cl_b2_34.slots.size ≤ ((7 : Int32)).toNatClampNeg) := inb_of S_b2_34 ⟨by decide, by decide⟩
  obtain ⟨T26, h26, X26, e26, W26, st26⟩ := stR X25 hx hZ e25 Ar_b2_34 (j := (7 : Int32)) hin34 rfl (Sto.ofV Ar_b2_34 q_b2_34 O2 (Ins.self (E_SLICE.keep K23))) (g := (mkF m 54 #[.val (.int p1), .unset, .unset, .unset, .unset, .unset] [(.ref w_SLICE), (.int (7 : Int32)), (.ref b2), (.ref b2)])) rfl rfl (hb hby at_54)
  have V_b2_26 : Arv Z h26 b2 k2 (.object "com/example/earnest_repository/earnestrepository/core/Result") (13 : Int32) [(.ref w_ENTITIES), (.ref w_ENTITY_SET), (.ref w_ITERATOR), (.ref w_STREAM), (.ref w_STREAMABLE), (.ref w_ENTITY), (.ref w_OPTIONAL), (.ref w_SLICE), .null, .null, .null, .null, .null] .null := Arv.set Ar_b2_34 q_b2_34 S_b2_34 N_b2_34 H_b2_34 G_b2_34 rfl W26 7 rfl (Nat.le_of_ble_eq_true rfl)
  have K26 : Keep h0 h26 [] := K23.wr W26 (Or.inr sz_b2)
  have N26 := Fr.snoc X26 N23 g_b2
  obtain ⟨T28, X28, e28, st28⟩ := getS2 X26 hx hZ hown (host := "") (Or.inl (hw _ (List.mem_of_getElem? (i := 20) rfl))) Via.refl e26 (own_staK S_PAGE K26 all0) (g := (mkF m 58 #[.val (.int p1), .unset, .unset, .unset, .unset, .unset] [(.int (8 : Int32)), (.ref b2), (.ref b2)])) rfl (hb hby at_58)
  obtain ⟨cl_b2_38, Ar_b2_38, q_b2_38, S_b2_38, N_b2_38, H_b2_38, G_b2_38⟩ := id V_b2_26
  have hin38 : ¬ ((8 : Int32) < 0 ∨ cl_b2_38.slots.size ≤ ((8 : Int32)).toNatClampNeg) := inb_of S_b2_38 ⟨by decide, by decide⟩
  obtain ⟨T29, h29, X29, e29, W29, st29⟩ := stR X28 hx hZ e28 Ar_b2_38 (j := (8 : Int32)) hin38 rfl (Sto.ofV Ar_b2_38 q_b2_38 O2 (Ins.self (E_PAGE.keep K26))) (g := (mkF m 61 #[.val (.int p1), .unset, .unset, .unset, .unset, .unset] [(.ref w_PAGE), (.int (8 : Int32)), (.ref b2), (.ref b2)])) rfl rfl (hb hby at_61)
  have V_b2_29 : Arv Z h29 b2 k2 (.object "com/example/earnest_repository/earnestrepository/core/Result") (13 : Int32) [(.ref w_ENTITIES), (.ref w_ENTITY_SET), (.ref w_ITERATOR), (.ref w_STREAM), (.ref w_STREAMABLE), (.ref w_ENTITY), (.ref w_OPTIONAL), (.ref w_SLICE), (.ref w_PAGE), .null, .null, .null, .null] .null := Arv.set Ar_b2_38 q_b2_38 S_b2_38 N_b2_38 H_b2_38 G_b2_38 rfl W29 8 rfl (Nat.le_of_ble_eq_true rfl)
  have K29 : Keep h0 h29 [] := K26.wr W29 (Or.inr sz_b2)
  have N29 := Fr.snoc X29 N26 g_b2
  obtain ⟨T31, X31, e31, st31⟩ := getS2 X29 hx hZ hown (host := "") (Or.inl (hw _ (List.mem_of_getElem? (i := 22) rfl))) Via.refl e29 (own_staK S_NUMBER K29 all0) (g := (mkF m 65 #[.val (.int p1), .unset, .unset, .unset, .unset, .unset] [(.int (9 : Int32)), (.ref b2), (.ref b2)])) rfl (hb hby at_65)
  obtain ⟨cl_b2_42, Ar_b2_42, q_b2_42, S_b2_42, N_b2_42, H_b2_42, G_b2_42⟩ := id V_b2_29
  have hin42 : ¬ ((9 : Int32) < 0 ∨ cl_b2_42.slots.size ≤ ((9 : Int32)).toNatClampNeg) := inb_of S_b2_42 ⟨by decide, by decide⟩
  obtain ⟨T32, h32, X32, e32, W32, st32⟩ := stR X31 hx hZ e31 Ar_b2_42 (j := (9 : Int32)) hin42 rfl (Sto.ofV Ar_b2_42 q_b2_42 O2 (Ins.self (E_NUMBER.keep K29))) (g := (mkF m 68 #[.val (.int p1), .unset, .unset, .unset, .unset, .unset] [(.ref w_NUMBER), (.int (9 : Int32)), (.ref b2), (.ref b2)])) rfl rfl (hb hby at_68)
  have V_b2_32 : Arv Z h32 b2 k2 (.object "com/example/earnest_repository/earnestrepository/core/Result") (13 : Int32) [(.ref w_ENTITIES), (.ref w_ENTITY_SET), (.ref w_ITERATOR), (.ref w_STREAM), (.ref w_STREAMABLE), (.ref w_ENTITY), (.ref w_OPTIONAL), (.ref w_SLICE), (.ref w_PAGE), (.ref w_NUMBER), .null, .null, .null] .null := Arv.set Ar_b2_42 q_b2_42 S_b2_42 N_b2_42 H_b2_42 G_b2_42 rfl W32 9 rfl (Nat.le_of_ble_eq_true rfl)
  have K32 : Keep h0 h32 [] := K29.wr W32 (Or.inr sz_b2)
  have N32 := Fr.snoc X32 N29 g_b2
  obtain ⟨T34, X34, e34, st34⟩ := getS2 X32 hx hZ hown (host := "") (Or.inl (hw _ (List.mem_of_getElem? (i := 24) rfl))) Via.refl e32 (own_staK S_INT_NUMBER K32 all0) (g := (mkF m 72 #[.val (.int p1), .unset, .unset, .unset, .unset, .unset] [(.int (10 : Int32)), (.ref b2), (.ref b2)])) rfl (hb hby at_72)
  obtain ⟨cl_b2_46, Ar_b2_46, q_b2_46, S_b2_46, N_b2_46, H_b2_46, G_b2_46⟩ := id V_b2_32
  have hin46 : ¬ ((10 : Int32) < 0 ∨ cl_b2_46.slots.size ≤ ((10 : Int32)).toNatClampNeg) := inb_of S_b2_46 ⟨by decide, by decide⟩
  obtain ⟨T35, h35, X35, e35, W35, st35⟩ := stR X34 hx hZ e34 Ar_b2_46 (j := (10 : Int32)) hin46 rfl (Sto.ofV Ar_b2_46 q_b2_46 O2 (Ins.self (E_INT_NUMBER.keep K32))) (g := (mkF m 75 #[.val (.int p1), .unset, .unset, .unset, .unset, .unset] [(.ref w_INT_NUMBER), (.int (10 : Int32)), (.ref b2), (.ref b2)])) rfl rfl (hb hby at_75)
  have V_b2_35 : Arv Z h35 b2 k2 (.object "com/example/earnest_repository/earnestrepository/core/Result") (13 : Int32) [(.ref w_ENTITIES), (.ref w_ENTITY_SET), (.ref w_ITERATOR), (.ref w_STREAM), (.ref w_STREAMABLE), (.ref w_ENTITY), (.ref w_OPTIONAL), (.ref w_SLICE), (.ref w_PAGE), (.ref w_NUMBER), (.ref w_INT_NUMBER), .null, .null] .null := Arv.set Ar_b2_46 q_b2_46 S_b2_46 N_b2_46 H_b2_46 G_b2_46 rfl W35 10 rfl (Nat.le_of_ble_eq_true rfl)
  have K35 : Keep h0 h35 [] := K32.wr W35 (Or.inr sz_b2)
  have N35 := Fr.snoc X35 N32 g_b2
  obtain ⟨T37, X37, e37, st37⟩ := getS2 X35 hx hZ hown (host := "") (Or.inl (hw _ (List.mem_of_getElem? (i := 26) rfl))) Via.refl e35 (own_staK S_PRESENCE K35 all0) (g := (mkF m 79 #[.val (.int p1), .unset, .unset, .unset, .unset, .unset] [(.int (11 : Int32)), (.ref b2), (.ref b2)])) rfl (hb hby at_79)
  obtain ⟨cl_b2_50, Ar_b2_50, q_b2_50, S_b2_50, N_b2_50, H_b2_50, G_b2_50⟩ := id V_b2_35
  have hin50 : ¬ ((11 : Int32) < 0 ∨ cl_b2_50.slots.size ≤ ((11 : Int32)).toNatClampNeg) := inb_of S_b2_50 ⟨by decide, by decide⟩
  obtain ⟨T38, h38, X38, e38, W38, st38⟩ := stR X37 hx hZ e37 Ar_b2_50 (j := (11 : Int32)) hin50 rfl (Sto.ofV Ar_b2_50 q_b2_50 O2 (Ins.self (E_PRESENCE.keep K35))) (g := (mkF m 82 #[.val (.int p1), .unset, .unset, .unset, .unset, .unset] [(.ref w_PRESENCE), (.int (11 : Int32)), (.ref b2), (.ref b2)])) rfl rfl (hb hby at_82)
  have V_b2_38 : Arv Z h38 b2 k2 (.object "com/example/earnest_repository/earnestrepository/core/Result") (13 : Int32) [(.ref w_ENTITIES), (.ref w_ENTITY_SET), (.ref w_ITERATOR), (.ref w_STREAM), (.ref w_STREAMABLE), (.ref w_ENTITY), (.ref w_OPTIONAL), (.ref w_SLICE), (.ref w_PAGE), (.ref w_NUMBER), (.ref w_INT_NUMBER), (.ref w_PRESENCE), .null] .null := Arv.set Ar_b2_50 q_b2_50 S_b2_50 N_b2_50 H_b2_50 G_b2_50 rfl W38 11 rfl (Nat.le_of_ble_eq_true rfl)
  have K38 : Keep h0 h38 [] := K35.wr W38 (Or.inr sz_b2)
  have N38 := Fr.snoc X38 N35 g_b2
  obtain ⟨T40, X40, e40, st40⟩ := getS2 X38 hx hZ hown (host := "") (Or.inl (hw _ (List.mem_of_getElem? (i := 28) rfl))) Via.refl e38 (own_staK S_NOTHING K38 all0) (g := (mkF m 86 #[.val (.int p1), .unset, .unset, .unset, .unset, .unset] [(.int (12 : Int32)), (.ref b2), (.ref b2)])) rfl (hb hby at_86)
  obtain ⟨cl_b2_54, Ar_b2_54, q_b2_54, S_b2_54, N_b2_54, H_b2_54, G_b2_54⟩ := id V_b2_38
  have hin54 : ¬ ((12 : Int32) < 0 ∨ cl_b2_54.slots.size ≤ ((12 : Int32)).toNatClampNeg) := inb_of S_b2_54 ⟨by decide, by decide⟩
  obtain ⟨T41, h41, X41, e41, W41, st41⟩ := stR X40 hx hZ e40 Ar_b2_54 (j := (12 : Int32)) hin54 rfl (Sto.ofV Ar_b2_54 q_b2_54 O2 (Ins.self (E_NOTHING.keep K38))) (g := (mkF m 89 #[.val (.int p1), .unset, .unset, .unset, .unset, .unset] [(.ref w_NOTHING), (.int (12 : Int32)), (.ref b2), (.ref b2)])) rfl rfl (hb hby at_89)
  have V_b2_41 : Arv Z h41 b2 k2 (.object "com/example/earnest_repository/earnestrepository/core/Result") (13 : Int32) [(.ref w_ENTITIES), (.ref w_ENTITY_SET), (.ref w_ITERATOR), (.ref w_STREAM), (.ref w_STREAMABLE), (.ref w_ENTITY), (.ref w_OPTIONAL), (.ref w_SLICE), (.ref w_PAGE), (.ref w_NUMBER), (.ref w_INT_NUMBER), (.ref w_PRESENCE), (.ref w_NOTHING)] .null := Arv.set Ar_b2_54 q_b2_54 S_b2_54 N_b2_54 H_b2_54 G_b2_54 rfl W41 12 rfl (Nat.le_of_ble_eq_true rfl)
  have K41 : Keep h0 h41 [] := K38.wr W41 (Or.inr sz_b2)
  have N41 := Fr.snoc X41 N38 g_b2
  obtain ⟨T42, h42, k42, X42, e42, E42, A42, st42⟩ := newP X41 hx hZ (hw _ (List.mem_of_getElem? (i := 30) rfl)) e41 (g := (mkF m 93 #[.val (.int p1), .val (.ref b2), .unset, .unset, .unset, .unset] [(.int (13 : Int32))])) rfl (hb hby at_93) rfl (by decide) (cap := 13) (by decide) (by decide) (by decide) (by decide)
  obtain ⟨b42, g42⟩ : ∃ z, z = h41.size := ⟨_, rfl⟩      -- the fresh array's address
  rw [← g42] at A42 st42
  have V_b42 : Arv Z h42 b42 k42 .boolean (13 : Int32) [(.int (0 : Int32)), (.int (0 : Int32)), (.int (0 : Int32)), (.int (0 : Int32)), (.int (0 : Int32)), (.int (0 : Int32)), (.int (0 : Int32)), (.int (0 : Int32)), (.int (0 : Int32)), (.int (0 : Int32)), (.int (0 : Int32)), (.int (0 : Int32)), (.int (0 : Int32))] (.int (0 : Int32)) := (Arv.new A42 (by decide)).pad (pad_rep [] (.int (0 : Int32)) 13)
  have g_b42 : n0 ≤ b42 := Nat.le_trans (Nat.le_trans Z0 K41.1) (Nat.le_of_eq g42.symm)
  have sz_b42 : h0.size ≤ b42 := (Nat.le_trans K41.1 (Nat.le_of_eq g42.symm))
  have K42 : Keep h0 h42 [] := K41.ext E42
  obtain ⟨cl_b42_61, Ar_b42_61, q_b42_61, S_b42_61, N_b42_61, H_b42_61, G_b42_61⟩ := id V_b42
  have hin61 : ¬ ((0 : Int32) < 0 ∨ cl_b42_61.slots.size ≤ ((0 : Int32)).toNatClampNeg) := inb_of S_b42_61 ⟨by decide, by decide⟩
  obtain ⟨T43, h43, X43, e43, W43, st43⟩ := stZ X42 hx hZ e42 Ar_b42_61 (j := (0 : Int32)) hin61 (g := (mkF m 98 #[.val (.int p1), .val (.ref b2), .unset, .unset, .unset, .unset] [(.int (0 : Int32)), (.int (0 : Int32)), (.ref b42), (.ref b42)])) rfl rfl (hb hby at_98)
  rw [own_nar0] at W43
  have V_b42_43 : Arv Z h43 b42 k42 .boolean (13 : Int32) [(.int (0 : Int32)), (.int (0 : Int32)), (.int (0 : Int32)), (.int (0 : Int32)), (.int (0 : Int32)), (.int (0 : Int32)), (.int (0 : Int32)), (.int (0 : Int32)), (.int (0 : Int32)), (.int (0 : Int32)), (.int (0 : Int32)), (.int (0 : Int32)), (.int (0 : Int32))] (.int (0 : Int32)) := Arv.set Ar_b42_61 q_b42_61 S_b42_61 N_b42_61 H_b42_61 G_b42_61 rfl W43 0 rfl (Nat.le_of_ble_eq_true rfl)
  have K43 : Keep h0 h43 [] := K42.wr W43 (Or.inr sz_b42)
  have N43 := Fr.snoc X43 N41 g_b42
  obtain ⟨cl_b42_65, Ar_b42_65, q_b42_65, S_b42_65, N_b42_65, H_b42_65, G_b42_65⟩ := id V_b42_43
  have hin65 : ¬ ((1 : Int32) < 0 ∨ cl_b42_65.slots.size ≤ ((1 : Int32)).toNatClampNeg) := inb_of S_b42_65 ⟨by decide, by decide⟩
  obtain ⟨T44, h44, X44, e44, W44, st44⟩ := stZ X43 hx hZ e43 Ar_b42_65 (j := (1 : Int32)) hin65 (g := (mkF m 102 #[.val (.int p1), .val (.ref b2), .unset, .unset, .unset, .unset] [(.int (0 : Int32)), (.int (1 : Int32)), (.ref b42), (.ref b42)])) rfl rfl (hb hby at_102)
  rw [own_nar0] at W44
  have V_b42_44 : Arv Z h44 b42 k42 .boolean (13 : Int32) [(.int (0 : Int32)), (.int (0 : Int32)), (.int (0 : Int32)), (.int (0 : Int32)), (.int (0 : Int32)), (.int (0 : Int32)), (.int (0 : Int32)), (.int (0 : Int32)), (.int (0 : Int32)), (.int (0 : Int32)), (.int (0 : Int32)), (.int (0 : Int32)), (.int (0 : Int32))] (.int (0 : Int32)) := Arv.set Ar_b42_65 q_b42_65 S_b42_65 N_b42_65 H_b42_65 G_b42_65 rfl W44 1 rfl (Nat.le_of_ble_eq_true rfl)
  have K44 : Keep h0 h44 [] := K43.wr W44 (Or.inr sz_b42)
  have N44 := Fr.snoc X44 N43 g_b42
  obtain ⟨cl_b42_69, Ar_b42_69, q_b42_69, S_b42_69, N_b42_69, H_b42_69, G_b42_69⟩ := id V_b42_44
  have hin69 : ¬ ((2 : Int32) < 0 ∨ cl_b42_69.slots.size ≤ ((2 : Int32)).toNatClampNeg) := inb_of S_b42_69 ⟨by decide, by decide⟩
  obtain ⟨T45, h45, X45, e45, W45, st45⟩ := stZ X44 hx hZ e44 Ar_b42_69 (j := (2 : Int32)) hin69 (g := (mkF m 106 #[.val (.int p1), .val (.ref b2), .unset, .unset, .unset, .unset] [(.int (0 : Int32)), (.int (2 : Int32)), (.ref b42), (.ref b42)])) rfl rfl (hb hby at_106)
  rw [own_nar0] at W45
  have V_b42_45 : Arv Z h45 b42 k42 .boolean (13 : Int32) [(.int (0 : Int32)), (.int (0 : Int32)), (.int (0 : Int32)), (.int (0 : Int32)), (.int (0 : Int32)), (.int (0 : Int32)), (.int (0 : Int32)), (.int (0 : Int32)), (.int (0 : Int32)), (.int (0 : Int32)), (.int (0 : Int32)), (.int (0 : Int32)), (.int (0 : Int32))] (.int (0 : Int32)) := Arv.set Ar_b42_69 q_b42_69 S_b42_69 N_b42_69 H_b42_69 G_b42_69 rfl W45 2 rfl (Nat.le_of_ble_eq_true rfl)
  have K45 : Keep h0 h45 [] := K44.wr W45 (Or.inr sz_b42)
  have N45 := Fr.snoc X45 N44 g_b42
  obtain ⟨cl_b42_73, Ar_b42_73, q_b42_73, S_b42_73, N_b42_73, H_b42_73, G_b42_73⟩ := id V_b42_45
  have hin73 : ¬ ((3 : Int32) < 0 ∨ cl_b42_73.slots.size ≤ ((3 : Int32)).toNatClampNeg) := inb_of S_b42_73 ⟨by decide, by decide⟩
  obtain ⟨T46, h46, X46, e46, W46, st46⟩ := stZ X45 hx hZ e45 Ar_b42_73 (j := (3 : Int32)) hin73 (g := (mkF m 110 #[.val (.int p1), .val (.ref b2), .unset, .unset, .unset, .unset] [(.int (0 : Int32)), (.int (3 : Int32)), (.ref b42), (.ref b42)])) rfl rfl (hb hby at_110)
  rw [own_nar0] at W46
  have V_b42_46 : Arv Z h46 b42 k42 .boolean (13 : Int32) [(.int (0 : Int32)), (.int (0 : Int32)), (.int (0 : Int32)), (.int (0 : Int32)), (.int (0 : Int32)), (.int (0 : Int32)), (.int (0 : Int32)), (.int (0 : Int32)), (.int (0 : Int32)), (.int (0 : Int32)), (.int (0 : Int32)), (.int (0 : Int32)), (.int (0 : Int32))] (.int (0 : Int32)) := Arv.set Ar_b42_73 q_b42_73 S_b42_73 N_b42_73 H_b42_73 G_b42_73 rfl W46 3 rfl (Nat.le_of_ble_eq_true rfl)
  have K46 : Keep h0 h46 [] := K45.wr W46 (Or.inr sz_b42)
  have N46 := Fr.snoc X46 N45 g_b42
  obtain ⟨cl_b42_77, Ar_b42_77, q_b42_77, S_b42_77, N_b42_77, H_b42_77, G_b42_77⟩ := id V_b42_46
  have hin77 : ¬ ((4 : Int32) < 0 ∨ cl_b42_77.slots.size ≤ ((4 : Int32)).toNatClampNeg) := inb_of S_b42_77 ⟨by decide, by decide⟩
  obtain ⟨T47, h47, X47, e47, W47, st47⟩ := stZ X46 hx hZ e46 Ar_b42_77 (j := (4 : Int32)) hin77 (g := (mkF m 114 #[.val (.int p1), .val (.ref b2), .unset, .unset, .unset, .unset] [(.int (0 : Int32)), (.int (4 : Int32)), (.ref b42), (.ref b42)])) rfl rfl (hb hby at_114)
  rw [own_nar0] at W47
  have V_b42_47 : Arv Z h47 b42 k42 .boolean (13 : Int32) [(.int (0 : Int32)), (.int (0 : Int32)), (.int (0 : Int32)), (.int (0 : Int32)), (.int (0 : Int32)), (.int (0 : Int32)), (.int (0 : Int32)), (.int (0 : Int32)), (.int (0 : Int32)), (.int (0 : Int32)), (.int (0 : Int32)), (.int (0 : Int32)), (.int (0 : Int32))] (.int (0 : Int32)) := Arv.set Ar_b42_77 q_b42_77 S_b42_77 N_b42_77 H_b42_77 G_b42_77 rfl W47 4 rfl (Nat.le_of_ble_eq_true rfl)
  have K47 : Keep h0 h47 [] := K46.wr W47 (Or.inr sz_b42)
  have N47 := Fr.snoc X47 N46 g_b42
  obtain ⟨cl_b42_81, Ar_b42_81, q_b42_81, S_b42_81, N_b42_81, H_b42_81, G_b42_81⟩ := id V_b42_47
  have hin81 : ¬ ((5 : Int32) < 0 ∨ cl_b42_81.slots.size ≤ ((5 : Int32)).toNatClampNeg) := inb_of S_b42_81 ⟨by decide, by decide⟩
  obtain ⟨T48, h48, X48, e48, W48, st48⟩ := stZ X47 hx hZ e47 Ar_b42_81 (j := (5 : Int32)) hin81 (g := (mkF m 118 #[.val (.int p1), .val (.ref b2), .unset, .unset, .unset, .unset] [(.int (1 : Int32)), (.int (5 : Int32)), (.ref b42), (.ref b42)])) rfl rfl (hb hby at_118)
  rw [own_nar1] at W48
  have V_b42_48 : Arv Z h48 b42 k42 .boolean (13 : Int32) [(.int (0 : Int32)), (.int (0 : Int32)), (.int (0 : Int32)), (.int (0 : Int32)), (.int (0 : Int32)), (.int (1 : Int32)), (.int (0 : Int32)), (.int (0 : Int32)), (.int (0 : Int32)), (.int (0 : Int32)), (.int (0 : Int32)), (.int (0 : Int32)), (.int (0 : Int32))] (.int (0 : Int32)) := Arv.set Ar_b42_81 q_b42_81 S_b42_81 N_b42_81 H_b42_81 G_b42_81 rfl W48 5 rfl (Nat.le_of_ble_eq_true rfl)
  have K48 : Keep h0 h48 [] := K47.wr W48 (Or.inr sz_b42)
  have N48 := Fr.snoc X48 N47 g_b42
  obtain ⟨cl_b42_85, Ar_b42_85, q_b42_85, S_b42_85, N_b42_85, H_b42_85, G_b42_85⟩ := id V_b42_48
  have hin85 : ¬ ((6 : Int32) < 0 ∨ cl_b42_85.slots.size ≤ ((6 : Int32)).toNatClampNeg) := inb_of S_b42_85 ⟨by decide, by decide⟩
  obtain ⟨T49, h49, X49, e49, W49, st49⟩ := stZ X48 hx hZ e48 Ar_b42_85 (j := (6 : Int32)) hin85 (g := (mkF m 123 #[.val (.int p1), .val (.ref b2), .unset, .unset, .unset, .unset] [(.int (1 : Int32)), (.int (6 : Int32)), (.ref b42), (.ref b42)])) rfl rfl (hb hby at_123)
  rw [own_nar1] at W49
  have V_b42_49 : Arv Z h49 b42 k42 .boolean (13 : Int32) [(.int (0 : Int32)), (.int (0 : Int32)), (.int (0 : Int32)), (.int (0 : Int32)), (.int (0 : Int32)), (.int (1 : Int32)), (.int (1 : Int32)), (.int (0 : Int32)), (.int (0 : Int32)), (.int (0 : Int32)), (.int (0 : Int32)), (.int (0 : Int32)), (.int (0 : Int32))] (.int (0 : Int32)) := Arv.set Ar_b42_85 q_b42_85 S_b42_85 N_b42_85 H_b42_85 G_b42_85 rfl W49 6 rfl (Nat.le_of_ble_eq_true rfl)
  have K49 : Keep h0 h49 [] := K48.wr W49 (Or.inr sz_b42)
  have N49 := Fr.snoc X49 N48 g_b42
  obtain ⟨cl_b42_89, Ar_b42_89, q_b42_89, S_b42_89, N_b42_89, H_b42_89, G_b42_89⟩ := id V_b42_49
  have hin89 : ¬ ((7 : Int32) < 0 ∨ cl_b42_89.slots.size ≤ ((7 : Int32)).toNatClampNeg) := inb_of S_b42_89 ⟨by decide, by decide⟩
  obtain ⟨T50, h50, X50, e50, W50, st50⟩ := stZ X49 hx hZ e49 Ar_b42_89 (j := (7 : Int32)) hin89 (g := (mkF m 128 #[.val (.int p1), .val (.ref b2), .unset, .unset, .unset, .unset] [(.int (0 : Int32)), (.int (7 : Int32)), (.ref b42), (.ref b42)])) rfl rfl (hb hby at_128)
  rw [own_nar0] at W50
  have V_b42_50 : Arv Z h50 b42 k42 .boolean (13 : Int32) [(.int (0 : Int32)), (.int (0 : Int32)), (.int (0 : Int32)), (.int (0 : Int32)), (.int (0 : Int32)), (.int (1 : Int32)), (.int (1 : Int32)), (.int (0 : Int32)), (.int (0 : Int32)), (.int (0 : Int32)), (.int (0 : Int32)), (.int (0 : Int32)), (.int (0 : Int32))] (.int (0 : Int32)) := Arv.set Ar_b42_89 q_b42_89 S_b42_89 N_b42_89 H_b42_89 G_b42_89 rfl W50 7 rfl (Nat.le_of_ble_eq_true rfl)
  have K50 : Keep h0 h50 [] := K49.wr W50 (Or.inr sz_b42)
  have N50 := Fr.snoc X50 N49 g_b42
  obtain ⟨cl_b42_93, Ar_b42_93, q_b42_93, S_b42_93, N_b42_93, H_b42_93, G_b42_93⟩ := id V_b42_50
  have hin93 : ¬ ((8 : Int32) < 0 ∨ cl_b42_93.slots.size ≤ ((8 : Int32)).toNatClampNeg) := inb_of S_b42_93 ⟨by decide, by decide⟩
  obtain ⟨T51, h51, X51, e51, W51, st51⟩ := stZ X50 hx hZ e50 Ar_b42_93 (j := (8 : Int32)) hin93 (g := (mkF m 133 #[.val (.int p1), .val (.ref b2), .unset, .unset, .unset, .unset] [(.int (0 : Int32)), (.int (8 : Int32)), (.ref b42), (.ref b42)])) rfl rfl (hb hby at_133)
  rw [own_nar0] at W51
  have V_b42_51 : Arv Z h51 b42 k42 .boolean (13 : Int32) [(.int (0 : Int32)), (.int (0 : Int32)), (.int (0 : Int32)), (.int (0 : Int32)), (.int (0 : Int32)), (.int (1 : Int32)), (.int (1 : Int32)), (.int (0 : Int32)), (.int (0 : Int32)), (.int (0 : Int32)), (.int (0 : Int32)), (.int (0 : Int32)), (.int (0 : Int32))] (.int (0 : Int32)) := Arv.set Ar_b42_93 q_b42_93 S_b42_93 N_b42_93 H_b42_93 G_b42_93 rfl W51 8 rfl (Nat.le_of_ble_eq_true rfl)
  have K51 : Keep h0 h51 [] := K50.wr W51 (Or.inr sz_b42)
  have N51 := Fr.snoc X51 N50 g_b42
  obtain ⟨cl_b42_97, Ar_b42_97, q_b42_97, S_b42_97, N_b42_97, H_b42_97, G_b42_97⟩ := id V_b42_51
  have hin97 : ¬ ((9 : Int32) < 0 ∨ cl_b42_97.slots.size ≤ ((9 : Int32)).toNatClampNeg) := inb_of S_b42_97 ⟨by decide, by decide⟩
  obtain ⟨T52, h52, X52, e52, W52, st52⟩ := stZ X51 hx hZ e51 Ar_b42_97 (j := (9 : Int32)) hin97 (g := (mkF m 138 #[.val (.int p1), .val (.ref b2), .unset, .unset, .unset, .unset] [(.int (0 : Int32)), (.int (9 : Int32)), (.ref b42), (.ref b42)])) rfl rfl (hb hby at_138)
  rw [own_nar0] at W52
  have V_b42_52 : Arv Z h52 b42 k42 .boolean (13 : Int32) [(.int (0 : Int32)), (.int (0 : Int32)), (.int (0 : Int32)), (.int (0 : Int32)), (.int (0 : Int32)), (.int (1 : Int32)), (.int (1 : Int32)), (.int (0 : Int32)), (.int (0 : Int32)), (.int (0 : Int32)), (.int (0 : Int32)), (.int (0 : Int32)), (.int (0 : Int32))] (.int (0 : Int32)) := Arv.set Ar_b42_97 q_b42_97 S_b42_97 N_b42_97 H_b42_97 G_b42_97 rfl W52 9 rfl (Nat.le_of_ble_eq_true rfl)
  have K52 : Keep h0 h52 [] := K51.wr W52 (Or.inr sz_b42)
  have N52 := Fr.snoc X52 N51 g_b42
  obtain ⟨cl_b42_101, Ar_b42_101, q_b42_101, S_b42_101, N_b42_101, H_b42_101, G_b42_101⟩ := id V_b42_52
  have hin101 : ¬ ((10 : Int32) < 0 ∨ cl_b42_101.slots.size ≤ ((10 : Int32)).toNatClampNeg) := inb_of S_b42_101 ⟨by decide, by decide⟩
  obtain ⟨T53, h53, X53, e53, W53, st53⟩ := stZ X52 hx hZ e52 Ar_b42_101 (j := (10 : Int32)) hin101 (g := (mkF m 143 #[.val (.int p1), .val (.ref b2), .unset, .unset, .unset, .unset] [(.int (0 : Int32)), (.int (10 : Int32)), (.ref b42), (.ref b42)])) rfl rfl (hb hby at_143)
  rw [own_nar0] at W53
  have V_b42_53 : Arv Z h53 b42 k42 .boolean (13 : Int32) [(.int (0 : Int32)), (.int (0 : Int32)), (.int (0 : Int32)), (.int (0 : Int32)), (.int (0 : Int32)), (.int (1 : Int32)), (.int (1 : Int32)), (.int (0 : Int32)), (.int (0 : Int32)), (.int (0 : Int32)), (.int (0 : Int32)), (.int (0 : Int32)), (.int (0 : Int32))] (.int (0 : Int32)) := Arv.set Ar_b42_101 q_b42_101 S_b42_101 N_b42_101 H_b42_101 G_b42_101 rfl W53 10 rfl (Nat.le_of_ble_eq_true rfl)
  have K53 : Keep h0 h53 [] := K52.wr W53 (Or.inr sz_b42)
  have N53 := Fr.snoc X53 N52 g_b42
  obtain ⟨cl_b42_105, Ar_b42_105, q_b42_105, S_b42_105, N_b42_105, H_b42_105, G_b42_105⟩ := id V_b42_53
  have hin105 : ¬ ((11 : Int32) < 0 ∨ cl_b42_105.slots.size ≤ ((11 : Int32)).toNatClampNeg) := inb_of S_b42_105 ⟨by decide, by decide⟩
  obtain ⟨T54, h54, X54, e54, W54, st54⟩ := stZ X53 hx hZ e53 Ar_b42_105 (j := (11 : Int32)) hin105 (g := (mkF m 148 #[.val (.int p1), .val (.ref b2), .unset, .unset, .unset, .unset] [(.int (0 : Int32)), (.int (11 : Int32)), (.ref b42), (.ref b42)])) rfl rfl (hb hby at_148)
  rw [own_nar0] at W54
  have V_b42_54 : Arv Z h54 b42 k42 .boolean (13 : Int32) [(.int (0 : Int32)), (.int (0 : Int32)), (.int (0 : Int32)), (.int (0 : Int32)), (.int (0 : Int32)), (.int (1 : Int32)), (.int (1 : Int32)), (.int (0 : Int32)), (.int (0 : Int32)), (.int (0 : Int32)), (.int (0 : Int32)), (.int (0 : Int32)), (.int (0 : Int32))] (.int (0 : Int32)) := Arv.set Ar_b42_105 q_b42_105 S_b42_105 N_b42_105 H_b42_105 G_b42_105 rfl W54 11 rfl (Nat.le_of_ble_eq_true rfl)
  have K54 : Keep h0 h54 [] := K53.wr W54 (Or.inr sz_b42)
  have N54 := Fr.snoc X54 N53 g_b42
  obtain ⟨cl_b42_109, Ar_b42_109, q_b42_109, S_b42_109, N_b42_109, H_b42_109, G_b42_109⟩ := id V_b42_54
  have hin109 : ¬ ((12 : Int32) < 0 ∨ cl_b42_109.slots.size ≤ ((12 : Int32)).toNatClampNeg) := inb_of S_b42_109 ⟨by decide, by decide⟩
  obtain ⟨T55, h55, X55, e55, W55, st55⟩ := stZ X54 hx hZ e54 Ar_b42_109 (j := (12 : Int32)) hin109 (g := (mkF m 153 #[.val (.int p1), .val (.ref b2), .unset, .unset, .unset, .unset] [(.int (0 : Int32)), (.int (12 : Int32)), (.ref b42), (.ref b42)])) rfl rfl (hb hby at_153)
  rw [own_nar0] at W55
  have V_b42_55 : Arv Z h55 b42 k42 .boolean (13 : Int32) [(.int (0 : Int32)), (.int (0 : Int32)), (.int (0 : Int32)), (.int (0 : Int32)), (.int (0 : Int32)), (.int (1 : Int32)), (.int (1 : Int32)), (.int (0 : Int32)), (.int (0 : Int32)), (.int (0 : Int32)), (.int (0 : Int32)), (.int (0 : Int32)), (.int (0 : Int32))] (.int (0 : Int32)) := Arv.set Ar_b42_109 q_b42_109 S_b42_109 N_b42_109 H_b42_109 G_b42_109 rfl W55 12 rfl (Nat.le_of_ble_eq_true rfl)
  have K55 : Keep h0 h55 [] := K54.wr W55 (Or.inr sz_b42)
  have N55 := Fr.snoc X55 N54 g_b42
  obtain ⟨cl_b2_119, Ar_b2_119, q_b2_119, S_b2_119, N_b2_119, H_b2_119, G_b2_119⟩ := id ((((((((((((((V_b2_41.ext E42).other W43 (Nat.ne_of_lt (Nat.lt_of_lt_of_le V_b2_41.lt (Nat.le_of_eq g42.symm)))).other W44 (Nat.ne_of_lt (Nat.lt_of_lt_of_le V_b2_41.lt (Nat.le_of_eq g42.symm)))).other W45 (Nat.ne_of_lt (Nat.lt_of_lt_of_le V_b2_41.lt (Nat.le_of_eq g42.symm)))).other W46 (Nat.ne_of_lt (Nat.lt_of_lt_of_le V_b2_41.lt (Nat.le_of_eq g42.symm)))).other W47 (Nat.ne_of_lt (Nat.lt_of_lt_of_le V_b2_41.lt (Nat.le_of_eq g42.symm)))).other W48 (Nat.ne_of_lt (Nat.lt_of_lt_of_le V_b2_41.lt (Nat.le_of_eq g42.symm)))).other W49 (Nat.ne_of_lt (Nat.lt_of_lt_of_le V_b2_41.lt (Nat.le_of_eq g42.symm)))).other W50 (Nat.ne_of_lt (Nat.lt_of_lt_of_le V_b2_41.lt (Nat.le_of_eq g42.symm)))).other W51 (Nat.ne_of_lt (Nat.lt_of_lt_of_le V_b2_41.lt (Nat.le_of_eq g42.symm)))).other W52 (Nat.ne_of_lt (Nat.lt_of_lt_of_le V_b2_41.lt (Nat.le_of_eq g42.symm)))).other W53 (Nat.ne_of_lt (Nat.lt_of_lt_of_le V_b2_41.lt (Nat.le_of_eq g42.symm)))).other W54 (Nat.ne_of_lt (Nat.lt_of_lt_of_le V_b2_41.lt (Nat.le_of_eq g42.symm)))).other W55 (Nat.ne_of_lt (Nat.lt_of_lt_of_le V_b2_41.lt (Nat.le_of_eq g42.symm))))
  have hin119 : ¬ (((p1 &&& (2147483647 : Int32)) % (13 : Int32)) < 0 ∨ cl_b2_119.slots.size ≤ (((p1 &&& (2147483647 : Int32)) % (13 : Int32))).toNatClampNeg) := inb_of S_b2_119 hix119
  have hat119 : cl_b2_119.slots[(((p1 &&& (2147483647 : Int32)) % (13 : Int32))).toNatClampNeg]? = some (.ref r) := H_b2_119.at hin119 hel119
  obtain ⟨LL, X55, N55⟩ : ∃ LL : List Loc, Stand p l e room_1 s m #[(.int p1)] below meth c T55 LL 2 26 ∧ Fr n0 LL := ⟨_, X55, N55⟩
  obtain ⟨cq56, kq56, q56a, q56b, q56c⟩ := isOf hZ e55 (E_r.keep K55)
  obtain ⟨_, _, ⟨T56, L56, k56, n56⟩, -, X56, ⟨Lc56, hQ56, l56, y56, z56⟩, st56⟩ := X55.virtualBack hx (y := (⟨"com/example/earnest_repository/earnestrepository/core/Result", "single", "()Z"⟩ : MethodName)) (z := (⟨"com/example/earnest_repository/earnestrepository/core/Result", "single", "()Z"⟩ : MethodName)) hown (mvT hZ (hw _ (List.mem_of_getElem? (i := 32) rfl))) (mvT hZ (hw _ (List.mem_of_getElem? (i := 33) rfl))) (notFace_of_selects (args := #[]) (mvT hZ (hw _ (List.mem_of_getElem? (i := 35) rfl)))) (mvT hZ (hw _ (List.mem_of_getElem? (i := 35) rfl))) (mvT hZ (hw _ (List.mem_of_getElem? (i := 34) rfl))) (by decide) (backOf (W := 0) (rm1_all l Z a0 hw [] r w_ENTITY w_OPTIONAL (0 : Int32) h55 n0 (Nat.le_trans Z0 K55.1) (own_staK S_ENTITY K55 all0) (own_staK S_OPTIONAL K55 all0) hb1) hZ (hw _ (List.mem_of_getElem? (i := 36) rfl)) (hw _ (List.mem_of_getElem? (i := 3) rfl)) (by decide) (by decide)) q56a q56c (g := (mkF m 170 #[.val (.int p1), .val (.ref b2), .val (.ref b42), .val (.int ((p1 &&& (2147483647 : Int32)) % (13 : Int32))), .val (.ref r), .unset] [(.ref r)])) rfl (by rw [hml]; rfl) (Steps.refl _) (argsL := []) (rest := []) (lenOf pd_0_0 rfl) rfl (by show 2 * 0 + _ ≤ _; exact Nat.le_of_eq rfl) (hb hby at_170) (fun _ _ => ⟨rfl, e55, (by decide : 2 + 0 ≤ _), (by decide : 26 + 0 ≤ _)⟩)
  dsimp only [Pt.U, Pt.locs, Pt.cells, Pt.slots] at X56 l56 y56 z56 st56 hQ56
  subst l56 y56 z56
  obtain ⟨rfl, N56q, eh56⟩ := hQ56
  have N56 := Fr.app N55 N56q
  obtain ⟨cl_b42_127, Ar_b42_127, q_b42_127, S_b42_127, N_b42_127, H_b42_127, G_b42_127⟩ := id V_b42_55
  have hin127 : ¬ (((p1 &&& (2147483647 : Int32)) % (13 : Int32)) < 0 ∨ cl_b42_127.slots.size ≤ (((p1 &&& (2147483647 : Int32)) % (13 : Int32))).toNatClampNeg) := inb_of S_b42_127 hix127
  have hat127 : cl_b42_127.slots[(((p1 &&& (2147483647 : Int32)) % (13 : Int32))).toNatClampNeg]? = some (.int (0 : Int32)) := H_b42_127.at hin127 hel127
  obtain ⟨fs, hr, hrun, hended, hW, hsame⟩ := X56.leave (v := some (.int (1 : Int32))) (fun h => by rw [Bd.returns] at h; cases h)
  refine ⟨_, _, pre0 _ ?_, hrun, hended, _, _, rfl, ?_, ⟨_, rfl⟩, hW, hsame.mono (by decide) (by decide)⟩
  · show Steps p.tables e below (s₁.setTop (mkF m 0 #[.val (.int p1), .unset, .unset, .unset, .unset, .unset] [])) _
    refine XS.bipush X0.here hx rfl (hb hby at_0) ?_
    show Steps p.tables e below (s₁.setTop (mkF m 2 #[.val (.int p1), .unset, .unset, .unset, .unset, .unset] [(.int (13 : Int32))])) _
    refine st2 _ ?_
    show Steps p.tables e below (T2.setTop (mkF m 5 #[.val (.int p1), .unset, .unset, .unset, .unset, .unset] [(.ref b2)])) _
    refine XS.dup X2.here hx rfl (hb hby at_5) rfl rfl ?_
    show Steps p.tables e below (T2.setTop (mkF m 6 #[.val (.int p1), .unset, .unset, .unset, .unset, .unset] [(.ref b2), (.ref b2)])) _
    refine XS.iconst X2.here hx rfl (hb hby at_6) ?_
    show Steps p.tables e below (T2.setTop (mkF m 7 #[.val (.int p1), .unset, .unset, .unset, .unset, .unset] [(.int (0 : Int32)), (.ref b2), (.ref b2)])) _
    refine st4 _ ?_
    show Steps p.tables e below (T4.setTop (mkF m 10 #[.val (.int p1), .unset, .unset, .unset, .unset, .unset] [(.ref w_ENTITIES), (.int (0 : Int32)), (.ref b2), (.ref b2)])) _
    refine st5 _ ?_
    show Steps p.tables e below (T5.setTop (mkF m 11 #[.val (.int p1), .unset, .unset, .unset, .unset, .unset] [(.ref b2)])) _
    refine XS.dup X5.here hx rfl (hb hby at_11) rfl rfl ?_
    show Steps p.tables e below (T5.setTop (mkF m 12 #[.val (.int p1), .unset, .unset, .unset, .unset, .unset] [(.ref b2), (.ref b2)])) _
    refine XS.iconst X5.here hx rfl (hb hby at_12) ?_
    show Steps p.tables e below (T5.setTop (mkF m 13 #[.val (.int p1), .unset, .unset, .unset, .unset, .unset] [(.int (1 : Int32)), (.ref b2), (.ref b2)])) _
    refine st7 _ ?_
    show Steps p.tables e below (T7.setTop (mkF m 16 #[.val (.int p1), .unset, .unset, .unset, .unset, .unset] [(.ref w_ENTITY_SET), (.int (1 : Int32)), (.ref b2), (.ref b2)])) _
    refine st8 _ ?_
    show Steps p.tables e below (T8.setTop (mkF m 17 #[.val (.int p1), .unset, .unset, .unset, .unset, .unset] [(.ref b2)])) _
    refine XS.dup X8.here hx rfl (hb hby at_17) rfl rfl ?_
    show Steps p.tables e below (T8.setTop (mkF m 18 #[.val (.int p1), .unset, .unset, .unset, .unset, .unset] [(.ref b2), (.ref b2)])) _
    refine XS.iconst X8.here hx rfl (hb hby at_18) ?_
    show Steps p.tables e below (T8.setTop (mkF m 19 #[.val (.int p1), .unset, .unset, .unset, .unset, .unset] [(.int (2 : Int32)), (.ref b2), (.ref b2)])) _
    refine st10 _ ?_
    show Steps p.tables e below (T10.setTop (mkF m 22 #[.val (.int p1), .unset, .unset, .unset, .unset, .unset] [(.ref w_ITERATOR), (.int (2 : Int32)), (.ref b2), (.ref b2)])) _
    refine st11 _ ?_
    show Steps p.tables e below (T11.setTop (mkF m 23 #[.val (.int p1), .unset, .unset, .unset, .unset, .unset] [(.ref b2)])) _
    refine XS.dup X11.here hx rfl (hb hby at_23) rfl rfl ?_
    show Steps p.tables e below (T11.setTop (mkF m 24 #[.val (.int p1), .unset, .unset, .unset, .unset, .unset] [(.ref b2), (.ref b2)])) _
    refine XS.iconst X11.here hx rfl (hb hby at_24) ?_
    show Steps p.tables e below (T11.setTop (mkF m 25 #[.val (.int p1), .unset, .unset, .unset, .unset, .unset] [(.int (3 : Int32)), (.ref b2), (.ref b2)])) _
    refine st13 _ ?_
    show Steps p.tables e below (T13.setTop (mkF m 28 #[.val (.int p1), .unset, .unset, .unset, .unset, .unset] [(.ref w_STREAM), (.int (3 : Int32)), (.ref b2), (.ref b2)])) _
    refine st14 _ ?_
    show Steps p.tables e below (T14.setTop (mkF m 29 #[.val (.int p1), .unset, .unset, .unset, .unset, .unset] [(.ref b2)])) _
    refine XS.dup X14.here hx rfl (hb hby at_29) rfl rfl ?_
    show Steps p.tables e below (T14.setTop (mkF m 30 #[.val (.int p1), .unset, .unset, .unset, .unset, .unset] [(.ref b2), (.ref b2)])) _
    refine XS.iconst X14.here hx rfl (hb hby at_30) ?_
    show Steps p.tables e below (T14.setTop (mkF m 31 #[.val (.int p1), .unset, .unset, .unset, .unset, .unset] [(.int (4 : Int32)), (.ref b2), (.ref b2)])) _
    refine st16 _ ?_
    show Steps p.tables e below (T16.setTop (mkF m 34 #[.val (.int p1), .unset, .unset, .unset, .unset, .unset] [(.ref w_STREAMABLE), (.int (4 : Int32)), (.ref b2), (.ref b2)])) _
    refine st17 _ ?_
    show Steps p.tables e below (T17.setTop (mkF m 35 #[.val (.int p1), .unset, .unset, .unset, .unset, .unset] [(.ref b2)])) _
    refine XS.dup X17.here hx rfl (hb hby at_35) rfl rfl ?_
    show Steps p.tables e below (T17.setTop (mkF m 36 #[.val (.int p1), .unset, .unset, .unset, .unset, .unset] [(.ref b2), (.ref b2)])) _
    refine XS.iconst X17.here hx rfl (hb hby at_36) ?_
    show Steps p.tables e below (T17.setTop (mkF m 37 #[.val (.int p1), .unset, .unset, .unset, .unset, .unset] [(.int (5 : Int32)), (.ref b2), (.ref b2)])) _
    refine st19 _ ?_
    show Steps p.tables e below (T19.setTop (mkF m 40 #[.val (.int p1), .unset, .unset, .unset, .unset, .unset] [(.ref w_ENTITY), (.int (5 : Int32)), (.ref b2), (.ref b2)])) _
    refine st20 _ ?_
    show Steps p.tables e below (T20.setTop (mkF m 41 #[.val (.int p1), .unset, .unset, .unset, .unset, .unset] [(.ref b2)])) _
    refine XS.dup X20.here hx rfl (hb hby at_41) rfl rfl ?_
    show Steps p.tables e below (T20.setTop (mkF m 42 #[.val (.int p1), .unset, .unset, .unset, .unset, .unset] [(.ref b2), (.ref b2)])) _
    refine XS.bipush X20.here hx rfl (hb hby at_42) ?_
    show Steps p.tables e below (T20.setTop (mkF m 44 #[.val (.int p1), .unset, .unset, .unset, .unset, .unset] [(.int (6 : Int32)), (.ref b2), (.ref b2)])) _
    refine st22 _ ?_
    show Steps p.tables e below (T22.setTop (mkF m 47 #[.val (.int p1), .unset, .unset, .unset, .unset, .unset] [(.ref w_OPTIONAL), (.int (6 : Int32)), (.ref b2), (.ref b2)])) _
    refine st23 _ ?_
    show Steps p.tables e below (T23.setTop (mkF m 48 #[.val (.int p1), .unset, .unset, .unset, .unset, .unset] [(.ref b2)])) _
    refine XS.dup X23.here hx rfl (hb hby at_48) rfl rfl ?_
    show Steps p.tables e below (T23.setTop (mkF m 49 #[.val (.int p1), .unset, .unset, .unset, .unset, .unset] [(.ref b2), (.ref b2)])) _
    refine XS.bipush X23.here hx rfl (hb hby at_49) ?_
    show Steps p.tables e below (T23.setTop (mkF m 51 #[.val (.int p1), .unset, .unset, .unset, .unset, .unset] [(.int (7 : Int32)), (.ref b2), (.ref b2)])) _
    refine st25 _ ?_
    show Steps p.tables e below (T25.setTop (mkF m 54 #[.val (.int p1), .unset, .unset, .unset, .unset, .unset] [(.ref w_SLICE), (.int (7 : Int32)), (.ref b2), (.ref b2)])) _
    refine st26 _ ?_
    show Steps p.tables e below (T26.setTop (mkF m 55 #[.val (.int p1), .unset, .unset, .unset, .unset, .unset] [(.ref b2)])) _
    refine XS.dup X26.here hx rfl (hb hby at_55) rfl rfl ?_
    show Steps p.tables e below (T26.setTop (mkF m 56 #[.val (.int p1), .unset, .unset, .unset, .unset, .unset] [(.ref b2), (.ref b2)])) _
    refine XS.bipush X26.here hx rfl (hb hby at_56) ?_
    show Steps p.tables e below (T26.setTop (mkF m 58 #[.val (.int p1), .unset, .unset, .unset, .unset, .unset] [(.int (8 : Int32)), (.ref b2), (.ref b2)])) _
    refine st28 _ ?_
    show Steps p.tables e below (T28.setTop (mkF m 61 #[.val (.int p1), .unset, .unset, .unset, .unset, .unset] [(.ref w_PAGE), (.int (8 : Int32)), (.ref b2), (.ref b2)])) _
    refine st29 _ ?_
    show Steps p.tables e below (T29.setTop (mkF m 62 #[.val (.int p1), .unset, .unset, .unset, .unset, .unset] [(.ref b2)])) _
    refine XS.dup X29.here hx rfl (hb hby at_62) rfl rfl ?_
    show Steps p.tables e below (T29.setTop (mkF m 63 #[.val (.int p1), .unset, .unset, .unset, .unset, .unset] [(.ref b2), (.ref b2)])) _
    refine XS.bipush X29.here hx rfl (hb hby at_63) ?_
    show Steps p.tables e below (T29.setTop (mkF m 65 #[.val (.int p1), .unset, .unset, .unset, .unset, .unset] [(.int (9 : Int32)), (.ref b2), (.ref b2)])) _
    refine st31 _ ?_
    show Steps p.tables e below (T31.setTop (mkF m 68 #[.val (.int p1), .unset, .unset, .unset, .unset, .unset] [(.ref w_NUMBER), (.int (9 : Int32)), (.ref b2), (.ref b2)])) _
    refine st32 _ ?_
    show Steps p.tables e below (T32.setTop (mkF m 69 #[.val (.int p1), .unset, .unset, .unset, .unset, .unset] [(.ref b2)])) _
    refine XS.dup X32.here hx rfl (hb hby at_69) rfl rfl ?_
    show Steps p.tables e below (T32.setTop (mkF m 70 #[.val (.int p1), .unset, .unset, .unset, .unset, .unset] [(.ref b2), (.ref b2)])) _
    refine XS.bipush X32.here hx rfl (hb hby at_70) ?_
    show Steps p.tables e below (T32.setTop (mkF m 72 #[.val (.int p1), .unset, .unset, .unset, .unset, .unset] [(.int (10 : Int32)), (.ref b2), (.ref b2)])) _
    refine st34 _ ?_
    show Steps p.tables e below (T34.setTop (mkF m 75 #[.val (.int p1), .unset, .unset, .unset, .unset, .unset] [(.ref w_INT_NUMBER), (.int (10 : Int32)), (.ref b2), (.ref b2)])) _
    refine st35 _ ?_
    show Steps p.tables e below (T35.setTop (mkF m 76 #[.val (.int p1), .unset, .unset, .unset, .unset, .unset] [(.ref b2)])) _
    refine XS.dup X35.here hx rfl (hb hby at_76) rfl rfl ?_
    show Steps p.tables e below (T35.setTop (mkF m 77 #[.val (.int p1), .unset, .unset, .unset, .unset, .unset] [(.ref b2), (.ref b2)])) _
    refine XS.bipush X35.here hx rfl (hb hby at_77) ?_
    show Steps p.tables e below (T35.setTop (mkF m 79 #[.val (.int p1), .unset, .unset, .unset, .unset, .unset] [(.int (11 : Int32)), (.ref b2), (.ref b2)])) _
    refine st37 _ ?_
    show Steps p.tables e below (T37.setTop (mkF m 82 #[.val (.int p1), .unset, .unset, .unset, .unset, .unset] [(.ref w_PRESENCE), (.int (11 : Int32)), (.ref b2), (.ref b2)])) _
    refine st38 _ ?_
    show Steps p.tables e below (T38.setTop (mkF m 83 #[.val (.int p1), .unset, .unset, .unset, .unset, .unset] [(.ref b2)])) _
    refine XS.dup X38.here hx rfl (hb hby at_83) rfl rfl ?_
    show Steps p.tables e below (T38.setTop (mkF m 84 #[.val (.int p1), .unset, .unset, .unset, .unset, .unset] [(.ref b2), (.ref b2)])) _
    refine XS.bipush X38.here hx rfl (hb hby at_84) ?_
    show Steps p.tables e below (T38.setTop (mkF m 86 #[.val (.int p1), .unset, .unset, .unset, .unset, .unset] [(.int (12 : Int32)), (.ref b2), (.ref b2)])) _
    refine st40 _ ?_
    show Steps p.tables e below (T40.setTop (mkF m 89 #[.val (.int p1), .unset, .unset, .unset, .unset, .unset] [(.ref w_NOTHING), (.int (12 : Int32)), (.ref b2), (.ref b2)])) _
    refine st41 _ ?_
    show Steps p.tables e below (T41.setTop (mkF m 90 #[.val (.int p1), .unset, .unset, .unset, .unset, .unset] [(.ref b2)])) _
    refine XS.astoreN X41.here hx rfl (hb hby at_90) rfl rfl (l' := #[.val (.int p1), .val (.ref b2), .unset, .unset, .unset, .unset]) rfl ?_
    show Steps p.tables e below (T41.setTop (mkF m 91 #[.val (.int p1), .val (.ref b2), .unset, .unset, .unset, .unset] [])) _
    refine XS.bipush X41.here hx rfl (hb hby at_91) ?_
    show Steps p.tables e below (T41.setTop (mkF m 93 #[.val (.int p1), .val (.ref b2), .unset, .unset, .unset, .unset] [(.int (13 : Int32))])) _
    refine st42 _ ?_
    show Steps p.tables e below (T42.setTop (mkF m 95 #[.val (.int p1), .val (.ref b2), .unset, .unset, .unset, .unset] [(.ref b42)])) _
    refine XS.dup X42.here hx rfl (hb hby at_95) rfl rfl ?_
    show Steps p.tables e below (T42.setTop (mkF m 96 #[.val (.int p1), .val (.ref b2), .unset, .unset, .unset, .unset] [(.ref b42), (.ref b42)])) _
    refine XS.iconst X42.here hx rfl (hb hby at_96) ?_
    show Steps p.tables e below (T42.setTop (mkF m 97 #[.val (.int p1), .val (.ref b2), .unset, .unset, .unset, .unset] [(.int (0 : Int32)), (.ref b42), (.ref b42)])) _
    refine XS.iconst X42.here hx rfl (hb hby at_97) ?_
    show Steps p.tables e below (T42.setTop (mkF m 98 #[.val (.int p1), .val (.ref b2), .unset, .unset, .unset, .unset] [(.int (0 : Int32)), (.int (0 : Int32)), (.ref b42), (.ref b42)])) _
    refine st43 _ ?_
    show Steps p.tables e below (T43.setTop (mkF m 99 #[.val (.int p1), .val (.ref b2), .unset, .unset, .unset, .unset] [(.ref b42)])) _
    refine XS.dup X43.here hx rfl (hb hby at_99) rfl rfl ?_
    show Steps p.tables e below (T43.setTop (mkF m 100 #[.val (.int p1), .val (.ref b2), .unset, .unset, .unset, .unset] [(.ref b42), (.ref b42)])) _
    refine XS.iconst X43.here hx rfl (hb hby at_100) ?_
    show Steps p.tables e below (T43.setTop (mkF m 101 #[.val (.int p1), .val (.ref b2), .unset, .unset, .unset, .unset] [(.int (1 : Int32)), (.ref b42), (.ref b42)])) _
    refine XS.iconst X43.here hx rfl (hb hby at_101) ?_
    show Steps p.tables e below (T43.setTop (mkF m 102 #[.val (.int p1), .val (.ref b2), .unset, .unset, .unset, .unset] [(.int (0 : Int32)), (.int (1 : Int32)), (.ref b42), (.ref b42)])) _
    refine st44 _ ?_
    show Steps p.tables e below (T44.setTop (mkF m 103 #[.val (.int p1), .val (.ref b2), .unset, .unset, .unset, .unset] [(.ref b42)])) _
    refine XS.dup X44.here hx rfl (hb hby at_103) rfl rfl ?_
    show Steps p.tables e below (T44.setTop (mkF m 104 #[.val (.int p1), .val (.ref b2), .unset, .unset, .unset, .unset] [(.ref b42), (.ref b42)])) _
    refine XS.iconst X44.here hx rfl (hb hby at_104) ?_
    show Steps p.tables e below (T44.setTop (mkF m 105 #[.val (.int p1), .val (.ref b2), .unset, .unset, .unset, .unset] [(.int (2 : Int32)), (.ref b42), (.ref b42)])) _
    refine XS.iconst X44.here hx rfl (hb hby at_105) ?_
    show Steps p.tables e below (T44.setTop (mkF m 106 #[.val (.int p1), .val (.ref b2), .unset, .unset, .unset, .unset] [(.int (0 : Int32)), (.int (2 : Int32)), (.ref b42), (.ref b42)])) _
    refine st45 _ ?_
    show Steps p.tables e below (T45.setTop (mkF m 107 #[.val (.int p1), .val (.ref b2), .unset, .unset, .unset, .unset] [(.ref b42)])) _
    refine XS.dup X45.here hx rfl (hb hby at_107) rfl rfl ?_
    show Steps p.tables e below (T45.setTop (mkF m 108 #[.val (.int p1), .val (.ref b2), .unset, .unset, .unset, .unset] [(.ref b42), (.ref b42)])) _
    refine XS.iconst X45.here hx rfl (hb hby at_108) ?_
    show Steps p.tables e below (T45.setTop (mkF m 109 #[.val (.int p1), .val (.ref b2), .unset, .unset, .unset, .unset] [(.int (3 : Int32)), (.ref b42), (.ref b42)])) _
    refine XS.iconst X45.here hx rfl (hb hby at_109) ?_
    show Steps p.tables e below (T45.setTop (mkF m 110 #[.val (.int p1), .val (.ref b2), .unset, .unset, .unset, .unset] [(.int (0 : Int32)), (.int (3 : Int32)), (.ref b42), (.ref b42)])) _
    refine st46 _ ?_
    show Steps p.tables e below (T46.setTop (mkF m 111 #[.val (.int p1), .val (.ref b2), .unset, .unset, .unset, .unset] [(.ref b42)])) _
    refine XS.dup X46.here hx rfl (hb hby at_111) rfl rfl ?_
    show Steps p.tables e below (T46.setTop (mkF m 112 #[.val (.int p1), .val (.ref b2), .unset, .unset, .unset, .unset] [(.ref b42), (.ref b42)])) _
    refine XS.iconst X46.here hx rfl (hb hby at_112) ?_
    show Steps p.tables e below (T46.setTop (mkF m 113 #[.val (.int p1), .val (.ref b2), .unset, .unset, .unset, .unset] [(.int (4 : Int32)), (.ref b42), (.ref b42)])) _
    refine XS.iconst X46.here hx rfl (hb hby at_113) ?_
    show Steps p.tables e below (T46.setTop (mkF m 114 #[.val (.int p1), .val (.ref b2), .unset, .unset, .unset, .unset] [(.int (0 : Int32)), (.int (4 : Int32)), (.ref b42), (.ref b42)])) _
    refine st47 _ ?_
    show Steps p.tables e below (T47.setTop (mkF m 115 #[.val (.int p1), .val (.ref b2), .unset, .unset, .unset, .unset] [(.ref b42)])) _
    refine XS.dup X47.here hx rfl (hb hby at_115) rfl rfl ?_
    show Steps p.tables e below (T47.setTop (mkF m 116 #[.val (.int p1), .val (.ref b2), .unset, .unset, .unset, .unset] [(.ref b42), (.ref b42)])) _
    refine XS.iconst X47.here hx rfl (hb hby at_116) ?_
    show Steps p.tables e below (T47.setTop (mkF m 117 #[.val (.int p1), .val (.ref b2), .unset, .unset, .unset, .unset] [(.int (5 : Int32)), (.ref b42), (.ref b42)])) _
    refine XS.iconst X47.here hx rfl (hb hby at_117) ?_
    show Steps p.tables e below (T47.setTop (mkF m 118 #[.val (.int p1), .val (.ref b2), .unset, .unset, .unset, .unset] [(.int (1 : Int32)), (.int (5 : Int32)), (.ref b42), (.ref b42)])) _
    refine st48 _ ?_
    show Steps p.tables e below (T48.setTop (mkF m 119 #[.val (.int p1), .val (.ref b2), .unset, .unset, .unset, .unset] [(.ref b42)])) _
    refine XS.dup X48.here hx rfl (hb hby at_119) rfl rfl ?_
    show Steps p.tables e below (T48.setTop (mkF m 120 #[.val (.int p1), .val (.ref b2), .unset, .unset, .unset, .unset] [(.ref b42), (.ref b42)])) _
    refine XS.bipush X48.here hx rfl (hb hby at_120) ?_
    show Steps p.tables e below (T48.setTop (mkF m 122 #[.val (.int p1), .val (.ref b2), .unset, .unset, .unset, .unset] [(.int (6 : Int32)), (.ref b42), (.ref b42)])) _
    refine XS.iconst X48.here hx rfl (hb hby at_122) ?_
    show Steps p.tables e below (T48.setTop (mkF m 123 #[.val (.int p1), .val (.ref b2), .unset, .unset, .unset, .unset] [(.int (1 : Int32)), (.int (6 : Int32)), (.ref b42), (.ref b42)])) _
    refine st49 _ ?_
    show Steps p.tables e below (T49.setTop (mkF m 124 #[.val (.int p1), .val (.ref b2), .unset, .unset, .unset, .unset] [(.ref b42)])) _
    refine XS.dup X49.here hx rfl (hb hby at_124) rfl rfl ?_
    show Steps p.tables e below (T49.setTop (mkF m 125 #[.val (.int p1), .val (.ref b2), .unset, .unset, .unset, .unset] [(.ref b42), (.ref b42)])) _
    refine XS.bipush X49.here hx rfl (hb hby at_125) ?_
    show Steps p.tables e below (T49.setTop (mkF m 127 #[.val (.int p1), .val (.ref b2), .unset, .unset, .unset, .unset] [(.int (7 : Int32)), (.ref b42), (.ref b42)])) _
    refine XS.iconst X49.here hx rfl (hb hby at_127) ?_
    show Steps p.tables e below (T49.setTop (mkF m 128 #[.val (.int p1), .val (.ref b2), .unset, .unset, .unset, .unset] [(.int (0 : Int32)), (.int (7 : Int32)), (.ref b42), (.ref b42)])) _
    refine st50 _ ?_
    show Steps p.tables e below (T50.setTop (mkF m 129 #[.val (.int p1), .val (.ref b2), .unset, .unset, .unset, .unset] [(.ref b42)])) _
    refine XS.dup X50.here hx rfl (hb hby at_129) rfl rfl ?_
    show Steps p.tables e below (T50.setTop (mkF m 130 #[.val (.int p1), .val (.ref b2), .unset, .unset, .unset, .unset] [(.ref b42), (.ref b42)])) _
    refine XS.bipush X50.here hx rfl (hb hby at_130) ?_
    show Steps p.tables e below (T50.setTop (mkF m 132 #[.val (.int p1), .val (.ref b2), .unset, .unset, .unset, .unset] [(.int (8 : Int32)), (.ref b42), (.ref b42)])) _
    refine XS.iconst X50.here hx rfl (hb hby at_132) ?_
    show Steps p.tables e below (T50.setTop (mkF m 133 #[.val (.int p1), .val (.ref b2), .unset, .unset, .unset, .unset] [(.int (0 : Int32)), (.int (8 : Int32)), (.ref b42), (.ref b42)])) _
    refine st51 _ ?_
    show Steps p.tables e below (T51.setTop (mkF m 134 #[.val (.int p1), .val (.ref b2), .unset, .unset, .unset, .unset] [(.ref b42)])) _
    refine XS.dup X51.here hx rfl (hb hby at_134) rfl rfl ?_
    show Steps p.tables e below (T51.setTop (mkF m 135 #[.val (.int p1), .val (.ref b2), .unset, .unset, .unset, .unset] [(.ref b42), (.ref b42)])) _
    refine XS.bipush X51.here hx rfl (hb hby at_135) ?_
    show Steps p.tables e below (T51.setTop (mkF m 137 #[.val (.int p1), .val (.ref b2), .unset, .unset, .unset, .unset] [(.int (9 : Int32)), (.ref b42), (.ref b42)])) _
    refine XS.iconst X51.here hx rfl (hb hby at_137) ?_
    show Steps p.tables e below (T51.setTop (mkF m 138 #[.val (.int p1), .val (.ref b2), .unset, .unset, .unset, .unset] [(.int (0 : Int32)), (.int (9 : Int32)), (.ref b42), (.ref b42)])) _
    refine st52 _ ?_
    show Steps p.tables e below (T52.setTop (mkF m 139 #[.val (.int p1), .val (.ref b2), .unset, .unset, .unset, .unset] [(.ref b42)])) _
    refine XS.dup X52.here hx rfl (hb hby at_139) rfl rfl ?_
    show Steps p.tables e below (T52.setTop (mkF m 140 #[.val (.int p1), .val (.ref b2), .unset, .unset, .unset, .unset] [(.ref b42), (.ref b42)])) _
    refine XS.bipush X52.here hx rfl (hb hby at_140) ?_
    show Steps p.tables e below (T52.setTop (mkF m 142 #[.val (.int p1), .val (.ref b2), .unset, .unset, .unset, .unset] [(.int (10 : Int32)), (.ref b42), (.ref b42)])) _
    refine XS.iconst X52.here hx rfl (hb hby at_142) ?_
    show Steps p.tables e below (T52.setTop (mkF m 143 #[.val (.int p1), .val (.ref b2), .unset, .unset, .unset, .unset] [(.int (0 : Int32)), (.int (10 : Int32)), (.ref b42), (.ref b42)])) _
    refine st53 _ ?_
    show Steps p.tables e below (T53.setTop (mkF m 144 #[.val (.int p1), .val (.ref b2), .unset, .unset, .unset, .unset] [(.ref b42)])) _
    refine XS.dup X53.here hx rfl (hb hby at_144) rfl rfl ?_
    show Steps p.tables e below (T53.setTop (mkF m 145 #[.val (.int p1), .val (.ref b2), .unset, .unset, .unset, .unset] [(.ref b42), (.ref b42)])) _
    refine XS.bipush X53.here hx rfl (hb hby at_145) ?_
    show Steps p.tables e below (T53.setTop (mkF m 147 #[.val (.int p1), .val (.ref b2), .unset, .unset, .unset, .unset] [(.int (11 : Int32)), (.ref b42), (.ref b42)])) _
    refine XS.iconst X53.here hx rfl (hb hby at_147) ?_
    show Steps p.tables e below (T53.setTop (mkF m 148 #[.val (.int p1), .val (.ref b2), .unset, .unset, .unset, .unset] [(.int (0 : Int32)), (.int (11 : Int32)), (.ref b42), (.ref b42)])) _
    refine st54 _ ?_
    show Steps p.tables e below (T54.setTop (mkF m 149 #[.val (.int p1), .val (.ref b2), .unset, .unset, .unset, .unset] [(.ref b42)])) _
    refine XS.dup X54.here hx rfl (hb hby at_149) rfl rfl ?_
    show Steps p.tables e below (T54.setTop (mkF m 150 #[.val (.int p1), .val (.ref b2), .unset, .unset, .unset, .unset] [(.ref b42), (.ref b42)])) _
    refine XS.bipush X54.here hx rfl (hb hby at_150) ?_
    show Steps p.tables e below (T54.setTop (mkF m 152 #[.val (.int p1), .val (.ref b2), .unset, .unset, .unset, .unset] [(.int (12 : Int32)), (.ref b42), (.ref b42)])) _
    refine XS.iconst X54.here hx rfl (hb hby at_152) ?_
    show Steps p.tables e below (T54.setTop (mkF m 153 #[.val (.int p1), .val (.ref b2), .unset, .unset, .unset, .unset] [(.int (0 : Int32)), (.int (12 : Int32)), (.ref b42), (.ref b42)])) _
    refine st55 _ ?_
    show Steps p.tables e below (T55.setTop (mkF m 154 #[.val (.int p1), .val (.ref b2), .unset, .unset, .unset, .unset] [(.ref b42)])) _
    refine XS.astoreN X55.here hx rfl (hb hby at_154) rfl rfl (l' := #[.val (.int p1), .val (.ref b2), .val (.ref b42), .unset, .unset, .unset]) rfl ?_
    show Steps p.tables e below (T55.setTop (mkF m 155 #[.val (.int p1), .val (.ref b2), .val (.ref b42), .unset, .unset, .unset] [])) _
    refine XS.iloadN X55.here hx rfl (hb hby at_155) rfl ?_
    show Steps p.tables e below (T55.setTop (mkF m 156 #[.val (.int p1), .val (.ref b2), .val (.ref b42), .unset, .unset, .unset] [(.int p1)])) _
    refine X55.ldcInt hx hown (mvT hZ (hw _ (List.mem_of_getElem? (i := 31) rfl))) (g := (mkF m 156 #[.val (.int p1), .val (.ref b2), .val (.ref b42), .unset, .unset, .unset] [(.int p1)])) rfl (hb hby at_156) _ ?_
    show Steps p.tables e below (T55.setTop (mkF m 158 #[.val (.int p1), .val (.ref b2), .val (.ref b42), .unset, .unset, .unset] [(.int (2147483647 : Int32)), (.int p1)])) _
    refine XS.iand X55.here hx rfl (hb hby at_158) rfl ?_
    show Steps p.tables e below (T55.setTop (mkF m 159 #[.val (.int p1), .val (.ref b2), .val (.ref b42), .unset, .unset, .unset] [(.int (p1 &&& (2147483647 : Int32)))])) _
    refine XS.bipush X55.here hx rfl (hb hby at_159) ?_
    show Steps p.tables e below (T55.setTop (mkF m 161 #[.val (.int p1), .val (.ref b2), .val (.ref b42), .unset, .unset, .unset] [(.int (13 : Int32)), (.int (p1 &&& (2147483647 : Int32)))])) _
    refine iremM X55 hx rfl (hb hby at_161) rfl (by decide) ?_
    show Steps p.tables e below (T55.setTop (mkF m 162 #[.val (.int p1), .val (.ref b2), .val (.ref b42), .unset, .unset, .unset] [(.int ((p1 &&& (2147483647 : Int32)) % (13 : Int32)))])) _
    refine XS.istoreN X55.here hx rfl (hb hby at_162) rfl (l' := #[.val (.int p1), .val (.ref b2), .val (.ref b42), .val (.int ((p1 &&& (2147483647 : Int32)) % (13 : Int32))), .unset, .unset]) rfl ?_
    show Steps p.tables e below (T55.setTop (mkF m 163 #[.val (.int p1), .val (.ref b2), .val (.ref b42), .val (.int ((p1 &&& (2147483647 : Int32)) % (13 : Int32))), .unset, .unset] [])) _
    refine XS.aloadN X55.here hx rfl (hb hby at_163) rfl rfl ?_
    show Steps p.tables e below (T55.setTop (mkF m 164 #[.val (.int p1), .val (.ref b2), .val (.ref b42), .val (.int ((p1 &&& (2147483647 : Int32)) % (13 : Int32))), .unset, .unset] [(.ref b2)])) _
    refine XS.iloadN X55.here hx rfl (hb hby at_164) rfl ?_
    show Steps p.tables e below (T55.setTop (mkF m 165 #[.val (.int p1), .val (.ref b2), .val (.ref b42), .val (.int ((p1 &&& (2147483647 : Int32)) % (13 : Int32))), .unset, .unset] [(.int ((p1 &&& (2147483647 : Int32)) % (13 : Int32))), (.ref b2)])) _
    refine X55.aaload hx (j := ((p1 &&& (2147483647 : Int32)) % (13 : Int32))) (v := (.ref r)) (by rw [e55]; exact Ar_b2_119.1) (State.isArrayOf_alike hZ.alike Ar_b2_119.2.1) rfl Ar_b2_119.2.2 hin119 hat119 (g := (mkF m 165 #[.val (.int p1), .val (.ref b2), .val (.ref b42), .val (.int ((p1 &&& (2147483647 : Int32)) % (13 : Int32))), .unset, .unset] [(.int ((p1 &&& (2147483647 : Int32)) % (13 : Int32))), (.ref b2)])) rfl rfl (hb hby at_165) _ ?_
    show Steps p.tables e below (T55.setTop (mkF m 166 #[.val (.int p1), .val (.ref b2), .val (.ref b42), .val (.int ((p1 &&& (2147483647 : Int32)) % (13 : Int32))), .unset, .unset] [(.ref r)])) _
    refine XS.astore X55.here hx rfl (hb hby at_166) rfl rfl (l' := #[.val (.int p1), .val (.ref b2), .val (.ref b42), .val (.int ((p1 &&& (2147483647 : Int32)) % (13 : Int32))), .val (.ref r), .unset]) rfl ?_
    show Steps p.tables e below (T55.setTop (mkF m 168 #[.val (.int p1), .val (.ref b2), .val (.ref b42), .val (.int ((p1 &&& (2147483647 : Int32)) % (13 : Int32))), .val (.ref r), .unset] [])) _
    refine XS.aload X55.here hx rfl (hb hby at_168) rfl rfl ?_
    show Steps p.tables e below (T55.setTop (mkF m 170 #[.val (.int p1), .val (.ref b2), .val (.ref b42), .val (.int ((p1 &&& (2147483647 : Int32)) % (13 : Int32))), .val (.ref r), .unset] [(.ref r)])) _
    refine st56.trans ?_
    show Steps p.tables e below (T56.setTop (mkF m 173 #[.val (.int p1), .val (.ref b2), .val (.ref b42), .val (.int ((p1 &&& (2147483647 : Int32)) % (13 : Int32))), .val (.ref r), .unset] [(.int (0 : Int32))])) _
    refine XS.istore X56.here hx rfl (hb hby at_173) rfl (l' := #[.val (.int p1), .val (.ref b2), .val (.ref b42), .val (.int ((p1 &&& (2147483647 : Int32)) % (13 : Int32))), .val (.ref r), .val (.int (0 : Int32))]) rfl ?_
    show Steps p.tables e below (T56.setTop (mkF m 175 #[.val (.int p1), .val (.ref b2), .val (.ref b42), .val (.int ((p1 &&& (2147483647 : Int32)) % (13 : Int32))), .val (.ref r), .val (.int (0 : Int32))] [])) _
    refine XS.iload X56.here hx rfl (hb hby at_175) rfl ?_
    show Steps p.tables e below (T56.setTop (mkF m 177 #[.val (.int p1), .val (.ref b2), .val (.ref b42), .val (.int ((p1 &&& (2147483647 : Int32)) % (13 : Int32))), .val (.ref r), .val (.int (0 : Int32))] [(.int (0 : Int32))])) _
    refine XS.aloadN X56.here hx rfl (hb hby at_177) rfl rfl ?_
    show Steps p.tables e below (T56.setTop (mkF m 178 #[.val (.int p1), .val (.ref b2), .val (.ref b42), .val (.int ((p1 &&& (2147483647 : Int32)) % (13 : Int32))), .val (.ref r), .val (.int (0 : Int32))] [(.ref b42), (.int (0 : Int32))])) _
    refine XS.iloadN X56.here hx rfl (hb hby at_178) rfl ?_
    show Steps p.tables e below (T56.setTop (mkF m 179 #[.val (.int p1), .val (.ref b2), .val (.ref b42), .val (.int ((p1 &&& (2147483647 : Int32)) % (13 : Int32))), .val (.ref r), .val (.int (0 : Int32))] [(.int ((p1 &&& (2147483647 : Int32)) % (13 : Int32))), (.ref b42), (.int (0 : Int32))])) _
    refine X56.baloadBooleans hx (j := ((p1 &&& (2147483647 : Int32)) % (13 : Int32))) (v := (.int (0 : Int32))) (by rw [eh56]; exact Ar_b42_127.1) (State.isArrayOf_alike hZ.alike Ar_b42_127.2.1) Ar_b42_127.2.2 hin127 hat127 (g := (mkF m 179 #[.val (.int p1), .val (.ref b2), .val (.ref b42), .val (.int ((p1 &&& (2147483647 : Int32)) % (13 : Int32))), .val (.ref r), .val (.int (0 : Int32))] [(.int ((p1 &&& (2147483647 : Int32)) % (13 : Int32))), (.ref b42), (.int (0 : Int32))])) rfl rfl (hb hby at_179) _ ?_
    show Steps p.tables e below (T56.setTop (mkF m 180 #[.val (.int p1), .val (.ref b2), .val (.ref b42), .val (.int ((p1 &&& (2147483647 : Int32)) % (13 : Int32))), .val (.ref r), .val (.int (0 : Int32))] [(.int (0 : Int32)), (.int (0 : Int32))])) _
    refine XS.icmpYes X56.here hx rfl (pc0 := 180) (pc' := 185) rfl (hb hby at_180) rfl (teq (rfl : (0 : Int32) = (0 : Int32))).1 (by decide) (by decide) ?_
    show Steps p.tables e below (T56.setTop (mkF m 185 #[.val (.int p1), .val (.ref b2), .val (.ref b42), .val (.int ((p1 &&& (2147483647 : Int32)) % (13 : Int32))), .val (.ref r), .val (.int (0 : Int32))] [])) _
    refine XS.iload X56.here hx rfl (hb hby at_185) rfl ?_
    show Steps p.tables e below (T56.setTop (mkF m 187 #[.val (.int p1), .val (.ref b2), .val (.ref b42), .val (.int ((p1 &&& (2147483647 : Int32)) % (13 : Int32))), .val (.ref r), .val (.int (0 : Int32))] [(.int (0 : Int32))])) _
    refine XS.ifYes X56.here hx rfl (pc0 := 187) (pc' := 216) rfl (hb hby at_187) rfl ((if0 _ _).trans (teq (rfl : (0 : Int32) = (0 : Int32))).1) (by decide) (by decide) ?_
    show Steps p.tables e below (T56.setTop (mkF m 216 #[.val (.int p1), .val (.ref b2), .val (.ref b42), .val (.int ((p1 &&& (2147483647 : Int32)) % (13 : Int32))), .val (.ref r), .val (.int (0 : Int32))] [])) _
    refine XS.iconst X56.here hx rfl (hb hby at_216) ?_
    show Steps p.tables e below (T56.setTop (mkF m 217 #[.val (.int p1), .val (.ref b2), .val (.ref b42), .val (.int ((p1 &&& (2147483647 : Int32)) % (13 : Int32))), .val (.ref r), .val (.int (0 : Int32))] [(.int (1 : Int32))])) _
    exact retN X56 hx (t := .boolean) Bd.returns (by simp) (hb hby at_217) hr
  · show own_Q0 h0 n0 _ T56.heap _
    rw [eh56]
    exact ⟨rfl, N56⟩
set_option maxRecDepth 65536 in
set_option maxHeartbeats 40000000 in
theorem rm0_tffft (l : Launch) (Z : State) (a0 : Array Value) (hw : ∀ d ∈ tables_1, d.before a0 Z = true) (ws : List Jvm.Cond) (p1 : Int32) (r : Addr) (w_ENTITIES : Addr) (w_ENTITY_SET : Addr) (w_ITERATOR : Addr) (w_STREAM : Addr) (w_STREAMABLE : Addr) (w_ENTITY : Addr) (w_OPTIONAL : Addr) (w_SLICE : Addr) (w_PAGE : Addr) (w_NUMBER : Addr) (w_INT_NUMBER : Addr) (w_PRESENCE : Addr) (w_NOTHING : Addr) (h0 : Heap) (n0 : Nat) (Z0 : n0 ≤ h0.size) (hb1 : ((r = w_ENTITY ∧ (1 : Int32) = (1 : Int32)) ∨ (¬ r = w_ENTITY ∧ r = w_OPTIONAL ∧ (1 : Int32) = (1 : Int32)) ∨ (¬ r = w_ENTITY ∧ ¬ r = w_OPTIONAL ∧ (1 : Int32) = (0 : Int32)))) (F_r : Fld Z h0 r "com/example/earnest_repository/earnestrepository/core/Result" "readsRows" "Z" (.int (1 : Int32))) (nSL : ¬ r = w_SLICE) (nPG : ¬ r = w_PAGE) (nST : ¬ r = w_STREAM) (S_ENTITIES : Sta Z h0 "com/example/earnest_repository/earnestrepository/core/Result" "ENTITIES" "Lcom/example/earnest_repository/earnestrepository/core/Result;" (.ref w_ENTITIES)) (E_ENTITIES : Exa Z h0 w_ENTITIES "com/example/earnest_repository/earnestrepository/core/Result") (S_ENTITY_SET : Sta Z h0 "com/example/earnest_repository/earnestrepository/core/Result" "ENTITY_SET" "Lcom/example/earnest_repository/earnestrepository/core/Result;" (.ref w_ENTITY_SET)) (E_ENTITY_SET : Exa Z h0 w_ENTITY_SET "com/example/earnest_repository/earnestrepository/core/Result") (S_ITERATOR : Sta Z h0 "com/example/earnest_repository/earnestrepository/core/Result" "ITERATOR" "Lcom/example/earnest_repository/earnestrepository/core/Result;" (.ref w_ITERATOR)) (E_ITERATOR : Exa Z h0 w_ITERATOR "com/example/earnest_repository/earnestrepository/core/Result") (S_STREAM : Sta Z h0 "com/example/earnest_repository/earnestrepository/core/Result" "STREAM" "Lcom/example/earnest_repository/earnestrepository/core/Result;" (.ref w_STREAM)) (E_STREAM : Exa Z h0 w_STREAM "com/example/earnest_repository/earnestrepository/core/Result") (S_STREAMABLE : Sta Z h0 "com/example/earnest_repository/earnestrepository/core/Result" "STREAMABLE" "Lcom/example/earnest_repository/earnestrepository/core/Result;" (.ref w_STREAMABLE)) (E_STREAMABLE : Exa Z h0 w_STREAMABLE "com/example/earnest_repository/earnestrepository/core/Result") (S_ENTITY : Sta Z h0 "com/example/earnest_repository/earnestrepository/core/Result" "ENTITY" "Lcom/example/earnest_repository/earnestrepository/core/Result;" (.ref w_ENTITY)) (E_ENTITY : Exa Z h0 w_ENTITY "com/example/earnest_repository/earnestrepository/core/Result") (S_OPTIONAL : Sta Z h0 "com/example/earnest_repository/earnestrepository/core/Result" "OPTIONAL" "Lcom/example/earnest_repository/earnestrepository/core/Result;" (.ref w_OPTIONAL)) (E_OPTIONAL : Exa Z h0 w_OPTIONAL "com/example/earnest_repository/earnestrepository/core/Result") (S_SLICE : Sta Z h0 "com/example/earnest_repository/earnestrepository/core/Result" "SLICE" "Lcom/example/earnest_repository/earnestrepository/core/Result;" (.ref w_SLICE)) (E_SLICE : Exa Z h0 w_SLICE "com/example/earnest_repository/earnestrepository/core/Result") (S_PAGE : Sta Z h0 "com/example/earnest_repository/earnestrepository/core/Result" "PAGE" "Lcom/example/earnest_repository/earnestrepository/core/Result;" (.ref w_PAGE)) (E_PAGE : Exa Z h0 w_PAGE "com/example/earnest_repository/earnestrepository/core/Result") (S_NUMBER : Sta Z h0 "com/example/earnest_repository/earnestrepository/core/Result" "NUMBER" "Lcom/example/earnest_repository/earnestrepository/core/Result;" (.ref w_NUMBER)) (E_NUMBER : Exa Z h0 w_NUMBER "com/example/earnest_repository/earnestrepository/core/Result") (S_INT_NUMBER : Sta Z h0 "com/example/earnest_repository/earnestrepository/core/Result" "INT_NUMBER" "Lcom/example/earnest_repository/earnestrepository/core/Result;" (.ref w_INT_NUMBER)) (E_INT_NUMBER : Exa Z h0 w_INT_NUMBER "com/example/earnest_repository/earnestrepository/core/Result") (S_PRESENCE : Sta Z h0 "com/example/earnest_repository/earnestrepository/core/Result" "PRESENCE" "Lcom/example/earnest_repository/earnestrepository/core/Result;" (.ref w_PRESENCE)) (E_PRESENCE : Exa Z h0 w_PRESENCE "com/example/earnest_repository/earnestrepository/core/Result") (S_NOTHING : Sta Z h0 "com/example/earnest_repository/earnestrepository/core/Result" "NOTHING" "Lcom/example/earnest_repository/earnestrepository/core/Result;" (.ref w_NOTHING)) (E_NOTHING : Exa Z h0 w_NOTHING "com/example/earnest_repository/earnestrepository/core/Result") (hix119 : ¬ ((p1 &&& (2147483647 : Int32)) % (13 : Int32)) < 0 ∧ ((p1 &&& (2147483647 : Int32)) % (13 : Int32)) < (13 : Int32)) (hel119 : ([(.ref w_ENTITIES), (.ref w_ENTITY_SET), (.ref w_ITERATOR), (.ref w_STREAM), (.ref w_STREAMABLE), (.ref w_ENTITY), (.ref w_OPTIONAL), (.ref w_SLICE), (.ref w_PAGE), (.ref w_NUMBER), (.ref w_INT_NUMBER), (.ref w_PRESENCE), (.ref w_NOTHING)] : List Value).getD (((p1 &&& (2147483647 : Int32)) % (13 : Int32))).toNatClampNeg .null = (.ref r)) (E_r : Exa Z h0 r "com/example/earnest_repository/earnestrepository/core/Result") (hix127 : ¬ ((p1 &&& (2147483647 : Int32)) % (13 : Int32)) < 0 ∧ ((p1 &&& (2147483647 : Int32)) % (13 : Int32)) < (13 : Int32)) (hel127 : ([(.int (0 : Int32)), (.int (0 : Int32)), (.int (0 : Int32)), (.int (0 : Int32)), (.int (0 : Int32)), (.int (1 : Int32)), (.int (1 : Int32)), (.int (0 : Int32)), (.int (0 : Int32)), (.int (0 : Int32)), (.int (0 : Int32)), (.int (0 : Int32)), (.int (0 : Int32))] : List Value).getD (((p1 &&& (2147483647 : Int32)) % (13 : Int32))).toNatClampNeg (.int (0 : Int32)) = (.int (1 : Int32))) :
    MetFree l x (head1 (Jvm.Cond.code x code maxLocals ret :: ws) room_1) (fun a U => a = #[(.int p1)] ∧ Z.Warmed39 U.vm ∧ U.heap = h0) (fun _ _ _ _ _ => True) (fun _ U o U' => ∃ v L, o = .returned v ∧ own_Q0 h0 n0 v U'.heap L ∧ FrameEnd U o U' L room_1.cells room_1.slots) := by
  refine MetFree.of_bodySF (plainFor_of_name pn_0) hisR ?_
  intro p e s m args below meth c s₁ Bd hml0 hP hK
  obtain ⟨rfl, hZ, hh⟩ := hP
  have hx := Bd.exec
  have hby := Bd.bytes
  have hml : c.maxLocals = 6 := hml0
  have hown : s.vm.findClass "com/example/earnest_repository/earnestrepository/core/ResultSinglePinLaw" = some m.cls := findClass_of_methodNamed Bd.named
  have hnm := (name_of_methodNamed Bd.named Bd.method).1
  have X0 : Stand p l e room_1 s m #[(.int p1)] below meth c s₁ [] 0 0 := Stand.of_body Bd
  have e0 : s₁.heap = h0 := by rw [← hh, Bd.state]; rfl
  have N0 := Fr.nil n0
  have pre0 : ∀ t, Steps p.tables e below (s₁.setTop (mkF m 0 #[.val (.int p1), .unset, .unset, .unset, .unset, .unset] [])) t → Steps p.tables e below (s₁.setTop (entryFrame m #[(.int p1)] maxLocals)) t := fun t k => castTop (ef_0 m p1) k
  obtain ⟨T2, h2, k2, X2, e2, E2, A2, O2, st2⟩ := newR X0 hx hZ hown (hw _ (List.mem_of_getElem? (i := 0) rfl)) (hw _ (List.mem_of_getElem? (i := 1) rfl)) e0 (g := (mkF m 2 #[.val (.int p1), .unset, .unset, .unset, .unset, .unset] [(.int (13 : Int32))])) rfl (hb hby at_2) rfl (by decide) (cap := 13) (by decide) (by decide) (by decide) (by decide)
  obtain ⟨b2, g2⟩ : ∃ z, z = h0.size := ⟨_, rfl⟩      -- the fresh array's address
  rw [← g2] at A2 st2
  have V_b2 : Arv Z h2 b2 k2 (.object "com/example/earnest_repository/earnestrepository/core/Result") (13 : Int32) [.null, .null, .null, .null, .null, .null, .null, .null, .null, .null, .null, .null, .null] .null := (Arv.new A2 (by decide)).pad (pad_rep [] .null 13)
  have g_b2 : n0 ≤ b2 := Nat.le_trans Z0 (Nat.le_of_eq g2.symm)
  have sz_b2 : h0.size ≤ b2 := (Nat.le_trans (Keep.refl h0 []).1 (Nat.le_of_eq g2.symm))
  have K2 : Keep h0 h2 [] := (Keep.refl h0 []).ext E2
  obtain ⟨T4, X4, e4, st4⟩ := getS2 X2 hx hZ hown (host := "") (Or.inl (hw _ (List.mem_of_getElem? (i := 2) rfl))) Via.refl e2 (S_ENTITIES.ext E2) (g := (mkF m 7 #[.val (.int p1), .unset, .unset, .unset, .unset, .unset] [(.int (0 : Int32)), (.ref b2), (.ref b2)])) rfl (hb hby at_7)
  obtain ⟨cl_b2_6, Ar_b2_6, q_b2_6, S_b2_6, N_b2_6, H_b2_6, G_b2_6⟩ := id V_b2
  have hin6 : ¬ ((0 : Int32) < 0 ∨ cl_b2_6.slots.size ≤ ((0 : Int32)).toNatClampNeg) := inb_of S_b2_6 ⟨by decide, by decide⟩
  obtain ⟨T5, h5, X5, e5, W5, st5⟩ := stR X4 hx hZ e4 Ar_b2_6 (j := (0 : Int32)) hin6 rfl (Sto.ofV Ar_b2_6 q_b2_6 O2 (Ins.self (E_ENTITIES.ext E2))) (g := (mkF m 10 #[.val (.int p1), .unset, .unset, .unset, .unset, .unset] [(.ref w_ENTITIES), (.int (0 : Int32)), (.ref b2), (.ref b2)])) rfl rfl (hb hby at_10)
  have V_b2_5 : Arv Z h5 b2 k2 (.object "com/example/earnest_repository/earnestrepository/core/Result") (13 : Int32) [(.ref w_ENTITIES), .null, .null, .null, .null, .null, .null, .null, .null, .null, .null, .null, .null] .null := Arv.set Ar_b2_6 q_b2_6 S_b2_6 N_b2_6 H_b2_6 G_b2_6 rfl W5 0 rfl (Nat.le_of_ble_eq_true rfl)
  have K5 : Keep h0 h5 [] := K2.wr W5 (Or.inr sz_b2)
  have N5 := Fr.snoc X5 N0 g_b2
  obtain ⟨T7, X7, e7, st7⟩ := getS2 X5 hx hZ hown (host := "") (Or.inl (hw _ (List.mem_of_getElem? (i := 6) rfl))) Via.refl e5 (own_staK S_ENTITY_SET K5 all0) (g := (mkF m 13 #[.val (.int p1), .unset, .unset, .unset, .unset, .unset] [(.int (1 : Int32)), (.ref b2), (.ref b2)])) rfl (hb hby at_13)
  obtain ⟨cl_b2_10, Ar_b2_10, q_b2_10, S_b2_10, N_b2_10, H_b2_10, G_b2_10⟩ := id V_b2_5
  have hin10 : ¬ ((1 : Int32) < 0 ∨ cl_b2_10.slots.size ≤ ((1 : Int32)).toNatClampNeg) := inb_of S_b2_10 ⟨by decide, by decide⟩
  obtain ⟨T8, h8, X8, e8, W8, st8⟩ := stR X7 hx hZ e7 Ar_b2_10 (j := (1 : Int32)) hin10 rfl (Sto.ofV Ar_b2_10 q_b2_10 O2 (Ins.self (E_ENTITY_SET.keep K5))) (g := (mkF m 16 #[.val (.int p1), .unset, .unset, .unset, .unset, .unset] [(.ref w_ENTITY_SET), (.int (1 : Int32)), (.ref b2), (.ref b2)])) rfl rfl (hb hby at_16)
  have V_b2_8 : Arv Z h8 b2 k2 (.object "com/example/earnest_repository/earnestrepository/core/Result") (13 : Int32) [(.ref w_ENTITIES), (.ref w_ENTITY_SET), .null, .null, .null, .null, .null, .null, .null, .null, .null, .null, .null] .null := Arv.set Ar_b2_10 q_b2_10 S_b2_10 N_b2_10 H_b2_10 G_b2_10 rfl W8 1 rfl (Nat.le_of_ble_eq_true rfl)
  have K8 : Keep h0 h8 [] := K5.wr W8 (Or.inr sz_b2)
  have N8 := Fr.snoc X8 N5 g_b2
  obtain ⟨T10, X10, e10, st10⟩ := getS2 X8 hx hZ hown (host := "") (Or.inl (hw _ (List.mem_of_getElem? (i := 8) rfl))) Via.refl e8 (own_staK S_ITERATOR K8 all0) (g := (mkF m 19 #[.val (.int p1), .unset, .unset, .unset, .unset, .unset] [(.int (2 : Int32)), (.ref b2), (.ref b2)])) rfl (hb hby at_19)
  obtain ⟨cl_b2_14, Ar_b2_14, q_b2_14, S_b2_14, N_b2_14, H_b2_14, G_b2_14⟩ := id V_b2_8
  have hin14 : ¬ ((2 : Int32) < 0 ∨ cl_b2_14.slots.size ≤ ((2 : Int32)).toNatClampNeg) := inb_of S_b2_14 ⟨by decide, by decide⟩
  obtain ⟨T11, h11, X11, e11, W11, st11⟩ := stR X10 hx hZ e10 Ar_b2_14 (j := (2 : Int32)) hin14 rfl (Sto.ofV Ar_b2_14 q_b2_14 O2 (Ins.self (E_ITERATOR.keep K8))) (g := (mkF m 22 #[.val (.int p1), .unset, .unset, .unset, .unset, .unset] [(.ref w_ITERATOR), (.int (2 : Int32)), (.ref b2), (.ref b2)])) rfl rfl (hb hby at_22)
  have V_b2_11 : Arv Z h11 b2 k2 (.object "com/example/earnest_repository/earnestrepository/core/Result") (13 : Int32) [(.ref w_ENTITIES), (.ref w_ENTITY_SET), (.ref w_ITERATOR), .null, .null, .null, .null, .null, .null, .null, .null, .null, .null] .null := Arv.set Ar_b2_14 q_b2_14 S_b2_14 N_b2_14 H_b2_14 G_b2_14 rfl W11 2 rfl (Nat.le_of_ble_eq_true rfl)
  have K11 : Keep h0 h11 [] := K8.wr W11 (Or.inr sz_b2)
  have N11 := Fr.snoc X11 N8 g_b2
  obtain ⟨T13, X13, e13, st13⟩ := getS2 X11 hx hZ hown (host := "") (Or.inl (hw _ (List.mem_of_getElem? (i := 10) rfl))) Via.refl e11 (own_staK S_STREAM K11 all0) (g := (mkF m 25 #[.val (.int p1), .unset, .unset, .unset, .unset, .unset] [(.int (3 : Int32)), (.ref b2), (.ref b2)])) rfl (hb hby at_25)
  obtain ⟨cl_b2_18, Ar_b2_18, q_b2_18, S_b2_18, N_b2_18, H_b2_18, G_b2_18⟩ := id V_b2_11
  have hin18 : ¬ ((3 : Int32) < 0 ∨ cl_b2_18.slots.size ≤ ((3 : Int32)).toNatClampNeg) := inb_of S_b2_18 ⟨by decide, by decide⟩
  obtain ⟨T14, h14, X14, e14, W14, st14⟩ := stR X13 hx hZ e13 Ar_b2_18 (j := (3 : Int32)) hin18 rfl (Sto.ofV Ar_b2_18 q_b2_18 O2 (Ins.self (E_STREAM.keep K11))) (g := (mkF m 28 #[.val (.int p1), .unset, .unset, .unset, .unset, .unset] [(.ref w_STREAM), (.int (3 : Int32)), (.ref b2), (.ref b2)])) rfl rfl (hb hby at_28)
  have V_b2_14 : Arv Z h14 b2 k2 (.object "com/example/earnest_repository/earnestrepository/core/Result") (13 : Int32) [(.ref w_ENTITIES), (.ref w_ENTITY_SET), (.ref w_ITERATOR), (.ref w_STREAM), .null, .null, .null, .null, .null, .null, .null, .null, .null] .null := Arv.set Ar_b2_18 q_b2_18 S_b2_18 N_b2_18 H_b2_18 G_b2_18 rfl W14 3 rfl (Nat.le_of_ble_eq_true rfl)
  have K14 : Keep h0 h14 [] := K11.wr W14 (Or.inr sz_b2)
  have N14 := Fr.snoc X14 N11 g_b2
  obtain ⟨T16, X16, e16, st16⟩ := getS2 X14 hx hZ hown (host := "") (Or.inl (hw _ (List.mem_of_getElem? (i := 12) rfl))) Via.refl e14 (own_staK S_STREAMABLE K14 all0) (g := (mkF m 31 #[.val (.int p1), .unset, .unset, .unset, .unset, .unset] [(.int (4 : Int32)), (.ref b2), (.ref b2)])) rfl (hb hby at_31)
  obtain ⟨cl_b2_22, Ar_b2_22, q_b2_22, S_b2_22, N_b2_22, H_b2_22, G_b2_22⟩ := id V_b2_14
  have hin22 : ¬ ((4 : Int32) < 0 ∨ cl_b2_22.slots.size ≤ ((4 : Int32)).toNatClampNeg) := inb_of S_b2_22 ⟨by decide, by decide⟩
  obtain ⟨T17, h17, X17, e17, W17, st17⟩ := stR X16 hx hZ e16 Ar_b2_22 (j := (4 : Int32)) hin22 rfl (Sto.ofV Ar_b2_22 q_b2_22 O2 (Ins.self (E_STREAMABLE.keep K14))) (g := (mkF m 34 #[.val (.int p1), .unset, .unset, .unset, .unset, .unset] [(.ref w_STREAMABLE), (.int (4 : Int32)), (.ref b2), (.ref b2)])) rfl rfl (hb hby at_34)
  have V_b2_17 : Arv Z h17 b2 k2 (.object "com/example/earnest_repository/earnestrepository/core/Result") (13 : Int32) [(.ref w_ENTITIES), (.ref w_ENTITY_SET), (.ref w_ITERATOR), (.ref w_STREAM), (.ref w_STREAMABLE), .null, .null, .null, .null, .null, .null, .null, .null] .null := Arv.set Ar_b2_22 q_b2_22 S_b2_22 N_b2_22 H_b2_22 G_b2_22 rfl W17 4 rfl (Nat.le_of_ble_eq_true rfl)
  have K17 : Keep h0 h17 [] := K14.wr W17 (Or.inr sz_b2)
  have N17 := Fr.snoc X17 N14 g_b2
  obtain ⟨T19, X19, e19, st19⟩ := getS2 X17 hx hZ hown (host := "") (Or.inl (hw _ (List.mem_of_getElem? (i := 14) rfl))) Via.refl e17 (own_staK S_ENTITY K17 all0) (g := (mkF m 37 #[.val (.int p1), .unset, .unset, .unset, .unset, .unset] [(.int (5 : Int32)), (.ref b2), (.ref b2)])) rfl (hb hby at_37)
  obtain ⟨cl_b2_26, Ar_b2_26, q_b2_26, S_b2_26, N_b2_26, H_b2_26, G_b2_26⟩ := id V_b2_17
  have hin26 : ¬ ((5 : Int32) < 0 ∨ cl_b2_26.slots.size ≤ ((5 : Int32)).toNatClampNeg) := inb_of S_b2_26 ⟨by decide, by decide⟩
  obtain ⟨T20, h20, X20, e20, W20, st20⟩ := stR X19 hx hZ e19 Ar_b2_26 (j := (5 : Int32)) hin26 rfl (Sto.ofV Ar_b2_26 q_b2_26 O2 (Ins.self (E_ENTITY.keep K17))) (g := (mkF m 40 #[.val (.int p1), .unset, .unset, .unset, .unset, .unset] [(.ref w_ENTITY), (.int (5 : Int32)), (.ref b2), (.ref b2)])) rfl rfl (hb hby at_40)
  have V_b2_20 : Arv Z h20 b2 k2 (.object "com/example/earnest_repository/earnestrepository/core/Result") (13 : Int32) [(.ref w_ENTITIES), (.ref w_ENTITY_SET), (.ref w_ITERATOR), (.ref w_STREAM), (.ref w_STREAMABLE), (.ref w_ENTITY), .null, .null, .null, .null, .null, .null, .null] .null := Arv.set Ar_b2_26 q_b2_26 S_b2_26 N_b2_26 H_b2_26 G_b2_26 rfl W20 5 rfl (Nat.le_of_ble_eq_true rfl)
  have K20 : Keep h0 h20 [] := K17.wr W20 (Or.inr sz_b2)
  have N20 := Fr.snoc X20 N17 g_b2
  obtain ⟨T22, X22, e22, st22⟩ := getS2 X20 hx hZ hown (host := "") (Or.inl (hw _ (List.mem_of_getElem? (i := 16) rfl))) Via.refl e20 (own_staK S_OPTIONAL K20 all0) (g := (mkF m 44 #[.val (.int p1), .unset, .unset, .unset, .unset, .unset] [(.int (6 : Int32)), (.ref b2), (.ref b2)])) rfl (hb hby at_44)
  obtain ⟨cl_b2_30, Ar_b2_30, q_b2_30, S_b2_30, N_b2_30, H_b2_30, G_b2_30⟩ := id V_b2_20
  have hin30 : ¬ ((6 : Int32) < 0 ∨ cl_b2_30.slots.size ≤ ((6 : Int32)).toNatClampNeg) := inb_of S_b2_30 ⟨by decide, by decide⟩
  obtain ⟨T23, h23, X23, e23, W23, st23⟩ := stR X22 hx hZ e22 Ar_b2_30 (j := (6 : Int32)) hin30 rfl (Sto.ofV Ar_b2_30 q_b2_30 O2 (Ins.self (E_OPTIONAL.keep K20))) (g := (mkF m 47 #[.val (.int p1), .unset, .unset, .unset, .unset, .unset] [(.ref w_OPTIONAL), (.int (6 : Int32)), (.ref b2), (.ref b2)])) rfl rfl (hb hby at_47)
  have V_b2_23 : Arv Z h23 b2 k2 (.object "com/example/earnest_repository/earnestrepository/core/Result") (13 : Int32) [(.ref w_ENTITIES), (.ref w_ENTITY_SET), (.ref w_ITERATOR), (.ref w_STREAM), (.ref w_STREAMABLE), (.ref w_ENTITY), (.ref w_OPTIONAL), .null, .null, .null, .null, .null, .null] .null := Arv.set Ar_b2_30 q_b2_30 S_b2_30 N_b2_30 H_b2_30 G_b2_30 rfl W23 6 rfl (Nat.le_of_ble_eq_true rfl)
  have K23 : Keep h0 h23 [] := K20.wr W23 (Or.inr sz_b2)
  have N23 := Fr.snoc X23 N20 g_b2
  obtain ⟨T25, X25, e25, st25⟩ := getS2 X23 hx hZ hown (host := "") (Or.inl (hw _ (List.mem_of_getElem? (i := 18) rfl))) Via.refl e23 (own_staK S_SLICE K23 all0) (g := (mkF m 51 #[.val (.int p1), .unset, .unset, .unset, .unset, .unset] [(.int (7 : Int32)), (.ref b2), (.ref b2)])) rfl (hb hby at_51)
  obtain ⟨cl_b2_34, Ar_b2_34, q_b2_34, S_b2_34, N_b2_34, H_b2_34, G_b2_34⟩ := id V_b2_23
  have hin34 : ¬ ((7 : Int32) < 0 ∨ cl_b2_34.slots.size ≤ ((7 : Int32)).toNatClampNeg) := inb_of S_b2_34 ⟨by decide, by decide⟩
  obtain ⟨T26, h26, X26, e26, W26, st26⟩ := stR X25 hx hZ e25 Ar_b2_34 (j := (7 : Int32)) hin34 rfl (Sto.ofV Ar_b2_34 q_b2_34 O2 (Ins.self (E_SLICE.keep K23))) (g := (mkF m 54 #[.val (.int p1), .unset, .unset, .unset, .unset, .unset] [(.ref w_SLICE), (.int (7 : Int32)), (.ref b2), (.ref b2)])) rfl rfl (hb hby at_54)
  have V_b2_26 : Arv Z h26 b2 k2 (.object "com/example/earnest_repository/earnestrepository/core/Result") (13 : Int32) [(.ref w_ENTITIES), (.ref w_ENTITY_SET), (.ref w_ITERATOR), (.ref w_STREAM), (.ref w_STREAMABLE), (.ref w_ENTITY), (.ref w_OPTIONAL), (.ref w_SLICE), .null, .null, .null, .null, .null] .null := Arv.set Ar_b2_34 q_b2_34 S_b2_34 N_b2_34 H_b2_34 G_b2_34 rfl W26 7 rfl (Nat.le_of_ble_eq_true rfl)
  have K26 : Keep h0 h26 [] := K23.wr W26 (Or.inr sz_b2)
  have N26 := Fr.snoc X26 N23 g_b2
  obtain ⟨T28, X28, e28, st28⟩ := getS2 X26 hx hZ hown (host := "") (Or.inl (hw _ (List.mem_of_getElem? (i := 20) rfl))) Via.refl e26 (own_staK S_PAGE K26 all0) (g := (mkF m 58 #[.val (.int p1), .unset, .unset, .unset, .unset, .unset] [(.int (8 : Int32)), (.ref b2), (.ref b2)])) rfl (hb hby at_58)
  obtain ⟨cl_b2_38, Ar_b2_38, q_b2_38, S_b2_38, N_b2_38, H_b2_38, G_b2_38⟩ := id V_b2_26
  have hin38 : ¬ ((8 : Int32) < 0 ∨ cl_b2_38.slots.size ≤ ((8 : Int32)).toNatClampNeg) := inb_of S_b2_38 ⟨by decide, by decide⟩
  obtain ⟨T29, h29, X29, e29, W29, st29⟩ := stR X28 hx hZ e28 Ar_b2_38 (j := (8 : Int32)) hin38 rfl (Sto.ofV Ar_b2_38 q_b2_38 O2 (Ins.self (E_PAGE.keep K26))) (g := (mkF m 61 #[.val (.int p1), .unset, .unset, .unset, .unset, .unset] [(.ref w_PAGE), (.int (8 : Int32)), (.ref b2), (.ref b2)])) rfl rfl (hb hby at_61)
  have V_b2_29 : Arv Z h29 b2 k2 (.object "com/example/earnest_repository/earnestrepository/core/Result") (13 : Int32) [(.ref w_ENTITIES), (.ref w_ENTITY_SET), (.ref w_ITERATOR), (.ref w_STREAM), (.ref w_STREAMABLE), (.ref w_ENTITY), (.ref w_OPTIONAL), (.ref w_SLICE), (.ref w_PAGE), .null, .null, .null, .null] .null := Arv.set Ar_b2_38 q_b2_38 S_b2_38 N_b2_38 H_b2_38 G_b2_38 rfl W29 8 rfl (Nat.le_of_ble_eq_true rfl)
  have K29 : Keep h0 h29 [] := K26.wr W29 (Or.inr sz_b2)
  have N29 := Fr.snoc X29 N26 g_b2
  obtain ⟨T31, X31, e31, st31⟩ := getS2 X29 hx hZ hown (host := "") (Or.inl (hw _ (List.mem_of_getElem? (i := 22) rfl))) Via.refl e29 (own_staK S_NUMBER K29 all0) (g := (mkF m 65 #[.val (.int p1), .unset, .unset, .unset, .unset, .unset] [(.int (9 : Int32)), (.ref b2), (.ref b2)])) rfl (hb hby at_65)
  obtain ⟨cl_b2_42, Ar_b2_42, q_b2_42, S_b2_42, N_b2_42, H_b2_42, G_b2_42⟩ := id V_b2_29
  have hin42 : ¬ ((9 : Int32) < 0 ∨ cl_b2_42.slots.size ≤ ((9 : Int32)).toNatClampNeg) := inb_of S_b2_42 ⟨by decide, by decide⟩
  obtain ⟨T32, h32, X32, e32, W32, st32⟩ := stR X31 hx hZ e31 Ar_b2_42 (j := (9 : Int32)) hin42 rfl (Sto.ofV Ar_b2_42 q_b2_42 O2 (Ins.self (E_NUMBER.keep K29))) (g := (mkF m 68 #[.val (.int p1), .unset, .unset, .unset, .unset, .unset] [(.ref w_NUMBER), (.int (9 : Int32)), (.ref b2), (.ref b2)])) rfl rfl (hb hby at_68)
  have V_b2_32 : Arv Z h32 b2 k2 (.object "com/example/earnest_repository/earnestrepository/core/Result") (13 : Int32) [(.ref w_ENTITIES), (.ref w_ENTITY_SET), (.ref w_ITERATOR), (.ref w_STREAM), (.ref w_STREAMABLE), (.ref w_ENTITY), (.ref w_OPTIONAL), (.ref w_SLICE), (.ref w_PAGE), (.ref w_NUMBER), .null, .null, .null] .null := Arv.set Ar_b2_42 q_b2_42 S_b2_42 N_b2_42 H_b2_42 G_b2_42 rfl W32 9 rfl (Nat.le_of_ble_eq_true rfl)
  have K32 : Keep h0 h32 [] := K29.wr W32 (Or.inr sz_b2)
  have N32 := Fr.snoc X32 N29 g_b2
  obtain ⟨T34, X34, e34, st34⟩ := getS2 X32 hx hZ hown (host := "") (Or.inl (hw _ (List.mem_of_getElem? (i := 24) rfl))) Via.refl e32 (own_staK S_INT_NUMBER K32 all0) (g := (mkF m 72 #[.val (.int p1), .unset, .unset, .unset, .unset, .unset] [(.int (10 : Int32)), (.ref b2), (.ref b2)])) rfl (hb hby at_72)
  obtain ⟨cl_b2_46, Ar_b2_46, q_b2_46, S_b2_46, N_b2_46, H_b2_46, G_b2_46⟩ := id V_b2_32
  have hin46 : ¬ ((10 : Int32) < 0 ∨ cl_b2_46.slots.size ≤ ((10 : Int32)).toNatClampNeg) := inb_of S_b2_46 ⟨by decide, by decide⟩
  obtain ⟨T35, h35, X35, e35, W35, st35⟩ := stR X34 hx hZ e34 Ar_b2_46 (j := (10 : Int32)) hin46 rfl (Sto.ofV Ar_b2_46 q_b2_46 O2 (Ins.self (E_INT_NUMBER.keep K32))) (g := (mkF m 75 #[.val (.int p1), .unset, .unset, .unset, .unset, .unset] [(.ref w_INT_NUMBER), (.int (10 : Int32)), (.ref b2), (.ref b2)])) rfl rfl (hb hby at_75)
  have V_b2_35 : Arv Z h35 b2 k2 (.object "com/example/earnest_repository/earnestrepository/core/Result") (13 : Int32) [(.ref w_ENTITIES), (.ref w_ENTITY_SET), (.ref w_ITERATOR), (.ref w_STREAM), (.ref w_STREAMABLE), (.ref w_ENTITY), (.ref w_OPTIONAL), (.ref w_SLICE), (.ref w_PAGE), (.ref w_NUMBER), (.ref w_INT_NUMBER), .null, .null] .null := Arv.set Ar_b2_46 q_b2_46 S_b2_46 N_b2_46 H_b2_46 G_b2_46 rfl W35 10 rfl (Nat.le_of_ble_eq_true rfl)
  have K35 : Keep h0 h35 [] := K32.wr W35 (Or.inr sz_b2)
  have N35 := Fr.snoc X35 N32 g_b2
  obtain ⟨T37, X37, e37, st37⟩ := getS2 X35 hx hZ hown (host := "") (Or.inl (hw _ (List.mem_of_getElem? (i := 26) rfl))) Via.refl e35 (own_staK S_PRESENCE K35 all0) (g := (mkF m 79 #[.val (.int p1), .unset, .unset, .unset, .unset, .unset] [(.int (11 : Int32)), (.ref b2), (.ref b2)])) rfl (hb hby at_79)
  obtain ⟨cl_b2_50, Ar_b2_50, q_b2_50, S_b2_50, N_b2_50, H_b2_50, G_b2_50⟩ := id V_b2_35
  have hin50 : ¬ ((11 : Int32) < 0 ∨ cl_b2_50.slots.size ≤ ((11 : Int32)).toNatClampNeg) := inb_of S_b2_50 ⟨by decide, by decide⟩
  obtain ⟨T38, h38, X38, e38, W38, st38⟩ := stR X37 hx hZ e37 Ar_b2_50 (j := (11 : Int32)) hin50 rfl (Sto.ofV Ar_b2_50 q_b2_50 O2 (Ins.self (E_PRESENCE.keep K35))) (g := (mkF m 82 #[.val (.int p1), .unset, .unset, .unset, .unset, .unset] [(.ref w_PRESENCE), (.int (11 : Int32)), (.ref b2), (.ref b2)])) rfl rfl (hb hby at_82)
  have V_b2_38 : Arv Z h38 b2 k2 (.object "com/example/earnest_repository/earnestrepository/core/Result") (13 : Int32) [(.ref w_ENTITIES), (.ref w_ENTITY_SET), (.ref w_ITERATOR), (.ref w_STREAM), (.ref w_STREAMABLE), (.ref w_ENTITY), (.ref w_OPTIONAL), (.ref w_SLICE), (.ref w_PAGE), (.ref w_NUMBER), (.ref w_INT_NUMBER), (.ref w_PRESENCE), .null] .null := Arv.set Ar_b2_50 q_b2_50 S_b2_50 N_b2_50 H_b2_50 G_b2_50 rfl W38 11 rfl (Nat.le_of_ble_eq_true rfl)
  have K38 : Keep h0 h38 [] := K35.wr W38 (Or.inr sz_b2)
  have N38 := Fr.snoc X38 N35 g_b2
  obtain ⟨T40, X40, e40, st40⟩ := getS2 X38 hx hZ hown (host := "") (Or.inl (hw _ (List.mem_of_getElem? (i := 28) rfl))) Via.refl e38 (own_staK S_NOTHING K38 all0) (g := (mkF m 86 #[.val (.int p1), .unset, .unset, .unset, .unset, .unset] [(.int (12 : Int32)), (.ref b2), (.ref b2)])) rfl (hb hby at_86)
  obtain ⟨cl_b2_54, Ar_b2_54, q_b2_54, S_b2_54, N_b2_54, H_b2_54, G_b2_54⟩ := id V_b2_38
  have hin54 : ¬ ((12 : Int32) < 0 ∨ cl_b2_54.slots.size ≤ ((12 : Int32)).toNatClampNeg) := inb_of S_b2_54 ⟨by decide, by decide⟩
  obtain ⟨T41, h41, X41, e41, W41, st41⟩ := stR X40 hx hZ e40 Ar_b2_54 (j := (12 : Int32)) hin54 rfl (Sto.ofV Ar_b2_54 q_b2_54 O2 (Ins.self (E_NOTHING.keep K38))) (g := (mkF m 89 #[.val (.int p1), .unset, .unset, .unset, .unset, .unset] [(.ref w_NOTHING), (.int (12 : Int32)), (.ref b2), (.ref b2)])) rfl rfl (hb hby at_89)
  have V_b2_41 : Arv Z h41 b2 k2 (.object "com/example/earnest_repository/earnestrepository/core/Result") (13 : Int32) [(.ref w_ENTITIES), (.ref w_ENTITY_SET), (.ref w_ITERATOR), (.ref w_STREAM), (.ref w_STREAMABLE), (.ref w_ENTITY), (.ref w_OPTIONAL), (.ref w_SLICE), (.ref w_PAGE), (.ref w_NUMBER), (.ref w_INT_NUMBER), (.ref w_PRESENCE), (.ref w_NOTHING)] .null := Arv.set Ar_b2_54 q_b2_54 S_b2_54 N_b2_54 H_b2_54 G_b2_54 rfl W41 12 rfl (Nat.le_of_ble_eq_true rfl)
  have K41 : Keep h0 h41 [] := K38.wr W41 (Or.inr sz_b2)
  have N41 := Fr.snoc X41 N38 g_b2
  obtain ⟨T42, h42, k42, X42, e42, E42, A42, st42⟩ := newP X41 hx hZ (hw _ (List.mem_of_getElem? (i := 30) rfl)) e41 (g := (mkF m 93 #[.val (.int p1), .val (.ref b2), .unset, .unset, .unset, .unset] [(.int (13 : Int32))])) rfl (hb hby at_93) rfl (by decide) (cap := 13) (by decide) (by decide) (by decide) (by decide)
  obtain ⟨b42, g42⟩ : ∃ z, z = h41.size := ⟨_, rfl⟩      -- the fresh array's address
  rw [← g42] at A42 st42
  have V_b42 : Arv Z h42 b42 k42 .boolean (13 : Int32) [(.int (0 : Int32)), (.int (0 : Int32)), (.int (0 : Int32)), (.int (0 : Int32)), (.int (0 : Int32)), (.int (0 : Int32)), (.int (0 : Int32)), (.int (0 : Int32)), (.int (0 : Int32)), (.int (0 : Int32)), (.int (0 : Int32)), (.int (0 : Int32)), (.int (0 : Int32))] (.int (0 : Int32)) := (Arv.new A42 (by decide)).pad (pad_rep [] (.int (0 : Int32)) 13)
  have g_b42 : n0 ≤ b42 := Nat.le_trans (Nat.le_trans Z0 K41.1) (Nat.le_of_eq g42.symm)
  have sz_b42 : h0.size ≤ b42 := (Nat.le_trans K41.1 (Nat.le_of_eq g42.symm))
  have K42 : Keep h0 h42 [] := K41.ext E42
  obtain ⟨cl_b42_61, Ar_b42_61, q_b42_61, S_b42_61, N_b42_61, H_b42_61, G_b42_61⟩ := id V_b42
  have hin61 : ¬ ((0 : Int32) < 0 ∨ cl_b42_61.slots.size ≤ ((0 : Int32)).toNatClampNeg) := inb_of S_b42_61 ⟨by decide, by decide⟩
  obtain ⟨T43, h43, X43, e43, W43, st43⟩ := stZ X42 hx hZ e42 Ar_b42_61 (j := (0 : Int32)) hin61 (g := (mkF m 98 #[.val (.int p1), .val (.ref b2), .unset, .unset, .unset, .unset] [(.int (0 : Int32)), (.int (0 : Int32)), (.ref b42), (.ref b42)])) rfl rfl (hb hby at_98)
  rw [own_nar0] at W43
  have V_b42_43 : Arv Z h43 b42 k42 .boolean (13 : Int32) [(.int (0 : Int32)), (.int (0 : Int32)), (.int (0 : Int32)), (.int (0 : Int32)), (.int (0 : Int32)), (.int (0 : Int32)), (.int (0 : Int32)), (.int (0 : Int32)), (.int (0 : Int32)), (.int (0 : Int32)), (.int (0 : Int32)), (.int (0 : Int32)), (.int (0 : Int32))] (.int (0 : Int32)) := Arv.set Ar_b42_61 q_b42_61 S_b42_61 N_b42_61 H_b42_61 G_b42_61 rfl W43 0 rfl (Nat.le_of_ble_eq_true rfl)
  have K43 : Keep h0 h43 [] := K42.wr W43 (Or.inr sz_b42)
  have N43 := Fr.snoc X43 N41 g_b42
  obtain ⟨cl_b42_65, Ar_b42_65, q_b42_65, S_b42_65, N_b42_65, H_b42_65, G_b42_65⟩ := id V_b42_43
  have hin65 : ¬ ((1 : Int32) < 0 ∨ cl_b42_65.slots.size ≤ ((1 : Int32)).toNatClampNeg) := inb_of S_b42_65 ⟨by decide, by decide⟩
  obtain ⟨T44, h44, X44, e44, W44, st44⟩ := stZ X43 hx hZ e43 Ar_b42_65 (j := (1 : Int32)) hin65 (g := (mkF m 102 #[.val (.int p1), .val (.ref b2), .unset, .unset, .unset, .unset] [(.int (0 : Int32)), (.int (1 : Int32)), (.ref b42), (.ref b42)])) rfl rfl (hb hby at_102)
  rw [own_nar0] at W44
  have V_b42_44 : Arv Z h44 b42 k42 .boolean (13 : Int32) [(.int (0 : Int32)), (.int (0 : Int32)), (.int (0 : Int32)), (.int (0 : Int32)), (.int (0 : Int32)), (.int (0 : Int32)), (.int (0 : Int32)), (.int (0 : Int32)), (.int (0 : Int32)), (.int (0 : Int32)), (.int (0 : Int32)), (.int (0 : Int32)), (.int (0 : Int32))] (.int (0 : Int32)) := Arv.set Ar_b42_65 q_b42_65 S_b42_65 N_b42_65 H_b42_65 G_b42_65 rfl W44 1 rfl (Nat.le_of_ble_eq_true rfl)
  have K44 : Keep h0 h44 [] := K43.wr W44 (Or.inr sz_b42)
  have N44 := Fr.snoc X44 N43 g_b42
  obtain ⟨cl_b42_69, Ar_b42_69, q_b42_69, S_b42_69, N_b42_69, H_b42_69, G_b42_69⟩ := id V_b42_44
  have hin69 : ¬ ((2 : Int32) < 0 ∨ cl_b42_69.slots.size ≤ ((2 : Int32)).toNatClampNeg) := inb_of S_b42_69 ⟨by decide, by decide⟩
  obtain ⟨T45, h45, X45, e45, W45, st45⟩ := stZ X44 hx hZ e44 Ar_b42_69 (j := (2 : Int32)) hin69 (g := (mkF m 106 #[.val (.int p1), .val (.ref b2), .unset, .unset, .unset, .unset] [(.int (0 : Int32)), (.int (2 : Int32)), (.ref b42), (.ref b42)])) rfl rfl (hb hby at_106)
  rw [own_nar0] at W45
  have V_b42_45 : Arv Z h45 b42 k42 .boolean (13 : Int32) [(.int (0 : Int32)), (.int (0 : Int32)), (.int (0 : Int32)), (.int (0 : Int32)), (.int (0 : Int32)), (.int (0 : Int32)), (.int (0 : Int32)), (.int (0 : Int32)), (.int (0 : Int32)), (.int (0 : Int32)), (.int (0 : Int32)), (.int (0 : Int32)), (.int (0 : Int32))] (.int (0 : Int32)) := Arv.set Ar_b42_69 q_b42_69 S_b42_69 N_b42_69 H_b42_69 G_b42_69 rfl W45 2 rfl (Nat.le_of_ble_eq_true rfl)
  have K45 : Keep h0 h45 [] := K44.wr W45 (Or.inr sz_b42)
  have N45 := Fr.snoc X45 N44 g_b42
  obtain ⟨cl_b42_73, Ar_b42_73, q_b42_73, S_b42_73, N_b42_73, H_b42_73, G_b42_73⟩ := id V_b42_45
  have hin73 : ¬ ((3 : Int32) < 0 ∨ cl_b42_73.slots.size ≤ ((3 : Int32)).toNatClampNeg) := inb_of S_b42_73 ⟨by decide, by decide⟩
  obtain ⟨T46, h46, X46, e46, W46, st46⟩ := stZ X45 hx hZ e45 Ar_b42_73 (j := (3 : Int32)) hin73 (g := (mkF m 110 #[.val (.int p1), .val (.ref b2), .unset, .unset, .unset, .unset] [(.int (0 : Int32)), (.int (3 : Int32)), (.ref b42), (.ref b42)])) rfl rfl (hb hby at_110)
  rw [own_nar0] at W46
  have V_b42_46 : Arv Z h46 b42 k42 .boolean (13 : Int32) [(.int (0 : Int32)), (.int (0 : Int32)), (.int (0 : Int32)), (.int (0 : Int32)), (.int (0 : Int32)), (.int (0 : Int32)), (.int (0 : Int32)), (.int (0 : Int32)), (.int (0 : Int32)), (.int (0 : Int32)), (.int (0 : Int32)), (.int (0 : Int32)), (.int (0 : Int32))] (.int (0 : Int32)) := Arv.set Ar_b42_73 q_b42_73 S_b42_73 N_b42_73 H_b42_73 G_b42_73 rfl W46 3 rfl (Nat.le_of_ble_eq_true rfl)
  have K46 : Keep h0 h46 [] := K45.wr W46 (Or.inr sz_b42)
  have N46 := Fr.snoc X46 N45 g_b42
  obtain ⟨cl_b42_77, Ar_b42_77, q_b42_77, S_b42_77, N_b42_77, H_b42_77, G_b42_77⟩ := id V_b42_46
  have hin77 : ¬ ((4 : Int32) < 0 ∨ cl_b42_77.slots.size ≤ ((4 : Int32)).toNatClampNeg) := inb_of S_b42_77 ⟨by decide, by decide⟩
  obtain ⟨T47, h47, X47, e47, W47, st47⟩ := stZ X46 hx hZ e46 Ar_b42_77 (j := (4 : Int32)) hin77 (g := (mkF m 114 #[.val (.int p1), .val (.ref b2), .unset, .unset, .unset, .unset] [(.int (0 : Int32)), (.int (4 : Int32)), (.ref b42), (.ref b42)])) rfl rfl (hb hby at_114)
  rw [own_nar0] at W47
  have V_b42_47 : Arv Z h47 b42 k42 .boolean (13 : Int32) [(.int (0 : Int32)), (.int (0 : Int32)), (.int (0 : Int32)), (.int (0 : Int32)), (.int (0 : Int32)), (.int (0 : Int32)), (.int (0 : Int32)), (.int (0 : Int32)), (.int (0 : Int32)), (.int (0 : Int32)), (.int (0 : Int32)), (.int (0 : Int32)), (.int (0 : Int32))] (.int (0 : Int32)) := Arv.set Ar_b42_77 q_b42_77 S_b42_77 N_b42_77 H_b42_77 G_b42_77 rfl W47 4 rfl (Nat.le_of_ble_eq_true rfl)
  have K47 : Keep h0 h47 [] := K46.wr W47 (Or.inr sz_b42)
  have N47 := Fr.snoc X47 N46 g_b42
  obtain ⟨cl_b42_81, Ar_b42_81, q_b42_81, S_b42_81, N_b42_81, H_b42_81, G_b42_81⟩ := id V_b42_47
  have hin81 : ¬ ((5 : Int32) < 0 ∨ cl_b42_81.slots.size ≤ ((5 : Int32)).toNatClampNeg) := inb_of S_b42_81 ⟨by decide, by decide⟩
  obtain ⟨T48, h48, X48, e48, W48, st48⟩ := stZ X47 hx hZ e47 Ar_b42_81 (j := (5 : Int32)) hin81 (g := (mkF m 118 #[.val (.int p1), .val (.ref b2), .unset, .unset, .unset, .unset] [(.int (1 : Int32)), (.int (5 : Int32)), (.ref b42), (.ref b42)])) rfl rfl (hb hby at_118)
  rw [own_nar1] at W48
  have V_b42_48 : Arv Z h48 b42 k42 .boolean (13 : Int32) [(.int (0 : Int32)), (.int (0 : Int32)), (.int (0 : Int32)), (.int (0 : Int32)), (.int (0 : Int32)), (.int (1 : Int32)), (.int (0 : Int32)), (.int (0 : Int32)), (.int (0 : Int32)), (.int (0 : Int32)), (.int (0 : Int32)), (.int (0 : Int32)), (.int (0 : Int32))] (.int (0 : Int32)) := Arv.set Ar_b42_81 q_b42_81 S_b42_81 N_b42_81 H_b42_81 G_b42_81 rfl W48 5 rfl (Nat.le_of_ble_eq_true rfl)
  have K48 : Keep h0 h48 [] := K47.wr W48 (Or.inr sz_b42)
  have N48 := Fr.snoc X48 N47 g_b42
  obtain ⟨cl_b42_85, Ar_b42_85, q_b42_85, S_b42_85, N_b42_85, H_b42_85, G_b42_85⟩ := id V_b42_48
  have hin85 : ¬ ((6 : Int32) < 0 ∨ cl_b42_85.slots.size ≤ ((6 : Int32)).toNatClampNeg) := inb_of S_b42_85 ⟨by decide, by decide⟩
  obtain ⟨T49, h49, X49, e49, W49, st49⟩ := stZ X48 hx hZ e48 Ar_b42_85 (j := (6 : Int32)) hin85 (g := (mkF m 123 #[.val (.int p1), .val (.ref b2), .unset, .unset, .unset, .unset] [(.int (1 : Int32)), (.int (6 : Int32)), (.ref b42), (.ref b42)])) rfl rfl (hb hby at_123)
  rw [own_nar1] at W49
  have V_b42_49 : Arv Z h49 b42 k42 .boolean (13 : Int32) [(.int (0 : Int32)), (.int (0 : Int32)), (.int (0 : Int32)), (.int (0 : Int32)), (.int (0 : Int32)), (.int (1 : Int32)), (.int (1 : Int32)), (.int (0 : Int32)), (.int (0 : Int32)), (.int (0 : Int32)), (.int (0 : Int32)), (.int (0 : Int32)), (.int (0 : Int32))] (.int (0 : Int32)) := Arv.set Ar_b42_85 q_b42_85 S_b42_85 N_b42_85 H_b42_85 G_b42_85 rfl W49 6 rfl (Nat.le_of_ble_eq_true rfl)
  have K49 : Keep h0 h49 [] := K48.wr W49 (Or.inr sz_b42)
  have N49 := Fr.snoc X49 N48 g_b42
  obtain ⟨cl_b42_89, Ar_b42_89, q_b42_89, S_b42_89, N_b42_89, H_b42_89, G_b42_89⟩ := id V_b42_49
  have hin89 : ¬ ((7 : Int32) < 0 ∨ cl_b42_89.slots.size ≤ ((7 : Int32)).toNatClampNeg) := inb_of S_b42_89 ⟨by decide, by decide⟩
  obtain ⟨T50, h50, X50, e50, W50, st50⟩ := stZ X49 hx hZ e49 Ar_b42_89 (j := (7 : Int32)) hin89 (g := (mkF m 128 #[.val (.int p1), .val (.ref b2), .unset, .unset, .unset, .unset] [(.int (0 : Int32)), (.int (7 : Int32)), (.ref b42), (.ref b42)])) rfl rfl (hb hby at_128)
  rw [own_nar0] at W50
  have V_b42_50 : Arv Z h50 b42 k42 .boolean (13 : Int32) [(.int (0 : Int32)), (.int (0 : Int32)), (.int (0 : Int32)), (.int (0 : Int32)), (.int (0 : Int32)), (.int (1 : Int32)), (.int (1 : Int32)), (.int (0 : Int32)), (.int (0 : Int32)), (.int (0 : Int32)), (.int (0 : Int32)), (.int (0 : Int32)), (.int (0 : Int32))] (.int (0 : Int32)) := Arv.set Ar_b42_89 q_b42_89 S_b42_89 N_b42_89 H_b42_89 G_b42_89 rfl W50 7 rfl (Nat.le_of_ble_eq_true rfl)
  have K50 : Keep h0 h50 [] := K49.wr W50 (Or.inr sz_b42)
  have N50 := Fr.snoc X50 N49 g_b42
  obtain ⟨cl_b42_93, Ar_b42_93, q_b42_93, S_b42_93, N_b42_93, H_b42_93, G_b42_93⟩ := id V_b42_50
  have hin93 : ¬ ((8 : Int32) < 0 ∨ cl_b42_93.slots.size ≤ ((8 : Int32)).toNatClampNeg) := inb_of S_b42_93 ⟨by decide, by decide⟩
  obtain ⟨T51, h51, X51, e51, W51, st51⟩ := stZ X50 hx hZ e50 Ar_b42_93 (j := (8 : Int32)) hin93 (g := (mkF m 133 #[.val (.int p1), .val (.ref b2), .unset, .unset, .unset, .unset] [(.int (0 : Int32)), (.int (8 : Int32)), (.ref b42), (.ref b42)])) rfl rfl (hb hby at_133)
  rw [own_nar0] at W51
  have V_b42_51 : Arv Z h51 b42 k42 .boolean (13 : Int32) [(.int (0 : Int32)), (.int (0 : Int32)), (.int (0 : Int32)), (.int (0 : Int32)), (.int (0 : Int32)), (.int (1 : Int32)), (.int (1 : Int32)), (.int (0 : Int32)), (.int (0 : Int32)), (.int (0 : Int32)), (.int (0 : Int32)), (.int (0 : Int32)), (.int (0 : Int32))] (.int (0 : Int32)) := Arv.set Ar_b42_93 q_b42_93 S_b42_93 N_b42_93 H_b42_93 G_b42_93 rfl W51 8 rfl (Nat.le_of_ble_eq_true rfl)
  have K51 : Keep h0 h51 [] := K50.wr W51 (Or.inr sz_b42)
  have N51 := Fr.snoc X51 N50 g_b42
  obtain ⟨cl_b42_97, Ar_b42_97, q_b42_97, S_b42_97, N_b42_97, H_b42_97, G_b42_97⟩ := id V_b42_51
  have hin97 : ¬ ((9 : Int32) < 0 ∨ cl_b42_97.slots.size ≤ ((9 : Int32)).toNatClampNeg) := inb_of S_b42_97 ⟨by decide, by decide⟩
  obtain ⟨T52, h52, X52, e52, W52, st52⟩ := stZ X51 hx hZ e51 Ar_b42_97 (j := (9 : Int32)) hin97 (g := (mkF m 138 #[.val (.int p1), .val (.ref b2), .unset, .unset, .unset, .unset] [(.int (0 : Int32)), (.int (9 : Int32)), (.ref b42), (.ref b42)])) rfl rfl (hb hby at_138)
  rw [own_nar0] at W52
  have V_b42_52 : Arv Z h52 b42 k42 .boolean (13 : Int32) [(.int (0 : Int32)), (.int (0 : Int32)), (.int (0 : Int32)), (.int (0 : Int32)), (.int (0 : Int32)), (.int (1 : Int32)), (.int (1 : Int32)), (.int (0 : Int32)), (.int (0 : Int32)), (.int (0 : Int32)), (.int (0 : Int32)), (.int (0 : Int32)), (.int (0 : Int32))] (.int (0 : Int32)) := Arv.set Ar_b42_97 q_b42_97 S_b42_97 N_b42_97 H_b42_97 G_b42_97 rfl W52 9 rfl (Nat.le_of_ble_eq_true rfl)
  have K52 : Keep h0 h52 [] := K51.wr W52 (Or.inr sz_b42)
  have N52 := Fr.snoc X52 N51 g_b42
  obtain ⟨cl_b42_101, Ar_b42_101, q_b42_101, S_b42_101, N_b42_101, H_b42_101, G_b42_101⟩ := id V_b42_52
  have hin101 : ¬ ((10 : Int32) < 0 ∨ cl_b42_101.slots.size ≤ ((10 : Int32)).toNatClampNeg) := inb_of S_b42_101 ⟨by decide, by decide⟩
  obtain ⟨T53, h53, X53, e53, W53, st53⟩ := stZ X52 hx hZ e52 Ar_b42_101 (j := (10 : Int32)) hin101 (g := (mkF m 143 #[.val (.int p1), .val (.ref b2), .unset, .unset, .unset, .unset] [(.int (0 : Int32)), (.int (10 : Int32)), (.ref b42), (.ref b42)])) rfl rfl (hb hby at_143)
  rw [own_nar0] at W53
  have V_b42_53 : Arv Z h53 b42 k42 .boolean (13 : Int32) [(.int (0 : Int32)), (.int (0 : Int32)), (.int (0 : Int32)), (.int (0 : Int32)), (.int (0 : Int32)), (.int (1 : Int32)), (.int (1 : Int32)), (.int (0 : Int32)), (.int (0 : Int32)), (.int (0 : Int32)), (.int (0 : Int32)), (.int (0 : Int32)), (.int (0 : Int32))] (.int (0 : Int32)) := Arv.set Ar_b42_101 q_b42_101 S_b42_101 N_b42_101 H_b42_101 G_b42_101 rfl W53 10 rfl (Nat.le_of_ble_eq_true rfl)
  have K53 : Keep h0 h53 [] := K52.wr W53 (Or.inr sz_b42)
  have N53 := Fr.snoc X53 N52 g_b42
  obtain ⟨cl_b42_105, Ar_b42_105, q_b42_105, S_b42_105, N_b42_105, H_b42_105, G_b42_105⟩ := id V_b42_53
  have hin105 : ¬ ((11 : Int32) < 0 ∨ cl_b42_105.slots.size ≤ ((11 : Int32)).toNatClampNeg) := inb_of S_b42_105 ⟨by decide, by decide⟩
  obtain ⟨T54, h54, X54, e54, W54, st54⟩ := stZ X53 hx hZ e53 Ar_b42_105 (j := (11 : Int32)) hin105 (g := (mkF m 148 #[.val (.int p1), .val (.ref b2), .unset, .unset, .unset, .unset] [(.int (0 : Int32)), (.int (11 : Int32)), (.ref b42), (.ref b42)])) rfl rfl (hb hby at_148)
  rw [own_nar0] at W54
  have V_b42_54 : Arv Z h54 b42 k42 .boolean (13 : Int32) [(.int (0 : Int32)), (.int (0 : Int32)), (.int (0 : Int32)), (.int (0 : Int32)), (.int (0 : Int32)), (.int (1 : Int32)), (.int (1 : Int32)), (.int (0 : Int32)), (.int (0 : Int32)), (.int (0 : Int32)), (.int (0 : Int32)), (.int (0 : Int32)), (.int (0 : Int32))] (.int (0 : Int32)) := Arv.set Ar_b42_105 q_b42_105 S_b42_105 N_b42_105 H_b42_105 G_b42_105 rfl W54 11 rfl (Nat.le_of_ble_eq_true rfl)
  have K54 : Keep h0 h54 [] := K53.wr W54 (Or.inr sz_b42)
  have N54 := Fr.snoc X54 N53 g_b42
  obtain ⟨cl_b42_109, Ar_b42_109, q_b42_109, S_b42_109, N_b42_109, H_b42_109, G_b42_109⟩ := id V_b42_54
  have hin109 : ¬ ((12 : Int32) < 0 ∨ cl_b42_109.slots.size ≤ ((12 : Int32)).toNatClampNeg) := inb_of S_b42_109 ⟨by decide, by decide⟩
  obtain ⟨T55, h55, X55, e55, W55, st55⟩ := stZ X54 hx hZ e54 Ar_b42_109 (j := (12 : Int32)) hin109 (g := (mkF m 153 #[.val (.int p1), .val (.ref b2), .unset, .unset, .unset, .unset] [(.int (0 : Int32)), (.int (12 : Int32)), (.ref b42), (.ref b42)])) rfl rfl (hb hby at_153)
  rw [own_nar0] at W55
  have V_b42_55 : Arv Z h55 b42 k42 .boolean (13 : Int32) [(.int (0 : Int32)), (.int (0 : Int32)), (.int (0 : Int32)), (.int (0 : Int32)), (.int (0 : Int32)), (.int (1 : Int32)), (.int (1 : Int32)), (.int (0 : Int32)), (.int (0 : Int32)), (.int (0 : Int32)), (.int (0 : Int32)), (.int (0 : Int32)), (.int (0 : Int32))] (.int (0 : Int32)) := Arv.set Ar_b42_109 q_b42_109 S_b42_109 N_b42_109 H_b42_109 G_b42_109 rfl W55 12 rfl (Nat.le_of_ble_eq_true rfl)
  have K55 : Keep h0 h55 [] := K54.wr W55 (Or.inr sz_b42)
  have N55 := Fr.snoc X55 N54 g_b42
  obtain ⟨cl_b2_119, Ar_b2_119, q_b2_119, S_b2_119, N_b2_119, H_b2_119, G_b2_119⟩ := id ((((((((((((((V_b2_41.ext E42).other W43 (Nat.ne_of_lt (Nat.lt_of_lt_of_le V_b2_41.lt (Nat.le_of_eq g42.symm)))).other W44 (Nat.ne_of_lt (Nat.lt_of_lt_of_le V_b2_41.lt (Nat.le_of_eq g42.symm)))).other W45 (Nat.ne_of_lt (Nat.lt_of_lt_of_le V_b2_41.lt (Nat.le_of_eq g42.symm)))).other W46 (Nat.ne_of_lt (Nat.lt_of_lt_of_le V_b2_41.lt (Nat.le_of_eq g42.symm)))).other W47 (Nat.ne_of_lt (Nat.lt_of_lt_of_le V_b2_41.lt (Nat.le_of_eq g42.symm)))).other W48 (Nat.ne_of_lt (Nat.lt_of_lt_of_le V_b2_41.lt (Nat.le_of_eq g42.symm)))).other W49 (Nat.ne_of_lt (Nat.lt_of_lt_of_le V_b2_41.lt (Nat.le_of_eq g42.symm)))).other W50 (Nat.ne_of_lt (Nat.lt_of_lt_of_le V_b2_41.lt (Nat.le_of_eq g42.symm)))).other W51 (Nat.ne_of_lt (Nat.lt_of_lt_of_le V_b2_41.lt (Nat.le_of_eq g42.symm)))).other W52 (Nat.ne_of_lt (Nat.lt_of_lt_of_le V_b2_41.lt (Nat.le_of_eq g42.symm)))).other W53 (Nat.ne_of_lt (Nat.lt_of_lt_of_le V_b2_41.lt (Nat.le_of_eq g42.symm)))).other W54 (Nat.ne_of_lt (Nat.lt_of_lt_of_le V_b2_41.lt (Nat.le_of_eq g42.symm)))).other W55 (Nat.ne_of_lt (Nat.lt_of_lt_of_le V_b2_41.lt (Nat.le_of_eq g42.symm))))
  have hin119 : ¬ (((p1 &&& (2147483647 : Int32)) % (13 : Int32)) < 0 ∨ cl_b2_119.slots.size ≤ (((p1 &&& (2147483647 : Int32)) % (13 : Int32))).toNatClampNeg) := inb_of S_b2_119 hix119
  have hat119 : cl_b2_119.slots[(((p1 &&& (2147483647 : Int32)) % (13 : Int32))).toNatClampNeg]? = some (.ref r) := H_b2_119.at hin119 hel119
  obtain ⟨LL, X55, N55⟩ : ∃ LL : List Loc, Stand p l e room_1 s m #[(.int p1)] below meth c T55 LL 2 26 ∧ Fr n0 LL := ⟨_, X55, N55⟩
  obtain ⟨cq56, kq56, q56a, q56b, q56c⟩ := isOf hZ e55 (E_r.keep K55)
  obtain ⟨_, _, ⟨T56, L56, k56, n56⟩, -, X56, ⟨Lc56, hQ56, l56, y56, z56⟩, st56⟩ := X55.virtualBack hx (y := (⟨"com/example/earnest_repository/earnestrepository/core/Result", "single", "()Z"⟩ : MethodName)) (z := (⟨"com/example/earnest_repository/earnestrepository/core/Result", "single", "()Z"⟩ : MethodName)) hown (mvT hZ (hw _ (List.mem_of_getElem? (i := 32) rfl))) (mvT hZ (hw _ (List.mem_of_getElem? (i := 33) rfl))) (notFace_of_selects (args := #[]) (mvT hZ (hw _ (List.mem_of_getElem? (i := 35) rfl)))) (mvT hZ (hw _ (List.mem_of_getElem? (i := 35) rfl))) (mvT hZ (hw _ (List.mem_of_getElem? (i := 34) rfl))) (by decide) (backOf (W := 0) (rm1_all l Z a0 hw [] r w_ENTITY w_OPTIONAL (1 : Int32) h55 n0 (Nat.le_trans Z0 K55.1) (own_staK S_ENTITY K55 all0) (own_staK S_OPTIONAL K55 all0) hb1) hZ (hw _ (List.mem_of_getElem? (i := 36) rfl)) (hw _ (List.mem_of_getElem? (i := 3) rfl)) (by decide) (by decide)) q56a q56c (g := (mkF m 170 #[.val (.int p1), .val (.ref b2), .val (.ref b42), .val (.int ((p1 &&& (2147483647 : Int32)) % (13 : Int32))), .val (.ref r), .unset] [(.ref r)])) rfl (by rw [hml]; rfl) (Steps.refl _) (argsL := []) (rest := []) (lenOf pd_0_0 rfl) rfl (by show 2 * 0 + _ ≤ _; exact Nat.le_of_eq rfl) (hb hby at_170) (fun _ _ => ⟨rfl, e55, (by decide : 2 + 0 ≤ _), (by decide : 26 + 0 ≤ _)⟩)
  dsimp only [Pt.U, Pt.locs, Pt.cells, Pt.slots] at X56 l56 y56 z56 st56 hQ56
  subst l56 y56 z56
  obtain ⟨rfl, N56q, eh56⟩ := hQ56
  have N56 := Fr.app N55 N56q
  obtain ⟨cl_b42_127, Ar_b42_127, q_b42_127, S_b42_127, N_b42_127, H_b42_127, G_b42_127⟩ := id V_b42_55
  have hin127 : ¬ (((p1 &&& (2147483647 : Int32)) % (13 : Int32)) < 0 ∨ cl_b42_127.slots.size ≤ (((p1 &&& (2147483647 : Int32)) % (13 : Int32))).toNatClampNeg) := inb_of S_b42_127 hix127
  have hat127 : cl_b42_127.slots[(((p1 &&& (2147483647 : Int32)) % (13 : Int32))).toNatClampNeg]? = some (.int (1 : Int32)) := H_b42_127.at hin127 hel127
  obtain ⟨cq57, kq57, q57a, q57b, q57c⟩ := isOf hZ eh56 (E_r.keep K55)
  obtain ⟨_, _, ⟨T57, L57, k57, n57⟩, -, X57, ⟨Lc57, hQ57, l57, y57, z57⟩, st57⟩ := X56.virtualBack hx (y := (⟨"com/example/earnest_repository/earnestrepository/core/Result", "readsRows", "()Z"⟩ : MethodName)) (z := (⟨"com/example/earnest_repository/earnestrepository/core/Result", "readsRows", "()Z"⟩ : MethodName)) hown (mvT hZ (hw _ (List.mem_of_getElem? (i := 39) rfl))) (mvT hZ (hw _ (List.mem_of_getElem? (i := 40) rfl))) (notFace_of_selects (args := #[]) (mvT hZ (hw _ (List.mem_of_getElem? (i := 42) rfl)))) (mvT hZ (hw _ (List.mem_of_getElem? (i := 42) rfl))) (mvT hZ (hw _ (List.mem_of_getElem? (i := 41) rfl))) (by decide) (backOf (W := 0) (rm2 l Z a0 hw [] r (1 : Int32) h55 n0 (Nat.le_trans Z0 K55.1) (by decide) (F_r.keep K55 nin0)) hZ (hw _ (List.mem_of_getElem? (i := 43) rfl)) (hw _ (List.mem_of_getElem? (i := 3) rfl)) (by decide) (by decide)) q57a q57c (g := (mkF m 192 #[.val (.int p1), .val (.ref b2), .val (.ref b42), .val (.int ((p1 &&& (2147483647 : Int32)) % (13 : Int32))), .val (.ref r), .val (.int (1 : Int32))] [(.ref r)])) rfl (by rw [hml]; rfl) (Steps.refl _) (argsL := []) (rest := []) (lenOf pd_0_0 rfl) rfl (by show 2 * 0 + _ ≤ _; exact Nat.le_of_eq rfl) (hb hby at_192) (fun _ _ => ⟨rfl, eh56, (by decide : 2 + 0 ≤ _), (by decide : 26 + 0 ≤ _)⟩)
  dsimp only [Pt.U, Pt.locs, Pt.cells, Pt.slots] at X57 l57 y57 z57 st57 hQ57
  subst l57 y57 z57
  obtain ⟨rfl, N57q, eh57⟩ := hQ57
  have N57 := Fr.app N56 N57q
  obtain ⟨cq58, kq58, q58a, q58b, q58c⟩ := isOf hZ eh57 (E_r.keep K55)
  obtain ⟨_, _, ⟨T58, L58, k58, n58⟩, -, X58, ⟨Lc58, hQ58, l58, y58, z58⟩, st58⟩ := X57.virtualBack hx (y := (⟨"com/example/earnest_repository/earnestrepository/core/Result", "paged", "()Z"⟩ : MethodName)) (z := (⟨"com/example/earnest_repository/earnestrepository/core/Result", "paged", "()Z"⟩ : MethodName)) hown (mvT hZ (hw _ (List.mem_of_getElem? (i := 46) rfl))) (mvT hZ (hw _ (List.mem_of_getElem? (i := 47) rfl))) (notFace_of_selects (args := #[]) (mvT hZ (hw _ (List.mem_of_getElem? (i := 49) rfl)))) (mvT hZ (hw _ (List.mem_of_getElem? (i := 49) rfl))) (mvT hZ (hw _ (List.mem_of_getElem? (i := 48) rfl))) (by decide) (backOf (W := 0) (rm3_n l Z a0 hw [] r w_SLICE w_PAGE h55 n0 (Nat.le_trans Z0 K55.1) (own_staK S_SLICE K55 all0) (own_staK S_PAGE K55 all0) nSL nPG) hZ (hw _ (List.mem_of_getElem? (i := 50) rfl)) (hw _ (List.mem_of_getElem? (i := 3) rfl)) (by decide) (by decide)) q58a q58c (g := (mkF m 200 #[.val (.int p1), .val (.ref b2), .val (.ref b42), .val (.int ((p1 &&& (2147483647 : Int32)) % (13 : Int32))), .val (.ref r), .val (.int (1 : Int32))] [(.ref r)])) rfl (by rw [hml]; rfl) (Steps.refl _) (argsL := []) (rest := []) (lenOf pd_0_0 rfl) rfl (by show 2 * 0 + _ ≤ _; exact Nat.le_of_eq rfl) (hb hby at_200) (fun _ _ => ⟨rfl, eh57, (by decide : 2 + 0 ≤ _), (by decide : 26 + 0 ≤ _)⟩)
  dsimp only [Pt.U, Pt.locs, Pt.cells, Pt.slots] at X58 l58 y58 z58 st58 hQ58
  subst l58 y58 z58
  obtain ⟨rfl, N58q, eh58⟩ := hQ58
  have N58 := Fr.app N57 N58q
  obtain ⟨cq59, kq59, q59a, q59b, q59c⟩ := isOf hZ eh58 (E_r.keep K55)
  obtain ⟨_, _, ⟨T59, L59, k59, n59⟩, -, X59, ⟨Lc59, hQ59, l59, y59, z59⟩, st59⟩ := X58.virtualBack hx (y := (⟨"com/example/earnest_repository/earnestrepository/core/Result", "readAsConsumed", "()Z"⟩ : MethodName)) (z := (⟨"com/example/earnest_repository/earnestrepository/core/Result", "readAsConsumed", "()Z"⟩ : MethodName)) hown (mvT hZ (hw _ (List.mem_of_getElem? (i := 53) rfl))) (mvT hZ (hw _ (List.mem_of_getElem? (i := 54) rfl))) (notFace_of_selects (args := #[]) (mvT hZ (hw _ (List.mem_of_getElem? (i := 56) rfl)))) (mvT hZ (hw _ (List.mem_of_getElem? (i := 56) rfl))) (mvT hZ (hw _ (List.mem_of_getElem? (i := 55) rfl))) (by decide) (backOf (W := 0) (rm4_n l Z a0 hw [] r w_STREAM h55 n0 (Nat.le_trans Z0 K55.1) (own_staK S_STREAM K55 all0) nST) hZ (hw _ (List.mem_of_getElem? (i := 57) rfl)) (hw _ (List.mem_of_getElem? (i := 3) rfl)) (by decide) (by decide)) q59a q59c (g := (mkF m 208 #[.val (.int p1), .val (.ref b2), .val (.ref b42), .val (.int ((p1 &&& (2147483647 : Int32)) % (13 : Int32))), .val (.ref r), .val (.int (1 : Int32))] [(.ref r)])) rfl (by rw [hml]; rfl) (Steps.refl _) (argsL := []) (rest := []) (lenOf pd_0_0 rfl) rfl (by show 2 * 0 + _ ≤ _; exact Nat.le_of_eq rfl) (hb hby at_208) (fun _ _ => ⟨rfl, eh58, (by decide : 2 + 0 ≤ _), (by decide : 26 + 0 ≤ _)⟩)
  dsimp only [Pt.U, Pt.locs, Pt.cells, Pt.slots] at X59 l59 y59 z59 st59 hQ59
  subst l59 y59 z59
  obtain ⟨rfl, N59q, eh59⟩ := hQ59
  have N59 := Fr.app N58 N59q
  obtain ⟨fs, hr, hrun, hended, hW, hsame⟩ := X59.leave (v := some (.int (1 : Int32))) (fun h => by rw [Bd.returns] at h; cases h)
  refine ⟨_, _, pre0 _ ?_, hrun, hended, _, _, rfl, ?_, ⟨_, rfl⟩, hW, hsame.mono (by decide) (by decide)⟩
  · show Steps p.tables e below (s₁.setTop (mkF m 0 #[.val (.int p1), .unset, .unset, .unset, .unset, .unset] [])) _
    refine XS.bipush X0.here hx rfl (hb hby at_0) ?_
    show Steps p.tables e below (s₁.setTop (mkF m 2 #[.val (.int p1), .unset, .unset, .unset, .unset, .unset] [(.int (13 : Int32))])) _
    refine st2 _ ?_
    show Steps p.tables e below (T2.setTop (mkF m 5 #[.val (.int p1), .unset, .unset, .unset, .unset, .unset] [(.ref b2)])) _
    refine XS.dup X2.here hx rfl (hb hby at_5) rfl rfl ?_
    show Steps p.tables e below (T2.setTop (mkF m 6 #[.val (.int p1), .unset, .unset, .unset, .unset, .unset] [(.ref b2), (.ref b2)])) _
    refine XS.iconst X2.here hx rfl (hb hby at_6) ?_
    show Steps p.tables e below (T2.setTop (mkF m 7 #[.val (.int p1), .unset, .unset, .unset, .unset, .unset] [(.int (0 : Int32)), (.ref b2), (.ref b2)])) _
    refine st4 _ ?_
    show Steps p.tables e below (T4.setTop (mkF m 10 #[.val (.int p1), .unset, .unset, .unset, .unset, .unset] [(.ref w_ENTITIES), (.int (0 : Int32)), (.ref b2), (.ref b2)])) _
    refine st5 _ ?_
    show Steps p.tables e below (T5.setTop (mkF m 11 #[.val (.int p1), .unset, .unset, .unset, .unset, .unset] [(.ref b2)])) _
    refine XS.dup X5.here hx rfl (hb hby at_11) rfl rfl ?_
    show Steps p.tables e below (T5.setTop (mkF m 12 #[.val (.int p1), .unset, .unset, .unset, .unset, .unset] [(.ref b2), (.ref b2)])) _
    refine XS.iconst X5.here hx rfl (hb hby at_12) ?_
    show Steps p.tables e below (T5.setTop (mkF m 13 #[.val (.int p1), .unset, .unset, .unset, .unset, .unset] [(.int (1 : Int32)), (.ref b2), (.ref b2)])) _
    refine st7 _ ?_
    show Steps p.tables e below (T7.setTop (mkF m 16 #[.val (.int p1), .unset, .unset, .unset, .unset, .unset] [(.ref w_ENTITY_SET), (.int (1 : Int32)), (.ref b2), (.ref b2)])) _
    refine st8 _ ?_
    show Steps p.tables e below (T8.setTop (mkF m 17 #[.val (.int p1), .unset, .unset, .unset, .unset, .unset] [(.ref b2)])) _
    refine XS.dup X8.here hx rfl (hb hby at_17) rfl rfl ?_
    show Steps p.tables e below (T8.setTop (mkF m 18 #[.val (.int p1), .unset, .unset, .unset, .unset, .unset] [(.ref b2), (.ref b2)])) _
    refine XS.iconst X8.here hx rfl (hb hby at_18) ?_
    show Steps p.tables e below (T8.setTop (mkF m 19 #[.val (.int p1), .unset, .unset, .unset, .unset, .unset] [(.int (2 : Int32)), (.ref b2), (.ref b2)])) _
    refine st10 _ ?_
    show Steps p.tables e below (T10.setTop (mkF m 22 #[.val (.int p1), .unset, .unset, .unset, .unset, .unset] [(.ref w_ITERATOR), (.int (2 : Int32)), (.ref b2), (.ref b2)])) _
    refine st11 _ ?_
    show Steps p.tables e below (T11.setTop (mkF m 23 #[.val (.int p1), .unset, .unset, .unset, .unset, .unset] [(.ref b2)])) _
    refine XS.dup X11.here hx rfl (hb hby at_23) rfl rfl ?_
    show Steps p.tables e below (T11.setTop (mkF m 24 #[.val (.int p1), .unset, .unset, .unset, .unset, .unset] [(.ref b2), (.ref b2)])) _
    refine XS.iconst X11.here hx rfl (hb hby at_24) ?_
    show Steps p.tables e below (T11.setTop (mkF m 25 #[.val (.int p1), .unset, .unset, .unset, .unset, .unset] [(.int (3 : Int32)), (.ref b2), (.ref b2)])) _
    refine st13 _ ?_
    show Steps p.tables e below (T13.setTop (mkF m 28 #[.val (.int p1), .unset, .unset, .unset, .unset, .unset] [(.ref w_STREAM), (.int (3 : Int32)), (.ref b2), (.ref b2)])) _
    refine st14 _ ?_
    show Steps p.tables e below (T14.setTop (mkF m 29 #[.val (.int p1), .unset, .unset, .unset, .unset, .unset] [(.ref b2)])) _
    refine XS.dup X14.here hx rfl (hb hby at_29) rfl rfl ?_
    show Steps p.tables e below (T14.setTop (mkF m 30 #[.val (.int p1), .unset, .unset, .unset, .unset, .unset] [(.ref b2), (.ref b2)])) _
    refine XS.iconst X14.here hx rfl (hb hby at_30) ?_
    show Steps p.tables e below (T14.setTop (mkF m 31 #[.val (.int p1), .unset, .unset, .unset, .unset, .unset] [(.int (4 : Int32)), (.ref b2), (.ref b2)])) _
    refine st16 _ ?_
    show Steps p.tables e below (T16.setTop (mkF m 34 #[.val (.int p1), .unset, .unset, .unset, .unset, .unset] [(.ref w_STREAMABLE), (.int (4 : Int32)), (.ref b2), (.ref b2)])) _
    refine st17 _ ?_
    show Steps p.tables e below (T17.setTop (mkF m 35 #[.val (.int p1), .unset, .unset, .unset, .unset, .unset] [(.ref b2)])) _
    refine XS.dup X17.here hx rfl (hb hby at_35) rfl rfl ?_
    show Steps p.tables e below (T17.setTop (mkF m 36 #[.val (.int p1), .unset, .unset, .unset, .unset, .unset] [(.ref b2), (.ref b2)])) _
    refine XS.iconst X17.here hx rfl (hb hby at_36) ?_
    show Steps p.tables e below (T17.setTop (mkF m 37 #[.val (.int p1), .unset, .unset, .unset, .unset, .unset] [(.int (5 : Int32)), (.ref b2), (.ref b2)])) _
    refine st19 _ ?_
    show Steps p.tables e below (T19.setTop (mkF m 40 #[.val (.int p1), .unset, .unset, .unset, .unset, .unset] [(.ref w_ENTITY), (.int (5 : Int32)), (.ref b2), (.ref b2)])) _
    refine st20 _ ?_
    show Steps p.tables e below (T20.setTop (mkF m 41 #[.val (.int p1), .unset, .unset, .unset, .unset, .unset] [(.ref b2)])) _
    refine XS.dup X20.here hx rfl (hb hby at_41) rfl rfl ?_
    show Steps p.tables e below (T20.setTop (mkF m 42 #[.val (.int p1), .unset, .unset, .unset, .unset, .unset] [(.ref b2), (.ref b2)])) _
    refine XS.bipush X20.here hx rfl (hb hby at_42) ?_
    show Steps p.tables e below (T20.setTop (mkF m 44 #[.val (.int p1), .unset, .unset, .unset, .unset, .unset] [(.int (6 : Int32)), (.ref b2), (.ref b2)])) _
    refine st22 _ ?_
    show Steps p.tables e below (T22.setTop (mkF m 47 #[.val (.int p1), .unset, .unset, .unset, .unset, .unset] [(.ref w_OPTIONAL), (.int (6 : Int32)), (.ref b2), (.ref b2)])) _
    refine st23 _ ?_
    show Steps p.tables e below (T23.setTop (mkF m 48 #[.val (.int p1), .unset, .unset, .unset, .unset, .unset] [(.ref b2)])) _
    refine XS.dup X23.here hx rfl (hb hby at_48) rfl rfl ?_
    show Steps p.tables e below (T23.setTop (mkF m 49 #[.val (.int p1), .unset, .unset, .unset, .unset, .unset] [(.ref b2), (.ref b2)])) _
    refine XS.bipush X23.here hx rfl (hb hby at_49) ?_
    show Steps p.tables e below (T23.setTop (mkF m 51 #[.val (.int p1), .unset, .unset, .unset, .unset, .unset] [(.int (7 : Int32)), (.ref b2), (.ref b2)])) _
    refine st25 _ ?_
    show Steps p.tables e below (T25.setTop (mkF m 54 #[.val (.int p1), .unset, .unset, .unset, .unset, .unset] [(.ref w_SLICE), (.int (7 : Int32)), (.ref b2), (.ref b2)])) _
    refine st26 _ ?_
    show Steps p.tables e below (T26.setTop (mkF m 55 #[.val (.int p1), .unset, .unset, .unset, .unset, .unset] [(.ref b2)])) _
    refine XS.dup X26.here hx rfl (hb hby at_55) rfl rfl ?_
    show Steps p.tables e below (T26.setTop (mkF m 56 #[.val (.int p1), .unset, .unset, .unset, .unset, .unset] [(.ref b2), (.ref b2)])) _
    refine XS.bipush X26.here hx rfl (hb hby at_56) ?_
    show Steps p.tables e below (T26.setTop (mkF m 58 #[.val (.int p1), .unset, .unset, .unset, .unset, .unset] [(.int (8 : Int32)), (.ref b2), (.ref b2)])) _
    refine st28 _ ?_
    show Steps p.tables e below (T28.setTop (mkF m 61 #[.val (.int p1), .unset, .unset, .unset, .unset, .unset] [(.ref w_PAGE), (.int (8 : Int32)), (.ref b2), (.ref b2)])) _
    refine st29 _ ?_
    show Steps p.tables e below (T29.setTop (mkF m 62 #[.val (.int p1), .unset, .unset, .unset, .unset, .unset] [(.ref b2)])) _
    refine XS.dup X29.here hx rfl (hb hby at_62) rfl rfl ?_
    show Steps p.tables e below (T29.setTop (mkF m 63 #[.val (.int p1), .unset, .unset, .unset, .unset, .unset] [(.ref b2), (.ref b2)])) _
    refine XS.bipush X29.here hx rfl (hb hby at_63) ?_
    show Steps p.tables e below (T29.setTop (mkF m 65 #[.val (.int p1), .unset, .unset, .unset, .unset, .unset] [(.int (9 : Int32)), (.ref b2), (.ref b2)])) _
    refine st31 _ ?_
    show Steps p.tables e below (T31.setTop (mkF m 68 #[.val (.int p1), .unset, .unset, .unset, .unset, .unset] [(.ref w_NUMBER), (.int (9 : Int32)), (.ref b2), (.ref b2)])) _
    refine st32 _ ?_
    show Steps p.tables e below (T32.setTop (mkF m 69 #[.val (.int p1), .unset, .unset, .unset, .unset, .unset] [(.ref b2)])) _
    refine XS.dup X32.here hx rfl (hb hby at_69) rfl rfl ?_
    show Steps p.tables e below (T32.setTop (mkF m 70 #[.val (.int p1), .unset, .unset, .unset, .unset, .unset] [(.ref b2), (.ref b2)])) _
    refine XS.bipush X32.here hx rfl (hb hby at_70) ?_
    show Steps p.tables e below (T32.setTop (mkF m 72 #[.val (.int p1), .unset, .unset, .unset, .unset, .unset] [(.int (10 : Int32)), (.ref b2), (.ref b2)])) _
    refine st34 _ ?_
    show Steps p.tables e below (T34.setTop (mkF m 75 #[.val (.int p1), .unset, .unset, .unset, .unset, .unset] [(.ref w_INT_NUMBER), (.int (10 : Int32)), (.ref b2), (.ref b2)])) _
    refine st35 _ ?_
    show Steps p.tables e below (T35.setTop (mkF m 76 #[.val (.int p1), .unset, .unset, .unset, .unset, .unset] [(.ref b2)])) _
    refine XS.dup X35.here hx rfl (hb hby at_76) rfl rfl ?_
    show Steps p.tables e below (T35.setTop (mkF m 77 #[.val (.int p1), .unset, .unset, .unset, .unset, .unset] [(.ref b2), (.ref b2)])) _
    refine XS.bipush X35.here hx rfl (hb hby at_77) ?_
    show Steps p.tables e below (T35.setTop (mkF m 79 #[.val (.int p1), .unset, .unset, .unset, .unset, .unset] [(.int (11 : Int32)), (.ref b2), (.ref b2)])) _
    refine st37 _ ?_
    show Steps p.tables e below (T37.setTop (mkF m 82 #[.val (.int p1), .unset, .unset, .unset, .unset, .unset] [(.ref w_PRESENCE), (.int (11 : Int32)), (.ref b2), (.ref b2)])) _
    refine st38 _ ?_
    show Steps p.tables e below (T38.setTop (mkF m 83 #[.val (.int p1), .unset, .unset, .unset, .unset, .unset] [(.ref b2)])) _
    refine XS.dup X38.here hx rfl (hb hby at_83) rfl rfl ?_
    show Steps p.tables e below (T38.setTop (mkF m 84 #[.val (.int p1), .unset, .unset, .unset, .unset, .unset] [(.ref b2), (.ref b2)])) _
    refine XS.bipush X38.here hx rfl (hb hby at_84) ?_
    show Steps p.tables e below (T38.setTop (mkF m 86 #[.val (.int p1), .unset, .unset, .unset, .unset, .unset] [(.int (12 : Int32)), (.ref b2), (.ref b2)])) _
    refine st40 _ ?_
    show Steps p.tables e below (T40.setTop (mkF m 89 #[.val (.int p1), .unset, .unset, .unset, .unset, .unset] [(.ref w_NOTHING), (.int (12 : Int32)), (.ref b2), (.ref b2)])) _
    refine st41 _ ?_
    show Steps p.tables e below (T41.setTop (mkF m 90 #[.val (.int p1), .unset, .unset, .unset, .unset, .unset] [(.ref b2)])) _
    refine XS.astoreN X41.here hx rfl (hb hby at_90) rfl rfl (l' := #[.val (.int p1), .val (.ref b2), .unset, .unset, .unset, .unset]) rfl ?_
    show Steps p.tables e below (T41.setTop (mkF m 91 #[.val (.int p1), .val (.ref b2), .unset, .unset, .unset, .unset] [])) _
    refine XS.bipush X41.here hx rfl (hb hby at_91) ?_
    show Steps p.tables e below (T41.setTop (mkF m 93 #[.val (.int p1), .val (.ref b2), .unset, .unset, .unset, .unset] [(.int (13 : Int32))])) _
    refine st42 _ ?_
    show Steps p.tables e below (T42.setTop (mkF m 95 #[.val (.int p1), .val (.ref b2), .unset, .unset, .unset, .unset] [(.ref b42)])) _
    refine XS.dup X42.here hx rfl (hb hby at_95) rfl rfl ?_
    show Steps p.tables e below (T42.setTop (mkF m 96 #[.val (.int p1), .val (.ref b2), .unset, .unset, .unset, .unset] [(.ref b42), (.ref b42)])) _
    refine XS.iconst X42.here hx rfl (hb hby at_96) ?_
    show Steps p.tables e below (T42.setTop (mkF m 97 #[.val (.int p1), .val (.ref b2), .unset, .unset, .unset, .unset] [(.int (0 : Int32)), (.ref b42), (.ref b42)])) _
    refine XS.iconst X42.here hx rfl (hb hby at_97) ?_
    show Steps p.tables e below (T42.setTop (mkF m 98 #[.val (.int p1), .val (.ref b2), .unset, .unset, .unset, .unset] [(.int (0 : Int32)), (.int (0 : Int32)), (.ref b42), (.ref b42)])) _
    refine st43 _ ?_
    show Steps p.tables e below (T43.setTop (mkF m 99 #[.val (.int p1), .val (.ref b2), .unset, .unset, .unset, .unset] [(.ref b42)])) _
    refine XS.dup X43.here hx rfl (hb hby at_99) rfl rfl ?_
    show Steps p.tables e below (T43.setTop (mkF m 100 #[.val (.int p1), .val (.ref b2), .unset, .unset, .unset, .unset] [(.ref b42), (.ref b42)])) _
    refine XS.iconst X43.here hx rfl (hb hby at_100) ?_
    show Steps p.tables e below (T43.setTop (mkF m 101 #[.val (.int p1), .val (.ref b2), .unset, .unset, .unset, .unset] [(.int (1 : Int32)), (.ref b42), (.ref b42)])) _
    refine XS.iconst X43.here hx rfl (hb hby at_101) ?_
    show Steps p.tables e below (T43.setTop (mkF m 102 #[.val (.int p1), .val (.ref b2), .unset, .unset, .unset, .unset] [(.int (0 : Int32)), (.int (1 : Int32)), (.ref b42), (.ref b42)])) _
    refine st44 _ ?_
    show Steps p.tables e below (T44.setTop (mkF m 103 #[.val (.int p1), .val (.ref b2), .unset, .unset, .unset, .unset] [(.ref b42)])) _
    refine XS.dup X44.here hx rfl (hb hby at_103) rfl rfl ?_
    show Steps p.tables e below (T44.setTop (mkF m 104 #[.val (.int p1), .val (.ref b2), .unset, .unset, .unset, .unset] [(.ref b42), (.ref b42)])) _
    refine XS.iconst X44.here hx rfl (hb hby at_104) ?_
    show Steps p.tables e below (T44.setTop (mkF m 105 #[.val (.int p1), .val (.ref b2), .unset, .unset, .unset, .unset] [(.int (2 : Int32)), (.ref b42), (.ref b42)])) _
    refine XS.iconst X44.here hx rfl (hb hby at_105) ?_
    show Steps p.tables e below (T44.setTop (mkF m 106 #[.val (.int p1), .val (.ref b2), .unset, .unset, .unset, .unset] [(.int (0 : Int32)), (.int (2 : Int32)), (.ref b42), (.ref b42)])) _
    refine st45 _ ?_
    show Steps p.tables e below (T45.setTop (mkF m 107 #[.val (.int p1), .val (.ref b2), .unset, .unset, .unset, .unset] [(.ref b42)])) _
    refine XS.dup X45.here hx rfl (hb hby at_107) rfl rfl ?_
    show Steps p.tables e below (T45.setTop (mkF m 108 #[.val (.int p1), .val (.ref b2), .unset, .unset, .unset, .unset] [(.ref b42), (.ref b42)])) _
    refine XS.iconst X45.here hx rfl (hb hby at_108) ?_
    show Steps p.tables e below (T45.setTop (mkF m 109 #[.val (.int p1), .val (.ref b2), .unset, .unset, .unset, .unset] [(.int (3 : Int32)), (.ref b42), (.ref b42)])) _
    refine XS.iconst X45.here hx rfl (hb hby at_109) ?_
    show Steps p.tables e below (T45.setTop (mkF m 110 #[.val (.int p1), .val (.ref b2), .unset, .unset, .unset, .unset] [(.int (0 : Int32)), (.int (3 : Int32)), (.ref b42), (.ref b42)])) _
    refine st46 _ ?_
    show Steps p.tables e below (T46.setTop (mkF m 111 #[.val (.int p1), .val (.ref b2), .unset, .unset, .unset, .unset] [(.ref b42)])) _
    refine XS.dup X46.here hx rfl (hb hby at_111) rfl rfl ?_
    show Steps p.tables e below (T46.setTop (mkF m 112 #[.val (.int p1), .val (.ref b2), .unset, .unset, .unset, .unset] [(.ref b42), (.ref b42)])) _
    refine XS.iconst X46.here hx rfl (hb hby at_112) ?_
    show Steps p.tables e below (T46.setTop (mkF m 113 #[.val (.int p1), .val (.ref b2), .unset, .unset, .unset, .unset] [(.int (4 : Int32)), (.ref b42), (.ref b42)])) _
    refine XS.iconst X46.here hx rfl (hb hby at_113) ?_
    show Steps p.tables e below (T46.setTop (mkF m 114 #[.val (.int p1), .val (.ref b2), .unset, .unset, .unset, .unset] [(.int (0 : Int32)), (.int (4 : Int32)), (.ref b42), (.ref b42)])) _
    refine st47 _ ?_
    show Steps p.tables e below (T47.setTop (mkF m 115 #[.val (.int p1), .val (.ref b2), .unset, .unset, .unset, .unset] [(.ref b42)])) _
    refine XS.dup X47.here hx rfl (hb hby at_115) rfl rfl ?_
    show Steps p.tables e below (T47.setTop (mkF m 116 #[.val (.int p1), .val (.ref b2), .unset, .unset, .unset, .unset] [(.ref b42), (.ref b42)])) _
    refine XS.iconst X47.here hx rfl (hb hby at_116) ?_
    show Steps p.tables e below (T47.setTop (mkF m 117 #[.val (.int p1), .val (.ref b2), .unset, .unset, .unset, .unset] [(.int (5 : Int32)), (.ref b42), (.ref b42)])) _
    refine XS.iconst X47.here hx rfl (hb hby at_117) ?_
    show Steps p.tables e below (T47.setTop (mkF m 118 #[.val (.int p1), .val (.ref b2), .unset, .unset, .unset, .unset] [(.int (1 : Int32)), (.int (5 : Int32)), (.ref b42), (.ref b42)])) _
    refine st48 _ ?_
    show Steps p.tables e below (T48.setTop (mkF m 119 #[.val (.int p1), .val (.ref b2), .unset, .unset, .unset, .unset] [(.ref b42)])) _
    refine XS.dup X48.here hx rfl (hb hby at_119) rfl rfl ?_
    show Steps p.tables e below (T48.setTop (mkF m 120 #[.val (.int p1), .val (.ref b2), .unset, .unset, .unset, .unset] [(.ref b42), (.ref b42)])) _
    refine XS.bipush X48.here hx rfl (hb hby at_120) ?_
    show Steps p.tables e below (T48.setTop (mkF m 122 #[.val (.int p1), .val (.ref b2), .unset, .unset, .unset, .unset] [(.int (6 : Int32)), (.ref b42), (.ref b42)])) _
    refine XS.iconst X48.here hx rfl (hb hby at_122) ?_
    show Steps p.tables e below (T48.setTop (mkF m 123 #[.val (.int p1), .val (.ref b2), .unset, .unset, .unset, .unset] [(.int (1 : Int32)), (.int (6 : Int32)), (.ref b42), (.ref b42)])) _
    refine st49 _ ?_
    show Steps p.tables e below (T49.setTop (mkF m 124 #[.val (.int p1), .val (.ref b2), .unset, .unset, .unset, .unset] [(.ref b42)])) _
    refine XS.dup X49.here hx rfl (hb hby at_124) rfl rfl ?_
    show Steps p.tables e below (T49.setTop (mkF m 125 #[.val (.int p1), .val (.ref b2), .unset, .unset, .unset, .unset] [(.ref b42), (.ref b42)])) _
    refine XS.bipush X49.here hx rfl (hb hby at_125) ?_
    show Steps p.tables e below (T49.setTop (mkF m 127 #[.val (.int p1), .val (.ref b2), .unset, .unset, .unset, .unset] [(.int (7 : Int32)), (.ref b42), (.ref b42)])) _
    refine XS.iconst X49.here hx rfl (hb hby at_127) ?_
    show Steps p.tables e below (T49.setTop (mkF m 128 #[.val (.int p1), .val (.ref b2), .unset, .unset, .unset, .unset] [(.int (0 : Int32)), (.int (7 : Int32)), (.ref b42), (.ref b42)])) _
    refine st50 _ ?_
    show Steps p.tables e below (T50.setTop (mkF m 129 #[.val (.int p1), .val (.ref b2), .unset, .unset, .unset, .unset] [(.ref b42)])) _
    refine XS.dup X50.here hx rfl (hb hby at_129) rfl rfl ?_
    show Steps p.tables e below (T50.setTop (mkF m 130 #[.val (.int p1), .val (.ref b2), .unset, .unset, .unset, .unset] [(.ref b42), (.ref b42)])) _
    refine XS.bipush X50.here hx rfl (hb hby at_130) ?_
    show Steps p.tables e below (T50.setTop (mkF m 132 #[.val (.int p1), .val (.ref b2), .unset, .unset, .unset, .unset] [(.int (8 : Int32)), (.ref b42), (.ref b42)])) _
    refine XS.iconst X50.here hx rfl (hb hby at_132) ?_
    show Steps p.tables e below (T50.setTop (mkF m 133 #[.val (.int p1), .val (.ref b2), .unset, .unset, .unset, .unset] [(.int (0 : Int32)), (.int (8 : Int32)), (.ref b42), (.ref b42)])) _
    refine st51 _ ?_
    show Steps p.tables e below (T51.setTop (mkF m 134 #[.val (.int p1), .val (.ref b2), .unset, .unset, .unset, .unset] [(.ref b42)])) _
    refine XS.dup X51.here hx rfl (hb hby at_134) rfl rfl ?_
    show Steps p.tables e below (T51.setTop (mkF m 135 #[.val (.int p1), .val (.ref b2), .unset, .unset, .unset, .unset] [(.ref b42), (.ref b42)])) _
    refine XS.bipush X51.here hx rfl (hb hby at_135) ?_
    show Steps p.tables e below (T51.setTop (mkF m 137 #[.val (.int p1), .val (.ref b2), .unset, .unset, .unset, .unset] [(.int (9 : Int32)), (.ref b42), (.ref b42)])) _
    refine XS.iconst X51.here hx rfl (hb hby at_137) ?_
    show Steps p.tables e below (T51.setTop (mkF m 138 #[.val (.int p1), .val (.ref b2), .unset, .unset, .unset, .unset] [(.int (0 : Int32)), (.int (9 : Int32)), (.ref b42), (.ref b42)])) _
    refine st52 _ ?_
    show Steps p.tables e below (T52.setTop (mkF m 139 #[.val (.int p1), .val (.ref b2), .unset, .unset, .unset, .unset] [(.ref b42)])) _
    refine XS.dup X52.here hx rfl (hb hby at_139) rfl rfl ?_
    show Steps p.tables e below (T52.setTop (mkF m 140 #[.val (.int p1), .val (.ref b2), .unset, .unset, .unset, .unset] [(.ref b42), (.ref b42)])) _
    refine XS.bipush X52.here hx rfl (hb hby at_140) ?_
    show Steps p.tables e below (T52.setTop (mkF m 142 #[.val (.int p1), .val (.ref b2), .unset, .unset, .unset, .unset] [(.int (10 : Int32)), (.ref b42), (.ref b42)])) _
    refine XS.iconst X52.here hx rfl (hb hby at_142) ?_
    show Steps p.tables e below (T52.setTop (mkF m 143 #[.val (.int p1), .val (.ref b2), .unset, .unset, .unset, .unset] [(.int (0 : Int32)), (.int (10 : Int32)), (.ref b42), (.ref b42)])) _
    refine st53 _ ?_
    show Steps p.tables e below (T53.setTop (mkF m 144 #[.val (.int p1), .val (.ref b2), .unset, .unset, .unset, .unset] [(.ref b42)])) _
    refine XS.dup X53.here hx rfl (hb hby at_144) rfl rfl ?_
    show Steps p.tables e below (T53.setTop (mkF m 145 #[.val (.int p1), .val (.ref b2), .unset, .unset, .unset, .unset] [(.ref b42), (.ref b42)])) _
    refine XS.bipush X53.here hx rfl (hb hby at_145) ?_
    show Steps p.tables e below (T53.setTop (mkF m 147 #[.val (.int p1), .val (.ref b2), .unset, .unset, .unset, .unset] [(.int (11 : Int32)), (.ref b42), (.ref b42)])) _
    refine XS.iconst X53.here hx rfl (hb hby at_147) ?_
    show Steps p.tables e below (T53.setTop (mkF m 148 #[.val (.int p1), .val (.ref b2), .unset, .unset, .unset, .unset] [(.int (0 : Int32)), (.int (11 : Int32)), (.ref b42), (.ref b42)])) _
    refine st54 _ ?_
    show Steps p.tables e below (T54.setTop (mkF m 149 #[.val (.int p1), .val (.ref b2), .unset, .unset, .unset, .unset] [(.ref b42)])) _
    refine XS.dup X54.here hx rfl (hb hby at_149) rfl rfl ?_
    show Steps p.tables e below (T54.setTop (mkF m 150 #[.val (.int p1), .val (.ref b2), .unset, .unset, .unset, .unset] [(.ref b42), (.ref b42)])) _
    refine XS.bipush X54.here hx rfl (hb hby at_150) ?_
    show Steps p.tables e below (T54.setTop (mkF m 152 #[.val (.int p1), .val (.ref b2), .unset, .unset, .unset, .unset] [(.int (12 : Int32)), (.ref b42), (.ref b42)])) _
    refine XS.iconst X54.here hx rfl (hb hby at_152) ?_
    show Steps p.tables e below (T54.setTop (mkF m 153 #[.val (.int p1), .val (.ref b2), .unset, .unset, .unset, .unset] [(.int (0 : Int32)), (.int (12 : Int32)), (.ref b42), (.ref b42)])) _
    refine st55 _ ?_
    show Steps p.tables e below (T55.setTop (mkF m 154 #[.val (.int p1), .val (.ref b2), .unset, .unset, .unset, .unset] [(.ref b42)])) _
    refine XS.astoreN X55.here hx rfl (hb hby at_154) rfl rfl (l' := #[.val (.int p1), .val (.ref b2), .val (.ref b42), .unset, .unset, .unset]) rfl ?_
    show Steps p.tables e below (T55.setTop (mkF m 155 #[.val (.int p1), .val (.ref b2), .val (.ref b42), .unset, .unset, .unset] [])) _
    refine XS.iloadN X55.here hx rfl (hb hby at_155) rfl ?_
    show Steps p.tables e below (T55.setTop (mkF m 156 #[.val (.int p1), .val (.ref b2), .val (.ref b42), .unset, .unset, .unset] [(.int p1)])) _
    refine X55.ldcInt hx hown (mvT hZ (hw _ (List.mem_of_getElem? (i := 31) rfl))) (g := (mkF m 156 #[.val (.int p1), .val (.ref b2), .val (.ref b42), .unset, .unset, .unset] [(.int p1)])) rfl (hb hby at_156) _ ?_
    show Steps p.tables e below (T55.setTop (mkF m 158 #[.val (.int p1), .val (.ref b2), .val (.ref b42), .unset, .unset, .unset] [(.int (2147483647 : Int32)), (.int p1)])) _
    refine XS.iand X55.here hx rfl (hb hby at_158) rfl ?_
    show Steps p.tables e below (T55.setTop (mkF m 159 #[.val (.int p1), .val (.ref b2), .val (.ref b42), .unset, .unset, .unset] [(.int (p1 &&& (2147483647 : Int32)))])) _
    refine XS.bipush X55.here hx rfl (hb hby at_159) ?_
    show Steps p.tables e below (T55.setTop (mkF m 161 #[.val (.int p1), .val (.ref b2), .val (.ref b42), .unset, .unset, .unset] [(.int (13 : Int32)), (.int (p1 &&& (2147483647 : Int32)))])) _
    refine iremM X55 hx rfl (hb hby at_161) rfl (by decide) ?_
    show Steps p.tables e below (T55.setTop (mkF m 162 #[.val (.int p1), .val (.ref b2), .val (.ref b42), .unset, .unset, .unset] [(.int ((p1 &&& (2147483647 : Int32)) % (13 : Int32)))])) _
    refine XS.istoreN X55.here hx rfl (hb hby at_162) rfl (l' := #[.val (.int p1), .val (.ref b2), .val (.ref b42), .val (.int ((p1 &&& (2147483647 : Int32)) % (13 : Int32))), .unset, .unset]) rfl ?_
    show Steps p.tables e below (T55.setTop (mkF m 163 #[.val (.int p1), .val (.ref b2), .val (.ref b42), .val (.int ((p1 &&& (2147483647 : Int32)) % (13 : Int32))), .unset, .unset] [])) _
    refine XS.aloadN X55.here hx rfl (hb hby at_163) rfl rfl ?_
    show Steps p.tables e below (T55.setTop (mkF m 164 #[.val (.int p1), .val (.ref b2), .val (.ref b42), .val (.int ((p1 &&& (2147483647 : Int32)) % (13 : Int32))), .unset, .unset] [(.ref b2)])) _
    refine XS.iloadN X55.here hx rfl (hb hby at_164) rfl ?_
    show Steps p.tables e below (T55.setTop (mkF m 165 #[.val (.int p1), .val (.ref b2), .val (.ref b42), .val (.int ((p1 &&& (2147483647 : Int32)) % (13 : Int32))), .unset, .unset] [(.int ((p1 &&& (2147483647 : Int32)) % (13 : Int32))), (.ref b2)])) _
    refine X55.aaload hx (j := ((p1 &&& (2147483647 : Int32)) % (13 : Int32))) (v := (.ref r)) (by rw [e55]; exact Ar_b2_119.1) (State.isArrayOf_alike hZ.alike Ar_b2_119.2.1) rfl Ar_b2_119.2.2 hin119 hat119 (g := (mkF m 165 #[.val (.int p1), .val (.ref b2), .val (.ref b42), .val (.int ((p1 &&& (2147483647 : Int32)) % (13 : Int32))), .unset, .unset] [(.int ((p1 &&& (2147483647 : Int32)) % (13 : Int32))), (.ref b2)])) rfl rfl (hb hby at_165) _ ?_
    show Steps p.tables e below (T55.setTop (mkF m 166 #[.val (.int p1), .val (.ref b2), .val (.ref b42), .val (.int ((p1 &&& (2147483647 : Int32)) % (13 : Int32))), .unset, .unset] [(.ref r)])) _
    refine XS.astore X55.here hx rfl (hb hby at_166) rfl rfl (l' := #[.val (.int p1), .val (.ref b2), .val (.ref b42), .val (.int ((p1 &&& (2147483647 : Int32)) % (13 : Int32))), .val (.ref r), .unset]) rfl ?_
    show Steps p.tables e below (T55.setTop (mkF m 168 #[.val (.int p1), .val (.ref b2), .val (.ref b42), .val (.int ((p1 &&& (2147483647 : Int32)) % (13 : Int32))), .val (.ref r), .unset] [])) _
    refine XS.aload X55.here hx rfl (hb hby at_168) rfl rfl ?_
    show Steps p.tables e below (T55.setTop (mkF m 170 #[.val (.int p1), .val (.ref b2), .val (.ref b42), .val (.int ((p1 &&& (2147483647 : Int32)) % (13 : Int32))), .val (.ref r), .unset] [(.ref r)])) _
    refine st56.trans ?_
    show Steps p.tables e below (T56.setTop (mkF m 173 #[.val (.int p1), .val (.ref b2), .val (.ref b42), .val (.int ((p1 &&& (2147483647 : Int32)) % (13 : Int32))), .val (.ref r), .unset] [(.int (1 : Int32))])) _
    refine XS.istore X56.here hx rfl (hb hby at_173) rfl (l' := #[.val (.int p1), .val (.ref b2), .val (.ref b42), .val (.int ((p1 &&& (2147483647 : Int32)) % (13 : Int32))), .val (.ref r), .val (.int (1 : Int32))]) rfl ?_
    show Steps p.tables e below (T56.setTop (mkF m 175 #[.val (.int p1), .val (.ref b2), .val (.ref b42), .val (.int ((p1 &&& (2147483647 : Int32)) % (13 : Int32))), .val (.ref r), .val (.int (1 : Int32))] [])) _
    refine XS.iload X56.here hx rfl (hb hby at_175) rfl ?_
    show Steps p.tables e below (T56.setTop (mkF m 177 #[.val (.int p1), .val (.ref b2), .val (.ref b42), .val (.int ((p1 &&& (2147483647 : Int32)) % (13 : Int32))), .val (.ref r), .val (.int (1 : Int32))] [(.int (1 : Int32))])) _
    refine XS.aloadN X56.here hx rfl (hb hby at_177) rfl rfl ?_
    show Steps p.tables e below (T56.setTop (mkF m 178 #[.val (.int p1), .val (.ref b2), .val (.ref b42), .val (.int ((p1 &&& (2147483647 : Int32)) % (13 : Int32))), .val (.ref r), .val (.int (1 : Int32))] [(.ref b42), (.int (1 : Int32))])) _
    refine XS.iloadN X56.here hx rfl (hb hby at_178) rfl ?_
    show Steps p.tables e below (T56.setTop (mkF m 179 #[.val (.int p1), .val (.ref b2), .val (.ref b42), .val (.int ((p1 &&& (2147483647 : Int32)) % (13 : Int32))), .val (.ref r), .val (.int (1 : Int32))] [(.int ((p1 &&& (2147483647 : Int32)) % (13 : Int32))), (.ref b42), (.int (1 : Int32))])) _
    refine X56.baloadBooleans hx (j := ((p1 &&& (2147483647 : Int32)) % (13 : Int32))) (v := (.int (1 : Int32))) (by rw [eh56]; exact Ar_b42_127.1) (State.isArrayOf_alike hZ.alike Ar_b42_127.2.1) Ar_b42_127.2.2 hin127 hat127 (g := (mkF m 179 #[.val (.int p1), .val (.ref b2), .val (.ref b42), .val (.int ((p1 &&& (2147483647 : Int32)) % (13 : Int32))), .val (.ref r), .val (.int (1 : Int32))] [(.int ((p1 &&& (2147483647 : Int32)) % (13 : Int32))), (.ref b42), (.int (1 : Int32))])) rfl rfl (hb hby at_179) _ ?_
    show Steps p.tables e below (T56.setTop (mkF m 180 #[.val (.int p1), .val (.ref b2), .val (.ref b42), .val (.int ((p1 &&& (2147483647 : Int32)) % (13 : Int32))), .val (.ref r), .val (.int (1 : Int32))] [(.int (1 : Int32)), (.int (1 : Int32))])) _
    refine XS.icmpYes X56.here hx rfl (pc0 := 180) (pc' := 185) rfl (hb hby at_180) rfl (teq (rfl : (1 : Int32) = (1 : Int32))).1 (by decide) (by decide) ?_
    show Steps p.tables e below (T56.setTop (mkF m 185 #[.val (.int p1), .val (.ref b2), .val (.ref b42), .val (.int ((p1 &&& (2147483647 : Int32)) % (13 : Int32))), .val (.ref r), .val (.int (1 : Int32))] [])) _
    refine XS.iload X56.here hx rfl (hb hby at_185) rfl ?_
    show Steps p.tables e below (T56.setTop (mkF m 187 #[.val (.int p1), .val (.ref b2), .val (.ref b42), .val (.int ((p1 &&& (2147483647 : Int32)) % (13 : Int32))), .val (.ref r), .val (.int (1 : Int32))] [(.int (1 : Int32))])) _
    refine XS.ifNo X56.here hx rfl (hb hby at_187) rfl ((if0 _ _).trans (feq (by decide : ¬ ((1 : Int32) = (0 : Int32)))).1) ?_
    show Steps p.tables e below (T56.setTop (mkF m 190 #[.val (.int p1), .val (.ref b2), .val (.ref b42), .val (.int ((p1 &&& (2147483647 : Int32)) % (13 : Int32))), .val (.ref r), .val (.int (1 : Int32))] [])) _
    refine XS.aload X56.here hx rfl (hb hby at_190) rfl rfl ?_
    show Steps p.tables e below (T56.setTop (mkF m 192 #[.val (.int p1), .val (.ref b2), .val (.ref b42), .val (.int ((p1 &&& (2147483647 : Int32)) % (13 : Int32))), .val (.ref r), .val (.int (1 : Int32))] [(.ref r)])) _
    refine st57.trans ?_
    show Steps p.tables e below (T57.setTop (mkF m 195 #[.val (.int p1), .val (.ref b2), .val (.ref b42), .val (.int ((p1 &&& (2147483647 : Int32)) % (13 : Int32))), .val (.ref r), .val (.int (1 : Int32))] [(.int (1 : Int32))])) _
    refine XS.ifNo X57.here hx rfl (hb hby at_195) rfl ((if0 _ _).trans (feq (by decide : ¬ ((1 : Int32) = (0 : Int32)))).1) ?_
    show Steps p.tables e below (T57.setTop (mkF m 198 #[.val (.int p1), .val (.ref b2), .val (.ref b42), .val (.int ((p1 &&& (2147483647 : Int32)) % (13 : Int32))), .val (.ref r), .val (.int (1 : Int32))] [])) _
    refine XS.aload X57.here hx rfl (hb hby at_198) rfl rfl ?_
    show Steps p.tables e below (T57.setTop (mkF m 200 #[.val (.int p1), .val (.ref b2), .val (.ref b42), .val (.int ((p1 &&& (2147483647 : Int32)) % (13 : Int32))), .val (.ref r), .val (.int (1 : Int32))] [(.ref r)])) _
    refine st58.trans ?_
    show Steps p.tables e below (T58.setTop (mkF m 203 #[.val (.int p1), .val (.ref b2), .val (.ref b42), .val (.int ((p1 &&& (2147483647 : Int32)) % (13 : Int32))), .val (.ref r), .val (.int (1 : Int32))] [(.int (0 : Int32))])) _
    refine XS.ifNo X58.here hx rfl (hb hby at_203) rfl ((if0 _ _).trans (teq (rfl : (0 : Int32) = (0 : Int32))).2) ?_
    show Steps p.tables e below (T58.setTop (mkF m 206 #[.val (.int p1), .val (.ref b2), .val (.ref b42), .val (.int ((p1 &&& (2147483647 : Int32)) % (13 : Int32))), .val (.ref r), .val (.int (1 : Int32))] [])) _
    refine XS.aload X58.here hx rfl (hb hby at_206) rfl rfl ?_
    show Steps p.tables e below (T58.setTop (mkF m 208 #[.val (.int p1), .val (.ref b2), .val (.ref b42), .val (.int ((p1 &&& (2147483647 : Int32)) % (13 : Int32))), .val (.ref r), .val (.int (1 : Int32))] [(.ref r)])) _
    refine st59.trans ?_
    show Steps p.tables e below (T59.setTop (mkF m 211 #[.val (.int p1), .val (.ref b2), .val (.ref b42), .val (.int ((p1 &&& (2147483647 : Int32)) % (13 : Int32))), .val (.ref r), .val (.int (1 : Int32))] [(.int (0 : Int32))])) _
    refine XS.ifYes X59.here hx rfl (pc0 := 211) (pc' := 216) rfl (hb hby at_211) rfl ((if0 _ _).trans (teq (rfl : (0 : Int32) = (0 : Int32))).1) (by decide) (by decide) ?_
    show Steps p.tables e below (T59.setTop (mkF m 216 #[.val (.int p1), .val (.ref b2), .val (.ref b42), .val (.int ((p1 &&& (2147483647 : Int32)) % (13 : Int32))), .val (.ref r), .val (.int (1 : Int32))] [])) _
    refine XS.iconst X59.here hx rfl (hb hby at_216) ?_
    show Steps p.tables e below (T59.setTop (mkF m 217 #[.val (.int p1), .val (.ref b2), .val (.ref b42), .val (.int ((p1 &&& (2147483647 : Int32)) % (13 : Int32))), .val (.ref r), .val (.int (1 : Int32))] [(.int (1 : Int32))])) _
    exact retN X59 hx (t := .boolean) Bd.returns (by simp) (hb hby at_217) hr
  · show own_Q0 h0 n0 _ T59.heap _
    rw [eh59]
    exact ⟨rfl, N59⟩
theorem own_mod13 (p : Int32) : ∃ i : Nat, i < 13 ∧ ((p &&& (2147483647 : Int32)) % (13 : Int32)) = Int32.ofInt (i : Int) := by
  have h0 := (c_and p 2147483647 (by decide)).1
  have h1 := (c_irem (p &&& 2147483647) 13 13 (by decide)).1 h0
  refine ⟨((p &&& 2147483647).toInt % 13).toNat, by omega, ?_⟩
  rw [← Int32.toInt_inj, h1]
  have e : (((p &&& 2147483647).toInt % 13).toNat : Int) = (p &&& 2147483647).toInt % 13 := by omega
  rw [e, Int32.toInt_ofInt]
  have : (p &&& 2147483647).toInt % 13 < 13 := by omega
  have : 0 ≤ (p &&& 2147483647).toInt % 13 := by omega
  generalize (p &&& 2147483647).toInt % 13 = z at *
  have hz : z = 0 ∨ z = 1 ∨ z = 2 ∨ z = 3 ∨ z = 4 ∨ z = 5 ∨ z = 6 ∨ z = 7 ∨ z = 8 ∨ z = 9 ∨ z = 10 ∨ z = 11 ∨ z = 12 := by omega
  rcases hz with rfl | rfl | rfl | rfl | rfl | rfl | rfl | rfl | rfl | rfl | rfl | rfl | rfl <;> decide
theorem own_cases13 (p : Int32) : ((p &&& (2147483647 : Int32)) % (13 : Int32)) = 0 ∨ ((p &&& (2147483647 : Int32)) % (13 : Int32)) = 1 ∨ ((p &&& (2147483647 : Int32)) % (13 : Int32)) = 2 ∨ ((p &&& (2147483647 : Int32)) % (13 : Int32)) = 3 ∨ ((p &&& (2147483647 : Int32)) % (13 : Int32)) = 4 ∨ ((p &&& (2147483647 : Int32)) % (13 : Int32)) = 5 ∨ ((p &&& (2147483647 : Int32)) % (13 : Int32)) = 6 ∨ ((p &&& (2147483647 : Int32)) % (13 : Int32)) = 7 ∨ ((p &&& (2147483647 : Int32)) % (13 : Int32)) = 8 ∨ ((p &&& (2147483647 : Int32)) % (13 : Int32)) = 9 ∨ ((p &&& (2147483647 : Int32)) % (13 : Int32)) = 10 ∨ ((p &&& (2147483647 : Int32)) % (13 : Int32)) = 11 ∨ ((p &&& (2147483647 : Int32)) % (13 : Int32)) = 12 := by
  obtain ⟨i, hi, h⟩ := own_mod13 p
  rw [h]
  clear h
  have hz : i = 0 ∨ i = 1 ∨ i = 2 ∨ i = 3 ∨ i = 4 ∨ i = 5 ∨ i = 6 ∨ i = 7 ∨ i = 8 ∨ i = 9 ∨ i = 10 ∨ i = 11 ∨ i = 12 := by omega
  clear hi
  rcases hz with rfl | rfl | rfl | rfl | rfl | rfl | rfl | rfl | rfl | rfl | rfl | rfl | rfl <;> decide
theorem rm0_all (l : Launch) (Z : State) (a0 : Array Value) (hw : ∀ d ∈ tables_1, d.before a0 Z = true) (ws : List Jvm.Cond) (p1 : Int32) (w_ENTITIES w_ENTITY_SET w_ITERATOR w_STREAM w_STREAMABLE w_ENTITY w_OPTIONAL w_SLICE w_PAGE w_NUMBER w_INT_NUMBER w_PRESENCE w_NOTHING : Addr) (h0 : Heap) (n0 : Nat) (Z0 : n0 ≤ h0.size) (S_ENTITIES : Sta Z h0 "com/example/earnest_repository/earnestrepository/core/Result" "ENTITIES" "Lcom/example/earnest_repository/earnestrepository/core/Result;" (.ref w_ENTITIES)) (E_ENTITIES : Exa Z h0 w_ENTITIES "com/example/earnest_repository/earnestrepository/core/Result") (S_ENTITY_SET : Sta Z h0 "com/example/earnest_repository/earnestrepository/core/Result" "ENTITY_SET" "Lcom/example/earnest_repository/earnestrepository/core/Result;" (.ref w_ENTITY_SET)) (E_ENTITY_SET : Exa Z h0 w_ENTITY_SET "com/example/earnest_repository/earnestrepository/core/Result") (S_ITERATOR : Sta Z h0 "com/example/earnest_repository/earnestrepository/core/Result" "ITERATOR" "Lcom/example/earnest_repository/earnestrepository/core/Result;" (.ref w_ITERATOR)) (E_ITERATOR : Exa Z h0 w_ITERATOR "com/example/earnest_repository/earnestrepository/core/Result") (S_STREAM : Sta Z h0 "com/example/earnest_repository/earnestrepository/core/Result" "STREAM" "Lcom/example/earnest_repository/earnestrepository/core/Result;" (.ref w_STREAM)) (E_STREAM : Exa Z h0 w_STREAM "com/example/earnest_repository/earnestrepository/core/Result") (S_STREAMABLE : Sta Z h0 "com/example/earnest_repository/earnestrepository/core/Result" "STREAMABLE" "Lcom/example/earnest_repository/earnestrepository/core/Result;" (.ref w_STREAMABLE)) (E_STREAMABLE : Exa Z h0 w_STREAMABLE "com/example/earnest_repository/earnestrepository/core/Result") (S_ENTITY : Sta Z h0 "com/example/earnest_repository/earnestrepository/core/Result" "ENTITY" "Lcom/example/earnest_repository/earnestrepository/core/Result;" (.ref w_ENTITY)) (E_ENTITY : Exa Z h0 w_ENTITY "com/example/earnest_repository/earnestrepository/core/Result") (S_OPTIONAL : Sta Z h0 "com/example/earnest_repository/earnestrepository/core/Result" "OPTIONAL" "Lcom/example/earnest_repository/earnestrepository/core/Result;" (.ref w_OPTIONAL)) (E_OPTIONAL : Exa Z h0 w_OPTIONAL "com/example/earnest_repository/earnestrepository/core/Result") (S_SLICE : Sta Z h0 "com/example/earnest_repository/earnestrepository/core/Result" "SLICE" "Lcom/example/earnest_repository/earnestrepository/core/Result;" (.ref w_SLICE)) (E_SLICE : Exa Z h0 w_SLICE "com/example/earnest_repository/earnestrepository/core/Result") (S_PAGE : Sta Z h0 "com/example/earnest_repository/earnestrepository/core/Result" "PAGE" "Lcom/example/earnest_repository/earnestrepository/core/Result;" (.ref w_PAGE)) (E_PAGE : Exa Z h0 w_PAGE "com/example/earnest_repository/earnestrepository/core/Result") (S_NUMBER : Sta Z h0 "com/example/earnest_repository/earnestrepository/core/Result" "NUMBER" "Lcom/example/earnest_repository/earnestrepository/core/Result;" (.ref w_NUMBER)) (E_NUMBER : Exa Z h0 w_NUMBER "com/example/earnest_repository/earnestrepository/core/Result") (S_INT_NUMBER : Sta Z h0 "com/example/earnest_repository/earnestrepository/core/Result" "INT_NUMBER" "Lcom/example/earnest_repository/earnestrepository/core/Result;" (.ref w_INT_NUMBER)) (E_INT_NUMBER : Exa Z h0 w_INT_NUMBER "com/example/earnest_repository/earnestrepository/core/Result") (S_PRESENCE : Sta Z h0 "com/example/earnest_repository/earnestrepository/core/Result" "PRESENCE" "Lcom/example/earnest_repository/earnestrepository/core/Result;" (.ref w_PRESENCE)) (E_PRESENCE : Exa Z h0 w_PRESENCE "com/example/earnest_repository/earnestrepository/core/Result") (S_NOTHING : Sta Z h0 "com/example/earnest_repository/earnestrepository/core/Result" "NOTHING" "Lcom/example/earnest_repository/earnestrepository/core/Result;" (.ref w_NOTHING)) (E_NOTHING : Exa Z h0 w_NOTHING "com/example/earnest_repository/earnestrepository/core/Result") (O_ENTITIES : Fld Z h0 w_ENTITIES "java/lang/Enum" "ordinal" "I" (.int (0 : Int32))) (O_ENTITY_SET : Fld Z h0 w_ENTITY_SET "java/lang/Enum" "ordinal" "I" (.int (1 : Int32))) (O_ITERATOR : Fld Z h0 w_ITERATOR "java/lang/Enum" "ordinal" "I" (.int (2 : Int32))) (O_STREAM : Fld Z h0 w_STREAM "java/lang/Enum" "ordinal" "I" (.int (3 : Int32))) (O_STREAMABLE : Fld Z h0 w_STREAMABLE "java/lang/Enum" "ordinal" "I" (.int (4 : Int32))) (O_ENTITY : Fld Z h0 w_ENTITY "java/lang/Enum" "ordinal" "I" (.int (5 : Int32))) (O_OPTIONAL : Fld Z h0 w_OPTIONAL "java/lang/Enum" "ordinal" "I" (.int (6 : Int32))) (O_SLICE : Fld Z h0 w_SLICE "java/lang/Enum" "ordinal" "I" (.int (7 : Int32))) (O_PAGE : Fld Z h0 w_PAGE "java/lang/Enum" "ordinal" "I" (.int (8 : Int32))) (O_NUMBER : Fld Z h0 w_NUMBER "java/lang/Enum" "ordinal" "I" (.int (9 : Int32))) (O_INT_NUMBER : Fld Z h0 w_INT_NUMBER "java/lang/Enum" "ordinal" "I" (.int (10 : Int32))) (O_PRESENCE : Fld Z h0 w_PRESENCE "java/lang/Enum" "ordinal" "I" (.int (11 : Int32))) (O_NOTHING : Fld Z h0 w_NOTHING "java/lang/Enum" "ordinal" "I" (.int (12 : Int32))) (F_ENTITY : Fld Z h0 w_ENTITY "com/example/earnest_repository/earnestrepository/core/Result" "readsRows" "Z" (.int (1 : Int32))) (F_OPTIONAL : Fld Z h0 w_OPTIONAL "com/example/earnest_repository/earnestrepository/core/Result" "readsRows" "Z" (.int (1 : Int32))) :
    MetFree l x (head1 (Jvm.Cond.code x code maxLocals ret :: ws) room_1) (fun a U => a = #[(.int p1)] ∧ Z.Warmed39 U.vm ∧ U.heap = h0) (fun _ _ _ _ _ => True) (fun _ U o U' => ∃ v L, o = .returned v ∧ own_Q0 h0 n0 v U'.heap L ∧ FrameEnd U o U' L room_1.cells room_1.slots) := by
  rcases own_cases13 p1 with q | q | q | q | q | q | q | q | q | q | q | q | q
  · exact rm0_tt l Z a0 hw ws p1 w_ENTITIES w_ENTITIES w_ENTITY_SET w_ITERATOR w_STREAM w_STREAMABLE w_ENTITY w_OPTIONAL w_SLICE w_PAGE w_NUMBER w_INT_NUMBER w_PRESENCE w_NOTHING h0 n0 Z0 (Or.inr (Or.inr ⟨(own_ne O_ENTITIES O_ENTITY (by decide)), (own_ne O_ENTITIES O_OPTIONAL (by decide)), rfl⟩)) S_ENTITIES E_ENTITIES S_ENTITY_SET E_ENTITY_SET S_ITERATOR E_ITERATOR S_STREAM E_STREAM S_STREAMABLE E_STREAMABLE S_ENTITY E_ENTITY S_OPTIONAL E_OPTIONAL S_SLICE E_SLICE S_PAGE E_PAGE S_NUMBER E_NUMBER S_INT_NUMBER E_INT_NUMBER S_PRESENCE E_PRESENCE S_NOTHING E_NOTHING (by rw [q]; decide) (by rw [q]; rfl) E_ENTITIES (by rw [q]; decide) (by rw [q]; rfl)
  · exact rm0_tt l Z a0 hw ws p1 w_ENTITY_SET w_ENTITIES w_ENTITY_SET w_ITERATOR w_STREAM w_STREAMABLE w_ENTITY w_OPTIONAL w_SLICE w_PAGE w_NUMBER w_INT_NUMBER w_PRESENCE w_NOTHING h0 n0 Z0 (Or.inr (Or.inr ⟨(own_ne O_ENTITY_SET O_ENTITY (by decide)), (own_ne O_ENTITY_SET O_OPTIONAL (by decide)), rfl⟩)) S_ENTITIES E_ENTITIES S_ENTITY_SET E_ENTITY_SET S_ITERATOR E_ITERATOR S_STREAM E_STREAM S_STREAMABLE E_STREAMABLE S_ENTITY E_ENTITY S_OPTIONAL E_OPTIONAL S_SLICE E_SLICE S_PAGE E_PAGE S_NUMBER E_NUMBER S_INT_NUMBER E_INT_NUMBER S_PRESENCE E_PRESENCE S_NOTHING E_NOTHING (by rw [q]; decide) (by rw [q]; rfl) E_ENTITY_SET (by rw [q]; decide) (by rw [q]; rfl)
  · exact rm0_tt l Z a0 hw ws p1 w_ITERATOR w_ENTITIES w_ENTITY_SET w_ITERATOR w_STREAM w_STREAMABLE w_ENTITY w_OPTIONAL w_SLICE w_PAGE w_NUMBER w_INT_NUMBER w_PRESENCE w_NOTHING h0 n0 Z0 (Or.inr (Or.inr ⟨(own_ne O_ITERATOR O_ENTITY (by decide)), (own_ne O_ITERATOR O_OPTIONAL (by decide)), rfl⟩)) S_ENTITIES E_ENTITIES S_ENTITY_SET E_ENTITY_SET S_ITERATOR E_ITERATOR S_STREAM E_STREAM S_STREAMABLE E_STREAMABLE S_ENTITY E_ENTITY S_OPTIONAL E_OPTIONAL S_SLICE E_SLICE S_PAGE E_PAGE S_NUMBER E_NUMBER S_INT_NUMBER E_INT_NUMBER S_PRESENCE E_PRESENCE S_NOTHING E_NOTHING (by rw [q]; decide) (by rw [q]; rfl) E_ITERATOR (by rw [q]; decide) (by rw [q]; rfl)
  · exact rm0_tt l Z a0 hw ws p1 w_STREAM w_ENTITIES w_ENTITY_SET w_ITERATOR w_STREAM w_STREAMABLE w_ENTITY w_OPTIONAL w_SLICE w_PAGE w_NUMBER w_INT_NUMBER w_PRESENCE w_NOTHING h0 n0 Z0 (Or.inr (Or.inr ⟨(own_ne O_STREAM O_ENTITY (by decide)), (own_ne O_STREAM O_OPTIONAL (by decide)), rfl⟩)) S_ENTITIES E_ENTITIES S_ENTITY_SET E_ENTITY_SET S_ITERATOR E_ITERATOR S_STREAM E_STREAM S_STREAMABLE E_STREAMABLE S_ENTITY E_ENTITY S_OPTIONAL E_OPTIONAL S_SLICE E_SLICE S_PAGE E_PAGE S_NUMBER E_NUMBER S_INT_NUMBER E_INT_NUMBER S_PRESENCE E_PRESENCE S_NOTHING E_NOTHING (by rw [q]; decide) (by rw [q]; rfl) E_STREAM (by rw [q]; decide) (by rw [q]; rfl)
  · exact rm0_tt l Z a0 hw ws p1 w_STREAMABLE w_ENTITIES w_ENTITY_SET w_ITERATOR w_STREAM w_STREAMABLE w_ENTITY w_OPTIONAL w_SLICE w_PAGE w_NUMBER w_INT_NUMBER w_PRESENCE w_NOTHING h0 n0 Z0 (Or.inr (Or.inr ⟨(own_ne O_STREAMABLE O_ENTITY (by decide)), (own_ne O_STREAMABLE O_OPTIONAL (by decide)), rfl⟩)) S_ENTITIES E_ENTITIES S_ENTITY_SET E_ENTITY_SET S_ITERATOR E_ITERATOR S_STREAM E_STREAM S_STREAMABLE E_STREAMABLE S_ENTITY E_ENTITY S_OPTIONAL E_OPTIONAL S_SLICE E_SLICE S_PAGE E_PAGE S_NUMBER E_NUMBER S_INT_NUMBER E_INT_NUMBER S_PRESENCE E_PRESENCE S_NOTHING E_NOTHING (by rw [q]; decide) (by rw [q]; rfl) E_STREAMABLE (by rw [q]; decide) (by rw [q]; rfl)
  · exact rm0_tffft l Z a0 hw ws p1 w_ENTITY w_ENTITIES w_ENTITY_SET w_ITERATOR w_STREAM w_STREAMABLE w_ENTITY w_OPTIONAL w_SLICE w_PAGE w_NUMBER w_INT_NUMBER w_PRESENCE w_NOTHING h0 n0 Z0 (Or.inl ⟨rfl, rfl⟩) F_ENTITY (own_ne O_ENTITY O_SLICE (by decide)) (own_ne O_ENTITY O_PAGE (by decide)) (own_ne O_ENTITY O_STREAM (by decide)) S_ENTITIES E_ENTITIES S_ENTITY_SET E_ENTITY_SET S_ITERATOR E_ITERATOR S_STREAM E_STREAM S_STREAMABLE E_STREAMABLE S_ENTITY E_ENTITY S_OPTIONAL E_OPTIONAL S_SLICE E_SLICE S_PAGE E_PAGE S_NUMBER E_NUMBER S_INT_NUMBER E_INT_NUMBER S_PRESENCE E_PRESENCE S_NOTHING E_NOTHING (by rw [q]; decide) (by rw [q]; rfl) E_ENTITY (by rw [q]; decide) (by rw [q]; rfl)
  · exact rm0_tffft l Z a0 hw ws p1 w_OPTIONAL w_ENTITIES w_ENTITY_SET w_ITERATOR w_STREAM w_STREAMABLE w_ENTITY w_OPTIONAL w_SLICE w_PAGE w_NUMBER w_INT_NUMBER w_PRESENCE w_NOTHING h0 n0 Z0 (Or.inr (Or.inl ⟨(own_ne O_OPTIONAL O_ENTITY (by decide)), rfl, rfl⟩)) F_OPTIONAL (own_ne O_OPTIONAL O_SLICE (by decide)) (own_ne O_OPTIONAL O_PAGE (by decide)) (own_ne O_OPTIONAL O_STREAM (by decide)) S_ENTITIES E_ENTITIES S_ENTITY_SET E_ENTITY_SET S_ITERATOR E_ITERATOR S_STREAM E_STREAM S_STREAMABLE E_STREAMABLE S_ENTITY E_ENTITY S_OPTIONAL E_OPTIONAL S_SLICE E_SLICE S_PAGE E_PAGE S_NUMBER E_NUMBER S_INT_NUMBER E_INT_NUMBER S_PRESENCE E_PRESENCE S_NOTHING E_NOTHING (by rw [q]; decide) (by rw [q]; rfl) E_OPTIONAL (by rw [q]; decide) (by rw [q]; rfl)
  · exact rm0_tt l Z a0 hw ws p1 w_SLICE w_ENTITIES w_ENTITY_SET w_ITERATOR w_STREAM w_STREAMABLE w_ENTITY w_OPTIONAL w_SLICE w_PAGE w_NUMBER w_INT_NUMBER w_PRESENCE w_NOTHING h0 n0 Z0 (Or.inr (Or.inr ⟨(own_ne O_SLICE O_ENTITY (by decide)), (own_ne O_SLICE O_OPTIONAL (by decide)), rfl⟩)) S_ENTITIES E_ENTITIES S_ENTITY_SET E_ENTITY_SET S_ITERATOR E_ITERATOR S_STREAM E_STREAM S_STREAMABLE E_STREAMABLE S_ENTITY E_ENTITY S_OPTIONAL E_OPTIONAL S_SLICE E_SLICE S_PAGE E_PAGE S_NUMBER E_NUMBER S_INT_NUMBER E_INT_NUMBER S_PRESENCE E_PRESENCE S_NOTHING E_NOTHING (by rw [q]; decide) (by rw [q]; rfl) E_SLICE (by rw [q]; decide) (by rw [q]; rfl)
  · exact rm0_tt l Z a0 hw ws p1 w_PAGE w_ENTITIES w_ENTITY_SET w_ITERATOR w_STREAM w_STREAMABLE w_ENTITY w_OPTIONAL w_SLICE w_PAGE w_NUMBER w_INT_NUMBER w_PRESENCE w_NOTHING h0 n0 Z0 (Or.inr (Or.inr ⟨(own_ne O_PAGE O_ENTITY (by decide)), (own_ne O_PAGE O_OPTIONAL (by decide)), rfl⟩)) S_ENTITIES E_ENTITIES S_ENTITY_SET E_ENTITY_SET S_ITERATOR E_ITERATOR S_STREAM E_STREAM S_STREAMABLE E_STREAMABLE S_ENTITY E_ENTITY S_OPTIONAL E_OPTIONAL S_SLICE E_SLICE S_PAGE E_PAGE S_NUMBER E_NUMBER S_INT_NUMBER E_INT_NUMBER S_PRESENCE E_PRESENCE S_NOTHING E_NOTHING (by rw [q]; decide) (by rw [q]; rfl) E_PAGE (by rw [q]; decide) (by rw [q]; rfl)
  · exact rm0_tt l Z a0 hw ws p1 w_NUMBER w_ENTITIES w_ENTITY_SET w_ITERATOR w_STREAM w_STREAMABLE w_ENTITY w_OPTIONAL w_SLICE w_PAGE w_NUMBER w_INT_NUMBER w_PRESENCE w_NOTHING h0 n0 Z0 (Or.inr (Or.inr ⟨(own_ne O_NUMBER O_ENTITY (by decide)), (own_ne O_NUMBER O_OPTIONAL (by decide)), rfl⟩)) S_ENTITIES E_ENTITIES S_ENTITY_SET E_ENTITY_SET S_ITERATOR E_ITERATOR S_STREAM E_STREAM S_STREAMABLE E_STREAMABLE S_ENTITY E_ENTITY S_OPTIONAL E_OPTIONAL S_SLICE E_SLICE S_PAGE E_PAGE S_NUMBER E_NUMBER S_INT_NUMBER E_INT_NUMBER S_PRESENCE E_PRESENCE S_NOTHING E_NOTHING (by rw [q]; decide) (by rw [q]; rfl) E_NUMBER (by rw [q]; decide) (by rw [q]; rfl)
  · exact rm0_tt l Z a0 hw ws p1 w_INT_NUMBER w_ENTITIES w_ENTITY_SET w_ITERATOR w_STREAM w_STREAMABLE w_ENTITY w_OPTIONAL w_SLICE w_PAGE w_NUMBER w_INT_NUMBER w_PRESENCE w_NOTHING h0 n0 Z0 (Or.inr (Or.inr ⟨(own_ne O_INT_NUMBER O_ENTITY (by decide)), (own_ne O_INT_NUMBER O_OPTIONAL (by decide)), rfl⟩)) S_ENTITIES E_ENTITIES S_ENTITY_SET E_ENTITY_SET S_ITERATOR E_ITERATOR S_STREAM E_STREAM S_STREAMABLE E_STREAMABLE S_ENTITY E_ENTITY S_OPTIONAL E_OPTIONAL S_SLICE E_SLICE S_PAGE E_PAGE S_NUMBER E_NUMBER S_INT_NUMBER E_INT_NUMBER S_PRESENCE E_PRESENCE S_NOTHING E_NOTHING (by rw [q]; decide) (by rw [q]; rfl) E_INT_NUMBER (by rw [q]; decide) (by rw [q]; rfl)
  · exact rm0_tt l Z a0 hw ws p1 w_PRESENCE w_ENTITIES w_ENTITY_SET w_ITERATOR w_STREAM w_STREAMABLE w_ENTITY w_OPTIONAL w_SLICE w_PAGE w_NUMBER w_INT_NUMBER w_PRESENCE w_NOTHING h0 n0 Z0 (Or.inr (Or.inr ⟨(own_ne O_PRESENCE O_ENTITY (by decide)), (own_ne O_PRESENCE O_OPTIONAL (by decide)), rfl⟩)) S_ENTITIES E_ENTITIES S_ENTITY_SET E_ENTITY_SET S_ITERATOR E_ITERATOR S_STREAM E_STREAM S_STREAMABLE E_STREAMABLE S_ENTITY E_ENTITY S_OPTIONAL E_OPTIONAL S_SLICE E_SLICE S_PAGE E_PAGE S_NUMBER E_NUMBER S_INT_NUMBER E_INT_NUMBER S_PRESENCE E_PRESENCE S_NOTHING E_NOTHING (by rw [q]; decide) (by rw [q]; rfl) E_PRESENCE (by rw [q]; decide) (by rw [q]; rfl)
  · exact rm0_tt l Z a0 hw ws p1 w_NOTHING w_ENTITIES w_ENTITY_SET w_ITERATOR w_STREAM w_STREAMABLE w_ENTITY w_OPTIONAL w_SLICE w_PAGE w_NUMBER w_INT_NUMBER w_PRESENCE w_NOTHING h0 n0 Z0 (Or.inr (Or.inr ⟨(own_ne O_NOTHING O_ENTITY (by decide)), (own_ne O_NOTHING O_OPTIONAL (by decide)), rfl⟩)) S_ENTITIES E_ENTITIES S_ENTITY_SET E_ENTITY_SET S_ITERATOR E_ITERATOR S_STREAM E_STREAM S_STREAMABLE E_STREAMABLE S_ENTITY E_ENTITY S_OPTIONAL E_OPTIONAL S_SLICE E_SLICE S_PAGE E_PAGE S_NUMBER E_NUMBER S_INT_NUMBER E_INT_NUMBER S_PRESENCE E_PRESENCE S_NOTHING E_NOTHING (by rw [q]; decide) (by rw [q]; rfl) E_NOTHING (by rw [q]; decide) (by rw [q]; rfl)
set_option maxRecDepth 65536 in
set_option maxHeartbeats 40000000 in
theorem comes_1 {Post : Tables → Env → Array Value → State → Outcome → State → Prop} (hpost : ∀ tb e args s v u, (limb_1_1.after args s (.returned v) u = true ∧ limb_1_2.after args s (.returned v) u = true ∧ True) → FrameEnd s (.returned v) u (Jvm.fieldLocs frame_1_writes args s ++ Jvm.arrayLocs frame_1_arrays args s ++ Jvm.staticLocs frame_1_statics s) 16 128 → Post tb e args s (.returned v) u) :
    ArmFor flags0 classFile x code maxLocals ret World_1 tables_1 room_1 Calls_1 rest_1 Pre_1 Post := by
  intro l hfl _ _ p e ha hc hk s m args below hf hA hF happ hP
  obtain ⟨hcalls, hrest, hpre⟩ := hP
  obtain ⟨-, -, -, hnamed, -, -, -, hat⟩ := (Spec.applies_iff hf).mp happ
  obtain ⟨hg, hn⟩ := and_e (Cond.before_iff.mp (show (Jvm.Cond.and given_1 narrow_1).before args s = true from hpre))
  obtain ⟨g60, g61⟩ := and_e hg
  obtain ⟨w0, rfl⟩ : ∃ w0 : Value, args = #[w0] := by
    have hs : args.size = 1 := by simpa [Cond.value, given_1] using g60
    obtain ⟨L⟩ := args
    match L, hs with
    | [w0], _ => exact ⟨w0, rfl⟩
  have hw := fun d (hd : d ∈ tables_1) => atoms_spec (ws := Jvm.Cond.code x code maxLocals ret :: tables_1) hat d (List.mem_cons_of_mem _ hd)
  have hfit : Fit s := fun {y c} hc i hi => by
    obtain ⟨ha, rfl⟩ := Array.getElem?_eq_some_iff.mp hc
    have q := List.all_eq_true.mp ((Array.all_eq_true_iff_forall_mem.mp hF) _ (Array.getElem_mem ha)) i (List.mem_range.mpr hi)
    simpa [Array.getElem?_eq_getElem hi] using q
  obtain ⟨i0, ei0⟩ := is_v g61
  obtain rfl : w0 = (.int i0) := Option.some.inj ei0
  obtain ⟨c0, hn⟩ := and_e hn
  obtain ⟨c1, hn⟩ := and_e hn
  obtain ⟨c2, hn⟩ := and_e hn
  obtain ⟨c3, hn⟩ := and_e hn
  obtain ⟨c4, hn⟩ := and_e hn
  obtain ⟨c5, hn⟩ := and_e hn
  obtain ⟨c6, hn⟩ := and_e hn
  obtain ⟨c7, hn⟩ := and_e hn
  obtain ⟨c8, hn⟩ := and_e hn
  obtain ⟨c9, hn⟩ := and_e hn
  obtain ⟨c10, hn⟩ := and_e hn
  obtain ⟨c11, hn⟩ := and_e hn
  obtain ⟨c12, hn⟩ := and_e hn
  obtain ⟨c13, hn⟩ := and_e hn
  obtain ⟨c14, hn⟩ := and_e hn
  obtain ⟨c15, hn⟩ := and_e hn
  obtain ⟨c16, hn⟩ := and_e hn
  obtain ⟨c17, hn⟩ := and_e hn
  obtain ⟨c18, hn⟩ := and_e hn
  obtain ⟨c19, hn⟩ := and_e hn
  obtain ⟨c20, hn⟩ := and_e hn
  obtain ⟨c21, hn⟩ := and_e hn
  obtain ⟨c22, hn⟩ := and_e hn
  obtain ⟨c23, hn⟩ := and_e hn
  obtain ⟨c24, hn⟩ := and_e hn
  obtain ⟨c25, hn⟩ := and_e hn
  obtain ⟨c26, hn⟩ := and_e hn
  obtain ⟨c27, hn⟩ := and_e hn
  obtain ⟨c28, hn⟩ := and_e hn
  obtain ⟨c29, hn⟩ := and_e hn
  obtain ⟨c30, hn⟩ := and_e hn
  obtain ⟨c31, hn⟩ := and_e hn
  obtain ⟨c32, hn⟩ := and_e hn
  obtain ⟨c33, hn⟩ := and_e hn
  obtain ⟨c34, hn⟩ := and_e hn
  obtain ⟨c35, hn⟩ := and_e hn
  obtain ⟨c36, hn⟩ := and_e hn
  obtain ⟨c37, hn⟩ := and_e hn
  have c38 := hn
  obtain ⟨w_ENTITIES, ev_ENTITIES, S_ENTITIES, E_ENTITIES⟩ := own_start c0 (hw _ (List.mem_of_getElem? (i := 3) rfl)) (hw _ (List.mem_of_getElem? (i := 4) rfl))
  obtain ⟨w_ENTITY_SET, ev_ENTITY_SET, S_ENTITY_SET, E_ENTITY_SET⟩ := own_start c1 (hw _ (List.mem_of_getElem? (i := 3) rfl)) (hw _ (List.mem_of_getElem? (i := 7) rfl))
  obtain ⟨w_ITERATOR, ev_ITERATOR, S_ITERATOR, E_ITERATOR⟩ := own_start c2 (hw _ (List.mem_of_getElem? (i := 3) rfl)) (hw _ (List.mem_of_getElem? (i := 9) rfl))
  obtain ⟨w_STREAM, ev_STREAM, S_STREAM, E_STREAM⟩ := own_start c3 (hw _ (List.mem_of_getElem? (i := 3) rfl)) (hw _ (List.mem_of_getElem? (i := 11) rfl))
  obtain ⟨w_STREAMABLE, ev_STREAMABLE, S_STREAMABLE, E_STREAMABLE⟩ := own_start c4 (hw _ (List.mem_of_getElem? (i := 3) rfl)) (hw _ (List.mem_of_getElem? (i := 13) rfl))
  obtain ⟨w_ENTITY, ev_ENTITY, S_ENTITY, E_ENTITY⟩ := own_start c5 (hw _ (List.mem_of_getElem? (i := 3) rfl)) (hw _ (List.mem_of_getElem? (i := 15) rfl))
  obtain ⟨w_OPTIONAL, ev_OPTIONAL, S_OPTIONAL, E_OPTIONAL⟩ := own_start c6 (hw _ (List.mem_of_getElem? (i := 3) rfl)) (hw _ (List.mem_of_getElem? (i := 17) rfl))
  obtain ⟨w_SLICE, ev_SLICE, S_SLICE, E_SLICE⟩ := own_start c7 (hw _ (List.mem_of_getElem? (i := 3) rfl)) (hw _ (List.mem_of_getElem? (i := 19) rfl))
  obtain ⟨w_PAGE, ev_PAGE, S_PAGE, E_PAGE⟩ := own_start c8 (hw _ (List.mem_of_getElem? (i := 3) rfl)) (hw _ (List.mem_of_getElem? (i := 21) rfl))
  obtain ⟨w_NUMBER, ev_NUMBER, S_NUMBER, E_NUMBER⟩ := own_start c9 (hw _ (List.mem_of_getElem? (i := 3) rfl)) (hw _ (List.mem_of_getElem? (i := 23) rfl))
  obtain ⟨w_INT_NUMBER, ev_INT_NUMBER, S_INT_NUMBER, E_INT_NUMBER⟩ := own_start c10 (hw _ (List.mem_of_getElem? (i := 3) rfl)) (hw _ (List.mem_of_getElem? (i := 25) rfl))
  obtain ⟨w_PRESENCE, ev_PRESENCE, S_PRESENCE, E_PRESENCE⟩ := own_start c11 (hw _ (List.mem_of_getElem? (i := 3) rfl)) (hw _ (List.mem_of_getElem? (i := 27) rfl))
  obtain ⟨w_NOTHING, ev_NOTHING, S_NOTHING, E_NOTHING⟩ := own_start c12 (hw _ (List.mem_of_getElem? (i := 3) rfl)) (hw _ (List.mem_of_getElem? (i := 29) rfl))
  have F_ENTITIES_ordinal := own_fld ev_ENTITIES c13
  have F_ENTITY_ordinal := own_fld ev_ENTITY c14
  have F_OPTIONAL_ordinal := own_fld ev_OPTIONAL c15
  have F_STREAM_ordinal := own_fld ev_STREAM c16
  have F_OPTIONAL_readsRows := own_fld ev_OPTIONAL c17
  have F_SLICE_ordinal := own_fld ev_SLICE c18
  have F_PAGE_ordinal := own_fld ev_PAGE c19
  have F_ENTITY_readsRows := own_fld ev_ENTITY c20
  have F_NUMBER_ordinal := own_fld ev_NUMBER c21
  have F_ITERATOR_ordinal := own_fld ev_ITERATOR c22
  have F_PRESENCE_ordinal := own_fld ev_PRESENCE c23
  have F_ENTITY_SET_ordinal := own_fld ev_ENTITY_SET c24
  have F_INT_NUMBER_ordinal := own_fld ev_INT_NUMBER c25
  have F_NOTHING_ordinal := own_fld ev_NOTHING c26
  have F_STREAMABLE_ordinal := own_fld ev_STREAMABLE c27
  have F_ENTITIES_readsRows := own_fld ev_ENTITIES c28
  have F_ENTITY_SET_readsRows := own_fld ev_ENTITY_SET c29
  have F_ITERATOR_readsRows := own_fld ev_ITERATOR c30
  have F_STREAM_readsRows := own_fld ev_STREAM c31
  have F_STREAMABLE_readsRows := own_fld ev_STREAMABLE c32
  have F_SLICE_readsRows := own_fld ev_SLICE c33
  have F_PAGE_readsRows := own_fld ev_PAGE c34
  have F_NUMBER_readsRows := own_fld ev_NUMBER c35
  have F_INT_NUMBER_readsRows := own_fld ev_INT_NUMBER c36
  have F_PRESENCE_readsRows := own_fld ev_PRESENCE c37
  have F_NOTHING_readsRows := own_fld ev_NOTHING c38
  obtain ⟨n, o, h1, h2, h3, _, L, rfl, ⟨rfl, N⟩, hq⟩ := rm0_all l s _ hw tables_1 i0 w_ENTITIES w_ENTITY_SET w_ITERATOR w_STREAM w_STREAMABLE w_ENTITY w_OPTIONAL w_SLICE w_PAGE w_NUMBER w_INT_NUMBER w_PRESENCE w_NOTHING s.heap s.heap.size (Nat.le_refl _) S_ENTITIES E_ENTITIES S_ENTITY_SET E_ENTITY_SET S_ITERATOR E_ITERATOR S_STREAM E_STREAM S_STREAMABLE E_STREAMABLE S_ENTITY E_ENTITY S_OPTIONAL E_OPTIONAL S_SLICE E_SLICE S_PAGE E_PAGE S_NUMBER E_NUMBER S_INT_NUMBER E_INT_NUMBER S_PRESENCE E_PRESENCE S_NOTHING E_NOTHING F_ENTITIES_ordinal F_ENTITY_SET_ordinal F_ITERATOR_ordinal F_STREAM_ordinal F_STREAMABLE_ordinal F_ENTITY_ordinal F_OPTIONAL_ordinal F_SLICE_ordinal F_PAGE_ordinal F_NUMBER_ordinal F_INT_NUMBER_ordinal F_PRESENCE_ordinal F_NOTHING_ordinal F_ENTITY_readsRows F_OPTIONAL_readsRows p e ha hc hk s m _ below hf ((Spec.applies_iff_loose hf).mp happ).1 ⟨rfl, State.Warmed39.refl s, rfl⟩ trivial
  refine ⟨n, _, h1, h2, h3, hpost _ _ _ _ _ _ ⟨Cond.after_iff.mpr rfl, Cond.after_iff.mpr (eq_i res_at (Term.int_eval (1)) rfl), trivial⟩ ⟨hq.1, hq.2.1, (hq.2.2.sift fun y hy => Or.inr (N y hy)).mono (by decide) (by decide)⟩⟩
theorem main_1_1 : Claimed_1_1 := comes_1 fun _ _ _ _ _ _ h hF => ⟨h.1, hF⟩
theorem main_1_2 : Claimed_1_2 := comes_1 fun _ _ _ _ _ _ h hF => ⟨h.2.1, hF⟩
end Jvm.Pilot.@@N@@
namespace Jvm.Pilot.@@N@@
open Jvm Jvm.ClassFile Sem Op Lib Jvm.Free Jvm.Stand Jvm.Pilot.@@N@@.Jvm.D
/-! MADE BY PROGRAM (witnessworld.py) out of the Statement's table words and the real class files: 15 classes; the members and pool entries that the words name. The judged class is class 1, her method 1. -/
namespace start1
open Jvm.ClassFile
def u (s : String) : CpInfo := .utf8 (stringToUtf16 s)
/-- a pool by its gaps: so many unusable entries, then the entry; so many at the end -/
def gap : Nat → List CpInfo → List CpInfo
  | 0, r => r
  | n + 1, r => .unusable :: gap n r
def poolList (es : List (Nat × CpInfo)) (last : Nat) : List CpInfo := es.foldr (fun e r => gap e.1 (e.2 :: r)) (gap last [])
def pool (es : List (Nat × CpInfo)) (last : Nat) : Array CpInfo := ⟨poolList es last⟩
def fileOf (pool : Array CpInfo) (this : Nat) (attrs : Array Attribute := #[]) (ms : Array MethodInfo := #[]) (fl : Nat := 33) (sup : Nat := 0) (ifs : Array Nat := #[]) (fds : Array FieldInfo := #[]) : ClassFile where
  minorVersion := 0
  majorVersion := 65
  constantPool := pool
  accessFlags := fl
  thisClass := this
  superClass := sup
  interfaces := ifs
  fields := fds
  methods := ms
  attributes := attrs
def plain (name : String) (sup : Option ClassId) : Class where
  name := name
  kind := .ordinary
  loader := none
  accessFlags := 33
  super := sup
  interfaces := #[]
  cf := none
  fields := #[]
  methods := #[]
  instanceTypes := #[]
  staticTypes := #[]
  resolved := #[]
  callSites := []
  init := .initialized
  statics := none
  mirror := none

def pool0 : Array CpInfo := pool [(5, u "<init>"), (0, u "()V"), (1, .class_ 10), (1, u "java/lang/Object")] 113

def k0m0 : Method := { name := "<init>", desc := "()V", sig := { parameters := [], returnType := none }, accessFlags := 1, code := none }
/-- java/lang/Object -/
def k0 : Class := { plain "java/lang/Object" none with
  accessFlags := 33
  interfaces := #[]
  cf := some (fileOf pool0 8 #[] #[{ accessFlags := 1, nameIndex := 5, descriptorIndex := 6, attributes := #[] }] 33 0 #[] #[])
  fields := #[]
  methods := #[k0m0]
  instanceTypes := #[]
  staticTypes := #[]
  resolved := Array.replicate 124 none
  statics := none }

def pool1 : Array CpInfo := pool [(2, .class_ 4), (1, u "java/lang/Object"), (0, u "<init>"), (0, u "()V"), (0, .class_ 8), (0, u "com/example/earnest_repository/earnestrepository/core/Result"), (0, .fieldref 7 10), (0, .nameAndType 11 12), (0, u "ENTITIES"), (0, u "Lcom/example/earnest_repository/earnestrepository/core/Result;"), (0, .fieldref 7 14), (0, .nameAndType 15 12), (0, u "ENTITY_SET"), (0, .fieldref 7 17), (0, .nameAndType 18 12), (0, u "ITERATOR"), (0, .fieldref 7 20), (0, .nameAndType 21 12), (0, u "STREAM"), (0, .fieldref 7 23), (0, .nameAndType 24 12), (0, u "STREAMABLE"), (0, .fieldref 7 26), (0, .nameAndType 27 12), (0, u "ENTITY"), (0, .fieldref 7 29), (0, .nameAndType 30 12), (0, u "OPTIONAL"), (0, .fieldref 7 32), (0, .nameAndType 33 12), (0, u "SLICE"), (0, .fieldref 7 35), (0, .nameAndType 36 12), (0, u "PAGE"), (0, .fieldref 7 38), (0, .nameAndType 39 12), (0, u "NUMBER"), (0, .fieldref 7 41), (0, .nameAndType 42 12), (0, u "INT_NUMBER"), (0, .fieldref 7 44), (0, .nameAndType 45 12), (0, u "PRESENCE"), (0, .fieldref 7 47), (0, .nameAndType 48 12), (0, u "NOTHING"), (0, .integer 2147483647), (0, .methodref 7 51), (0, .nameAndType 52 53), (0, u "single"), (0, u "()Z"), (0, .methodref 7 55), (0, .nameAndType 56 53), (0, u "readsRows"), (0, .methodref 7 58), (0, .nameAndType 59 53), (0, u "paged"), (0, .methodref 7 61), (0, .nameAndType 62 53), (0, u "readAsConsumed"), (0, .class_ 64), (0, u "com/example/earnest_repository/earnestrepository/core/ResultSinglePinLaw"), (2, u "law"), (0, u "(I)Z")] 7

def k1m0 : Method := { name := "<init>", desc := "()V", sig := { parameters := [], returnType := none }, accessFlags := 1, code := none }
def k1c1 : Code := { maxStack := 4, maxLocals := 6, code := code, exceptionTable := #[], attributes := #[] }
def k1m1 : Method := { name := "law", desc := "(I)Z", sig := { parameters := [.int], returnType := some .boolean }, accessFlags := 9, code := some k1c1 }
/-- com/example/earnest_repository/earnestrepository/core/ResultSinglePinLaw -/
def k1 : Class := { plain "com/example/earnest_repository/earnestrepository/core/ResultSinglePinLaw" (some 0) with
  accessFlags := 49
  interfaces := #[]
  cf := some (fileOf pool1 63 #[] #[{ accessFlags := 1, nameIndex := 5, descriptorIndex := 6, attributes := #[] }, { accessFlags := 9, nameIndex := 67, descriptorIndex := 68, attributes := #[] }] 49 2 #[] #[])
  fields := #[]
  methods := #[k1m0, k1m1]
  instanceTypes := #[]
  staticTypes := #[]
  resolved := Array.replicate 76 none
  statics := none }

def pool2 : Array CpInfo := pool [(1, .class_ 2), (0, u "java/lang/constant/Constable"), (0, .class_ 4), (0, u "java/lang/Object")] 6

/-- java/lang/constant/Constable -/
def k2 : Class := { plain "java/lang/constant/Constable" (some 0) with
  accessFlags := 1537
  interfaces := #[]
  cf := some (fileOf pool2 1 #[] #[] 1537 3 #[] #[])
  fields := #[]
  methods := #[]
  instanceTypes := #[]
  staticTypes := #[]
  resolved := Array.replicate 11 none
  statics := none }

def pool3 : Array CpInfo := pool [(1, .class_ 2), (0, u "java/lang/Comparable"), (0, .class_ 4), (0, u "java/lang/Object")] 7

/-- java/lang/Comparable -/
def k3 : Class := { plain "java/lang/Comparable" (some 0) with
  accessFlags := 1537
  interfaces := #[]
  cf := some (fileOf pool3 1 #[] #[] 1537 3 #[] #[])
  fields := #[]
  methods := #[]
  instanceTypes := #[]
  staticTypes := #[]
  resolved := Array.replicate 12 none
  statics := none }

def pool4 : Array CpInfo := pool [(1, .class_ 2), (0, u "java/io/Serializable"), (0, .class_ 4), (0, u "java/lang/Object")] 2

/-- java/io/Serializable -/
def k4 : Class := { plain "java/io/Serializable" (some 0) with
  accessFlags := 1537
  interfaces := #[]
  cf := some (fileOf pool4 1 #[] #[] 1537 3 #[] #[])
  fields := #[]
  methods := #[]
  instanceTypes := #[]
  staticTypes := #[]
  resolved := Array.replicate 7 none
  statics := none }

def pool5 : Array CpInfo := pool [(2, .class_ 4), (1, u "java/lang/Enum"), (0, u "name"), (0, u "Ljava/lang/String;"), (2, u "ordinal"), (0, u "I"), (1, .class_ 14), (1, u "java/lang/Object"), (4, u "hash"), (86, .class_ 108), (1, u "java/lang/Enum$EnumDesc"), (2, .class_ 112), (0, u "java/lang/constant/Constable"), (0, .class_ 114), (0, u "java/lang/Comparable"), (0, .class_ 116), (0, u "java/io/Serializable")] 87

/-- java/lang/Enum -/
def k5 : Class := { plain "java/lang/Enum" (some 0) with
  accessFlags := 1057
  interfaces := #[2, 3, 4]
  cf := some (fileOf pool5 2 #[.nestMembers #[106]] #[] 1057 12 #[111, 113, 115] #[{ accessFlags := 18, nameIndex := 5, descriptorIndex := 6, attributes := #[] }, { accessFlags := 18, nameIndex := 9, descriptorIndex := 10, attributes := #[] }, { accessFlags := 2, nameIndex := 19, descriptorIndex := 10, attributes := #[] }])
  fields := #[{ name := "name", type := (.object "java/lang/String"), accessFlags := 18, slot := 0, constantValue := 0 }, { name := "ordinal", type := .int, accessFlags := 18, slot := 1, constantValue := 0 }, { name := "hash", type := .int, accessFlags := 2, slot := 2, constantValue := 0 }]
  methods := #[]
  instanceTypes := #[(.object "java/lang/String"), .int, .int]
  staticTypes := #[]
  resolved := Array.replicate 204 none
  statics := none }

def pool6 : Array CpInfo := pool [(1, .class_ 2), (0, u "com/example/earnest_repository/earnestrepository/core/Result"), (2, u "ENTITIES"), (0, u "Lcom/example/earnest_repository/earnestrepository/core/Result;"), (2, u "ENTITY_SET"), (2, u "ITERATOR"), (0, .fieldref 1 14), (0, .nameAndType 15 6), (0, u "STREAM"), (2, u "STREAMABLE"), (0, .fieldref 1 20), (0, .nameAndType 21 6), (0, u "ENTITY"), (0, .fieldref 1 23), (0, .nameAndType 24 6), (0, u "OPTIONAL"), (0, .fieldref 1 26), (0, .nameAndType 27 6), (0, u "SLICE"), (0, .fieldref 1 29), (0, .nameAndType 30 6), (0, u "PAGE"), (2, u "NUMBER"), (2, u "INT_NUMBER"), (2, u "PRESENCE"), (2, u "NOTHING"), (2, u "$VALUES"), (0, u "[Lcom/example/earnest_repository/earnestrepository/core/Result;"), (6, .class_ 55), (1, u "java/lang/Enum"), (8, u "valueClass"), (0, u "Ljava/lang/Class;"), (0, .fieldref 1 67), (0, .nameAndType 68 69), (0, u "readsRows"), (0, u "Z"), (2, u "described"), (0, u "Ljava/lang/String;"), (2, u "()Z"), (98, u "READING"), (0, u "Ljava/util/List;"), (8, u "readAsConsumed"), (1, u "single"), (0, u "paged")] 32

def k6c0 : Code := { maxStack := 1, maxLocals := 1, code := prog_62_method_4_code, exceptionTable := #[], attributes := #[] }
def k6m0 : Method := { name := "readsRows", desc := "()Z", sig := { parameters := [], returnType := some .boolean }, accessFlags := 1, code := some k6c0 }
def k6c1 : Code := { maxStack := 2, maxLocals := 1, code := prog_62_method_5_code, exceptionTable := #[], attributes := #[] }
def k6m1 : Method := { name := "readAsConsumed", desc := "()Z", sig := { parameters := [], returnType := some .boolean }, accessFlags := 1, code := some k6c1 }
def k6c2 : Code := { maxStack := 2, maxLocals := 1, code := prog_62_method_6_code, exceptionTable := #[], attributes := #[] }
def k6m2 : Method := { name := "single", desc := "()Z", sig := { parameters := [], returnType := some .boolean }, accessFlags := 0, code := some k6c2 }
def k6c3 : Code := { maxStack := 2, maxLocals := 1, code := prog_62_method_7_code, exceptionTable := #[], attributes := #[] }
def k6m3 : Method := { name := "paged", desc := "()Z", sig := { parameters := [], returnType := some .boolean }, accessFlags := 0, code := some k6c3 }
/-- com/example/earnest_repository/earnestrepository/core/Result -/
def k6 : Class := { plain "com/example/earnest_repository/earnestrepository/core/Result" (some 5) with
  accessFlags := 16433
  interfaces := #[]
  cf := some (fileOf pool6 1 #[] #[{ accessFlags := 1, nameIndex := 68, descriptorIndex := 76, attributes := #[] }, { accessFlags := 1, nameIndex := 185, descriptorIndex := 76, attributes := #[] }, { accessFlags := 0, nameIndex := 187, descriptorIndex := 76, attributes := #[] }, { accessFlags := 0, nameIndex := 188, descriptorIndex := 76, attributes := #[] }] 16433 53 #[] #[{ accessFlags := 16409, nameIndex := 5, descriptorIndex := 6, attributes := #[] }, { accessFlags := 16409, nameIndex := 9, descriptorIndex := 6, attributes := #[] }, { accessFlags := 16409, nameIndex := 12, descriptorIndex := 6, attributes := #[] }, { accessFlags := 16409, nameIndex := 15, descriptorIndex := 6, attributes := #[] }, { accessFlags := 16409, nameIndex := 18, descriptorIndex := 6, attributes := #[] }, { accessFlags := 16409, nameIndex := 21, descriptorIndex := 6, attributes := #[] }, { accessFlags := 16409, nameIndex := 24, descriptorIndex := 6, attributes := #[] }, { accessFlags := 16409, nameIndex := 27, descriptorIndex := 6, attributes := #[] }, { accessFlags := 16409, nameIndex := 30, descriptorIndex := 6, attributes := #[] }, { accessFlags := 16409, nameIndex := 33, descriptorIndex := 6, attributes := #[] }, { accessFlags := 16409, nameIndex := 36, descriptorIndex := 6, attributes := #[] }, { accessFlags := 16409, nameIndex := 39, descriptorIndex := 6, attributes := #[] }, { accessFlags := 16409, nameIndex := 42, descriptorIndex := 6, attributes := #[] }, { accessFlags := 24, nameIndex := 175, descriptorIndex := 176, attributes := #[] }, { accessFlags := 18, nameIndex := 64, descriptorIndex := 65, attributes := #[] }, { accessFlags := 18, nameIndex := 68, descriptorIndex := 69, attributes := #[] }, { accessFlags := 18, nameIndex := 72, descriptorIndex := 73, attributes := #[] }, { accessFlags := 4122, nameIndex := 45, descriptorIndex := 46, attributes := #[] }])
  fields := #[{ name := "ENTITIES", type := (.object "com/example/earnest_repository/earnestrepository/core/Result"), accessFlags := 16409, slot := 0, constantValue := 0 }, { name := "ENTITY_SET", type := (.object "com/example/earnest_repository/earnestrepository/core/Result"), accessFlags := 16409, slot := 1, constantValue := 0 }, { name := "ITERATOR", type := (.object "com/example/earnest_repository/earnestrepository/core/Result"), accessFlags := 16409, slot := 2, constantValue := 0 }, { name := "STREAM", type := (.object "com/example/earnest_repository/earnestrepository/core/Result"), accessFlags := 16409, slot := 3, constantValue := 0 }, { name := "STREAMABLE", type := (.object "com/example/earnest_repository/earnestrepository/core/Result"), accessFlags := 16409, slot := 4, constantValue := 0 }, { name := "ENTITY", type := (.object "com/example/earnest_repository/earnestrepository/core/Result"), accessFlags := 16409, slot := 5, constantValue := 0 }, { name := "OPTIONAL", type := (.object "com/example/earnest_repository/earnestrepository/core/Result"), accessFlags := 16409, slot := 6, constantValue := 0 }, { name := "SLICE", type := (.object "com/example/earnest_repository/earnestrepository/core/Result"), accessFlags := 16409, slot := 7, constantValue := 0 }, { name := "PAGE", type := (.object "com/example/earnest_repository/earnestrepository/core/Result"), accessFlags := 16409, slot := 8, constantValue := 0 }, { name := "NUMBER", type := (.object "com/example/earnest_repository/earnestrepository/core/Result"), accessFlags := 16409, slot := 9, constantValue := 0 }, { name := "INT_NUMBER", type := (.object "com/example/earnest_repository/earnestrepository/core/Result"), accessFlags := 16409, slot := 10, constantValue := 0 }, { name := "PRESENCE", type := (.object "com/example/earnest_repository/earnestrepository/core/Result"), accessFlags := 16409, slot := 11, constantValue := 0 }, { name := "NOTHING", type := (.object "com/example/earnest_repository/earnestrepository/core/Result"), accessFlags := 16409, slot := 12, constantValue := 0 }, { name := "READING", type := (.object "java/util/List"), accessFlags := 24, slot := 13, constantValue := 0 }, { name := "valueClass", type := (.object "java/lang/Class"), accessFlags := 18, slot := 3, constantValue := 0 }, { name := "readsRows", type := .boolean, accessFlags := 18, slot := 4, constantValue := 0 }, { name := "described", type := (.object "java/lang/String"), accessFlags := 18, slot := 5, constantValue := 0 }, { name := "$VALUES", type := (.array (.object "com/example/earnest_repository/earnestrepository/core/Result")), accessFlags := 4122, slot := 14, constantValue := 0 }]
  methods := #[k6m0, k6m1, k6m2, k6m3]
  instanceTypes := #[(.object "java/lang/String"), .int, .int, (.object "java/lang/Class"), .boolean, (.object "java/lang/String")]
  staticTypes := #[(.object "com/example/earnest_repository/earnestrepository/core/Result"), (.object "com/example/earnest_repository/earnestrepository/core/Result"), (.object "com/example/earnest_repository/earnestrepository/core/Result"), (.object "com/example/earnest_repository/earnestrepository/core/Result"), (.object "com/example/earnest_repository/earnestrepository/core/Result"), (.object "com/example/earnest_repository/earnestrepository/core/Result"), (.object "com/example/earnest_repository/earnestrepository/core/Result"), (.object "com/example/earnest_repository/earnestrepository/core/Result"), (.object "com/example/earnest_repository/earnestrepository/core/Result"), (.object "com/example/earnest_repository/earnestrepository/core/Result"), (.object "com/example/earnest_repository/earnestrepository/core/Result"), (.object "com/example/earnest_repository/earnestrepository/core/Result"), (.object "com/example/earnest_repository/earnestrepository/core/Result"), (.object "java/util/List"), (.array (.object "com/example/earnest_repository/earnestrepository/core/Result"))]
  resolved := Array.replicate 221 none
  statics := some 0 }

def pool7 : Array CpInfo := pool [(1, u "java/lang/Cloneable"), (0, .class_ 1), (0, u "java/lang/Object"), (0, .class_ 3)] 3

/-- java/lang/Cloneable -/
def k7 : Class := { plain "java/lang/Cloneable" (some 0) with
  accessFlags := 1537
  interfaces := #[]
  cf := some (fileOf pool7 2 #[] #[] 1537 4 #[] #[])
  fields := #[]
  methods := #[]
  instanceTypes := #[]
  staticTypes := #[]
  resolved := Array.replicate 8 none
  statics := none }

/-- the primitive boolean -/
def k8 : Class := { plain "boolean" none with kind := .primitive 'Z', accessFlags := 0x411 }
/-- [Z -/
def k9 : Class := { plain "[Z" (some 0) with kind := .array 8 .boolean, interfaces := #[7, 4], accessFlags := 1041 }

/-- the primitive byte -/
def k10 : Class := { plain "byte" none with kind := .primitive 'B', accessFlags := 0x411 }
/-- [B -/
def k11 : Class := { plain "[B" (some 0) with kind := .array 10 .byte, interfaces := #[7, 4], accessFlags := 1041 }

/-- the primitive int -/
def k12 : Class := { plain "int" none with kind := .primitive 'I', accessFlags := 0x411 }
/-- [I -/
def k13 : Class := { plain "[I" (some 0) with kind := .array 12 .int, interfaces := #[7, 4], accessFlags := 1041 }

/-- [Lcom/example/earnest_repository/earnestrepository/core/Result; -/
def k14 : Class := { plain "[Lcom/example/earnest_repository/earnestrepository/core/Result;" (some 0) with kind := .array 6 (.object "com/example/earnest_repository/earnestrepository/core/Result"), interfaces := #[7, 4], accessFlags := 1041 }

def heap : Heap := #[{ cls := 6, slots := #[.ref 1, .ref 2, .ref 3, .ref 4, .ref 5, .ref 6, .ref 7, .ref 8, .ref 9, .ref 10, .ref 11, .ref 12, .ref 13, .null, .null], vm := .statics 6 },
  { cls := 6, slots := #[.null, .int 0, .int 0, .null, .int 1, .null], vm := .none },
  { cls := 6, slots := #[.null, .int 1, .int 0, .null, .int 1, .null], vm := .none },
  { cls := 6, slots := #[.null, .int 2, .int 0, .null, .int 1, .null], vm := .none },
  { cls := 6, slots := #[.null, .int 3, .int 0, .null, .int 1, .null], vm := .none },
  { cls := 6, slots := #[.null, .int 4, .int 0, .null, .int 1, .null], vm := .none },
  { cls := 6, slots := #[.null, .int 5, .int 0, .null, .int 1, .null], vm := .none },
  { cls := 6, slots := #[.null, .int 6, .int 0, .null, .int 1, .null], vm := .none },
  { cls := 6, slots := #[.null, .int 7, .int 0, .null, .int 1, .null], vm := .none },
  { cls := 6, slots := #[.null, .int 8, .int 0, .null, .int 1, .null], vm := .none },
  { cls := 6, slots := #[.null, .int 9, .int 0, .null, .int 0, .null], vm := .none },
  { cls := 6, slots := #[.null, .int 10, .int 0, .null, .int 0, .null], vm := .none },
  { cls := 6, slots := #[.null, .int 11, .int 0, .null, .int 0, .null], vm := .none },
  { cls := 6, slots := #[.null, .int 12, .int 0, .null, .int 0, .null], vm := .none }]
def classes : Array Class := #[k0, k1, k2, k3, k4, k5, k6, k7, k8, k9, k10, k11, k12, k13, k14]
def interned : List (Array UInt16 × Addr) := []
def slotsUsed : Nat := 93
def theMethod : MethodId := ⟨1, 1⟩
def args0 : Array Value := #[.int 5]
def aboutOver (below : List Frame) : State where
  vm := { classes := classes, interned := interned.toArray }
  heap := heap
  slotsUsed := slotsUsed
  threads := #[{ frames := .invoking theMethod args0 :: below }]
def below0 : List Frame := [.native { method := ⟨0, 0⟩, args := #[] }]
def about1 : State := aboutOver below0
def p0 : Program := .bare "" "" ""
def e0 : Env := launch0.env 0 0 0
theorem w_frames : about1.frames = Frame.invoking theMethod args0 :: below0 := rfl
set_option maxRecDepth 65536 in
theorem w_args : argsFit about1.vm theMethod args0 = true := by decide +kernel
set_option maxRecDepth 65536 in
theorem w_heap : heapFits about1 = true := by decide +kernel
set_option maxRecDepth 65536 in
theorem w_runnable : about1.curStatus? = some .runnable := by decide +kernel
set_option maxRecDepth 65536 in
theorem w_alone : about1.alone = true := by decide +kernel
set_option maxRecDepth 65536 in
theorem w_named : about1.methodNamed? x = some theMethod := by decide +kernel
set_option maxRecDepth 65536 in
theorem w_hears : about1.hears theMethod below0 = true := by decide +kernel
set_option maxRecDepth 65536 in
theorem w_ripe : about1.ripe theMethod args0 below0 = true := by decide +kernel
theorem w_running : about1.status = .running := rfl
set_option maxRecDepth 65536 in
theorem w_room : about1.hasRoom e0.platform room_1 = true :=
  launch0.hasRoom_least _ room_1 (by decide +kernel) (by decide +kernel) (by decide +kernel) (by decide +kernel) (by decide +kernel) (by decide +kernel)
theorem allAtoms_all (ts : List Jvm.Cond) (a : Array Jvm.Value) (st : Jvm.State) : (allAtoms ts).before a st = ts.all (fun c => c.before a st) := by
  induction ts with
  | nil => rfl
  | cons c t ih =>
    show (Jvm.Cond.and c (allAtoms t)).before a st = _
    rw [Jvm.Cond.before_and, ih, List.all_cons]
def words1 : List Jvm.Cond := Jvm.Cond.code x code maxLocals ret :: tables_1
/-- a 'code' word, met by the world's own term for the bytes: nothing is compared byte by byte -/
theorem code_word {y : MethodName} {bytes : ByteArray} {mx : Nat} {rt : Option FieldType} {a : Array Value} {s : State} {m : MethodId} {meth : Method} {c : Code} (h1 : s.methodNamed? y = some m) (h2 : s.vm.method? m = some meth) (h3 : meth.code = some c) (h4 : c.code = bytes)
    (h5 : (c.maxLocals == mx && c.exceptionTable.isEmpty && decide (c.maxStack ≤ mostOperands) && decide (meth.sig.returnType = rt) && !meth.locks && decide (parseMethodDescriptor y.desc = some meth.sig)) = true) : (Jvm.Cond.code y bytes mx rt).before a s = true := by
  simp only [Bool.and_eq_true, beq_iff_eq, Bool.not_eq_true', decide_eq_true_eq] at h5
  obtain ⟨⟨⟨⟨⟨g1, g2⟩, g3⟩, g4⟩, g5⟩, g6⟩ := h5
  simp [Cond.before, Cond.holds, Cond.value, h1, h2, h3, h4, g1, g2, g3, g4, g5, g6]
def isCode : Jvm.Cond → Bool
  | .code _ _ _ _ => true
  | _ => false
theorem all_split {L : List Jvm.Cond} {P : Jvm.Cond → Bool} (h1 : L.all (fun c => isCode c || P c) = true) (h2 : ∀ c ∈ L.filter isCode, P c = true) : L.all P = true := by
  refine List.all_eq_true.mpr fun c hc => ?_
  have h := List.all_eq_true.mp h1 c hc
  rcases Bool.eq_false_or_eq_true (isCode c) with hi | hi
  · exact h2 c (List.mem_filter.mpr ⟨hc, hi⟩)
  · simpa [hi] using h
set_option maxRecDepth 65536 in
theorem w_c0 : (Jvm.Cond.code x code maxLocals ret).before args0 about1 = true := code_word (m := ⟨1, 1⟩) (meth := k1m1) (c := k1c1) (by decide +kernel) rfl rfl rfl (by decide +kernel)
set_option maxRecDepth 65536 in
theorem w_c1 : (Jvm.Cond.code ({ cls := "com/example/earnest_repository/earnestrepository/core/Result", name := "single", desc := "()Z" } : Jvm.MethodName) prog_62_method_6_code (1 : Nat) (Option.some Jvm.ClassFile.FieldType.boolean)).before args0 about1 = true := code_word (m := ⟨6, 2⟩) (meth := k6m2) (c := k6c2) (by decide +kernel) rfl rfl rfl (by decide +kernel)
set_option maxRecDepth 65536 in
theorem w_c2 : (Jvm.Cond.code ({ cls := "com/example/earnest_repository/earnestrepository/core/Result", name := "readsRows", desc := "()Z" } : Jvm.MethodName) prog_62_method_4_code (1 : Nat) (Option.some Jvm.ClassFile.FieldType.boolean)).before args0 about1 = true := code_word (m := ⟨6, 0⟩) (meth := k6m0) (c := k6c0) (by decide +kernel) rfl rfl rfl (by decide +kernel)
set_option maxRecDepth 65536 in
theorem w_c3 : (Jvm.Cond.code ({ cls := "com/example/earnest_repository/earnestrepository/core/Result", name := "paged", desc := "()Z" } : Jvm.MethodName) prog_62_method_7_code (1 : Nat) (Option.some Jvm.ClassFile.FieldType.boolean)).before args0 about1 = true := code_word (m := ⟨6, 3⟩) (meth := k6m3) (c := k6c3) (by decide +kernel) rfl rfl rfl (by decide +kernel)
set_option maxRecDepth 65536 in
theorem w_c4 : (Jvm.Cond.code ({ cls := "com/example/earnest_repository/earnestrepository/core/Result", name := "readAsConsumed", desc := "()Z" } : Jvm.MethodName) prog_62_method_5_code (1 : Nat) (Option.some Jvm.ClassFile.FieldType.boolean)).before args0 about1 = true := code_word (m := ⟨6, 1⟩) (meth := k6m1) (c := k6c1) (by decide +kernel) rfl rfl rfl (by decide +kernel)
def codes1 : List Jvm.Cond := [Jvm.Cond.code x code maxLocals ret, Jvm.Cond.code ({ cls := "com/example/earnest_repository/earnestrepository/core/Result", name := "single", desc := "()Z" } : Jvm.MethodName) prog_62_method_6_code (1 : Nat) (Option.some Jvm.ClassFile.FieldType.boolean), Jvm.Cond.code ({ cls := "com/example/earnest_repository/earnestrepository/core/Result", name := "readsRows", desc := "()Z" } : Jvm.MethodName) prog_62_method_4_code (1 : Nat) (Option.some Jvm.ClassFile.FieldType.boolean), Jvm.Cond.code ({ cls := "com/example/earnest_repository/earnestrepository/core/Result", name := "paged", desc := "()Z" } : Jvm.MethodName) prog_62_method_7_code (1 : Nat) (Option.some Jvm.ClassFile.FieldType.boolean), Jvm.Cond.code ({ cls := "com/example/earnest_repository/earnestrepository/core/Result", name := "readAsConsumed", desc := "()Z" } : Jvm.MethodName) prog_62_method_5_code (1 : Nat) (Option.some Jvm.ClassFile.FieldType.boolean)]
set_option maxRecDepth 65536 in
theorem codes_eq : words1.filter isCode = codes1 := rfl
theorem w_codes : ∀ c ∈ words1.filter isCode, c.before args0 about1 = true := by
  rw [codes_eq]
  intro c hc
  simp only [codes1, List.mem_cons, List.not_mem_nil, or_false] at hc
  rcases hc with rfl | rfl | rfl | rfl | rfl
  · exact w_c0
  · exact w_c1
  · exact w_c2
  · exact w_c3
  · exact w_c4
set_option maxRecDepth 65536 in
theorem w_t1 : (words1.take 24).all (fun c => isCode c || c.before args0 about1) = true := by decide +kernel
set_option maxRecDepth 65536 in
theorem w_t2 : ((words1.drop 24).take 24).all (fun c => isCode c || c.before args0 about1) = true := by decide +kernel
set_option maxRecDepth 65536 in
theorem w_t3 : ((words1.drop 24).drop 24).all (fun c => isCode c || c.before args0 about1) = true := by decide +kernel
theorem w_tables : (allAtoms (Jvm.Cond.code x code maxLocals ret :: tables_1)).before args0 about1 = true := by
  rw [allAtoms_all]
  show words1.all (fun c => c.before args0 about1) = true
  refine all_split ?_ w_codes
  rw [← List.take_append_drop 24 words1, List.all_append, w_t1, ← List.take_append_drop 24 (words1.drop 24), List.all_append, w_t2, w_t3]
  rfl
set_option maxRecDepth 65536 in
theorem w_case : (Jvm.Cond.and given_1 narrow_1).before args0 about1 = true := by decide +kernel
theorem w_applies : (headSpec (Jvm.Cond.code x code maxLocals ret :: tables_1) room_1).applies x e0.platform about1 = true :=
  (Spec.applies_iff w_frames).mpr ⟨w_running, w_runnable, w_alone, w_named, w_hears, w_ripe, w_room, w_tables⟩
theorem atStart : AtStart classFile x code maxLocals ret World_1 tables_1 room_1 Calls_1 rest_1 Pre_1 launch0 p0 e0 about1 theMethod args0 below0 :=
  ⟨lists_1, trivial, launch0.admits_env _ _ _, launch0.least_env, fairChoices_fair.cas, fairChoices_fair.clock, w_frames, w_args, w_heap, w_applies, trivial, trivial, w_case⟩
end start1
theorem witness_1 : WitnessClaimed_1 := ⟨start1.p0, start1.e0, start1.about1, start1.theMethod, start1.args0, start1.below0, start1.atStart⟩
end Jvm.Pilot.@@N@@
