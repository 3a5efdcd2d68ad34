import JvmDerived
import JvmDerived.Pilot.@@N@@Statement
import JvmDerived.Pilot.@@N@@Code
set_option linter.unusedVariables false
set_option linter.unusedSimpArgs false
namespace Jvm.RoadKit
open Sem ClassFile Op Lib Jvm.Stand Jvm.Free Jvm.LawKit
section New
variable {p : Program} {l : Launch} {e : Env} {R : Room} {s : State} {m : MethodId} {args : Array Value} {below : List Frame} {meth : Method} {c : Code} {T : State} {locs : List Loc} {cells slots : Nat}
theorem retI (X : Stand p l e R s m args below meth c T locs cells slots) (hx : p.tables.exec = Jvm.exec) {pc : Nat} {Ls : Array Slot} {z : Int32} {rest : List Value} (hret : meth.sig.returnType = some .int) (hd : decode c.code pc = .ok (.ireturn, 1)) {fs : List Frame}
    (hl : ∀ (f : JFrame) (acts : List Action), f.method = m → f.locked = none → f.entered = [] → (doReturn e (T.setTop f) acts (some (.int z))).1 = T.setFrames fs) : Steps p.tables e below (T.setTop (mkF m pc Ls (.int z :: rest))) (T.setFrames fs) := by
  have hm' : T.vm.method? m = some meth := X.method'
  have hn : narrow .int (.int z) = .int z := rfl
  show Steps p.tables e below (T.setTop { method := m, pc := pc, locals := Ls, stack := _ :: rest, locked := none }) _
  jvm_step X.here [X.here.top, hx, hd, hm', hret, hn]
  first | (intro acts; rw [hl _ acts rfl rfl rfl]) | rw [hl _ _ rfl rfl rfl]
  exact Steps.refl _
end New
end Jvm.RoadKit
namespace Jvm.Pilot.@@N@@
open Jvm Jvm.ClassFile Sem Op Lib Jvm.Free Jvm.Stand Jvm.LawKit Jvm.RoadKit Bundle Jvm.Pilot.@@N@@.Jvm.D
def own_Qv (r : Option Value) (h0 : Heap) (n0 : Nat) (v : Option Value) (h : Heap) (L : List Loc) : Prop := v = r ∧ Fr n0 L ∧ h = h0
def own_Q0 (h0 : Heap) (n0 : Nat) (v : Option Value) (h : Heap) (L : List Loc) : Prop := v = some (.int (1 : Int32)) ∧ Fr n0 L
theorem own_eqI {args : Array Value} {s : State} {t : Term} {n : Int32} (h : (Jvm.Cond.eq t (.int n)).value args s none s [] = some true) : t.eval args s none [] s = some (.int n) :=
  Jvm.Free.NT.SwA.eq_int (Cond.before_iff.mpr h)
theorem own_start {args : Array Value} {s : State} {C n d E : String} (hx : (Jvm.Cond.exactly (Term.static C n d) E).value args s none s [] = some true) (hi : (Jvm.Cond.initialized C).before args s = true) (hl : (Jvm.Cond.laysStatic C n d).before args s = true) :
    ∃ w, (Term.static C n d).eval args s none [] s = some (.ref w) ∧ Sta s s.heap C n d (.ref w) ∧ Exa s s.heap w E := by
  obtain ⟨w, ev⟩ := exa_v hx
  exact ⟨w, ev, Sta.start ev (Or.inr ⟨hi, hl⟩), Exa.start ev hx⟩
theorem own_fld {args : Array Value} {s : State} {t : Term} {w : Addr} {C n d : String} {z : Int32} (ev : t.eval args s none [] s = some (.ref w)) (h : (Jvm.Cond.eq (Term.field t C n d) (.int z)).value args s none s [] = some true) : Fld s s.heap w C n d (.int z) :=
  Fld.start ((fld_at ev).symm.trans (own_eqI h))
theorem own_ne {Z : State} {h : Heap} {a b : Addr} {C n d : String} {x y : Int32} (F : Fld Z h a C n d (.int x)) (G : Fld Z h b C n d (.int y)) (q : x ≠ y) : a ≠ b := F.ne G (fun e => q (Value.int.inj e))
theorem d1_0 : decode method_2_code 0 = .ok (.iload_n 0, 1) := by decide +kernel
theorem d1_1 : decode method_2_code 1 = .ok (.ldc 7, 2) := by decide +kernel
theorem d1_3 : decode method_2_code 3 = .ok (.iand, 1) := by decide +kernel
theorem d1_4 : decode method_2_code 4 = .ok (.iconst 5, 1) := by decide +kernel
theorem d1_5 : decode method_2_code 5 = .ok (.irem, 1) := by decide +kernel
theorem d1_6 : decode method_2_code 6 = .ok (.istore_n 1, 1) := by decide +kernel
theorem d1_7 : decode method_2_code 7 = .ok (.iload_n 1, 1) := by decide +kernel
theorem d1_8 : decode method_2_code 8 = .ok (.ifCond .ne 7, 3) := by decide +kernel
theorem d1_11 : decode method_2_code 11 = .ok (.getstatic 8, 3) := by decide +kernel
theorem d1_14 : decode method_2_code 14 = .ok (.areturn, 1) := by decide +kernel
theorem pn_1 : plainName "com/example/kolok/kolok/KindWaitsForPinLaw" = true := by first | (simp [plainName, overriddenIn]; done) | decide +kernel
theorem ef_1 (m : MethodId) (x0 : Int32) : entryFrame m #[(.int x0)] 2 = mkF m 0 #[.val (.int x0), .unset] [] := by first | (simp [entryFrame, mkF, argsToLocals, Value.category]; done) | rfl
set_option maxRecDepth 65536 in
set_option maxHeartbeats 40000000 in
theorem rm1_0 (l : Launch) (Z : State) (a0 : Array Value) (hw : ∀ d ∈ tables_1, d.before a0 Z = true) (ws : List Jvm.Cond) (p1 : Int32) (w2 : Addr) (h0 : Heap) (n0 : Nat) (Z0 : n0 ≤ h0.size) (S_LOCK : Sta Z h0 "com/example/kolok/kolok/ContenderName$Kind" "LOCK" "Lcom/example/kolok/kolok/ContenderName$Kind;" (.ref w2)) (hc8 : ((p1 &&& (2147483647 : Int32)) % (5 : Int32)) = (0 : Int32)) :
    MetFree l (⟨"com/example/kolok/kolok/KindWaitsForPinLaw", "pick", "(I)Lcom/example/kolok/kolok/ContenderName$Kind;"⟩ : MethodName) (head1 (Jvm.Cond.code (⟨"com/example/kolok/kolok/KindWaitsForPinLaw", "pick", "(I)Lcom/example/kolok/kolok/ContenderName$Kind;"⟩ : MethodName) method_2_code 2 (some (.object "com/example/kolok/kolok/ContenderName$Kind")) :: ws) ({ frames := 0, cells := 0, slots := 0, locals := 0 } : Room)) (fun a U => a = #[(.int p1)] ∧ Z.Warmed39 U.vm ∧ U.heap = h0) (fun _ _ _ _ _ => True) (fun _ U o U' => ∃ v L, o = .returned v ∧ own_Qv (some (.ref w2)) h0 n0 v U'.heap L ∧ FrameEnd U o U' L ({ frames := 0, cells := 0, slots := 0, locals := 0 } : Room).cells ({ frames := 0, cells := 0, slots := 0, locals := 0 } : Room).slots) := by
  refine MetFree.of_bodySF (plainFor_of_name pn_1) hisR ?_
  intro p e s m args below meth c s₁ Bd hml0 hP hK
  obtain ⟨rfl, hZ, hh⟩ := hP
  have hx := Bd.exec
  have hby := Bd.bytes
  have hml : c.maxLocals = 2 := hml0
  have hown : s.vm.findClass "com/example/kolok/kolok/KindWaitsForPinLaw" = some m.cls := findClass_of_methodNamed Bd.named
  have hnm := (name_of_methodNamed Bd.named Bd.method).1
  have X0 : Stand p l e ({ frames := 0, cells := 0, slots := 0, locals := 0 } : Room) s m #[(.int p1)] below meth c s₁ [] 0 0 := Stand.of_body Bd
  have e0 : s₁.heap = h0 := by rw [← hh, Bd.state]; rfl
  have N0 := Fr.nil n0
  have pre0 : ∀ t, Steps p.tables e below (s₁.setTop (mkF m 0 #[.val (.int p1), .unset] [])) t → Steps p.tables e below (s₁.setTop (entryFrame m #[(.int p1)] 2)) t := fun t k => castTop (ef_1 m p1) k
  obtain ⟨T3, X3, e3, st3⟩ := getS2 X0 hx hZ hown (host := "") (Or.inl (hw _ (List.mem_of_getElem? (i := 5) rfl))) Via.refl e0 S_LOCK (g := (mkF m 11 #[.val (.int p1), .val (.int ((p1 &&& (2147483647 : Int32)) % (5 : Int32)))] [])) rfl (hb hby d1_11)
  obtain ⟨fs, hr, hrun, hended, hW, hsame⟩ := X3.leave (v := some (.ref w2)) (fun h => by rw [Bd.returns] at h; cases h)
  refine ⟨_, _, pre0 _ ?_, hrun, hended, _, _, rfl, ?_, ⟨_, rfl⟩, hW, hsame.mono (by decide) (by decide)⟩
  · show Steps p.tables e below (s₁.setTop (mkF m 0 #[.val (.int p1), .unset] [])) _
    refine XS.iloadN X0.here hx rfl (hb hby d1_0) rfl ?_
    show Steps p.tables e below (s₁.setTop (mkF m 1 #[.val (.int p1), .unset] [(.int p1)])) _
    refine X0.ldcInt hx hown (mvT hZ (hw _ (List.mem_of_getElem? (i := 4) rfl))) (g := (mkF m 1 #[.val (.int p1), .unset] [(.int p1)])) rfl (hb hby d1_1) _ ?_
    show Steps p.tables e below (s₁.setTop (mkF m 3 #[.val (.int p1), .unset] [(.int (2147483647 : Int32)), (.int p1)])) _
    refine XS.iand X0.here hx rfl (hb hby d1_3) rfl ?_
    show Steps p.tables e below (s₁.setTop (mkF m 4 #[.val (.int p1), .unset] [(.int (p1 &&& (2147483647 : Int32)))])) _
    refine XS.iconst X0.here hx rfl (hb hby d1_4) ?_
    show Steps p.tables e below (s₁.setTop (mkF m 5 #[.val (.int p1), .unset] [(.int (5 : Int32)), (.int (p1 &&& (2147483647 : Int32)))])) _
    refine iremM X0 hx rfl (hb hby d1_5) rfl (by decide) ?_
    show Steps p.tables e below (s₁.setTop (mkF m 6 #[.val (.int p1), .unset] [(.int ((p1 &&& (2147483647 : Int32)) % (5 : Int32)))])) _
    refine XS.istoreN X0.here hx rfl (hb hby d1_6) rfl (l' := #[.val (.int p1), .val (.int ((p1 &&& (2147483647 : Int32)) % (5 : Int32)))]) rfl ?_
    show Steps p.tables e below (s₁.setTop (mkF m 7 #[.val (.int p1), .val (.int ((p1 &&& (2147483647 : Int32)) % (5 : Int32)))] [])) _
    refine XS.iloadN X0.here hx rfl (hb hby d1_7) rfl ?_
    show Steps p.tables e below (s₁.setTop (mkF m 8 #[.val (.int p1), .val (.int ((p1 &&& (2147483647 : Int32)) % (5 : Int32)))] [(.int ((p1 &&& (2147483647 : Int32)) % (5 : Int32)))])) _
    refine XS.ifNo X0.here hx rfl (hb hby d1_8) rfl ((if0 _ _).trans (teq hc8).2) ?_
    show Steps p.tables e below (s₁.setTop (mkF m 11 #[.val (.int p1), .val (.int ((p1 &&& (2147483647 : Int32)) % (5 : Int32)))] [])) _
    refine st3 _ ?_
    show Steps p.tables e below (T3.setTop (mkF m 14 #[.val (.int p1), .val (.int ((p1 &&& (2147483647 : Int32)) % (5 : Int32)))] [(.ref w2)])) _
    jvm_step X3.here [X3.here.top, hx, (hb hby d1_14), X3.method', Bd.returns, Value.isRef, FieldType.isReference]
    first | (intro acts; rw [hr _ acts rfl rfl rfl]) | rw [hr _ _ rfl rfl rfl]
    exact Steps.refl _
  · show own_Qv (some (.ref w2)) h0 n0 _ T3.heap _
    rw [e3]
    exact ⟨rfl, N0, rfl⟩
theorem d1_15 : decode method_2_code 15 = .ok (.iload_n 1, 1) := by decide +kernel
theorem d1_16 : decode method_2_code 16 = .ok (.iconst 1, 1) := by decide +kernel
theorem d1_17 : decode method_2_code 17 = .ok (.if_icmp .ne 7, 3) := by decide +kernel
theorem d1_20 : decode method_2_code 20 = .ok (.getstatic 14, 3) := by decide +kernel
theorem d1_23 : decode method_2_code 23 = .ok (.areturn, 1) := by decide +kernel
set_option maxRecDepth 65536 in
set_option maxHeartbeats 40000000 in
theorem rm1_1 (l : Launch) (Z : State) (a0 : Array Value) (hw : ∀ d ∈ tables_1, d.before a0 Z = true) (ws : List Jvm.Cond) (p1 : Int32) (w2 : Addr) (h0 : Heap) (n0 : Nat) (Z0 : n0 ≤ h0.size) (S_READ : Sta Z h0 "com/example/kolok/kolok/ContenderName$Kind" "READ" "Lcom/example/kolok/kolok/ContenderName$Kind;" (.ref w2)) (hc8 : ¬ (((p1 &&& (2147483647 : Int32)) % (5 : Int32)) = (0 : Int32))) (hc17 : ((p1 &&& (2147483647 : Int32)) % (5 : Int32)) = (1 : Int32)) :
    MetFree l (⟨"com/example/kolok/kolok/KindWaitsForPinLaw", "pick", "(I)Lcom/example/kolok/kolok/ContenderName$Kind;"⟩ : MethodName) (head1 (Jvm.Cond.code (⟨"com/example/kolok/kolok/KindWaitsForPinLaw", "pick", "(I)Lcom/example/kolok/kolok/ContenderName$Kind;"⟩ : MethodName) method_2_code 2 (some (.object "com/example/kolok/kolok/ContenderName$Kind")) :: ws) ({ frames := 0, cells := 0, slots := 0, locals := 0 } : Room)) (fun a U => a = #[(.int p1)] ∧ Z.Warmed39 U.vm ∧ U.heap = h0) (fun _ _ _ _ _ => True) (fun _ U o U' => ∃ v L, o = .returned v ∧ own_Qv (some (.ref w2)) h0 n0 v U'.heap L ∧ FrameEnd U o U' L ({ frames := 0, cells := 0, slots := 0, locals := 0 } : Room).cells ({ frames := 0, cells := 0, slots := 0, locals := 0 } : Room).slots) := by
  refine MetFree.of_bodySF (plainFor_of_name pn_1) hisR ?_
  intro p e s m args below meth c s₁ Bd hml0 hP hK
  obtain ⟨rfl, hZ, hh⟩ := hP
  have hx := Bd.exec
  have hby := Bd.bytes
  have hml : c.maxLocals = 2 := hml0
  have hown : s.vm.findClass "com/example/kolok/kolok/KindWaitsForPinLaw" = some m.cls := findClass_of_methodNamed Bd.named
  have hnm := (name_of_methodNamed Bd.named Bd.method).1
  have X0 : Stand p l e ({ frames := 0, cells := 0, slots := 0, locals := 0 } : Room) s m #[(.int p1)] below meth c s₁ [] 0 0 := Stand.of_body Bd
  have e0 : s₁.heap = h0 := by rw [← hh, Bd.state]; rfl
  have N0 := Fr.nil n0
  have pre0 : ∀ t, Steps p.tables e below (s₁.setTop (mkF m 0 #[.val (.int p1), .unset] [])) t → Steps p.tables e below (s₁.setTop (entryFrame m #[(.int p1)] 2)) t := fun t k => castTop (ef_1 m p1) k
  obtain ⟨T3, X3, e3, st3⟩ := getS2 X0 hx hZ hown (host := "") (Or.inl (hw _ (List.mem_of_getElem? (i := 13) rfl))) Via.refl e0 S_READ (g := (mkF m 20 #[.val (.int p1), .val (.int ((p1 &&& (2147483647 : Int32)) % (5 : Int32)))] [])) rfl (hb hby d1_20)
  obtain ⟨fs, hr, hrun, hended, hW, hsame⟩ := X3.leave (v := some (.ref w2)) (fun h => by rw [Bd.returns] at h; cases h)
  refine ⟨_, _, pre0 _ ?_, hrun, hended, _, _, rfl, ?_, ⟨_, rfl⟩, hW, hsame.mono (by decide) (by decide)⟩
  · show Steps p.tables e below (s₁.setTop (mkF m 0 #[.val (.int p1), .unset] [])) _
    refine XS.iloadN X0.here hx rfl (hb hby d1_0) rfl ?_
    show Steps p.tables e below (s₁.setTop (mkF m 1 #[.val (.int p1), .unset] [(.int p1)])) _
    refine X0.ldcInt hx hown (mvT hZ (hw _ (List.mem_of_getElem? (i := 4) rfl))) (g := (mkF m 1 #[.val (.int p1), .unset] [(.int p1)])) rfl (hb hby d1_1) _ ?_
    show Steps p.tables e below (s₁.setTop (mkF m 3 #[.val (.int p1), .unset] [(.int (2147483647 : Int32)), (.int p1)])) _
    refine XS.iand X0.here hx rfl (hb hby d1_3) rfl ?_
    show Steps p.tables e below (s₁.setTop (mkF m 4 #[.val (.int p1), .unset] [(.int (p1 &&& (2147483647 : Int32)))])) _
    refine XS.iconst X0.here hx rfl (hb hby d1_4) ?_
    show Steps p.tables e below (s₁.setTop (mkF m 5 #[.val (.int p1), .unset] [(.int (5 : Int32)), (.int (p1 &&& (2147483647 : Int32)))])) _
    refine iremM X0 hx rfl (hb hby d1_5) rfl (by decide) ?_
    show Steps p.tables e below (s₁.setTop (mkF m 6 #[.val (.int p1), .unset] [(.int ((p1 &&& (2147483647 : Int32)) % (5 : Int32)))])) _
    refine XS.istoreN X0.here hx rfl (hb hby d1_6) rfl (l' := #[.val (.int p1), .val (.int ((p1 &&& (2147483647 : Int32)) % (5 : Int32)))]) rfl ?_
    show Steps p.tables e below (s₁.setTop (mkF m 7 #[.val (.int p1), .val (.int ((p1 &&& (2147483647 : Int32)) % (5 : Int32)))] [])) _
    refine XS.iloadN X0.here hx rfl (hb hby d1_7) rfl ?_
    show Steps p.tables e below (s₁.setTop (mkF m 8 #[.val (.int p1), .val (.int ((p1 &&& (2147483647 : Int32)) % (5 : Int32)))] [(.int ((p1 &&& (2147483647 : Int32)) % (5 : Int32)))])) _
    refine XS.ifYes X0.here hx rfl (pc0 := 8) (pc' := 15) rfl (hb hby d1_8) rfl ((if0 _ _).trans (feq hc8).2) (by decide) (by decide) ?_
    show Steps p.tables e below (s₁.setTop (mkF m 15 #[.val (.int p1), .val (.int ((p1 &&& (2147483647 : Int32)) % (5 : Int32)))] [])) _
    refine XS.iloadN X0.here hx rfl (hb hby d1_15) rfl ?_
    show Steps p.tables e below (s₁.setTop (mkF m 16 #[.val (.int p1), .val (.int ((p1 &&& (2147483647 : Int32)) % (5 : Int32)))] [(.int ((p1 &&& (2147483647 : Int32)) % (5 : Int32)))])) _
    refine XS.iconst X0.here hx rfl (hb hby d1_16) ?_
    show Steps p.tables e below (s₁.setTop (mkF m 17 #[.val (.int p1), .val (.int ((p1 &&& (2147483647 : Int32)) % (5 : Int32)))] [(.int (1 : Int32)), (.int ((p1 &&& (2147483647 : Int32)) % (5 : Int32)))])) _
    refine XS.icmpNo X0.here hx rfl (hb hby d1_17) rfl (teq hc17).2 ?_
    show Steps p.tables e below (s₁.setTop (mkF m 20 #[.val (.int p1), .val (.int ((p1 &&& (2147483647 : Int32)) % (5 : Int32)))] [])) _
    refine st3 _ ?_
    show Steps p.tables e below (T3.setTop (mkF m 23 #[.val (.int p1), .val (.int ((p1 &&& (2147483647 : Int32)) % (5 : Int32)))] [(.ref w2)])) _
    jvm_step X3.here [X3.here.top, hx, (hb hby d1_23), X3.method', Bd.returns, Value.isRef, FieldType.isReference]
    first | (intro acts; rw [hr _ acts rfl rfl rfl]) | rw [hr _ _ rfl rfl rfl]
    exact Steps.refl _
  · show own_Qv (some (.ref w2)) h0 n0 _ T3.heap _
    rw [e3]
    exact ⟨rfl, N0, rfl⟩
theorem d1_24 : decode method_2_code 24 = .ok (.iload_n 1, 1) := by decide +kernel
theorem d1_25 : decode method_2_code 25 = .ok (.iconst 2, 1) := by decide +kernel
theorem d1_26 : decode method_2_code 26 = .ok (.if_icmp .ne 7, 3) := by decide +kernel
theorem d1_29 : decode method_2_code 29 = .ok (.getstatic 17, 3) := by decide +kernel
theorem d1_32 : decode method_2_code 32 = .ok (.areturn, 1) := by decide +kernel
set_option maxRecDepth 65536 in
set_option maxHeartbeats 40000000 in
theorem rm1_2 (l : Launch) (Z : State) (a0 : Array Value) (hw : ∀ d ∈ tables_1, d.before a0 Z = true) (ws : List Jvm.Cond) (p1 : Int32) (w2 : Addr) (h0 : Heap) (n0 : Nat) (Z0 : n0 ≤ h0.size) (S_WRITE : Sta Z h0 "com/example/kolok/kolok/ContenderName$Kind" "WRITE" "Lcom/example/kolok/kolok/ContenderName$Kind;" (.ref w2)) (hc8 : ¬ (((p1 &&& (2147483647 : Int32)) % (5 : Int32)) = (0 : Int32))) (hc17 : ¬ (((p1 &&& (2147483647 : Int32)) % (5 : Int32)) = (1 : Int32))) (hc26 : ((p1 &&& (2147483647 : Int32)) % (5 : Int32)) = (2 : Int32)) :
    MetFree l (⟨"com/example/kolok/kolok/KindWaitsForPinLaw", "pick", "(I)Lcom/example/kolok/kolok/ContenderName$Kind;"⟩ : MethodName) (head1 (Jvm.Cond.code (⟨"com/example/kolok/kolok/KindWaitsForPinLaw", "pick", "(I)Lcom/example/kolok/kolok/ContenderName$Kind;"⟩ : MethodName) method_2_code 2 (some (.object "com/example/kolok/kolok/ContenderName$Kind")) :: ws) ({ frames := 0, cells := 0, slots := 0, locals := 0 } : Room)) (fun a U => a = #[(.int p1)] ∧ Z.Warmed39 U.vm ∧ U.heap = h0) (fun _ _ _ _ _ => True) (fun _ U o U' => ∃ v L, o = .returned v ∧ own_Qv (some (.ref w2)) h0 n0 v U'.heap L ∧ FrameEnd U o U' L ({ frames := 0, cells := 0, slots := 0, locals := 0 } : Room).cells ({ frames := 0, cells := 0, slots := 0, locals := 0 } : Room).slots) := by
  refine MetFree.of_bodySF (plainFor_of_name pn_1) hisR ?_
  intro p e s m args below meth c s₁ Bd hml0 hP hK
  obtain ⟨rfl, hZ, hh⟩ := hP
  have hx := Bd.exec
  have hby := Bd.bytes
  have hml : c.maxLocals = 2 := hml0
  have hown : s.vm.findClass "com/example/kolok/kolok/KindWaitsForPinLaw" = some m.cls := findClass_of_methodNamed Bd.named
  have hnm := (name_of_methodNamed Bd.named Bd.method).1
  have X0 : Stand p l e ({ frames := 0, cells := 0, slots := 0, locals := 0 } : Room) s m #[(.int p1)] below meth c s₁ [] 0 0 := Stand.of_body Bd
  have e0 : s₁.heap = h0 := by rw [← hh, Bd.state]; rfl
  have N0 := Fr.nil n0
  have pre0 : ∀ t, Steps p.tables e below (s₁.setTop (mkF m 0 #[.val (.int p1), .unset] [])) t → Steps p.tables e below (s₁.setTop (entryFrame m #[(.int p1)] 2)) t := fun t k => castTop (ef_1 m p1) k
  obtain ⟨T3, X3, e3, st3⟩ := getS2 X0 hx hZ hown (host := "") (Or.inl (hw _ (List.mem_of_getElem? (i := 24) rfl))) Via.refl e0 S_WRITE (g := (mkF m 29 #[.val (.int p1), .val (.int ((p1 &&& (2147483647 : Int32)) % (5 : Int32)))] [])) rfl (hb hby d1_29)
  obtain ⟨fs, hr, hrun, hended, hW, hsame⟩ := X3.leave (v := some (.ref w2)) (fun h => by rw [Bd.returns] at h; cases h)
  refine ⟨_, _, pre0 _ ?_, hrun, hended, _, _, rfl, ?_, ⟨_, rfl⟩, hW, hsame.mono (by decide) (by decide)⟩
  · show Steps p.tables e below (s₁.setTop (mkF m 0 #[.val (.int p1), .unset] [])) _
    refine XS.iloadN X0.here hx rfl (hb hby d1_0) rfl ?_
    show Steps p.tables e below (s₁.setTop (mkF m 1 #[.val (.int p1), .unset] [(.int p1)])) _
    refine X0.ldcInt hx hown (mvT hZ (hw _ (List.mem_of_getElem? (i := 4) rfl))) (g := (mkF m 1 #[.val (.int p1), .unset] [(.int p1)])) rfl (hb hby d1_1) _ ?_
    show Steps p.tables e below (s₁.setTop (mkF m 3 #[.val (.int p1), .unset] [(.int (2147483647 : Int32)), (.int p1)])) _
    refine XS.iand X0.here hx rfl (hb hby d1_3) rfl ?_
    show Steps p.tables e below (s₁.setTop (mkF m 4 #[.val (.int p1), .unset] [(.int (p1 &&& (2147483647 : Int32)))])) _
    refine XS.iconst X0.here hx rfl (hb hby d1_4) ?_
    show Steps p.tables e below (s₁.setTop (mkF m 5 #[.val (.int p1), .unset] [(.int (5 : Int32)), (.int (p1 &&& (2147483647 : Int32)))])) _
    refine iremM X0 hx rfl (hb hby d1_5) rfl (by decide) ?_
    show Steps p.tables e below (s₁.setTop (mkF m 6 #[.val (.int p1), .unset] [(.int ((p1 &&& (2147483647 : Int32)) % (5 : Int32)))])) _
    refine XS.istoreN X0.here hx rfl (hb hby d1_6) rfl (l' := #[.val (.int p1), .val (.int ((p1 &&& (2147483647 : Int32)) % (5 : Int32)))]) rfl ?_
    show Steps p.tables e below (s₁.setTop (mkF m 7 #[.val (.int p1), .val (.int ((p1 &&& (2147483647 : Int32)) % (5 : Int32)))] [])) _
    refine XS.iloadN X0.here hx rfl (hb hby d1_7) rfl ?_
    show Steps p.tables e below (s₁.setTop (mkF m 8 #[.val (.int p1), .val (.int ((p1 &&& (2147483647 : Int32)) % (5 : Int32)))] [(.int ((p1 &&& (2147483647 : Int32)) % (5 : Int32)))])) _
    refine XS.ifYes X0.here hx rfl (pc0 := 8) (pc' := 15) rfl (hb hby d1_8) rfl ((if0 _ _).trans (feq hc8).2) (by decide) (by decide) ?_
    show Steps p.tables e below (s₁.setTop (mkF m 15 #[.val (.int p1), .val (.int ((p1 &&& (2147483647 : Int32)) % (5 : Int32)))] [])) _
    refine XS.iloadN X0.here hx rfl (hb hby d1_15) rfl ?_
    show Steps p.tables e below (s₁.setTop (mkF m 16 #[.val (.int p1), .val (.int ((p1 &&& (2147483647 : Int32)) % (5 : Int32)))] [(.int ((p1 &&& (2147483647 : Int32)) % (5 : Int32)))])) _
    refine XS.iconst X0.here hx rfl (hb hby d1_16) ?_
    show Steps p.tables e below (s₁.setTop (mkF m 17 #[.val (.int p1), .val (.int ((p1 &&& (2147483647 : Int32)) % (5 : Int32)))] [(.int (1 : Int32)), (.int ((p1 &&& (2147483647 : Int32)) % (5 : Int32)))])) _
    refine XS.icmpYes X0.here hx rfl (pc0 := 17) (pc' := 24) rfl (hb hby d1_17) rfl (feq hc17).2 (by decide) (by decide) ?_
    show Steps p.tables e below (s₁.setTop (mkF m 24 #[.val (.int p1), .val (.int ((p1 &&& (2147483647 : Int32)) % (5 : Int32)))] [])) _
    refine XS.iloadN X0.here hx rfl (hb hby d1_24) rfl ?_
    show Steps p.tables e below (s₁.setTop (mkF m 25 #[.val (.int p1), .val (.int ((p1 &&& (2147483647 : Int32)) % (5 : Int32)))] [(.int ((p1 &&& (2147483647 : Int32)) % (5 : Int32)))])) _
    refine XS.iconst X0.here hx rfl (hb hby d1_25) ?_
    show Steps p.tables e below (s₁.setTop (mkF m 26 #[.val (.int p1), .val (.int ((p1 &&& (2147483647 : Int32)) % (5 : Int32)))] [(.int (2 : Int32)), (.int ((p1 &&& (2147483647 : Int32)) % (5 : Int32)))])) _
    refine XS.icmpNo X0.here hx rfl (hb hby d1_26) rfl (teq hc26).2 ?_
    show Steps p.tables e below (s₁.setTop (mkF m 29 #[.val (.int p1), .val (.int ((p1 &&& (2147483647 : Int32)) % (5 : Int32)))] [])) _
    refine st3 _ ?_
    show Steps p.tables e below (T3.setTop (mkF m 32 #[.val (.int p1), .val (.int ((p1 &&& (2147483647 : Int32)) % (5 : Int32)))] [(.ref w2)])) _
    jvm_step X3.here [X3.here.top, hx, (hb hby d1_32), X3.method', Bd.returns, Value.isRef, FieldType.isReference]
    first | (intro acts; rw [hr _ acts rfl rfl rfl]) | rw [hr _ _ rfl rfl rfl]
    exact Steps.refl _
  · show own_Qv (some (.ref w2)) h0 n0 _ T3.heap _
    rw [e3]
    exact ⟨rfl, N0, rfl⟩
theorem d1_33 : decode method_2_code 33 = .ok (.iload_n 1, 1) := by decide +kernel
theorem d1_34 : decode method_2_code 34 = .ok (.iconst 3, 1) := by decide +kernel
theorem d1_35 : decode method_2_code 35 = .ok (.if_icmp .ne 7, 3) := by decide +kernel
theorem d1_38 : decode method_2_code 38 = .ok (.getstatic 20, 3) := by decide +kernel
theorem d1_41 : decode method_2_code 41 = .ok (.areturn, 1) := by decide +kernel
set_option maxRecDepth 65536 in
set_option maxHeartbeats 40000000 in
theorem rm1_3 (l : Launch) (Z : State) (a0 : Array Value) (hw : ∀ d ∈ tables_1, d.before a0 Z = true) (ws : List Jvm.Cond) (p1 : Int32) (w2 : Addr) (h0 : Heap) (n0 : Nat) (Z0 : n0 ≤ h0.size) (S_KAZOO_LOCK : Sta Z h0 "com/example/kolok/kolok/ContenderName$Kind" "KAZOO_LOCK" "Lcom/example/kolok/kolok/ContenderName$Kind;" (.ref w2)) (hc8 : ¬ (((p1 &&& (2147483647 : Int32)) % (5 : Int32)) = (0 : Int32))) (hc17 : ¬ (((p1 &&& (2147483647 : Int32)) % (5 : Int32)) = (1 : Int32))) (hc26 : ¬ (((p1 &&& (2147483647 : Int32)) % (5 : Int32)) = (2 : Int32))) (hc35 : ((p1 &&& (2147483647 : Int32)) % (5 : Int32)) = (3 : Int32)) :
    MetFree l (⟨"com/example/kolok/kolok/KindWaitsForPinLaw", "pick", "(I)Lcom/example/kolok/kolok/ContenderName$Kind;"⟩ : MethodName) (head1 (Jvm.Cond.code (⟨"com/example/kolok/kolok/KindWaitsForPinLaw", "pick", "(I)Lcom/example/kolok/kolok/ContenderName$Kind;"⟩ : MethodName) method_2_code 2 (some (.object "com/example/kolok/kolok/ContenderName$Kind")) :: ws) ({ frames := 0, cells := 0, slots := 0, locals := 0 } : Room)) (fun a U => a = #[(.int p1)] ∧ Z.Warmed39 U.vm ∧ U.heap = h0) (fun _ _ _ _ _ => True) (fun _ U o U' => ∃ v L, o = .returned v ∧ own_Qv (some (.ref w2)) h0 n0 v U'.heap L ∧ FrameEnd U o U' L ({ frames := 0, cells := 0, slots := 0, locals := 0 } : Room).cells ({ frames := 0, cells := 0, slots := 0, locals := 0 } : Room).slots) := by
  refine MetFree.of_bodySF (plainFor_of_name pn_1) hisR ?_
  intro p e s m args below meth c s₁ Bd hml0 hP hK
  obtain ⟨rfl, hZ, hh⟩ := hP
  have hx := Bd.exec
  have hby := Bd.bytes
  have hml : c.maxLocals = 2 := hml0
  have hown : s.vm.findClass "com/example/kolok/kolok/KindWaitsForPinLaw" = some m.cls := findClass_of_methodNamed Bd.named
  have hnm := (name_of_methodNamed Bd.named Bd.method).1
  have X0 : Stand p l e ({ frames := 0, cells := 0, slots := 0, locals := 0 } : Room) s m #[(.int p1)] below meth c s₁ [] 0 0 := Stand.of_body Bd
  have e0 : s₁.heap = h0 := by rw [← hh, Bd.state]; rfl
  have N0 := Fr.nil n0
  have pre0 : ∀ t, Steps p.tables e below (s₁.setTop (mkF m 0 #[.val (.int p1), .unset] [])) t → Steps p.tables e below (s₁.setTop (entryFrame m #[(.int p1)] 2)) t := fun t k => castTop (ef_1 m p1) k
  obtain ⟨T3, X3, e3, st3⟩ := getS2 X0 hx hZ hown (host := "") (Or.inl (hw _ (List.mem_of_getElem? (i := 8) rfl))) Via.refl e0 S_KAZOO_LOCK (g := (mkF m 38 #[.val (.int p1), .val (.int ((p1 &&& (2147483647 : Int32)) % (5 : Int32)))] [])) rfl (hb hby d1_38)
  obtain ⟨fs, hr, hrun, hended, hW, hsame⟩ := X3.leave (v := some (.ref w2)) (fun h => by rw [Bd.returns] at h; cases h)
  refine ⟨_, _, pre0 _ ?_, hrun, hended, _, _, rfl, ?_, ⟨_, rfl⟩, hW, hsame.mono (by decide) (by decide)⟩
  · show Steps p.tables e below (s₁.setTop (mkF m 0 #[.val (.int p1), .unset] [])) _
    refine XS.iloadN X0.here hx rfl (hb hby d1_0) rfl ?_
    show Steps p.tables e below (s₁.setTop (mkF m 1 #[.val (.int p1), .unset] [(.int p1)])) _
    refine X0.ldcInt hx hown (mvT hZ (hw _ (List.mem_of_getElem? (i := 4) rfl))) (g := (mkF m 1 #[.val (.int p1), .unset] [(.int p1)])) rfl (hb hby d1_1) _ ?_
    show Steps p.tables e below (s₁.setTop (mkF m 3 #[.val (.int p1), .unset] [(.int (2147483647 : Int32)), (.int p1)])) _
    refine XS.iand X0.here hx rfl (hb hby d1_3) rfl ?_
    show Steps p.tables e below (s₁.setTop (mkF m 4 #[.val (.int p1), .unset] [(.int (p1 &&& (2147483647 : Int32)))])) _
    refine XS.iconst X0.here hx rfl (hb hby d1_4) ?_
    show Steps p.tables e below (s₁.setTop (mkF m 5 #[.val (.int p1), .unset] [(.int (5 : Int32)), (.int (p1 &&& (2147483647 : Int32)))])) _
    refine iremM X0 hx rfl (hb hby d1_5) rfl (by decide) ?_
    show Steps p.tables e below (s₁.setTop (mkF m 6 #[.val (.int p1), .unset] [(.int ((p1 &&& (2147483647 : Int32)) % (5 : Int32)))])) _
    refine XS.istoreN X0.here hx rfl (hb hby d1_6) rfl (l' := #[.val (.int p1), .val (.int ((p1 &&& (2147483647 : Int32)) % (5 : Int32)))]) rfl ?_
    show Steps p.tables e below (s₁.setTop (mkF m 7 #[.val (.int p1), .val (.int ((p1 &&& (2147483647 : Int32)) % (5 : Int32)))] [])) _
    refine XS.iloadN X0.here hx rfl (hb hby d1_7) rfl ?_
    show Steps p.tables e below (s₁.setTop (mkF m 8 #[.val (.int p1), .val (.int ((p1 &&& (2147483647 : Int32)) % (5 : Int32)))] [(.int ((p1 &&& (2147483647 : Int32)) % (5 : Int32)))])) _
    refine XS.ifYes X0.here hx rfl (pc0 := 8) (pc' := 15) rfl (hb hby d1_8) rfl ((if0 _ _).trans (feq hc8).2) (by decide) (by decide) ?_
    show Steps p.tables e below (s₁.setTop (mkF m 15 #[.val (.int p1), .val (.int ((p1 &&& (2147483647 : Int32)) % (5 : Int32)))] [])) _
    refine XS.iloadN X0.here hx rfl (hb hby d1_15) rfl ?_
    show Steps p.tables e below (s₁.setTop (mkF m 16 #[.val (.int p1), .val (.int ((p1 &&& (2147483647 : Int32)) % (5 : Int32)))] [(.int ((p1 &&& (2147483647 : Int32)) % (5 : Int32)))])) _
    refine XS.iconst X0.here hx rfl (hb hby d1_16) ?_
    show Steps p.tables e below (s₁.setTop (mkF m 17 #[.val (.int p1), .val (.int ((p1 &&& (2147483647 : Int32)) % (5 : Int32)))] [(.int (1 : Int32)), (.int ((p1 &&& (2147483647 : Int32)) % (5 : Int32)))])) _
    refine XS.icmpYes X0.here hx rfl (pc0 := 17) (pc' := 24) rfl (hb hby d1_17) rfl (feq hc17).2 (by decide) (by decide) ?_
    show Steps p.tables e below (s₁.setTop (mkF m 24 #[.val (.int p1), .val (.int ((p1 &&& (2147483647 : Int32)) % (5 : Int32)))] [])) _
    refine XS.iloadN X0.here hx rfl (hb hby d1_24) rfl ?_
    show Steps p.tables e below (s₁.setTop (mkF m 25 #[.val (.int p1), .val (.int ((p1 &&& (2147483647 : Int32)) % (5 : Int32)))] [(.int ((p1 &&& (2147483647 : Int32)) % (5 : Int32)))])) _
    refine XS.iconst X0.here hx rfl (hb hby d1_25) ?_
    show Steps p.tables e below (s₁.setTop (mkF m 26 #[.val (.int p1), .val (.int ((p1 &&& (2147483647 : Int32)) % (5 : Int32)))] [(.int (2 : Int32)), (.int ((p1 &&& (2147483647 : Int32)) % (5 : Int32)))])) _
    refine XS.icmpYes X0.here hx rfl (pc0 := 26) (pc' := 33) rfl (hb hby d1_26) rfl (feq hc26).2 (by decide) (by decide) ?_
    show Steps p.tables e below (s₁.setTop (mkF m 33 #[.val (.int p1), .val (.int ((p1 &&& (2147483647 : Int32)) % (5 : Int32)))] [])) _
    refine XS.iloadN X0.here hx rfl (hb hby d1_33) rfl ?_
    show Steps p.tables e below (s₁.setTop (mkF m 34 #[.val (.int p1), .val (.int ((p1 &&& (2147483647 : Int32)) % (5 : Int32)))] [(.int ((p1 &&& (2147483647 : Int32)) % (5 : Int32)))])) _
    refine XS.iconst X0.here hx rfl (hb hby d1_34) ?_
    show Steps p.tables e below (s₁.setTop (mkF m 35 #[.val (.int p1), .val (.int ((p1 &&& (2147483647 : Int32)) % (5 : Int32)))] [(.int (3 : Int32)), (.int ((p1 &&& (2147483647 : Int32)) % (5 : Int32)))])) _
    refine XS.icmpNo X0.here hx rfl (hb hby d1_35) rfl (teq hc35).2 ?_
    show Steps p.tables e below (s₁.setTop (mkF m 38 #[.val (.int p1), .val (.int ((p1 &&& (2147483647 : Int32)) % (5 : Int32)))] [])) _
    refine st3 _ ?_
    show Steps p.tables e below (T3.setTop (mkF m 41 #[.val (.int p1), .val (.int ((p1 &&& (2147483647 : Int32)) % (5 : Int32)))] [(.ref w2)])) _
    jvm_step X3.here [X3.here.top, hx, (hb hby d1_41), X3.method', Bd.returns, Value.isRef, FieldType.isReference]
    first | (intro acts; rw [hr _ acts rfl rfl rfl]) | rw [hr _ _ rfl rfl rfl]
    exact Steps.refl _
  · show own_Qv (some (.ref w2)) h0 n0 _ T3.heap _
    rw [e3]
    exact ⟨rfl, N0, rfl⟩
theorem d1_42 : decode method_2_code 42 = .ok (.getstatic 23, 3) := by decide +kernel
theorem d1_45 : decode method_2_code 45 = .ok (.areturn, 1) := by decide +kernel
set_option maxRecDepth 65536 in
set_option maxHeartbeats 40000000 in
theorem rm1_4 (l : Launch) (Z : State) (a0 : Array Value) (hw : ∀ d ∈ tables_1, d.before a0 Z = true) (ws : List Jvm.Cond) (p1 : Int32) (w2 : Addr) (h0 : Heap) (n0 : Nat) (Z0 : n0 ≤ h0.size) (S_KAZOO_READ : Sta Z h0 "com/example/kolok/kolok/ContenderName$Kind" "KAZOO_READ" "Lcom/example/kolok/kolok/ContenderName$Kind;" (.ref w2)) (hc8 : ¬ (((p1 &&& (2147483647 : Int32)) % (5 : Int32)) = (0 : Int32))) (hc17 : ¬ (((p1 &&& (2147483647 : Int32)) % (5 : Int32)) = (1 : Int32))) (hc26 : ¬ (((p1 &&& (2147483647 : Int32)) % (5 : Int32)) = (2 : Int32))) (hc35 : ¬ (((p1 &&& (2147483647 : Int32)) % (5 : Int32)) = (3 : Int32))) :
    MetFree l (⟨"com/example/kolok/kolok/KindWaitsForPinLaw", "pick", "(I)Lcom/example/kolok/kolok/ContenderName$Kind;"⟩ : MethodName) (head1 (Jvm.Cond.code (⟨"com/example/kolok/kolok/KindWaitsForPinLaw", "pick", "(I)Lcom/example/kolok/kolok/ContenderName$Kind;"⟩ : MethodName) method_2_code 2 (some (.object "com/example/kolok/kolok/ContenderName$Kind")) :: ws) ({ frames := 0, cells := 0, slots := 0, locals := 0 } : Room)) (fun a U => a = #[(.int p1)] ∧ Z.Warmed39 U.vm ∧ U.heap = h0) (fun _ _ _ _ _ => True) (fun _ U o U' => ∃ v L, o = .returned v ∧ own_Qv (some (.ref w2)) h0 n0 v U'.heap L ∧ FrameEnd U o U' L ({ frames := 0, cells := 0, slots := 0, locals := 0 } : Room).cells ({ frames := 0, cells := 0, slots := 0, locals := 0 } : Room).slots) := by
  refine MetFree.of_bodySF (plainFor_of_name pn_1) hisR ?_
  intro p e s m args below meth c s₁ Bd hml0 hP hK
  obtain ⟨rfl, hZ, hh⟩ := hP
  have hx := Bd.exec
  have hby := Bd.bytes
  have hml : c.maxLocals = 2 := hml0
  have hown : s.vm.findClass "com/example/kolok/kolok/KindWaitsForPinLaw" = some m.cls := findClass_of_methodNamed Bd.named
  have hnm := (name_of_methodNamed Bd.named Bd.method).1
  have X0 : Stand p l e ({ frames := 0, cells := 0, slots := 0, locals := 0 } : Room) s m #[(.int p1)] below meth c s₁ [] 0 0 := Stand.of_body Bd
  have e0 : s₁.heap = h0 := by rw [← hh, Bd.state]; rfl
  have N0 := Fr.nil n0
  have pre0 : ∀ t, Steps p.tables e below (s₁.setTop (mkF m 0 #[.val (.int p1), .unset] [])) t → Steps p.tables e below (s₁.setTop (entryFrame m #[(.int p1)] 2)) t := fun t k => castTop (ef_1 m p1) k
  obtain ⟨T3, X3, e3, st3⟩ := getS2 X0 hx hZ hown (host := "") (Or.inl (hw _ (List.mem_of_getElem? (i := 15) rfl))) Via.refl e0 S_KAZOO_READ (g := (mkF m 42 #[.val (.int p1), .val (.int ((p1 &&& (2147483647 : Int32)) % (5 : Int32)))] [])) rfl (hb hby d1_42)
  obtain ⟨fs, hr, hrun, hended, hW, hsame⟩ := X3.leave (v := some (.ref w2)) (fun h => by rw [Bd.returns] at h; cases h)
  refine ⟨_, _, pre0 _ ?_, hrun, hended, _, _, rfl, ?_, ⟨_, rfl⟩, hW, hsame.mono (by decide) (by decide)⟩
  · show Steps p.tables e below (s₁.setTop (mkF m 0 #[.val (.int p1), .unset] [])) _
    refine XS.iloadN X0.here hx rfl (hb hby d1_0) rfl ?_
    show Steps p.tables e below (s₁.setTop (mkF m 1 #[.val (.int p1), .unset] [(.int p1)])) _
    refine X0.ldcInt hx hown (mvT hZ (hw _ (List.mem_of_getElem? (i := 4) rfl))) (g := (mkF m 1 #[.val (.int p1), .unset] [(.int p1)])) rfl (hb hby d1_1) _ ?_
    show Steps p.tables e below (s₁.setTop (mkF m 3 #[.val (.int p1), .unset] [(.int (2147483647 : Int32)), (.int p1)])) _
    refine XS.iand X0.here hx rfl (hb hby d1_3) rfl ?_
    show Steps p.tables e below (s₁.setTop (mkF m 4 #[.val (.int p1), .unset] [(.int (p1 &&& (2147483647 : Int32)))])) _
    refine XS.iconst X0.here hx rfl (hb hby d1_4) ?_
    show Steps p.tables e below (s₁.setTop (mkF m 5 #[.val (.int p1), .unset] [(.int (5 : Int32)), (.int (p1 &&& (2147483647 : Int32)))])) _
    refine iremM X0 hx rfl (hb hby d1_5) rfl (by decide) ?_
    show Steps p.tables e below (s₁.setTop (mkF m 6 #[.val (.int p1), .unset] [(.int ((p1 &&& (2147483647 : Int32)) % (5 : Int32)))])) _
    refine XS.istoreN X0.here hx rfl (hb hby d1_6) rfl (l' := #[.val (.int p1), .val (.int ((p1 &&& (2147483647 : Int32)) % (5 : Int32)))]) rfl ?_
    show Steps p.tables e below (s₁.setTop (mkF m 7 #[.val (.int p1), .val (.int ((p1 &&& (2147483647 : Int32)) % (5 : Int32)))] [])) _
    refine XS.iloadN X0.here hx rfl (hb hby d1_7) rfl ?_
    show Steps p.tables e below (s₁.setTop (mkF m 8 #[.val (.int p1), .val (.int ((p1 &&& (2147483647 : Int32)) % (5 : Int32)))] [(.int ((p1 &&& (2147483647 : Int32)) % (5 : Int32)))])) _
    refine XS.ifYes X0.here hx rfl (pc0 := 8) (pc' := 15) rfl (hb hby d1_8) rfl ((if0 _ _).trans (feq hc8).2) (by decide) (by decide) ?_
    show Steps p.tables e below (s₁.setTop (mkF m 15 #[.val (.int p1), .val (.int ((p1 &&& (2147483647 : Int32)) % (5 : Int32)))] [])) _
    refine XS.iloadN X0.here hx rfl (hb hby d1_15) rfl ?_
    show Steps p.tables e below (s₁.setTop (mkF m 16 #[.val (.int p1), .val (.int ((p1 &&& (2147483647 : Int32)) % (5 : Int32)))] [(.int ((p1 &&& (2147483647 : Int32)) % (5 : Int32)))])) _
    refine XS.iconst X0.here hx rfl (hb hby d1_16) ?_
    show Steps p.tables e below (s₁.setTop (mkF m 17 #[.val (.int p1), .val (.int ((p1 &&& (2147483647 : Int32)) % (5 : Int32)))] [(.int (1 : Int32)), (.int ((p1 &&& (2147483647 : Int32)) % (5 : Int32)))])) _
    refine XS.icmpYes X0.here hx rfl (pc0 := 17) (pc' := 24) rfl (hb hby d1_17) rfl (feq hc17).2 (by decide) (by decide) ?_
    show Steps p.tables e below (s₁.setTop (mkF m 24 #[.val (.int p1), .val (.int ((p1 &&& (2147483647 : Int32)) % (5 : Int32)))] [])) _
    refine XS.iloadN X0.here hx rfl (hb hby d1_24) rfl ?_
    show Steps p.tables e below (s₁.setTop (mkF m 25 #[.val (.int p1), .val (.int ((p1 &&& (2147483647 : Int32)) % (5 : Int32)))] [(.int ((p1 &&& (2147483647 : Int32)) % (5 : Int32)))])) _
    refine XS.iconst X0.here hx rfl (hb hby d1_25) ?_
    show Steps p.tables e below (s₁.setTop (mkF m 26 #[.val (.int p1), .val (.int ((p1 &&& (2147483647 : Int32)) % (5 : Int32)))] [(.int (2 : Int32)), (.int ((p1 &&& (2147483647 : Int32)) % (5 : Int32)))])) _
    refine XS.icmpYes X0.here hx rfl (pc0 := 26) (pc' := 33) rfl (hb hby d1_26) rfl (feq hc26).2 (by decide) (by decide) ?_
    show Steps p.tables e below (s₁.setTop (mkF m 33 #[.val (.int p1), .val (.int ((p1 &&& (2147483647 : Int32)) % (5 : Int32)))] [])) _
    refine XS.iloadN X0.here hx rfl (hb hby d1_33) rfl ?_
    show Steps p.tables e below (s₁.setTop (mkF m 34 #[.val (.int p1), .val (.int ((p1 &&& (2147483647 : Int32)) % (5 : Int32)))] [(.int ((p1 &&& (2147483647 : Int32)) % (5 : Int32)))])) _
    refine XS.iconst X0.here hx rfl (hb hby d1_34) ?_
    show Steps p.tables e below (s₁.setTop (mkF m 35 #[.val (.int p1), .val (.int ((p1 &&& (2147483647 : Int32)) % (5 : Int32)))] [(.int (3 : Int32)), (.int ((p1 &&& (2147483647 : Int32)) % (5 : Int32)))])) _
    refine XS.icmpYes X0.here hx rfl (pc0 := 35) (pc' := 42) rfl (hb hby d1_35) rfl (feq hc35).2 (by decide) (by decide) ?_
    show Steps p.tables e below (s₁.setTop (mkF m 42 #[.val (.int p1), .val (.int ((p1 &&& (2147483647 : Int32)) % (5 : Int32)))] [])) _
    refine st3 _ ?_
    show Steps p.tables e below (T3.setTop (mkF m 45 #[.val (.int p1), .val (.int ((p1 &&& (2147483647 : Int32)) % (5 : Int32)))] [(.ref w2)])) _
    jvm_step X3.here [X3.here.top, hx, (hb hby d1_45), X3.method', Bd.returns, Value.isRef, FieldType.isReference]
    first | (intro acts; rw [hr _ acts rfl rfl rfl]) | rw [hr _ _ rfl rfl rfl]
    exact Steps.refl _
  · show own_Qv (some (.ref w2)) h0 n0 _ T3.heap _
    rw [e3]
    exact ⟨rfl, N0, rfl⟩
theorem rm1_all (l : Launch) (Z : State) (a0 : Array Value) (hw : ∀ d ∈ tables_1, d.before a0 Z = true) (ws : List Jvm.Cond) (p1 : Int32) (wL wR wW wKL wKR r : Addr) (h0 : Heap) (n0 : Nat) (Z0 : n0 ≤ h0.size) (SL : Sta Z h0 "com/example/kolok/kolok/ContenderName$Kind" "LOCK" "Lcom/example/kolok/kolok/ContenderName$Kind;" (.ref wL)) (SR : Sta Z h0 "com/example/kolok/kolok/ContenderName$Kind" "READ" "Lcom/example/kolok/kolok/ContenderName$Kind;" (.ref wR)) (SW : Sta Z h0 "com/example/kolok/kolok/ContenderName$Kind" "WRITE" "Lcom/example/kolok/kolok/ContenderName$Kind;" (.ref wW)) (SKL : Sta Z h0 "com/example/kolok/kolok/ContenderName$Kind" "KAZOO_LOCK" "Lcom/example/kolok/kolok/ContenderName$Kind;" (.ref wKL)) (SKR : Sta Z h0 "com/example/kolok/kolok/ContenderName$Kind" "KAZOO_READ" "Lcom/example/kolok/kolok/ContenderName$Kind;" (.ref wKR)) (hr1 : ((((p1 &&& (2147483647 : Int32)) % (5 : Int32)) = 0 ∧ r = wL) ∨ (¬ ((p1 &&& (2147483647 : Int32)) % (5 : Int32)) = 0 ∧ ((p1 &&& (2147483647 : Int32)) % (5 : Int32)) = 1 ∧ r = wR) ∨ (¬ ((p1 &&& (2147483647 : Int32)) % (5 : Int32)) = 0 ∧ ¬ ((p1 &&& (2147483647 : Int32)) % (5 : Int32)) = 1 ∧ ((p1 &&& (2147483647 : Int32)) % (5 : Int32)) = 2 ∧ r = wW) ∨ (¬ ((p1 &&& (2147483647 : Int32)) % (5 : Int32)) = 0 ∧ ¬ ((p1 &&& (2147483647 : Int32)) % (5 : Int32)) = 1 ∧ ¬ ((p1 &&& (2147483647 : Int32)) % (5 : Int32)) = 2 ∧ ((p1 &&& (2147483647 : Int32)) % (5 : Int32)) = 3 ∧ r = wKL) ∨ (¬ ((p1 &&& (2147483647 : Int32)) % (5 : Int32)) = 0 ∧ ¬ ((p1 &&& (2147483647 : Int32)) % (5 : Int32)) = 1 ∧ ¬ ((p1 &&& (2147483647 : Int32)) % (5 : Int32)) = 2 ∧ ¬ ((p1 &&& (2147483647 : Int32)) % (5 : Int32)) = 3 ∧ r = wKR))) :
    MetFree l (⟨"com/example/kolok/kolok/KindWaitsForPinLaw", "pick", "(I)Lcom/example/kolok/kolok/ContenderName$Kind;"⟩ : MethodName) (head1 (Jvm.Cond.code (⟨"com/example/kolok/kolok/KindWaitsForPinLaw", "pick", "(I)Lcom/example/kolok/kolok/ContenderName$Kind;"⟩ : MethodName) method_2_code 2 (some (.object "com/example/kolok/kolok/ContenderName$Kind")) :: ws) ({ frames := 0, cells := 0, slots := 0, locals := 0 } : Room)) (fun a U => a = #[(.int p1)] ∧ Z.Warmed39 U.vm ∧ U.heap = h0) (fun _ _ _ _ _ => True) (fun _ U o U' => ∃ v L, o = .returned v ∧ own_Qv (some (.ref r)) h0 n0 v U'.heap L ∧ FrameEnd U o U' L ({ frames := 0, cells := 0, slots := 0, locals := 0 } : Room).cells ({ frames := 0, cells := 0, slots := 0, locals := 0 } : Room).slots) := by
  rcases hr1 with ⟨q0, rfl⟩ | ⟨q0, q1, rfl⟩ | ⟨q0, q1, q2, rfl⟩ | ⟨q0, q1, q2, q3, rfl⟩ | ⟨q0, q1, q2, q3, rfl⟩
  · exact rm1_0 l Z a0 hw ws _ _ h0 n0 Z0 SL q0
  · exact rm1_1 l Z a0 hw ws _ _ h0 n0 Z0 SR q0 q1
  · exact rm1_2 l Z a0 hw ws _ _ h0 n0 Z0 SW q0 q1 q2
  · exact rm1_3 l Z a0 hw ws _ _ h0 n0 Z0 SKL q0 q1 q2 q3
  · exact rm1_4 l Z a0 hw ws _ _ h0 n0 Z0 SKR q0 q1 q2 q3
theorem d2_0 : decode method_3_code 0 = .ok (.aload_n 0, 1) := by decide +kernel
theorem d2_1 : decode method_3_code 1 = .ok (.getstatic 14, 3) := by decide +kernel
theorem d2_4 : decode method_3_code 4 = .ok (.if_acmp .eq 10, 3) := by decide +kernel
theorem d2_14 : decode method_3_code 14 = .ok (.iconst 1, 1) := by decide +kernel
theorem d2_15 : decode method_3_code 15 = .ok (.goto 4, 3) := by decide +kernel
theorem d2_19 : decode method_3_code 19 = .ok (.ireturn, 1) := by decide +kernel
theorem pn_2 : plainName "com/example/kolok/kolok/KindWaitsForPinLaw" = true := by first | (simp [plainName, overriddenIn]; done) | decide +kernel
theorem ef_2 (m : MethodId) (x0 : Addr) : entryFrame m #[(.ref x0)] 1 = mkF m 0 #[.val (.ref x0)] [] := by first | (simp [entryFrame, mkF, argsToLocals, Value.category]; done) | rfl
set_option maxRecDepth 65536 in
set_option maxHeartbeats 40000000 in
theorem rm2_s (l : Launch) (Z : State) (a0 : Array Value) (hw : ∀ d ∈ tables_1, d.before a0 Z = true) (ws : List Jvm.Cond) (a1 : Addr) (w2 : Addr) (h0 : Heap) (n0 : Nat) (Z0 : n0 ≤ h0.size) (S_READ : Sta Z h0 "com/example/kolok/kolok/ContenderName$Kind" "READ" "Lcom/example/kolok/kolok/ContenderName$Kind;" (.ref w2)) (ha4 : a1 = w2) :
    MetFree l (⟨"com/example/kolok/kolok/KindWaitsForPinLaw", "reader", "(Lcom/example/kolok/kolok/ContenderName$Kind;)Z"⟩ : MethodName) (head1 (Jvm.Cond.code (⟨"com/example/kolok/kolok/KindWaitsForPinLaw", "reader", "(Lcom/example/kolok/kolok/ContenderName$Kind;)Z"⟩ : MethodName) method_3_code 1 (some .boolean) :: ws) ({ frames := 0, cells := 0, slots := 0, locals := 0 } : Room)) (fun a U => a = #[(.ref a1)] ∧ Z.Warmed39 U.vm ∧ U.heap = h0) (fun _ _ _ _ _ => True) (fun _ U o U' => ∃ v L, o = .returned v ∧ own_Qv (some (.int (1 : Int32))) h0 n0 v U'.heap L ∧ FrameEnd U o U' L ({ frames := 0, cells := 0, slots := 0, locals := 0 } : Room).cells ({ frames := 0, cells := 0, slots := 0, locals := 0 } : Room).slots) := by
  refine MetFree.of_bodySF (plainFor_of_name pn_2) hisR ?_
  intro p e s m args below meth c s₁ Bd hml0 hP hK
  obtain ⟨rfl, hZ, hh⟩ := hP
  have hx := Bd.exec
  have hby := Bd.bytes
  have hml : c.maxLocals = 1 := hml0
  have hown : s.vm.findClass "com/example/kolok/kolok/KindWaitsForPinLaw" = some m.cls := findClass_of_methodNamed Bd.named
  have hnm := (name_of_methodNamed Bd.named Bd.method).1
  have X0 : Stand p l e ({ frames := 0, cells := 0, slots := 0, locals := 0 } : Room) s m #[(.ref a1)] below meth c s₁ [] 0 0 := Stand.of_body Bd
  have e0 : s₁.heap = h0 := by rw [← hh, Bd.state]; rfl
  have N0 := Fr.nil n0
  have pre0 : ∀ t, Steps p.tables e below (s₁.setTop (mkF m 0 #[.val (.ref a1)] [])) t → Steps p.tables e below (s₁.setTop (entryFrame m #[(.ref a1)] 1)) t := fun t k => castTop (ef_2 m a1) k
  obtain ⟨T3, X3, e3, st3⟩ := getS2 X0 hx hZ hown (host := "") (Or.inl (hw _ (List.mem_of_getElem? (i := 13) rfl))) Via.refl e0 S_READ (g := (mkF m 1 #[.val (.ref a1)] [(.ref a1)])) rfl (hb hby d2_1)
  obtain ⟨fs, hr, hrun, hended, hW, hsame⟩ := X3.leave (v := some (.int (1 : Int32))) (fun h => by rw [Bd.returns] at h; cases h)
  refine ⟨_, _, pre0 _ ?_, hrun, hended, _, _, rfl, ?_, ⟨_, rfl⟩, hW, hsame.mono (by decide) (by decide)⟩
  · show Steps p.tables e below (s₁.setTop (mkF m 0 #[.val (.ref a1)] [])) _
    refine XS.aloadN X0.here hx rfl (hb hby d2_0) rfl rfl ?_
    show Steps p.tables e below (s₁.setTop (mkF m 1 #[.val (.ref a1)] [(.ref a1)])) _
    refine st3 _ ?_
    show Steps p.tables e below (T3.setTop (mkF m 4 #[.val (.ref a1)] [(.ref w2), (.ref a1)])) _
    refine Jvm.RoadKit.acmp (g := (mkF m 4 #[.val (.ref a1)] [(.ref w2), (.ref a1)])) X3 hx rfl rfl rfl (pc0 := 4) (pc' := 14) (same := true) rfl (hb hby d2_4) rfl (decide_eq_true (congrArg Value.ref ha4)) (by decide) (by decide) ?_
    show Steps p.tables e below (T3.setTop (mkF m 14 #[.val (.ref a1)] [])) _
    refine XS.iconst X3.here hx rfl (hb hby d2_14) ?_
    show Steps p.tables e below (T3.setTop (mkF m 15 #[.val (.ref a1)] [(.int (1 : Int32))])) _
    refine XS.goto X3.here hx rfl (pc0 := 15) (pc' := 19) rfl (hb hby d2_15) (by decide) (by decide) ?_
    show Steps p.tables e below (T3.setTop (mkF m 19 #[.val (.ref a1)] [(.int (1 : Int32))])) _
    exact retN X3 hx (t := .boolean) Bd.returns (by simp) (hb hby d2_19) hr
  · show own_Qv (some (.int (1 : Int32))) h0 n0 _ T3.heap _
    rw [e3]
    exact ⟨rfl, N0, rfl⟩
theorem d2_7 : decode method_3_code 7 = .ok (.aload_n 0, 1) := by decide +kernel
theorem d2_8 : decode method_3_code 8 = .ok (.getstatic 23, 3) := by decide +kernel
theorem d2_11 : decode method_3_code 11 = .ok (.if_acmp .ne 7, 3) := by decide +kernel
set_option maxRecDepth 65536 in
set_option maxHeartbeats 40000000 in
theorem rm2_f (l : Launch) (Z : State) (a0 : Array Value) (hw : ∀ d ∈ tables_1, d.before a0 Z = true) (ws : List Jvm.Cond) (a1 : Addr) (w2 : Addr) (w4 : Addr) (h0 : Heap) (n0 : Nat) (Z0 : n0 ≤ h0.size) (S_READ : Sta Z h0 "com/example/kolok/kolok/ContenderName$Kind" "READ" "Lcom/example/kolok/kolok/ContenderName$Kind;" (.ref w2)) (S_KAZOO_READ : Sta Z h0 "com/example/kolok/kolok/ContenderName$Kind" "KAZOO_READ" "Lcom/example/kolok/kolok/ContenderName$Kind;" (.ref w4)) (ha4 : ¬ (a1 = w2)) (ha11 : a1 = w4) :
    MetFree l (⟨"com/example/kolok/kolok/KindWaitsForPinLaw", "reader", "(Lcom/example/kolok/kolok/ContenderName$Kind;)Z"⟩ : MethodName) (head1 (Jvm.Cond.code (⟨"com/example/kolok/kolok/KindWaitsForPinLaw", "reader", "(Lcom/example/kolok/kolok/ContenderName$Kind;)Z"⟩ : MethodName) method_3_code 1 (some .boolean) :: ws) ({ frames := 0, cells := 0, slots := 0, locals := 0 } : Room)) (fun a U => a = #[(.ref a1)] ∧ Z.Warmed39 U.vm ∧ U.heap = h0) (fun _ _ _ _ _ => True) (fun _ U o U' => ∃ v L, o = .returned v ∧ own_Qv (some (.int (1 : Int32))) h0 n0 v U'.heap L ∧ FrameEnd U o U' L ({ frames := 0, cells := 0, slots := 0, locals := 0 } : Room).cells ({ frames := 0, cells := 0, slots := 0, locals := 0 } : Room).slots) := by
  refine MetFree.of_bodySF (plainFor_of_name pn_2) hisR ?_
  intro p e s m args below meth c s₁ Bd hml0 hP hK
  obtain ⟨rfl, hZ, hh⟩ := hP
  have hx := Bd.exec
  have hby := Bd.bytes
  have hml : c.maxLocals = 1 := hml0
  have hown : s.vm.findClass "com/example/kolok/kolok/KindWaitsForPinLaw" = some m.cls := findClass_of_methodNamed Bd.named
  have hnm := (name_of_methodNamed Bd.named Bd.method).1
  have X0 : Stand p l e ({ frames := 0, cells := 0, slots := 0, locals := 0 } : Room) s m #[(.ref a1)] below meth c s₁ [] 0 0 := Stand.of_body Bd
  have e0 : s₁.heap = h0 := by rw [← hh, Bd.state]; rfl
  have N0 := Fr.nil n0
  have pre0 : ∀ t, Steps p.tables e below (s₁.setTop (mkF m 0 #[.val (.ref a1)] [])) t → Steps p.tables e below (s₁.setTop (entryFrame m #[(.ref a1)] 1)) t := fun t k => castTop (ef_2 m a1) k
  obtain ⟨T3, X3, e3, st3⟩ := getS2 X0 hx hZ hown (host := "") (Or.inl (hw _ (List.mem_of_getElem? (i := 13) rfl))) Via.refl e0 S_READ (g := (mkF m 1 #[.val (.ref a1)] [(.ref a1)])) rfl (hb hby d2_1)
  obtain ⟨T5, X5, e5, st5⟩ := getS2 X3 hx hZ hown (host := "") (Or.inl (hw _ (List.mem_of_getElem? (i := 15) rfl))) Via.refl e3 S_KAZOO_READ (g := (mkF m 8 #[.val (.ref a1)] [(.ref a1)])) rfl (hb hby d2_8)
  obtain ⟨fs, hr, hrun, hended, hW, hsame⟩ := X5.leave (v := some (.int (1 : Int32))) (fun h => by rw [Bd.returns] at h; cases h)
  refine ⟨_, _, pre0 _ ?_, hrun, hended, _, _, rfl, ?_, ⟨_, rfl⟩, hW, hsame.mono (by decide) (by decide)⟩
  · show Steps p.tables e below (s₁.setTop (mkF m 0 #[.val (.ref a1)] [])) _
    refine XS.aloadN X0.here hx rfl (hb hby d2_0) rfl rfl ?_
    show Steps p.tables e below (s₁.setTop (mkF m 1 #[.val (.ref a1)] [(.ref a1)])) _
    refine st3 _ ?_
    show Steps p.tables e below (T3.setTop (mkF m 4 #[.val (.ref a1)] [(.ref w2), (.ref a1)])) _
    refine Jvm.RoadKit.acmp (g := (mkF m 4 #[.val (.ref a1)] [(.ref w2), (.ref a1)])) X3 hx rfl rfl rfl (pc0 := 4) (pc' := 7) (same := false) rfl (hb hby d2_4) rfl (decide_eq_false fun q => ha4 (Value.ref.inj q)) (by decide) (by decide) ?_
    show Steps p.tables e below (T3.setTop (mkF m 7 #[.val (.ref a1)] [])) _
    refine XS.aloadN X3.here hx rfl (hb hby d2_7) rfl rfl ?_
    show Steps p.tables e below (T3.setTop (mkF m 8 #[.val (.ref a1)] [(.ref a1)])) _
    refine st5 _ ?_
    show Steps p.tables e below (T5.setTop (mkF m 11 #[.val (.ref a1)] [(.ref w4), (.ref a1)])) _
    refine Jvm.RoadKit.acmp (g := (mkF m 11 #[.val (.ref a1)] [(.ref w4), (.ref a1)])) X5 hx rfl rfl rfl (pc0 := 11) (pc' := 14) (same := true) rfl (hb hby d2_11) rfl (decide_eq_true (congrArg Value.ref ha11)) (by decide) (by decide) ?_
    show Steps p.tables e below (T5.setTop (mkF m 14 #[.val (.ref a1)] [])) _
    refine XS.iconst X5.here hx rfl (hb hby d2_14) ?_
    show Steps p.tables e below (T5.setTop (mkF m 15 #[.val (.ref a1)] [(.int (1 : Int32))])) _
    refine XS.goto X5.here hx rfl (pc0 := 15) (pc' := 19) rfl (hb hby d2_15) (by decide) (by decide) ?_
    show Steps p.tables e below (T5.setTop (mkF m 19 #[.val (.ref a1)] [(.int (1 : Int32))])) _
    exact retN X5 hx (t := .boolean) Bd.returns (by simp) (hb hby d2_19) hr
  · show own_Qv (some (.int (1 : Int32))) h0 n0 _ T5.heap _
    rw [e5]
    exact ⟨rfl, N0, rfl⟩
theorem d2_18 : decode method_3_code 18 = .ok (.iconst 0, 1) := by decide +kernel
set_option maxRecDepth 65536 in
set_option maxHeartbeats 40000000 in
theorem rm2_n (l : Launch) (Z : State) (a0 : Array Value) (hw : ∀ d ∈ tables_1, d.before a0 Z = true) (ws : List Jvm.Cond) (a1 : Addr) (w2 : Addr) (w4 : Addr) (h0 : Heap) (n0 : Nat) (Z0 : n0 ≤ h0.size) (S_READ : Sta Z h0 "com/example/kolok/kolok/ContenderName$Kind" "READ" "Lcom/example/kolok/kolok/ContenderName$Kind;" (.ref w2)) (S_KAZOO_READ : Sta Z h0 "com/example/kolok/kolok/ContenderName$Kind" "KAZOO_READ" "Lcom/example/kolok/kolok/ContenderName$Kind;" (.ref w4)) (ha4 : ¬ (a1 = w2)) (ha11 : ¬ (a1 = w4)) :
    MetFree l (⟨"com/example/kolok/kolok/KindWaitsForPinLaw", "reader", "(Lcom/example/kolok/kolok/ContenderName$Kind;)Z"⟩ : MethodName) (head1 (Jvm.Cond.code (⟨"com/example/kolok/kolok/KindWaitsForPinLaw", "reader", "(Lcom/example/kolok/kolok/ContenderName$Kind;)Z"⟩ : MethodName) method_3_code 1 (some .boolean) :: ws) ({ frames := 0, cells := 0, slots := 0, locals := 0 } : Room)) (fun a U => a = #[(.ref a1)] ∧ Z.Warmed39 U.vm ∧ U.heap = h0) (fun _ _ _ _ _ => True) (fun _ U o U' => ∃ v L, o = .returned v ∧ own_Qv (some (.int (0 : Int32))) h0 n0 v U'.heap L ∧ FrameEnd U o U' L ({ frames := 0, cells := 0, slots := 0, locals := 0 } : Room).cells ({ frames := 0, cells := 0, slots := 0, locals := 0 } : Room).slots) := by
  refine MetFree.of_bodySF (plainFor_of_name pn_2) hisR ?_
  intro p e s m args below meth c s₁ Bd hml0 hP hK
  obtain ⟨rfl, hZ, hh⟩ := hP
  have hx := Bd.exec
  have hby := Bd.bytes
  have hml : c.maxLocals = 1 := hml0
  have hown : s.vm.findClass "com/example/kolok/kolok/KindWaitsForPinLaw" = some m.cls := findClass_of_methodNamed Bd.named
  have hnm := (name_of_methodNamed Bd.named Bd.method).1
  have X0 : Stand p l e ({ frames := 0, cells := 0, slots := 0, locals := 0 } : Room) s m #[(.ref a1)] below meth c s₁ [] 0 0 := Stand.of_body Bd
  have e0 : s₁.heap = h0 := by rw [← hh, Bd.state]; rfl
  have N0 := Fr.nil n0
  have pre0 : ∀ t, Steps p.tables e below (s₁.setTop (mkF m 0 #[.val (.ref a1)] [])) t → Steps p.tables e below (s₁.setTop (entryFrame m #[(.ref a1)] 1)) t := fun t k => castTop (ef_2 m a1) k
  obtain ⟨T3, X3, e3, st3⟩ := getS2 X0 hx hZ hown (host := "") (Or.inl (hw _ (List.mem_of_getElem? (i := 13) rfl))) Via.refl e0 S_READ (g := (mkF m 1 #[.val (.ref a1)] [(.ref a1)])) rfl (hb hby d2_1)
  obtain ⟨T5, X5, e5, st5⟩ := getS2 X3 hx hZ hown (host := "") (Or.inl (hw _ (List.mem_of_getElem? (i := 15) rfl))) Via.refl e3 S_KAZOO_READ (g := (mkF m 8 #[.val (.ref a1)] [(.ref a1)])) rfl (hb hby d2_8)
  obtain ⟨fs, hr, hrun, hended, hW, hsame⟩ := X5.leave (v := some (.int (0 : Int32))) (fun h => by rw [Bd.returns] at h; cases h)
  refine ⟨_, _, pre0 _ ?_, hrun, hended, _, _, rfl, ?_, ⟨_, rfl⟩, hW, hsame.mono (by decide) (by decide)⟩
  · show Steps p.tables e below (s₁.setTop (mkF m 0 #[.val (.ref a1)] [])) _
    refine XS.aloadN X0.here hx rfl (hb hby d2_0) rfl rfl ?_
    show Steps p.tables e below (s₁.setTop (mkF m 1 #[.val (.ref a1)] [(.ref a1)])) _
    refine st3 _ ?_
    show Steps p.tables e below (T3.setTop (mkF m 4 #[.val (.ref a1)] [(.ref w2), (.ref a1)])) _
    refine Jvm.RoadKit.acmp (g := (mkF m 4 #[.val (.ref a1)] [(.ref w2), (.ref a1)])) X3 hx rfl rfl rfl (pc0 := 4) (pc' := 7) (same := false) rfl (hb hby d2_4) rfl (decide_eq_false fun q => ha4 (Value.ref.inj q)) (by decide) (by decide) ?_
    show Steps p.tables e below (T3.setTop (mkF m 7 #[.val (.ref a1)] [])) _
    refine XS.aloadN X3.here hx rfl (hb hby d2_7) rfl rfl ?_
    show Steps p.tables e below (T3.setTop (mkF m 8 #[.val (.ref a1)] [(.ref a1)])) _
    refine st5 _ ?_
    show Steps p.tables e below (T5.setTop (mkF m 11 #[.val (.ref a1)] [(.ref w4), (.ref a1)])) _
    refine Jvm.RoadKit.acmp (g := (mkF m 11 #[.val (.ref a1)] [(.ref w4), (.ref a1)])) X5 hx rfl rfl rfl (pc0 := 11) (pc' := 18) (same := false) rfl (hb hby d2_11) rfl (decide_eq_false fun q => ha11 (Value.ref.inj q)) (by decide) (by decide) ?_
    show Steps p.tables e below (T5.setTop (mkF m 18 #[.val (.ref a1)] [])) _
    refine XS.iconst X5.here hx rfl (hb hby d2_18) ?_
    show Steps p.tables e below (T5.setTop (mkF m 19 #[.val (.ref a1)] [(.int (0 : Int32))])) _
    exact retN X5 hx (t := .boolean) Bd.returns (by simp) (hb hby d2_19) hr
  · show own_Qv (some (.int (0 : Int32))) h0 n0 _ T5.heap _
    rw [e5]
    exact ⟨rfl, N0, rfl⟩
theorem rm2_all (l : Launch) (Z : State) (a0 : Array Value) (hw : ∀ d ∈ tables_1, d.before a0 Z = true) (ws : List Jvm.Cond) (a1 : Addr) (wR wKR : Addr) (b : Int32) (h0 : Heap) (n0 : Nat) (Z0 : n0 ≤ h0.size) (SR : Sta Z h0 "com/example/kolok/kolok/ContenderName$Kind" "READ" "Lcom/example/kolok/kolok/ContenderName$Kind;" (.ref wR)) (SKR : Sta Z h0 "com/example/kolok/kolok/ContenderName$Kind" "KAZOO_READ" "Lcom/example/kolok/kolok/ContenderName$Kind;" (.ref wKR)) (hb1 : ((a1 = wR ∧ b = (1 : Int32)) ∨ (a1 ≠ wR ∧ a1 = wKR ∧ b = (1 : Int32)) ∨ (a1 ≠ wR ∧ a1 ≠ wKR ∧ b = (0 : Int32)))) :
    MetFree l (⟨"com/example/kolok/kolok/KindWaitsForPinLaw", "reader", "(Lcom/example/kolok/kolok/ContenderName$Kind;)Z"⟩ : MethodName) (head1 (Jvm.Cond.code (⟨"com/example/kolok/kolok/KindWaitsForPinLaw", "reader", "(Lcom/example/kolok/kolok/ContenderName$Kind;)Z"⟩ : MethodName) method_3_code 1 (some .boolean) :: ws) ({ frames := 0, cells := 0, slots := 0, locals := 0 } : Room)) (fun a U => a = #[(.ref a1)] ∧ Z.Warmed39 U.vm ∧ U.heap = h0) (fun _ _ _ _ _ => True) (fun _ U o U' => ∃ v L, o = .returned v ∧ own_Qv (some (.int b)) h0 n0 v U'.heap L ∧ FrameEnd U o U' L ({ frames := 0, cells := 0, slots := 0, locals := 0 } : Room).cells ({ frames := 0, cells := 0, slots := 0, locals := 0 } : Room).slots) := by
  rcases hb1 with ⟨q1, rfl⟩ | ⟨q1, q2, rfl⟩ | ⟨q1, q2, rfl⟩
  · exact rm2_s l Z a0 hw ws _ _ h0 n0 Z0 SR q1
  · exact rm2_f l Z a0 hw ws _ _ _ h0 n0 Z0 SR SKR q1 q2
  · exact rm2_n l Z a0 hw ws _ _ _ h0 n0 Z0 SR SKR q1 q2
theorem d3_0 : decode prog_3_method_4_code 0 = .ok (.aload_n 0, 1) := by decide +kernel
theorem d3_1 : decode prog_3_method_4_code 1 = .ok (.getfield 42, 3) := by decide +kernel
theorem d3_4 : decode prog_3_method_4_code 4 = .ok (.ifCond .eq 10, 3) := by decide +kernel
theorem d3_14 : decode prog_3_method_4_code 14 = .ok (.iconst 1, 1) := by decide +kernel
theorem d3_15 : decode prog_3_method_4_code 15 = .ok (.goto 4, 3) := by decide +kernel
theorem d3_19 : decode prog_3_method_4_code 19 = .ok (.ireturn, 1) := by decide +kernel
theorem pn_3 : plainName "com/example/kolok/kolok/ContenderName$Kind" = true := by first | (simp [plainName, overriddenIn]; done) | decide +kernel
theorem ef_3 (m : MethodId) (x0 : Addr) (x1 : Addr) : entryFrame m #[(.ref x0), (.ref x1)] 2 = mkF m 0 #[.val (.ref x0), .val (.ref x1)] [] := by first | (simp [entryFrame, mkF, argsToLocals, Value.category]; done) | rfl
set_option maxRecDepth 65536 in
set_option maxHeartbeats 40000000 in
theorem rm3_a (l : Launch) (Z : State) (a0 : Array Value) (hw : ∀ d ∈ tables_1, d.before a0 Z = true) (ws : List Jvm.Cond) (a1 : Addr) (a2 : Addr) (w3 : Int32) (h0 : Heap) (n0 : Nat) (Z0 : n0 ≤ h0.size) (F_shared_a1 : Fld Z h0 a1 "com/example/kolok/kolok/ContenderName$Kind" "shared" "Z" (.int w3)) (hc4 : w3 = (0 : Int32)) :
    MetFree l (⟨"com/example/kolok/kolok/ContenderName$Kind", "waitsFor", "(Lcom/example/kolok/kolok/ContenderName$Kind;)Z"⟩ : MethodName) (head1 (Jvm.Cond.code (⟨"com/example/kolok/kolok/ContenderName$Kind", "waitsFor", "(Lcom/example/kolok/kolok/ContenderName$Kind;)Z"⟩ : MethodName) prog_3_method_4_code 2 (some .boolean) :: ws) ({ frames := 0, cells := 0, slots := 0, locals := 0 } : Room)) (fun a U => a = #[(.ref a1), (.ref a2)] ∧ Z.Warmed39 U.vm ∧ U.heap = h0) (fun _ _ _ _ _ => True) (fun _ U o U' => ∃ v L, o = .returned v ∧ own_Qv (some (.int (1 : Int32))) h0 n0 v U'.heap L ∧ FrameEnd U o U' L ({ frames := 0, cells := 0, slots := 0, locals := 0 } : Room).cells ({ frames := 0, cells := 0, slots := 0, locals := 0 } : Room).slots) := by
  refine MetFree.of_bodySF (plainFor_of_name pn_3) hisR ?_
  intro p e s m args below meth c s₁ Bd hml0 hP hK
  obtain ⟨rfl, hZ, hh⟩ := hP
  have hx := Bd.exec
  have hby := Bd.bytes
  have hml : c.maxLocals = 2 := hml0
  have hown : s.vm.findClass "com/example/kolok/kolok/ContenderName$Kind" = some m.cls := findClass_of_methodNamed Bd.named
  have hnm := (name_of_methodNamed Bd.named Bd.method).1
  have X0 : Stand p l e ({ frames := 0, cells := 0, slots := 0, locals := 0 } : Room) s m #[(.ref a1), (.ref a2)] below meth c s₁ [] 0 0 := Stand.of_body Bd
  have e0 : s₁.heap = h0 := by rw [← hh, Bd.state]; rfl
  have N0 := Fr.nil n0
  have pre0 : ∀ t, Steps p.tables e below (s₁.setTop (mkF m 0 #[.val (.ref a1), .val (.ref a2)] [])) t → Steps p.tables e below (s₁.setTop (entryFrame m #[(.ref a1), (.ref a2)] 2)) t := fun t k => castTop (ef_3 m a1 a2) k
  obtain ⟨T4, X4, e4, st4⟩ := getF X0 hx hZ hown (host := "") (Or.inl (hw _ (List.mem_of_getElem? (i := 22) rfl))) Via.refl e0 F_shared_a1 (g := (mkF m 1 #[.val (.ref a1), .val (.ref a2)] [(.ref a1)])) rfl rfl (hb hby d3_1)
  obtain ⟨fs, hr, hrun, hended, hW, hsame⟩ := X4.leave (v := some (.int (1 : Int32))) (fun h => by rw [Bd.returns] at h; cases h)
  refine ⟨_, _, pre0 _ ?_, hrun, hended, _, _, rfl, ?_, ⟨_, rfl⟩, hW, hsame.mono (by decide) (by decide)⟩
  · show Steps p.tables e below (s₁.setTop (mkF m 0 #[.val (.ref a1), .val (.ref a2)] [])) _
    refine XS.aloadN X0.here hx rfl (hb hby d3_0) rfl rfl ?_
    show Steps p.tables e below (s₁.setTop (mkF m 1 #[.val (.ref a1), .val (.ref a2)] [(.ref a1)])) _
    refine st4 _ ?_
    show Steps p.tables e below (T4.setTop (mkF m 4 #[.val (.ref a1), .val (.ref a2)] [(.int w3)])) _
    refine XS.ifYes X4.here hx rfl (pc0 := 4) (pc' := 14) rfl (hb hby d3_4) rfl ((if0 _ _).trans (teq hc4).1) (by decide) (by decide) ?_
    show Steps p.tables e below (T4.setTop (mkF m 14 #[.val (.ref a1), .val (.ref a2)] [])) _
    refine XS.iconst X4.here hx rfl (hb hby d3_14) ?_
    show Steps p.tables e below (T4.setTop (mkF m 15 #[.val (.ref a1), .val (.ref a2)] [(.int (1 : Int32))])) _
    refine XS.goto X4.here hx rfl (pc0 := 15) (pc' := 19) rfl (hb hby d3_15) (by decide) (by decide) ?_
    show Steps p.tables e below (T4.setTop (mkF m 19 #[.val (.ref a1), .val (.ref a2)] [(.int (1 : Int32))])) _
    exact retN X4 hx (t := .boolean) Bd.returns (by simp) (hb hby d3_19) hr
  · show own_Qv (some (.int (1 : Int32))) h0 n0 _ T4.heap _
    rw [e4]
    exact ⟨rfl, N0, rfl⟩
theorem d3_7 : decode prog_3_method_4_code 7 = .ok (.aload_n 1, 1) := by decide +kernel
theorem d3_8 : decode prog_3_method_4_code 8 = .ok (.getfield 42, 3) := by decide +kernel
theorem d3_11 : decode prog_3_method_4_code 11 = .ok (.ifCond .ne 7, 3) := by decide +kernel
set_option maxRecDepth 65536 in
set_option maxHeartbeats 40000000 in
theorem rm3_b (l : Launch) (Z : State) (a0 : Array Value) (hw : ∀ d ∈ tables_1, d.before a0 Z = true) (ws : List Jvm.Cond) (a1 : Addr) (a2 : Addr) (w3 : Int32) (w5 : Int32) (h0 : Heap) (n0 : Nat) (Z0 : n0 ≤ h0.size) (F_shared_a1 : Fld Z h0 a1 "com/example/kolok/kolok/ContenderName$Kind" "shared" "Z" (.int w3)) (F_shared_a2 : Fld Z h0 a2 "com/example/kolok/kolok/ContenderName$Kind" "shared" "Z" (.int w5)) (hc4 : ¬ (w3 = (0 : Int32))) (hc11 : w5 = (0 : Int32)) :
    MetFree l (⟨"com/example/kolok/kolok/ContenderName$Kind", "waitsFor", "(Lcom/example/kolok/kolok/ContenderName$Kind;)Z"⟩ : MethodName) (head1 (Jvm.Cond.code (⟨"com/example/kolok/kolok/ContenderName$Kind", "waitsFor", "(Lcom/example/kolok/kolok/ContenderName$Kind;)Z"⟩ : MethodName) prog_3_method_4_code 2 (some .boolean) :: ws) ({ frames := 0, cells := 0, slots := 0, locals := 0 } : Room)) (fun a U => a = #[(.ref a1), (.ref a2)] ∧ Z.Warmed39 U.vm ∧ U.heap = h0) (fun _ _ _ _ _ => True) (fun _ U o U' => ∃ v L, o = .returned v ∧ own_Qv (some (.int (1 : Int32))) h0 n0 v U'.heap L ∧ FrameEnd U o U' L ({ frames := 0, cells := 0, slots := 0, locals := 0 } : Room).cells ({ frames := 0, cells := 0, slots := 0, locals := 0 } : Room).slots) := by
  refine MetFree.of_bodySF (plainFor_of_name pn_3) hisR ?_
  intro p e s m args below meth c s₁ Bd hml0 hP hK
  obtain ⟨rfl, hZ, hh⟩ := hP
  have hx := Bd.exec
  have hby := Bd.bytes
  have hml : c.maxLocals = 2 := hml0
  have hown : s.vm.findClass "com/example/kolok/kolok/ContenderName$Kind" = some m.cls := findClass_of_methodNamed Bd.named
  have hnm := (name_of_methodNamed Bd.named Bd.method).1
  have X0 : Stand p l e ({ frames := 0, cells := 0, slots := 0, locals := 0 } : Room) s m #[(.ref a1), (.ref a2)] below meth c s₁ [] 0 0 := Stand.of_body Bd
  have e0 : s₁.heap = h0 := by rw [← hh, Bd.state]; rfl
  have N0 := Fr.nil n0
  have pre0 : ∀ t, Steps p.tables e below (s₁.setTop (mkF m 0 #[.val (.ref a1), .val (.ref a2)] [])) t → Steps p.tables e below (s₁.setTop (entryFrame m #[(.ref a1), (.ref a2)] 2)) t := fun t k => castTop (ef_3 m a1 a2) k
  obtain ⟨T4, X4, e4, st4⟩ := getF X0 hx hZ hown (host := "") (Or.inl (hw _ (List.mem_of_getElem? (i := 22) rfl))) Via.refl e0 F_shared_a1 (g := (mkF m 1 #[.val (.ref a1), .val (.ref a2)] [(.ref a1)])) rfl rfl (hb hby d3_1)
  obtain ⟨T6, X6, e6, st6⟩ := getF X4 hx hZ hown (host := "") (Or.inl (hw _ (List.mem_of_getElem? (i := 22) rfl))) Via.refl e4 F_shared_a2 (g := (mkF m 8 #[.val (.ref a1), .val (.ref a2)] [(.ref a2)])) rfl rfl (hb hby d3_8)
  obtain ⟨fs, hr, hrun, hended, hW, hsame⟩ := X6.leave (v := some (.int (1 : Int32))) (fun h => by rw [Bd.returns] at h; cases h)
  refine ⟨_, _, pre0 _ ?_, hrun, hended, _, _, rfl, ?_, ⟨_, rfl⟩, hW, hsame.mono (by decide) (by decide)⟩
  · show Steps p.tables e below (s₁.setTop (mkF m 0 #[.val (.ref a1), .val (.ref a2)] [])) _
    refine XS.aloadN X0.here hx rfl (hb hby d3_0) rfl rfl ?_
    show Steps p.tables e below (s₁.setTop (mkF m 1 #[.val (.ref a1), .val (.ref a2)] [(.ref a1)])) _
    refine st4 _ ?_
    show Steps p.tables e below (T4.setTop (mkF m 4 #[.val (.ref a1), .val (.ref a2)] [(.int w3)])) _
    refine XS.ifNo X4.here hx rfl (hb hby d3_4) rfl ((if0 _ _).trans (feq hc4).1) ?_
    show Steps p.tables e below (T4.setTop (mkF m 7 #[.val (.ref a1), .val (.ref a2)] [])) _
    refine XS.aloadN X4.here hx rfl (hb hby d3_7) rfl rfl ?_
    show Steps p.tables e below (T4.setTop (mkF m 8 #[.val (.ref a1), .val (.ref a2)] [(.ref a2)])) _
    refine st6 _ ?_
    show Steps p.tables e below (T6.setTop (mkF m 11 #[.val (.ref a1), .val (.ref a2)] [(.int w5)])) _
    refine XS.ifNo X6.here hx rfl (hb hby d3_11) rfl ((if0 _ _).trans (teq hc11).2) ?_
    show Steps p.tables e below (T6.setTop (mkF m 14 #[.val (.ref a1), .val (.ref a2)] [])) _
    refine XS.iconst X6.here hx rfl (hb hby d3_14) ?_
    show Steps p.tables e below (T6.setTop (mkF m 15 #[.val (.ref a1), .val (.ref a2)] [(.int (1 : Int32))])) _
    refine XS.goto X6.here hx rfl (pc0 := 15) (pc' := 19) rfl (hb hby d3_15) (by decide) (by decide) ?_
    show Steps p.tables e below (T6.setTop (mkF m 19 #[.val (.ref a1), .val (.ref a2)] [(.int (1 : Int32))])) _
    exact retN X6 hx (t := .boolean) Bd.returns (by simp) (hb hby d3_19) hr
  · show own_Qv (some (.int (1 : Int32))) h0 n0 _ T6.heap _
    rw [e6]
    exact ⟨rfl, N0, rfl⟩
theorem d3_18 : decode prog_3_method_4_code 18 = .ok (.iconst 0, 1) := by decide +kernel
set_option maxRecDepth 65536 in
set_option maxHeartbeats 40000000 in
theorem rm3_c (l : Launch) (Z : State) (a0 : Array Value) (hw : ∀ d ∈ tables_1, d.before a0 Z = true) (ws : List Jvm.Cond) (a1 : Addr) (a2 : Addr) (w3 : Int32) (w5 : Int32) (h0 : Heap) (n0 : Nat) (Z0 : n0 ≤ h0.size) (F_shared_a1 : Fld Z h0 a1 "com/example/kolok/kolok/ContenderName$Kind" "shared" "Z" (.int w3)) (F_shared_a2 : Fld Z h0 a2 "com/example/kolok/kolok/ContenderName$Kind" "shared" "Z" (.int w5)) (hc4 : ¬ (w3 = (0 : Int32))) (hc11 : ¬ (w5 = (0 : Int32))) :
    MetFree l (⟨"com/example/kolok/kolok/ContenderName$Kind", "waitsFor", "(Lcom/example/kolok/kolok/ContenderName$Kind;)Z"⟩ : MethodName) (head1 (Jvm.Cond.code (⟨"com/example/kolok/kolok/ContenderName$Kind", "waitsFor", "(Lcom/example/kolok/kolok/ContenderName$Kind;)Z"⟩ : MethodName) prog_3_method_4_code 2 (some .boolean) :: ws) ({ frames := 0, cells := 0, slots := 0, locals := 0 } : Room)) (fun a U => a = #[(.ref a1), (.ref a2)] ∧ Z.Warmed39 U.vm ∧ U.heap = h0) (fun _ _ _ _ _ => True) (fun _ U o U' => ∃ v L, o = .returned v ∧ own_Qv (some (.int (0 : Int32))) h0 n0 v U'.heap L ∧ FrameEnd U o U' L ({ frames := 0, cells := 0, slots := 0, locals := 0 } : Room).cells ({ frames := 0, cells := 0, slots := 0, locals := 0 } : Room).slots) := by
  refine MetFree.of_bodySF (plainFor_of_name pn_3) hisR ?_
  intro p e s m args below meth c s₁ Bd hml0 hP hK
  obtain ⟨rfl, hZ, hh⟩ := hP
  have hx := Bd.exec
  have hby := Bd.bytes
  have hml : c.maxLocals = 2 := hml0
  have hown : s.vm.findClass "com/example/kolok/kolok/ContenderName$Kind" = some m.cls := findClass_of_methodNamed Bd.named
  have hnm := (name_of_methodNamed Bd.named Bd.method).1
  have X0 : Stand p l e ({ frames := 0, cells := 0, slots := 0, locals := 0 } : Room) s m #[(.ref a1), (.ref a2)] below meth c s₁ [] 0 0 := Stand.of_body Bd
  have e0 : s₁.heap = h0 := by rw [← hh, Bd.state]; rfl
  have N0 := Fr.nil n0
  have pre0 : ∀ t, Steps p.tables e below (s₁.setTop (mkF m 0 #[.val (.ref a1), .val (.ref a2)] [])) t → Steps p.tables e below (s₁.setTop (entryFrame m #[(.ref a1), (.ref a2)] 2)) t := fun t k => castTop (ef_3 m a1 a2) k
  obtain ⟨T4, X4, e4, st4⟩ := getF X0 hx hZ hown (host := "") (Or.inl (hw _ (List.mem_of_getElem? (i := 22) rfl))) Via.refl e0 F_shared_a1 (g := (mkF m 1 #[.val (.ref a1), .val (.ref a2)] [(.ref a1)])) rfl rfl (hb hby d3_1)
  obtain ⟨T6, X6, e6, st6⟩ := getF X4 hx hZ hown (host := "") (Or.inl (hw _ (List.mem_of_getElem? (i := 22) rfl))) Via.refl e4 F_shared_a2 (g := (mkF m 8 #[.val (.ref a1), .val (.ref a2)] [(.ref a2)])) rfl rfl (hb hby d3_8)
  obtain ⟨fs, hr, hrun, hended, hW, hsame⟩ := X6.leave (v := some (.int (0 : Int32))) (fun h => by rw [Bd.returns] at h; cases h)
  refine ⟨_, _, pre0 _ ?_, hrun, hended, _, _, rfl, ?_, ⟨_, rfl⟩, hW, hsame.mono (by decide) (by decide)⟩
  · show Steps p.tables e below (s₁.setTop (mkF m 0 #[.val (.ref a1), .val (.ref a2)] [])) _
    refine XS.aloadN X0.here hx rfl (hb hby d3_0) rfl rfl ?_
    show Steps p.tables e below (s₁.setTop (mkF m 1 #[.val (.ref a1), .val (.ref a2)] [(.ref a1)])) _
    refine st4 _ ?_
    show Steps p.tables e below (T4.setTop (mkF m 4 #[.val (.ref a1), .val (.ref a2)] [(.int w3)])) _
    refine XS.ifNo X4.here hx rfl (hb hby d3_4) rfl ((if0 _ _).trans (feq hc4).1) ?_
    show Steps p.tables e below (T4.setTop (mkF m 7 #[.val (.ref a1), .val (.ref a2)] [])) _
    refine XS.aloadN X4.here hx rfl (hb hby d3_7) rfl rfl ?_
    show Steps p.tables e below (T4.setTop (mkF m 8 #[.val (.ref a1), .val (.ref a2)] [(.ref a2)])) _
    refine st6 _ ?_
    show Steps p.tables e below (T6.setTop (mkF m 11 #[.val (.ref a1), .val (.ref a2)] [(.int w5)])) _
    refine XS.ifYes X6.here hx rfl (pc0 := 11) (pc' := 18) rfl (hb hby d3_11) rfl ((if0 _ _).trans (feq hc11).2) (by decide) (by decide) ?_
    show Steps p.tables e below (T6.setTop (mkF m 18 #[.val (.ref a1), .val (.ref a2)] [])) _
    refine XS.iconst X6.here hx rfl (hb hby d3_18) ?_
    show Steps p.tables e below (T6.setTop (mkF m 19 #[.val (.ref a1), .val (.ref a2)] [(.int (0 : Int32))])) _
    exact retN X6 hx (t := .boolean) Bd.returns (by simp) (hb hby d3_19) hr
  · show own_Qv (some (.int (0 : Int32))) h0 n0 _ T6.heap _
    rw [e6]
    exact ⟨rfl, N0, rfl⟩
theorem rm3_all (l : Launch) (Z : State) (a0 : Array Value) (hw : ∀ d ∈ tables_1, d.before a0 Z = true) (ws : List Jvm.Cond) (a1 a2 : Addr) (w3 w5 b : Int32) (h0 : Heap) (n0 : Nat) (Z0 : n0 ≤ h0.size) (F1 : Fld Z h0 a1 "com/example/kolok/kolok/ContenderName$Kind" "shared" "Z" (.int w3)) (F2 : Fld Z h0 a2 "com/example/kolok/kolok/ContenderName$Kind" "shared" "Z" (.int w5)) (hb3 : (w3 = 0 ∧ b = (1 : Int32)) ∨ (¬ w3 = 0 ∧ w5 = 0 ∧ b = (1 : Int32)) ∨ (¬ w3 = 0 ∧ ¬ w5 = 0 ∧ b = (0 : Int32))) :
    MetFree l (⟨"com/example/kolok/kolok/ContenderName$Kind", "waitsFor", "(Lcom/example/kolok/kolok/ContenderName$Kind;)Z"⟩ : MethodName) (head1 (Jvm.Cond.code (⟨"com/example/kolok/kolok/ContenderName$Kind", "waitsFor", "(Lcom/example/kolok/kolok/ContenderName$Kind;)Z"⟩ : MethodName) prog_3_method_4_code 2 (some .boolean) :: ws) ({ frames := 0, cells := 0, slots := 0, locals := 0 } : Room)) (fun a U => a = #[(.ref a1), (.ref a2)] ∧ Z.Warmed39 U.vm ∧ U.heap = h0) (fun _ _ _ _ _ => True) (fun _ U o U' => ∃ v L, o = .returned v ∧ own_Qv (some (.int b)) h0 n0 v U'.heap L ∧ FrameEnd U o U' L ({ frames := 0, cells := 0, slots := 0, locals := 0 } : Room).cells ({ frames := 0, cells := 0, slots := 0, locals := 0 } : Room).slots) := by
  rcases hb3 with ⟨q1, rfl⟩ | ⟨q1, q2, rfl⟩ | ⟨q1, q2, rfl⟩
  · exact rm3_a l Z a0 hw ws _ _ _ h0 n0 Z0 F1 q1
  · exact rm3_b l Z a0 hw ws _ _ _ _ h0 n0 Z0 F1 F2 q1 q2
  · exact rm3_c l Z a0 hw ws _ _ _ _ h0 n0 Z0 F1 F2 q1 q2
theorem pn_0 : plainName "com/example/kolok/kolok/KindWaitsForPinLaw" = true := by first | (simp [plainName, overriddenIn]; done) | decide +kernel
theorem pd_0_0 : parseMethodDescriptor "(I)Lcom/example/kolok/kolok/ContenderName$Kind;" = some ⟨[.int], some (.object "com/example/kolok/kolok/ContenderName$Kind")⟩ := by decide +kernel
theorem pd_0_1 : parseMethodDescriptor "(Lcom/example/kolok/kolok/ContenderName$Kind;)Z" = some ⟨[(.object "com/example/kolok/kolok/ContenderName$Kind")], some .boolean⟩ := by decide +kernel
theorem ef_0 (m : MethodId) (x0 : Int32) (x1 : Int32) : entryFrame m #[(.int x0), (.int x1)] maxLocals = mkF m 0 #[.val (.int x0), .val (.int x1), .unset, .unset, .unset] [] := by first | (simp [entryFrame, mkF, argsToLocals, Value.category, maxLocals]; done) | rfl
set_option maxRecDepth 65536 in
set_option maxHeartbeats 40000000 in
theorem rm0_tf (l : Launch) (Z : State) (a0 : Array Value) (hw : ∀ d ∈ tables_1, d.before a0 Z = true) (ws : List Jvm.Cond) (p1 : Int32) (p2 : Int32) (wL wR wW wKL wKR r1 r2 : Addr) (s2 : Int32) (h0 : Heap) (n0 : Nat) (Z0 : n0 ≤ h0.size) (SL : Sta Z h0 "com/example/kolok/kolok/ContenderName$Kind" "LOCK" "Lcom/example/kolok/kolok/ContenderName$Kind;" (.ref wL)) (SR : Sta Z h0 "com/example/kolok/kolok/ContenderName$Kind" "READ" "Lcom/example/kolok/kolok/ContenderName$Kind;" (.ref wR)) (SW : Sta Z h0 "com/example/kolok/kolok/ContenderName$Kind" "WRITE" "Lcom/example/kolok/kolok/ContenderName$Kind;" (.ref wW)) (SKL : Sta Z h0 "com/example/kolok/kolok/ContenderName$Kind" "KAZOO_LOCK" "Lcom/example/kolok/kolok/ContenderName$Kind;" (.ref wKL)) (SKR : Sta Z h0 "com/example/kolok/kolok/ContenderName$Kind" "KAZOO_READ" "Lcom/example/kolok/kolok/ContenderName$Kind;" (.ref wKR)) (hr1 : ((((p1 &&& (2147483647 : Int32)) % (5 : Int32)) = 0 ∧ r1 = wL) ∨ (¬ ((p1 &&& (2147483647 : Int32)) % (5 : Int32)) = 0 ∧ ((p1 &&& (2147483647 : Int32)) % (5 : Int32)) = 1 ∧ r1 = wR) ∨ (¬ ((p1 &&& (2147483647 : Int32)) % (5 : Int32)) = 0 ∧ ¬ ((p1 &&& (2147483647 : Int32)) % (5 : Int32)) = 1 ∧ ((p1 &&& (2147483647 : Int32)) % (5 : Int32)) = 2 ∧ r1 = wW) ∨ (¬ ((p1 &&& (2147483647 : Int32)) % (5 : Int32)) = 0 ∧ ¬ ((p1 &&& (2147483647 : Int32)) % (5 : Int32)) = 1 ∧ ¬ ((p1 &&& (2147483647 : Int32)) % (5 : Int32)) = 2 ∧ ((p1 &&& (2147483647 : Int32)) % (5 : Int32)) = 3 ∧ r1 = wKL) ∨ (¬ ((p1 &&& (2147483647 : Int32)) % (5 : Int32)) = 0 ∧ ¬ ((p1 &&& (2147483647 : Int32)) % (5 : Int32)) = 1 ∧ ¬ ((p1 &&& (2147483647 : Int32)) % (5 : Int32)) = 2 ∧ ¬ ((p1 &&& (2147483647 : Int32)) % (5 : Int32)) = 3 ∧ r1 = wKR))) (hr2 : ((((p2 &&& (2147483647 : Int32)) % (5 : Int32)) = 0 ∧ r2 = wL) ∨ (¬ ((p2 &&& (2147483647 : Int32)) % (5 : Int32)) = 0 ∧ ((p2 &&& (2147483647 : Int32)) % (5 : Int32)) = 1 ∧ r2 = wR) ∨ (¬ ((p2 &&& (2147483647 : Int32)) % (5 : Int32)) = 0 ∧ ¬ ((p2 &&& (2147483647 : Int32)) % (5 : Int32)) = 1 ∧ ((p2 &&& (2147483647 : Int32)) % (5 : Int32)) = 2 ∧ r2 = wW) ∨ (¬ ((p2 &&& (2147483647 : Int32)) % (5 : Int32)) = 0 ∧ ¬ ((p2 &&& (2147483647 : Int32)) % (5 : Int32)) = 1 ∧ ¬ ((p2 &&& (2147483647 : Int32)) % (5 : Int32)) = 2 ∧ ((p2 &&& (2147483647 : Int32)) % (5 : Int32)) = 3 ∧ r2 = wKL) ∨ (¬ ((p2 &&& (2147483647 : Int32)) % (5 : Int32)) = 0 ∧ ¬ ((p2 &&& (2147483647 : Int32)) % (5 : Int32)) = 1 ∧ ¬ ((p2 &&& (2147483647 : Int32)) % (5 : Int32)) = 2 ∧ ¬ ((p2 &&& (2147483647 : Int32)) % (5 : Int32)) = 3 ∧ r2 = wKR))) (F1 : Fld Z h0 r1 "com/example/kolok/kolok/ContenderName$Kind" "shared" "Z" (.int (0 : Int32))) (F2 : Fld Z h0 r2 "com/example/kolok/kolok/ContenderName$Kind" "shared" "Z" (.int s2)) (hb1 : ((r1 = wR ∧ (0 : Int32) = (1 : Int32)) ∨ (r1 ≠ wR ∧ r1 = wKR ∧ (0 : Int32) = (1 : Int32)) ∨ (r1 ≠ wR ∧ r1 ≠ wKR ∧ (0 : Int32) = (0 : Int32)))) (hb2 : ((r2 = wR ∧ s2 = (1 : Int32)) ∨ (r2 ≠ wR ∧ r2 = wKR ∧ s2 = (1 : Int32)) ∨ (r2 ≠ wR ∧ r2 ≠ wKR ∧ s2 = (0 : Int32)))) (E_r1 : Exa Z h0 r1 "com/example/kolok/kolok/ContenderName$Kind") :
    MetFree l x (head1 (Jvm.Cond.code x code maxLocals ret :: ws) room_1) (fun a U => a = #[(.int p1), (.int p2)] ∧ Z.Warmed39 U.vm ∧ U.heap = h0) (fun _ _ _ _ _ => True) (fun _ U o U' => ∃ v L, o = .returned v ∧ own_Q0 h0 n0 v U'.heap L ∧ FrameEnd U o U' L room_1.cells room_1.slots) := by
  refine MetFree.of_bodySF (plainFor_of_name pn_0) hisR ?_
  intro p e s m args below meth c s₁ Bd hml0 hP hK
  obtain ⟨rfl, hZ, hh⟩ := hP
  have hx := Bd.exec
  have hby := Bd.bytes
  have hml : c.maxLocals = 5 := hml0
  have hown : s.vm.findClass "com/example/kolok/kolok/KindWaitsForPinLaw" = some m.cls := findClass_of_methodNamed Bd.named
  have hnm := (name_of_methodNamed Bd.named Bd.method).1
  have X0 : Stand p l e room_1 s m #[(.int p1), (.int p2)] below meth c s₁ [] 0 0 := Stand.of_body Bd
  have e0 : s₁.heap = h0 := by rw [← hh, Bd.state]; rfl
  have N0 := Fr.nil n0
  have pre0 : ∀ t, Steps p.tables e below (s₁.setTop (mkF m 0 #[.val (.int p1), .val (.int p2), .unset, .unset, .unset] [])) t → Steps p.tables e below (s₁.setTop (entryFrame m #[(.int p1), (.int p2)] maxLocals)) t := fun t k => castTop (ef_0 m p1 p2) k
  obtain ⟨_, _, ⟨T3, L3, k3, n3⟩, -, X3, ⟨Lc3, hQ3, l3, y3, z3⟩, st3⟩ := Jvm.LawKit.callS X0 hx (y := (⟨"com/example/kolok/kolok/KindWaitsForPinLaw", "pick", "(I)Lcom/example/kolok/kolok/ContenderName$Kind;"⟩ : MethodName)) hown (mvT hZ (hw _ (List.mem_of_getElem? (i := 0) rfl))) (mvT hZ (hw _ (List.mem_of_getElem? (i := 1) rfl))) (mvT hZ (hw _ (List.mem_of_getElem? (i := 2) rfl))) (mvT hZ (hw _ (List.mem_of_getElem? (i := 3) rfl))) (by decide) (backOf (W := 0) (rm1_all l Z a0 hw [] p1 wL wR wW wKL wKR r1 h0 n0 Z0 SL SR SW SKL SKR hr1) hZ (hw _ (List.mem_of_getElem? (i := 3) rfl)) (hw _ (List.mem_of_getElem? (i := 2) rfl)) (by decide) (by decide)) (g := (mkF m 1 #[.val (.int p1), .val (.int p2), .unset, .unset, .unset] [(.int p1)])) rfl (by rw [hml]; rfl) (argsL := [(.int p1)]) (rest := []) (lenOf pd_0_0 rfl) rfl (by show 2 * 0 + _ ≤ _; exact Nat.le_of_eq rfl) (hb hby at_1) (fun _ _ => ⟨rfl, e0, (by decide : 0 + 0 ≤ _), (by decide : 0 + 0 ≤ _)⟩)
  dsimp only [Pt.U, Pt.locs, Pt.cells, Pt.slots] at X3 l3 y3 z3 st3 hQ3
  subst l3 y3 z3
  obtain ⟨rfl, N3q, eh3⟩ := hQ3
  have N3 := Fr.app N0 N3q
  obtain ⟨_, _, ⟨T4, L4, k4, n4⟩, -, X4, ⟨Lc4, hQ4, l4, y4, z4⟩, st4⟩ := Jvm.LawKit.callS X3 hx (y := (⟨"com/example/kolok/kolok/KindWaitsForPinLaw", "pick", "(I)Lcom/example/kolok/kolok/ContenderName$Kind;"⟩ : MethodName)) hown (mvT hZ (hw _ (List.mem_of_getElem? (i := 0) rfl))) (mvT hZ (hw _ (List.mem_of_getElem? (i := 1) rfl))) (mvT hZ (hw _ (List.mem_of_getElem? (i := 2) rfl))) (mvT hZ (hw _ (List.mem_of_getElem? (i := 3) rfl))) (by decide) (backOf (W := 0) (rm1_all l Z a0 hw [] p2 wL wR wW wKL wKR r2 h0 n0 Z0 SL SR SW SKL SKR hr2) hZ (hw _ (List.mem_of_getElem? (i := 3) rfl)) (hw _ (List.mem_of_getElem? (i := 2) rfl)) (by decide) (by decide)) (g := (mkF m 6 #[.val (.int p1), .val (.int p2), .val (.ref r1), .unset, .unset] [(.int p2)])) rfl (by rw [hml]; rfl) (argsL := [(.int p2)]) (rest := []) (lenOf pd_0_0 rfl) rfl (by show 2 * 0 + _ ≤ _; exact Nat.le_of_eq rfl) (hb hby at_6) (fun _ _ => ⟨rfl, eh3, (by decide : 0 + 0 ≤ _), (by decide : 0 + 0 ≤ _)⟩)
  dsimp only [Pt.U, Pt.locs, Pt.cells, Pt.slots] at X4 l4 y4 z4 st4 hQ4
  subst l4 y4 z4
  obtain ⟨rfl, N4q, eh4⟩ := hQ4
  have N4 := Fr.app N3 N4q
  obtain ⟨_, _, ⟨T5, L5, k5, n5⟩, -, X5, ⟨Lc5, hQ5, l5, y5, z5⟩, st5⟩ := Jvm.LawKit.callS X4 hx (y := (⟨"com/example/kolok/kolok/KindWaitsForPinLaw", "reader", "(Lcom/example/kolok/kolok/ContenderName$Kind;)Z"⟩ : MethodName)) hown (mvT hZ (hw _ (List.mem_of_getElem? (i := 10) rfl))) (mvT hZ (hw _ (List.mem_of_getElem? (i := 11) rfl))) (mvT hZ (hw _ (List.mem_of_getElem? (i := 2) rfl))) (mvT hZ (hw _ (List.mem_of_getElem? (i := 12) rfl))) (by decide) (backOf (W := 0) (rm2_all l Z a0 hw [] r1 wR wKR (0 : Int32) h0 n0 Z0 SR SKR hb1) hZ (hw _ (List.mem_of_getElem? (i := 12) rfl)) (hw _ (List.mem_of_getElem? (i := 2) rfl)) (by decide) (by decide)) (g := (mkF m 11 #[.val (.int p1), .val (.int p2), .val (.ref r1), .val (.ref r2), .unset] [(.ref r1)])) rfl (by rw [hml]; rfl) (argsL := [(.ref r1)]) (rest := []) (lenOf pd_0_1 rfl) rfl (by show 2 * 0 + _ ≤ _; exact Nat.le_of_eq rfl) (hb hby at_11) (fun _ _ => ⟨rfl, eh4, (by decide : 0 + 0 ≤ _), (by decide : 0 + 0 ≤ _)⟩)
  dsimp only [Pt.U, Pt.locs, Pt.cells, Pt.slots] at X5 l5 y5 z5 st5 hQ5
  subst l5 y5 z5
  obtain ⟨rfl, N5q, eh5⟩ := hQ5
  have N5 := Fr.app N4 N5q
  obtain ⟨cq6, kq6, q6a, q6b, q6c⟩ := isOf hZ eh5 E_r1
  obtain ⟨_, _, ⟨T6, L6, k6, n6⟩, -, X6, ⟨Lc6, hQ6, l6, y6, z6⟩, st6⟩ := X5.virtualBack hx (y := (⟨"com/example/kolok/kolok/ContenderName$Kind", "waitsFor", "(Lcom/example/kolok/kolok/ContenderName$Kind;)Z"⟩ : MethodName)) (z := (⟨"com/example/kolok/kolok/ContenderName$Kind", "waitsFor", "(Lcom/example/kolok/kolok/ContenderName$Kind;)Z"⟩ : MethodName)) hown (mvT hZ (hw _ (List.mem_of_getElem? (i := 17) rfl))) (mvT hZ (hw _ (List.mem_of_getElem? (i := 18) rfl))) (notFace_of_selects (args := #[]) (mvT hZ (hw _ (List.mem_of_getElem? (i := 20) rfl)))) (mvT hZ (hw _ (List.mem_of_getElem? (i := 20) rfl))) (mvT hZ (hw _ (List.mem_of_getElem? (i := 19) rfl))) (by decide) (backOf (W := 0) (rm3_all l Z a0 hw [] r1 r2 (0 : Int32) s2 (1 : Int32) h0 n0 Z0 F1 F2 (Or.inl ⟨rfl, rfl⟩)) hZ (hw _ (List.mem_of_getElem? (i := 21) rfl)) (hw _ (List.mem_of_getElem? (i := 6) rfl)) (by decide) (by decide)) q6a q6c (g := (mkF m 33 #[.val (.int p1), .val (.int p2), .val (.ref r1), .val (.ref r2), .val (.int (1 : Int32))] [(.ref r2), (.ref r1)])) rfl (by rw [hml]; rfl) (Steps.refl _) (argsL := [(.ref r2)]) (rest := []) (lenOf pd_0_1 rfl) rfl (by show 2 * 0 + _ ≤ _; exact Nat.le_of_eq rfl) (hb hby at_33) (fun _ _ => ⟨rfl, eh5, (by decide : 0 + 0 ≤ _), (by decide : 0 + 0 ≤ _)⟩)
  dsimp only [Pt.U, Pt.locs, Pt.cells, Pt.slots] at X6 l6 y6 z6 st6 hQ6
  subst l6 y6 z6
  obtain ⟨rfl, N6q, eh6⟩ := hQ6
  have N6 := Fr.app N5 N6q
  obtain ⟨fs, hr, hrun, hended, hW, hsame⟩ := X6.leave (v := some (.int (1 : Int32))) (fun h => by rw [Bd.returns] at h; cases h)
  refine ⟨_, _, pre0 _ ?_, hrun, hended, _, _, rfl, ?_, ⟨_, rfl⟩, hW, hsame.mono (by decide) (by decide)⟩
  · show Steps p.tables e below (s₁.setTop (mkF m 0 #[.val (.int p1), .val (.int p2), .unset, .unset, .unset] [])) _
    refine XS.iloadN X0.here hx rfl (hb hby at_0) rfl ?_
    show Steps p.tables e below (s₁.setTop (mkF m 1 #[.val (.int p1), .val (.int p2), .unset, .unset, .unset] [(.int p1)])) _
    refine st3 _ ?_
    show Steps p.tables e below (T3.setTop (mkF m 4 #[.val (.int p1), .val (.int p2), .unset, .unset, .unset] [(.ref r1)])) _
    refine XS.astoreN X3.here hx rfl (hb hby at_4) rfl rfl (l' := #[.val (.int p1), .val (.int p2), .val (.ref r1), .unset, .unset]) rfl ?_
    show Steps p.tables e below (T3.setTop (mkF m 5 #[.val (.int p1), .val (.int p2), .val (.ref r1), .unset, .unset] [])) _
    refine XS.iloadN X3.here hx rfl (hb hby at_5) rfl ?_
    show Steps p.tables e below (T3.setTop (mkF m 6 #[.val (.int p1), .val (.int p2), .val (.ref r1), .unset, .unset] [(.int p2)])) _
    refine st4 _ ?_
    show Steps p.tables e below (T4.setTop (mkF m 9 #[.val (.int p1), .val (.int p2), .val (.ref r1), .unset, .unset] [(.ref r2)])) _
    refine XS.astoreN X4.here hx rfl (hb hby at_9) rfl rfl (l' := #[.val (.int p1), .val (.int p2), .val (.ref r1), .val (.ref r2), .unset]) rfl ?_
    show Steps p.tables e below (T4.setTop (mkF m 10 #[.val (.int p1), .val (.int p2), .val (.ref r1), .val (.ref r2), .unset] [])) _
    refine XS.aloadN X4.here hx rfl (hb hby at_10) rfl rfl ?_
    show Steps p.tables e below (T4.setTop (mkF m 11 #[.val (.int p1), .val (.int p2), .val (.ref r1), .val (.ref r2), .unset] [(.ref r1)])) _
    refine st5 _ ?_
    show Steps p.tables e below (T5.setTop (mkF m 14 #[.val (.int p1), .val (.int p2), .val (.ref r1), .val (.ref r2), .unset] [(.int (0 : Int32))])) _
    refine XS.ifYes X5.here hx rfl (pc0 := 14) (pc' := 24) rfl (hb hby at_14) rfl ((if0 _ _).trans (teq (rfl : (0 : Int32) = (0 : Int32))).1) (by decide) (by decide) ?_
    show Steps p.tables e below (T5.setTop (mkF m 24 #[.val (.int p1), .val (.int p2), .val (.ref r1), .val (.ref r2), .unset] [])) _
    refine XS.iconst X5.here hx rfl (hb hby at_24) ?_
    show Steps p.tables e below (T5.setTop (mkF m 25 #[.val (.int p1), .val (.int p2), .val (.ref r1), .val (.ref r2), .unset] [(.int (1 : Int32))])) _
    refine XS.goto X5.here hx rfl (pc0 := 25) (pc' := 29) rfl (hb hby at_25) (by decide) (by decide) ?_
    show Steps p.tables e below (T5.setTop (mkF m 29 #[.val (.int p1), .val (.int p2), .val (.ref r1), .val (.ref r2), .unset] [(.int (1 : Int32))])) _
    refine XS.istore X5.here hx rfl (hb hby at_29) rfl (l' := #[.val (.int p1), .val (.int p2), .val (.ref r1), .val (.ref r2), .val (.int (1 : Int32))]) rfl ?_
    show Steps p.tables e below (T5.setTop (mkF m 31 #[.val (.int p1), .val (.int p2), .val (.ref r1), .val (.ref r2), .val (.int (1 : Int32))] [])) _
    refine XS.aloadN X5.here hx rfl (hb hby at_31) rfl rfl ?_
    show Steps p.tables e below (T5.setTop (mkF m 32 #[.val (.int p1), .val (.int p2), .val (.ref r1), .val (.ref r2), .val (.int (1 : Int32))] [(.ref r1)])) _
    refine XS.aloadN X5.here hx rfl (hb hby at_32) rfl rfl ?_
    show Steps p.tables e below (T5.setTop (mkF m 33 #[.val (.int p1), .val (.int p2), .val (.ref r1), .val (.ref r2), .val (.int (1 : Int32))] [(.ref r2), (.ref r1)])) _
    refine st6.trans ?_
    show Steps p.tables e below (T6.setTop (mkF m 36 #[.val (.int p1), .val (.int p2), .val (.ref r1), .val (.ref r2), .val (.int (1 : Int32))] [(.int (1 : Int32))])) _
    refine XS.iload X6.here hx rfl (hb hby at_36) rfl ?_
    show Steps p.tables e below (T6.setTop (mkF m 38 #[.val (.int p1), .val (.int p2), .val (.ref r1), .val (.ref r2), .val (.int (1 : Int32))] [(.int (1 : Int32)), (.int (1 : Int32))])) _
    refine XS.icmpNo X6.here hx rfl (hb hby at_38) rfl (teq (rfl : (1 : Int32) = (1 : Int32))).2 ?_
    show Steps p.tables e below (T6.setTop (mkF m 41 #[.val (.int p1), .val (.int p2), .val (.ref r1), .val (.ref r2), .val (.int (1 : Int32))] [])) _
    refine XS.iconst X6.here hx rfl (hb hby at_41) ?_
    show Steps p.tables e below (T6.setTop (mkF m 42 #[.val (.int p1), .val (.int p2), .val (.ref r1), .val (.ref r2), .val (.int (1 : Int32))] [(.int (1 : Int32))])) _
    refine XS.goto X6.here hx rfl (pc0 := 42) (pc' := 46) rfl (hb hby at_42) (by decide) (by decide) ?_
    show Steps p.tables e below (T6.setTop (mkF m 46 #[.val (.int p1), .val (.int p2), .val (.ref r1), .val (.ref r2), .val (.int (1 : Int32))] [(.int (1 : Int32))])) _
    exact retN X6 hx (t := .boolean) Bd.returns (by simp) (hb hby at_46) hr
  · show own_Q0 h0 n0 _ T6.heap _
    rw [eh6]
    exact ⟨rfl, N6⟩
set_option maxRecDepth 65536 in
set_option maxHeartbeats 40000000 in
theorem rm0_fff (l : Launch) (Z : State) (a0 : Array Value) (hw : ∀ d ∈ tables_1, d.before a0 Z = true) (ws : List Jvm.Cond) (p1 : Int32) (p2 : Int32) (wL wR wW wKL wKR r1 r2 : Addr) (h0 : Heap) (n0 : Nat) (Z0 : n0 ≤ h0.size) (SL : Sta Z h0 "com/example/kolok/kolok/ContenderName$Kind" "LOCK" "Lcom/example/kolok/kolok/ContenderName$Kind;" (.ref wL)) (SR : Sta Z h0 "com/example/kolok/kolok/ContenderName$Kind" "READ" "Lcom/example/kolok/kolok/ContenderName$Kind;" (.ref wR)) (SW : Sta Z h0 "com/example/kolok/kolok/ContenderName$Kind" "WRITE" "Lcom/example/kolok/kolok/ContenderName$Kind;" (.ref wW)) (SKL : Sta Z h0 "com/example/kolok/kolok/ContenderName$Kind" "KAZOO_LOCK" "Lcom/example/kolok/kolok/ContenderName$Kind;" (.ref wKL)) (SKR : Sta Z h0 "com/example/kolok/kolok/ContenderName$Kind" "KAZOO_READ" "Lcom/example/kolok/kolok/ContenderName$Kind;" (.ref wKR)) (hr1 : ((((p1 &&& (2147483647 : Int32)) % (5 : Int32)) = 0 ∧ r1 = wL) ∨ (¬ ((p1 &&& (2147483647 : Int32)) % (5 : Int32)) = 0 ∧ ((p1 &&& (2147483647 : Int32)) % (5 : Int32)) = 1 ∧ r1 = wR) ∨ (¬ ((p1 &&& (2147483647 : Int32)) % (5 : Int32)) = 0 ∧ ¬ ((p1 &&& (2147483647 : Int32)) % (5 : Int32)) = 1 ∧ ((p1 &&& (2147483647 : Int32)) % (5 : Int32)) = 2 ∧ r1 = wW) ∨ (¬ ((p1 &&& (2147483647 : Int32)) % (5 : Int32)) = 0 ∧ ¬ ((p1 &&& (2147483647 : Int32)) % (5 : Int32)) = 1 ∧ ¬ ((p1 &&& (2147483647 : Int32)) % (5 : Int32)) = 2 ∧ ((p1 &&& (2147483647 : Int32)) % (5 : Int32)) = 3 ∧ r1 = wKL) ∨ (¬ ((p1 &&& (2147483647 : Int32)) % (5 : Int32)) = 0 ∧ ¬ ((p1 &&& (2147483647 : Int32)) % (5 : Int32)) = 1 ∧ ¬ ((p1 &&& (2147483647 : Int32)) % (5 : Int32)) = 2 ∧ ¬ ((p1 &&& (2147483647 : Int32)) % (5 : Int32)) = 3 ∧ r1 = wKR))) (hr2 : ((((p2 &&& (2147483647 : Int32)) % (5 : Int32)) = 0 ∧ r2 = wL) ∨ (¬ ((p2 &&& (2147483647 : Int32)) % (5 : Int32)) = 0 ∧ ((p2 &&& (2147483647 : Int32)) % (5 : Int32)) = 1 ∧ r2 = wR) ∨ (¬ ((p2 &&& (2147483647 : Int32)) % (5 : Int32)) = 0 ∧ ¬ ((p2 &&& (2147483647 : Int32)) % (5 : Int32)) = 1 ∧ ((p2 &&& (2147483647 : Int32)) % (5 : Int32)) = 2 ∧ r2 = wW) ∨ (¬ ((p2 &&& (2147483647 : Int32)) % (5 : Int32)) = 0 ∧ ¬ ((p2 &&& (2147483647 : Int32)) % (5 : Int32)) = 1 ∧ ¬ ((p2 &&& (2147483647 : Int32)) % (5 : Int32)) = 2 ∧ ((p2 &&& (2147483647 : Int32)) % (5 : Int32)) = 3 ∧ r2 = wKL) ∨ (¬ ((p2 &&& (2147483647 : Int32)) % (5 : Int32)) = 0 ∧ ¬ ((p2 &&& (2147483647 : Int32)) % (5 : Int32)) = 1 ∧ ¬ ((p2 &&& (2147483647 : Int32)) % (5 : Int32)) = 2 ∧ ¬ ((p2 &&& (2147483647 : Int32)) % (5 : Int32)) = 3 ∧ r2 = wKR))) (F1 : Fld Z h0 r1 "com/example/kolok/kolok/ContenderName$Kind" "shared" "Z" (.int (1 : Int32))) (F2 : Fld Z h0 r2 "com/example/kolok/kolok/ContenderName$Kind" "shared" "Z" (.int (0 : Int32))) (hb1 : ((r1 = wR ∧ (1 : Int32) = (1 : Int32)) ∨ (r1 ≠ wR ∧ r1 = wKR ∧ (1 : Int32) = (1 : Int32)) ∨ (r1 ≠ wR ∧ r1 ≠ wKR ∧ (1 : Int32) = (0 : Int32)))) (hb2 : ((r2 = wR ∧ (0 : Int32) = (1 : Int32)) ∨ (r2 ≠ wR ∧ r2 = wKR ∧ (0 : Int32) = (1 : Int32)) ∨ (r2 ≠ wR ∧ r2 ≠ wKR ∧ (0 : Int32) = (0 : Int32)))) (E_r1 : Exa Z h0 r1 "com/example/kolok/kolok/ContenderName$Kind") :
    MetFree l x (head1 (Jvm.Cond.code x code maxLocals ret :: ws) room_1) (fun a U => a = #[(.int p1), (.int p2)] ∧ Z.Warmed39 U.vm ∧ U.heap = h0) (fun _ _ _ _ _ => True) (fun _ U o U' => ∃ v L, o = .returned v ∧ own_Q0 h0 n0 v U'.heap L ∧ FrameEnd U o U' L room_1.cells room_1.slots) := by
  refine MetFree.of_bodySF (plainFor_of_name pn_0) hisR ?_
  intro p e s m args below meth c s₁ Bd hml0 hP hK
  obtain ⟨rfl, hZ, hh⟩ := hP
  have hx := Bd.exec
  have hby := Bd.bytes
  have hml : c.maxLocals = 5 := hml0
  have hown : s.vm.findClass "com/example/kolok/kolok/KindWaitsForPinLaw" = some m.cls := findClass_of_methodNamed Bd.named
  have hnm := (name_of_methodNamed Bd.named Bd.method).1
  have X0 : Stand p l e room_1 s m #[(.int p1), (.int p2)] below meth c s₁ [] 0 0 := Stand.of_body Bd
  have e0 : s₁.heap = h0 := by rw [← hh, Bd.state]; rfl
  have N0 := Fr.nil n0
  have pre0 : ∀ t, Steps p.tables e below (s₁.setTop (mkF m 0 #[.val (.int p1), .val (.int p2), .unset, .unset, .unset] [])) t → Steps p.tables e below (s₁.setTop (entryFrame m #[(.int p1), (.int p2)] maxLocals)) t := fun t k => castTop (ef_0 m p1 p2) k
  obtain ⟨_, _, ⟨T3, L3, k3, n3⟩, -, X3, ⟨Lc3, hQ3, l3, y3, z3⟩, st3⟩ := Jvm.LawKit.callS X0 hx (y := (⟨"com/example/kolok/kolok/KindWaitsForPinLaw", "pick", "(I)Lcom/example/kolok/kolok/ContenderName$Kind;"⟩ : MethodName)) hown (mvT hZ (hw _ (List.mem_of_getElem? (i := 0) rfl))) (mvT hZ (hw _ (List.mem_of_getElem? (i := 1) rfl))) (mvT hZ (hw _ (List.mem_of_getElem? (i := 2) rfl))) (mvT hZ (hw _ (List.mem_of_getElem? (i := 3) rfl))) (by decide) (backOf (W := 0) (rm1_all l Z a0 hw [] p1 wL wR wW wKL wKR r1 h0 n0 Z0 SL SR SW SKL SKR hr1) hZ (hw _ (List.mem_of_getElem? (i := 3) rfl)) (hw _ (List.mem_of_getElem? (i := 2) rfl)) (by decide) (by decide)) (g := (mkF m 1 #[.val (.int p1), .val (.int p2), .unset, .unset, .unset] [(.int p1)])) rfl (by rw [hml]; rfl) (argsL := [(.int p1)]) (rest := []) (lenOf pd_0_0 rfl) rfl (by show 2 * 0 + _ ≤ _; exact Nat.le_of_eq rfl) (hb hby at_1) (fun _ _ => ⟨rfl, e0, (by decide : 0 + 0 ≤ _), (by decide : 0 + 0 ≤ _)⟩)
  dsimp only [Pt.U, Pt.locs, Pt.cells, Pt.slots] at X3 l3 y3 z3 st3 hQ3
  subst l3 y3 z3
  obtain ⟨rfl, N3q, eh3⟩ := hQ3
  have N3 := Fr.app N0 N3q
  obtain ⟨_, _, ⟨T4, L4, k4, n4⟩, -, X4, ⟨Lc4, hQ4, l4, y4, z4⟩, st4⟩ := Jvm.LawKit.callS X3 hx (y := (⟨"com/example/kolok/kolok/KindWaitsForPinLaw", "pick", "(I)Lcom/example/kolok/kolok/ContenderName$Kind;"⟩ : MethodName)) hown (mvT hZ (hw _ (List.mem_of_getElem? (i := 0) rfl))) (mvT hZ (hw _ (List.mem_of_getElem? (i := 1) rfl))) (mvT hZ (hw _ (List.mem_of_getElem? (i := 2) rfl))) (mvT hZ (hw _ (List.mem_of_getElem? (i := 3) rfl))) (by decide) (backOf (W := 0) (rm1_all l Z a0 hw [] p2 wL wR wW wKL wKR r2 h0 n0 Z0 SL SR SW SKL SKR hr2) hZ (hw _ (List.mem_of_getElem? (i := 3) rfl)) (hw _ (List.mem_of_getElem? (i := 2) rfl)) (by decide) (by decide)) (g := (mkF m 6 #[.val (.int p1), .val (.int p2), .val (.ref r1), .unset, .unset] [(.int p2)])) rfl (by rw [hml]; rfl) (argsL := [(.int p2)]) (rest := []) (lenOf pd_0_0 rfl) rfl (by show 2 * 0 + _ ≤ _; exact Nat.le_of_eq rfl) (hb hby at_6) (fun _ _ => ⟨rfl, eh3, (by decide : 0 + 0 ≤ _), (by decide : 0 + 0 ≤ _)⟩)
  dsimp only [Pt.U, Pt.locs, Pt.cells, Pt.slots] at X4 l4 y4 z4 st4 hQ4
  subst l4 y4 z4
  obtain ⟨rfl, N4q, eh4⟩ := hQ4
  have N4 := Fr.app N3 N4q
  obtain ⟨_, _, ⟨T5, L5, k5, n5⟩, -, X5, ⟨Lc5, hQ5, l5, y5, z5⟩, st5⟩ := Jvm.LawKit.callS X4 hx (y := (⟨"com/example/kolok/kolok/KindWaitsForPinLaw", "reader", "(Lcom/example/kolok/kolok/ContenderName$Kind;)Z"⟩ : MethodName)) hown (mvT hZ (hw _ (List.mem_of_getElem? (i := 10) rfl))) (mvT hZ (hw _ (List.mem_of_getElem? (i := 11) rfl))) (mvT hZ (hw _ (List.mem_of_getElem? (i := 2) rfl))) (mvT hZ (hw _ (List.mem_of_getElem? (i := 12) rfl))) (by decide) (backOf (W := 0) (rm2_all l Z a0 hw [] r1 wR wKR (1 : Int32) h0 n0 Z0 SR SKR hb1) hZ (hw _ (List.mem_of_getElem? (i := 12) rfl)) (hw _ (List.mem_of_getElem? (i := 2) rfl)) (by decide) (by decide)) (g := (mkF m 11 #[.val (.int p1), .val (.int p2), .val (.ref r1), .val (.ref r2), .unset] [(.ref r1)])) rfl (by rw [hml]; rfl) (argsL := [(.ref r1)]) (rest := []) (lenOf pd_0_1 rfl) rfl (by show 2 * 0 + _ ≤ _; exact Nat.le_of_eq rfl) (hb hby at_11) (fun _ _ => ⟨rfl, eh4, (by decide : 0 + 0 ≤ _), (by decide : 0 + 0 ≤ _)⟩)
  dsimp only [Pt.U, Pt.locs, Pt.cells, Pt.slots] at X5 l5 y5 z5 st5 hQ5
  subst l5 y5 z5
  obtain ⟨rfl, N5q, eh5⟩ := hQ5
  have N5 := Fr.app N4 N5q
  obtain ⟨_, _, ⟨T6, L6, k6, n6⟩, -, X6, ⟨Lc6, hQ6, l6, y6, z6⟩, st6⟩ := Jvm.LawKit.callS X5 hx (y := (⟨"com/example/kolok/kolok/KindWaitsForPinLaw", "reader", "(Lcom/example/kolok/kolok/ContenderName$Kind;)Z"⟩ : MethodName)) hown (mvT hZ (hw _ (List.mem_of_getElem? (i := 10) rfl))) (mvT hZ (hw _ (List.mem_of_getElem? (i := 11) rfl))) (mvT hZ (hw _ (List.mem_of_getElem? (i := 2) rfl))) (mvT hZ (hw _ (List.mem_of_getElem? (i := 12) rfl))) (by decide) (backOf (W := 0) (rm2_all l Z a0 hw [] r2 wR wKR (0 : Int32) h0 n0 Z0 SR SKR hb2) hZ (hw _ (List.mem_of_getElem? (i := 12) rfl)) (hw _ (List.mem_of_getElem? (i := 2) rfl)) (by decide) (by decide)) (g := (mkF m 18 #[.val (.int p1), .val (.int p2), .val (.ref r1), .val (.ref r2), .unset] [(.ref r2)])) rfl (by rw [hml]; rfl) (argsL := [(.ref r2)]) (rest := []) (lenOf pd_0_1 rfl) rfl (by show 2 * 0 + _ ≤ _; exact Nat.le_of_eq rfl) (hb hby at_18) (fun _ _ => ⟨rfl, eh5, (by decide : 0 + 0 ≤ _), (by decide : 0 + 0 ≤ _)⟩)
  dsimp only [Pt.U, Pt.locs, Pt.cells, Pt.slots] at X6 l6 y6 z6 st6 hQ6
  subst l6 y6 z6
  obtain ⟨rfl, N6q, eh6⟩ := hQ6
  have N6 := Fr.app N5 N6q
  obtain ⟨cq7, kq7, q7a, q7b, q7c⟩ := isOf hZ eh6 E_r1
  obtain ⟨_, _, ⟨T7, L7, k7, n7⟩, -, X7, ⟨Lc7, hQ7, l7, y7, z7⟩, st7⟩ := X6.virtualBack hx (y := (⟨"com/example/kolok/kolok/ContenderName$Kind", "waitsFor", "(Lcom/example/kolok/kolok/ContenderName$Kind;)Z"⟩ : MethodName)) (z := (⟨"com/example/kolok/kolok/ContenderName$Kind", "waitsFor", "(Lcom/example/kolok/kolok/ContenderName$Kind;)Z"⟩ : MethodName)) hown (mvT hZ (hw _ (List.mem_of_getElem? (i := 17) rfl))) (mvT hZ (hw _ (List.mem_of_getElem? (i := 18) rfl))) (notFace_of_selects (args := #[]) (mvT hZ (hw _ (List.mem_of_getElem? (i := 20) rfl)))) (mvT hZ (hw _ (List.mem_of_getElem? (i := 20) rfl))) (mvT hZ (hw _ (List.mem_of_getElem? (i := 19) rfl))) (by decide) (backOf (W := 0) (rm3_all l Z a0 hw [] r1 r2 (1 : Int32) (0 : Int32) (1 : Int32) h0 n0 Z0 F1 F2 (Or.inr (Or.inl ⟨by decide, rfl, rfl⟩))) hZ (hw _ (List.mem_of_getElem? (i := 21) rfl)) (hw _ (List.mem_of_getElem? (i := 6) rfl)) (by decide) (by decide)) q7a q7c (g := (mkF m 33 #[.val (.int p1), .val (.int p2), .val (.ref r1), .val (.ref r2), .val (.int (1 : Int32))] [(.ref r2), (.ref r1)])) rfl (by rw [hml]; rfl) (Steps.refl _) (argsL := [(.ref r2)]) (rest := []) (lenOf pd_0_1 rfl) rfl (by show 2 * 0 + _ ≤ _; exact Nat.le_of_eq rfl) (hb hby at_33) (fun _ _ => ⟨rfl, eh6, (by decide : 0 + 0 ≤ _), (by decide : 0 + 0 ≤ _)⟩)
  dsimp only [Pt.U, Pt.locs, Pt.cells, Pt.slots] at X7 l7 y7 z7 st7 hQ7
  subst l7 y7 z7
  obtain ⟨rfl, N7q, eh7⟩ := hQ7
  have N7 := Fr.app N6 N7q
  obtain ⟨fs, hr, hrun, hended, hW, hsame⟩ := X7.leave (v := some (.int (1 : Int32))) (fun h => by rw [Bd.returns] at h; cases h)
  refine ⟨_, _, pre0 _ ?_, hrun, hended, _, _, rfl, ?_, ⟨_, rfl⟩, hW, hsame.mono (by decide) (by decide)⟩
  · show Steps p.tables e below (s₁.setTop (mkF m 0 #[.val (.int p1), .val (.int p2), .unset, .unset, .unset] [])) _
    refine XS.iloadN X0.here hx rfl (hb hby at_0) rfl ?_
    show Steps p.tables e below (s₁.setTop (mkF m 1 #[.val (.int p1), .val (.int p2), .unset, .unset, .unset] [(.int p1)])) _
    refine st3 _ ?_
    show Steps p.tables e below (T3.setTop (mkF m 4 #[.val (.int p1), .val (.int p2), .unset, .unset, .unset] [(.ref r1)])) _
    refine XS.astoreN X3.here hx rfl (hb hby at_4) rfl rfl (l' := #[.val (.int p1), .val (.int p2), .val (.ref r1), .unset, .unset]) rfl ?_
    show Steps p.tables e below (T3.setTop (mkF m 5 #[.val (.int p1), .val (.int p2), .val (.ref r1), .unset, .unset] [])) _
    refine XS.iloadN X3.here hx rfl (hb hby at_5) rfl ?_
    show Steps p.tables e below (T3.setTop (mkF m 6 #[.val (.int p1), .val (.int p2), .val (.ref r1), .unset, .unset] [(.int p2)])) _
    refine st4 _ ?_
    show Steps p.tables e below (T4.setTop (mkF m 9 #[.val (.int p1), .val (.int p2), .val (.ref r1), .unset, .unset] [(.ref r2)])) _
    refine XS.astoreN X4.here hx rfl (hb hby at_9) rfl rfl (l' := #[.val (.int p1), .val (.int p2), .val (.ref r1), .val (.ref r2), .unset]) rfl ?_
    show Steps p.tables e below (T4.setTop (mkF m 10 #[.val (.int p1), .val (.int p2), .val (.ref r1), .val (.ref r2), .unset] [])) _
    refine XS.aloadN X4.here hx rfl (hb hby at_10) rfl rfl ?_
    show Steps p.tables e below (T4.setTop (mkF m 11 #[.val (.int p1), .val (.int p2), .val (.ref r1), .val (.ref r2), .unset] [(.ref r1)])) _
    refine st5 _ ?_
    show Steps p.tables e below (T5.setTop (mkF m 14 #[.val (.int p1), .val (.int p2), .val (.ref r1), .val (.ref r2), .unset] [(.int (1 : Int32))])) _
    refine XS.ifNo X5.here hx rfl (hb hby at_14) rfl ((if0 _ _).trans (feq (by decide : ¬ ((1 : Int32) = (0 : Int32)))).1) ?_
    show Steps p.tables e below (T5.setTop (mkF m 17 #[.val (.int p1), .val (.int p2), .val (.ref r1), .val (.ref r2), .unset] [])) _
    refine XS.aloadN X5.here hx rfl (hb hby at_17) rfl rfl ?_
    show Steps p.tables e below (T5.setTop (mkF m 18 #[.val (.int p1), .val (.int p2), .val (.ref r1), .val (.ref r2), .unset] [(.ref r2)])) _
    refine st6 _ ?_
    show Steps p.tables e below (T6.setTop (mkF m 21 #[.val (.int p1), .val (.int p2), .val (.ref r1), .val (.ref r2), .unset] [(.int (0 : Int32))])) _
    refine XS.ifNo X6.here hx rfl (hb hby at_21) rfl ((if0 _ _).trans (teq (rfl : (0 : Int32) = (0 : Int32))).2) ?_
    show Steps p.tables e below (T6.setTop (mkF m 24 #[.val (.int p1), .val (.int p2), .val (.ref r1), .val (.ref r2), .unset] [])) _
    refine XS.iconst X6.here hx rfl (hb hby at_24) ?_
    show Steps p.tables e below (T6.setTop (mkF m 25 #[.val (.int p1), .val (.int p2), .val (.ref r1), .val (.ref r2), .unset] [(.int (1 : Int32))])) _
    refine XS.goto X6.here hx rfl (pc0 := 25) (pc' := 29) rfl (hb hby at_25) (by decide) (by decide) ?_
    show Steps p.tables e below (T6.setTop (mkF m 29 #[.val (.int p1), .val (.int p2), .val (.ref r1), .val (.ref r2), .unset] [(.int (1 : Int32))])) _
    refine XS.istore X6.here hx rfl (hb hby at_29) rfl (l' := #[.val (.int p1), .val (.int p2), .val (.ref r1), .val (.ref r2), .val (.int (1 : Int32))]) rfl ?_
    show Steps p.tables e below (T6.setTop (mkF m 31 #[.val (.int p1), .val (.int p2), .val (.ref r1), .val (.ref r2), .val (.int (1 : Int32))] [])) _
    refine XS.aloadN X6.here hx rfl (hb hby at_31) rfl rfl ?_
    show Steps p.tables e below (T6.setTop (mkF m 32 #[.val (.int p1), .val (.int p2), .val (.ref r1), .val (.ref r2), .val (.int (1 : Int32))] [(.ref r1)])) _
    refine XS.aloadN X6.here hx rfl (hb hby at_32) rfl rfl ?_
    show Steps p.tables e below (T6.setTop (mkF m 33 #[.val (.int p1), .val (.int p2), .val (.ref r1), .val (.ref r2), .val (.int (1 : Int32))] [(.ref r2), (.ref r1)])) _
    refine st7.trans ?_
    show Steps p.tables e below (T7.setTop (mkF m 36 #[.val (.int p1), .val (.int p2), .val (.ref r1), .val (.ref r2), .val (.int (1 : Int32))] [(.int (1 : Int32))])) _
    refine XS.iload X7.here hx rfl (hb hby at_36) rfl ?_
    show Steps p.tables e below (T7.setTop (mkF m 38 #[.val (.int p1), .val (.int p2), .val (.ref r1), .val (.ref r2), .val (.int (1 : Int32))] [(.int (1 : Int32)), (.int (1 : Int32))])) _
    refine XS.icmpNo X7.here hx rfl (hb hby at_38) rfl (teq (rfl : (1 : Int32) = (1 : Int32))).2 ?_
    show Steps p.tables e below (T7.setTop (mkF m 41 #[.val (.int p1), .val (.int p2), .val (.ref r1), .val (.ref r2), .val (.int (1 : Int32))] [])) _
    refine XS.iconst X7.here hx rfl (hb hby at_41) ?_
    show Steps p.tables e below (T7.setTop (mkF m 42 #[.val (.int p1), .val (.int p2), .val (.ref r1), .val (.ref r2), .val (.int (1 : Int32))] [(.int (1 : Int32))])) _
    refine XS.goto X7.here hx rfl (pc0 := 42) (pc' := 46) rfl (hb hby at_42) (by decide) (by decide) ?_
    show Steps p.tables e below (T7.setTop (mkF m 46 #[.val (.int p1), .val (.int p2), .val (.ref r1), .val (.ref r2), .val (.int (1 : Int32))] [(.int (1 : Int32))])) _
    exact retN X7 hx (t := .boolean) Bd.returns (by simp) (hb hby at_46) hr
  · show own_Q0 h0 n0 _ T7.heap _
    rw [eh7]
    exact ⟨rfl, N7⟩
set_option maxRecDepth 65536 in
set_option maxHeartbeats 40000000 in
theorem rm0_ftf (l : Launch) (Z : State) (a0 : Array Value) (hw : ∀ d ∈ tables_1, d.before a0 Z = true) (ws : List Jvm.Cond) (p1 : Int32) (p2 : Int32) (wL wR wW wKL wKR r1 r2 : Addr) (h0 : Heap) (n0 : Nat) (Z0 : n0 ≤ h0.size) (SL : Sta Z h0 "com/example/kolok/kolok/ContenderName$Kind" "LOCK" "Lcom/example/kolok/kolok/ContenderName$Kind;" (.ref wL)) (SR : Sta Z h0 "com/example/kolok/kolok/ContenderName$Kind" "READ" "Lcom/example/kolok/kolok/ContenderName$Kind;" (.ref wR)) (SW : Sta Z h0 "com/example/kolok/kolok/ContenderName$Kind" "WRITE" "Lcom/example/kolok/kolok/ContenderName$Kind;" (.ref wW)) (SKL : Sta Z h0 "com/example/kolok/kolok/ContenderName$Kind" "KAZOO_LOCK" "Lcom/example/kolok/kolok/ContenderName$Kind;" (.ref wKL)) (SKR : Sta Z h0 "com/example/kolok/kolok/ContenderName$Kind" "KAZOO_READ" "Lcom/example/kolok/kolok/ContenderName$Kind;" (.ref wKR)) (hr1 : ((((p1 &&& (2147483647 : Int32)) % (5 : Int32)) = 0 ∧ r1 = wL) ∨ (¬ ((p1 &&& (2147483647 : Int32)) % (5 : Int32)) = 0 ∧ ((p1 &&& (2147483647 : Int32)) % (5 : Int32)) = 1 ∧ r1 = wR) ∨ (¬ ((p1 &&& (2147483647 : Int32)) % (5 : Int32)) = 0 ∧ ¬ ((p1 &&& (2147483647 : Int32)) % (5 : Int32)) = 1 ∧ ((p1 &&& (2147483647 : Int32)) % (5 : Int32)) = 2 ∧ r1 = wW) ∨ (¬ ((p1 &&& (2147483647 : Int32)) % (5 : Int32)) = 0 ∧ ¬ ((p1 &&& (2147483647 : Int32)) % (5 : Int32)) = 1 ∧ ¬ ((p1 &&& (2147483647 : Int32)) % (5 : Int32)) = 2 ∧ ((p1 &&& (2147483647 : Int32)) % (5 : Int32)) = 3 ∧ r1 = wKL) ∨ (¬ ((p1 &&& (2147483647 : Int32)) % (5 : Int32)) = 0 ∧ ¬ ((p1 &&& (2147483647 : Int32)) % (5 : Int32)) = 1 ∧ ¬ ((p1 &&& (2147483647 : Int32)) % (5 : Int32)) = 2 ∧ ¬ ((p1 &&& (2147483647 : Int32)) % (5 : Int32)) = 3 ∧ r1 = wKR))) (hr2 : ((((p2 &&& (2147483647 : Int32)) % (5 : Int32)) = 0 ∧ r2 = wL) ∨ (¬ ((p2 &&& (2147483647 : Int32)) % (5 : Int32)) = 0 ∧ ((p2 &&& (2147483647 : Int32)) % (5 : Int32)) = 1 ∧ r2 = wR) ∨ (¬ ((p2 &&& (2147483647 : Int32)) % (5 : Int32)) = 0 ∧ ¬ ((p2 &&& (2147483647 : Int32)) % (5 : Int32)) = 1 ∧ ((p2 &&& (2147483647 : Int32)) % (5 : Int32)) = 2 ∧ r2 = wW) ∨ (¬ ((p2 &&& (2147483647 : Int32)) % (5 : Int32)) = 0 ∧ ¬ ((p2 &&& (2147483647 : Int32)) % (5 : Int32)) = 1 ∧ ¬ ((p2 &&& (2147483647 : Int32)) % (5 : Int32)) = 2 ∧ ((p2 &&& (2147483647 : Int32)) % (5 : Int32)) = 3 ∧ r2 = wKL) ∨ (¬ ((p2 &&& (2147483647 : Int32)) % (5 : Int32)) = 0 ∧ ¬ ((p2 &&& (2147483647 : Int32)) % (5 : Int32)) = 1 ∧ ¬ ((p2 &&& (2147483647 : Int32)) % (5 : Int32)) = 2 ∧ ¬ ((p2 &&& (2147483647 : Int32)) % (5 : Int32)) = 3 ∧ r2 = wKR))) (F1 : Fld Z h0 r1 "com/example/kolok/kolok/ContenderName$Kind" "shared" "Z" (.int (1 : Int32))) (F2 : Fld Z h0 r2 "com/example/kolok/kolok/ContenderName$Kind" "shared" "Z" (.int (1 : Int32))) (hb1 : ((r1 = wR ∧ (1 : Int32) = (1 : Int32)) ∨ (r1 ≠ wR ∧ r1 = wKR ∧ (1 : Int32) = (1 : Int32)) ∨ (r1 ≠ wR ∧ r1 ≠ wKR ∧ (1 : Int32) = (0 : Int32)))) (hb2 : ((r2 = wR ∧ (1 : Int32) = (1 : Int32)) ∨ (r2 ≠ wR ∧ r2 = wKR ∧ (1 : Int32) = (1 : Int32)) ∨ (r2 ≠ wR ∧ r2 ≠ wKR ∧ (1 : Int32) = (0 : Int32)))) (E_r1 : Exa Z h0 r1 "com/example/kolok/kolok/ContenderName$Kind") :
    MetFree l x (head1 (Jvm.Cond.code x code maxLocals ret :: ws) room_1) (fun a U => a = #[(.int p1), (.int p2)] ∧ Z.Warmed39 U.vm ∧ U.heap = h0) (fun _ _ _ _ _ => True) (fun _ U o U' => ∃ v L, o = .returned v ∧ own_Q0 h0 n0 v U'.heap L ∧ FrameEnd U o U' L room_1.cells room_1.slots) := by
  refine MetFree.of_bodySF (plainFor_of_name pn_0) hisR ?_
  intro p e s m args below meth c s₁ Bd hml0 hP hK
  obtain ⟨rfl, hZ, hh⟩ := hP
  have hx := Bd.exec
  have hby := Bd.bytes
  have hml : c.maxLocals = 5 := hml0
  have hown : s.vm.findClass "com/example/kolok/kolok/KindWaitsForPinLaw" = some m.cls := findClass_of_methodNamed Bd.named
  have hnm := (name_of_methodNamed Bd.named Bd.method).1
  have X0 : Stand p l e room_1 s m #[(.int p1), (.int p2)] below meth c s₁ [] 0 0 := Stand.of_body Bd
  have e0 : s₁.heap = h0 := by rw [← hh, Bd.state]; rfl
  have N0 := Fr.nil n0
  have pre0 : ∀ t, Steps p.tables e below (s₁.setTop (mkF m 0 #[.val (.int p1), .val (.int p2), .unset, .unset, .unset] [])) t → Steps p.tables e below (s₁.setTop (entryFrame m #[(.int p1), (.int p2)] maxLocals)) t := fun t k => castTop (ef_0 m p1 p2) k
  obtain ⟨_, _, ⟨T3, L3, k3, n3⟩, -, X3, ⟨Lc3, hQ3, l3, y3, z3⟩, st3⟩ := Jvm.LawKit.callS X0 hx (y := (⟨"com/example/kolok/kolok/KindWaitsForPinLaw", "pick", "(I)Lcom/example/kolok/kolok/ContenderName$Kind;"⟩ : MethodName)) hown (mvT hZ (hw _ (List.mem_of_getElem? (i := 0) rfl))) (mvT hZ (hw _ (List.mem_of_getElem? (i := 1) rfl))) (mvT hZ (hw _ (List.mem_of_getElem? (i := 2) rfl))) (mvT hZ (hw _ (List.mem_of_getElem? (i := 3) rfl))) (by decide) (backOf (W := 0) (rm1_all l Z a0 hw [] p1 wL wR wW wKL wKR r1 h0 n0 Z0 SL SR SW SKL SKR hr1) hZ (hw _ (List.mem_of_getElem? (i := 3) rfl)) (hw _ (List.mem_of_getElem? (i := 2) rfl)) (by decide) (by decide)) (g := (mkF m 1 #[.val (.int p1), .val (.int p2), .unset, .unset, .unset] [(.int p1)])) rfl (by rw [hml]; rfl) (argsL := [(.int p1)]) (rest := []) (lenOf pd_0_0 rfl) rfl (by show 2 * 0 + _ ≤ _; exact Nat.le_of_eq rfl) (hb hby at_1) (fun _ _ => ⟨rfl, e0, (by decide : 0 + 0 ≤ _), (by decide : 0 + 0 ≤ _)⟩)
  dsimp only [Pt.U, Pt.locs, Pt.cells, Pt.slots] at X3 l3 y3 z3 st3 hQ3
  subst l3 y3 z3
  obtain ⟨rfl, N3q, eh3⟩ := hQ3
  have N3 := Fr.app N0 N3q
  obtain ⟨_, _, ⟨T4, L4, k4, n4⟩, -, X4, ⟨Lc4, hQ4, l4, y4, z4⟩, st4⟩ := Jvm.LawKit.callS X3 hx (y := (⟨"com/example/kolok/kolok/KindWaitsForPinLaw", "pick", "(I)Lcom/example/kolok/kolok/ContenderName$Kind;"⟩ : MethodName)) hown (mvT hZ (hw _ (List.mem_of_getElem? (i := 0) rfl))) (mvT hZ (hw _ (List.mem_of_getElem? (i := 1) rfl))) (mvT hZ (hw _ (List.mem_of_getElem? (i := 2) rfl))) (mvT hZ (hw _ (List.mem_of_getElem? (i := 3) rfl))) (by decide) (backOf (W := 0) (rm1_all l Z a0 hw [] p2 wL wR wW wKL wKR r2 h0 n0 Z0 SL SR SW SKL SKR hr2) hZ (hw _ (List.mem_of_getElem? (i := 3) rfl)) (hw _ (List.mem_of_getElem? (i := 2) rfl)) (by decide) (by decide)) (g := (mkF m 6 #[.val (.int p1), .val (.int p2), .val (.ref r1), .unset, .unset] [(.int p2)])) rfl (by rw [hml]; rfl) (argsL := [(.int p2)]) (rest := []) (lenOf pd_0_0 rfl) rfl (by show 2 * 0 + _ ≤ _; exact Nat.le_of_eq rfl) (hb hby at_6) (fun _ _ => ⟨rfl, eh3, (by decide : 0 + 0 ≤ _), (by decide : 0 + 0 ≤ _)⟩)
  dsimp only [Pt.U, Pt.locs, Pt.cells, Pt.slots] at X4 l4 y4 z4 st4 hQ4
  subst l4 y4 z4
  obtain ⟨rfl, N4q, eh4⟩ := hQ4
  have N4 := Fr.app N3 N4q
  obtain ⟨_, _, ⟨T5, L5, k5, n5⟩, -, X5, ⟨Lc5, hQ5, l5, y5, z5⟩, st5⟩ := Jvm.LawKit.callS X4 hx (y := (⟨"com/example/kolok/kolok/KindWaitsForPinLaw", "reader", "(Lcom/example/kolok/kolok/ContenderName$Kind;)Z"⟩ : MethodName)) hown (mvT hZ (hw _ (List.mem_of_getElem? (i := 10) rfl))) (mvT hZ (hw _ (List.mem_of_getElem? (i := 11) rfl))) (mvT hZ (hw _ (List.mem_of_getElem? (i := 2) rfl))) (mvT hZ (hw _ (List.mem_of_getElem? (i := 12) rfl))) (by decide) (backOf (W := 0) (rm2_all l Z a0 hw [] r1 wR wKR (1 : Int32) h0 n0 Z0 SR SKR hb1) hZ (hw _ (List.mem_of_getElem? (i := 12) rfl)) (hw _ (List.mem_of_getElem? (i := 2) rfl)) (by decide) (by decide)) (g := (mkF m 11 #[.val (.int p1), .val (.int p2), .val (.ref r1), .val (.ref r2), .unset] [(.ref r1)])) rfl (by rw [hml]; rfl) (argsL := [(.ref r1)]) (rest := []) (lenOf pd_0_1 rfl) rfl (by show 2 * 0 + _ ≤ _; exact Nat.le_of_eq rfl) (hb hby at_11) (fun _ _ => ⟨rfl, eh4, (by decide : 0 + 0 ≤ _), (by decide : 0 + 0 ≤ _)⟩)
  dsimp only [Pt.U, Pt.locs, Pt.cells, Pt.slots] at X5 l5 y5 z5 st5 hQ5
  subst l5 y5 z5
  obtain ⟨rfl, N5q, eh5⟩ := hQ5
  have N5 := Fr.app N4 N5q
  obtain ⟨_, _, ⟨T6, L6, k6, n6⟩, -, X6, ⟨Lc6, hQ6, l6, y6, z6⟩, st6⟩ := Jvm.LawKit.callS X5 hx (y := (⟨"com/example/kolok/kolok/KindWaitsForPinLaw", "reader", "(Lcom/example/kolok/kolok/ContenderName$Kind;)Z"⟩ : MethodName)) hown (mvT hZ (hw _ (List.mem_of_getElem? (i := 10) rfl))) (mvT hZ (hw _ (List.mem_of_getElem? (i := 11) rfl))) (mvT hZ (hw _ (List.mem_of_getElem? (i := 2) rfl))) (mvT hZ (hw _ (List.mem_of_getElem? (i := 12) rfl))) (by decide) (backOf (W := 0) (rm2_all l Z a0 hw [] r2 wR wKR (1 : Int32) h0 n0 Z0 SR SKR hb2) hZ (hw _ (List.mem_of_getElem? (i := 12) rfl)) (hw _ (List.mem_of_getElem? (i := 2) rfl)) (by decide) (by decide)) (g := (mkF m 18 #[.val (.int p1), .val (.int p2), .val (.ref r1), .val (.ref r2), .unset] [(.ref r2)])) rfl (by rw [hml]; rfl) (argsL := [(.ref r2)]) (rest := []) (lenOf pd_0_1 rfl) rfl (by show 2 * 0 + _ ≤ _; exact Nat.le_of_eq rfl) (hb hby at_18) (fun _ _ => ⟨rfl, eh5, (by decide : 0 + 0 ≤ _), (by decide : 0 + 0 ≤ _)⟩)
  dsimp only [Pt.U, Pt.locs, Pt.cells, Pt.slots] at X6 l6 y6 z6 st6 hQ6
  subst l6 y6 z6
  obtain ⟨rfl, N6q, eh6⟩ := hQ6
  have N6 := Fr.app N5 N6q
  obtain ⟨cq7, kq7, q7a, q7b, q7c⟩ := isOf hZ eh6 E_r1
  obtain ⟨_, _, ⟨T7, L7, k7, n7⟩, -, X7, ⟨Lc7, hQ7, l7, y7, z7⟩, st7⟩ := X6.virtualBack hx (y := (⟨"com/example/kolok/kolok/ContenderName$Kind", "waitsFor", "(Lcom/example/kolok/kolok/ContenderName$Kind;)Z"⟩ : MethodName)) (z := (⟨"com/example/kolok/kolok/ContenderName$Kind", "waitsFor", "(Lcom/example/kolok/kolok/ContenderName$Kind;)Z"⟩ : MethodName)) hown (mvT hZ (hw _ (List.mem_of_getElem? (i := 17) rfl))) (mvT hZ (hw _ (List.mem_of_getElem? (i := 18) rfl))) (notFace_of_selects (args := #[]) (mvT hZ (hw _ (List.mem_of_getElem? (i := 20) rfl)))) (mvT hZ (hw _ (List.mem_of_getElem? (i := 20) rfl))) (mvT hZ (hw _ (List.mem_of_getElem? (i := 19) rfl))) (by decide) (backOf (W := 0) (rm3_all l Z a0 hw [] r1 r2 (1 : Int32) (1 : Int32) (0 : Int32) h0 n0 Z0 F1 F2 (Or.inr (Or.inr ⟨by decide, by decide, rfl⟩))) hZ (hw _ (List.mem_of_getElem? (i := 21) rfl)) (hw _ (List.mem_of_getElem? (i := 6) rfl)) (by decide) (by decide)) q7a q7c (g := (mkF m 33 #[.val (.int p1), .val (.int p2), .val (.ref r1), .val (.ref r2), .val (.int (0 : Int32))] [(.ref r2), (.ref r1)])) rfl (by rw [hml]; rfl) (Steps.refl _) (argsL := [(.ref r2)]) (rest := []) (lenOf pd_0_1 rfl) rfl (by show 2 * 0 + _ ≤ _; exact Nat.le_of_eq rfl) (hb hby at_33) (fun _ _ => ⟨rfl, eh6, (by decide : 0 + 0 ≤ _), (by decide : 0 + 0 ≤ _)⟩)
  dsimp only [Pt.U, Pt.locs, Pt.cells, Pt.slots] at X7 l7 y7 z7 st7 hQ7
  subst l7 y7 z7
  obtain ⟨rfl, N7q, eh7⟩ := hQ7
  have N7 := Fr.app N6 N7q
  obtain ⟨fs, hr, hrun, hended, hW, hsame⟩ := X7.leave (v := some (.int (1 : Int32))) (fun h => by rw [Bd.returns] at h; cases h)
  refine ⟨_, _, pre0 _ ?_, hrun, hended, _, _, rfl, ?_, ⟨_, rfl⟩, hW, hsame.mono (by decide) (by decide)⟩
  · show Steps p.tables e below (s₁.setTop (mkF m 0 #[.val (.int p1), .val (.int p2), .unset, .unset, .unset] [])) _
    refine XS.iloadN X0.here hx rfl (hb hby at_0) rfl ?_
    show Steps p.tables e below (s₁.setTop (mkF m 1 #[.val (.int p1), .val (.int p2), .unset, .unset, .unset] [(.int p1)])) _
    refine st3 _ ?_
    show Steps p.tables e below (T3.setTop (mkF m 4 #[.val (.int p1), .val (.int p2), .unset, .unset, .unset] [(.ref r1)])) _
    refine XS.astoreN X3.here hx rfl (hb hby at_4) rfl rfl (l' := #[.val (.int p1), .val (.int p2), .val (.ref r1), .unset, .unset]) rfl ?_
    show Steps p.tables e below (T3.setTop (mkF m 5 #[.val (.int p1), .val (.int p2), .val (.ref r1), .unset, .unset] [])) _
    refine XS.iloadN X3.here hx rfl (hb hby at_5) rfl ?_
    show Steps p.tables e below (T3.setTop (mkF m 6 #[.val (.int p1), .val (.int p2), .val (.ref r1), .unset, .unset] [(.int p2)])) _
    refine st4 _ ?_
    show Steps p.tables e below (T4.setTop (mkF m 9 #[.val (.int p1), .val (.int p2), .val (.ref r1), .unset, .unset] [(.ref r2)])) _
    refine XS.astoreN X4.here hx rfl (hb hby at_9) rfl rfl (l' := #[.val (.int p1), .val (.int p2), .val (.ref r1), .val (.ref r2), .unset]) rfl ?_
    show Steps p.tables e below (T4.setTop (mkF m 10 #[.val (.int p1), .val (.int p2), .val (.ref r1), .val (.ref r2), .unset] [])) _
    refine XS.aloadN X4.here hx rfl (hb hby at_10) rfl rfl ?_
    show Steps p.tables e below (T4.setTop (mkF m 11 #[.val (.int p1), .val (.int p2), .val (.ref r1), .val (.ref r2), .unset] [(.ref r1)])) _
    refine st5 _ ?_
    show Steps p.tables e below (T5.setTop (mkF m 14 #[.val (.int p1), .val (.int p2), .val (.ref r1), .val (.ref r2), .unset] [(.int (1 : Int32))])) _
    refine XS.ifNo X5.here hx rfl (hb hby at_14) rfl ((if0 _ _).trans (feq (by decide : ¬ ((1 : Int32) = (0 : Int32)))).1) ?_
    show Steps p.tables e below (T5.setTop (mkF m 17 #[.val (.int p1), .val (.int p2), .val (.ref r1), .val (.ref r2), .unset] [])) _
    refine XS.aloadN X5.here hx rfl (hb hby at_17) rfl rfl ?_
    show Steps p.tables e below (T5.setTop (mkF m 18 #[.val (.int p1), .val (.int p2), .val (.ref r1), .val (.ref r2), .unset] [(.ref r2)])) _
    refine st6 _ ?_
    show Steps p.tables e below (T6.setTop (mkF m 21 #[.val (.int p1), .val (.int p2), .val (.ref r1), .val (.ref r2), .unset] [(.int (1 : Int32))])) _
    refine XS.ifYes X6.here hx rfl (pc0 := 21) (pc' := 28) rfl (hb hby at_21) rfl ((if0 _ _).trans (feq (by decide : ¬ ((1 : Int32) = (0 : Int32)))).2) (by decide) (by decide) ?_
    show Steps p.tables e below (T6.setTop (mkF m 28 #[.val (.int p1), .val (.int p2), .val (.ref r1), .val (.ref r2), .unset] [])) _
    refine XS.iconst X6.here hx rfl (hb hby at_28) ?_
    show Steps p.tables e below (T6.setTop (mkF m 29 #[.val (.int p1), .val (.int p2), .val (.ref r1), .val (.ref r2), .unset] [(.int (0 : Int32))])) _
    refine XS.istore X6.here hx rfl (hb hby at_29) rfl (l' := #[.val (.int p1), .val (.int p2), .val (.ref r1), .val (.ref r2), .val (.int (0 : Int32))]) rfl ?_
    show Steps p.tables e below (T6.setTop (mkF m 31 #[.val (.int p1), .val (.int p2), .val (.ref r1), .val (.ref r2), .val (.int (0 : Int32))] [])) _
    refine XS.aloadN X6.here hx rfl (hb hby at_31) rfl rfl ?_
    show Steps p.tables e below (T6.setTop (mkF m 32 #[.val (.int p1), .val (.int p2), .val (.ref r1), .val (.ref r2), .val (.int (0 : Int32))] [(.ref r1)])) _
    refine XS.aloadN X6.here hx rfl (hb hby at_32) rfl rfl ?_
    show Steps p.tables e below (T6.setTop (mkF m 33 #[.val (.int p1), .val (.int p2), .val (.ref r1), .val (.ref r2), .val (.int (0 : Int32))] [(.ref r2), (.ref r1)])) _
    refine st7.trans ?_
    show Steps p.tables e below (T7.setTop (mkF m 36 #[.val (.int p1), .val (.int p2), .val (.ref r1), .val (.ref r2), .val (.int (0 : Int32))] [(.int (0 : Int32))])) _
    refine XS.iload X7.here hx rfl (hb hby at_36) rfl ?_
    show Steps p.tables e below (T7.setTop (mkF m 38 #[.val (.int p1), .val (.int p2), .val (.ref r1), .val (.ref r2), .val (.int (0 : Int32))] [(.int (0 : Int32)), (.int (0 : Int32))])) _
    refine XS.icmpNo X7.here hx rfl (hb hby at_38) rfl (teq (rfl : (0 : Int32) = (0 : Int32))).2 ?_
    show Steps p.tables e below (T7.setTop (mkF m 41 #[.val (.int p1), .val (.int p2), .val (.ref r1), .val (.ref r2), .val (.int (0 : Int32))] [])) _
    refine XS.iconst X7.here hx rfl (hb hby at_41) ?_
    show Steps p.tables e below (T7.setTop (mkF m 42 #[.val (.int p1), .val (.int p2), .val (.ref r1), .val (.ref r2), .val (.int (0 : Int32))] [(.int (1 : Int32))])) _
    refine XS.goto X7.here hx rfl (pc0 := 42) (pc' := 46) rfl (hb hby at_42) (by decide) (by decide) ?_
    show Steps p.tables e below (T7.setTop (mkF m 46 #[.val (.int p1), .val (.int p2), .val (.ref r1), .val (.ref r2), .val (.int (0 : Int32))] [(.int (1 : Int32))])) _
    exact retN X7 hx (t := .boolean) Bd.returns (by simp) (hb hby at_46) hr
  · show own_Q0 h0 n0 _ T7.heap _
    rw [eh7]
    exact ⟨rfl, N7⟩
def own_K (Z : State) (h0 : Heap) (wL wR wW wKL wKR : Addr) (p : Int32) (r : Addr) (b : Int32) : Prop := ((((p &&& (2147483647 : Int32)) % (5 : Int32)) = 0 ∧ r = wL) ∨ (¬ ((p &&& (2147483647 : Int32)) % (5 : Int32)) = 0 ∧ ((p &&& (2147483647 : Int32)) % (5 : Int32)) = 1 ∧ r = wR) ∨ (¬ ((p &&& (2147483647 : Int32)) % (5 : Int32)) = 0 ∧ ¬ ((p &&& (2147483647 : Int32)) % (5 : Int32)) = 1 ∧ ((p &&& (2147483647 : Int32)) % (5 : Int32)) = 2 ∧ r = wW) ∨ (¬ ((p &&& (2147483647 : Int32)) % (5 : Int32)) = 0 ∧ ¬ ((p &&& (2147483647 : Int32)) % (5 : Int32)) = 1 ∧ ¬ ((p &&& (2147483647 : Int32)) % (5 : Int32)) = 2 ∧ ((p &&& (2147483647 : Int32)) % (5 : Int32)) = 3 ∧ r = wKL) ∨ (¬ ((p &&& (2147483647 : Int32)) % (5 : Int32)) = 0 ∧ ¬ ((p &&& (2147483647 : Int32)) % (5 : Int32)) = 1 ∧ ¬ ((p &&& (2147483647 : Int32)) % (5 : Int32)) = 2 ∧ ¬ ((p &&& (2147483647 : Int32)) % (5 : Int32)) = 3 ∧ r = wKR)) ∧ Exa Z h0 r "com/example/kolok/kolok/ContenderName$Kind" ∧ Fld Z h0 r "com/example/kolok/kolok/ContenderName$Kind" "shared" "Z" (.int b) ∧ ((r = wR ∧ b = (1 : Int32)) ∨ (r ≠ wR ∧ r = wKR ∧ b = (1 : Int32)) ∨ (r ≠ wR ∧ r ≠ wKR ∧ b = (0 : Int32)))
theorem own_pick (Z : State) (h0 : Heap) (wL wR wW wKL wKR : Addr) (EL : Exa Z h0 wL "com/example/kolok/kolok/ContenderName$Kind") (ER : Exa Z h0 wR "com/example/kolok/kolok/ContenderName$Kind") (EW : Exa Z h0 wW "com/example/kolok/kolok/ContenderName$Kind") (EKL : Exa Z h0 wKL "com/example/kolok/kolok/ContenderName$Kind") (EKR : Exa Z h0 wKR "com/example/kolok/kolok/ContenderName$Kind") (FL : Fld Z h0 wL "com/example/kolok/kolok/ContenderName$Kind" "shared" "Z" (.int (0 : Int32))) (FR : Fld Z h0 wR "com/example/kolok/kolok/ContenderName$Kind" "shared" "Z" (.int (1 : Int32))) (FW : Fld Z h0 wW "com/example/kolok/kolok/ContenderName$Kind" "shared" "Z" (.int (0 : Int32))) (FKL : Fld Z h0 wKL "com/example/kolok/kolok/ContenderName$Kind" "shared" "Z" (.int (0 : Int32))) (FKR : Fld Z h0 wKR "com/example/kolok/kolok/ContenderName$Kind" "shared" "Z" (.int (1 : Int32))) (nLR : wL ≠ wR) (nLK : wL ≠ wKR) (nWR : wW ≠ wR) (nWK : wW ≠ wKR) (nKR : wKL ≠ wR) (nKK : wKL ≠ wKR) (nRR : wKR ≠ wR) (p : Int32) : ∃ r, own_K Z h0 wL wR wW wKL wKR p r 0 ∨ own_K Z h0 wL wR wW wKL wKR p r 1 := by
  by_cases q0 : ((p &&& (2147483647 : Int32)) % (5 : Int32)) = 0
  · exact ⟨wL, Or.inl ⟨Or.inl ⟨q0, rfl⟩, EL, FL, Or.inr (Or.inr ⟨nLR, nLK, rfl⟩)⟩⟩
  by_cases q1 : ((p &&& (2147483647 : Int32)) % (5 : Int32)) = 1
  · exact ⟨wR, Or.inr ⟨Or.inr (Or.inl ⟨q0, q1, rfl⟩), ER, FR, Or.inl ⟨rfl, rfl⟩⟩⟩
  by_cases q2 : ((p &&& (2147483647 : Int32)) % (5 : Int32)) = 2
  · exact ⟨wW, Or.inl ⟨Or.inr (Or.inr (Or.inl ⟨q0, q1, q2, rfl⟩)), EW, FW, Or.inr (Or.inr ⟨nWR, nWK, rfl⟩)⟩⟩
  by_cases q3 : ((p &&& (2147483647 : Int32)) % (5 : Int32)) = 3
  · exact ⟨wKL, Or.inl ⟨Or.inr (Or.inr (Or.inr (Or.inl ⟨q0, q1, q2, q3, rfl⟩))), EKL, FKL, Or.inr (Or.inr ⟨nKR, nKK, rfl⟩)⟩⟩
  · exact ⟨wKR, Or.inr ⟨Or.inr (Or.inr (Or.inr (Or.inr ⟨q0, q1, q2, q3, rfl⟩))), EKR, FKR, Or.inr (Or.inl ⟨nRR, rfl, rfl⟩)⟩⟩
theorem rm0_all (l : Launch) (Z : State) (a0 : Array Value) (hw : ∀ d ∈ tables_1, d.before a0 Z = true) (ws : List Jvm.Cond) (p1 p2 : Int32) (wL wR wW wKL wKR : Addr) (h0 : Heap) (n0 : Nat) (Z0 : n0 ≤ h0.size) (SL : Sta Z h0 "com/example/kolok/kolok/ContenderName$Kind" "LOCK" "Lcom/example/kolok/kolok/ContenderName$Kind;" (.ref wL)) (SR : Sta Z h0 "com/example/kolok/kolok/ContenderName$Kind" "READ" "Lcom/example/kolok/kolok/ContenderName$Kind;" (.ref wR)) (SW : Sta Z h0 "com/example/kolok/kolok/ContenderName$Kind" "WRITE" "Lcom/example/kolok/kolok/ContenderName$Kind;" (.ref wW)) (SKL : Sta Z h0 "com/example/kolok/kolok/ContenderName$Kind" "KAZOO_LOCK" "Lcom/example/kolok/kolok/ContenderName$Kind;" (.ref wKL)) (SKR : Sta Z h0 "com/example/kolok/kolok/ContenderName$Kind" "KAZOO_READ" "Lcom/example/kolok/kolok/ContenderName$Kind;" (.ref wKR)) (K : ∀ p, ∃ r, own_K Z h0 wL wR wW wKL wKR p r 0 ∨ own_K Z h0 wL wR wW wKL wKR p r 1) :
    MetFree l x (head1 (Jvm.Cond.code x code maxLocals ret :: ws) room_1) (fun a U => a = #[(.int p1), (.int p2)] ∧ Z.Warmed39 U.vm ∧ U.heap = h0) (fun _ _ _ _ _ => True) (fun _ U o U' => ∃ v L, o = .returned v ∧ own_Q0 h0 n0 v U'.heap L ∧ FrameEnd U o U' L room_1.cells room_1.slots) := by
  obtain ⟨r1, k1⟩ := K p1
  obtain ⟨r2, k2⟩ := K p2
  rcases k1 with ⟨a1, e1, f1, b1⟩ | ⟨a1, e1, f1, b1⟩
  · rcases k2 with ⟨a2, e2, f2, b2⟩ | ⟨a2, e2, f2, b2⟩
    · exact rm0_tf l Z a0 hw ws p1 p2 wL wR wW wKL wKR r1 r2 0 h0 n0 Z0 SL SR SW SKL SKR a1 a2 f1 f2 b1 b2 e1
    · exact rm0_tf l Z a0 hw ws p1 p2 wL wR wW wKL wKR r1 r2 1 h0 n0 Z0 SL SR SW SKL SKR a1 a2 f1 f2 b1 b2 e1
  · rcases k2 with ⟨a2, e2, f2, b2⟩ | ⟨a2, e2, f2, b2⟩
    · exact rm0_fff l Z a0 hw ws p1 p2 wL wR wW wKL wKR r1 r2 h0 n0 Z0 SL SR SW SKL SKR a1 a2 f1 f2 b1 b2 e1
    · exact rm0_ftf l Z a0 hw ws p1 p2 wL wR wW wKL wKR r1 r2 h0 n0 Z0 SL SR SW SKL SKR a1 a2 f1 f2 b1 b2 e1
set_option maxRecDepth 65536 in
set_option maxHeartbeats 40000000 in
theorem comes_1 {Post : Tables → Env → Array Value → State → Outcome → State → Prop} (hpost : ∀ tb e args s v u, (limb_1_1.after args s (.returned v) u = true ∧ limb_1_2.after args s (.returned v) u = true ∧ True) → FrameEnd s (.returned v) u (Jvm.fieldLocs frame_1_writes args s ++ Jvm.arrayLocs frame_1_arrays args s ++ Jvm.staticLocs frame_1_statics s) 0 0 → Post tb e args s (.returned v) u) :
    ArmFor flags0 classFile x code maxLocals ret World_1 tables_1 room_1 Calls_1 rest_1 Pre_1 Post := by
  intro l hfl _ _ p e ha hc hk s m args below hf hA hF happ hP
  obtain ⟨hcalls, hrest, hpre⟩ := hP
  obtain ⟨-, -, -, hnamed, -, -, -, hat⟩ := (Spec.applies_iff hf).mp happ
  obtain ⟨hg, hn⟩ := and_e (Cond.before_iff.mp (show (Jvm.Cond.and given_1 narrow_1).before args s = true from hpre))
  obtain ⟨g8, g9⟩ := and_e hg
  obtain ⟨g10, g11⟩ := and_e g9
  obtain ⟨w0, w1, rfl⟩ : ∃ w0 w1 : Value, args = #[w0, w1] := by
    have hs : args.size = 2 := by simpa [Cond.value, given_1] using g8
    obtain ⟨L⟩ := args
    match L, hs with
    | [w0, w1], _ => exact ⟨w0, w1, rfl⟩
  have hw := fun d (hd : d ∈ tables_1) => atoms_spec (ws := Jvm.Cond.code x code maxLocals ret :: tables_1) hat d (List.mem_cons_of_mem _ hd)
  have hfit : Fit s := fun {y c} hc i hi => by
    obtain ⟨ha, rfl⟩ := Array.getElem?_eq_some_iff.mp hc
    have q := List.all_eq_true.mp ((Array.all_eq_true_iff_forall_mem.mp hF) _ (Array.getElem_mem ha)) i (List.mem_range.mpr hi)
    simpa [Array.getElem?_eq_getElem hi] using q
  obtain ⟨i0, ei0⟩ := is_v g10
  obtain rfl : w0 = (.int i0) := Option.some.inj ei0
  obtain ⟨i1, ei1⟩ := is_v g11
  obtain rfl : w1 = (.int i1) := Option.some.inj ei1
  obtain ⟨c0, hn⟩ := and_e hn
  obtain ⟨c1, hn⟩ := and_e hn
  obtain ⟨c2, hn⟩ := and_e hn
  obtain ⟨c3, hn⟩ := and_e hn
  obtain ⟨c4, hn⟩ := and_e hn
  obtain ⟨c5, hn⟩ := and_e hn
  obtain ⟨c6, hn⟩ := and_e hn
  obtain ⟨c7, hn⟩ := and_e hn
  obtain ⟨c8, hn⟩ := and_e hn
  obtain ⟨c9, hn⟩ := and_e hn
  obtain ⟨c10, hn⟩ := and_e hn
  obtain ⟨c11, hn⟩ := and_e hn
  obtain ⟨c12, hn⟩ := and_e hn
  obtain ⟨c13, hn⟩ := and_e hn
  have c14 := hn
  obtain ⟨w_LOCK, ev_LOCK, S_LOCK, E_LOCK⟩ := own_start c0 (hw _ (List.mem_of_getElem? (i := 6) rfl)) (hw _ (List.mem_of_getElem? (i := 7) rfl))
  obtain ⟨w_KAZOO_LOCK, ev_KAZOO_LOCK, S_KAZOO_LOCK, E_KAZOO_LOCK⟩ := own_start c1 (hw _ (List.mem_of_getElem? (i := 6) rfl)) (hw _ (List.mem_of_getElem? (i := 9) rfl))
  obtain ⟨w_READ, ev_READ, S_READ, E_READ⟩ := own_start c2 (hw _ (List.mem_of_getElem? (i := 6) rfl)) (hw _ (List.mem_of_getElem? (i := 14) rfl))
  obtain ⟨w_KAZOO_READ, ev_KAZOO_READ, S_KAZOO_READ, E_KAZOO_READ⟩ := own_start c5 (hw _ (List.mem_of_getElem? (i := 6) rfl)) (hw _ (List.mem_of_getElem? (i := 16) rfl))
  obtain ⟨w_WRITE, ev_WRITE, S_WRITE, E_WRITE⟩ := own_start c12 (hw _ (List.mem_of_getElem? (i := 6) rfl)) (hw _ (List.mem_of_getElem? (i := 25) rfl))
  have F_LOCK_ordinal := own_fld ev_LOCK c3
  have F_READ_ordinal := own_fld ev_READ c4
  have F_KAZOO_READ_ordinal := own_fld ev_KAZOO_READ c6
  have F_LOCK_shared := own_fld ev_LOCK c7
  have F_KAZOO_READ_shared := own_fld ev_KAZOO_READ c8
  have F_READ_shared := own_fld ev_READ c9
  have F_KAZOO_LOCK_ordinal := own_fld ev_KAZOO_LOCK c10
  have F_KAZOO_LOCK_shared := own_fld ev_KAZOO_LOCK c11
  have F_WRITE_ordinal := own_fld ev_WRITE c13
  have F_WRITE_shared := own_fld ev_WRITE c14
  have K := own_pick s s.heap w_LOCK w_READ w_WRITE w_KAZOO_LOCK w_KAZOO_READ E_LOCK E_READ E_WRITE E_KAZOO_LOCK E_KAZOO_READ F_LOCK_shared F_READ_shared F_WRITE_shared F_KAZOO_LOCK_shared F_KAZOO_READ_shared (own_ne F_LOCK_ordinal F_READ_ordinal (by decide)) (own_ne F_LOCK_ordinal F_KAZOO_READ_ordinal (by decide)) (own_ne F_WRITE_ordinal F_READ_ordinal (by decide)) (own_ne F_WRITE_ordinal F_KAZOO_READ_ordinal (by decide)) (own_ne F_KAZOO_LOCK_ordinal F_READ_ordinal (by decide)) (own_ne F_KAZOO_LOCK_ordinal F_KAZOO_READ_ordinal (by decide)) (own_ne F_KAZOO_READ_ordinal F_READ_ordinal (by decide))
  obtain ⟨n, o, h1, h2, h3, _, L, rfl, ⟨rfl, N⟩, hq⟩ := rm0_all l s _ hw tables_1 i0 i1 w_LOCK w_READ w_WRITE w_KAZOO_LOCK w_KAZOO_READ s.heap s.heap.size (Nat.le_refl _) S_LOCK S_READ S_WRITE S_KAZOO_LOCK S_KAZOO_READ K p e ha hc hk s m _ below hf ((Spec.applies_iff_loose hf).mp happ).1 ⟨rfl, State.Warmed39.refl s, rfl⟩ trivial
  refine ⟨n, _, h1, h2, h3, hpost _ _ _ _ _ _ ⟨Cond.after_iff.mpr rfl, Cond.after_iff.mpr (eq_i res_at (Term.int_eval (1)) rfl), trivial⟩ ⟨hq.1, hq.2.1, (hq.2.2.sift fun y hy => Or.inr (N y hy)).mono (by decide) (by decide)⟩⟩
theorem main_1_1 : Claimed_1_1 := comes_1 fun _ _ _ _ _ _ h hF => ⟨h.1, hF⟩
theorem main_1_2 : Claimed_1_2 := comes_1 fun _ _ _ _ _ _ h hF => ⟨h.2.1, hF⟩
end Jvm.Pilot.@@N@@
namespace Jvm.Pilot.@@N@@
open Jvm Jvm.ClassFile Sem Op Lib Jvm.Free Jvm.Stand Jvm.Pilot.@@N@@.Jvm.D
/-! MADE BY PROGRAM (witnessworld.py) out of the Statement's table words and the real class files: 12 classes; the members and pool entries that the words name. The judged class is class 1, her method 3. -/
namespace start1
open Jvm.ClassFile
def u (s : String) : CpInfo := .utf8 (stringToUtf16 s)
/-- a pool by its gaps: so many unusable entries, then the entry; so many at the end -/
def gap : Nat → List CpInfo → List CpInfo
  | 0, r => r
  | n + 1, r => .unusable :: gap n r
def poolList (es : List (Nat × CpInfo)) (last : Nat) : List CpInfo := es.foldr (fun e r => gap e.1 (e.2 :: r)) (gap last [])
def pool (es : List (Nat × CpInfo)) (last : Nat) : Array CpInfo := ⟨poolList es last⟩
def fileOf (pool : Array CpInfo) (this : Nat) (attrs : Array Attribute := #[]) (ms : Array MethodInfo := #[]) (fl : Nat := 33) (sup : Nat := 0) (ifs : Array Nat := #[]) (fds : Array FieldInfo := #[]) : ClassFile where
  minorVersion := 0
  majorVersion := 65
  constantPool := pool
  accessFlags := fl
  thisClass := this
  superClass := sup
  interfaces := ifs
  fields := fds
  methods := ms
  attributes := attrs
def plain (name : String) (sup : Option ClassId) : Class where
  name := name
  kind := .ordinary
  loader := none
  accessFlags := 33
  super := sup
  interfaces := #[]
  cf := none
  fields := #[]
  methods := #[]
  instanceTypes := #[]
  staticTypes := #[]
  resolved := #[]
  callSites := []
  init := .initialized
  statics := none
  mirror := none

def pool0 : Array CpInfo := pool [(5, u "<init>"), (0, u "()V"), (1, .class_ 10), (1, u "java/lang/Object")] 113

def k0m0 : Method := { name := "<init>", desc := "()V", sig := { parameters := [], returnType := none }, accessFlags := 1, code := none }
/-- java/lang/Object -/
def k0 : Class := { plain "java/lang/Object" none with
  accessFlags := 33
  interfaces := #[]
  cf := some (fileOf pool0 8 #[] #[{ accessFlags := 1, nameIndex := 5, descriptorIndex := 6, attributes := #[] }] 33 0 #[] #[])
  fields := #[]
  methods := #[k0m0]
  instanceTypes := #[]
  staticTypes := #[]
  resolved := Array.replicate 124 none
  statics := none }

def pool1 : Array CpInfo := pool [(2, .class_ 4), (1, u "java/lang/Object"), (0, u "<init>"), (0, u "()V"), (0, .integer 2147483647), (0, .fieldref 9 10), (0, .class_ 11), (0, .nameAndType 12 13), (0, u "com/example/kolok/kolok/ContenderName$Kind"), (0, u "LOCK"), (0, u "Lcom/example/kolok/kolok/ContenderName$Kind;"), (0, .fieldref 9 15), (0, .nameAndType 16 13), (0, u "READ"), (0, .fieldref 9 18), (0, .nameAndType 19 13), (0, u "WRITE"), (0, .fieldref 9 21), (0, .nameAndType 22 13), (0, u "KAZOO_LOCK"), (0, .fieldref 9 24), (0, .nameAndType 25 13), (0, u "KAZOO_READ"), (0, .methodref 27 28), (0, .class_ 29), (0, .nameAndType 30 31), (0, u "com/example/kolok/kolok/KindWaitsForPinLaw"), (0, u "pick"), (0, u "(I)Lcom/example/kolok/kolok/ContenderName$Kind;"), (0, .methodref 27 33), (0, .nameAndType 34 35), (0, u "reader"), (0, u "(Lcom/example/kolok/kolok/ContenderName$Kind;)Z"), (0, .methodref 9 37), (0, .nameAndType 38 35), (0, u "waitsFor"), (3, u "law"), (0, u "(II)Z")] 6

def k1m0 : Method := { name := "<init>", desc := "()V", sig := { parameters := [], returnType := none }, accessFlags := 1, code := none }
def k1c1 : Code := { maxStack := 2, maxLocals := 2, code := method_2_code, exceptionTable := #[], attributes := #[] }
def k1m1 : Method := { name := "pick", desc := "(I)Lcom/example/kolok/kolok/ContenderName$Kind;", sig := { parameters := [.int], returnType := some (.object "com/example/kolok/kolok/ContenderName$Kind") }, accessFlags := 10, code := some k1c1 }
def k1c2 : Code := { maxStack := 2, maxLocals := 1, code := method_3_code, exceptionTable := #[], attributes := #[] }
def k1m2 : Method := { name := "reader", desc := "(Lcom/example/kolok/kolok/ContenderName$Kind;)Z", sig := { parameters := [(.object "com/example/kolok/kolok/ContenderName$Kind")], returnType := some .boolean }, accessFlags := 10, code := some k1c2 }
def k1c3 : Code := { maxStack := 2, maxLocals := 5, code := code, exceptionTable := #[], attributes := #[] }
def k1m3 : Method := { name := "law", desc := "(II)Z", sig := { parameters := [.int, .int], returnType := some .boolean }, accessFlags := 9, code := some k1c3 }
/-- com/example/kolok/kolok/KindWaitsForPinLaw -/
def k1 : Class := { plain "com/example/kolok/kolok/KindWaitsForPinLaw" (some 0) with
  accessFlags := 49
  interfaces := #[]
  cf := some (fileOf pool1 27 #[] #[{ accessFlags := 1, nameIndex := 5, descriptorIndex := 6, attributes := #[] }, { accessFlags := 10, nameIndex := 30, descriptorIndex := 31, attributes := #[] }, { accessFlags := 10, nameIndex := 34, descriptorIndex := 35, attributes := #[] }, { accessFlags := 9, nameIndex := 42, descriptorIndex := 43, attributes := #[] }] 49 2 #[] #[])
  fields := #[]
  methods := #[k1m0, k1m1, k1m2, k1m3]
  instanceTypes := #[]
  staticTypes := #[]
  resolved := Array.replicate 50 none
  statics := none }

def pool2 : Array CpInfo := pool [(1, .class_ 2), (0, u "java/lang/constant/Constable"), (0, .class_ 4), (0, u "java/lang/Object")] 6

/-- java/lang/constant/Constable -/
def k2 : Class := { plain "java/lang/constant/Constable" (some 0) with
  accessFlags := 1537
  interfaces := #[]
  cf := some (fileOf pool2 1 #[] #[] 1537 3 #[] #[])
  fields := #[]
  methods := #[]
  instanceTypes := #[]
  staticTypes := #[]
  resolved := Array.replicate 11 none
  statics := none }

def pool3 : Array CpInfo := pool [(1, .class_ 2), (0, u "java/lang/Comparable"), (0, .class_ 4), (0, u "java/lang/Object")] 7

/-- java/lang/Comparable -/
def k3 : Class := { plain "java/lang/Comparable" (some 0) with
  accessFlags := 1537
  interfaces := #[]
  cf := some (fileOf pool3 1 #[] #[] 1537 3 #[] #[])
  fields := #[]
  methods := #[]
  instanceTypes := #[]
  staticTypes := #[]
  resolved := Array.replicate 12 none
  statics := none }

def pool4 : Array CpInfo := pool [(1, .class_ 2), (0, u "java/io/Serializable"), (0, .class_ 4), (0, u "java/lang/Object")] 2

/-- java/io/Serializable -/
def k4 : Class := { plain "java/io/Serializable" (some 0) with
  accessFlags := 1537
  interfaces := #[]
  cf := some (fileOf pool4 1 #[] #[] 1537 3 #[] #[])
  fields := #[]
  methods := #[]
  instanceTypes := #[]
  staticTypes := #[]
  resolved := Array.replicate 7 none
  statics := none }

def pool5 : Array CpInfo := pool [(2, .class_ 4), (1, u "java/lang/Enum"), (0, u "name"), (0, u "Ljava/lang/String;"), (2, u "ordinal"), (0, u "I"), (1, .class_ 14), (1, u "java/lang/Object"), (4, u "hash"), (86, .class_ 108), (1, u "java/lang/Enum$EnumDesc"), (2, .class_ 112), (0, u "java/lang/constant/Constable"), (0, .class_ 114), (0, u "java/lang/Comparable"), (0, .class_ 116), (0, u "java/io/Serializable")] 87

/-- java/lang/Enum -/
def k5 : Class := { plain "java/lang/Enum" (some 0) with
  accessFlags := 1057
  interfaces := #[2, 3, 4]
  cf := some (fileOf pool5 2 #[.nestMembers #[106]] #[] 1057 12 #[111, 113, 115] #[{ accessFlags := 18, nameIndex := 5, descriptorIndex := 6, attributes := #[] }, { accessFlags := 18, nameIndex := 9, descriptorIndex := 10, attributes := #[] }, { accessFlags := 2, nameIndex := 19, descriptorIndex := 10, attributes := #[] }])
  fields := #[{ name := "name", type := (.object "java/lang/String"), accessFlags := 18, slot := 0, constantValue := 0 }, { name := "ordinal", type := .int, accessFlags := 18, slot := 1, constantValue := 0 }, { name := "hash", type := .int, accessFlags := 2, slot := 2, constantValue := 0 }]
  methods := #[]
  instanceTypes := #[(.object "java/lang/String"), .int, .int]
  staticTypes := #[]
  resolved := Array.replicate 204 none
  statics := none }

def pool6 : Array CpInfo := pool [(1, .class_ 2), (0, u "com/example/kolok/kolok/ContenderName$Kind"), (2, u "LOCK"), (0, u "Lcom/example/kolok/kolok/ContenderName$Kind;"), (2, u "READ"), (2, u "WRITE"), (2, u "KAZOO_LOCK"), (2, u "KAZOO_READ"), (2, u "$VALUES"), (0, u "[Lcom/example/kolok/kolok/ContenderName$Kind;"), (6, .class_ 31), (1, u "java/lang/Enum"), (8, u "marker"), (0, u "Ljava/lang/String;"), (0, .fieldref 1 43), (0, .nameAndType 44 45), (0, u "shared"), (0, u "Z"), (29, u "waitsFor"), (0, u "(Lcom/example/kolok/kolok/ContenderName$Kind;)Z"), (8, .class_ 86), (0, u "com/example/kolok/kolok/ContenderName")] 2

def k6c0 : Code := { maxStack := 1, maxLocals := 2, code := prog_3_method_4_code, exceptionTable := #[], attributes := #[] }
def k6m0 : Method := { name := "waitsFor", desc := "(Lcom/example/kolok/kolok/ContenderName$Kind;)Z", sig := { parameters := [(.object "com/example/kolok/kolok/ContenderName$Kind")], returnType := some .boolean }, accessFlags := 0, code := some k6c0 }
/-- com/example/kolok/kolok/ContenderName$Kind -/
def k6 : Class := { plain "com/example/kolok/kolok/ContenderName$Kind" (some 5) with
  accessFlags := 16432
  interfaces := #[]
  cf := some (fileOf pool6 1 #[.nestHost 85] #[{ accessFlags := 0, nameIndex := 75, descriptorIndex := 76, attributes := #[] }] 16432 29 #[] #[{ accessFlags := 16409, nameIndex := 5, descriptorIndex := 6, attributes := #[] }, { accessFlags := 16409, nameIndex := 9, descriptorIndex := 6, attributes := #[] }, { accessFlags := 16409, nameIndex := 12, descriptorIndex := 6, attributes := #[] }, { accessFlags := 16409, nameIndex := 15, descriptorIndex := 6, attributes := #[] }, { accessFlags := 16409, nameIndex := 18, descriptorIndex := 6, attributes := #[] }, { accessFlags := 18, nameIndex := 40, descriptorIndex := 41, attributes := #[] }, { accessFlags := 18, nameIndex := 44, descriptorIndex := 45, attributes := #[] }, { accessFlags := 4122, nameIndex := 21, descriptorIndex := 22, attributes := #[] }])
  fields := #[{ name := "LOCK", type := (.object "com/example/kolok/kolok/ContenderName$Kind"), accessFlags := 16409, slot := 0, constantValue := 0 }, { name := "READ", type := (.object "com/example/kolok/kolok/ContenderName$Kind"), accessFlags := 16409, slot := 1, constantValue := 0 }, { name := "WRITE", type := (.object "com/example/kolok/kolok/ContenderName$Kind"), accessFlags := 16409, slot := 2, constantValue := 0 }, { name := "KAZOO_LOCK", type := (.object "com/example/kolok/kolok/ContenderName$Kind"), accessFlags := 16409, slot := 3, constantValue := 0 }, { name := "KAZOO_READ", type := (.object "com/example/kolok/kolok/ContenderName$Kind"), accessFlags := 16409, slot := 4, constantValue := 0 }, { name := "marker", type := (.object "java/lang/String"), accessFlags := 18, slot := 3, constantValue := 0 }, { name := "shared", type := .boolean, accessFlags := 18, slot := 4, constantValue := 0 }, { name := "$VALUES", type := (.array (.object "com/example/kolok/kolok/ContenderName$Kind")), accessFlags := 4122, slot := 5, constantValue := 0 }]
  methods := #[k6m0]
  instanceTypes := #[(.object "java/lang/String"), .int, .int, (.object "java/lang/String"), .boolean]
  staticTypes := #[(.object "com/example/kolok/kolok/ContenderName$Kind"), (.object "com/example/kolok/kolok/ContenderName$Kind"), (.object "com/example/kolok/kolok/ContenderName$Kind"), (.object "com/example/kolok/kolok/ContenderName$Kind"), (.object "com/example/kolok/kolok/ContenderName$Kind"), (.array (.object "com/example/kolok/kolok/ContenderName$Kind"))]
  resolved := Array.replicate 89 none
  statics := some 0 }

def pool7 : Array CpInfo := pool [(1, u "java/lang/Cloneable"), (0, .class_ 1), (0, u "java/lang/Object"), (0, .class_ 3)] 3

/-- java/lang/Cloneable -/
def k7 : Class := { plain "java/lang/Cloneable" (some 0) with
  accessFlags := 1537
  interfaces := #[]
  cf := some (fileOf pool7 2 #[] #[] 1537 4 #[] #[])
  fields := #[]
  methods := #[]
  instanceTypes := #[]
  staticTypes := #[]
  resolved := Array.replicate 8 none
  statics := none }

/-- the primitive byte -/
def k8 : Class := { plain "byte" none with kind := .primitive 'B', accessFlags := 0x411 }
/-- [B -/
def k9 : Class := { plain "[B" (some 0) with kind := .array 8 .byte, interfaces := #[7, 4], accessFlags := 1041 }

/-- the primitive int -/
def k10 : Class := { plain "int" none with kind := .primitive 'I', accessFlags := 0x411 }
/-- [I -/
def k11 : Class := { plain "[I" (some 0) with kind := .array 10 .int, interfaces := #[7, 4], accessFlags := 1041 }

def heap : Heap := #[{ cls := 6, slots := #[.ref 1, .ref 2, .ref 3, .ref 4, .ref 5, .null], vm := .statics 6 },
  { cls := 6, slots := #[.null, .int 0, .int 0, .null, .int 0], vm := .none },
  { cls := 6, slots := #[.null, .int 1, .int 0, .null, .int 1], vm := .none },
  { cls := 6, slots := #[.null, .int 2, .int 0, .null, .int 0], vm := .none },
  { cls := 6, slots := #[.null, .int 3, .int 0, .null, .int 0], vm := .none },
  { cls := 6, slots := #[.null, .int 4, .int 0, .null, .int 1], vm := .none }]
def classes : Array Class := #[k0, k1, k2, k3, k4, k5, k6, k7, k8, k9, k10, k11]
def interned : List (Array UInt16 × Addr) := []
def slotsUsed : Nat := 31
def theMethod : MethodId := ⟨1, 3⟩
def args0 : Array Value := #[.int 5, .int 3]
def aboutOver (below : List Frame) : State where
  vm := { classes := classes, interned := interned.toArray }
  heap := heap
  slotsUsed := slotsUsed
  threads := #[{ frames := .invoking theMethod args0 :: below }]
def below0 : List Frame := [.native { method := ⟨0, 0⟩, args := #[] }]
def about1 : State := aboutOver below0
def p0 : Program := .bare "" "" ""
def e0 : Env := launch0.env 0 0 0
theorem w_frames : about1.frames = Frame.invoking theMethod args0 :: below0 := rfl
set_option maxRecDepth 65536 in
theorem w_args : argsFit about1.vm theMethod args0 = true := by decide +kernel
set_option maxRecDepth 65536 in
theorem w_heap : heapFits about1 = true := by decide +kernel
set_option maxRecDepth 65536 in
theorem w_runnable : about1.curStatus? = some .runnable := by decide +kernel
set_option maxRecDepth 65536 in
theorem w_alone : about1.alone = true := by decide +kernel
set_option maxRecDepth 65536 in
theorem w_named : about1.methodNamed? x = some theMethod := by decide +kernel
set_option maxRecDepth 65536 in
theorem w_hears : about1.hears theMethod below0 = true := by decide +kernel
set_option maxRecDepth 65536 in
theorem w_ripe : about1.ripe theMethod args0 below0 = true := by decide +kernel
theorem w_running : about1.status = .running := rfl
set_option maxRecDepth 65536 in
theorem w_room : about1.hasRoom e0.platform room_1 = true :=
  launch0.hasRoom_least _ room_1 (by decide +kernel) (by decide +kernel) (by decide +kernel) (by decide +kernel) (by decide +kernel) (by decide +kernel)
theorem allAtoms_all (ts : List Jvm.Cond) (a : Array Jvm.Value) (st : Jvm.State) : (allAtoms ts).before a st = ts.all (fun c => c.before a st) := by
  induction ts with
  | nil => rfl
  | cons c t ih =>
    show (Jvm.Cond.and c (allAtoms t)).before a st = _
    rw [Jvm.Cond.before_and, ih, List.all_cons]
def words1 : List Jvm.Cond := Jvm.Cond.code x code maxLocals ret :: tables_1
/-- a 'code' word, met by the world's own term for the bytes: nothing is compared byte by byte -/
theorem code_word {y : MethodName} {bytes : ByteArray} {mx : Nat} {rt : Option FieldType} {a : Array Value} {s : State} {m : MethodId} {meth : Method} {c : Code} (h1 : s.methodNamed? y = some m) (h2 : s.vm.method? m = some meth) (h3 : meth.code = some c) (h4 : c.code = bytes)
    (h5 : (c.maxLocals == mx && c.exceptionTable.isEmpty && decide (c.maxStack ≤ mostOperands) && decide (meth.sig.returnType = rt) && !meth.locks && decide (parseMethodDescriptor y.desc = some meth.sig)) = true) : (Jvm.Cond.code y bytes mx rt).before a s = true := by
  simp only [Bool.and_eq_true, beq_iff_eq, Bool.not_eq_true', decide_eq_true_eq] at h5
  obtain ⟨⟨⟨⟨⟨g1, g2⟩, g3⟩, g4⟩, g5⟩, g6⟩ := h5
  simp [Cond.before, Cond.holds, Cond.value, h1, h2, h3, h4, g1, g2, g3, g4, g5, g6]
def isCode : Jvm.Cond → Bool
  | .code _ _ _ _ => true
  | _ => false
theorem all_split {L : List Jvm.Cond} {P : Jvm.Cond → Bool} (h1 : L.all (fun c => isCode c || P c) = true) (h2 : ∀ c ∈ L.filter isCode, P c = true) : L.all P = true := by
  refine List.all_eq_true.mpr fun c hc => ?_
  have h := List.all_eq_true.mp h1 c hc
  rcases Bool.eq_false_or_eq_true (isCode c) with hi | hi
  · exact h2 c (List.mem_filter.mpr ⟨hc, hi⟩)
  · simpa [hi] using h
set_option maxRecDepth 65536 in
theorem w_c0 : (Jvm.Cond.code x code maxLocals ret).before args0 about1 = true := code_word (m := ⟨1, 3⟩) (meth := k1m3) (c := k1c3) (by decide +kernel) rfl rfl rfl (by decide +kernel)
set_option maxRecDepth 65536 in
theorem w_c1 : (Jvm.Cond.code ({ cls := "com/example/kolok/kolok/KindWaitsForPinLaw", name := "pick", desc := "(I)Lcom/example/kolok/kolok/ContenderName$Kind;" } : Jvm.MethodName) method_2_code (2 : Nat) (Option.some (Jvm.ClassFile.FieldType.object "com/example/kolok/kolok/ContenderName$Kind"))).before args0 about1 = true := code_word (m := ⟨1, 1⟩) (meth := k1m1) (c := k1c1) (by decide +kernel) rfl rfl rfl (by decide +kernel)
set_option maxRecDepth 65536 in
theorem w_c2 : (Jvm.Cond.code ({ cls := "com/example/kolok/kolok/KindWaitsForPinLaw", name := "reader", desc := "(Lcom/example/kolok/kolok/ContenderName$Kind;)Z" } : Jvm.MethodName) method_3_code (1 : Nat) (Option.some Jvm.ClassFile.FieldType.boolean)).before args0 about1 = true := code_word (m := ⟨1, 2⟩) (meth := k1m2) (c := k1c2) (by decide +kernel) rfl rfl rfl (by decide +kernel)
set_option maxRecDepth 65536 in
theorem w_c3 : (Jvm.Cond.code ({ cls := "com/example/kolok/kolok/ContenderName$Kind", name := "waitsFor", desc := "(Lcom/example/kolok/kolok/ContenderName$Kind;)Z" } : Jvm.MethodName) prog_3_method_4_code (2 : Nat) (Option.some Jvm.ClassFile.FieldType.boolean)).before args0 about1 = true := code_word (m := ⟨6, 0⟩) (meth := k6m0) (c := k6c0) (by decide +kernel) rfl rfl rfl (by decide +kernel)
def codes1 : List Jvm.Cond := [Jvm.Cond.code x code maxLocals ret, Jvm.Cond.code ({ cls := "com/example/kolok/kolok/KindWaitsForPinLaw", name := "pick", desc := "(I)Lcom/example/kolok/kolok/ContenderName$Kind;" } : Jvm.MethodName) method_2_code (2 : Nat) (Option.some (Jvm.ClassFile.FieldType.object "com/example/kolok/kolok/ContenderName$Kind")), Jvm.Cond.code ({ cls := "com/example/kolok/kolok/KindWaitsForPinLaw", name := "reader", desc := "(Lcom/example/kolok/kolok/ContenderName$Kind;)Z" } : Jvm.MethodName) method_3_code (1 : Nat) (Option.some Jvm.ClassFile.FieldType.boolean), Jvm.Cond.code ({ cls := "com/example/kolok/kolok/ContenderName$Kind", name := "waitsFor", desc := "(Lcom/example/kolok/kolok/ContenderName$Kind;)Z" } : Jvm.MethodName) prog_3_method_4_code (2 : Nat) (Option.some Jvm.ClassFile.FieldType.boolean)]
set_option maxRecDepth 65536 in
theorem codes_eq : words1.filter isCode = codes1 := rfl
theorem w_codes : ∀ c ∈ words1.filter isCode, c.before args0 about1 = true := by
  rw [codes_eq]
  intro c hc
  simp only [codes1, List.mem_cons, List.not_mem_nil, or_false] at hc
  rcases hc with rfl | rfl | rfl | rfl
  · exact w_c0
  · exact w_c1
  · exact w_c2
  · exact w_c3
set_option maxRecDepth 65536 in
theorem w_t1 : (words1.take 24).all (fun c => isCode c || c.before args0 about1) = true := by decide +kernel
set_option maxRecDepth 65536 in
theorem w_t2 : (words1.drop 24).all (fun c => isCode c || c.before args0 about1) = true := by decide +kernel
theorem w_tables : (allAtoms (Jvm.Cond.code x code maxLocals ret :: tables_1)).before args0 about1 = true := by
  rw [allAtoms_all]
  show words1.all (fun c => c.before args0 about1) = true
  refine all_split ?_ w_codes
  rw [← List.take_append_drop 24 words1, List.all_append, w_t1, w_t2]
  rfl
set_option maxRecDepth 65536 in
theorem w_case : (Jvm.Cond.and given_1 narrow_1).before args0 about1 = true := by decide +kernel
theorem w_applies : (headSpec (Jvm.Cond.code x code maxLocals ret :: tables_1) room_1).applies x e0.platform about1 = true :=
  (Spec.applies_iff w_frames).mpr ⟨w_running, w_runnable, w_alone, w_named, w_hears, w_ripe, w_room, w_tables⟩
theorem atStart : AtStart classFile x code maxLocals ret World_1 tables_1 room_1 Calls_1 rest_1 Pre_1 launch0 p0 e0 about1 theMethod args0 below0 :=
  ⟨lists_1, trivial, launch0.admits_env _ _ _, launch0.least_env, fairChoices_fair.cas, fairChoices_fair.clock, w_frames, w_args, w_heap, w_applies, trivial, trivial, w_case⟩
end start1
theorem witness_1 : WitnessClaimed_1 := ⟨start1.p0, start1.e0, start1.about1, start1.theMethod, start1.args0, start1.below0, start1.atStart⟩
end Jvm.Pilot.@@N@@
