import JvmDerived
import JvmDerived.Pilot.@@N@@Statement
import JvmDerived.Pilot.@@N@@Code
set_option linter.unusedVariables false
set_option linter.unusedSimpArgs false
@@BLOCK:NumsL.lean.txt@@
namespace Jvm.RoadKit
open Sem ClassFile Op Lib Jvm.Stand Jvm.Free Jvm.LawKit
section New
variable {p : Program} {l : Launch} {e : Env} {R : Room} {s : State} {m : MethodId} {args : Array Value} {below : List Frame} {meth : Method} {c : Code} {T : State} {locs : List Loc} {cells slots : Nat}
theorem retI (X : Stand p l e R s m args below meth c T locs cells slots) (hx : p.tables.exec = Jvm.exec) {pc : Nat} {Ls : Array Slot} {z : Int32} {rest : List Value} (hret : meth.sig.returnType = some .int) (hd : decode c.code pc = .ok (.ireturn, 1)) {fs : List Frame}
    (hl : ∀ (f : JFrame) (acts : List Action), f.method = m → f.locked = none → f.entered = [] → (doReturn e (T.setTop f) acts (some (.int z))).1 = T.setFrames fs) : Steps p.tables e below (T.setTop (mkF m pc Ls (.int z :: rest))) (T.setFrames fs) := by
  have hm' : T.vm.method? m = some meth := X.method'
  have hn : narrow .int (.int z) = .int z := rfl
  show Steps p.tables e below (T.setTop { method := m, pc := pc, locals := Ls, stack := _ :: rest, locked := none }) _
  jvm_step X.here [X.here.top, hx, hd, hm', hret, hn]
  first | (intro acts; rw [hl _ acts rfl rfl rfl]) | rw [hl _ _ rfl rfl rfl]
  exact Steps.refl _
end New
end Jvm.RoadKit
namespace Jvm.Pilot.@@N@@
open Jvm Jvm.ClassFile Sem Op Lib Jvm.Free Jvm.Stand Jvm.LawKit Jvm.RoadKit Bundle Jvm.Pilot.@@N@@.Jvm.D
theorem own_keep {h h' : Heap} (e : h' = h) : Keep h h' [] := e ▸ Keep.refl _ _
theorem own_ws0 {h0 : Heap} {ws : List Addr} : ∀ x ∈ ([] : List Addr), x ∈ ws ∨ h0.size ≤ x := fun _ q => nomatch q
theorem own_ws1 {h0 : Heap} {ws : List Addr} {a : Addr} (q : h0.size ≤ a) : ∀ x ∈ [a], x ∈ ws ∨ h0.size ≤ x := fun x hx => by cases List.mem_singleton.mp hx; exact Or.inr q
theorem own_wsIn {h0 : Heap} {a : Addr} : ∀ x ∈ [a], x ∈ [a] ∨ h0.size ≤ x := fun x hx => Or.inl hx
theorem own_nin {a b : Addr} (h : a ≠ b) : a ∉ [b] := fun q => h (List.mem_singleton.mp q)
theorem own_ne {a b n : Nat} (h : a < n) (e : b = n) : a ≠ b := by omega
theorem d1_0 : decode method_3_code 0 = .ok (.iload_n 0, 1) := by decide +kernel
theorem d1_1 : decode method_3_code 1 = .ok (.ifCond .ne 7, 3) := by decide +kernel
theorem d1_8 : decode method_3_code 8 = .ok (.iload_n 0, 1) := by decide +kernel
theorem d1_9 : decode method_3_code 9 = .ok (.iconst 1, 1) := by decide +kernel
theorem d1_10 : decode method_3_code 10 = .ok (.if_icmp .ne 7, 3) := by decide +kernel
theorem d1_17 : decode method_3_code 17 = .ok (.iload_n 0, 1) := by decide +kernel
theorem d1_18 : decode method_3_code 18 = .ok (.iconst 2, 1) := by decide +kernel
theorem d1_19 : decode method_3_code 19 = .ok (.if_icmp .ne 7, 3) := by decide +kernel
theorem d1_26 : decode method_3_code 26 = .ok (.iload_n 0, 1) := by decide +kernel
theorem d1_27 : decode method_3_code 27 = .ok (.iconst 3, 1) := by decide +kernel
theorem d1_28 : decode method_3_code 28 = .ok (.if_icmp .ne 7, 3) := by decide +kernel
theorem d1_35 : decode method_3_code 35 = .ok (.iload_n 0, 1) := by decide +kernel
theorem d1_36 : decode method_3_code 36 = .ok (.iconst 4, 1) := by decide +kernel
theorem d1_37 : decode method_3_code 37 = .ok (.if_icmp .ne 7, 3) := by decide +kernel
theorem d1_44 : decode method_3_code 44 = .ok (.iload_n 0, 1) := by decide +kernel
theorem d1_45 : decode method_3_code 45 = .ok (.iconst 5, 1) := by decide +kernel
theorem d1_46 : decode method_3_code 46 = .ok (.if_icmp .ne 7, 3) := by decide +kernel
theorem d1_53 : decode method_3_code 53 = .ok (.getstatic 43, 3) := by decide +kernel
theorem d1_56 : decode method_3_code 56 = .ok (.areturn, 1) := by decide +kernel
theorem pn_1 : plainName "com/example/orderly_tx/orderlytx/PropagationModePinLaw" = true := by first | (simp [plainName, overriddenIn]; done) | decide +kernel
theorem ef_1 (m : MethodId) (x0 : Int32) : entryFrame m #[(.int x0)] 1 = mkF m 0 #[.val (.int x0)] [] := by first | (simp [entryFrame, mkF, argsToLocals, Value.category]; done) | rfl
theorem d1_49 : decode method_3_code 49 = .ok (.getstatic 40, 3) := by decide +kernel
theorem d1_52 : decode method_3_code 52 = .ok (.areturn, 1) := by decide +kernel
theorem d1_40 : decode method_3_code 40 = .ok (.getstatic 37, 3) := by decide +kernel
theorem d1_43 : decode method_3_code 43 = .ok (.areturn, 1) := by decide +kernel
theorem d1_31 : decode method_3_code 31 = .ok (.getstatic 34, 3) := by decide +kernel
theorem d1_34 : decode method_3_code 34 = .ok (.areturn, 1) := by decide +kernel
theorem d1_22 : decode method_3_code 22 = .ok (.getstatic 31, 3) := by decide +kernel
theorem d1_25 : decode method_3_code 25 = .ok (.areturn, 1) := by decide +kernel
theorem d1_13 : decode method_3_code 13 = .ok (.getstatic 28, 3) := by decide +kernel
theorem d1_16 : decode method_3_code 16 = .ok (.areturn, 1) := by decide +kernel
theorem d1_4 : decode method_3_code 4 = .ok (.getstatic 24, 3) := by decide +kernel
theorem d1_7 : decode method_3_code 7 = .ok (.areturn, 1) := by decide +kernel
def own_f1 (p1 : Int32) (w_NESTED : Addr) (w_NEVER : Addr) (w_NOT_SUPPORTED : Addr) (w_MANDATORY : Addr) (w_SUPPORTS : Addr) (w_REQUIRES_NEW : Addr) (w_REQUIRED : Addr) : Addr := (if p1 = (0 : Int32) then w_REQUIRED else (if p1 = (1 : Int32) then w_REQUIRES_NEW else (if p1 = (2 : Int32) then w_SUPPORTS else (if p1 = (3 : Int32) then w_MANDATORY else (if p1 = (4 : Int32) then w_NOT_SUPPORTED else (if p1 = (5 : Int32) then w_NEVER else w_NESTED))))))
def Q1 (Z : State) (p1 : Int32) (w_NESTED : Addr) (w_NEVER : Addr) (w_NOT_SUPPORTED : Addr) (w_MANDATORY : Addr) (w_SUPPORTS : Addr) (w_REQUIRES_NEW : Addr) (w_REQUIRED : Addr) (h0 : Heap) (n0 : Nat) (v : Option Value) (h : Heap) (L : List Loc) : Prop := v = some (.ref (own_f1 p1 w_NESTED w_NEVER w_NOT_SUPPORTED w_MANDATORY w_SUPPORTS w_REQUIRES_NEW w_REQUIRED)) ∧ Fr n0 L ∧ h = h0
set_option maxRecDepth 65536 in
set_option maxHeartbeats 40000000 in
theorem rm1_tttttt (l : Launch) (Z : State) (a0 : Array Value) (hw : ∀ d ∈ tables_1, d.before a0 Z = true) (ws : List Jvm.Cond) (p1 : Int32) (w_NESTED : Addr) (w_NEVER : Addr) (w_NOT_SUPPORTED : Addr) (w_MANDATORY : Addr) (w_SUPPORTS : Addr) (w_REQUIRES_NEW : Addr) (w_REQUIRED : Addr) (h0 : Heap) (n0 : Nat) (Z0 : n0 ≤ h0.size) (S_NESTED : Sta Z h0 "com/example/orderly_tx/orderlytx/Propagation" "NESTED" "Lcom/example/orderly_tx/orderlytx/Propagation;" (.ref w_NESTED)) (S_NEVER : Sta Z h0 "com/example/orderly_tx/orderlytx/Propagation" "NEVER" "Lcom/example/orderly_tx/orderlytx/Propagation;" (.ref w_NEVER)) (S_NOT_SUPPORTED : Sta Z h0 "com/example/orderly_tx/orderlytx/Propagation" "NOT_SUPPORTED" "Lcom/example/orderly_tx/orderlytx/Propagation;" (.ref w_NOT_SUPPORTED)) (S_MANDATORY : Sta Z h0 "com/example/orderly_tx/orderlytx/Propagation" "MANDATORY" "Lcom/example/orderly_tx/orderlytx/Propagation;" (.ref w_MANDATORY)) (S_SUPPORTS : Sta Z h0 "com/example/orderly_tx/orderlytx/Propagation" "SUPPORTS" "Lcom/example/orderly_tx/orderlytx/Propagation;" (.ref w_SUPPORTS)) (S_REQUIRES_NEW : Sta Z h0 "com/example/orderly_tx/orderlytx/Propagation" "REQUIRES_NEW" "Lcom/example/orderly_tx/orderlytx/Propagation;" (.ref w_REQUIRES_NEW)) (S_REQUIRED : Sta Z h0 "com/example/orderly_tx/orderlytx/Propagation" "REQUIRED" "Lcom/example/orderly_tx/orderlytx/Propagation;" (.ref w_REQUIRED)) (hc1 : ¬ (p1 = (0 : Int32))) (hc10 : ¬ (p1 = (1 : Int32))) (hc19 : ¬ (p1 = (2 : Int32))) (hc28 : ¬ (p1 = (3 : Int32))) (hc37 : ¬ (p1 = (4 : Int32))) (hc46 : ¬ (p1 = (5 : Int32))) :
    MetFree l (⟨"com/example/orderly_tx/orderlytx/PropagationModePinLaw", "pick", "(I)Lcom/example/orderly_tx/orderlytx/Propagation;"⟩ : MethodName) (head1 (Jvm.Cond.code (⟨"com/example/orderly_tx/orderlytx/PropagationModePinLaw", "pick", "(I)Lcom/example/orderly_tx/orderlytx/Propagation;"⟩ : MethodName) method_3_code 1 (some (.object "com/example/orderly_tx/orderlytx/Propagation")) :: ws) ({ frames := 0, cells := 0, slots := 0, locals := 0 } : Room)) (fun a U => a = #[(.int p1)] ∧ Z.Warmed39 U.vm ∧ U.heap = h0) (fun _ _ _ _ _ => True) (fun _ U o U' => ∃ v L, o = .returned v ∧ Q1 Z p1 w_NESTED w_NEVER w_NOT_SUPPORTED w_MANDATORY w_SUPPORTS w_REQUIRES_NEW w_REQUIRED h0 n0 v U'.heap L ∧ FrameEnd U o U' L ({ frames := 0, cells := 0, slots := 0, locals := 0 } : Room).cells ({ frames := 0, cells := 0, slots := 0, locals := 0 } : Room).slots) := by
  refine MetFree.of_bodySF (plainFor_of_name pn_1) hisR ?_
  intro p e s m args below meth c s₁ Bd hml0 hP hK
  obtain ⟨rfl, hZ, hh⟩ := hP
  have hx := Bd.exec
  have hby := Bd.bytes
  have hml : c.maxLocals = 1 := hml0
  have hown : s.vm.findClass "com/example/orderly_tx/orderlytx/PropagationModePinLaw" = some m.cls := findClass_of_methodNamed Bd.named
  have hnm := (name_of_methodNamed Bd.named Bd.method).1
  have X0 : Stand p l e ({ frames := 0, cells := 0, slots := 0, locals := 0 } : Room) s m #[(.int p1)] below meth c s₁ [] 0 0 := Stand.of_body Bd
  have e0 : s₁.heap = h0 := by rw [← hh, Bd.state]; rfl
  have N0 := Fr.nil n0
  have pre0 : ∀ t, Steps p.tables e below (s₁.setTop (mkF m 0 #[.val (.int p1)] [])) t → Steps p.tables e below (s₁.setTop (entryFrame m #[(.int p1)] 1)) t := fun t k => castTop (ef_1 m p1) k
  -- 3. LAWS
  obtain ⟨T3, X3, e3, st3⟩ := getS2 X0 hx hZ hown (host := "") (Or.inl (hw _ (List.mem_of_getElem? (i := 33) rfl))) Via.refl e0 S_NESTED (g := (mkF m 53 #[.val (.int p1)] [])) rfl (hb hby d1_53)
  obtain ⟨fs, hr, hrun, hended, hW, hsame⟩ := X3.leave (v := some (.ref w_NESTED)) (fun h => by rw [Bd.returns] at h; cases h) (BodyLoose.notSynchronized Bd)
  refine ⟨_, _, pre0 _ ?_, hrun, hended, _, _, rfl, ?_, ⟨_, rfl⟩, hW, hsame.mono (by decide) (by decide)⟩
  -- 4. STEPS
  · show Steps p.tables e below (s₁.setTop (mkF m 0 #[.val (.int p1)] [])) _
    refine XS.iloadN X0.here hx rfl (hb hby d1_0) rfl ?_
    show Steps p.tables e below (s₁.setTop (mkF m 1 #[.val (.int p1)] [(.int p1)])) _
    refine XS.ifYes X0.here hx rfl (pc0 := 1) (pc' := 8) rfl (hb hby d1_1) rfl ((if0 _ _).trans (feq hc1).2) (by decide) (by decide) ?_
    show Steps p.tables e below (s₁.setTop (mkF m 8 #[.val (.int p1)] [])) _
    refine XS.iloadN X0.here hx rfl (hb hby d1_8) rfl ?_
    show Steps p.tables e below (s₁.setTop (mkF m 9 #[.val (.int p1)] [(.int p1)])) _
    refine XS.iconst X0.here hx rfl (hb hby d1_9) ?_
    show Steps p.tables e below (s₁.setTop (mkF m 10 #[.val (.int p1)] [(.int (1 : Int32)), (.int p1)])) _
    refine XS.icmpYes X0.here hx rfl (pc0 := 10) (pc' := 17) rfl (hb hby d1_10) rfl (feq hc10).2 (by decide) (by decide) ?_
    show Steps p.tables e below (s₁.setTop (mkF m 17 #[.val (.int p1)] [])) _
    refine XS.iloadN X0.here hx rfl (hb hby d1_17) rfl ?_
    show Steps p.tables e below (s₁.setTop (mkF m 18 #[.val (.int p1)] [(.int p1)])) _
    refine XS.iconst X0.here hx rfl (hb hby d1_18) ?_
    show Steps p.tables e below (s₁.setTop (mkF m 19 #[.val (.int p1)] [(.int (2 : Int32)), (.int p1)])) _
    refine XS.icmpYes X0.here hx rfl (pc0 := 19) (pc' := 26) rfl (hb hby d1_19) rfl (feq hc19).2 (by decide) (by decide) ?_
    show Steps p.tables e below (s₁.setTop (mkF m 26 #[.val (.int p1)] [])) _
    refine XS.iloadN X0.here hx rfl (hb hby d1_26) rfl ?_
    show Steps p.tables e below (s₁.setTop (mkF m 27 #[.val (.int p1)] [(.int p1)])) _
    refine XS.iconst X0.here hx rfl (hb hby d1_27) ?_
    show Steps p.tables e below (s₁.setTop (mkF m 28 #[.val (.int p1)] [(.int (3 : Int32)), (.int p1)])) _
    refine XS.icmpYes X0.here hx rfl (pc0 := 28) (pc' := 35) rfl (hb hby d1_28) rfl (feq hc28).2 (by decide) (by decide) ?_
    show Steps p.tables e below (s₁.setTop (mkF m 35 #[.val (.int p1)] [])) _
    refine XS.iloadN X0.here hx rfl (hb hby d1_35) rfl ?_
    show Steps p.tables e below (s₁.setTop (mkF m 36 #[.val (.int p1)] [(.int p1)])) _
    refine XS.iconst X0.here hx rfl (hb hby d1_36) ?_
    show Steps p.tables e below (s₁.setTop (mkF m 37 #[.val (.int p1)] [(.int (4 : Int32)), (.int p1)])) _
    refine XS.icmpYes X0.here hx rfl (pc0 := 37) (pc' := 44) rfl (hb hby d1_37) rfl (feq hc37).2 (by decide) (by decide) ?_
    show Steps p.tables e below (s₁.setTop (mkF m 44 #[.val (.int p1)] [])) _
    refine XS.iloadN X0.here hx rfl (hb hby d1_44) rfl ?_
    show Steps p.tables e below (s₁.setTop (mkF m 45 #[.val (.int p1)] [(.int p1)])) _
    refine XS.iconst X0.here hx rfl (hb hby d1_45) ?_
    show Steps p.tables e below (s₁.setTop (mkF m 46 #[.val (.int p1)] [(.int (5 : Int32)), (.int p1)])) _
    refine XS.icmpYes X0.here hx rfl (pc0 := 46) (pc' := 53) rfl (hb hby d1_46) rfl (feq hc46).2 (by decide) (by decide) ?_
    show Steps p.tables e below (s₁.setTop (mkF m 53 #[.val (.int p1)] [])) _
    refine st3 _ ?_
    show Steps p.tables e below (T3.setTop (mkF m 56 #[.val (.int p1)] [(.ref w_NESTED)])) _
    jvm_step X3.here [X3.here.top, hx, (hb hby d1_56), X3.method', Bd.returns, Value.isRef, FieldType.isReference]
    first | (intro acts; rw [hr _ acts rfl rfl rfl]) | rw [hr _ _ rfl rfl rfl]
    exact Steps.refl _
  · show Q1 Z p1 w_NESTED w_NEVER w_NOT_SUPPORTED w_MANDATORY w_SUPPORTS w_REQUIRES_NEW w_REQUIRED h0 n0 _ T3.heap _
    rw [e3]
    exact ⟨(by unfold own_f1; rw [if_neg hc1, if_neg hc10, if_neg hc19, if_neg hc28, if_neg hc37, if_neg hc46]), N0, rfl⟩
set_option maxRecDepth 65536 in
set_option maxHeartbeats 40000000 in
theorem rm1_tttttf (l : Launch) (Z : State) (a0 : Array Value) (hw : ∀ d ∈ tables_1, d.before a0 Z = true) (ws : List Jvm.Cond) (p1 : Int32) (w_NESTED : Addr) (w_NEVER : Addr) (w_NOT_SUPPORTED : Addr) (w_MANDATORY : Addr) (w_SUPPORTS : Addr) (w_REQUIRES_NEW : Addr) (w_REQUIRED : Addr) (h0 : Heap) (n0 : Nat) (Z0 : n0 ≤ h0.size) (S_NESTED : Sta Z h0 "com/example/orderly_tx/orderlytx/Propagation" "NESTED" "Lcom/example/orderly_tx/orderlytx/Propagation;" (.ref w_NESTED)) (S_NEVER : Sta Z h0 "com/example/orderly_tx/orderlytx/Propagation" "NEVER" "Lcom/example/orderly_tx/orderlytx/Propagation;" (.ref w_NEVER)) (S_NOT_SUPPORTED : Sta Z h0 "com/example/orderly_tx/orderlytx/Propagation" "NOT_SUPPORTED" "Lcom/example/orderly_tx/orderlytx/Propagation;" (.ref w_NOT_SUPPORTED)) (S_MANDATORY : Sta Z h0 "com/example/orderly_tx/orderlytx/Propagation" "MANDATORY" "Lcom/example/orderly_tx/orderlytx/Propagation;" (.ref w_MANDATORY)) (S_SUPPORTS : Sta Z h0 "com/example/orderly_tx/orderlytx/Propagation" "SUPPORTS" "Lcom/example/orderly_tx/orderlytx/Propagation;" (.ref w_SUPPORTS)) (S_REQUIRES_NEW : Sta Z h0 "com/example/orderly_tx/orderlytx/Propagation" "REQUIRES_NEW" "Lcom/example/orderly_tx/orderlytx/Propagation;" (.ref w_REQUIRES_NEW)) (S_REQUIRED : Sta Z h0 "com/example/orderly_tx/orderlytx/Propagation" "REQUIRED" "Lcom/example/orderly_tx/orderlytx/Propagation;" (.ref w_REQUIRED)) (hc1 : ¬ (p1 = (0 : Int32))) (hc10 : ¬ (p1 = (1 : Int32))) (hc19 : ¬ (p1 = (2 : Int32))) (hc28 : ¬ (p1 = (3 : Int32))) (hc37 : ¬ (p1 = (4 : Int32))) (hc46 : p1 = (5 : Int32)) :
    MetFree l (⟨"com/example/orderly_tx/orderlytx/PropagationModePinLaw", "pick", "(I)Lcom/example/orderly_tx/orderlytx/Propagation;"⟩ : MethodName) (head1 (Jvm.Cond.code (⟨"com/example/orderly_tx/orderlytx/PropagationModePinLaw", "pick", "(I)Lcom/example/orderly_tx/orderlytx/Propagation;"⟩ : MethodName) method_3_code 1 (some (.object "com/example/orderly_tx/orderlytx/Propagation")) :: ws) ({ frames := 0, cells := 0, slots := 0, locals := 0 } : Room)) (fun a U => a = #[(.int p1)] ∧ Z.Warmed39 U.vm ∧ U.heap = h0) (fun _ _ _ _ _ => True) (fun _ U o U' => ∃ v L, o = .returned v ∧ Q1 Z p1 w_NESTED w_NEVER w_NOT_SUPPORTED w_MANDATORY w_SUPPORTS w_REQUIRES_NEW w_REQUIRED h0 n0 v U'.heap L ∧ FrameEnd U o U' L ({ frames := 0, cells := 0, slots := 0, locals := 0 } : Room).cells ({ frames := 0, cells := 0, slots := 0, locals := 0 } : Room).slots) := by
  refine MetFree.of_bodySF (plainFor_of_name pn_1) hisR ?_
  intro p e s m args below meth c s₁ Bd hml0 hP hK
  obtain ⟨rfl, hZ, hh⟩ := hP
  have hx := Bd.exec
  have hby := Bd.bytes
  have hml : c.maxLocals = 1 := hml0
  have hown : s.vm.findClass "com/example/orderly_tx/orderlytx/PropagationModePinLaw" = some m.cls := findClass_of_methodNamed Bd.named
  have hnm := (name_of_methodNamed Bd.named Bd.method).1
  have X0 : Stand p l e ({ frames := 0, cells := 0, slots := 0, locals := 0 } : Room) s m #[(.int p1)] below meth c s₁ [] 0 0 := Stand.of_body Bd
  have e0 : s₁.heap = h0 := by rw [← hh, Bd.state]; rfl
  have N0 := Fr.nil n0
  have pre0 : ∀ t, Steps p.tables e below (s₁.setTop (mkF m 0 #[.val (.int p1)] [])) t → Steps p.tables e below (s₁.setTop (entryFrame m #[(.int p1)] 1)) t := fun t k => castTop (ef_1 m p1) k
  -- 3. LAWS
  obtain ⟨T3, X3, e3, st3⟩ := getS2 X0 hx hZ hown (host := "") (Or.inl (hw _ (List.mem_of_getElem? (i := 35) rfl))) Via.refl e0 S_NEVER (g := (mkF m 49 #[.val (.int p1)] [])) rfl (hb hby d1_49)
  obtain ⟨fs, hr, hrun, hended, hW, hsame⟩ := X3.leave (v := some (.ref w_NEVER)) (fun h => by rw [Bd.returns] at h; cases h) (BodyLoose.notSynchronized Bd)
  refine ⟨_, _, pre0 _ ?_, hrun, hended, _, _, rfl, ?_, ⟨_, rfl⟩, hW, hsame.mono (by decide) (by decide)⟩
  -- 4. STEPS
  · show Steps p.tables e below (s₁.setTop (mkF m 0 #[.val (.int p1)] [])) _
    refine XS.iloadN X0.here hx rfl (hb hby d1_0) rfl ?_
    show Steps p.tables e below (s₁.setTop (mkF m 1 #[.val (.int p1)] [(.int p1)])) _
    refine XS.ifYes X0.here hx rfl (pc0 := 1) (pc' := 8) rfl (hb hby d1_1) rfl ((if0 _ _).trans (feq hc1).2) (by decide) (by decide) ?_
    show Steps p.tables e below (s₁.setTop (mkF m 8 #[.val (.int p1)] [])) _
    refine XS.iloadN X0.here hx rfl (hb hby d1_8) rfl ?_
    show Steps p.tables e below (s₁.setTop (mkF m 9 #[.val (.int p1)] [(.int p1)])) _
    refine XS.iconst X0.here hx rfl (hb hby d1_9) ?_
    show Steps p.tables e below (s₁.setTop (mkF m 10 #[.val (.int p1)] [(.int (1 : Int32)), (.int p1)])) _
    refine XS.icmpYes X0.here hx rfl (pc0 := 10) (pc' := 17) rfl (hb hby d1_10) rfl (feq hc10).2 (by decide) (by decide) ?_
    show Steps p.tables e below (s₁.setTop (mkF m 17 #[.val (.int p1)] [])) _
    refine XS.iloadN X0.here hx rfl (hb hby d1_17) rfl ?_
    show Steps p.tables e below (s₁.setTop (mkF m 18 #[.val (.int p1)] [(.int p1)])) _
    refine XS.iconst X0.here hx rfl (hb hby d1_18) ?_
    show Steps p.tables e below (s₁.setTop (mkF m 19 #[.val (.int p1)] [(.int (2 : Int32)), (.int p1)])) _
    refine XS.icmpYes X0.here hx rfl (pc0 := 19) (pc' := 26) rfl (hb hby d1_19) rfl (feq hc19).2 (by decide) (by decide) ?_
    show Steps p.tables e below (s₁.setTop (mkF m 26 #[.val (.int p1)] [])) _
    refine XS.iloadN X0.here hx rfl (hb hby d1_26) rfl ?_
    show Steps p.tables e below (s₁.setTop (mkF m 27 #[.val (.int p1)] [(.int p1)])) _
    refine XS.iconst X0.here hx rfl (hb hby d1_27) ?_
    show Steps p.tables e below (s₁.setTop (mkF m 28 #[.val (.int p1)] [(.int (3 : Int32)), (.int p1)])) _
    refine XS.icmpYes X0.here hx rfl (pc0 := 28) (pc' := 35) rfl (hb hby d1_28) rfl (feq hc28).2 (by decide) (by decide) ?_
    show Steps p.tables e below (s₁.setTop (mkF m 35 #[.val (.int p1)] [])) _
    refine XS.iloadN X0.here hx rfl (hb hby d1_35) rfl ?_
    show Steps p.tables e below (s₁.setTop (mkF m 36 #[.val (.int p1)] [(.int p1)])) _
    refine XS.iconst X0.here hx rfl (hb hby d1_36) ?_
    show Steps p.tables e below (s₁.setTop (mkF m 37 #[.val (.int p1)] [(.int (4 : Int32)), (.int p1)])) _
    refine XS.icmpYes X0.here hx rfl (pc0 := 37) (pc' := 44) rfl (hb hby d1_37) rfl (feq hc37).2 (by decide) (by decide) ?_
    show Steps p.tables e below (s₁.setTop (mkF m 44 #[.val (.int p1)] [])) _
    refine XS.iloadN X0.here hx rfl (hb hby d1_44) rfl ?_
    show Steps p.tables e below (s₁.setTop (mkF m 45 #[.val (.int p1)] [(.int p1)])) _
    refine XS.iconst X0.here hx rfl (hb hby d1_45) ?_
    show Steps p.tables e below (s₁.setTop (mkF m 46 #[.val (.int p1)] [(.int (5 : Int32)), (.int p1)])) _
    refine XS.icmpNo X0.here hx rfl (hb hby d1_46) rfl (teq hc46).2 ?_
    show Steps p.tables e below (s₁.setTop (mkF m 49 #[.val (.int p1)] [])) _
    refine st3 _ ?_
    show Steps p.tables e below (T3.setTop (mkF m 52 #[.val (.int p1)] [(.ref w_NEVER)])) _
    jvm_step X3.here [X3.here.top, hx, (hb hby d1_52), X3.method', Bd.returns, Value.isRef, FieldType.isReference]
    first | (intro acts; rw [hr _ acts rfl rfl rfl]) | rw [hr _ _ rfl rfl rfl]
    exact Steps.refl _
  · show Q1 Z p1 w_NESTED w_NEVER w_NOT_SUPPORTED w_MANDATORY w_SUPPORTS w_REQUIRES_NEW w_REQUIRED h0 n0 _ T3.heap _
    rw [e3]
    exact ⟨(by unfold own_f1; rw [if_neg hc1, if_neg hc10, if_neg hc19, if_neg hc28, if_neg hc37, if_pos hc46]), N0, rfl⟩
set_option maxRecDepth 65536 in
set_option maxHeartbeats 40000000 in
theorem rm1_ttttf (l : Launch) (Z : State) (a0 : Array Value) (hw : ∀ d ∈ tables_1, d.before a0 Z = true) (ws : List Jvm.Cond) (p1 : Int32) (w_NESTED : Addr) (w_NEVER : Addr) (w_NOT_SUPPORTED : Addr) (w_MANDATORY : Addr) (w_SUPPORTS : Addr) (w_REQUIRES_NEW : Addr) (w_REQUIRED : Addr) (h0 : Heap) (n0 : Nat) (Z0 : n0 ≤ h0.size) (S_NESTED : Sta Z h0 "com/example/orderly_tx/orderlytx/Propagation" "NESTED" "Lcom/example/orderly_tx/orderlytx/Propagation;" (.ref w_NESTED)) (S_NEVER : Sta Z h0 "com/example/orderly_tx/orderlytx/Propagation" "NEVER" "Lcom/example/orderly_tx/orderlytx/Propagation;" (.ref w_NEVER)) (S_NOT_SUPPORTED : Sta Z h0 "com/example/orderly_tx/orderlytx/Propagation" "NOT_SUPPORTED" "Lcom/example/orderly_tx/orderlytx/Propagation;" (.ref w_NOT_SUPPORTED)) (S_MANDATORY : Sta Z h0 "com/example/orderly_tx/orderlytx/Propagation" "MANDATORY" "Lcom/example/orderly_tx/orderlytx/Propagation;" (.ref w_MANDATORY)) (S_SUPPORTS : Sta Z h0 "com/example/orderly_tx/orderlytx/Propagation" "SUPPORTS" "Lcom/example/orderly_tx/orderlytx/Propagation;" (.ref w_SUPPORTS)) (S_REQUIRES_NEW : Sta Z h0 "com/example/orderly_tx/orderlytx/Propagation" "REQUIRES_NEW" "Lcom/example/orderly_tx/orderlytx/Propagation;" (.ref w_REQUIRES_NEW)) (S_REQUIRED : Sta Z h0 "com/example/orderly_tx/orderlytx/Propagation" "REQUIRED" "Lcom/example/orderly_tx/orderlytx/Propagation;" (.ref w_REQUIRED)) (hc1 : ¬ (p1 = (0 : Int32))) (hc10 : ¬ (p1 = (1 : Int32))) (hc19 : ¬ (p1 = (2 : Int32))) (hc28 : ¬ (p1 = (3 : Int32))) (hc37 : p1 = (4 : Int32)) :
    MetFree l (⟨"com/example/orderly_tx/orderlytx/PropagationModePinLaw", "pick", "(I)Lcom/example/orderly_tx/orderlytx/Propagation;"⟩ : MethodName) (head1 (Jvm.Cond.code (⟨"com/example/orderly_tx/orderlytx/PropagationModePinLaw", "pick", "(I)Lcom/example/orderly_tx/orderlytx/Propagation;"⟩ : MethodName) method_3_code 1 (some (.object "com/example/orderly_tx/orderlytx/Propagation")) :: ws) ({ frames := 0, cells := 0, slots := 0, locals := 0 } : Room)) (fun a U => a = #[(.int p1)] ∧ Z.Warmed39 U.vm ∧ U.heap = h0) (fun _ _ _ _ _ => True) (fun _ U o U' => ∃ v L, o = .returned v ∧ Q1 Z p1 w_NESTED w_NEVER w_NOT_SUPPORTED w_MANDATORY w_SUPPORTS w_REQUIRES_NEW w_REQUIRED h0 n0 v U'.heap L ∧ FrameEnd U o U' L ({ frames := 0, cells := 0, slots := 0, locals := 0 } : Room).cells ({ frames := 0, cells := 0, slots := 0, locals := 0 } : Room).slots) := by
  refine MetFree.of_bodySF (plainFor_of_name pn_1) hisR ?_
  intro p e s m args below meth c s₁ Bd hml0 hP hK
  obtain ⟨rfl, hZ, hh⟩ := hP
  have hx := Bd.exec
  have hby := Bd.bytes
  have hml : c.maxLocals = 1 := hml0
  have hown : s.vm.findClass "com/example/orderly_tx/orderlytx/PropagationModePinLaw" = some m.cls := findClass_of_methodNamed Bd.named
  have hnm := (name_of_methodNamed Bd.named Bd.method).1
  have X0 : Stand p l e ({ frames := 0, cells := 0, slots := 0, locals := 0 } : Room) s m #[(.int p1)] below meth c s₁ [] 0 0 := Stand.of_body Bd
  have e0 : s₁.heap = h0 := by rw [← hh, Bd.state]; rfl
  have N0 := Fr.nil n0
  have pre0 : ∀ t, Steps p.tables e below (s₁.setTop (mkF m 0 #[.val (.int p1)] [])) t → Steps p.tables e below (s₁.setTop (entryFrame m #[(.int p1)] 1)) t := fun t k => castTop (ef_1 m p1) k
  -- 3. LAWS
  obtain ⟨T3, X3, e3, st3⟩ := getS2 X0 hx hZ hown (host := "") (Or.inl (hw _ (List.mem_of_getElem? (i := 29) rfl))) Via.refl e0 S_NOT_SUPPORTED (g := (mkF m 40 #[.val (.int p1)] [])) rfl (hb hby d1_40)
  obtain ⟨fs, hr, hrun, hended, hW, hsame⟩ := X3.leave (v := some (.ref w_NOT_SUPPORTED)) (fun h => by rw [Bd.returns] at h; cases h) (BodyLoose.notSynchronized Bd)
  refine ⟨_, _, pre0 _ ?_, hrun, hended, _, _, rfl, ?_, ⟨_, rfl⟩, hW, hsame.mono (by decide) (by decide)⟩
  -- 4. STEPS
  · show Steps p.tables e below (s₁.setTop (mkF m 0 #[.val (.int p1)] [])) _
    refine XS.iloadN X0.here hx rfl (hb hby d1_0) rfl ?_
    show Steps p.tables e below (s₁.setTop (mkF m 1 #[.val (.int p1)] [(.int p1)])) _
    refine XS.ifYes X0.here hx rfl (pc0 := 1) (pc' := 8) rfl (hb hby d1_1) rfl ((if0 _ _).trans (feq hc1).2) (by decide) (by decide) ?_
    show Steps p.tables e below (s₁.setTop (mkF m 8 #[.val (.int p1)] [])) _
    refine XS.iloadN X0.here hx rfl (hb hby d1_8) rfl ?_
    show Steps p.tables e below (s₁.setTop (mkF m 9 #[.val (.int p1)] [(.int p1)])) _
    refine XS.iconst X0.here hx rfl (hb hby d1_9) ?_
    show Steps p.tables e below (s₁.setTop (mkF m 10 #[.val (.int p1)] [(.int (1 : Int32)), (.int p1)])) _
    refine XS.icmpYes X0.here hx rfl (pc0 := 10) (pc' := 17) rfl (hb hby d1_10) rfl (feq hc10).2 (by decide) (by decide) ?_
    show Steps p.tables e below (s₁.setTop (mkF m 17 #[.val (.int p1)] [])) _
    refine XS.iloadN X0.here hx rfl (hb hby d1_17) rfl ?_
    show Steps p.tables e below (s₁.setTop (mkF m 18 #[.val (.int p1)] [(.int p1)])) _
    refine XS.iconst X0.here hx rfl (hb hby d1_18) ?_
    show Steps p.tables e below (s₁.setTop (mkF m 19 #[.val (.int p1)] [(.int (2 : Int32)), (.int p1)])) _
    refine XS.icmpYes X0.here hx rfl (pc0 := 19) (pc' := 26) rfl (hb hby d1_19) rfl (feq hc19).2 (by decide) (by decide) ?_
    show Steps p.tables e below (s₁.setTop (mkF m 26 #[.val (.int p1)] [])) _
    refine XS.iloadN X0.here hx rfl (hb hby d1_26) rfl ?_
    show Steps p.tables e below (s₁.setTop (mkF m 27 #[.val (.int p1)] [(.int p1)])) _
    refine XS.iconst X0.here hx rfl (hb hby d1_27) ?_
    show Steps p.tables e below (s₁.setTop (mkF m 28 #[.val (.int p1)] [(.int (3 : Int32)), (.int p1)])) _
    refine XS.icmpYes X0.here hx rfl (pc0 := 28) (pc' := 35) rfl (hb hby d1_28) rfl (feq hc28).2 (by decide) (by decide) ?_
    show Steps p.tables e below (s₁.setTop (mkF m 35 #[.val (.int p1)] [])) _
    refine XS.iloadN X0.here hx rfl (hb hby d1_35) rfl ?_
    show Steps p.tables e below (s₁.setTop (mkF m 36 #[.val (.int p1)] [(.int p1)])) _
    refine XS.iconst X0.here hx rfl (hb hby d1_36) ?_
    show Steps p.tables e below (s₁.setTop (mkF m 37 #[.val (.int p1)] [(.int (4 : Int32)), (.int p1)])) _
    refine XS.icmpNo X0.here hx rfl (hb hby d1_37) rfl (teq hc37).2 ?_
    show Steps p.tables e below (s₁.setTop (mkF m 40 #[.val (.int p1)] [])) _
    refine st3 _ ?_
    show Steps p.tables e below (T3.setTop (mkF m 43 #[.val (.int p1)] [(.ref w_NOT_SUPPORTED)])) _
    jvm_step X3.here [X3.here.top, hx, (hb hby d1_43), X3.method', Bd.returns, Value.isRef, FieldType.isReference]
    first | (intro acts; rw [hr _ acts rfl rfl rfl]) | rw [hr _ _ rfl rfl rfl]
    exact Steps.refl _
  · show Q1 Z p1 w_NESTED w_NEVER w_NOT_SUPPORTED w_MANDATORY w_SUPPORTS w_REQUIRES_NEW w_REQUIRED h0 n0 _ T3.heap _
    rw [e3]
    exact ⟨(by unfold own_f1; rw [if_neg hc1, if_neg hc10, if_neg hc19, if_neg hc28, if_pos hc37]), N0, rfl⟩
set_option maxRecDepth 65536 in
set_option maxHeartbeats 40000000 in
theorem rm1_tttf (l : Launch) (Z : State) (a0 : Array Value) (hw : ∀ d ∈ tables_1, d.before a0 Z = true) (ws : List Jvm.Cond) (p1 : Int32) (w_NESTED : Addr) (w_NEVER : Addr) (w_NOT_SUPPORTED : Addr) (w_MANDATORY : Addr) (w_SUPPORTS : Addr) (w_REQUIRES_NEW : Addr) (w_REQUIRED : Addr) (h0 : Heap) (n0 : Nat) (Z0 : n0 ≤ h0.size) (S_NESTED : Sta Z h0 "com/example/orderly_tx/orderlytx/Propagation" "NESTED" "Lcom/example/orderly_tx/orderlytx/Propagation;" (.ref w_NESTED)) (S_NEVER : Sta Z h0 "com/example/orderly_tx/orderlytx/Propagation" "NEVER" "Lcom/example/orderly_tx/orderlytx/Propagation;" (.ref w_NEVER)) (S_NOT_SUPPORTED : Sta Z h0 "com/example/orderly_tx/orderlytx/Propagation" "NOT_SUPPORTED" "Lcom/example/orderly_tx/orderlytx/Propagation;" (.ref w_NOT_SUPPORTED)) (S_MANDATORY : Sta Z h0 "com/example/orderly_tx/orderlytx/Propagation" "MANDATORY" "Lcom/example/orderly_tx/orderlytx/Propagation;" (.ref w_MANDATORY)) (S_SUPPORTS : Sta Z h0 "com/example/orderly_tx/orderlytx/Propagation" "SUPPORTS" "Lcom/example/orderly_tx/orderlytx/Propagation;" (.ref w_SUPPORTS)) (S_REQUIRES_NEW : Sta Z h0 "com/example/orderly_tx/orderlytx/Propagation" "REQUIRES_NEW" "Lcom/example/orderly_tx/orderlytx/Propagation;" (.ref w_REQUIRES_NEW)) (S_REQUIRED : Sta Z h0 "com/example/orderly_tx/orderlytx/Propagation" "REQUIRED" "Lcom/example/orderly_tx/orderlytx/Propagation;" (.ref w_REQUIRED)) (hc1 : ¬ (p1 = (0 : Int32))) (hc10 : ¬ (p1 = (1 : Int32))) (hc19 : ¬ (p1 = (2 : Int32))) (hc28 : p1 = (3 : Int32)) :
    MetFree l (⟨"com/example/orderly_tx/orderlytx/PropagationModePinLaw", "pick", "(I)Lcom/example/orderly_tx/orderlytx/Propagation;"⟩ : MethodName) (head1 (Jvm.Cond.code (⟨"com/example/orderly_tx/orderlytx/PropagationModePinLaw", "pick", "(I)Lcom/example/orderly_tx/orderlytx/Propagation;"⟩ : MethodName) method_3_code 1 (some (.object "com/example/orderly_tx/orderlytx/Propagation")) :: ws) ({ frames := 0, cells := 0, slots := 0, locals := 0 } : Room)) (fun a U => a = #[(.int p1)] ∧ Z.Warmed39 U.vm ∧ U.heap = h0) (fun _ _ _ _ _ => True) (fun _ U o U' => ∃ v L, o = .returned v ∧ Q1 Z p1 w_NESTED w_NEVER w_NOT_SUPPORTED w_MANDATORY w_SUPPORTS w_REQUIRES_NEW w_REQUIRED h0 n0 v U'.heap L ∧ FrameEnd U o U' L ({ frames := 0, cells := 0, slots := 0, locals := 0 } : Room).cells ({ frames := 0, cells := 0, slots := 0, locals := 0 } : Room).slots) := by
  refine MetFree.of_bodySF (plainFor_of_name pn_1) hisR ?_
  intro p e s m args below meth c s₁ Bd hml0 hP hK
  obtain ⟨rfl, hZ, hh⟩ := hP
  have hx := Bd.exec
  have hby := Bd.bytes
  have hml : c.maxLocals = 1 := hml0
  have hown : s.vm.findClass "com/example/orderly_tx/orderlytx/PropagationModePinLaw" = some m.cls := findClass_of_methodNamed Bd.named
  have hnm := (name_of_methodNamed Bd.named Bd.method).1
  have X0 : Stand p l e ({ frames := 0, cells := 0, slots := 0, locals := 0 } : Room) s m #[(.int p1)] below meth c s₁ [] 0 0 := Stand.of_body Bd
  have e0 : s₁.heap = h0 := by rw [← hh, Bd.state]; rfl
  have N0 := Fr.nil n0
  have pre0 : ∀ t, Steps p.tables e below (s₁.setTop (mkF m 0 #[.val (.int p1)] [])) t → Steps p.tables e below (s₁.setTop (entryFrame m #[(.int p1)] 1)) t := fun t k => castTop (ef_1 m p1) k
  -- 3. LAWS
  obtain ⟨T3, X3, e3, st3⟩ := getS2 X0 hx hZ hown (host := "") (Or.inl (hw _ (List.mem_of_getElem? (i := 21) rfl))) Via.refl e0 S_MANDATORY (g := (mkF m 31 #[.val (.int p1)] [])) rfl (hb hby d1_31)
  obtain ⟨fs, hr, hrun, hended, hW, hsame⟩ := X3.leave (v := some (.ref w_MANDATORY)) (fun h => by rw [Bd.returns] at h; cases h) (BodyLoose.notSynchronized Bd)
  refine ⟨_, _, pre0 _ ?_, hrun, hended, _, _, rfl, ?_, ⟨_, rfl⟩, hW, hsame.mono (by decide) (by decide)⟩
  -- 4. STEPS
  · show Steps p.tables e below (s₁.setTop (mkF m 0 #[.val (.int p1)] [])) _
    refine XS.iloadN X0.here hx rfl (hb hby d1_0) rfl ?_
    show Steps p.tables e below (s₁.setTop (mkF m 1 #[.val (.int p1)] [(.int p1)])) _
    refine XS.ifYes X0.here hx rfl (pc0 := 1) (pc' := 8) rfl (hb hby d1_1) rfl ((if0 _ _).trans (feq hc1).2) (by decide) (by decide) ?_
    show Steps p.tables e below (s₁.setTop (mkF m 8 #[.val (.int p1)] [])) _
    refine XS.iloadN X0.here hx rfl (hb hby d1_8) rfl ?_
    show Steps p.tables e below (s₁.setTop (mkF m 9 #[.val (.int p1)] [(.int p1)])) _
    refine XS.iconst X0.here hx rfl (hb hby d1_9) ?_
    show Steps p.tables e below (s₁.setTop (mkF m 10 #[.val (.int p1)] [(.int (1 : Int32)), (.int p1)])) _
    refine XS.icmpYes X0.here hx rfl (pc0 := 10) (pc' := 17) rfl (hb hby d1_10) rfl (feq hc10).2 (by decide) (by decide) ?_
    show Steps p.tables e below (s₁.setTop (mkF m 17 #[.val (.int p1)] [])) _
    refine XS.iloadN X0.here hx rfl (hb hby d1_17) rfl ?_
    show Steps p.tables e below (s₁.setTop (mkF m 18 #[.val (.int p1)] [(.int p1)])) _
    refine XS.iconst X0.here hx rfl (hb hby d1_18) ?_
    show Steps p.tables e below (s₁.setTop (mkF m 19 #[.val (.int p1)] [(.int (2 : Int32)), (.int p1)])) _
    refine XS.icmpYes X0.here hx rfl (pc0 := 19) (pc' := 26) rfl (hb hby d1_19) rfl (feq hc19).2 (by decide) (by decide) ?_
    show Steps p.tables e below (s₁.setTop (mkF m 26 #[.val (.int p1)] [])) _
    refine XS.iloadN X0.here hx rfl (hb hby d1_26) rfl ?_
    show Steps p.tables e below (s₁.setTop (mkF m 27 #[.val (.int p1)] [(.int p1)])) _
    refine XS.iconst X0.here hx rfl (hb hby d1_27) ?_
    show Steps p.tables e below (s₁.setTop (mkF m 28 #[.val (.int p1)] [(.int (3 : Int32)), (.int p1)])) _
    refine XS.icmpNo X0.here hx rfl (hb hby d1_28) rfl (teq hc28).2 ?_
    show Steps p.tables e below (s₁.setTop (mkF m 31 #[.val (.int p1)] [])) _
    refine st3 _ ?_
    show Steps p.tables e below (T3.setTop (mkF m 34 #[.val (.int p1)] [(.ref w_MANDATORY)])) _
    jvm_step X3.here [X3.here.top, hx, (hb hby d1_34), X3.method', Bd.returns, Value.isRef, FieldType.isReference]
    first | (intro acts; rw [hr _ acts rfl rfl rfl]) | rw [hr _ _ rfl rfl rfl]
    exact Steps.refl _
  · show Q1 Z p1 w_NESTED w_NEVER w_NOT_SUPPORTED w_MANDATORY w_SUPPORTS w_REQUIRES_NEW w_REQUIRED h0 n0 _ T3.heap _
    rw [e3]
    exact ⟨(by unfold own_f1; rw [if_neg hc1, if_neg hc10, if_neg hc19, if_pos hc28]), N0, rfl⟩
set_option maxRecDepth 65536 in
set_option maxHeartbeats 40000000 in
theorem rm1_ttf (l : Launch) (Z : State) (a0 : Array Value) (hw : ∀ d ∈ tables_1, d.before a0 Z = true) (ws : List Jvm.Cond) (p1 : Int32) (w_NESTED : Addr) (w_NEVER : Addr) (w_NOT_SUPPORTED : Addr) (w_MANDATORY : Addr) (w_SUPPORTS : Addr) (w_REQUIRES_NEW : Addr) (w_REQUIRED : Addr) (h0 : Heap) (n0 : Nat) (Z0 : n0 ≤ h0.size) (S_NESTED : Sta Z h0 "com/example/orderly_tx/orderlytx/Propagation" "NESTED" "Lcom/example/orderly_tx/orderlytx/Propagation;" (.ref w_NESTED)) (S_NEVER : Sta Z h0 "com/example/orderly_tx/orderlytx/Propagation" "NEVER" "Lcom/example/orderly_tx/orderlytx/Propagation;" (.ref w_NEVER)) (S_NOT_SUPPORTED : Sta Z h0 "com/example/orderly_tx/orderlytx/Propagation" "NOT_SUPPORTED" "Lcom/example/orderly_tx/orderlytx/Propagation;" (.ref w_NOT_SUPPORTED)) (S_MANDATORY : Sta Z h0 "com/example/orderly_tx/orderlytx/Propagation" "MANDATORY" "Lcom/example/orderly_tx/orderlytx/Propagation;" (.ref w_MANDATORY)) (S_SUPPORTS : Sta Z h0 "com/example/orderly_tx/orderlytx/Propagation" "SUPPORTS" "Lcom/example/orderly_tx/orderlytx/Propagation;" (.ref w_SUPPORTS)) (S_REQUIRES_NEW : Sta Z h0 "com/example/orderly_tx/orderlytx/Propagation" "REQUIRES_NEW" "Lcom/example/orderly_tx/orderlytx/Propagation;" (.ref w_REQUIRES_NEW)) (S_REQUIRED : Sta Z h0 "com/example/orderly_tx/orderlytx/Propagation" "REQUIRED" "Lcom/example/orderly_tx/orderlytx/Propagation;" (.ref w_REQUIRED)) (hc1 : ¬ (p1 = (0 : Int32))) (hc10 : ¬ (p1 = (1 : Int32))) (hc19 : p1 = (2 : Int32)) :
    MetFree l (⟨"com/example/orderly_tx/orderlytx/PropagationModePinLaw", "pick", "(I)Lcom/example/orderly_tx/orderlytx/Propagation;"⟩ : MethodName) (head1 (Jvm.Cond.code (⟨"com/example/orderly_tx/orderlytx/PropagationModePinLaw", "pick", "(I)Lcom/example/orderly_tx/orderlytx/Propagation;"⟩ : MethodName) method_3_code 1 (some (.object "com/example/orderly_tx/orderlytx/Propagation")) :: ws) ({ frames := 0, cells := 0, slots := 0, locals := 0 } : Room)) (fun a U => a = #[(.int p1)] ∧ Z.Warmed39 U.vm ∧ U.heap = h0) (fun _ _ _ _ _ => True) (fun _ U o U' => ∃ v L, o = .returned v ∧ Q1 Z p1 w_NESTED w_NEVER w_NOT_SUPPORTED w_MANDATORY w_SUPPORTS w_REQUIRES_NEW w_REQUIRED h0 n0 v U'.heap L ∧ FrameEnd U o U' L ({ frames := 0, cells := 0, slots := 0, locals := 0 } : Room).cells ({ frames := 0, cells := 0, slots := 0, locals := 0 } : Room).slots) := by
  refine MetFree.of_bodySF (plainFor_of_name pn_1) hisR ?_
  intro p e s m args below meth c s₁ Bd hml0 hP hK
  obtain ⟨rfl, hZ, hh⟩ := hP
  have hx := Bd.exec
  have hby := Bd.bytes
  have hml : c.maxLocals = 1 := hml0
  have hown : s.vm.findClass "com/example/orderly_tx/orderlytx/PropagationModePinLaw" = some m.cls := findClass_of_methodNamed Bd.named
  have hnm := (name_of_methodNamed Bd.named Bd.method).1
  have X0 : Stand p l e ({ frames := 0, cells := 0, slots := 0, locals := 0 } : Room) s m #[(.int p1)] below meth c s₁ [] 0 0 := Stand.of_body Bd
  have e0 : s₁.heap = h0 := by rw [← hh, Bd.state]; rfl
  have N0 := Fr.nil n0
  have pre0 : ∀ t, Steps p.tables e below (s₁.setTop (mkF m 0 #[.val (.int p1)] [])) t → Steps p.tables e below (s₁.setTop (entryFrame m #[(.int p1)] 1)) t := fun t k => castTop (ef_1 m p1) k
  -- 3. LAWS
  obtain ⟨T3, X3, e3, st3⟩ := getS2 X0 hx hZ hown (host := "") (Or.inl (hw _ (List.mem_of_getElem? (i := 39) rfl))) Via.refl e0 S_SUPPORTS (g := (mkF m 22 #[.val (.int p1)] [])) rfl (hb hby d1_22)
  obtain ⟨fs, hr, hrun, hended, hW, hsame⟩ := X3.leave (v := some (.ref w_SUPPORTS)) (fun h => by rw [Bd.returns] at h; cases h) (BodyLoose.notSynchronized Bd)
  refine ⟨_, _, pre0 _ ?_, hrun, hended, _, _, rfl, ?_, ⟨_, rfl⟩, hW, hsame.mono (by decide) (by decide)⟩
  -- 4. STEPS
  · show Steps p.tables e below (s₁.setTop (mkF m 0 #[.val (.int p1)] [])) _
    refine XS.iloadN X0.here hx rfl (hb hby d1_0) rfl ?_
    show Steps p.tables e below (s₁.setTop (mkF m 1 #[.val (.int p1)] [(.int p1)])) _
    refine XS.ifYes X0.here hx rfl (pc0 := 1) (pc' := 8) rfl (hb hby d1_1) rfl ((if0 _ _).trans (feq hc1).2) (by decide) (by decide) ?_
    show Steps p.tables e below (s₁.setTop (mkF m 8 #[.val (.int p1)] [])) _
    refine XS.iloadN X0.here hx rfl (hb hby d1_8) rfl ?_
    show Steps p.tables e below (s₁.setTop (mkF m 9 #[.val (.int p1)] [(.int p1)])) _
    refine XS.iconst X0.here hx rfl (hb hby d1_9) ?_
    show Steps p.tables e below (s₁.setTop (mkF m 10 #[.val (.int p1)] [(.int (1 : Int32)), (.int p1)])) _
    refine XS.icmpYes X0.here hx rfl (pc0 := 10) (pc' := 17) rfl (hb hby d1_10) rfl (feq hc10).2 (by decide) (by decide) ?_
    show Steps p.tables e below (s₁.setTop (mkF m 17 #[.val (.int p1)] [])) _
    refine XS.iloadN X0.here hx rfl (hb hby d1_17) rfl ?_
    show Steps p.tables e below (s₁.setTop (mkF m 18 #[.val (.int p1)] [(.int p1)])) _
    refine XS.iconst X0.here hx rfl (hb hby d1_18) ?_
    show Steps p.tables e below (s₁.setTop (mkF m 19 #[.val (.int p1)] [(.int (2 : Int32)), (.int p1)])) _
    refine XS.icmpNo X0.here hx rfl (hb hby d1_19) rfl (teq hc19).2 ?_
    show Steps p.tables e below (s₁.setTop (mkF m 22 #[.val (.int p1)] [])) _
    refine st3 _ ?_
    show Steps p.tables e below (T3.setTop (mkF m 25 #[.val (.int p1)] [(.ref w_SUPPORTS)])) _
    jvm_step X3.here [X3.here.top, hx, (hb hby d1_25), X3.method', Bd.returns, Value.isRef, FieldType.isReference]
    first | (intro acts; rw [hr _ acts rfl rfl rfl]) | rw [hr _ _ rfl rfl rfl]
    exact Steps.refl _
  · show Q1 Z p1 w_NESTED w_NEVER w_NOT_SUPPORTED w_MANDATORY w_SUPPORTS w_REQUIRES_NEW w_REQUIRED h0 n0 _ T3.heap _
    rw [e3]
    exact ⟨(by unfold own_f1; rw [if_neg hc1, if_neg hc10, if_pos hc19]), N0, rfl⟩
set_option maxRecDepth 65536 in
set_option maxHeartbeats 40000000 in
theorem rm1_tf (l : Launch) (Z : State) (a0 : Array Value) (hw : ∀ d ∈ tables_1, d.before a0 Z = true) (ws : List Jvm.Cond) (p1 : Int32) (w_NESTED : Addr) (w_NEVER : Addr) (w_NOT_SUPPORTED : Addr) (w_MANDATORY : Addr) (w_SUPPORTS : Addr) (w_REQUIRES_NEW : Addr) (w_REQUIRED : Addr) (h0 : Heap) (n0 : Nat) (Z0 : n0 ≤ h0.size) (S_NESTED : Sta Z h0 "com/example/orderly_tx/orderlytx/Propagation" "NESTED" "Lcom/example/orderly_tx/orderlytx/Propagation;" (.ref w_NESTED)) (S_NEVER : Sta Z h0 "com/example/orderly_tx/orderlytx/Propagation" "NEVER" "Lcom/example/orderly_tx/orderlytx/Propagation;" (.ref w_NEVER)) (S_NOT_SUPPORTED : Sta Z h0 "com/example/orderly_tx/orderlytx/Propagation" "NOT_SUPPORTED" "Lcom/example/orderly_tx/orderlytx/Propagation;" (.ref w_NOT_SUPPORTED)) (S_MANDATORY : Sta Z h0 "com/example/orderly_tx/orderlytx/Propagation" "MANDATORY" "Lcom/example/orderly_tx/orderlytx/Propagation;" (.ref w_MANDATORY)) (S_SUPPORTS : Sta Z h0 "com/example/orderly_tx/orderlytx/Propagation" "SUPPORTS" "Lcom/example/orderly_tx/orderlytx/Propagation;" (.ref w_SUPPORTS)) (S_REQUIRES_NEW : Sta Z h0 "com/example/orderly_tx/orderlytx/Propagation" "REQUIRES_NEW" "Lcom/example/orderly_tx/orderlytx/Propagation;" (.ref w_REQUIRES_NEW)) (S_REQUIRED : Sta Z h0 "com/example/orderly_tx/orderlytx/Propagation" "REQUIRED" "Lcom/example/orderly_tx/orderlytx/Propagation;" (.ref w_REQUIRED)) (hc1 : ¬ (p1 = (0 : Int32))) (hc10 : p1 = (1 : Int32)) :
    MetFree l (⟨"com/example/orderly_tx/orderlytx/PropagationModePinLaw", "pick", "(I)Lcom/example/orderly_tx/orderlytx/Propagation;"⟩ : MethodName) (head1 (Jvm.Cond.code (⟨"com/example/orderly_tx/orderlytx/PropagationModePinLaw", "pick", "(I)Lcom/example/orderly_tx/orderlytx/Propagation;"⟩ : MethodName) method_3_code 1 (some (.object "com/example/orderly_tx/orderlytx/Propagation")) :: ws) ({ frames := 0, cells := 0, slots := 0, locals := 0 } : Room)) (fun a U => a = #[(.int p1)] ∧ Z.Warmed39 U.vm ∧ U.heap = h0) (fun _ _ _ _ _ => True) (fun _ U o U' => ∃ v L, o = .returned v ∧ Q1 Z p1 w_NESTED w_NEVER w_NOT_SUPPORTED w_MANDATORY w_SUPPORTS w_REQUIRES_NEW w_REQUIRED h0 n0 v U'.heap L ∧ FrameEnd U o U' L ({ frames := 0, cells := 0, slots := 0, locals := 0 } : Room).cells ({ frames := 0, cells := 0, slots := 0, locals := 0 } : Room).slots) := by
  refine MetFree.of_bodySF (plainFor_of_name pn_1) hisR ?_
  intro p e s m args below meth c s₁ Bd hml0 hP hK
  obtain ⟨rfl, hZ, hh⟩ := hP
  have hx := Bd.exec
  have hby := Bd.bytes
  have hml : c.maxLocals = 1 := hml0
  have hown : s.vm.findClass "com/example/orderly_tx/orderlytx/PropagationModePinLaw" = some m.cls := findClass_of_methodNamed Bd.named
  have hnm := (name_of_methodNamed Bd.named Bd.method).1
  have X0 : Stand p l e ({ frames := 0, cells := 0, slots := 0, locals := 0 } : Room) s m #[(.int p1)] below meth c s₁ [] 0 0 := Stand.of_body Bd
  have e0 : s₁.heap = h0 := by rw [← hh, Bd.state]; rfl
  have N0 := Fr.nil n0
  have pre0 : ∀ t, Steps p.tables e below (s₁.setTop (mkF m 0 #[.val (.int p1)] [])) t → Steps p.tables e below (s₁.setTop (entryFrame m #[(.int p1)] 1)) t := fun t k => castTop (ef_1 m p1) k
  -- 3. LAWS
  obtain ⟨T3, X3, e3, st3⟩ := getS2 X0 hx hZ hown (host := "") (Or.inl (hw _ (List.mem_of_getElem? (i := 23) rfl))) Via.refl e0 S_REQUIRES_NEW (g := (mkF m 13 #[.val (.int p1)] [])) rfl (hb hby d1_13)
  obtain ⟨fs, hr, hrun, hended, hW, hsame⟩ := X3.leave (v := some (.ref w_REQUIRES_NEW)) (fun h => by rw [Bd.returns] at h; cases h) (BodyLoose.notSynchronized Bd)
  refine ⟨_, _, pre0 _ ?_, hrun, hended, _, _, rfl, ?_, ⟨_, rfl⟩, hW, hsame.mono (by decide) (by decide)⟩
  -- 4. STEPS
  · show Steps p.tables e below (s₁.setTop (mkF m 0 #[.val (.int p1)] [])) _
    refine XS.iloadN X0.here hx rfl (hb hby d1_0) rfl ?_
    show Steps p.tables e below (s₁.setTop (mkF m 1 #[.val (.int p1)] [(.int p1)])) _
    refine XS.ifYes X0.here hx rfl (pc0 := 1) (pc' := 8) rfl (hb hby d1_1) rfl ((if0 _ _).trans (feq hc1).2) (by decide) (by decide) ?_
    show Steps p.tables e below (s₁.setTop (mkF m 8 #[.val (.int p1)] [])) _
    refine XS.iloadN X0.here hx rfl (hb hby d1_8) rfl ?_
    show Steps p.tables e below (s₁.setTop (mkF m 9 #[.val (.int p1)] [(.int p1)])) _
    refine XS.iconst X0.here hx rfl (hb hby d1_9) ?_
    show Steps p.tables e below (s₁.setTop (mkF m 10 #[.val (.int p1)] [(.int (1 : Int32)), (.int p1)])) _
    refine XS.icmpNo X0.here hx rfl (hb hby d1_10) rfl (teq hc10).2 ?_
    show Steps p.tables e below (s₁.setTop (mkF m 13 #[.val (.int p1)] [])) _
    refine st3 _ ?_
    show Steps p.tables e below (T3.setTop (mkF m 16 #[.val (.int p1)] [(.ref w_REQUIRES_NEW)])) _
    jvm_step X3.here [X3.here.top, hx, (hb hby d1_16), X3.method', Bd.returns, Value.isRef, FieldType.isReference]
    first | (intro acts; rw [hr _ acts rfl rfl rfl]) | rw [hr _ _ rfl rfl rfl]
    exact Steps.refl _
  · show Q1 Z p1 w_NESTED w_NEVER w_NOT_SUPPORTED w_MANDATORY w_SUPPORTS w_REQUIRES_NEW w_REQUIRED h0 n0 _ T3.heap _
    rw [e3]
    exact ⟨(by unfold own_f1; rw [if_neg hc1, if_pos hc10]), N0, rfl⟩
set_option maxRecDepth 65536 in
set_option maxHeartbeats 40000000 in
theorem rm1_f (l : Launch) (Z : State) (a0 : Array Value) (hw : ∀ d ∈ tables_1, d.before a0 Z = true) (ws : List Jvm.Cond) (p1 : Int32) (w_NESTED : Addr) (w_NEVER : Addr) (w_NOT_SUPPORTED : Addr) (w_MANDATORY : Addr) (w_SUPPORTS : Addr) (w_REQUIRES_NEW : Addr) (w_REQUIRED : Addr) (h0 : Heap) (n0 : Nat) (Z0 : n0 ≤ h0.size) (S_NESTED : Sta Z h0 "com/example/orderly_tx/orderlytx/Propagation" "NESTED" "Lcom/example/orderly_tx/orderlytx/Propagation;" (.ref w_NESTED)) (S_NEVER : Sta Z h0 "com/example/orderly_tx/orderlytx/Propagation" "NEVER" "Lcom/example/orderly_tx/orderlytx/Propagation;" (.ref w_NEVER)) (S_NOT_SUPPORTED : Sta Z h0 "com/example/orderly_tx/orderlytx/Propagation" "NOT_SUPPORTED" "Lcom/example/orderly_tx/orderlytx/Propagation;" (.ref w_NOT_SUPPORTED)) (S_MANDATORY : Sta Z h0 "com/example/orderly_tx/orderlytx/Propagation" "MANDATORY" "Lcom/example/orderly_tx/orderlytx/Propagation;" (.ref w_MANDATORY)) (S_SUPPORTS : Sta Z h0 "com/example/orderly_tx/orderlytx/Propagation" "SUPPORTS" "Lcom/example/orderly_tx/orderlytx/Propagation;" (.ref w_SUPPORTS)) (S_REQUIRES_NEW : Sta Z h0 "com/example/orderly_tx/orderlytx/Propagation" "REQUIRES_NEW" "Lcom/example/orderly_tx/orderlytx/Propagation;" (.ref w_REQUIRES_NEW)) (S_REQUIRED : Sta Z h0 "com/example/orderly_tx/orderlytx/Propagation" "REQUIRED" "Lcom/example/orderly_tx/orderlytx/Propagation;" (.ref w_REQUIRED)) (hc1 : p1 = (0 : Int32)) :
    MetFree l (⟨"com/example/orderly_tx/orderlytx/PropagationModePinLaw", "pick", "(I)Lcom/example/orderly_tx/orderlytx/Propagation;"⟩ : MethodName) (head1 (Jvm.Cond.code (⟨"com/example/orderly_tx/orderlytx/PropagationModePinLaw", "pick", "(I)Lcom/example/orderly_tx/orderlytx/Propagation;"⟩ : MethodName) method_3_code 1 (some (.object "com/example/orderly_tx/orderlytx/Propagation")) :: ws) ({ frames := 0, cells := 0, slots := 0, locals := 0 } : Room)) (fun a U => a = #[(.int p1)] ∧ Z.Warmed39 U.vm ∧ U.heap = h0) (fun _ _ _ _ _ => True) (fun _ U o U' => ∃ v L, o = .returned v ∧ Q1 Z p1 w_NESTED w_NEVER w_NOT_SUPPORTED w_MANDATORY w_SUPPORTS w_REQUIRES_NEW w_REQUIRED h0 n0 v U'.heap L ∧ FrameEnd U o U' L ({ frames := 0, cells := 0, slots := 0, locals := 0 } : Room).cells ({ frames := 0, cells := 0, slots := 0, locals := 0 } : Room).slots) := by
  refine MetFree.of_bodySF (plainFor_of_name pn_1) hisR ?_
  intro p e s m args below meth c s₁ Bd hml0 hP hK
  obtain ⟨rfl, hZ, hh⟩ := hP
  have hx := Bd.exec
  have hby := Bd.bytes
  have hml : c.maxLocals = 1 := hml0
  have hown : s.vm.findClass "com/example/orderly_tx/orderlytx/PropagationModePinLaw" = some m.cls := findClass_of_methodNamed Bd.named
  have hnm := (name_of_methodNamed Bd.named Bd.method).1
  have X0 : Stand p l e ({ frames := 0, cells := 0, slots := 0, locals := 0 } : Room) s m #[(.int p1)] below meth c s₁ [] 0 0 := Stand.of_body Bd
  have e0 : s₁.heap = h0 := by rw [← hh, Bd.state]; rfl
  have N0 := Fr.nil n0
  have pre0 : ∀ t, Steps p.tables e below (s₁.setTop (mkF m 0 #[.val (.int p1)] [])) t → Steps p.tables e below (s₁.setTop (entryFrame m #[(.int p1)] 1)) t := fun t k => castTop (ef_1 m p1) k
  -- 3. LAWS
  obtain ⟨T3, X3, e3, st3⟩ := getS2 X0 hx hZ hown (host := "") (Or.inl (hw _ (List.mem_of_getElem? (i := 5) rfl))) Via.refl e0 S_REQUIRED (g := (mkF m 4 #[.val (.int p1)] [])) rfl (hb hby d1_4)
  obtain ⟨fs, hr, hrun, hended, hW, hsame⟩ := X3.leave (v := some (.ref w_REQUIRED)) (fun h => by rw [Bd.returns] at h; cases h) (BodyLoose.notSynchronized Bd)
  refine ⟨_, _, pre0 _ ?_, hrun, hended, _, _, rfl, ?_, ⟨_, rfl⟩, hW, hsame.mono (by decide) (by decide)⟩
  -- 4. STEPS
  · show Steps p.tables e below (s₁.setTop (mkF m 0 #[.val (.int p1)] [])) _
    refine XS.iloadN X0.here hx rfl (hb hby d1_0) rfl ?_
    show Steps p.tables e below (s₁.setTop (mkF m 1 #[.val (.int p1)] [(.int p1)])) _
    refine XS.ifNo X0.here hx rfl (hb hby d1_1) rfl ((if0 _ _).trans (teq hc1).2) ?_
    show Steps p.tables e below (s₁.setTop (mkF m 4 #[.val (.int p1)] [])) _
    refine st3 _ ?_
    show Steps p.tables e below (T3.setTop (mkF m 7 #[.val (.int p1)] [(.ref w_REQUIRED)])) _
    jvm_step X3.here [X3.here.top, hx, (hb hby d1_7), X3.method', Bd.returns, Value.isRef, FieldType.isReference]
    first | (intro acts; rw [hr _ acts rfl rfl rfl]) | rw [hr _ _ rfl rfl rfl]
    exact Steps.refl _
  · show Q1 Z p1 w_NESTED w_NEVER w_NOT_SUPPORTED w_MANDATORY w_SUPPORTS w_REQUIRES_NEW w_REQUIRED h0 n0 _ T3.heap _
    rw [e3]
    exact ⟨(by unfold own_f1; rw [if_pos hc1]), N0, rfl⟩
set_option maxRecDepth 65536 in
set_option maxHeartbeats 40000000 in
theorem rm1 (l : Launch) (Z : State) (a0 : Array Value) (hw : ∀ d ∈ tables_1, d.before a0 Z = true) (ws : List Jvm.Cond) (p1 : Int32) (w_NESTED : Addr) (w_NEVER : Addr) (w_NOT_SUPPORTED : Addr) (w_MANDATORY : Addr) (w_SUPPORTS : Addr) (w_REQUIRES_NEW : Addr) (w_REQUIRED : Addr) (h0 : Heap) (n0 : Nat) (Z0 : n0 ≤ h0.size) (S_NESTED : Sta Z h0 "com/example/orderly_tx/orderlytx/Propagation" "NESTED" "Lcom/example/orderly_tx/orderlytx/Propagation;" (.ref w_NESTED)) (S_NEVER : Sta Z h0 "com/example/orderly_tx/orderlytx/Propagation" "NEVER" "Lcom/example/orderly_tx/orderlytx/Propagation;" (.ref w_NEVER)) (S_NOT_SUPPORTED : Sta Z h0 "com/example/orderly_tx/orderlytx/Propagation" "NOT_SUPPORTED" "Lcom/example/orderly_tx/orderlytx/Propagation;" (.ref w_NOT_SUPPORTED)) (S_MANDATORY : Sta Z h0 "com/example/orderly_tx/orderlytx/Propagation" "MANDATORY" "Lcom/example/orderly_tx/orderlytx/Propagation;" (.ref w_MANDATORY)) (S_SUPPORTS : Sta Z h0 "com/example/orderly_tx/orderlytx/Propagation" "SUPPORTS" "Lcom/example/orderly_tx/orderlytx/Propagation;" (.ref w_SUPPORTS)) (S_REQUIRES_NEW : Sta Z h0 "com/example/orderly_tx/orderlytx/Propagation" "REQUIRES_NEW" "Lcom/example/orderly_tx/orderlytx/Propagation;" (.ref w_REQUIRES_NEW)) (S_REQUIRED : Sta Z h0 "com/example/orderly_tx/orderlytx/Propagation" "REQUIRED" "Lcom/example/orderly_tx/orderlytx/Propagation;" (.ref w_REQUIRED)) :
    MetFree l (⟨"com/example/orderly_tx/orderlytx/PropagationModePinLaw", "pick", "(I)Lcom/example/orderly_tx/orderlytx/Propagation;"⟩ : MethodName) (head1 (Jvm.Cond.code (⟨"com/example/orderly_tx/orderlytx/PropagationModePinLaw", "pick", "(I)Lcom/example/orderly_tx/orderlytx/Propagation;"⟩ : MethodName) method_3_code 1 (some (.object "com/example/orderly_tx/orderlytx/Propagation")) :: ws) ({ frames := 0, cells := 0, slots := 0, locals := 0 } : Room)) (fun a U => a = #[(.int p1)] ∧ Z.Warmed39 U.vm ∧ U.heap = h0) (fun _ _ _ _ _ => True) (fun _ U o U' => ∃ v L, o = .returned v ∧ Q1 Z p1 w_NESTED w_NEVER w_NOT_SUPPORTED w_MANDATORY w_SUPPORTS w_REQUIRES_NEW w_REQUIRED h0 n0 v U'.heap L ∧ FrameEnd U o U' L ({ frames := 0, cells := 0, slots := 0, locals := 0 } : Room).cells ({ frames := 0, cells := 0, slots := 0, locals := 0 } : Room).slots) := by
  by_cases hc1 : p1 = (0 : Int32)
  · exact rm1_f l Z a0 hw ws p1 w_NESTED w_NEVER w_NOT_SUPPORTED w_MANDATORY w_SUPPORTS w_REQUIRES_NEW w_REQUIRED h0 n0 Z0 S_NESTED S_NEVER S_NOT_SUPPORTED S_MANDATORY S_SUPPORTS S_REQUIRES_NEW S_REQUIRED hc1
  · by_cases hc10 : p1 = (1 : Int32)
    · exact rm1_tf l Z a0 hw ws p1 w_NESTED w_NEVER w_NOT_SUPPORTED w_MANDATORY w_SUPPORTS w_REQUIRES_NEW w_REQUIRED h0 n0 Z0 S_NESTED S_NEVER S_NOT_SUPPORTED S_MANDATORY S_SUPPORTS S_REQUIRES_NEW S_REQUIRED hc1 hc10
    · by_cases hc19 : p1 = (2 : Int32)
      · exact rm1_ttf l Z a0 hw ws p1 w_NESTED w_NEVER w_NOT_SUPPORTED w_MANDATORY w_SUPPORTS w_REQUIRES_NEW w_REQUIRED h0 n0 Z0 S_NESTED S_NEVER S_NOT_SUPPORTED S_MANDATORY S_SUPPORTS S_REQUIRES_NEW S_REQUIRED hc1 hc10 hc19
      · by_cases hc28 : p1 = (3 : Int32)
        · exact rm1_tttf l Z a0 hw ws p1 w_NESTED w_NEVER w_NOT_SUPPORTED w_MANDATORY w_SUPPORTS w_REQUIRES_NEW w_REQUIRED h0 n0 Z0 S_NESTED S_NEVER S_NOT_SUPPORTED S_MANDATORY S_SUPPORTS S_REQUIRES_NEW S_REQUIRED hc1 hc10 hc19 hc28
        · by_cases hc37 : p1 = (4 : Int32)
          · exact rm1_ttttf l Z a0 hw ws p1 w_NESTED w_NEVER w_NOT_SUPPORTED w_MANDATORY w_SUPPORTS w_REQUIRES_NEW w_REQUIRED h0 n0 Z0 S_NESTED S_NEVER S_NOT_SUPPORTED S_MANDATORY S_SUPPORTS S_REQUIRES_NEW S_REQUIRED hc1 hc10 hc19 hc28 hc37
          · by_cases hc46 : p1 = (5 : Int32)
            · exact rm1_tttttf l Z a0 hw ws p1 w_NESTED w_NEVER w_NOT_SUPPORTED w_MANDATORY w_SUPPORTS w_REQUIRES_NEW w_REQUIRED h0 n0 Z0 S_NESTED S_NEVER S_NOT_SUPPORTED S_MANDATORY S_SUPPORTS S_REQUIRES_NEW S_REQUIRED hc1 hc10 hc19 hc28 hc37 hc46
            · exact rm1_tttttt l Z a0 hw ws p1 w_NESTED w_NEVER w_NOT_SUPPORTED w_MANDATORY w_SUPPORTS w_REQUIRES_NEW w_REQUIRED h0 n0 Z0 S_NESTED S_NEVER S_NOT_SUPPORTED S_MANDATORY S_SUPPORTS S_REQUIRES_NEW S_REQUIRED hc1 hc10 hc19 hc28 hc37 hc46
theorem d2_0 : decode method_4_code 0 = .ok (.iload_n 1, 1) := by decide +kernel
theorem d2_1 : decode method_4_code 1 = .ok (.ifCond .eq 52, 3) := by decide +kernel
theorem d2_53 : decode method_4_code 53 = .ok (.iload_n 0, 1) := by decide +kernel
theorem d2_54 : decode method_4_code 54 = .ok (.ifCond .eq 14, 3) := by decide +kernel
theorem d2_68 : decode method_4_code 68 = .ok (.getstatic 52, 3) := by decide +kernel
theorem d2_71 : decode method_4_code 71 = .ok (.areturn, 1) := by decide +kernel
theorem pn_2 : plainName "com/example/orderly_tx/orderlytx/PropagationModePinLaw" = true := by first | (simp [plainName, overriddenIn]; done) | decide +kernel
theorem ef_2 (m : MethodId) (x0 : Int32) (x1 : Int32) : entryFrame m #[(.int x0), (.int x1)] 2 = mkF m 0 #[.val (.int x0), .val (.int x1)] [] := by first | (simp [entryFrame, mkF, argsToLocals, Value.category]; done) | rfl
theorem d2_57 : decode method_4_code 57 = .ok (.iload_n 0, 1) := by decide +kernel
theorem d2_58 : decode method_4_code 58 = .ok (.iconst 1, 1) := by decide +kernel
theorem d2_59 : decode method_4_code 59 = .ok (.if_icmp .eq 9, 3) := by decide +kernel
theorem d2_62 : decode method_4_code 62 = .ok (.iload_n 0, 1) := by decide +kernel
theorem d2_63 : decode method_4_code 63 = .ok (.bipush 6, 2) := by decide +kernel
theorem d2_65 : decode method_4_code 65 = .ok (.if_icmp .ne 7, 3) := by decide +kernel
theorem d2_72 : decode method_4_code 72 = .ok (.iload_n 0, 1) := by decide +kernel
theorem d2_73 : decode method_4_code 73 = .ok (.iconst 3, 1) := by decide +kernel
theorem d2_74 : decode method_4_code 74 = .ok (.if_icmp .ne 7, 3) := by decide +kernel
theorem d2_81 : decode method_4_code 81 = .ok (.getstatic 55, 3) := by decide +kernel
theorem d2_84 : decode method_4_code 84 = .ok (.areturn, 1) := by decide +kernel
theorem d2_77 : decode method_4_code 77 = .ok (.getstatic 58, 3) := by decide +kernel
theorem d2_80 : decode method_4_code 80 = .ok (.areturn, 1) := by decide +kernel
theorem d2_4 : decode method_4_code 4 = .ok (.iload_n 0, 1) := by decide +kernel
theorem d2_5 : decode method_4_code 5 = .ok (.ifCond .eq 13, 3) := by decide +kernel
theorem d2_18 : decode method_4_code 18 = .ok (.getstatic 46, 3) := by decide +kernel
theorem d2_21 : decode method_4_code 21 = .ok (.areturn, 1) := by decide +kernel
theorem d2_8 : decode method_4_code 8 = .ok (.iload_n 0, 1) := by decide +kernel
theorem d2_9 : decode method_4_code 9 = .ok (.iconst 2, 1) := by decide +kernel
theorem d2_10 : decode method_4_code 10 = .ok (.if_icmp .eq 8, 3) := by decide +kernel
theorem d2_13 : decode method_4_code 13 = .ok (.iload_n 0, 1) := by decide +kernel
theorem d2_14 : decode method_4_code 14 = .ok (.iconst 3, 1) := by decide +kernel
theorem d2_15 : decode method_4_code 15 = .ok (.if_icmp .ne 7, 3) := by decide +kernel
theorem d2_22 : decode method_4_code 22 = .ok (.iload_n 0, 1) := by decide +kernel
theorem d2_23 : decode method_4_code 23 = .ok (.iconst 1, 1) := by decide +kernel
theorem d2_24 : decode method_4_code 24 = .ok (.if_icmp .ne 7, 3) := by decide +kernel
theorem d2_31 : decode method_4_code 31 = .ok (.iload_n 0, 1) := by decide +kernel
theorem d2_32 : decode method_4_code 32 = .ok (.iconst 4, 1) := by decide +kernel
theorem d2_33 : decode method_4_code 33 = .ok (.if_icmp .ne 7, 3) := by decide +kernel
theorem d2_40 : decode method_4_code 40 = .ok (.iload_n 0, 1) := by decide +kernel
theorem d2_41 : decode method_4_code 41 = .ok (.iconst 5, 1) := by decide +kernel
theorem d2_42 : decode method_4_code 42 = .ok (.if_icmp .ne 7, 3) := by decide +kernel
theorem d2_49 : decode method_4_code 49 = .ok (.getstatic 61, 3) := by decide +kernel
theorem d2_52 : decode method_4_code 52 = .ok (.areturn, 1) := by decide +kernel
theorem d2_45 : decode method_4_code 45 = .ok (.getstatic 58, 3) := by decide +kernel
theorem d2_48 : decode method_4_code 48 = .ok (.areturn, 1) := by decide +kernel
theorem d2_36 : decode method_4_code 36 = .ok (.getstatic 55, 3) := by decide +kernel
theorem d2_39 : decode method_4_code 39 = .ok (.areturn, 1) := by decide +kernel
theorem d2_27 : decode method_4_code 27 = .ok (.getstatic 52, 3) := by decide +kernel
theorem d2_30 : decode method_4_code 30 = .ok (.areturn, 1) := by decide +kernel
def own_f2 (p1 : Int32) (p2 : Int32) (w_NEW_UNIT : Addr) (w_NO_TRANSACTION : Addr) (w_REFUSED : Addr) (w_JOIN : Addr) (w_SAVEPOINT : Addr) : Addr := (if p2 = (0 : Int32) then (if p1 = (0 : Int32) then w_NEW_UNIT else (if p1 = (1 : Int32) then w_NEW_UNIT else (if p1 = (6 : Int32) then w_NEW_UNIT else (if p1 = (3 : Int32) then w_REFUSED else w_NO_TRANSACTION)))) else (if p1 = (0 : Int32) then w_JOIN else (if p1 = (2 : Int32) then w_JOIN else (if p1 = (3 : Int32) then w_JOIN else (if p1 = (1 : Int32) then w_NEW_UNIT else (if p1 = (4 : Int32) then w_NO_TRANSACTION else (if p1 = (5 : Int32) then w_REFUSED else w_SAVEPOINT)))))))
def Q2 (Z : State) (p1 : Int32) (p2 : Int32) (w_NEW_UNIT : Addr) (w_NO_TRANSACTION : Addr) (w_REFUSED : Addr) (w_JOIN : Addr) (w_SAVEPOINT : Addr) (h0 : Heap) (n0 : Nat) (v : Option Value) (h : Heap) (L : List Loc) : Prop := v = some (.ref (own_f2 p1 p2 w_NEW_UNIT w_NO_TRANSACTION w_REFUSED w_JOIN w_SAVEPOINT)) ∧ Fr n0 L ∧ h = h0
set_option maxRecDepth 65536 in
set_option maxHeartbeats 40000000 in
theorem rm2_tt (l : Launch) (Z : State) (a0 : Array Value) (hw : ∀ d ∈ tables_1, d.before a0 Z = true) (ws : List Jvm.Cond) (p1 : Int32) (p2 : Int32) (w_NEW_UNIT : Addr) (w_NO_TRANSACTION : Addr) (w_REFUSED : Addr) (w_JOIN : Addr) (w_SAVEPOINT : Addr) (h0 : Heap) (n0 : Nat) (Z0 : n0 ≤ h0.size) (S_NEW_UNIT : Sta Z h0 "com/example/orderly_tx/orderlytx/Propagation$Mode" "NEW_UNIT" "Lcom/example/orderly_tx/orderlytx/Propagation$Mode;" (.ref w_NEW_UNIT)) (S_NO_TRANSACTION : Sta Z h0 "com/example/orderly_tx/orderlytx/Propagation$Mode" "NO_TRANSACTION" "Lcom/example/orderly_tx/orderlytx/Propagation$Mode;" (.ref w_NO_TRANSACTION)) (S_REFUSED : Sta Z h0 "com/example/orderly_tx/orderlytx/Propagation$Mode" "REFUSED" "Lcom/example/orderly_tx/orderlytx/Propagation$Mode;" (.ref w_REFUSED)) (S_JOIN : Sta Z h0 "com/example/orderly_tx/orderlytx/Propagation$Mode" "JOIN" "Lcom/example/orderly_tx/orderlytx/Propagation$Mode;" (.ref w_JOIN)) (S_SAVEPOINT : Sta Z h0 "com/example/orderly_tx/orderlytx/Propagation$Mode" "SAVEPOINT" "Lcom/example/orderly_tx/orderlytx/Propagation$Mode;" (.ref w_SAVEPOINT)) (hc1 : p2 = (0 : Int32)) (hc54 : p1 = (0 : Int32)) :
    MetFree l (⟨"com/example/orderly_tx/orderlytx/PropagationModePinLaw", "expected", "(IZ)Lcom/example/orderly_tx/orderlytx/Propagation$Mode;"⟩ : MethodName) (head1 (Jvm.Cond.code (⟨"com/example/orderly_tx/orderlytx/PropagationModePinLaw", "expected", "(IZ)Lcom/example/orderly_tx/orderlytx/Propagation$Mode;"⟩ : MethodName) method_4_code 2 (some (.object "com/example/orderly_tx/orderlytx/Propagation$Mode")) :: ws) ({ frames := 0, cells := 0, slots := 0, locals := 0 } : Room)) (fun a U => a = #[(.int p1), (.int p2)] ∧ Z.Warmed39 U.vm ∧ U.heap = h0) (fun _ _ _ _ _ => True) (fun _ U o U' => ∃ v L, o = .returned v ∧ Q2 Z p1 p2 w_NEW_UNIT w_NO_TRANSACTION w_REFUSED w_JOIN w_SAVEPOINT h0 n0 v U'.heap L ∧ FrameEnd U o U' L ({ frames := 0, cells := 0, slots := 0, locals := 0 } : Room).cells ({ frames := 0, cells := 0, slots := 0, locals := 0 } : Room).slots) := by
  refine MetFree.of_bodySF (plainFor_of_name pn_2) hisR ?_
  intro p e s m args below meth c s₁ Bd hml0 hP hK
  obtain ⟨rfl, hZ, hh⟩ := hP
  have hx := Bd.exec
  have hby := Bd.bytes
  have hml : c.maxLocals = 2 := hml0
  have hown : s.vm.findClass "com/example/orderly_tx/orderlytx/PropagationModePinLaw" = some m.cls := findClass_of_methodNamed Bd.named
  have hnm := (name_of_methodNamed Bd.named Bd.method).1
  have X0 : Stand p l e ({ frames := 0, cells := 0, slots := 0, locals := 0 } : Room) s m #[(.int p1), (.int p2)] below meth c s₁ [] 0 0 := Stand.of_body Bd
  have e0 : s₁.heap = h0 := by rw [← hh, Bd.state]; rfl
  have N0 := Fr.nil n0
  have pre0 : ∀ t, Steps p.tables e below (s₁.setTop (mkF m 0 #[.val (.int p1), .val (.int p2)] [])) t → Steps p.tables e below (s₁.setTop (entryFrame m #[(.int p1), (.int p2)] 2)) t := fun t k => castTop (ef_2 m p1 p2) k
  -- 3. LAWS
  obtain ⟨T4, X4, e4, st4⟩ := getS2 X0 hx hZ hown (host := "") (Or.inl (hw _ (List.mem_of_getElem? (i := 25) rfl))) Via.refl e0 S_NEW_UNIT (g := (mkF m 68 #[.val (.int p1), .val (.int p2)] [])) rfl (hb hby d2_68)
  obtain ⟨fs, hr, hrun, hended, hW, hsame⟩ := X4.leave (v := some (.ref w_NEW_UNIT)) (fun h => by rw [Bd.returns] at h; cases h) (BodyLoose.notSynchronized Bd)
  refine ⟨_, _, pre0 _ ?_, hrun, hended, _, _, rfl, ?_, ⟨_, rfl⟩, hW, hsame.mono (by decide) (by decide)⟩
  -- 4. STEPS
  · show Steps p.tables e below (s₁.setTop (mkF m 0 #[.val (.int p1), .val (.int p2)] [])) _
    refine XS.iloadN X0.here hx rfl (hb hby d2_0) rfl ?_
    show Steps p.tables e below (s₁.setTop (mkF m 1 #[.val (.int p1), .val (.int p2)] [(.int p2)])) _
    refine XS.ifYes X0.here hx rfl (pc0 := 1) (pc' := 53) rfl (hb hby d2_1) rfl ((if0 _ _).trans (teq hc1).1) (by decide) (by decide) ?_
    show Steps p.tables e below (s₁.setTop (mkF m 53 #[.val (.int p1), .val (.int p2)] [])) _
    refine XS.iloadN X0.here hx rfl (hb hby d2_53) rfl ?_
    show Steps p.tables e below (s₁.setTop (mkF m 54 #[.val (.int p1), .val (.int p2)] [(.int p1)])) _
    refine XS.ifYes X0.here hx rfl (pc0 := 54) (pc' := 68) rfl (hb hby d2_54) rfl ((if0 _ _).trans (teq hc54).1) (by decide) (by decide) ?_
    show Steps p.tables e below (s₁.setTop (mkF m 68 #[.val (.int p1), .val (.int p2)] [])) _
    refine st4 _ ?_
    show Steps p.tables e below (T4.setTop (mkF m 71 #[.val (.int p1), .val (.int p2)] [(.ref w_NEW_UNIT)])) _
    jvm_step X4.here [X4.here.top, hx, (hb hby d2_71), X4.method', Bd.returns, Value.isRef, FieldType.isReference]
    first | (intro acts; rw [hr _ acts rfl rfl rfl]) | rw [hr _ _ rfl rfl rfl]
    exact Steps.refl _
  · show Q2 Z p1 p2 w_NEW_UNIT w_NO_TRANSACTION w_REFUSED w_JOIN w_SAVEPOINT h0 n0 _ T4.heap _
    rw [e4]
    exact ⟨(by unfold own_f2; rw [if_pos hc1, if_pos hc54]), N0, rfl⟩
set_option maxRecDepth 65536 in
set_option maxHeartbeats 40000000 in
theorem rm2_tft (l : Launch) (Z : State) (a0 : Array Value) (hw : ∀ d ∈ tables_1, d.before a0 Z = true) (ws : List Jvm.Cond) (p1 : Int32) (p2 : Int32) (w_NEW_UNIT : Addr) (w_NO_TRANSACTION : Addr) (w_REFUSED : Addr) (w_JOIN : Addr) (w_SAVEPOINT : Addr) (h0 : Heap) (n0 : Nat) (Z0 : n0 ≤ h0.size) (S_NEW_UNIT : Sta Z h0 "com/example/orderly_tx/orderlytx/Propagation$Mode" "NEW_UNIT" "Lcom/example/orderly_tx/orderlytx/Propagation$Mode;" (.ref w_NEW_UNIT)) (S_NO_TRANSACTION : Sta Z h0 "com/example/orderly_tx/orderlytx/Propagation$Mode" "NO_TRANSACTION" "Lcom/example/orderly_tx/orderlytx/Propagation$Mode;" (.ref w_NO_TRANSACTION)) (S_REFUSED : Sta Z h0 "com/example/orderly_tx/orderlytx/Propagation$Mode" "REFUSED" "Lcom/example/orderly_tx/orderlytx/Propagation$Mode;" (.ref w_REFUSED)) (S_JOIN : Sta Z h0 "com/example/orderly_tx/orderlytx/Propagation$Mode" "JOIN" "Lcom/example/orderly_tx/orderlytx/Propagation$Mode;" (.ref w_JOIN)) (S_SAVEPOINT : Sta Z h0 "com/example/orderly_tx/orderlytx/Propagation$Mode" "SAVEPOINT" "Lcom/example/orderly_tx/orderlytx/Propagation$Mode;" (.ref w_SAVEPOINT)) (hc1 : p2 = (0 : Int32)) (hc54 : ¬ (p1 = (0 : Int32))) (hc59 : p1 = (1 : Int32)) :
    MetFree l (⟨"com/example/orderly_tx/orderlytx/PropagationModePinLaw", "expected", "(IZ)Lcom/example/orderly_tx/orderlytx/Propagation$Mode;"⟩ : MethodName) (head1 (Jvm.Cond.code (⟨"com/example/orderly_tx/orderlytx/PropagationModePinLaw", "expected", "(IZ)Lcom/example/orderly_tx/orderlytx/Propagation$Mode;"⟩ : MethodName) method_4_code 2 (some (.object "com/example/orderly_tx/orderlytx/Propagation$Mode")) :: ws) ({ frames := 0, cells := 0, slots := 0, locals := 0 } : Room)) (fun a U => a = #[(.int p1), (.int p2)] ∧ Z.Warmed39 U.vm ∧ U.heap = h0) (fun _ _ _ _ _ => True) (fun _ U o U' => ∃ v L, o = .returned v ∧ Q2 Z p1 p2 w_NEW_UNIT w_NO_TRANSACTION w_REFUSED w_JOIN w_SAVEPOINT h0 n0 v U'.heap L ∧ FrameEnd U o U' L ({ frames := 0, cells := 0, slots := 0, locals := 0 } : Room).cells ({ frames := 0, cells := 0, slots := 0, locals := 0 } : Room).slots) := by
  refine MetFree.of_bodySF (plainFor_of_name pn_2) hisR ?_
  intro p e s m args below meth c s₁ Bd hml0 hP hK
  obtain ⟨rfl, hZ, hh⟩ := hP
  have hx := Bd.exec
  have hby := Bd.bytes
  have hml : c.maxLocals = 2 := hml0
  have hown : s.vm.findClass "com/example/orderly_tx/orderlytx/PropagationModePinLaw" = some m.cls := findClass_of_methodNamed Bd.named
  have hnm := (name_of_methodNamed Bd.named Bd.method).1
  have X0 : Stand p l e ({ frames := 0, cells := 0, slots := 0, locals := 0 } : Room) s m #[(.int p1), (.int p2)] below meth c s₁ [] 0 0 := Stand.of_body Bd
  have e0 : s₁.heap = h0 := by rw [← hh, Bd.state]; rfl
  have N0 := Fr.nil n0
  have pre0 : ∀ t, Steps p.tables e below (s₁.setTop (mkF m 0 #[.val (.int p1), .val (.int p2)] [])) t → Steps p.tables e below (s₁.setTop (entryFrame m #[(.int p1), (.int p2)] 2)) t := fun t k => castTop (ef_2 m p1 p2) k
  -- 3. LAWS
  obtain ⟨T4, X4, e4, st4⟩ := getS2 X0 hx hZ hown (host := "") (Or.inl (hw _ (List.mem_of_getElem? (i := 25) rfl))) Via.refl e0 S_NEW_UNIT (g := (mkF m 68 #[.val (.int p1), .val (.int p2)] [])) rfl (hb hby d2_68)
  obtain ⟨fs, hr, hrun, hended, hW, hsame⟩ := X4.leave (v := some (.ref w_NEW_UNIT)) (fun h => by rw [Bd.returns] at h; cases h) (BodyLoose.notSynchronized Bd)
  refine ⟨_, _, pre0 _ ?_, hrun, hended, _, _, rfl, ?_, ⟨_, rfl⟩, hW, hsame.mono (by decide) (by decide)⟩
  -- 4. STEPS
  · show Steps p.tables e below (s₁.setTop (mkF m 0 #[.val (.int p1), .val (.int p2)] [])) _
    refine XS.iloadN X0.here hx rfl (hb hby d2_0) rfl ?_
    show Steps p.tables e below (s₁.setTop (mkF m 1 #[.val (.int p1), .val (.int p2)] [(.int p2)])) _
    refine XS.ifYes X0.here hx rfl (pc0 := 1) (pc' := 53) rfl (hb hby d2_1) rfl ((if0 _ _).trans (teq hc1).1) (by decide) (by decide) ?_
    show Steps p.tables e below (s₁.setTop (mkF m 53 #[.val (.int p1), .val (.int p2)] [])) _
    refine XS.iloadN X0.here hx rfl (hb hby d2_53) rfl ?_
    show Steps p.tables e below (s₁.setTop (mkF m 54 #[.val (.int p1), .val (.int p2)] [(.int p1)])) _
    refine XS.ifNo X0.here hx rfl (hb hby d2_54) rfl ((if0 _ _).trans (feq hc54).1) ?_
    show Steps p.tables e below (s₁.setTop (mkF m 57 #[.val (.int p1), .val (.int p2)] [])) _
    refine XS.iloadN X0.here hx rfl (hb hby d2_57) rfl ?_
    show Steps p.tables e below (s₁.setTop (mkF m 58 #[.val (.int p1), .val (.int p2)] [(.int p1)])) _
    refine XS.iconst X0.here hx rfl (hb hby d2_58) ?_
    show Steps p.tables e below (s₁.setTop (mkF m 59 #[.val (.int p1), .val (.int p2)] [(.int (1 : Int32)), (.int p1)])) _
    refine XS.icmpYes X0.here hx rfl (pc0 := 59) (pc' := 68) rfl (hb hby d2_59) rfl (teq hc59).1 (by decide) (by decide) ?_
    show Steps p.tables e below (s₁.setTop (mkF m 68 #[.val (.int p1), .val (.int p2)] [])) _
    refine st4 _ ?_
    show Steps p.tables e below (T4.setTop (mkF m 71 #[.val (.int p1), .val (.int p2)] [(.ref w_NEW_UNIT)])) _
    jvm_step X4.here [X4.here.top, hx, (hb hby d2_71), X4.method', Bd.returns, Value.isRef, FieldType.isReference]
    first | (intro acts; rw [hr _ acts rfl rfl rfl]) | rw [hr _ _ rfl rfl rfl]
    exact Steps.refl _
  · show Q2 Z p1 p2 w_NEW_UNIT w_NO_TRANSACTION w_REFUSED w_JOIN w_SAVEPOINT h0 n0 _ T4.heap _
    rw [e4]
    exact ⟨(by unfold own_f2; rw [if_pos hc1, if_neg hc54, if_pos hc59]), N0, rfl⟩
set_option maxRecDepth 65536 in
set_option maxHeartbeats 40000000 in
theorem rm2_tfftt (l : Launch) (Z : State) (a0 : Array Value) (hw : ∀ d ∈ tables_1, d.before a0 Z = true) (ws : List Jvm.Cond) (p1 : Int32) (p2 : Int32) (w_NEW_UNIT : Addr) (w_NO_TRANSACTION : Addr) (w_REFUSED : Addr) (w_JOIN : Addr) (w_SAVEPOINT : Addr) (h0 : Heap) (n0 : Nat) (Z0 : n0 ≤ h0.size) (S_NEW_UNIT : Sta Z h0 "com/example/orderly_tx/orderlytx/Propagation$Mode" "NEW_UNIT" "Lcom/example/orderly_tx/orderlytx/Propagation$Mode;" (.ref w_NEW_UNIT)) (S_NO_TRANSACTION : Sta Z h0 "com/example/orderly_tx/orderlytx/Propagation$Mode" "NO_TRANSACTION" "Lcom/example/orderly_tx/orderlytx/Propagation$Mode;" (.ref w_NO_TRANSACTION)) (S_REFUSED : Sta Z h0 "com/example/orderly_tx/orderlytx/Propagation$Mode" "REFUSED" "Lcom/example/orderly_tx/orderlytx/Propagation$Mode;" (.ref w_REFUSED)) (S_JOIN : Sta Z h0 "com/example/orderly_tx/orderlytx/Propagation$Mode" "JOIN" "Lcom/example/orderly_tx/orderlytx/Propagation$Mode;" (.ref w_JOIN)) (S_SAVEPOINT : Sta Z h0 "com/example/orderly_tx/orderlytx/Propagation$Mode" "SAVEPOINT" "Lcom/example/orderly_tx/orderlytx/Propagation$Mode;" (.ref w_SAVEPOINT)) (hc1 : p2 = (0 : Int32)) (hc54 : ¬ (p1 = (0 : Int32))) (hc59 : ¬ (p1 = (1 : Int32))) (hc65 : ¬ (p1 = (6 : Int32))) (hc74 : ¬ (p1 = (3 : Int32))) :
    MetFree l (⟨"com/example/orderly_tx/orderlytx/PropagationModePinLaw", "expected", "(IZ)Lcom/example/orderly_tx/orderlytx/Propagation$Mode;"⟩ : MethodName) (head1 (Jvm.Cond.code (⟨"com/example/orderly_tx/orderlytx/PropagationModePinLaw", "expected", "(IZ)Lcom/example/orderly_tx/orderlytx/Propagation$Mode;"⟩ : MethodName) method_4_code 2 (some (.object "com/example/orderly_tx/orderlytx/Propagation$Mode")) :: ws) ({ frames := 0, cells := 0, slots := 0, locals := 0 } : Room)) (fun a U => a = #[(.int p1), (.int p2)] ∧ Z.Warmed39 U.vm ∧ U.heap = h0) (fun _ _ _ _ _ => True) (fun _ U o U' => ∃ v L, o = .returned v ∧ Q2 Z p1 p2 w_NEW_UNIT w_NO_TRANSACTION w_REFUSED w_JOIN w_SAVEPOINT h0 n0 v U'.heap L ∧ FrameEnd U o U' L ({ frames := 0, cells := 0, slots := 0, locals := 0 } : Room).cells ({ frames := 0, cells := 0, slots := 0, locals := 0 } : Room).slots) := by
  refine MetFree.of_bodySF (plainFor_of_name pn_2) hisR ?_
  intro p e s m args below meth c s₁ Bd hml0 hP hK
  obtain ⟨rfl, hZ, hh⟩ := hP
  have hx := Bd.exec
  have hby := Bd.bytes
  have hml : c.maxLocals = 2 := hml0
  have hown : s.vm.findClass "com/example/orderly_tx/orderlytx/PropagationModePinLaw" = some m.cls := findClass_of_methodNamed Bd.named
  have hnm := (name_of_methodNamed Bd.named Bd.method).1
  have X0 : Stand p l e ({ frames := 0, cells := 0, slots := 0, locals := 0 } : Room) s m #[(.int p1), (.int p2)] below meth c s₁ [] 0 0 := Stand.of_body Bd
  have e0 : s₁.heap = h0 := by rw [← hh, Bd.state]; rfl
  have N0 := Fr.nil n0
  have pre0 : ∀ t, Steps p.tables e below (s₁.setTop (mkF m 0 #[.val (.int p1), .val (.int p2)] [])) t → Steps p.tables e below (s₁.setTop (entryFrame m #[(.int p1), (.int p2)] 2)) t := fun t k => castTop (ef_2 m p1 p2) k
  -- 3. LAWS
  obtain ⟨T4, X4, e4, st4⟩ := getS2 X0 hx hZ hown (host := "") (Or.inl (hw _ (List.mem_of_getElem? (i := 31) rfl))) Via.refl e0 S_NO_TRANSACTION (g := (mkF m 81 #[.val (.int p1), .val (.int p2)] [])) rfl (hb hby d2_81)
  obtain ⟨fs, hr, hrun, hended, hW, hsame⟩ := X4.leave (v := some (.ref w_NO_TRANSACTION)) (fun h => by rw [Bd.returns] at h; cases h) (BodyLoose.notSynchronized Bd)
  refine ⟨_, _, pre0 _ ?_, hrun, hended, _, _, rfl, ?_, ⟨_, rfl⟩, hW, hsame.mono (by decide) (by decide)⟩
  -- 4. STEPS
  · show Steps p.tables e below (s₁.setTop (mkF m 0 #[.val (.int p1), .val (.int p2)] [])) _
    refine XS.iloadN X0.here hx rfl (hb hby d2_0) rfl ?_
    show Steps p.tables e below (s₁.setTop (mkF m 1 #[.val (.int p1), .val (.int p2)] [(.int p2)])) _
    refine XS.ifYes X0.here hx rfl (pc0 := 1) (pc' := 53) rfl (hb hby d2_1) rfl ((if0 _ _).trans (teq hc1).1) (by decide) (by decide) ?_
    show Steps p.tables e below (s₁.setTop (mkF m 53 #[.val (.int p1), .val (.int p2)] [])) _
    refine XS.iloadN X0.here hx rfl (hb hby d2_53) rfl ?_
    show Steps p.tables e below (s₁.setTop (mkF m 54 #[.val (.int p1), .val (.int p2)] [(.int p1)])) _
    refine XS.ifNo X0.here hx rfl (hb hby d2_54) rfl ((if0 _ _).trans (feq hc54).1) ?_
    show Steps p.tables e below (s₁.setTop (mkF m 57 #[.val (.int p1), .val (.int p2)] [])) _
    refine XS.iloadN X0.here hx rfl (hb hby d2_57) rfl ?_
    show Steps p.tables e below (s₁.setTop (mkF m 58 #[.val (.int p1), .val (.int p2)] [(.int p1)])) _
    refine XS.iconst X0.here hx rfl (hb hby d2_58) ?_
    show Steps p.tables e below (s₁.setTop (mkF m 59 #[.val (.int p1), .val (.int p2)] [(.int (1 : Int32)), (.int p1)])) _
    refine XS.icmpNo X0.here hx rfl (hb hby d2_59) rfl (feq hc59).1 ?_
    show Steps p.tables e below (s₁.setTop (mkF m 62 #[.val (.int p1), .val (.int p2)] [])) _
    refine XS.iloadN X0.here hx rfl (hb hby d2_62) rfl ?_
    show Steps p.tables e below (s₁.setTop (mkF m 63 #[.val (.int p1), .val (.int p2)] [(.int p1)])) _
    refine XS.bipush X0.here hx rfl (hb hby d2_63) ?_
    show Steps p.tables e below (s₁.setTop (mkF m 65 #[.val (.int p1), .val (.int p2)] [(.int (6 : Int32)), (.int p1)])) _
    refine XS.icmpYes X0.here hx rfl (pc0 := 65) (pc' := 72) rfl (hb hby d2_65) rfl (feq hc65).2 (by decide) (by decide) ?_
    show Steps p.tables e below (s₁.setTop (mkF m 72 #[.val (.int p1), .val (.int p2)] [])) _
    refine XS.iloadN X0.here hx rfl (hb hby d2_72) rfl ?_
    show Steps p.tables e below (s₁.setTop (mkF m 73 #[.val (.int p1), .val (.int p2)] [(.int p1)])) _
    refine XS.iconst X0.here hx rfl (hb hby d2_73) ?_
    show Steps p.tables e below (s₁.setTop (mkF m 74 #[.val (.int p1), .val (.int p2)] [(.int (3 : Int32)), (.int p1)])) _
    refine XS.icmpYes X0.here hx rfl (pc0 := 74) (pc' := 81) rfl (hb hby d2_74) rfl (feq hc74).2 (by decide) (by decide) ?_
    show Steps p.tables e below (s₁.setTop (mkF m 81 #[.val (.int p1), .val (.int p2)] [])) _
    refine st4 _ ?_
    show Steps p.tables e below (T4.setTop (mkF m 84 #[.val (.int p1), .val (.int p2)] [(.ref w_NO_TRANSACTION)])) _
    jvm_step X4.here [X4.here.top, hx, (hb hby d2_84), X4.method', Bd.returns, Value.isRef, FieldType.isReference]
    first | (intro acts; rw [hr _ acts rfl rfl rfl]) | rw [hr _ _ rfl rfl rfl]
    exact Steps.refl _
  · show Q2 Z p1 p2 w_NEW_UNIT w_NO_TRANSACTION w_REFUSED w_JOIN w_SAVEPOINT h0 n0 _ T4.heap _
    rw [e4]
    exact ⟨(by unfold own_f2; rw [if_pos hc1, if_neg hc54, if_neg hc59, if_neg hc65, if_neg hc74]), N0, rfl⟩
set_option maxRecDepth 65536 in
set_option maxHeartbeats 40000000 in
theorem rm2_tfftf (l : Launch) (Z : State) (a0 : Array Value) (hw : ∀ d ∈ tables_1, d.before a0 Z = true) (ws : List Jvm.Cond) (p1 : Int32) (p2 : Int32) (w_NEW_UNIT : Addr) (w_NO_TRANSACTION : Addr) (w_REFUSED : Addr) (w_JOIN : Addr) (w_SAVEPOINT : Addr) (h0 : Heap) (n0 : Nat) (Z0 : n0 ≤ h0.size) (S_NEW_UNIT : Sta Z h0 "com/example/orderly_tx/orderlytx/Propagation$Mode" "NEW_UNIT" "Lcom/example/orderly_tx/orderlytx/Propagation$Mode;" (.ref w_NEW_UNIT)) (S_NO_TRANSACTION : Sta Z h0 "com/example/orderly_tx/orderlytx/Propagation$Mode" "NO_TRANSACTION" "Lcom/example/orderly_tx/orderlytx/Propagation$Mode;" (.ref w_NO_TRANSACTION)) (S_REFUSED : Sta Z h0 "com/example/orderly_tx/orderlytx/Propagation$Mode" "REFUSED" "Lcom/example/orderly_tx/orderlytx/Propagation$Mode;" (.ref w_REFUSED)) (S_JOIN : Sta Z h0 "com/example/orderly_tx/orderlytx/Propagation$Mode" "JOIN" "Lcom/example/orderly_tx/orderlytx/Propagation$Mode;" (.ref w_JOIN)) (S_SAVEPOINT : Sta Z h0 "com/example/orderly_tx/orderlytx/Propagation$Mode" "SAVEPOINT" "Lcom/example/orderly_tx/orderlytx/Propagation$Mode;" (.ref w_SAVEPOINT)) (hc1 : p2 = (0 : Int32)) (hc54 : ¬ (p1 = (0 : Int32))) (hc59 : ¬ (p1 = (1 : Int32))) (hc65 : ¬ (p1 = (6 : Int32))) (hc74 : p1 = (3 : Int32)) :
    MetFree l (⟨"com/example/orderly_tx/orderlytx/PropagationModePinLaw", "expected", "(IZ)Lcom/example/orderly_tx/orderlytx/Propagation$Mode;"⟩ : MethodName) (head1 (Jvm.Cond.code (⟨"com/example/orderly_tx/orderlytx/PropagationModePinLaw", "expected", "(IZ)Lcom/example/orderly_tx/orderlytx/Propagation$Mode;"⟩ : MethodName) method_4_code 2 (some (.object "com/example/orderly_tx/orderlytx/Propagation$Mode")) :: ws) ({ frames := 0, cells := 0, slots := 0, locals := 0 } : Room)) (fun a U => a = #[(.int p1), (.int p2)] ∧ Z.Warmed39 U.vm ∧ U.heap = h0) (fun _ _ _ _ _ => True) (fun _ U o U' => ∃ v L, o = .returned v ∧ Q2 Z p1 p2 w_NEW_UNIT w_NO_TRANSACTION w_REFUSED w_JOIN w_SAVEPOINT h0 n0 v U'.heap L ∧ FrameEnd U o U' L ({ frames := 0, cells := 0, slots := 0, locals := 0 } : Room).cells ({ frames := 0, cells := 0, slots := 0, locals := 0 } : Room).slots) := by
  refine MetFree.of_bodySF (plainFor_of_name pn_2) hisR ?_
  intro p e s m args below meth c s₁ Bd hml0 hP hK
  obtain ⟨rfl, hZ, hh⟩ := hP
  have hx := Bd.exec
  have hby := Bd.bytes
  have hml : c.maxLocals = 2 := hml0
  have hown : s.vm.findClass "com/example/orderly_tx/orderlytx/PropagationModePinLaw" = some m.cls := findClass_of_methodNamed Bd.named
  have hnm := (name_of_methodNamed Bd.named Bd.method).1
  have X0 : Stand p l e ({ frames := 0, cells := 0, slots := 0, locals := 0 } : Room) s m #[(.int p1), (.int p2)] below meth c s₁ [] 0 0 := Stand.of_body Bd
  have e0 : s₁.heap = h0 := by rw [← hh, Bd.state]; rfl
  have N0 := Fr.nil n0
  have pre0 : ∀ t, Steps p.tables e below (s₁.setTop (mkF m 0 #[.val (.int p1), .val (.int p2)] [])) t → Steps p.tables e below (s₁.setTop (entryFrame m #[(.int p1), (.int p2)] 2)) t := fun t k => castTop (ef_2 m p1 p2) k
  -- 3. LAWS
  obtain ⟨T4, X4, e4, st4⟩ := getS2 X0 hx hZ hown (host := "") (Or.inl (hw _ (List.mem_of_getElem? (i := 37) rfl))) Via.refl e0 S_REFUSED (g := (mkF m 77 #[.val (.int p1), .val (.int p2)] [])) rfl (hb hby d2_77)
  obtain ⟨fs, hr, hrun, hended, hW, hsame⟩ := X4.leave (v := some (.ref w_REFUSED)) (fun h => by rw [Bd.returns] at h; cases h) (BodyLoose.notSynchronized Bd)
  refine ⟨_, _, pre0 _ ?_, hrun, hended, _, _, rfl, ?_, ⟨_, rfl⟩, hW, hsame.mono (by decide) (by decide)⟩
  -- 4. STEPS
  · show Steps p.tables e below (s₁.setTop (mkF m 0 #[.val (.int p1), .val (.int p2)] [])) _
    refine XS.iloadN X0.here hx rfl (hb hby d2_0) rfl ?_
    show Steps p.tables e below (s₁.setTop (mkF m 1 #[.val (.int p1), .val (.int p2)] [(.int p2)])) _
    refine XS.ifYes X0.here hx rfl (pc0 := 1) (pc' := 53) rfl (hb hby d2_1) rfl ((if0 _ _).trans (teq hc1).1) (by decide) (by decide) ?_
    show Steps p.tables e below (s₁.setTop (mkF m 53 #[.val (.int p1), .val (.int p2)] [])) _
    refine XS.iloadN X0.here hx rfl (hb hby d2_53) rfl ?_
    show Steps p.tables e below (s₁.setTop (mkF m 54 #[.val (.int p1), .val (.int p2)] [(.int p1)])) _
    refine XS.ifNo X0.here hx rfl (hb hby d2_54) rfl ((if0 _ _).trans (feq hc54).1) ?_
    show Steps p.tables e below (s₁.setTop (mkF m 57 #[.val (.int p1), .val (.int p2)] [])) _
    refine XS.iloadN X0.here hx rfl (hb hby d2_57) rfl ?_
    show Steps p.tables e below (s₁.setTop (mkF m 58 #[.val (.int p1), .val (.int p2)] [(.int p1)])) _
    refine XS.iconst X0.here hx rfl (hb hby d2_58) ?_
    show Steps p.tables e below (s₁.setTop (mkF m 59 #[.val (.int p1), .val (.int p2)] [(.int (1 : Int32)), (.int p1)])) _
    refine XS.icmpNo X0.here hx rfl (hb hby d2_59) rfl (feq hc59).1 ?_
    show Steps p.tables e below (s₁.setTop (mkF m 62 #[.val (.int p1), .val (.int p2)] [])) _
    refine XS.iloadN X0.here hx rfl (hb hby d2_62) rfl ?_
    show Steps p.tables e below (s₁.setTop (mkF m 63 #[.val (.int p1), .val (.int p2)] [(.int p1)])) _
    refine XS.bipush X0.here hx rfl (hb hby d2_63) ?_
    show Steps p.tables e below (s₁.setTop (mkF m 65 #[.val (.int p1), .val (.int p2)] [(.int (6 : Int32)), (.int p1)])) _
    refine XS.icmpYes X0.here hx rfl (pc0 := 65) (pc' := 72) rfl (hb hby d2_65) rfl (feq hc65).2 (by decide) (by decide) ?_
    show Steps p.tables e below (s₁.setTop (mkF m 72 #[.val (.int p1), .val (.int p2)] [])) _
    refine XS.iloadN X0.here hx rfl (hb hby d2_72) rfl ?_
    show Steps p.tables e below (s₁.setTop (mkF m 73 #[.val (.int p1), .val (.int p2)] [(.int p1)])) _
    refine XS.iconst X0.here hx rfl (hb hby d2_73) ?_
    show Steps p.tables e below (s₁.setTop (mkF m 74 #[.val (.int p1), .val (.int p2)] [(.int (3 : Int32)), (.int p1)])) _
    refine XS.icmpNo X0.here hx rfl (hb hby d2_74) rfl (teq hc74).2 ?_
    show Steps p.tables e below (s₁.setTop (mkF m 77 #[.val (.int p1), .val (.int p2)] [])) _
    refine st4 _ ?_
    show Steps p.tables e below (T4.setTop (mkF m 80 #[.val (.int p1), .val (.int p2)] [(.ref w_REFUSED)])) _
    jvm_step X4.here [X4.here.top, hx, (hb hby d2_80), X4.method', Bd.returns, Value.isRef, FieldType.isReference]
    first | (intro acts; rw [hr _ acts rfl rfl rfl]) | rw [hr _ _ rfl rfl rfl]
    exact Steps.refl _
  · show Q2 Z p1 p2 w_NEW_UNIT w_NO_TRANSACTION w_REFUSED w_JOIN w_SAVEPOINT h0 n0 _ T4.heap _
    rw [e4]
    exact ⟨(by unfold own_f2; rw [if_pos hc1, if_neg hc54, if_neg hc59, if_neg hc65, if_pos hc74]), N0, rfl⟩
set_option maxRecDepth 65536 in
set_option maxHeartbeats 40000000 in
theorem rm2_tfff (l : Launch) (Z : State) (a0 : Array Value) (hw : ∀ d ∈ tables_1, d.before a0 Z = true) (ws : List Jvm.Cond) (p1 : Int32) (p2 : Int32) (w_NEW_UNIT : Addr) (w_NO_TRANSACTION : Addr) (w_REFUSED : Addr) (w_JOIN : Addr) (w_SAVEPOINT : Addr) (h0 : Heap) (n0 : Nat) (Z0 : n0 ≤ h0.size) (S_NEW_UNIT : Sta Z h0 "com/example/orderly_tx/orderlytx/Propagation$Mode" "NEW_UNIT" "Lcom/example/orderly_tx/orderlytx/Propagation$Mode;" (.ref w_NEW_UNIT)) (S_NO_TRANSACTION : Sta Z h0 "com/example/orderly_tx/orderlytx/Propagation$Mode" "NO_TRANSACTION" "Lcom/example/orderly_tx/orderlytx/Propagation$Mode;" (.ref w_NO_TRANSACTION)) (S_REFUSED : Sta Z h0 "com/example/orderly_tx/orderlytx/Propagation$Mode" "REFUSED" "Lcom/example/orderly_tx/orderlytx/Propagation$Mode;" (.ref w_REFUSED)) (S_JOIN : Sta Z h0 "com/example/orderly_tx/orderlytx/Propagation$Mode" "JOIN" "Lcom/example/orderly_tx/orderlytx/Propagation$Mode;" (.ref w_JOIN)) (S_SAVEPOINT : Sta Z h0 "com/example/orderly_tx/orderlytx/Propagation$Mode" "SAVEPOINT" "Lcom/example/orderly_tx/orderlytx/Propagation$Mode;" (.ref w_SAVEPOINT)) (hc1 : p2 = (0 : Int32)) (hc54 : ¬ (p1 = (0 : Int32))) (hc59 : ¬ (p1 = (1 : Int32))) (hc65 : p1 = (6 : Int32)) :
    MetFree l (⟨"com/example/orderly_tx/orderlytx/PropagationModePinLaw", "expected", "(IZ)Lcom/example/orderly_tx/orderlytx/Propagation$Mode;"⟩ : MethodName) (head1 (Jvm.Cond.code (⟨"com/example/orderly_tx/orderlytx/PropagationModePinLaw", "expected", "(IZ)Lcom/example/orderly_tx/orderlytx/Propagation$Mode;"⟩ : MethodName) method_4_code 2 (some (.object "com/example/orderly_tx/orderlytx/Propagation$Mode")) :: ws) ({ frames := 0, cells := 0, slots := 0, locals := 0 } : Room)) (fun a U => a = #[(.int p1), (.int p2)] ∧ Z.Warmed39 U.vm ∧ U.heap = h0) (fun _ _ _ _ _ => True) (fun _ U o U' => ∃ v L, o = .returned v ∧ Q2 Z p1 p2 w_NEW_UNIT w_NO_TRANSACTION w_REFUSED w_JOIN w_SAVEPOINT h0 n0 v U'.heap L ∧ FrameEnd U o U' L ({ frames := 0, cells := 0, slots := 0, locals := 0 } : Room).cells ({ frames := 0, cells := 0, slots := 0, locals := 0 } : Room).slots) := by
  refine MetFree.of_bodySF (plainFor_of_name pn_2) hisR ?_
  intro p e s m args below meth c s₁ Bd hml0 hP hK
  obtain ⟨rfl, hZ, hh⟩ := hP
  have hx := Bd.exec
  have hby := Bd.bytes
  have hml : c.maxLocals = 2 := hml0
  have hown : s.vm.findClass "com/example/orderly_tx/orderlytx/PropagationModePinLaw" = some m.cls := findClass_of_methodNamed Bd.named
  have hnm := (name_of_methodNamed Bd.named Bd.method).1
  have X0 : Stand p l e ({ frames := 0, cells := 0, slots := 0, locals := 0 } : Room) s m #[(.int p1), (.int p2)] below meth c s₁ [] 0 0 := Stand.of_body Bd
  have e0 : s₁.heap = h0 := by rw [← hh, Bd.state]; rfl
  have N0 := Fr.nil n0
  have pre0 : ∀ t, Steps p.tables e below (s₁.setTop (mkF m 0 #[.val (.int p1), .val (.int p2)] [])) t → Steps p.tables e below (s₁.setTop (entryFrame m #[(.int p1), (.int p2)] 2)) t := fun t k => castTop (ef_2 m p1 p2) k
  -- 3. LAWS
  obtain ⟨T4, X4, e4, st4⟩ := getS2 X0 hx hZ hown (host := "") (Or.inl (hw _ (List.mem_of_getElem? (i := 25) rfl))) Via.refl e0 S_NEW_UNIT (g := (mkF m 68 #[.val (.int p1), .val (.int p2)] [])) rfl (hb hby d2_68)
  obtain ⟨fs, hr, hrun, hended, hW, hsame⟩ := X4.leave (v := some (.ref w_NEW_UNIT)) (fun h => by rw [Bd.returns] at h; cases h) (BodyLoose.notSynchronized Bd)
  refine ⟨_, _, pre0 _ ?_, hrun, hended, _, _, rfl, ?_, ⟨_, rfl⟩, hW, hsame.mono (by decide) (by decide)⟩
  -- 4. STEPS
  · show Steps p.tables e below (s₁.setTop (mkF m 0 #[.val (.int p1), .val (.int p2)] [])) _
    refine XS.iloadN X0.here hx rfl (hb hby d2_0) rfl ?_
    show Steps p.tables e below (s₁.setTop (mkF m 1 #[.val (.int p1), .val (.int p2)] [(.int p2)])) _
    refine XS.ifYes X0.here hx rfl (pc0 := 1) (pc' := 53) rfl (hb hby d2_1) rfl ((if0 _ _).trans (teq hc1).1) (by decide) (by decide) ?_
    show Steps p.tables e below (s₁.setTop (mkF m 53 #[.val (.int p1), .val (.int p2)] [])) _
    refine XS.iloadN X0.here hx rfl (hb hby d2_53) rfl ?_
    show Steps p.tables e below (s₁.setTop (mkF m 54 #[.val (.int p1), .val (.int p2)] [(.int p1)])) _
    refine XS.ifNo X0.here hx rfl (hb hby d2_54) rfl ((if0 _ _).trans (feq hc54).1) ?_
    show Steps p.tables e below (s₁.setTop (mkF m 57 #[.val (.int p1), .val (.int p2)] [])) _
    refine XS.iloadN X0.here hx rfl (hb hby d2_57) rfl ?_
    show Steps p.tables e below (s₁.setTop (mkF m 58 #[.val (.int p1), .val (.int p2)] [(.int p1)])) _
    refine XS.iconst X0.here hx rfl (hb hby d2_58) ?_
    show Steps p.tables e below (s₁.setTop (mkF m 59 #[.val (.int p1), .val (.int p2)] [(.int (1 : Int32)), (.int p1)])) _
    refine XS.icmpNo X0.here hx rfl (hb hby d2_59) rfl (feq hc59).1 ?_
    show Steps p.tables e below (s₁.setTop (mkF m 62 #[.val (.int p1), .val (.int p2)] [])) _
    refine XS.iloadN X0.here hx rfl (hb hby d2_62) rfl ?_
    show Steps p.tables e below (s₁.setTop (mkF m 63 #[.val (.int p1), .val (.int p2)] [(.int p1)])) _
    refine XS.bipush X0.here hx rfl (hb hby d2_63) ?_
    show Steps p.tables e below (s₁.setTop (mkF m 65 #[.val (.int p1), .val (.int p2)] [(.int (6 : Int32)), (.int p1)])) _
    refine XS.icmpNo X0.here hx rfl (hb hby d2_65) rfl (teq hc65).2 ?_
    show Steps p.tables e below (s₁.setTop (mkF m 68 #[.val (.int p1), .val (.int p2)] [])) _
    refine st4 _ ?_
    show Steps p.tables e below (T4.setTop (mkF m 71 #[.val (.int p1), .val (.int p2)] [(.ref w_NEW_UNIT)])) _
    jvm_step X4.here [X4.here.top, hx, (hb hby d2_71), X4.method', Bd.returns, Value.isRef, FieldType.isReference]
    first | (intro acts; rw [hr _ acts rfl rfl rfl]) | rw [hr _ _ rfl rfl rfl]
    exact Steps.refl _
  · show Q2 Z p1 p2 w_NEW_UNIT w_NO_TRANSACTION w_REFUSED w_JOIN w_SAVEPOINT h0 n0 _ T4.heap _
    rw [e4]
    exact ⟨(by unfold own_f2; rw [if_pos hc1, if_neg hc54, if_neg hc59, if_pos hc65]), N0, rfl⟩
set_option maxRecDepth 65536 in
set_option maxHeartbeats 40000000 in
theorem rm2_ft (l : Launch) (Z : State) (a0 : Array Value) (hw : ∀ d ∈ tables_1, d.before a0 Z = true) (ws : List Jvm.Cond) (p1 : Int32) (p2 : Int32) (w_NEW_UNIT : Addr) (w_NO_TRANSACTION : Addr) (w_REFUSED : Addr) (w_JOIN : Addr) (w_SAVEPOINT : Addr) (h0 : Heap) (n0 : Nat) (Z0 : n0 ≤ h0.size) (S_NEW_UNIT : Sta Z h0 "com/example/orderly_tx/orderlytx/Propagation$Mode" "NEW_UNIT" "Lcom/example/orderly_tx/orderlytx/Propagation$Mode;" (.ref w_NEW_UNIT)) (S_NO_TRANSACTION : Sta Z h0 "com/example/orderly_tx/orderlytx/Propagation$Mode" "NO_TRANSACTION" "Lcom/example/orderly_tx/orderlytx/Propagation$Mode;" (.ref w_NO_TRANSACTION)) (S_REFUSED : Sta Z h0 "com/example/orderly_tx/orderlytx/Propagation$Mode" "REFUSED" "Lcom/example/orderly_tx/orderlytx/Propagation$Mode;" (.ref w_REFUSED)) (S_JOIN : Sta Z h0 "com/example/orderly_tx/orderlytx/Propagation$Mode" "JOIN" "Lcom/example/orderly_tx/orderlytx/Propagation$Mode;" (.ref w_JOIN)) (S_SAVEPOINT : Sta Z h0 "com/example/orderly_tx/orderlytx/Propagation$Mode" "SAVEPOINT" "Lcom/example/orderly_tx/orderlytx/Propagation$Mode;" (.ref w_SAVEPOINT)) (hc1 : ¬ (p2 = (0 : Int32))) (hc5 : p1 = (0 : Int32)) :
    MetFree l (⟨"com/example/orderly_tx/orderlytx/PropagationModePinLaw", "expected", "(IZ)Lcom/example/orderly_tx/orderlytx/Propagation$Mode;"⟩ : MethodName) (head1 (Jvm.Cond.code (⟨"com/example/orderly_tx/orderlytx/PropagationModePinLaw", "expected", "(IZ)Lcom/example/orderly_tx/orderlytx/Propagation$Mode;"⟩ : MethodName) method_4_code 2 (some (.object "com/example/orderly_tx/orderlytx/Propagation$Mode")) :: ws) ({ frames := 0, cells := 0, slots := 0, locals := 0 } : Room)) (fun a U => a = #[(.int p1), (.int p2)] ∧ Z.Warmed39 U.vm ∧ U.heap = h0) (fun _ _ _ _ _ => True) (fun _ U o U' => ∃ v L, o = .returned v ∧ Q2 Z p1 p2 w_NEW_UNIT w_NO_TRANSACTION w_REFUSED w_JOIN w_SAVEPOINT h0 n0 v U'.heap L ∧ FrameEnd U o U' L ({ frames := 0, cells := 0, slots := 0, locals := 0 } : Room).cells ({ frames := 0, cells := 0, slots := 0, locals := 0 } : Room).slots) := by
  refine MetFree.of_bodySF (plainFor_of_name pn_2) hisR ?_
  intro p e s m args below meth c s₁ Bd hml0 hP hK
  obtain ⟨rfl, hZ, hh⟩ := hP
  have hx := Bd.exec
  have hby := Bd.bytes
  have hml : c.maxLocals = 2 := hml0
  have hown : s.vm.findClass "com/example/orderly_tx/orderlytx/PropagationModePinLaw" = some m.cls := findClass_of_methodNamed Bd.named
  have hnm := (name_of_methodNamed Bd.named Bd.method).1
  have X0 : Stand p l e ({ frames := 0, cells := 0, slots := 0, locals := 0 } : Room) s m #[(.int p1), (.int p2)] below meth c s₁ [] 0 0 := Stand.of_body Bd
  have e0 : s₁.heap = h0 := by rw [← hh, Bd.state]; rfl
  have N0 := Fr.nil n0
  have pre0 : ∀ t, Steps p.tables e below (s₁.setTop (mkF m 0 #[.val (.int p1), .val (.int p2)] [])) t → Steps p.tables e below (s₁.setTop (entryFrame m #[(.int p1), (.int p2)] 2)) t := fun t k => castTop (ef_2 m p1 p2) k
  -- 3. LAWS
  obtain ⟨T4, X4, e4, st4⟩ := getS2 X0 hx hZ hown (host := "") (Or.inl (hw _ (List.mem_of_getElem? (i := 11) rfl))) Via.refl e0 S_JOIN (g := (mkF m 18 #[.val (.int p1), .val (.int p2)] [])) rfl (hb hby d2_18)
  obtain ⟨fs, hr, hrun, hended, hW, hsame⟩ := X4.leave (v := some (.ref w_JOIN)) (fun h => by rw [Bd.returns] at h; cases h) (BodyLoose.notSynchronized Bd)
  refine ⟨_, _, pre0 _ ?_, hrun, hended, _, _, rfl, ?_, ⟨_, rfl⟩, hW, hsame.mono (by decide) (by decide)⟩
  -- 4. STEPS
  · show Steps p.tables e below (s₁.setTop (mkF m 0 #[.val (.int p1), .val (.int p2)] [])) _
    refine XS.iloadN X0.here hx rfl (hb hby d2_0) rfl ?_
    show Steps p.tables e below (s₁.setTop (mkF m 1 #[.val (.int p1), .val (.int p2)] [(.int p2)])) _
    refine XS.ifNo X0.here hx rfl (hb hby d2_1) rfl ((if0 _ _).trans (feq hc1).1) ?_
    show Steps p.tables e below (s₁.setTop (mkF m 4 #[.val (.int p1), .val (.int p2)] [])) _
    refine XS.iloadN X0.here hx rfl (hb hby d2_4) rfl ?_
    show Steps p.tables e below (s₁.setTop (mkF m 5 #[.val (.int p1), .val (.int p2)] [(.int p1)])) _
    refine XS.ifYes X0.here hx rfl (pc0 := 5) (pc' := 18) rfl (hb hby d2_5) rfl ((if0 _ _).trans (teq hc5).1) (by decide) (by decide) ?_
    show Steps p.tables e below (s₁.setTop (mkF m 18 #[.val (.int p1), .val (.int p2)] [])) _
    refine st4 _ ?_
    show Steps p.tables e below (T4.setTop (mkF m 21 #[.val (.int p1), .val (.int p2)] [(.ref w_JOIN)])) _
    jvm_step X4.here [X4.here.top, hx, (hb hby d2_21), X4.method', Bd.returns, Value.isRef, FieldType.isReference]
    first | (intro acts; rw [hr _ acts rfl rfl rfl]) | rw [hr _ _ rfl rfl rfl]
    exact Steps.refl _
  · show Q2 Z p1 p2 w_NEW_UNIT w_NO_TRANSACTION w_REFUSED w_JOIN w_SAVEPOINT h0 n0 _ T4.heap _
    rw [e4]
    exact ⟨(by unfold own_f2; rw [if_neg hc1, if_pos hc5]), N0, rfl⟩
set_option maxRecDepth 65536 in
set_option maxHeartbeats 40000000 in
theorem rm2_fft (l : Launch) (Z : State) (a0 : Array Value) (hw : ∀ d ∈ tables_1, d.before a0 Z = true) (ws : List Jvm.Cond) (p1 : Int32) (p2 : Int32) (w_NEW_UNIT : Addr) (w_NO_TRANSACTION : Addr) (w_REFUSED : Addr) (w_JOIN : Addr) (w_SAVEPOINT : Addr) (h0 : Heap) (n0 : Nat) (Z0 : n0 ≤ h0.size) (S_NEW_UNIT : Sta Z h0 "com/example/orderly_tx/orderlytx/Propagation$Mode" "NEW_UNIT" "Lcom/example/orderly_tx/orderlytx/Propagation$Mode;" (.ref w_NEW_UNIT)) (S_NO_TRANSACTION : Sta Z h0 "com/example/orderly_tx/orderlytx/Propagation$Mode" "NO_TRANSACTION" "Lcom/example/orderly_tx/orderlytx/Propagation$Mode;" (.ref w_NO_TRANSACTION)) (S_REFUSED : Sta Z h0 "com/example/orderly_tx/orderlytx/Propagation$Mode" "REFUSED" "Lcom/example/orderly_tx/orderlytx/Propagation$Mode;" (.ref w_REFUSED)) (S_JOIN : Sta Z h0 "com/example/orderly_tx/orderlytx/Propagation$Mode" "JOIN" "Lcom/example/orderly_tx/orderlytx/Propagation$Mode;" (.ref w_JOIN)) (S_SAVEPOINT : Sta Z h0 "com/example/orderly_tx/orderlytx/Propagation$Mode" "SAVEPOINT" "Lcom/example/orderly_tx/orderlytx/Propagation$Mode;" (.ref w_SAVEPOINT)) (hc1 : ¬ (p2 = (0 : Int32))) (hc5 : ¬ (p1 = (0 : Int32))) (hc10 : p1 = (2 : Int32)) :
    MetFree l (⟨"com/example/orderly_tx/orderlytx/PropagationModePinLaw", "expected", "(IZ)Lcom/example/orderly_tx/orderlytx/Propagation$Mode;"⟩ : MethodName) (head1 (Jvm.Cond.code (⟨"com/example/orderly_tx/orderlytx/PropagationModePinLaw", "expected", "(IZ)Lcom/example/orderly_tx/orderlytx/Propagation$Mode;"⟩ : MethodName) method_4_code 2 (some (.object "com/example/orderly_tx/orderlytx/Propagation$Mode")) :: ws) ({ frames := 0, cells := 0, slots := 0, locals := 0 } : Room)) (fun a U => a = #[(.int p1), (.int p2)] ∧ Z.Warmed39 U.vm ∧ U.heap = h0) (fun _ _ _ _ _ => True) (fun _ U o U' => ∃ v L, o = .returned v ∧ Q2 Z p1 p2 w_NEW_UNIT w_NO_TRANSACTION w_REFUSED w_JOIN w_SAVEPOINT h0 n0 v U'.heap L ∧ FrameEnd U o U' L ({ frames := 0, cells := 0, slots := 0, locals := 0 } : Room).cells ({ frames := 0, cells := 0, slots := 0, locals := 0 } : Room).slots) := by
  refine MetFree.of_bodySF (plainFor_of_name pn_2) hisR ?_
  intro p e s m args below meth c s₁ Bd hml0 hP hK
  obtain ⟨rfl, hZ, hh⟩ := hP
  have hx := Bd.exec
  have hby := Bd.bytes
  have hml : c.maxLocals = 2 := hml0
  have hown : s.vm.findClass "com/example/orderly_tx/orderlytx/PropagationModePinLaw" = some m.cls := findClass_of_methodNamed Bd.named
  have hnm := (name_of_methodNamed Bd.named Bd.method).1
  have X0 : Stand p l e ({ frames := 0, cells := 0, slots := 0, locals := 0 } : Room) s m #[(.int p1), (.int p2)] below meth c s₁ [] 0 0 := Stand.of_body Bd
  have e0 : s₁.heap = h0 := by rw [← hh, Bd.state]; rfl
  have N0 := Fr.nil n0
  have pre0 : ∀ t, Steps p.tables e below (s₁.setTop (mkF m 0 #[.val (.int p1), .val (.int p2)] [])) t → Steps p.tables e below (s₁.setTop (entryFrame m #[(.int p1), (.int p2)] 2)) t := fun t k => castTop (ef_2 m p1 p2) k
  -- 3. LAWS
  obtain ⟨T4, X4, e4, st4⟩ := getS2 X0 hx hZ hown (host := "") (Or.inl (hw _ (List.mem_of_getElem? (i := 11) rfl))) Via.refl e0 S_JOIN (g := (mkF m 18 #[.val (.int p1), .val (.int p2)] [])) rfl (hb hby d2_18)
  obtain ⟨fs, hr, hrun, hended, hW, hsame⟩ := X4.leave (v := some (.ref w_JOIN)) (fun h => by rw [Bd.returns] at h; cases h) (BodyLoose.notSynchronized Bd)
  refine ⟨_, _, pre0 _ ?_, hrun, hended, _, _, rfl, ?_, ⟨_, rfl⟩, hW, hsame.mono (by decide) (by decide)⟩
  -- 4. STEPS
  · show Steps p.tables e below (s₁.setTop (mkF m 0 #[.val (.int p1), .val (.int p2)] [])) _
    refine XS.iloadN X0.here hx rfl (hb hby d2_0) rfl ?_
    show Steps p.tables e below (s₁.setTop (mkF m 1 #[.val (.int p1), .val (.int p2)] [(.int p2)])) _
    refine XS.ifNo X0.here hx rfl (hb hby d2_1) rfl ((if0 _ _).trans (feq hc1).1) ?_
    show Steps p.tables e below (s₁.setTop (mkF m 4 #[.val (.int p1), .val (.int p2)] [])) _
    refine XS.iloadN X0.here hx rfl (hb hby d2_4) rfl ?_
    show Steps p.tables e below (s₁.setTop (mkF m 5 #[.val (.int p1), .val (.int p2)] [(.int p1)])) _
    refine XS.ifNo X0.here hx rfl (hb hby d2_5) rfl ((if0 _ _).trans (feq hc5).1) ?_
    show Steps p.tables e below (s₁.setTop (mkF m 8 #[.val (.int p1), .val (.int p2)] [])) _
    refine XS.iloadN X0.here hx rfl (hb hby d2_8) rfl ?_
    show Steps p.tables e below (s₁.setTop (mkF m 9 #[.val (.int p1), .val (.int p2)] [(.int p1)])) _
    refine XS.iconst X0.here hx rfl (hb hby d2_9) ?_
    show Steps p.tables e below (s₁.setTop (mkF m 10 #[.val (.int p1), .val (.int p2)] [(.int (2 : Int32)), (.int p1)])) _
    refine XS.icmpYes X0.here hx rfl (pc0 := 10) (pc' := 18) rfl (hb hby d2_10) rfl (teq hc10).1 (by decide) (by decide) ?_
    show Steps p.tables e below (s₁.setTop (mkF m 18 #[.val (.int p1), .val (.int p2)] [])) _
    refine st4 _ ?_
    show Steps p.tables e below (T4.setTop (mkF m 21 #[.val (.int p1), .val (.int p2)] [(.ref w_JOIN)])) _
    jvm_step X4.here [X4.here.top, hx, (hb hby d2_21), X4.method', Bd.returns, Value.isRef, FieldType.isReference]
    first | (intro acts; rw [hr _ acts rfl rfl rfl]) | rw [hr _ _ rfl rfl rfl]
    exact Steps.refl _
  · show Q2 Z p1 p2 w_NEW_UNIT w_NO_TRANSACTION w_REFUSED w_JOIN w_SAVEPOINT h0 n0 _ T4.heap _
    rw [e4]
    exact ⟨(by unfold own_f2; rw [if_neg hc1, if_neg hc5, if_pos hc10]), N0, rfl⟩
set_option maxRecDepth 65536 in
set_option maxHeartbeats 40000000 in
theorem rm2_ffftttt (l : Launch) (Z : State) (a0 : Array Value) (hw : ∀ d ∈ tables_1, d.before a0 Z = true) (ws : List Jvm.Cond) (p1 : Int32) (p2 : Int32) (w_NEW_UNIT : Addr) (w_NO_TRANSACTION : Addr) (w_REFUSED : Addr) (w_JOIN : Addr) (w_SAVEPOINT : Addr) (h0 : Heap) (n0 : Nat) (Z0 : n0 ≤ h0.size) (S_NEW_UNIT : Sta Z h0 "com/example/orderly_tx/orderlytx/Propagation$Mode" "NEW_UNIT" "Lcom/example/orderly_tx/orderlytx/Propagation$Mode;" (.ref w_NEW_UNIT)) (S_NO_TRANSACTION : Sta Z h0 "com/example/orderly_tx/orderlytx/Propagation$Mode" "NO_TRANSACTION" "Lcom/example/orderly_tx/orderlytx/Propagation$Mode;" (.ref w_NO_TRANSACTION)) (S_REFUSED : Sta Z h0 "com/example/orderly_tx/orderlytx/Propagation$Mode" "REFUSED" "Lcom/example/orderly_tx/orderlytx/Propagation$Mode;" (.ref w_REFUSED)) (S_JOIN : Sta Z h0 "com/example/orderly_tx/orderlytx/Propagation$Mode" "JOIN" "Lcom/example/orderly_tx/orderlytx/Propagation$Mode;" (.ref w_JOIN)) (S_SAVEPOINT : Sta Z h0 "com/example/orderly_tx/orderlytx/Propagation$Mode" "SAVEPOINT" "Lcom/example/orderly_tx/orderlytx/Propagation$Mode;" (.ref w_SAVEPOINT)) (hc1 : ¬ (p2 = (0 : Int32))) (hc5 : ¬ (p1 = (0 : Int32))) (hc10 : ¬ (p1 = (2 : Int32))) (hc15 : ¬ (p1 = (3 : Int32))) (hc24 : ¬ (p1 = (1 : Int32))) (hc33 : ¬ (p1 = (4 : Int32))) (hc42 : ¬ (p1 = (5 : Int32))) :
    MetFree l (⟨"com/example/orderly_tx/orderlytx/PropagationModePinLaw", "expected", "(IZ)Lcom/example/orderly_tx/orderlytx/Propagation$Mode;"⟩ : MethodName) (head1 (Jvm.Cond.code (⟨"com/example/orderly_tx/orderlytx/PropagationModePinLaw", "expected", "(IZ)Lcom/example/orderly_tx/orderlytx/Propagation$Mode;"⟩ : MethodName) method_4_code 2 (some (.object "com/example/orderly_tx/orderlytx/Propagation$Mode")) :: ws) ({ frames := 0, cells := 0, slots := 0, locals := 0 } : Room)) (fun a U => a = #[(.int p1), (.int p2)] ∧ Z.Warmed39 U.vm ∧ U.heap = h0) (fun _ _ _ _ _ => True) (fun _ U o U' => ∃ v L, o = .returned v ∧ Q2 Z p1 p2 w_NEW_UNIT w_NO_TRANSACTION w_REFUSED w_JOIN w_SAVEPOINT h0 n0 v U'.heap L ∧ FrameEnd U o U' L ({ frames := 0, cells := 0, slots := 0, locals := 0 } : Room).cells ({ frames := 0, cells := 0, slots := 0, locals := 0 } : Room).slots) := by
  refine MetFree.of_bodySF (plainFor_of_name pn_2) hisR ?_
  intro p e s m args below meth c s₁ Bd hml0 hP hK
  obtain ⟨rfl, hZ, hh⟩ := hP
  have hx := Bd.exec
  have hby := Bd.bytes
  have hml : c.maxLocals = 2 := hml0
  have hown : s.vm.findClass "com/example/orderly_tx/orderlytx/PropagationModePinLaw" = some m.cls := findClass_of_methodNamed Bd.named
  have hnm := (name_of_methodNamed Bd.named Bd.method).1
  have X0 : Stand p l e ({ frames := 0, cells := 0, slots := 0, locals := 0 } : Room) s m #[(.int p1), (.int p2)] below meth c s₁ [] 0 0 := Stand.of_body Bd
  have e0 : s₁.heap = h0 := by rw [← hh, Bd.state]; rfl
  have N0 := Fr.nil n0
  have pre0 : ∀ t, Steps p.tables e below (s₁.setTop (mkF m 0 #[.val (.int p1), .val (.int p2)] [])) t → Steps p.tables e below (s₁.setTop (entryFrame m #[(.int p1), (.int p2)] 2)) t := fun t k => castTop (ef_2 m p1 p2) k
  -- 3. LAWS
  obtain ⟨T4, X4, e4, st4⟩ := getS2 X0 hx hZ hown (host := "") (Or.inl (hw _ (List.mem_of_getElem? (i := 41) rfl))) Via.refl e0 S_SAVEPOINT (g := (mkF m 49 #[.val (.int p1), .val (.int p2)] [])) rfl (hb hby d2_49)
  obtain ⟨fs, hr, hrun, hended, hW, hsame⟩ := X4.leave (v := some (.ref w_SAVEPOINT)) (fun h => by rw [Bd.returns] at h; cases h) (BodyLoose.notSynchronized Bd)
  refine ⟨_, _, pre0 _ ?_, hrun, hended, _, _, rfl, ?_, ⟨_, rfl⟩, hW, hsame.mono (by decide) (by decide)⟩
  -- 4. STEPS
  · show Steps p.tables e below (s₁.setTop (mkF m 0 #[.val (.int p1), .val (.int p2)] [])) _
    refine XS.iloadN X0.here hx rfl (hb hby d2_0) rfl ?_
    show Steps p.tables e below (s₁.setTop (mkF m 1 #[.val (.int p1), .val (.int p2)] [(.int p2)])) _
    refine XS.ifNo X0.here hx rfl (hb hby d2_1) rfl ((if0 _ _).trans (feq hc1).1) ?_
    show Steps p.tables e below (s₁.setTop (mkF m 4 #[.val (.int p1), .val (.int p2)] [])) _
    refine XS.iloadN X0.here hx rfl (hb hby d2_4) rfl ?_
    show Steps p.tables e below (s₁.setTop (mkF m 5 #[.val (.int p1), .val (.int p2)] [(.int p1)])) _
    refine XS.ifNo X0.here hx rfl (hb hby d2_5) rfl ((if0 _ _).trans (feq hc5).1) ?_
    show Steps p.tables e below (s₁.setTop (mkF m 8 #[.val (.int p1), .val (.int p2)] [])) _
    refine XS.iloadN X0.here hx rfl (hb hby d2_8) rfl ?_
    show Steps p.tables e below (s₁.setTop (mkF m 9 #[.val (.int p1), .val (.int p2)] [(.int p1)])) _
    refine XS.iconst X0.here hx rfl (hb hby d2_9) ?_
    show Steps p.tables e below (s₁.setTop (mkF m 10 #[.val (.int p1), .val (.int p2)] [(.int (2 : Int32)), (.int p1)])) _
    refine XS.icmpNo X0.here hx rfl (hb hby d2_10) rfl (feq hc10).1 ?_
    show Steps p.tables e below (s₁.setTop (mkF m 13 #[.val (.int p1), .val (.int p2)] [])) _
    refine XS.iloadN X0.here hx rfl (hb hby d2_13) rfl ?_
    show Steps p.tables e below (s₁.setTop (mkF m 14 #[.val (.int p1), .val (.int p2)] [(.int p1)])) _
    refine XS.iconst X0.here hx rfl (hb hby d2_14) ?_
    show Steps p.tables e below (s₁.setTop (mkF m 15 #[.val (.int p1), .val (.int p2)] [(.int (3 : Int32)), (.int p1)])) _
    refine XS.icmpYes X0.here hx rfl (pc0 := 15) (pc' := 22) rfl (hb hby d2_15) rfl (feq hc15).2 (by decide) (by decide) ?_
    show Steps p.tables e below (s₁.setTop (mkF m 22 #[.val (.int p1), .val (.int p2)] [])) _
    refine XS.iloadN X0.here hx rfl (hb hby d2_22) rfl ?_
    show Steps p.tables e below (s₁.setTop (mkF m 23 #[.val (.int p1), .val (.int p2)] [(.int p1)])) _
    refine XS.iconst X0.here hx rfl (hb hby d2_23) ?_
    show Steps p.tables e below (s₁.setTop (mkF m 24 #[.val (.int p1), .val (.int p2)] [(.int (1 : Int32)), (.int p1)])) _
    refine XS.icmpYes X0.here hx rfl (pc0 := 24) (pc' := 31) rfl (hb hby d2_24) rfl (feq hc24).2 (by decide) (by decide) ?_
    show Steps p.tables e below (s₁.setTop (mkF m 31 #[.val (.int p1), .val (.int p2)] [])) _
    refine XS.iloadN X0.here hx rfl (hb hby d2_31) rfl ?_
    show Steps p.tables e below (s₁.setTop (mkF m 32 #[.val (.int p1), .val (.int p2)] [(.int p1)])) _
    refine XS.iconst X0.here hx rfl (hb hby d2_32) ?_
    show Steps p.tables e below (s₁.setTop (mkF m 33 #[.val (.int p1), .val (.int p2)] [(.int (4 : Int32)), (.int p1)])) _
    refine XS.icmpYes X0.here hx rfl (pc0 := 33) (pc' := 40) rfl (hb hby d2_33) rfl (feq hc33).2 (by decide) (by decide) ?_
    show Steps p.tables e below (s₁.setTop (mkF m 40 #[.val (.int p1), .val (.int p2)] [])) _
    refine XS.iloadN X0.here hx rfl (hb hby d2_40) rfl ?_
    show Steps p.tables e below (s₁.setTop (mkF m 41 #[.val (.int p1), .val (.int p2)] [(.int p1)])) _
    refine XS.iconst X0.here hx rfl (hb hby d2_41) ?_
    show Steps p.tables e below (s₁.setTop (mkF m 42 #[.val (.int p1), .val (.int p2)] [(.int (5 : Int32)), (.int p1)])) _
    refine XS.icmpYes X0.here hx rfl (pc0 := 42) (pc' := 49) rfl (hb hby d2_42) rfl (feq hc42).2 (by decide) (by decide) ?_
    show Steps p.tables e below (s₁.setTop (mkF m 49 #[.val (.int p1), .val (.int p2)] [])) _
    refine st4 _ ?_
    show Steps p.tables e below (T4.setTop (mkF m 52 #[.val (.int p1), .val (.int p2)] [(.ref w_SAVEPOINT)])) _
    jvm_step X4.here [X4.here.top, hx, (hb hby d2_52), X4.method', Bd.returns, Value.isRef, FieldType.isReference]
    first | (intro acts; rw [hr _ acts rfl rfl rfl]) | rw [hr _ _ rfl rfl rfl]
    exact Steps.refl _
  · show Q2 Z p1 p2 w_NEW_UNIT w_NO_TRANSACTION w_REFUSED w_JOIN w_SAVEPOINT h0 n0 _ T4.heap _
    rw [e4]
    exact ⟨(by unfold own_f2; rw [if_neg hc1, if_neg hc5, if_neg hc10, if_neg hc15, if_neg hc24, if_neg hc33, if_neg hc42]), N0, rfl⟩
set_option maxRecDepth 65536 in
set_option maxHeartbeats 40000000 in
theorem rm2_ffftttf (l : Launch) (Z : State) (a0 : Array Value) (hw : ∀ d ∈ tables_1, d.before a0 Z = true) (ws : List Jvm.Cond) (p1 : Int32) (p2 : Int32) (w_NEW_UNIT : Addr) (w_NO_TRANSACTION : Addr) (w_REFUSED : Addr) (w_JOIN : Addr) (w_SAVEPOINT : Addr) (h0 : Heap) (n0 : Nat) (Z0 : n0 ≤ h0.size) (S_NEW_UNIT : Sta Z h0 "com/example/orderly_tx/orderlytx/Propagation$Mode" "NEW_UNIT" "Lcom/example/orderly_tx/orderlytx/Propagation$Mode;" (.ref w_NEW_UNIT)) (S_NO_TRANSACTION : Sta Z h0 "com/example/orderly_tx/orderlytx/Propagation$Mode" "NO_TRANSACTION" "Lcom/example/orderly_tx/orderlytx/Propagation$Mode;" (.ref w_NO_TRANSACTION)) (S_REFUSED : Sta Z h0 "com/example/orderly_tx/orderlytx/Propagation$Mode" "REFUSED" "Lcom/example/orderly_tx/orderlytx/Propagation$Mode;" (.ref w_REFUSED)) (S_JOIN : Sta Z h0 "com/example/orderly_tx/orderlytx/Propagation$Mode" "JOIN" "Lcom/example/orderly_tx/orderlytx/Propagation$Mode;" (.ref w_JOIN)) (S_SAVEPOINT : Sta Z h0 "com/example/orderly_tx/orderlytx/Propagation$Mode" "SAVEPOINT" "Lcom/example/orderly_tx/orderlytx/Propagation$Mode;" (.ref w_SAVEPOINT)) (hc1 : ¬ (p2 = (0 : Int32))) (hc5 : ¬ (p1 = (0 : Int32))) (hc10 : ¬ (p1 = (2 : Int32))) (hc15 : ¬ (p1 = (3 : Int32))) (hc24 : ¬ (p1 = (1 : Int32))) (hc33 : ¬ (p1 = (4 : Int32))) (hc42 : p1 = (5 : Int32)) :
    MetFree l (⟨"com/example/orderly_tx/orderlytx/PropagationModePinLaw", "expected", "(IZ)Lcom/example/orderly_tx/orderlytx/Propagation$Mode;"⟩ : MethodName) (head1 (Jvm.Cond.code (⟨"com/example/orderly_tx/orderlytx/PropagationModePinLaw", "expected", "(IZ)Lcom/example/orderly_tx/orderlytx/Propagation$Mode;"⟩ : MethodName) method_4_code 2 (some (.object "com/example/orderly_tx/orderlytx/Propagation$Mode")) :: ws) ({ frames := 0, cells := 0, slots := 0, locals := 0 } : Room)) (fun a U => a = #[(.int p1), (.int p2)] ∧ Z.Warmed39 U.vm ∧ U.heap = h0) (fun _ _ _ _ _ => True) (fun _ U o U' => ∃ v L, o = .returned v ∧ Q2 Z p1 p2 w_NEW_UNIT w_NO_TRANSACTION w_REFUSED w_JOIN w_SAVEPOINT h0 n0 v U'.heap L ∧ FrameEnd U o U' L ({ frames := 0, cells := 0, slots := 0, locals := 0 } : Room).cells ({ frames := 0, cells := 0, slots := 0, locals := 0 } : Room).slots) := by
  refine MetFree.of_bodySF (plainFor_of_name pn_2) hisR ?_
  intro p e s m args below meth c s₁ Bd hml0 hP hK
  obtain ⟨rfl, hZ, hh⟩ := hP
  have hx := Bd.exec
  have hby := Bd.bytes
  have hml : c.maxLocals = 2 := hml0
  have hown : s.vm.findClass "com/example/orderly_tx/orderlytx/PropagationModePinLaw" = some m.cls := findClass_of_methodNamed Bd.named
  have hnm := (name_of_methodNamed Bd.named Bd.method).1
  have X0 : Stand p l e ({ frames := 0, cells := 0, slots := 0, locals := 0 } : Room) s m #[(.int p1), (.int p2)] below meth c s₁ [] 0 0 := Stand.of_body Bd
  have e0 : s₁.heap = h0 := by rw [← hh, Bd.state]; rfl
  have N0 := Fr.nil n0
  have pre0 : ∀ t, Steps p.tables e below (s₁.setTop (mkF m 0 #[.val (.int p1), .val (.int p2)] [])) t → Steps p.tables e below (s₁.setTop (entryFrame m #[(.int p1), (.int p2)] 2)) t := fun t k => castTop (ef_2 m p1 p2) k
  -- 3. LAWS
  obtain ⟨T4, X4, e4, st4⟩ := getS2 X0 hx hZ hown (host := "") (Or.inl (hw _ (List.mem_of_getElem? (i := 37) rfl))) Via.refl e0 S_REFUSED (g := (mkF m 45 #[.val (.int p1), .val (.int p2)] [])) rfl (hb hby d2_45)
  obtain ⟨fs, hr, hrun, hended, hW, hsame⟩ := X4.leave (v := some (.ref w_REFUSED)) (fun h => by rw [Bd.returns] at h; cases h) (BodyLoose.notSynchronized Bd)
  refine ⟨_, _, pre0 _ ?_, hrun, hended, _, _, rfl, ?_, ⟨_, rfl⟩, hW, hsame.mono (by decide) (by decide)⟩
  -- 4. STEPS
  · show Steps p.tables e below (s₁.setTop (mkF m 0 #[.val (.int p1), .val (.int p2)] [])) _
    refine XS.iloadN X0.here hx rfl (hb hby d2_0) rfl ?_
    show Steps p.tables e below (s₁.setTop (mkF m 1 #[.val (.int p1), .val (.int p2)] [(.int p2)])) _
    refine XS.ifNo X0.here hx rfl (hb hby d2_1) rfl ((if0 _ _).trans (feq hc1).1) ?_
    show Steps p.tables e below (s₁.setTop (mkF m 4 #[.val (.int p1), .val (.int p2)] [])) _
    refine XS.iloadN X0.here hx rfl (hb hby d2_4) rfl ?_
    show Steps p.tables e below (s₁.setTop (mkF m 5 #[.val (.int p1), .val (.int p2)] [(.int p1)])) _
    refine XS.ifNo X0.here hx rfl (hb hby d2_5) rfl ((if0 _ _).trans (feq hc5).1) ?_
    show Steps p.tables e below (s₁.setTop (mkF m 8 #[.val (.int p1), .val (.int p2)] [])) _
    refine XS.iloadN X0.here hx rfl (hb hby d2_8) rfl ?_
    show Steps p.tables e below (s₁.setTop (mkF m 9 #[.val (.int p1), .val (.int p2)] [(.int p1)])) _
    refine XS.iconst X0.here hx rfl (hb hby d2_9) ?_
    show Steps p.tables e below (s₁.setTop (mkF m 10 #[.val (.int p1), .val (.int p2)] [(.int (2 : Int32)), (.int p1)])) _
    refine XS.icmpNo X0.here hx rfl (hb hby d2_10) rfl (feq hc10).1 ?_
    show Steps p.tables e below (s₁.setTop (mkF m 13 #[.val (.int p1), .val (.int p2)] [])) _
    refine XS.iloadN X0.here hx rfl (hb hby d2_13) rfl ?_
    show Steps p.tables e below (s₁.setTop (mkF m 14 #[.val (.int p1), .val (.int p2)] [(.int p1)])) _
    refine XS.iconst X0.here hx rfl (hb hby d2_14) ?_
    show Steps p.tables e below (s₁.setTop (mkF m 15 #[.val (.int p1), .val (.int p2)] [(.int (3 : Int32)), (.int p1)])) _
    refine XS.icmpYes X0.here hx rfl (pc0 := 15) (pc' := 22) rfl (hb hby d2_15) rfl (feq hc15).2 (by decide) (by decide) ?_
    show Steps p.tables e below (s₁.setTop (mkF m 22 #[.val (.int p1), .val (.int p2)] [])) _
    refine XS.iloadN X0.here hx rfl (hb hby d2_22) rfl ?_
    show Steps p.tables e below (s₁.setTop (mkF m 23 #[.val (.int p1), .val (.int p2)] [(.int p1)])) _
    refine XS.iconst X0.here hx rfl (hb hby d2_23) ?_
    show Steps p.tables e below (s₁.setTop (mkF m 24 #[.val (.int p1), .val (.int p2)] [(.int (1 : Int32)), (.int p1)])) _
    refine XS.icmpYes X0.here hx rfl (pc0 := 24) (pc' := 31) rfl (hb hby d2_24) rfl (feq hc24).2 (by decide) (by decide) ?_
    show Steps p.tables e below (s₁.setTop (mkF m 31 #[.val (.int p1), .val (.int p2)] [])) _
    refine XS.iloadN X0.here hx rfl (hb hby d2_31) rfl ?_
    show Steps p.tables e below (s₁.setTop (mkF m 32 #[.val (.int p1), .val (.int p2)] [(.int p1)])) _
    refine XS.iconst X0.here hx rfl (hb hby d2_32) ?_
    show Steps p.tables e below (s₁.setTop (mkF m 33 #[.val (.int p1), .val (.int p2)] [(.int (4 : Int32)), (.int p1)])) _
    refine XS.icmpYes X0.here hx rfl (pc0 := 33) (pc' := 40) rfl (hb hby d2_33) rfl (feq hc33).2 (by decide) (by decide) ?_
    show Steps p.tables e below (s₁.setTop (mkF m 40 #[.val (.int p1), .val (.int p2)] [])) _
    refine XS.iloadN X0.here hx rfl (hb hby d2_40) rfl ?_
    show Steps p.tables e below (s₁.setTop (mkF m 41 #[.val (.int p1), .val (.int p2)] [(.int p1)])) _
    refine XS.iconst X0.here hx rfl (hb hby d2_41) ?_
    show Steps p.tables e below (s₁.setTop (mkF m 42 #[.val (.int p1), .val (.int p2)] [(.int (5 : Int32)), (.int p1)])) _
    refine XS.icmpNo X0.here hx rfl (hb hby d2_42) rfl (teq hc42).2 ?_
    show Steps p.tables e below (s₁.setTop (mkF m 45 #[.val (.int p1), .val (.int p2)] [])) _
    refine st4 _ ?_
    show Steps p.tables e below (T4.setTop (mkF m 48 #[.val (.int p1), .val (.int p2)] [(.ref w_REFUSED)])) _
    jvm_step X4.here [X4.here.top, hx, (hb hby d2_48), X4.method', Bd.returns, Value.isRef, FieldType.isReference]
    first | (intro acts; rw [hr _ acts rfl rfl rfl]) | rw [hr _ _ rfl rfl rfl]
    exact Steps.refl _
  · show Q2 Z p1 p2 w_NEW_UNIT w_NO_TRANSACTION w_REFUSED w_JOIN w_SAVEPOINT h0 n0 _ T4.heap _
    rw [e4]
    exact ⟨(by unfold own_f2; rw [if_neg hc1, if_neg hc5, if_neg hc10, if_neg hc15, if_neg hc24, if_neg hc33, if_pos hc42]), N0, rfl⟩
set_option maxRecDepth 65536 in
set_option maxHeartbeats 40000000 in
theorem rm2_fffttf (l : Launch) (Z : State) (a0 : Array Value) (hw : ∀ d ∈ tables_1, d.before a0 Z = true) (ws : List Jvm.Cond) (p1 : Int32) (p2 : Int32) (w_NEW_UNIT : Addr) (w_NO_TRANSACTION : Addr) (w_REFUSED : Addr) (w_JOIN : Addr) (w_SAVEPOINT : Addr) (h0 : Heap) (n0 : Nat) (Z0 : n0 ≤ h0.size) (S_NEW_UNIT : Sta Z h0 "com/example/orderly_tx/orderlytx/Propagation$Mode" "NEW_UNIT" "Lcom/example/orderly_tx/orderlytx/Propagation$Mode;" (.ref w_NEW_UNIT)) (S_NO_TRANSACTION : Sta Z h0 "com/example/orderly_tx/orderlytx/Propagation$Mode" "NO_TRANSACTION" "Lcom/example/orderly_tx/orderlytx/Propagation$Mode;" (.ref w_NO_TRANSACTION)) (S_REFUSED : Sta Z h0 "com/example/orderly_tx/orderlytx/Propagation$Mode" "REFUSED" "Lcom/example/orderly_tx/orderlytx/Propagation$Mode;" (.ref w_REFUSED)) (S_JOIN : Sta Z h0 "com/example/orderly_tx/orderlytx/Propagation$Mode" "JOIN" "Lcom/example/orderly_tx/orderlytx/Propagation$Mode;" (.ref w_JOIN)) (S_SAVEPOINT : Sta Z h0 "com/example/orderly_tx/orderlytx/Propagation$Mode" "SAVEPOINT" "Lcom/example/orderly_tx/orderlytx/Propagation$Mode;" (.ref w_SAVEPOINT)) (hc1 : ¬ (p2 = (0 : Int32))) (hc5 : ¬ (p1 = (0 : Int32))) (hc10 : ¬ (p1 = (2 : Int32))) (hc15 : ¬ (p1 = (3 : Int32))) (hc24 : ¬ (p1 = (1 : Int32))) (hc33 : p1 = (4 : Int32)) :
    MetFree l (⟨"com/example/orderly_tx/orderlytx/PropagationModePinLaw", "expected", "(IZ)Lcom/example/orderly_tx/orderlytx/Propagation$Mode;"⟩ : MethodName) (head1 (Jvm.Cond.code (⟨"com/example/orderly_tx/orderlytx/PropagationModePinLaw", "expected", "(IZ)Lcom/example/orderly_tx/orderlytx/Propagation$Mode;"⟩ : MethodName) method_4_code 2 (some (.object "com/example/orderly_tx/orderlytx/Propagation$Mode")) :: ws) ({ frames := 0, cells := 0, slots := 0, locals := 0 } : Room)) (fun a U => a = #[(.int p1), (.int p2)] ∧ Z.Warmed39 U.vm ∧ U.heap = h0) (fun _ _ _ _ _ => True) (fun _ U o U' => ∃ v L, o = .returned v ∧ Q2 Z p1 p2 w_NEW_UNIT w_NO_TRANSACTION w_REFUSED w_JOIN w_SAVEPOINT h0 n0 v U'.heap L ∧ FrameEnd U o U' L ({ frames := 0, cells := 0, slots := 0, locals := 0 } : Room).cells ({ frames := 0, cells := 0, slots := 0, locals := 0 } : Room).slots) := by
  refine MetFree.of_bodySF (plainFor_of_name pn_2) hisR ?_
  intro p e s m args below meth c s₁ Bd hml0 hP hK
  obtain ⟨rfl, hZ, hh⟩ := hP
  have hx := Bd.exec
  have hby := Bd.bytes
  have hml : c.maxLocals = 2 := hml0
  have hown : s.vm.findClass "com/example/orderly_tx/orderlytx/PropagationModePinLaw" = some m.cls := findClass_of_methodNamed Bd.named
  have hnm := (name_of_methodNamed Bd.named Bd.method).1
  have X0 : Stand p l e ({ frames := 0, cells := 0, slots := 0, locals := 0 } : Room) s m #[(.int p1), (.int p2)] below meth c s₁ [] 0 0 := Stand.of_body Bd
  have e0 : s₁.heap = h0 := by rw [← hh, Bd.state]; rfl
  have N0 := Fr.nil n0
  have pre0 : ∀ t, Steps p.tables e below (s₁.setTop (mkF m 0 #[.val (.int p1), .val (.int p2)] [])) t → Steps p.tables e below (s₁.setTop (entryFrame m #[(.int p1), (.int p2)] 2)) t := fun t k => castTop (ef_2 m p1 p2) k
  -- 3. LAWS
  obtain ⟨T4, X4, e4, st4⟩ := getS2 X0 hx hZ hown (host := "") (Or.inl (hw _ (List.mem_of_getElem? (i := 31) rfl))) Via.refl e0 S_NO_TRANSACTION (g := (mkF m 36 #[.val (.int p1), .val (.int p2)] [])) rfl (hb hby d2_36)
  obtain ⟨fs, hr, hrun, hended, hW, hsame⟩ := X4.leave (v := some (.ref w_NO_TRANSACTION)) (fun h => by rw [Bd.returns] at h; cases h) (BodyLoose.notSynchronized Bd)
  refine ⟨_, _, pre0 _ ?_, hrun, hended, _, _, rfl, ?_, ⟨_, rfl⟩, hW, hsame.mono (by decide) (by decide)⟩
  -- 4. STEPS
  · show Steps p.tables e below (s₁.setTop (mkF m 0 #[.val (.int p1), .val (.int p2)] [])) _
    refine XS.iloadN X0.here hx rfl (hb hby d2_0) rfl ?_
    show Steps p.tables e below (s₁.setTop (mkF m 1 #[.val (.int p1), .val (.int p2)] [(.int p2)])) _
    refine XS.ifNo X0.here hx rfl (hb hby d2_1) rfl ((if0 _ _).trans (feq hc1).1) ?_
    show Steps p.tables e below (s₁.setTop (mkF m 4 #[.val (.int p1), .val (.int p2)] [])) _
    refine XS.iloadN X0.here hx rfl (hb hby d2_4) rfl ?_
    show Steps p.tables e below (s₁.setTop (mkF m 5 #[.val (.int p1), .val (.int p2)] [(.int p1)])) _
    refine XS.ifNo X0.here hx rfl (hb hby d2_5) rfl ((if0 _ _).trans (feq hc5).1) ?_
    show Steps p.tables e below (s₁.setTop (mkF m 8 #[.val (.int p1), .val (.int p2)] [])) _
    refine XS.iloadN X0.here hx rfl (hb hby d2_8) rfl ?_
    show Steps p.tables e below (s₁.setTop (mkF m 9 #[.val (.int p1), .val (.int p2)] [(.int p1)])) _
    refine XS.iconst X0.here hx rfl (hb hby d2_9) ?_
    show Steps p.tables e below (s₁.setTop (mkF m 10 #[.val (.int p1), .val (.int p2)] [(.int (2 : Int32)), (.int p1)])) _
    refine XS.icmpNo X0.here hx rfl (hb hby d2_10) rfl (feq hc10).1 ?_
    show Steps p.tables e below (s₁.setTop (mkF m 13 #[.val (.int p1), .val (.int p2)] [])) _
    refine XS.iloadN X0.here hx rfl (hb hby d2_13) rfl ?_
    show Steps p.tables e below (s₁.setTop (mkF m 14 #[.val (.int p1), .val (.int p2)] [(.int p1)])) _
    refine XS.iconst X0.here hx rfl (hb hby d2_14) ?_
    show Steps p.tables e below (s₁.setTop (mkF m 15 #[.val (.int p1), .val (.int p2)] [(.int (3 : Int32)), (.int p1)])) _
    refine XS.icmpYes X0.here hx rfl (pc0 := 15) (pc' := 22) rfl (hb hby d2_15) rfl (feq hc15).2 (by decide) (by decide) ?_
    show Steps p.tables e below (s₁.setTop (mkF m 22 #[.val (.int p1), .val (.int p2)] [])) _
    refine XS.iloadN X0.here hx rfl (hb hby d2_22) rfl ?_
    show Steps p.tables e below (s₁.setTop (mkF m 23 #[.val (.int p1), .val (.int p2)] [(.int p1)])) _
    refine XS.iconst X0.here hx rfl (hb hby d2_23) ?_
    show Steps p.tables e below (s₁.setTop (mkF m 24 #[.val (.int p1), .val (.int p2)] [(.int (1 : Int32)), (.int p1)])) _
    refine XS.icmpYes X0.here hx rfl (pc0 := 24) (pc' := 31) rfl (hb hby d2_24) rfl (feq hc24).2 (by decide) (by decide) ?_
    show Steps p.tables e below (s₁.setTop (mkF m 31 #[.val (.int p1), .val (.int p2)] [])) _
    refine XS.iloadN X0.here hx rfl (hb hby d2_31) rfl ?_
    show Steps p.tables e below (s₁.setTop (mkF m 32 #[.val (.int p1), .val (.int p2)] [(.int p1)])) _
    refine XS.iconst X0.here hx rfl (hb hby d2_32) ?_
    show Steps p.tables e below (s₁.setTop (mkF m 33 #[.val (.int p1), .val (.int p2)] [(.int (4 : Int32)), (.int p1)])) _
    refine XS.icmpNo X0.here hx rfl (hb hby d2_33) rfl (teq hc33).2 ?_
    show Steps p.tables e below (s₁.setTop (mkF m 36 #[.val (.int p1), .val (.int p2)] [])) _
    refine st4 _ ?_
    show Steps p.tables e below (T4.setTop (mkF m 39 #[.val (.int p1), .val (.int p2)] [(.ref w_NO_TRANSACTION)])) _
    jvm_step X4.here [X4.here.top, hx, (hb hby d2_39), X4.method', Bd.returns, Value.isRef, FieldType.isReference]
    first | (intro acts; rw [hr _ acts rfl rfl rfl]) | rw [hr _ _ rfl rfl rfl]
    exact Steps.refl _
  · show Q2 Z p1 p2 w_NEW_UNIT w_NO_TRANSACTION w_REFUSED w_JOIN w_SAVEPOINT h0 n0 _ T4.heap _
    rw [e4]
    exact ⟨(by unfold own_f2; rw [if_neg hc1, if_neg hc5, if_neg hc10, if_neg hc15, if_neg hc24, if_pos hc33]), N0, rfl⟩
set_option maxRecDepth 65536 in
set_option maxHeartbeats 40000000 in
theorem rm2_ffftf (l : Launch) (Z : State) (a0 : Array Value) (hw : ∀ d ∈ tables_1, d.before a0 Z = true) (ws : List Jvm.Cond) (p1 : Int32) (p2 : Int32) (w_NEW_UNIT : Addr) (w_NO_TRANSACTION : Addr) (w_REFUSED : Addr) (w_JOIN : Addr) (w_SAVEPOINT : Addr) (h0 : Heap) (n0 : Nat) (Z0 : n0 ≤ h0.size) (S_NEW_UNIT : Sta Z h0 "com/example/orderly_tx/orderlytx/Propagation$Mode" "NEW_UNIT" "Lcom/example/orderly_tx/orderlytx/Propagation$Mode;" (.ref w_NEW_UNIT)) (S_NO_TRANSACTION : Sta Z h0 "com/example/orderly_tx/orderlytx/Propagation$Mode" "NO_TRANSACTION" "Lcom/example/orderly_tx/orderlytx/Propagation$Mode;" (.ref w_NO_TRANSACTION)) (S_REFUSED : Sta Z h0 "com/example/orderly_tx/orderlytx/Propagation$Mode" "REFUSED" "Lcom/example/orderly_tx/orderlytx/Propagation$Mode;" (.ref w_REFUSED)) (S_JOIN : Sta Z h0 "com/example/orderly_tx/orderlytx/Propagation$Mode" "JOIN" "Lcom/example/orderly_tx/orderlytx/Propagation$Mode;" (.ref w_JOIN)) (S_SAVEPOINT : Sta Z h0 "com/example/orderly_tx/orderlytx/Propagation$Mode" "SAVEPOINT" "Lcom/example/orderly_tx/orderlytx/Propagation$Mode;" (.ref w_SAVEPOINT)) (hc1 : ¬ (p2 = (0 : Int32))) (hc5 : ¬ (p1 = (0 : Int32))) (hc10 : ¬ (p1 = (2 : Int32))) (hc15 : ¬ (p1 = (3 : Int32))) (hc24 : p1 = (1 : Int32)) :
    MetFree l (⟨"com/example/orderly_tx/orderlytx/PropagationModePinLaw", "expected", "(IZ)Lcom/example/orderly_tx/orderlytx/Propagation$Mode;"⟩ : MethodName) (head1 (Jvm.Cond.code (⟨"com/example/orderly_tx/orderlytx/PropagationModePinLaw", "expected", "(IZ)Lcom/example/orderly_tx/orderlytx/Propagation$Mode;"⟩ : MethodName) method_4_code 2 (some (.object "com/example/orderly_tx/orderlytx/Propagation$Mode")) :: ws) ({ frames := 0, cells := 0, slots := 0, locals := 0 } : Room)) (fun a U => a = #[(.int p1), (.int p2)] ∧ Z.Warmed39 U.vm ∧ U.heap = h0) (fun _ _ _ _ _ => True) (fun _ U o U' => ∃ v L, o = .returned v ∧ Q2 Z p1 p2 w_NEW_UNIT w_NO_TRANSACTION w_REFUSED w_JOIN w_SAVEPOINT h0 n0 v U'.heap L ∧ FrameEnd U o U' L ({ frames := 0, cells := 0, slots := 0, locals := 0 } : Room).cells ({ frames := 0, cells := 0, slots := 0, locals := 0 } : Room).slots) := by
  refine MetFree.of_bodySF (plainFor_of_name pn_2) hisR ?_
  intro p e s m args below meth c s₁ Bd hml0 hP hK
  obtain ⟨rfl, hZ, hh⟩ := hP
  have hx := Bd.exec
  have hby := Bd.bytes
  have hml : c.maxLocals = 2 := hml0
  have hown : s.vm.findClass "com/example/orderly_tx/orderlytx/PropagationModePinLaw" = some m.cls := findClass_of_methodNamed Bd.named
  have hnm := (name_of_methodNamed Bd.named Bd.method).1
  have X0 : Stand p l e ({ frames := 0, cells := 0, slots := 0, locals := 0 } : Room) s m #[(.int p1), (.int p2)] below meth c s₁ [] 0 0 := Stand.of_body Bd
  have e0 : s₁.heap = h0 := by rw [← hh, Bd.state]; rfl
  have N0 := Fr.nil n0
  have pre0 : ∀ t, Steps p.tables e below (s₁.setTop (mkF m 0 #[.val (.int p1), .val (.int p2)] [])) t → Steps p.tables e below (s₁.setTop (entryFrame m #[(.int p1), (.int p2)] 2)) t := fun t k => castTop (ef_2 m p1 p2) k
  -- 3. LAWS
  obtain ⟨T4, X4, e4, st4⟩ := getS2 X0 hx hZ hown (host := "") (Or.inl (hw _ (List.mem_of_getElem? (i := 25) rfl))) Via.refl e0 S_NEW_UNIT (g := (mkF m 27 #[.val (.int p1), .val (.int p2)] [])) rfl (hb hby d2_27)
  obtain ⟨fs, hr, hrun, hended, hW, hsame⟩ := X4.leave (v := some (.ref w_NEW_UNIT)) (fun h => by rw [Bd.returns] at h; cases h) (BodyLoose.notSynchronized Bd)
  refine ⟨_, _, pre0 _ ?_, hrun, hended, _, _, rfl, ?_, ⟨_, rfl⟩, hW, hsame.mono (by decide) (by decide)⟩
  -- 4. STEPS
  · show Steps p.tables e below (s₁.setTop (mkF m 0 #[.val (.int p1), .val (.int p2)] [])) _
    refine XS.iloadN X0.here hx rfl (hb hby d2_0) rfl ?_
    show Steps p.tables e below (s₁.setTop (mkF m 1 #[.val (.int p1), .val (.int p2)] [(.int p2)])) _
    refine XS.ifNo X0.here hx rfl (hb hby d2_1) rfl ((if0 _ _).trans (feq hc1).1) ?_
    show Steps p.tables e below (s₁.setTop (mkF m 4 #[.val (.int p1), .val (.int p2)] [])) _
    refine XS.iloadN X0.here hx rfl (hb hby d2_4) rfl ?_
    show Steps p.tables e below (s₁.setTop (mkF m 5 #[.val (.int p1), .val (.int p2)] [(.int p1)])) _
    refine XS.ifNo X0.here hx rfl (hb hby d2_5) rfl ((if0 _ _).trans (feq hc5).1) ?_
    show Steps p.tables e below (s₁.setTop (mkF m 8 #[.val (.int p1), .val (.int p2)] [])) _
    refine XS.iloadN X0.here hx rfl (hb hby d2_8) rfl ?_
    show Steps p.tables e below (s₁.setTop (mkF m 9 #[.val (.int p1), .val (.int p2)] [(.int p1)])) _
    refine XS.iconst X0.here hx rfl (hb hby d2_9) ?_
    show Steps p.tables e below (s₁.setTop (mkF m 10 #[.val (.int p1), .val (.int p2)] [(.int (2 : Int32)), (.int p1)])) _
    refine XS.icmpNo X0.here hx rfl (hb hby d2_10) rfl (feq hc10).1 ?_
    show Steps p.tables e below (s₁.setTop (mkF m 13 #[.val (.int p1), .val (.int p2)] [])) _
    refine XS.iloadN X0.here hx rfl (hb hby d2_13) rfl ?_
    show Steps p.tables e below (s₁.setTop (mkF m 14 #[.val (.int p1), .val (.int p2)] [(.int p1)])) _
    refine XS.iconst X0.here hx rfl (hb hby d2_14) ?_
    show Steps p.tables e below (s₁.setTop (mkF m 15 #[.val (.int p1), .val (.int p2)] [(.int (3 : Int32)), (.int p1)])) _
    refine XS.icmpYes X0.here hx rfl (pc0 := 15) (pc' := 22) rfl (hb hby d2_15) rfl (feq hc15).2 (by decide) (by decide) ?_
    show Steps p.tables e below (s₁.setTop (mkF m 22 #[.val (.int p1), .val (.int p2)] [])) _
    refine XS.iloadN X0.here hx rfl (hb hby d2_22) rfl ?_
    show Steps p.tables e below (s₁.setTop (mkF m 23 #[.val (.int p1), .val (.int p2)] [(.int p1)])) _
    refine XS.iconst X0.here hx rfl (hb hby d2_23) ?_
    show Steps p.tables e below (s₁.setTop (mkF m 24 #[.val (.int p1), .val (.int p2)] [(.int (1 : Int32)), (.int p1)])) _
    refine XS.icmpNo X0.here hx rfl (hb hby d2_24) rfl (teq hc24).2 ?_
    show Steps p.tables e below (s₁.setTop (mkF m 27 #[.val (.int p1), .val (.int p2)] [])) _
    refine st4 _ ?_
    show Steps p.tables e below (T4.setTop (mkF m 30 #[.val (.int p1), .val (.int p2)] [(.ref w_NEW_UNIT)])) _
    jvm_step X4.here [X4.here.top, hx, (hb hby d2_30), X4.method', Bd.returns, Value.isRef, FieldType.isReference]
    first | (intro acts; rw [hr _ acts rfl rfl rfl]) | rw [hr _ _ rfl rfl rfl]
    exact Steps.refl _
  · show Q2 Z p1 p2 w_NEW_UNIT w_NO_TRANSACTION w_REFUSED w_JOIN w_SAVEPOINT h0 n0 _ T4.heap _
    rw [e4]
    exact ⟨(by unfold own_f2; rw [if_neg hc1, if_neg hc5, if_neg hc10, if_neg hc15, if_pos hc24]), N0, rfl⟩
set_option maxRecDepth 65536 in
set_option maxHeartbeats 40000000 in
theorem rm2_ffff (l : Launch) (Z : State) (a0 : Array Value) (hw : ∀ d ∈ tables_1, d.before a0 Z = true) (ws : List Jvm.Cond) (p1 : Int32) (p2 : Int32) (w_NEW_UNIT : Addr) (w_NO_TRANSACTION : Addr) (w_REFUSED : Addr) (w_JOIN : Addr) (w_SAVEPOINT : Addr) (h0 : Heap) (n0 : Nat) (Z0 : n0 ≤ h0.size) (S_NEW_UNIT : Sta Z h0 "com/example/orderly_tx/orderlytx/Propagation$Mode" "NEW_UNIT" "Lcom/example/orderly_tx/orderlytx/Propagation$Mode;" (.ref w_NEW_UNIT)) (S_NO_TRANSACTION : Sta Z h0 "com/example/orderly_tx/orderlytx/Propagation$Mode" "NO_TRANSACTION" "Lcom/example/orderly_tx/orderlytx/Propagation$Mode;" (.ref w_NO_TRANSACTION)) (S_REFUSED : Sta Z h0 "com/example/orderly_tx/orderlytx/Propagation$Mode" "REFUSED" "Lcom/example/orderly_tx/orderlytx/Propagation$Mode;" (.ref w_REFUSED)) (S_JOIN : Sta Z h0 "com/example/orderly_tx/orderlytx/Propagation$Mode" "JOIN" "Lcom/example/orderly_tx/orderlytx/Propagation$Mode;" (.ref w_JOIN)) (S_SAVEPOINT : Sta Z h0 "com/example/orderly_tx/orderlytx/Propagation$Mode" "SAVEPOINT" "Lcom/example/orderly_tx/orderlytx/Propagation$Mode;" (.ref w_SAVEPOINT)) (hc1 : ¬ (p2 = (0 : Int32))) (hc5 : ¬ (p1 = (0 : Int32))) (hc10 : ¬ (p1 = (2 : Int32))) (hc15 : p1 = (3 : Int32)) :
    MetFree l (⟨"com/example/orderly_tx/orderlytx/PropagationModePinLaw", "expected", "(IZ)Lcom/example/orderly_tx/orderlytx/Propagation$Mode;"⟩ : MethodName) (head1 (Jvm.Cond.code (⟨"com/example/orderly_tx/orderlytx/PropagationModePinLaw", "expected", "(IZ)Lcom/example/orderly_tx/orderlytx/Propagation$Mode;"⟩ : MethodName) method_4_code 2 (some (.object "com/example/orderly_tx/orderlytx/Propagation$Mode")) :: ws) ({ frames := 0, cells := 0, slots := 0, locals := 0 } : Room)) (fun a U => a = #[(.int p1), (.int p2)] ∧ Z.Warmed39 U.vm ∧ U.heap = h0) (fun _ _ _ _ _ => True) (fun _ U o U' => ∃ v L, o = .returned v ∧ Q2 Z p1 p2 w_NEW_UNIT w_NO_TRANSACTION w_REFUSED w_JOIN w_SAVEPOINT h0 n0 v U'.heap L ∧ FrameEnd U o U' L ({ frames := 0, cells := 0, slots := 0, locals := 0 } : Room).cells ({ frames := 0, cells := 0, slots := 0, locals := 0 } : Room).slots) := by
  refine MetFree.of_bodySF (plainFor_of_name pn_2) hisR ?_
  intro p e s m args below meth c s₁ Bd hml0 hP hK
  obtain ⟨rfl, hZ, hh⟩ := hP
  have hx := Bd.exec
  have hby := Bd.bytes
  have hml : c.maxLocals = 2 := hml0
  have hown : s.vm.findClass "com/example/orderly_tx/orderlytx/PropagationModePinLaw" = some m.cls := findClass_of_methodNamed Bd.named
  have hnm := (name_of_methodNamed Bd.named Bd.method).1
  have X0 : Stand p l e ({ frames := 0, cells := 0, slots := 0, locals := 0 } : Room) s m #[(.int p1), (.int p2)] below meth c s₁ [] 0 0 := Stand.of_body Bd
  have e0 : s₁.heap = h0 := by rw [← hh, Bd.state]; rfl
  have N0 := Fr.nil n0
  have pre0 : ∀ t, Steps p.tables e below (s₁.setTop (mkF m 0 #[.val (.int p1), .val (.int p2)] [])) t → Steps p.tables e below (s₁.setTop (entryFrame m #[(.int p1), (.int p2)] 2)) t := fun t k => castTop (ef_2 m p1 p2) k
  -- 3. LAWS
  obtain ⟨T4, X4, e4, st4⟩ := getS2 X0 hx hZ hown (host := "") (Or.inl (hw _ (List.mem_of_getElem? (i := 11) rfl))) Via.refl e0 S_JOIN (g := (mkF m 18 #[.val (.int p1), .val (.int p2)] [])) rfl (hb hby d2_18)
  obtain ⟨fs, hr, hrun, hended, hW, hsame⟩ := X4.leave (v := some (.ref w_JOIN)) (fun h => by rw [Bd.returns] at h; cases h) (BodyLoose.notSynchronized Bd)
  refine ⟨_, _, pre0 _ ?_, hrun, hended, _, _, rfl, ?_, ⟨_, rfl⟩, hW, hsame.mono (by decide) (by decide)⟩
  -- 4. STEPS
  · show Steps p.tables e below (s₁.setTop (mkF m 0 #[.val (.int p1), .val (.int p2)] [])) _
    refine XS.iloadN X0.here hx rfl (hb hby d2_0) rfl ?_
    show Steps p.tables e below (s₁.setTop (mkF m 1 #[.val (.int p1), .val (.int p2)] [(.int p2)])) _
    refine XS.ifNo X0.here hx rfl (hb hby d2_1) rfl ((if0 _ _).trans (feq hc1).1) ?_
    show Steps p.tables e below (s₁.setTop (mkF m 4 #[.val (.int p1), .val (.int p2)] [])) _
    refine XS.iloadN X0.here hx rfl (hb hby d2_4) rfl ?_
    show Steps p.tables e below (s₁.setTop (mkF m 5 #[.val (.int p1), .val (.int p2)] [(.int p1)])) _
    refine XS.ifNo X0.here hx rfl (hb hby d2_5) rfl ((if0 _ _).trans (feq hc5).1) ?_
    show Steps p.tables e below (s₁.setTop (mkF m 8 #[.val (.int p1), .val (.int p2)] [])) _
    refine XS.iloadN X0.here hx rfl (hb hby d2_8) rfl ?_
    show Steps p.tables e below (s₁.setTop (mkF m 9 #[.val (.int p1), .val (.int p2)] [(.int p1)])) _
    refine XS.iconst X0.here hx rfl (hb hby d2_9) ?_
    show Steps p.tables e below (s₁.setTop (mkF m 10 #[.val (.int p1), .val (.int p2)] [(.int (2 : Int32)), (.int p1)])) _
    refine XS.icmpNo X0.here hx rfl (hb hby d2_10) rfl (feq hc10).1 ?_
    show Steps p.tables e below (s₁.setTop (mkF m 13 #[.val (.int p1), .val (.int p2)] [])) _
    refine XS.iloadN X0.here hx rfl (hb hby d2_13) rfl ?_
    show Steps p.tables e below (s₁.setTop (mkF m 14 #[.val (.int p1), .val (.int p2)] [(.int p1)])) _
    refine XS.iconst X0.here hx rfl (hb hby d2_14) ?_
    show Steps p.tables e below (s₁.setTop (mkF m 15 #[.val (.int p1), .val (.int p2)] [(.int (3 : Int32)), (.int p1)])) _
    refine XS.icmpNo X0.here hx rfl (hb hby d2_15) rfl (teq hc15).2 ?_
    show Steps p.tables e below (s₁.setTop (mkF m 18 #[.val (.int p1), .val (.int p2)] [])) _
    refine st4 _ ?_
    show Steps p.tables e below (T4.setTop (mkF m 21 #[.val (.int p1), .val (.int p2)] [(.ref w_JOIN)])) _
    jvm_step X4.here [X4.here.top, hx, (hb hby d2_21), X4.method', Bd.returns, Value.isRef, FieldType.isReference]
    first | (intro acts; rw [hr _ acts rfl rfl rfl]) | rw [hr _ _ rfl rfl rfl]
    exact Steps.refl _
  · show Q2 Z p1 p2 w_NEW_UNIT w_NO_TRANSACTION w_REFUSED w_JOIN w_SAVEPOINT h0 n0 _ T4.heap _
    rw [e4]
    exact ⟨(by unfold own_f2; rw [if_neg hc1, if_neg hc5, if_neg hc10, if_pos hc15]), N0, rfl⟩
set_option maxRecDepth 65536 in
set_option maxHeartbeats 40000000 in
theorem rm2 (l : Launch) (Z : State) (a0 : Array Value) (hw : ∀ d ∈ tables_1, d.before a0 Z = true) (ws : List Jvm.Cond) (p1 : Int32) (p2 : Int32) (w_NEW_UNIT : Addr) (w_NO_TRANSACTION : Addr) (w_REFUSED : Addr) (w_JOIN : Addr) (w_SAVEPOINT : Addr) (h0 : Heap) (n0 : Nat) (Z0 : n0 ≤ h0.size) (S_NEW_UNIT : Sta Z h0 "com/example/orderly_tx/orderlytx/Propagation$Mode" "NEW_UNIT" "Lcom/example/orderly_tx/orderlytx/Propagation$Mode;" (.ref w_NEW_UNIT)) (S_NO_TRANSACTION : Sta Z h0 "com/example/orderly_tx/orderlytx/Propagation$Mode" "NO_TRANSACTION" "Lcom/example/orderly_tx/orderlytx/Propagation$Mode;" (.ref w_NO_TRANSACTION)) (S_REFUSED : Sta Z h0 "com/example/orderly_tx/orderlytx/Propagation$Mode" "REFUSED" "Lcom/example/orderly_tx/orderlytx/Propagation$Mode;" (.ref w_REFUSED)) (S_JOIN : Sta Z h0 "com/example/orderly_tx/orderlytx/Propagation$Mode" "JOIN" "Lcom/example/orderly_tx/orderlytx/Propagation$Mode;" (.ref w_JOIN)) (S_SAVEPOINT : Sta Z h0 "com/example/orderly_tx/orderlytx/Propagation$Mode" "SAVEPOINT" "Lcom/example/orderly_tx/orderlytx/Propagation$Mode;" (.ref w_SAVEPOINT)) :
    MetFree l (⟨"com/example/orderly_tx/orderlytx/PropagationModePinLaw", "expected", "(IZ)Lcom/example/orderly_tx/orderlytx/Propagation$Mode;"⟩ : MethodName) (head1 (Jvm.Cond.code (⟨"com/example/orderly_tx/orderlytx/PropagationModePinLaw", "expected", "(IZ)Lcom/example/orderly_tx/orderlytx/Propagation$Mode;"⟩ : MethodName) method_4_code 2 (some (.object "com/example/orderly_tx/orderlytx/Propagation$Mode")) :: ws) ({ frames := 0, cells := 0, slots := 0, locals := 0 } : Room)) (fun a U => a = #[(.int p1), (.int p2)] ∧ Z.Warmed39 U.vm ∧ U.heap = h0) (fun _ _ _ _ _ => True) (fun _ U o U' => ∃ v L, o = .returned v ∧ Q2 Z p1 p2 w_NEW_UNIT w_NO_TRANSACTION w_REFUSED w_JOIN w_SAVEPOINT h0 n0 v U'.heap L ∧ FrameEnd U o U' L ({ frames := 0, cells := 0, slots := 0, locals := 0 } : Room).cells ({ frames := 0, cells := 0, slots := 0, locals := 0 } : Room).slots) := by
  by_cases hc1 : p2 = (0 : Int32)
  · by_cases hc54 : p1 = (0 : Int32)
    · exact rm2_tt l Z a0 hw ws p1 p2 w_NEW_UNIT w_NO_TRANSACTION w_REFUSED w_JOIN w_SAVEPOINT h0 n0 Z0 S_NEW_UNIT S_NO_TRANSACTION S_REFUSED S_JOIN S_SAVEPOINT hc1 hc54
    · by_cases hc59 : p1 = (1 : Int32)
      · exact rm2_tft l Z a0 hw ws p1 p2 w_NEW_UNIT w_NO_TRANSACTION w_REFUSED w_JOIN w_SAVEPOINT h0 n0 Z0 S_NEW_UNIT S_NO_TRANSACTION S_REFUSED S_JOIN S_SAVEPOINT hc1 hc54 hc59
      · by_cases hc65 : p1 = (6 : Int32)
        · exact rm2_tfff l Z a0 hw ws p1 p2 w_NEW_UNIT w_NO_TRANSACTION w_REFUSED w_JOIN w_SAVEPOINT h0 n0 Z0 S_NEW_UNIT S_NO_TRANSACTION S_REFUSED S_JOIN S_SAVEPOINT hc1 hc54 hc59 hc65
        · by_cases hc74 : p1 = (3 : Int32)
          · exact rm2_tfftf l Z a0 hw ws p1 p2 w_NEW_UNIT w_NO_TRANSACTION w_REFUSED w_JOIN w_SAVEPOINT h0 n0 Z0 S_NEW_UNIT S_NO_TRANSACTION S_REFUSED S_JOIN S_SAVEPOINT hc1 hc54 hc59 hc65 hc74
          · exact rm2_tfftt l Z a0 hw ws p1 p2 w_NEW_UNIT w_NO_TRANSACTION w_REFUSED w_JOIN w_SAVEPOINT h0 n0 Z0 S_NEW_UNIT S_NO_TRANSACTION S_REFUSED S_JOIN S_SAVEPOINT hc1 hc54 hc59 hc65 hc74
  · by_cases hc5 : p1 = (0 : Int32)
    · exact rm2_ft l Z a0 hw ws p1 p2 w_NEW_UNIT w_NO_TRANSACTION w_REFUSED w_JOIN w_SAVEPOINT h0 n0 Z0 S_NEW_UNIT S_NO_TRANSACTION S_REFUSED S_JOIN S_SAVEPOINT hc1 hc5
    · by_cases hc10 : p1 = (2 : Int32)
      · exact rm2_fft l Z a0 hw ws p1 p2 w_NEW_UNIT w_NO_TRANSACTION w_REFUSED w_JOIN w_SAVEPOINT h0 n0 Z0 S_NEW_UNIT S_NO_TRANSACTION S_REFUSED S_JOIN S_SAVEPOINT hc1 hc5 hc10
      · by_cases hc15 : p1 = (3 : Int32)
        · exact rm2_ffff l Z a0 hw ws p1 p2 w_NEW_UNIT w_NO_TRANSACTION w_REFUSED w_JOIN w_SAVEPOINT h0 n0 Z0 S_NEW_UNIT S_NO_TRANSACTION S_REFUSED S_JOIN S_SAVEPOINT hc1 hc5 hc10 hc15
        · by_cases hc24 : p1 = (1 : Int32)
          · exact rm2_ffftf l Z a0 hw ws p1 p2 w_NEW_UNIT w_NO_TRANSACTION w_REFUSED w_JOIN w_SAVEPOINT h0 n0 Z0 S_NEW_UNIT S_NO_TRANSACTION S_REFUSED S_JOIN S_SAVEPOINT hc1 hc5 hc10 hc15 hc24
          · by_cases hc33 : p1 = (4 : Int32)
            · exact rm2_fffttf l Z a0 hw ws p1 p2 w_NEW_UNIT w_NO_TRANSACTION w_REFUSED w_JOIN w_SAVEPOINT h0 n0 Z0 S_NEW_UNIT S_NO_TRANSACTION S_REFUSED S_JOIN S_SAVEPOINT hc1 hc5 hc10 hc15 hc24 hc33
            · by_cases hc42 : p1 = (5 : Int32)
              · exact rm2_ffftttf l Z a0 hw ws p1 p2 w_NEW_UNIT w_NO_TRANSACTION w_REFUSED w_JOIN w_SAVEPOINT h0 n0 Z0 S_NEW_UNIT S_NO_TRANSACTION S_REFUSED S_JOIN S_SAVEPOINT hc1 hc5 hc10 hc15 hc24 hc33 hc42
              · exact rm2_ffftttt l Z a0 hw ws p1 p2 w_NEW_UNIT w_NO_TRANSACTION w_REFUSED w_JOIN w_SAVEPOINT h0 n0 Z0 S_NEW_UNIT S_NO_TRANSACTION S_REFUSED S_JOIN S_SAVEPOINT hc1 hc5 hc10 hc15 hc24 hc33 hc42
theorem d3_0 : decode prog_23_method_4_code 0 = .ok (.iload_n 1, 1) := by decide +kernel
theorem d3_1 : decode prog_23_method_4_code 1 = .ok (.ifCond .eq 10, 3) := by decide +kernel
theorem d3_11 : decode prog_23_method_4_code 11 = .ok (.aload_n 0, 1) := by decide +kernel
theorem d3_12 : decode prog_23_method_4_code 12 = .ok (.getfield 48, 3) := by decide +kernel
theorem d3_15 : decode prog_23_method_4_code 15 = .ok (.areturn, 1) := by decide +kernel
theorem pn_3 : plainName "com/example/orderly_tx/orderlytx/Propagation" = true := by first | (simp [plainName, overriddenIn]; done) | decide +kernel
theorem ef_3 (m : MethodId) (x0 : Addr) (x1 : Int32) : entryFrame m #[(.ref x0), (.int x1)] 2 = mkF m 0 #[.val (.ref x0), .val (.int x1)] [] := by first | (simp [entryFrame, mkF, argsToLocals, Value.category]; done) | rfl
theorem d3_4 : decode prog_23_method_4_code 4 = .ok (.aload_n 0, 1) := by decide +kernel
theorem d3_5 : decode prog_23_method_4_code 5 = .ok (.getfield 44, 3) := by decide +kernel
theorem d3_8 : decode prog_23_method_4_code 8 = .ok (.goto 7, 3) := by decide +kernel
def own_f3 (p2 : Int32) (w_whenNoUnitIsCurrent_a1 : Addr) (w_whenUnitIsCurrent_a1 : Addr) : Addr := (if p2 = (0 : Int32) then w_whenNoUnitIsCurrent_a1 else w_whenUnitIsCurrent_a1)
def Q3 (Z : State) (a1 : Addr) (p2 : Int32) (w_whenNoUnitIsCurrent_a1 : Addr) (w_whenUnitIsCurrent_a1 : Addr) (h0 : Heap) (n0 : Nat) (v : Option Value) (h : Heap) (L : List Loc) : Prop := v = some (.ref (own_f3 p2 w_whenNoUnitIsCurrent_a1 w_whenUnitIsCurrent_a1)) ∧ Fr n0 L ∧ h = h0
set_option maxRecDepth 65536 in
set_option maxHeartbeats 40000000 in
theorem rm3_t (l : Launch) (Z : State) (a0 : Array Value) (hw : ∀ d ∈ tables_1, d.before a0 Z = true) (ws : List Jvm.Cond) (a1 : Addr) (p2 : Int32) (w_whenNoUnitIsCurrent_a1 : Addr) (w_whenUnitIsCurrent_a1 : Addr) (h0 : Heap) (n0 : Nat) (Z0 : n0 ≤ h0.size) (F_whenNoUnitIsCurrent_a1 : Fld Z h0 a1 "com/example/orderly_tx/orderlytx/Propagation" "whenNoUnitIsCurrent" "Lcom/example/orderly_tx/orderlytx/Propagation$Mode;" (.ref w_whenNoUnitIsCurrent_a1)) (F_whenUnitIsCurrent_a1 : Fld Z h0 a1 "com/example/orderly_tx/orderlytx/Propagation" "whenUnitIsCurrent" "Lcom/example/orderly_tx/orderlytx/Propagation$Mode;" (.ref w_whenUnitIsCurrent_a1)) (hc1 : p2 = (0 : Int32)) :
    MetFree l (⟨"com/example/orderly_tx/orderlytx/Propagation", "mode", "(Z)Lcom/example/orderly_tx/orderlytx/Propagation$Mode;"⟩ : MethodName) (head1 (Jvm.Cond.code (⟨"com/example/orderly_tx/orderlytx/Propagation", "mode", "(Z)Lcom/example/orderly_tx/orderlytx/Propagation$Mode;"⟩ : MethodName) prog_23_method_4_code 2 (some (.object "com/example/orderly_tx/orderlytx/Propagation$Mode")) :: ws) ({ frames := 0, cells := 0, slots := 0, locals := 0 } : Room)) (fun a U => a = #[(.ref a1), (.int p2)] ∧ Z.Warmed39 U.vm ∧ U.heap = h0) (fun _ _ _ _ _ => True) (fun _ U o U' => ∃ v L, o = .returned v ∧ Q3 Z a1 p2 w_whenNoUnitIsCurrent_a1 w_whenUnitIsCurrent_a1 h0 n0 v U'.heap L ∧ FrameEnd U o U' L ({ frames := 0, cells := 0, slots := 0, locals := 0 } : Room).cells ({ frames := 0, cells := 0, slots := 0, locals := 0 } : Room).slots) := by
  refine MetFree.of_bodySF (plainFor_of_name pn_3) hisR ?_
  intro p e s m args below meth c s₁ Bd hml0 hP hK
  obtain ⟨rfl, hZ, hh⟩ := hP
  have hx := Bd.exec
  have hby := Bd.bytes
  have hml : c.maxLocals = 2 := hml0
  have hown : s.vm.findClass "com/example/orderly_tx/orderlytx/Propagation" = some m.cls := findClass_of_methodNamed Bd.named
  have hnm := (name_of_methodNamed Bd.named Bd.method).1
  have X0 : Stand p l e ({ frames := 0, cells := 0, slots := 0, locals := 0 } : Room) s m #[(.ref a1), (.int p2)] below meth c s₁ [] 0 0 := Stand.of_body Bd
  have e0 : s₁.heap = h0 := by rw [← hh, Bd.state]; rfl
  have N0 := Fr.nil n0
  have pre0 : ∀ t, Steps p.tables e below (s₁.setTop (mkF m 0 #[.val (.ref a1), .val (.int p2)] [])) t → Steps p.tables e below (s₁.setTop (entryFrame m #[(.ref a1), (.int p2)] 2)) t := fun t k => castTop (ef_3 m a1 p2) k
  -- 3. LAWS
  obtain ⟨T4, X4, e4, st4⟩ := getF X0 hx hZ hown (host := "") (Or.inl (hw _ (List.mem_of_getElem? (i := 27) rfl))) Via.refl e0 F_whenNoUnitIsCurrent_a1 (g := (mkF m 12 #[.val (.ref a1), .val (.int p2)] [(.ref a1)])) rfl rfl (hb hby d3_12)
  obtain ⟨fs, hr, hrun, hended, hW, hsame⟩ := X4.leave (v := some (.ref w_whenNoUnitIsCurrent_a1)) (fun h => by rw [Bd.returns] at h; cases h) (BodyLoose.notSynchronized Bd)
  refine ⟨_, _, pre0 _ ?_, hrun, hended, _, _, rfl, ?_, ⟨_, rfl⟩, hW, hsame.mono (by decide) (by decide)⟩
  -- 4. STEPS
  · show Steps p.tables e below (s₁.setTop (mkF m 0 #[.val (.ref a1), .val (.int p2)] [])) _
    refine XS.iloadN X0.here hx rfl (hb hby d3_0) rfl ?_
    show Steps p.tables e below (s₁.setTop (mkF m 1 #[.val (.ref a1), .val (.int p2)] [(.int p2)])) _
    refine XS.ifYes X0.here hx rfl (pc0 := 1) (pc' := 11) rfl (hb hby d3_1) rfl ((if0 _ _).trans (teq hc1).1) (by decide) (by decide) ?_
    show Steps p.tables e below (s₁.setTop (mkF m 11 #[.val (.ref a1), .val (.int p2)] [])) _
    refine XS.aloadN X0.here hx rfl (hb hby d3_11) rfl rfl ?_
    show Steps p.tables e below (s₁.setTop (mkF m 12 #[.val (.ref a1), .val (.int p2)] [(.ref a1)])) _
    refine st4 _ ?_
    show Steps p.tables e below (T4.setTop (mkF m 15 #[.val (.ref a1), .val (.int p2)] [(.ref w_whenNoUnitIsCurrent_a1)])) _
    jvm_step X4.here [X4.here.top, hx, (hb hby d3_15), X4.method', Bd.returns, Value.isRef, FieldType.isReference]
    first | (intro acts; rw [hr _ acts rfl rfl rfl]) | rw [hr _ _ rfl rfl rfl]
    exact Steps.refl _
  · show Q3 Z a1 p2 w_whenNoUnitIsCurrent_a1 w_whenUnitIsCurrent_a1 h0 n0 _ T4.heap _
    rw [e4]
    exact ⟨(by unfold own_f3; rw [if_pos hc1]), N0, rfl⟩
set_option maxRecDepth 65536 in
set_option maxHeartbeats 40000000 in
theorem rm3_f (l : Launch) (Z : State) (a0 : Array Value) (hw : ∀ d ∈ tables_1, d.before a0 Z = true) (ws : List Jvm.Cond) (a1 : Addr) (p2 : Int32) (w_whenNoUnitIsCurrent_a1 : Addr) (w_whenUnitIsCurrent_a1 : Addr) (h0 : Heap) (n0 : Nat) (Z0 : n0 ≤ h0.size) (F_whenNoUnitIsCurrent_a1 : Fld Z h0 a1 "com/example/orderly_tx/orderlytx/Propagation" "whenNoUnitIsCurrent" "Lcom/example/orderly_tx/orderlytx/Propagation$Mode;" (.ref w_whenNoUnitIsCurrent_a1)) (F_whenUnitIsCurrent_a1 : Fld Z h0 a1 "com/example/orderly_tx/orderlytx/Propagation" "whenUnitIsCurrent" "Lcom/example/orderly_tx/orderlytx/Propagation$Mode;" (.ref w_whenUnitIsCurrent_a1)) (hc1 : ¬ (p2 = (0 : Int32))) :
    MetFree l (⟨"com/example/orderly_tx/orderlytx/Propagation", "mode", "(Z)Lcom/example/orderly_tx/orderlytx/Propagation$Mode;"⟩ : MethodName) (head1 (Jvm.Cond.code (⟨"com/example/orderly_tx/orderlytx/Propagation", "mode", "(Z)Lcom/example/orderly_tx/orderlytx/Propagation$Mode;"⟩ : MethodName) prog_23_method_4_code 2 (some (.object "com/example/orderly_tx/orderlytx/Propagation$Mode")) :: ws) ({ frames := 0, cells := 0, slots := 0, locals := 0 } : Room)) (fun a U => a = #[(.ref a1), (.int p2)] ∧ Z.Warmed39 U.vm ∧ U.heap = h0) (fun _ _ _ _ _ => True) (fun _ U o U' => ∃ v L, o = .returned v ∧ Q3 Z a1 p2 w_whenNoUnitIsCurrent_a1 w_whenUnitIsCurrent_a1 h0 n0 v U'.heap L ∧ FrameEnd U o U' L ({ frames := 0, cells := 0, slots := 0, locals := 0 } : Room).cells ({ frames := 0, cells := 0, slots := 0, locals := 0 } : Room).slots) := by
  refine MetFree.of_bodySF (plainFor_of_name pn_3) hisR ?_
  intro p e s m args below meth c s₁ Bd hml0 hP hK
  obtain ⟨rfl, hZ, hh⟩ := hP
  have hx := Bd.exec
  have hby := Bd.bytes
  have hml : c.maxLocals = 2 := hml0
  have hown : s.vm.findClass "com/example/orderly_tx/orderlytx/Propagation" = some m.cls := findClass_of_methodNamed Bd.named
  have hnm := (name_of_methodNamed Bd.named Bd.method).1
  have X0 : Stand p l e ({ frames := 0, cells := 0, slots := 0, locals := 0 } : Room) s m #[(.ref a1), (.int p2)] below meth c s₁ [] 0 0 := Stand.of_body Bd
  have e0 : s₁.heap = h0 := by rw [← hh, Bd.state]; rfl
  have N0 := Fr.nil n0
  have pre0 : ∀ t, Steps p.tables e below (s₁.setTop (mkF m 0 #[.val (.ref a1), .val (.int p2)] [])) t → Steps p.tables e below (s₁.setTop (entryFrame m #[(.ref a1), (.int p2)] 2)) t := fun t k => castTop (ef_3 m a1 p2) k
  -- 3. LAWS
  obtain ⟨T4, X4, e4, st4⟩ := getF X0 hx hZ hown (host := "") (Or.inl (hw _ (List.mem_of_getElem? (i := 19) rfl))) Via.refl e0 F_whenUnitIsCurrent_a1 (g := (mkF m 5 #[.val (.ref a1), .val (.int p2)] [(.ref a1)])) rfl rfl (hb hby d3_5)
  obtain ⟨fs, hr, hrun, hended, hW, hsame⟩ := X4.leave (v := some (.ref w_whenUnitIsCurrent_a1)) (fun h => by rw [Bd.returns] at h; cases h) (BodyLoose.notSynchronized Bd)
  refine ⟨_, _, pre0 _ ?_, hrun, hended, _, _, rfl, ?_, ⟨_, rfl⟩, hW, hsame.mono (by decide) (by decide)⟩
  -- 4. STEPS
  · show Steps p.tables e below (s₁.setTop (mkF m 0 #[.val (.ref a1), .val (.int p2)] [])) _
    refine XS.iloadN X0.here hx rfl (hb hby d3_0) rfl ?_
    show Steps p.tables e below (s₁.setTop (mkF m 1 #[.val (.ref a1), .val (.int p2)] [(.int p2)])) _
    refine XS.ifNo X0.here hx rfl (hb hby d3_1) rfl ((if0 _ _).trans (feq hc1).1) ?_
    show Steps p.tables e below (s₁.setTop (mkF m 4 #[.val (.ref a1), .val (.int p2)] [])) _
    refine XS.aloadN X0.here hx rfl (hb hby d3_4) rfl rfl ?_
    show Steps p.tables e below (s₁.setTop (mkF m 5 #[.val (.ref a1), .val (.int p2)] [(.ref a1)])) _
    refine st4 _ ?_
    show Steps p.tables e below (T4.setTop (mkF m 8 #[.val (.ref a1), .val (.int p2)] [(.ref w_whenUnitIsCurrent_a1)])) _
    refine XS.goto X4.here hx rfl (pc0 := 8) (pc' := 15) rfl (hb hby d3_8) (by decide) (by decide) ?_
    show Steps p.tables e below (T4.setTop (mkF m 15 #[.val (.ref a1), .val (.int p2)] [(.ref w_whenUnitIsCurrent_a1)])) _
    jvm_step X4.here [X4.here.top, hx, (hb hby d3_15), X4.method', Bd.returns, Value.isRef, FieldType.isReference]
    first | (intro acts; rw [hr _ acts rfl rfl rfl]) | rw [hr _ _ rfl rfl rfl]
    exact Steps.refl _
  · show Q3 Z a1 p2 w_whenNoUnitIsCurrent_a1 w_whenUnitIsCurrent_a1 h0 n0 _ T4.heap _
    rw [e4]
    exact ⟨(by unfold own_f3; rw [if_neg hc1]), N0, rfl⟩
set_option maxRecDepth 65536 in
set_option maxHeartbeats 40000000 in
theorem rm3 (l : Launch) (Z : State) (a0 : Array Value) (hw : ∀ d ∈ tables_1, d.before a0 Z = true) (ws : List Jvm.Cond) (a1 : Addr) (p2 : Int32) (w_whenNoUnitIsCurrent_a1 : Addr) (w_whenUnitIsCurrent_a1 : Addr) (h0 : Heap) (n0 : Nat) (Z0 : n0 ≤ h0.size) (F_whenNoUnitIsCurrent_a1 : Fld Z h0 a1 "com/example/orderly_tx/orderlytx/Propagation" "whenNoUnitIsCurrent" "Lcom/example/orderly_tx/orderlytx/Propagation$Mode;" (.ref w_whenNoUnitIsCurrent_a1)) (F_whenUnitIsCurrent_a1 : Fld Z h0 a1 "com/example/orderly_tx/orderlytx/Propagation" "whenUnitIsCurrent" "Lcom/example/orderly_tx/orderlytx/Propagation$Mode;" (.ref w_whenUnitIsCurrent_a1)) :
    MetFree l (⟨"com/example/orderly_tx/orderlytx/Propagation", "mode", "(Z)Lcom/example/orderly_tx/orderlytx/Propagation$Mode;"⟩ : MethodName) (head1 (Jvm.Cond.code (⟨"com/example/orderly_tx/orderlytx/Propagation", "mode", "(Z)Lcom/example/orderly_tx/orderlytx/Propagation$Mode;"⟩ : MethodName) prog_23_method_4_code 2 (some (.object "com/example/orderly_tx/orderlytx/Propagation$Mode")) :: ws) ({ frames := 0, cells := 0, slots := 0, locals := 0 } : Room)) (fun a U => a = #[(.ref a1), (.int p2)] ∧ Z.Warmed39 U.vm ∧ U.heap = h0) (fun _ _ _ _ _ => True) (fun _ U o U' => ∃ v L, o = .returned v ∧ Q3 Z a1 p2 w_whenNoUnitIsCurrent_a1 w_whenUnitIsCurrent_a1 h0 n0 v U'.heap L ∧ FrameEnd U o U' L ({ frames := 0, cells := 0, slots := 0, locals := 0 } : Room).cells ({ frames := 0, cells := 0, slots := 0, locals := 0 } : Room).slots) := by
  by_cases hc1 : p2 = (0 : Int32)
  · exact rm3_t l Z a0 hw ws a1 p2 w_whenNoUnitIsCurrent_a1 w_whenUnitIsCurrent_a1 h0 n0 Z0 F_whenNoUnitIsCurrent_a1 F_whenUnitIsCurrent_a1 hc1
  · exact rm3_f l Z a0 hw ws a1 p2 w_whenNoUnitIsCurrent_a1 w_whenUnitIsCurrent_a1 h0 n0 Z0 F_whenNoUnitIsCurrent_a1 F_whenUnitIsCurrent_a1 hc1
def Q0 (Z : State) (h0 : Heap) (n0 : Nat) (v : Option Value) (h : Heap) (L : List Loc) : Prop := v = some (.int (1 : Int32)) ∧ Fr n0 L
theorem pn_0 : plainName "com/example/orderly_tx/orderlytx/PropagationModePinLaw" = true := by first | (simp [plainName, overriddenIn]; done) | decide +kernel
theorem pd_0_0 : parseMethodDescriptor "(I)Lcom/example/orderly_tx/orderlytx/Propagation;" = some ⟨[.int], some (.object "com/example/orderly_tx/orderlytx/Propagation")⟩ := by decide +kernel
theorem pd_0_1 : parseMethodDescriptor "(IZ)Lcom/example/orderly_tx/orderlytx/Propagation$Mode;" = some ⟨[.int, .boolean], some (.object "com/example/orderly_tx/orderlytx/Propagation$Mode")⟩ := by decide +kernel
theorem pd_0_2 : parseMethodDescriptor "(Z)Lcom/example/orderly_tx/orderlytx/Propagation$Mode;" = some ⟨[.boolean], some (.object "com/example/orderly_tx/orderlytx/Propagation$Mode")⟩ := by decide +kernel
theorem ef_0 (m : MethodId) (x0 : Int32) (x1 : Int32) : entryFrame m #[(.int x0), (.int x1)] maxLocals = mkF m 0 #[.val (.int x0), .val (.int x1), .unset, .unset, .unset, .unset] [] := by first | (simp [entryFrame, mkF, argsToLocals, Value.category, maxLocals]; done) | rfl
set_option maxRecDepth 65536 in
set_option maxHeartbeats 40000000 in
theorem rm0_t (l : Launch) (Z : State) (a0 : Array Value) (hw : ∀ d ∈ tables_1, d.before a0 Z = true) (ws : List Jvm.Cond) (p1 : Int32) (p2 : Int32) (w_NESTED : Addr) (w_NEVER : Addr) (w_NOT_SUPPORTED : Addr) (w_MANDATORY : Addr) (w_SUPPORTS : Addr) (w_REQUIRES_NEW : Addr) (w_REQUIRED : Addr) (w_NEW_UNIT : Addr) (w_NO_TRANSACTION : Addr) (w_REFUSED : Addr) (w_JOIN : Addr) (w_SAVEPOINT : Addr) (wu : Addr) (wn : Addr) (r3 : Addr) (r4 : Addr) (h0 : Heap) (n0 : Nat) (Z0 : n0 ≤ h0.size) (S_NESTED : Sta Z h0 "com/example/orderly_tx/orderlytx/Propagation" "NESTED" "Lcom/example/orderly_tx/orderlytx/Propagation;" (.ref w_NESTED)) (S_NEVER : Sta Z h0 "com/example/orderly_tx/orderlytx/Propagation" "NEVER" "Lcom/example/orderly_tx/orderlytx/Propagation;" (.ref w_NEVER)) (S_NOT_SUPPORTED : Sta Z h0 "com/example/orderly_tx/orderlytx/Propagation" "NOT_SUPPORTED" "Lcom/example/orderly_tx/orderlytx/Propagation;" (.ref w_NOT_SUPPORTED)) (S_MANDATORY : Sta Z h0 "com/example/orderly_tx/orderlytx/Propagation" "MANDATORY" "Lcom/example/orderly_tx/orderlytx/Propagation;" (.ref w_MANDATORY)) (S_SUPPORTS : Sta Z h0 "com/example/orderly_tx/orderlytx/Propagation" "SUPPORTS" "Lcom/example/orderly_tx/orderlytx/Propagation;" (.ref w_SUPPORTS)) (S_REQUIRES_NEW : Sta Z h0 "com/example/orderly_tx/orderlytx/Propagation" "REQUIRES_NEW" "Lcom/example/orderly_tx/orderlytx/Propagation;" (.ref w_REQUIRES_NEW)) (S_REQUIRED : Sta Z h0 "com/example/orderly_tx/orderlytx/Propagation" "REQUIRED" "Lcom/example/orderly_tx/orderlytx/Propagation;" (.ref w_REQUIRED)) (S_NEW_UNIT : Sta Z h0 "com/example/orderly_tx/orderlytx/Propagation$Mode" "NEW_UNIT" "Lcom/example/orderly_tx/orderlytx/Propagation$Mode;" (.ref w_NEW_UNIT)) (S_NO_TRANSACTION : Sta Z h0 "com/example/orderly_tx/orderlytx/Propagation$Mode" "NO_TRANSACTION" "Lcom/example/orderly_tx/orderlytx/Propagation$Mode;" (.ref w_NO_TRANSACTION)) (S_REFUSED : Sta Z h0 "com/example/orderly_tx/orderlytx/Propagation$Mode" "REFUSED" "Lcom/example/orderly_tx/orderlytx/Propagation$Mode;" (.ref w_REFUSED)) (S_JOIN : Sta Z h0 "com/example/orderly_tx/orderlytx/Propagation$Mode" "JOIN" "Lcom/example/orderly_tx/orderlytx/Propagation$Mode;" (.ref w_JOIN)) (S_SAVEPOINT : Sta Z h0 "com/example/orderly_tx/orderlytx/Propagation$Mode" "SAVEPOINT" "Lcom/example/orderly_tx/orderlytx/Propagation$Mode;" (.ref w_SAVEPOINT)) (E_r3 : Exa Z h0 r3 "com/example/orderly_tx/orderlytx/Propagation") (Fu : Fld Z h0 r3 "com/example/orderly_tx/orderlytx/Propagation" "whenUnitIsCurrent" "Lcom/example/orderly_tx/orderlytx/Propagation$Mode;" (.ref wu)) (Fn : Fld Z h0 r3 "com/example/orderly_tx/orderlytx/Propagation" "whenNoUnitIsCurrent" "Lcom/example/orderly_tx/orderlytx/Propagation$Mode;" (.ref wn)) (hr3 : (own_f1 ((p1 &&& (2147483647 : Int32)) % (7 : Int32)) w_NESTED w_NEVER w_NOT_SUPPORTED w_MANDATORY w_SUPPORTS w_REQUIRES_NEW w_REQUIRED) = r3) (hr4 : (own_f2 ((p1 &&& (2147483647 : Int32)) % (7 : Int32)) (0 : Int32) w_NEW_UNIT w_NO_TRANSACTION w_REFUSED w_JOIN w_SAVEPOINT) = r4) (hc11 : (p2 &&& (1 : Int32)) = (0 : Int32)) (ha41 : (own_f3 (0 : Int32) wn wu) = r4) :
    MetFree l x (head1 (Jvm.Cond.code x code maxLocals ret :: ws) room_1) (fun a U => a = #[(.int p1), (.int p2)] ∧ Z.Warmed39 U.vm ∧ U.heap = h0) (fun _ _ _ _ _ => True) (fun _ U o U' => ∃ v L, o = .returned v ∧ Q0 Z h0 n0 v U'.heap L ∧ FrameEnd U o U' L room_1.cells room_1.slots) := by
  refine MetFree.of_bodySF (plainFor_of_name pn_0) hisR ?_
  intro p e s m args below meth c s₁ Bd hml0 hP hK
  obtain ⟨rfl, hZ, hh⟩ := hP
  have hx := Bd.exec
  have hby := Bd.bytes
  have hml : c.maxLocals = 6 := hml0
  have hown : s.vm.findClass "com/example/orderly_tx/orderlytx/PropagationModePinLaw" = some m.cls := findClass_of_methodNamed Bd.named
  have hnm := (name_of_methodNamed Bd.named Bd.method).1
  have X0 : Stand p l e room_1 s m #[(.int p1), (.int p2)] below meth c s₁ [] 0 0 := Stand.of_body Bd
  have e0 : s₁.heap = h0 := by rw [← hh, Bd.state]; rfl
  have N0 := Fr.nil n0
  have pre0 : ∀ t, Steps p.tables e below (s₁.setTop (mkF m 0 #[.val (.int p1), .val (.int p2), .unset, .unset, .unset, .unset] [])) t → Steps p.tables e below (s₁.setTop (entryFrame m #[(.int p1), (.int p2)] maxLocals)) t := fun t k => castTop (ef_0 m p1 p2) k
  -- 3. LAWS
  -- pc 21: com/example/orderly_tx/orderlytx/PropagationModePinLaw.pick by its contract rm1
  obtain ⟨_, _, ⟨T3, L3, k3, n3⟩, -, X3, ⟨Lc3, hQ3, l3, y3, z3⟩, st3⟩ := Jvm.LawKit.callS X0 hx (y := (⟨"com/example/orderly_tx/orderlytx/PropagationModePinLaw", "pick", "(I)Lcom/example/orderly_tx/orderlytx/Propagation;"⟩ : MethodName)) hown (mvT hZ (hw _ (List.mem_of_getElem? (i := 1) rfl))) (mvT hZ (hw _ (List.mem_of_getElem? (i := 2) rfl))) (mvT hZ (hw _ (List.mem_of_getElem? (i := 3) rfl))) (mvT hZ (hw _ (List.mem_of_getElem? (i := 4) rfl))) (by decide) (backOf (W := 0) (rm1 l Z a0 hw [] ((p1 &&& (2147483647 : Int32)) % (7 : Int32)) w_NESTED w_NEVER w_NOT_SUPPORTED w_MANDATORY w_SUPPORTS w_REQUIRES_NEW w_REQUIRED h0 n0 Z0 S_NESTED S_NEVER S_NOT_SUPPORTED S_MANDATORY S_SUPPORTS S_REQUIRES_NEW S_REQUIRED) hZ (hw _ (List.mem_of_getElem? (i := 4) rfl)) (hw _ (List.mem_of_getElem? (i := 3) rfl)) (by decide) (by decide)) (g := (mkF m 21 #[.val (.int p1), .val (.int p2), .val (.int ((p1 &&& (2147483647 : Int32)) % (7 : Int32))), .val (.int (0 : Int32)), .unset, .unset] [(.int ((p1 &&& (2147483647 : Int32)) % (7 : Int32)))])) rfl (by rw [hml]; rfl) (argsL := [(.int ((p1 &&& (2147483647 : Int32)) % (7 : Int32)))]) (rest := []) (lenOf pd_0_0 rfl) rfl (by show 2 * 0 + _ ≤ _; exact Nat.le_of_eq rfl) (hb hby at_21) (fun _ _ => ⟨rfl, e0, (by decide : 0 + 0 ≤ _), (by decide : 0 + 0 ≤ _)⟩)
  dsimp only [Pt.U, Pt.locs, Pt.cells, Pt.slots] at X3 l3 y3 z3 st3 hQ3
  subst l3 y3 z3
  obtain ⟨rfl, N3q, e3q⟩ := hQ3
  rw [hr3] at st3
  have N3 := Fr.app N0 N3q
  have K3q : Keep h0 T3.heap [] := own_keep e3q
  have KH3 : Keep h0 T3.heap [] := (Keep.refl h0 []).trans K3q own_ws0
  have eh3 : T3.heap = h0 := by rw [e3q]
  -- pc 28: com/example/orderly_tx/orderlytx/PropagationModePinLaw.expected by its contract rm2
  obtain ⟨_, _, ⟨T4, L4, k4, n4⟩, -, X4, ⟨Lc4, hQ4, l4, y4, z4⟩, st4⟩ := Jvm.LawKit.callS X3 hx (y := (⟨"com/example/orderly_tx/orderlytx/PropagationModePinLaw", "expected", "(IZ)Lcom/example/orderly_tx/orderlytx/Propagation$Mode;"⟩ : MethodName)) hown (mvT hZ (hw _ (List.mem_of_getElem? (i := 8) rfl))) (mvT hZ (hw _ (List.mem_of_getElem? (i := 9) rfl))) (mvT hZ (hw _ (List.mem_of_getElem? (i := 3) rfl))) (mvT hZ (hw _ (List.mem_of_getElem? (i := 10) rfl))) (by decide) (backOf (W := 0) (rm2 l Z a0 hw [] ((p1 &&& (2147483647 : Int32)) % (7 : Int32)) (0 : Int32) w_NEW_UNIT w_NO_TRANSACTION w_REFUSED w_JOIN w_SAVEPOINT T3.heap n0 (Nat.le_trans Z0 KH3.1) (by rw [eh3]; exact S_NEW_UNIT) (by rw [eh3]; exact S_NO_TRANSACTION) (by rw [eh3]; exact S_REFUSED) (by rw [eh3]; exact S_JOIN) (by rw [eh3]; exact S_SAVEPOINT)) hZ (hw _ (List.mem_of_getElem? (i := 10) rfl)) (hw _ (List.mem_of_getElem? (i := 3) rfl)) (by decide) (by decide)) (g := (mkF m 28 #[.val (.int p1), .val (.int p2), .val (.int ((p1 &&& (2147483647 : Int32)) % (7 : Int32))), .val (.int (0 : Int32)), .val (.ref r3), .unset] [(.int (0 : Int32)), (.int ((p1 &&& (2147483647 : Int32)) % (7 : Int32)))])) rfl (by rw [hml]; rfl) (argsL := [(.int ((p1 &&& (2147483647 : Int32)) % (7 : Int32))), (.int (0 : Int32))]) (rest := []) (lenOf pd_0_1 rfl) rfl (by show 2 * 0 + _ ≤ _; exact Nat.le_of_eq rfl) (hb hby at_28) (fun _ _ => ⟨rfl, rfl, (by decide : 0 + 0 ≤ _), (by decide : 0 + 0 ≤ _)⟩)
  dsimp only [Pt.U, Pt.locs, Pt.cells, Pt.slots] at X4 l4 y4 z4 st4 hQ4
  subst l4 y4 z4
  obtain ⟨rfl, N4q, e4q⟩ := hQ4
  rw [hr4] at st4
  have N4 := Fr.app N3 N4q
  have K4q : Keep T3.heap T4.heap [] := own_keep e4q
  have KH4 : Keep h0 T4.heap [] := KH3.trans K4q own_ws0
  have eh4 : T4.heap = h0 := by rw [e4q]; exact eh3
  -- pc 36: com/example/orderly_tx/orderlytx/Propagation.mode by the contract of the body that the receiver's class selects, rm3
  -- ✋ yours, out of the call's Q: E_r3 : Exa Z h0 r3 "com/example/orderly_tx/orderlytx/Propagation"
  obtain ⟨cq5, kq5, q5a, q5b, q5c⟩ := isOf hZ rfl ((E_r3.keep K3q).keep K4q)
  obtain ⟨_, _, ⟨T5, L5, k5, n5⟩, -, X5, ⟨Lc5, hQ5, l5, y5, z5⟩, st5⟩ := X4.virtualBack hx (y := (⟨"com/example/orderly_tx/orderlytx/Propagation", "mode", "(Z)Lcom/example/orderly_tx/orderlytx/Propagation$Mode;"⟩ : MethodName)) (z := (⟨"com/example/orderly_tx/orderlytx/Propagation", "mode", "(Z)Lcom/example/orderly_tx/orderlytx/Propagation$Mode;"⟩ : MethodName)) hown (mvT hZ (hw _ (List.mem_of_getElem? (i := 14) rfl))) (mvT hZ (hw _ (List.mem_of_getElem? (i := 15) rfl))) (notFace_of_selects (args := #[]) (mvT hZ (hw _ (List.mem_of_getElem? (i := 17) rfl)))) (mvT hZ (hw _ (List.mem_of_getElem? (i := 17) rfl))) (mvT hZ (hw _ (List.mem_of_getElem? (i := 16) rfl))) (by decide) (backOf (W := 0) (rm3 l Z a0 hw [] r3 (0 : Int32) wn wu T4.heap n0 (Nat.le_trans Z0 KH4.1) (by rw [eh4]; exact Fn) (by rw [eh4]; exact Fu)) hZ (hw _ (List.mem_of_getElem? (i := 18) rfl)) (hw _ (List.mem_of_getElem? (i := 6) rfl)) (by decide) (by decide)) q5a q5c (g := (mkF m 36 #[.val (.int p1), .val (.int p2), .val (.int ((p1 &&& (2147483647 : Int32)) % (7 : Int32))), .val (.int (0 : Int32)), .val (.ref r3), .val (.ref r4)] [(.int (0 : Int32)), (.ref r3)])) rfl (by rw [hml]; rfl) (Steps.refl _) (argsL := [(.int (0 : Int32))]) (rest := []) (lenOf pd_0_2 rfl) rfl (by show 2 * 0 + _ ≤ _; exact Nat.le_of_eq rfl) (hb hby at_36) (fun _ _ => ⟨rfl, rfl, (by decide : 0 + 0 ≤ _), (by decide : 0 + 0 ≤ _)⟩)
  dsimp only [Pt.U, Pt.locs, Pt.cells, Pt.slots] at X5 l5 y5 z5 st5 hQ5
  subst l5 y5 z5
  obtain ⟨rfl, N5q, e5q⟩ := hQ5
  have N5 := Fr.app N4 N5q
  have K5q : Keep T4.heap T5.heap [] := own_keep e5q
  have KH5 : Keep h0 T5.heap [] := KH4.trans K5q own_ws0
  have eh5 : T5.heap = h0 := by rw [e5q]; exact eh4
  obtain ⟨fs, hr, hrun, hended, hW, hsame⟩ := X5.leave (v := some (.int (1 : Int32))) (fun h => by rw [Bd.returns] at h; cases h) (BodyLoose.notSynchronized Bd)
  refine ⟨_, _, pre0 _ ?_, hrun, hended, _, _, rfl, ?_, ⟨_, rfl⟩, hW, hsame.mono (by decide) (by decide)⟩
  -- 4. STEPS
  · show Steps p.tables e below (s₁.setTop (mkF m 0 #[.val (.int p1), .val (.int p2), .unset, .unset, .unset, .unset] [])) _
    refine XS.iloadN X0.here hx rfl (hb hby at_0) rfl ?_
    show Steps p.tables e below (s₁.setTop (mkF m 1 #[.val (.int p1), .val (.int p2), .unset, .unset, .unset, .unset] [(.int p1)])) _
    refine X0.ldcInt hx hown (mvT hZ (hw _ (List.mem_of_getElem? (i := 0) rfl))) (g := (mkF m 1 #[.val (.int p1), .val (.int p2), .unset, .unset, .unset, .unset] [(.int p1)])) rfl (hb hby at_1) _ ?_
    show Steps p.tables e below (s₁.setTop (mkF m 3 #[.val (.int p1), .val (.int p2), .unset, .unset, .unset, .unset] [(.int (2147483647 : Int32)), (.int p1)])) _
    refine XS.iand X0.here hx rfl (hb hby at_3) rfl ?_
    show Steps p.tables e below (s₁.setTop (mkF m 4 #[.val (.int p1), .val (.int p2), .unset, .unset, .unset, .unset] [(.int (p1 &&& (2147483647 : Int32)))])) _
    refine XS.bipush X0.here hx rfl (hb hby at_4) ?_
    show Steps p.tables e below (s₁.setTop (mkF m 6 #[.val (.int p1), .val (.int p2), .unset, .unset, .unset, .unset] [(.int (7 : Int32)), (.int (p1 &&& (2147483647 : Int32)))])) _
    refine Jvm.RoadKit.iremM X0 hx rfl (hb hby at_6) rfl (by decide) ?_
    show Steps p.tables e below (s₁.setTop (mkF m 7 #[.val (.int p1), .val (.int p2), .unset, .unset, .unset, .unset] [(.int ((p1 &&& (2147483647 : Int32)) % (7 : Int32)))])) _
    refine XS.istoreN X0.here hx rfl (hb hby at_7) rfl (l' := #[.val (.int p1), .val (.int p2), .val (.int ((p1 &&& (2147483647 : Int32)) % (7 : Int32))), .unset, .unset, .unset]) rfl ?_
    show Steps p.tables e below (s₁.setTop (mkF m 8 #[.val (.int p1), .val (.int p2), .val (.int ((p1 &&& (2147483647 : Int32)) % (7 : Int32))), .unset, .unset, .unset] [])) _
    refine XS.iloadN X0.here hx rfl (hb hby at_8) rfl ?_
    show Steps p.tables e below (s₁.setTop (mkF m 9 #[.val (.int p1), .val (.int p2), .val (.int ((p1 &&& (2147483647 : Int32)) % (7 : Int32))), .unset, .unset, .unset] [(.int p2)])) _
    refine XS.iconst X0.here hx rfl (hb hby at_9) ?_
    show Steps p.tables e below (s₁.setTop (mkF m 10 #[.val (.int p1), .val (.int p2), .val (.int ((p1 &&& (2147483647 : Int32)) % (7 : Int32))), .unset, .unset, .unset] [(.int (1 : Int32)), (.int p2)])) _
    refine XS.iand X0.here hx rfl (hb hby at_10) rfl ?_
    show Steps p.tables e below (s₁.setTop (mkF m 11 #[.val (.int p1), .val (.int p2), .val (.int ((p1 &&& (2147483647 : Int32)) % (7 : Int32))), .unset, .unset, .unset] [(.int (p2 &&& (1 : Int32)))])) _
    refine XS.ifYes X0.here hx rfl (pc0 := 11) (pc' := 18) rfl (hb hby at_11) rfl ((if0 _ _).trans (teq hc11).1) (by decide) (by decide) ?_
    show Steps p.tables e below (s₁.setTop (mkF m 18 #[.val (.int p1), .val (.int p2), .val (.int ((p1 &&& (2147483647 : Int32)) % (7 : Int32))), .unset, .unset, .unset] [])) _
    refine XS.iconst X0.here hx rfl (hb hby at_18) ?_
    show Steps p.tables e below (s₁.setTop (mkF m 19 #[.val (.int p1), .val (.int p2), .val (.int ((p1 &&& (2147483647 : Int32)) % (7 : Int32))), .unset, .unset, .unset] [(.int (0 : Int32))])) _
    refine XS.istoreN X0.here hx rfl (hb hby at_19) rfl (l' := #[.val (.int p1), .val (.int p2), .val (.int ((p1 &&& (2147483647 : Int32)) % (7 : Int32))), .val (.int (0 : Int32)), .unset, .unset]) rfl ?_
    show Steps p.tables e below (s₁.setTop (mkF m 20 #[.val (.int p1), .val (.int p2), .val (.int ((p1 &&& (2147483647 : Int32)) % (7 : Int32))), .val (.int (0 : Int32)), .unset, .unset] [])) _
    refine XS.iloadN X0.here hx rfl (hb hby at_20) rfl ?_
    show Steps p.tables e below (s₁.setTop (mkF m 21 #[.val (.int p1), .val (.int p2), .val (.int ((p1 &&& (2147483647 : Int32)) % (7 : Int32))), .val (.int (0 : Int32)), .unset, .unset] [(.int ((p1 &&& (2147483647 : Int32)) % (7 : Int32)))])) _
    refine st3 _ ?_
    show Steps p.tables e below (T3.setTop (mkF m 24 #[.val (.int p1), .val (.int p2), .val (.int ((p1 &&& (2147483647 : Int32)) % (7 : Int32))), .val (.int (0 : Int32)), .unset, .unset] [(.ref r3)])) _
    refine XS.astore X3.here hx rfl (hb hby at_24) rfl rfl (l' := #[.val (.int p1), .val (.int p2), .val (.int ((p1 &&& (2147483647 : Int32)) % (7 : Int32))), .val (.int (0 : Int32)), .val (.ref r3), .unset]) rfl ?_
    show Steps p.tables e below (T3.setTop (mkF m 26 #[.val (.int p1), .val (.int p2), .val (.int ((p1 &&& (2147483647 : Int32)) % (7 : Int32))), .val (.int (0 : Int32)), .val (.ref r3), .unset] [])) _
    refine XS.iloadN X3.here hx rfl (hb hby at_26) rfl ?_
    show Steps p.tables e below (T3.setTop (mkF m 27 #[.val (.int p1), .val (.int p2), .val (.int ((p1 &&& (2147483647 : Int32)) % (7 : Int32))), .val (.int (0 : Int32)), .val (.ref r3), .unset] [(.int ((p1 &&& (2147483647 : Int32)) % (7 : Int32)))])) _
    refine XS.iloadN X3.here hx rfl (hb hby at_27) rfl ?_
    show Steps p.tables e below (T3.setTop (mkF m 28 #[.val (.int p1), .val (.int p2), .val (.int ((p1 &&& (2147483647 : Int32)) % (7 : Int32))), .val (.int (0 : Int32)), .val (.ref r3), .unset] [(.int (0 : Int32)), (.int ((p1 &&& (2147483647 : Int32)) % (7 : Int32)))])) _
    refine st4 _ ?_
    show Steps p.tables e below (T4.setTop (mkF m 31 #[.val (.int p1), .val (.int p2), .val (.int ((p1 &&& (2147483647 : Int32)) % (7 : Int32))), .val (.int (0 : Int32)), .val (.ref r3), .unset] [(.ref r4)])) _
    refine XS.astore X4.here hx rfl (hb hby at_31) rfl rfl (l' := #[.val (.int p1), .val (.int p2), .val (.int ((p1 &&& (2147483647 : Int32)) % (7 : Int32))), .val (.int (0 : Int32)), .val (.ref r3), .val (.ref r4)]) rfl ?_
    show Steps p.tables e below (T4.setTop (mkF m 33 #[.val (.int p1), .val (.int p2), .val (.int ((p1 &&& (2147483647 : Int32)) % (7 : Int32))), .val (.int (0 : Int32)), .val (.ref r3), .val (.ref r4)] [])) _
    refine XS.aload X4.here hx rfl (hb hby at_33) rfl rfl ?_
    show Steps p.tables e below (T4.setTop (mkF m 35 #[.val (.int p1), .val (.int p2), .val (.int ((p1 &&& (2147483647 : Int32)) % (7 : Int32))), .val (.int (0 : Int32)), .val (.ref r3), .val (.ref r4)] [(.ref r3)])) _
    refine XS.iloadN X4.here hx rfl (hb hby at_35) rfl ?_
    show Steps p.tables e below (T4.setTop (mkF m 36 #[.val (.int p1), .val (.int p2), .val (.int ((p1 &&& (2147483647 : Int32)) % (7 : Int32))), .val (.int (0 : Int32)), .val (.ref r3), .val (.ref r4)] [(.int (0 : Int32)), (.ref r3)])) _
    refine st5.trans ?_
    show Steps p.tables e below (T5.setTop (mkF m 39 #[.val (.int p1), .val (.int p2), .val (.int ((p1 &&& (2147483647 : Int32)) % (7 : Int32))), .val (.int (0 : Int32)), .val (.ref r3), .val (.ref r4)] [(.ref (own_f3 (0 : Int32) wn wu))])) _
    refine XS.aload X5.here hx rfl (hb hby at_39) rfl rfl ?_
    show Steps p.tables e below (T5.setTop (mkF m 41 #[.val (.int p1), .val (.int p2), .val (.int ((p1 &&& (2147483647 : Int32)) % (7 : Int32))), .val (.int (0 : Int32)), .val (.ref r3), .val (.ref r4)] [(.ref r4), (.ref (own_f3 (0 : Int32) wn wu))])) _
    refine Jvm.RoadKit.acmp (g := (mkF m 41 #[.val (.int p1), .val (.int p2), .val (.int ((p1 &&& (2147483647 : Int32)) % (7 : Int32))), .val (.int (0 : Int32)), .val (.ref r3), .val (.ref r4)] [(.ref r4), (.ref (own_f3 (0 : Int32) wn wu))])) X5 hx rfl rfl rfl (pc0 := 41) (pc' := 44) (same := true) rfl (hb hby at_41) rfl (decide_eq_true (congrArg Value.ref ha41)) (by decide) (by decide) ?_
    show Steps p.tables e below (T5.setTop (mkF m 44 #[.val (.int p1), .val (.int p2), .val (.int ((p1 &&& (2147483647 : Int32)) % (7 : Int32))), .val (.int (0 : Int32)), .val (.ref r3), .val (.ref r4)] [])) _
    refine XS.iconst X5.here hx rfl (hb hby at_44) ?_
    show Steps p.tables e below (T5.setTop (mkF m 45 #[.val (.int p1), .val (.int p2), .val (.int ((p1 &&& (2147483647 : Int32)) % (7 : Int32))), .val (.int (0 : Int32)), .val (.ref r3), .val (.ref r4)] [(.int (1 : Int32))])) _
    refine XS.goto X5.here hx rfl (pc0 := 45) (pc' := 49) rfl (hb hby at_45) (by decide) (by decide) ?_
    show Steps p.tables e below (T5.setTop (mkF m 49 #[.val (.int p1), .val (.int p2), .val (.int ((p1 &&& (2147483647 : Int32)) % (7 : Int32))), .val (.int (0 : Int32)), .val (.ref r3), .val (.ref r4)] [(.int (1 : Int32))])) _
    exact retN X5 hx (t := .boolean) Bd.returns (by simp) (hb hby at_49) hr
  · show Q0 Z h0 n0 _ T5.heap _
    exact ⟨rfl, N5⟩
set_option maxRecDepth 65536 in
set_option maxHeartbeats 40000000 in
theorem rm0_f (l : Launch) (Z : State) (a0 : Array Value) (hw : ∀ d ∈ tables_1, d.before a0 Z = true) (ws : List Jvm.Cond) (p1 : Int32) (p2 : Int32) (w_NESTED : Addr) (w_NEVER : Addr) (w_NOT_SUPPORTED : Addr) (w_MANDATORY : Addr) (w_SUPPORTS : Addr) (w_REQUIRES_NEW : Addr) (w_REQUIRED : Addr) (w_NEW_UNIT : Addr) (w_NO_TRANSACTION : Addr) (w_REFUSED : Addr) (w_JOIN : Addr) (w_SAVEPOINT : Addr) (wu : Addr) (wn : Addr) (r3 : Addr) (r4 : Addr) (h0 : Heap) (n0 : Nat) (Z0 : n0 ≤ h0.size) (S_NESTED : Sta Z h0 "com/example/orderly_tx/orderlytx/Propagation" "NESTED" "Lcom/example/orderly_tx/orderlytx/Propagation;" (.ref w_NESTED)) (S_NEVER : Sta Z h0 "com/example/orderly_tx/orderlytx/Propagation" "NEVER" "Lcom/example/orderly_tx/orderlytx/Propagation;" (.ref w_NEVER)) (S_NOT_SUPPORTED : Sta Z h0 "com/example/orderly_tx/orderlytx/Propagation" "NOT_SUPPORTED" "Lcom/example/orderly_tx/orderlytx/Propagation;" (.ref w_NOT_SUPPORTED)) (S_MANDATORY : Sta Z h0 "com/example/orderly_tx/orderlytx/Propagation" "MANDATORY" "Lcom/example/orderly_tx/orderlytx/Propagation;" (.ref w_MANDATORY)) (S_SUPPORTS : Sta Z h0 "com/example/orderly_tx/orderlytx/Propagation" "SUPPORTS" "Lcom/example/orderly_tx/orderlytx/Propagation;" (.ref w_SUPPORTS)) (S_REQUIRES_NEW : Sta Z h0 "com/example/orderly_tx/orderlytx/Propagation" "REQUIRES_NEW" "Lcom/example/orderly_tx/orderlytx/Propagation;" (.ref w_REQUIRES_NEW)) (S_REQUIRED : Sta Z h0 "com/example/orderly_tx/orderlytx/Propagation" "REQUIRED" "Lcom/example/orderly_tx/orderlytx/Propagation;" (.ref w_REQUIRED)) (S_NEW_UNIT : Sta Z h0 "com/example/orderly_tx/orderlytx/Propagation$Mode" "NEW_UNIT" "Lcom/example/orderly_tx/orderlytx/Propagation$Mode;" (.ref w_NEW_UNIT)) (S_NO_TRANSACTION : Sta Z h0 "com/example/orderly_tx/orderlytx/Propagation$Mode" "NO_TRANSACTION" "Lcom/example/orderly_tx/orderlytx/Propagation$Mode;" (.ref w_NO_TRANSACTION)) (S_REFUSED : Sta Z h0 "com/example/orderly_tx/orderlytx/Propagation$Mode" "REFUSED" "Lcom/example/orderly_tx/orderlytx/Propagation$Mode;" (.ref w_REFUSED)) (S_JOIN : Sta Z h0 "com/example/orderly_tx/orderlytx/Propagation$Mode" "JOIN" "Lcom/example/orderly_tx/orderlytx/Propagation$Mode;" (.ref w_JOIN)) (S_SAVEPOINT : Sta Z h0 "com/example/orderly_tx/orderlytx/Propagation$Mode" "SAVEPOINT" "Lcom/example/orderly_tx/orderlytx/Propagation$Mode;" (.ref w_SAVEPOINT)) (E_r3 : Exa Z h0 r3 "com/example/orderly_tx/orderlytx/Propagation") (Fu : Fld Z h0 r3 "com/example/orderly_tx/orderlytx/Propagation" "whenUnitIsCurrent" "Lcom/example/orderly_tx/orderlytx/Propagation$Mode;" (.ref wu)) (Fn : Fld Z h0 r3 "com/example/orderly_tx/orderlytx/Propagation" "whenNoUnitIsCurrent" "Lcom/example/orderly_tx/orderlytx/Propagation$Mode;" (.ref wn)) (hr3 : (own_f1 ((p1 &&& (2147483647 : Int32)) % (7 : Int32)) w_NESTED w_NEVER w_NOT_SUPPORTED w_MANDATORY w_SUPPORTS w_REQUIRES_NEW w_REQUIRED) = r3) (hr4 : (own_f2 ((p1 &&& (2147483647 : Int32)) % (7 : Int32)) (1 : Int32) w_NEW_UNIT w_NO_TRANSACTION w_REFUSED w_JOIN w_SAVEPOINT) = r4) (hc11 : ¬ ((p2 &&& (1 : Int32)) = (0 : Int32))) (ha41 : (own_f3 (1 : Int32) wn wu) = r4) :
    MetFree l x (head1 (Jvm.Cond.code x code maxLocals ret :: ws) room_1) (fun a U => a = #[(.int p1), (.int p2)] ∧ Z.Warmed39 U.vm ∧ U.heap = h0) (fun _ _ _ _ _ => True) (fun _ U o U' => ∃ v L, o = .returned v ∧ Q0 Z h0 n0 v U'.heap L ∧ FrameEnd U o U' L room_1.cells room_1.slots) := by
  refine MetFree.of_bodySF (plainFor_of_name pn_0) hisR ?_
  intro p e s m args below meth c s₁ Bd hml0 hP hK
  obtain ⟨rfl, hZ, hh⟩ := hP
  have hx := Bd.exec
  have hby := Bd.bytes
  have hml : c.maxLocals = 6 := hml0
  have hown : s.vm.findClass "com/example/orderly_tx/orderlytx/PropagationModePinLaw" = some m.cls := findClass_of_methodNamed Bd.named
  have hnm := (name_of_methodNamed Bd.named Bd.method).1
  have X0 : Stand p l e room_1 s m #[(.int p1), (.int p2)] below meth c s₁ [] 0 0 := Stand.of_body Bd
  have e0 : s₁.heap = h0 := by rw [← hh, Bd.state]; rfl
  have N0 := Fr.nil n0
  have pre0 : ∀ t, Steps p.tables e below (s₁.setTop (mkF m 0 #[.val (.int p1), .val (.int p2), .unset, .unset, .unset, .unset] [])) t → Steps p.tables e below (s₁.setTop (entryFrame m #[(.int p1), (.int p2)] maxLocals)) t := fun t k => castTop (ef_0 m p1 p2) k
  -- 3. LAWS
  -- pc 21: com/example/orderly_tx/orderlytx/PropagationModePinLaw.pick by its contract rm1
  obtain ⟨_, _, ⟨T3, L3, k3, n3⟩, -, X3, ⟨Lc3, hQ3, l3, y3, z3⟩, st3⟩ := Jvm.LawKit.callS X0 hx (y := (⟨"com/example/orderly_tx/orderlytx/PropagationModePinLaw", "pick", "(I)Lcom/example/orderly_tx/orderlytx/Propagation;"⟩ : MethodName)) hown (mvT hZ (hw _ (List.mem_of_getElem? (i := 1) rfl))) (mvT hZ (hw _ (List.mem_of_getElem? (i := 2) rfl))) (mvT hZ (hw _ (List.mem_of_getElem? (i := 3) rfl))) (mvT hZ (hw _ (List.mem_of_getElem? (i := 4) rfl))) (by decide) (backOf (W := 0) (rm1 l Z a0 hw [] ((p1 &&& (2147483647 : Int32)) % (7 : Int32)) w_NESTED w_NEVER w_NOT_SUPPORTED w_MANDATORY w_SUPPORTS w_REQUIRES_NEW w_REQUIRED h0 n0 Z0 S_NESTED S_NEVER S_NOT_SUPPORTED S_MANDATORY S_SUPPORTS S_REQUIRES_NEW S_REQUIRED) hZ (hw _ (List.mem_of_getElem? (i := 4) rfl)) (hw _ (List.mem_of_getElem? (i := 3) rfl)) (by decide) (by decide)) (g := (mkF m 21 #[.val (.int p1), .val (.int p2), .val (.int ((p1 &&& (2147483647 : Int32)) % (7 : Int32))), .val (.int (1 : Int32)), .unset, .unset] [(.int ((p1 &&& (2147483647 : Int32)) % (7 : Int32)))])) rfl (by rw [hml]; rfl) (argsL := [(.int ((p1 &&& (2147483647 : Int32)) % (7 : Int32)))]) (rest := []) (lenOf pd_0_0 rfl) rfl (by show 2 * 0 + _ ≤ _; exact Nat.le_of_eq rfl) (hb hby at_21) (fun _ _ => ⟨rfl, e0, (by decide : 0 + 0 ≤ _), (by decide : 0 + 0 ≤ _)⟩)
  dsimp only [Pt.U, Pt.locs, Pt.cells, Pt.slots] at X3 l3 y3 z3 st3 hQ3
  subst l3 y3 z3
  obtain ⟨rfl, N3q, e3q⟩ := hQ3
  rw [hr3] at st3
  have N3 := Fr.app N0 N3q
  have K3q : Keep h0 T3.heap [] := own_keep e3q
  have KH3 : Keep h0 T3.heap [] := (Keep.refl h0 []).trans K3q own_ws0
  have eh3 : T3.heap = h0 := by rw [e3q]
  -- pc 28: com/example/orderly_tx/orderlytx/PropagationModePinLaw.expected by its contract rm2
  obtain ⟨_, _, ⟨T4, L4, k4, n4⟩, -, X4, ⟨Lc4, hQ4, l4, y4, z4⟩, st4⟩ := Jvm.LawKit.callS X3 hx (y := (⟨"com/example/orderly_tx/orderlytx/PropagationModePinLaw", "expected", "(IZ)Lcom/example/orderly_tx/orderlytx/Propagation$Mode;"⟩ : MethodName)) hown (mvT hZ (hw _ (List.mem_of_getElem? (i := 8) rfl))) (mvT hZ (hw _ (List.mem_of_getElem? (i := 9) rfl))) (mvT hZ (hw _ (List.mem_of_getElem? (i := 3) rfl))) (mvT hZ (hw _ (List.mem_of_getElem? (i := 10) rfl))) (by decide) (backOf (W := 0) (rm2 l Z a0 hw [] ((p1 &&& (2147483647 : Int32)) % (7 : Int32)) (1 : Int32) w_NEW_UNIT w_NO_TRANSACTION w_REFUSED w_JOIN w_SAVEPOINT T3.heap n0 (Nat.le_trans Z0 KH3.1) (by rw [eh3]; exact S_NEW_UNIT) (by rw [eh3]; exact S_NO_TRANSACTION) (by rw [eh3]; exact S_REFUSED) (by rw [eh3]; exact S_JOIN) (by rw [eh3]; exact S_SAVEPOINT)) hZ (hw _ (List.mem_of_getElem? (i := 10) rfl)) (hw _ (List.mem_of_getElem? (i := 3) rfl)) (by decide) (by decide)) (g := (mkF m 28 #[.val (.int p1), .val (.int p2), .val (.int ((p1 &&& (2147483647 : Int32)) % (7 : Int32))), .val (.int (1 : Int32)), .val (.ref r3), .unset] [(.int (1 : Int32)), (.int ((p1 &&& (2147483647 : Int32)) % (7 : Int32)))])) rfl (by rw [hml]; rfl) (argsL := [(.int ((p1 &&& (2147483647 : Int32)) % (7 : Int32))), (.int (1 : Int32))]) (rest := []) (lenOf pd_0_1 rfl) rfl (by show 2 * 0 + _ ≤ _; exact Nat.le_of_eq rfl) (hb hby at_28) (fun _ _ => ⟨rfl, rfl, (by decide : 0 + 0 ≤ _), (by decide : 0 + 0 ≤ _)⟩)
  dsimp only [Pt.U, Pt.locs, Pt.cells, Pt.slots] at X4 l4 y4 z4 st4 hQ4
  subst l4 y4 z4
  obtain ⟨rfl, N4q, e4q⟩ := hQ4
  rw [hr4] at st4
  have N4 := Fr.app N3 N4q
  have K4q : Keep T3.heap T4.heap [] := own_keep e4q
  have KH4 : Keep h0 T4.heap [] := KH3.trans K4q own_ws0
  have eh4 : T4.heap = h0 := by rw [e4q]; exact eh3
  -- pc 36: com/example/orderly_tx/orderlytx/Propagation.mode by the contract of the body that the receiver's class selects, rm3
  -- ✋ yours, out of the call's Q: E_r3 : Exa Z h0 r3 "com/example/orderly_tx/orderlytx/Propagation"
  obtain ⟨cq5, kq5, q5a, q5b, q5c⟩ := isOf hZ rfl ((E_r3.keep K3q).keep K4q)
  obtain ⟨_, _, ⟨T5, L5, k5, n5⟩, -, X5, ⟨Lc5, hQ5, l5, y5, z5⟩, st5⟩ := X4.virtualBack hx (y := (⟨"com/example/orderly_tx/orderlytx/Propagation", "mode", "(Z)Lcom/example/orderly_tx/orderlytx/Propagation$Mode;"⟩ : MethodName)) (z := (⟨"com/example/orderly_tx/orderlytx/Propagation", "mode", "(Z)Lcom/example/orderly_tx/orderlytx/Propagation$Mode;"⟩ : MethodName)) hown (mvT hZ (hw _ (List.mem_of_getElem? (i := 14) rfl))) (mvT hZ (hw _ (List.mem_of_getElem? (i := 15) rfl))) (notFace_of_selects (args := #[]) (mvT hZ (hw _ (List.mem_of_getElem? (i := 17) rfl)))) (mvT hZ (hw _ (List.mem_of_getElem? (i := 17) rfl))) (mvT hZ (hw _ (List.mem_of_getElem? (i := 16) rfl))) (by decide) (backOf (W := 0) (rm3 l Z a0 hw [] r3 (1 : Int32) wn wu T4.heap n0 (Nat.le_trans Z0 KH4.1) (by rw [eh4]; exact Fn) (by rw [eh4]; exact Fu)) hZ (hw _ (List.mem_of_getElem? (i := 18) rfl)) (hw _ (List.mem_of_getElem? (i := 6) rfl)) (by decide) (by decide)) q5a q5c (g := (mkF m 36 #[.val (.int p1), .val (.int p2), .val (.int ((p1 &&& (2147483647 : Int32)) % (7 : Int32))), .val (.int (1 : Int32)), .val (.ref r3), .val (.ref r4)] [(.int (1 : Int32)), (.ref r3)])) rfl (by rw [hml]; rfl) (Steps.refl _) (argsL := [(.int (1 : Int32))]) (rest := []) (lenOf pd_0_2 rfl) rfl (by show 2 * 0 + _ ≤ _; exact Nat.le_of_eq rfl) (hb hby at_36) (fun _ _ => ⟨rfl, rfl, (by decide : 0 + 0 ≤ _), (by decide : 0 + 0 ≤ _)⟩)
  dsimp only [Pt.U, Pt.locs, Pt.cells, Pt.slots] at X5 l5 y5 z5 st5 hQ5
  subst l5 y5 z5
  obtain ⟨rfl, N5q, e5q⟩ := hQ5
  have N5 := Fr.app N4 N5q
  have K5q : Keep T4.heap T5.heap [] := own_keep e5q
  have KH5 : Keep h0 T5.heap [] := KH4.trans K5q own_ws0
  have eh5 : T5.heap = h0 := by rw [e5q]; exact eh4
  obtain ⟨fs, hr, hrun, hended, hW, hsame⟩ := X5.leave (v := some (.int (1 : Int32))) (fun h => by rw [Bd.returns] at h; cases h) (BodyLoose.notSynchronized Bd)
  refine ⟨_, _, pre0 _ ?_, hrun, hended, _, _, rfl, ?_, ⟨_, rfl⟩, hW, hsame.mono (by decide) (by decide)⟩
  -- 4. STEPS
  · show Steps p.tables e below (s₁.setTop (mkF m 0 #[.val (.int p1), .val (.int p2), .unset, .unset, .unset, .unset] [])) _
    refine XS.iloadN X0.here hx rfl (hb hby at_0) rfl ?_
    show Steps p.tables e below (s₁.setTop (mkF m 1 #[.val (.int p1), .val (.int p2), .unset, .unset, .unset, .unset] [(.int p1)])) _
    refine X0.ldcInt hx hown (mvT hZ (hw _ (List.mem_of_getElem? (i := 0) rfl))) (g := (mkF m 1 #[.val (.int p1), .val (.int p2), .unset, .unset, .unset, .unset] [(.int p1)])) rfl (hb hby at_1) _ ?_
    show Steps p.tables e below (s₁.setTop (mkF m 3 #[.val (.int p1), .val (.int p2), .unset, .unset, .unset, .unset] [(.int (2147483647 : Int32)), (.int p1)])) _
    refine XS.iand X0.here hx rfl (hb hby at_3) rfl ?_
    show Steps p.tables e below (s₁.setTop (mkF m 4 #[.val (.int p1), .val (.int p2), .unset, .unset, .unset, .unset] [(.int (p1 &&& (2147483647 : Int32)))])) _
    refine XS.bipush X0.here hx rfl (hb hby at_4) ?_
    show Steps p.tables e below (s₁.setTop (mkF m 6 #[.val (.int p1), .val (.int p2), .unset, .unset, .unset, .unset] [(.int (7 : Int32)), (.int (p1 &&& (2147483647 : Int32)))])) _
    refine Jvm.RoadKit.iremM X0 hx rfl (hb hby at_6) rfl (by decide) ?_
    show Steps p.tables e below (s₁.setTop (mkF m 7 #[.val (.int p1), .val (.int p2), .unset, .unset, .unset, .unset] [(.int ((p1 &&& (2147483647 : Int32)) % (7 : Int32)))])) _
    refine XS.istoreN X0.here hx rfl (hb hby at_7) rfl (l' := #[.val (.int p1), .val (.int p2), .val (.int ((p1 &&& (2147483647 : Int32)) % (7 : Int32))), .unset, .unset, .unset]) rfl ?_
    show Steps p.tables e below (s₁.setTop (mkF m 8 #[.val (.int p1), .val (.int p2), .val (.int ((p1 &&& (2147483647 : Int32)) % (7 : Int32))), .unset, .unset, .unset] [])) _
    refine XS.iloadN X0.here hx rfl (hb hby at_8) rfl ?_
    show Steps p.tables e below (s₁.setTop (mkF m 9 #[.val (.int p1), .val (.int p2), .val (.int ((p1 &&& (2147483647 : Int32)) % (7 : Int32))), .unset, .unset, .unset] [(.int p2)])) _
    refine XS.iconst X0.here hx rfl (hb hby at_9) ?_
    show Steps p.tables e below (s₁.setTop (mkF m 10 #[.val (.int p1), .val (.int p2), .val (.int ((p1 &&& (2147483647 : Int32)) % (7 : Int32))), .unset, .unset, .unset] [(.int (1 : Int32)), (.int p2)])) _
    refine XS.iand X0.here hx rfl (hb hby at_10) rfl ?_
    show Steps p.tables e below (s₁.setTop (mkF m 11 #[.val (.int p1), .val (.int p2), .val (.int ((p1 &&& (2147483647 : Int32)) % (7 : Int32))), .unset, .unset, .unset] [(.int (p2 &&& (1 : Int32)))])) _
    refine XS.ifNo X0.here hx rfl (hb hby at_11) rfl ((if0 _ _).trans (feq hc11).1) ?_
    show Steps p.tables e below (s₁.setTop (mkF m 14 #[.val (.int p1), .val (.int p2), .val (.int ((p1 &&& (2147483647 : Int32)) % (7 : Int32))), .unset, .unset, .unset] [])) _
    refine XS.iconst X0.here hx rfl (hb hby at_14) ?_
    show Steps p.tables e below (s₁.setTop (mkF m 15 #[.val (.int p1), .val (.int p2), .val (.int ((p1 &&& (2147483647 : Int32)) % (7 : Int32))), .unset, .unset, .unset] [(.int (1 : Int32))])) _
    refine XS.goto X0.here hx rfl (pc0 := 15) (pc' := 19) rfl (hb hby at_15) (by decide) (by decide) ?_
    show Steps p.tables e below (s₁.setTop (mkF m 19 #[.val (.int p1), .val (.int p2), .val (.int ((p1 &&& (2147483647 : Int32)) % (7 : Int32))), .unset, .unset, .unset] [(.int (1 : Int32))])) _
    refine XS.istoreN X0.here hx rfl (hb hby at_19) rfl (l' := #[.val (.int p1), .val (.int p2), .val (.int ((p1 &&& (2147483647 : Int32)) % (7 : Int32))), .val (.int (1 : Int32)), .unset, .unset]) rfl ?_
    show Steps p.tables e below (s₁.setTop (mkF m 20 #[.val (.int p1), .val (.int p2), .val (.int ((p1 &&& (2147483647 : Int32)) % (7 : Int32))), .val (.int (1 : Int32)), .unset, .unset] [])) _
    refine XS.iloadN X0.here hx rfl (hb hby at_20) rfl ?_
    show Steps p.tables e below (s₁.setTop (mkF m 21 #[.val (.int p1), .val (.int p2), .val (.int ((p1 &&& (2147483647 : Int32)) % (7 : Int32))), .val (.int (1 : Int32)), .unset, .unset] [(.int ((p1 &&& (2147483647 : Int32)) % (7 : Int32)))])) _
    refine st3 _ ?_
    show Steps p.tables e below (T3.setTop (mkF m 24 #[.val (.int p1), .val (.int p2), .val (.int ((p1 &&& (2147483647 : Int32)) % (7 : Int32))), .val (.int (1 : Int32)), .unset, .unset] [(.ref r3)])) _
    refine XS.astore X3.here hx rfl (hb hby at_24) rfl rfl (l' := #[.val (.int p1), .val (.int p2), .val (.int ((p1 &&& (2147483647 : Int32)) % (7 : Int32))), .val (.int (1 : Int32)), .val (.ref r3), .unset]) rfl ?_
    show Steps p.tables e below (T3.setTop (mkF m 26 #[.val (.int p1), .val (.int p2), .val (.int ((p1 &&& (2147483647 : Int32)) % (7 : Int32))), .val (.int (1 : Int32)), .val (.ref r3), .unset] [])) _
    refine XS.iloadN X3.here hx rfl (hb hby at_26) rfl ?_
    show Steps p.tables e below (T3.setTop (mkF m 27 #[.val (.int p1), .val (.int p2), .val (.int ((p1 &&& (2147483647 : Int32)) % (7 : Int32))), .val (.int (1 : Int32)), .val (.ref r3), .unset] [(.int ((p1 &&& (2147483647 : Int32)) % (7 : Int32)))])) _
    refine XS.iloadN X3.here hx rfl (hb hby at_27) rfl ?_
    show Steps p.tables e below (T3.setTop (mkF m 28 #[.val (.int p1), .val (.int p2), .val (.int ((p1 &&& (2147483647 : Int32)) % (7 : Int32))), .val (.int (1 : Int32)), .val (.ref r3), .unset] [(.int (1 : Int32)), (.int ((p1 &&& (2147483647 : Int32)) % (7 : Int32)))])) _
    refine st4 _ ?_
    show Steps p.tables e below (T4.setTop (mkF m 31 #[.val (.int p1), .val (.int p2), .val (.int ((p1 &&& (2147483647 : Int32)) % (7 : Int32))), .val (.int (1 : Int32)), .val (.ref r3), .unset] [(.ref r4)])) _
    refine XS.astore X4.here hx rfl (hb hby at_31) rfl rfl (l' := #[.val (.int p1), .val (.int p2), .val (.int ((p1 &&& (2147483647 : Int32)) % (7 : Int32))), .val (.int (1 : Int32)), .val (.ref r3), .val (.ref r4)]) rfl ?_
    show Steps p.tables e below (T4.setTop (mkF m 33 #[.val (.int p1), .val (.int p2), .val (.int ((p1 &&& (2147483647 : Int32)) % (7 : Int32))), .val (.int (1 : Int32)), .val (.ref r3), .val (.ref r4)] [])) _
    refine XS.aload X4.here hx rfl (hb hby at_33) rfl rfl ?_
    show Steps p.tables e below (T4.setTop (mkF m 35 #[.val (.int p1), .val (.int p2), .val (.int ((p1 &&& (2147483647 : Int32)) % (7 : Int32))), .val (.int (1 : Int32)), .val (.ref r3), .val (.ref r4)] [(.ref r3)])) _
    refine XS.iloadN X4.here hx rfl (hb hby at_35) rfl ?_
    show Steps p.tables e below (T4.setTop (mkF m 36 #[.val (.int p1), .val (.int p2), .val (.int ((p1 &&& (2147483647 : Int32)) % (7 : Int32))), .val (.int (1 : Int32)), .val (.ref r3), .val (.ref r4)] [(.int (1 : Int32)), (.ref r3)])) _
    refine st5.trans ?_
    show Steps p.tables e below (T5.setTop (mkF m 39 #[.val (.int p1), .val (.int p2), .val (.int ((p1 &&& (2147483647 : Int32)) % (7 : Int32))), .val (.int (1 : Int32)), .val (.ref r3), .val (.ref r4)] [(.ref (own_f3 (1 : Int32) wn wu))])) _
    refine XS.aload X5.here hx rfl (hb hby at_39) rfl rfl ?_
    show Steps p.tables e below (T5.setTop (mkF m 41 #[.val (.int p1), .val (.int p2), .val (.int ((p1 &&& (2147483647 : Int32)) % (7 : Int32))), .val (.int (1 : Int32)), .val (.ref r3), .val (.ref r4)] [(.ref r4), (.ref (own_f3 (1 : Int32) wn wu))])) _
    refine Jvm.RoadKit.acmp (g := (mkF m 41 #[.val (.int p1), .val (.int p2), .val (.int ((p1 &&& (2147483647 : Int32)) % (7 : Int32))), .val (.int (1 : Int32)), .val (.ref r3), .val (.ref r4)] [(.ref r4), (.ref (own_f3 (1 : Int32) wn wu))])) X5 hx rfl rfl rfl (pc0 := 41) (pc' := 44) (same := true) rfl (hb hby at_41) rfl (decide_eq_true (congrArg Value.ref ha41)) (by decide) (by decide) ?_
    show Steps p.tables e below (T5.setTop (mkF m 44 #[.val (.int p1), .val (.int p2), .val (.int ((p1 &&& (2147483647 : Int32)) % (7 : Int32))), .val (.int (1 : Int32)), .val (.ref r3), .val (.ref r4)] [])) _
    refine XS.iconst X5.here hx rfl (hb hby at_44) ?_
    show Steps p.tables e below (T5.setTop (mkF m 45 #[.val (.int p1), .val (.int p2), .val (.int ((p1 &&& (2147483647 : Int32)) % (7 : Int32))), .val (.int (1 : Int32)), .val (.ref r3), .val (.ref r4)] [(.int (1 : Int32))])) _
    refine XS.goto X5.here hx rfl (pc0 := 45) (pc' := 49) rfl (hb hby at_45) (by decide) (by decide) ?_
    show Steps p.tables e below (T5.setTop (mkF m 49 #[.val (.int p1), .val (.int p2), .val (.int ((p1 &&& (2147483647 : Int32)) % (7 : Int32))), .val (.int (1 : Int32)), .val (.ref r3), .val (.ref r4)] [(.int (1 : Int32))])) _
    exact retN X5 hx (t := .boolean) Bd.returns (by simp) (hb hby at_49) hr
  · show Q0 Z h0 n0 _ T5.heap _
    exact ⟨rfl, N5⟩
theorem own_rem7 (p : Int32) : ((p &&& (2147483647 : Int32)) % (7 : Int32)) = 0 ∨ ((p &&& (2147483647 : Int32)) % (7 : Int32)) = 1 ∨ ((p &&& (2147483647 : Int32)) % (7 : Int32)) = 2 ∨ ((p &&& (2147483647 : Int32)) % (7 : Int32)) = 3 ∨ ((p &&& (2147483647 : Int32)) % (7 : Int32)) = 4 ∨ ((p &&& (2147483647 : Int32)) % (7 : Int32)) = 5 ∨ ((p &&& (2147483647 : Int32)) % (7 : Int32)) = 6 := by
  have e1 : (p &&& (2147483647 : Int32)).toInt = p.toInt % 2 ^ 31 := Jvm.Kit.i32_mask p 2147483647 (k := 31) (by decide) (by decide)
  have e2 : ((p &&& (2147483647 : Int32)) % (7 : Int32)).toInt = (p &&& (2147483647 : Int32)).toInt % (7 : Int32).toInt := Jvm.Kit.i32_rem_nonneg (by omega)
  have e3 : (7 : Int32).toInt = 7 := by decide
  rw [e3] at e2
  generalize (p &&& (2147483647 : Int32)) % (7 : Int32) = k at e2 ⊢
  have f0 : (0 : Int32).toInt = 0 := by decide
  have f1 : (1 : Int32).toInt = 1 := by decide
  have f2 : (2 : Int32).toInt = 2 := by decide
  have f3 : (3 : Int32).toInt = 3 := by decide
  have f4 : (4 : Int32).toInt = 4 := by decide
  have f5 : (5 : Int32).toInt = 5 := by decide
  have f6 : (6 : Int32).toInt = 6 := by decide
  simp only [← Int32.toInt_inj, f0, f1, f2, f3, f4, f5, f6]
  omega
set_option maxRecDepth 65536 in
set_option maxHeartbeats 40000000 in
theorem rm0 (l : Launch) (Z : State) (a0 : Array Value) (hw : ∀ d ∈ tables_1, d.before a0 Z = true) (ws : List Jvm.Cond) (p1 : Int32) (p2 : Int32) (w_NESTED : Addr) (w_NEVER : Addr) (w_NOT_SUPPORTED : Addr) (w_MANDATORY : Addr) (w_SUPPORTS : Addr) (w_REQUIRES_NEW : Addr) (w_REQUIRED : Addr) (w_NEW_UNIT : Addr) (w_NO_TRANSACTION : Addr) (w_REFUSED : Addr) (w_JOIN : Addr) (w_SAVEPOINT : Addr) (h0 : Heap) (n0 : Nat) (Z0 : n0 ≤ h0.size) (S_NESTED : Sta Z h0 "com/example/orderly_tx/orderlytx/Propagation" "NESTED" "Lcom/example/orderly_tx/orderlytx/Propagation;" (.ref w_NESTED)) (S_NEVER : Sta Z h0 "com/example/orderly_tx/orderlytx/Propagation" "NEVER" "Lcom/example/orderly_tx/orderlytx/Propagation;" (.ref w_NEVER)) (S_NOT_SUPPORTED : Sta Z h0 "com/example/orderly_tx/orderlytx/Propagation" "NOT_SUPPORTED" "Lcom/example/orderly_tx/orderlytx/Propagation;" (.ref w_NOT_SUPPORTED)) (S_MANDATORY : Sta Z h0 "com/example/orderly_tx/orderlytx/Propagation" "MANDATORY" "Lcom/example/orderly_tx/orderlytx/Propagation;" (.ref w_MANDATORY)) (S_SUPPORTS : Sta Z h0 "com/example/orderly_tx/orderlytx/Propagation" "SUPPORTS" "Lcom/example/orderly_tx/orderlytx/Propagation;" (.ref w_SUPPORTS)) (S_REQUIRES_NEW : Sta Z h0 "com/example/orderly_tx/orderlytx/Propagation" "REQUIRES_NEW" "Lcom/example/orderly_tx/orderlytx/Propagation;" (.ref w_REQUIRES_NEW)) (S_REQUIRED : Sta Z h0 "com/example/orderly_tx/orderlytx/Propagation" "REQUIRED" "Lcom/example/orderly_tx/orderlytx/Propagation;" (.ref w_REQUIRED)) (S_NEW_UNIT : Sta Z h0 "com/example/orderly_tx/orderlytx/Propagation$Mode" "NEW_UNIT" "Lcom/example/orderly_tx/orderlytx/Propagation$Mode;" (.ref w_NEW_UNIT)) (S_NO_TRANSACTION : Sta Z h0 "com/example/orderly_tx/orderlytx/Propagation$Mode" "NO_TRANSACTION" "Lcom/example/orderly_tx/orderlytx/Propagation$Mode;" (.ref w_NO_TRANSACTION)) (S_REFUSED : Sta Z h0 "com/example/orderly_tx/orderlytx/Propagation$Mode" "REFUSED" "Lcom/example/orderly_tx/orderlytx/Propagation$Mode;" (.ref w_REFUSED)) (S_JOIN : Sta Z h0 "com/example/orderly_tx/orderlytx/Propagation$Mode" "JOIN" "Lcom/example/orderly_tx/orderlytx/Propagation$Mode;" (.ref w_JOIN)) (S_SAVEPOINT : Sta Z h0 "com/example/orderly_tx/orderlytx/Propagation$Mode" "SAVEPOINT" "Lcom/example/orderly_tx/orderlytx/Propagation$Mode;" (.ref w_SAVEPOINT)) (E_REQUIRED : Exa Z h0 w_REQUIRED "com/example/orderly_tx/orderlytx/Propagation") (FU_REQUIRED : Fld Z h0 w_REQUIRED "com/example/orderly_tx/orderlytx/Propagation" "whenUnitIsCurrent" "Lcom/example/orderly_tx/orderlytx/Propagation$Mode;" (.ref w_JOIN)) (FN_REQUIRED : Fld Z h0 w_REQUIRED "com/example/orderly_tx/orderlytx/Propagation" "whenNoUnitIsCurrent" "Lcom/example/orderly_tx/orderlytx/Propagation$Mode;" (.ref w_NEW_UNIT)) (E_REQUIRES_NEW : Exa Z h0 w_REQUIRES_NEW "com/example/orderly_tx/orderlytx/Propagation") (FU_REQUIRES_NEW : Fld Z h0 w_REQUIRES_NEW "com/example/orderly_tx/orderlytx/Propagation" "whenUnitIsCurrent" "Lcom/example/orderly_tx/orderlytx/Propagation$Mode;" (.ref w_NEW_UNIT)) (FN_REQUIRES_NEW : Fld Z h0 w_REQUIRES_NEW "com/example/orderly_tx/orderlytx/Propagation" "whenNoUnitIsCurrent" "Lcom/example/orderly_tx/orderlytx/Propagation$Mode;" (.ref w_NEW_UNIT)) (E_SUPPORTS : Exa Z h0 w_SUPPORTS "com/example/orderly_tx/orderlytx/Propagation") (FU_SUPPORTS : Fld Z h0 w_SUPPORTS "com/example/orderly_tx/orderlytx/Propagation" "whenUnitIsCurrent" "Lcom/example/orderly_tx/orderlytx/Propagation$Mode;" (.ref w_JOIN)) (FN_SUPPORTS : Fld Z h0 w_SUPPORTS "com/example/orderly_tx/orderlytx/Propagation" "whenNoUnitIsCurrent" "Lcom/example/orderly_tx/orderlytx/Propagation$Mode;" (.ref w_NO_TRANSACTION)) (E_MANDATORY : Exa Z h0 w_MANDATORY "com/example/orderly_tx/orderlytx/Propagation") (FU_MANDATORY : Fld Z h0 w_MANDATORY "com/example/orderly_tx/orderlytx/Propagation" "whenUnitIsCurrent" "Lcom/example/orderly_tx/orderlytx/Propagation$Mode;" (.ref w_JOIN)) (FN_MANDATORY : Fld Z h0 w_MANDATORY "com/example/orderly_tx/orderlytx/Propagation" "whenNoUnitIsCurrent" "Lcom/example/orderly_tx/orderlytx/Propagation$Mode;" (.ref w_REFUSED)) (E_NOT_SUPPORTED : Exa Z h0 w_NOT_SUPPORTED "com/example/orderly_tx/orderlytx/Propagation") (FU_NOT_SUPPORTED : Fld Z h0 w_NOT_SUPPORTED "com/example/orderly_tx/orderlytx/Propagation" "whenUnitIsCurrent" "Lcom/example/orderly_tx/orderlytx/Propagation$Mode;" (.ref w_NO_TRANSACTION)) (FN_NOT_SUPPORTED : Fld Z h0 w_NOT_SUPPORTED "com/example/orderly_tx/orderlytx/Propagation" "whenNoUnitIsCurrent" "Lcom/example/orderly_tx/orderlytx/Propagation$Mode;" (.ref w_NO_TRANSACTION)) (E_NEVER : Exa Z h0 w_NEVER "com/example/orderly_tx/orderlytx/Propagation") (FU_NEVER : Fld Z h0 w_NEVER "com/example/orderly_tx/orderlytx/Propagation" "whenUnitIsCurrent" "Lcom/example/orderly_tx/orderlytx/Propagation$Mode;" (.ref w_REFUSED)) (FN_NEVER : Fld Z h0 w_NEVER "com/example/orderly_tx/orderlytx/Propagation" "whenNoUnitIsCurrent" "Lcom/example/orderly_tx/orderlytx/Propagation$Mode;" (.ref w_NO_TRANSACTION)) (E_NESTED : Exa Z h0 w_NESTED "com/example/orderly_tx/orderlytx/Propagation") (FU_NESTED : Fld Z h0 w_NESTED "com/example/orderly_tx/orderlytx/Propagation" "whenUnitIsCurrent" "Lcom/example/orderly_tx/orderlytx/Propagation$Mode;" (.ref w_SAVEPOINT)) (FN_NESTED : Fld Z h0 w_NESTED "com/example/orderly_tx/orderlytx/Propagation" "whenNoUnitIsCurrent" "Lcom/example/orderly_tx/orderlytx/Propagation$Mode;" (.ref w_NEW_UNIT)) :
    MetFree l x (head1 (Jvm.Cond.code x code maxLocals ret :: ws) room_1) (fun a U => a = #[(.int p1), (.int p2)] ∧ Z.Warmed39 U.vm ∧ U.heap = h0) (fun _ _ _ _ _ => True) (fun _ U o U' => ∃ v L, o = .returned v ∧ Q0 Z h0 n0 v U'.heap L ∧ FrameEnd U o U' L room_1.cells room_1.slots) := by
  have hk := own_rem7 p1
  by_cases hc : (p2 &&& (1 : Int32)) = (0 : Int32)
  · rcases hk with hk | hk | hk | hk | hk | hk | hk
    · exact rm0_t l Z a0 hw ws p1 p2 w_NESTED w_NEVER w_NOT_SUPPORTED w_MANDATORY w_SUPPORTS w_REQUIRES_NEW w_REQUIRED w_NEW_UNIT w_NO_TRANSACTION w_REFUSED w_JOIN w_SAVEPOINT w_JOIN w_NEW_UNIT w_REQUIRED w_NEW_UNIT h0 n0 Z0 S_NESTED S_NEVER S_NOT_SUPPORTED S_MANDATORY S_SUPPORTS S_REQUIRES_NEW S_REQUIRED S_NEW_UNIT S_NO_TRANSACTION S_REFUSED S_JOIN S_SAVEPOINT E_REQUIRED FU_REQUIRED FN_REQUIRED (by rw [hk]; simp [own_f1]) (by rw [hk]; simp [own_f2]) hc (by simp [own_f3])
    · exact rm0_t l Z a0 hw ws p1 p2 w_NESTED w_NEVER w_NOT_SUPPORTED w_MANDATORY w_SUPPORTS w_REQUIRES_NEW w_REQUIRED w_NEW_UNIT w_NO_TRANSACTION w_REFUSED w_JOIN w_SAVEPOINT w_NEW_UNIT w_NEW_UNIT w_REQUIRES_NEW w_NEW_UNIT h0 n0 Z0 S_NESTED S_NEVER S_NOT_SUPPORTED S_MANDATORY S_SUPPORTS S_REQUIRES_NEW S_REQUIRED S_NEW_UNIT S_NO_TRANSACTION S_REFUSED S_JOIN S_SAVEPOINT E_REQUIRES_NEW FU_REQUIRES_NEW FN_REQUIRES_NEW (by rw [hk]; simp [own_f1]) (by rw [hk]; simp [own_f2]) hc (by simp [own_f3])
    · exact rm0_t l Z a0 hw ws p1 p2 w_NESTED w_NEVER w_NOT_SUPPORTED w_MANDATORY w_SUPPORTS w_REQUIRES_NEW w_REQUIRED w_NEW_UNIT w_NO_TRANSACTION w_REFUSED w_JOIN w_SAVEPOINT w_JOIN w_NO_TRANSACTION w_SUPPORTS w_NO_TRANSACTION h0 n0 Z0 S_NESTED S_NEVER S_NOT_SUPPORTED S_MANDATORY S_SUPPORTS S_REQUIRES_NEW S_REQUIRED S_NEW_UNIT S_NO_TRANSACTION S_REFUSED S_JOIN S_SAVEPOINT E_SUPPORTS FU_SUPPORTS FN_SUPPORTS (by rw [hk]; simp [own_f1]) (by rw [hk]; simp [own_f2]) hc (by simp [own_f3])
    · exact rm0_t l Z a0 hw ws p1 p2 w_NESTED w_NEVER w_NOT_SUPPORTED w_MANDATORY w_SUPPORTS w_REQUIRES_NEW w_REQUIRED w_NEW_UNIT w_NO_TRANSACTION w_REFUSED w_JOIN w_SAVEPOINT w_JOIN w_REFUSED w_MANDATORY w_REFUSED h0 n0 Z0 S_NESTED S_NEVER S_NOT_SUPPORTED S_MANDATORY S_SUPPORTS S_REQUIRES_NEW S_REQUIRED S_NEW_UNIT S_NO_TRANSACTION S_REFUSED S_JOIN S_SAVEPOINT E_MANDATORY FU_MANDATORY FN_MANDATORY (by rw [hk]; simp [own_f1]) (by rw [hk]; simp [own_f2]) hc (by simp [own_f3])
    · exact rm0_t l Z a0 hw ws p1 p2 w_NESTED w_NEVER w_NOT_SUPPORTED w_MANDATORY w_SUPPORTS w_REQUIRES_NEW w_REQUIRED w_NEW_UNIT w_NO_TRANSACTION w_REFUSED w_JOIN w_SAVEPOINT w_NO_TRANSACTION w_NO_TRANSACTION w_NOT_SUPPORTED w_NO_TRANSACTION h0 n0 Z0 S_NESTED S_NEVER S_NOT_SUPPORTED S_MANDATORY S_SUPPORTS S_REQUIRES_NEW S_REQUIRED S_NEW_UNIT S_NO_TRANSACTION S_REFUSED S_JOIN S_SAVEPOINT E_NOT_SUPPORTED FU_NOT_SUPPORTED FN_NOT_SUPPORTED (by rw [hk]; simp [own_f1]) (by rw [hk]; simp [own_f2]) hc (by simp [own_f3])
    · exact rm0_t l Z a0 hw ws p1 p2 w_NESTED w_NEVER w_NOT_SUPPORTED w_MANDATORY w_SUPPORTS w_REQUIRES_NEW w_REQUIRED w_NEW_UNIT w_NO_TRANSACTION w_REFUSED w_JOIN w_SAVEPOINT w_REFUSED w_NO_TRANSACTION w_NEVER w_NO_TRANSACTION h0 n0 Z0 S_NESTED S_NEVER S_NOT_SUPPORTED S_MANDATORY S_SUPPORTS S_REQUIRES_NEW S_REQUIRED S_NEW_UNIT S_NO_TRANSACTION S_REFUSED S_JOIN S_SAVEPOINT E_NEVER FU_NEVER FN_NEVER (by rw [hk]; simp [own_f1]) (by rw [hk]; simp [own_f2]) hc (by simp [own_f3])
    · exact rm0_t l Z a0 hw ws p1 p2 w_NESTED w_NEVER w_NOT_SUPPORTED w_MANDATORY w_SUPPORTS w_REQUIRES_NEW w_REQUIRED w_NEW_UNIT w_NO_TRANSACTION w_REFUSED w_JOIN w_SAVEPOINT w_SAVEPOINT w_NEW_UNIT w_NESTED w_NEW_UNIT h0 n0 Z0 S_NESTED S_NEVER S_NOT_SUPPORTED S_MANDATORY S_SUPPORTS S_REQUIRES_NEW S_REQUIRED S_NEW_UNIT S_NO_TRANSACTION S_REFUSED S_JOIN S_SAVEPOINT E_NESTED FU_NESTED FN_NESTED (by rw [hk]; simp [own_f1]) (by rw [hk]; simp [own_f2]) hc (by simp [own_f3])
  · rcases hk with hk | hk | hk | hk | hk | hk | hk
    · exact rm0_f l Z a0 hw ws p1 p2 w_NESTED w_NEVER w_NOT_SUPPORTED w_MANDATORY w_SUPPORTS w_REQUIRES_NEW w_REQUIRED w_NEW_UNIT w_NO_TRANSACTION w_REFUSED w_JOIN w_SAVEPOINT w_JOIN w_NEW_UNIT w_REQUIRED w_JOIN h0 n0 Z0 S_NESTED S_NEVER S_NOT_SUPPORTED S_MANDATORY S_SUPPORTS S_REQUIRES_NEW S_REQUIRED S_NEW_UNIT S_NO_TRANSACTION S_REFUSED S_JOIN S_SAVEPOINT E_REQUIRED FU_REQUIRED FN_REQUIRED (by rw [hk]; simp [own_f1]) (by rw [hk]; simp [own_f2]) hc (by simp [own_f3])
    · exact rm0_f l Z a0 hw ws p1 p2 w_NESTED w_NEVER w_NOT_SUPPORTED w_MANDATORY w_SUPPORTS w_REQUIRES_NEW w_REQUIRED w_NEW_UNIT w_NO_TRANSACTION w_REFUSED w_JOIN w_SAVEPOINT w_NEW_UNIT w_NEW_UNIT w_REQUIRES_NEW w_NEW_UNIT h0 n0 Z0 S_NESTED S_NEVER S_NOT_SUPPORTED S_MANDATORY S_SUPPORTS S_REQUIRES_NEW S_REQUIRED S_NEW_UNIT S_NO_TRANSACTION S_REFUSED S_JOIN S_SAVEPOINT E_REQUIRES_NEW FU_REQUIRES_NEW FN_REQUIRES_NEW (by rw [hk]; simp [own_f1]) (by rw [hk]; simp [own_f2]) hc (by simp [own_f3])
    · exact rm0_f l Z a0 hw ws p1 p2 w_NESTED w_NEVER w_NOT_SUPPORTED w_MANDATORY w_SUPPORTS w_REQUIRES_NEW w_REQUIRED w_NEW_UNIT w_NO_TRANSACTION w_REFUSED w_JOIN w_SAVEPOINT w_JOIN w_NO_TRANSACTION w_SUPPORTS w_JOIN h0 n0 Z0 S_NESTED S_NEVER S_NOT_SUPPORTED S_MANDATORY S_SUPPORTS S_REQUIRES_NEW S_REQUIRED S_NEW_UNIT S_NO_TRANSACTION S_REFUSED S_JOIN S_SAVEPOINT E_SUPPORTS FU_SUPPORTS FN_SUPPORTS (by rw [hk]; simp [own_f1]) (by rw [hk]; simp [own_f2]) hc (by simp [own_f3])
    · exact rm0_f l Z a0 hw ws p1 p2 w_NESTED w_NEVER w_NOT_SUPPORTED w_MANDATORY w_SUPPORTS w_REQUIRES_NEW w_REQUIRED w_NEW_UNIT w_NO_TRANSACTION w_REFUSED w_JOIN w_SAVEPOINT w_JOIN w_REFUSED w_MANDATORY w_JOIN h0 n0 Z0 S_NESTED S_NEVER S_NOT_SUPPORTED S_MANDATORY S_SUPPORTS S_REQUIRES_NEW S_REQUIRED S_NEW_UNIT S_NO_TRANSACTION S_REFUSED S_JOIN S_SAVEPOINT E_MANDATORY FU_MANDATORY FN_MANDATORY (by rw [hk]; simp [own_f1]) (by rw [hk]; simp [own_f2]) hc (by simp [own_f3])
    · exact rm0_f l Z a0 hw ws p1 p2 w_NESTED w_NEVER w_NOT_SUPPORTED w_MANDATORY w_SUPPORTS w_REQUIRES_NEW w_REQUIRED w_NEW_UNIT w_NO_TRANSACTION w_REFUSED w_JOIN w_SAVEPOINT w_NO_TRANSACTION w_NO_TRANSACTION w_NOT_SUPPORTED w_NO_TRANSACTION h0 n0 Z0 S_NESTED S_NEVER S_NOT_SUPPORTED S_MANDATORY S_SUPPORTS S_REQUIRES_NEW S_REQUIRED S_NEW_UNIT S_NO_TRANSACTION S_REFUSED S_JOIN S_SAVEPOINT E_NOT_SUPPORTED FU_NOT_SUPPORTED FN_NOT_SUPPORTED (by rw [hk]; simp [own_f1]) (by rw [hk]; simp [own_f2]) hc (by simp [own_f3])
    · exact rm0_f l Z a0 hw ws p1 p2 w_NESTED w_NEVER w_NOT_SUPPORTED w_MANDATORY w_SUPPORTS w_REQUIRES_NEW w_REQUIRED w_NEW_UNIT w_NO_TRANSACTION w_REFUSED w_JOIN w_SAVEPOINT w_REFUSED w_NO_TRANSACTION w_NEVER w_REFUSED h0 n0 Z0 S_NESTED S_NEVER S_NOT_SUPPORTED S_MANDATORY S_SUPPORTS S_REQUIRES_NEW S_REQUIRED S_NEW_UNIT S_NO_TRANSACTION S_REFUSED S_JOIN S_SAVEPOINT E_NEVER FU_NEVER FN_NEVER (by rw [hk]; simp [own_f1]) (by rw [hk]; simp [own_f2]) hc (by simp [own_f3])
    · exact rm0_f l Z a0 hw ws p1 p2 w_NESTED w_NEVER w_NOT_SUPPORTED w_MANDATORY w_SUPPORTS w_REQUIRES_NEW w_REQUIRED w_NEW_UNIT w_NO_TRANSACTION w_REFUSED w_JOIN w_SAVEPOINT w_SAVEPOINT w_NEW_UNIT w_NESTED w_SAVEPOINT h0 n0 Z0 S_NESTED S_NEVER S_NOT_SUPPORTED S_MANDATORY S_SUPPORTS S_REQUIRES_NEW S_REQUIRED S_NEW_UNIT S_NO_TRANSACTION S_REFUSED S_JOIN S_SAVEPOINT E_NESTED FU_NESTED FN_NESTED (by rw [hk]; simp [own_f1]) (by rw [hk]; simp [own_f2]) hc (by simp [own_f3])
theorem own_fldeq {args : Array Value} {s : State} {t u : Term} {C n d : String} {x y : Addr} (h : (Cond.eq (.field t C n d) u).value args s none s [] = some true) (ht : t.eval args s none [] s = some (.ref x)) (hu : u.eval args s none [] s = some (.ref y)) : s.fieldOf? x C n d = some (.ref y) := by
  have e := fld_at (args := args) (first := s) (o := none) (idx := []) (C := C) (n := n) (dd := d) ht
  cases hv : s.fieldOf? x C n d with
  | none => rw [hv] at e; simp [Cond.value, e, hu] at h
  | some v =>
    rw [hv] at e
    cases v <;> simp [Cond.value, e, hu] at h ⊢ <;> first | exact h | (subst h; rfl)
set_option maxRecDepth 65536 in
set_option maxHeartbeats 40000000 in
theorem comes_1 {Post : Tables → Env → Array Value → State → Outcome → State → Prop} (hpost : ∀ tb e args s v u, (limb_1_1.after args s (.returned v) u = true ∧ limb_1_2.after args s (.returned v) u = true ∧ True) → FrameEnd s (.returned v) u (Jvm.fieldLocs frame_1_writes args s ++ Jvm.arrayLocs frame_1_arrays args s ++ Jvm.staticLocs frame_1_statics s) 0 0 → Post tb e args s (.returned v) u) :
    ArmFor flags0 classFile x code maxLocals ret World_1 tables_1 room_1 Calls_1 rest_1 Pre_1 Post := by
  intro l hfl _ _ p e ha hc hk s m args below hf hA hF happ hP
  obtain ⟨hcalls, hrest, hpre⟩ := hP
  obtain ⟨-, -, -, hnamed, -, -, -, hat⟩ := (Spec.applies_iff hf).mp happ
  obtain ⟨hg, hn⟩ := and_e (Cond.before_iff.mp (show (Jvm.Cond.and given_1 narrow_1).before args s = true from hpre))
  obtain ⟨g6, g7⟩ := and_e hg
  obtain ⟨g8, g9⟩ := and_e g7
  obtain ⟨w0, w1, rfl⟩ : ∃ w0 w1 : Value, args = #[w0, w1] := by
    have hs : args.size = 2 := by simpa [Cond.value, given_1] using g6
    obtain ⟨L⟩ := args
    match L, hs with
    | [w0, w1], _ => exact ⟨w0, w1, rfl⟩
  have hw := fun d (hd : d ∈ tables_1) => atoms_spec (ws := Jvm.Cond.code x code maxLocals ret :: tables_1) hat d (List.mem_cons_of_mem _ hd)
  have hfit : Fit s := fun {y c} hc i hi => by
    obtain ⟨ha, rfl⟩ := Array.getElem?_eq_some_iff.mp hc
    have q := List.all_eq_true.mp ((Array.all_eq_true_iff_forall_mem.mp hF) _ (Array.getElem_mem ha)) i (List.mem_range.mpr hi)
    simpa [Array.getElem?_eq_getElem hi] using q
  obtain ⟨i0, ei0⟩ := is_v g8
  obtain rfl : w0 = (.int i0) := Option.some.inj ei0
  obtain ⟨i1, ei1⟩ := is_v g9
  obtain rfl : w1 = (.int i1) := Option.some.inj ei1
  obtain ⟨nn0, mm0⟩ := and_e hn
  obtain ⟨w_REQUIRED, ev_REQUIRED⟩ := exa_v nn0
  have S_REQUIRED := Sta.start ev_REQUIRED (Or.inr ⟨(hw _ (List.mem_of_getElem? (i := 6) rfl)), (hw _ (List.mem_of_getElem? (i := 7) rfl))⟩)
  have E_REQUIRED := Exa.start ev_REQUIRED nn0
  obtain ⟨nn1, mm1⟩ := and_e mm0
  obtain ⟨w_JOIN, ev_JOIN⟩ := exa_v nn1
  have S_JOIN := Sta.start ev_JOIN (Or.inr ⟨(hw _ (List.mem_of_getElem? (i := 12) rfl)), (hw _ (List.mem_of_getElem? (i := 13) rfl))⟩)
  have E_JOIN := Exa.start ev_JOIN nn1
  obtain ⟨nn2, mm2⟩ := and_e mm1
  have F_REQUIRED_whenUnitIsCurrent := Fld.start (own_fldeq nn2 ev_REQUIRED ev_JOIN)
  obtain ⟨nn3, mm3⟩ := and_e mm2
  obtain ⟨w_MANDATORY, ev_MANDATORY⟩ := exa_v nn3
  have S_MANDATORY := Sta.start ev_MANDATORY (Or.inr ⟨(hw _ (List.mem_of_getElem? (i := 6) rfl)), (hw _ (List.mem_of_getElem? (i := 22) rfl))⟩)
  have E_MANDATORY := Exa.start ev_MANDATORY nn3
  obtain ⟨nn4, mm4⟩ := and_e mm3
  have F_MANDATORY_whenUnitIsCurrent := Fld.start (own_fldeq nn4 ev_MANDATORY ev_JOIN)
  obtain ⟨nn5, mm5⟩ := and_e mm4
  obtain ⟨w_REQUIRES_NEW, ev_REQUIRES_NEW⟩ := exa_v nn5
  have S_REQUIRES_NEW := Sta.start ev_REQUIRES_NEW (Or.inr ⟨(hw _ (List.mem_of_getElem? (i := 6) rfl)), (hw _ (List.mem_of_getElem? (i := 24) rfl))⟩)
  have E_REQUIRES_NEW := Exa.start ev_REQUIRES_NEW nn5
  obtain ⟨nn6, mm6⟩ := and_e mm5
  obtain ⟨w_NEW_UNIT, ev_NEW_UNIT⟩ := exa_v nn6
  have S_NEW_UNIT := Sta.start ev_NEW_UNIT (Or.inr ⟨(hw _ (List.mem_of_getElem? (i := 12) rfl)), (hw _ (List.mem_of_getElem? (i := 26) rfl))⟩)
  have E_NEW_UNIT := Exa.start ev_NEW_UNIT nn6
  obtain ⟨nn7, mm7⟩ := and_e mm6
  have F_REQUIRES_NEW_whenNoUnitIsCurrent := Fld.start (own_fldeq nn7 ev_REQUIRES_NEW ev_NEW_UNIT)
  obtain ⟨nn8, mm8⟩ := and_e mm7
  obtain ⟨w_NOT_SUPPORTED, ev_NOT_SUPPORTED⟩ := exa_v nn8
  have S_NOT_SUPPORTED := Sta.start ev_NOT_SUPPORTED (Or.inr ⟨(hw _ (List.mem_of_getElem? (i := 6) rfl)), (hw _ (List.mem_of_getElem? (i := 30) rfl))⟩)
  have E_NOT_SUPPORTED := Exa.start ev_NOT_SUPPORTED nn8
  obtain ⟨nn9, mm9⟩ := and_e mm8
  obtain ⟨w_NO_TRANSACTION, ev_NO_TRANSACTION⟩ := exa_v nn9
  have S_NO_TRANSACTION := Sta.start ev_NO_TRANSACTION (Or.inr ⟨(hw _ (List.mem_of_getElem? (i := 12) rfl)), (hw _ (List.mem_of_getElem? (i := 32) rfl))⟩)
  have E_NO_TRANSACTION := Exa.start ev_NO_TRANSACTION nn9
  obtain ⟨nn10, mm10⟩ := and_e mm9
  have F_NOT_SUPPORTED_whenNoUnitIsCurrent := Fld.start (own_fldeq nn10 ev_NOT_SUPPORTED ev_NO_TRANSACTION)
  obtain ⟨nn11, mm11⟩ := and_e mm10
  have F_NOT_SUPPORTED_whenUnitIsCurrent := Fld.start (own_fldeq nn11 ev_NOT_SUPPORTED ev_NO_TRANSACTION)
  obtain ⟨nn12, mm12⟩ := and_e mm11
  obtain ⟨w_NESTED, ev_NESTED⟩ := exa_v nn12
  have S_NESTED := Sta.start ev_NESTED (Or.inr ⟨(hw _ (List.mem_of_getElem? (i := 6) rfl)), (hw _ (List.mem_of_getElem? (i := 34) rfl))⟩)
  have E_NESTED := Exa.start ev_NESTED nn12
  obtain ⟨nn13, mm13⟩ := and_e mm12
  have F_NESTED_whenNoUnitIsCurrent := Fld.start (own_fldeq nn13 ev_NESTED ev_NEW_UNIT)
  obtain ⟨nn14, mm14⟩ := and_e mm13
  have F_REQUIRES_NEW_whenUnitIsCurrent := Fld.start (own_fldeq nn14 ev_REQUIRES_NEW ev_NEW_UNIT)
  obtain ⟨nn15, mm15⟩ := and_e mm14
  obtain ⟨w_NEVER, ev_NEVER⟩ := exa_v nn15
  have S_NEVER := Sta.start ev_NEVER (Or.inr ⟨(hw _ (List.mem_of_getElem? (i := 6) rfl)), (hw _ (List.mem_of_getElem? (i := 36) rfl))⟩)
  have E_NEVER := Exa.start ev_NEVER nn15
  obtain ⟨nn16, mm16⟩ := and_e mm15
  obtain ⟨w_REFUSED, ev_REFUSED⟩ := exa_v nn16
  have S_REFUSED := Sta.start ev_REFUSED (Or.inr ⟨(hw _ (List.mem_of_getElem? (i := 12) rfl)), (hw _ (List.mem_of_getElem? (i := 38) rfl))⟩)
  have E_REFUSED := Exa.start ev_REFUSED nn16
  obtain ⟨nn17, mm17⟩ := and_e mm16
  have F_NEVER_whenUnitIsCurrent := Fld.start (own_fldeq nn17 ev_NEVER ev_REFUSED)
  obtain ⟨nn18, mm18⟩ := and_e mm17
  have F_REQUIRED_whenNoUnitIsCurrent := Fld.start (own_fldeq nn18 ev_REQUIRED ev_NEW_UNIT)
  obtain ⟨nn19, mm19⟩ := and_e mm18
  have F_NEVER_whenNoUnitIsCurrent := Fld.start (own_fldeq nn19 ev_NEVER ev_NO_TRANSACTION)
  obtain ⟨nn20, mm20⟩ := and_e mm19
  obtain ⟨w_SUPPORTS, ev_SUPPORTS⟩ := exa_v nn20
  have S_SUPPORTS := Sta.start ev_SUPPORTS (Or.inr ⟨(hw _ (List.mem_of_getElem? (i := 6) rfl)), (hw _ (List.mem_of_getElem? (i := 40) rfl))⟩)
  have E_SUPPORTS := Exa.start ev_SUPPORTS nn20
  obtain ⟨nn21, mm21⟩ := and_e mm20
  have F_SUPPORTS_whenNoUnitIsCurrent := Fld.start (own_fldeq nn21 ev_SUPPORTS ev_NO_TRANSACTION)
  obtain ⟨nn22, mm22⟩ := and_e mm21
  have F_MANDATORY_whenNoUnitIsCurrent := Fld.start (own_fldeq nn22 ev_MANDATORY ev_REFUSED)
  obtain ⟨nn23, mm23⟩ := and_e mm22
  obtain ⟨w_SAVEPOINT, ev_SAVEPOINT⟩ := exa_v nn23
  have S_SAVEPOINT := Sta.start ev_SAVEPOINT (Or.inr ⟨(hw _ (List.mem_of_getElem? (i := 12) rfl)), (hw _ (List.mem_of_getElem? (i := 42) rfl))⟩)
  have E_SAVEPOINT := Exa.start ev_SAVEPOINT nn23
  obtain ⟨nn24, mm24⟩ := and_e mm23
  have F_NESTED_whenUnitIsCurrent := Fld.start (own_fldeq nn24 ev_NESTED ev_SAVEPOINT)
  have F_SUPPORTS_whenUnitIsCurrent := Fld.start (own_fldeq mm24 ev_SUPPORTS ev_JOIN)
  obtain ⟨n, o, h1, h2, h3, _, L, rfl, ⟨rfl, N⟩, hq⟩ := rm0 l s _ hw tables_1 i0 i1 w_NESTED w_NEVER w_NOT_SUPPORTED w_MANDATORY w_SUPPORTS w_REQUIRES_NEW w_REQUIRED w_NEW_UNIT w_NO_TRANSACTION w_REFUSED w_JOIN w_SAVEPOINT s.heap s.heap.size (Nat.le_refl _) S_NESTED S_NEVER S_NOT_SUPPORTED S_MANDATORY S_SUPPORTS S_REQUIRES_NEW S_REQUIRED S_NEW_UNIT S_NO_TRANSACTION S_REFUSED S_JOIN S_SAVEPOINT E_REQUIRED F_REQUIRED_whenUnitIsCurrent F_REQUIRED_whenNoUnitIsCurrent E_REQUIRES_NEW F_REQUIRES_NEW_whenUnitIsCurrent F_REQUIRES_NEW_whenNoUnitIsCurrent E_SUPPORTS F_SUPPORTS_whenUnitIsCurrent F_SUPPORTS_whenNoUnitIsCurrent E_MANDATORY F_MANDATORY_whenUnitIsCurrent F_MANDATORY_whenNoUnitIsCurrent E_NOT_SUPPORTED F_NOT_SUPPORTED_whenUnitIsCurrent F_NOT_SUPPORTED_whenNoUnitIsCurrent E_NEVER F_NEVER_whenUnitIsCurrent F_NEVER_whenNoUnitIsCurrent E_NESTED F_NESTED_whenUnitIsCurrent F_NESTED_whenNoUnitIsCurrent p e ha hc hk s m _ below hf ((Spec.applies_iff_loose hf).mp happ).1 ⟨rfl, State.Warmed39.refl s, rfl⟩ trivial
  refine ⟨n, _, h1, h2, h3, hpost _ _ _ _ _ _ ⟨Cond.after_iff.mpr rfl, Cond.after_iff.mpr (eq_i res_at (Term.int_eval (1)) rfl), trivial⟩ ⟨hq.1, hq.2.1, (hq.2.2.sift fun y hy => Or.inr (N y hy)).mono (by decide) (by decide)⟩⟩
theorem main_1_1 : Claimed_1_1 := comes_1 fun _ _ _ _ _ _ h hF => ⟨h.1, hF⟩
theorem main_1_2 : Claimed_1_2 := comes_1 fun _ _ _ _ _ _ h hF => ⟨h.2.1, hF⟩
end Jvm.Pilot.@@N@@
namespace Jvm.Pilot.@@N@@
open Jvm Jvm.ClassFile Sem Op Lib Jvm.Free Jvm.Stand Jvm.Pilot.@@N@@.Jvm.D
/-! MADE BY PROGRAM (witnessworld.py) out of the Statement's table words and the real class files: 13 classes; the members and pool entries that the words name. The judged class is class 1, her method 1. -/
namespace start1
open Jvm.ClassFile
def u (s : String) : CpInfo := .utf8 (stringToUtf16 s)
/-- a pool by its gaps: so many unusable entries, then the entry; so many at the end -/
def gap : Nat → List CpInfo → List CpInfo
  | 0, r => r
  | n + 1, r => .unusable :: gap n r
def poolList (es : List (Nat × CpInfo)) (last : Nat) : List CpInfo := es.foldr (fun e r => gap e.1 (e.2 :: r)) (gap last [])
def pool (es : List (Nat × CpInfo)) (last : Nat) : Array CpInfo := ⟨poolList es last⟩
def fileOf (pool : Array CpInfo) (this : Nat) (attrs : Array Attribute := #[]) (ms : Array MethodInfo := #[]) (fl : Nat := 33) (sup : Nat := 0) (ifs : Array Nat := #[]) (fds : Array FieldInfo := #[]) : ClassFile where
  minorVersion := 0
  majorVersion := 65
  constantPool := pool
  accessFlags := fl
  thisClass := this
  superClass := sup
  interfaces := ifs
  fields := fds
  methods := ms
  attributes := attrs
def plain (name : String) (sup : Option ClassId) : Class where
  name := name
  kind := .ordinary
  loader := none
  accessFlags := 33
  super := sup
  interfaces := #[]
  cf := none
  fields := #[]
  methods := #[]
  instanceTypes := #[]
  staticTypes := #[]
  resolved := #[]
  callSites := []
  init := .initialized
  statics := none
  mirror := none

def pool0 : Array CpInfo := pool [(5, u "<init>"), (0, u "()V"), (1, .class_ 10), (1, u "java/lang/Object")] 113

def k0m0 : Method := { name := "<init>", desc := "()V", sig := { parameters := [], returnType := none }, accessFlags := 1, code := none }
/-- java/lang/Object -/
def k0 : Class := { plain "java/lang/Object" none with
  accessFlags := 33
  interfaces := #[]
  cf := some (fileOf pool0 8 #[] #[{ accessFlags := 1, nameIndex := 5, descriptorIndex := 6, attributes := #[] }] 33 0 #[] #[])
  fields := #[]
  methods := #[k0m0]
  instanceTypes := #[]
  staticTypes := #[]
  resolved := Array.replicate 124 none
  statics := none }

def pool1 : Array CpInfo := pool [(2, .class_ 4), (1, u "java/lang/Object"), (0, u "<init>"), (0, u "()V"), (0, .integer 2147483647), (0, .methodref 9 10), (0, .class_ 11), (0, .nameAndType 12 13), (0, u "com/example/orderly_tx/orderlytx/PropagationModePinLaw"), (0, u "pick"), (0, u "(I)Lcom/example/orderly_tx/orderlytx/Propagation;"), (0, .methodref 9 15), (0, .nameAndType 16 17), (0, u "expected"), (0, u "(IZ)Lcom/example/orderly_tx/orderlytx/Propagation$Mode;"), (0, .methodref 19 20), (0, .class_ 21), (0, .nameAndType 22 23), (0, u "com/example/orderly_tx/orderlytx/Propagation"), (0, u "mode"), (0, u "(Z)Lcom/example/orderly_tx/orderlytx/Propagation$Mode;"), (0, .fieldref 19 25), (0, .nameAndType 26 27), (0, u "REQUIRED"), (0, u "Lcom/example/orderly_tx/orderlytx/Propagation;"), (0, .fieldref 19 29), (0, .nameAndType 30 27), (0, u "REQUIRES_NEW"), (0, .fieldref 19 32), (0, .nameAndType 33 27), (0, u "SUPPORTS"), (0, .fieldref 19 35), (0, .nameAndType 36 27), (0, u "MANDATORY"), (0, .fieldref 19 38), (0, .nameAndType 39 27), (0, u "NOT_SUPPORTED"), (0, .fieldref 19 41), (0, .nameAndType 42 27), (0, u "NEVER"), (0, .fieldref 19 44), (0, .nameAndType 45 27), (0, u "NESTED"), (0, .fieldref 47 48), (0, .class_ 49), (0, .nameAndType 50 51), (0, u "com/example/orderly_tx/orderlytx/Propagation$Mode"), (0, u "JOIN"), (0, u "Lcom/example/orderly_tx/orderlytx/Propagation$Mode;"), (0, .fieldref 47 53), (0, .nameAndType 54 51), (0, u "NEW_UNIT"), (0, .fieldref 47 56), (0, .nameAndType 57 51), (0, u "NO_TRANSACTION"), (0, .fieldref 47 59), (0, .nameAndType 60 51), (0, u "REFUSED"), (0, .fieldref 47 62), (0, .nameAndType 63 51), (0, u "SAVEPOINT"), (2, u "law"), (0, u "(II)Z")] 5

def k1m0 : Method := { name := "<init>", desc := "()V", sig := { parameters := [], returnType := none }, accessFlags := 1, code := none }
def k1c1 : Code := { maxStack := 2, maxLocals := 6, code := code, exceptionTable := #[], attributes := #[] }
def k1m1 : Method := { name := "law", desc := "(II)Z", sig := { parameters := [.int, .int], returnType := some .boolean }, accessFlags := 9, code := some k1c1 }
def k1c2 : Code := { maxStack := 2, maxLocals := 1, code := method_3_code, exceptionTable := #[], attributes := #[] }
def k1m2 : Method := { name := "pick", desc := "(I)Lcom/example/orderly_tx/orderlytx/Propagation;", sig := { parameters := [.int], returnType := some (.object "com/example/orderly_tx/orderlytx/Propagation") }, accessFlags := 10, code := some k1c2 }
def k1c3 : Code := { maxStack := 2, maxLocals := 2, code := method_4_code, exceptionTable := #[], attributes := #[] }
def k1m3 : Method := { name := "expected", desc := "(IZ)Lcom/example/orderly_tx/orderlytx/Propagation$Mode;", sig := { parameters := [.int, .boolean], returnType := some (.object "com/example/orderly_tx/orderlytx/Propagation$Mode") }, accessFlags := 10, code := some k1c3 }
/-- com/example/orderly_tx/orderlytx/PropagationModePinLaw -/
def k1 : Class := { plain "com/example/orderly_tx/orderlytx/PropagationModePinLaw" (some 0) with
  accessFlags := 49
  interfaces := #[]
  cf := some (fileOf pool1 9 #[] #[{ accessFlags := 1, nameIndex := 5, descriptorIndex := 6, attributes := #[] }, { accessFlags := 9, nameIndex := 66, descriptorIndex := 67, attributes := #[] }, { accessFlags := 10, nameIndex := 12, descriptorIndex := 13, attributes := #[] }, { accessFlags := 10, nameIndex := 16, descriptorIndex := 17, attributes := #[] }] 49 2 #[] #[])
  fields := #[]
  methods := #[k1m0, k1m1, k1m2, k1m3]
  instanceTypes := #[]
  staticTypes := #[]
  resolved := Array.replicate 73 none
  statics := none }

def pool2 : Array CpInfo := pool [(1, .class_ 2), (0, u "java/lang/constant/Constable"), (0, .class_ 4), (0, u "java/lang/Object")] 6

/-- java/lang/constant/Constable -/
def k2 : Class := { plain "java/lang/constant/Constable" (some 0) with
  accessFlags := 1537
  interfaces := #[]
  cf := some (fileOf pool2 1 #[] #[] 1537 3 #[] #[])
  fields := #[]
  methods := #[]
  instanceTypes := #[]
  staticTypes := #[]
  resolved := Array.replicate 11 none
  statics := none }

def pool3 : Array CpInfo := pool [(1, .class_ 2), (0, u "java/lang/Comparable"), (0, .class_ 4), (0, u "java/lang/Object")] 7

/-- java/lang/Comparable -/
def k3 : Class := { plain "java/lang/Comparable" (some 0) with
  accessFlags := 1537
  interfaces := #[]
  cf := some (fileOf pool3 1 #[] #[] 1537 3 #[] #[])
  fields := #[]
  methods := #[]
  instanceTypes := #[]
  staticTypes := #[]
  resolved := Array.replicate 12 none
  statics := none }

def pool4 : Array CpInfo := pool [(1, .class_ 2), (0, u "java/io/Serializable"), (0, .class_ 4), (0, u "java/lang/Object")] 2

/-- java/io/Serializable -/
def k4 : Class := { plain "java/io/Serializable" (some 0) with
  accessFlags := 1537
  interfaces := #[]
  cf := some (fileOf pool4 1 #[] #[] 1537 3 #[] #[])
  fields := #[]
  methods := #[]
  instanceTypes := #[]
  staticTypes := #[]
  resolved := Array.replicate 7 none
  statics := none }

def pool5 : Array CpInfo := pool [(2, .class_ 4), (1, u "java/lang/Enum"), (0, u "name"), (0, u "Ljava/lang/String;"), (2, u "ordinal"), (0, u "I"), (1, .class_ 14), (1, u "java/lang/Object"), (4, u "hash"), (86, .class_ 108), (1, u "java/lang/Enum$EnumDesc"), (2, .class_ 112), (0, u "java/lang/constant/Constable"), (0, .class_ 114), (0, u "java/lang/Comparable"), (0, .class_ 116), (0, u "java/io/Serializable")] 87

/-- java/lang/Enum -/
def k5 : Class := { plain "java/lang/Enum" (some 0) with
  accessFlags := 1057
  interfaces := #[2, 3, 4]
  cf := some (fileOf pool5 2 #[.nestMembers #[106]] #[] 1057 12 #[111, 113, 115] #[{ accessFlags := 18, nameIndex := 5, descriptorIndex := 6, attributes := #[] }, { accessFlags := 18, nameIndex := 9, descriptorIndex := 10, attributes := #[] }, { accessFlags := 2, nameIndex := 19, descriptorIndex := 10, attributes := #[] }])
  fields := #[{ name := "name", type := (.object "java/lang/String"), accessFlags := 18, slot := 0, constantValue := 0 }, { name := "ordinal", type := .int, accessFlags := 18, slot := 1, constantValue := 0 }, { name := "hash", type := .int, accessFlags := 2, slot := 2, constantValue := 0 }]
  methods := #[]
  instanceTypes := #[(.object "java/lang/String"), .int, .int]
  staticTypes := #[]
  resolved := Array.replicate 204 none
  statics := none }

def pool6 : Array CpInfo := pool [(1, .class_ 2), (0, u "com/example/orderly_tx/orderlytx/Propagation"), (2, u "REQUIRED"), (0, u "Lcom/example/orderly_tx/orderlytx/Propagation;"), (2, u "REQUIRES_NEW"), (2, u "SUPPORTS"), (2, u "MANDATORY"), (2, u "NOT_SUPPORTED"), (2, u "NEVER"), (2, u "NESTED"), (2, u "$VALUES"), (0, u "[Lcom/example/orderly_tx/orderlytx/Propagation;"), (6, .class_ 37), (1, u "java/lang/Enum"), (6, .fieldref 1 45), (0, .nameAndType 46 47), (0, u "whenUnitIsCurrent"), (0, u "Lcom/example/orderly_tx/orderlytx/Propagation$Mode;"), (0, .fieldref 1 49), (0, .nameAndType 50 47), (0, u "whenNoUnitIsCurrent"), (2, .class_ 55), (1, u "com/example/orderly_tx/orderlytx/Propagation$Mode"), (33, u "mode"), (0, u "(Z)Lcom/example/orderly_tx/orderlytx/Propagation$Mode;")] 9

def k6c0 : Code := { maxStack := 1, maxLocals := 2, code := prog_23_method_4_code, exceptionTable := #[], attributes := #[] }
def k6m0 : Method := { name := "mode", desc := "(Z)Lcom/example/orderly_tx/orderlytx/Propagation$Mode;", sig := { parameters := [.boolean], returnType := some (.object "com/example/orderly_tx/orderlytx/Propagation$Mode") }, accessFlags := 0, code := some k6c0 }
/-- com/example/orderly_tx/orderlytx/Propagation -/
def k6 : Class := { plain "com/example/orderly_tx/orderlytx/Propagation" (some 5) with
  accessFlags := 16433
  interfaces := #[]
  cf := some (fileOf pool6 1 #[.nestMembers #[53]] #[{ accessFlags := 0, nameIndex := 89, descriptorIndex := 90, attributes := #[] }] 16433 35 #[] #[{ accessFlags := 16409, nameIndex := 5, descriptorIndex := 6, attributes := #[] }, { accessFlags := 16409, nameIndex := 9, descriptorIndex := 6, attributes := #[] }, { accessFlags := 16409, nameIndex := 12, descriptorIndex := 6, attributes := #[] }, { accessFlags := 16409, nameIndex := 15, descriptorIndex := 6, attributes := #[] }, { accessFlags := 16409, nameIndex := 18, descriptorIndex := 6, attributes := #[] }, { accessFlags := 16409, nameIndex := 21, descriptorIndex := 6, attributes := #[] }, { accessFlags := 16409, nameIndex := 24, descriptorIndex := 6, attributes := #[] }, { accessFlags := 18, nameIndex := 46, descriptorIndex := 47, attributes := #[] }, { accessFlags := 18, nameIndex := 50, descriptorIndex := 47, attributes := #[] }, { accessFlags := 4122, nameIndex := 27, descriptorIndex := 28, attributes := #[] }])
  fields := #[{ name := "REQUIRED", type := (.object "com/example/orderly_tx/orderlytx/Propagation"), accessFlags := 16409, slot := 0, constantValue := 0 }, { name := "REQUIRES_NEW", type := (.object "com/example/orderly_tx/orderlytx/Propagation"), accessFlags := 16409, slot := 1, constantValue := 0 }, { name := "SUPPORTS", type := (.object "com/example/orderly_tx/orderlytx/Propagation"), accessFlags := 16409, slot := 2, constantValue := 0 }, { name := "MANDATORY", type := (.object "com/example/orderly_tx/orderlytx/Propagation"), accessFlags := 16409, slot := 3, constantValue := 0 }, { name := "NOT_SUPPORTED", type := (.object "com/example/orderly_tx/orderlytx/Propagation"), accessFlags := 16409, slot := 4, constantValue := 0 }, { name := "NEVER", type := (.object "com/example/orderly_tx/orderlytx/Propagation"), accessFlags := 16409, slot := 5, constantValue := 0 }, { name := "NESTED", type := (.object "com/example/orderly_tx/orderlytx/Propagation"), accessFlags := 16409, slot := 6, constantValue := 0 }, { name := "whenUnitIsCurrent", type := (.object "com/example/orderly_tx/orderlytx/Propagation$Mode"), accessFlags := 18, slot := 3, constantValue := 0 }, { name := "whenNoUnitIsCurrent", type := (.object "com/example/orderly_tx/orderlytx/Propagation$Mode"), accessFlags := 18, slot := 4, constantValue := 0 }, { name := "$VALUES", type := (.array (.object "com/example/orderly_tx/orderlytx/Propagation")), accessFlags := 4122, slot := 7, constantValue := 0 }]
  methods := #[k6m0]
  instanceTypes := #[(.object "java/lang/String"), .int, .int, (.object "com/example/orderly_tx/orderlytx/Propagation$Mode"), (.object "com/example/orderly_tx/orderlytx/Propagation$Mode")]
  staticTypes := #[(.object "com/example/orderly_tx/orderlytx/Propagation"), (.object "com/example/orderly_tx/orderlytx/Propagation"), (.object "com/example/orderly_tx/orderlytx/Propagation"), (.object "com/example/orderly_tx/orderlytx/Propagation"), (.object "com/example/orderly_tx/orderlytx/Propagation"), (.object "com/example/orderly_tx/orderlytx/Propagation"), (.object "com/example/orderly_tx/orderlytx/Propagation"), (.array (.object "com/example/orderly_tx/orderlytx/Propagation"))]
  resolved := Array.replicate 100 none
  statics := some 0 }

def pool7 : Array CpInfo := pool [(1, .class_ 2), (0, u "com/example/orderly_tx/orderlytx/Propagation$Mode"), (2, u "JOIN"), (0, u "Lcom/example/orderly_tx/orderlytx/Propagation$Mode;"), (2, u "NEW_UNIT"), (2, u "SAVEPOINT"), (2, u "NO_TRANSACTION"), (2, u "REFUSED"), (2, u "$VALUES"), (0, u "[Lcom/example/orderly_tx/orderlytx/Propagation$Mode;"), (6, .class_ 31), (1, u "java/lang/Enum"), (28, .class_ 61), (0, u "com/example/orderly_tx/orderlytx/Propagation")] 2

/-- com/example/orderly_tx/orderlytx/Propagation$Mode -/
def k7 : Class := { plain "com/example/orderly_tx/orderlytx/Propagation$Mode" (some 5) with
  accessFlags := 16432
  interfaces := #[]
  cf := some (fileOf pool7 1 #[.nestHost 60] #[] 16432 29 #[] #[{ accessFlags := 16409, nameIndex := 5, descriptorIndex := 6, attributes := #[] }, { accessFlags := 16409, nameIndex := 9, descriptorIndex := 6, attributes := #[] }, { accessFlags := 16409, nameIndex := 12, descriptorIndex := 6, attributes := #[] }, { accessFlags := 16409, nameIndex := 15, descriptorIndex := 6, attributes := #[] }, { accessFlags := 16409, nameIndex := 18, descriptorIndex := 6, attributes := #[] }, { accessFlags := 4122, nameIndex := 21, descriptorIndex := 22, attributes := #[] }])
  fields := #[{ name := "JOIN", type := (.object "com/example/orderly_tx/orderlytx/Propagation$Mode"), accessFlags := 16409, slot := 0, constantValue := 0 }, { name := "NEW_UNIT", type := (.object "com/example/orderly_tx/orderlytx/Propagation$Mode"), accessFlags := 16409, slot := 1, constantValue := 0 }, { name := "SAVEPOINT", type := (.object "com/example/orderly_tx/orderlytx/Propagation$Mode"), accessFlags := 16409, slot := 2, constantValue := 0 }, { name := "NO_TRANSACTION", type := (.object "com/example/orderly_tx/orderlytx/Propagation$Mode"), accessFlags := 16409, slot := 3, constantValue := 0 }, { name := "REFUSED", type := (.object "com/example/orderly_tx/orderlytx/Propagation$Mode"), accessFlags := 16409, slot := 4, constantValue := 0 }, { name := "$VALUES", type := (.array (.object "com/example/orderly_tx/orderlytx/Propagation$Mode")), accessFlags := 4122, slot := 5, constantValue := 0 }]
  methods := #[]
  instanceTypes := #[(.object "java/lang/String"), .int, .int]
  staticTypes := #[(.object "com/example/orderly_tx/orderlytx/Propagation$Mode"), (.object "com/example/orderly_tx/orderlytx/Propagation$Mode"), (.object "com/example/orderly_tx/orderlytx/Propagation$Mode"), (.object "com/example/orderly_tx/orderlytx/Propagation$Mode"), (.object "com/example/orderly_tx/orderlytx/Propagation$Mode"), (.array (.object "com/example/orderly_tx/orderlytx/Propagation$Mode"))]
  resolved := Array.replicate 64 none
  statics := some 1 }

def pool8 : Array CpInfo := pool [(1, u "java/lang/Cloneable"), (0, .class_ 1), (0, u "java/lang/Object"), (0, .class_ 3)] 3

/-- java/lang/Cloneable -/
def k8 : Class := { plain "java/lang/Cloneable" (some 0) with
  accessFlags := 1537
  interfaces := #[]
  cf := some (fileOf pool8 2 #[] #[] 1537 4 #[] #[])
  fields := #[]
  methods := #[]
  instanceTypes := #[]
  staticTypes := #[]
  resolved := Array.replicate 8 none
  statics := none }

/-- the primitive byte -/
def k9 : Class := { plain "byte" none with kind := .primitive 'B', accessFlags := 0x411 }
/-- [B -/
def k10 : Class := { plain "[B" (some 0) with kind := .array 9 .byte, interfaces := #[8, 4], accessFlags := 1041 }

/-- the primitive int -/
def k11 : Class := { plain "int" none with kind := .primitive 'I', accessFlags := 0x411 }
/-- [I -/
def k12 : Class := { plain "[I" (some 0) with kind := .array 11 .int, interfaces := #[8, 4], accessFlags := 1041 }

def heap : Heap := #[{ cls := 6, slots := #[.ref 7, .ref 8, .ref 9, .ref 10, .ref 11, .ref 12, .ref 13, .null], vm := .statics 6 },
  { cls := 7, slots := #[.ref 2, .ref 3, .ref 6, .ref 4, .ref 5, .null], vm := .statics 7 },
  { cls := 7, slots := #[.null, .int 0, .int 0], vm := .none },
  { cls := 7, slots := #[.null, .int 1, .int 0], vm := .none },
  { cls := 7, slots := #[.null, .int 2, .int 0], vm := .none },
  { cls := 7, slots := #[.null, .int 3, .int 0], vm := .none },
  { cls := 7, slots := #[.null, .int 4, .int 0], vm := .none },
  { cls := 6, slots := #[.null, .int 0, .int 0, .ref 2, .ref 3], vm := .none },
  { cls := 6, slots := #[.null, .int 0, .int 0, .ref 3, .ref 3], vm := .none },
  { cls := 6, slots := #[.null, .int 0, .int 0, .ref 2, .ref 4], vm := .none },
  { cls := 6, slots := #[.null, .int 0, .int 0, .ref 2, .ref 5], vm := .none },
  { cls := 6, slots := #[.null, .int 0, .int 0, .ref 4, .ref 4], vm := .none },
  { cls := 6, slots := #[.null, .int 0, .int 0, .ref 5, .ref 4], vm := .none },
  { cls := 6, slots := #[.null, .int 0, .int 0, .ref 6, .ref 3], vm := .none }]
def classes : Array Class := #[k0, k1, k2, k3, k4, k5, k6, k7, k8, k9, k10, k11, k12]
def interned : List (Array UInt16 × Addr) := []
def slotsUsed : Nat := 64
def theMethod : MethodId := ⟨1, 1⟩
def args0 : Array Value := #[.int 5, .int 1]
def aboutOver (below : List Frame) : State where
  vm := { classes := classes, interned := interned.toArray }
  heap := heap
  slotsUsed := slotsUsed
  threads := #[{ frames := .invoking theMethod args0 :: below }]
def below0 : List Frame := [.native { method := ⟨0, 0⟩, args := #[] }]
def about1 : State := aboutOver below0
def p0 : Program := .bare "" "" ""
def e0 : Env := launch0.env 0 0 0
theorem w_frames : about1.frames = Frame.invoking theMethod args0 :: below0 := rfl
set_option maxRecDepth 65536 in
theorem w_args : argsFit about1.vm theMethod args0 = true := by decide +kernel
set_option maxRecDepth 65536 in
theorem w_heap : heapFits about1 = true := by decide +kernel
set_option maxRecDepth 65536 in
theorem w_runnable : about1.curStatus? = some .runnable := by decide +kernel
set_option maxRecDepth 65536 in
theorem w_alone : about1.alone = true := by decide +kernel
set_option maxRecDepth 65536 in
theorem w_named : about1.methodNamed? x = some theMethod := by decide +kernel
set_option maxRecDepth 65536 in
theorem w_hears : about1.hears theMethod below0 = true := by decide +kernel
set_option maxRecDepth 65536 in
theorem w_ripe : about1.ripe theMethod args0 below0 = true := by decide +kernel
theorem w_running : about1.status = .running := rfl
set_option maxRecDepth 65536 in
theorem w_room : about1.hasRoom e0.platform room_1 = true :=
  launch0.hasRoom_least _ room_1 (by decide +kernel) (by decide +kernel) (by decide +kernel) (by decide +kernel) (by decide +kernel) (by decide +kernel)
theorem allAtoms_all (ts : List Jvm.Cond) (a : Array Jvm.Value) (st : Jvm.State) : (allAtoms ts).before a st = ts.all (fun c => c.before a st) := by
  induction ts with
  | nil => rfl
  | cons c t ih =>
    show (Jvm.Cond.and c (allAtoms t)).before a st = _
    rw [Jvm.Cond.before_and, ih, List.all_cons]
def words1 : List Jvm.Cond := Jvm.Cond.code x code maxLocals ret :: tables_1
/-- a 'code' word, met by the world's own term for the bytes: nothing is compared byte by byte -/
theorem code_word {y : MethodName} {bytes : ByteArray} {mx : Nat} {rt : Option FieldType} {a : Array Value} {s : State} {m : MethodId} {meth : Method} {c : Code} (h1 : s.methodNamed? y = some m) (h2 : s.vm.method? m = some meth) (h3 : meth.code = some c) (h4 : c.code = bytes)
    (h5 : (c.maxLocals == mx && c.exceptionTable.isEmpty && decide (c.maxStack ≤ mostOperands) && decide (meth.sig.returnType = rt) && !meth.locks && decide (parseMethodDescriptor y.desc = some meth.sig)) = true) : (Jvm.Cond.code y bytes mx rt).before a s = true := by
  simp only [Bool.and_eq_true, beq_iff_eq, Bool.not_eq_true', decide_eq_true_eq] at h5
  obtain ⟨⟨⟨⟨⟨g1, g2⟩, g3⟩, g4⟩, g5⟩, g6⟩ := h5
  simp [Cond.before, Cond.holds, Cond.value, h1, h2, h3, h4, g1, g2, g3, g4, g5, g6]
def isCode : Jvm.Cond → Bool
  | .code _ _ _ _ => true
  | _ => false
theorem all_split {L : List Jvm.Cond} {P : Jvm.Cond → Bool} (h1 : L.all (fun c => isCode c || P c) = true) (h2 : ∀ c ∈ L.filter isCode, P c = true) : L.all P = true := by
  refine List.all_eq_true.mpr fun c hc => ?_
  have h := List.all_eq_true.mp h1 c hc
  rcases Bool.eq_false_or_eq_true (isCode c) with hi | hi
  · exact h2 c (List.mem_filter.mpr ⟨hc, hi⟩)
  · simpa [hi] using h
set_option maxRecDepth 65536 in
theorem w_c0 : (Jvm.Cond.code x code maxLocals ret).before args0 about1 = true := code_word (m := ⟨1, 1⟩) (meth := k1m1) (c := k1c1) (by decide +kernel) rfl rfl rfl (by decide +kernel)
set_option maxRecDepth 65536 in
theorem w_c1 : (Jvm.Cond.code ({ cls := "com/example/orderly_tx/orderlytx/PropagationModePinLaw", name := "pick", desc := "(I)Lcom/example/orderly_tx/orderlytx/Propagation;" } : Jvm.MethodName) method_3_code (1 : Nat) (Option.some (Jvm.ClassFile.FieldType.object "com/example/orderly_tx/orderlytx/Propagation"))).before args0 about1 = true := code_word (m := ⟨1, 2⟩) (meth := k1m2) (c := k1c2) (by decide +kernel) rfl rfl rfl (by decide +kernel)
set_option maxRecDepth 65536 in
theorem w_c2 : (Jvm.Cond.code ({ cls := "com/example/orderly_tx/orderlytx/PropagationModePinLaw", name := "expected", desc := "(IZ)Lcom/example/orderly_tx/orderlytx/Propagation$Mode;" } : Jvm.MethodName) method_4_code (2 : Nat) (Option.some (Jvm.ClassFile.FieldType.object "com/example/orderly_tx/orderlytx/Propagation$Mode"))).before args0 about1 = true := code_word (m := ⟨1, 3⟩) (meth := k1m3) (c := k1c3) (by decide +kernel) rfl rfl rfl (by decide +kernel)
set_option maxRecDepth 65536 in
theorem w_c3 : (Jvm.Cond.code ({ cls := "com/example/orderly_tx/orderlytx/Propagation", name := "mode", desc := "(Z)Lcom/example/orderly_tx/orderlytx/Propagation$Mode;" } : Jvm.MethodName) prog_23_method_4_code (2 : Nat) (Option.some (Jvm.ClassFile.FieldType.object "com/example/orderly_tx/orderlytx/Propagation$Mode"))).before args0 about1 = true := code_word (m := ⟨6, 0⟩) (meth := k6m0) (c := k6c0) (by decide +kernel) rfl rfl rfl (by decide +kernel)
def codes1 : List Jvm.Cond := [Jvm.Cond.code x code maxLocals ret, Jvm.Cond.code ({ cls := "com/example/orderly_tx/orderlytx/PropagationModePinLaw", name := "pick", desc := "(I)Lcom/example/orderly_tx/orderlytx/Propagation;" } : Jvm.MethodName) method_3_code (1 : Nat) (Option.some (Jvm.ClassFile.FieldType.object "com/example/orderly_tx/orderlytx/Propagation")), Jvm.Cond.code ({ cls := "com/example/orderly_tx/orderlytx/PropagationModePinLaw", name := "expected", desc := "(IZ)Lcom/example/orderly_tx/orderlytx/Propagation$Mode;" } : Jvm.MethodName) method_4_code (2 : Nat) (Option.some (Jvm.ClassFile.FieldType.object "com/example/orderly_tx/orderlytx/Propagation$Mode")), Jvm.Cond.code ({ cls := "com/example/orderly_tx/orderlytx/Propagation", name := "mode", desc := "(Z)Lcom/example/orderly_tx/orderlytx/Propagation$Mode;" } : Jvm.MethodName) prog_23_method_4_code (2 : Nat) (Option.some (Jvm.ClassFile.FieldType.object "com/example/orderly_tx/orderlytx/Propagation$Mode"))]
set_option maxRecDepth 65536 in
theorem codes_eq : words1.filter isCode = codes1 := rfl
theorem w_codes : ∀ c ∈ words1.filter isCode, c.before args0 about1 = true := by
  rw [codes_eq]
  intro c hc
  simp only [codes1, List.mem_cons, List.not_mem_nil, or_false] at hc
  rcases hc with rfl | rfl | rfl | rfl
  · exact w_c0
  · exact w_c1
  · exact w_c2
  · exact w_c3
set_option maxRecDepth 65536 in
theorem w_t1 : (words1.take 24).all (fun c => isCode c || c.before args0 about1) = true := by decide +kernel
set_option maxRecDepth 65536 in
theorem w_t2 : (words1.drop 24).all (fun c => isCode c || c.before args0 about1) = true := by decide +kernel
theorem w_tables : (allAtoms (Jvm.Cond.code x code maxLocals ret :: tables_1)).before args0 about1 = true := by
  rw [allAtoms_all]
  show words1.all (fun c => c.before args0 about1) = true
  refine all_split ?_ w_codes
  rw [← List.take_append_drop 24 words1, List.all_append, w_t1, w_t2]
  rfl
set_option maxRecDepth 65536 in
theorem w_case : (Jvm.Cond.and given_1 narrow_1).before args0 about1 = true := by decide +kernel
theorem w_applies : (headSpec (Jvm.Cond.code x code maxLocals ret :: tables_1) room_1).applies x e0.platform about1 = true :=
  (Spec.applies_iff w_frames).mpr ⟨w_running, w_runnable, w_alone, w_named, w_hears, w_ripe, w_room, w_tables⟩
theorem atStart : AtStart classFile x code maxLocals ret World_1 tables_1 room_1 Calls_1 rest_1 Pre_1 launch0 p0 e0 about1 theMethod args0 below0 :=
  ⟨lists_1, trivial, launch0.admits_env _ _ _, launch0.least_env, fairChoices_fair.cas, fairChoices_fair.clock, w_frames, w_args, w_heap, w_applies, trivial, trivial, w_case⟩
end start1
theorem witness_1 : WitnessClaimed_1 := ⟨start1.p0, start1.e0, start1.about1, start1.theMethod, start1.args0, start1.below0, start1.atStart⟩
end Jvm.Pilot.@@N@@
