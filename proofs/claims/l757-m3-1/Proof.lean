import JvmDerived
import JvmDerived.Pilot.@@N@@Statement
import JvmDerived.Pilot.@@N@@Code
set_option linter.unusedVariables false
set_option linter.unusedSimpArgs false
@@BLOCK:NumsL.lean.txt@@
namespace Jvm.RoadKit
open Sem ClassFile Op Lib Jvm.Stand Jvm.Free Jvm.LawKit
section New
variable {p : Program} {l : Launch} {e : Env} {R : Room} {s : State} {m : MethodId} {args : Array Value} {below : List Frame} {meth : Method} {c : Code} {T : State} {locs : List Loc} {cells slots : Nat}
theorem retI (X : Stand p l e R s m args below meth c T locs cells slots) (hx : p.tables.exec = Jvm.exec) {pc : Nat} {Ls : Array Slot} {z : Int32} {rest : List Value} (hret : meth.sig.returnType = some .int) (hd : decode c.code pc = .ok (.ireturn, 1)) {fs : List Frame}
    (hl : ∀ (f : JFrame) (acts : List Action), f.method = m → f.locked = none → f.entered = [] → (doReturn e (T.setTop f) acts (some (.int z))).1 = T.setFrames fs) : Steps p.tables e below (T.setTop (mkF m pc Ls (.int z :: rest))) (T.setFrames fs) := by
  have hm' : T.vm.method? m = some meth := X.method'
  have hn : narrow .int (.int z) = .int z := rfl
  show Steps p.tables e below (T.setTop { method := m, pc := pc, locals := Ls, stack := _ :: rest, locked := none }) _
  jvm_step X.here [X.here.top, hx, hd, hm', hret, hn]
  first | (intro acts; rw [hl _ acts rfl rfl rfl]) | rw [hl _ _ rfl rfl rfl]
  exact Steps.refl _
end New
end Jvm.RoadKit
namespace Jvm.Pilot.@@N@@
open Jvm Jvm.ClassFile Sem Op Lib Jvm.Free Jvm.Stand Jvm.LawKit Jvm.RoadKit Bundle Jvm.Pilot.@@N@@.Jvm.D
theorem own_keep {h h' : Heap} (e : h' = h) : Keep h h' [] := e ▸ Keep.refl _ _
theorem own_ws0 {h0 : Heap} {ws : List Addr} : ∀ x ∈ ([] : List Addr), x ∈ ws ∨ h0.size ≤ x := fun _ q => nomatch q
theorem own_ws1 {h0 : Heap} {ws : List Addr} {a : Addr} (q : h0.size ≤ a) : ∀ x ∈ [a], x ∈ ws ∨ h0.size ≤ x := fun x hx => by cases List.mem_singleton.mp hx; exact Or.inr q
theorem own_wsIn {h0 : Heap} {a : Addr} : ∀ x ∈ [a], x ∈ [a] ∨ h0.size ≤ x := fun x hx => Or.inl hx
theorem own_nin {a b : Addr} (h : a ≠ b) : a ∉ [b] := fun q => h (List.mem_singleton.mp q)
theorem own_ne {a b n : Nat} (h : a < n) (e : b = n) : a ≠ b := by omega
theorem d1_0 : decode prog_104_method_5_code 0 = .ok (.aload_n 0, 1) := by decide +kernel
theorem d1_1 : decode prog_104_method_5_code 1 = .ok (.getstatic 13, 3) := by decide +kernel
theorem d1_4 : decode prog_104_method_5_code 4 = .ok (.if_acmp .eq 10, 3) := by decide +kernel
theorem d1_14 : decode prog_104_method_5_code 14 = .ok (.iconst 1, 1) := by decide +kernel
theorem d1_15 : decode prog_104_method_5_code 15 = .ok (.goto 4, 3) := by decide +kernel
theorem d1_19 : decode prog_104_method_5_code 19 = .ok (.ireturn, 1) := by decide +kernel
theorem pn_1 : plainName "com/example/loomplan/loomplan/slots/Channel" = true := by first | (simp [plainName, overriddenIn]; done) | decide +kernel
theorem ef_1 (m : MethodId) (x0 : Addr) : entryFrame m #[(.ref x0)] 1 = mkF m 0 #[.val (.ref x0)] [] := by first | (simp [entryFrame, mkF, argsToLocals, Value.category]; done) | rfl
theorem d1_7 : decode prog_104_method_5_code 7 = .ok (.aload_n 0, 1) := by decide +kernel
theorem d1_8 : decode prog_104_method_5_code 8 = .ok (.getstatic 16, 3) := by decide +kernel
theorem d1_11 : decode prog_104_method_5_code 11 = .ok (.if_acmp .ne 7, 3) := by decide +kernel
theorem d1_18 : decode prog_104_method_5_code 18 = .ok (.iconst 0, 1) := by decide +kernel
def own_f1 (a1 : Addr) (w_CROSSBAR : Addr) (w_COMMON_MEMORY : Addr) : Int32 := (if a1 = w_CROSSBAR then (1 : Int32) else (if a1 = w_COMMON_MEMORY then (1 : Int32) else (0 : Int32)))
def Q1 (Z : State) (a1 : Addr) (w_CROSSBAR : Addr) (w_COMMON_MEMORY : Addr) (h0 : Heap) (n0 : Nat) (v : Option Value) (h : Heap) (L : List Loc) : Prop := v = some (.int (own_f1 a1 w_CROSSBAR w_COMMON_MEMORY)) ∧ Fr n0 L ∧ h = h0
set_option maxRecDepth 65536 in
set_option maxHeartbeats 40000000 in
theorem rm1_t (l : Launch) (Z : State) (a0 : Array Value) (hw : ∀ d ∈ tables_1, d.before a0 Z = true) (ws : List Jvm.Cond) (a1 : Addr) (w_CROSSBAR : Addr) (w_COMMON_MEMORY : Addr) (h0 : Heap) (n0 : Nat) (Z0 : n0 ≤ h0.size) (S_CROSSBAR : Sta Z h0 "com/example/loomplan/loomplan/slots/Channel" "CROSSBAR" "Lcom/example/loomplan/loomplan/slots/Channel;" (.ref w_CROSSBAR)) (S_COMMON_MEMORY : Sta Z h0 "com/example/loomplan/loomplan/slots/Channel" "COMMON_MEMORY" "Lcom/example/loomplan/loomplan/slots/Channel;" (.ref w_COMMON_MEMORY)) (ha4 : a1 = w_CROSSBAR) :
    MetFree l (⟨"com/example/loomplan/loomplan/slots/Channel", "reachesProcessor", "()Z"⟩ : MethodName) (head1 (Jvm.Cond.code (⟨"com/example/loomplan/loomplan/slots/Channel", "reachesProcessor", "()Z"⟩ : MethodName) prog_104_method_5_code 1 (some .boolean) :: ws) ({ frames := 0, cells := 0, slots := 0, locals := 0 } : Room)) (fun a U => a = #[(.ref a1)] ∧ Z.Warmed39 U.vm ∧ U.heap = h0) (fun _ _ _ _ _ => True) (fun _ U o U' => ∃ v L, o = .returned v ∧ Q1 Z a1 w_CROSSBAR w_COMMON_MEMORY h0 n0 v U'.heap L ∧ FrameEnd U o U' L ({ frames := 0, cells := 0, slots := 0, locals := 0 } : Room).cells ({ frames := 0, cells := 0, slots := 0, locals := 0 } : Room).slots) := by
  refine MetFree.of_bodySF (plainFor_of_name pn_1) hisR ?_
  intro p e s m args below meth c s₁ Bd hml0 hP hK
  obtain ⟨rfl, hZ, hh⟩ := hP
  have hx := Bd.exec
  have hby := Bd.bytes
  have hml : c.maxLocals = 1 := hml0
  have hown : s.vm.findClass "com/example/loomplan/loomplan/slots/Channel" = some m.cls := findClass_of_methodNamed Bd.named
  have hnm := (name_of_methodNamed Bd.named Bd.method).1
  have X0 : Stand p l e ({ frames := 0, cells := 0, slots := 0, locals := 0 } : Room) s m #[(.ref a1)] below meth c s₁ [] 0 0 := Stand.of_body Bd
  have e0 : s₁.heap = h0 := by rw [← hh, Bd.state]; rfl
  have N0 := Fr.nil n0
  have pre0 : ∀ t, Steps p.tables e below (s₁.setTop (mkF m 0 #[.val (.ref a1)] [])) t → Steps p.tables e below (s₁.setTop (entryFrame m #[(.ref a1)] 1)) t := fun t k => castTop (ef_1 m a1) k
  -- 3. LAWS
  obtain ⟨T3, X3, e3, st3⟩ := getS2 X0 hx hZ hown (host := "") (Or.inl (hw _ (List.mem_of_getElem? (i := 21) rfl))) Via.refl e0 S_CROSSBAR (g := (mkF m 1 #[.val (.ref a1)] [(.ref a1)])) rfl (hb hby d1_1)
  obtain ⟨fs, hr, hrun, hended, hW, hsame⟩ := X3.leave (v := some (.int (1 : Int32))) (fun h => by rw [Bd.returns] at h; cases h) (BodyLoose.notSynchronized Bd)
  refine ⟨_, _, pre0 _ ?_, hrun, hended, _, _, rfl, ?_, ⟨_, rfl⟩, hW, hsame.mono (by decide) (by decide)⟩
  -- 4. STEPS
  · show Steps p.tables e below (s₁.setTop (mkF m 0 #[.val (.ref a1)] [])) _
    refine XS.aloadN X0.here hx rfl (hb hby d1_0) rfl rfl ?_
    show Steps p.tables e below (s₁.setTop (mkF m 1 #[.val (.ref a1)] [(.ref a1)])) _
    refine st3 _ ?_
    show Steps p.tables e below (T3.setTop (mkF m 4 #[.val (.ref a1)] [(.ref w_CROSSBAR), (.ref a1)])) _
    refine Jvm.RoadKit.acmp (g := (mkF m 4 #[.val (.ref a1)] [(.ref w_CROSSBAR), (.ref a1)])) X3 hx rfl rfl rfl (pc0 := 4) (pc' := 14) (same := true) rfl (hb hby d1_4) rfl (decide_eq_true (congrArg Value.ref ha4)) (by decide) (by decide) ?_
    show Steps p.tables e below (T3.setTop (mkF m 14 #[.val (.ref a1)] [])) _
    refine XS.iconst X3.here hx rfl (hb hby d1_14) ?_
    show Steps p.tables e below (T3.setTop (mkF m 15 #[.val (.ref a1)] [(.int (1 : Int32))])) _
    refine XS.goto X3.here hx rfl (pc0 := 15) (pc' := 19) rfl (hb hby d1_15) (by decide) (by decide) ?_
    show Steps p.tables e below (T3.setTop (mkF m 19 #[.val (.ref a1)] [(.int (1 : Int32))])) _
    exact retN X3 hx (t := .boolean) Bd.returns (by simp) (hb hby d1_19) hr
  · show Q1 Z a1 w_CROSSBAR w_COMMON_MEMORY h0 n0 _ T3.heap _
    rw [e3]
    exact ⟨(by unfold own_f1; rw [if_pos ha4]), N0, rfl⟩
set_option maxRecDepth 65536 in
set_option maxHeartbeats 40000000 in
theorem rm1_ft (l : Launch) (Z : State) (a0 : Array Value) (hw : ∀ d ∈ tables_1, d.before a0 Z = true) (ws : List Jvm.Cond) (a1 : Addr) (w_CROSSBAR : Addr) (w_COMMON_MEMORY : Addr) (h0 : Heap) (n0 : Nat) (Z0 : n0 ≤ h0.size) (S_CROSSBAR : Sta Z h0 "com/example/loomplan/loomplan/slots/Channel" "CROSSBAR" "Lcom/example/loomplan/loomplan/slots/Channel;" (.ref w_CROSSBAR)) (S_COMMON_MEMORY : Sta Z h0 "com/example/loomplan/loomplan/slots/Channel" "COMMON_MEMORY" "Lcom/example/loomplan/loomplan/slots/Channel;" (.ref w_COMMON_MEMORY)) (ha4 : ¬ (a1 = w_CROSSBAR)) (ha11 : ¬ (a1 = w_COMMON_MEMORY)) :
    MetFree l (⟨"com/example/loomplan/loomplan/slots/Channel", "reachesProcessor", "()Z"⟩ : MethodName) (head1 (Jvm.Cond.code (⟨"com/example/loomplan/loomplan/slots/Channel", "reachesProcessor", "()Z"⟩ : MethodName) prog_104_method_5_code 1 (some .boolean) :: ws) ({ frames := 0, cells := 0, slots := 0, locals := 0 } : Room)) (fun a U => a = #[(.ref a1)] ∧ Z.Warmed39 U.vm ∧ U.heap = h0) (fun _ _ _ _ _ => True) (fun _ U o U' => ∃ v L, o = .returned v ∧ Q1 Z a1 w_CROSSBAR w_COMMON_MEMORY h0 n0 v U'.heap L ∧ FrameEnd U o U' L ({ frames := 0, cells := 0, slots := 0, locals := 0 } : Room).cells ({ frames := 0, cells := 0, slots := 0, locals := 0 } : Room).slots) := by
  refine MetFree.of_bodySF (plainFor_of_name pn_1) hisR ?_
  intro p e s m args below meth c s₁ Bd hml0 hP hK
  obtain ⟨rfl, hZ, hh⟩ := hP
  have hx := Bd.exec
  have hby := Bd.bytes
  have hml : c.maxLocals = 1 := hml0
  have hown : s.vm.findClass "com/example/loomplan/loomplan/slots/Channel" = some m.cls := findClass_of_methodNamed Bd.named
  have hnm := (name_of_methodNamed Bd.named Bd.method).1
  have X0 : Stand p l e ({ frames := 0, cells := 0, slots := 0, locals := 0 } : Room) s m #[(.ref a1)] below meth c s₁ [] 0 0 := Stand.of_body Bd
  have e0 : s₁.heap = h0 := by rw [← hh, Bd.state]; rfl
  have N0 := Fr.nil n0
  have pre0 : ∀ t, Steps p.tables e below (s₁.setTop (mkF m 0 #[.val (.ref a1)] [])) t → Steps p.tables e below (s₁.setTop (entryFrame m #[(.ref a1)] 1)) t := fun t k => castTop (ef_1 m a1) k
  -- 3. LAWS
  obtain ⟨T3, X3, e3, st3⟩ := getS2 X0 hx hZ hown (host := "") (Or.inl (hw _ (List.mem_of_getElem? (i := 21) rfl))) Via.refl e0 S_CROSSBAR (g := (mkF m 1 #[.val (.ref a1)] [(.ref a1)])) rfl (hb hby d1_1)
  obtain ⟨T5, X5, e5, st5⟩ := getS2 X3 hx hZ hown (host := "") (Or.inl (hw _ (List.mem_of_getElem? (i := 22) rfl))) Via.refl e3 S_COMMON_MEMORY (g := (mkF m 8 #[.val (.ref a1)] [(.ref a1)])) rfl (hb hby d1_8)
  obtain ⟨fs, hr, hrun, hended, hW, hsame⟩ := X5.leave (v := some (.int (0 : Int32))) (fun h => by rw [Bd.returns] at h; cases h) (BodyLoose.notSynchronized Bd)
  refine ⟨_, _, pre0 _ ?_, hrun, hended, _, _, rfl, ?_, ⟨_, rfl⟩, hW, hsame.mono (by decide) (by decide)⟩
  -- 4. STEPS
  · show Steps p.tables e below (s₁.setTop (mkF m 0 #[.val (.ref a1)] [])) _
    refine XS.aloadN X0.here hx rfl (hb hby d1_0) rfl rfl ?_
    show Steps p.tables e below (s₁.setTop (mkF m 1 #[.val (.ref a1)] [(.ref a1)])) _
    refine st3 _ ?_
    show Steps p.tables e below (T3.setTop (mkF m 4 #[.val (.ref a1)] [(.ref w_CROSSBAR), (.ref a1)])) _
    refine Jvm.RoadKit.acmp (g := (mkF m 4 #[.val (.ref a1)] [(.ref w_CROSSBAR), (.ref a1)])) X3 hx rfl rfl rfl (pc0 := 4) (pc' := 7) (same := false) rfl (hb hby d1_4) rfl (decide_eq_false fun q => ha4 (Value.ref.inj q)) (by decide) (by decide) ?_
    show Steps p.tables e below (T3.setTop (mkF m 7 #[.val (.ref a1)] [])) _
    refine XS.aloadN X3.here hx rfl (hb hby d1_7) rfl rfl ?_
    show Steps p.tables e below (T3.setTop (mkF m 8 #[.val (.ref a1)] [(.ref a1)])) _
    refine st5 _ ?_
    show Steps p.tables e below (T5.setTop (mkF m 11 #[.val (.ref a1)] [(.ref w_COMMON_MEMORY), (.ref a1)])) _
    refine Jvm.RoadKit.acmp (g := (mkF m 11 #[.val (.ref a1)] [(.ref w_COMMON_MEMORY), (.ref a1)])) X5 hx rfl rfl rfl (pc0 := 11) (pc' := 18) (same := false) rfl (hb hby d1_11) rfl (decide_eq_false fun q => ha11 (Value.ref.inj q)) (by decide) (by decide) ?_
    show Steps p.tables e below (T5.setTop (mkF m 18 #[.val (.ref a1)] [])) _
    refine XS.iconst X5.here hx rfl (hb hby d1_18) ?_
    show Steps p.tables e below (T5.setTop (mkF m 19 #[.val (.ref a1)] [(.int (0 : Int32))])) _
    exact retN X5 hx (t := .boolean) Bd.returns (by simp) (hb hby d1_19) hr
  · show Q1 Z a1 w_CROSSBAR w_COMMON_MEMORY h0 n0 _ T5.heap _
    rw [e5]
    exact ⟨(by unfold own_f1; rw [if_neg ha4, if_neg ha11]), N0, rfl⟩
set_option maxRecDepth 65536 in
set_option maxHeartbeats 40000000 in
theorem rm1_ff (l : Launch) (Z : State) (a0 : Array Value) (hw : ∀ d ∈ tables_1, d.before a0 Z = true) (ws : List Jvm.Cond) (a1 : Addr) (w_CROSSBAR : Addr) (w_COMMON_MEMORY : Addr) (h0 : Heap) (n0 : Nat) (Z0 : n0 ≤ h0.size) (S_CROSSBAR : Sta Z h0 "com/example/loomplan/loomplan/slots/Channel" "CROSSBAR" "Lcom/example/loomplan/loomplan/slots/Channel;" (.ref w_CROSSBAR)) (S_COMMON_MEMORY : Sta Z h0 "com/example/loomplan/loomplan/slots/Channel" "COMMON_MEMORY" "Lcom/example/loomplan/loomplan/slots/Channel;" (.ref w_COMMON_MEMORY)) (ha4 : ¬ (a1 = w_CROSSBAR)) (ha11 : a1 = w_COMMON_MEMORY) :
    MetFree l (⟨"com/example/loomplan/loomplan/slots/Channel", "reachesProcessor", "()Z"⟩ : MethodName) (head1 (Jvm.Cond.code (⟨"com/example/loomplan/loomplan/slots/Channel", "reachesProcessor", "()Z"⟩ : MethodName) prog_104_method_5_code 1 (some .boolean) :: ws) ({ frames := 0, cells := 0, slots := 0, locals := 0 } : Room)) (fun a U => a = #[(.ref a1)] ∧ Z.Warmed39 U.vm ∧ U.heap = h0) (fun _ _ _ _ _ => True) (fun _ U o U' => ∃ v L, o = .returned v ∧ Q1 Z a1 w_CROSSBAR w_COMMON_MEMORY h0 n0 v U'.heap L ∧ FrameEnd U o U' L ({ frames := 0, cells := 0, slots := 0, locals := 0 } : Room).cells ({ frames := 0, cells := 0, slots := 0, locals := 0 } : Room).slots) := by
  refine MetFree.of_bodySF (plainFor_of_name pn_1) hisR ?_
  intro p e s m args below meth c s₁ Bd hml0 hP hK
  obtain ⟨rfl, hZ, hh⟩ := hP
  have hx := Bd.exec
  have hby := Bd.bytes
  have hml : c.maxLocals = 1 := hml0
  have hown : s.vm.findClass "com/example/loomplan/loomplan/slots/Channel" = some m.cls := findClass_of_methodNamed Bd.named
  have hnm := (name_of_methodNamed Bd.named Bd.method).1
  have X0 : Stand p l e ({ frames := 0, cells := 0, slots := 0, locals := 0 } : Room) s m #[(.ref a1)] below meth c s₁ [] 0 0 := Stand.of_body Bd
  have e0 : s₁.heap = h0 := by rw [← hh, Bd.state]; rfl
  have N0 := Fr.nil n0
  have pre0 : ∀ t, Steps p.tables e below (s₁.setTop (mkF m 0 #[.val (.ref a1)] [])) t → Steps p.tables e below (s₁.setTop (entryFrame m #[(.ref a1)] 1)) t := fun t k => castTop (ef_1 m a1) k
  -- 3. LAWS
  obtain ⟨T3, X3, e3, st3⟩ := getS2 X0 hx hZ hown (host := "") (Or.inl (hw _ (List.mem_of_getElem? (i := 21) rfl))) Via.refl e0 S_CROSSBAR (g := (mkF m 1 #[.val (.ref a1)] [(.ref a1)])) rfl (hb hby d1_1)
  obtain ⟨T5, X5, e5, st5⟩ := getS2 X3 hx hZ hown (host := "") (Or.inl (hw _ (List.mem_of_getElem? (i := 22) rfl))) Via.refl e3 S_COMMON_MEMORY (g := (mkF m 8 #[.val (.ref a1)] [(.ref a1)])) rfl (hb hby d1_8)
  obtain ⟨fs, hr, hrun, hended, hW, hsame⟩ := X5.leave (v := some (.int (1 : Int32))) (fun h => by rw [Bd.returns] at h; cases h) (BodyLoose.notSynchronized Bd)
  refine ⟨_, _, pre0 _ ?_, hrun, hended, _, _, rfl, ?_, ⟨_, rfl⟩, hW, hsame.mono (by decide) (by decide)⟩
  -- 4. STEPS
  · show Steps p.tables e below (s₁.setTop (mkF m 0 #[.val (.ref a1)] [])) _
    refine XS.aloadN X0.here hx rfl (hb hby d1_0) rfl rfl ?_
    show Steps p.tables e below (s₁.setTop (mkF m 1 #[.val (.ref a1)] [(.ref a1)])) _
    refine st3 _ ?_
    show Steps p.tables e below (T3.setTop (mkF m 4 #[.val (.ref a1)] [(.ref w_CROSSBAR), (.ref a1)])) _
    refine Jvm.RoadKit.acmp (g := (mkF m 4 #[.val (.ref a1)] [(.ref w_CROSSBAR), (.ref a1)])) X3 hx rfl rfl rfl (pc0 := 4) (pc' := 7) (same := false) rfl (hb hby d1_4) rfl (decide_eq_false fun q => ha4 (Value.ref.inj q)) (by decide) (by decide) ?_
    show Steps p.tables e below (T3.setTop (mkF m 7 #[.val (.ref a1)] [])) _
    refine XS.aloadN X3.here hx rfl (hb hby d1_7) rfl rfl ?_
    show Steps p.tables e below (T3.setTop (mkF m 8 #[.val (.ref a1)] [(.ref a1)])) _
    refine st5 _ ?_
    show Steps p.tables e below (T5.setTop (mkF m 11 #[.val (.ref a1)] [(.ref w_COMMON_MEMORY), (.ref a1)])) _
    refine Jvm.RoadKit.acmp (g := (mkF m 11 #[.val (.ref a1)] [(.ref w_COMMON_MEMORY), (.ref a1)])) X5 hx rfl rfl rfl (pc0 := 11) (pc' := 14) (same := true) rfl (hb hby d1_11) rfl (decide_eq_true (congrArg Value.ref ha11)) (by decide) (by decide) ?_
    show Steps p.tables e below (T5.setTop (mkF m 14 #[.val (.ref a1)] [])) _
    refine XS.iconst X5.here hx rfl (hb hby d1_14) ?_
    show Steps p.tables e below (T5.setTop (mkF m 15 #[.val (.ref a1)] [(.int (1 : Int32))])) _
    refine XS.goto X5.here hx rfl (pc0 := 15) (pc' := 19) rfl (hb hby d1_15) (by decide) (by decide) ?_
    show Steps p.tables e below (T5.setTop (mkF m 19 #[.val (.ref a1)] [(.int (1 : Int32))])) _
    exact retN X5 hx (t := .boolean) Bd.returns (by simp) (hb hby d1_19) hr
  · show Q1 Z a1 w_CROSSBAR w_COMMON_MEMORY h0 n0 _ T5.heap _
    rw [e5]
    exact ⟨(by unfold own_f1; rw [if_neg ha4, if_pos ha11]), N0, rfl⟩
set_option maxRecDepth 65536 in
set_option maxHeartbeats 40000000 in
theorem rm1 (l : Launch) (Z : State) (a0 : Array Value) (hw : ∀ d ∈ tables_1, d.before a0 Z = true) (ws : List Jvm.Cond) (a1 : Addr) (w_CROSSBAR : Addr) (w_COMMON_MEMORY : Addr) (h0 : Heap) (n0 : Nat) (Z0 : n0 ≤ h0.size) (S_CROSSBAR : Sta Z h0 "com/example/loomplan/loomplan/slots/Channel" "CROSSBAR" "Lcom/example/loomplan/loomplan/slots/Channel;" (.ref w_CROSSBAR)) (S_COMMON_MEMORY : Sta Z h0 "com/example/loomplan/loomplan/slots/Channel" "COMMON_MEMORY" "Lcom/example/loomplan/loomplan/slots/Channel;" (.ref w_COMMON_MEMORY)) :
    MetFree l (⟨"com/example/loomplan/loomplan/slots/Channel", "reachesProcessor", "()Z"⟩ : MethodName) (head1 (Jvm.Cond.code (⟨"com/example/loomplan/loomplan/slots/Channel", "reachesProcessor", "()Z"⟩ : MethodName) prog_104_method_5_code 1 (some .boolean) :: ws) ({ frames := 0, cells := 0, slots := 0, locals := 0 } : Room)) (fun a U => a = #[(.ref a1)] ∧ Z.Warmed39 U.vm ∧ U.heap = h0) (fun _ _ _ _ _ => True) (fun _ U o U' => ∃ v L, o = .returned v ∧ Q1 Z a1 w_CROSSBAR w_COMMON_MEMORY h0 n0 v U'.heap L ∧ FrameEnd U o U' L ({ frames := 0, cells := 0, slots := 0, locals := 0 } : Room).cells ({ frames := 0, cells := 0, slots := 0, locals := 0 } : Room).slots) := by
  by_cases ha4 : a1 = w_CROSSBAR
  · exact rm1_t l Z a0 hw ws a1 w_CROSSBAR w_COMMON_MEMORY h0 n0 Z0 S_CROSSBAR S_COMMON_MEMORY ha4
  · by_cases ha11 : a1 = w_COMMON_MEMORY
    · exact rm1_ff l Z a0 hw ws a1 w_CROSSBAR w_COMMON_MEMORY h0 n0 Z0 S_CROSSBAR S_COMMON_MEMORY ha4 ha11
    · exact rm1_ft l Z a0 hw ws a1 w_CROSSBAR w_COMMON_MEMORY h0 n0 Z0 S_CROSSBAR S_COMMON_MEMORY ha4 ha11
theorem pn_0 : plainName "com/example/loomplan/loomplan/slots/ChannelReachesProcessorPinLaw" = true := by first | (simp [plainName, overriddenIn]; done) | decide +kernel
theorem pd_0_0 : parseMethodDescriptor "()Z" = some ⟨[], some .boolean⟩ := by decide +kernel
theorem ef_0 (m : MethodId) (x0 : Int32) : entryFrame m #[(.int x0)] maxLocals = mkF m 0 #[.val (.int x0), .unset, .unset, .unset, .unset] [] := by first | (simp [entryFrame, mkF, argsToLocals, Value.category, maxLocals]; done) | rfl
def Q0 (Z : State) (h0 : Heap) (n0 : Nat) (v : Option Value) (h : Heap) (L : List Loc) : Prop := v = some (.int (1 : Int32)) ∧ Fr n0 L
set_option maxRecDepth 65536 in
set_option maxHeartbeats 40000000 in
theorem rm0_x (l : Launch) (Z : State) (a0 : Array Value) (hw : ∀ d ∈ tables_1, d.before a0 Z = true) (ws : List Jvm.Cond) (p1 : Int32) (w_BUS_MACRO : Addr) (w_SRAM : Addr) (w_RMB : Addr) (w_CROSSBAR : Addr) (w_COMMON_MEMORY : Addr) (w24 : Addr) (w26 : Int32) (jn : Nat) (h0 : Heap) (n0 : Nat) (Z0 : n0 ≤ h0.size) (S_BUS_MACRO : Sta Z h0 "com/example/loomplan/loomplan/slots/Channel" "BUS_MACRO" "Lcom/example/loomplan/loomplan/slots/Channel;" (.ref w_BUS_MACRO)) (S_SRAM : Sta Z h0 "com/example/loomplan/loomplan/slots/Channel" "SRAM" "Lcom/example/loomplan/loomplan/slots/Channel;" (.ref w_SRAM)) (S_RMB : Sta Z h0 "com/example/loomplan/loomplan/slots/Channel" "RMB" "Lcom/example/loomplan/loomplan/slots/Channel;" (.ref w_RMB)) (S_CROSSBAR : Sta Z h0 "com/example/loomplan/loomplan/slots/Channel" "CROSSBAR" "Lcom/example/loomplan/loomplan/slots/Channel;" (.ref w_CROSSBAR)) (S_COMMON_MEMORY : Sta Z h0 "com/example/loomplan/loomplan/slots/Channel" "COMMON_MEMORY" "Lcom/example/loomplan/loomplan/slots/Channel;" (.ref w_COMMON_MEMORY)) (E_BUS_MACRO : Exa Z h0 w_BUS_MACRO "com/example/loomplan/loomplan/slots/Channel") (E_SRAM : Exa Z h0 w_SRAM "com/example/loomplan/loomplan/slots/Channel") (E_RMB : Exa Z h0 w_RMB "com/example/loomplan/loomplan/slots/Channel") (E_CROSSBAR : Exa Z h0 w_CROSSBAR "com/example/loomplan/loomplan/slots/Channel") (E_COMMON_MEMORY : Exa Z h0 w_COMMON_MEMORY "com/example/loomplan/loomplan/slots/Channel") (E_w24 : Exa Z h0 w24 "com/example/loomplan/loomplan/slots/Channel") (hneg : ¬ (((p1 &&& (2147483647 : Int32)) % (5 : Int32)) < 0)) (hlt5 : ((p1 &&& (2147483647 : Int32)) % (5 : Int32)) < (5 : Int32)) (hj : (((p1 &&& (2147483647 : Int32)) % (5 : Int32))).toNatClampNeg = jn) (hel : [Value.ref w_BUS_MACRO, Value.ref w_SRAM, Value.ref w_RMB, Value.ref w_CROSSBAR, Value.ref w_COMMON_MEMORY].getD jn Value.null = .ref w24) (hez : [Value.int (0 : Int32), Value.int (0 : Int32), Value.int (0 : Int32), Value.int (1 : Int32), Value.int (1 : Int32)].getD jn (Value.int (0 : Int32)) = .int w26) (ht79 : (own_f1 w24 w_CROSSBAR w_COMMON_MEMORY) = w26) :
    MetFree l x (head1 (Jvm.Cond.code x code maxLocals ret :: ws) room_1) (fun a U => a = #[(.int p1)] ∧ Z.Warmed39 U.vm ∧ U.heap = h0) (fun _ _ _ _ _ => True) (fun _ U o U' => ∃ v L, o = .returned v ∧ Q0 Z h0 n0 v U'.heap L ∧ FrameEnd U o U' L room_1.cells room_1.slots) := by
  refine MetFree.of_bodySF (plainFor_of_name pn_0) hisR ?_
  intro p e s m args below meth c s₁ Bd hml0 hP hK
  obtain ⟨rfl, hZ, hh⟩ := hP
  have hx := Bd.exec
  have hby := Bd.bytes
  have hml : c.maxLocals = 5 := hml0
  have hown : s.vm.findClass "com/example/loomplan/loomplan/slots/ChannelReachesProcessorPinLaw" = some m.cls := findClass_of_methodNamed Bd.named
  have hnm := (name_of_methodNamed Bd.named Bd.method).1
  have X0 : Stand p l e room_1 s m #[(.int p1)] below meth c s₁ [] 0 0 := Stand.of_body Bd
  have e0 : s₁.heap = h0 := by rw [← hh, Bd.state]; rfl
  have N0 := Fr.nil n0
  have pre0 : ∀ t, Steps p.tables e below (s₁.setTop (mkF m 0 #[.val (.int p1), .unset, .unset, .unset, .unset] [])) t → Steps p.tables e below (s₁.setTop (entryFrame m #[(.int p1)] maxLocals)) t := fun t k => castTop (ef_0 m p1) k
  obtain ⟨T2, h2, k2, X2, e2, E2, A2, O2, st2⟩ := newR X0 hx hZ hown (hw _ (List.mem_of_getElem? (i := 1) rfl)) (hw _ (List.mem_of_getElem? (i := 2) rfl)) e0 (g := (mkF m 8 #[.val (.int p1), .val (.int ((p1 &&& (2147483647 : Int32)) % (5 : Int32))), .unset, .unset, .unset] [(.int (5 : Int32))])) rfl (hb hby at_8) rfl (by decide) (cap := 5) (by decide) (by decide) (by decide) (by decide)
  obtain ⟨b2, g2⟩ : ∃ z, z = h0.size := ⟨_, rfl⟩      -- the fresh array's address
  rw [← g2] at A2 st2
  have V_b2 : Arv Z h2 b2 k2 (.object "com/example/loomplan/loomplan/slots/Channel") (5 : Int32) [.null, .null, .null, .null, .null] .null := (Arv.new A2 (by decide)).pad (pad_rep [] .null 5)
  have g_b2 : n0 ≤ b2 := Nat.le_trans Z0 (Nat.le_of_eq g2.symm)
  have sz_b2 : h0.size ≤ b2 := (Nat.le_trans (Keep.refl h0 []).1 (Nat.le_of_eq g2.symm))
  have K2 : Keep h0 h2 [] := (Keep.refl h0 []).ext E2
  obtain ⟨T4, X4, e4, st4⟩ := getS2 X2 hx hZ hown (host := "") (Or.inl (hw _ (List.mem_of_getElem? (i := 3) rfl))) Via.refl e2 (S_BUS_MACRO.ext E2) (g := (mkF m 13 #[.val (.int p1), .val (.int ((p1 &&& (2147483647 : Int32)) % (5 : Int32))), .unset, .unset, .unset] [(.int (0 : Int32)), (.ref b2), (.ref b2)])) rfl (hb hby at_13)
  obtain ⟨cl_16, Ar_b2, q_b2, S_b2, N_b2, H_b2, G_b2⟩ := V_b2
  have hin16 : ¬ ((0 : Int32) < 0 ∨ cl_16.slots.size ≤ ((0 : Int32)).toNatClampNeg) := inb_of S_b2 ⟨by decide, by decide⟩
  have Sto16 : Sto Z h2 b2 (.ref w_BUS_MACRO) := Sto.ofV Ar_b2 q_b2 O2 (Ins.self (E_BUS_MACRO.ext E2))
  obtain ⟨T5, h5, X5, e5, W5, st5⟩ := stR X4 hx hZ e4 Ar_b2 (j := (0 : Int32)) hin16 rfl Sto16 (g := (mkF m 16 #[.val (.int p1), .val (.int ((p1 &&& (2147483647 : Int32)) % (5 : Int32))), .unset, .unset, .unset] [(.ref w_BUS_MACRO), (.int (0 : Int32)), (.ref b2), (.ref b2)])) rfl rfl (hb hby at_16)
  have V_b2_5 : Arv Z h5 b2 k2 (.object "com/example/loomplan/loomplan/slots/Channel") (5 : Int32) [(.ref w_BUS_MACRO), .null, .null, .null, .null] .null := Arv.set Ar_b2 q_b2 S_b2 N_b2 H_b2 G_b2 rfl W5 0 rfl (Nat.le_of_ble_eq_true rfl)
  have N5 := Fr.snoc X5 N0 g_b2
  have K5 : Keep h0 h5 [] := K2.wr W5 (Or.inr sz_b2)
  obtain ⟨T7, X7, e7, st7⟩ := getS2 X5 hx hZ hown (host := "") (Or.inl (hw _ (List.mem_of_getElem? (i := 7) rfl))) Via.refl e5 ((S_SRAM.ext E2).wr W5) (g := (mkF m 19 #[.val (.int p1), .val (.int ((p1 &&& (2147483647 : Int32)) % (5 : Int32))), .unset, .unset, .unset] [(.int (1 : Int32)), (.ref b2), (.ref b2)])) rfl (hb hby at_19)
  obtain ⟨cl_22, Ar_b2, q_b2, S_b2, N_b2, H_b2, G_b2⟩ := V_b2_5
  have hin22 : ¬ ((1 : Int32) < 0 ∨ cl_22.slots.size ≤ ((1 : Int32)).toNatClampNeg) := inb_of S_b2 ⟨by decide, by decide⟩
  have Sto22 : Sto Z h5 b2 (.ref w_SRAM) := Sto.ofV Ar_b2 q_b2 O2 (Ins.self ((E_SRAM.ext E2).wr W5))
  obtain ⟨T8, h8, X8, e8, W8, st8⟩ := stR X7 hx hZ e7 Ar_b2 (j := (1 : Int32)) hin22 rfl Sto22 (g := (mkF m 22 #[.val (.int p1), .val (.int ((p1 &&& (2147483647 : Int32)) % (5 : Int32))), .unset, .unset, .unset] [(.ref w_SRAM), (.int (1 : Int32)), (.ref b2), (.ref b2)])) rfl rfl (hb hby at_22)
  have V_b2_8 : Arv Z h8 b2 k2 (.object "com/example/loomplan/loomplan/slots/Channel") (5 : Int32) [(.ref w_BUS_MACRO), (.ref w_SRAM), .null, .null, .null] .null := Arv.set Ar_b2 q_b2 S_b2 N_b2 H_b2 G_b2 rfl W8 1 rfl (Nat.le_of_ble_eq_true rfl)
  have N8 := Fr.snoc X8 N5 g_b2
  have K8 : Keep h0 h8 [] := K5.wr W8 (Or.inr sz_b2)
  obtain ⟨T10, X10, e10, st10⟩ := getS2 X8 hx hZ hown (host := "") (Or.inl (hw _ (List.mem_of_getElem? (i := 9) rfl))) Via.refl e8 (((S_RMB.ext E2).wr W5).wr W8) (g := (mkF m 25 #[.val (.int p1), .val (.int ((p1 &&& (2147483647 : Int32)) % (5 : Int32))), .unset, .unset, .unset] [(.int (2 : Int32)), (.ref b2), (.ref b2)])) rfl (hb hby at_25)
  obtain ⟨cl_28, Ar_b2, q_b2, S_b2, N_b2, H_b2, G_b2⟩ := V_b2_8
  have hin28 : ¬ ((2 : Int32) < 0 ∨ cl_28.slots.size ≤ ((2 : Int32)).toNatClampNeg) := inb_of S_b2 ⟨by decide, by decide⟩
  have Sto28 : Sto Z h8 b2 (.ref w_RMB) := Sto.ofV Ar_b2 q_b2 O2 (Ins.self (((E_RMB.ext E2).wr W5).wr W8))
  obtain ⟨T11, h11, X11, e11, W11, st11⟩ := stR X10 hx hZ e10 Ar_b2 (j := (2 : Int32)) hin28 rfl Sto28 (g := (mkF m 28 #[.val (.int p1), .val (.int ((p1 &&& (2147483647 : Int32)) % (5 : Int32))), .unset, .unset, .unset] [(.ref w_RMB), (.int (2 : Int32)), (.ref b2), (.ref b2)])) rfl rfl (hb hby at_28)
  have V_b2_11 : Arv Z h11 b2 k2 (.object "com/example/loomplan/loomplan/slots/Channel") (5 : Int32) [(.ref w_BUS_MACRO), (.ref w_SRAM), (.ref w_RMB), .null, .null] .null := Arv.set Ar_b2 q_b2 S_b2 N_b2 H_b2 G_b2 rfl W11 2 rfl (Nat.le_of_ble_eq_true rfl)
  have N11 := Fr.snoc X11 N8 g_b2
  have K11 : Keep h0 h11 [] := K8.wr W11 (Or.inr sz_b2)
  obtain ⟨T13, X13, e13, st13⟩ := getS2 X11 hx hZ hown (host := "") (Or.inl (hw _ (List.mem_of_getElem? (i := 11) rfl))) Via.refl e11 ((((S_CROSSBAR.ext E2).wr W5).wr W8).wr W11) (g := (mkF m 31 #[.val (.int p1), .val (.int ((p1 &&& (2147483647 : Int32)) % (5 : Int32))), .unset, .unset, .unset] [(.int (3 : Int32)), (.ref b2), (.ref b2)])) rfl (hb hby at_31)
  obtain ⟨cl_34, Ar_b2, q_b2, S_b2, N_b2, H_b2, G_b2⟩ := V_b2_11
  have hin34 : ¬ ((3 : Int32) < 0 ∨ cl_34.slots.size ≤ ((3 : Int32)).toNatClampNeg) := inb_of S_b2 ⟨by decide, by decide⟩
  have Sto34 : Sto Z h11 b2 (.ref w_CROSSBAR) := Sto.ofV Ar_b2 q_b2 O2 (Ins.self ((((E_CROSSBAR.ext E2).wr W5).wr W8).wr W11))
  obtain ⟨T14, h14, X14, e14, W14, st14⟩ := stR X13 hx hZ e13 Ar_b2 (j := (3 : Int32)) hin34 rfl Sto34 (g := (mkF m 34 #[.val (.int p1), .val (.int ((p1 &&& (2147483647 : Int32)) % (5 : Int32))), .unset, .unset, .unset] [(.ref w_CROSSBAR), (.int (3 : Int32)), (.ref b2), (.ref b2)])) rfl rfl (hb hby at_34)
  have V_b2_14 : Arv Z h14 b2 k2 (.object "com/example/loomplan/loomplan/slots/Channel") (5 : Int32) [(.ref w_BUS_MACRO), (.ref w_SRAM), (.ref w_RMB), (.ref w_CROSSBAR), .null] .null := Arv.set Ar_b2 q_b2 S_b2 N_b2 H_b2 G_b2 rfl W14 3 rfl (Nat.le_of_ble_eq_true rfl)
  have N14 := Fr.snoc X14 N11 g_b2
  have K14 : Keep h0 h14 [] := K11.wr W14 (Or.inr sz_b2)
  obtain ⟨T16, X16, e16, st16⟩ := getS2 X14 hx hZ hown (host := "") (Or.inl (hw _ (List.mem_of_getElem? (i := 13) rfl))) Via.refl e14 (((((S_COMMON_MEMORY.ext E2).wr W5).wr W8).wr W11).wr W14) (g := (mkF m 37 #[.val (.int p1), .val (.int ((p1 &&& (2147483647 : Int32)) % (5 : Int32))), .unset, .unset, .unset] [(.int (4 : Int32)), (.ref b2), (.ref b2)])) rfl (hb hby at_37)
  obtain ⟨cl_40, Ar_b2, q_b2, S_b2, N_b2, H_b2, G_b2⟩ := V_b2_14
  have hin40 : ¬ ((4 : Int32) < 0 ∨ cl_40.slots.size ≤ ((4 : Int32)).toNatClampNeg) := inb_of S_b2 ⟨by decide, by decide⟩
  have Sto40 : Sto Z h14 b2 (.ref w_COMMON_MEMORY) := Sto.ofV Ar_b2 q_b2 O2 (Ins.self (((((E_COMMON_MEMORY.ext E2).wr W5).wr W8).wr W11).wr W14))
  obtain ⟨T17, h17, X17, e17, W17, st17⟩ := stR X16 hx hZ e16 Ar_b2 (j := (4 : Int32)) hin40 rfl Sto40 (g := (mkF m 40 #[.val (.int p1), .val (.int ((p1 &&& (2147483647 : Int32)) % (5 : Int32))), .unset, .unset, .unset] [(.ref w_COMMON_MEMORY), (.int (4 : Int32)), (.ref b2), (.ref b2)])) rfl rfl (hb hby at_40)
  have V_b2_17 : Arv Z h17 b2 k2 (.object "com/example/loomplan/loomplan/slots/Channel") (5 : Int32) [(.ref w_BUS_MACRO), (.ref w_SRAM), (.ref w_RMB), (.ref w_CROSSBAR), (.ref w_COMMON_MEMORY)] .null := Arv.set Ar_b2 q_b2 S_b2 N_b2 H_b2 G_b2 rfl W17 4 rfl (Nat.le_of_ble_eq_true rfl)
  have N17 := Fr.snoc X17 N14 g_b2
  have K17 : Keep h0 h17 [] := K14.wr W17 (Or.inr sz_b2)
  obtain ⟨T18, h18, k18, X18, e18, E18, A18, st18⟩ := newP X17 hx hZ (hw _ (List.mem_of_getElem? (i := 15) rfl)) e17 (g := (mkF m 43 #[.val (.int p1), .val (.int ((p1 &&& (2147483647 : Int32)) % (5 : Int32))), .val (.ref b2), .unset, .unset] [(.int (5 : Int32))])) rfl (hb hby at_43) rfl (by decide) (cap := 5) (by decide) (by decide) (by decide) (by decide)
  obtain ⟨b18, g18⟩ : ∃ z, z = h17.size := ⟨_, rfl⟩      -- the fresh array's address
  rw [← g18] at A18 st18
  have V_b18 : Arv Z h18 b18 k18 .boolean (5 : Int32) [(.int (0 : Int32)), (.int (0 : Int32)), (.int (0 : Int32)), (.int (0 : Int32)), (.int (0 : Int32))] (.int (0 : Int32)) := (Arv.new A18 (by decide)).pad (pad_rep [] (.int (0 : Int32)) 5)
  have ne1 : b2 ≠ b18 := own_ne V_b2_17.lt g18
  have g_b18 : n0 ≤ b18 := Nat.le_trans (Nat.le_trans (Nat.le_trans (Nat.le_trans (Nat.le_trans (Nat.le_trans (Nat.le_trans Z0 E2.1) (Keep.of_wr W5).1) (Keep.of_wr W8).1) (Keep.of_wr W11).1) (Keep.of_wr W14).1) (Keep.of_wr W17).1) (Nat.le_of_eq g18.symm)
  have sz_b18 : h0.size ≤ b18 := (Nat.le_trans K17.1 (Nat.le_of_eq g18.symm))
  have K18 : Keep h0 h18 [] := K17.ext E18
  obtain ⟨cl_b18_48, Ar_b18, q_b18, S_b18, N_b18, H_b18, G_b18⟩ := V_b18      -- open the array's fact as it stands now (its cell, kind, length, elements)
  have hin48 : ¬ ((0 : Int32) < 0 ∨ cl_b18_48.slots.size ≤ ((0 : Int32)).toNatClampNeg) := inb_of S_b18 ⟨by decide, by decide⟩
  obtain ⟨T19, h19, X19, e19, W19, st19⟩ := stZ X18 hx hZ e18 Ar_b18 (j := (0 : Int32)) hin48 (g := (mkF m 48 #[.val (.int p1), .val (.int ((p1 &&& (2147483647 : Int32)) % (5 : Int32))), .val (.ref b2), .unset, .unset] [(.int (0 : Int32)), (.int (0 : Int32)), (.ref b18), (.ref b18)])) rfl rfl (hb hby at_48)
  have V_b18_19 : Arv Z h19 b18 k18 .boolean (5 : Int32) [(.int (0 : Int32)), (.int (0 : Int32)), (.int (0 : Int32)), (.int (0 : Int32)), (.int (0 : Int32))] (.int (0 : Int32)) := Arv.set Ar_b18 q_b18 S_b18 N_b18 H_b18 G_b18 (fits_nar_bool _) W19 0 rfl (Nat.le_of_ble_eq_true rfl)
  have K19 : Keep h0 h19 [] := K18.wr W19 (Or.inr sz_b18)
  have N19 := Fr.snoc X19 N17 g_b18
  obtain ⟨cl_b18_52, Ar_b18, q_b18, S_b18, N_b18, H_b18, G_b18⟩ := V_b18_19      -- open the array's fact as it stands now (its cell, kind, length, elements)
  have hin52 : ¬ ((1 : Int32) < 0 ∨ cl_b18_52.slots.size ≤ ((1 : Int32)).toNatClampNeg) := inb_of S_b18 ⟨by decide, by decide⟩
  obtain ⟨T20, h20, X20, e20, W20, st20⟩ := stZ X19 hx hZ e19 Ar_b18 (j := (1 : Int32)) hin52 (g := (mkF m 52 #[.val (.int p1), .val (.int ((p1 &&& (2147483647 : Int32)) % (5 : Int32))), .val (.ref b2), .unset, .unset] [(.int (0 : Int32)), (.int (1 : Int32)), (.ref b18), (.ref b18)])) rfl rfl (hb hby at_52)
  have V_b18_20 : Arv Z h20 b18 k18 .boolean (5 : Int32) [(.int (0 : Int32)), (.int (0 : Int32)), (.int (0 : Int32)), (.int (0 : Int32)), (.int (0 : Int32))] (.int (0 : Int32)) := Arv.set Ar_b18 q_b18 S_b18 N_b18 H_b18 G_b18 (fits_nar_bool _) W20 1 rfl (Nat.le_of_ble_eq_true rfl)
  have K20 : Keep h0 h20 [] := K19.wr W20 (Or.inr sz_b18)
  have N20 := Fr.snoc X20 N19 g_b18
  obtain ⟨cl_b18_56, Ar_b18, q_b18, S_b18, N_b18, H_b18, G_b18⟩ := V_b18_20      -- open the array's fact as it stands now (its cell, kind, length, elements)
  have hin56 : ¬ ((2 : Int32) < 0 ∨ cl_b18_56.slots.size ≤ ((2 : Int32)).toNatClampNeg) := inb_of S_b18 ⟨by decide, by decide⟩
  obtain ⟨T21, h21, X21, e21, W21, st21⟩ := stZ X20 hx hZ e20 Ar_b18 (j := (2 : Int32)) hin56 (g := (mkF m 56 #[.val (.int p1), .val (.int ((p1 &&& (2147483647 : Int32)) % (5 : Int32))), .val (.ref b2), .unset, .unset] [(.int (0 : Int32)), (.int (2 : Int32)), (.ref b18), (.ref b18)])) rfl rfl (hb hby at_56)
  have V_b18_21 : Arv Z h21 b18 k18 .boolean (5 : Int32) [(.int (0 : Int32)), (.int (0 : Int32)), (.int (0 : Int32)), (.int (0 : Int32)), (.int (0 : Int32))] (.int (0 : Int32)) := Arv.set Ar_b18 q_b18 S_b18 N_b18 H_b18 G_b18 (fits_nar_bool _) W21 2 rfl (Nat.le_of_ble_eq_true rfl)
  have K21 : Keep h0 h21 [] := K20.wr W21 (Or.inr sz_b18)
  have N21 := Fr.snoc X21 N20 g_b18
  obtain ⟨cl_b18_60, Ar_b18, q_b18, S_b18, N_b18, H_b18, G_b18⟩ := V_b18_21      -- open the array's fact as it stands now (its cell, kind, length, elements)
  have hin60 : ¬ ((3 : Int32) < 0 ∨ cl_b18_60.slots.size ≤ ((3 : Int32)).toNatClampNeg) := inb_of S_b18 ⟨by decide, by decide⟩
  obtain ⟨T22, h22, X22, e22, W22, st22⟩ := stZ X21 hx hZ e21 Ar_b18 (j := (3 : Int32)) hin60 (g := (mkF m 60 #[.val (.int p1), .val (.int ((p1 &&& (2147483647 : Int32)) % (5 : Int32))), .val (.ref b2), .unset, .unset] [(.int (1 : Int32)), (.int (3 : Int32)), (.ref b18), (.ref b18)])) rfl rfl (hb hby at_60)
  have V_b18_22 : Arv Z h22 b18 k18 .boolean (5 : Int32) [(.int (0 : Int32)), (.int (0 : Int32)), (.int (0 : Int32)), (.int (1 : Int32)), (.int (0 : Int32))] (.int (0 : Int32)) := Arv.set Ar_b18 q_b18 S_b18 N_b18 H_b18 G_b18 (fits_nar_bool _) W22 3 rfl (Nat.le_of_ble_eq_true rfl)
  have K22 : Keep h0 h22 [] := K21.wr W22 (Or.inr sz_b18)
  have N22 := Fr.snoc X22 N21 g_b18
  obtain ⟨cl_b18_64, Ar_b18, q_b18, S_b18, N_b18, H_b18, G_b18⟩ := V_b18_22      -- open the array's fact as it stands now (its cell, kind, length, elements)
  have hin64 : ¬ ((4 : Int32) < 0 ∨ cl_b18_64.slots.size ≤ ((4 : Int32)).toNatClampNeg) := inb_of S_b18 ⟨by decide, by decide⟩
  obtain ⟨T23, h23, X23, e23, W23, st23⟩ := stZ X22 hx hZ e22 Ar_b18 (j := (4 : Int32)) hin64 (g := (mkF m 64 #[.val (.int p1), .val (.int ((p1 &&& (2147483647 : Int32)) % (5 : Int32))), .val (.ref b2), .unset, .unset] [(.int (1 : Int32)), (.int (4 : Int32)), (.ref b18), (.ref b18)])) rfl rfl (hb hby at_64)
  have V_b18_23 : Arv Z h23 b18 k18 .boolean (5 : Int32) [(.int (0 : Int32)), (.int (0 : Int32)), (.int (0 : Int32)), (.int (1 : Int32)), (.int (1 : Int32))] (.int (0 : Int32)) := Arv.set Ar_b18 q_b18 S_b18 N_b18 H_b18 G_b18 (fits_nar_bool _) W23 4 rfl (Nat.le_of_ble_eq_true rfl)
  have K23 : Keep h0 h23 [] := K22.wr W23 (Or.inr sz_b18)
  have N23 := Fr.snoc X23 N22 g_b18
  obtain ⟨cl_68, Ar_b2, q_b2, S_b2, N_b2, H_b2, G_b2⟩ := ((((((V_b2_17.ext E18).other W19 ne1).other W20 ne1).other W21 ne1).other W22 ne1).other W23 ne1)
  have hin68 : ¬ (((p1 &&& (2147483647 : Int32)) % (5 : Int32)) < 0 ∨ cl_68.slots.size ≤ (((p1 &&& (2147483647 : Int32)) % (5 : Int32))).toNatClampNeg) := inb_of S_b2 ⟨hneg, hlt5⟩
  have hat68 : cl_68.slots[(((p1 &&& (2147483647 : Int32)) % (5 : Int32))).toNatClampNeg]? = some (.ref w24) := by
    have q := H_b2 (((p1 &&& (2147483647 : Int32)) % (5 : Int32))).toNatClampNeg (Nat.lt_of_not_le fun q => hin68 (Or.inr q))
    rw [hj] at q ⊢
    rw [← hel]; exact q
  obtain ⟨cq25, kq25, q25a, q25b, q25c⟩ := isOf hZ e23 ((((((((((((E_w24.ext E2).wr W5).wr W8).wr W11).wr W14).wr W17).ext E18).wr W19).wr W20).wr W21).wr W22).wr W23)
  obtain ⟨_, _, ⟨T25, L25, k25, n25⟩, -, X25, ⟨Lc25, hQ25, l25, y25, z25⟩, st25⟩ := X23.virtualBack hx (y := (⟨"com/example/loomplan/loomplan/slots/Channel", "reachesProcessor", "()Z"⟩ : MethodName)) (z := (⟨"com/example/loomplan/loomplan/slots/Channel", "reachesProcessor", "()Z"⟩ : MethodName)) hown (mvT hZ (hw _ (List.mem_of_getElem? (i := 16) rfl))) (mvT hZ (hw _ (List.mem_of_getElem? (i := 17) rfl))) (notFace_of_selects (args := #[]) (mvT hZ (hw _ (List.mem_of_getElem? (i := 19) rfl)))) (mvT hZ (hw _ (List.mem_of_getElem? (i := 19) rfl))) (mvT hZ (hw _ (List.mem_of_getElem? (i := 18) rfl))) (by decide) (backOf (W := 0) (rm1 l Z a0 hw [] w24 w_CROSSBAR w_COMMON_MEMORY h23 n0 (Nat.le_trans Z0 K23.1) ((((((((((((S_CROSSBAR.ext E2).wr W5).wr W8).wr W11).wr W14).wr W17).ext E18).wr W19).wr W20).wr W21).wr W22).wr W23) ((((((((((((S_COMMON_MEMORY.ext E2).wr W5).wr W8).wr W11).wr W14).wr W17).ext E18).wr W19).wr W20).wr W21).wr W22).wr W23)) hZ (hw _ (List.mem_of_getElem? (i := 20) rfl)) (hw _ (List.mem_of_getElem? (i := 4) rfl)) (by decide) (by decide)) q25a q25c (g := (mkF m 73 #[.val (.int p1), .val (.int ((p1 &&& (2147483647 : Int32)) % (5 : Int32))), .val (.ref b2), .val (.ref b18), .val (.ref w24)] [(.ref w24)])) rfl (by rw [hml]; rfl) (Steps.refl _) (argsL := []) (rest := []) (lenOf pd_0_0 rfl) rfl (by show 2 * 0 + _ ≤ _; exact Nat.le_of_eq rfl) (hb hby at_73) (fun _ _ => ⟨rfl, e23, (by decide : 2 + 0 ≤ _), (by decide : 10 + 0 ≤ _)⟩)
  dsimp only [Pt.U, Pt.locs, Pt.cells, Pt.slots] at X25 l25 y25 z25 st25 hQ25
  subst l25 y25 z25
  obtain ⟨rfl, N25q, e25q⟩ := hQ25
  have N25 := Fr.app N23 N25q
  have K25q : Keep h23 T25.heap [] := own_keep e25q
  have KH25 : Keep h0 T25.heap [] := K23.trans K25q own_ws0
  obtain ⟨cl_78, Ar_b18, q_b18, S_b18, N_b18, H_b18, G_b18⟩ := V_b18_23.keep K25q (by simp)
  have hin78 : ¬ (((p1 &&& (2147483647 : Int32)) % (5 : Int32)) < 0 ∨ cl_78.slots.size ≤ (((p1 &&& (2147483647 : Int32)) % (5 : Int32))).toNatClampNeg) := inb_of S_b18 ⟨hneg, hlt5⟩
  have hat78 : cl_78.slots[(((p1 &&& (2147483647 : Int32)) % (5 : Int32))).toNatClampNeg]? = some (.int w26) := by
    have q := H_b18 (((p1 &&& (2147483647 : Int32)) % (5 : Int32))).toNatClampNeg (Nat.lt_of_not_le fun q => hin78 (Or.inr q))
    rw [hj] at q ⊢
    rw [← hez]; exact q
  obtain ⟨fs, hr, hrun, hended, hW, hsame⟩ := X25.leave (v := some (.int (1 : Int32))) (fun h => by rw [Bd.returns] at h; cases h) (BodyLoose.notSynchronized Bd)
  refine ⟨_, _, pre0 _ ?_, hrun, hended, _, _, rfl, ?_, ⟨_, rfl⟩, hW, hsame.mono (by decide) (by decide)⟩
  · show Steps p.tables e below (s₁.setTop (mkF m 0 #[.val (.int p1), .unset, .unset, .unset, .unset] [])) _
    refine XS.iloadN X0.here hx rfl (hb hby at_0) rfl ?_
    show Steps p.tables e below (s₁.setTop (mkF m 1 #[.val (.int p1), .unset, .unset, .unset, .unset] [(.int p1)])) _
    refine X0.ldcInt hx hown (mvT hZ (hw _ (List.mem_of_getElem? (i := 0) rfl))) (g := (mkF m 1 #[.val (.int p1), .unset, .unset, .unset, .unset] [(.int p1)])) rfl (hb hby at_1) _ ?_
    show Steps p.tables e below (s₁.setTop (mkF m 3 #[.val (.int p1), .unset, .unset, .unset, .unset] [(.int (2147483647 : Int32)), (.int p1)])) _
    refine XS.iand X0.here hx rfl (hb hby at_3) rfl ?_
    show Steps p.tables e below (s₁.setTop (mkF m 4 #[.val (.int p1), .unset, .unset, .unset, .unset] [(.int (p1 &&& (2147483647 : Int32)))])) _
    refine XS.iconst X0.here hx rfl (hb hby at_4) ?_
    show Steps p.tables e below (s₁.setTop (mkF m 5 #[.val (.int p1), .unset, .unset, .unset, .unset] [(.int (5 : Int32)), (.int (p1 &&& (2147483647 : Int32)))])) _
    refine Jvm.RoadKit.iremM X0 hx rfl (hb hby at_5) rfl (by decide) ?_
    show Steps p.tables e below (s₁.setTop (mkF m 6 #[.val (.int p1), .unset, .unset, .unset, .unset] [(.int ((p1 &&& (2147483647 : Int32)) % (5 : Int32)))])) _
    refine XS.istoreN X0.here hx rfl (hb hby at_6) rfl (l' := #[.val (.int p1), .val (.int ((p1 &&& (2147483647 : Int32)) % (5 : Int32))), .unset, .unset, .unset]) rfl ?_
    show Steps p.tables e below (s₁.setTop (mkF m 7 #[.val (.int p1), .val (.int ((p1 &&& (2147483647 : Int32)) % (5 : Int32))), .unset, .unset, .unset] [])) _
    refine XS.iconst X0.here hx rfl (hb hby at_7) ?_
    show Steps p.tables e below (s₁.setTop (mkF m 8 #[.val (.int p1), .val (.int ((p1 &&& (2147483647 : Int32)) % (5 : Int32))), .unset, .unset, .unset] [(.int (5 : Int32))])) _
    refine st2 _ ?_
    show Steps p.tables e below (T2.setTop (mkF m 11 #[.val (.int p1), .val (.int ((p1 &&& (2147483647 : Int32)) % (5 : Int32))), .unset, .unset, .unset] [(.ref b2)])) _
    refine XS.dup X2.here hx rfl (hb hby at_11) rfl rfl ?_
    show Steps p.tables e below (T2.setTop (mkF m 12 #[.val (.int p1), .val (.int ((p1 &&& (2147483647 : Int32)) % (5 : Int32))), .unset, .unset, .unset] [(.ref b2), (.ref b2)])) _
    refine XS.iconst X2.here hx rfl (hb hby at_12) ?_
    show Steps p.tables e below (T2.setTop (mkF m 13 #[.val (.int p1), .val (.int ((p1 &&& (2147483647 : Int32)) % (5 : Int32))), .unset, .unset, .unset] [(.int (0 : Int32)), (.ref b2), (.ref b2)])) _
    refine st4 _ ?_
    show Steps p.tables e below (T4.setTop (mkF m 16 #[.val (.int p1), .val (.int ((p1 &&& (2147483647 : Int32)) % (5 : Int32))), .unset, .unset, .unset] [(.ref w_BUS_MACRO), (.int (0 : Int32)), (.ref b2), (.ref b2)])) _
    refine st5 _ ?_
    show Steps p.tables e below (T5.setTop (mkF m 17 #[.val (.int p1), .val (.int ((p1 &&& (2147483647 : Int32)) % (5 : Int32))), .unset, .unset, .unset] [(.ref b2)])) _
    refine XS.dup X5.here hx rfl (hb hby at_17) rfl rfl ?_
    show Steps p.tables e below (T5.setTop (mkF m 18 #[.val (.int p1), .val (.int ((p1 &&& (2147483647 : Int32)) % (5 : Int32))), .unset, .unset, .unset] [(.ref b2), (.ref b2)])) _
    refine XS.iconst X5.here hx rfl (hb hby at_18) ?_
    show Steps p.tables e below (T5.setTop (mkF m 19 #[.val (.int p1), .val (.int ((p1 &&& (2147483647 : Int32)) % (5 : Int32))), .unset, .unset, .unset] [(.int (1 : Int32)), (.ref b2), (.ref b2)])) _
    refine st7 _ ?_
    show Steps p.tables e below (T7.setTop (mkF m 22 #[.val (.int p1), .val (.int ((p1 &&& (2147483647 : Int32)) % (5 : Int32))), .unset, .unset, .unset] [(.ref w_SRAM), (.int (1 : Int32)), (.ref b2), (.ref b2)])) _
    refine st8 _ ?_
    show Steps p.tables e below (T8.setTop (mkF m 23 #[.val (.int p1), .val (.int ((p1 &&& (2147483647 : Int32)) % (5 : Int32))), .unset, .unset, .unset] [(.ref b2)])) _
    refine XS.dup X8.here hx rfl (hb hby at_23) rfl rfl ?_
    show Steps p.tables e below (T8.setTop (mkF m 24 #[.val (.int p1), .val (.int ((p1 &&& (2147483647 : Int32)) % (5 : Int32))), .unset, .unset, .unset] [(.ref b2), (.ref b2)])) _
    refine XS.iconst X8.here hx rfl (hb hby at_24) ?_
    show Steps p.tables e below (T8.setTop (mkF m 25 #[.val (.int p1), .val (.int ((p1 &&& (2147483647 : Int32)) % (5 : Int32))), .unset, .unset, .unset] [(.int (2 : Int32)), (.ref b2), (.ref b2)])) _
    refine st10 _ ?_
    show Steps p.tables e below (T10.setTop (mkF m 28 #[.val (.int p1), .val (.int ((p1 &&& (2147483647 : Int32)) % (5 : Int32))), .unset, .unset, .unset] [(.ref w_RMB), (.int (2 : Int32)), (.ref b2), (.ref b2)])) _
    refine st11 _ ?_
    show Steps p.tables e below (T11.setTop (mkF m 29 #[.val (.int p1), .val (.int ((p1 &&& (2147483647 : Int32)) % (5 : Int32))), .unset, .unset, .unset] [(.ref b2)])) _
    refine XS.dup X11.here hx rfl (hb hby at_29) rfl rfl ?_
    show Steps p.tables e below (T11.setTop (mkF m 30 #[.val (.int p1), .val (.int ((p1 &&& (2147483647 : Int32)) % (5 : Int32))), .unset, .unset, .unset] [(.ref b2), (.ref b2)])) _
    refine XS.iconst X11.here hx rfl (hb hby at_30) ?_
    show Steps p.tables e below (T11.setTop (mkF m 31 #[.val (.int p1), .val (.int ((p1 &&& (2147483647 : Int32)) % (5 : Int32))), .unset, .unset, .unset] [(.int (3 : Int32)), (.ref b2), (.ref b2)])) _
    refine st13 _ ?_
    show Steps p.tables e below (T13.setTop (mkF m 34 #[.val (.int p1), .val (.int ((p1 &&& (2147483647 : Int32)) % (5 : Int32))), .unset, .unset, .unset] [(.ref w_CROSSBAR), (.int (3 : Int32)), (.ref b2), (.ref b2)])) _
    refine st14 _ ?_
    show Steps p.tables e below (T14.setTop (mkF m 35 #[.val (.int p1), .val (.int ((p1 &&& (2147483647 : Int32)) % (5 : Int32))), .unset, .unset, .unset] [(.ref b2)])) _
    refine XS.dup X14.here hx rfl (hb hby at_35) rfl rfl ?_
    show Steps p.tables e below (T14.setTop (mkF m 36 #[.val (.int p1), .val (.int ((p1 &&& (2147483647 : Int32)) % (5 : Int32))), .unset, .unset, .unset] [(.ref b2), (.ref b2)])) _
    refine XS.iconst X14.here hx rfl (hb hby at_36) ?_
    show Steps p.tables e below (T14.setTop (mkF m 37 #[.val (.int p1), .val (.int ((p1 &&& (2147483647 : Int32)) % (5 : Int32))), .unset, .unset, .unset] [(.int (4 : Int32)), (.ref b2), (.ref b2)])) _
    refine st16 _ ?_
    show Steps p.tables e below (T16.setTop (mkF m 40 #[.val (.int p1), .val (.int ((p1 &&& (2147483647 : Int32)) % (5 : Int32))), .unset, .unset, .unset] [(.ref w_COMMON_MEMORY), (.int (4 : Int32)), (.ref b2), (.ref b2)])) _
    refine st17 _ ?_
    show Steps p.tables e below (T17.setTop (mkF m 41 #[.val (.int p1), .val (.int ((p1 &&& (2147483647 : Int32)) % (5 : Int32))), .unset, .unset, .unset] [(.ref b2)])) _
    refine XS.astoreN X17.here hx rfl (hb hby at_41) rfl rfl (l' := #[.val (.int p1), .val (.int ((p1 &&& (2147483647 : Int32)) % (5 : Int32))), .val (.ref b2), .unset, .unset]) rfl ?_
    show Steps p.tables e below (T17.setTop (mkF m 42 #[.val (.int p1), .val (.int ((p1 &&& (2147483647 : Int32)) % (5 : Int32))), .val (.ref b2), .unset, .unset] [])) _
    refine XS.iconst X17.here hx rfl (hb hby at_42) ?_
    show Steps p.tables e below (T17.setTop (mkF m 43 #[.val (.int p1), .val (.int ((p1 &&& (2147483647 : Int32)) % (5 : Int32))), .val (.ref b2), .unset, .unset] [(.int (5 : Int32))])) _
    refine st18 _ ?_
    show Steps p.tables e below (T18.setTop (mkF m 45 #[.val (.int p1), .val (.int ((p1 &&& (2147483647 : Int32)) % (5 : Int32))), .val (.ref b2), .unset, .unset] [(.ref b18)])) _
    refine XS.dup X18.here hx rfl (hb hby at_45) rfl rfl ?_
    show Steps p.tables e below (T18.setTop (mkF m 46 #[.val (.int p1), .val (.int ((p1 &&& (2147483647 : Int32)) % (5 : Int32))), .val (.ref b2), .unset, .unset] [(.ref b18), (.ref b18)])) _
    refine XS.iconst X18.here hx rfl (hb hby at_46) ?_
    show Steps p.tables e below (T18.setTop (mkF m 47 #[.val (.int p1), .val (.int ((p1 &&& (2147483647 : Int32)) % (5 : Int32))), .val (.ref b2), .unset, .unset] [(.int (0 : Int32)), (.ref b18), (.ref b18)])) _
    refine XS.iconst X18.here hx rfl (hb hby at_47) ?_
    show Steps p.tables e below (T18.setTop (mkF m 48 #[.val (.int p1), .val (.int ((p1 &&& (2147483647 : Int32)) % (5 : Int32))), .val (.ref b2), .unset, .unset] [(.int (0 : Int32)), (.int (0 : Int32)), (.ref b18), (.ref b18)])) _
    refine st19 _ ?_
    show Steps p.tables e below (T19.setTop (mkF m 49 #[.val (.int p1), .val (.int ((p1 &&& (2147483647 : Int32)) % (5 : Int32))), .val (.ref b2), .unset, .unset] [(.ref b18)])) _
    refine XS.dup X19.here hx rfl (hb hby at_49) rfl rfl ?_
    show Steps p.tables e below (T19.setTop (mkF m 50 #[.val (.int p1), .val (.int ((p1 &&& (2147483647 : Int32)) % (5 : Int32))), .val (.ref b2), .unset, .unset] [(.ref b18), (.ref b18)])) _
    refine XS.iconst X19.here hx rfl (hb hby at_50) ?_
    show Steps p.tables e below (T19.setTop (mkF m 51 #[.val (.int p1), .val (.int ((p1 &&& (2147483647 : Int32)) % (5 : Int32))), .val (.ref b2), .unset, .unset] [(.int (1 : Int32)), (.ref b18), (.ref b18)])) _
    refine XS.iconst X19.here hx rfl (hb hby at_51) ?_
    show Steps p.tables e below (T19.setTop (mkF m 52 #[.val (.int p1), .val (.int ((p1 &&& (2147483647 : Int32)) % (5 : Int32))), .val (.ref b2), .unset, .unset] [(.int (0 : Int32)), (.int (1 : Int32)), (.ref b18), (.ref b18)])) _
    refine st20 _ ?_
    show Steps p.tables e below (T20.setTop (mkF m 53 #[.val (.int p1), .val (.int ((p1 &&& (2147483647 : Int32)) % (5 : Int32))), .val (.ref b2), .unset, .unset] [(.ref b18)])) _
    refine XS.dup X20.here hx rfl (hb hby at_53) rfl rfl ?_
    show Steps p.tables e below (T20.setTop (mkF m 54 #[.val (.int p1), .val (.int ((p1 &&& (2147483647 : Int32)) % (5 : Int32))), .val (.ref b2), .unset, .unset] [(.ref b18), (.ref b18)])) _
    refine XS.iconst X20.here hx rfl (hb hby at_54) ?_
    show Steps p.tables e below (T20.setTop (mkF m 55 #[.val (.int p1), .val (.int ((p1 &&& (2147483647 : Int32)) % (5 : Int32))), .val (.ref b2), .unset, .unset] [(.int (2 : Int32)), (.ref b18), (.ref b18)])) _
    refine XS.iconst X20.here hx rfl (hb hby at_55) ?_
    show Steps p.tables e below (T20.setTop (mkF m 56 #[.val (.int p1), .val (.int ((p1 &&& (2147483647 : Int32)) % (5 : Int32))), .val (.ref b2), .unset, .unset] [(.int (0 : Int32)), (.int (2 : Int32)), (.ref b18), (.ref b18)])) _
    refine st21 _ ?_
    show Steps p.tables e below (T21.setTop (mkF m 57 #[.val (.int p1), .val (.int ((p1 &&& (2147483647 : Int32)) % (5 : Int32))), .val (.ref b2), .unset, .unset] [(.ref b18)])) _
    refine XS.dup X21.here hx rfl (hb hby at_57) rfl rfl ?_
    show Steps p.tables e below (T21.setTop (mkF m 58 #[.val (.int p1), .val (.int ((p1 &&& (2147483647 : Int32)) % (5 : Int32))), .val (.ref b2), .unset, .unset] [(.ref b18), (.ref b18)])) _
    refine XS.iconst X21.here hx rfl (hb hby at_58) ?_
    show Steps p.tables e below (T21.setTop (mkF m 59 #[.val (.int p1), .val (.int ((p1 &&& (2147483647 : Int32)) % (5 : Int32))), .val (.ref b2), .unset, .unset] [(.int (3 : Int32)), (.ref b18), (.ref b18)])) _
    refine XS.iconst X21.here hx rfl (hb hby at_59) ?_
    show Steps p.tables e below (T21.setTop (mkF m 60 #[.val (.int p1), .val (.int ((p1 &&& (2147483647 : Int32)) % (5 : Int32))), .val (.ref b2), .unset, .unset] [(.int (1 : Int32)), (.int (3 : Int32)), (.ref b18), (.ref b18)])) _
    refine st22 _ ?_
    show Steps p.tables e below (T22.setTop (mkF m 61 #[.val (.int p1), .val (.int ((p1 &&& (2147483647 : Int32)) % (5 : Int32))), .val (.ref b2), .unset, .unset] [(.ref b18)])) _
    refine XS.dup X22.here hx rfl (hb hby at_61) rfl rfl ?_
    show Steps p.tables e below (T22.setTop (mkF m 62 #[.val (.int p1), .val (.int ((p1 &&& (2147483647 : Int32)) % (5 : Int32))), .val (.ref b2), .unset, .unset] [(.ref b18), (.ref b18)])) _
    refine XS.iconst X22.here hx rfl (hb hby at_62) ?_
    show Steps p.tables e below (T22.setTop (mkF m 63 #[.val (.int p1), .val (.int ((p1 &&& (2147483647 : Int32)) % (5 : Int32))), .val (.ref b2), .unset, .unset] [(.int (4 : Int32)), (.ref b18), (.ref b18)])) _
    refine XS.iconst X22.here hx rfl (hb hby at_63) ?_
    show Steps p.tables e below (T22.setTop (mkF m 64 #[.val (.int p1), .val (.int ((p1 &&& (2147483647 : Int32)) % (5 : Int32))), .val (.ref b2), .unset, .unset] [(.int (1 : Int32)), (.int (4 : Int32)), (.ref b18), (.ref b18)])) _
    refine st23 _ ?_
    show Steps p.tables e below (T23.setTop (mkF m 65 #[.val (.int p1), .val (.int ((p1 &&& (2147483647 : Int32)) % (5 : Int32))), .val (.ref b2), .unset, .unset] [(.ref b18)])) _
    refine XS.astoreN X23.here hx rfl (hb hby at_65) rfl rfl (l' := #[.val (.int p1), .val (.int ((p1 &&& (2147483647 : Int32)) % (5 : Int32))), .val (.ref b2), .val (.ref b18), .unset]) rfl ?_
    show Steps p.tables e below (T23.setTop (mkF m 66 #[.val (.int p1), .val (.int ((p1 &&& (2147483647 : Int32)) % (5 : Int32))), .val (.ref b2), .val (.ref b18), .unset] [])) _
    refine XS.aloadN X23.here hx rfl (hb hby at_66) rfl rfl ?_
    show Steps p.tables e below (T23.setTop (mkF m 67 #[.val (.int p1), .val (.int ((p1 &&& (2147483647 : Int32)) % (5 : Int32))), .val (.ref b2), .val (.ref b18), .unset] [(.ref b2)])) _
    refine XS.iloadN X23.here hx rfl (hb hby at_67) rfl ?_
    show Steps p.tables e below (T23.setTop (mkF m 68 #[.val (.int p1), .val (.int ((p1 &&& (2147483647 : Int32)) % (5 : Int32))), .val (.ref b2), .val (.ref b18), .unset] [(.int ((p1 &&& (2147483647 : Int32)) % (5 : Int32))), (.ref b2)])) _
    refine X23.aaload hx (j := ((p1 &&& (2147483647 : Int32)) % (5 : Int32))) (v := (.ref w24)) (by rw [e23]; exact Ar_b2.1) (State.isArrayOf_alike hZ.alike Ar_b2.2.1) rfl Ar_b2.2.2 hin68 hat68 (g := (mkF m 68 #[.val (.int p1), .val (.int ((p1 &&& (2147483647 : Int32)) % (5 : Int32))), .val (.ref b2), .val (.ref b18), .unset] [(.int ((p1 &&& (2147483647 : Int32)) % (5 : Int32))), (.ref b2)])) rfl rfl (hb hby at_68) _ ?_
    show Steps p.tables e below (T23.setTop (mkF m 69 #[.val (.int p1), .val (.int ((p1 &&& (2147483647 : Int32)) % (5 : Int32))), .val (.ref b2), .val (.ref b18), .unset] [(.ref w24)])) _
    refine XS.astore X23.here hx rfl (hb hby at_69) rfl rfl (l' := #[.val (.int p1), .val (.int ((p1 &&& (2147483647 : Int32)) % (5 : Int32))), .val (.ref b2), .val (.ref b18), .val (.ref w24)]) rfl ?_
    show Steps p.tables e below (T23.setTop (mkF m 71 #[.val (.int p1), .val (.int ((p1 &&& (2147483647 : Int32)) % (5 : Int32))), .val (.ref b2), .val (.ref b18), .val (.ref w24)] [])) _
    refine XS.aload X23.here hx rfl (hb hby at_71) rfl rfl ?_
    show Steps p.tables e below (T23.setTop (mkF m 73 #[.val (.int p1), .val (.int ((p1 &&& (2147483647 : Int32)) % (5 : Int32))), .val (.ref b2), .val (.ref b18), .val (.ref w24)] [(.ref w24)])) _
    refine st25.trans ?_
    show Steps p.tables e below (T25.setTop (mkF m 76 #[.val (.int p1), .val (.int ((p1 &&& (2147483647 : Int32)) % (5 : Int32))), .val (.ref b2), .val (.ref b18), .val (.ref w24)] [(.int (own_f1 w24 w_CROSSBAR w_COMMON_MEMORY))])) _
    refine XS.aloadN X25.here hx rfl (hb hby at_76) rfl rfl ?_
    show Steps p.tables e below (T25.setTop (mkF m 77 #[.val (.int p1), .val (.int ((p1 &&& (2147483647 : Int32)) % (5 : Int32))), .val (.ref b2), .val (.ref b18), .val (.ref w24)] [(.ref b18), (.int (own_f1 w24 w_CROSSBAR w_COMMON_MEMORY))])) _
    refine XS.iloadN X25.here hx rfl (hb hby at_77) rfl ?_
    show Steps p.tables e below (T25.setTop (mkF m 78 #[.val (.int p1), .val (.int ((p1 &&& (2147483647 : Int32)) % (5 : Int32))), .val (.ref b2), .val (.ref b18), .val (.ref w24)] [(.int ((p1 &&& (2147483647 : Int32)) % (5 : Int32))), (.ref b18), (.int (own_f1 w24 w_CROSSBAR w_COMMON_MEMORY))])) _
    refine X25.baloadBooleans hx (j := ((p1 &&& (2147483647 : Int32)) % (5 : Int32))) (v := (.int w26)) (by exact Ar_b18.1) (State.isArrayOf_alike hZ.alike Ar_b18.2.1) Ar_b18.2.2 hin78 hat78 (g := (mkF m 78 #[.val (.int p1), .val (.int ((p1 &&& (2147483647 : Int32)) % (5 : Int32))), .val (.ref b2), .val (.ref b18), .val (.ref w24)] [(.int ((p1 &&& (2147483647 : Int32)) % (5 : Int32))), (.ref b18), (.int (own_f1 w24 w_CROSSBAR w_COMMON_MEMORY))])) rfl rfl (hb hby at_78) _ ?_
    show Steps p.tables e below (T25.setTop (mkF m 79 #[.val (.int p1), .val (.int ((p1 &&& (2147483647 : Int32)) % (5 : Int32))), .val (.ref b2), .val (.ref b18), .val (.ref w24)] [(.int w26), (.int (own_f1 w24 w_CROSSBAR w_COMMON_MEMORY))])) _
    refine XS.icmpNo X25.here hx rfl (hb hby at_79) rfl (teq ht79).2 ?_
    show Steps p.tables e below (T25.setTop (mkF m 82 #[.val (.int p1), .val (.int ((p1 &&& (2147483647 : Int32)) % (5 : Int32))), .val (.ref b2), .val (.ref b18), .val (.ref w24)] [])) _
    refine XS.iconst X25.here hx rfl (hb hby at_82) ?_
    show Steps p.tables e below (T25.setTop (mkF m 83 #[.val (.int p1), .val (.int ((p1 &&& (2147483647 : Int32)) % (5 : Int32))), .val (.ref b2), .val (.ref b18), .val (.ref w24)] [(.int (1 : Int32))])) _
    refine XS.goto X25.here hx rfl (pc0 := 83) (pc' := 87) rfl (hb hby at_83) (by decide) (by decide) ?_
    show Steps p.tables e below (T25.setTop (mkF m 87 #[.val (.int p1), .val (.int ((p1 &&& (2147483647 : Int32)) % (5 : Int32))), .val (.ref b2), .val (.ref b18), .val (.ref w24)] [(.int (1 : Int32))])) _
    exact retN X25 hx (t := .boolean) Bd.returns (by simp) (hb hby at_87) hr
  · show Q0 Z h0 n0 _ T25.heap _
    exact ⟨rfl, N25⟩
theorem own_rem5 (p : Int32) : ∃ j : Nat, j < 5 ∧ ¬ (((p &&& (2147483647 : Int32)) % (5 : Int32)) < 0) ∧ ((p &&& (2147483647 : Int32)) % (5 : Int32)) < (5 : Int32) ∧ ((p &&& (2147483647 : Int32)) % (5 : Int32)).toNatClampNeg = j := by
  have e1 : (p &&& (2147483647 : Int32)).toInt = p.toInt % 2 ^ 31 := Jvm.Kit.i32_mask p 2147483647 (k := 31) (by decide) (by decide)
  have e2 : ((p &&& (2147483647 : Int32)) % (5 : Int32)).toInt = (p &&& (2147483647 : Int32)).toInt % (5 : Int32).toInt := Jvm.Kit.i32_rem_nonneg (by omega)
  have e3 : (5 : Int32).toInt = 5 := by decide
  have e4 : (0 : Int32).toInt = 0 := by decide
  rw [e3] at e2
  generalize ((p &&& (2147483647 : Int32)) % (5 : Int32)) = k at e2 ⊢
  refine ⟨k.toNatClampNeg, ?_, ?_, ?_, rfl⟩
  · rw [← Int32.toNat_toInt]; omega
  · rw [Int32.lt_iff_toInt_lt, e4]; omega
  · rw [Int32.lt_iff_toInt_lt, e3]; omega
set_option maxRecDepth 65536 in
set_option maxHeartbeats 40000000 in
theorem rm0 (l : Launch) (Z : State) (a0 : Array Value) (hw : ∀ d ∈ tables_1, d.before a0 Z = true) (ws : List Jvm.Cond) (p1 : Int32) (w_BUS_MACRO : Addr) (w_SRAM : Addr) (w_RMB : Addr) (w_CROSSBAR : Addr) (w_COMMON_MEMORY : Addr) (h0 : Heap) (n0 : Nat) (Z0 : n0 ≤ h0.size) (S_BUS_MACRO : Sta Z h0 "com/example/loomplan/loomplan/slots/Channel" "BUS_MACRO" "Lcom/example/loomplan/loomplan/slots/Channel;" (.ref w_BUS_MACRO)) (S_SRAM : Sta Z h0 "com/example/loomplan/loomplan/slots/Channel" "SRAM" "Lcom/example/loomplan/loomplan/slots/Channel;" (.ref w_SRAM)) (S_RMB : Sta Z h0 "com/example/loomplan/loomplan/slots/Channel" "RMB" "Lcom/example/loomplan/loomplan/slots/Channel;" (.ref w_RMB)) (S_CROSSBAR : Sta Z h0 "com/example/loomplan/loomplan/slots/Channel" "CROSSBAR" "Lcom/example/loomplan/loomplan/slots/Channel;" (.ref w_CROSSBAR)) (S_COMMON_MEMORY : Sta Z h0 "com/example/loomplan/loomplan/slots/Channel" "COMMON_MEMORY" "Lcom/example/loomplan/loomplan/slots/Channel;" (.ref w_COMMON_MEMORY)) (E_BUS_MACRO : Exa Z h0 w_BUS_MACRO "com/example/loomplan/loomplan/slots/Channel") (E_SRAM : Exa Z h0 w_SRAM "com/example/loomplan/loomplan/slots/Channel") (E_RMB : Exa Z h0 w_RMB "com/example/loomplan/loomplan/slots/Channel") (E_CROSSBAR : Exa Z h0 w_CROSSBAR "com/example/loomplan/loomplan/slots/Channel") (E_COMMON_MEMORY : Exa Z h0 w_COMMON_MEMORY "com/example/loomplan/loomplan/slots/Channel") (ne_BUS_MACRO_CROSSBAR : w_BUS_MACRO ≠ w_CROSSBAR) (ne_BUS_MACRO_COMMON_MEMORY : w_BUS_MACRO ≠ w_COMMON_MEMORY) (ne_SRAM_CROSSBAR : w_SRAM ≠ w_CROSSBAR) (ne_SRAM_COMMON_MEMORY : w_SRAM ≠ w_COMMON_MEMORY) (ne_RMB_CROSSBAR : w_RMB ≠ w_CROSSBAR) (ne_RMB_COMMON_MEMORY : w_RMB ≠ w_COMMON_MEMORY) (ne_CROSSBAR_COMMON_MEMORY : w_CROSSBAR ≠ w_COMMON_MEMORY) :
    MetFree l x (head1 (Jvm.Cond.code x code maxLocals ret :: ws) room_1) (fun a U => a = #[(.int p1)] ∧ Z.Warmed39 U.vm ∧ U.heap = h0) (fun _ _ _ _ _ => True) (fun _ U o U' => ∃ v L, o = .returned v ∧ Q0 Z h0 n0 v U'.heap L ∧ FrameEnd U o U' L room_1.cells room_1.slots) := by
  obtain ⟨j, hj5, hneg, hlt5, hj⟩ := own_rem5 p1
  match j, hj5 with
  | 0, _ => exact rm0_x l Z a0 hw ws p1 w_BUS_MACRO w_SRAM w_RMB w_CROSSBAR w_COMMON_MEMORY w_BUS_MACRO (0 : Int32) 0 h0 n0 Z0 S_BUS_MACRO S_SRAM S_RMB S_CROSSBAR S_COMMON_MEMORY E_BUS_MACRO E_SRAM E_RMB E_CROSSBAR E_COMMON_MEMORY E_BUS_MACRO hneg hlt5 hj rfl rfl (by unfold own_f1; rw [if_neg ne_BUS_MACRO_CROSSBAR, if_neg ne_BUS_MACRO_COMMON_MEMORY])
  | 1, _ => exact rm0_x l Z a0 hw ws p1 w_BUS_MACRO w_SRAM w_RMB w_CROSSBAR w_COMMON_MEMORY w_SRAM (0 : Int32) 1 h0 n0 Z0 S_BUS_MACRO S_SRAM S_RMB S_CROSSBAR S_COMMON_MEMORY E_BUS_MACRO E_SRAM E_RMB E_CROSSBAR E_COMMON_MEMORY E_SRAM hneg hlt5 hj rfl rfl (by unfold own_f1; rw [if_neg ne_SRAM_CROSSBAR, if_neg ne_SRAM_COMMON_MEMORY])
  | 2, _ => exact rm0_x l Z a0 hw ws p1 w_BUS_MACRO w_SRAM w_RMB w_CROSSBAR w_COMMON_MEMORY w_RMB (0 : Int32) 2 h0 n0 Z0 S_BUS_MACRO S_SRAM S_RMB S_CROSSBAR S_COMMON_MEMORY E_BUS_MACRO E_SRAM E_RMB E_CROSSBAR E_COMMON_MEMORY E_RMB hneg hlt5 hj rfl rfl (by unfold own_f1; rw [if_neg ne_RMB_CROSSBAR, if_neg ne_RMB_COMMON_MEMORY])
  | 3, _ => exact rm0_x l Z a0 hw ws p1 w_BUS_MACRO w_SRAM w_RMB w_CROSSBAR w_COMMON_MEMORY w_CROSSBAR (1 : Int32) 3 h0 n0 Z0 S_BUS_MACRO S_SRAM S_RMB S_CROSSBAR S_COMMON_MEMORY E_BUS_MACRO E_SRAM E_RMB E_CROSSBAR E_COMMON_MEMORY E_CROSSBAR hneg hlt5 hj rfl rfl (by unfold own_f1; rw [if_pos rfl])
  | 4, _ => exact rm0_x l Z a0 hw ws p1 w_BUS_MACRO w_SRAM w_RMB w_CROSSBAR w_COMMON_MEMORY w_COMMON_MEMORY (1 : Int32) 4 h0 n0 Z0 S_BUS_MACRO S_SRAM S_RMB S_CROSSBAR S_COMMON_MEMORY E_BUS_MACRO E_SRAM E_RMB E_CROSSBAR E_COMMON_MEMORY E_COMMON_MEMORY hneg hlt5 hj rfl rfl (by unfold own_f1; rw [if_neg ne_CROSSBAR_COMMON_MEMORY.symm, if_pos rfl])
theorem own_fldint {args : Array Value} {s : State} {t : Term} {C n d : String} {x : Addr} {y : Int32} (h : (Cond.eq (.field t C n d) (.int y)).value args s none s [] = some true) (ht : t.eval args s none [] s = some (.ref x)) : s.fieldOf? x C n d = some (.int y) := by
  have e := fld_at (args := args) (first := s) (o := none) (idx := []) (C := C) (n := n) (dd := d) ht
  have hu : (Term.int y).eval args s none [] s = some (.int y) := rfl
  cases hv : s.fieldOf? x C n d with
  | none => rw [hv] at e; simp [Cond.value, e] at h
  | some v =>
    rw [hv] at e
    cases v <;> simp [Cond.value, e, hu] at h ⊢ <;> first | exact h | (subst h; rfl)
theorem own_apart {s : State} {x y : Addr} {C n d : String} {a b : Int32} (h1 : s.fieldOf? x C n d = some (.int a)) (h2 : s.fieldOf? y C n d = some (.int b)) (h : a ≠ b) : x ≠ y := fun e => by
  subst e; rw [h1] at h2; exact h (Value.int.inj (Option.some.inj h2))
set_option maxRecDepth 65536 in
set_option maxHeartbeats 40000000 in
theorem comes_1 {Post : Tables → Env → Array Value → State → Outcome → State → Prop} (hpost : ∀ tb e args s v u, (limb_1_1.after args s (.returned v) u = true ∧ limb_1_2.after args s (.returned v) u = true ∧ True) → FrameEnd s (.returned v) u (Jvm.fieldLocs frame_1_writes args s ++ Jvm.arrayLocs frame_1_arrays args s ++ Jvm.staticLocs frame_1_statics s) 16 128 → Post tb e args s (.returned v) u) :
    ArmFor flags0 classFile x code maxLocals ret World_1 tables_1 room_1 Calls_1 rest_1 Pre_1 Post := by
  intro l hfl _ _ p e ha hc hk s m args below hf hA hF happ hP
  obtain ⟨hcalls, hrest, hpre⟩ := hP
  obtain ⟨-, -, -, hnamed, -, -, -, hat⟩ := (Spec.applies_iff hf).mp happ
  obtain ⟨hg, hn⟩ := and_e (Cond.before_iff.mp (show (Jvm.Cond.and given_1 narrow_1).before args s = true from hpre))
  obtain ⟨g27, g28⟩ := and_e hg
  obtain ⟨w0, rfl⟩ : ∃ w0 : Value, args = #[w0] := by
    have hs : args.size = 1 := by simpa [Cond.value, given_1] using g27
    obtain ⟨L⟩ := args
    match L, hs with
    | [w0], _ => exact ⟨w0, rfl⟩
  have hw := fun d (hd : d ∈ tables_1) => atoms_spec (ws := Jvm.Cond.code x code maxLocals ret :: tables_1) hat d (List.mem_cons_of_mem _ hd)
  have hfit : Fit s := fun {y c} hc i hi => by
    obtain ⟨ha, rfl⟩ := Array.getElem?_eq_some_iff.mp hc
    have q := List.all_eq_true.mp ((Array.all_eq_true_iff_forall_mem.mp hF) _ (Array.getElem_mem ha)) i (List.mem_range.mpr hi)
    simpa [Array.getElem?_eq_getElem hi] using q
  obtain ⟨i0, ei0⟩ := is_v g28
  obtain rfl : w0 = (.int i0) := Option.some.inj ei0
  obtain ⟨nn0, mm0⟩ := and_e hn
  obtain ⟨w_BUS_MACRO, ev_BUS_MACRO⟩ := exa_v nn0
  have S_BUS_MACRO := Sta.start ev_BUS_MACRO (Or.inr ⟨(hw _ (List.mem_of_getElem? (i := 4) rfl)), (hw _ (List.mem_of_getElem? (i := 5) rfl))⟩)
  have E_BUS_MACRO := Exa.start ev_BUS_MACRO nn0
  obtain ⟨nn1, mm1⟩ := and_e mm0
  obtain ⟨w_SRAM, ev_SRAM⟩ := exa_v nn1
  have S_SRAM := Sta.start ev_SRAM (Or.inr ⟨(hw _ (List.mem_of_getElem? (i := 4) rfl)), (hw _ (List.mem_of_getElem? (i := 8) rfl))⟩)
  have E_SRAM := Exa.start ev_SRAM nn1
  obtain ⟨nn2, mm2⟩ := and_e mm1
  obtain ⟨w_RMB, ev_RMB⟩ := exa_v nn2
  have S_RMB := Sta.start ev_RMB (Or.inr ⟨(hw _ (List.mem_of_getElem? (i := 4) rfl)), (hw _ (List.mem_of_getElem? (i := 10) rfl))⟩)
  have E_RMB := Exa.start ev_RMB nn2
  obtain ⟨nn3, mm3⟩ := and_e mm2
  obtain ⟨w_CROSSBAR, ev_CROSSBAR⟩ := exa_v nn3
  have S_CROSSBAR := Sta.start ev_CROSSBAR (Or.inr ⟨(hw _ (List.mem_of_getElem? (i := 4) rfl)), (hw _ (List.mem_of_getElem? (i := 12) rfl))⟩)
  have E_CROSSBAR := Exa.start ev_CROSSBAR nn3
  obtain ⟨nn4, mm4⟩ := and_e mm3
  obtain ⟨w_COMMON_MEMORY, ev_COMMON_MEMORY⟩ := exa_v nn4
  have S_COMMON_MEMORY := Sta.start ev_COMMON_MEMORY (Or.inr ⟨(hw _ (List.mem_of_getElem? (i := 4) rfl)), (hw _ (List.mem_of_getElem? (i := 14) rfl))⟩)
  have E_COMMON_MEMORY := Exa.start ev_COMMON_MEMORY nn4
  obtain ⟨nn5, mm5⟩ := and_e mm4
  obtain ⟨nn6, mm6⟩ := and_e mm5
  obtain ⟨nn7, mm7⟩ := and_e mm6
  obtain ⟨nn8, mm8⟩ := and_e mm7
  have o_BUS_MACRO := own_fldint nn5 ev_BUS_MACRO
  have o_CROSSBAR := own_fldint nn6 ev_CROSSBAR
  have o_COMMON_MEMORY := own_fldint nn7 ev_COMMON_MEMORY
  have o_SRAM := own_fldint nn8 ev_SRAM
  have o_RMB := own_fldint mm8 ev_RMB
  have ne_BUS_MACRO_CROSSBAR := own_apart o_BUS_MACRO o_CROSSBAR (by decide)
  have ne_BUS_MACRO_COMMON_MEMORY := own_apart o_BUS_MACRO o_COMMON_MEMORY (by decide)
  have ne_SRAM_CROSSBAR := own_apart o_SRAM o_CROSSBAR (by decide)
  have ne_SRAM_COMMON_MEMORY := own_apart o_SRAM o_COMMON_MEMORY (by decide)
  have ne_RMB_CROSSBAR := own_apart o_RMB o_CROSSBAR (by decide)
  have ne_RMB_COMMON_MEMORY := own_apart o_RMB o_COMMON_MEMORY (by decide)
  have ne_CROSSBAR_COMMON_MEMORY := own_apart o_CROSSBAR o_COMMON_MEMORY (by decide)
  obtain ⟨n, o, h1, h2, h3, _, L, rfl, ⟨rfl, N⟩, hq⟩ := rm0 l s _ hw tables_1 i0 w_BUS_MACRO w_SRAM w_RMB w_CROSSBAR w_COMMON_MEMORY s.heap s.heap.size (Nat.le_refl _) S_BUS_MACRO S_SRAM S_RMB S_CROSSBAR S_COMMON_MEMORY E_BUS_MACRO E_SRAM E_RMB E_CROSSBAR E_COMMON_MEMORY ne_BUS_MACRO_CROSSBAR ne_BUS_MACRO_COMMON_MEMORY ne_SRAM_CROSSBAR ne_SRAM_COMMON_MEMORY ne_RMB_CROSSBAR ne_RMB_COMMON_MEMORY ne_CROSSBAR_COMMON_MEMORY p e ha hc hk s m _ below hf ((Spec.applies_iff_loose hf).mp happ).1 ⟨rfl, State.Warmed39.refl s, rfl⟩ trivial
  refine ⟨n, _, h1, h2, h3, hpost _ _ _ _ _ _ ⟨Cond.after_iff.mpr rfl, Cond.after_iff.mpr (eq_i res_at (Term.int_eval (1)) rfl), trivial⟩ ⟨hq.1, hq.2.1, (hq.2.2.sift fun y hy => Or.inr (N y hy)).mono (by decide) (by decide)⟩⟩
theorem main_1_1 : Claimed_1_1 := comes_1 fun _ _ _ _ _ _ h hF => ⟨h.1, hF⟩
theorem main_1_2 : Claimed_1_2 := comes_1 fun _ _ _ _ _ _ h hF => ⟨h.2.1, hF⟩
end Jvm.Pilot.@@N@@
namespace Jvm.Pilot.@@N@@
open Jvm Jvm.ClassFile Sem Op Lib Jvm.Free Jvm.Stand Jvm.Pilot.@@N@@.Jvm.D
/-! MADE BY PROGRAM (witnessworld.py) out of the Statement's table words and the real class files: 16 classes; the members and pool entries that the words name. The judged class is class 1, her method 1. -/
namespace start1
open Jvm.ClassFile
def u (s : String) : CpInfo := .utf8 (stringToUtf16 s)
/-- a pool by its gaps: so many unusable entries, then the entry; so many at the end -/
def gap : Nat → List CpInfo → List CpInfo
  | 0, r => r
  | n + 1, r => .unusable :: gap n r
def poolList (es : List (Nat × CpInfo)) (last : Nat) : List CpInfo := es.foldr (fun e r => gap e.1 (e.2 :: r)) (gap last [])
def pool (es : List (Nat × CpInfo)) (last : Nat) : Array CpInfo := ⟨poolList es last⟩
def fileOf (pool : Array CpInfo) (this : Nat) (attrs : Array Attribute := #[]) (ms : Array MethodInfo := #[]) (fl : Nat := 33) (sup : Nat := 0) (ifs : Array Nat := #[]) (fds : Array FieldInfo := #[]) : ClassFile where
  minorVersion := 0
  majorVersion := 65
  constantPool := pool
  accessFlags := fl
  thisClass := this
  superClass := sup
  interfaces := ifs
  fields := fds
  methods := ms
  attributes := attrs
def plain (name : String) (sup : Option ClassId) : Class where
  name := name
  kind := .ordinary
  loader := none
  accessFlags := 33
  super := sup
  interfaces := #[]
  cf := none
  fields := #[]
  methods := #[]
  instanceTypes := #[]
  staticTypes := #[]
  resolved := #[]
  callSites := []
  init := .initialized
  statics := none
  mirror := none

def pool0 : Array CpInfo := pool [(5, u "<init>"), (0, u "()V"), (1, .class_ 10), (1, u "java/lang/Object")] 113

def k0m0 : Method := { name := "<init>", desc := "()V", sig := { parameters := [], returnType := none }, accessFlags := 1, code := none }
/-- java/lang/Object -/
def k0 : Class := { plain "java/lang/Object" none with
  accessFlags := 33
  interfaces := #[]
  cf := some (fileOf pool0 8 #[] #[{ accessFlags := 1, nameIndex := 5, descriptorIndex := 6, attributes := #[] }] 33 0 #[] #[])
  fields := #[]
  methods := #[k0m0]
  instanceTypes := #[]
  staticTypes := #[]
  resolved := Array.replicate 124 none
  statics := none }

def pool1 : Array CpInfo := pool [(2, .class_ 4), (1, u "java/lang/Object"), (0, u "<init>"), (0, u "()V"), (0, .integer 2147483647), (0, .class_ 9), (0, u "com/example/loomplan/loomplan/slots/Channel"), (0, .fieldref 8 11), (0, .nameAndType 12 13), (0, u "BUS_MACRO"), (0, u "Lcom/example/loomplan/loomplan/slots/Channel;"), (0, .fieldref 8 15), (0, .nameAndType 16 13), (0, u "SRAM"), (0, .fieldref 8 18), (0, .nameAndType 19 13), (0, u "RMB"), (0, .fieldref 8 21), (0, .nameAndType 22 13), (0, u "CROSSBAR"), (0, .fieldref 8 24), (0, .nameAndType 25 13), (0, u "COMMON_MEMORY"), (0, .methodref 8 27), (0, .nameAndType 28 29), (0, u "reachesProcessor"), (0, u "()Z"), (0, .class_ 31), (0, u "com/example/loomplan/loomplan/slots/ChannelReachesProcessorPinLaw"), (2, u "law"), (0, u "(I)Z")] 7

def k1m0 : Method := { name := "<init>", desc := "()V", sig := { parameters := [], returnType := none }, accessFlags := 1, code := none }
def k1c1 : Code := { maxStack := 4, maxLocals := 5, code := code, exceptionTable := #[], attributes := #[] }
def k1m1 : Method := { name := "law", desc := "(I)Z", sig := { parameters := [.int], returnType := some .boolean }, accessFlags := 9, code := some k1c1 }
/-- com/example/loomplan/loomplan/slots/ChannelReachesProcessorPinLaw -/
def k1 : Class := { plain "com/example/loomplan/loomplan/slots/ChannelReachesProcessorPinLaw" (some 0) with
  accessFlags := 49
  interfaces := #[]
  cf := some (fileOf pool1 30 #[] #[{ accessFlags := 1, nameIndex := 5, descriptorIndex := 6, attributes := #[] }, { accessFlags := 9, nameIndex := 34, descriptorIndex := 35, attributes := #[] }] 49 2 #[] #[])
  fields := #[]
  methods := #[k1m0, k1m1]
  instanceTypes := #[]
  staticTypes := #[]
  resolved := Array.replicate 43 none
  statics := none }

def pool2 : Array CpInfo := pool [(1, .class_ 2), (0, u "java/lang/constant/Constable"), (0, .class_ 4), (0, u "java/lang/Object")] 6

/-- java/lang/constant/Constable -/
def k2 : Class := { plain "java/lang/constant/Constable" (some 0) with
  accessFlags := 1537
  interfaces := #[]
  cf := some (fileOf pool2 1 #[] #[] 1537 3 #[] #[])
  fields := #[]
  methods := #[]
  instanceTypes := #[]
  staticTypes := #[]
  resolved := Array.replicate 11 none
  statics := none }

def pool3 : Array CpInfo := pool [(1, .class_ 2), (0, u "java/lang/Comparable"), (0, .class_ 4), (0, u "java/lang/Object")] 7

/-- java/lang/Comparable -/
def k3 : Class := { plain "java/lang/Comparable" (some 0) with
  accessFlags := 1537
  interfaces := #[]
  cf := some (fileOf pool3 1 #[] #[] 1537 3 #[] #[])
  fields := #[]
  methods := #[]
  instanceTypes := #[]
  staticTypes := #[]
  resolved := Array.replicate 12 none
  statics := none }

def pool4 : Array CpInfo := pool [(1, .class_ 2), (0, u "java/io/Serializable"), (0, .class_ 4), (0, u "java/lang/Object")] 2

/-- java/io/Serializable -/
def k4 : Class := { plain "java/io/Serializable" (some 0) with
  accessFlags := 1537
  interfaces := #[]
  cf := some (fileOf pool4 1 #[] #[] 1537 3 #[] #[])
  fields := #[]
  methods := #[]
  instanceTypes := #[]
  staticTypes := #[]
  resolved := Array.replicate 7 none
  statics := none }

def pool5 : Array CpInfo := pool [(2, .class_ 4), (1, u "java/lang/Enum"), (0, u "name"), (0, u "Ljava/lang/String;"), (2, u "ordinal"), (0, u "I"), (1, .class_ 14), (1, u "java/lang/Object"), (4, u "hash"), (86, .class_ 108), (1, u "java/lang/Enum$EnumDesc"), (2, .class_ 112), (0, u "java/lang/constant/Constable"), (0, .class_ 114), (0, u "java/lang/Comparable"), (0, .class_ 116), (0, u "java/io/Serializable")] 87

/-- java/lang/Enum -/
def k5 : Class := { plain "java/lang/Enum" (some 0) with
  accessFlags := 1057
  interfaces := #[2, 3, 4]
  cf := some (fileOf pool5 2 #[.nestMembers #[106]] #[] 1057 12 #[111, 113, 115] #[{ accessFlags := 18, nameIndex := 5, descriptorIndex := 6, attributes := #[] }, { accessFlags := 18, nameIndex := 9, descriptorIndex := 10, attributes := #[] }, { accessFlags := 2, nameIndex := 19, descriptorIndex := 10, attributes := #[] }])
  fields := #[{ name := "name", type := (.object "java/lang/String"), accessFlags := 18, slot := 0, constantValue := 0 }, { name := "ordinal", type := .int, accessFlags := 18, slot := 1, constantValue := 0 }, { name := "hash", type := .int, accessFlags := 2, slot := 2, constantValue := 0 }]
  methods := #[]
  instanceTypes := #[(.object "java/lang/String"), .int, .int]
  staticTypes := #[]
  resolved := Array.replicate 204 none
  statics := none }

def pool6 : Array CpInfo := pool [(1, .class_ 2), (0, u "com/example/loomplan/loomplan/input/JsonWord"), (0, .class_ 4), (0, u "java/lang/Object")] 4

/-- com/example/loomplan/loomplan/input/JsonWord -/
def k6 : Class := { plain "com/example/loomplan/loomplan/input/JsonWord" (some 0) with
  accessFlags := 1537
  interfaces := #[]
  cf := some (fileOf pool6 1 #[] #[] 1537 3 #[] #[])
  fields := #[]
  methods := #[]
  instanceTypes := #[]
  staticTypes := #[]
  resolved := Array.replicate 9 none
  statics := none }

def pool7 : Array CpInfo := pool [(1, .class_ 2), (0, u "com/example/loomplan/loomplan/slots/Channel"), (2, u "BUS_MACRO"), (0, u "Lcom/example/loomplan/loomplan/slots/Channel;"), (2, u "SRAM"), (2, u "RMB"), (0, .fieldref 1 14), (0, .nameAndType 15 6), (0, u "CROSSBAR"), (0, .fieldref 1 17), (0, .nameAndType 18 6), (0, u "COMMON_MEMORY"), (2, u "$VALUES"), (0, u "[Lcom/example/loomplan/loomplan/slots/Channel;"), (6, .class_ 31), (1, u "java/lang/Enum"), (8, u "word"), (0, u "Ljava/lang/String;"), (22, .class_ 65), (0, u "com/example/loomplan/loomplan/input/JsonWord"), (8, u "reachesProcessor"), (0, u "()Z")] 6

def k7c0 : Code := { maxStack := 2, maxLocals := 1, code := prog_104_method_5_code, exceptionTable := #[], attributes := #[] }
def k7m0 : Method := { name := "reachesProcessor", desc := "()Z", sig := { parameters := [], returnType := some .boolean }, accessFlags := 1, code := some k7c0 }
/-- com/example/loomplan/loomplan/slots/Channel -/
def k7 : Class := { plain "com/example/loomplan/loomplan/slots/Channel" (some 5) with
  accessFlags := 16433
  interfaces := #[6]
  cf := some (fileOf pool7 1 #[] #[{ accessFlags := 1, nameIndex := 74, descriptorIndex := 75, attributes := #[] }] 16433 29 #[64] #[{ accessFlags := 16409, nameIndex := 5, descriptorIndex := 6, attributes := #[] }, { accessFlags := 16409, nameIndex := 9, descriptorIndex := 6, attributes := #[] }, { accessFlags := 16409, nameIndex := 12, descriptorIndex := 6, attributes := #[] }, { accessFlags := 16409, nameIndex := 15, descriptorIndex := 6, attributes := #[] }, { accessFlags := 16409, nameIndex := 18, descriptorIndex := 6, attributes := #[] }, { accessFlags := 18, nameIndex := 40, descriptorIndex := 41, attributes := #[] }, { accessFlags := 4122, nameIndex := 21, descriptorIndex := 22, attributes := #[] }])
  fields := #[{ name := "BUS_MACRO", type := (.object "com/example/loomplan/loomplan/slots/Channel"), accessFlags := 16409, slot := 0, constantValue := 0 }, { name := "SRAM", type := (.object "com/example/loomplan/loomplan/slots/Channel"), accessFlags := 16409, slot := 1, constantValue := 0 }, { name := "RMB", type := (.object "com/example/loomplan/loomplan/slots/Channel"), accessFlags := 16409, slot := 2, constantValue := 0 }, { name := "CROSSBAR", type := (.object "com/example/loomplan/loomplan/slots/Channel"), accessFlags := 16409, slot := 3, constantValue := 0 }, { name := "COMMON_MEMORY", type := (.object "com/example/loomplan/loomplan/slots/Channel"), accessFlags := 16409, slot := 4, constantValue := 0 }, { name := "word", type := (.object "java/lang/String"), accessFlags := 18, slot := 3, constantValue := 0 }, { name := "$VALUES", type := (.array (.object "com/example/loomplan/loomplan/slots/Channel")), accessFlags := 4122, slot := 5, constantValue := 0 }]
  methods := #[k7m0]
  instanceTypes := #[(.object "java/lang/String"), .int, .int, (.object "java/lang/String")]
  staticTypes := #[(.object "com/example/loomplan/loomplan/slots/Channel"), (.object "com/example/loomplan/loomplan/slots/Channel"), (.object "com/example/loomplan/loomplan/slots/Channel"), (.object "com/example/loomplan/loomplan/slots/Channel"), (.object "com/example/loomplan/loomplan/slots/Channel"), (.array (.object "com/example/loomplan/loomplan/slots/Channel"))]
  resolved := Array.replicate 82 none
  statics := some 0 }

def pool8 : Array CpInfo := pool [(1, u "java/lang/Cloneable"), (0, .class_ 1), (0, u "java/lang/Object"), (0, .class_ 3)] 3

/-- java/lang/Cloneable -/
def k8 : Class := { plain "java/lang/Cloneable" (some 0) with
  accessFlags := 1537
  interfaces := #[]
  cf := some (fileOf pool8 2 #[] #[] 1537 4 #[] #[])
  fields := #[]
  methods := #[]
  instanceTypes := #[]
  staticTypes := #[]
  resolved := Array.replicate 8 none
  statics := none }

/-- the primitive boolean -/
def k9 : Class := { plain "boolean" none with kind := .primitive 'Z', accessFlags := 0x411 }
/-- [Z -/
def k10 : Class := { plain "[Z" (some 0) with kind := .array 9 .boolean, interfaces := #[8, 4], accessFlags := 1041 }

/-- the primitive byte -/
def k11 : Class := { plain "byte" none with kind := .primitive 'B', accessFlags := 0x411 }
/-- [B -/
def k12 : Class := { plain "[B" (some 0) with kind := .array 11 .byte, interfaces := #[8, 4], accessFlags := 1041 }

/-- the primitive int -/
def k13 : Class := { plain "int" none with kind := .primitive 'I', accessFlags := 0x411 }
/-- [I -/
def k14 : Class := { plain "[I" (some 0) with kind := .array 13 .int, interfaces := #[8, 4], accessFlags := 1041 }

/-- [Lcom/example/loomplan/loomplan/slots/Channel; -/
def k15 : Class := { plain "[Lcom/example/loomplan/loomplan/slots/Channel;" (some 0) with kind := .array 7 (.object "com/example/loomplan/loomplan/slots/Channel"), interfaces := #[8, 4], accessFlags := 1041 }

def heap : Heap := #[{ cls := 7, slots := #[.ref 1, .ref 2, .ref 3, .ref 4, .ref 5, .null], vm := .statics 7 },
  { cls := 7, slots := #[.null, .int 0, .int 0, .null], vm := .none },
  { cls := 7, slots := #[.null, .int 1, .int 0, .null], vm := .none },
  { cls := 7, slots := #[.null, .int 2, .int 0, .null], vm := .none },
  { cls := 7, slots := #[.null, .int 3, .int 0, .null], vm := .none },
  { cls := 7, slots := #[.null, .int 4, .int 0, .null], vm := .none }]
def classes : Array Class := #[k0, k1, k2, k3, k4, k5, k6, k7, k8, k9, k10, k11, k12, k13, k14, k15]
def interned : List (Array UInt16 × Addr) := []
def slotsUsed : Nat := 26
def theMethod : MethodId := ⟨1, 1⟩
def args0 : Array Value := #[.int 5]
def aboutOver (below : List Frame) : State where
  vm := { classes := classes, interned := interned.toArray }
  heap := heap
  slotsUsed := slotsUsed
  threads := #[{ frames := .invoking theMethod args0 :: below }]
def below0 : List Frame := [.native { method := ⟨0, 0⟩, args := #[] }]
def about1 : State := aboutOver below0
def p0 : Program := .bare "" "" ""
def e0 : Env := launch0.env 0 0 0
theorem w_frames : about1.frames = Frame.invoking theMethod args0 :: below0 := rfl
set_option maxRecDepth 65536 in
theorem w_args : argsFit about1.vm theMethod args0 = true := by decide +kernel
set_option maxRecDepth 65536 in
theorem w_heap : heapFits about1 = true := by decide +kernel
set_option maxRecDepth 65536 in
theorem w_runnable : about1.curStatus? = some .runnable := by decide +kernel
set_option maxRecDepth 65536 in
theorem w_alone : about1.alone = true := by decide +kernel
set_option maxRecDepth 65536 in
theorem w_named : about1.methodNamed? x = some theMethod := by decide +kernel
set_option maxRecDepth 65536 in
theorem w_hears : about1.hears theMethod below0 = true := by decide +kernel
set_option maxRecDepth 65536 in
theorem w_ripe : about1.ripe theMethod args0 below0 = true := by decide +kernel
theorem w_running : about1.status = .running := rfl
set_option maxRecDepth 65536 in
theorem w_room : about1.hasRoom e0.platform room_1 = true :=
  launch0.hasRoom_least _ room_1 (by decide +kernel) (by decide +kernel) (by decide +kernel) (by decide +kernel) (by decide +kernel) (by decide +kernel)
theorem allAtoms_all (ts : List Jvm.Cond) (a : Array Jvm.Value) (st : Jvm.State) : (allAtoms ts).before a st = ts.all (fun c => c.before a st) := by
  induction ts with
  | nil => rfl
  | cons c t ih =>
    show (Jvm.Cond.and c (allAtoms t)).before a st = _
    rw [Jvm.Cond.before_and, ih, List.all_cons]
def words1 : List Jvm.Cond := Jvm.Cond.code x code maxLocals ret :: tables_1
/-- a 'code' word, met by the world's own term for the bytes: nothing is compared byte by byte -/
theorem code_word {y : MethodName} {bytes : ByteArray} {mx : Nat} {rt : Option FieldType} {a : Array Value} {s : State} {m : MethodId} {meth : Method} {c : Code} (h1 : s.methodNamed? y = some m) (h2 : s.vm.method? m = some meth) (h3 : meth.code = some c) (h4 : c.code = bytes)
    (h5 : (c.maxLocals == mx && c.exceptionTable.isEmpty && decide (c.maxStack ≤ mostOperands) && decide (meth.sig.returnType = rt) && !meth.locks && decide (parseMethodDescriptor y.desc = some meth.sig)) = true) : (Jvm.Cond.code y bytes mx rt).before a s = true := by
  simp only [Bool.and_eq_true, beq_iff_eq, Bool.not_eq_true', decide_eq_true_eq] at h5
  obtain ⟨⟨⟨⟨⟨g1, g2⟩, g3⟩, g4⟩, g5⟩, g6⟩ := h5
  simp [Cond.before, Cond.holds, Cond.value, h1, h2, h3, h4, g1, g2, g3, g4, g5, g6]
def isCode : Jvm.Cond → Bool
  | .code _ _ _ _ => true
  | _ => false
theorem all_split {L : List Jvm.Cond} {P : Jvm.Cond → Bool} (h1 : L.all (fun c => isCode c || P c) = true) (h2 : ∀ c ∈ L.filter isCode, P c = true) : L.all P = true := by
  refine List.all_eq_true.mpr fun c hc => ?_
  have h := List.all_eq_true.mp h1 c hc
  rcases Bool.eq_false_or_eq_true (isCode c) with hi | hi
  · exact h2 c (List.mem_filter.mpr ⟨hc, hi⟩)
  · simpa [hi] using h
set_option maxRecDepth 65536 in
theorem w_c0 : (Jvm.Cond.code x code maxLocals ret).before args0 about1 = true := code_word (m := ⟨1, 1⟩) (meth := k1m1) (c := k1c1) (by decide +kernel) rfl rfl rfl (by decide +kernel)
set_option maxRecDepth 65536 in
theorem w_c1 : (Jvm.Cond.code ({ cls := "com/example/loomplan/loomplan/slots/Channel", name := "reachesProcessor", desc := "()Z" } : Jvm.MethodName) prog_104_method_5_code (1 : Nat) (Option.some Jvm.ClassFile.FieldType.boolean)).before args0 about1 = true := code_word (m := ⟨7, 0⟩) (meth := k7m0) (c := k7c0) (by decide +kernel) rfl rfl rfl (by decide +kernel)
def codes1 : List Jvm.Cond := [Jvm.Cond.code x code maxLocals ret, Jvm.Cond.code ({ cls := "com/example/loomplan/loomplan/slots/Channel", name := "reachesProcessor", desc := "()Z" } : Jvm.MethodName) prog_104_method_5_code (1 : Nat) (Option.some Jvm.ClassFile.FieldType.boolean)]
set_option maxRecDepth 65536 in
theorem codes_eq : words1.filter isCode = codes1 := rfl
theorem w_codes : ∀ c ∈ words1.filter isCode, c.before args0 about1 = true := by
  rw [codes_eq]
  intro c hc
  simp only [codes1, List.mem_cons, List.not_mem_nil, or_false] at hc
  rcases hc with rfl | rfl
  · exact w_c0
  · exact w_c1
set_option maxRecDepth 65536 in
theorem w_t1 : words1.all (fun c => isCode c || c.before args0 about1) = true := by decide +kernel
theorem w_tables : (allAtoms (Jvm.Cond.code x code maxLocals ret :: tables_1)).before args0 about1 = true := by
  rw [allAtoms_all]
  show words1.all (fun c => c.before args0 about1) = true
  refine all_split ?_ w_codes
  rw [w_t1]
set_option maxRecDepth 65536 in
theorem w_case : (Jvm.Cond.and given_1 narrow_1).before args0 about1 = true := by decide +kernel
theorem w_applies : (headSpec (Jvm.Cond.code x code maxLocals ret :: tables_1) room_1).applies x e0.platform about1 = true :=
  (Spec.applies_iff w_frames).mpr ⟨w_running, w_runnable, w_alone, w_named, w_hears, w_ripe, w_room, w_tables⟩
theorem atStart : AtStart classFile x code maxLocals ret World_1 tables_1 room_1 Calls_1 rest_1 Pre_1 launch0 p0 e0 about1 theMethod args0 below0 :=
  ⟨lists_1, trivial, launch0.admits_env _ _ _, launch0.least_env, fairChoices_fair.cas, fairChoices_fair.clock, w_frames, w_args, w_heap, w_applies, trivial, trivial, w_case⟩
end start1
theorem witness_1 : WitnessClaimed_1 := ⟨start1.p0, start1.e0, start1.about1, start1.theMethod, start1.args0, start1.below0, start1.atStart⟩
end Jvm.Pilot.@@N@@
