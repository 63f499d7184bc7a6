import JvmDerived
import JvmDerived.Pilot.@@N@@Statement
import JvmDerived.Pilot.@@N@@Code
set_option linter.unusedVariables false
set_option linter.unusedSimpArgs false
namespace Jvm.RoadKit
open Sem ClassFile Op Lib Jvm.Stand Jvm.Free Jvm.LawKit
section New
variable {p : Program} {l : Launch} {e : Env} {R : Room} {s : State} {m : MethodId} {args : Array Value} {below : List Frame} {meth : Method} {c : Code} {T : State} {locs : List Loc} {cells slots : Nat}
theorem retI (X : Stand p l e R s m args below meth c T locs cells slots) (hx : p.tables.exec = Jvm.exec) {pc : Nat} {Ls : Array Slot} {z : Int32} {rest : List Value} (hret : meth.sig.returnType = some .int) (hd : decode c.code pc = .ok (.ireturn, 1)) {fs : List Frame}
    (hl : ∀ (f : JFrame) (acts : List Action), f.method = m → f.locked = none → f.entered = [] → (doReturn e (T.setTop f) acts (some (.int z))).1 = T.setFrames fs) : Steps p.tables e below (T.setTop (mkF m pc Ls (.int z :: rest))) (T.setFrames fs) := by
  have hm' : T.vm.method? m = some meth := X.method'
  have hn : narrow .int (.int z) = .int z := rfl
  show Steps p.tables e below (T.setTop { method := m, pc := pc, locals := Ls, stack := _ :: rest, locked := none }) _
  jvm_step X.here [X.here.top, hx, hd, hm', hret, hn]
  first | (intro acts; rw [hl _ acts rfl rfl rfl]) | rw [hl _ _ rfl rfl rfl]
  exact Steps.refl _
end New
end Jvm.RoadKit
namespace Jvm.Pilot.@@N@@
open Jvm Jvm.ClassFile Sem Op Lib Jvm.Free Jvm.Stand Jvm.LawKit Jvm.RoadKit Bundle Jvm.Pilot.@@N@@.Jvm.D
theorem own_keep {h h' : Heap} (e : h' = h) : Keep h h' [] := e ▸ Keep.refl _ _
theorem own_ws0 {h0 : Heap} {ws : List Addr} : ∀ x ∈ ([] : List Addr), x ∈ ws ∨ h0.size ≤ x := fun _ q => nomatch q
theorem own_ws1 {h0 : Heap} {ws : List Addr} {a : Addr} (q : h0.size ≤ a) : ∀ x ∈ [a], x ∈ ws ∨ h0.size ≤ x := fun x hx => by cases List.mem_singleton.mp hx; exact Or.inr q
theorem own_wsIn {h0 : Heap} {a : Addr} : ∀ x ∈ [a], x ∈ [a] ∨ h0.size ≤ x := fun x hx => Or.inl hx
theorem own_nin {a b : Addr} (h : a ≠ b) : a ∉ [b] := fun q => h (List.mem_singleton.mp q)
theorem own_ne {a b n : Nat} (h : a < n) (e : b = n) : a ≠ b := by omega
theorem d2_0 : decode method_3_code 0 = .ok (.iload_n 0, 1) := by decide +kernel
theorem d2_1 : decode method_3_code 1 = .ok (.ifCond .ne 7, 3) := by decide +kernel
theorem d2_8 : decode method_3_code 8 = .ok (.iload_n 0, 1) := by decide +kernel
theorem d2_9 : decode method_3_code 9 = .ok (.iconst 1, 1) := by decide +kernel
theorem d2_10 : decode method_3_code 10 = .ok (.if_icmp .ne 7, 3) := by decide +kernel
theorem d2_17 : decode method_3_code 17 = .ok (.iload_n 0, 1) := by decide +kernel
theorem d2_18 : decode method_3_code 18 = .ok (.iconst 2, 1) := by decide +kernel
theorem d2_19 : decode method_3_code 19 = .ok (.if_icmp .ne 7, 3) := by decide +kernel
theorem d2_26 : decode method_3_code 26 = .ok (.iload_n 0, 1) := by decide +kernel
theorem d2_27 : decode method_3_code 27 = .ok (.iconst 3, 1) := by decide +kernel
theorem d2_28 : decode method_3_code 28 = .ok (.if_icmp .ne 7, 3) := by decide +kernel
theorem d2_35 : decode method_3_code 35 = .ok (.iload_n 0, 1) := by decide +kernel
theorem d2_36 : decode method_3_code 36 = .ok (.bipush 18, 2) := by decide +kernel
theorem d2_38 : decode method_3_code 38 = .ok (.if_icmp .ne 7, 3) := by decide +kernel
theorem d2_45 : decode method_3_code 45 = .ok (.aconst_null, 1) := by decide +kernel
theorem d2_46 : decode method_3_code 46 = .ok (.areturn, 1) := by decide +kernel
theorem pn_2 : plainName "com/example/recordframe/recordframe/server/ApiOfPinLaw" = true := by first | (simp [plainName, overriddenIn]; done) | decide +kernel
theorem ef_2 (m : MethodId) (x0 : Int32) : entryFrame m #[(.int x0)] 1 = mkF m 0 #[.val (.int x0)] [] := by first | (simp [entryFrame, mkF, argsToLocals, Value.category]; done) | rfl
theorem d2_41 : decode method_3_code 41 = .ok (.getstatic 31, 3) := by decide +kernel
theorem d2_44 : decode method_3_code 44 = .ok (.areturn, 1) := by decide +kernel
theorem d2_31 : decode method_3_code 31 = .ok (.getstatic 28, 3) := by decide +kernel
theorem d2_34 : decode method_3_code 34 = .ok (.areturn, 1) := by decide +kernel
theorem d2_22 : decode method_3_code 22 = .ok (.getstatic 25, 3) := by decide +kernel
theorem d2_25 : decode method_3_code 25 = .ok (.areturn, 1) := by decide +kernel
theorem d2_13 : decode method_3_code 13 = .ok (.getstatic 22, 3) := by decide +kernel
theorem d2_16 : decode method_3_code 16 = .ok (.areturn, 1) := by decide +kernel
theorem d2_4 : decode method_3_code 4 = .ok (.getstatic 18, 3) := by decide +kernel
theorem d2_7 : decode method_3_code 7 = .ok (.areturn, 1) := by decide +kernel
def own_f2 (p1 : Int32) (w_API_VERSIONS : Addr) (w_METADATA : Addr) (w_LIST_OFFSETS : Addr) (w_FETCH : Addr) (w_PRODUCE : Addr) : Value := (if p1 = (0 : Int32) then (Value.ref w_PRODUCE) else (if p1 = (1 : Int32) then (Value.ref w_FETCH) else (if p1 = (2 : Int32) then (Value.ref w_LIST_OFFSETS) else (if p1 = (3 : Int32) then (Value.ref w_METADATA) else (if p1 = (18 : Int32) then (Value.ref w_API_VERSIONS) else Value.null)))))
def Q2 (Z : State) (p1 : Int32) (w_API_VERSIONS : Addr) (w_METADATA : Addr) (w_LIST_OFFSETS : Addr) (w_FETCH : Addr) (w_PRODUCE : Addr) (h0 : Heap) (n0 : Nat) (v : Option Value) (h : Heap) (L : List Loc) : Prop := v = some (own_f2 p1 w_API_VERSIONS w_METADATA w_LIST_OFFSETS w_FETCH w_PRODUCE) ∧ Fr n0 L ∧ h = h0
set_option maxRecDepth 65536 in
set_option maxHeartbeats 40000000 in
theorem rm2_ttttt (l : Launch) (Z : State) (a0 : Array Value) (hw : ∀ d ∈ tables_1, d.before a0 Z = true) (ws : List Jvm.Cond) (p1 : Int32) (w_API_VERSIONS : Addr) (w_METADATA : Addr) (w_LIST_OFFSETS : Addr) (w_FETCH : Addr) (w_PRODUCE : Addr) (h0 : Heap) (n0 : Nat) (Z0 : n0 ≤ h0.size) (S_API_VERSIONS : Sta Z h0 "com/example/recordframe/recordframe/server/Api" "API_VERSIONS" "Lcom/example/recordframe/recordframe/server/Api;" (.ref w_API_VERSIONS)) (S_METADATA : Sta Z h0 "com/example/recordframe/recordframe/server/Api" "METADATA" "Lcom/example/recordframe/recordframe/server/Api;" (.ref w_METADATA)) (S_LIST_OFFSETS : Sta Z h0 "com/example/recordframe/recordframe/server/Api" "LIST_OFFSETS" "Lcom/example/recordframe/recordframe/server/Api;" (.ref w_LIST_OFFSETS)) (S_FETCH : Sta Z h0 "com/example/recordframe/recordframe/server/Api" "FETCH" "Lcom/example/recordframe/recordframe/server/Api;" (.ref w_FETCH)) (S_PRODUCE : Sta Z h0 "com/example/recordframe/recordframe/server/Api" "PRODUCE" "Lcom/example/recordframe/recordframe/server/Api;" (.ref w_PRODUCE)) (hc1 : ¬ (p1 = (0 : Int32))) (hc10 : ¬ (p1 = (1 : Int32))) (hc19 : ¬ (p1 = (2 : Int32))) (hc28 : ¬ (p1 = (3 : Int32))) (hc38 : ¬ (p1 = (18 : Int32))) :
    MetFree l (⟨"com/example/recordframe/recordframe/server/ApiOfPinLaw", "expected", "(S)Lcom/example/recordframe/recordframe/server/Api;"⟩ : MethodName) (head1 (Jvm.Cond.code (⟨"com/example/recordframe/recordframe/server/ApiOfPinLaw", "expected", "(S)Lcom/example/recordframe/recordframe/server/Api;"⟩ : MethodName) method_3_code 1 (some (.object "com/example/recordframe/recordframe/server/Api")) :: ws) ({ frames := 0, cells := 0, slots := 0, locals := 0 } : Room)) (fun a U => a = #[(.int p1)] ∧ Z.Warmed39 U.vm ∧ U.heap = h0) (fun _ _ _ _ _ => True) (fun _ U o U' => ∃ v L, o = .returned v ∧ Q2 Z p1 w_API_VERSIONS w_METADATA w_LIST_OFFSETS w_FETCH w_PRODUCE h0 n0 v U'.heap L ∧ FrameEnd U o U' L ({ frames := 0, cells := 0, slots := 0, locals := 0 } : Room).cells ({ frames := 0, cells := 0, slots := 0, locals := 0 } : Room).slots) := by
  refine MetFree.of_bodySF (plainFor_of_name pn_2) hisR ?_
  intro p e s m args below meth c s₁ Bd hml0 hP hK
  obtain ⟨rfl, hZ, hh⟩ := hP
  have hx := Bd.exec
  have hby := Bd.bytes
  have hml : c.maxLocals = 1 := hml0
  have hown : s.vm.findClass "com/example/recordframe/recordframe/server/ApiOfPinLaw" = some m.cls := findClass_of_methodNamed Bd.named
  have hnm := (name_of_methodNamed Bd.named Bd.method).1
  have X0 : Stand p l e ({ frames := 0, cells := 0, slots := 0, locals := 0 } : Room) s m #[(.int p1)] below meth c s₁ [] 0 0 := Stand.of_body Bd
  have e0 : s₁.heap = h0 := by rw [← hh, Bd.state]; rfl
  have N0 := Fr.nil n0
  have pre0 : ∀ t, Steps p.tables e below (s₁.setTop (mkF m 0 #[.val (.int p1)] [])) t → Steps p.tables e below (s₁.setTop (entryFrame m #[(.int p1)] 1)) t := fun t k => castTop (ef_2 m p1) k
  -- 3. LAWS

  obtain ⟨fs, hr, hrun, hended, hW, hsame⟩ := X0.leave (v := some .null) (fun h => by rw [Bd.returns] at h; cases h) (BodyLoose.notSynchronized Bd)
  refine ⟨_, _, pre0 _ ?_, hrun, hended, _, _, rfl, ?_, ⟨_, rfl⟩, hW, hsame.mono (by decide) (by decide)⟩
  -- 4. STEPS
  · show Steps p.tables e below (s₁.setTop (mkF m 0 #[.val (.int p1)] [])) _
    refine XS.iloadN X0.here hx rfl (hb hby d2_0) rfl ?_
    show Steps p.tables e below (s₁.setTop (mkF m 1 #[.val (.int p1)] [(.int p1)])) _
    refine XS.ifYes X0.here hx rfl (pc0 := 1) (pc' := 8) rfl (hb hby d2_1) rfl ((if0 _ _).trans (feq hc1).2) (by decide) (by decide) ?_
    show Steps p.tables e below (s₁.setTop (mkF m 8 #[.val (.int p1)] [])) _
    refine XS.iloadN X0.here hx rfl (hb hby d2_8) rfl ?_
    show Steps p.tables e below (s₁.setTop (mkF m 9 #[.val (.int p1)] [(.int p1)])) _
    refine XS.iconst X0.here hx rfl (hb hby d2_9) ?_
    show Steps p.tables e below (s₁.setTop (mkF m 10 #[.val (.int p1)] [(.int (1 : Int32)), (.int p1)])) _
    refine XS.icmpYes X0.here hx rfl (pc0 := 10) (pc' := 17) rfl (hb hby d2_10) rfl (feq hc10).2 (by decide) (by decide) ?_
    show Steps p.tables e below (s₁.setTop (mkF m 17 #[.val (.int p1)] [])) _
    refine XS.iloadN X0.here hx rfl (hb hby d2_17) rfl ?_
    show Steps p.tables e below (s₁.setTop (mkF m 18 #[.val (.int p1)] [(.int p1)])) _
    refine XS.iconst X0.here hx rfl (hb hby d2_18) ?_
    show Steps p.tables e below (s₁.setTop (mkF m 19 #[.val (.int p1)] [(.int (2 : Int32)), (.int p1)])) _
    refine XS.icmpYes X0.here hx rfl (pc0 := 19) (pc' := 26) rfl (hb hby d2_19) rfl (feq hc19).2 (by decide) (by decide) ?_
    show Steps p.tables e below (s₁.setTop (mkF m 26 #[.val (.int p1)] [])) _
    refine XS.iloadN X0.here hx rfl (hb hby d2_26) rfl ?_
    show Steps p.tables e below (s₁.setTop (mkF m 27 #[.val (.int p1)] [(.int p1)])) _
    refine XS.iconst X0.here hx rfl (hb hby d2_27) ?_
    show Steps p.tables e below (s₁.setTop (mkF m 28 #[.val (.int p1)] [(.int (3 : Int32)), (.int p1)])) _
    refine XS.icmpYes X0.here hx rfl (pc0 := 28) (pc' := 35) rfl (hb hby d2_28) rfl (feq hc28).2 (by decide) (by decide) ?_
    show Steps p.tables e below (s₁.setTop (mkF m 35 #[.val (.int p1)] [])) _
    refine XS.iloadN X0.here hx rfl (hb hby d2_35) rfl ?_
    show Steps p.tables e below (s₁.setTop (mkF m 36 #[.val (.int p1)] [(.int p1)])) _
    refine XS.bipush X0.here hx rfl (hb hby d2_36) ?_
    show Steps p.tables e below (s₁.setTop (mkF m 38 #[.val (.int p1)] [(.int (18 : Int32)), (.int p1)])) _
    refine XS.icmpYes X0.here hx rfl (pc0 := 38) (pc' := 45) rfl (hb hby d2_38) rfl (feq hc38).2 (by decide) (by decide) ?_
    show Steps p.tables e below (s₁.setTop (mkF m 45 #[.val (.int p1)] [])) _
    refine XS.aconstNull X0.here hx rfl (hb hby d2_45) ?_
    show Steps p.tables e below (s₁.setTop (mkF m 46 #[.val (.int p1)] [.null])) _
    jvm_step X0.here [X0.here.top, hx, (hb hby d2_46), X0.method', Bd.returns, Value.isRef, FieldType.isReference]
    first | (intro acts; rw [hr _ acts rfl rfl rfl]) | rw [hr _ _ rfl rfl rfl]
    exact Steps.refl _
  · show Q2 Z p1 w_API_VERSIONS w_METADATA w_LIST_OFFSETS w_FETCH w_PRODUCE h0 n0 _ s₁.heap _
    rw [e0]
    exact ⟨(by unfold own_f2; rw [if_neg hc1, if_neg hc10, if_neg hc19, if_neg hc28, if_neg hc38]), N0, rfl⟩
set_option maxRecDepth 65536 in
set_option maxHeartbeats 40000000 in
theorem rm2_ttttf (l : Launch) (Z : State) (a0 : Array Value) (hw : ∀ d ∈ tables_1, d.before a0 Z = true) (ws : List Jvm.Cond) (p1 : Int32) (w_API_VERSIONS : Addr) (w_METADATA : Addr) (w_LIST_OFFSETS : Addr) (w_FETCH : Addr) (w_PRODUCE : Addr) (h0 : Heap) (n0 : Nat) (Z0 : n0 ≤ h0.size) (S_API_VERSIONS : Sta Z h0 "com/example/recordframe/recordframe/server/Api" "API_VERSIONS" "Lcom/example/recordframe/recordframe/server/Api;" (.ref w_API_VERSIONS)) (S_METADATA : Sta Z h0 "com/example/recordframe/recordframe/server/Api" "METADATA" "Lcom/example/recordframe/recordframe/server/Api;" (.ref w_METADATA)) (S_LIST_OFFSETS : Sta Z h0 "com/example/recordframe/recordframe/server/Api" "LIST_OFFSETS" "Lcom/example/recordframe/recordframe/server/Api;" (.ref w_LIST_OFFSETS)) (S_FETCH : Sta Z h0 "com/example/recordframe/recordframe/server/Api" "FETCH" "Lcom/example/recordframe/recordframe/server/Api;" (.ref w_FETCH)) (S_PRODUCE : Sta Z h0 "com/example/recordframe/recordframe/server/Api" "PRODUCE" "Lcom/example/recordframe/recordframe/server/Api;" (.ref w_PRODUCE)) (hc1 : ¬ (p1 = (0 : Int32))) (hc10 : ¬ (p1 = (1 : Int32))) (hc19 : ¬ (p1 = (2 : Int32))) (hc28 : ¬ (p1 = (3 : Int32))) (hc38 : p1 = (18 : Int32)) :
    MetFree l (⟨"com/example/recordframe/recordframe/server/ApiOfPinLaw", "expected", "(S)Lcom/example/recordframe/recordframe/server/Api;"⟩ : MethodName) (head1 (Jvm.Cond.code (⟨"com/example/recordframe/recordframe/server/ApiOfPinLaw", "expected", "(S)Lcom/example/recordframe/recordframe/server/Api;"⟩ : MethodName) method_3_code 1 (some (.object "com/example/recordframe/recordframe/server/Api")) :: ws) ({ frames := 0, cells := 0, slots := 0, locals := 0 } : Room)) (fun a U => a = #[(.int p1)] ∧ Z.Warmed39 U.vm ∧ U.heap = h0) (fun _ _ _ _ _ => True) (fun _ U o U' => ∃ v L, o = .returned v ∧ Q2 Z p1 w_API_VERSIONS w_METADATA w_LIST_OFFSETS w_FETCH w_PRODUCE h0 n0 v U'.heap L ∧ FrameEnd U o U' L ({ frames := 0, cells := 0, slots := 0, locals := 0 } : Room).cells ({ frames := 0, cells := 0, slots := 0, locals := 0 } : Room).slots) := by
  refine MetFree.of_bodySF (plainFor_of_name pn_2) hisR ?_
  intro p e s m args below meth c s₁ Bd hml0 hP hK
  obtain ⟨rfl, hZ, hh⟩ := hP
  have hx := Bd.exec
  have hby := Bd.bytes
  have hml : c.maxLocals = 1 := hml0
  have hown : s.vm.findClass "com/example/recordframe/recordframe/server/ApiOfPinLaw" = some m.cls := findClass_of_methodNamed Bd.named
  have hnm := (name_of_methodNamed Bd.named Bd.method).1
  have X0 : Stand p l e ({ frames := 0, cells := 0, slots := 0, locals := 0 } : Room) s m #[(.int p1)] below meth c s₁ [] 0 0 := Stand.of_body Bd
  have e0 : s₁.heap = h0 := by rw [← hh, Bd.state]; rfl
  have N0 := Fr.nil n0
  have pre0 : ∀ t, Steps p.tables e below (s₁.setTop (mkF m 0 #[.val (.int p1)] [])) t → Steps p.tables e below (s₁.setTop (entryFrame m #[(.int p1)] 1)) t := fun t k => castTop (ef_2 m p1) k
  -- 3. LAWS
  obtain ⟨T3, X3, e3, st3⟩ := getS2 X0 hx hZ hown (host := "") (Or.inl (hw _ (List.mem_of_getElem? (i := 21) rfl))) Via.refl e0 S_API_VERSIONS (g := (mkF m 41 #[.val (.int p1)] [])) rfl (hb hby d2_41)
  obtain ⟨fs, hr, hrun, hended, hW, hsame⟩ := X3.leave (v := some (.ref w_API_VERSIONS)) (fun h => by rw [Bd.returns] at h; cases h) (BodyLoose.notSynchronized Bd)
  refine ⟨_, _, pre0 _ ?_, hrun, hended, _, _, rfl, ?_, ⟨_, rfl⟩, hW, hsame.mono (by decide) (by decide)⟩
  -- 4. STEPS
  · show Steps p.tables e below (s₁.setTop (mkF m 0 #[.val (.int p1)] [])) _
    refine XS.iloadN X0.here hx rfl (hb hby d2_0) rfl ?_
    show Steps p.tables e below (s₁.setTop (mkF m 1 #[.val (.int p1)] [(.int p1)])) _
    refine XS.ifYes X0.here hx rfl (pc0 := 1) (pc' := 8) rfl (hb hby d2_1) rfl ((if0 _ _).trans (feq hc1).2) (by decide) (by decide) ?_
    show Steps p.tables e below (s₁.setTop (mkF m 8 #[.val (.int p1)] [])) _
    refine XS.iloadN X0.here hx rfl (hb hby d2_8) rfl ?_
    show Steps p.tables e below (s₁.setTop (mkF m 9 #[.val (.int p1)] [(.int p1)])) _
    refine XS.iconst X0.here hx rfl (hb hby d2_9) ?_
    show Steps p.tables e below (s₁.setTop (mkF m 10 #[.val (.int p1)] [(.int (1 : Int32)), (.int p1)])) _
    refine XS.icmpYes X0.here hx rfl (pc0 := 10) (pc' := 17) rfl (hb hby d2_10) rfl (feq hc10).2 (by decide) (by decide) ?_
    show Steps p.tables e below (s₁.setTop (mkF m 17 #[.val (.int p1)] [])) _
    refine XS.iloadN X0.here hx rfl (hb hby d2_17) rfl ?_
    show Steps p.tables e below (s₁.setTop (mkF m 18 #[.val (.int p1)] [(.int p1)])) _
    refine XS.iconst X0.here hx rfl (hb hby d2_18) ?_
    show Steps p.tables e below (s₁.setTop (mkF m 19 #[.val (.int p1)] [(.int (2 : Int32)), (.int p1)])) _
    refine XS.icmpYes X0.here hx rfl (pc0 := 19) (pc' := 26) rfl (hb hby d2_19) rfl (feq hc19).2 (by decide) (by decide) ?_
    show Steps p.tables e below (s₁.setTop (mkF m 26 #[.val (.int p1)] [])) _
    refine XS.iloadN X0.here hx rfl (hb hby d2_26) rfl ?_
    show Steps p.tables e below (s₁.setTop (mkF m 27 #[.val (.int p1)] [(.int p1)])) _
    refine XS.iconst X0.here hx rfl (hb hby d2_27) ?_
    show Steps p.tables e below (s₁.setTop (mkF m 28 #[.val (.int p1)] [(.int (3 : Int32)), (.int p1)])) _
    refine XS.icmpYes X0.here hx rfl (pc0 := 28) (pc' := 35) rfl (hb hby d2_28) rfl (feq hc28).2 (by decide) (by decide) ?_
    show Steps p.tables e below (s₁.setTop (mkF m 35 #[.val (.int p1)] [])) _
    refine XS.iloadN X0.here hx rfl (hb hby d2_35) rfl ?_
    show Steps p.tables e below (s₁.setTop (mkF m 36 #[.val (.int p1)] [(.int p1)])) _
    refine XS.bipush X0.here hx rfl (hb hby d2_36) ?_
    show Steps p.tables e below (s₁.setTop (mkF m 38 #[.val (.int p1)] [(.int (18 : Int32)), (.int p1)])) _
    refine XS.icmpNo X0.here hx rfl (hb hby d2_38) rfl (teq hc38).2 ?_
    show Steps p.tables e below (s₁.setTop (mkF m 41 #[.val (.int p1)] [])) _
    refine st3 _ ?_
    show Steps p.tables e below (T3.setTop (mkF m 44 #[.val (.int p1)] [(.ref w_API_VERSIONS)])) _
    jvm_step X3.here [X3.here.top, hx, (hb hby d2_44), X3.method', Bd.returns, Value.isRef, FieldType.isReference]
    first | (intro acts; rw [hr _ acts rfl rfl rfl]) | rw [hr _ _ rfl rfl rfl]
    exact Steps.refl _
  · show Q2 Z p1 w_API_VERSIONS w_METADATA w_LIST_OFFSETS w_FETCH w_PRODUCE h0 n0 _ T3.heap _
    rw [e3]
    exact ⟨(by unfold own_f2; rw [if_neg hc1, if_neg hc10, if_neg hc19, if_neg hc28, if_pos hc38]), N0, rfl⟩
set_option maxRecDepth 65536 in
set_option maxHeartbeats 40000000 in
theorem rm2_tttf (l : Launch) (Z : State) (a0 : Array Value) (hw : ∀ d ∈ tables_1, d.before a0 Z = true) (ws : List Jvm.Cond) (p1 : Int32) (w_API_VERSIONS : Addr) (w_METADATA : Addr) (w_LIST_OFFSETS : Addr) (w_FETCH : Addr) (w_PRODUCE : Addr) (h0 : Heap) (n0 : Nat) (Z0 : n0 ≤ h0.size) (S_API_VERSIONS : Sta Z h0 "com/example/recordframe/recordframe/server/Api" "API_VERSIONS" "Lcom/example/recordframe/recordframe/server/Api;" (.ref w_API_VERSIONS)) (S_METADATA : Sta Z h0 "com/example/recordframe/recordframe/server/Api" "METADATA" "Lcom/example/recordframe/recordframe/server/Api;" (.ref w_METADATA)) (S_LIST_OFFSETS : Sta Z h0 "com/example/recordframe/recordframe/server/Api" "LIST_OFFSETS" "Lcom/example/recordframe/recordframe/server/Api;" (.ref w_LIST_OFFSETS)) (S_FETCH : Sta Z h0 "com/example/recordframe/recordframe/server/Api" "FETCH" "Lcom/example/recordframe/recordframe/server/Api;" (.ref w_FETCH)) (S_PRODUCE : Sta Z h0 "com/example/recordframe/recordframe/server/Api" "PRODUCE" "Lcom/example/recordframe/recordframe/server/Api;" (.ref w_PRODUCE)) (hc1 : ¬ (p1 = (0 : Int32))) (hc10 : ¬ (p1 = (1 : Int32))) (hc19 : ¬ (p1 = (2 : Int32))) (hc28 : p1 = (3 : Int32)) :
    MetFree l (⟨"com/example/recordframe/recordframe/server/ApiOfPinLaw", "expected", "(S)Lcom/example/recordframe/recordframe/server/Api;"⟩ : MethodName) (head1 (Jvm.Cond.code (⟨"com/example/recordframe/recordframe/server/ApiOfPinLaw", "expected", "(S)Lcom/example/recordframe/recordframe/server/Api;"⟩ : MethodName) method_3_code 1 (some (.object "com/example/recordframe/recordframe/server/Api")) :: ws) ({ frames := 0, cells := 0, slots := 0, locals := 0 } : Room)) (fun a U => a = #[(.int p1)] ∧ Z.Warmed39 U.vm ∧ U.heap = h0) (fun _ _ _ _ _ => True) (fun _ U o U' => ∃ v L, o = .returned v ∧ Q2 Z p1 w_API_VERSIONS w_METADATA w_LIST_OFFSETS w_FETCH w_PRODUCE h0 n0 v U'.heap L ∧ FrameEnd U o U' L ({ frames := 0, cells := 0, slots := 0, locals := 0 } : Room).cells ({ frames := 0, cells := 0, slots := 0, locals := 0 } : Room).slots) := by
  refine MetFree.of_bodySF (plainFor_of_name pn_2) hisR ?_
  intro p e s m args below meth c s₁ Bd hml0 hP hK
  obtain ⟨rfl, hZ, hh⟩ := hP
  have hx := Bd.exec
  have hby := Bd.bytes
  have hml : c.maxLocals = 1 := hml0
  have hown : s.vm.findClass "com/example/recordframe/recordframe/server/ApiOfPinLaw" = some m.cls := findClass_of_methodNamed Bd.named
  have hnm := (name_of_methodNamed Bd.named Bd.method).1
  have X0 : Stand p l e ({ frames := 0, cells := 0, slots := 0, locals := 0 } : Room) s m #[(.int p1)] below meth c s₁ [] 0 0 := Stand.of_body Bd
  have e0 : s₁.heap = h0 := by rw [← hh, Bd.state]; rfl
  have N0 := Fr.nil n0
  have pre0 : ∀ t, Steps p.tables e below (s₁.setTop (mkF m 0 #[.val (.int p1)] [])) t → Steps p.tables e below (s₁.setTop (entryFrame m #[(.int p1)] 1)) t := fun t k => castTop (ef_2 m p1) k
  -- 3. LAWS
  obtain ⟨T3, X3, e3, st3⟩ := getS2 X0 hx hZ hown (host := "") (Or.inl (hw _ (List.mem_of_getElem? (i := 18) rfl))) Via.refl e0 S_METADATA (g := (mkF m 31 #[.val (.int p1)] [])) rfl (hb hby d2_31)
  obtain ⟨fs, hr, hrun, hended, hW, hsame⟩ := X3.leave (v := some (.ref w_METADATA)) (fun h => by rw [Bd.returns] at h; cases h) (BodyLoose.notSynchronized Bd)
  refine ⟨_, _, pre0 _ ?_, hrun, hended, _, _, rfl, ?_, ⟨_, rfl⟩, hW, hsame.mono (by decide) (by decide)⟩
  -- 4. STEPS
  · show Steps p.tables e below (s₁.setTop (mkF m 0 #[.val (.int p1)] [])) _
    refine XS.iloadN X0.here hx rfl (hb hby d2_0) rfl ?_
    show Steps p.tables e below (s₁.setTop (mkF m 1 #[.val (.int p1)] [(.int p1)])) _
    refine XS.ifYes X0.here hx rfl (pc0 := 1) (pc' := 8) rfl (hb hby d2_1) rfl ((if0 _ _).trans (feq hc1).2) (by decide) (by decide) ?_
    show Steps p.tables e below (s₁.setTop (mkF m 8 #[.val (.int p1)] [])) _
    refine XS.iloadN X0.here hx rfl (hb hby d2_8) rfl ?_
    show Steps p.tables e below (s₁.setTop (mkF m 9 #[.val (.int p1)] [(.int p1)])) _
    refine XS.iconst X0.here hx rfl (hb hby d2_9) ?_
    show Steps p.tables e below (s₁.setTop (mkF m 10 #[.val (.int p1)] [(.int (1 : Int32)), (.int p1)])) _
    refine XS.icmpYes X0.here hx rfl (pc0 := 10) (pc' := 17) rfl (hb hby d2_10) rfl (feq hc10).2 (by decide) (by decide) ?_
    show Steps p.tables e below (s₁.setTop (mkF m 17 #[.val (.int p1)] [])) _
    refine XS.iloadN X0.here hx rfl (hb hby d2_17) rfl ?_
    show Steps p.tables e below (s₁.setTop (mkF m 18 #[.val (.int p1)] [(.int p1)])) _
    refine XS.iconst X0.here hx rfl (hb hby d2_18) ?_
    show Steps p.tables e below (s₁.setTop (mkF m 19 #[.val (.int p1)] [(.int (2 : Int32)), (.int p1)])) _
    refine XS.icmpYes X0.here hx rfl (pc0 := 19) (pc' := 26) rfl (hb hby d2_19) rfl (feq hc19).2 (by decide) (by decide) ?_
    show Steps p.tables e below (s₁.setTop (mkF m 26 #[.val (.int p1)] [])) _
    refine XS.iloadN X0.here hx rfl (hb hby d2_26) rfl ?_
    show Steps p.tables e below (s₁.setTop (mkF m 27 #[.val (.int p1)] [(.int p1)])) _
    refine XS.iconst X0.here hx rfl (hb hby d2_27) ?_
    show Steps p.tables e below (s₁.setTop (mkF m 28 #[.val (.int p1)] [(.int (3 : Int32)), (.int p1)])) _
    refine XS.icmpNo X0.here hx rfl (hb hby d2_28) rfl (teq hc28).2 ?_
    show Steps p.tables e below (s₁.setTop (mkF m 31 #[.val (.int p1)] [])) _
    refine st3 _ ?_
    show Steps p.tables e below (T3.setTop (mkF m 34 #[.val (.int p1)] [(.ref w_METADATA)])) _
    jvm_step X3.here [X3.here.top, hx, (hb hby d2_34), X3.method', Bd.returns, Value.isRef, FieldType.isReference]
    first | (intro acts; rw [hr _ acts rfl rfl rfl]) | rw [hr _ _ rfl rfl rfl]
    exact Steps.refl _
  · show Q2 Z p1 w_API_VERSIONS w_METADATA w_LIST_OFFSETS w_FETCH w_PRODUCE h0 n0 _ T3.heap _
    rw [e3]
    exact ⟨(by unfold own_f2; rw [if_neg hc1, if_neg hc10, if_neg hc19, if_pos hc28]), N0, rfl⟩
set_option maxRecDepth 65536 in
set_option maxHeartbeats 40000000 in
theorem rm2_ttf (l : Launch) (Z : State) (a0 : Array Value) (hw : ∀ d ∈ tables_1, d.before a0 Z = true) (ws : List Jvm.Cond) (p1 : Int32) (w_API_VERSIONS : Addr) (w_METADATA : Addr) (w_LIST_OFFSETS : Addr) (w_FETCH : Addr) (w_PRODUCE : Addr) (h0 : Heap) (n0 : Nat) (Z0 : n0 ≤ h0.size) (S_API_VERSIONS : Sta Z h0 "com/example/recordframe/recordframe/server/Api" "API_VERSIONS" "Lcom/example/recordframe/recordframe/server/Api;" (.ref w_API_VERSIONS)) (S_METADATA : Sta Z h0 "com/example/recordframe/recordframe/server/Api" "METADATA" "Lcom/example/recordframe/recordframe/server/Api;" (.ref w_METADATA)) (S_LIST_OFFSETS : Sta Z h0 "com/example/recordframe/recordframe/server/Api" "LIST_OFFSETS" "Lcom/example/recordframe/recordframe/server/Api;" (.ref w_LIST_OFFSETS)) (S_FETCH : Sta Z h0 "com/example/recordframe/recordframe/server/Api" "FETCH" "Lcom/example/recordframe/recordframe/server/Api;" (.ref w_FETCH)) (S_PRODUCE : Sta Z h0 "com/example/recordframe/recordframe/server/Api" "PRODUCE" "Lcom/example/recordframe/recordframe/server/Api;" (.ref w_PRODUCE)) (hc1 : ¬ (p1 = (0 : Int32))) (hc10 : ¬ (p1 = (1 : Int32))) (hc19 : p1 = (2 : Int32)) :
    MetFree l (⟨"com/example/recordframe/recordframe/server/ApiOfPinLaw", "expected", "(S)Lcom/example/recordframe/recordframe/server/Api;"⟩ : MethodName) (head1 (Jvm.Cond.code (⟨"com/example/recordframe/recordframe/server/ApiOfPinLaw", "expected", "(S)Lcom/example/recordframe/recordframe/server/Api;"⟩ : MethodName) method_3_code 1 (some (.object "com/example/recordframe/recordframe/server/Api")) :: ws) ({ frames := 0, cells := 0, slots := 0, locals := 0 } : Room)) (fun a U => a = #[(.int p1)] ∧ Z.Warmed39 U.vm ∧ U.heap = h0) (fun _ _ _ _ _ => True) (fun _ U o U' => ∃ v L, o = .returned v ∧ Q2 Z p1 w_API_VERSIONS w_METADATA w_LIST_OFFSETS w_FETCH w_PRODUCE h0 n0 v U'.heap L ∧ FrameEnd U o U' L ({ frames := 0, cells := 0, slots := 0, locals := 0 } : Room).cells ({ frames := 0, cells := 0, slots := 0, locals := 0 } : Room).slots) := by
  refine MetFree.of_bodySF (plainFor_of_name pn_2) hisR ?_
  intro p e s m args below meth c s₁ Bd hml0 hP hK
  obtain ⟨rfl, hZ, hh⟩ := hP
  have hx := Bd.exec
  have hby := Bd.bytes
  have hml : c.maxLocals = 1 := hml0
  have hown : s.vm.findClass "com/example/recordframe/recordframe/server/ApiOfPinLaw" = some m.cls := findClass_of_methodNamed Bd.named
  have hnm := (name_of_methodNamed Bd.named Bd.method).1
  have X0 : Stand p l e ({ frames := 0, cells := 0, slots := 0, locals := 0 } : Room) s m #[(.int p1)] below meth c s₁ [] 0 0 := Stand.of_body Bd
  have e0 : s₁.heap = h0 := by rw [← hh, Bd.state]; rfl
  have N0 := Fr.nil n0
  have pre0 : ∀ t, Steps p.tables e below (s₁.setTop (mkF m 0 #[.val (.int p1)] [])) t → Steps p.tables e below (s₁.setTop (entryFrame m #[(.int p1)] 1)) t := fun t k => castTop (ef_2 m p1) k
  -- 3. LAWS
  obtain ⟨T3, X3, e3, st3⟩ := getS2 X0 hx hZ hown (host := "") (Or.inl (hw _ (List.mem_of_getElem? (i := 20) rfl))) Via.refl e0 S_LIST_OFFSETS (g := (mkF m 22 #[.val (.int p1)] [])) rfl (hb hby d2_22)
  obtain ⟨fs, hr, hrun, hended, hW, hsame⟩ := X3.leave (v := some (.ref w_LIST_OFFSETS)) (fun h => by rw [Bd.returns] at h; cases h) (BodyLoose.notSynchronized Bd)
  refine ⟨_, _, pre0 _ ?_, hrun, hended, _, _, rfl, ?_, ⟨_, rfl⟩, hW, hsame.mono (by decide) (by decide)⟩
  -- 4. STEPS
  · show Steps p.tables e below (s₁.setTop (mkF m 0 #[.val (.int p1)] [])) _
    refine XS.iloadN X0.here hx rfl (hb hby d2_0) rfl ?_
    show Steps p.tables e below (s₁.setTop (mkF m 1 #[.val (.int p1)] [(.int p1)])) _
    refine XS.ifYes X0.here hx rfl (pc0 := 1) (pc' := 8) rfl (hb hby d2_1) rfl ((if0 _ _).trans (feq hc1).2) (by decide) (by decide) ?_
    show Steps p.tables e below (s₁.setTop (mkF m 8 #[.val (.int p1)] [])) _
    refine XS.iloadN X0.here hx rfl (hb hby d2_8) rfl ?_
    show Steps p.tables e below (s₁.setTop (mkF m 9 #[.val (.int p1)] [(.int p1)])) _
    refine XS.iconst X0.here hx rfl (hb hby d2_9) ?_
    show Steps p.tables e below (s₁.setTop (mkF m 10 #[.val (.int p1)] [(.int (1 : Int32)), (.int p1)])) _
    refine XS.icmpYes X0.here hx rfl (pc0 := 10) (pc' := 17) rfl (hb hby d2_10) rfl (feq hc10).2 (by decide) (by decide) ?_
    show Steps p.tables e below (s₁.setTop (mkF m 17 #[.val (.int p1)] [])) _
    refine XS.iloadN X0.here hx rfl (hb hby d2_17) rfl ?_
    show Steps p.tables e below (s₁.setTop (mkF m 18 #[.val (.int p1)] [(.int p1)])) _
    refine XS.iconst X0.here hx rfl (hb hby d2_18) ?_
    show Steps p.tables e below (s₁.setTop (mkF m 19 #[.val (.int p1)] [(.int (2 : Int32)), (.int p1)])) _
    refine XS.icmpNo X0.here hx rfl (hb hby d2_19) rfl (teq hc19).2 ?_
    show Steps p.tables e below (s₁.setTop (mkF m 22 #[.val (.int p1)] [])) _
    refine st3 _ ?_
    show Steps p.tables e below (T3.setTop (mkF m 25 #[.val (.int p1)] [(.ref w_LIST_OFFSETS)])) _
    jvm_step X3.here [X3.here.top, hx, (hb hby d2_25), X3.method', Bd.returns, Value.isRef, FieldType.isReference]
    first | (intro acts; rw [hr _ acts rfl rfl rfl]) | rw [hr _ _ rfl rfl rfl]
    exact Steps.refl _
  · show Q2 Z p1 w_API_VERSIONS w_METADATA w_LIST_OFFSETS w_FETCH w_PRODUCE h0 n0 _ T3.heap _
    rw [e3]
    exact ⟨(by unfold own_f2; rw [if_neg hc1, if_neg hc10, if_pos hc19]), N0, rfl⟩
set_option maxRecDepth 65536 in
set_option maxHeartbeats 40000000 in
theorem rm2_tf (l : Launch) (Z : State) (a0 : Array Value) (hw : ∀ d ∈ tables_1, d.before a0 Z = true) (ws : List Jvm.Cond) (p1 : Int32) (w_API_VERSIONS : Addr) (w_METADATA : Addr) (w_LIST_OFFSETS : Addr) (w_FETCH : Addr) (w_PRODUCE : Addr) (h0 : Heap) (n0 : Nat) (Z0 : n0 ≤ h0.size) (S_API_VERSIONS : Sta Z h0 "com/example/recordframe/recordframe/server/Api" "API_VERSIONS" "Lcom/example/recordframe/recordframe/server/Api;" (.ref w_API_VERSIONS)) (S_METADATA : Sta Z h0 "com/example/recordframe/recordframe/server/Api" "METADATA" "Lcom/example/recordframe/recordframe/server/Api;" (.ref w_METADATA)) (S_LIST_OFFSETS : Sta Z h0 "com/example/recordframe/recordframe/server/Api" "LIST_OFFSETS" "Lcom/example/recordframe/recordframe/server/Api;" (.ref w_LIST_OFFSETS)) (S_FETCH : Sta Z h0 "com/example/recordframe/recordframe/server/Api" "FETCH" "Lcom/example/recordframe/recordframe/server/Api;" (.ref w_FETCH)) (S_PRODUCE : Sta Z h0 "com/example/recordframe/recordframe/server/Api" "PRODUCE" "Lcom/example/recordframe/recordframe/server/Api;" (.ref w_PRODUCE)) (hc1 : ¬ (p1 = (0 : Int32))) (hc10 : p1 = (1 : Int32)) :
    MetFree l (⟨"com/example/recordframe/recordframe/server/ApiOfPinLaw", "expected", "(S)Lcom/example/recordframe/recordframe/server/Api;"⟩ : MethodName) (head1 (Jvm.Cond.code (⟨"com/example/recordframe/recordframe/server/ApiOfPinLaw", "expected", "(S)Lcom/example/recordframe/recordframe/server/Api;"⟩ : MethodName) method_3_code 1 (some (.object "com/example/recordframe/recordframe/server/Api")) :: ws) ({ frames := 0, cells := 0, slots := 0, locals := 0 } : Room)) (fun a U => a = #[(.int p1)] ∧ Z.Warmed39 U.vm ∧ U.heap = h0) (fun _ _ _ _ _ => True) (fun _ U o U' => ∃ v L, o = .returned v ∧ Q2 Z p1 w_API_VERSIONS w_METADATA w_LIST_OFFSETS w_FETCH w_PRODUCE h0 n0 v U'.heap L ∧ FrameEnd U o U' L ({ frames := 0, cells := 0, slots := 0, locals := 0 } : Room).cells ({ frames := 0, cells := 0, slots := 0, locals := 0 } : Room).slots) := by
  refine MetFree.of_bodySF (plainFor_of_name pn_2) hisR ?_
  intro p e s m args below meth c s₁ Bd hml0 hP hK
  obtain ⟨rfl, hZ, hh⟩ := hP
  have hx := Bd.exec
  have hby := Bd.bytes
  have hml : c.maxLocals = 1 := hml0
  have hown : s.vm.findClass "com/example/recordframe/recordframe/server/ApiOfPinLaw" = some m.cls := findClass_of_methodNamed Bd.named
  have hnm := (name_of_methodNamed Bd.named Bd.method).1
  have X0 : Stand p l e ({ frames := 0, cells := 0, slots := 0, locals := 0 } : Room) s m #[(.int p1)] below meth c s₁ [] 0 0 := Stand.of_body Bd
  have e0 : s₁.heap = h0 := by rw [← hh, Bd.state]; rfl
  have N0 := Fr.nil n0
  have pre0 : ∀ t, Steps p.tables e below (s₁.setTop (mkF m 0 #[.val (.int p1)] [])) t → Steps p.tables e below (s₁.setTop (entryFrame m #[(.int p1)] 1)) t := fun t k => castTop (ef_2 m p1) k
  -- 3. LAWS
  obtain ⟨T3, X3, e3, st3⟩ := getS2 X0 hx hZ hown (host := "") (Or.inl (hw _ (List.mem_of_getElem? (i := 19) rfl))) Via.refl e0 S_FETCH (g := (mkF m 13 #[.val (.int p1)] [])) rfl (hb hby d2_13)
  obtain ⟨fs, hr, hrun, hended, hW, hsame⟩ := X3.leave (v := some (.ref w_FETCH)) (fun h => by rw [Bd.returns] at h; cases h) (BodyLoose.notSynchronized Bd)
  refine ⟨_, _, pre0 _ ?_, hrun, hended, _, _, rfl, ?_, ⟨_, rfl⟩, hW, hsame.mono (by decide) (by decide)⟩
  -- 4. STEPS
  · show Steps p.tables e below (s₁.setTop (mkF m 0 #[.val (.int p1)] [])) _
    refine XS.iloadN X0.here hx rfl (hb hby d2_0) rfl ?_
    show Steps p.tables e below (s₁.setTop (mkF m 1 #[.val (.int p1)] [(.int p1)])) _
    refine XS.ifYes X0.here hx rfl (pc0 := 1) (pc' := 8) rfl (hb hby d2_1) rfl ((if0 _ _).trans (feq hc1).2) (by decide) (by decide) ?_
    show Steps p.tables e below (s₁.setTop (mkF m 8 #[.val (.int p1)] [])) _
    refine XS.iloadN X0.here hx rfl (hb hby d2_8) rfl ?_
    show Steps p.tables e below (s₁.setTop (mkF m 9 #[.val (.int p1)] [(.int p1)])) _
    refine XS.iconst X0.here hx rfl (hb hby d2_9) ?_
    show Steps p.tables e below (s₁.setTop (mkF m 10 #[.val (.int p1)] [(.int (1 : Int32)), (.int p1)])) _
    refine XS.icmpNo X0.here hx rfl (hb hby d2_10) rfl (teq hc10).2 ?_
    show Steps p.tables e below (s₁.setTop (mkF m 13 #[.val (.int p1)] [])) _
    refine st3 _ ?_
    show Steps p.tables e below (T3.setTop (mkF m 16 #[.val (.int p1)] [(.ref w_FETCH)])) _
    jvm_step X3.here [X3.here.top, hx, (hb hby d2_16), X3.method', Bd.returns, Value.isRef, FieldType.isReference]
    first | (intro acts; rw [hr _ acts rfl rfl rfl]) | rw [hr _ _ rfl rfl rfl]
    exact Steps.refl _
  · show Q2 Z p1 w_API_VERSIONS w_METADATA w_LIST_OFFSETS w_FETCH w_PRODUCE h0 n0 _ T3.heap _
    rw [e3]
    exact ⟨(by unfold own_f2; rw [if_neg hc1, if_pos hc10]), N0, rfl⟩
set_option maxRecDepth 65536 in
set_option maxHeartbeats 40000000 in
theorem rm2_f (l : Launch) (Z : State) (a0 : Array Value) (hw : ∀ d ∈ tables_1, d.before a0 Z = true) (ws : List Jvm.Cond) (p1 : Int32) (w_API_VERSIONS : Addr) (w_METADATA : Addr) (w_LIST_OFFSETS : Addr) (w_FETCH : Addr) (w_PRODUCE : Addr) (h0 : Heap) (n0 : Nat) (Z0 : n0 ≤ h0.size) (S_API_VERSIONS : Sta Z h0 "com/example/recordframe/recordframe/server/Api" "API_VERSIONS" "Lcom/example/recordframe/recordframe/server/Api;" (.ref w_API_VERSIONS)) (S_METADATA : Sta Z h0 "com/example/recordframe/recordframe/server/Api" "METADATA" "Lcom/example/recordframe/recordframe/server/Api;" (.ref w_METADATA)) (S_LIST_OFFSETS : Sta Z h0 "com/example/recordframe/recordframe/server/Api" "LIST_OFFSETS" "Lcom/example/recordframe/recordframe/server/Api;" (.ref w_LIST_OFFSETS)) (S_FETCH : Sta Z h0 "com/example/recordframe/recordframe/server/Api" "FETCH" "Lcom/example/recordframe/recordframe/server/Api;" (.ref w_FETCH)) (S_PRODUCE : Sta Z h0 "com/example/recordframe/recordframe/server/Api" "PRODUCE" "Lcom/example/recordframe/recordframe/server/Api;" (.ref w_PRODUCE)) (hc1 : p1 = (0 : Int32)) :
    MetFree l (⟨"com/example/recordframe/recordframe/server/ApiOfPinLaw", "expected", "(S)Lcom/example/recordframe/recordframe/server/Api;"⟩ : MethodName) (head1 (Jvm.Cond.code (⟨"com/example/recordframe/recordframe/server/ApiOfPinLaw", "expected", "(S)Lcom/example/recordframe/recordframe/server/Api;"⟩ : MethodName) method_3_code 1 (some (.object "com/example/recordframe/recordframe/server/Api")) :: ws) ({ frames := 0, cells := 0, slots := 0, locals := 0 } : Room)) (fun a U => a = #[(.int p1)] ∧ Z.Warmed39 U.vm ∧ U.heap = h0) (fun _ _ _ _ _ => True) (fun _ U o U' => ∃ v L, o = .returned v ∧ Q2 Z p1 w_API_VERSIONS w_METADATA w_LIST_OFFSETS w_FETCH w_PRODUCE h0 n0 v U'.heap L ∧ FrameEnd U o U' L ({ frames := 0, cells := 0, slots := 0, locals := 0 } : Room).cells ({ frames := 0, cells := 0, slots := 0, locals := 0 } : Room).slots) := by
  refine MetFree.of_bodySF (plainFor_of_name pn_2) hisR ?_
  intro p e s m args below meth c s₁ Bd hml0 hP hK
  obtain ⟨rfl, hZ, hh⟩ := hP
  have hx := Bd.exec
  have hby := Bd.bytes
  have hml : c.maxLocals = 1 := hml0
  have hown : s.vm.findClass "com/example/recordframe/recordframe/server/ApiOfPinLaw" = some m.cls := findClass_of_methodNamed Bd.named
  have hnm := (name_of_methodNamed Bd.named Bd.method).1
  have X0 : Stand p l e ({ frames := 0, cells := 0, slots := 0, locals := 0 } : Room) s m #[(.int p1)] below meth c s₁ [] 0 0 := Stand.of_body Bd
  have e0 : s₁.heap = h0 := by rw [← hh, Bd.state]; rfl
  have N0 := Fr.nil n0
  have pre0 : ∀ t, Steps p.tables e below (s₁.setTop (mkF m 0 #[.val (.int p1)] [])) t → Steps p.tables e below (s₁.setTop (entryFrame m #[(.int p1)] 1)) t := fun t k => castTop (ef_2 m p1) k
  -- 3. LAWS
  obtain ⟨T3, X3, e3, st3⟩ := getS2 X0 hx hZ hown (host := "") (Or.inl (hw _ (List.mem_of_getElem? (i := 13) rfl))) Via.refl e0 S_PRODUCE (g := (mkF m 4 #[.val (.int p1)] [])) rfl (hb hby d2_4)
  obtain ⟨fs, hr, hrun, hended, hW, hsame⟩ := X3.leave (v := some (.ref w_PRODUCE)) (fun h => by rw [Bd.returns] at h; cases h) (BodyLoose.notSynchronized Bd)
  refine ⟨_, _, pre0 _ ?_, hrun, hended, _, _, rfl, ?_, ⟨_, rfl⟩, hW, hsame.mono (by decide) (by decide)⟩
  -- 4. STEPS
  · show Steps p.tables e below (s₁.setTop (mkF m 0 #[.val (.int p1)] [])) _
    refine XS.iloadN X0.here hx rfl (hb hby d2_0) rfl ?_
    show Steps p.tables e below (s₁.setTop (mkF m 1 #[.val (.int p1)] [(.int p1)])) _
    refine XS.ifNo X0.here hx rfl (hb hby d2_1) rfl ((if0 _ _).trans (teq hc1).2) ?_
    show Steps p.tables e below (s₁.setTop (mkF m 4 #[.val (.int p1)] [])) _
    refine st3 _ ?_
    show Steps p.tables e below (T3.setTop (mkF m 7 #[.val (.int p1)] [(.ref w_PRODUCE)])) _
    jvm_step X3.here [X3.here.top, hx, (hb hby d2_7), X3.method', Bd.returns, Value.isRef, FieldType.isReference]
    first | (intro acts; rw [hr _ acts rfl rfl rfl]) | rw [hr _ _ rfl rfl rfl]
    exact Steps.refl _
  · show Q2 Z p1 w_API_VERSIONS w_METADATA w_LIST_OFFSETS w_FETCH w_PRODUCE h0 n0 _ T3.heap _
    rw [e3]
    exact ⟨(by unfold own_f2; rw [if_pos hc1]), N0, rfl⟩
set_option maxRecDepth 65536 in
set_option maxHeartbeats 40000000 in
theorem rm2 (l : Launch) (Z : State) (a0 : Array Value) (hw : ∀ d ∈ tables_1, d.before a0 Z = true) (ws : List Jvm.Cond) (p1 : Int32) (w_API_VERSIONS : Addr) (w_METADATA : Addr) (w_LIST_OFFSETS : Addr) (w_FETCH : Addr) (w_PRODUCE : Addr) (h0 : Heap) (n0 : Nat) (Z0 : n0 ≤ h0.size) (S_API_VERSIONS : Sta Z h0 "com/example/recordframe/recordframe/server/Api" "API_VERSIONS" "Lcom/example/recordframe/recordframe/server/Api;" (.ref w_API_VERSIONS)) (S_METADATA : Sta Z h0 "com/example/recordframe/recordframe/server/Api" "METADATA" "Lcom/example/recordframe/recordframe/server/Api;" (.ref w_METADATA)) (S_LIST_OFFSETS : Sta Z h0 "com/example/recordframe/recordframe/server/Api" "LIST_OFFSETS" "Lcom/example/recordframe/recordframe/server/Api;" (.ref w_LIST_OFFSETS)) (S_FETCH : Sta Z h0 "com/example/recordframe/recordframe/server/Api" "FETCH" "Lcom/example/recordframe/recordframe/server/Api;" (.ref w_FETCH)) (S_PRODUCE : Sta Z h0 "com/example/recordframe/recordframe/server/Api" "PRODUCE" "Lcom/example/recordframe/recordframe/server/Api;" (.ref w_PRODUCE)) :
    MetFree l (⟨"com/example/recordframe/recordframe/server/ApiOfPinLaw", "expected", "(S)Lcom/example/recordframe/recordframe/server/Api;"⟩ : MethodName) (head1 (Jvm.Cond.code (⟨"com/example/recordframe/recordframe/server/ApiOfPinLaw", "expected", "(S)Lcom/example/recordframe/recordframe/server/Api;"⟩ : MethodName) method_3_code 1 (some (.object "com/example/recordframe/recordframe/server/Api")) :: ws) ({ frames := 0, cells := 0, slots := 0, locals := 0 } : Room)) (fun a U => a = #[(.int p1)] ∧ Z.Warmed39 U.vm ∧ U.heap = h0) (fun _ _ _ _ _ => True) (fun _ U o U' => ∃ v L, o = .returned v ∧ Q2 Z p1 w_API_VERSIONS w_METADATA w_LIST_OFFSETS w_FETCH w_PRODUCE h0 n0 v U'.heap L ∧ FrameEnd U o U' L ({ frames := 0, cells := 0, slots := 0, locals := 0 } : Room).cells ({ frames := 0, cells := 0, slots := 0, locals := 0 } : Room).slots) := by
  by_cases hc1 : p1 = (0 : Int32)
  · exact rm2_f l Z a0 hw ws p1 w_API_VERSIONS w_METADATA w_LIST_OFFSETS w_FETCH w_PRODUCE h0 n0 Z0 S_API_VERSIONS S_METADATA S_LIST_OFFSETS S_FETCH S_PRODUCE hc1
  · by_cases hc10 : p1 = (1 : Int32)
    · exact rm2_tf l Z a0 hw ws p1 w_API_VERSIONS w_METADATA w_LIST_OFFSETS w_FETCH w_PRODUCE h0 n0 Z0 S_API_VERSIONS S_METADATA S_LIST_OFFSETS S_FETCH S_PRODUCE hc1 hc10
    · by_cases hc19 : p1 = (2 : Int32)
      · exact rm2_ttf l Z a0 hw ws p1 w_API_VERSIONS w_METADATA w_LIST_OFFSETS w_FETCH w_PRODUCE h0 n0 Z0 S_API_VERSIONS S_METADATA S_LIST_OFFSETS S_FETCH S_PRODUCE hc1 hc10 hc19
      · by_cases hc28 : p1 = (3 : Int32)
        · exact rm2_tttf l Z a0 hw ws p1 w_API_VERSIONS w_METADATA w_LIST_OFFSETS w_FETCH w_PRODUCE h0 n0 Z0 S_API_VERSIONS S_METADATA S_LIST_OFFSETS S_FETCH S_PRODUCE hc1 hc10 hc19 hc28
        · by_cases hc38 : p1 = (18 : Int32)
          · exact rm2_ttttf l Z a0 hw ws p1 w_API_VERSIONS w_METADATA w_LIST_OFFSETS w_FETCH w_PRODUCE h0 n0 Z0 S_API_VERSIONS S_METADATA S_LIST_OFFSETS S_FETCH S_PRODUCE hc1 hc10 hc19 hc28 hc38
          · exact rm2_ttttt l Z a0 hw ws p1 w_API_VERSIONS w_METADATA w_LIST_OFFSETS w_FETCH w_PRODUCE h0 n0 Z0 S_API_VERSIONS S_METADATA S_LIST_OFFSETS S_FETCH S_PRODUCE hc1 hc10 hc19 hc28 hc38
theorem d1_0 : decode prog_54_method_4_code 0 = .ok (.getstatic 48, 3) := by decide +kernel
theorem d1_3 : decode prog_54_method_4_code 3 = .ok (.astore_n 1, 1) := by decide +kernel
theorem d1_4 : decode prog_54_method_4_code 4 = .ok (.aload_n 1, 1) := by decide +kernel
theorem d1_5 : decode prog_54_method_4_code 5 = .ok (.arraylength, 1) := by decide +kernel
theorem d1_6 : decode prog_54_method_4_code 6 = .ok (.istore_n 2, 1) := by decide +kernel
theorem d1_7 : decode prog_54_method_4_code 7 = .ok (.iconst 0, 1) := by decide +kernel
theorem d1_8 : decode prog_54_method_4_code 8 = .ok (.istore_n 3, 1) := by decide +kernel
theorem os1_3 {s0 : Slot} {s1 : Slot} {s2 : Slot} {s3 : Slot} {s4 : Slot} {v : Addr} (h : One s1) : storeLocals #[s0, s1, s2, s3, s4] 1 (.ref v) = some #[s0, .val (.ref v), s2, s3, s4] := by
  rcases h with rfl | ⟨w, rfl, hw⟩
  · rfl
  · cases w <;> first | rfl | (simp [Value.category] at hw)
theorem os1_6 {s0 : Slot} {z1 : Value} {s2 : Slot} {s3 : Slot} {s4 : Slot} {v : Int32} (h : One s2) : storeLocals #[s0, .val z1, s2, s3, s4] 2 (.int v) = some #[s0, .val z1, .val (.int v), s3, s4] := by
  rcases h with rfl | ⟨w, rfl, hw⟩
  · rfl
  · cases w <;> first | rfl | (simp [Value.category] at hw)
theorem os1_8 {s0 : Slot} {z1 : Value} {z2 : Value} {s3 : Slot} {s4 : Slot} {v : Int32} (h : One s3) : storeLocals #[s0, .val z1, .val z2, s3, s4] 3 (.int v) = some #[s0, .val z1, .val z2, .val (.int v), s4] := by
  rcases h with rfl | ⟨w, rfl, hw⟩
  · rfl
  · cases w <;> first | rfl | (simp [Value.category] at hw)
set_option maxRecDepth 65536 in
set_option maxHeartbeats 40000000 in
theorem own_in {p : Program} {l : Launch} {e : Env} {R : Room} {s : State} {m : MethodId} {args : Array Value} {below : List Frame} {meth : Method} {c : Code} {T0 : State} {locs : List Loc} {cells slots : Nat} {Z : State} {a0 : Array Value} {h0 : Heap} (s0 : Slot) (s1 : Slot) (s2 : Slot) (s3 : Slot) (s4 : Slot) (w2 : Addr) (cl_w2 : Cell) (z_w2 : Int32)
    (X0 : Stand p l e R s m args below meth c T0 locs cells slots) (hx : p.tables.exec = Jvm.exec) (hZ : Z.Warmed39 s.vm) (hw : ∀ d ∈ tables_1, d.before a0 Z = true) (hby : c.code = prog_54_method_4_code) (hml : c.maxLocals = 5) (hown : s.vm.findClass "com/example/recordframe/recordframe/server/Api" = some m.cls) (e0 : T0.heap = h0) (S_ALL : Sta Z h0 "com/example/recordframe/recordframe/server/Api" "ALL" "[Lcom/example/recordframe/recordframe/server/Api;" (.ref w2)) (hs1 : One s1) (Ar_w2 : Arr Z h0 w2 cl_w2 (.object "com/example/recordframe/recordframe/server/Api")) (S_w2 : cl_w2.slots.size = z_w2.toNatClampNeg) (N_w2 : ¬ z_w2 < 0) (hs2 : One s2) (hs3 : One s3) :
    ∃ (T' : State), Stand p l e R s m args below meth c T' locs cells slots ∧ T'.heap = h0 ∧
      ∀ target, Steps p.tables e below (T'.setTop (mkF m 9 #[s0, .val (.ref w2), .val (.int z_w2), .val (.int (0 : Int32)), s4] [])) target → Steps p.tables e below (T0.setTop (mkF m 0 #[s0, s1, s2, s3, s4] [])) target := by
  -- 3. LAWS
  obtain ⟨T3, X3, e3, st3⟩ := getS2 X0 hx hZ hown (host := "") (Or.inl (hw _ (List.mem_of_getElem? (i := 4) rfl))) Via.refl e0 S_ALL (g := (mkF m 0 #[s0, s1, s2, s3, s4] [])) rfl (hb hby d1_0)
  refine ⟨T3, X3, e3, fun target kt => ?_⟩
  -- 4. STEPS
  show Steps p.tables e below (T0.setTop (mkF m 0 #[s0, s1, s2, s3, s4] [])) _
  refine st3 _ ?_
  show Steps p.tables e below (T3.setTop (mkF m 3 #[s0, s1, s2, s3, s4] [(.ref w2)])) _
  refine XS.astoreN X3.here hx rfl (hb hby d1_3) rfl rfl (l' := #[s0, .val (.ref w2), s2, s3, s4]) (os1_3 hs1) ?_
  show Steps p.tables e below (T3.setTop (mkF m 4 #[s0, .val (.ref w2), s2, s3, s4] [])) _
  refine XS.aloadN X3.here hx rfl (hb hby d1_4) rfl rfl ?_
  show Steps p.tables e below (T3.setTop (mkF m 5 #[s0, .val (.ref w2), s2, s3, s4] [(.ref w2)])) _
  refine X3.arraylength hx (by rw [e3]; exact Ar_w2.1) (State.isArrayOf_alike hZ.alike Ar_w2.2.1) (g := (mkF m 5 #[s0, .val (.ref w2), s2, s3, s4] [(.ref w2)])) rfl rfl (hb hby d1_5) _ ?_
  rw [len_of S_w2 N_w2]
  show Steps p.tables e below (T3.setTop (mkF m 6 #[s0, .val (.ref w2), s2, s3, s4] [(.int z_w2)])) _
  refine XS.istoreN X3.here hx rfl (hb hby d1_6) rfl (l' := #[s0, .val (.ref w2), .val (.int z_w2), s3, s4]) (os1_6 hs2) ?_
  show Steps p.tables e below (T3.setTop (mkF m 7 #[s0, .val (.ref w2), .val (.int z_w2), s3, s4] [])) _
  refine XS.iconst X3.here hx rfl (hb hby d1_7) ?_
  show Steps p.tables e below (T3.setTop (mkF m 8 #[s0, .val (.ref w2), .val (.int z_w2), s3, s4] [(.int (0 : Int32))])) _
  refine XS.istoreN X3.here hx rfl (hb hby d1_8) rfl (l' := #[s0, .val (.ref w2), .val (.int z_w2), .val (.int (0 : Int32)), s4]) (os1_8 hs3) ?_
  exact kt
theorem d1_9 : decode prog_54_method_4_code 9 = .ok (.iload_n 3, 1) := by decide +kernel
theorem d1_10 : decode prog_54_method_4_code 10 = .ok (.iload_n 2, 1) := by decide +kernel
theorem d1_11 : decode prog_54_method_4_code 11 = .ok (.if_icmp .ge 26, 3) := by decide +kernel
theorem d1_14 : decode prog_54_method_4_code 14 = .ok (.aload_n 1, 1) := by decide +kernel
theorem d1_15 : decode prog_54_method_4_code 15 = .ok (.iload_n 3, 1) := by decide +kernel
theorem d1_16 : decode prog_54_method_4_code 16 = .ok (.aaload, 1) := by decide +kernel
theorem d1_17 : decode prog_54_method_4_code 17 = .ok (.astore 4, 2) := by decide +kernel
theorem d1_19 : decode prog_54_method_4_code 19 = .ok (.aload 4, 2) := by decide +kernel
theorem d1_21 : decode prog_54_method_4_code 21 = .ok (.getfield 38, 3) := by decide +kernel
theorem d1_24 : decode prog_54_method_4_code 24 = .ok (.iload_n 0, 1) := by decide +kernel
theorem d1_25 : decode prog_54_method_4_code 25 = .ok (.if_icmp .ne 6, 3) := by decide +kernel
theorem d1_31 : decode prog_54_method_4_code 31 = .ok (.iinc 3 1, 3) := by decide +kernel
theorem d1_34 : decode prog_54_method_4_code 34 = .ok (.goto (-25), 3) := by decide +kernel
theorem os1_17 {z0 : Value} {z1 : Value} {z2 : Value} {z3 : Value} {s4 : Slot} {v : Addr} (h : One s4) : storeLocals #[.val z0, .val z1, .val z2, .val z3, s4] 4 (.ref v) = some #[.val z0, .val z1, .val z2, .val z3, .val (.ref v)] := by
  rcases h with rfl | ⟨w, rfl, hw⟩
  · rfl
  · cases w <;> first | rfl | (simp [Value.category] at hw)
set_option maxRecDepth 65536 in
set_option maxHeartbeats 40000000 in
theorem own_turn {p : Program} {l : Launch} {e : Env} {R : Room} {s : State} {m : MethodId} {args : Array Value} {below : List Frame} {meth : Method} {c : Code} {T0 : State} {locs : List Loc} {cells slots : Nat} {Z : State} {a0 : Array Value} {h0 : Heap} (i0 : Int32) (o1 : Addr) (i2 : Int32) (i3 : Int32) (s4 : Slot) (w2 : Addr) (cl_o1 : Cell) (w3 : Int32)
    (X0 : Stand p l e R s m args below meth c T0 locs cells slots) (hx : p.tables.exec = Jvm.exec) (hZ : Z.Warmed39 s.vm) (hw : ∀ d ∈ tables_1, d.before a0 Z = true) (hby : c.code = prog_54_method_4_code) (hml : c.maxLocals = 5) (hown : s.vm.findClass "com/example/recordframe/recordframe/server/Api" = some m.cls) (e0 : T0.heap = h0) (Ar_o1 : Arr Z h0 o1 cl_o1 (.object "com/example/recordframe/recordframe/server/Api")) (hin16 : ¬ (i3 < 0 ∨ cl_o1.slots.size ≤ (i3).toNatClampNeg)) (hat16 : cl_o1.slots[(i3).toNatClampNeg]? = some (.ref w2)) (hs4 : One s4) (F_key_w2 : Fld Z h0 w2 "com/example/recordframe/recordframe/server/Api" "key" "S" (.int w3)) (hc11 : i3 < i2) (hc25 : ¬ (w3 = i0)) :
    ∃ (T' : State), Stand p l e R s m args below meth c T' locs cells slots ∧ T'.heap = h0 ∧
      ∀ target, Steps p.tables e below (T'.setTop (mkF m 9 #[.val (.int i0), .val (.ref o1), .val (.int i2), .val (.int (i3 + (1 : Int32))), .val (.ref w2)] [])) target → Steps p.tables e below (T0.setTop (mkF m 9 #[.val (.int i0), .val (.ref o1), .val (.int i2), .val (.int i3), s4] [])) target := by
  -- 3. LAWS
  obtain ⟨T4, X4, e4, st4⟩ := getF X0 hx hZ hown (host := "") (Or.inl (hw _ (List.mem_of_getElem? (i := 7) rfl))) Via.refl e0 F_key_w2 (g := (mkF m 21 #[.val (.int i0), .val (.ref o1), .val (.int i2), .val (.int i3), .val (.ref w2)] [(.ref w2)])) rfl rfl (hb hby d1_21)
  refine ⟨T4, X4, e4, fun target kt => ?_⟩
  -- 4. STEPS
  show Steps p.tables e below (T0.setTop (mkF m 9 #[.val (.int i0), .val (.ref o1), .val (.int i2), .val (.int i3), s4] [])) _
  refine XS.iloadN X0.here hx rfl (hb hby d1_9) rfl ?_
  show Steps p.tables e below (T0.setTop (mkF m 10 #[.val (.int i0), .val (.ref o1), .val (.int i2), .val (.int i3), s4] [(.int i3)])) _
  refine XS.iloadN X0.here hx rfl (hb hby d1_10) rfl ?_
  show Steps p.tables e below (T0.setTop (mkF m 11 #[.val (.int i0), .val (.ref o1), .val (.int i2), .val (.int i3), s4] [(.int i2), (.int i3)])) _
  refine XS.icmpNo X0.here hx rfl (hb hby d1_11) rfl (tlt hc11).2.1 ?_
  show Steps p.tables e below (T0.setTop (mkF m 14 #[.val (.int i0), .val (.ref o1), .val (.int i2), .val (.int i3), s4] [])) _
  refine XS.aloadN X0.here hx rfl (hb hby d1_14) rfl rfl ?_
  show Steps p.tables e below (T0.setTop (mkF m 15 #[.val (.int i0), .val (.ref o1), .val (.int i2), .val (.int i3), s4] [(.ref o1)])) _
  refine XS.iloadN X0.here hx rfl (hb hby d1_15) rfl ?_
  show Steps p.tables e below (T0.setTop (mkF m 16 #[.val (.int i0), .val (.ref o1), .val (.int i2), .val (.int i3), s4] [(.int i3), (.ref o1)])) _
  refine X0.aaload hx (j := i3) (v := (.ref w2)) (by rw [e0]; exact Ar_o1.1) (State.isArrayOf_alike hZ.alike Ar_o1.2.1) rfl Ar_o1.2.2 hin16 hat16 (g := (mkF m 16 #[.val (.int i0), .val (.ref o1), .val (.int i2), .val (.int i3), s4] [(.int i3), (.ref o1)])) rfl rfl (hb hby d1_16) _ ?_
  show Steps p.tables e below (T0.setTop (mkF m 17 #[.val (.int i0), .val (.ref o1), .val (.int i2), .val (.int i3), s4] [(.ref w2)])) _
  refine XS.astore X0.here hx rfl (hb hby d1_17) rfl rfl (l' := #[.val (.int i0), .val (.ref o1), .val (.int i2), .val (.int i3), .val (.ref w2)]) (os1_17 hs4) ?_
  show Steps p.tables e below (T0.setTop (mkF m 19 #[.val (.int i0), .val (.ref o1), .val (.int i2), .val (.int i3), .val (.ref w2)] [])) _
  refine XS.aload X0.here hx rfl (hb hby d1_19) rfl rfl ?_
  show Steps p.tables e below (T0.setTop (mkF m 21 #[.val (.int i0), .val (.ref o1), .val (.int i2), .val (.int i3), .val (.ref w2)] [(.ref w2)])) _
  refine st4 _ ?_
  show Steps p.tables e below (T4.setTop (mkF m 24 #[.val (.int i0), .val (.ref o1), .val (.int i2), .val (.int i3), .val (.ref w2)] [(.int w3)])) _
  refine XS.iloadN X4.here hx rfl (hb hby d1_24) rfl ?_
  show Steps p.tables e below (T4.setTop (mkF m 25 #[.val (.int i0), .val (.ref o1), .val (.int i2), .val (.int i3), .val (.ref w2)] [(.int i0), (.int w3)])) _
  refine XS.icmpYes X4.here hx rfl (pc0 := 25) (pc' := 31) rfl (hb hby d1_25) rfl (feq hc25).2 (by decide) (by decide) ?_
  show Steps p.tables e below (T4.setTop (mkF m 31 #[.val (.int i0), .val (.ref o1), .val (.int i2), .val (.int i3), .val (.ref w2)] [])) _
  refine XS.iinc X4.here hx rfl (hb hby d1_31) rfl (l' := #[.val (.int i0), .val (.ref o1), .val (.int i2), .val (.int (i3 + (1 : Int32))), .val (.ref w2)]) rfl ?_
  show Steps p.tables e below (T4.setTop (mkF m 34 #[.val (.int i0), .val (.ref o1), .val (.int i2), .val (.int (i3 + (1 : Int32))), .val (.ref w2)] [])) _
  refine XS.goto X4.here hx rfl (pc0 := 34) (pc' := 9) rfl (hb hby d1_34) (by decide) (by decide) ?_
  exact kt
set_option maxRecDepth 65536 in
set_option maxHeartbeats 40000000 in
theorem own_hit {p : Program} {l : Launch} {e : Env} {R : Room} {s : State} {m : MethodId} {args : Array Value} {below : List Frame} {meth : Method} {c : Code} {T0 : State} {locs : List Loc} {cells slots : Nat} {Z : State} {a0 : Array Value} {h0 : Heap} (i0 : Int32) (o1 : Addr) (i2 : Int32) (i3 : Int32) (s4 : Slot) (w2 : Addr) (cl_o1 : Cell) (w3 : Int32)
    (X0 : Stand p l e R s m args below meth c T0 locs cells slots) (hx : p.tables.exec = Jvm.exec) (hZ : Z.Warmed39 s.vm) (hw : ∀ d ∈ tables_1, d.before a0 Z = true) (hby : c.code = prog_54_method_4_code) (hml : c.maxLocals = 5) (hown : s.vm.findClass "com/example/recordframe/recordframe/server/Api" = some m.cls) (e0 : T0.heap = h0) (Ar_o1 : Arr Z h0 o1 cl_o1 (.object "com/example/recordframe/recordframe/server/Api")) (hin16 : ¬ (i3 < 0 ∨ cl_o1.slots.size ≤ (i3).toNatClampNeg)) (hat16 : cl_o1.slots[(i3).toNatClampNeg]? = some (.ref w2)) (hs4 : One s4) (F_key_w2 : Fld Z h0 w2 "com/example/recordframe/recordframe/server/Api" "key" "S" (.int w3)) (hc11 : i3 < i2) (hc25 : w3 = i0) :
    ∃ (T' : State), Stand p l e R s m args below meth c T' locs cells slots ∧ T'.heap = h0 ∧
      ∀ target, Steps p.tables e below (T'.setTop (mkF m 28 #[.val (.int i0), .val (.ref o1), .val (.int i2), .val (.int i3), .val (.ref w2)] [])) target → Steps p.tables e below (T0.setTop (mkF m 9 #[.val (.int i0), .val (.ref o1), .val (.int i2), .val (.int i3), s4] [])) target := by
  -- 3. LAWS
  obtain ⟨T4, X4, e4, st4⟩ := getF X0 hx hZ hown (host := "") (Or.inl (hw _ (List.mem_of_getElem? (i := 7) rfl))) Via.refl e0 F_key_w2 (g := (mkF m 21 #[.val (.int i0), .val (.ref o1), .val (.int i2), .val (.int i3), .val (.ref w2)] [(.ref w2)])) rfl rfl (hb hby d1_21)
  refine ⟨T4, X4, e4, fun target kt => ?_⟩
  -- 4. STEPS
  show Steps p.tables e below (T0.setTop (mkF m 9 #[.val (.int i0), .val (.ref o1), .val (.int i2), .val (.int i3), s4] [])) _
  refine XS.iloadN X0.here hx rfl (hb hby d1_9) rfl ?_
  show Steps p.tables e below (T0.setTop (mkF m 10 #[.val (.int i0), .val (.ref o1), .val (.int i2), .val (.int i3), s4] [(.int i3)])) _
  refine XS.iloadN X0.here hx rfl (hb hby d1_10) rfl ?_
  show Steps p.tables e below (T0.setTop (mkF m 11 #[.val (.int i0), .val (.ref o1), .val (.int i2), .val (.int i3), s4] [(.int i2), (.int i3)])) _
  refine XS.icmpNo X0.here hx rfl (hb hby d1_11) rfl (tlt hc11).2.1 ?_
  show Steps p.tables e below (T0.setTop (mkF m 14 #[.val (.int i0), .val (.ref o1), .val (.int i2), .val (.int i3), s4] [])) _
  refine XS.aloadN X0.here hx rfl (hb hby d1_14) rfl rfl ?_
  show Steps p.tables e below (T0.setTop (mkF m 15 #[.val (.int i0), .val (.ref o1), .val (.int i2), .val (.int i3), s4] [(.ref o1)])) _
  refine XS.iloadN X0.here hx rfl (hb hby d1_15) rfl ?_
  show Steps p.tables e below (T0.setTop (mkF m 16 #[.val (.int i0), .val (.ref o1), .val (.int i2), .val (.int i3), s4] [(.int i3), (.ref o1)])) _
  refine X0.aaload hx (j := i3) (v := (.ref w2)) (by rw [e0]; exact Ar_o1.1) (State.isArrayOf_alike hZ.alike Ar_o1.2.1) rfl Ar_o1.2.2 hin16 hat16 (g := (mkF m 16 #[.val (.int i0), .val (.ref o1), .val (.int i2), .val (.int i3), s4] [(.int i3), (.ref o1)])) rfl rfl (hb hby d1_16) _ ?_
  show Steps p.tables e below (T0.setTop (mkF m 17 #[.val (.int i0), .val (.ref o1), .val (.int i2), .val (.int i3), s4] [(.ref w2)])) _
  refine XS.astore X0.here hx rfl (hb hby d1_17) rfl rfl (l' := #[.val (.int i0), .val (.ref o1), .val (.int i2), .val (.int i3), .val (.ref w2)]) (os1_17 hs4) ?_
  show Steps p.tables e below (T0.setTop (mkF m 19 #[.val (.int i0), .val (.ref o1), .val (.int i2), .val (.int i3), .val (.ref w2)] [])) _
  refine XS.aload X0.here hx rfl (hb hby d1_19) rfl rfl ?_
  show Steps p.tables e below (T0.setTop (mkF m 21 #[.val (.int i0), .val (.ref o1), .val (.int i2), .val (.int i3), .val (.ref w2)] [(.ref w2)])) _
  refine st4 _ ?_
  show Steps p.tables e below (T4.setTop (mkF m 24 #[.val (.int i0), .val (.ref o1), .val (.int i2), .val (.int i3), .val (.ref w2)] [(.int w3)])) _
  refine XS.iloadN X4.here hx rfl (hb hby d1_24) rfl ?_
  show Steps p.tables e below (T4.setTop (mkF m 25 #[.val (.int i0), .val (.ref o1), .val (.int i2), .val (.int i3), .val (.ref w2)] [(.int i0), (.int w3)])) _
  refine XS.icmpNo X4.here hx rfl (hb hby d1_25) rfl (teq hc25).2 ?_
  exact kt
set_option maxRecDepth 65536 in
set_option maxHeartbeats 40000000 in
theorem own_out {p : Program} {l : Launch} {e : Env} {R : Room} {s : State} {m : MethodId} {args : Array Value} {below : List Frame} {meth : Method} {c : Code} {T0 : State} {locs : List Loc} {cells slots : Nat} {Z : State} {a0 : Array Value} {h0 : Heap} (s0 : Slot) (s1 : Slot) (i2 : Int32) (i3 : Int32) (s4 : Slot)
    (X0 : Stand p l e R s m args below meth c T0 locs cells slots) (hx : p.tables.exec = Jvm.exec) (hZ : Z.Warmed39 s.vm) (hw : ∀ d ∈ tables_1, d.before a0 Z = true) (hby : c.code = prog_54_method_4_code) (hml : c.maxLocals = 5) (hown : s.vm.findClass "com/example/recordframe/recordframe/server/Api" = some m.cls) (e0 : T0.heap = h0) (hc11 : ¬ (i3 < i2)) :
    ∃ (T' : State), Stand p l e R s m args below meth c T' locs cells slots ∧ T'.heap = h0 ∧
      ∀ target, Steps p.tables e below (T'.setTop (mkF m 37 #[s0, s1, .val (.int i2), .val (.int i3), s4] [])) target → Steps p.tables e below (T0.setTop (mkF m 9 #[s0, s1, .val (.int i2), .val (.int i3), s4] [])) target := by
  -- 3. LAWS

  refine ⟨T0, X0, e0, fun target kt => ?_⟩
  -- 4. STEPS
  show Steps p.tables e below (T0.setTop (mkF m 9 #[s0, s1, .val (.int i2), .val (.int i3), s4] [])) _
  refine XS.iloadN X0.here hx rfl (hb hby d1_9) rfl ?_
  show Steps p.tables e below (T0.setTop (mkF m 10 #[s0, s1, .val (.int i2), .val (.int i3), s4] [(.int i3)])) _
  refine XS.iloadN X0.here hx rfl (hb hby d1_10) rfl ?_
  show Steps p.tables e below (T0.setTop (mkF m 11 #[s0, s1, .val (.int i2), .val (.int i3), s4] [(.int i2), (.int i3)])) _
  refine XS.icmpYes X0.here hx rfl (pc0 := 11) (pc' := 37) rfl (hb hby d1_11) rfl (flt hc11).2.1 (by decide) (by decide) ?_
  exact kt
theorem d1_37 : decode prog_54_method_4_code 37 = .ok (.aconst_null, 1) := by decide +kernel
theorem d1_38 : decode prog_54_method_4_code 38 = .ok (.areturn, 1) := by decide +kernel
theorem pn_1 : plainName "com/example/recordframe/recordframe/server/Api" = true := by first | (simp [plainName, overriddenIn]; done) | decide +kernel
theorem ef_1 (m : MethodId) (x0 : Int32) : entryFrame m #[(.int x0)] 5 = mkF m 0 #[.val (.int x0), .unset, .unset, .unset, .unset] [] := by first | (simp [entryFrame, mkF, argsToLocals, Value.category]; done) | rfl
theorem d1_28 : decode prog_54_method_4_code 28 = .ok (.aload 4, 2) := by decide +kernel
theorem d1_30 : decode prog_54_method_4_code 30 = .ok (.areturn, 1) := by decide +kernel
theorem own_refs (p : Int32) (a b d e f : Addr) : own_f2 p a b d e f = .null ∨ ∃ rv, own_f2 p a b d e f = .ref rv := by
  unfold own_f2
  split
  · exact Or.inr ⟨_, rfl⟩
  · split
    · exact Or.inr ⟨_, rfl⟩
    · split
      · exact Or.inr ⟨_, rfl⟩
      · split
        · exact Or.inr ⟨_, rfl⟩
        · split
          · exact Or.inr ⟨_, rfl⟩
          · exact Or.inl rfl
def Q1 (Z : State) (p1 : Int32) (w_API_VERSIONS : Addr) (w_METADATA : Addr) (w_LIST_OFFSETS : Addr) (w_FETCH : Addr) (w_PRODUCE : Addr) (h0 : Heap) (n0 : Nat) (v : Option Value) (h : Heap) (L : List Loc) : Prop := v = some (own_f2 p1 w_API_VERSIONS w_METADATA w_LIST_OFFSETS w_FETCH w_PRODUCE) ∧ Fr n0 L ∧ h = h0
set_option maxRecDepth 65536 in
set_option maxHeartbeats 40000000 in
theorem rm1 (l : Launch) (Z : State) (a0 : Array Value) (hw : ∀ d ∈ tables_1, d.before a0 Z = true) (ws : List Jvm.Cond) (p1 : Int32) (w_API_VERSIONS : Addr) (w_METADATA : Addr) (w_LIST_OFFSETS : Addr) (w_FETCH : Addr) (w_PRODUCE : Addr) (wA : Addr) (cl : Cell) (h0 : Heap) (n0 : Nat) (Z0 : n0 ≤ h0.size) (S_ALL : Sta Z h0 "com/example/recordframe/recordframe/server/Api" "ALL" "[Lcom/example/recordframe/recordframe/server/Api;" (.ref wA)) (Ar : Arr Z h0 wA cl (.object "com/example/recordframe/recordframe/server/Api")) (Sz : cl.slots.size = (5 : Int32).toNatClampNeg) (hat0 : cl.slots[0]? = some (.ref w_PRODUCE)) (hat1 : cl.slots[1]? = some (.ref w_FETCH)) (hat2 : cl.slots[2]? = some (.ref w_LIST_OFFSETS)) (hat3 : cl.slots[3]? = some (.ref w_METADATA)) (hat4 : cl.slots[4]? = some (.ref w_API_VERSIONS)) (K_PRODUCE : Fld Z h0 w_PRODUCE "com/example/recordframe/recordframe/server/Api" "key" "S" (.int (0 : Int32))) (K_FETCH : Fld Z h0 w_FETCH "com/example/recordframe/recordframe/server/Api" "key" "S" (.int (1 : Int32))) (K_LIST_OFFSETS : Fld Z h0 w_LIST_OFFSETS "com/example/recordframe/recordframe/server/Api" "key" "S" (.int (2 : Int32))) (K_METADATA : Fld Z h0 w_METADATA "com/example/recordframe/recordframe/server/Api" "key" "S" (.int (3 : Int32))) (K_API_VERSIONS : Fld Z h0 w_API_VERSIONS "com/example/recordframe/recordframe/server/Api" "key" "S" (.int (18 : Int32))) :
    MetFree l (⟨"com/example/recordframe/recordframe/server/Api", "of", "(S)Lcom/example/recordframe/recordframe/server/Api;"⟩ : MethodName) (head1 (Jvm.Cond.code (⟨"com/example/recordframe/recordframe/server/Api", "of", "(S)Lcom/example/recordframe/recordframe/server/Api;"⟩ : MethodName) prog_54_method_4_code 5 (some (.object "com/example/recordframe/recordframe/server/Api")) :: ws) ({ frames := 0, cells := 0, slots := 0, locals := 0 } : Room)) (fun a U => a = #[(.int p1)] ∧ Z.Warmed39 U.vm ∧ U.heap = h0) (fun _ _ _ _ _ => True) (fun _ U o U' => ∃ v L, o = .returned v ∧ Q1 Z p1 w_API_VERSIONS w_METADATA w_LIST_OFFSETS w_FETCH w_PRODUCE h0 n0 v U'.heap L ∧ FrameEnd U o U' L ({ frames := 0, cells := 0, slots := 0, locals := 0 } : Room).cells ({ frames := 0, cells := 0, slots := 0, locals := 0 } : Room).slots) := by
  refine MetFree.of_bodySF (plainFor_of_name pn_1) hisR ?_
  intro p e s m args below meth c s₁ Bd hml0 hP hK
  obtain ⟨rfl, hZ, hh⟩ := hP
  have hx := Bd.exec
  have hby := Bd.bytes
  have hml : c.maxLocals = 5 := hml0
  have hown : s.vm.findClass "com/example/recordframe/recordframe/server/Api" = some m.cls := findClass_of_methodNamed Bd.named
  have hnm := (name_of_methodNamed Bd.named Bd.method).1
  have X0 : Stand p l e ({ frames := 0, cells := 0, slots := 0, locals := 0 } : Room) s m #[(.int p1)] below meth c s₁ [] 0 0 := Stand.of_body Bd
  have e0 : s₁.heap = h0 := by rw [← hh, Bd.state]; rfl
  have N0 := Fr.nil n0
  have pre0 : ∀ t, Steps p.tables e below (s₁.setTop (mkF m 0 #[.val (.int p1), .unset, .unset, .unset, .unset] [])) t → Steps p.tables e below (s₁.setTop (entryFrame m #[(.int p1)] 5)) t := fun t k => castTop (ef_1 m p1) k
  by_cases hc0 : p1 = (0 : Int32)
  · obtain ⟨T1, X1, e1, st1⟩ := own_in (.val (.int p1)) .unset .unset .unset .unset wA cl (5 : Int32) X0 hx hZ hw hby hml hown e0 S_ALL One.u Ar Sz (by decide) One.u One.u
    obtain ⟨T2, X2, e2, st2⟩ := own_hit p1 wA (5 : Int32) (0 : Int32) .unset w_PRODUCE cl (0 : Int32) X1 hx hZ hw hby hml hown e1 Ar (inb_of Sz ⟨by decide, by decide⟩) hat0 One.u K_PRODUCE (by decide) hc0.symm
    obtain ⟨fs, hr, hrun, hended, hW, hsame⟩ := X2.leave (v := some (.ref w_PRODUCE)) (fun h => by rw [Bd.returns] at h; cases h) (BodyLoose.notSynchronized Bd)
    refine ⟨_, _, pre0 _ ?_, hrun, hended, _, _, rfl, ⟨by unfold own_f2; rw [if_pos hc0], N0, e2⟩, ⟨_, rfl⟩, hW, hsame.mono (by decide) (by decide)⟩
    refine st1 _ ?_
    refine st2 _ ?_
    show Steps p.tables e below (T2.setTop (mkF m 28 #[.val (.int p1), .val (.ref wA), .val (.int (5 : Int32)), .val (.int (0 : Int32)), .val (.ref w_PRODUCE)] [])) _
    refine XS.aload X2.here hx rfl (hb hby d1_28) rfl rfl ?_
    show Steps p.tables e below (T2.setTop (mkF m 30 #[.val (.int p1), .val (.ref wA), .val (.int (5 : Int32)), .val (.int (0 : Int32)), .val (.ref w_PRODUCE)] [(.ref w_PRODUCE)])) _
    jvm_step X2.here [X2.here.top, hx, (hb hby d1_30), X2.method', Bd.returns, Value.isRef, FieldType.isReference]
    first | (intro acts; rw [hr _ acts rfl rfl rfl]) | rw [hr _ _ rfl rfl rfl]
    exact Steps.refl _
  · by_cases hc1 : p1 = (1 : Int32)
    · obtain ⟨T1, X1, e1, st1⟩ := own_in (.val (.int p1)) .unset .unset .unset .unset wA cl (5 : Int32) X0 hx hZ hw hby hml hown e0 S_ALL One.u Ar Sz (by decide) One.u One.u
      obtain ⟨T2, X2, e2, st2⟩ := own_turn p1 wA (5 : Int32) (0 : Int32) .unset w_PRODUCE cl (0 : Int32) X1 hx hZ hw hby hml hown e1 Ar (inb_of Sz ⟨by decide, by decide⟩) hat0 One.u K_PRODUCE (by decide) (fun q => hc0 q.symm)
      obtain ⟨T3, X3, e3, st3⟩ := own_hit p1 wA (5 : Int32) ((0 : Int32) + (1 : Int32)) (.val (.ref w_PRODUCE)) w_FETCH cl (1 : Int32) X2 hx hZ hw hby hml hown e2 Ar (inb_of Sz ⟨by decide, by decide⟩) hat1 (One.val rfl) K_FETCH (by decide) hc1.symm
      obtain ⟨fs, hr, hrun, hended, hW, hsame⟩ := X3.leave (v := some (.ref w_FETCH)) (fun h => by rw [Bd.returns] at h; cases h) (BodyLoose.notSynchronized Bd)
      refine ⟨_, _, pre0 _ ?_, hrun, hended, _, _, rfl, ⟨by unfold own_f2; rw [if_neg hc0, if_pos hc1], N0, e3⟩, ⟨_, rfl⟩, hW, hsame.mono (by decide) (by decide)⟩
      refine st1 _ ?_
      refine st2 _ ?_
      refine st3 _ ?_
      show Steps p.tables e below (T3.setTop (mkF m 28 #[.val (.int p1), .val (.ref wA), .val (.int (5 : Int32)), .val (.int ((0 : Int32) + (1 : Int32))), .val (.ref w_FETCH)] [])) _
      refine XS.aload X3.here hx rfl (hb hby d1_28) rfl rfl ?_
      show Steps p.tables e below (T3.setTop (mkF m 30 #[.val (.int p1), .val (.ref wA), .val (.int (5 : Int32)), .val (.int ((0 : Int32) + (1 : Int32))), .val (.ref w_FETCH)] [(.ref w_FETCH)])) _
      jvm_step X3.here [X3.here.top, hx, (hb hby d1_30), X3.method', Bd.returns, Value.isRef, FieldType.isReference]
      first | (intro acts; rw [hr _ acts rfl rfl rfl]) | rw [hr _ _ rfl rfl rfl]
      exact Steps.refl _
    · by_cases hc2 : p1 = (2 : Int32)
      · obtain ⟨T1, X1, e1, st1⟩ := own_in (.val (.int p1)) .unset .unset .unset .unset wA cl (5 : Int32) X0 hx hZ hw hby hml hown e0 S_ALL One.u Ar Sz (by decide) One.u One.u
        obtain ⟨T2, X2, e2, st2⟩ := own_turn p1 wA (5 : Int32) (0 : Int32) .unset w_PRODUCE cl (0 : Int32) X1 hx hZ hw hby hml hown e1 Ar (inb_of Sz ⟨by decide, by decide⟩) hat0 One.u K_PRODUCE (by decide) (fun q => hc0 q.symm)
        obtain ⟨T3, X3, e3, st3⟩ := own_turn p1 wA (5 : Int32) ((0 : Int32) + (1 : Int32)) (.val (.ref w_PRODUCE)) w_FETCH cl (1 : Int32) X2 hx hZ hw hby hml hown e2 Ar (inb_of Sz ⟨by decide, by decide⟩) hat1 (One.val rfl) K_FETCH (by decide) (fun q => hc1 q.symm)
        obtain ⟨T4, X4, e4, st4⟩ := own_hit p1 wA (5 : Int32) (((0 : Int32) + (1 : Int32)) + (1 : Int32)) (.val (.ref w_FETCH)) w_LIST_OFFSETS cl (2 : Int32) X3 hx hZ hw hby hml hown e3 Ar (inb_of Sz ⟨by decide, by decide⟩) hat2 (One.val rfl) K_LIST_OFFSETS (by decide) hc2.symm
        obtain ⟨fs, hr, hrun, hended, hW, hsame⟩ := X4.leave (v := some (.ref w_LIST_OFFSETS)) (fun h => by rw [Bd.returns] at h; cases h) (BodyLoose.notSynchronized Bd)
        refine ⟨_, _, pre0 _ ?_, hrun, hended, _, _, rfl, ⟨by unfold own_f2; rw [if_neg hc0, if_neg hc1, if_pos hc2], N0, e4⟩, ⟨_, rfl⟩, hW, hsame.mono (by decide) (by decide)⟩
        refine st1 _ ?_
        refine st2 _ ?_
        refine st3 _ ?_
        refine st4 _ ?_
        show Steps p.tables e below (T4.setTop (mkF m 28 #[.val (.int p1), .val (.ref wA), .val (.int (5 : Int32)), .val (.int (((0 : Int32) + (1 : Int32)) + (1 : Int32))), .val (.ref w_LIST_OFFSETS)] [])) _
        refine XS.aload X4.here hx rfl (hb hby d1_28) rfl rfl ?_
        show Steps p.tables e below (T4.setTop (mkF m 30 #[.val (.int p1), .val (.ref wA), .val (.int (5 : Int32)), .val (.int (((0 : Int32) + (1 : Int32)) + (1 : Int32))), .val (.ref w_LIST_OFFSETS)] [(.ref w_LIST_OFFSETS)])) _
        jvm_step X4.here [X4.here.top, hx, (hb hby d1_30), X4.method', Bd.returns, Value.isRef, FieldType.isReference]
        first | (intro acts; rw [hr _ acts rfl rfl rfl]) | rw [hr _ _ rfl rfl rfl]
        exact Steps.refl _
      · by_cases hc3 : p1 = (3 : Int32)
        · obtain ⟨T1, X1, e1, st1⟩ := own_in (.val (.int p1)) .unset .unset .unset .unset wA cl (5 : Int32) X0 hx hZ hw hby hml hown e0 S_ALL One.u Ar Sz (by decide) One.u One.u
          obtain ⟨T2, X2, e2, st2⟩ := own_turn p1 wA (5 : Int32) (0 : Int32) .unset w_PRODUCE cl (0 : Int32) X1 hx hZ hw hby hml hown e1 Ar (inb_of Sz ⟨by decide, by decide⟩) hat0 One.u K_PRODUCE (by decide) (fun q => hc0 q.symm)
          obtain ⟨T3, X3, e3, st3⟩ := own_turn p1 wA (5 : Int32) ((0 : Int32) + (1 : Int32)) (.val (.ref w_PRODUCE)) w_FETCH cl (1 : Int32) X2 hx hZ hw hby hml hown e2 Ar (inb_of Sz ⟨by decide, by decide⟩) hat1 (One.val rfl) K_FETCH (by decide) (fun q => hc1 q.symm)
          obtain ⟨T4, X4, e4, st4⟩ := own_turn p1 wA (5 : Int32) (((0 : Int32) + (1 : Int32)) + (1 : Int32)) (.val (.ref w_FETCH)) w_LIST_OFFSETS cl (2 : Int32) X3 hx hZ hw hby hml hown e3 Ar (inb_of Sz ⟨by decide, by decide⟩) hat2 (One.val rfl) K_LIST_OFFSETS (by decide) (fun q => hc2 q.symm)
          obtain ⟨T5, X5, e5, st5⟩ := own_hit p1 wA (5 : Int32) ((((0 : Int32) + (1 : Int32)) + (1 : Int32)) + (1 : Int32)) (.val (.ref w_LIST_OFFSETS)) w_METADATA cl (3 : Int32) X4 hx hZ hw hby hml hown e4 Ar (inb_of Sz ⟨by decide, by decide⟩) hat3 (One.val rfl) K_METADATA (by decide) hc3.symm
          obtain ⟨fs, hr, hrun, hended, hW, hsame⟩ := X5.leave (v := some (.ref w_METADATA)) (fun h => by rw [Bd.returns] at h; cases h) (BodyLoose.notSynchronized Bd)
          refine ⟨_, _, pre0 _ ?_, hrun, hended, _, _, rfl, ⟨by unfold own_f2; rw [if_neg hc0, if_neg hc1, if_neg hc2, if_pos hc3], N0, e5⟩, ⟨_, rfl⟩, hW, hsame.mono (by decide) (by decide)⟩
          refine st1 _ ?_
          refine st2 _ ?_
          refine st3 _ ?_
          refine st4 _ ?_
          refine st5 _ ?_
          show Steps p.tables e below (T5.setTop (mkF m 28 #[.val (.int p1), .val (.ref wA), .val (.int (5 : Int32)), .val (.int ((((0 : Int32) + (1 : Int32)) + (1 : Int32)) + (1 : Int32))), .val (.ref w_METADATA)] [])) _
          refine XS.aload X5.here hx rfl (hb hby d1_28) rfl rfl ?_
          show Steps p.tables e below (T5.setTop (mkF m 30 #[.val (.int p1), .val (.ref wA), .val (.int (5 : Int32)), .val (.int ((((0 : Int32) + (1 : Int32)) + (1 : Int32)) + (1 : Int32))), .val (.ref w_METADATA)] [(.ref w_METADATA)])) _
          jvm_step X5.here [X5.here.top, hx, (hb hby d1_30), X5.method', Bd.returns, Value.isRef, FieldType.isReference]
          first | (intro acts; rw [hr _ acts rfl rfl rfl]) | rw [hr _ _ rfl rfl rfl]
          exact Steps.refl _
        · by_cases hc4 : p1 = (18 : Int32)
          · obtain ⟨T1, X1, e1, st1⟩ := own_in (.val (.int p1)) .unset .unset .unset .unset wA cl (5 : Int32) X0 hx hZ hw hby hml hown e0 S_ALL One.u Ar Sz (by decide) One.u One.u
            obtain ⟨T2, X2, e2, st2⟩ := own_turn p1 wA (5 : Int32) (0 : Int32) .unset w_PRODUCE cl (0 : Int32) X1 hx hZ hw hby hml hown e1 Ar (inb_of Sz ⟨by decide, by decide⟩) hat0 One.u K_PRODUCE (by decide) (fun q => hc0 q.symm)
            obtain ⟨T3, X3, e3, st3⟩ := own_turn p1 wA (5 : Int32) ((0 : Int32) + (1 : Int32)) (.val (.ref w_PRODUCE)) w_FETCH cl (1 : Int32) X2 hx hZ hw hby hml hown e2 Ar (inb_of Sz ⟨by decide, by decide⟩) hat1 (One.val rfl) K_FETCH (by decide) (fun q => hc1 q.symm)
            obtain ⟨T4, X4, e4, st4⟩ := own_turn p1 wA (5 : Int32) (((0 : Int32) + (1 : Int32)) + (1 : Int32)) (.val (.ref w_FETCH)) w_LIST_OFFSETS cl (2 : Int32) X3 hx hZ hw hby hml hown e3 Ar (inb_of Sz ⟨by decide, by decide⟩) hat2 (One.val rfl) K_LIST_OFFSETS (by decide) (fun q => hc2 q.symm)
            obtain ⟨T5, X5, e5, st5⟩ := own_turn p1 wA (5 : Int32) ((((0 : Int32) + (1 : Int32)) + (1 : Int32)) + (1 : Int32)) (.val (.ref w_LIST_OFFSETS)) w_METADATA cl (3 : Int32) X4 hx hZ hw hby hml hown e4 Ar (inb_of Sz ⟨by decide, by decide⟩) hat3 (One.val rfl) K_METADATA (by decide) (fun q => hc3 q.symm)
            obtain ⟨T6, X6, e6, st6⟩ := own_hit p1 wA (5 : Int32) (((((0 : Int32) + (1 : Int32)) + (1 : Int32)) + (1 : Int32)) + (1 : Int32)) (.val (.ref w_METADATA)) w_API_VERSIONS cl (18 : Int32) X5 hx hZ hw hby hml hown e5 Ar (inb_of Sz ⟨by decide, by decide⟩) hat4 (One.val rfl) K_API_VERSIONS (by decide) hc4.symm
            obtain ⟨fs, hr, hrun, hended, hW, hsame⟩ := X6.leave (v := some (.ref w_API_VERSIONS)) (fun h => by rw [Bd.returns] at h; cases h) (BodyLoose.notSynchronized Bd)
            refine ⟨_, _, pre0 _ ?_, hrun, hended, _, _, rfl, ⟨by unfold own_f2; rw [if_neg hc0, if_neg hc1, if_neg hc2, if_neg hc3, if_pos hc4], N0, e6⟩, ⟨_, rfl⟩, hW, hsame.mono (by decide) (by decide)⟩
            refine st1 _ ?_
            refine st2 _ ?_
            refine st3 _ ?_
            refine st4 _ ?_
            refine st5 _ ?_
            refine st6 _ ?_
            show Steps p.tables e below (T6.setTop (mkF m 28 #[.val (.int p1), .val (.ref wA), .val (.int (5 : Int32)), .val (.int (((((0 : Int32) + (1 : Int32)) + (1 : Int32)) + (1 : Int32)) + (1 : Int32))), .val (.ref w_API_VERSIONS)] [])) _
            refine XS.aload X6.here hx rfl (hb hby d1_28) rfl rfl ?_
            show Steps p.tables e below (T6.setTop (mkF m 30 #[.val (.int p1), .val (.ref wA), .val (.int (5 : Int32)), .val (.int (((((0 : Int32) + (1 : Int32)) + (1 : Int32)) + (1 : Int32)) + (1 : Int32))), .val (.ref w_API_VERSIONS)] [(.ref w_API_VERSIONS)])) _
            jvm_step X6.here [X6.here.top, hx, (hb hby d1_30), X6.method', Bd.returns, Value.isRef, FieldType.isReference]
            first | (intro acts; rw [hr _ acts rfl rfl rfl]) | rw [hr _ _ rfl rfl rfl]
            exact Steps.refl _
          · obtain ⟨T1, X1, e1, st1⟩ := own_in (.val (.int p1)) .unset .unset .unset .unset wA cl (5 : Int32) X0 hx hZ hw hby hml hown e0 S_ALL One.u Ar Sz (by decide) One.u One.u
            obtain ⟨T2, X2, e2, st2⟩ := own_turn p1 wA (5 : Int32) (0 : Int32) .unset w_PRODUCE cl (0 : Int32) X1 hx hZ hw hby hml hown e1 Ar (inb_of Sz ⟨by decide, by decide⟩) hat0 One.u K_PRODUCE (by decide) (fun q => hc0 q.symm)
            obtain ⟨T3, X3, e3, st3⟩ := own_turn p1 wA (5 : Int32) ((0 : Int32) + (1 : Int32)) (.val (.ref w_PRODUCE)) w_FETCH cl (1 : Int32) X2 hx hZ hw hby hml hown e2 Ar (inb_of Sz ⟨by decide, by decide⟩) hat1 (One.val rfl) K_FETCH (by decide) (fun q => hc1 q.symm)
            obtain ⟨T4, X4, e4, st4⟩ := own_turn p1 wA (5 : Int32) (((0 : Int32) + (1 : Int32)) + (1 : Int32)) (.val (.ref w_FETCH)) w_LIST_OFFSETS cl (2 : Int32) X3 hx hZ hw hby hml hown e3 Ar (inb_of Sz ⟨by decide, by decide⟩) hat2 (One.val rfl) K_LIST_OFFSETS (by decide) (fun q => hc2 q.symm)
            obtain ⟨T5, X5, e5, st5⟩ := own_turn p1 wA (5 : Int32) ((((0 : Int32) + (1 : Int32)) + (1 : Int32)) + (1 : Int32)) (.val (.ref w_LIST_OFFSETS)) w_METADATA cl (3 : Int32) X4 hx hZ hw hby hml hown e4 Ar (inb_of Sz ⟨by decide, by decide⟩) hat3 (One.val rfl) K_METADATA (by decide) (fun q => hc3 q.symm)
            obtain ⟨T6, X6, e6, st6⟩ := own_turn p1 wA (5 : Int32) (((((0 : Int32) + (1 : Int32)) + (1 : Int32)) + (1 : Int32)) + (1 : Int32)) (.val (.ref w_METADATA)) w_API_VERSIONS cl (18 : Int32) X5 hx hZ hw hby hml hown e5 Ar (inb_of Sz ⟨by decide, by decide⟩) hat4 (One.val rfl) K_API_VERSIONS (by decide) (fun q => hc4 q.symm)
            obtain ⟨T7, X7, e7, st7⟩ := own_out (.val (.int p1)) (.val (.ref wA)) (5 : Int32) ((((((0 : Int32) + (1 : Int32)) + (1 : Int32)) + (1 : Int32)) + (1 : Int32)) + (1 : Int32)) (.val (.ref w_API_VERSIONS)) X6 hx hZ hw hby hml hown e6 (by decide)
            obtain ⟨fs, hr, hrun, hended, hW, hsame⟩ := X7.leave (v := some .null) (fun h => by rw [Bd.returns] at h; cases h) (BodyLoose.notSynchronized Bd)
            refine ⟨_, _, pre0 _ ?_, hrun, hended, _, _, rfl, ⟨by unfold own_f2; rw [if_neg hc0, if_neg hc1, if_neg hc2, if_neg hc3, if_neg hc4], N0, e7⟩, ⟨_, rfl⟩, hW, hsame.mono (by decide) (by decide)⟩
            refine st1 _ ?_
            refine st2 _ ?_
            refine st3 _ ?_
            refine st4 _ ?_
            refine st5 _ ?_
            refine st6 _ ?_
            refine st7 _ ?_
            show Steps p.tables e below (T7.setTop (mkF m 37 #[.val (.int p1), .val (.ref wA), .val (.int (5 : Int32)), .val (.int ((((((0 : Int32) + (1 : Int32)) + (1 : Int32)) + (1 : Int32)) + (1 : Int32)) + (1 : Int32))), .val (.ref w_API_VERSIONS)] [])) _
            refine XS.aconstNull X7.here hx rfl (hb hby d1_37) ?_
            show Steps p.tables e below (T7.setTop (mkF m 38 #[.val (.int p1), .val (.ref wA), .val (.int (5 : Int32)), .val (.int ((((((0 : Int32) + (1 : Int32)) + (1 : Int32)) + (1 : Int32)) + (1 : Int32)) + (1 : Int32))), .val (.ref w_API_VERSIONS)] [.null])) _
            jvm_step X7.here [X7.here.top, hx, (hb hby d1_38), X7.method', Bd.returns, Value.isRef, FieldType.isReference]
            first | (intro acts; rw [hr _ acts rfl rfl rfl]) | rw [hr _ _ rfl rfl rfl]
            exact Steps.refl _
def Q0 (Z : State) (h0 : Heap) (n0 : Nat) (v : Option Value) (h : Heap) (L : List Loc) : Prop := v = some (.int (1 : Int32)) ∧ Fr n0 L
theorem pn_0 : plainName "com/example/recordframe/recordframe/server/ApiOfPinLaw" = true := by first | (simp [plainName, overriddenIn]; done) | decide +kernel
theorem pd_0_0 : parseMethodDescriptor "(S)Lcom/example/recordframe/recordframe/server/Api;" = some ⟨[.short], some (.object "com/example/recordframe/recordframe/server/Api")⟩ := by decide +kernel
theorem ef_0 (m : MethodId) (x0 : Int32) (x1 : Int32) : entryFrame m #[(.int x0), (.int x1)] maxLocals = mkF m 0 #[.val (.int x0), .val (.int x1), .unset, .unset] [] := by first | (simp [entryFrame, mkF, argsToLocals, Value.category, maxLocals]; done) | rfl
set_option maxRecDepth 65536 in
set_option maxHeartbeats 40000000 in
theorem rm0_t0 (l : Launch) (Z : State) (a0 : Array Value) (hw : ∀ d ∈ tables_1, d.before a0 Z = true) (ws : List Jvm.Cond) (p1 : Int32) (p2 : Int32) (w_API_VERSIONS : Addr) (w_METADATA : Addr) (w_LIST_OFFSETS : Addr) (w_FETCH : Addr) (w_PRODUCE : Addr) (wA : Addr) (cl : Cell) (rv : Addr) (h0 : Heap) (n0 : Nat) (Z0 : n0 ≤ h0.size) (S_ALL : Sta Z h0 "com/example/recordframe/recordframe/server/Api" "ALL" "[Lcom/example/recordframe/recordframe/server/Api;" (.ref wA)) (Ar : Arr Z h0 wA cl (.object "com/example/recordframe/recordframe/server/Api")) (Sz : cl.slots.size = (5 : Int32).toNatClampNeg) (hat0 : cl.slots[0]? = some (.ref w_PRODUCE)) (hat1 : cl.slots[1]? = some (.ref w_FETCH)) (hat2 : cl.slots[2]? = some (.ref w_LIST_OFFSETS)) (hat3 : cl.slots[3]? = some (.ref w_METADATA)) (hat4 : cl.slots[4]? = some (.ref w_API_VERSIONS)) (K_PRODUCE : Fld Z h0 w_PRODUCE "com/example/recordframe/recordframe/server/Api" "key" "S" (.int (0 : Int32))) (K_FETCH : Fld Z h0 w_FETCH "com/example/recordframe/recordframe/server/Api" "key" "S" (.int (1 : Int32))) (K_LIST_OFFSETS : Fld Z h0 w_LIST_OFFSETS "com/example/recordframe/recordframe/server/Api" "key" "S" (.int (2 : Int32))) (K_METADATA : Fld Z h0 w_METADATA "com/example/recordframe/recordframe/server/Api" "key" "S" (.int (3 : Int32))) (K_API_VERSIONS : Fld Z h0 w_API_VERSIONS "com/example/recordframe/recordframe/server/Api" "key" "S" (.int (18 : Int32))) (S_PRODUCE : Sta Z h0 "com/example/recordframe/recordframe/server/Api" "PRODUCE" "Lcom/example/recordframe/recordframe/server/Api;" (.ref w_PRODUCE)) (S_FETCH : Sta Z h0 "com/example/recordframe/recordframe/server/Api" "FETCH" "Lcom/example/recordframe/recordframe/server/Api;" (.ref w_FETCH)) (S_LIST_OFFSETS : Sta Z h0 "com/example/recordframe/recordframe/server/Api" "LIST_OFFSETS" "Lcom/example/recordframe/recordframe/server/Api;" (.ref w_LIST_OFFSETS)) (S_METADATA : Sta Z h0 "com/example/recordframe/recordframe/server/Api" "METADATA" "Lcom/example/recordframe/recordframe/server/Api;" (.ref w_METADATA)) (S_API_VERSIONS : Sta Z h0 "com/example/recordframe/recordframe/server/Api" "API_VERSIONS" "Lcom/example/recordframe/recordframe/server/Api;" (.ref w_API_VERSIONS)) (hv : own_f2 (p1.toInt16.toInt32) w_API_VERSIONS w_METADATA w_LIST_OFFSETS w_FETCH w_PRODUCE = Value.ref rv) (hc3 : (p2 &&& (1 : Int32)) = (0 : Int32)) :
    MetFree l x (head1 (Jvm.Cond.code x code maxLocals ret :: ws) room_1) (fun a U => a = #[(.int p1), (.int p2)] ∧ Z.Warmed39 U.vm ∧ U.heap = h0) (fun _ _ _ _ _ => True) (fun _ U o U' => ∃ v L, o = .returned v ∧ Q0 Z h0 n0 v U'.heap L ∧ FrameEnd U o U' L room_1.cells room_1.slots) := by
  refine MetFree.of_bodySF (plainFor_of_name pn_0) hisR ?_
  intro p e s m args below meth c s₁ Bd hml0 hP hK
  obtain ⟨rfl, hZ, hh⟩ := hP
  have hx := Bd.exec
  have hby := Bd.bytes
  have hml : c.maxLocals = 4 := hml0
  have hown : s.vm.findClass "com/example/recordframe/recordframe/server/ApiOfPinLaw" = some m.cls := findClass_of_methodNamed Bd.named
  have hnm := (name_of_methodNamed Bd.named Bd.method).1
  have X0 : Stand p l e room_1 s m #[(.int p1), (.int p2)] below meth c s₁ [] 0 0 := Stand.of_body Bd
  have e0 : s₁.heap = h0 := by rw [← hh, Bd.state]; rfl
  have N0 := Fr.nil n0
  have pre0 : ∀ t, Steps p.tables e below (s₁.setTop (mkF m 0 #[.val (.int p1), .val (.int p2), .unset, .unset] [])) t → Steps p.tables e below (s₁.setTop (entryFrame m #[(.int p1), (.int p2)] maxLocals)) t := fun t k => castTop (ef_0 m p1 p2) k
  -- 3. LAWS
  -- pc 19: com/example/recordframe/recordframe/server/Api.of by its contract rm1
  obtain ⟨_, _, ⟨T3, L3, k3, n3⟩, -, X3, ⟨Lc3, hQ3, l3, y3, z3⟩, st3⟩ := Jvm.LawKit.callS X0 hx (y := (⟨"com/example/recordframe/recordframe/server/Api", "of", "(S)Lcom/example/recordframe/recordframe/server/Api;"⟩ : MethodName)) hown (mvT hZ (hw _ (List.mem_of_getElem? (i := 0) rfl))) (mvT hZ (hw _ (List.mem_of_getElem? (i := 1) rfl))) (mvT hZ (hw _ (List.mem_of_getElem? (i := 2) rfl))) (mvT hZ (hw _ (List.mem_of_getElem? (i := 3) rfl))) (by decide) (backOf (W := 0) (rm1 l Z a0 hw [] (p1.toInt16.toInt32) w_API_VERSIONS w_METADATA w_LIST_OFFSETS w_FETCH w_PRODUCE wA cl h0 n0 Z0 S_ALL Ar Sz hat0 hat1 hat2 hat3 hat4 K_PRODUCE K_FETCH K_LIST_OFFSETS K_METADATA K_API_VERSIONS) hZ (hw _ (List.mem_of_getElem? (i := 3) rfl)) (hw _ (List.mem_of_getElem? (i := 2) rfl)) (by decide) (by decide)) (g := (mkF m 19 #[.val (.int p1), .val (.int p2), .val (.int (p1.toInt16.toInt32)), .unset] [(.int (p1.toInt16.toInt32))])) rfl (by rw [hml]; rfl) (argsL := [(.int (p1.toInt16.toInt32))]) (rest := []) (lenOf pd_0_0 rfl) rfl (by show 2 * 0 + _ ≤ _; exact Nat.le_of_eq rfl) (hb hby at_19) (fun _ _ => ⟨rfl, e0, (by decide : 0 + 0 ≤ _), (by decide : 0 + 0 ≤ _)⟩)
  dsimp only [Pt.U, Pt.locs, Pt.cells, Pt.slots] at X3 l3 y3 z3 st3 hQ3
  subst l3 y3 z3
  obtain ⟨rfl, N3q, e3q⟩ := hQ3
  rw [hv] at st3
  have N3 := Fr.app N0 N3q
  have K3q : Keep h0 T3.heap [] := own_keep e3q
  have KH3 : Keep h0 T3.heap [] := (Keep.refl h0 []).trans K3q own_ws0
  have eh3 : T3.heap = h0 := by rw [e3q]
  -- pc 25: com/example/recordframe/recordframe/server/ApiOfPinLaw.expected by its contract rm2
  obtain ⟨_, _, ⟨T4, L4, k4, n4⟩, -, X4, ⟨Lc4, hQ4, l4, y4, z4⟩, st4⟩ := Jvm.LawKit.callS X3 hx (y := (⟨"com/example/recordframe/recordframe/server/ApiOfPinLaw", "expected", "(S)Lcom/example/recordframe/recordframe/server/Api;"⟩ : MethodName)) hown (mvT hZ (hw _ (List.mem_of_getElem? (i := 9) rfl))) (mvT hZ (hw _ (List.mem_of_getElem? (i := 10) rfl))) (mvT hZ (hw _ (List.mem_of_getElem? (i := 11) rfl))) (mvT hZ (hw _ (List.mem_of_getElem? (i := 12) rfl))) (by decide) (backOf (W := 1) (rm2 l Z a0 hw [] (p1.toInt16.toInt32) w_API_VERSIONS w_METADATA w_LIST_OFFSETS w_FETCH w_PRODUCE T3.heap n0 (Nat.le_trans Z0 KH3.1) (by rw [e3q]; exact S_API_VERSIONS) (by rw [e3q]; exact S_METADATA) (by rw [e3q]; exact S_LIST_OFFSETS) (by rw [e3q]; exact S_FETCH) (by rw [e3q]; exact S_PRODUCE)) hZ (hw _ (List.mem_of_getElem? (i := 12) rfl)) (hw _ (List.mem_of_getElem? (i := 11) rfl)) (by decide) (by decide)) (g := (mkF m 25 #[.val (.int p1), .val (.int p2), .val (.int (p1.toInt16.toInt32)), .val (.ref rv)] [(.int (p1.toInt16.toInt32)), (.ref rv)])) rfl (by rw [hml]; rfl) (argsL := [(.int (p1.toInt16.toInt32))]) (rest := [(.ref rv)]) (lenOf pd_0_0 rfl) rfl (by show 2 * 0 + _ ≤ _; exact Nat.le_of_eq rfl) (hb hby at_25) (fun _ _ => ⟨rfl, rfl, (by decide : 0 + 0 ≤ _), (by decide : 0 + 0 ≤ _)⟩)
  dsimp only [Pt.U, Pt.locs, Pt.cells, Pt.slots] at X4 l4 y4 z4 st4 hQ4
  subst l4 y4 z4
  obtain ⟨rfl, N4q, e4q⟩ := hQ4
  rw [hv] at st4
  have N4 := Fr.app N3 N4q
  have K4q : Keep T3.heap T4.heap [] := own_keep e4q
  have KH4 : Keep h0 T4.heap [] := KH3.trans K4q own_ws0
  have eh4 : T4.heap = h0 := by rw [e4q]; exact eh3
  obtain ⟨fs, hr, hrun, hended, hW, hsame⟩ := X4.leave (v := some (.int (1 : Int32))) (fun h => by rw [Bd.returns] at h; cases h) (BodyLoose.notSynchronized Bd)
  refine ⟨_, _, pre0 _ ?_, hrun, hended, _, _, rfl, ?_, ⟨_, rfl⟩, hW, hsame.mono (by decide) (by decide)⟩
  -- 4. STEPS
  · show Steps p.tables e below (s₁.setTop (mkF m 0 #[.val (.int p1), .val (.int p2), .unset, .unset] [])) _
    refine XS.iloadN X0.here hx rfl (hb hby at_0) rfl ?_
    show Steps p.tables e below (s₁.setTop (mkF m 1 #[.val (.int p1), .val (.int p2), .unset, .unset] [(.int p2)])) _
    refine XS.iconst X0.here hx rfl (hb hby at_1) ?_
    show Steps p.tables e below (s₁.setTop (mkF m 2 #[.val (.int p1), .val (.int p2), .unset, .unset] [(.int (1 : Int32)), (.int p2)])) _
    refine XS.iand X0.here hx rfl (hb hby at_2) rfl ?_
    show Steps p.tables e below (s₁.setTop (mkF m 3 #[.val (.int p1), .val (.int p2), .unset, .unset] [(.int (p2 &&& (1 : Int32)))])) _
    refine XS.ifYes X0.here hx rfl (pc0 := 3) (pc' := 15) rfl (hb hby at_3) rfl ((if0 _ _).trans (teq hc3).1) (by decide) (by decide) ?_
    show Steps p.tables e below (s₁.setTop (mkF m 15 #[.val (.int p1), .val (.int p2), .unset, .unset] [])) _
    refine XS.iloadN X0.here hx rfl (hb hby at_15) rfl ?_
    show Steps p.tables e below (s₁.setTop (mkF m 16 #[.val (.int p1), .val (.int p2), .unset, .unset] [(.int p1)])) _
    refine XS.i2s X0.here hx rfl (hb hby at_16) rfl ?_
    show Steps p.tables e below (s₁.setTop (mkF m 17 #[.val (.int p1), .val (.int p2), .unset, .unset] [(.int (p1.toInt16.toInt32))])) _
    refine XS.istoreN X0.here hx rfl (hb hby at_17) rfl (l' := #[.val (.int p1), .val (.int p2), .val (.int (p1.toInt16.toInt32)), .unset]) rfl ?_
    show Steps p.tables e below (s₁.setTop (mkF m 18 #[.val (.int p1), .val (.int p2), .val (.int (p1.toInt16.toInt32)), .unset] [])) _
    refine XS.iloadN X0.here hx rfl (hb hby at_18) rfl ?_
    show Steps p.tables e below (s₁.setTop (mkF m 19 #[.val (.int p1), .val (.int p2), .val (.int (p1.toInt16.toInt32)), .unset] [(.int (p1.toInt16.toInt32))])) _
    refine st3 _ ?_
    show Steps p.tables e below (T3.setTop (mkF m 22 #[.val (.int p1), .val (.int p2), .val (.int (p1.toInt16.toInt32)), .unset] [(.ref rv)])) _
    refine XS.astoreN X3.here hx rfl (hb hby at_22) rfl rfl (l' := #[.val (.int p1), .val (.int p2), .val (.int (p1.toInt16.toInt32)), .val (.ref rv)]) rfl ?_
    show Steps p.tables e below (T3.setTop (mkF m 23 #[.val (.int p1), .val (.int p2), .val (.int (p1.toInt16.toInt32)), .val (.ref rv)] [])) _
    refine XS.aloadN X3.here hx rfl (hb hby at_23) rfl rfl ?_
    show Steps p.tables e below (T3.setTop (mkF m 24 #[.val (.int p1), .val (.int p2), .val (.int (p1.toInt16.toInt32)), .val (.ref rv)] [(.ref rv)])) _
    refine XS.iloadN X3.here hx rfl (hb hby at_24) rfl ?_
    show Steps p.tables e below (T3.setTop (mkF m 25 #[.val (.int p1), .val (.int p2), .val (.int (p1.toInt16.toInt32)), .val (.ref rv)] [(.int (p1.toInt16.toInt32)), (.ref rv)])) _
    refine st4 _ ?_
    show Steps p.tables e below (T4.setTop (mkF m 28 #[.val (.int p1), .val (.int p2), .val (.int (p1.toInt16.toInt32)), .val (.ref rv)] [(.ref rv), (.ref rv)])) _
    refine Jvm.RoadKit.acmp (g := (mkF m 28 #[.val (.int p1), .val (.int p2), .val (.int (p1.toInt16.toInt32)), .val (.ref rv)] [(.ref rv), (.ref rv)])) X4 hx rfl rfl rfl (pc0 := 28) (pc' := 31) (same := true) rfl (hb hby at_28) rfl (decide_eq_true rfl) (by decide) (by decide) ?_
    show Steps p.tables e below (T4.setTop (mkF m 31 #[.val (.int p1), .val (.int p2), .val (.int (p1.toInt16.toInt32)), .val (.ref rv)] [])) _
    refine XS.iconst X4.here hx rfl (hb hby at_31) ?_
    show Steps p.tables e below (T4.setTop (mkF m 32 #[.val (.int p1), .val (.int p2), .val (.int (p1.toInt16.toInt32)), .val (.ref rv)] [(.int (1 : Int32))])) _
    refine XS.goto X4.here hx rfl (pc0 := 32) (pc' := 36) rfl (hb hby at_32) (by decide) (by decide) ?_
    show Steps p.tables e below (T4.setTop (mkF m 36 #[.val (.int p1), .val (.int p2), .val (.int (p1.toInt16.toInt32)), .val (.ref rv)] [(.int (1 : Int32))])) _
    exact retN X4 hx (t := .boolean) Bd.returns (by simp) (hb hby at_36) hr
  · show Q0 Z h0 n0 _ T4.heap _
    exact ⟨rfl, N4⟩
set_option maxRecDepth 65536 in
set_option maxHeartbeats 40000000 in
theorem rm0_t1 (l : Launch) (Z : State) (a0 : Array Value) (hw : ∀ d ∈ tables_1, d.before a0 Z = true) (ws : List Jvm.Cond) (p1 : Int32) (p2 : Int32) (w_API_VERSIONS : Addr) (w_METADATA : Addr) (w_LIST_OFFSETS : Addr) (w_FETCH : Addr) (w_PRODUCE : Addr) (wA : Addr) (cl : Cell) (h0 : Heap) (n0 : Nat) (Z0 : n0 ≤ h0.size) (S_ALL : Sta Z h0 "com/example/recordframe/recordframe/server/Api" "ALL" "[Lcom/example/recordframe/recordframe/server/Api;" (.ref wA)) (Ar : Arr Z h0 wA cl (.object "com/example/recordframe/recordframe/server/Api")) (Sz : cl.slots.size = (5 : Int32).toNatClampNeg) (hat0 : cl.slots[0]? = some (.ref w_PRODUCE)) (hat1 : cl.slots[1]? = some (.ref w_FETCH)) (hat2 : cl.slots[2]? = some (.ref w_LIST_OFFSETS)) (hat3 : cl.slots[3]? = some (.ref w_METADATA)) (hat4 : cl.slots[4]? = some (.ref w_API_VERSIONS)) (K_PRODUCE : Fld Z h0 w_PRODUCE "com/example/recordframe/recordframe/server/Api" "key" "S" (.int (0 : Int32))) (K_FETCH : Fld Z h0 w_FETCH "com/example/recordframe/recordframe/server/Api" "key" "S" (.int (1 : Int32))) (K_LIST_OFFSETS : Fld Z h0 w_LIST_OFFSETS "com/example/recordframe/recordframe/server/Api" "key" "S" (.int (2 : Int32))) (K_METADATA : Fld Z h0 w_METADATA "com/example/recordframe/recordframe/server/Api" "key" "S" (.int (3 : Int32))) (K_API_VERSIONS : Fld Z h0 w_API_VERSIONS "com/example/recordframe/recordframe/server/Api" "key" "S" (.int (18 : Int32))) (S_PRODUCE : Sta Z h0 "com/example/recordframe/recordframe/server/Api" "PRODUCE" "Lcom/example/recordframe/recordframe/server/Api;" (.ref w_PRODUCE)) (S_FETCH : Sta Z h0 "com/example/recordframe/recordframe/server/Api" "FETCH" "Lcom/example/recordframe/recordframe/server/Api;" (.ref w_FETCH)) (S_LIST_OFFSETS : Sta Z h0 "com/example/recordframe/recordframe/server/Api" "LIST_OFFSETS" "Lcom/example/recordframe/recordframe/server/Api;" (.ref w_LIST_OFFSETS)) (S_METADATA : Sta Z h0 "com/example/recordframe/recordframe/server/Api" "METADATA" "Lcom/example/recordframe/recordframe/server/Api;" (.ref w_METADATA)) (S_API_VERSIONS : Sta Z h0 "com/example/recordframe/recordframe/server/Api" "API_VERSIONS" "Lcom/example/recordframe/recordframe/server/Api;" (.ref w_API_VERSIONS)) (hv : own_f2 (p1.toInt16.toInt32) w_API_VERSIONS w_METADATA w_LIST_OFFSETS w_FETCH w_PRODUCE = Value.null) (hc3 : (p2 &&& (1 : Int32)) = (0 : Int32)) :
    MetFree l x (head1 (Jvm.Cond.code x code maxLocals ret :: ws) room_1) (fun a U => a = #[(.int p1), (.int p2)] ∧ Z.Warmed39 U.vm ∧ U.heap = h0) (fun _ _ _ _ _ => True) (fun _ U o U' => ∃ v L, o = .returned v ∧ Q0 Z h0 n0 v U'.heap L ∧ FrameEnd U o U' L room_1.cells room_1.slots) := by
  refine MetFree.of_bodySF (plainFor_of_name pn_0) hisR ?_
  intro p e s m args below meth c s₁ Bd hml0 hP hK
  obtain ⟨rfl, hZ, hh⟩ := hP
  have hx := Bd.exec
  have hby := Bd.bytes
  have hml : c.maxLocals = 4 := hml0
  have hown : s.vm.findClass "com/example/recordframe/recordframe/server/ApiOfPinLaw" = some m.cls := findClass_of_methodNamed Bd.named
  have hnm := (name_of_methodNamed Bd.named Bd.method).1
  have X0 : Stand p l e room_1 s m #[(.int p1), (.int p2)] below meth c s₁ [] 0 0 := Stand.of_body Bd
  have e0 : s₁.heap = h0 := by rw [← hh, Bd.state]; rfl
  have N0 := Fr.nil n0
  have pre0 : ∀ t, Steps p.tables e below (s₁.setTop (mkF m 0 #[.val (.int p1), .val (.int p2), .unset, .unset] [])) t → Steps p.tables e below (s₁.setTop (entryFrame m #[(.int p1), (.int p2)] maxLocals)) t := fun t k => castTop (ef_0 m p1 p2) k
  -- 3. LAWS
  -- pc 19: com/example/recordframe/recordframe/server/Api.of by its contract rm1
  obtain ⟨_, _, ⟨T3, L3, k3, n3⟩, -, X3, ⟨Lc3, hQ3, l3, y3, z3⟩, st3⟩ := Jvm.LawKit.callS X0 hx (y := (⟨"com/example/recordframe/recordframe/server/Api", "of", "(S)Lcom/example/recordframe/recordframe/server/Api;"⟩ : MethodName)) hown (mvT hZ (hw _ (List.mem_of_getElem? (i := 0) rfl))) (mvT hZ (hw _ (List.mem_of_getElem? (i := 1) rfl))) (mvT hZ (hw _ (List.mem_of_getElem? (i := 2) rfl))) (mvT hZ (hw _ (List.mem_of_getElem? (i := 3) rfl))) (by decide) (backOf (W := 0) (rm1 l Z a0 hw [] (p1.toInt16.toInt32) w_API_VERSIONS w_METADATA w_LIST_OFFSETS w_FETCH w_PRODUCE wA cl h0 n0 Z0 S_ALL Ar Sz hat0 hat1 hat2 hat3 hat4 K_PRODUCE K_FETCH K_LIST_OFFSETS K_METADATA K_API_VERSIONS) hZ (hw _ (List.mem_of_getElem? (i := 3) rfl)) (hw _ (List.mem_of_getElem? (i := 2) rfl)) (by decide) (by decide)) (g := (mkF m 19 #[.val (.int p1), .val (.int p2), .val (.int (p1.toInt16.toInt32)), .unset] [(.int (p1.toInt16.toInt32))])) rfl (by rw [hml]; rfl) (argsL := [(.int (p1.toInt16.toInt32))]) (rest := []) (lenOf pd_0_0 rfl) rfl (by show 2 * 0 + _ ≤ _; exact Nat.le_of_eq rfl) (hb hby at_19) (fun _ _ => ⟨rfl, e0, (by decide : 0 + 0 ≤ _), (by decide : 0 + 0 ≤ _)⟩)
  dsimp only [Pt.U, Pt.locs, Pt.cells, Pt.slots] at X3 l3 y3 z3 st3 hQ3
  subst l3 y3 z3
  obtain ⟨rfl, N3q, e3q⟩ := hQ3
  rw [hv] at st3
  have N3 := Fr.app N0 N3q
  have K3q : Keep h0 T3.heap [] := own_keep e3q
  have KH3 : Keep h0 T3.heap [] := (Keep.refl h0 []).trans K3q own_ws0
  have eh3 : T3.heap = h0 := by rw [e3q]
  -- pc 25: com/example/recordframe/recordframe/server/ApiOfPinLaw.expected by its contract rm2
  obtain ⟨_, _, ⟨T4, L4, k4, n4⟩, -, X4, ⟨Lc4, hQ4, l4, y4, z4⟩, st4⟩ := Jvm.LawKit.callS X3 hx (y := (⟨"com/example/recordframe/recordframe/server/ApiOfPinLaw", "expected", "(S)Lcom/example/recordframe/recordframe/server/Api;"⟩ : MethodName)) hown (mvT hZ (hw _ (List.mem_of_getElem? (i := 9) rfl))) (mvT hZ (hw _ (List.mem_of_getElem? (i := 10) rfl))) (mvT hZ (hw _ (List.mem_of_getElem? (i := 11) rfl))) (mvT hZ (hw _ (List.mem_of_getElem? (i := 12) rfl))) (by decide) (backOf (W := 1) (rm2 l Z a0 hw [] (p1.toInt16.toInt32) w_API_VERSIONS w_METADATA w_LIST_OFFSETS w_FETCH w_PRODUCE T3.heap n0 (Nat.le_trans Z0 KH3.1) (by rw [e3q]; exact S_API_VERSIONS) (by rw [e3q]; exact S_METADATA) (by rw [e3q]; exact S_LIST_OFFSETS) (by rw [e3q]; exact S_FETCH) (by rw [e3q]; exact S_PRODUCE)) hZ (hw _ (List.mem_of_getElem? (i := 12) rfl)) (hw _ (List.mem_of_getElem? (i := 11) rfl)) (by decide) (by decide)) (g := (mkF m 25 #[.val (.int p1), .val (.int p2), .val (.int (p1.toInt16.toInt32)), .val .null] [(.int (p1.toInt16.toInt32)), .null])) rfl (by rw [hml]; rfl) (argsL := [(.int (p1.toInt16.toInt32))]) (rest := [.null]) (lenOf pd_0_0 rfl) rfl (by show 2 * 0 + _ ≤ _; exact Nat.le_of_eq rfl) (hb hby at_25) (fun _ _ => ⟨rfl, rfl, (by decide : 0 + 0 ≤ _), (by decide : 0 + 0 ≤ _)⟩)
  dsimp only [Pt.U, Pt.locs, Pt.cells, Pt.slots] at X4 l4 y4 z4 st4 hQ4
  subst l4 y4 z4
  obtain ⟨rfl, N4q, e4q⟩ := hQ4
  rw [hv] at st4
  have N4 := Fr.app N3 N4q
  have K4q : Keep T3.heap T4.heap [] := own_keep e4q
  have KH4 : Keep h0 T4.heap [] := KH3.trans K4q own_ws0
  have eh4 : T4.heap = h0 := by rw [e4q]; exact eh3
  obtain ⟨fs, hr, hrun, hended, hW, hsame⟩ := X4.leave (v := some (.int (1 : Int32))) (fun h => by rw [Bd.returns] at h; cases h) (BodyLoose.notSynchronized Bd)
  refine ⟨_, _, pre0 _ ?_, hrun, hended, _, _, rfl, ?_, ⟨_, rfl⟩, hW, hsame.mono (by decide) (by decide)⟩
  -- 4. STEPS
  · show Steps p.tables e below (s₁.setTop (mkF m 0 #[.val (.int p1), .val (.int p2), .unset, .unset] [])) _
    refine XS.iloadN X0.here hx rfl (hb hby at_0) rfl ?_
    show Steps p.tables e below (s₁.setTop (mkF m 1 #[.val (.int p1), .val (.int p2), .unset, .unset] [(.int p2)])) _
    refine XS.iconst X0.here hx rfl (hb hby at_1) ?_
    show Steps p.tables e below (s₁.setTop (mkF m 2 #[.val (.int p1), .val (.int p2), .unset, .unset] [(.int (1 : Int32)), (.int p2)])) _
    refine XS.iand X0.here hx rfl (hb hby at_2) rfl ?_
    show Steps p.tables e below (s₁.setTop (mkF m 3 #[.val (.int p1), .val (.int p2), .unset, .unset] [(.int (p2 &&& (1 : Int32)))])) _
    refine XS.ifYes X0.here hx rfl (pc0 := 3) (pc' := 15) rfl (hb hby at_3) rfl ((if0 _ _).trans (teq hc3).1) (by decide) (by decide) ?_
    show Steps p.tables e below (s₁.setTop (mkF m 15 #[.val (.int p1), .val (.int p2), .unset, .unset] [])) _
    refine XS.iloadN X0.here hx rfl (hb hby at_15) rfl ?_
    show Steps p.tables e below (s₁.setTop (mkF m 16 #[.val (.int p1), .val (.int p2), .unset, .unset] [(.int p1)])) _
    refine XS.i2s X0.here hx rfl (hb hby at_16) rfl ?_
    show Steps p.tables e below (s₁.setTop (mkF m 17 #[.val (.int p1), .val (.int p2), .unset, .unset] [(.int (p1.toInt16.toInt32))])) _
    refine XS.istoreN X0.here hx rfl (hb hby at_17) rfl (l' := #[.val (.int p1), .val (.int p2), .val (.int (p1.toInt16.toInt32)), .unset]) rfl ?_
    show Steps p.tables e below (s₁.setTop (mkF m 18 #[.val (.int p1), .val (.int p2), .val (.int (p1.toInt16.toInt32)), .unset] [])) _
    refine XS.iloadN X0.here hx rfl (hb hby at_18) rfl ?_
    show Steps p.tables e below (s₁.setTop (mkF m 19 #[.val (.int p1), .val (.int p2), .val (.int (p1.toInt16.toInt32)), .unset] [(.int (p1.toInt16.toInt32))])) _
    refine st3 _ ?_
    show Steps p.tables e below (T3.setTop (mkF m 22 #[.val (.int p1), .val (.int p2), .val (.int (p1.toInt16.toInt32)), .unset] [.null])) _
    refine XS.astoreN X3.here hx rfl (hb hby at_22) rfl rfl (l' := #[.val (.int p1), .val (.int p2), .val (.int (p1.toInt16.toInt32)), .val .null]) rfl ?_
    show Steps p.tables e below (T3.setTop (mkF m 23 #[.val (.int p1), .val (.int p2), .val (.int (p1.toInt16.toInt32)), .val .null] [])) _
    refine XS.aloadN X3.here hx rfl (hb hby at_23) rfl rfl ?_
    show Steps p.tables e below (T3.setTop (mkF m 24 #[.val (.int p1), .val (.int p2), .val (.int (p1.toInt16.toInt32)), .val .null] [.null])) _
    refine XS.iloadN X3.here hx rfl (hb hby at_24) rfl ?_
    show Steps p.tables e below (T3.setTop (mkF m 25 #[.val (.int p1), .val (.int p2), .val (.int (p1.toInt16.toInt32)), .val .null] [(.int (p1.toInt16.toInt32)), .null])) _
    refine st4 _ ?_
    show Steps p.tables e below (T4.setTop (mkF m 28 #[.val (.int p1), .val (.int p2), .val (.int (p1.toInt16.toInt32)), .val .null] [.null, .null])) _
    refine Jvm.RoadKit.acmp (g := (mkF m 28 #[.val (.int p1), .val (.int p2), .val (.int (p1.toInt16.toInt32)), .val .null] [.null, .null])) X4 hx rfl rfl rfl (pc0 := 28) (pc' := 31) (same := true) rfl (hb hby at_28) rfl (decide_eq_true rfl) (by decide) (by decide) ?_
    show Steps p.tables e below (T4.setTop (mkF m 31 #[.val (.int p1), .val (.int p2), .val (.int (p1.toInt16.toInt32)), .val .null] [])) _
    refine XS.iconst X4.here hx rfl (hb hby at_31) ?_
    show Steps p.tables e below (T4.setTop (mkF m 32 #[.val (.int p1), .val (.int p2), .val (.int (p1.toInt16.toInt32)), .val .null] [(.int (1 : Int32))])) _
    refine XS.goto X4.here hx rfl (pc0 := 32) (pc' := 36) rfl (hb hby at_32) (by decide) (by decide) ?_
    show Steps p.tables e below (T4.setTop (mkF m 36 #[.val (.int p1), .val (.int p2), .val (.int (p1.toInt16.toInt32)), .val .null] [(.int (1 : Int32))])) _
    exact retN X4 hx (t := .boolean) Bd.returns (by simp) (hb hby at_36) hr
  · show Q0 Z h0 n0 _ T4.heap _
    exact ⟨rfl, N4⟩
set_option maxRecDepth 65536 in
set_option maxHeartbeats 40000000 in
theorem rm0_f0 (l : Launch) (Z : State) (a0 : Array Value) (hw : ∀ d ∈ tables_1, d.before a0 Z = true) (ws : List Jvm.Cond) (p1 : Int32) (p2 : Int32) (w_API_VERSIONS : Addr) (w_METADATA : Addr) (w_LIST_OFFSETS : Addr) (w_FETCH : Addr) (w_PRODUCE : Addr) (wA : Addr) (cl : Cell) (rv : Addr) (h0 : Heap) (n0 : Nat) (Z0 : n0 ≤ h0.size) (S_ALL : Sta Z h0 "com/example/recordframe/recordframe/server/Api" "ALL" "[Lcom/example/recordframe/recordframe/server/Api;" (.ref wA)) (Ar : Arr Z h0 wA cl (.object "com/example/recordframe/recordframe/server/Api")) (Sz : cl.slots.size = (5 : Int32).toNatClampNeg) (hat0 : cl.slots[0]? = some (.ref w_PRODUCE)) (hat1 : cl.slots[1]? = some (.ref w_FETCH)) (hat2 : cl.slots[2]? = some (.ref w_LIST_OFFSETS)) (hat3 : cl.slots[3]? = some (.ref w_METADATA)) (hat4 : cl.slots[4]? = some (.ref w_API_VERSIONS)) (K_PRODUCE : Fld Z h0 w_PRODUCE "com/example/recordframe/recordframe/server/Api" "key" "S" (.int (0 : Int32))) (K_FETCH : Fld Z h0 w_FETCH "com/example/recordframe/recordframe/server/Api" "key" "S" (.int (1 : Int32))) (K_LIST_OFFSETS : Fld Z h0 w_LIST_OFFSETS "com/example/recordframe/recordframe/server/Api" "key" "S" (.int (2 : Int32))) (K_METADATA : Fld Z h0 w_METADATA "com/example/recordframe/recordframe/server/Api" "key" "S" (.int (3 : Int32))) (K_API_VERSIONS : Fld Z h0 w_API_VERSIONS "com/example/recordframe/recordframe/server/Api" "key" "S" (.int (18 : Int32))) (S_PRODUCE : Sta Z h0 "com/example/recordframe/recordframe/server/Api" "PRODUCE" "Lcom/example/recordframe/recordframe/server/Api;" (.ref w_PRODUCE)) (S_FETCH : Sta Z h0 "com/example/recordframe/recordframe/server/Api" "FETCH" "Lcom/example/recordframe/recordframe/server/Api;" (.ref w_FETCH)) (S_LIST_OFFSETS : Sta Z h0 "com/example/recordframe/recordframe/server/Api" "LIST_OFFSETS" "Lcom/example/recordframe/recordframe/server/Api;" (.ref w_LIST_OFFSETS)) (S_METADATA : Sta Z h0 "com/example/recordframe/recordframe/server/Api" "METADATA" "Lcom/example/recordframe/recordframe/server/Api;" (.ref w_METADATA)) (S_API_VERSIONS : Sta Z h0 "com/example/recordframe/recordframe/server/Api" "API_VERSIONS" "Lcom/example/recordframe/recordframe/server/Api;" (.ref w_API_VERSIONS)) (hv : own_f2 ((p1 &&& (31 : Int32)).toInt16.toInt32) w_API_VERSIONS w_METADATA w_LIST_OFFSETS w_FETCH w_PRODUCE = Value.ref rv) (hc3 : ¬ ((p2 &&& (1 : Int32)) = (0 : Int32))) :
    MetFree l x (head1 (Jvm.Cond.code x code maxLocals ret :: ws) room_1) (fun a U => a = #[(.int p1), (.int p2)] ∧ Z.Warmed39 U.vm ∧ U.heap = h0) (fun _ _ _ _ _ => True) (fun _ U o U' => ∃ v L, o = .returned v ∧ Q0 Z h0 n0 v U'.heap L ∧ FrameEnd U o U' L room_1.cells room_1.slots) := by
  refine MetFree.of_bodySF (plainFor_of_name pn_0) hisR ?_
  intro p e s m args below meth c s₁ Bd hml0 hP hK
  obtain ⟨rfl, hZ, hh⟩ := hP
  have hx := Bd.exec
  have hby := Bd.bytes
  have hml : c.maxLocals = 4 := hml0
  have hown : s.vm.findClass "com/example/recordframe/recordframe/server/ApiOfPinLaw" = some m.cls := findClass_of_methodNamed Bd.named
  have hnm := (name_of_methodNamed Bd.named Bd.method).1
  have X0 : Stand p l e room_1 s m #[(.int p1), (.int p2)] below meth c s₁ [] 0 0 := Stand.of_body Bd
  have e0 : s₁.heap = h0 := by rw [← hh, Bd.state]; rfl
  have N0 := Fr.nil n0
  have pre0 : ∀ t, Steps p.tables e below (s₁.setTop (mkF m 0 #[.val (.int p1), .val (.int p2), .unset, .unset] [])) t → Steps p.tables e below (s₁.setTop (entryFrame m #[(.int p1), (.int p2)] maxLocals)) t := fun t k => castTop (ef_0 m p1 p2) k
  -- 3. LAWS
  -- pc 19: com/example/recordframe/recordframe/server/Api.of by its contract rm1
  obtain ⟨_, _, ⟨T3, L3, k3, n3⟩, -, X3, ⟨Lc3, hQ3, l3, y3, z3⟩, st3⟩ := Jvm.LawKit.callS X0 hx (y := (⟨"com/example/recordframe/recordframe/server/Api", "of", "(S)Lcom/example/recordframe/recordframe/server/Api;"⟩ : MethodName)) hown (mvT hZ (hw _ (List.mem_of_getElem? (i := 0) rfl))) (mvT hZ (hw _ (List.mem_of_getElem? (i := 1) rfl))) (mvT hZ (hw _ (List.mem_of_getElem? (i := 2) rfl))) (mvT hZ (hw _ (List.mem_of_getElem? (i := 3) rfl))) (by decide) (backOf (W := 0) (rm1 l Z a0 hw [] ((p1 &&& (31 : Int32)).toInt16.toInt32) w_API_VERSIONS w_METADATA w_LIST_OFFSETS w_FETCH w_PRODUCE wA cl h0 n0 Z0 S_ALL Ar Sz hat0 hat1 hat2 hat3 hat4 K_PRODUCE K_FETCH K_LIST_OFFSETS K_METADATA K_API_VERSIONS) hZ (hw _ (List.mem_of_getElem? (i := 3) rfl)) (hw _ (List.mem_of_getElem? (i := 2) rfl)) (by decide) (by decide)) (g := (mkF m 19 #[.val (.int p1), .val (.int p2), .val (.int ((p1 &&& (31 : Int32)).toInt16.toInt32)), .unset] [(.int ((p1 &&& (31 : Int32)).toInt16.toInt32))])) rfl (by rw [hml]; rfl) (argsL := [(.int ((p1 &&& (31 : Int32)).toInt16.toInt32))]) (rest := []) (lenOf pd_0_0 rfl) rfl (by show 2 * 0 + _ ≤ _; exact Nat.le_of_eq rfl) (hb hby at_19) (fun _ _ => ⟨rfl, e0, (by decide : 0 + 0 ≤ _), (by decide : 0 + 0 ≤ _)⟩)
  dsimp only [Pt.U, Pt.locs, Pt.cells, Pt.slots] at X3 l3 y3 z3 st3 hQ3
  subst l3 y3 z3
  obtain ⟨rfl, N3q, e3q⟩ := hQ3
  rw [hv] at st3
  have N3 := Fr.app N0 N3q
  have K3q : Keep h0 T3.heap [] := own_keep e3q
  have KH3 : Keep h0 T3.heap [] := (Keep.refl h0 []).trans K3q own_ws0
  have eh3 : T3.heap = h0 := by rw [e3q]
  -- pc 25: com/example/recordframe/recordframe/server/ApiOfPinLaw.expected by its contract rm2
  obtain ⟨_, _, ⟨T4, L4, k4, n4⟩, -, X4, ⟨Lc4, hQ4, l4, y4, z4⟩, st4⟩ := Jvm.LawKit.callS X3 hx (y := (⟨"com/example/recordframe/recordframe/server/ApiOfPinLaw", "expected", "(S)Lcom/example/recordframe/recordframe/server/Api;"⟩ : MethodName)) hown (mvT hZ (hw _ (List.mem_of_getElem? (i := 9) rfl))) (mvT hZ (hw _ (List.mem_of_getElem? (i := 10) rfl))) (mvT hZ (hw _ (List.mem_of_getElem? (i := 11) rfl))) (mvT hZ (hw _ (List.mem_of_getElem? (i := 12) rfl))) (by decide) (backOf (W := 1) (rm2 l Z a0 hw [] ((p1 &&& (31 : Int32)).toInt16.toInt32) w_API_VERSIONS w_METADATA w_LIST_OFFSETS w_FETCH w_PRODUCE T3.heap n0 (Nat.le_trans Z0 KH3.1) (by rw [e3q]; exact S_API_VERSIONS) (by rw [e3q]; exact S_METADATA) (by rw [e3q]; exact S_LIST_OFFSETS) (by rw [e3q]; exact S_FETCH) (by rw [e3q]; exact S_PRODUCE)) hZ (hw _ (List.mem_of_getElem? (i := 12) rfl)) (hw _ (List.mem_of_getElem? (i := 11) rfl)) (by decide) (by decide)) (g := (mkF m 25 #[.val (.int p1), .val (.int p2), .val (.int ((p1 &&& (31 : Int32)).toInt16.toInt32)), .val (.ref rv)] [(.int ((p1 &&& (31 : Int32)).toInt16.toInt32)), (.ref rv)])) rfl (by rw [hml]; rfl) (argsL := [(.int ((p1 &&& (31 : Int32)).toInt16.toInt32))]) (rest := [(.ref rv)]) (lenOf pd_0_0 rfl) rfl (by show 2 * 0 + _ ≤ _; exact Nat.le_of_eq rfl) (hb hby at_25) (fun _ _ => ⟨rfl, rfl, (by decide : 0 + 0 ≤ _), (by decide : 0 + 0 ≤ _)⟩)
  dsimp only [Pt.U, Pt.locs, Pt.cells, Pt.slots] at X4 l4 y4 z4 st4 hQ4
  subst l4 y4 z4
  obtain ⟨rfl, N4q, e4q⟩ := hQ4
  rw [hv] at st4
  have N4 := Fr.app N3 N4q
  have K4q : Keep T3.heap T4.heap [] := own_keep e4q
  have KH4 : Keep h0 T4.heap [] := KH3.trans K4q own_ws0
  have eh4 : T4.heap = h0 := by rw [e4q]; exact eh3
  obtain ⟨fs, hr, hrun, hended, hW, hsame⟩ := X4.leave (v := some (.int (1 : Int32))) (fun h => by rw [Bd.returns] at h; cases h) (BodyLoose.notSynchronized Bd)
  refine ⟨_, _, pre0 _ ?_, hrun, hended, _, _, rfl, ?_, ⟨_, rfl⟩, hW, hsame.mono (by decide) (by decide)⟩
  -- 4. STEPS
  · show Steps p.tables e below (s₁.setTop (mkF m 0 #[.val (.int p1), .val (.int p2), .unset, .unset] [])) _
    refine XS.iloadN X0.here hx rfl (hb hby at_0) rfl ?_
    show Steps p.tables e below (s₁.setTop (mkF m 1 #[.val (.int p1), .val (.int p2), .unset, .unset] [(.int p2)])) _
    refine XS.iconst X0.here hx rfl (hb hby at_1) ?_
    show Steps p.tables e below (s₁.setTop (mkF m 2 #[.val (.int p1), .val (.int p2), .unset, .unset] [(.int (1 : Int32)), (.int p2)])) _
    refine XS.iand X0.here hx rfl (hb hby at_2) rfl ?_
    show Steps p.tables e below (s₁.setTop (mkF m 3 #[.val (.int p1), .val (.int p2), .unset, .unset] [(.int (p2 &&& (1 : Int32)))])) _
    refine XS.ifNo X0.here hx rfl (hb hby at_3) rfl ((if0 _ _).trans (feq hc3).1) ?_
    show Steps p.tables e below (s₁.setTop (mkF m 6 #[.val (.int p1), .val (.int p2), .unset, .unset] [])) _
    refine XS.iloadN X0.here hx rfl (hb hby at_6) rfl ?_
    show Steps p.tables e below (s₁.setTop (mkF m 7 #[.val (.int p1), .val (.int p2), .unset, .unset] [(.int p1)])) _
    refine XS.bipush X0.here hx rfl (hb hby at_7) ?_
    show Steps p.tables e below (s₁.setTop (mkF m 9 #[.val (.int p1), .val (.int p2), .unset, .unset] [(.int (31 : Int32)), (.int p1)])) _
    refine XS.iand X0.here hx rfl (hb hby at_9) rfl ?_
    show Steps p.tables e below (s₁.setTop (mkF m 10 #[.val (.int p1), .val (.int p2), .unset, .unset] [(.int (p1 &&& (31 : Int32)))])) _
    refine XS.i2s X0.here hx rfl (hb hby at_10) rfl ?_
    show Steps p.tables e below (s₁.setTop (mkF m 11 #[.val (.int p1), .val (.int p2), .unset, .unset] [(.int ((p1 &&& (31 : Int32)).toInt16.toInt32))])) _
    refine XS.istoreN X0.here hx rfl (hb hby at_11) rfl (l' := #[.val (.int p1), .val (.int p2), .val (.int ((p1 &&& (31 : Int32)).toInt16.toInt32)), .unset]) rfl ?_
    show Steps p.tables e below (s₁.setTop (mkF m 12 #[.val (.int p1), .val (.int p2), .val (.int ((p1 &&& (31 : Int32)).toInt16.toInt32)), .unset] [])) _
    refine XS.goto X0.here hx rfl (pc0 := 12) (pc' := 18) rfl (hb hby at_12) (by decide) (by decide) ?_
    show Steps p.tables e below (s₁.setTop (mkF m 18 #[.val (.int p1), .val (.int p2), .val (.int ((p1 &&& (31 : Int32)).toInt16.toInt32)), .unset] [])) _
    refine XS.iloadN X0.here hx rfl (hb hby at_18) rfl ?_
    show Steps p.tables e below (s₁.setTop (mkF m 19 #[.val (.int p1), .val (.int p2), .val (.int ((p1 &&& (31 : Int32)).toInt16.toInt32)), .unset] [(.int ((p1 &&& (31 : Int32)).toInt16.toInt32))])) _
    refine st3 _ ?_
    show Steps p.tables e below (T3.setTop (mkF m 22 #[.val (.int p1), .val (.int p2), .val (.int ((p1 &&& (31 : Int32)).toInt16.toInt32)), .unset] [(.ref rv)])) _
    refine XS.astoreN X3.here hx rfl (hb hby at_22) rfl rfl (l' := #[.val (.int p1), .val (.int p2), .val (.int ((p1 &&& (31 : Int32)).toInt16.toInt32)), .val (.ref rv)]) rfl ?_
    show Steps p.tables e below (T3.setTop (mkF m 23 #[.val (.int p1), .val (.int p2), .val (.int ((p1 &&& (31 : Int32)).toInt16.toInt32)), .val (.ref rv)] [])) _
    refine XS.aloadN X3.here hx rfl (hb hby at_23) rfl rfl ?_
    show Steps p.tables e below (T3.setTop (mkF m 24 #[.val (.int p1), .val (.int p2), .val (.int ((p1 &&& (31 : Int32)).toInt16.toInt32)), .val (.ref rv)] [(.ref rv)])) _
    refine XS.iloadN X3.here hx rfl (hb hby at_24) rfl ?_
    show Steps p.tables e below (T3.setTop (mkF m 25 #[.val (.int p1), .val (.int p2), .val (.int ((p1 &&& (31 : Int32)).toInt16.toInt32)), .val (.ref rv)] [(.int ((p1 &&& (31 : Int32)).toInt16.toInt32)), (.ref rv)])) _
    refine st4 _ ?_
    show Steps p.tables e below (T4.setTop (mkF m 28 #[.val (.int p1), .val (.int p2), .val (.int ((p1 &&& (31 : Int32)).toInt16.toInt32)), .val (.ref rv)] [(.ref rv), (.ref rv)])) _
    refine Jvm.RoadKit.acmp (g := (mkF m 28 #[.val (.int p1), .val (.int p2), .val (.int ((p1 &&& (31 : Int32)).toInt16.toInt32)), .val (.ref rv)] [(.ref rv), (.ref rv)])) X4 hx rfl rfl rfl (pc0 := 28) (pc' := 31) (same := true) rfl (hb hby at_28) rfl (decide_eq_true rfl) (by decide) (by decide) ?_
    show Steps p.tables e below (T4.setTop (mkF m 31 #[.val (.int p1), .val (.int p2), .val (.int ((p1 &&& (31 : Int32)).toInt16.toInt32)), .val (.ref rv)] [])) _
    refine XS.iconst X4.here hx rfl (hb hby at_31) ?_
    show Steps p.tables e below (T4.setTop (mkF m 32 #[.val (.int p1), .val (.int p2), .val (.int ((p1 &&& (31 : Int32)).toInt16.toInt32)), .val (.ref rv)] [(.int (1 : Int32))])) _
    refine XS.goto X4.here hx rfl (pc0 := 32) (pc' := 36) rfl (hb hby at_32) (by decide) (by decide) ?_
    show Steps p.tables e below (T4.setTop (mkF m 36 #[.val (.int p1), .val (.int p2), .val (.int ((p1 &&& (31 : Int32)).toInt16.toInt32)), .val (.ref rv)] [(.int (1 : Int32))])) _
    exact retN X4 hx (t := .boolean) Bd.returns (by simp) (hb hby at_36) hr
  · show Q0 Z h0 n0 _ T4.heap _
    exact ⟨rfl, N4⟩
set_option maxRecDepth 65536 in
set_option maxHeartbeats 40000000 in
theorem rm0_f1 (l : Launch) (Z : State) (a0 : Array Value) (hw : ∀ d ∈ tables_1, d.before a0 Z = true) (ws : List Jvm.Cond) (p1 : Int32) (p2 : Int32) (w_API_VERSIONS : Addr) (w_METADATA : Addr) (w_LIST_OFFSETS : Addr) (w_FETCH : Addr) (w_PRODUCE : Addr) (wA : Addr) (cl : Cell) (h0 : Heap) (n0 : Nat) (Z0 : n0 ≤ h0.size) (S_ALL : Sta Z h0 "com/example/recordframe/recordframe/server/Api" "ALL" "[Lcom/example/recordframe/recordframe/server/Api;" (.ref wA)) (Ar : Arr Z h0 wA cl (.object "com/example/recordframe/recordframe/server/Api")) (Sz : cl.slots.size = (5 : Int32).toNatClampNeg) (hat0 : cl.slots[0]? = some (.ref w_PRODUCE)) (hat1 : cl.slots[1]? = some (.ref w_FETCH)) (hat2 : cl.slots[2]? = some (.ref w_LIST_OFFSETS)) (hat3 : cl.slots[3]? = some (.ref w_METADATA)) (hat4 : cl.slots[4]? = some (.ref w_API_VERSIONS)) (K_PRODUCE : Fld Z h0 w_PRODUCE "com/example/recordframe/recordframe/server/Api" "key" "S" (.int (0 : Int32))) (K_FETCH : Fld Z h0 w_FETCH "com/example/recordframe/recordframe/server/Api" "key" "S" (.int (1 : Int32))) (K_LIST_OFFSETS : Fld Z h0 w_LIST_OFFSETS "com/example/recordframe/recordframe/server/Api" "key" "S" (.int (2 : Int32))) (K_METADATA : Fld Z h0 w_METADATA "com/example/recordframe/recordframe/server/Api" "key" "S" (.int (3 : Int32))) (K_API_VERSIONS : Fld Z h0 w_API_VERSIONS "com/example/recordframe/recordframe/server/Api" "key" "S" (.int (18 : Int32))) (S_PRODUCE : Sta Z h0 "com/example/recordframe/recordframe/server/Api" "PRODUCE" "Lcom/example/recordframe/recordframe/server/Api;" (.ref w_PRODUCE)) (S_FETCH : Sta Z h0 "com/example/recordframe/recordframe/server/Api" "FETCH" "Lcom/example/recordframe/recordframe/server/Api;" (.ref w_FETCH)) (S_LIST_OFFSETS : Sta Z h0 "com/example/recordframe/recordframe/server/Api" "LIST_OFFSETS" "Lcom/example/recordframe/recordframe/server/Api;" (.ref w_LIST_OFFSETS)) (S_METADATA : Sta Z h0 "com/example/recordframe/recordframe/server/Api" "METADATA" "Lcom/example/recordframe/recordframe/server/Api;" (.ref w_METADATA)) (S_API_VERSIONS : Sta Z h0 "com/example/recordframe/recordframe/server/Api" "API_VERSIONS" "Lcom/example/recordframe/recordframe/server/Api;" (.ref w_API_VERSIONS)) (hv : own_f2 ((p1 &&& (31 : Int32)).toInt16.toInt32) w_API_VERSIONS w_METADATA w_LIST_OFFSETS w_FETCH w_PRODUCE = Value.null) (hc3 : ¬ ((p2 &&& (1 : Int32)) = (0 : Int32))) :
    MetFree l x (head1 (Jvm.Cond.code x code maxLocals ret :: ws) room_1) (fun a U => a = #[(.int p1), (.int p2)] ∧ Z.Warmed39 U.vm ∧ U.heap = h0) (fun _ _ _ _ _ => True) (fun _ U o U' => ∃ v L, o = .returned v ∧ Q0 Z h0 n0 v U'.heap L ∧ FrameEnd U o U' L room_1.cells room_1.slots) := by
  refine MetFree.of_bodySF (plainFor_of_name pn_0) hisR ?_
  intro p e s m args below meth c s₁ Bd hml0 hP hK
  obtain ⟨rfl, hZ, hh⟩ := hP
  have hx := Bd.exec
  have hby := Bd.bytes
  have hml : c.maxLocals = 4 := hml0
  have hown : s.vm.findClass "com/example/recordframe/recordframe/server/ApiOfPinLaw" = some m.cls := findClass_of_methodNamed Bd.named
  have hnm := (name_of_methodNamed Bd.named Bd.method).1
  have X0 : Stand p l e room_1 s m #[(.int p1), (.int p2)] below meth c s₁ [] 0 0 := Stand.of_body Bd
  have e0 : s₁.heap = h0 := by rw [← hh, Bd.state]; rfl
  have N0 := Fr.nil n0
  have pre0 : ∀ t, Steps p.tables e below (s₁.setTop (mkF m 0 #[.val (.int p1), .val (.int p2), .unset, .unset] [])) t → Steps p.tables e below (s₁.setTop (entryFrame m #[(.int p1), (.int p2)] maxLocals)) t := fun t k => castTop (ef_0 m p1 p2) k
  -- 3. LAWS
  -- pc 19: com/example/recordframe/recordframe/server/Api.of by its contract rm1
  obtain ⟨_, _, ⟨T3, L3, k3, n3⟩, -, X3, ⟨Lc3, hQ3, l3, y3, z3⟩, st3⟩ := Jvm.LawKit.callS X0 hx (y := (⟨"com/example/recordframe/recordframe/server/Api", "of", "(S)Lcom/example/recordframe/recordframe/server/Api;"⟩ : MethodName)) hown (mvT hZ (hw _ (List.mem_of_getElem? (i := 0) rfl))) (mvT hZ (hw _ (List.mem_of_getElem? (i := 1) rfl))) (mvT hZ (hw _ (List.mem_of_getElem? (i := 2) rfl))) (mvT hZ (hw _ (List.mem_of_getElem? (i := 3) rfl))) (by decide) (backOf (W := 0) (rm1 l Z a0 hw [] ((p1 &&& (31 : Int32)).toInt16.toInt32) w_API_VERSIONS w_METADATA w_LIST_OFFSETS w_FETCH w_PRODUCE wA cl h0 n0 Z0 S_ALL Ar Sz hat0 hat1 hat2 hat3 hat4 K_PRODUCE K_FETCH K_LIST_OFFSETS K_METADATA K_API_VERSIONS) hZ (hw _ (List.mem_of_getElem? (i := 3) rfl)) (hw _ (List.mem_of_getElem? (i := 2) rfl)) (by decide) (by decide)) (g := (mkF m 19 #[.val (.int p1), .val (.int p2), .val (.int ((p1 &&& (31 : Int32)).toInt16.toInt32)), .unset] [(.int ((p1 &&& (31 : Int32)).toInt16.toInt32))])) rfl (by rw [hml]; rfl) (argsL := [(.int ((p1 &&& (31 : Int32)).toInt16.toInt32))]) (rest := []) (lenOf pd_0_0 rfl) rfl (by show 2 * 0 + _ ≤ _; exact Nat.le_of_eq rfl) (hb hby at_19) (fun _ _ => ⟨rfl, e0, (by decide : 0 + 0 ≤ _), (by decide : 0 + 0 ≤ _)⟩)
  dsimp only [Pt.U, Pt.locs, Pt.cells, Pt.slots] at X3 l3 y3 z3 st3 hQ3
  subst l3 y3 z3
  obtain ⟨rfl, N3q, e3q⟩ := hQ3
  rw [hv] at st3
  have N3 := Fr.app N0 N3q
  have K3q : Keep h0 T3.heap [] := own_keep e3q
  have KH3 : Keep h0 T3.heap [] := (Keep.refl h0 []).trans K3q own_ws0
  have eh3 : T3.heap = h0 := by rw [e3q]
  -- pc 25: com/example/recordframe/recordframe/server/ApiOfPinLaw.expected by its contract rm2
  obtain ⟨_, _, ⟨T4, L4, k4, n4⟩, -, X4, ⟨Lc4, hQ4, l4, y4, z4⟩, st4⟩ := Jvm.LawKit.callS X3 hx (y := (⟨"com/example/recordframe/recordframe/server/ApiOfPinLaw", "expected", "(S)Lcom/example/recordframe/recordframe/server/Api;"⟩ : MethodName)) hown (mvT hZ (hw _ (List.mem_of_getElem? (i := 9) rfl))) (mvT hZ (hw _ (List.mem_of_getElem? (i := 10) rfl))) (mvT hZ (hw _ (List.mem_of_getElem? (i := 11) rfl))) (mvT hZ (hw _ (List.mem_of_getElem? (i := 12) rfl))) (by decide) (backOf (W := 1) (rm2 l Z a0 hw [] ((p1 &&& (31 : Int32)).toInt16.toInt32) w_API_VERSIONS w_METADATA w_LIST_OFFSETS w_FETCH w_PRODUCE T3.heap n0 (Nat.le_trans Z0 KH3.1) (by rw [e3q]; exact S_API_VERSIONS) (by rw [e3q]; exact S_METADATA) (by rw [e3q]; exact S_LIST_OFFSETS) (by rw [e3q]; exact S_FETCH) (by rw [e3q]; exact S_PRODUCE)) hZ (hw _ (List.mem_of_getElem? (i := 12) rfl)) (hw _ (List.mem_of_getElem? (i := 11) rfl)) (by decide) (by decide)) (g := (mkF m 25 #[.val (.int p1), .val (.int p2), .val (.int ((p1 &&& (31 : Int32)).toInt16.toInt32)), .val .null] [(.int ((p1 &&& (31 : Int32)).toInt16.toInt32)), .null])) rfl (by rw [hml]; rfl) (argsL := [(.int ((p1 &&& (31 : Int32)).toInt16.toInt32))]) (rest := [.null]) (lenOf pd_0_0 rfl) rfl (by show 2 * 0 + _ ≤ _; exact Nat.le_of_eq rfl) (hb hby at_25) (fun _ _ => ⟨rfl, rfl, (by decide : 0 + 0 ≤ _), (by decide : 0 + 0 ≤ _)⟩)
  dsimp only [Pt.U, Pt.locs, Pt.cells, Pt.slots] at X4 l4 y4 z4 st4 hQ4
  subst l4 y4 z4
  obtain ⟨rfl, N4q, e4q⟩ := hQ4
  rw [hv] at st4
  have N4 := Fr.app N3 N4q
  have K4q : Keep T3.heap T4.heap [] := own_keep e4q
  have KH4 : Keep h0 T4.heap [] := KH3.trans K4q own_ws0
  have eh4 : T4.heap = h0 := by rw [e4q]; exact eh3
  obtain ⟨fs, hr, hrun, hended, hW, hsame⟩ := X4.leave (v := some (.int (1 : Int32))) (fun h => by rw [Bd.returns] at h; cases h) (BodyLoose.notSynchronized Bd)
  refine ⟨_, _, pre0 _ ?_, hrun, hended, _, _, rfl, ?_, ⟨_, rfl⟩, hW, hsame.mono (by decide) (by decide)⟩
  -- 4. STEPS
  · show Steps p.tables e below (s₁.setTop (mkF m 0 #[.val (.int p1), .val (.int p2), .unset, .unset] [])) _
    refine XS.iloadN X0.here hx rfl (hb hby at_0) rfl ?_
    show Steps p.tables e below (s₁.setTop (mkF m 1 #[.val (.int p1), .val (.int p2), .unset, .unset] [(.int p2)])) _
    refine XS.iconst X0.here hx rfl (hb hby at_1) ?_
    show Steps p.tables e below (s₁.setTop (mkF m 2 #[.val (.int p1), .val (.int p2), .unset, .unset] [(.int (1 : Int32)), (.int p2)])) _
    refine XS.iand X0.here hx rfl (hb hby at_2) rfl ?_
    show Steps p.tables e below (s₁.setTop (mkF m 3 #[.val (.int p1), .val (.int p2), .unset, .unset] [(.int (p2 &&& (1 : Int32)))])) _
    refine XS.ifNo X0.here hx rfl (hb hby at_3) rfl ((if0 _ _).trans (feq hc3).1) ?_
    show Steps p.tables e below (s₁.setTop (mkF m 6 #[.val (.int p1), .val (.int p2), .unset, .unset] [])) _
    refine XS.iloadN X0.here hx rfl (hb hby at_6) rfl ?_
    show Steps p.tables e below (s₁.setTop (mkF m 7 #[.val (.int p1), .val (.int p2), .unset, .unset] [(.int p1)])) _
    refine XS.bipush X0.here hx rfl (hb hby at_7) ?_
    show Steps p.tables e below (s₁.setTop (mkF m 9 #[.val (.int p1), .val (.int p2), .unset, .unset] [(.int (31 : Int32)), (.int p1)])) _
    refine XS.iand X0.here hx rfl (hb hby at_9) rfl ?_
    show Steps p.tables e below (s₁.setTop (mkF m 10 #[.val (.int p1), .val (.int p2), .unset, .unset] [(.int (p1 &&& (31 : Int32)))])) _
    refine XS.i2s X0.here hx rfl (hb hby at_10) rfl ?_
    show Steps p.tables e below (s₁.setTop (mkF m 11 #[.val (.int p1), .val (.int p2), .unset, .unset] [(.int ((p1 &&& (31 : Int32)).toInt16.toInt32))])) _
    refine XS.istoreN X0.here hx rfl (hb hby at_11) rfl (l' := #[.val (.int p1), .val (.int p2), .val (.int ((p1 &&& (31 : Int32)).toInt16.toInt32)), .unset]) rfl ?_
    show Steps p.tables e below (s₁.setTop (mkF m 12 #[.val (.int p1), .val (.int p2), .val (.int ((p1 &&& (31 : Int32)).toInt16.toInt32)), .unset] [])) _
    refine XS.goto X0.here hx rfl (pc0 := 12) (pc' := 18) rfl (hb hby at_12) (by decide) (by decide) ?_
    show Steps p.tables e below (s₁.setTop (mkF m 18 #[.val (.int p1), .val (.int p2), .val (.int ((p1 &&& (31 : Int32)).toInt16.toInt32)), .unset] [])) _
    refine XS.iloadN X0.here hx rfl (hb hby at_18) rfl ?_
    show Steps p.tables e below (s₁.setTop (mkF m 19 #[.val (.int p1), .val (.int p2), .val (.int ((p1 &&& (31 : Int32)).toInt16.toInt32)), .unset] [(.int ((p1 &&& (31 : Int32)).toInt16.toInt32))])) _
    refine st3 _ ?_
    show Steps p.tables e below (T3.setTop (mkF m 22 #[.val (.int p1), .val (.int p2), .val (.int ((p1 &&& (31 : Int32)).toInt16.toInt32)), .unset] [.null])) _
    refine XS.astoreN X3.here hx rfl (hb hby at_22) rfl rfl (l' := #[.val (.int p1), .val (.int p2), .val (.int ((p1 &&& (31 : Int32)).toInt16.toInt32)), .val .null]) rfl ?_
    show Steps p.tables e below (T3.setTop (mkF m 23 #[.val (.int p1), .val (.int p2), .val (.int ((p1 &&& (31 : Int32)).toInt16.toInt32)), .val .null] [])) _
    refine XS.aloadN X3.here hx rfl (hb hby at_23) rfl rfl ?_
    show Steps p.tables e below (T3.setTop (mkF m 24 #[.val (.int p1), .val (.int p2), .val (.int ((p1 &&& (31 : Int32)).toInt16.toInt32)), .val .null] [.null])) _
    refine XS.iloadN X3.here hx rfl (hb hby at_24) rfl ?_
    show Steps p.tables e below (T3.setTop (mkF m 25 #[.val (.int p1), .val (.int p2), .val (.int ((p1 &&& (31 : Int32)).toInt16.toInt32)), .val .null] [(.int ((p1 &&& (31 : Int32)).toInt16.toInt32)), .null])) _
    refine st4 _ ?_
    show Steps p.tables e below (T4.setTop (mkF m 28 #[.val (.int p1), .val (.int p2), .val (.int ((p1 &&& (31 : Int32)).toInt16.toInt32)), .val .null] [.null, .null])) _
    refine Jvm.RoadKit.acmp (g := (mkF m 28 #[.val (.int p1), .val (.int p2), .val (.int ((p1 &&& (31 : Int32)).toInt16.toInt32)), .val .null] [.null, .null])) X4 hx rfl rfl rfl (pc0 := 28) (pc' := 31) (same := true) rfl (hb hby at_28) rfl (decide_eq_true rfl) (by decide) (by decide) ?_
    show Steps p.tables e below (T4.setTop (mkF m 31 #[.val (.int p1), .val (.int p2), .val (.int ((p1 &&& (31 : Int32)).toInt16.toInt32)), .val .null] [])) _
    refine XS.iconst X4.here hx rfl (hb hby at_31) ?_
    show Steps p.tables e below (T4.setTop (mkF m 32 #[.val (.int p1), .val (.int p2), .val (.int ((p1 &&& (31 : Int32)).toInt16.toInt32)), .val .null] [(.int (1 : Int32))])) _
    refine XS.goto X4.here hx rfl (pc0 := 32) (pc' := 36) rfl (hb hby at_32) (by decide) (by decide) ?_
    show Steps p.tables e below (T4.setTop (mkF m 36 #[.val (.int p1), .val (.int p2), .val (.int ((p1 &&& (31 : Int32)).toInt16.toInt32)), .val .null] [(.int (1 : Int32))])) _
    exact retN X4 hx (t := .boolean) Bd.returns (by simp) (hb hby at_36) hr
  · show Q0 Z h0 n0 _ T4.heap _
    exact ⟨rfl, N4⟩
set_option maxRecDepth 65536 in
set_option maxHeartbeats 40000000 in
theorem rm0 (l : Launch) (Z : State) (a0 : Array Value) (hw : ∀ d ∈ tables_1, d.before a0 Z = true) (ws : List Jvm.Cond) (p1 : Int32) (p2 : Int32) (w_API_VERSIONS : Addr) (w_METADATA : Addr) (w_LIST_OFFSETS : Addr) (w_FETCH : Addr) (w_PRODUCE : Addr) (wA : Addr) (cl : Cell) (h0 : Heap) (n0 : Nat) (Z0 : n0 ≤ h0.size) (S_ALL : Sta Z h0 "com/example/recordframe/recordframe/server/Api" "ALL" "[Lcom/example/recordframe/recordframe/server/Api;" (.ref wA)) (Ar : Arr Z h0 wA cl (.object "com/example/recordframe/recordframe/server/Api")) (Sz : cl.slots.size = (5 : Int32).toNatClampNeg) (hat0 : cl.slots[0]? = some (.ref w_PRODUCE)) (hat1 : cl.slots[1]? = some (.ref w_FETCH)) (hat2 : cl.slots[2]? = some (.ref w_LIST_OFFSETS)) (hat3 : cl.slots[3]? = some (.ref w_METADATA)) (hat4 : cl.slots[4]? = some (.ref w_API_VERSIONS)) (K_PRODUCE : Fld Z h0 w_PRODUCE "com/example/recordframe/recordframe/server/Api" "key" "S" (.int (0 : Int32))) (K_FETCH : Fld Z h0 w_FETCH "com/example/recordframe/recordframe/server/Api" "key" "S" (.int (1 : Int32))) (K_LIST_OFFSETS : Fld Z h0 w_LIST_OFFSETS "com/example/recordframe/recordframe/server/Api" "key" "S" (.int (2 : Int32))) (K_METADATA : Fld Z h0 w_METADATA "com/example/recordframe/recordframe/server/Api" "key" "S" (.int (3 : Int32))) (K_API_VERSIONS : Fld Z h0 w_API_VERSIONS "com/example/recordframe/recordframe/server/Api" "key" "S" (.int (18 : Int32))) (S_PRODUCE : Sta Z h0 "com/example/recordframe/recordframe/server/Api" "PRODUCE" "Lcom/example/recordframe/recordframe/server/Api;" (.ref w_PRODUCE)) (S_FETCH : Sta Z h0 "com/example/recordframe/recordframe/server/Api" "FETCH" "Lcom/example/recordframe/recordframe/server/Api;" (.ref w_FETCH)) (S_LIST_OFFSETS : Sta Z h0 "com/example/recordframe/recordframe/server/Api" "LIST_OFFSETS" "Lcom/example/recordframe/recordframe/server/Api;" (.ref w_LIST_OFFSETS)) (S_METADATA : Sta Z h0 "com/example/recordframe/recordframe/server/Api" "METADATA" "Lcom/example/recordframe/recordframe/server/Api;" (.ref w_METADATA)) (S_API_VERSIONS : Sta Z h0 "com/example/recordframe/recordframe/server/Api" "API_VERSIONS" "Lcom/example/recordframe/recordframe/server/Api;" (.ref w_API_VERSIONS)) :
    MetFree l x (head1 (Jvm.Cond.code x code maxLocals ret :: ws) room_1) (fun a U => a = #[(.int p1), (.int p2)] ∧ Z.Warmed39 U.vm ∧ U.heap = h0) (fun _ _ _ _ _ => True) (fun _ U o U' => ∃ v L, o = .returned v ∧ Q0 Z h0 n0 v U'.heap L ∧ FrameEnd U o U' L room_1.cells room_1.slots) := by
  by_cases hc : (p2 &&& (1 : Int32)) = (0 : Int32)
  · rcases own_refs (p1.toInt16.toInt32) w_API_VERSIONS w_METADATA w_LIST_OFFSETS w_FETCH w_PRODUCE with hv | ⟨rv, hv⟩
    · exact rm0_t1 l Z a0 hw ws p1 p2 w_API_VERSIONS w_METADATA w_LIST_OFFSETS w_FETCH w_PRODUCE wA cl h0 n0 Z0 S_ALL Ar Sz hat0 hat1 hat2 hat3 hat4 K_PRODUCE K_FETCH K_LIST_OFFSETS K_METADATA K_API_VERSIONS S_PRODUCE S_FETCH S_LIST_OFFSETS S_METADATA S_API_VERSIONS hv hc
    · exact rm0_t0 l Z a0 hw ws p1 p2 w_API_VERSIONS w_METADATA w_LIST_OFFSETS w_FETCH w_PRODUCE wA cl _ h0 n0 Z0 S_ALL Ar Sz hat0 hat1 hat2 hat3 hat4 K_PRODUCE K_FETCH K_LIST_OFFSETS K_METADATA K_API_VERSIONS S_PRODUCE S_FETCH S_LIST_OFFSETS S_METADATA S_API_VERSIONS hv hc
  · rcases own_refs ((p1 &&& (31 : Int32)).toInt16.toInt32) w_API_VERSIONS w_METADATA w_LIST_OFFSETS w_FETCH w_PRODUCE with hv | ⟨rv, hv⟩
    · exact rm0_f1 l Z a0 hw ws p1 p2 w_API_VERSIONS w_METADATA w_LIST_OFFSETS w_FETCH w_PRODUCE wA cl h0 n0 Z0 S_ALL Ar Sz hat0 hat1 hat2 hat3 hat4 K_PRODUCE K_FETCH K_LIST_OFFSETS K_METADATA K_API_VERSIONS S_PRODUCE S_FETCH S_LIST_OFFSETS S_METADATA S_API_VERSIONS hv hc
    · exact rm0_f0 l Z a0 hw ws p1 p2 w_API_VERSIONS w_METADATA w_LIST_OFFSETS w_FETCH w_PRODUCE wA cl _ h0 n0 Z0 S_ALL Ar Sz hat0 hat1 hat2 hat3 hat4 K_PRODUCE K_FETCH K_LIST_OFFSETS K_METADATA K_API_VERSIONS S_PRODUCE S_FETCH S_LIST_OFFSETS S_METADATA S_API_VERSIONS hv hc
theorem own_fldint {args : Array Value} {s : State} {t : Term} {C n d : String} {x : Addr} {y : Int32} (h : (Cond.eq (.field t C n d) (.int y)).value args s none s [] = some true) (ht : t.eval args s none [] s = some (.ref x)) : s.fieldOf? x C n d = some (.int y) := by
  have e := fld_at (args := args) (first := s) (o := none) (idx := []) (C := C) (n := n) (dd := d) ht
  have hu : (Term.int y).eval args s none [] s = some (.int y) := rfl
  cases hv : s.fieldOf? x C n d with
  | none => rw [hv] at e; simp [Cond.value, e] at h
  | some v =>
    rw [hv] at e
    cases v <;> simp [Cond.value, e, hu] at h ⊢ <;> first | exact h | (subst h; rfl)
theorem own_eqint {args : Array Value} {s : State} {a : Term} {idx : List Nat} {y : Int32} (h : (Cond.eq a (.int y)).value args s none s idx = some true) : a.eval args s none idx s = some (.int y) := by
  have hu : (Term.int y).eval args s none idx s = some (.int y) := rfl
  cases hv : a.eval args s none idx s with
  | none => simp [Cond.value, hv] at h
  | some v => cases v <;> simp [Cond.value, hv, hu] at h ⊢ <;> first | exact h | (subst h; rfl)
theorem own_eqref {args : Array Value} {s : State} {a u : Term} {idx : List Nat} {y : Addr} (h : (Cond.eq a u).value args s none s idx = some true) (hu : u.eval args s none idx s = some (.ref y)) : a.eval args s none idx s = some (.ref y) := by
  cases hv : a.eval args s none idx s with
  | none => simp [Cond.value, hv] at h
  | some v => cases v <;> simp [Cond.value, hv, hu] at h ⊢ <;> first | exact h | (subst h; rfl)
theorem own_eqlong {args : Array Value} {s : State} {a u : Term} {idx : List Nat} {y : Int64} (h : (Cond.eq a u).value args s none s idx = some true) (hu : u.eval args s none idx s = some (.long y)) : a.eval args s none idx s = some (.long y) := by
  cases hv : a.eval args s none idx s with
  | none => simp [Cond.value, hv] at h
  | some v => cases v <;> simp [Cond.value, hv, hu] at h ⊢ <;> first | exact h | (subst h; rfl)
theorem own_len {args : Array Value} {s : State} {t : Term} {wA : Addr} {cl : Cell} {ty : FieldType} {z : Int32} (ev : t.eval args s none [] s = some (.ref wA)) (A : Arr s s.heap wA cl ty) (h : (Cond.eq (.length t) (.int z)).value args s none s [] = some true) : cl.slots.size = z.toNatClampNeg := by
  have e := own_eqint h
  have hA : s.arrayAt? wA = some cl := IntBox.arrayAt_of A.1 A.2.1 A.2.2
  by_cases q : cl.slots.size < 2 ^ 31
  · rw [len_f ev hA q] at e
    have e2 : cl.slots.size.toInt32 = z := Value.int.inj (Option.some.inj e)
    rw [← e2]
    simp only [Int32.toNatClampNeg, len_toInt q]; rfl
  · simp [Term.eval, ev, hA] at e
    omega
theorem own_at {args : Array Value} {s : State} {t u : Term} {wA x : Addr} {cl : Cell} {ty : FieldType} {j : Int32} {i : Nat} (hi : j.toNatClampNeg = i) (ev : t.eval args s none [] s = some (.ref wA)) (hu : u.eval args s none [] s = some (.ref x)) (A : Arr s s.heap wA cl ty) (h : (Cond.eq (.elem t (.int j)) u).value args s none s [] = some true) : cl.slots[i]? = some (.ref x) := by
  have e := own_eqref h hu
  have hA : s.arrayAt? wA = some cl := IntBox.arrayAt_of A.1 A.2.1 A.2.2
  have hj : (Term.int j).eval args s none [] s = some (.int j) := rfl
  by_cases n : j < 0
  · simp [Term.eval, ev, hA, n] at e
  · rw [elem_f ev hj hA n, hi] at e
    exact e
set_option maxRecDepth 65536 in
set_option maxHeartbeats 40000000 in
theorem comes_1 {Post : Tables → Env → Array Value → State → Outcome → State → Prop} (hpost : ∀ tb e args s v u, (limb_1_1.after args s (.returned v) u = true ∧ limb_1_2.after args s (.returned v) u = true ∧ True) → FrameEnd s (.returned v) u (Jvm.fieldLocs frame_1_writes args s ++ Jvm.arrayLocs frame_1_arrays args s ++ Jvm.staticLocs frame_1_statics s) 0 0 → Post tb e args s (.returned v) u) :
    ArmFor flags0 classFile x code maxLocals ret World_1 tables_1 room_1 Calls_1 rest_1 Pre_1 Post := by
  intro l hfl _ _ p e ha hc hk s m args below hf hA hF happ hP
  obtain ⟨hcalls, hrest, hpre⟩ := hP
  obtain ⟨-, -, -, hnamed, -, -, -, hat⟩ := (Spec.applies_iff hf).mp happ
  obtain ⟨hg, hn⟩ := and_e (Cond.before_iff.mp (show (Jvm.Cond.and given_1 narrow_1).before args s = true from hpre))
  obtain ⟨g5, g6⟩ := and_e hg
  obtain ⟨g7, g8⟩ := and_e g6
  obtain ⟨w0, w1, rfl⟩ : ∃ w0 w1 : Value, args = #[w0, w1] := by
    have hs : args.size = 2 := by simpa [Cond.value, given_1] using g5
    obtain ⟨L⟩ := args
    match L, hs with
    | [w0, w1], _ => exact ⟨w0, w1, rfl⟩
  have hw := fun d (hd : d ∈ tables_1) => atoms_spec (ws := Jvm.Cond.code x code maxLocals ret :: tables_1) hat d (List.mem_cons_of_mem _ hd)
  have hfit : Fit s := fun {y c} hc i hi => by
    obtain ⟨ha, rfl⟩ := Array.getElem?_eq_some_iff.mp hc
    have q := List.all_eq_true.mp ((Array.all_eq_true_iff_forall_mem.mp hF) _ (Array.getElem_mem ha)) i (List.mem_range.mpr hi)
    simpa [Array.getElem?_eq_getElem hi] using q
  obtain ⟨i0, ei0⟩ := is_v g7
  obtain rfl : w0 = (.int i0) := Option.some.inj ei0
  obtain ⟨i1, ei1⟩ := is_v g8
  obtain rfl : w1 = (.int i1) := Option.some.inj ei1
  obtain ⟨nn0, mm0⟩ := and_e hn
  obtain ⟨wA, evA⟩ := arr_v nn0
  have S_ALL := Sta.start evA (Or.inr ⟨(hw _ (List.mem_of_getElem? (i := 2) rfl)), (hw _ (List.mem_of_getElem? (i := 5) rfl))⟩)
  obtain ⟨cl, Ar⟩ := Arr.start evA nn0
  obtain ⟨nn1, mm1⟩ := and_e mm0
  have Sz := own_len evA Ar nn1
  obtain ⟨nn2, mm2⟩ := and_e mm1
  obtain ⟨w_PRODUCE, ev_PRODUCE⟩ := exa_v nn2
  have S_PRODUCE := Sta.start ev_PRODUCE (Or.inr ⟨(hw _ (List.mem_of_getElem? (i := 2) rfl)), (hw _ (List.mem_of_getElem? (i := 6) rfl))⟩)
  obtain ⟨nn3, mm3⟩ := and_e mm2
  have hat0 := own_at (i := 0) (by decide) evA ev_PRODUCE Ar nn3
  obtain ⟨nn4, mm4⟩ := and_e mm3
  have K_PRODUCE := Fld.start (own_fldint nn4 ev_PRODUCE)
  obtain ⟨nn5, mm5⟩ := and_e mm4
  obtain ⟨w_FETCH, ev_FETCH⟩ := exa_v nn5
  have S_FETCH := Sta.start ev_FETCH (Or.inr ⟨(hw _ (List.mem_of_getElem? (i := 2) rfl)), (hw _ (List.mem_of_getElem? (i := 14) rfl))⟩)
  obtain ⟨nn6, mm6⟩ := and_e mm5
  have hat1 := own_at (i := 1) (by decide) evA ev_FETCH Ar nn6
  obtain ⟨nn7, mm7⟩ := and_e mm6
  have K_FETCH := Fld.start (own_fldint nn7 ev_FETCH)
  obtain ⟨nn8, mm8⟩ := and_e mm7
  obtain ⟨w_LIST_OFFSETS, ev_LIST_OFFSETS⟩ := exa_v nn8
  have S_LIST_OFFSETS := Sta.start ev_LIST_OFFSETS (Or.inr ⟨(hw _ (List.mem_of_getElem? (i := 2) rfl)), (hw _ (List.mem_of_getElem? (i := 15) rfl))⟩)
  obtain ⟨nn9, mm9⟩ := and_e mm8
  have hat2 := own_at (i := 2) (by decide) evA ev_LIST_OFFSETS Ar nn9
  obtain ⟨nn10, mm10⟩ := and_e mm9
  have K_LIST_OFFSETS := Fld.start (own_fldint nn10 ev_LIST_OFFSETS)
  obtain ⟨nn11, mm11⟩ := and_e mm10
  obtain ⟨w_METADATA, ev_METADATA⟩ := exa_v nn11
  have S_METADATA := Sta.start ev_METADATA (Or.inr ⟨(hw _ (List.mem_of_getElem? (i := 2) rfl)), (hw _ (List.mem_of_getElem? (i := 16) rfl))⟩)
  obtain ⟨nn12, mm12⟩ := and_e mm11
  have hat3 := own_at (i := 3) (by decide) evA ev_METADATA Ar nn12
  obtain ⟨nn13, mm13⟩ := and_e mm12
  have K_METADATA := Fld.start (own_fldint nn13 ev_METADATA)
  obtain ⟨nn14, mm14⟩ := and_e mm13
  obtain ⟨w_API_VERSIONS, ev_API_VERSIONS⟩ := exa_v nn14
  have S_API_VERSIONS := Sta.start ev_API_VERSIONS (Or.inr ⟨(hw _ (List.mem_of_getElem? (i := 2) rfl)), (hw _ (List.mem_of_getElem? (i := 17) rfl))⟩)
  obtain ⟨nn15, mm15⟩ := and_e mm14
  have hat4 := own_at (i := 4) (by decide) evA ev_API_VERSIONS Ar nn15
  have K_API_VERSIONS := Fld.start (own_fldint mm15 ev_API_VERSIONS)
  obtain ⟨n, o, h1, h2, h3, _, L, rfl, ⟨rfl, N⟩, hq⟩ := rm0 l s _ hw tables_1 i0 i1 w_API_VERSIONS w_METADATA w_LIST_OFFSETS w_FETCH w_PRODUCE wA cl s.heap s.heap.size (Nat.le_refl _) S_ALL Ar Sz hat0 hat1 hat2 hat3 hat4 K_PRODUCE K_FETCH K_LIST_OFFSETS K_METADATA K_API_VERSIONS S_PRODUCE S_FETCH S_LIST_OFFSETS S_METADATA S_API_VERSIONS p e ha hc hk s m _ below hf ((Spec.applies_iff_loose hf).mp happ).1 ⟨rfl, State.Warmed39.refl s, rfl⟩ trivial
  refine ⟨n, _, h1, h2, h3, hpost _ _ _ _ _ _ ⟨Cond.after_iff.mpr rfl, Cond.after_iff.mpr (eq_i res_at (Term.int_eval (1)) rfl), trivial⟩ ⟨hq.1, hq.2.1, (hq.2.2.sift fun y hy => Or.inr (N y hy)).mono (by decide) (by decide)⟩⟩
theorem main_1_1 : Claimed_1_1 := comes_1 fun _ _ _ _ _ _ h hF => ⟨h.1, hF⟩
theorem main_1_2 : Claimed_1_2 := comes_1 fun _ _ _ _ _ _ h hF => ⟨h.2.1, hF⟩
end Jvm.Pilot.@@N@@
namespace Jvm.Pilot.@@N@@
open Jvm Jvm.ClassFile Sem Op Lib Jvm.Free Jvm.Stand Jvm.Pilot.@@N@@.Jvm.D
/-! MADE BY PROGRAM (witnessworld.py) out of the Statement's table words and the real class files: 13 classes; the members and pool entries that the words name. The judged class is class 1, her method 1. -/
namespace start1
open Jvm.ClassFile
def u (s : String) : CpInfo := .utf8 (stringToUtf16 s)
/-- a pool by its gaps: so many unusable entries, then the entry; so many at the end -/
def gap : Nat → List CpInfo → List CpInfo
  | 0, r => r
  | n + 1, r => .unusable :: gap n r
def poolList (es : List (Nat × CpInfo)) (last : Nat) : List CpInfo := es.foldr (fun e r => gap e.1 (e.2 :: r)) (gap last [])
def pool (es : List (Nat × CpInfo)) (last : Nat) : Array CpInfo := ⟨poolList es last⟩
def fileOf (pool : Array CpInfo) (this : Nat) (attrs : Array Attribute := #[]) (ms : Array MethodInfo := #[]) (fl : Nat := 33) (sup : Nat := 0) (ifs : Array Nat := #[]) (fds : Array FieldInfo := #[]) : ClassFile where
  minorVersion := 0
  majorVersion := 65
  constantPool := pool
  accessFlags := fl
  thisClass := this
  superClass := sup
  interfaces := ifs
  fields := fds
  methods := ms
  attributes := attrs
def plain (name : String) (sup : Option ClassId) : Class where
  name := name
  kind := .ordinary
  loader := none
  accessFlags := 33
  super := sup
  interfaces := #[]
  cf := none
  fields := #[]
  methods := #[]
  instanceTypes := #[]
  staticTypes := #[]
  resolved := #[]
  callSites := []
  init := .initialized
  statics := none
  mirror := none

def pool0 : Array CpInfo := pool [(5, u "<init>"), (0, u "()V"), (1, .class_ 10), (1, u "java/lang/Object")] 113

def k0m0 : Method := { name := "<init>", desc := "()V", sig := { parameters := [], returnType := none }, accessFlags := 1, code := none }
/-- java/lang/Object -/
def k0 : Class := { plain "java/lang/Object" none with
  accessFlags := 33
  interfaces := #[]
  cf := some (fileOf pool0 8 #[] #[{ accessFlags := 1, nameIndex := 5, descriptorIndex := 6, attributes := #[] }] 33 0 #[] #[])
  fields := #[]
  methods := #[k0m0]
  instanceTypes := #[]
  staticTypes := #[]
  resolved := Array.replicate 124 none
  statics := none }

def pool1 : Array CpInfo := pool [(2, .class_ 4), (1, u "java/lang/Object"), (0, u "<init>"), (0, u "()V"), (0, .methodref 8 9), (0, .class_ 10), (0, .nameAndType 11 12), (0, u "com/example/recordframe/recordframe/server/Api"), (0, u "of"), (0, u "(S)Lcom/example/recordframe/recordframe/server/Api;"), (0, .methodref 14 15), (0, .class_ 16), (0, .nameAndType 17 12), (0, u "com/example/recordframe/recordframe/server/ApiOfPinLaw"), (0, u "expected"), (0, .fieldref 8 19), (0, .nameAndType 20 21), (0, u "PRODUCE"), (0, u "Lcom/example/recordframe/recordframe/server/Api;"), (0, .fieldref 8 23), (0, .nameAndType 24 21), (0, u "FETCH"), (0, .fieldref 8 26), (0, .nameAndType 27 21), (0, u "LIST_OFFSETS"), (0, .fieldref 8 29), (0, .nameAndType 30 21), (0, u "METADATA"), (0, .fieldref 8 32), (0, .nameAndType 33 21), (0, u "API_VERSIONS"), (2, u "law"), (0, u "(II)Z")] 3

def k1m0 : Method := { name := "<init>", desc := "()V", sig := { parameters := [], returnType := none }, accessFlags := 1, code := none }
def k1c1 : Code := { maxStack := 2, maxLocals := 4, code := code, exceptionTable := #[], attributes := #[] }
def k1m1 : Method := { name := "law", desc := "(II)Z", sig := { parameters := [.int, .int], returnType := some .boolean }, accessFlags := 9, code := some k1c1 }
def k1c2 : Code := { maxStack := 2, maxLocals := 1, code := method_3_code, exceptionTable := #[], attributes := #[] }
def k1m2 : Method := { name := "expected", desc := "(S)Lcom/example/recordframe/recordframe/server/Api;", sig := { parameters := [.short], returnType := some (.object "com/example/recordframe/recordframe/server/Api") }, accessFlags := 10, code := some k1c2 }
/-- com/example/recordframe/recordframe/server/ApiOfPinLaw -/
def k1 : Class := { plain "com/example/recordframe/recordframe/server/ApiOfPinLaw" (some 0) with
  accessFlags := 49
  interfaces := #[]
  cf := some (fileOf pool1 14 #[] #[{ accessFlags := 1, nameIndex := 5, descriptorIndex := 6, attributes := #[] }, { accessFlags := 9, nameIndex := 36, descriptorIndex := 37, attributes := #[] }, { accessFlags := 10, nameIndex := 17, descriptorIndex := 12, attributes := #[] }] 49 2 #[] #[])
  fields := #[]
  methods := #[k1m0, k1m1, k1m2]
  instanceTypes := #[]
  staticTypes := #[]
  resolved := Array.replicate 41 none
  statics := none }

def pool2 : Array CpInfo := pool [(1, .class_ 2), (0, u "java/lang/constant/Constable"), (0, .class_ 4), (0, u "java/lang/Object")] 6

/-- java/lang/constant/Constable -/
def k2 : Class := { plain "java/lang/constant/Constable" (some 0) with
  accessFlags := 1537
  interfaces := #[]
  cf := some (fileOf pool2 1 #[] #[] 1537 3 #[] #[])
  fields := #[]
  methods := #[]
  instanceTypes := #[]
  staticTypes := #[]
  resolved := Array.replicate 11 none
  statics := none }

def pool3 : Array CpInfo := pool [(1, .class_ 2), (0, u "java/lang/Comparable"), (0, .class_ 4), (0, u "java/lang/Object")] 7

/-- java/lang/Comparable -/
def k3 : Class := { plain "java/lang/Comparable" (some 0) with
  accessFlags := 1537
  interfaces := #[]
  cf := some (fileOf pool3 1 #[] #[] 1537 3 #[] #[])
  fields := #[]
  methods := #[]
  instanceTypes := #[]
  staticTypes := #[]
  resolved := Array.replicate 12 none
  statics := none }

def pool4 : Array CpInfo := pool [(1, .class_ 2), (0, u "java/io/Serializable"), (0, .class_ 4), (0, u "java/lang/Object")] 2

/-- java/io/Serializable -/
def k4 : Class := { plain "java/io/Serializable" (some 0) with
  accessFlags := 1537
  interfaces := #[]
  cf := some (fileOf pool4 1 #[] #[] 1537 3 #[] #[])
  fields := #[]
  methods := #[]
  instanceTypes := #[]
  staticTypes := #[]
  resolved := Array.replicate 7 none
  statics := none }

def pool5 : Array CpInfo := pool [(2, .class_ 4), (1, u "java/lang/Enum"), (0, u "name"), (0, u "Ljava/lang/String;"), (2, u "ordinal"), (0, u "I"), (1, .class_ 14), (1, u "java/lang/Object"), (4, u "hash"), (86, .class_ 108), (1, u "java/lang/Enum$EnumDesc"), (2, .class_ 112), (0, u "java/lang/constant/Constable"), (0, .class_ 114), (0, u "java/lang/Comparable"), (0, .class_ 116), (0, u "java/io/Serializable")] 87

/-- java/lang/Enum -/
def k5 : Class := { plain "java/lang/Enum" (some 0) with
  accessFlags := 1057
  interfaces := #[2, 3, 4]
  cf := some (fileOf pool5 2 #[.nestMembers #[106]] #[] 1057 12 #[111, 113, 115] #[{ accessFlags := 18, nameIndex := 5, descriptorIndex := 6, attributes := #[] }, { accessFlags := 18, nameIndex := 9, descriptorIndex := 10, attributes := #[] }, { accessFlags := 2, nameIndex := 19, descriptorIndex := 10, attributes := #[] }])
  fields := #[{ name := "name", type := (.object "java/lang/String"), accessFlags := 18, slot := 0, constantValue := 0 }, { name := "ordinal", type := .int, accessFlags := 18, slot := 1, constantValue := 0 }, { name := "hash", type := .int, accessFlags := 2, slot := 2, constantValue := 0 }]
  methods := #[]
  instanceTypes := #[(.object "java/lang/String"), .int, .int]
  staticTypes := #[]
  resolved := Array.replicate 204 none
  statics := none }

def pool6 : Array CpInfo := pool [(1, .class_ 2), (0, u "com/example/recordframe/recordframe/server/Api"), (2, u "PRODUCE"), (0, u "Lcom/example/recordframe/recordframe/server/Api;"), (2, u "FETCH"), (2, u "LIST_OFFSETS"), (2, u "METADATA"), (2, u "API_VERSIONS"), (2, u "$VALUES"), (0, u "[Lcom/example/recordframe/recordframe/server/Api;"), (6, .class_ 31), (1, u "java/lang/Enum"), (6, .fieldref 1 39), (0, .nameAndType 40 41), (0, u "key"), (0, u "S"), (2, u "lowest"), (2, u "highest"), (0, .fieldref 1 49), (0, .nameAndType 50 22), (0, u "ALL"), (70, u "of"), (0, u "(S)Lcom/example/recordframe/recordframe/server/Api;")] 26

def k6c0 : Code := { maxStack := 2, maxLocals := 5, code := prog_54_method_4_code, exceptionTable := #[], attributes := #[] }
def k6m0 : Method := { name := "of", desc := "(S)Lcom/example/recordframe/recordframe/server/Api;", sig := { parameters := [.short], returnType := some (.object "com/example/recordframe/recordframe/server/Api") }, accessFlags := 8, code := some k6c0 }
/-- com/example/recordframe/recordframe/server/Api -/
def k6 : Class := { plain "com/example/recordframe/recordframe/server/Api" (some 5) with
  accessFlags := 16433
  interfaces := #[]
  cf := some (fileOf pool6 1 #[] #[{ accessFlags := 8, nameIndex := 121, descriptorIndex := 122, attributes := #[] }] 16433 29 #[] #[{ accessFlags := 16409, nameIndex := 5, descriptorIndex := 6, attributes := #[] }, { accessFlags := 16409, nameIndex := 9, descriptorIndex := 6, attributes := #[] }, { accessFlags := 16409, nameIndex := 12, descriptorIndex := 6, attributes := #[] }, { accessFlags := 16409, nameIndex := 15, descriptorIndex := 6, attributes := #[] }, { accessFlags := 16409, nameIndex := 18, descriptorIndex := 6, attributes := #[] }, { accessFlags := 26, nameIndex := 50, descriptorIndex := 22, attributes := #[] }, { accessFlags := 18, nameIndex := 40, descriptorIndex := 41, attributes := #[] }, { accessFlags := 18, nameIndex := 44, descriptorIndex := 41, attributes := #[] }, { accessFlags := 18, nameIndex := 47, descriptorIndex := 41, attributes := #[] }, { accessFlags := 4122, nameIndex := 21, descriptorIndex := 22, attributes := #[] }])
  fields := #[{ name := "PRODUCE", type := (.object "com/example/recordframe/recordframe/server/Api"), accessFlags := 16409, slot := 0, constantValue := 0 }, { name := "FETCH", type := (.object "com/example/recordframe/recordframe/server/Api"), accessFlags := 16409, slot := 1, constantValue := 0 }, { name := "LIST_OFFSETS", type := (.object "com/example/recordframe/recordframe/server/Api"), accessFlags := 16409, slot := 2, constantValue := 0 }, { name := "METADATA", type := (.object "com/example/recordframe/recordframe/server/Api"), accessFlags := 16409, slot := 3, constantValue := 0 }, { name := "API_VERSIONS", type := (.object "com/example/recordframe/recordframe/server/Api"), accessFlags := 16409, slot := 4, constantValue := 0 }, { name := "ALL", type := (.array (.object "com/example/recordframe/recordframe/server/Api")), accessFlags := 26, slot := 5, constantValue := 0 }, { name := "key", type := .short, accessFlags := 18, slot := 3, constantValue := 0 }, { name := "lowest", type := .short, accessFlags := 18, slot := 4, constantValue := 0 }, { name := "highest", type := .short, accessFlags := 18, slot := 5, constantValue := 0 }, { name := "$VALUES", type := (.array (.object "com/example/recordframe/recordframe/server/Api")), accessFlags := 4122, slot := 6, constantValue := 0 }]
  methods := #[k6m0]
  instanceTypes := #[(.object "java/lang/String"), .int, .int, .short, .short, .short]
  staticTypes := #[(.object "com/example/recordframe/recordframe/server/Api"), (.object "com/example/recordframe/recordframe/server/Api"), (.object "com/example/recordframe/recordframe/server/Api"), (.object "com/example/recordframe/recordframe/server/Api"), (.object "com/example/recordframe/recordframe/server/Api"), (.array (.object "com/example/recordframe/recordframe/server/Api")), (.array (.object "com/example/recordframe/recordframe/server/Api"))]
  resolved := Array.replicate 149 none
  statics := some 0 }

def pool7 : Array CpInfo := pool [(1, u "java/lang/Cloneable"), (0, .class_ 1), (0, u "java/lang/Object"), (0, .class_ 3)] 3

/-- java/lang/Cloneable -/
def k7 : Class := { plain "java/lang/Cloneable" (some 0) with
  accessFlags := 1537
  interfaces := #[]
  cf := some (fileOf pool7 2 #[] #[] 1537 4 #[] #[])
  fields := #[]
  methods := #[]
  instanceTypes := #[]
  staticTypes := #[]
  resolved := Array.replicate 8 none
  statics := none }

/-- the primitive byte -/
def k8 : Class := { plain "byte" none with kind := .primitive 'B', accessFlags := 0x411 }
/-- [B -/
def k9 : Class := { plain "[B" (some 0) with kind := .array 8 .byte, interfaces := #[7, 4], accessFlags := 1041 }

/-- the primitive int -/
def k10 : Class := { plain "int" none with kind := .primitive 'I', accessFlags := 0x411 }
/-- [I -/
def k11 : Class := { plain "[I" (some 0) with kind := .array 10 .int, interfaces := #[7, 4], accessFlags := 1041 }

/-- [Lcom/example/recordframe/recordframe/server/Api; -/
def k12 : Class := { plain "[Lcom/example/recordframe/recordframe/server/Api;" (some 0) with kind := .array 6 (.object "com/example/recordframe/recordframe/server/Api"), interfaces := #[7, 4], accessFlags := 1041 }

def heap : Heap := #[{ cls := 6, slots := #[.ref 2, .ref 3, .ref 4, .ref 5, .ref 6, .ref 1, .null], vm := .statics 6 },
  { cls := 12, slots := #[.ref 2, .ref 3, .ref 4, .ref 5, .ref 6], vm := .none },
  { cls := 6, slots := #[.null, .int 0, .int 0, .int 0, .int 0, .int 0], vm := .none },
  { cls := 6, slots := #[.null, .int 0, .int 0, .int 1, .int 0, .int 0], vm := .none },
  { cls := 6, slots := #[.null, .int 0, .int 0, .int 2, .int 0, .int 0], vm := .none },
  { cls := 6, slots := #[.null, .int 0, .int 0, .int 3, .int 0, .int 0], vm := .none },
  { cls := 6, slots := #[.null, .int 0, .int 0, .int 18, .int 0, .int 0], vm := .none }]
def classes : Array Class := #[k0, k1, k2, k3, k4, k5, k6, k7, k8, k9, k10, k11, k12]
def interned : List (Array UInt16 × Addr) := []
def slotsUsed : Nat := 42
def theMethod : MethodId := ⟨1, 1⟩
def args0 : Array Value := #[.int 5, .int 1]
def aboutOver (below : List Frame) : State where
  vm := { classes := classes, interned := interned.toArray }
  heap := heap
  slotsUsed := slotsUsed
  threads := #[{ frames := .invoking theMethod args0 :: below }]
def below0 : List Frame := [.native { method := ⟨0, 0⟩, args := #[] }]
def about1 : State := aboutOver below0
def p0 : Program := .bare "" "" ""
def e0 : Env := launch0.env 0 0 0
theorem w_frames : about1.frames = Frame.invoking theMethod args0 :: below0 := rfl
set_option maxRecDepth 65536 in
theorem w_args : argsFit about1.vm theMethod args0 = true := by decide +kernel
set_option maxRecDepth 65536 in
theorem w_heap : heapFits about1 = true := by decide +kernel
set_option maxRecDepth 65536 in
theorem w_runnable : about1.curStatus? = some .runnable := by decide +kernel
set_option maxRecDepth 65536 in
theorem w_alone : about1.alone = true := by decide +kernel
set_option maxRecDepth 65536 in
theorem w_named : about1.methodNamed? x = some theMethod := by decide +kernel
set_option maxRecDepth 65536 in
theorem w_hears : about1.hears theMethod below0 = true := by decide +kernel
set_option maxRecDepth 65536 in
theorem w_ripe : about1.ripe theMethod args0 below0 = true := by decide +kernel
theorem w_running : about1.status = .running := rfl
set_option maxRecDepth 65536 in
theorem w_room : about1.hasRoom e0.platform room_1 = true :=
  launch0.hasRoom_least _ room_1 (by decide +kernel) (by decide +kernel) (by decide +kernel) (by decide +kernel) (by decide +kernel) (by decide +kernel)
theorem allAtoms_all (ts : List Jvm.Cond) (a : Array Jvm.Value) (st : Jvm.State) : (allAtoms ts).before a st = ts.all (fun c => c.before a st) := by
  induction ts with
  | nil => rfl
  | cons c t ih =>
    show (Jvm.Cond.and c (allAtoms t)).before a st = _
    rw [Jvm.Cond.before_and, ih, List.all_cons]
def words1 : List Jvm.Cond := Jvm.Cond.code x code maxLocals ret :: tables_1
/-- a 'code' word, met by the world's own term for the bytes: nothing is compared byte by byte -/
theorem code_word {y : MethodName} {bytes : ByteArray} {mx : Nat} {rt : Option FieldType} {a : Array Value} {s : State} {m : MethodId} {meth : Method} {c : Code} (h1 : s.methodNamed? y = some m) (h2 : s.vm.method? m = some meth) (h3 : meth.code = some c) (h4 : c.code = bytes)
    (h5 : (c.maxLocals == mx && c.exceptionTable.isEmpty && decide (c.maxStack ≤ mostOperands) && decide (meth.sig.returnType = rt) && !meth.locks && decide (parseMethodDescriptor y.desc = some meth.sig)) = true) : (Jvm.Cond.code y bytes mx rt).before a s = true := by
  simp only [Bool.and_eq_true, beq_iff_eq, Bool.not_eq_true', decide_eq_true_eq] at h5
  obtain ⟨⟨⟨⟨⟨g1, g2⟩, g3⟩, g4⟩, g5⟩, g6⟩ := h5
  simp [Cond.before, Cond.holds, Cond.value, h1, h2, h3, h4, g1, g2, g3, g4, g5, g6]
def isCode : Jvm.Cond → Bool
  | .code _ _ _ _ => true
  | _ => false
theorem all_split {L : List Jvm.Cond} {P : Jvm.Cond → Bool} (h1 : L.all (fun c => isCode c || P c) = true) (h2 : ∀ c ∈ L.filter isCode, P c = true) : L.all P = true := by
  refine List.all_eq_true.mpr fun c hc => ?_
  have h := List.all_eq_true.mp h1 c hc
  rcases Bool.eq_false_or_eq_true (isCode c) with hi | hi
  · exact h2 c (List.mem_filter.mpr ⟨hc, hi⟩)
  · simpa [hi] using h
set_option maxRecDepth 65536 in
theorem w_c0 : (Jvm.Cond.code x code maxLocals ret).before args0 about1 = true := code_word (m := ⟨1, 1⟩) (meth := k1m1) (c := k1c1) (by decide +kernel) rfl rfl rfl (by decide +kernel)
set_option maxRecDepth 65536 in
theorem w_c1 : (Jvm.Cond.code ({ cls := "com/example/recordframe/recordframe/server/Api", name := "of", desc := "(S)Lcom/example/recordframe/recordframe/server/Api;" } : Jvm.MethodName) prog_54_method_4_code (5 : Nat) (Option.some (Jvm.ClassFile.FieldType.object "com/example/recordframe/recordframe/server/Api"))).before args0 about1 = true := code_word (m := ⟨6, 0⟩) (meth := k6m0) (c := k6c0) (by decide +kernel) rfl rfl rfl (by decide +kernel)
set_option maxRecDepth 65536 in
theorem w_c2 : (Jvm.Cond.code ({ cls := "com/example/recordframe/recordframe/server/ApiOfPinLaw", name := "expected", desc := "(S)Lcom/example/recordframe/recordframe/server/Api;" } : Jvm.MethodName) method_3_code (1 : Nat) (Option.some (Jvm.ClassFile.FieldType.object "com/example/recordframe/recordframe/server/Api"))).before args0 about1 = true := code_word (m := ⟨1, 2⟩) (meth := k1m2) (c := k1c2) (by decide +kernel) rfl rfl rfl (by decide +kernel)
def codes1 : List Jvm.Cond := [Jvm.Cond.code x code maxLocals ret, Jvm.Cond.code ({ cls := "com/example/recordframe/recordframe/server/Api", name := "of", desc := "(S)Lcom/example/recordframe/recordframe/server/Api;" } : Jvm.MethodName) prog_54_method_4_code (5 : Nat) (Option.some (Jvm.ClassFile.FieldType.object "com/example/recordframe/recordframe/server/Api")), Jvm.Cond.code ({ cls := "com/example/recordframe/recordframe/server/ApiOfPinLaw", name := "expected", desc := "(S)Lcom/example/recordframe/recordframe/server/Api;" } : Jvm.MethodName) method_3_code (1 : Nat) (Option.some (Jvm.ClassFile.FieldType.object "com/example/recordframe/recordframe/server/Api"))]
set_option maxRecDepth 65536 in
theorem codes_eq : words1.filter isCode = codes1 := rfl
theorem w_codes : ∀ c ∈ words1.filter isCode, c.before args0 about1 = true := by
  rw [codes_eq]
  intro c hc
  simp only [codes1, List.mem_cons, List.not_mem_nil, or_false] at hc
  rcases hc with rfl | rfl | rfl
  · exact w_c0
  · exact w_c1
  · exact w_c2
set_option maxRecDepth 65536 in
theorem w_t1 : words1.all (fun c => isCode c || c.before args0 about1) = true := by decide +kernel
theorem w_tables : (allAtoms (Jvm.Cond.code x code maxLocals ret :: tables_1)).before args0 about1 = true := by
  rw [allAtoms_all]
  show words1.all (fun c => c.before args0 about1) = true
  refine all_split ?_ w_codes
  rw [w_t1]
set_option maxRecDepth 65536 in
theorem w_case : (Jvm.Cond.and given_1 narrow_1).before args0 about1 = true := by decide +kernel
theorem w_applies : (headSpec (Jvm.Cond.code x code maxLocals ret :: tables_1) room_1).applies x e0.platform about1 = true :=
  (Spec.applies_iff w_frames).mpr ⟨w_running, w_runnable, w_alone, w_named, w_hears, w_ripe, w_room, w_tables⟩
theorem atStart : AtStart classFile x code maxLocals ret World_1 tables_1 room_1 Calls_1 rest_1 Pre_1 launch0 p0 e0 about1 theMethod args0 below0 :=
  ⟨lists_1, trivial, launch0.admits_env _ _ _, launch0.least_env, fairChoices_fair.cas, fairChoices_fair.clock, w_frames, w_args, w_heap, w_applies, trivial, trivial, w_case⟩
end start1
theorem witness_1 : WitnessClaimed_1 := ⟨start1.p0, start1.e0, start1.about1, start1.theMethod, start1.args0, start1.below0, start1.atStart⟩
end Jvm.Pilot.@@N@@
