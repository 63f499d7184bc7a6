import JvmDerived
import JvmDerived.Pilot.@@N@@Statement
import JvmDerived.Pilot.@@N@@Code
set_option linter.unusedVariables false
set_option linter.unusedSimpArgs false
@@BLOCK:NumsL.lean.txt@@
namespace Jvm.RoadKit
open Sem ClassFile Op Lib Jvm.Stand Jvm.Free Jvm.LawKit
section New
variable {p : Program} {l : Launch} {e : Env} {R : Room} {s : State} {m : MethodId} {args : Array Value} {below : List Frame} {meth : Method} {c : Code} {T : State} {locs : List Loc} {cells slots : Nat}
theorem retI (X : Stand p l e R s m args below meth c T locs cells slots) (hx : p.tables.exec = Jvm.exec) {pc : Nat} {Ls : Array Slot} {z : Int32} {rest : List Value} (hret : meth.sig.returnType = some .int) (hd : decode c.code pc = .ok (.ireturn, 1)) {fs : List Frame}
    (hl : ∀ (f : JFrame) (acts : List Action), f.method = m → f.locked = none → f.entered = [] → (doReturn e (T.setTop f) acts (some (.int z))).1 = T.setFrames fs) : Steps p.tables e below (T.setTop (mkF m pc Ls (.int z :: rest))) (T.setFrames fs) := by
  have hm' : T.vm.method? m = some meth := X.method'
  have hn : narrow .int (.int z) = .int z := rfl
  show Steps p.tables e below (T.setTop { method := m, pc := pc, locals := Ls, stack := _ :: rest, locked := none }) _
  jvm_step X.here [X.here.top, hx, hd, hm', hret, hn]
  first | (intro acts; rw [hl _ acts rfl rfl rfl]) | rw [hl _ _ rfl rfl rfl]
  exact Steps.refl _
end New
end Jvm.RoadKit
namespace Jvm.Pilot.@@N@@
open Jvm Jvm.ClassFile Sem Op Lib Jvm.Free Jvm.Stand Jvm.LawKit Jvm.RoadKit Bundle Jvm.Pilot.@@N@@.Jvm.D
theorem own_keep {h h' : Heap} (e : h' = h) : Keep h h' [] := e ▸ Keep.refl _ _
theorem own_ws0 {h0 : Heap} {ws : List Addr} : ∀ x ∈ ([] : List Addr), x ∈ ws ∨ h0.size ≤ x := fun _ q => nomatch q
theorem own_ws1 {h0 : Heap} {ws : List Addr} {a : Addr} (q : h0.size ≤ a) : ∀ x ∈ [a], x ∈ ws ∨ h0.size ≤ x := fun x hx => by cases List.mem_singleton.mp hx; exact Or.inr q
theorem own_wsIn {h0 : Heap} {a : Addr} : ∀ x ∈ [a], x ∈ [a] ∨ h0.size ≤ x := fun x hx => Or.inl hx
theorem own_nin {a b : Addr} (h : a ≠ b) : a ∉ [b] := fun q => h (List.mem_singleton.mp q)
theorem own_ne {a b n : Nat} (h : a < n) (e : b = n) : a ≠ b := by omega
theorem d1_0 : decode prog_12_method_2_code 0 = .ok (.getstatic 7, 3) := by decide +kernel
theorem d1_3 : decode prog_12_method_2_code 3 = .ok (.iload_n 0, 1) := by decide +kernel
theorem d1_4 : decode prog_12_method_2_code 4 = .ok (.bipush 15, 2) := by decide +kernel
theorem d1_6 : decode prog_12_method_2_code 6 = .ok (.iand, 1) := by decide +kernel
theorem d1_7 : decode prog_12_method_2_code 7 = .ok (.caload, 1) := by decide +kernel
theorem d1_8 : decode prog_12_method_2_code 8 = .ok (.ireturn, 1) := by decide +kernel
theorem pn_1 : plainName "com/example/varpack/varpack/Hex" = true := by first | (simp [plainName, overriddenIn]; done) | decide +kernel
theorem ef_1 (m : MethodId) (x0 : Int32) : entryFrame m #[(.int x0)] 1 = mkF m 0 #[.val (.int x0)] [] := by first | (simp [entryFrame, mkF, argsToLocals, Value.category]; done) | rfl
def Q1 (Z : State) (p1 : Int32) (w_DIGITS : Addr) (w4 : Int32) (cl_w2 : Cell) (h0 : Heap) (n0 : Nat) (v : Option Value) (h : Heap) (L : List Loc) : Prop := v = some (.int w4) ∧ Fr n0 L ∧ h = h0
set_option maxRecDepth 65536 in
set_option maxHeartbeats 40000000 in
theorem rm1 (l : Launch) (Z : State) (a0 : Array Value) (hw : ∀ d ∈ tables_1, d.before a0 Z = true) (ws : List Jvm.Cond) (p1 : Int32) (w_DIGITS : Addr) (w4 : Int32) (cl_w2 : Cell) (h0 : Heap) (n0 : Nat) (Z0 : n0 ≤ h0.size) (S_DIGITS : Sta Z h0 "com/example/varpack/varpack/Hex" "DIGITS" "[C" (.ref w_DIGITS)) (Ar_w2 : Arr Z h0 w_DIGITS cl_w2 .char) (hin7 : ¬ ((p1 &&& (15 : Int32)) < 0 ∨ cl_w2.slots.size ≤ ((p1 &&& (15 : Int32))).toNatClampNeg)) (hat7 : cl_w2.slots[((p1 &&& (15 : Int32))).toNatClampNeg]? = some (.int w4)) (hn : nar .char w4 = w4) :
    MetFree l (⟨"com/example/varpack/varpack/Hex", "digit", "(I)C"⟩ : MethodName) (head1 (Jvm.Cond.code (⟨"com/example/varpack/varpack/Hex", "digit", "(I)C"⟩ : MethodName) prog_12_method_2_code 1 (some .char) :: ws) ({ frames := 0, cells := 0, slots := 0, locals := 0 } : Room)) (fun a U => a = #[(.int p1)] ∧ Z.Warmed39 U.vm ∧ U.heap = h0) (fun _ _ _ _ _ => True) (fun _ U o U' => ∃ v L, o = .returned v ∧ Q1 Z p1 w_DIGITS w4 cl_w2 h0 n0 v U'.heap L ∧ FrameEnd U o U' L ({ frames := 0, cells := 0, slots := 0, locals := 0 } : Room).cells ({ frames := 0, cells := 0, slots := 0, locals := 0 } : Room).slots) := by
  refine MetFree.of_bodySF (plainFor_of_name pn_1) hisR ?_
  intro p e s m args below meth c s₁ Bd hml0 hP hK
  obtain ⟨rfl, hZ, hh⟩ := hP
  have hx := Bd.exec
  have hby := Bd.bytes
  have hml : c.maxLocals = 1 := hml0
  have hown : s.vm.findClass "com/example/varpack/varpack/Hex" = some m.cls := findClass_of_methodNamed Bd.named
  have hnm := (name_of_methodNamed Bd.named Bd.method).1
  have X0 : Stand p l e ({ frames := 0, cells := 0, slots := 0, locals := 0 } : Room) s m #[(.int p1)] below meth c s₁ [] 0 0 := Stand.of_body Bd
  have e0 : s₁.heap = h0 := by rw [← hh, Bd.state]; rfl
  have N0 := Fr.nil n0
  have pre0 : ∀ t, Steps p.tables e below (s₁.setTop (mkF m 0 #[.val (.int p1)] [])) t → Steps p.tables e below (s₁.setTop (entryFrame m #[(.int p1)] 1)) t := fun t k => castTop (ef_1 m p1) k
  -- 3. LAWS
  obtain ⟨T3, X3, e3, st3⟩ := getS2 X0 hx hZ hown (host := "") (Or.inl (hw _ (List.mem_of_getElem? (i := 4) rfl))) Via.refl e0 S_DIGITS (g := (mkF m 0 #[.val (.int p1)] [])) rfl (hb hby d1_0)
  obtain ⟨fs, hr, hrun, hended, hW, hsame⟩ := X3.leave (v := some (.int w4)) (fun h => by rw [Bd.returns] at h; cases h) (BodyLoose.notSynchronized Bd)
  refine ⟨_, _, pre0 _ ?_, hrun, hended, _, _, rfl, ?_, ⟨_, rfl⟩, hW, hsame.mono (by decide) (by decide)⟩
  -- 4. STEPS
  · show Steps p.tables e below (s₁.setTop (mkF m 0 #[.val (.int p1)] [])) _
    refine st3 _ ?_
    show Steps p.tables e below (T3.setTop (mkF m 3 #[.val (.int p1)] [(.ref w_DIGITS)])) _
    refine XS.iloadN X3.here hx rfl (hb hby d1_3) rfl ?_
    show Steps p.tables e below (T3.setTop (mkF m 4 #[.val (.int p1)] [(.int p1), (.ref w_DIGITS)])) _
    refine XS.bipush X3.here hx rfl (hb hby d1_4) ?_
    show Steps p.tables e below (T3.setTop (mkF m 6 #[.val (.int p1)] [(.int (15 : Int32)), (.int p1), (.ref w_DIGITS)])) _
    refine XS.iand X3.here hx rfl (hb hby d1_6) rfl ?_
    show Steps p.tables e below (T3.setTop (mkF m 7 #[.val (.int p1)] [(.int (p1 &&& (15 : Int32))), (.ref w_DIGITS)])) _
    refine X3.caload hx (j := (p1 &&& (15 : Int32))) (v := (.int w4)) (by rw [e3]; exact Ar_w2.1) (State.isArrayOf_alike hZ.alike Ar_w2.2.1) Ar_w2.2.2 hin7 hat7 (g := (mkF m 7 #[.val (.int p1)] [(.int (p1 &&& (15 : Int32))), (.ref w_DIGITS)])) rfl rfl (hb hby d1_7) _ ?_
    show Steps p.tables e below (T3.setTop (mkF m 8 #[.val (.int p1)] [(.int w4)])) _
    exact retN X3 hx (t := .char) Bd.returns (by simp) (hb hby d1_8) (by rw [hn]; exact hr)
  · show Q1 Z p1 w_DIGITS w4 cl_w2 h0 n0 _ T3.heap _
    rw [e3]
    exact ⟨rfl, N0, rfl⟩
theorem d2_0 : decode prog_12_method_3_code 0 = .ok (.iload_n 0, 1) := by decide +kernel
theorem d2_1 : decode prog_12_method_3_code 1 = .ok (.bipush 48, 2) := by decide +kernel
theorem d2_3 : decode prog_12_method_3_code 3 = .ok (.if_icmp .lt 14, 3) := by decide +kernel
theorem d2_17 : decode prog_12_method_3_code 17 = .ok (.iload_n 0, 1) := by decide +kernel
theorem d2_18 : decode prog_12_method_3_code 18 = .ok (.bipush 97, 2) := by decide +kernel
theorem d2_20 : decode prog_12_method_3_code 20 = .ok (.if_icmp .lt 17, 3) := by decide +kernel
theorem d2_37 : decode prog_12_method_3_code 37 = .ok (.iload_n 0, 1) := by decide +kernel
theorem d2_38 : decode prog_12_method_3_code 38 = .ok (.bipush 65, 2) := by decide +kernel
theorem d2_40 : decode prog_12_method_3_code 40 = .ok (.if_icmp .lt 17, 3) := by decide +kernel
theorem d2_57 : decode prog_12_method_3_code 57 = .ok (.iconst (-1), 1) := by decide +kernel
theorem d2_58 : decode prog_12_method_3_code 58 = .ok (.ireturn, 1) := by decide +kernel
theorem pn_2 : plainName "com/example/varpack/varpack/Hex" = true := by first | (simp [plainName, overriddenIn]; done) | decide +kernel
theorem ef_2 (m : MethodId) (x0 : Int32) : entryFrame m #[(.int x0)] 1 = mkF m 0 #[.val (.int x0)] [] := by first | (simp [entryFrame, mkF, argsToLocals, Value.category]; done) | rfl
theorem d2_43 : decode prog_12_method_3_code 43 = .ok (.iload_n 0, 1) := by decide +kernel
theorem d2_44 : decode prog_12_method_3_code 44 = .ok (.bipush 70, 2) := by decide +kernel
theorem d2_46 : decode prog_12_method_3_code 46 = .ok (.if_icmp .gt 11, 3) := by decide +kernel
theorem d2_49 : decode prog_12_method_3_code 49 = .ok (.iload_n 0, 1) := by decide +kernel
theorem d2_50 : decode prog_12_method_3_code 50 = .ok (.bipush 65, 2) := by decide +kernel
theorem d2_52 : decode prog_12_method_3_code 52 = .ok (.isub, 1) := by decide +kernel
theorem d2_53 : decode prog_12_method_3_code 53 = .ok (.bipush 10, 2) := by decide +kernel
theorem d2_55 : decode prog_12_method_3_code 55 = .ok (.iadd, 1) := by decide +kernel
theorem d2_56 : decode prog_12_method_3_code 56 = .ok (.ireturn, 1) := by decide +kernel
theorem d2_23 : decode prog_12_method_3_code 23 = .ok (.iload_n 0, 1) := by decide +kernel
theorem d2_24 : decode prog_12_method_3_code 24 = .ok (.bipush 102, 2) := by decide +kernel
theorem d2_26 : decode prog_12_method_3_code 26 = .ok (.if_icmp .gt 11, 3) := by decide +kernel
theorem d2_29 : decode prog_12_method_3_code 29 = .ok (.iload_n 0, 1) := by decide +kernel
theorem d2_30 : decode prog_12_method_3_code 30 = .ok (.bipush 97, 2) := by decide +kernel
theorem d2_32 : decode prog_12_method_3_code 32 = .ok (.isub, 1) := by decide +kernel
theorem d2_33 : decode prog_12_method_3_code 33 = .ok (.bipush 10, 2) := by decide +kernel
theorem d2_35 : decode prog_12_method_3_code 35 = .ok (.iadd, 1) := by decide +kernel
theorem d2_36 : decode prog_12_method_3_code 36 = .ok (.ireturn, 1) := by decide +kernel
theorem d2_6 : decode prog_12_method_3_code 6 = .ok (.iload_n 0, 1) := by decide +kernel
theorem d2_7 : decode prog_12_method_3_code 7 = .ok (.bipush 57, 2) := by decide +kernel
theorem d2_9 : decode prog_12_method_3_code 9 = .ok (.if_icmp .gt 8, 3) := by decide +kernel
theorem d2_12 : decode prog_12_method_3_code 12 = .ok (.iload_n 0, 1) := by decide +kernel
theorem d2_13 : decode prog_12_method_3_code 13 = .ok (.bipush 48, 2) := by decide +kernel
theorem d2_15 : decode prog_12_method_3_code 15 = .ok (.isub, 1) := by decide +kernel
theorem d2_16 : decode prog_12_method_3_code 16 = .ok (.ireturn, 1) := by decide +kernel
def own_f2 (p1 : Int32) : Int32 := (if p1 < (48 : Int32) then (if p1 < (97 : Int32) then (if p1 < (65 : Int32) then (-1 : Int32) else (if (70 : Int32) < p1 then (-1 : Int32) else ((p1 - (65 : Int32)) + (10 : Int32)))) else (if (102 : Int32) < p1 then (if p1 < (65 : Int32) then (-1 : Int32) else (if (70 : Int32) < p1 then (-1 : Int32) else ((p1 - (65 : Int32)) + (10 : Int32)))) else ((p1 - (97 : Int32)) + (10 : Int32)))) else (if (57 : Int32) < p1 then (if p1 < (97 : Int32) then (if p1 < (65 : Int32) then (-1 : Int32) else (if (70 : Int32) < p1 then (-1 : Int32) else ((p1 - (65 : Int32)) + (10 : Int32)))) else (if (102 : Int32) < p1 then (if p1 < (65 : Int32) then (-1 : Int32) else (if (70 : Int32) < p1 then (-1 : Int32) else ((p1 - (65 : Int32)) + (10 : Int32)))) else ((p1 - (97 : Int32)) + (10 : Int32)))) else (p1 - (48 : Int32))))
def Q2 (Z : State) (p1 : Int32) (h0 : Heap) (n0 : Nat) (v : Option Value) (h : Heap) (L : List Loc) : Prop := v = some (.int (own_f2 p1)) ∧ Fr n0 L ∧ h = h0
set_option maxRecDepth 65536 in
set_option maxHeartbeats 40000000 in
theorem rm2_ttt (l : Launch) (Z : State) (a0 : Array Value) (hw : ∀ d ∈ tables_1, d.before a0 Z = true) (ws : List Jvm.Cond) (p1 : Int32) (h0 : Heap) (n0 : Nat) (Z0 : n0 ≤ h0.size) (hc3 : p1 < (48 : Int32)) (hc20 : p1 < (97 : Int32)) (hc40 : p1 < (65 : Int32)) :
    MetFree l (⟨"com/example/varpack/varpack/Hex", "valueOf", "(C)I"⟩ : MethodName) (head1 (Jvm.Cond.code (⟨"com/example/varpack/varpack/Hex", "valueOf", "(C)I"⟩ : MethodName) prog_12_method_3_code 1 (some .int) :: ws) ({ frames := 0, cells := 0, slots := 0, locals := 0 } : Room)) (fun a U => a = #[(.int p1)] ∧ Z.Warmed39 U.vm ∧ U.heap = h0) (fun _ _ _ _ _ => True) (fun _ U o U' => ∃ v L, o = .returned v ∧ Q2 Z p1 h0 n0 v U'.heap L ∧ FrameEnd U o U' L ({ frames := 0, cells := 0, slots := 0, locals := 0 } : Room).cells ({ frames := 0, cells := 0, slots := 0, locals := 0 } : Room).slots) := by
  refine MetFree.of_bodySF (plainFor_of_name pn_2) hisR ?_
  intro p e s m args below meth c s₁ Bd hml0 hP hK
  obtain ⟨rfl, hZ, hh⟩ := hP
  have hx := Bd.exec
  have hby := Bd.bytes
  have hml : c.maxLocals = 1 := hml0
  have hown : s.vm.findClass "com/example/varpack/varpack/Hex" = some m.cls := findClass_of_methodNamed Bd.named
  have hnm := (name_of_methodNamed Bd.named Bd.method).1
  have X0 : Stand p l e ({ frames := 0, cells := 0, slots := 0, locals := 0 } : Room) s m #[(.int p1)] below meth c s₁ [] 0 0 := Stand.of_body Bd
  have e0 : s₁.heap = h0 := by rw [← hh, Bd.state]; rfl
  have N0 := Fr.nil n0
  have pre0 : ∀ t, Steps p.tables e below (s₁.setTop (mkF m 0 #[.val (.int p1)] [])) t → Steps p.tables e below (s₁.setTop (entryFrame m #[(.int p1)] 1)) t := fun t k => castTop (ef_2 m p1) k
  -- 3. LAWS

  obtain ⟨fs, hr, hrun, hended, hW, hsame⟩ := X0.leave (v := some (.int (-1 : Int32))) (fun h => by rw [Bd.returns] at h; cases h) (BodyLoose.notSynchronized Bd)
  refine ⟨_, _, pre0 _ ?_, hrun, hended, _, _, rfl, ?_, ⟨_, rfl⟩, hW, hsame.mono (by decide) (by decide)⟩
  -- 4. STEPS
  · show Steps p.tables e below (s₁.setTop (mkF m 0 #[.val (.int p1)] [])) _
    refine XS.iloadN X0.here hx rfl (hb hby d2_0) rfl ?_
    show Steps p.tables e below (s₁.setTop (mkF m 1 #[.val (.int p1)] [(.int p1)])) _
    refine XS.bipush X0.here hx rfl (hb hby d2_1) ?_
    show Steps p.tables e below (s₁.setTop (mkF m 3 #[.val (.int p1)] [(.int (48 : Int32)), (.int p1)])) _
    refine XS.icmpYes X0.here hx rfl (pc0 := 3) (pc' := 17) rfl (hb hby d2_3) rfl (tlt hc3).1 (by decide) (by decide) ?_
    show Steps p.tables e below (s₁.setTop (mkF m 17 #[.val (.int p1)] [])) _
    refine XS.iloadN X0.here hx rfl (hb hby d2_17) rfl ?_
    show Steps p.tables e below (s₁.setTop (mkF m 18 #[.val (.int p1)] [(.int p1)])) _
    refine XS.bipush X0.here hx rfl (hb hby d2_18) ?_
    show Steps p.tables e below (s₁.setTop (mkF m 20 #[.val (.int p1)] [(.int (97 : Int32)), (.int p1)])) _
    refine XS.icmpYes X0.here hx rfl (pc0 := 20) (pc' := 37) rfl (hb hby d2_20) rfl (tlt hc20).1 (by decide) (by decide) ?_
    show Steps p.tables e below (s₁.setTop (mkF m 37 #[.val (.int p1)] [])) _
    refine XS.iloadN X0.here hx rfl (hb hby d2_37) rfl ?_
    show Steps p.tables e below (s₁.setTop (mkF m 38 #[.val (.int p1)] [(.int p1)])) _
    refine XS.bipush X0.here hx rfl (hb hby d2_38) ?_
    show Steps p.tables e below (s₁.setTop (mkF m 40 #[.val (.int p1)] [(.int (65 : Int32)), (.int p1)])) _
    refine XS.icmpYes X0.here hx rfl (pc0 := 40) (pc' := 57) rfl (hb hby d2_40) rfl (tlt hc40).1 (by decide) (by decide) ?_
    show Steps p.tables e below (s₁.setTop (mkF m 57 #[.val (.int p1)] [])) _
    refine XS.iconst X0.here hx rfl (hb hby d2_57) ?_
    show Steps p.tables e below (s₁.setTop (mkF m 58 #[.val (.int p1)] [(.int (-1 : Int32))])) _
    exact retI X0 hx Bd.returns (hb hby d2_58) hr      -- retI stands in the head ('lawwalk <made dir>' prints it)
  · show Q2 Z p1 h0 n0 _ s₁.heap _
    rw [e0]
    exact ⟨(by unfold own_f2; rw [if_pos hc3, if_pos hc20, if_pos hc40]), N0, rfl⟩
set_option maxRecDepth 65536 in
set_option maxHeartbeats 40000000 in
theorem rm2_ttft (l : Launch) (Z : State) (a0 : Array Value) (hw : ∀ d ∈ tables_1, d.before a0 Z = true) (ws : List Jvm.Cond) (p1 : Int32) (h0 : Heap) (n0 : Nat) (Z0 : n0 ≤ h0.size) (hc3 : p1 < (48 : Int32)) (hc20 : p1 < (97 : Int32)) (hc40 : ¬ (p1 < (65 : Int32))) (hc46 : (70 : Int32) < p1) :
    MetFree l (⟨"com/example/varpack/varpack/Hex", "valueOf", "(C)I"⟩ : MethodName) (head1 (Jvm.Cond.code (⟨"com/example/varpack/varpack/Hex", "valueOf", "(C)I"⟩ : MethodName) prog_12_method_3_code 1 (some .int) :: ws) ({ frames := 0, cells := 0, slots := 0, locals := 0 } : Room)) (fun a U => a = #[(.int p1)] ∧ Z.Warmed39 U.vm ∧ U.heap = h0) (fun _ _ _ _ _ => True) (fun _ U o U' => ∃ v L, o = .returned v ∧ Q2 Z p1 h0 n0 v U'.heap L ∧ FrameEnd U o U' L ({ frames := 0, cells := 0, slots := 0, locals := 0 } : Room).cells ({ frames := 0, cells := 0, slots := 0, locals := 0 } : Room).slots) := by
  refine MetFree.of_bodySF (plainFor_of_name pn_2) hisR ?_
  intro p e s m args below meth c s₁ Bd hml0 hP hK
  obtain ⟨rfl, hZ, hh⟩ := hP
  have hx := Bd.exec
  have hby := Bd.bytes
  have hml : c.maxLocals = 1 := hml0
  have hown : s.vm.findClass "com/example/varpack/varpack/Hex" = some m.cls := findClass_of_methodNamed Bd.named
  have hnm := (name_of_methodNamed Bd.named Bd.method).1
  have X0 : Stand p l e ({ frames := 0, cells := 0, slots := 0, locals := 0 } : Room) s m #[(.int p1)] below meth c s₁ [] 0 0 := Stand.of_body Bd
  have e0 : s₁.heap = h0 := by rw [← hh, Bd.state]; rfl
  have N0 := Fr.nil n0
  have pre0 : ∀ t, Steps p.tables e below (s₁.setTop (mkF m 0 #[.val (.int p1)] [])) t → Steps p.tables e below (s₁.setTop (entryFrame m #[(.int p1)] 1)) t := fun t k => castTop (ef_2 m p1) k
  -- 3. LAWS

  obtain ⟨fs, hr, hrun, hended, hW, hsame⟩ := X0.leave (v := some (.int (-1 : Int32))) (fun h => by rw [Bd.returns] at h; cases h) (BodyLoose.notSynchronized Bd)
  refine ⟨_, _, pre0 _ ?_, hrun, hended, _, _, rfl, ?_, ⟨_, rfl⟩, hW, hsame.mono (by decide) (by decide)⟩
  -- 4. STEPS
  · show Steps p.tables e below (s₁.setTop (mkF m 0 #[.val (.int p1)] [])) _
    refine XS.iloadN X0.here hx rfl (hb hby d2_0) rfl ?_
    show Steps p.tables e below (s₁.setTop (mkF m 1 #[.val (.int p1)] [(.int p1)])) _
    refine XS.bipush X0.here hx rfl (hb hby d2_1) ?_
    show Steps p.tables e below (s₁.setTop (mkF m 3 #[.val (.int p1)] [(.int (48 : Int32)), (.int p1)])) _
    refine XS.icmpYes X0.here hx rfl (pc0 := 3) (pc' := 17) rfl (hb hby d2_3) rfl (tlt hc3).1 (by decide) (by decide) ?_
    show Steps p.tables e below (s₁.setTop (mkF m 17 #[.val (.int p1)] [])) _
    refine XS.iloadN X0.here hx rfl (hb hby d2_17) rfl ?_
    show Steps p.tables e below (s₁.setTop (mkF m 18 #[.val (.int p1)] [(.int p1)])) _
    refine XS.bipush X0.here hx rfl (hb hby d2_18) ?_
    show Steps p.tables e below (s₁.setTop (mkF m 20 #[.val (.int p1)] [(.int (97 : Int32)), (.int p1)])) _
    refine XS.icmpYes X0.here hx rfl (pc0 := 20) (pc' := 37) rfl (hb hby d2_20) rfl (tlt hc20).1 (by decide) (by decide) ?_
    show Steps p.tables e below (s₁.setTop (mkF m 37 #[.val (.int p1)] [])) _
    refine XS.iloadN X0.here hx rfl (hb hby d2_37) rfl ?_
    show Steps p.tables e below (s₁.setTop (mkF m 38 #[.val (.int p1)] [(.int p1)])) _
    refine XS.bipush X0.here hx rfl (hb hby d2_38) ?_
    show Steps p.tables e below (s₁.setTop (mkF m 40 #[.val (.int p1)] [(.int (65 : Int32)), (.int p1)])) _
    refine XS.icmpNo X0.here hx rfl (hb hby d2_40) rfl (flt hc40).1 ?_
    show Steps p.tables e below (s₁.setTop (mkF m 43 #[.val (.int p1)] [])) _
    refine XS.iloadN X0.here hx rfl (hb hby d2_43) rfl ?_
    show Steps p.tables e below (s₁.setTop (mkF m 44 #[.val (.int p1)] [(.int p1)])) _
    refine XS.bipush X0.here hx rfl (hb hby d2_44) ?_
    show Steps p.tables e below (s₁.setTop (mkF m 46 #[.val (.int p1)] [(.int (70 : Int32)), (.int p1)])) _
    refine XS.icmpYes X0.here hx rfl (pc0 := 46) (pc' := 57) rfl (hb hby d2_46) rfl (tlt hc46).2.2.1 (by decide) (by decide) ?_
    show Steps p.tables e below (s₁.setTop (mkF m 57 #[.val (.int p1)] [])) _
    refine XS.iconst X0.here hx rfl (hb hby d2_57) ?_
    show Steps p.tables e below (s₁.setTop (mkF m 58 #[.val (.int p1)] [(.int (-1 : Int32))])) _
    exact retI X0 hx Bd.returns (hb hby d2_58) hr      -- retI stands in the head ('lawwalk <made dir>' prints it)
  · show Q2 Z p1 h0 n0 _ s₁.heap _
    rw [e0]
    exact ⟨(by unfold own_f2; rw [if_pos hc3, if_pos hc20, if_neg hc40, if_pos hc46]), N0, rfl⟩
set_option maxRecDepth 65536 in
set_option maxHeartbeats 40000000 in
theorem rm2_ttff (l : Launch) (Z : State) (a0 : Array Value) (hw : ∀ d ∈ tables_1, d.before a0 Z = true) (ws : List Jvm.Cond) (p1 : Int32) (h0 : Heap) (n0 : Nat) (Z0 : n0 ≤ h0.size) (hc3 : p1 < (48 : Int32)) (hc20 : p1 < (97 : Int32)) (hc40 : ¬ (p1 < (65 : Int32))) (hc46 : ¬ ((70 : Int32) < p1)) :
    MetFree l (⟨"com/example/varpack/varpack/Hex", "valueOf", "(C)I"⟩ : MethodName) (head1 (Jvm.Cond.code (⟨"com/example/varpack/varpack/Hex", "valueOf", "(C)I"⟩ : MethodName) prog_12_method_3_code 1 (some .int) :: ws) ({ frames := 0, cells := 0, slots := 0, locals := 0 } : Room)) (fun a U => a = #[(.int p1)] ∧ Z.Warmed39 U.vm ∧ U.heap = h0) (fun _ _ _ _ _ => True) (fun _ U o U' => ∃ v L, o = .returned v ∧ Q2 Z p1 h0 n0 v U'.heap L ∧ FrameEnd U o U' L ({ frames := 0, cells := 0, slots := 0, locals := 0 } : Room).cells ({ frames := 0, cells := 0, slots := 0, locals := 0 } : Room).slots) := by
  refine MetFree.of_bodySF (plainFor_of_name pn_2) hisR ?_
  intro p e s m args below meth c s₁ Bd hml0 hP hK
  obtain ⟨rfl, hZ, hh⟩ := hP
  have hx := Bd.exec
  have hby := Bd.bytes
  have hml : c.maxLocals = 1 := hml0
  have hown : s.vm.findClass "com/example/varpack/varpack/Hex" = some m.cls := findClass_of_methodNamed Bd.named
  have hnm := (name_of_methodNamed Bd.named Bd.method).1
  have X0 : Stand p l e ({ frames := 0, cells := 0, slots := 0, locals := 0 } : Room) s m #[(.int p1)] below meth c s₁ [] 0 0 := Stand.of_body Bd
  have e0 : s₁.heap = h0 := by rw [← hh, Bd.state]; rfl
  have N0 := Fr.nil n0
  have pre0 : ∀ t, Steps p.tables e below (s₁.setTop (mkF m 0 #[.val (.int p1)] [])) t → Steps p.tables e below (s₁.setTop (entryFrame m #[(.int p1)] 1)) t := fun t k => castTop (ef_2 m p1) k
  -- 3. LAWS

  obtain ⟨fs, hr, hrun, hended, hW, hsame⟩ := X0.leave (v := some (.int ((p1 - (65 : Int32)) + (10 : Int32)))) (fun h => by rw [Bd.returns] at h; cases h) (BodyLoose.notSynchronized Bd)
  refine ⟨_, _, pre0 _ ?_, hrun, hended, _, _, rfl, ?_, ⟨_, rfl⟩, hW, hsame.mono (by decide) (by decide)⟩
  -- 4. STEPS
  · show Steps p.tables e below (s₁.setTop (mkF m 0 #[.val (.int p1)] [])) _
    refine XS.iloadN X0.here hx rfl (hb hby d2_0) rfl ?_
    show Steps p.tables e below (s₁.setTop (mkF m 1 #[.val (.int p1)] [(.int p1)])) _
    refine XS.bipush X0.here hx rfl (hb hby d2_1) ?_
    show Steps p.tables e below (s₁.setTop (mkF m 3 #[.val (.int p1)] [(.int (48 : Int32)), (.int p1)])) _
    refine XS.icmpYes X0.here hx rfl (pc0 := 3) (pc' := 17) rfl (hb hby d2_3) rfl (tlt hc3).1 (by decide) (by decide) ?_
    show Steps p.tables e below (s₁.setTop (mkF m 17 #[.val (.int p1)] [])) _
    refine XS.iloadN X0.here hx rfl (hb hby d2_17) rfl ?_
    show Steps p.tables e below (s₁.setTop (mkF m 18 #[.val (.int p1)] [(.int p1)])) _
    refine XS.bipush X0.here hx rfl (hb hby d2_18) ?_
    show Steps p.tables e below (s₁.setTop (mkF m 20 #[.val (.int p1)] [(.int (97 : Int32)), (.int p1)])) _
    refine XS.icmpYes X0.here hx rfl (pc0 := 20) (pc' := 37) rfl (hb hby d2_20) rfl (tlt hc20).1 (by decide) (by decide) ?_
    show Steps p.tables e below (s₁.setTop (mkF m 37 #[.val (.int p1)] [])) _
    refine XS.iloadN X0.here hx rfl (hb hby d2_37) rfl ?_
    show Steps p.tables e below (s₁.setTop (mkF m 38 #[.val (.int p1)] [(.int p1)])) _
    refine XS.bipush X0.here hx rfl (hb hby d2_38) ?_
    show Steps p.tables e below (s₁.setTop (mkF m 40 #[.val (.int p1)] [(.int (65 : Int32)), (.int p1)])) _
    refine XS.icmpNo X0.here hx rfl (hb hby d2_40) rfl (flt hc40).1 ?_
    show Steps p.tables e below (s₁.setTop (mkF m 43 #[.val (.int p1)] [])) _
    refine XS.iloadN X0.here hx rfl (hb hby d2_43) rfl ?_
    show Steps p.tables e below (s₁.setTop (mkF m 44 #[.val (.int p1)] [(.int p1)])) _
    refine XS.bipush X0.here hx rfl (hb hby d2_44) ?_
    show Steps p.tables e below (s₁.setTop (mkF m 46 #[.val (.int p1)] [(.int (70 : Int32)), (.int p1)])) _
    refine XS.icmpNo X0.here hx rfl (hb hby d2_46) rfl (flt hc46).2.2.1 ?_
    show Steps p.tables e below (s₁.setTop (mkF m 49 #[.val (.int p1)] [])) _
    refine XS.iloadN X0.here hx rfl (hb hby d2_49) rfl ?_
    show Steps p.tables e below (s₁.setTop (mkF m 50 #[.val (.int p1)] [(.int p1)])) _
    refine XS.bipush X0.here hx rfl (hb hby d2_50) ?_
    show Steps p.tables e below (s₁.setTop (mkF m 52 #[.val (.int p1)] [(.int (65 : Int32)), (.int p1)])) _
    refine XS.isub X0.here hx rfl (hb hby d2_52) rfl ?_
    show Steps p.tables e below (s₁.setTop (mkF m 53 #[.val (.int p1)] [(.int (p1 - (65 : Int32)))])) _
    refine XS.bipush X0.here hx rfl (hb hby d2_53) ?_
    show Steps p.tables e below (s₁.setTop (mkF m 55 #[.val (.int p1)] [(.int (10 : Int32)), (.int (p1 - (65 : Int32)))])) _
    refine XS.iadd X0.here hx rfl (hb hby d2_55) rfl ?_
    show Steps p.tables e below (s₁.setTop (mkF m 56 #[.val (.int p1)] [(.int ((p1 - (65 : Int32)) + (10 : Int32)))])) _
    exact retI X0 hx Bd.returns (hb hby d2_56) hr      -- retI stands in the head ('lawwalk <made dir>' prints it)
  · show Q2 Z p1 h0 n0 _ s₁.heap _
    rw [e0]
    exact ⟨(by unfold own_f2; rw [if_pos hc3, if_pos hc20, if_neg hc40, if_neg hc46]), N0, rfl⟩
set_option maxRecDepth 65536 in
set_option maxHeartbeats 40000000 in
theorem rm2_tftt (l : Launch) (Z : State) (a0 : Array Value) (hw : ∀ d ∈ tables_1, d.before a0 Z = true) (ws : List Jvm.Cond) (p1 : Int32) (h0 : Heap) (n0 : Nat) (Z0 : n0 ≤ h0.size) (hc3 : p1 < (48 : Int32)) (hc20 : ¬ (p1 < (97 : Int32))) (hc26 : (102 : Int32) < p1) (hc40 : p1 < (65 : Int32)) :
    MetFree l (⟨"com/example/varpack/varpack/Hex", "valueOf", "(C)I"⟩ : MethodName) (head1 (Jvm.Cond.code (⟨"com/example/varpack/varpack/Hex", "valueOf", "(C)I"⟩ : MethodName) prog_12_method_3_code 1 (some .int) :: ws) ({ frames := 0, cells := 0, slots := 0, locals := 0 } : Room)) (fun a U => a = #[(.int p1)] ∧ Z.Warmed39 U.vm ∧ U.heap = h0) (fun _ _ _ _ _ => True) (fun _ U o U' => ∃ v L, o = .returned v ∧ Q2 Z p1 h0 n0 v U'.heap L ∧ FrameEnd U o U' L ({ frames := 0, cells := 0, slots := 0, locals := 0 } : Room).cells ({ frames := 0, cells := 0, slots := 0, locals := 0 } : Room).slots) := by
  refine MetFree.of_bodySF (plainFor_of_name pn_2) hisR ?_
  intro p e s m args below meth c s₁ Bd hml0 hP hK
  obtain ⟨rfl, hZ, hh⟩ := hP
  have hx := Bd.exec
  have hby := Bd.bytes
  have hml : c.maxLocals = 1 := hml0
  have hown : s.vm.findClass "com/example/varpack/varpack/Hex" = some m.cls := findClass_of_methodNamed Bd.named
  have hnm := (name_of_methodNamed Bd.named Bd.method).1
  have X0 : Stand p l e ({ frames := 0, cells := 0, slots := 0, locals := 0 } : Room) s m #[(.int p1)] below meth c s₁ [] 0 0 := Stand.of_body Bd
  have e0 : s₁.heap = h0 := by rw [← hh, Bd.state]; rfl
  have N0 := Fr.nil n0
  have pre0 : ∀ t, Steps p.tables e below (s₁.setTop (mkF m 0 #[.val (.int p1)] [])) t → Steps p.tables e below (s₁.setTop (entryFrame m #[(.int p1)] 1)) t := fun t k => castTop (ef_2 m p1) k
  -- 3. LAWS

  obtain ⟨fs, hr, hrun, hended, hW, hsame⟩ := X0.leave (v := some (.int (-1 : Int32))) (fun h => by rw [Bd.returns] at h; cases h) (BodyLoose.notSynchronized Bd)
  refine ⟨_, _, pre0 _ ?_, hrun, hended, _, _, rfl, ?_, ⟨_, rfl⟩, hW, hsame.mono (by decide) (by decide)⟩
  -- 4. STEPS
  · show Steps p.tables e below (s₁.setTop (mkF m 0 #[.val (.int p1)] [])) _
    refine XS.iloadN X0.here hx rfl (hb hby d2_0) rfl ?_
    show Steps p.tables e below (s₁.setTop (mkF m 1 #[.val (.int p1)] [(.int p1)])) _
    refine XS.bipush X0.here hx rfl (hb hby d2_1) ?_
    show Steps p.tables e below (s₁.setTop (mkF m 3 #[.val (.int p1)] [(.int (48 : Int32)), (.int p1)])) _
    refine XS.icmpYes X0.here hx rfl (pc0 := 3) (pc' := 17) rfl (hb hby d2_3) rfl (tlt hc3).1 (by decide) (by decide) ?_
    show Steps p.tables e below (s₁.setTop (mkF m 17 #[.val (.int p1)] [])) _
    refine XS.iloadN X0.here hx rfl (hb hby d2_17) rfl ?_
    show Steps p.tables e below (s₁.setTop (mkF m 18 #[.val (.int p1)] [(.int p1)])) _
    refine XS.bipush X0.here hx rfl (hb hby d2_18) ?_
    show Steps p.tables e below (s₁.setTop (mkF m 20 #[.val (.int p1)] [(.int (97 : Int32)), (.int p1)])) _
    refine XS.icmpNo X0.here hx rfl (hb hby d2_20) rfl (flt hc20).1 ?_
    show Steps p.tables e below (s₁.setTop (mkF m 23 #[.val (.int p1)] [])) _
    refine XS.iloadN X0.here hx rfl (hb hby d2_23) rfl ?_
    show Steps p.tables e below (s₁.setTop (mkF m 24 #[.val (.int p1)] [(.int p1)])) _
    refine XS.bipush X0.here hx rfl (hb hby d2_24) ?_
    show Steps p.tables e below (s₁.setTop (mkF m 26 #[.val (.int p1)] [(.int (102 : Int32)), (.int p1)])) _
    refine XS.icmpYes X0.here hx rfl (pc0 := 26) (pc' := 37) rfl (hb hby d2_26) rfl (tlt hc26).2.2.1 (by decide) (by decide) ?_
    show Steps p.tables e below (s₁.setTop (mkF m 37 #[.val (.int p1)] [])) _
    refine XS.iloadN X0.here hx rfl (hb hby d2_37) rfl ?_
    show Steps p.tables e below (s₁.setTop (mkF m 38 #[.val (.int p1)] [(.int p1)])) _
    refine XS.bipush X0.here hx rfl (hb hby d2_38) ?_
    show Steps p.tables e below (s₁.setTop (mkF m 40 #[.val (.int p1)] [(.int (65 : Int32)), (.int p1)])) _
    refine XS.icmpYes X0.here hx rfl (pc0 := 40) (pc' := 57) rfl (hb hby d2_40) rfl (tlt hc40).1 (by decide) (by decide) ?_
    show Steps p.tables e below (s₁.setTop (mkF m 57 #[.val (.int p1)] [])) _
    refine XS.iconst X0.here hx rfl (hb hby d2_57) ?_
    show Steps p.tables e below (s₁.setTop (mkF m 58 #[.val (.int p1)] [(.int (-1 : Int32))])) _
    exact retI X0 hx Bd.returns (hb hby d2_58) hr      -- retI stands in the head ('lawwalk <made dir>' prints it)
  · show Q2 Z p1 h0 n0 _ s₁.heap _
    rw [e0]
    exact ⟨(by unfold own_f2; rw [if_pos hc3, if_neg hc20, if_pos hc26, if_pos hc40]), N0, rfl⟩
set_option maxRecDepth 65536 in
set_option maxHeartbeats 40000000 in
theorem rm2_tftft (l : Launch) (Z : State) (a0 : Array Value) (hw : ∀ d ∈ tables_1, d.before a0 Z = true) (ws : List Jvm.Cond) (p1 : Int32) (h0 : Heap) (n0 : Nat) (Z0 : n0 ≤ h0.size) (hc3 : p1 < (48 : Int32)) (hc20 : ¬ (p1 < (97 : Int32))) (hc26 : (102 : Int32) < p1) (hc40 : ¬ (p1 < (65 : Int32))) (hc46 : (70 : Int32) < p1) :
    MetFree l (⟨"com/example/varpack/varpack/Hex", "valueOf", "(C)I"⟩ : MethodName) (head1 (Jvm.Cond.code (⟨"com/example/varpack/varpack/Hex", "valueOf", "(C)I"⟩ : MethodName) prog_12_method_3_code 1 (some .int) :: ws) ({ frames := 0, cells := 0, slots := 0, locals := 0 } : Room)) (fun a U => a = #[(.int p1)] ∧ Z.Warmed39 U.vm ∧ U.heap = h0) (fun _ _ _ _ _ => True) (fun _ U o U' => ∃ v L, o = .returned v ∧ Q2 Z p1 h0 n0 v U'.heap L ∧ FrameEnd U o U' L ({ frames := 0, cells := 0, slots := 0, locals := 0 } : Room).cells ({ frames := 0, cells := 0, slots := 0, locals := 0 } : Room).slots) := by
  refine MetFree.of_bodySF (plainFor_of_name pn_2) hisR ?_
  intro p e s m args below meth c s₁ Bd hml0 hP hK
  obtain ⟨rfl, hZ, hh⟩ := hP
  have hx := Bd.exec
  have hby := Bd.bytes
  have hml : c.maxLocals = 1 := hml0
  have hown : s.vm.findClass "com/example/varpack/varpack/Hex" = some m.cls := findClass_of_methodNamed Bd.named
  have hnm := (name_of_methodNamed Bd.named Bd.method).1
  have X0 : Stand p l e ({ frames := 0, cells := 0, slots := 0, locals := 0 } : Room) s m #[(.int p1)] below meth c s₁ [] 0 0 := Stand.of_body Bd
  have e0 : s₁.heap = h0 := by rw [← hh, Bd.state]; rfl
  have N0 := Fr.nil n0
  have pre0 : ∀ t, Steps p.tables e below (s₁.setTop (mkF m 0 #[.val (.int p1)] [])) t → Steps p.tables e below (s₁.setTop (entryFrame m #[(.int p1)] 1)) t := fun t k => castTop (ef_2 m p1) k
  -- 3. LAWS

  obtain ⟨fs, hr, hrun, hended, hW, hsame⟩ := X0.leave (v := some (.int (-1 : Int32))) (fun h => by rw [Bd.returns] at h; cases h) (BodyLoose.notSynchronized Bd)
  refine ⟨_, _, pre0 _ ?_, hrun, hended, _, _, rfl, ?_, ⟨_, rfl⟩, hW, hsame.mono (by decide) (by decide)⟩
  -- 4. STEPS
  · show Steps p.tables e below (s₁.setTop (mkF m 0 #[.val (.int p1)] [])) _
    refine XS.iloadN X0.here hx rfl (hb hby d2_0) rfl ?_
    show Steps p.tables e below (s₁.setTop (mkF m 1 #[.val (.int p1)] [(.int p1)])) _
    refine XS.bipush X0.here hx rfl (hb hby d2_1) ?_
    show Steps p.tables e below (s₁.setTop (mkF m 3 #[.val (.int p1)] [(.int (48 : Int32)), (.int p1)])) _
    refine XS.icmpYes X0.here hx rfl (pc0 := 3) (pc' := 17) rfl (hb hby d2_3) rfl (tlt hc3).1 (by decide) (by decide) ?_
    show Steps p.tables e below (s₁.setTop (mkF m 17 #[.val (.int p1)] [])) _
    refine XS.iloadN X0.here hx rfl (hb hby d2_17) rfl ?_
    show Steps p.tables e below (s₁.setTop (mkF m 18 #[.val (.int p1)] [(.int p1)])) _
    refine XS.bipush X0.here hx rfl (hb hby d2_18) ?_
    show Steps p.tables e below (s₁.setTop (mkF m 20 #[.val (.int p1)] [(.int (97 : Int32)), (.int p1)])) _
    refine XS.icmpNo X0.here hx rfl (hb hby d2_20) rfl (flt hc20).1 ?_
    show Steps p.tables e below (s₁.setTop (mkF m 23 #[.val (.int p1)] [])) _
    refine XS.iloadN X0.here hx rfl (hb hby d2_23) rfl ?_
    show Steps p.tables e below (s₁.setTop (mkF m 24 #[.val (.int p1)] [(.int p1)])) _
    refine XS.bipush X0.here hx rfl (hb hby d2_24) ?_
    show Steps p.tables e below (s₁.setTop (mkF m 26 #[.val (.int p1)] [(.int (102 : Int32)), (.int p1)])) _
    refine XS.icmpYes X0.here hx rfl (pc0 := 26) (pc' := 37) rfl (hb hby d2_26) rfl (tlt hc26).2.2.1 (by decide) (by decide) ?_
    show Steps p.tables e below (s₁.setTop (mkF m 37 #[.val (.int p1)] [])) _
    refine XS.iloadN X0.here hx rfl (hb hby d2_37) rfl ?_
    show Steps p.tables e below (s₁.setTop (mkF m 38 #[.val (.int p1)] [(.int p1)])) _
    refine XS.bipush X0.here hx rfl (hb hby d2_38) ?_
    show Steps p.tables e below (s₁.setTop (mkF m 40 #[.val (.int p1)] [(.int (65 : Int32)), (.int p1)])) _
    refine XS.icmpNo X0.here hx rfl (hb hby d2_40) rfl (flt hc40).1 ?_
    show Steps p.tables e below (s₁.setTop (mkF m 43 #[.val (.int p1)] [])) _
    refine XS.iloadN X0.here hx rfl (hb hby d2_43) rfl ?_
    show Steps p.tables e below (s₁.setTop (mkF m 44 #[.val (.int p1)] [(.int p1)])) _
    refine XS.bipush X0.here hx rfl (hb hby d2_44) ?_
    show Steps p.tables e below (s₁.setTop (mkF m 46 #[.val (.int p1)] [(.int (70 : Int32)), (.int p1)])) _
    refine XS.icmpYes X0.here hx rfl (pc0 := 46) (pc' := 57) rfl (hb hby d2_46) rfl (tlt hc46).2.2.1 (by decide) (by decide) ?_
    show Steps p.tables e below (s₁.setTop (mkF m 57 #[.val (.int p1)] [])) _
    refine XS.iconst X0.here hx rfl (hb hby d2_57) ?_
    show Steps p.tables e below (s₁.setTop (mkF m 58 #[.val (.int p1)] [(.int (-1 : Int32))])) _
    exact retI X0 hx Bd.returns (hb hby d2_58) hr      -- retI stands in the head ('lawwalk <made dir>' prints it)
  · show Q2 Z p1 h0 n0 _ s₁.heap _
    rw [e0]
    exact ⟨(by unfold own_f2; rw [if_pos hc3, if_neg hc20, if_pos hc26, if_neg hc40, if_pos hc46]), N0, rfl⟩
set_option maxRecDepth 65536 in
set_option maxHeartbeats 40000000 in
theorem rm2_tftff (l : Launch) (Z : State) (a0 : Array Value) (hw : ∀ d ∈ tables_1, d.before a0 Z = true) (ws : List Jvm.Cond) (p1 : Int32) (h0 : Heap) (n0 : Nat) (Z0 : n0 ≤ h0.size) (hc3 : p1 < (48 : Int32)) (hc20 : ¬ (p1 < (97 : Int32))) (hc26 : (102 : Int32) < p1) (hc40 : ¬ (p1 < (65 : Int32))) (hc46 : ¬ ((70 : Int32) < p1)) :
    MetFree l (⟨"com/example/varpack/varpack/Hex", "valueOf", "(C)I"⟩ : MethodName) (head1 (Jvm.Cond.code (⟨"com/example/varpack/varpack/Hex", "valueOf", "(C)I"⟩ : MethodName) prog_12_method_3_code 1 (some .int) :: ws) ({ frames := 0, cells := 0, slots := 0, locals := 0 } : Room)) (fun a U => a = #[(.int p1)] ∧ Z.Warmed39 U.vm ∧ U.heap = h0) (fun _ _ _ _ _ => True) (fun _ U o U' => ∃ v L, o = .returned v ∧ Q2 Z p1 h0 n0 v U'.heap L ∧ FrameEnd U o U' L ({ frames := 0, cells := 0, slots := 0, locals := 0 } : Room).cells ({ frames := 0, cells := 0, slots := 0, locals := 0 } : Room).slots) := by
  refine MetFree.of_bodySF (plainFor_of_name pn_2) hisR ?_
  intro p e s m args below meth c s₁ Bd hml0 hP hK
  obtain ⟨rfl, hZ, hh⟩ := hP
  have hx := Bd.exec
  have hby := Bd.bytes
  have hml : c.maxLocals = 1 := hml0
  have hown : s.vm.findClass "com/example/varpack/varpack/Hex" = some m.cls := findClass_of_methodNamed Bd.named
  have hnm := (name_of_methodNamed Bd.named Bd.method).1
  have X0 : Stand p l e ({ frames := 0, cells := 0, slots := 0, locals := 0 } : Room) s m #[(.int p1)] below meth c s₁ [] 0 0 := Stand.of_body Bd
  have e0 : s₁.heap = h0 := by rw [← hh, Bd.state]; rfl
  have N0 := Fr.nil n0
  have pre0 : ∀ t, Steps p.tables e below (s₁.setTop (mkF m 0 #[.val (.int p1)] [])) t → Steps p.tables e below (s₁.setTop (entryFrame m #[(.int p1)] 1)) t := fun t k => castTop (ef_2 m p1) k
  -- 3. LAWS

  obtain ⟨fs, hr, hrun, hended, hW, hsame⟩ := X0.leave (v := some (.int ((p1 - (65 : Int32)) + (10 : Int32)))) (fun h => by rw [Bd.returns] at h; cases h) (BodyLoose.notSynchronized Bd)
  refine ⟨_, _, pre0 _ ?_, hrun, hended, _, _, rfl, ?_, ⟨_, rfl⟩, hW, hsame.mono (by decide) (by decide)⟩
  -- 4. STEPS
  · show Steps p.tables e below (s₁.setTop (mkF m 0 #[.val (.int p1)] [])) _
    refine XS.iloadN X0.here hx rfl (hb hby d2_0) rfl ?_
    show Steps p.tables e below (s₁.setTop (mkF m 1 #[.val (.int p1)] [(.int p1)])) _
    refine XS.bipush X0.here hx rfl (hb hby d2_1) ?_
    show Steps p.tables e below (s₁.setTop (mkF m 3 #[.val (.int p1)] [(.int (48 : Int32)), (.int p1)])) _
    refine XS.icmpYes X0.here hx rfl (pc0 := 3) (pc' := 17) rfl (hb hby d2_3) rfl (tlt hc3).1 (by decide) (by decide) ?_
    show Steps p.tables e below (s₁.setTop (mkF m 17 #[.val (.int p1)] [])) _
    refine XS.iloadN X0.here hx rfl (hb hby d2_17) rfl ?_
    show Steps p.tables e below (s₁.setTop (mkF m 18 #[.val (.int p1)] [(.int p1)])) _
    refine XS.bipush X0.here hx rfl (hb hby d2_18) ?_
    show Steps p.tables e below (s₁.setTop (mkF m 20 #[.val (.int p1)] [(.int (97 : Int32)), (.int p1)])) _
    refine XS.icmpNo X0.here hx rfl (hb hby d2_20) rfl (flt hc20).1 ?_
    show Steps p.tables e below (s₁.setTop (mkF m 23 #[.val (.int p1)] [])) _
    refine XS.iloadN X0.here hx rfl (hb hby d2_23) rfl ?_
    show Steps p.tables e below (s₁.setTop (mkF m 24 #[.val (.int p1)] [(.int p1)])) _
    refine XS.bipush X0.here hx rfl (hb hby d2_24) ?_
    show Steps p.tables e below (s₁.setTop (mkF m 26 #[.val (.int p1)] [(.int (102 : Int32)), (.int p1)])) _
    refine XS.icmpYes X0.here hx rfl (pc0 := 26) (pc' := 37) rfl (hb hby d2_26) rfl (tlt hc26).2.2.1 (by decide) (by decide) ?_
    show Steps p.tables e below (s₁.setTop (mkF m 37 #[.val (.int p1)] [])) _
    refine XS.iloadN X0.here hx rfl (hb hby d2_37) rfl ?_
    show Steps p.tables e below (s₁.setTop (mkF m 38 #[.val (.int p1)] [(.int p1)])) _
    refine XS.bipush X0.here hx rfl (hb hby d2_38) ?_
    show Steps p.tables e below (s₁.setTop (mkF m 40 #[.val (.int p1)] [(.int (65 : Int32)), (.int p1)])) _
    refine XS.icmpNo X0.here hx rfl (hb hby d2_40) rfl (flt hc40).1 ?_
    show Steps p.tables e below (s₁.setTop (mkF m 43 #[.val (.int p1)] [])) _
    refine XS.iloadN X0.here hx rfl (hb hby d2_43) rfl ?_
    show Steps p.tables e below (s₁.setTop (mkF m 44 #[.val (.int p1)] [(.int p1)])) _
    refine XS.bipush X0.here hx rfl (hb hby d2_44) ?_
    show Steps p.tables e below (s₁.setTop (mkF m 46 #[.val (.int p1)] [(.int (70 : Int32)), (.int p1)])) _
    refine XS.icmpNo X0.here hx rfl (hb hby d2_46) rfl (flt hc46).2.2.1 ?_
    show Steps p.tables e below (s₁.setTop (mkF m 49 #[.val (.int p1)] [])) _
    refine XS.iloadN X0.here hx rfl (hb hby d2_49) rfl ?_
    show Steps p.tables e below (s₁.setTop (mkF m 50 #[.val (.int p1)] [(.int p1)])) _
    refine XS.bipush X0.here hx rfl (hb hby d2_50) ?_
    show Steps p.tables e below (s₁.setTop (mkF m 52 #[.val (.int p1)] [(.int (65 : Int32)), (.int p1)])) _
    refine XS.isub X0.here hx rfl (hb hby d2_52) rfl ?_
    show Steps p.tables e below (s₁.setTop (mkF m 53 #[.val (.int p1)] [(.int (p1 - (65 : Int32)))])) _
    refine XS.bipush X0.here hx rfl (hb hby d2_53) ?_
    show Steps p.tables e below (s₁.setTop (mkF m 55 #[.val (.int p1)] [(.int (10 : Int32)), (.int (p1 - (65 : Int32)))])) _
    refine XS.iadd X0.here hx rfl (hb hby d2_55) rfl ?_
    show Steps p.tables e below (s₁.setTop (mkF m 56 #[.val (.int p1)] [(.int ((p1 - (65 : Int32)) + (10 : Int32)))])) _
    exact retI X0 hx Bd.returns (hb hby d2_56) hr      -- retI stands in the head ('lawwalk <made dir>' prints it)
  · show Q2 Z p1 h0 n0 _ s₁.heap _
    rw [e0]
    exact ⟨(by unfold own_f2; rw [if_pos hc3, if_neg hc20, if_pos hc26, if_neg hc40, if_neg hc46]), N0, rfl⟩
set_option maxRecDepth 65536 in
set_option maxHeartbeats 40000000 in
theorem rm2_tff (l : Launch) (Z : State) (a0 : Array Value) (hw : ∀ d ∈ tables_1, d.before a0 Z = true) (ws : List Jvm.Cond) (p1 : Int32) (h0 : Heap) (n0 : Nat) (Z0 : n0 ≤ h0.size) (hc3 : p1 < (48 : Int32)) (hc20 : ¬ (p1 < (97 : Int32))) (hc26 : ¬ ((102 : Int32) < p1)) :
    MetFree l (⟨"com/example/varpack/varpack/Hex", "valueOf", "(C)I"⟩ : MethodName) (head1 (Jvm.Cond.code (⟨"com/example/varpack/varpack/Hex", "valueOf", "(C)I"⟩ : MethodName) prog_12_method_3_code 1 (some .int) :: ws) ({ frames := 0, cells := 0, slots := 0, locals := 0 } : Room)) (fun a U => a = #[(.int p1)] ∧ Z.Warmed39 U.vm ∧ U.heap = h0) (fun _ _ _ _ _ => True) (fun _ U o U' => ∃ v L, o = .returned v ∧ Q2 Z p1 h0 n0 v U'.heap L ∧ FrameEnd U o U' L ({ frames := 0, cells := 0, slots := 0, locals := 0 } : Room).cells ({ frames := 0, cells := 0, slots := 0, locals := 0 } : Room).slots) := by
  refine MetFree.of_bodySF (plainFor_of_name pn_2) hisR ?_
  intro p e s m args below meth c s₁ Bd hml0 hP hK
  obtain ⟨rfl, hZ, hh⟩ := hP
  have hx := Bd.exec
  have hby := Bd.bytes
  have hml : c.maxLocals = 1 := hml0
  have hown : s.vm.findClass "com/example/varpack/varpack/Hex" = some m.cls := findClass_of_methodNamed Bd.named
  have hnm := (name_of_methodNamed Bd.named Bd.method).1
  have X0 : Stand p l e ({ frames := 0, cells := 0, slots := 0, locals := 0 } : Room) s m #[(.int p1)] below meth c s₁ [] 0 0 := Stand.of_body Bd
  have e0 : s₁.heap = h0 := by rw [← hh, Bd.state]; rfl
  have N0 := Fr.nil n0
  have pre0 : ∀ t, Steps p.tables e below (s₁.setTop (mkF m 0 #[.val (.int p1)] [])) t → Steps p.tables e below (s₁.setTop (entryFrame m #[(.int p1)] 1)) t := fun t k => castTop (ef_2 m p1) k
  -- 3. LAWS

  obtain ⟨fs, hr, hrun, hended, hW, hsame⟩ := X0.leave (v := some (.int ((p1 - (97 : Int32)) + (10 : Int32)))) (fun h => by rw [Bd.returns] at h; cases h) (BodyLoose.notSynchronized Bd)
  refine ⟨_, _, pre0 _ ?_, hrun, hended, _, _, rfl, ?_, ⟨_, rfl⟩, hW, hsame.mono (by decide) (by decide)⟩
  -- 4. STEPS
  · show Steps p.tables e below (s₁.setTop (mkF m 0 #[.val (.int p1)] [])) _
    refine XS.iloadN X0.here hx rfl (hb hby d2_0) rfl ?_
    show Steps p.tables e below (s₁.setTop (mkF m 1 #[.val (.int p1)] [(.int p1)])) _
    refine XS.bipush X0.here hx rfl (hb hby d2_1) ?_
    show Steps p.tables e below (s₁.setTop (mkF m 3 #[.val (.int p1)] [(.int (48 : Int32)), (.int p1)])) _
    refine XS.icmpYes X0.here hx rfl (pc0 := 3) (pc' := 17) rfl (hb hby d2_3) rfl (tlt hc3).1 (by decide) (by decide) ?_
    show Steps p.tables e below (s₁.setTop (mkF m 17 #[.val (.int p1)] [])) _
    refine XS.iloadN X0.here hx rfl (hb hby d2_17) rfl ?_
    show Steps p.tables e below (s₁.setTop (mkF m 18 #[.val (.int p1)] [(.int p1)])) _
    refine XS.bipush X0.here hx rfl (hb hby d2_18) ?_
    show Steps p.tables e below (s₁.setTop (mkF m 20 #[.val (.int p1)] [(.int (97 : Int32)), (.int p1)])) _
    refine XS.icmpNo X0.here hx rfl (hb hby d2_20) rfl (flt hc20).1 ?_
    show Steps p.tables e below (s₁.setTop (mkF m 23 #[.val (.int p1)] [])) _
    refine XS.iloadN X0.here hx rfl (hb hby d2_23) rfl ?_
    show Steps p.tables e below (s₁.setTop (mkF m 24 #[.val (.int p1)] [(.int p1)])) _
    refine XS.bipush X0.here hx rfl (hb hby d2_24) ?_
    show Steps p.tables e below (s₁.setTop (mkF m 26 #[.val (.int p1)] [(.int (102 : Int32)), (.int p1)])) _
    refine XS.icmpNo X0.here hx rfl (hb hby d2_26) rfl (flt hc26).2.2.1 ?_
    show Steps p.tables e below (s₁.setTop (mkF m 29 #[.val (.int p1)] [])) _
    refine XS.iloadN X0.here hx rfl (hb hby d2_29) rfl ?_
    show Steps p.tables e below (s₁.setTop (mkF m 30 #[.val (.int p1)] [(.int p1)])) _
    refine XS.bipush X0.here hx rfl (hb hby d2_30) ?_
    show Steps p.tables e below (s₁.setTop (mkF m 32 #[.val (.int p1)] [(.int (97 : Int32)), (.int p1)])) _
    refine XS.isub X0.here hx rfl (hb hby d2_32) rfl ?_
    show Steps p.tables e below (s₁.setTop (mkF m 33 #[.val (.int p1)] [(.int (p1 - (97 : Int32)))])) _
    refine XS.bipush X0.here hx rfl (hb hby d2_33) ?_
    show Steps p.tables e below (s₁.setTop (mkF m 35 #[.val (.int p1)] [(.int (10 : Int32)), (.int (p1 - (97 : Int32)))])) _
    refine XS.iadd X0.here hx rfl (hb hby d2_35) rfl ?_
    show Steps p.tables e below (s₁.setTop (mkF m 36 #[.val (.int p1)] [(.int ((p1 - (97 : Int32)) + (10 : Int32)))])) _
    exact retI X0 hx Bd.returns (hb hby d2_36) hr      -- retI stands in the head ('lawwalk <made dir>' prints it)
  · show Q2 Z p1 h0 n0 _ s₁.heap _
    rw [e0]
    exact ⟨(by unfold own_f2; rw [if_pos hc3, if_neg hc20, if_neg hc26]), N0, rfl⟩
set_option maxRecDepth 65536 in
set_option maxHeartbeats 40000000 in
theorem rm2_fttt (l : Launch) (Z : State) (a0 : Array Value) (hw : ∀ d ∈ tables_1, d.before a0 Z = true) (ws : List Jvm.Cond) (p1 : Int32) (h0 : Heap) (n0 : Nat) (Z0 : n0 ≤ h0.size) (hc3 : ¬ (p1 < (48 : Int32))) (hc9 : (57 : Int32) < p1) (hc20 : p1 < (97 : Int32)) (hc40 : p1 < (65 : Int32)) :
    MetFree l (⟨"com/example/varpack/varpack/Hex", "valueOf", "(C)I"⟩ : MethodName) (head1 (Jvm.Cond.code (⟨"com/example/varpack/varpack/Hex", "valueOf", "(C)I"⟩ : MethodName) prog_12_method_3_code 1 (some .int) :: ws) ({ frames := 0, cells := 0, slots := 0, locals := 0 } : Room)) (fun a U => a = #[(.int p1)] ∧ Z.Warmed39 U.vm ∧ U.heap = h0) (fun _ _ _ _ _ => True) (fun _ U o U' => ∃ v L, o = .returned v ∧ Q2 Z p1 h0 n0 v U'.heap L ∧ FrameEnd U o U' L ({ frames := 0, cells := 0, slots := 0, locals := 0 } : Room).cells ({ frames := 0, cells := 0, slots := 0, locals := 0 } : Room).slots) := by
  refine MetFree.of_bodySF (plainFor_of_name pn_2) hisR ?_
  intro p e s m args below meth c s₁ Bd hml0 hP hK
  obtain ⟨rfl, hZ, hh⟩ := hP
  have hx := Bd.exec
  have hby := Bd.bytes
  have hml : c.maxLocals = 1 := hml0
  have hown : s.vm.findClass "com/example/varpack/varpack/Hex" = some m.cls := findClass_of_methodNamed Bd.named
  have hnm := (name_of_methodNamed Bd.named Bd.method).1
  have X0 : Stand p l e ({ frames := 0, cells := 0, slots := 0, locals := 0 } : Room) s m #[(.int p1)] below meth c s₁ [] 0 0 := Stand.of_body Bd
  have e0 : s₁.heap = h0 := by rw [← hh, Bd.state]; rfl
  have N0 := Fr.nil n0
  have pre0 : ∀ t, Steps p.tables e below (s₁.setTop (mkF m 0 #[.val (.int p1)] [])) t → Steps p.tables e below (s₁.setTop (entryFrame m #[(.int p1)] 1)) t := fun t k => castTop (ef_2 m p1) k
  -- 3. LAWS

  obtain ⟨fs, hr, hrun, hended, hW, hsame⟩ := X0.leave (v := some (.int (-1 : Int32))) (fun h => by rw [Bd.returns] at h; cases h) (BodyLoose.notSynchronized Bd)
  refine ⟨_, _, pre0 _ ?_, hrun, hended, _, _, rfl, ?_, ⟨_, rfl⟩, hW, hsame.mono (by decide) (by decide)⟩
  -- 4. STEPS
  · show Steps p.tables e below (s₁.setTop (mkF m 0 #[.val (.int p1)] [])) _
    refine XS.iloadN X0.here hx rfl (hb hby d2_0) rfl ?_
    show Steps p.tables e below (s₁.setTop (mkF m 1 #[.val (.int p1)] [(.int p1)])) _
    refine XS.bipush X0.here hx rfl (hb hby d2_1) ?_
    show Steps p.tables e below (s₁.setTop (mkF m 3 #[.val (.int p1)] [(.int (48 : Int32)), (.int p1)])) _
    refine XS.icmpNo X0.here hx rfl (hb hby d2_3) rfl (flt hc3).1 ?_
    show Steps p.tables e below (s₁.setTop (mkF m 6 #[.val (.int p1)] [])) _
    refine XS.iloadN X0.here hx rfl (hb hby d2_6) rfl ?_
    show Steps p.tables e below (s₁.setTop (mkF m 7 #[.val (.int p1)] [(.int p1)])) _
    refine XS.bipush X0.here hx rfl (hb hby d2_7) ?_
    show Steps p.tables e below (s₁.setTop (mkF m 9 #[.val (.int p1)] [(.int (57 : Int32)), (.int p1)])) _
    refine XS.icmpYes X0.here hx rfl (pc0 := 9) (pc' := 17) rfl (hb hby d2_9) rfl (tlt hc9).2.2.1 (by decide) (by decide) ?_
    show Steps p.tables e below (s₁.setTop (mkF m 17 #[.val (.int p1)] [])) _
    refine XS.iloadN X0.here hx rfl (hb hby d2_17) rfl ?_
    show Steps p.tables e below (s₁.setTop (mkF m 18 #[.val (.int p1)] [(.int p1)])) _
    refine XS.bipush X0.here hx rfl (hb hby d2_18) ?_
    show Steps p.tables e below (s₁.setTop (mkF m 20 #[.val (.int p1)] [(.int (97 : Int32)), (.int p1)])) _
    refine XS.icmpYes X0.here hx rfl (pc0 := 20) (pc' := 37) rfl (hb hby d2_20) rfl (tlt hc20).1 (by decide) (by decide) ?_
    show Steps p.tables e below (s₁.setTop (mkF m 37 #[.val (.int p1)] [])) _
    refine XS.iloadN X0.here hx rfl (hb hby d2_37) rfl ?_
    show Steps p.tables e below (s₁.setTop (mkF m 38 #[.val (.int p1)] [(.int p1)])) _
    refine XS.bipush X0.here hx rfl (hb hby d2_38) ?_
    show Steps p.tables e below (s₁.setTop (mkF m 40 #[.val (.int p1)] [(.int (65 : Int32)), (.int p1)])) _
    refine XS.icmpYes X0.here hx rfl (pc0 := 40) (pc' := 57) rfl (hb hby d2_40) rfl (tlt hc40).1 (by decide) (by decide) ?_
    show Steps p.tables e below (s₁.setTop (mkF m 57 #[.val (.int p1)] [])) _
    refine XS.iconst X0.here hx rfl (hb hby d2_57) ?_
    show Steps p.tables e below (s₁.setTop (mkF m 58 #[.val (.int p1)] [(.int (-1 : Int32))])) _
    exact retI X0 hx Bd.returns (hb hby d2_58) hr      -- retI stands in the head ('lawwalk <made dir>' prints it)
  · show Q2 Z p1 h0 n0 _ s₁.heap _
    rw [e0]
    exact ⟨(by unfold own_f2; rw [if_neg hc3, if_pos hc9, if_pos hc20, if_pos hc40]), N0, rfl⟩
set_option maxRecDepth 65536 in
set_option maxHeartbeats 40000000 in
theorem rm2_fttft (l : Launch) (Z : State) (a0 : Array Value) (hw : ∀ d ∈ tables_1, d.before a0 Z = true) (ws : List Jvm.Cond) (p1 : Int32) (h0 : Heap) (n0 : Nat) (Z0 : n0 ≤ h0.size) (hc3 : ¬ (p1 < (48 : Int32))) (hc9 : (57 : Int32) < p1) (hc20 : p1 < (97 : Int32)) (hc40 : ¬ (p1 < (65 : Int32))) (hc46 : (70 : Int32) < p1) :
    MetFree l (⟨"com/example/varpack/varpack/Hex", "valueOf", "(C)I"⟩ : MethodName) (head1 (Jvm.Cond.code (⟨"com/example/varpack/varpack/Hex", "valueOf", "(C)I"⟩ : MethodName) prog_12_method_3_code 1 (some .int) :: ws) ({ frames := 0, cells := 0, slots := 0, locals := 0 } : Room)) (fun a U => a = #[(.int p1)] ∧ Z.Warmed39 U.vm ∧ U.heap = h0) (fun _ _ _ _ _ => True) (fun _ U o U' => ∃ v L, o = .returned v ∧ Q2 Z p1 h0 n0 v U'.heap L ∧ FrameEnd U o U' L ({ frames := 0, cells := 0, slots := 0, locals := 0 } : Room).cells ({ frames := 0, cells := 0, slots := 0, locals := 0 } : Room).slots) := by
  refine MetFree.of_bodySF (plainFor_of_name pn_2) hisR ?_
  intro p e s m args below meth c s₁ Bd hml0 hP hK
  obtain ⟨rfl, hZ, hh⟩ := hP
  have hx := Bd.exec
  have hby := Bd.bytes
  have hml : c.maxLocals = 1 := hml0
  have hown : s.vm.findClass "com/example/varpack/varpack/Hex" = some m.cls := findClass_of_methodNamed Bd.named
  have hnm := (name_of_methodNamed Bd.named Bd.method).1
  have X0 : Stand p l e ({ frames := 0, cells := 0, slots := 0, locals := 0 } : Room) s m #[(.int p1)] below meth c s₁ [] 0 0 := Stand.of_body Bd
  have e0 : s₁.heap = h0 := by rw [← hh, Bd.state]; rfl
  have N0 := Fr.nil n0
  have pre0 : ∀ t, Steps p.tables e below (s₁.setTop (mkF m 0 #[.val (.int p1)] [])) t → Steps p.tables e below (s₁.setTop (entryFrame m #[(.int p1)] 1)) t := fun t k => castTop (ef_2 m p1) k
  -- 3. LAWS

  obtain ⟨fs, hr, hrun, hended, hW, hsame⟩ := X0.leave (v := some (.int (-1 : Int32))) (fun h => by rw [Bd.returns] at h; cases h) (BodyLoose.notSynchronized Bd)
  refine ⟨_, _, pre0 _ ?_, hrun, hended, _, _, rfl, ?_, ⟨_, rfl⟩, hW, hsame.mono (by decide) (by decide)⟩
  -- 4. STEPS
  · show Steps p.tables e below (s₁.setTop (mkF m 0 #[.val (.int p1)] [])) _
    refine XS.iloadN X0.here hx rfl (hb hby d2_0) rfl ?_
    show Steps p.tables e below (s₁.setTop (mkF m 1 #[.val (.int p1)] [(.int p1)])) _
    refine XS.bipush X0.here hx rfl (hb hby d2_1) ?_
    show Steps p.tables e below (s₁.setTop (mkF m 3 #[.val (.int p1)] [(.int (48 : Int32)), (.int p1)])) _
    refine XS.icmpNo X0.here hx rfl (hb hby d2_3) rfl (flt hc3).1 ?_
    show Steps p.tables e below (s₁.setTop (mkF m 6 #[.val (.int p1)] [])) _
    refine XS.iloadN X0.here hx rfl (hb hby d2_6) rfl ?_
    show Steps p.tables e below (s₁.setTop (mkF m 7 #[.val (.int p1)] [(.int p1)])) _
    refine XS.bipush X0.here hx rfl (hb hby d2_7) ?_
    show Steps p.tables e below (s₁.setTop (mkF m 9 #[.val (.int p1)] [(.int (57 : Int32)), (.int p1)])) _
    refine XS.icmpYes X0.here hx rfl (pc0 := 9) (pc' := 17) rfl (hb hby d2_9) rfl (tlt hc9).2.2.1 (by decide) (by decide) ?_
    show Steps p.tables e below (s₁.setTop (mkF m 17 #[.val (.int p1)] [])) _
    refine XS.iloadN X0.here hx rfl (hb hby d2_17) rfl ?_
    show Steps p.tables e below (s₁.setTop (mkF m 18 #[.val (.int p1)] [(.int p1)])) _
    refine XS.bipush X0.here hx rfl (hb hby d2_18) ?_
    show Steps p.tables e below (s₁.setTop (mkF m 20 #[.val (.int p1)] [(.int (97 : Int32)), (.int p1)])) _
    refine XS.icmpYes X0.here hx rfl (pc0 := 20) (pc' := 37) rfl (hb hby d2_20) rfl (tlt hc20).1 (by decide) (by decide) ?_
    show Steps p.tables e below (s₁.setTop (mkF m 37 #[.val (.int p1)] [])) _
    refine XS.iloadN X0.here hx rfl (hb hby d2_37) rfl ?_
    show Steps p.tables e below (s₁.setTop (mkF m 38 #[.val (.int p1)] [(.int p1)])) _
    refine XS.bipush X0.here hx rfl (hb hby d2_38) ?_
    show Steps p.tables e below (s₁.setTop (mkF m 40 #[.val (.int p1)] [(.int (65 : Int32)), (.int p1)])) _
    refine XS.icmpNo X0.here hx rfl (hb hby d2_40) rfl (flt hc40).1 ?_
    show Steps p.tables e below (s₁.setTop (mkF m 43 #[.val (.int p1)] [])) _
    refine XS.iloadN X0.here hx rfl (hb hby d2_43) rfl ?_
    show Steps p.tables e below (s₁.setTop (mkF m 44 #[.val (.int p1)] [(.int p1)])) _
    refine XS.bipush X0.here hx rfl (hb hby d2_44) ?_
    show Steps p.tables e below (s₁.setTop (mkF m 46 #[.val (.int p1)] [(.int (70 : Int32)), (.int p1)])) _
    refine XS.icmpYes X0.here hx rfl (pc0 := 46) (pc' := 57) rfl (hb hby d2_46) rfl (tlt hc46).2.2.1 (by decide) (by decide) ?_
    show Steps p.tables e below (s₁.setTop (mkF m 57 #[.val (.int p1)] [])) _
    refine XS.iconst X0.here hx rfl (hb hby d2_57) ?_
    show Steps p.tables e below (s₁.setTop (mkF m 58 #[.val (.int p1)] [(.int (-1 : Int32))])) _
    exact retI X0 hx Bd.returns (hb hby d2_58) hr      -- retI stands in the head ('lawwalk <made dir>' prints it)
  · show Q2 Z p1 h0 n0 _ s₁.heap _
    rw [e0]
    exact ⟨(by unfold own_f2; rw [if_neg hc3, if_pos hc9, if_pos hc20, if_neg hc40, if_pos hc46]), N0, rfl⟩
set_option maxRecDepth 65536 in
set_option maxHeartbeats 40000000 in
theorem rm2_fttff (l : Launch) (Z : State) (a0 : Array Value) (hw : ∀ d ∈ tables_1, d.before a0 Z = true) (ws : List Jvm.Cond) (p1 : Int32) (h0 : Heap) (n0 : Nat) (Z0 : n0 ≤ h0.size) (hc3 : ¬ (p1 < (48 : Int32))) (hc9 : (57 : Int32) < p1) (hc20 : p1 < (97 : Int32)) (hc40 : ¬ (p1 < (65 : Int32))) (hc46 : ¬ ((70 : Int32) < p1)) :
    MetFree l (⟨"com/example/varpack/varpack/Hex", "valueOf", "(C)I"⟩ : MethodName) (head1 (Jvm.Cond.code (⟨"com/example/varpack/varpack/Hex", "valueOf", "(C)I"⟩ : MethodName) prog_12_method_3_code 1 (some .int) :: ws) ({ frames := 0, cells := 0, slots := 0, locals := 0 } : Room)) (fun a U => a = #[(.int p1)] ∧ Z.Warmed39 U.vm ∧ U.heap = h0) (fun _ _ _ _ _ => True) (fun _ U o U' => ∃ v L, o = .returned v ∧ Q2 Z p1 h0 n0 v U'.heap L ∧ FrameEnd U o U' L ({ frames := 0, cells := 0, slots := 0, locals := 0 } : Room).cells ({ frames := 0, cells := 0, slots := 0, locals := 0 } : Room).slots) := by
  refine MetFree.of_bodySF (plainFor_of_name pn_2) hisR ?_
  intro p e s m args below meth c s₁ Bd hml0 hP hK
  obtain ⟨rfl, hZ, hh⟩ := hP
  have hx := Bd.exec
  have hby := Bd.bytes
  have hml : c.maxLocals = 1 := hml0
  have hown : s.vm.findClass "com/example/varpack/varpack/Hex" = some m.cls := findClass_of_methodNamed Bd.named
  have hnm := (name_of_methodNamed Bd.named Bd.method).1
  have X0 : Stand p l e ({ frames := 0, cells := 0, slots := 0, locals := 0 } : Room) s m #[(.int p1)] below meth c s₁ [] 0 0 := Stand.of_body Bd
  have e0 : s₁.heap = h0 := by rw [← hh, Bd.state]; rfl
  have N0 := Fr.nil n0
  have pre0 : ∀ t, Steps p.tables e below (s₁.setTop (mkF m 0 #[.val (.int p1)] [])) t → Steps p.tables e below (s₁.setTop (entryFrame m #[(.int p1)] 1)) t := fun t k => castTop (ef_2 m p1) k
  -- 3. LAWS

  obtain ⟨fs, hr, hrun, hended, hW, hsame⟩ := X0.leave (v := some (.int ((p1 - (65 : Int32)) + (10 : Int32)))) (fun h => by rw [Bd.returns] at h; cases h) (BodyLoose.notSynchronized Bd)
  refine ⟨_, _, pre0 _ ?_, hrun, hended, _, _, rfl, ?_, ⟨_, rfl⟩, hW, hsame.mono (by decide) (by decide)⟩
  -- 4. STEPS
  · show Steps p.tables e below (s₁.setTop (mkF m 0 #[.val (.int p1)] [])) _
    refine XS.iloadN X0.here hx rfl (hb hby d2_0) rfl ?_
    show Steps p.tables e below (s₁.setTop (mkF m 1 #[.val (.int p1)] [(.int p1)])) _
    refine XS.bipush X0.here hx rfl (hb hby d2_1) ?_
    show Steps p.tables e below (s₁.setTop (mkF m 3 #[.val (.int p1)] [(.int (48 : Int32)), (.int p1)])) _
    refine XS.icmpNo X0.here hx rfl (hb hby d2_3) rfl (flt hc3).1 ?_
    show Steps p.tables e below (s₁.setTop (mkF m 6 #[.val (.int p1)] [])) _
    refine XS.iloadN X0.here hx rfl (hb hby d2_6) rfl ?_
    show Steps p.tables e below (s₁.setTop (mkF m 7 #[.val (.int p1)] [(.int p1)])) _
    refine XS.bipush X0.here hx rfl (hb hby d2_7) ?_
    show Steps p.tables e below (s₁.setTop (mkF m 9 #[.val (.int p1)] [(.int (57 : Int32)), (.int p1)])) _
    refine XS.icmpYes X0.here hx rfl (pc0 := 9) (pc' := 17) rfl (hb hby d2_9) rfl (tlt hc9).2.2.1 (by decide) (by decide) ?_
    show Steps p.tables e below (s₁.setTop (mkF m 17 #[.val (.int p1)] [])) _
    refine XS.iloadN X0.here hx rfl (hb hby d2_17) rfl ?_
    show Steps p.tables e below (s₁.setTop (mkF m 18 #[.val (.int p1)] [(.int p1)])) _
    refine XS.bipush X0.here hx rfl (hb hby d2_18) ?_
    show Steps p.tables e below (s₁.setTop (mkF m 20 #[.val (.int p1)] [(.int (97 : Int32)), (.int p1)])) _
    refine XS.icmpYes X0.here hx rfl (pc0 := 20) (pc' := 37) rfl (hb hby d2_20) rfl (tlt hc20).1 (by decide) (by decide) ?_
    show Steps p.tables e below (s₁.setTop (mkF m 37 #[.val (.int p1)] [])) _
    refine XS.iloadN X0.here hx rfl (hb hby d2_37) rfl ?_
    show Steps p.tables e below (s₁.setTop (mkF m 38 #[.val (.int p1)] [(.int p1)])) _
    refine XS.bipush X0.here hx rfl (hb hby d2_38) ?_
    show Steps p.tables e below (s₁.setTop (mkF m 40 #[.val (.int p1)] [(.int (65 : Int32)), (.int p1)])) _
    refine XS.icmpNo X0.here hx rfl (hb hby d2_40) rfl (flt hc40).1 ?_
    show Steps p.tables e below (s₁.setTop (mkF m 43 #[.val (.int p1)] [])) _
    refine XS.iloadN X0.here hx rfl (hb hby d2_43) rfl ?_
    show Steps p.tables e below (s₁.setTop (mkF m 44 #[.val (.int p1)] [(.int p1)])) _
    refine XS.bipush X0.here hx rfl (hb hby d2_44) ?_
    show Steps p.tables e below (s₁.setTop (mkF m 46 #[.val (.int p1)] [(.int (70 : Int32)), (.int p1)])) _
    refine XS.icmpNo X0.here hx rfl (hb hby d2_46) rfl (flt hc46).2.2.1 ?_
    show Steps p.tables e below (s₁.setTop (mkF m 49 #[.val (.int p1)] [])) _
    refine XS.iloadN X0.here hx rfl (hb hby d2_49) rfl ?_
    show Steps p.tables e below (s₁.setTop (mkF m 50 #[.val (.int p1)] [(.int p1)])) _
    refine XS.bipush X0.here hx rfl (hb hby d2_50) ?_
    show Steps p.tables e below (s₁.setTop (mkF m 52 #[.val (.int p1)] [(.int (65 : Int32)), (.int p1)])) _
    refine XS.isub X0.here hx rfl (hb hby d2_52) rfl ?_
    show Steps p.tables e below (s₁.setTop (mkF m 53 #[.val (.int p1)] [(.int (p1 - (65 : Int32)))])) _
    refine XS.bipush X0.here hx rfl (hb hby d2_53) ?_
    show Steps p.tables e below (s₁.setTop (mkF m 55 #[.val (.int p1)] [(.int (10 : Int32)), (.int (p1 - (65 : Int32)))])) _
    refine XS.iadd X0.here hx rfl (hb hby d2_55) rfl ?_
    show Steps p.tables e below (s₁.setTop (mkF m 56 #[.val (.int p1)] [(.int ((p1 - (65 : Int32)) + (10 : Int32)))])) _
    exact retI X0 hx Bd.returns (hb hby d2_56) hr      -- retI stands in the head ('lawwalk <made dir>' prints it)
  · show Q2 Z p1 h0 n0 _ s₁.heap _
    rw [e0]
    exact ⟨(by unfold own_f2; rw [if_neg hc3, if_pos hc9, if_pos hc20, if_neg hc40, if_neg hc46]), N0, rfl⟩
set_option maxRecDepth 65536 in
set_option maxHeartbeats 40000000 in
theorem rm2_ftftt (l : Launch) (Z : State) (a0 : Array Value) (hw : ∀ d ∈ tables_1, d.before a0 Z = true) (ws : List Jvm.Cond) (p1 : Int32) (h0 : Heap) (n0 : Nat) (Z0 : n0 ≤ h0.size) (hc3 : ¬ (p1 < (48 : Int32))) (hc9 : (57 : Int32) < p1) (hc20 : ¬ (p1 < (97 : Int32))) (hc26 : (102 : Int32) < p1) (hc40 : p1 < (65 : Int32)) :
    MetFree l (⟨"com/example/varpack/varpack/Hex", "valueOf", "(C)I"⟩ : MethodName) (head1 (Jvm.Cond.code (⟨"com/example/varpack/varpack/Hex", "valueOf", "(C)I"⟩ : MethodName) prog_12_method_3_code 1 (some .int) :: ws) ({ frames := 0, cells := 0, slots := 0, locals := 0 } : Room)) (fun a U => a = #[(.int p1)] ∧ Z.Warmed39 U.vm ∧ U.heap = h0) (fun _ _ _ _ _ => True) (fun _ U o U' => ∃ v L, o = .returned v ∧ Q2 Z p1 h0 n0 v U'.heap L ∧ FrameEnd U o U' L ({ frames := 0, cells := 0, slots := 0, locals := 0 } : Room).cells ({ frames := 0, cells := 0, slots := 0, locals := 0 } : Room).slots) := by
  refine MetFree.of_bodySF (plainFor_of_name pn_2) hisR ?_
  intro p e s m args below meth c s₁ Bd hml0 hP hK
  obtain ⟨rfl, hZ, hh⟩ := hP
  have hx := Bd.exec
  have hby := Bd.bytes
  have hml : c.maxLocals = 1 := hml0
  have hown : s.vm.findClass "com/example/varpack/varpack/Hex" = some m.cls := findClass_of_methodNamed Bd.named
  have hnm := (name_of_methodNamed Bd.named Bd.method).1
  have X0 : Stand p l e ({ frames := 0, cells := 0, slots := 0, locals := 0 } : Room) s m #[(.int p1)] below meth c s₁ [] 0 0 := Stand.of_body Bd
  have e0 : s₁.heap = h0 := by rw [← hh, Bd.state]; rfl
  have N0 := Fr.nil n0
  have pre0 : ∀ t, Steps p.tables e below (s₁.setTop (mkF m 0 #[.val (.int p1)] [])) t → Steps p.tables e below (s₁.setTop (entryFrame m #[(.int p1)] 1)) t := fun t k => castTop (ef_2 m p1) k
  -- 3. LAWS

  obtain ⟨fs, hr, hrun, hended, hW, hsame⟩ := X0.leave (v := some (.int (-1 : Int32))) (fun h => by rw [Bd.returns] at h; cases h) (BodyLoose.notSynchronized Bd)
  refine ⟨_, _, pre0 _ ?_, hrun, hended, _, _, rfl, ?_, ⟨_, rfl⟩, hW, hsame.mono (by decide) (by decide)⟩
  -- 4. STEPS
  · show Steps p.tables e below (s₁.setTop (mkF m 0 #[.val (.int p1)] [])) _
    refine XS.iloadN X0.here hx rfl (hb hby d2_0) rfl ?_
    show Steps p.tables e below (s₁.setTop (mkF m 1 #[.val (.int p1)] [(.int p1)])) _
    refine XS.bipush X0.here hx rfl (hb hby d2_1) ?_
    show Steps p.tables e below (s₁.setTop (mkF m 3 #[.val (.int p1)] [(.int (48 : Int32)), (.int p1)])) _
    refine XS.icmpNo X0.here hx rfl (hb hby d2_3) rfl (flt hc3).1 ?_
    show Steps p.tables e below (s₁.setTop (mkF m 6 #[.val (.int p1)] [])) _
    refine XS.iloadN X0.here hx rfl (hb hby d2_6) rfl ?_
    show Steps p.tables e below (s₁.setTop (mkF m 7 #[.val (.int p1)] [(.int p1)])) _
    refine XS.bipush X0.here hx rfl (hb hby d2_7) ?_
    show Steps p.tables e below (s₁.setTop (mkF m 9 #[.val (.int p1)] [(.int (57 : Int32)), (.int p1)])) _
    refine XS.icmpYes X0.here hx rfl (pc0 := 9) (pc' := 17) rfl (hb hby d2_9) rfl (tlt hc9).2.2.1 (by decide) (by decide) ?_
    show Steps p.tables e below (s₁.setTop (mkF m 17 #[.val (.int p1)] [])) _
    refine XS.iloadN X0.here hx rfl (hb hby d2_17) rfl ?_
    show Steps p.tables e below (s₁.setTop (mkF m 18 #[.val (.int p1)] [(.int p1)])) _
    refine XS.bipush X0.here hx rfl (hb hby d2_18) ?_
    show Steps p.tables e below (s₁.setTop (mkF m 20 #[.val (.int p1)] [(.int (97 : Int32)), (.int p1)])) _
    refine XS.icmpNo X0.here hx rfl (hb hby d2_20) rfl (flt hc20).1 ?_
    show Steps p.tables e below (s₁.setTop (mkF m 23 #[.val (.int p1)] [])) _
    refine XS.iloadN X0.here hx rfl (hb hby d2_23) rfl ?_
    show Steps p.tables e below (s₁.setTop (mkF m 24 #[.val (.int p1)] [(.int p1)])) _
    refine XS.bipush X0.here hx rfl (hb hby d2_24) ?_
    show Steps p.tables e below (s₁.setTop (mkF m 26 #[.val (.int p1)] [(.int (102 : Int32)), (.int p1)])) _
    refine XS.icmpYes X0.here hx rfl (pc0 := 26) (pc' := 37) rfl (hb hby d2_26) rfl (tlt hc26).2.2.1 (by decide) (by decide) ?_
    show Steps p.tables e below (s₁.setTop (mkF m 37 #[.val (.int p1)] [])) _
    refine XS.iloadN X0.here hx rfl (hb hby d2_37) rfl ?_
    show Steps p.tables e below (s₁.setTop (mkF m 38 #[.val (.int p1)] [(.int p1)])) _
    refine XS.bipush X0.here hx rfl (hb hby d2_38) ?_
    show Steps p.tables e below (s₁.setTop (mkF m 40 #[.val (.int p1)] [(.int (65 : Int32)), (.int p1)])) _
    refine XS.icmpYes X0.here hx rfl (pc0 := 40) (pc' := 57) rfl (hb hby d2_40) rfl (tlt hc40).1 (by decide) (by decide) ?_
    show Steps p.tables e below (s₁.setTop (mkF m 57 #[.val (.int p1)] [])) _
    refine XS.iconst X0.here hx rfl (hb hby d2_57) ?_
    show Steps p.tables e below (s₁.setTop (mkF m 58 #[.val (.int p1)] [(.int (-1 : Int32))])) _
    exact retI X0 hx Bd.returns (hb hby d2_58) hr      -- retI stands in the head ('lawwalk <made dir>' prints it)
  · show Q2 Z p1 h0 n0 _ s₁.heap _
    rw [e0]
    exact ⟨(by unfold own_f2; rw [if_neg hc3, if_pos hc9, if_neg hc20, if_pos hc26, if_pos hc40]), N0, rfl⟩
set_option maxRecDepth 65536 in
set_option maxHeartbeats 40000000 in
theorem rm2_ftftft (l : Launch) (Z : State) (a0 : Array Value) (hw : ∀ d ∈ tables_1, d.before a0 Z = true) (ws : List Jvm.Cond) (p1 : Int32) (h0 : Heap) (n0 : Nat) (Z0 : n0 ≤ h0.size) (hc3 : ¬ (p1 < (48 : Int32))) (hc9 : (57 : Int32) < p1) (hc20 : ¬ (p1 < (97 : Int32))) (hc26 : (102 : Int32) < p1) (hc40 : ¬ (p1 < (65 : Int32))) (hc46 : (70 : Int32) < p1) :
    MetFree l (⟨"com/example/varpack/varpack/Hex", "valueOf", "(C)I"⟩ : MethodName) (head1 (Jvm.Cond.code (⟨"com/example/varpack/varpack/Hex", "valueOf", "(C)I"⟩ : MethodName) prog_12_method_3_code 1 (some .int) :: ws) ({ frames := 0, cells := 0, slots := 0, locals := 0 } : Room)) (fun a U => a = #[(.int p1)] ∧ Z.Warmed39 U.vm ∧ U.heap = h0) (fun _ _ _ _ _ => True) (fun _ U o U' => ∃ v L, o = .returned v ∧ Q2 Z p1 h0 n0 v U'.heap L ∧ FrameEnd U o U' L ({ frames := 0, cells := 0, slots := 0, locals := 0 } : Room).cells ({ frames := 0, cells := 0, slots := 0, locals := 0 } : Room).slots) := by
  refine MetFree.of_bodySF (plainFor_of_name pn_2) hisR ?_
  intro p e s m args below meth c s₁ Bd hml0 hP hK
  obtain ⟨rfl, hZ, hh⟩ := hP
  have hx := Bd.exec
  have hby := Bd.bytes
  have hml : c.maxLocals = 1 := hml0
  have hown : s.vm.findClass "com/example/varpack/varpack/Hex" = some m.cls := findClass_of_methodNamed Bd.named
  have hnm := (name_of_methodNamed Bd.named Bd.method).1
  have X0 : Stand p l e ({ frames := 0, cells := 0, slots := 0, locals := 0 } : Room) s m #[(.int p1)] below meth c s₁ [] 0 0 := Stand.of_body Bd
  have e0 : s₁.heap = h0 := by rw [← hh, Bd.state]; rfl
  have N0 := Fr.nil n0
  have pre0 : ∀ t, Steps p.tables e below (s₁.setTop (mkF m 0 #[.val (.int p1)] [])) t → Steps p.tables e below (s₁.setTop (entryFrame m #[(.int p1)] 1)) t := fun t k => castTop (ef_2 m p1) k
  -- 3. LAWS

  obtain ⟨fs, hr, hrun, hended, hW, hsame⟩ := X0.leave (v := some (.int (-1 : Int32))) (fun h => by rw [Bd.returns] at h; cases h) (BodyLoose.notSynchronized Bd)
  refine ⟨_, _, pre0 _ ?_, hrun, hended, _, _, rfl, ?_, ⟨_, rfl⟩, hW, hsame.mono (by decide) (by decide)⟩
  -- 4. STEPS
  · show Steps p.tables e below (s₁.setTop (mkF m 0 #[.val (.int p1)] [])) _
    refine XS.iloadN X0.here hx rfl (hb hby d2_0) rfl ?_
    show Steps p.tables e below (s₁.setTop (mkF m 1 #[.val (.int p1)] [(.int p1)])) _
    refine XS.bipush X0.here hx rfl (hb hby d2_1) ?_
    show Steps p.tables e below (s₁.setTop (mkF m 3 #[.val (.int p1)] [(.int (48 : Int32)), (.int p1)])) _
    refine XS.icmpNo X0.here hx rfl (hb hby d2_3) rfl (flt hc3).1 ?_
    show Steps p.tables e below (s₁.setTop (mkF m 6 #[.val (.int p1)] [])) _
    refine XS.iloadN X0.here hx rfl (hb hby d2_6) rfl ?_
    show Steps p.tables e below (s₁.setTop (mkF m 7 #[.val (.int p1)] [(.int p1)])) _
    refine XS.bipush X0.here hx rfl (hb hby d2_7) ?_
    show Steps p.tables e below (s₁.setTop (mkF m 9 #[.val (.int p1)] [(.int (57 : Int32)), (.int p1)])) _
    refine XS.icmpYes X0.here hx rfl (pc0 := 9) (pc' := 17) rfl (hb hby d2_9) rfl (tlt hc9).2.2.1 (by decide) (by decide) ?_
    show Steps p.tables e below (s₁.setTop (mkF m 17 #[.val (.int p1)] [])) _
    refine XS.iloadN X0.here hx rfl (hb hby d2_17) rfl ?_
    show Steps p.tables e below (s₁.setTop (mkF m 18 #[.val (.int p1)] [(.int p1)])) _
    refine XS.bipush X0.here hx rfl (hb hby d2_18) ?_
    show Steps p.tables e below (s₁.setTop (mkF m 20 #[.val (.int p1)] [(.int (97 : Int32)), (.int p1)])) _
    refine XS.icmpNo X0.here hx rfl (hb hby d2_20) rfl (flt hc20).1 ?_
    show Steps p.tables e below (s₁.setTop (mkF m 23 #[.val (.int p1)] [])) _
    refine XS.iloadN X0.here hx rfl (hb hby d2_23) rfl ?_
    show Steps p.tables e below (s₁.setTop (mkF m 24 #[.val (.int p1)] [(.int p1)])) _
    refine XS.bipush X0.here hx rfl (hb hby d2_24) ?_
    show Steps p.tables e below (s₁.setTop (mkF m 26 #[.val (.int p1)] [(.int (102 : Int32)), (.int p1)])) _
    refine XS.icmpYes X0.here hx rfl (pc0 := 26) (pc' := 37) rfl (hb hby d2_26) rfl (tlt hc26).2.2.1 (by decide) (by decide) ?_
    show Steps p.tables e below (s₁.setTop (mkF m 37 #[.val (.int p1)] [])) _
    refine XS.iloadN X0.here hx rfl (hb hby d2_37) rfl ?_
    show Steps p.tables e below (s₁.setTop (mkF m 38 #[.val (.int p1)] [(.int p1)])) _
    refine XS.bipush X0.here hx rfl (hb hby d2_38) ?_
    show Steps p.tables e below (s₁.setTop (mkF m 40 #[.val (.int p1)] [(.int (65 : Int32)), (.int p1)])) _
    refine XS.icmpNo X0.here hx rfl (hb hby d2_40) rfl (flt hc40).1 ?_
    show Steps p.tables e below (s₁.setTop (mkF m 43 #[.val (.int p1)] [])) _
    refine XS.iloadN X0.here hx rfl (hb hby d2_43) rfl ?_
    show Steps p.tables e below (s₁.setTop (mkF m 44 #[.val (.int p1)] [(.int p1)])) _
    refine XS.bipush X0.here hx rfl (hb hby d2_44) ?_
    show Steps p.tables e below (s₁.setTop (mkF m 46 #[.val (.int p1)] [(.int (70 : Int32)), (.int p1)])) _
    refine XS.icmpYes X0.here hx rfl (pc0 := 46) (pc' := 57) rfl (hb hby d2_46) rfl (tlt hc46).2.2.1 (by decide) (by decide) ?_
    show Steps p.tables e below (s₁.setTop (mkF m 57 #[.val (.int p1)] [])) _
    refine XS.iconst X0.here hx rfl (hb hby d2_57) ?_
    show Steps p.tables e below (s₁.setTop (mkF m 58 #[.val (.int p1)] [(.int (-1 : Int32))])) _
    exact retI X0 hx Bd.returns (hb hby d2_58) hr      -- retI stands in the head ('lawwalk <made dir>' prints it)
  · show Q2 Z p1 h0 n0 _ s₁.heap _
    rw [e0]
    exact ⟨(by unfold own_f2; rw [if_neg hc3, if_pos hc9, if_neg hc20, if_pos hc26, if_neg hc40, if_pos hc46]), N0, rfl⟩
set_option maxRecDepth 65536 in
set_option maxHeartbeats 40000000 in
theorem rm2_ftftff (l : Launch) (Z : State) (a0 : Array Value) (hw : ∀ d ∈ tables_1, d.before a0 Z = true) (ws : List Jvm.Cond) (p1 : Int32) (h0 : Heap) (n0 : Nat) (Z0 : n0 ≤ h0.size) (hc3 : ¬ (p1 < (48 : Int32))) (hc9 : (57 : Int32) < p1) (hc20 : ¬ (p1 < (97 : Int32))) (hc26 : (102 : Int32) < p1) (hc40 : ¬ (p1 < (65 : Int32))) (hc46 : ¬ ((70 : Int32) < p1)) :
    MetFree l (⟨"com/example/varpack/varpack/Hex", "valueOf", "(C)I"⟩ : MethodName) (head1 (Jvm.Cond.code (⟨"com/example/varpack/varpack/Hex", "valueOf", "(C)I"⟩ : MethodName) prog_12_method_3_code 1 (some .int) :: ws) ({ frames := 0, cells := 0, slots := 0, locals := 0 } : Room)) (fun a U => a = #[(.int p1)] ∧ Z.Warmed39 U.vm ∧ U.heap = h0) (fun _ _ _ _ _ => True) (fun _ U o U' => ∃ v L, o = .returned v ∧ Q2 Z p1 h0 n0 v U'.heap L ∧ FrameEnd U o U' L ({ frames := 0, cells := 0, slots := 0, locals := 0 } : Room).cells ({ frames := 0, cells := 0, slots := 0, locals := 0 } : Room).slots) := by
  refine MetFree.of_bodySF (plainFor_of_name pn_2) hisR ?_
  intro p e s m args below meth c s₁ Bd hml0 hP hK
  obtain ⟨rfl, hZ, hh⟩ := hP
  have hx := Bd.exec
  have hby := Bd.bytes
  have hml : c.maxLocals = 1 := hml0
  have hown : s.vm.findClass "com/example/varpack/varpack/Hex" = some m.cls := findClass_of_methodNamed Bd.named
  have hnm := (name_of_methodNamed Bd.named Bd.method).1
  have X0 : Stand p l e ({ frames := 0, cells := 0, slots := 0, locals := 0 } : Room) s m #[(.int p1)] below meth c s₁ [] 0 0 := Stand.of_body Bd
  have e0 : s₁.heap = h0 := by rw [← hh, Bd.state]; rfl
  have N0 := Fr.nil n0
  have pre0 : ∀ t, Steps p.tables e below (s₁.setTop (mkF m 0 #[.val (.int p1)] [])) t → Steps p.tables e below (s₁.setTop (entryFrame m #[(.int p1)] 1)) t := fun t k => castTop (ef_2 m p1) k
  -- 3. LAWS

  obtain ⟨fs, hr, hrun, hended, hW, hsame⟩ := X0.leave (v := some (.int ((p1 - (65 : Int32)) + (10 : Int32)))) (fun h => by rw [Bd.returns] at h; cases h) (BodyLoose.notSynchronized Bd)
  refine ⟨_, _, pre0 _ ?_, hrun, hended, _, _, rfl, ?_, ⟨_, rfl⟩, hW, hsame.mono (by decide) (by decide)⟩
  -- 4. STEPS
  · show Steps p.tables e below (s₁.setTop (mkF m 0 #[.val (.int p1)] [])) _
    refine XS.iloadN X0.here hx rfl (hb hby d2_0) rfl ?_
    show Steps p.tables e below (s₁.setTop (mkF m 1 #[.val (.int p1)] [(.int p1)])) _
    refine XS.bipush X0.here hx rfl (hb hby d2_1) ?_
    show Steps p.tables e below (s₁.setTop (mkF m 3 #[.val (.int p1)] [(.int (48 : Int32)), (.int p1)])) _
    refine XS.icmpNo X0.here hx rfl (hb hby d2_3) rfl (flt hc3).1 ?_
    show Steps p.tables e below (s₁.setTop (mkF m 6 #[.val (.int p1)] [])) _
    refine XS.iloadN X0.here hx rfl (hb hby d2_6) rfl ?_
    show Steps p.tables e below (s₁.setTop (mkF m 7 #[.val (.int p1)] [(.int p1)])) _
    refine XS.bipush X0.here hx rfl (hb hby d2_7) ?_
    show Steps p.tables e below (s₁.setTop (mkF m 9 #[.val (.int p1)] [(.int (57 : Int32)), (.int p1)])) _
    refine XS.icmpYes X0.here hx rfl (pc0 := 9) (pc' := 17) rfl (hb hby d2_9) rfl (tlt hc9).2.2.1 (by decide) (by decide) ?_
    show Steps p.tables e below (s₁.setTop (mkF m 17 #[.val (.int p1)] [])) _
    refine XS.iloadN X0.here hx rfl (hb hby d2_17) rfl ?_
    show Steps p.tables e below (s₁.setTop (mkF m 18 #[.val (.int p1)] [(.int p1)])) _
    refine XS.bipush X0.here hx rfl (hb hby d2_18) ?_
    show Steps p.tables e below (s₁.setTop (mkF m 20 #[.val (.int p1)] [(.int (97 : Int32)), (.int p1)])) _
    refine XS.icmpNo X0.here hx rfl (hb hby d2_20) rfl (flt hc20).1 ?_
    show Steps p.tables e below (s₁.setTop (mkF m 23 #[.val (.int p1)] [])) _
    refine XS.iloadN X0.here hx rfl (hb hby d2_23) rfl ?_
    show Steps p.tables e below (s₁.setTop (mkF m 24 #[.val (.int p1)] [(.int p1)])) _
    refine XS.bipush X0.here hx rfl (hb hby d2_24) ?_
    show Steps p.tables e below (s₁.setTop (mkF m 26 #[.val (.int p1)] [(.int (102 : Int32)), (.int p1)])) _
    refine XS.icmpYes X0.here hx rfl (pc0 := 26) (pc' := 37) rfl (hb hby d2_26) rfl (tlt hc26).2.2.1 (by decide) (by decide) ?_
    show Steps p.tables e below (s₁.setTop (mkF m 37 #[.val (.int p1)] [])) _
    refine XS.iloadN X0.here hx rfl (hb hby d2_37) rfl ?_
    show Steps p.tables e below (s₁.setTop (mkF m 38 #[.val (.int p1)] [(.int p1)])) _
    refine XS.bipush X0.here hx rfl (hb hby d2_38) ?_
    show Steps p.tables e below (s₁.setTop (mkF m 40 #[.val (.int p1)] [(.int (65 : Int32)), (.int p1)])) _
    refine XS.icmpNo X0.here hx rfl (hb hby d2_40) rfl (flt hc40).1 ?_
    show Steps p.tables e below (s₁.setTop (mkF m 43 #[.val (.int p1)] [])) _
    refine XS.iloadN X0.here hx rfl (hb hby d2_43) rfl ?_
    show Steps p.tables e below (s₁.setTop (mkF m 44 #[.val (.int p1)] [(.int p1)])) _
    refine XS.bipush X0.here hx rfl (hb hby d2_44) ?_
    show Steps p.tables e below (s₁.setTop (mkF m 46 #[.val (.int p1)] [(.int (70 : Int32)), (.int p1)])) _
    refine XS.icmpNo X0.here hx rfl (hb hby d2_46) rfl (flt hc46).2.2.1 ?_
    show Steps p.tables e below (s₁.setTop (mkF m 49 #[.val (.int p1)] [])) _
    refine XS.iloadN X0.here hx rfl (hb hby d2_49) rfl ?_
    show Steps p.tables e below (s₁.setTop (mkF m 50 #[.val (.int p1)] [(.int p1)])) _
    refine XS.bipush X0.here hx rfl (hb hby d2_50) ?_
    show Steps p.tables e below (s₁.setTop (mkF m 52 #[.val (.int p1)] [(.int (65 : Int32)), (.int p1)])) _
    refine XS.isub X0.here hx rfl (hb hby d2_52) rfl ?_
    show Steps p.tables e below (s₁.setTop (mkF m 53 #[.val (.int p1)] [(.int (p1 - (65 : Int32)))])) _
    refine XS.bipush X0.here hx rfl (hb hby d2_53) ?_
    show Steps p.tables e below (s₁.setTop (mkF m 55 #[.val (.int p1)] [(.int (10 : Int32)), (.int (p1 - (65 : Int32)))])) _
    refine XS.iadd X0.here hx rfl (hb hby d2_55) rfl ?_
    show Steps p.tables e below (s₁.setTop (mkF m 56 #[.val (.int p1)] [(.int ((p1 - (65 : Int32)) + (10 : Int32)))])) _
    exact retI X0 hx Bd.returns (hb hby d2_56) hr      -- retI stands in the head ('lawwalk <made dir>' prints it)
  · show Q2 Z p1 h0 n0 _ s₁.heap _
    rw [e0]
    exact ⟨(by unfold own_f2; rw [if_neg hc3, if_pos hc9, if_neg hc20, if_pos hc26, if_neg hc40, if_neg hc46]), N0, rfl⟩
set_option maxRecDepth 65536 in
set_option maxHeartbeats 40000000 in
theorem rm2_ftff (l : Launch) (Z : State) (a0 : Array Value) (hw : ∀ d ∈ tables_1, d.before a0 Z = true) (ws : List Jvm.Cond) (p1 : Int32) (h0 : Heap) (n0 : Nat) (Z0 : n0 ≤ h0.size) (hc3 : ¬ (p1 < (48 : Int32))) (hc9 : (57 : Int32) < p1) (hc20 : ¬ (p1 < (97 : Int32))) (hc26 : ¬ ((102 : Int32) < p1)) :
    MetFree l (⟨"com/example/varpack/varpack/Hex", "valueOf", "(C)I"⟩ : MethodName) (head1 (Jvm.Cond.code (⟨"com/example/varpack/varpack/Hex", "valueOf", "(C)I"⟩ : MethodName) prog_12_method_3_code 1 (some .int) :: ws) ({ frames := 0, cells := 0, slots := 0, locals := 0 } : Room)) (fun a U => a = #[(.int p1)] ∧ Z.Warmed39 U.vm ∧ U.heap = h0) (fun _ _ _ _ _ => True) (fun _ U o U' => ∃ v L, o = .returned v ∧ Q2 Z p1 h0 n0 v U'.heap L ∧ FrameEnd U o U' L ({ frames := 0, cells := 0, slots := 0, locals := 0 } : Room).cells ({ frames := 0, cells := 0, slots := 0, locals := 0 } : Room).slots) := by
  refine MetFree.of_bodySF (plainFor_of_name pn_2) hisR ?_
  intro p e s m args below meth c s₁ Bd hml0 hP hK
  obtain ⟨rfl, hZ, hh⟩ := hP
  have hx := Bd.exec
  have hby := Bd.bytes
  have hml : c.maxLocals = 1 := hml0
  have hown : s.vm.findClass "com/example/varpack/varpack/Hex" = some m.cls := findClass_of_methodNamed Bd.named
  have hnm := (name_of_methodNamed Bd.named Bd.method).1
  have X0 : Stand p l e ({ frames := 0, cells := 0, slots := 0, locals := 0 } : Room) s m #[(.int p1)] below meth c s₁ [] 0 0 := Stand.of_body Bd
  have e0 : s₁.heap = h0 := by rw [← hh, Bd.state]; rfl
  have N0 := Fr.nil n0
  have pre0 : ∀ t, Steps p.tables e below (s₁.setTop (mkF m 0 #[.val (.int p1)] [])) t → Steps p.tables e below (s₁.setTop (entryFrame m #[(.int p1)] 1)) t := fun t k => castTop (ef_2 m p1) k
  -- 3. LAWS

  obtain ⟨fs, hr, hrun, hended, hW, hsame⟩ := X0.leave (v := some (.int ((p1 - (97 : Int32)) + (10 : Int32)))) (fun h => by rw [Bd.returns] at h; cases h) (BodyLoose.notSynchronized Bd)
  refine ⟨_, _, pre0 _ ?_, hrun, hended, _, _, rfl, ?_, ⟨_, rfl⟩, hW, hsame.mono (by decide) (by decide)⟩
  -- 4. STEPS
  · show Steps p.tables e below (s₁.setTop (mkF m 0 #[.val (.int p1)] [])) _
    refine XS.iloadN X0.here hx rfl (hb hby d2_0) rfl ?_
    show Steps p.tables e below (s₁.setTop (mkF m 1 #[.val (.int p1)] [(.int p1)])) _
    refine XS.bipush X0.here hx rfl (hb hby d2_1) ?_
    show Steps p.tables e below (s₁.setTop (mkF m 3 #[.val (.int p1)] [(.int (48 : Int32)), (.int p1)])) _
    refine XS.icmpNo X0.here hx rfl (hb hby d2_3) rfl (flt hc3).1 ?_
    show Steps p.tables e below (s₁.setTop (mkF m 6 #[.val (.int p1)] [])) _
    refine XS.iloadN X0.here hx rfl (hb hby d2_6) rfl ?_
    show Steps p.tables e below (s₁.setTop (mkF m 7 #[.val (.int p1)] [(.int p1)])) _
    refine XS.bipush X0.here hx rfl (hb hby d2_7) ?_
    show Steps p.tables e below (s₁.setTop (mkF m 9 #[.val (.int p1)] [(.int (57 : Int32)), (.int p1)])) _
    refine XS.icmpYes X0.here hx rfl (pc0 := 9) (pc' := 17) rfl (hb hby d2_9) rfl (tlt hc9).2.2.1 (by decide) (by decide) ?_
    show Steps p.tables e below (s₁.setTop (mkF m 17 #[.val (.int p1)] [])) _
    refine XS.iloadN X0.here hx rfl (hb hby d2_17) rfl ?_
    show Steps p.tables e below (s₁.setTop (mkF m 18 #[.val (.int p1)] [(.int p1)])) _
    refine XS.bipush X0.here hx rfl (hb hby d2_18) ?_
    show Steps p.tables e below (s₁.setTop (mkF m 20 #[.val (.int p1)] [(.int (97 : Int32)), (.int p1)])) _
    refine XS.icmpNo X0.here hx rfl (hb hby d2_20) rfl (flt hc20).1 ?_
    show Steps p.tables e below (s₁.setTop (mkF m 23 #[.val (.int p1)] [])) _
    refine XS.iloadN X0.here hx rfl (hb hby d2_23) rfl ?_
    show Steps p.tables e below (s₁.setTop (mkF m 24 #[.val (.int p1)] [(.int p1)])) _
    refine XS.bipush X0.here hx rfl (hb hby d2_24) ?_
    show Steps p.tables e below (s₁.setTop (mkF m 26 #[.val (.int p1)] [(.int (102 : Int32)), (.int p1)])) _
    refine XS.icmpNo X0.here hx rfl (hb hby d2_26) rfl (flt hc26).2.2.1 ?_
    show Steps p.tables e below (s₁.setTop (mkF m 29 #[.val (.int p1)] [])) _
    refine XS.iloadN X0.here hx rfl (hb hby d2_29) rfl ?_
    show Steps p.tables e below (s₁.setTop (mkF m 30 #[.val (.int p1)] [(.int p1)])) _
    refine XS.bipush X0.here hx rfl (hb hby d2_30) ?_
    show Steps p.tables e below (s₁.setTop (mkF m 32 #[.val (.int p1)] [(.int (97 : Int32)), (.int p1)])) _
    refine XS.isub X0.here hx rfl (hb hby d2_32) rfl ?_
    show Steps p.tables e below (s₁.setTop (mkF m 33 #[.val (.int p1)] [(.int (p1 - (97 : Int32)))])) _
    refine XS.bipush X0.here hx rfl (hb hby d2_33) ?_
    show Steps p.tables e below (s₁.setTop (mkF m 35 #[.val (.int p1)] [(.int (10 : Int32)), (.int (p1 - (97 : Int32)))])) _
    refine XS.iadd X0.here hx rfl (hb hby d2_35) rfl ?_
    show Steps p.tables e below (s₁.setTop (mkF m 36 #[.val (.int p1)] [(.int ((p1 - (97 : Int32)) + (10 : Int32)))])) _
    exact retI X0 hx Bd.returns (hb hby d2_36) hr      -- retI stands in the head ('lawwalk <made dir>' prints it)
  · show Q2 Z p1 h0 n0 _ s₁.heap _
    rw [e0]
    exact ⟨(by unfold own_f2; rw [if_neg hc3, if_pos hc9, if_neg hc20, if_neg hc26]), N0, rfl⟩
set_option maxRecDepth 65536 in
set_option maxHeartbeats 40000000 in
theorem rm2_ff (l : Launch) (Z : State) (a0 : Array Value) (hw : ∀ d ∈ tables_1, d.before a0 Z = true) (ws : List Jvm.Cond) (p1 : Int32) (h0 : Heap) (n0 : Nat) (Z0 : n0 ≤ h0.size) (hc3 : ¬ (p1 < (48 : Int32))) (hc9 : ¬ ((57 : Int32) < p1)) :
    MetFree l (⟨"com/example/varpack/varpack/Hex", "valueOf", "(C)I"⟩ : MethodName) (head1 (Jvm.Cond.code (⟨"com/example/varpack/varpack/Hex", "valueOf", "(C)I"⟩ : MethodName) prog_12_method_3_code 1 (some .int) :: ws) ({ frames := 0, cells := 0, slots := 0, locals := 0 } : Room)) (fun a U => a = #[(.int p1)] ∧ Z.Warmed39 U.vm ∧ U.heap = h0) (fun _ _ _ _ _ => True) (fun _ U o U' => ∃ v L, o = .returned v ∧ Q2 Z p1 h0 n0 v U'.heap L ∧ FrameEnd U o U' L ({ frames := 0, cells := 0, slots := 0, locals := 0 } : Room).cells ({ frames := 0, cells := 0, slots := 0, locals := 0 } : Room).slots) := by
  refine MetFree.of_bodySF (plainFor_of_name pn_2) hisR ?_
  intro p e s m args below meth c s₁ Bd hml0 hP hK
  obtain ⟨rfl, hZ, hh⟩ := hP
  have hx := Bd.exec
  have hby := Bd.bytes
  have hml : c.maxLocals = 1 := hml0
  have hown : s.vm.findClass "com/example/varpack/varpack/Hex" = some m.cls := findClass_of_methodNamed Bd.named
  have hnm := (name_of_methodNamed Bd.named Bd.method).1
  have X0 : Stand p l e ({ frames := 0, cells := 0, slots := 0, locals := 0 } : Room) s m #[(.int p1)] below meth c s₁ [] 0 0 := Stand.of_body Bd
  have e0 : s₁.heap = h0 := by rw [← hh, Bd.state]; rfl
  have N0 := Fr.nil n0
  have pre0 : ∀ t, Steps p.tables e below (s₁.setTop (mkF m 0 #[.val (.int p1)] [])) t → Steps p.tables e below (s₁.setTop (entryFrame m #[(.int p1)] 1)) t := fun t k => castTop (ef_2 m p1) k
  -- 3. LAWS

  obtain ⟨fs, hr, hrun, hended, hW, hsame⟩ := X0.leave (v := some (.int (p1 - (48 : Int32)))) (fun h => by rw [Bd.returns] at h; cases h) (BodyLoose.notSynchronized Bd)
  refine ⟨_, _, pre0 _ ?_, hrun, hended, _, _, rfl, ?_, ⟨_, rfl⟩, hW, hsame.mono (by decide) (by decide)⟩
  -- 4. STEPS
  · show Steps p.tables e below (s₁.setTop (mkF m 0 #[.val (.int p1)] [])) _
    refine XS.iloadN X0.here hx rfl (hb hby d2_0) rfl ?_
    show Steps p.tables e below (s₁.setTop (mkF m 1 #[.val (.int p1)] [(.int p1)])) _
    refine XS.bipush X0.here hx rfl (hb hby d2_1) ?_
    show Steps p.tables e below (s₁.setTop (mkF m 3 #[.val (.int p1)] [(.int (48 : Int32)), (.int p1)])) _
    refine XS.icmpNo X0.here hx rfl (hb hby d2_3) rfl (flt hc3).1 ?_
    show Steps p.tables e below (s₁.setTop (mkF m 6 #[.val (.int p1)] [])) _
    refine XS.iloadN X0.here hx rfl (hb hby d2_6) rfl ?_
    show Steps p.tables e below (s₁.setTop (mkF m 7 #[.val (.int p1)] [(.int p1)])) _
    refine XS.bipush X0.here hx rfl (hb hby d2_7) ?_
    show Steps p.tables e below (s₁.setTop (mkF m 9 #[.val (.int p1)] [(.int (57 : Int32)), (.int p1)])) _
    refine XS.icmpNo X0.here hx rfl (hb hby d2_9) rfl (flt hc9).2.2.1 ?_
    show Steps p.tables e below (s₁.setTop (mkF m 12 #[.val (.int p1)] [])) _
    refine XS.iloadN X0.here hx rfl (hb hby d2_12) rfl ?_
    show Steps p.tables e below (s₁.setTop (mkF m 13 #[.val (.int p1)] [(.int p1)])) _
    refine XS.bipush X0.here hx rfl (hb hby d2_13) ?_
    show Steps p.tables e below (s₁.setTop (mkF m 15 #[.val (.int p1)] [(.int (48 : Int32)), (.int p1)])) _
    refine XS.isub X0.here hx rfl (hb hby d2_15) rfl ?_
    show Steps p.tables e below (s₁.setTop (mkF m 16 #[.val (.int p1)] [(.int (p1 - (48 : Int32)))])) _
    exact retI X0 hx Bd.returns (hb hby d2_16) hr      -- retI stands in the head ('lawwalk <made dir>' prints it)
  · show Q2 Z p1 h0 n0 _ s₁.heap _
    rw [e0]
    exact ⟨(by unfold own_f2; rw [if_neg hc3, if_neg hc9]), N0, rfl⟩
set_option maxRecDepth 65536 in
set_option maxHeartbeats 40000000 in
theorem rm2 (l : Launch) (Z : State) (a0 : Array Value) (hw : ∀ d ∈ tables_1, d.before a0 Z = true) (ws : List Jvm.Cond) (p1 : Int32) (h0 : Heap) (n0 : Nat) (Z0 : n0 ≤ h0.size)  :
    MetFree l (⟨"com/example/varpack/varpack/Hex", "valueOf", "(C)I"⟩ : MethodName) (head1 (Jvm.Cond.code (⟨"com/example/varpack/varpack/Hex", "valueOf", "(C)I"⟩ : MethodName) prog_12_method_3_code 1 (some .int) :: ws) ({ frames := 0, cells := 0, slots := 0, locals := 0 } : Room)) (fun a U => a = #[(.int p1)] ∧ Z.Warmed39 U.vm ∧ U.heap = h0) (fun _ _ _ _ _ => True) (fun _ U o U' => ∃ v L, o = .returned v ∧ Q2 Z p1 h0 n0 v U'.heap L ∧ FrameEnd U o U' L ({ frames := 0, cells := 0, slots := 0, locals := 0 } : Room).cells ({ frames := 0, cells := 0, slots := 0, locals := 0 } : Room).slots) := by
  by_cases hc3 : p1 < (48 : Int32)
  · by_cases hc20 : p1 < (97 : Int32)
    · by_cases hc40 : p1 < (65 : Int32)
      · exact rm2_ttt l Z a0 hw ws p1 h0 n0 Z0 hc3 hc20 hc40
      · by_cases hc46 : (70 : Int32) < p1
        · exact rm2_ttft l Z a0 hw ws p1 h0 n0 Z0 hc3 hc20 hc40 hc46
        · exact rm2_ttff l Z a0 hw ws p1 h0 n0 Z0 hc3 hc20 hc40 hc46
    · by_cases hc26 : (102 : Int32) < p1
      · by_cases hc40 : p1 < (65 : Int32)
        · exact rm2_tftt l Z a0 hw ws p1 h0 n0 Z0 hc3 hc20 hc26 hc40
        · by_cases hc46 : (70 : Int32) < p1
          · exact rm2_tftft l Z a0 hw ws p1 h0 n0 Z0 hc3 hc20 hc26 hc40 hc46
          · exact rm2_tftff l Z a0 hw ws p1 h0 n0 Z0 hc3 hc20 hc26 hc40 hc46
      · exact rm2_tff l Z a0 hw ws p1 h0 n0 Z0 hc3 hc20 hc26
  · by_cases hc9 : (57 : Int32) < p1
    · by_cases hc20 : p1 < (97 : Int32)
      · by_cases hc40 : p1 < (65 : Int32)
        · exact rm2_fttt l Z a0 hw ws p1 h0 n0 Z0 hc3 hc9 hc20 hc40
        · by_cases hc46 : (70 : Int32) < p1
          · exact rm2_fttft l Z a0 hw ws p1 h0 n0 Z0 hc3 hc9 hc20 hc40 hc46
          · exact rm2_fttff l Z a0 hw ws p1 h0 n0 Z0 hc3 hc9 hc20 hc40 hc46
      · by_cases hc26 : (102 : Int32) < p1
        · by_cases hc40 : p1 < (65 : Int32)
          · exact rm2_ftftt l Z a0 hw ws p1 h0 n0 Z0 hc3 hc9 hc20 hc26 hc40
          · by_cases hc46 : (70 : Int32) < p1
            · exact rm2_ftftft l Z a0 hw ws p1 h0 n0 Z0 hc3 hc9 hc20 hc26 hc40 hc46
            · exact rm2_ftftff l Z a0 hw ws p1 h0 n0 Z0 hc3 hc9 hc20 hc26 hc40 hc46
        · exact rm2_ftff l Z a0 hw ws p1 h0 n0 Z0 hc3 hc9 hc20 hc26
    · exact rm2_ff l Z a0 hw ws p1 h0 n0 Z0 hc3 hc9
def own_dg (k : Int32) : Int32 := if k < 10 then k + 48 else k + 87
theorem own_16 (p : Int32) : ∃ i : Fin 16, (p &&& (15 : Int32)) = Int32.ofNat i.val := by
  have e1 : (p &&& (15 : Int32)).toInt = p.toInt % 2 ^ 4 := Jvm.Kit.i32_mask p 15 (k := 4) (by decide) (by decide)
  generalize (p &&& (15 : Int32)) = n at e1
  refine ⟨⟨n.toInt.toNat, by omega⟩, ?_⟩
  apply Int32.toInt_inj.mp
  show n.toInt = (Int32.ofNat n.toInt.toNat).toInt
  rw [Int32.toInt_ofNat_small (by omega)]
  omega
theorem own_and15 (p : Int32) : ((p &&& (15 : Int32)) &&& (15 : Int32)) = (p &&& (15 : Int32)) := by
  rw [Int32.and_assoc, Int32.and_self]
theorem own_nar16 : ∀ i : Fin 16, nar .char (own_dg (Int32.ofNat i.val)) = own_dg (Int32.ofNat i.val) := by decide
theorem own_hn (p : Int32) : nar .char (own_dg (p &&& (15 : Int32))) = own_dg (p &&& (15 : Int32)) := by
  obtain ⟨i, hi⟩ := own_16 p
  rw [hi]; exact own_nar16 i
def Q0 (Z : State) (h0 : Heap) (n0 : Nat) (v : Option Value) (h : Heap) (L : List Loc) : Prop := v = some (.int (1 : Int32)) ∧ Fr n0 L
theorem pn_0 : plainName "com/example/varpack/varpack/HexValueOfPinLaw" = true := by first | (simp [plainName, overriddenIn]; done) | decide +kernel
theorem pd_0_0 : parseMethodDescriptor "(I)C" = some ⟨[.int], some .char⟩ := by decide +kernel
theorem pd_0_1 : parseMethodDescriptor "(C)I" = some ⟨[.char], some .int⟩ := by decide +kernel
theorem ef_0 (m : MethodId) (x0 : Int32) (x1 : Int32) : entryFrame m #[(.int x0), (.int x1)] maxLocals = mkF m 0 #[.val (.int x0), .val (.int x1), .unset, .unset, .unset, .unset, .unset, .unset, .unset, .unset, .unset] [] := by first | (simp [entryFrame, mkF, argsToLocals, Value.category, maxLocals]; done) | rfl
set_option maxRecDepth 65536 in
set_option maxHeartbeats 40000000 in
theorem rm0_tA (l : Launch) (Z : State) (a0 : Array Value) (hw : ∀ d ∈ tables_1, d.before a0 Z = true) (ws : List Jvm.Cond) (p1 : Int32) (p2 : Int32) (wd : Addr) (cl : Cell) (h0 : Heap) (n0 : Nat) (Z0 : n0 ≤ h0.size) (S_DIGITS : Sta Z h0 "com/example/varpack/varpack/Hex" "DIGITS" "[C" (.ref wd)) (Ar : Arr Z h0 wd cl .char) (hin : ∀ p : Int32, ¬ ((p &&& (15 : Int32)) < 0 ∨ cl.slots.size ≤ (p &&& (15 : Int32)).toNatClampNeg)) (hat : ∀ p : Int32, cl.slots[(p &&& (15 : Int32)).toNatClampNeg]? = some (.int (own_dg (p &&& (15 : Int32))))) (ht15 : (own_f2 (own_dg ((p1 &&& (15 : Int32)) &&& (15 : Int32)))) = (p1 &&& (15 : Int32))) (hc28 : (p1 &&& (15 : Int32)) < (10 : Int32)) (ht48 : (own_f2 (own_dg ((p1 &&& (15 : Int32)) &&& (15 : Int32)))) = (p1 &&& (15 : Int32))) (ht75 : (own_f2 ((p2 &&& (65535 : Int32)).toUInt32.toUInt16.toUInt32.toInt32)) = (-1 : Int32)) (hc142 : ¬ ((1 : Int32) = (0 : Int32))) (hc147 : ¬ ((1 : Int32) = (0 : Int32))) (hc152 : ¬ ((1 : Int32) = (0 : Int32))) :
    MetFree l x (head1 (Jvm.Cond.code x code maxLocals ret :: ws) room_1) (fun a U => a = #[(.int p1), (.int p2)] ∧ Z.Warmed39 U.vm ∧ U.heap = h0) (fun _ _ _ _ _ => True) (fun _ U o U' => ∃ v L, o = .returned v ∧ Q0 Z h0 n0 v U'.heap L ∧ FrameEnd U o U' L room_1.cells room_1.slots) := by
  refine MetFree.of_bodySF (plainFor_of_name pn_0) hisR ?_
  intro p e s m args below meth c s₁ Bd hml0 hP hK
  obtain ⟨rfl, hZ, hh⟩ := hP
  have hx := Bd.exec
  have hby := Bd.bytes
  have hml : c.maxLocals = 11 := hml0
  have hown : s.vm.findClass "com/example/varpack/varpack/HexValueOfPinLaw" = some m.cls := findClass_of_methodNamed Bd.named
  have hnm := (name_of_methodNamed Bd.named Bd.method).1
  have X0 : Stand p l e room_1 s m #[(.int p1), (.int p2)] below meth c s₁ [] 0 0 := Stand.of_body Bd
  have e0 : s₁.heap = h0 := by rw [← hh, Bd.state]; rfl
  have N0 := Fr.nil n0
  have pre0 : ∀ t, Steps p.tables e below (s₁.setTop (mkF m 0 #[.val (.int p1), .val (.int p2), .unset, .unset, .unset, .unset, .unset, .unset, .unset, .unset, .unset] [])) t → Steps p.tables e below (s₁.setTop (entryFrame m #[(.int p1), (.int p2)] maxLocals)) t := fun t k => castTop (ef_0 m p1 p2) k
  -- 3. LAWS
  -- pc 6: com/example/varpack/varpack/Hex.digit by its contract rm1
  obtain ⟨_, _, ⟨T3, L3, k3, n3⟩, -, X3, ⟨Lc3, hQ3, l3, y3, z3⟩, st3⟩ := Jvm.LawKit.callS X0 hx (y := (⟨"com/example/varpack/varpack/Hex", "digit", "(I)C"⟩ : MethodName)) hown (mvT hZ (hw _ (List.mem_of_getElem? (i := 0) rfl))) (mvT hZ (hw _ (List.mem_of_getElem? (i := 1) rfl))) (mvT hZ (hw _ (List.mem_of_getElem? (i := 2) rfl))) (mvT hZ (hw _ (List.mem_of_getElem? (i := 3) rfl))) (by decide) (backOf (W := 0) (rm1 l Z a0 hw [] (p1 &&& (15 : Int32)) wd (own_dg ((p1 &&& (15 : Int32)) &&& (15 : Int32))) cl h0 n0 Z0 S_DIGITS Ar (hin _) (hat _) (own_hn _)) hZ (hw _ (List.mem_of_getElem? (i := 3) rfl)) (hw _ (List.mem_of_getElem? (i := 2) rfl)) (by decide) (by decide)) (g := (mkF m 6 #[.val (.int p1), .val (.int p2), .val (.int (p1 &&& (15 : Int32))), .unset, .unset, .unset, .unset, .unset, .unset, .unset, .unset] [(.int (p1 &&& (15 : Int32)))])) rfl (by rw [hml]; rfl) (argsL := [(.int (p1 &&& (15 : Int32)))]) (rest := []) (lenOf pd_0_0 rfl) rfl (by show 2 * 0 + _ ≤ _; exact Nat.le_of_eq rfl) (hb hby at_6) (fun _ _ => ⟨rfl, e0, (by decide : 0 + 0 ≤ _), (by decide : 0 + 0 ≤ _)⟩)
  dsimp only [Pt.U, Pt.locs, Pt.cells, Pt.slots] at X3 l3 y3 z3 st3 hQ3
  subst l3 y3 z3
  obtain ⟨rfl, N3q, e3q⟩ := hQ3
  have N3 := Fr.app N0 N3q
  have K3q : Keep h0 T3.heap [] := own_keep e3q
  have KH3 : Keep h0 T3.heap [] := (Keep.refl h0 []).trans K3q own_ws0
  have eh3 : T3.heap = h0 := by rw [e3q]
  -- pc 11: com/example/varpack/varpack/Hex.valueOf by its contract rm2
  obtain ⟨_, _, ⟨T4, L4, k4, n4⟩, -, X4, ⟨Lc4, hQ4, l4, y4, z4⟩, st4⟩ := Jvm.LawKit.callS X3 hx (y := (⟨"com/example/varpack/varpack/Hex", "valueOf", "(C)I"⟩ : MethodName)) hown (mvT hZ (hw _ (List.mem_of_getElem? (i := 6) rfl))) (mvT hZ (hw _ (List.mem_of_getElem? (i := 7) rfl))) (mvT hZ (hw _ (List.mem_of_getElem? (i := 2) rfl))) (mvT hZ (hw _ (List.mem_of_getElem? (i := 8) rfl))) (by decide) (backOf (W := 0) (rm2 l Z a0 hw [] (own_dg ((p1 &&& (15 : Int32)) &&& (15 : Int32)))  T3.heap n0 (Nat.le_trans Z0 KH3.1)) hZ (hw _ (List.mem_of_getElem? (i := 8) rfl)) (hw _ (List.mem_of_getElem? (i := 2) rfl)) (by decide) (by decide)) (g := (mkF m 11 #[.val (.int p1), .val (.int p2), .val (.int (p1 &&& (15 : Int32))), .val (.int (own_dg ((p1 &&& (15 : Int32)) &&& (15 : Int32)))), .unset, .unset, .unset, .unset, .unset, .unset, .unset] [(.int (own_dg ((p1 &&& (15 : Int32)) &&& (15 : Int32))))])) rfl (by rw [hml]; rfl) (argsL := [(.int (own_dg ((p1 &&& (15 : Int32)) &&& (15 : Int32))))]) (rest := []) (lenOf pd_0_1 rfl) rfl (by show 2 * 0 + _ ≤ _; exact Nat.le_of_eq rfl) (hb hby at_11) (fun _ _ => ⟨rfl, rfl, (by decide : 0 + 0 ≤ _), (by decide : 0 + 0 ≤ _)⟩)
  dsimp only [Pt.U, Pt.locs, Pt.cells, Pt.slots] at X4 l4 y4 z4 st4 hQ4
  subst l4 y4 z4
  obtain ⟨rfl, N4q, e4q⟩ := hQ4
  have N4 := Fr.app N3 N4q
  have K4q : Keep T3.heap T4.heap [] := own_keep e4q
  have KH4 : Keep h0 T4.heap [] := KH3.trans K4q own_ws0
  have eh4 : T4.heap = h0 := by rw [e4q]; exact eh3
  -- pc 44: com/example/varpack/varpack/Hex.valueOf by its contract rm2
  obtain ⟨_, _, ⟨T5, L5, k5, n5⟩, -, X5, ⟨Lc5, hQ5, l5, y5, z5⟩, st5⟩ := Jvm.LawKit.callS X4 hx (y := (⟨"com/example/varpack/varpack/Hex", "valueOf", "(C)I"⟩ : MethodName)) hown (mvT hZ (hw _ (List.mem_of_getElem? (i := 6) rfl))) (mvT hZ (hw _ (List.mem_of_getElem? (i := 7) rfl))) (mvT hZ (hw _ (List.mem_of_getElem? (i := 2) rfl))) (mvT hZ (hw _ (List.mem_of_getElem? (i := 8) rfl))) (by decide) (backOf (W := 0) (rm2 l Z a0 hw [] (own_dg ((p1 &&& (15 : Int32)) &&& (15 : Int32)))  T4.heap n0 (Nat.le_trans Z0 KH4.1)) hZ (hw _ (List.mem_of_getElem? (i := 8) rfl)) (hw _ (List.mem_of_getElem? (i := 2) rfl)) (by decide) (by decide)) (g := (mkF m 44 #[.val (.int p1), .val (.int p2), .val (.int (p1 &&& (15 : Int32))), .val (.int (own_dg ((p1 &&& (15 : Int32)) &&& (15 : Int32)))), .val (.int (1 : Int32)), .val (.int (own_dg ((p1 &&& (15 : Int32)) &&& (15 : Int32)))), .unset, .unset, .unset, .unset, .unset] [(.int (own_dg ((p1 &&& (15 : Int32)) &&& (15 : Int32))))])) rfl (by rw [hml]; rfl) (argsL := [(.int (own_dg ((p1 &&& (15 : Int32)) &&& (15 : Int32))))]) (rest := []) (lenOf pd_0_1 rfl) rfl (by show 2 * 0 + _ ≤ _; exact Nat.le_of_eq rfl) (hb hby at_44) (fun _ _ => ⟨rfl, rfl, (by decide : 0 + 0 ≤ _), (by decide : 0 + 0 ≤ _)⟩)
  dsimp only [Pt.U, Pt.locs, Pt.cells, Pt.slots] at X5 l5 y5 z5 st5 hQ5
  subst l5 y5 z5
  obtain ⟨rfl, N5q, e5q⟩ := hQ5
  have N5 := Fr.app N4 N5q
  have K5q : Keep T4.heap T5.heap [] := own_keep e5q
  have KH5 : Keep h0 T5.heap [] := KH4.trans K5q own_ws0
  have eh5 : T5.heap = h0 := by rw [e5q]; exact eh4
  -- pc 67: com/example/varpack/varpack/Hex.valueOf by its contract rm2
  obtain ⟨_, _, ⟨T6, L6, k6, n6⟩, -, X6, ⟨Lc6, hQ6, l6, y6, z6⟩, st6⟩ := Jvm.LawKit.callS X5 hx (y := (⟨"com/example/varpack/varpack/Hex", "valueOf", "(C)I"⟩ : MethodName)) hown (mvT hZ (hw _ (List.mem_of_getElem? (i := 6) rfl))) (mvT hZ (hw _ (List.mem_of_getElem? (i := 7) rfl))) (mvT hZ (hw _ (List.mem_of_getElem? (i := 2) rfl))) (mvT hZ (hw _ (List.mem_of_getElem? (i := 8) rfl))) (by decide) (backOf (W := 0) (rm2 l Z a0 hw [] ((p2 &&& (65535 : Int32)).toUInt32.toUInt16.toUInt32.toInt32)  T5.heap n0 (Nat.le_trans Z0 KH5.1)) hZ (hw _ (List.mem_of_getElem? (i := 8) rfl)) (hw _ (List.mem_of_getElem? (i := 2) rfl)) (by decide) (by decide)) (g := (mkF m 67 #[.val (.int p1), .val (.int p2), .val (.int (p1 &&& (15 : Int32))), .val (.int (own_dg ((p1 &&& (15 : Int32)) &&& (15 : Int32)))), .val (.int (1 : Int32)), .val (.int (own_dg ((p1 &&& (15 : Int32)) &&& (15 : Int32)))), .val (.int (1 : Int32)), .val (.int ((p2 &&& (65535 : Int32)).toUInt32.toUInt16.toUInt32.toInt32)), .unset, .unset, .unset] [(.int ((p2 &&& (65535 : Int32)).toUInt32.toUInt16.toUInt32.toInt32))])) rfl (by rw [hml]; rfl) (argsL := [(.int ((p2 &&& (65535 : Int32)).toUInt32.toUInt16.toUInt32.toInt32))]) (rest := []) (lenOf pd_0_1 rfl) rfl (by show 2 * 0 + _ ≤ _; exact Nat.le_of_eq rfl) (hb hby at_67) (fun _ _ => ⟨rfl, rfl, (by decide : 0 + 0 ≤ _), (by decide : 0 + 0 ≤ _)⟩)
  dsimp only [Pt.U, Pt.locs, Pt.cells, Pt.slots] at X6 l6 y6 z6 st6 hQ6
  subst l6 y6 z6
  obtain ⟨rfl, N6q, e6q⟩ := hQ6
  have N6 := Fr.app N5 N6q
  have K6q : Keep T5.heap T6.heap [] := own_keep e6q
  have KH6 : Keep h0 T6.heap [] := KH5.trans K6q own_ws0
  have eh6 : T6.heap = h0 := by rw [e6q]; exact eh5
  obtain ⟨fs, hr, hrun, hended, hW, hsame⟩ := X6.leave (v := some (.int (1 : Int32))) (fun h => by rw [Bd.returns] at h; cases h) (BodyLoose.notSynchronized Bd)
  refine ⟨_, _, pre0 _ ?_, hrun, hended, _, _, rfl, ?_, ⟨_, rfl⟩, hW, hsame.mono (by decide) (by decide)⟩
  -- 4. STEPS
  · show Steps p.tables e below (s₁.setTop (mkF m 0 #[.val (.int p1), .val (.int p2), .unset, .unset, .unset, .unset, .unset, .unset, .unset, .unset, .unset] [])) _
    refine XS.iloadN X0.here hx rfl (hb hby at_0) rfl ?_
    show Steps p.tables e below (s₁.setTop (mkF m 1 #[.val (.int p1), .val (.int p2), .unset, .unset, .unset, .unset, .unset, .unset, .unset, .unset, .unset] [(.int p1)])) _
    refine XS.bipush X0.here hx rfl (hb hby at_1) ?_
    show Steps p.tables e below (s₁.setTop (mkF m 3 #[.val (.int p1), .val (.int p2), .unset, .unset, .unset, .unset, .unset, .unset, .unset, .unset, .unset] [(.int (15 : Int32)), (.int p1)])) _
    refine XS.iand X0.here hx rfl (hb hby at_3) rfl ?_
    show Steps p.tables e below (s₁.setTop (mkF m 4 #[.val (.int p1), .val (.int p2), .unset, .unset, .unset, .unset, .unset, .unset, .unset, .unset, .unset] [(.int (p1 &&& (15 : Int32)))])) _
    refine XS.istoreN X0.here hx rfl (hb hby at_4) rfl (l' := #[.val (.int p1), .val (.int p2), .val (.int (p1 &&& (15 : Int32))), .unset, .unset, .unset, .unset, .unset, .unset, .unset, .unset]) rfl ?_
    show Steps p.tables e below (s₁.setTop (mkF m 5 #[.val (.int p1), .val (.int p2), .val (.int (p1 &&& (15 : Int32))), .unset, .unset, .unset, .unset, .unset, .unset, .unset, .unset] [])) _
    refine XS.iloadN X0.here hx rfl (hb hby at_5) rfl ?_
    show Steps p.tables e below (s₁.setTop (mkF m 6 #[.val (.int p1), .val (.int p2), .val (.int (p1 &&& (15 : Int32))), .unset, .unset, .unset, .unset, .unset, .unset, .unset, .unset] [(.int (p1 &&& (15 : Int32)))])) _
    refine st3 _ ?_
    show Steps p.tables e below (T3.setTop (mkF m 9 #[.val (.int p1), .val (.int p2), .val (.int (p1 &&& (15 : Int32))), .unset, .unset, .unset, .unset, .unset, .unset, .unset, .unset] [(.int (own_dg ((p1 &&& (15 : Int32)) &&& (15 : Int32))))])) _
    refine XS.istoreN X3.here hx rfl (hb hby at_9) rfl (l' := #[.val (.int p1), .val (.int p2), .val (.int (p1 &&& (15 : Int32))), .val (.int (own_dg ((p1 &&& (15 : Int32)) &&& (15 : Int32)))), .unset, .unset, .unset, .unset, .unset, .unset, .unset]) rfl ?_
    show Steps p.tables e below (T3.setTop (mkF m 10 #[.val (.int p1), .val (.int p2), .val (.int (p1 &&& (15 : Int32))), .val (.int (own_dg ((p1 &&& (15 : Int32)) &&& (15 : Int32)))), .unset, .unset, .unset, .unset, .unset, .unset, .unset] [])) _
    refine XS.iloadN X3.here hx rfl (hb hby at_10) rfl ?_
    show Steps p.tables e below (T3.setTop (mkF m 11 #[.val (.int p1), .val (.int p2), .val (.int (p1 &&& (15 : Int32))), .val (.int (own_dg ((p1 &&& (15 : Int32)) &&& (15 : Int32)))), .unset, .unset, .unset, .unset, .unset, .unset, .unset] [(.int (own_dg ((p1 &&& (15 : Int32)) &&& (15 : Int32))))])) _
    refine st4 _ ?_
    show Steps p.tables e below (T4.setTop (mkF m 14 #[.val (.int p1), .val (.int p2), .val (.int (p1 &&& (15 : Int32))), .val (.int (own_dg ((p1 &&& (15 : Int32)) &&& (15 : Int32)))), .unset, .unset, .unset, .unset, .unset, .unset, .unset] [(.int (own_f2 (own_dg ((p1 &&& (15 : Int32)) &&& (15 : Int32)))))])) _
    refine XS.iloadN X4.here hx rfl (hb hby at_14) rfl ?_
    show Steps p.tables e below (T4.setTop (mkF m 15 #[.val (.int p1), .val (.int p2), .val (.int (p1 &&& (15 : Int32))), .val (.int (own_dg ((p1 &&& (15 : Int32)) &&& (15 : Int32)))), .unset, .unset, .unset, .unset, .unset, .unset, .unset] [(.int (p1 &&& (15 : Int32))), (.int (own_f2 (own_dg ((p1 &&& (15 : Int32)) &&& (15 : Int32)))))])) _
    refine XS.icmpNo X4.here hx rfl (hb hby at_15) rfl (teq ht15).2 ?_
    show Steps p.tables e below (T4.setTop (mkF m 18 #[.val (.int p1), .val (.int p2), .val (.int (p1 &&& (15 : Int32))), .val (.int (own_dg ((p1 &&& (15 : Int32)) &&& (15 : Int32)))), .unset, .unset, .unset, .unset, .unset, .unset, .unset] [])) _
    refine XS.iconst X4.here hx rfl (hb hby at_18) ?_
    show Steps p.tables e below (T4.setTop (mkF m 19 #[.val (.int p1), .val (.int p2), .val (.int (p1 &&& (15 : Int32))), .val (.int (own_dg ((p1 &&& (15 : Int32)) &&& (15 : Int32)))), .unset, .unset, .unset, .unset, .unset, .unset, .unset] [(.int (1 : Int32))])) _
    refine XS.goto X4.here hx rfl (pc0 := 19) (pc' := 23) rfl (hb hby at_19) (by decide) (by decide) ?_
    show Steps p.tables e below (T4.setTop (mkF m 23 #[.val (.int p1), .val (.int p2), .val (.int (p1 &&& (15 : Int32))), .val (.int (own_dg ((p1 &&& (15 : Int32)) &&& (15 : Int32)))), .unset, .unset, .unset, .unset, .unset, .unset, .unset] [(.int (1 : Int32))])) _
    refine XS.istore X4.here hx rfl (hb hby at_23) rfl (l' := #[.val (.int p1), .val (.int p2), .val (.int (p1 &&& (15 : Int32))), .val (.int (own_dg ((p1 &&& (15 : Int32)) &&& (15 : Int32)))), .val (.int (1 : Int32)), .unset, .unset, .unset, .unset, .unset, .unset]) rfl ?_
    show Steps p.tables e below (T4.setTop (mkF m 25 #[.val (.int p1), .val (.int p2), .val (.int (p1 &&& (15 : Int32))), .val (.int (own_dg ((p1 &&& (15 : Int32)) &&& (15 : Int32)))), .val (.int (1 : Int32)), .unset, .unset, .unset, .unset, .unset, .unset] [])) _
    refine XS.iloadN X4.here hx rfl (hb hby at_25) rfl ?_
    show Steps p.tables e below (T4.setTop (mkF m 26 #[.val (.int p1), .val (.int p2), .val (.int (p1 &&& (15 : Int32))), .val (.int (own_dg ((p1 &&& (15 : Int32)) &&& (15 : Int32)))), .val (.int (1 : Int32)), .unset, .unset, .unset, .unset, .unset, .unset] [(.int (p1 &&& (15 : Int32)))])) _
    refine XS.bipush X4.here hx rfl (hb hby at_26) ?_
    show Steps p.tables e below (T4.setTop (mkF m 28 #[.val (.int p1), .val (.int p2), .val (.int (p1 &&& (15 : Int32))), .val (.int (own_dg ((p1 &&& (15 : Int32)) &&& (15 : Int32)))), .val (.int (1 : Int32)), .unset, .unset, .unset, .unset, .unset, .unset] [(.int (10 : Int32)), (.int (p1 &&& (15 : Int32)))])) _
    refine XS.icmpYes X4.here hx rfl (pc0 := 28) (pc' := 39) rfl (hb hby at_28) rfl (tlt hc28).1 (by decide) (by decide) ?_
    show Steps p.tables e below (T4.setTop (mkF m 39 #[.val (.int p1), .val (.int p2), .val (.int (p1 &&& (15 : Int32))), .val (.int (own_dg ((p1 &&& (15 : Int32)) &&& (15 : Int32)))), .val (.int (1 : Int32)), .unset, .unset, .unset, .unset, .unset, .unset] [])) _
    refine XS.iloadN X4.here hx rfl (hb hby at_39) rfl ?_
    show Steps p.tables e below (T4.setTop (mkF m 40 #[.val (.int p1), .val (.int p2), .val (.int (p1 &&& (15 : Int32))), .val (.int (own_dg ((p1 &&& (15 : Int32)) &&& (15 : Int32)))), .val (.int (1 : Int32)), .unset, .unset, .unset, .unset, .unset, .unset] [(.int (own_dg ((p1 &&& (15 : Int32)) &&& (15 : Int32))))])) _
    refine XS.istore X4.here hx rfl (hb hby at_40) rfl (l' := #[.val (.int p1), .val (.int p2), .val (.int (p1 &&& (15 : Int32))), .val (.int (own_dg ((p1 &&& (15 : Int32)) &&& (15 : Int32)))), .val (.int (1 : Int32)), .val (.int (own_dg ((p1 &&& (15 : Int32)) &&& (15 : Int32)))), .unset, .unset, .unset, .unset, .unset]) rfl ?_
    show Steps p.tables e below (T4.setTop (mkF m 42 #[.val (.int p1), .val (.int p2), .val (.int (p1 &&& (15 : Int32))), .val (.int (own_dg ((p1 &&& (15 : Int32)) &&& (15 : Int32)))), .val (.int (1 : Int32)), .val (.int (own_dg ((p1 &&& (15 : Int32)) &&& (15 : Int32)))), .unset, .unset, .unset, .unset, .unset] [])) _
    refine XS.iload X4.here hx rfl (hb hby at_42) rfl ?_
    show Steps p.tables e below (T4.setTop (mkF m 44 #[.val (.int p1), .val (.int p2), .val (.int (p1 &&& (15 : Int32))), .val (.int (own_dg ((p1 &&& (15 : Int32)) &&& (15 : Int32)))), .val (.int (1 : Int32)), .val (.int (own_dg ((p1 &&& (15 : Int32)) &&& (15 : Int32)))), .unset, .unset, .unset, .unset, .unset] [(.int (own_dg ((p1 &&& (15 : Int32)) &&& (15 : Int32))))])) _
    refine st5 _ ?_
    show Steps p.tables e below (T5.setTop (mkF m 47 #[.val (.int p1), .val (.int p2), .val (.int (p1 &&& (15 : Int32))), .val (.int (own_dg ((p1 &&& (15 : Int32)) &&& (15 : Int32)))), .val (.int (1 : Int32)), .val (.int (own_dg ((p1 &&& (15 : Int32)) &&& (15 : Int32)))), .unset, .unset, .unset, .unset, .unset] [(.int (own_f2 (own_dg ((p1 &&& (15 : Int32)) &&& (15 : Int32)))))])) _
    refine XS.iloadN X5.here hx rfl (hb hby at_47) rfl ?_
    show Steps p.tables e below (T5.setTop (mkF m 48 #[.val (.int p1), .val (.int p2), .val (.int (p1 &&& (15 : Int32))), .val (.int (own_dg ((p1 &&& (15 : Int32)) &&& (15 : Int32)))), .val (.int (1 : Int32)), .val (.int (own_dg ((p1 &&& (15 : Int32)) &&& (15 : Int32)))), .unset, .unset, .unset, .unset, .unset] [(.int (p1 &&& (15 : Int32))), (.int (own_f2 (own_dg ((p1 &&& (15 : Int32)) &&& (15 : Int32)))))])) _
    refine XS.icmpNo X5.here hx rfl (hb hby at_48) rfl (teq ht48).2 ?_
    show Steps p.tables e below (T5.setTop (mkF m 51 #[.val (.int p1), .val (.int p2), .val (.int (p1 &&& (15 : Int32))), .val (.int (own_dg ((p1 &&& (15 : Int32)) &&& (15 : Int32)))), .val (.int (1 : Int32)), .val (.int (own_dg ((p1 &&& (15 : Int32)) &&& (15 : Int32)))), .unset, .unset, .unset, .unset, .unset] [])) _
    refine XS.iconst X5.here hx rfl (hb hby at_51) ?_
    show Steps p.tables e below (T5.setTop (mkF m 52 #[.val (.int p1), .val (.int p2), .val (.int (p1 &&& (15 : Int32))), .val (.int (own_dg ((p1 &&& (15 : Int32)) &&& (15 : Int32)))), .val (.int (1 : Int32)), .val (.int (own_dg ((p1 &&& (15 : Int32)) &&& (15 : Int32)))), .unset, .unset, .unset, .unset, .unset] [(.int (1 : Int32))])) _
    refine XS.goto X5.here hx rfl (pc0 := 52) (pc' := 56) rfl (hb hby at_52) (by decide) (by decide) ?_
    show Steps p.tables e below (T5.setTop (mkF m 56 #[.val (.int p1), .val (.int p2), .val (.int (p1 &&& (15 : Int32))), .val (.int (own_dg ((p1 &&& (15 : Int32)) &&& (15 : Int32)))), .val (.int (1 : Int32)), .val (.int (own_dg ((p1 &&& (15 : Int32)) &&& (15 : Int32)))), .unset, .unset, .unset, .unset, .unset] [(.int (1 : Int32))])) _
    refine XS.istore X5.here hx rfl (hb hby at_56) rfl (l' := #[.val (.int p1), .val (.int p2), .val (.int (p1 &&& (15 : Int32))), .val (.int (own_dg ((p1 &&& (15 : Int32)) &&& (15 : Int32)))), .val (.int (1 : Int32)), .val (.int (own_dg ((p1 &&& (15 : Int32)) &&& (15 : Int32)))), .val (.int (1 : Int32)), .unset, .unset, .unset, .unset]) rfl ?_
    show Steps p.tables e below (T5.setTop (mkF m 58 #[.val (.int p1), .val (.int p2), .val (.int (p1 &&& (15 : Int32))), .val (.int (own_dg ((p1 &&& (15 : Int32)) &&& (15 : Int32)))), .val (.int (1 : Int32)), .val (.int (own_dg ((p1 &&& (15 : Int32)) &&& (15 : Int32)))), .val (.int (1 : Int32)), .unset, .unset, .unset, .unset] [])) _
    refine XS.iloadN X5.here hx rfl (hb hby at_58) rfl ?_
    show Steps p.tables e below (T5.setTop (mkF m 59 #[.val (.int p1), .val (.int p2), .val (.int (p1 &&& (15 : Int32))), .val (.int (own_dg ((p1 &&& (15 : Int32)) &&& (15 : Int32)))), .val (.int (1 : Int32)), .val (.int (own_dg ((p1 &&& (15 : Int32)) &&& (15 : Int32)))), .val (.int (1 : Int32)), .unset, .unset, .unset, .unset] [(.int p2)])) _
    refine X5.ldcInt hx hown (mvT hZ (hw _ (List.mem_of_getElem? (i := 9) rfl))) (g := (mkF m 59 #[.val (.int p1), .val (.int p2), .val (.int (p1 &&& (15 : Int32))), .val (.int (own_dg ((p1 &&& (15 : Int32)) &&& (15 : Int32)))), .val (.int (1 : Int32)), .val (.int (own_dg ((p1 &&& (15 : Int32)) &&& (15 : Int32)))), .val (.int (1 : Int32)), .unset, .unset, .unset, .unset] [(.int p2)])) rfl (hb hby at_59) _ ?_
    show Steps p.tables e below (T5.setTop (mkF m 61 #[.val (.int p1), .val (.int p2), .val (.int (p1 &&& (15 : Int32))), .val (.int (own_dg ((p1 &&& (15 : Int32)) &&& (15 : Int32)))), .val (.int (1 : Int32)), .val (.int (own_dg ((p1 &&& (15 : Int32)) &&& (15 : Int32)))), .val (.int (1 : Int32)), .unset, .unset, .unset, .unset] [(.int (65535 : Int32)), (.int p2)])) _
    refine XS.iand X5.here hx rfl (hb hby at_61) rfl ?_
    show Steps p.tables e below (T5.setTop (mkF m 62 #[.val (.int p1), .val (.int p2), .val (.int (p1 &&& (15 : Int32))), .val (.int (own_dg ((p1 &&& (15 : Int32)) &&& (15 : Int32)))), .val (.int (1 : Int32)), .val (.int (own_dg ((p1 &&& (15 : Int32)) &&& (15 : Int32)))), .val (.int (1 : Int32)), .unset, .unset, .unset, .unset] [(.int (p2 &&& (65535 : Int32)))])) _
    refine XS.i2c X5.here hx rfl (hb hby at_62) rfl ?_
    show Steps p.tables e below (T5.setTop (mkF m 63 #[.val (.int p1), .val (.int p2), .val (.int (p1 &&& (15 : Int32))), .val (.int (own_dg ((p1 &&& (15 : Int32)) &&& (15 : Int32)))), .val (.int (1 : Int32)), .val (.int (own_dg ((p1 &&& (15 : Int32)) &&& (15 : Int32)))), .val (.int (1 : Int32)), .unset, .unset, .unset, .unset] [(.int ((p2 &&& (65535 : Int32)).toUInt32.toUInt16.toUInt32.toInt32))])) _
    refine XS.istore X5.here hx rfl (hb hby at_63) rfl (l' := #[.val (.int p1), .val (.int p2), .val (.int (p1 &&& (15 : Int32))), .val (.int (own_dg ((p1 &&& (15 : Int32)) &&& (15 : Int32)))), .val (.int (1 : Int32)), .val (.int (own_dg ((p1 &&& (15 : Int32)) &&& (15 : Int32)))), .val (.int (1 : Int32)), .val (.int ((p2 &&& (65535 : Int32)).toUInt32.toUInt16.toUInt32.toInt32)), .unset, .unset, .unset]) rfl ?_
    show Steps p.tables e below (T5.setTop (mkF m 65 #[.val (.int p1), .val (.int p2), .val (.int (p1 &&& (15 : Int32))), .val (.int (own_dg ((p1 &&& (15 : Int32)) &&& (15 : Int32)))), .val (.int (1 : Int32)), .val (.int (own_dg ((p1 &&& (15 : Int32)) &&& (15 : Int32)))), .val (.int (1 : Int32)), .val (.int ((p2 &&& (65535 : Int32)).toUInt32.toUInt16.toUInt32.toInt32)), .unset, .unset, .unset] [])) _
    refine XS.iload X5.here hx rfl (hb hby at_65) rfl ?_
    show Steps p.tables e below (T5.setTop (mkF m 67 #[.val (.int p1), .val (.int p2), .val (.int (p1 &&& (15 : Int32))), .val (.int (own_dg ((p1 &&& (15 : Int32)) &&& (15 : Int32)))), .val (.int (1 : Int32)), .val (.int (own_dg ((p1 &&& (15 : Int32)) &&& (15 : Int32)))), .val (.int (1 : Int32)), .val (.int ((p2 &&& (65535 : Int32)).toUInt32.toUInt16.toUInt32.toInt32)), .unset, .unset, .unset] [(.int ((p2 &&& (65535 : Int32)).toUInt32.toUInt16.toUInt32.toInt32))])) _
    refine st6 _ ?_
    show Steps p.tables e below (T6.setTop (mkF m 70 #[.val (.int p1), .val (.int p2), .val (.int (p1 &&& (15 : Int32))), .val (.int (own_dg ((p1 &&& (15 : Int32)) &&& (15 : Int32)))), .val (.int (1 : Int32)), .val (.int (own_dg ((p1 &&& (15 : Int32)) &&& (15 : Int32)))), .val (.int (1 : Int32)), .val (.int ((p2 &&& (65535 : Int32)).toUInt32.toUInt16.toUInt32.toInt32)), .unset, .unset, .unset] [(.int (own_f2 ((p2 &&& (65535 : Int32)).toUInt32.toUInt16.toUInt32.toInt32)))])) _
    refine XS.istore X6.here hx rfl (hb hby at_70) rfl (l' := #[.val (.int p1), .val (.int p2), .val (.int (p1 &&& (15 : Int32))), .val (.int (own_dg ((p1 &&& (15 : Int32)) &&& (15 : Int32)))), .val (.int (1 : Int32)), .val (.int (own_dg ((p1 &&& (15 : Int32)) &&& (15 : Int32)))), .val (.int (1 : Int32)), .val (.int ((p2 &&& (65535 : Int32)).toUInt32.toUInt16.toUInt32.toInt32)), .val (.int (own_f2 ((p2 &&& (65535 : Int32)).toUInt32.toUInt16.toUInt32.toInt32))), .unset, .unset]) rfl ?_
    show Steps p.tables e below (T6.setTop (mkF m 72 #[.val (.int p1), .val (.int p2), .val (.int (p1 &&& (15 : Int32))), .val (.int (own_dg ((p1 &&& (15 : Int32)) &&& (15 : Int32)))), .val (.int (1 : Int32)), .val (.int (own_dg ((p1 &&& (15 : Int32)) &&& (15 : Int32)))), .val (.int (1 : Int32)), .val (.int ((p2 &&& (65535 : Int32)).toUInt32.toUInt16.toUInt32.toInt32)), .val (.int (own_f2 ((p2 &&& (65535 : Int32)).toUInt32.toUInt16.toUInt32.toInt32))), .unset, .unset] [])) _
    refine XS.iload X6.here hx rfl (hb hby at_72) rfl ?_
    show Steps p.tables e below (T6.setTop (mkF m 74 #[.val (.int p1), .val (.int p2), .val (.int (p1 &&& (15 : Int32))), .val (.int (own_dg ((p1 &&& (15 : Int32)) &&& (15 : Int32)))), .val (.int (1 : Int32)), .val (.int (own_dg ((p1 &&& (15 : Int32)) &&& (15 : Int32)))), .val (.int (1 : Int32)), .val (.int ((p2 &&& (65535 : Int32)).toUInt32.toUInt16.toUInt32.toInt32)), .val (.int (own_f2 ((p2 &&& (65535 : Int32)).toUInt32.toUInt16.toUInt32.toInt32))), .unset, .unset] [(.int (own_f2 ((p2 &&& (65535 : Int32)).toUInt32.toUInt16.toUInt32.toInt32)))])) _
    refine XS.iconst X6.here hx rfl (hb hby at_74) ?_
    show Steps p.tables e below (T6.setTop (mkF m 75 #[.val (.int p1), .val (.int p2), .val (.int (p1 &&& (15 : Int32))), .val (.int (own_dg ((p1 &&& (15 : Int32)) &&& (15 : Int32)))), .val (.int (1 : Int32)), .val (.int (own_dg ((p1 &&& (15 : Int32)) &&& (15 : Int32)))), .val (.int (1 : Int32)), .val (.int ((p2 &&& (65535 : Int32)).toUInt32.toUInt16.toUInt32.toInt32)), .val (.int (own_f2 ((p2 &&& (65535 : Int32)).toUInt32.toUInt16.toUInt32.toInt32))), .unset, .unset] [(.int (-1 : Int32)), (.int (own_f2 ((p2 &&& (65535 : Int32)).toUInt32.toUInt16.toUInt32.toInt32)))])) _
    refine XS.icmpNo X6.here hx rfl (hb hby at_75) rfl (teq ht75).2 ?_
    show Steps p.tables e below (T6.setTop (mkF m 78 #[.val (.int p1), .val (.int p2), .val (.int (p1 &&& (15 : Int32))), .val (.int (own_dg ((p1 &&& (15 : Int32)) &&& (15 : Int32)))), .val (.int (1 : Int32)), .val (.int (own_dg ((p1 &&& (15 : Int32)) &&& (15 : Int32)))), .val (.int (1 : Int32)), .val (.int ((p2 &&& (65535 : Int32)).toUInt32.toUInt16.toUInt32.toInt32)), .val (.int (own_f2 ((p2 &&& (65535 : Int32)).toUInt32.toUInt16.toUInt32.toInt32))), .unset, .unset] [])) _
    refine XS.iconst X6.here hx rfl (hb hby at_78) ?_
    show Steps p.tables e below (T6.setTop (mkF m 79 #[.val (.int p1), .val (.int p2), .val (.int (p1 &&& (15 : Int32))), .val (.int (own_dg ((p1 &&& (15 : Int32)) &&& (15 : Int32)))), .val (.int (1 : Int32)), .val (.int (own_dg ((p1 &&& (15 : Int32)) &&& (15 : Int32)))), .val (.int (1 : Int32)), .val (.int ((p2 &&& (65535 : Int32)).toUInt32.toUInt16.toUInt32.toInt32)), .val (.int (own_f2 ((p2 &&& (65535 : Int32)).toUInt32.toUInt16.toUInt32.toInt32))), .unset, .unset] [(.int (1 : Int32))])) _
    refine XS.istore X6.here hx rfl (hb hby at_79) rfl (l' := #[.val (.int p1), .val (.int p2), .val (.int (p1 &&& (15 : Int32))), .val (.int (own_dg ((p1 &&& (15 : Int32)) &&& (15 : Int32)))), .val (.int (1 : Int32)), .val (.int (own_dg ((p1 &&& (15 : Int32)) &&& (15 : Int32)))), .val (.int (1 : Int32)), .val (.int ((p2 &&& (65535 : Int32)).toUInt32.toUInt16.toUInt32.toInt32)), .val (.int (own_f2 ((p2 &&& (65535 : Int32)).toUInt32.toUInt16.toUInt32.toInt32))), .val (.int (1 : Int32)), .unset]) rfl ?_
    show Steps p.tables e below (T6.setTop (mkF m 81 #[.val (.int p1), .val (.int p2), .val (.int (p1 &&& (15 : Int32))), .val (.int (own_dg ((p1 &&& (15 : Int32)) &&& (15 : Int32)))), .val (.int (1 : Int32)), .val (.int (own_dg ((p1 &&& (15 : Int32)) &&& (15 : Int32)))), .val (.int (1 : Int32)), .val (.int ((p2 &&& (65535 : Int32)).toUInt32.toUInt16.toUInt32.toInt32)), .val (.int (own_f2 ((p2 &&& (65535 : Int32)).toUInt32.toUInt16.toUInt32.toInt32))), .val (.int (1 : Int32)), .unset] [])) _
    refine XS.goto X6.here hx rfl (pc0 := 81) (pc' := 140) rfl (hb hby at_81) (by decide) (by decide) ?_
    show Steps p.tables e below (T6.setTop (mkF m 140 #[.val (.int p1), .val (.int p2), .val (.int (p1 &&& (15 : Int32))), .val (.int (own_dg ((p1 &&& (15 : Int32)) &&& (15 : Int32)))), .val (.int (1 : Int32)), .val (.int (own_dg ((p1 &&& (15 : Int32)) &&& (15 : Int32)))), .val (.int (1 : Int32)), .val (.int ((p2 &&& (65535 : Int32)).toUInt32.toUInt16.toUInt32.toInt32)), .val (.int (own_f2 ((p2 &&& (65535 : Int32)).toUInt32.toUInt16.toUInt32.toInt32))), .val (.int (1 : Int32)), .unset] [])) _
    refine XS.iload X6.here hx rfl (hb hby at_140) rfl ?_
    show Steps p.tables e below (T6.setTop (mkF m 142 #[.val (.int p1), .val (.int p2), .val (.int (p1 &&& (15 : Int32))), .val (.int (own_dg ((p1 &&& (15 : Int32)) &&& (15 : Int32)))), .val (.int (1 : Int32)), .val (.int (own_dg ((p1 &&& (15 : Int32)) &&& (15 : Int32)))), .val (.int (1 : Int32)), .val (.int ((p2 &&& (65535 : Int32)).toUInt32.toUInt16.toUInt32.toInt32)), .val (.int (own_f2 ((p2 &&& (65535 : Int32)).toUInt32.toUInt16.toUInt32.toInt32))), .val (.int (1 : Int32)), .unset] [(.int (1 : Int32))])) _
    refine XS.ifNo X6.here hx rfl (hb hby at_142) rfl ((if0 _ _).trans (feq hc142).1) ?_
    show Steps p.tables e below (T6.setTop (mkF m 145 #[.val (.int p1), .val (.int p2), .val (.int (p1 &&& (15 : Int32))), .val (.int (own_dg ((p1 &&& (15 : Int32)) &&& (15 : Int32)))), .val (.int (1 : Int32)), .val (.int (own_dg ((p1 &&& (15 : Int32)) &&& (15 : Int32)))), .val (.int (1 : Int32)), .val (.int ((p2 &&& (65535 : Int32)).toUInt32.toUInt16.toUInt32.toInt32)), .val (.int (own_f2 ((p2 &&& (65535 : Int32)).toUInt32.toUInt16.toUInt32.toInt32))), .val (.int (1 : Int32)), .unset] [])) _
    refine XS.iload X6.here hx rfl (hb hby at_145) rfl ?_
    show Steps p.tables e below (T6.setTop (mkF m 147 #[.val (.int p1), .val (.int p2), .val (.int (p1 &&& (15 : Int32))), .val (.int (own_dg ((p1 &&& (15 : Int32)) &&& (15 : Int32)))), .val (.int (1 : Int32)), .val (.int (own_dg ((p1 &&& (15 : Int32)) &&& (15 : Int32)))), .val (.int (1 : Int32)), .val (.int ((p2 &&& (65535 : Int32)).toUInt32.toUInt16.toUInt32.toInt32)), .val (.int (own_f2 ((p2 &&& (65535 : Int32)).toUInt32.toUInt16.toUInt32.toInt32))), .val (.int (1 : Int32)), .unset] [(.int (1 : Int32))])) _
    refine XS.ifNo X6.here hx rfl (hb hby at_147) rfl ((if0 _ _).trans (feq hc147).1) ?_
    show Steps p.tables e below (T6.setTop (mkF m 150 #[.val (.int p1), .val (.int p2), .val (.int (p1 &&& (15 : Int32))), .val (.int (own_dg ((p1 &&& (15 : Int32)) &&& (15 : Int32)))), .val (.int (1 : Int32)), .val (.int (own_dg ((p1 &&& (15 : Int32)) &&& (15 : Int32)))), .val (.int (1 : Int32)), .val (.int ((p2 &&& (65535 : Int32)).toUInt32.toUInt16.toUInt32.toInt32)), .val (.int (own_f2 ((p2 &&& (65535 : Int32)).toUInt32.toUInt16.toUInt32.toInt32))), .val (.int (1 : Int32)), .unset] [])) _
    refine XS.iload X6.here hx rfl (hb hby at_150) rfl ?_
    show Steps p.tables e below (T6.setTop (mkF m 152 #[.val (.int p1), .val (.int p2), .val (.int (p1 &&& (15 : Int32))), .val (.int (own_dg ((p1 &&& (15 : Int32)) &&& (15 : Int32)))), .val (.int (1 : Int32)), .val (.int (own_dg ((p1 &&& (15 : Int32)) &&& (15 : Int32)))), .val (.int (1 : Int32)), .val (.int ((p2 &&& (65535 : Int32)).toUInt32.toUInt16.toUInt32.toInt32)), .val (.int (own_f2 ((p2 &&& (65535 : Int32)).toUInt32.toUInt16.toUInt32.toInt32))), .val (.int (1 : Int32)), .unset] [(.int (1 : Int32))])) _
    refine XS.ifNo X6.here hx rfl (hb hby at_152) rfl ((if0 _ _).trans (feq hc152).1) ?_
    show Steps p.tables e below (T6.setTop (mkF m 155 #[.val (.int p1), .val (.int p2), .val (.int (p1 &&& (15 : Int32))), .val (.int (own_dg ((p1 &&& (15 : Int32)) &&& (15 : Int32)))), .val (.int (1 : Int32)), .val (.int (own_dg ((p1 &&& (15 : Int32)) &&& (15 : Int32)))), .val (.int (1 : Int32)), .val (.int ((p2 &&& (65535 : Int32)).toUInt32.toUInt16.toUInt32.toInt32)), .val (.int (own_f2 ((p2 &&& (65535 : Int32)).toUInt32.toUInt16.toUInt32.toInt32))), .val (.int (1 : Int32)), .unset] [])) _
    refine XS.iconst X6.here hx rfl (hb hby at_155) ?_
    show Steps p.tables e below (T6.setTop (mkF m 156 #[.val (.int p1), .val (.int p2), .val (.int (p1 &&& (15 : Int32))), .val (.int (own_dg ((p1 &&& (15 : Int32)) &&& (15 : Int32)))), .val (.int (1 : Int32)), .val (.int (own_dg ((p1 &&& (15 : Int32)) &&& (15 : Int32)))), .val (.int (1 : Int32)), .val (.int ((p2 &&& (65535 : Int32)).toUInt32.toUInt16.toUInt32.toInt32)), .val (.int (own_f2 ((p2 &&& (65535 : Int32)).toUInt32.toUInt16.toUInt32.toInt32))), .val (.int (1 : Int32)), .unset] [(.int (1 : Int32))])) _
    refine XS.goto X6.here hx rfl (pc0 := 156) (pc' := 160) rfl (hb hby at_156) (by decide) (by decide) ?_
    show Steps p.tables e below (T6.setTop (mkF m 160 #[.val (.int p1), .val (.int p2), .val (.int (p1 &&& (15 : Int32))), .val (.int (own_dg ((p1 &&& (15 : Int32)) &&& (15 : Int32)))), .val (.int (1 : Int32)), .val (.int (own_dg ((p1 &&& (15 : Int32)) &&& (15 : Int32)))), .val (.int (1 : Int32)), .val (.int ((p2 &&& (65535 : Int32)).toUInt32.toUInt16.toUInt32.toInt32)), .val (.int (own_f2 ((p2 &&& (65535 : Int32)).toUInt32.toUInt16.toUInt32.toInt32))), .val (.int (1 : Int32)), .unset] [(.int (1 : Int32))])) _
    exact retN X6 hx (t := .boolean) Bd.returns (by simp) (hb hby at_160) hr
  · show Q0 Z h0 n0 _ T6.heap _
    exact ⟨rfl, N6⟩
set_option maxRecDepth 65536 in
set_option maxHeartbeats 40000000 in
theorem rm0_tB (l : Launch) (Z : State) (a0 : Array Value) (hw : ∀ d ∈ tables_1, d.before a0 Z = true) (ws : List Jvm.Cond) (p1 : Int32) (p2 : Int32) (wd : Addr) (cl : Cell) (h0 : Heap) (n0 : Nat) (Z0 : n0 ≤ h0.size) (S_DIGITS : Sta Z h0 "com/example/varpack/varpack/Hex" "DIGITS" "[C" (.ref wd)) (Ar : Arr Z h0 wd cl .char) (hin : ∀ p : Int32, ¬ ((p &&& (15 : Int32)) < 0 ∨ cl.slots.size ≤ (p &&& (15 : Int32)).toNatClampNeg)) (hat : ∀ p : Int32, cl.slots[(p &&& (15 : Int32)).toNatClampNeg]? = some (.int (own_dg (p &&& (15 : Int32))))) (ht15 : (own_f2 (own_dg ((p1 &&& (15 : Int32)) &&& (15 : Int32)))) = (p1 &&& (15 : Int32))) (hc28 : (p1 &&& (15 : Int32)) < (10 : Int32)) (ht48 : (own_f2 (own_dg ((p1 &&& (15 : Int32)) &&& (15 : Int32)))) = (p1 &&& (15 : Int32))) (ht75 : ¬ ((own_f2 ((p2 &&& (65535 : Int32)).toUInt32.toUInt16.toUInt32.toInt32)) = (-1 : Int32))) (ht86 : ¬ ((own_f2 ((p2 &&& (65535 : Int32)).toUInt32.toUInt16.toUInt32.toInt32)) < (0 : Int32))) (ht93 : ¬ ((15 : Int32) < (own_f2 ((p2 &&& (65535 : Int32)).toUInt32.toUInt16.toUInt32.toInt32)))) (ht107 : (own_dg ((own_f2 ((p2 &&& (65535 : Int32)).toUInt32.toUInt16.toUInt32.toInt32)) &&& (15 : Int32))) = ((p2 &&& (65535 : Int32)).toUInt32.toUInt16.toUInt32.toInt32)) (hc142 : ¬ ((1 : Int32) = (0 : Int32))) (hc147 : ¬ ((1 : Int32) = (0 : Int32))) (hc152 : ¬ ((1 : Int32) = (0 : Int32))) :
    MetFree l x (head1 (Jvm.Cond.code x code maxLocals ret :: ws) room_1) (fun a U => a = #[(.int p1), (.int p2)] ∧ Z.Warmed39 U.vm ∧ U.heap = h0) (fun _ _ _ _ _ => True) (fun _ U o U' => ∃ v L, o = .returned v ∧ Q0 Z h0 n0 v U'.heap L ∧ FrameEnd U o U' L room_1.cells room_1.slots) := by
  refine MetFree.of_bodySF (plainFor_of_name pn_0) hisR ?_
  intro p e s m args below meth c s₁ Bd hml0 hP hK
  obtain ⟨rfl, hZ, hh⟩ := hP
  have hx := Bd.exec
  have hby := Bd.bytes
  have hml : c.maxLocals = 11 := hml0
  have hown : s.vm.findClass "com/example/varpack/varpack/HexValueOfPinLaw" = some m.cls := findClass_of_methodNamed Bd.named
  have hnm := (name_of_methodNamed Bd.named Bd.method).1
  have X0 : Stand p l e room_1 s m #[(.int p1), (.int p2)] below meth c s₁ [] 0 0 := Stand.of_body Bd
  have e0 : s₁.heap = h0 := by rw [← hh, Bd.state]; rfl
  have N0 := Fr.nil n0
  have pre0 : ∀ t, Steps p.tables e below (s₁.setTop (mkF m 0 #[.val (.int p1), .val (.int p2), .unset, .unset, .unset, .unset, .unset, .unset, .unset, .unset, .unset] [])) t → Steps p.tables e below (s₁.setTop (entryFrame m #[(.int p1), (.int p2)] maxLocals)) t := fun t k => castTop (ef_0 m p1 p2) k
  -- 3. LAWS
  -- pc 6: com/example/varpack/varpack/Hex.digit by its contract rm1
  obtain ⟨_, _, ⟨T3, L3, k3, n3⟩, -, X3, ⟨Lc3, hQ3, l3, y3, z3⟩, st3⟩ := Jvm.LawKit.callS X0 hx (y := (⟨"com/example/varpack/varpack/Hex", "digit", "(I)C"⟩ : MethodName)) hown (mvT hZ (hw _ (List.mem_of_getElem? (i := 0) rfl))) (mvT hZ (hw _ (List.mem_of_getElem? (i := 1) rfl))) (mvT hZ (hw _ (List.mem_of_getElem? (i := 2) rfl))) (mvT hZ (hw _ (List.mem_of_getElem? (i := 3) rfl))) (by decide) (backOf (W := 0) (rm1 l Z a0 hw [] (p1 &&& (15 : Int32)) wd (own_dg ((p1 &&& (15 : Int32)) &&& (15 : Int32))) cl h0 n0 Z0 S_DIGITS Ar (hin _) (hat _) (own_hn _)) hZ (hw _ (List.mem_of_getElem? (i := 3) rfl)) (hw _ (List.mem_of_getElem? (i := 2) rfl)) (by decide) (by decide)) (g := (mkF m 6 #[.val (.int p1), .val (.int p2), .val (.int (p1 &&& (15 : Int32))), .unset, .unset, .unset, .unset, .unset, .unset, .unset, .unset] [(.int (p1 &&& (15 : Int32)))])) rfl (by rw [hml]; rfl) (argsL := [(.int (p1 &&& (15 : Int32)))]) (rest := []) (lenOf pd_0_0 rfl) rfl (by show 2 * 0 + _ ≤ _; exact Nat.le_of_eq rfl) (hb hby at_6) (fun _ _ => ⟨rfl, e0, (by decide : 0 + 0 ≤ _), (by decide : 0 + 0 ≤ _)⟩)
  dsimp only [Pt.U, Pt.locs, Pt.cells, Pt.slots] at X3 l3 y3 z3 st3 hQ3
  subst l3 y3 z3
  obtain ⟨rfl, N3q, e3q⟩ := hQ3
  have N3 := Fr.app N0 N3q
  have K3q : Keep h0 T3.heap [] := own_keep e3q
  have KH3 : Keep h0 T3.heap [] := (Keep.refl h0 []).trans K3q own_ws0
  have eh3 : T3.heap = h0 := by rw [e3q]
  -- pc 11: com/example/varpack/varpack/Hex.valueOf by its contract rm2
  obtain ⟨_, _, ⟨T4, L4, k4, n4⟩, -, X4, ⟨Lc4, hQ4, l4, y4, z4⟩, st4⟩ := Jvm.LawKit.callS X3 hx (y := (⟨"com/example/varpack/varpack/Hex", "valueOf", "(C)I"⟩ : MethodName)) hown (mvT hZ (hw _ (List.mem_of_getElem? (i := 6) rfl))) (mvT hZ (hw _ (List.mem_of_getElem? (i := 7) rfl))) (mvT hZ (hw _ (List.mem_of_getElem? (i := 2) rfl))) (mvT hZ (hw _ (List.mem_of_getElem? (i := 8) rfl))) (by decide) (backOf (W := 0) (rm2 l Z a0 hw [] (own_dg ((p1 &&& (15 : Int32)) &&& (15 : Int32)))  T3.heap n0 (Nat.le_trans Z0 KH3.1)) hZ (hw _ (List.mem_of_getElem? (i := 8) rfl)) (hw _ (List.mem_of_getElem? (i := 2) rfl)) (by decide) (by decide)) (g := (mkF m 11 #[.val (.int p1), .val (.int p2), .val (.int (p1 &&& (15 : Int32))), .val (.int (own_dg ((p1 &&& (15 : Int32)) &&& (15 : Int32)))), .unset, .unset, .unset, .unset, .unset, .unset, .unset] [(.int (own_dg ((p1 &&& (15 : Int32)) &&& (15 : Int32))))])) rfl (by rw [hml]; rfl) (argsL := [(.int (own_dg ((p1 &&& (15 : Int32)) &&& (15 : Int32))))]) (rest := []) (lenOf pd_0_1 rfl) rfl (by show 2 * 0 + _ ≤ _; exact Nat.le_of_eq rfl) (hb hby at_11) (fun _ _ => ⟨rfl, rfl, (by decide : 0 + 0 ≤ _), (by decide : 0 + 0 ≤ _)⟩)
  dsimp only [Pt.U, Pt.locs, Pt.cells, Pt.slots] at X4 l4 y4 z4 st4 hQ4
  subst l4 y4 z4
  obtain ⟨rfl, N4q, e4q⟩ := hQ4
  have N4 := Fr.app N3 N4q
  have K4q : Keep T3.heap T4.heap [] := own_keep e4q
  have KH4 : Keep h0 T4.heap [] := KH3.trans K4q own_ws0
  have eh4 : T4.heap = h0 := by rw [e4q]; exact eh3
  -- pc 44: com/example/varpack/varpack/Hex.valueOf by its contract rm2
  obtain ⟨_, _, ⟨T5, L5, k5, n5⟩, -, X5, ⟨Lc5, hQ5, l5, y5, z5⟩, st5⟩ := Jvm.LawKit.callS X4 hx (y := (⟨"com/example/varpack/varpack/Hex", "valueOf", "(C)I"⟩ : MethodName)) hown (mvT hZ (hw _ (List.mem_of_getElem? (i := 6) rfl))) (mvT hZ (hw _ (List.mem_of_getElem? (i := 7) rfl))) (mvT hZ (hw _ (List.mem_of_getElem? (i := 2) rfl))) (mvT hZ (hw _ (List.mem_of_getElem? (i := 8) rfl))) (by decide) (backOf (W := 0) (rm2 l Z a0 hw [] (own_dg ((p1 &&& (15 : Int32)) &&& (15 : Int32)))  T4.heap n0 (Nat.le_trans Z0 KH4.1)) hZ (hw _ (List.mem_of_getElem? (i := 8) rfl)) (hw _ (List.mem_of_getElem? (i := 2) rfl)) (by decide) (by decide)) (g := (mkF m 44 #[.val (.int p1), .val (.int p2), .val (.int (p1 &&& (15 : Int32))), .val (.int (own_dg ((p1 &&& (15 : Int32)) &&& (15 : Int32)))), .val (.int (1 : Int32)), .val (.int (own_dg ((p1 &&& (15 : Int32)) &&& (15 : Int32)))), .unset, .unset, .unset, .unset, .unset] [(.int (own_dg ((p1 &&& (15 : Int32)) &&& (15 : Int32))))])) rfl (by rw [hml]; rfl) (argsL := [(.int (own_dg ((p1 &&& (15 : Int32)) &&& (15 : Int32))))]) (rest := []) (lenOf pd_0_1 rfl) rfl (by show 2 * 0 + _ ≤ _; exact Nat.le_of_eq rfl) (hb hby at_44) (fun _ _ => ⟨rfl, rfl, (by decide : 0 + 0 ≤ _), (by decide : 0 + 0 ≤ _)⟩)
  dsimp only [Pt.U, Pt.locs, Pt.cells, Pt.slots] at X5 l5 y5 z5 st5 hQ5
  subst l5 y5 z5
  obtain ⟨rfl, N5q, e5q⟩ := hQ5
  have N5 := Fr.app N4 N5q
  have K5q : Keep T4.heap T5.heap [] := own_keep e5q
  have KH5 : Keep h0 T5.heap [] := KH4.trans K5q own_ws0
  have eh5 : T5.heap = h0 := by rw [e5q]; exact eh4
  -- pc 67: com/example/varpack/varpack/Hex.valueOf by its contract rm2
  obtain ⟨_, _, ⟨T6, L6, k6, n6⟩, -, X6, ⟨Lc6, hQ6, l6, y6, z6⟩, st6⟩ := Jvm.LawKit.callS X5 hx (y := (⟨"com/example/varpack/varpack/Hex", "valueOf", "(C)I"⟩ : MethodName)) hown (mvT hZ (hw _ (List.mem_of_getElem? (i := 6) rfl))) (mvT hZ (hw _ (List.mem_of_getElem? (i := 7) rfl))) (mvT hZ (hw _ (List.mem_of_getElem? (i := 2) rfl))) (mvT hZ (hw _ (List.mem_of_getElem? (i := 8) rfl))) (by decide) (backOf (W := 0) (rm2 l Z a0 hw [] ((p2 &&& (65535 : Int32)).toUInt32.toUInt16.toUInt32.toInt32)  T5.heap n0 (Nat.le_trans Z0 KH5.1)) hZ (hw _ (List.mem_of_getElem? (i := 8) rfl)) (hw _ (List.mem_of_getElem? (i := 2) rfl)) (by decide) (by decide)) (g := (mkF m 67 #[.val (.int p1), .val (.int p2), .val (.int (p1 &&& (15 : Int32))), .val (.int (own_dg ((p1 &&& (15 : Int32)) &&& (15 : Int32)))), .val (.int (1 : Int32)), .val (.int (own_dg ((p1 &&& (15 : Int32)) &&& (15 : Int32)))), .val (.int (1 : Int32)), .val (.int ((p2 &&& (65535 : Int32)).toUInt32.toUInt16.toUInt32.toInt32)), .unset, .unset, .unset] [(.int ((p2 &&& (65535 : Int32)).toUInt32.toUInt16.toUInt32.toInt32))])) rfl (by rw [hml]; rfl) (argsL := [(.int ((p2 &&& (65535 : Int32)).toUInt32.toUInt16.toUInt32.toInt32))]) (rest := []) (lenOf pd_0_1 rfl) rfl (by show 2 * 0 + _ ≤ _; exact Nat.le_of_eq rfl) (hb hby at_67) (fun _ _ => ⟨rfl, rfl, (by decide : 0 + 0 ≤ _), (by decide : 0 + 0 ≤ _)⟩)
  dsimp only [Pt.U, Pt.locs, Pt.cells, Pt.slots] at X6 l6 y6 z6 st6 hQ6
  subst l6 y6 z6
  obtain ⟨rfl, N6q, e6q⟩ := hQ6
  have N6 := Fr.app N5 N6q
  have K6q : Keep T5.heap T6.heap [] := own_keep e6q
  have KH6 : Keep h0 T6.heap [] := KH5.trans K6q own_ws0
  have eh6 : T6.heap = h0 := by rw [e6q]; exact eh5
  -- pc 98: com/example/varpack/varpack/Hex.digit by its contract rm1
  obtain ⟨_, _, ⟨T7, L7, k7, n7⟩, -, X7, ⟨Lc7, hQ7, l7, y7, z7⟩, st7⟩ := Jvm.LawKit.callS X6 hx (y := (⟨"com/example/varpack/varpack/Hex", "digit", "(I)C"⟩ : MethodName)) hown (mvT hZ (hw _ (List.mem_of_getElem? (i := 0) rfl))) (mvT hZ (hw _ (List.mem_of_getElem? (i := 1) rfl))) (mvT hZ (hw _ (List.mem_of_getElem? (i := 2) rfl))) (mvT hZ (hw _ (List.mem_of_getElem? (i := 3) rfl))) (by decide) (backOf (W := 0) (rm1 l Z a0 hw [] (own_f2 ((p2 &&& (65535 : Int32)).toUInt32.toUInt16.toUInt32.toInt32)) wd (own_dg ((own_f2 ((p2 &&& (65535 : Int32)).toUInt32.toUInt16.toUInt32.toInt32)) &&& (15 : Int32))) cl T6.heap n0 (Nat.le_trans Z0 KH6.1) (by rw [eh6]; exact S_DIGITS) (by rw [eh6]; exact Ar) (hin _) (hat _) (own_hn _)) hZ (hw _ (List.mem_of_getElem? (i := 3) rfl)) (hw _ (List.mem_of_getElem? (i := 2) rfl)) (by decide) (by decide)) (g := (mkF m 98 #[.val (.int p1), .val (.int p2), .val (.int (p1 &&& (15 : Int32))), .val (.int (own_dg ((p1 &&& (15 : Int32)) &&& (15 : Int32)))), .val (.int (1 : Int32)), .val (.int (own_dg ((p1 &&& (15 : Int32)) &&& (15 : Int32)))), .val (.int (1 : Int32)), .val (.int ((p2 &&& (65535 : Int32)).toUInt32.toUInt16.toUInt32.toInt32)), .val (.int (own_f2 ((p2 &&& (65535 : Int32)).toUInt32.toUInt16.toUInt32.toInt32))), .unset, .unset] [(.int (own_f2 ((p2 &&& (65535 : Int32)).toUInt32.toUInt16.toUInt32.toInt32)))])) rfl (by rw [hml]; rfl) (argsL := [(.int (own_f2 ((p2 &&& (65535 : Int32)).toUInt32.toUInt16.toUInt32.toInt32)))]) (rest := []) (lenOf pd_0_0 rfl) rfl (by show 2 * 0 + _ ≤ _; exact Nat.le_of_eq rfl) (hb hby at_98) (fun _ _ => ⟨rfl, rfl, (by decide : 0 + 0 ≤ _), (by decide : 0 + 0 ≤ _)⟩)
  dsimp only [Pt.U, Pt.locs, Pt.cells, Pt.slots] at X7 l7 y7 z7 st7 hQ7
  subst l7 y7 z7
  obtain ⟨rfl, N7q, e7q⟩ := hQ7
  have N7 := Fr.app N6 N7q
  have K7q : Keep T6.heap T7.heap [] := own_keep e7q
  have KH7 : Keep h0 T7.heap [] := KH6.trans K7q own_ws0
  have eh7 : T7.heap = h0 := by rw [e7q]; exact eh6
  obtain ⟨fs, hr, hrun, hended, hW, hsame⟩ := X7.leave (v := some (.int (1 : Int32))) (fun h => by rw [Bd.returns] at h; cases h) (BodyLoose.notSynchronized Bd)
  refine ⟨_, _, pre0 _ ?_, hrun, hended, _, _, rfl, ?_, ⟨_, rfl⟩, hW, hsame.mono (by decide) (by decide)⟩
  -- 4. STEPS
  · show Steps p.tables e below (s₁.setTop (mkF m 0 #[.val (.int p1), .val (.int p2), .unset, .unset, .unset, .unset, .unset, .unset, .unset, .unset, .unset] [])) _
    refine XS.iloadN X0.here hx rfl (hb hby at_0) rfl ?_
    show Steps p.tables e below (s₁.setTop (mkF m 1 #[.val (.int p1), .val (.int p2), .unset, .unset, .unset, .unset, .unset, .unset, .unset, .unset, .unset] [(.int p1)])) _
    refine XS.bipush X0.here hx rfl (hb hby at_1) ?_
    show Steps p.tables e below (s₁.setTop (mkF m 3 #[.val (.int p1), .val (.int p2), .unset, .unset, .unset, .unset, .unset, .unset, .unset, .unset, .unset] [(.int (15 : Int32)), (.int p1)])) _
    refine XS.iand X0.here hx rfl (hb hby at_3) rfl ?_
    show Steps p.tables e below (s₁.setTop (mkF m 4 #[.val (.int p1), .val (.int p2), .unset, .unset, .unset, .unset, .unset, .unset, .unset, .unset, .unset] [(.int (p1 &&& (15 : Int32)))])) _
    refine XS.istoreN X0.here hx rfl (hb hby at_4) rfl (l' := #[.val (.int p1), .val (.int p2), .val (.int (p1 &&& (15 : Int32))), .unset, .unset, .unset, .unset, .unset, .unset, .unset, .unset]) rfl ?_
    show Steps p.tables e below (s₁.setTop (mkF m 5 #[.val (.int p1), .val (.int p2), .val (.int (p1 &&& (15 : Int32))), .unset, .unset, .unset, .unset, .unset, .unset, .unset, .unset] [])) _
    refine XS.iloadN X0.here hx rfl (hb hby at_5) rfl ?_
    show Steps p.tables e below (s₁.setTop (mkF m 6 #[.val (.int p1), .val (.int p2), .val (.int (p1 &&& (15 : Int32))), .unset, .unset, .unset, .unset, .unset, .unset, .unset, .unset] [(.int (p1 &&& (15 : Int32)))])) _
    refine st3 _ ?_
    show Steps p.tables e below (T3.setTop (mkF m 9 #[.val (.int p1), .val (.int p2), .val (.int (p1 &&& (15 : Int32))), .unset, .unset, .unset, .unset, .unset, .unset, .unset, .unset] [(.int (own_dg ((p1 &&& (15 : Int32)) &&& (15 : Int32))))])) _
    refine XS.istoreN X3.here hx rfl (hb hby at_9) rfl (l' := #[.val (.int p1), .val (.int p2), .val (.int (p1 &&& (15 : Int32))), .val (.int (own_dg ((p1 &&& (15 : Int32)) &&& (15 : Int32)))), .unset, .unset, .unset, .unset, .unset, .unset, .unset]) rfl ?_
    show Steps p.tables e below (T3.setTop (mkF m 10 #[.val (.int p1), .val (.int p2), .val (.int (p1 &&& (15 : Int32))), .val (.int (own_dg ((p1 &&& (15 : Int32)) &&& (15 : Int32)))), .unset, .unset, .unset, .unset, .unset, .unset, .unset] [])) _
    refine XS.iloadN X3.here hx rfl (hb hby at_10) rfl ?_
    show Steps p.tables e below (T3.setTop (mkF m 11 #[.val (.int p1), .val (.int p2), .val (.int (p1 &&& (15 : Int32))), .val (.int (own_dg ((p1 &&& (15 : Int32)) &&& (15 : Int32)))), .unset, .unset, .unset, .unset, .unset, .unset, .unset] [(.int (own_dg ((p1 &&& (15 : Int32)) &&& (15 : Int32))))])) _
    refine st4 _ ?_
    show Steps p.tables e below (T4.setTop (mkF m 14 #[.val (.int p1), .val (.int p2), .val (.int (p1 &&& (15 : Int32))), .val (.int (own_dg ((p1 &&& (15 : Int32)) &&& (15 : Int32)))), .unset, .unset, .unset, .unset, .unset, .unset, .unset] [(.int (own_f2 (own_dg ((p1 &&& (15 : Int32)) &&& (15 : Int32)))))])) _
    refine XS.iloadN X4.here hx rfl (hb hby at_14) rfl ?_
    show Steps p.tables e below (T4.setTop (mkF m 15 #[.val (.int p1), .val (.int p2), .val (.int (p1 &&& (15 : Int32))), .val (.int (own_dg ((p1 &&& (15 : Int32)) &&& (15 : Int32)))), .unset, .unset, .unset, .unset, .unset, .unset, .unset] [(.int (p1 &&& (15 : Int32))), (.int (own_f2 (own_dg ((p1 &&& (15 : Int32)) &&& (15 : Int32)))))])) _
    refine XS.icmpNo X4.here hx rfl (hb hby at_15) rfl (teq ht15).2 ?_
    show Steps p.tables e below (T4.setTop (mkF m 18 #[.val (.int p1), .val (.int p2), .val (.int (p1 &&& (15 : Int32))), .val (.int (own_dg ((p1 &&& (15 : Int32)) &&& (15 : Int32)))), .unset, .unset, .unset, .unset, .unset, .unset, .unset] [])) _
    refine XS.iconst X4.here hx rfl (hb hby at_18) ?_
    show Steps p.tables e below (T4.setTop (mkF m 19 #[.val (.int p1), .val (.int p2), .val (.int (p1 &&& (15 : Int32))), .val (.int (own_dg ((p1 &&& (15 : Int32)) &&& (15 : Int32)))), .unset, .unset, .unset, .unset, .unset, .unset, .unset] [(.int (1 : Int32))])) _
    refine XS.goto X4.here hx rfl (pc0 := 19) (pc' := 23) rfl (hb hby at_19) (by decide) (by decide) ?_
    show Steps p.tables e below (T4.setTop (mkF m 23 #[.val (.int p1), .val (.int p2), .val (.int (p1 &&& (15 : Int32))), .val (.int (own_dg ((p1 &&& (15 : Int32)) &&& (15 : Int32)))), .unset, .unset, .unset, .unset, .unset, .unset, .unset] [(.int (1 : Int32))])) _
    refine XS.istore X4.here hx rfl (hb hby at_23) rfl (l' := #[.val (.int p1), .val (.int p2), .val (.int (p1 &&& (15 : Int32))), .val (.int (own_dg ((p1 &&& (15 : Int32)) &&& (15 : Int32)))), .val (.int (1 : Int32)), .unset, .unset, .unset, .unset, .unset, .unset]) rfl ?_
    show Steps p.tables e below (T4.setTop (mkF m 25 #[.val (.int p1), .val (.int p2), .val (.int (p1 &&& (15 : Int32))), .val (.int (own_dg ((p1 &&& (15 : Int32)) &&& (15 : Int32)))), .val (.int (1 : Int32)), .unset, .unset, .unset, .unset, .unset, .unset] [])) _
    refine XS.iloadN X4.here hx rfl (hb hby at_25) rfl ?_
    show Steps p.tables e below (T4.setTop (mkF m 26 #[.val (.int p1), .val (.int p2), .val (.int (p1 &&& (15 : Int32))), .val (.int (own_dg ((p1 &&& (15 : Int32)) &&& (15 : Int32)))), .val (.int (1 : Int32)), .unset, .unset, .unset, .unset, .unset, .unset] [(.int (p1 &&& (15 : Int32)))])) _
    refine XS.bipush X4.here hx rfl (hb hby at_26) ?_
    show Steps p.tables e below (T4.setTop (mkF m 28 #[.val (.int p1), .val (.int p2), .val (.int (p1 &&& (15 : Int32))), .val (.int (own_dg ((p1 &&& (15 : Int32)) &&& (15 : Int32)))), .val (.int (1 : Int32)), .unset, .unset, .unset, .unset, .unset, .unset] [(.int (10 : Int32)), (.int (p1 &&& (15 : Int32)))])) _
    refine XS.icmpYes X4.here hx rfl (pc0 := 28) (pc' := 39) rfl (hb hby at_28) rfl (tlt hc28).1 (by decide) (by decide) ?_
    show Steps p.tables e below (T4.setTop (mkF m 39 #[.val (.int p1), .val (.int p2), .val (.int (p1 &&& (15 : Int32))), .val (.int (own_dg ((p1 &&& (15 : Int32)) &&& (15 : Int32)))), .val (.int (1 : Int32)), .unset, .unset, .unset, .unset, .unset, .unset] [])) _
    refine XS.iloadN X4.here hx rfl (hb hby at_39) rfl ?_
    show Steps p.tables e below (T4.setTop (mkF m 40 #[.val (.int p1), .val (.int p2), .val (.int (p1 &&& (15 : Int32))), .val (.int (own_dg ((p1 &&& (15 : Int32)) &&& (15 : Int32)))), .val (.int (1 : Int32)), .unset, .unset, .unset, .unset, .unset, .unset] [(.int (own_dg ((p1 &&& (15 : Int32)) &&& (15 : Int32))))])) _
    refine XS.istore X4.here hx rfl (hb hby at_40) rfl (l' := #[.val (.int p1), .val (.int p2), .val (.int (p1 &&& (15 : Int32))), .val (.int (own_dg ((p1 &&& (15 : Int32)) &&& (15 : Int32)))), .val (.int (1 : Int32)), .val (.int (own_dg ((p1 &&& (15 : Int32)) &&& (15 : Int32)))), .unset, .unset, .unset, .unset, .unset]) rfl ?_
    show Steps p.tables e below (T4.setTop (mkF m 42 #[.val (.int p1), .val (.int p2), .val (.int (p1 &&& (15 : Int32))), .val (.int (own_dg ((p1 &&& (15 : Int32)) &&& (15 : Int32)))), .val (.int (1 : Int32)), .val (.int (own_dg ((p1 &&& (15 : Int32)) &&& (15 : Int32)))), .unset, .unset, .unset, .unset, .unset] [])) _
    refine XS.iload X4.here hx rfl (hb hby at_42) rfl ?_
    show Steps p.tables e below (T4.setTop (mkF m 44 #[.val (.int p1), .val (.int p2), .val (.int (p1 &&& (15 : Int32))), .val (.int (own_dg ((p1 &&& (15 : Int32)) &&& (15 : Int32)))), .val (.int (1 : Int32)), .val (.int (own_dg ((p1 &&& (15 : Int32)) &&& (15 : Int32)))), .unset, .unset, .unset, .unset, .unset] [(.int (own_dg ((p1 &&& (15 : Int32)) &&& (15 : Int32))))])) _
    refine st5 _ ?_
    show Steps p.tables e below (T5.setTop (mkF m 47 #[.val (.int p1), .val (.int p2), .val (.int (p1 &&& (15 : Int32))), .val (.int (own_dg ((p1 &&& (15 : Int32)) &&& (15 : Int32)))), .val (.int (1 : Int32)), .val (.int (own_dg ((p1 &&& (15 : Int32)) &&& (15 : Int32)))), .unset, .unset, .unset, .unset, .unset] [(.int (own_f2 (own_dg ((p1 &&& (15 : Int32)) &&& (15 : Int32)))))])) _
    refine XS.iloadN X5.here hx rfl (hb hby at_47) rfl ?_
    show Steps p.tables e below (T5.setTop (mkF m 48 #[.val (.int p1), .val (.int p2), .val (.int (p1 &&& (15 : Int32))), .val (.int (own_dg ((p1 &&& (15 : Int32)) &&& (15 : Int32)))), .val (.int (1 : Int32)), .val (.int (own_dg ((p1 &&& (15 : Int32)) &&& (15 : Int32)))), .unset, .unset, .unset, .unset, .unset] [(.int (p1 &&& (15 : Int32))), (.int (own_f2 (own_dg ((p1 &&& (15 : Int32)) &&& (15 : Int32)))))])) _
    refine XS.icmpNo X5.here hx rfl (hb hby at_48) rfl (teq ht48).2 ?_
    show Steps p.tables e below (T5.setTop (mkF m 51 #[.val (.int p1), .val (.int p2), .val (.int (p1 &&& (15 : Int32))), .val (.int (own_dg ((p1 &&& (15 : Int32)) &&& (15 : Int32)))), .val (.int (1 : Int32)), .val (.int (own_dg ((p1 &&& (15 : Int32)) &&& (15 : Int32)))), .unset, .unset, .unset, .unset, .unset] [])) _
    refine XS.iconst X5.here hx rfl (hb hby at_51) ?_
    show Steps p.tables e below (T5.setTop (mkF m 52 #[.val (.int p1), .val (.int p2), .val (.int (p1 &&& (15 : Int32))), .val (.int (own_dg ((p1 &&& (15 : Int32)) &&& (15 : Int32)))), .val (.int (1 : Int32)), .val (.int (own_dg ((p1 &&& (15 : Int32)) &&& (15 : Int32)))), .unset, .unset, .unset, .unset, .unset] [(.int (1 : Int32))])) _
    refine XS.goto X5.here hx rfl (pc0 := 52) (pc' := 56) rfl (hb hby at_52) (by decide) (by decide) ?_
    show Steps p.tables e below (T5.setTop (mkF m 56 #[.val (.int p1), .val (.int p2), .val (.int (p1 &&& (15 : Int32))), .val (.int (own_dg ((p1 &&& (15 : Int32)) &&& (15 : Int32)))), .val (.int (1 : Int32)), .val (.int (own_dg ((p1 &&& (15 : Int32)) &&& (15 : Int32)))), .unset, .unset, .unset, .unset, .unset] [(.int (1 : Int32))])) _
    refine XS.istore X5.here hx rfl (hb hby at_56) rfl (l' := #[.val (.int p1), .val (.int p2), .val (.int (p1 &&& (15 : Int32))), .val (.int (own_dg ((p1 &&& (15 : Int32)) &&& (15 : Int32)))), .val (.int (1 : Int32)), .val (.int (own_dg ((p1 &&& (15 : Int32)) &&& (15 : Int32)))), .val (.int (1 : Int32)), .unset, .unset, .unset, .unset]) rfl ?_
    show Steps p.tables e below (T5.setTop (mkF m 58 #[.val (.int p1), .val (.int p2), .val (.int (p1 &&& (15 : Int32))), .val (.int (own_dg ((p1 &&& (15 : Int32)) &&& (15 : Int32)))), .val (.int (1 : Int32)), .val (.int (own_dg ((p1 &&& (15 : Int32)) &&& (15 : Int32)))), .val (.int (1 : Int32)), .unset, .unset, .unset, .unset] [])) _
    refine XS.iloadN X5.here hx rfl (hb hby at_58) rfl ?_
    show Steps p.tables e below (T5.setTop (mkF m 59 #[.val (.int p1), .val (.int p2), .val (.int (p1 &&& (15 : Int32))), .val (.int (own_dg ((p1 &&& (15 : Int32)) &&& (15 : Int32)))), .val (.int (1 : Int32)), .val (.int (own_dg ((p1 &&& (15 : Int32)) &&& (15 : Int32)))), .val (.int (1 : Int32)), .unset, .unset, .unset, .unset] [(.int p2)])) _
    refine X5.ldcInt hx hown (mvT hZ (hw _ (List.mem_of_getElem? (i := 9) rfl))) (g := (mkF m 59 #[.val (.int p1), .val (.int p2), .val (.int (p1 &&& (15 : Int32))), .val (.int (own_dg ((p1 &&& (15 : Int32)) &&& (15 : Int32)))), .val (.int (1 : Int32)), .val (.int (own_dg ((p1 &&& (15 : Int32)) &&& (15 : Int32)))), .val (.int (1 : Int32)), .unset, .unset, .unset, .unset] [(.int p2)])) rfl (hb hby at_59) _ ?_
    show Steps p.tables e below (T5.setTop (mkF m 61 #[.val (.int p1), .val (.int p2), .val (.int (p1 &&& (15 : Int32))), .val (.int (own_dg ((p1 &&& (15 : Int32)) &&& (15 : Int32)))), .val (.int (1 : Int32)), .val (.int (own_dg ((p1 &&& (15 : Int32)) &&& (15 : Int32)))), .val (.int (1 : Int32)), .unset, .unset, .unset, .unset] [(.int (65535 : Int32)), (.int p2)])) _
    refine XS.iand X5.here hx rfl (hb hby at_61) rfl ?_
    show Steps p.tables e below (T5.setTop (mkF m 62 #[.val (.int p1), .val (.int p2), .val (.int (p1 &&& (15 : Int32))), .val (.int (own_dg ((p1 &&& (15 : Int32)) &&& (15 : Int32)))), .val (.int (1 : Int32)), .val (.int (own_dg ((p1 &&& (15 : Int32)) &&& (15 : Int32)))), .val (.int (1 : Int32)), .unset, .unset, .unset, .unset] [(.int (p2 &&& (65535 : Int32)))])) _
    refine XS.i2c X5.here hx rfl (hb hby at_62) rfl ?_
    show Steps p.tables e below (T5.setTop (mkF m 63 #[.val (.int p1), .val (.int p2), .val (.int (p1 &&& (15 : Int32))), .val (.int (own_dg ((p1 &&& (15 : Int32)) &&& (15 : Int32)))), .val (.int (1 : Int32)), .val (.int (own_dg ((p1 &&& (15 : Int32)) &&& (15 : Int32)))), .val (.int (1 : Int32)), .unset, .unset, .unset, .unset] [(.int ((p2 &&& (65535 : Int32)).toUInt32.toUInt16.toUInt32.toInt32))])) _
    refine XS.istore X5.here hx rfl (hb hby at_63) rfl (l' := #[.val (.int p1), .val (.int p2), .val (.int (p1 &&& (15 : Int32))), .val (.int (own_dg ((p1 &&& (15 : Int32)) &&& (15 : Int32)))), .val (.int (1 : Int32)), .val (.int (own_dg ((p1 &&& (15 : Int32)) &&& (15 : Int32)))), .val (.int (1 : Int32)), .val (.int ((p2 &&& (65535 : Int32)).toUInt32.toUInt16.toUInt32.toInt32)), .unset, .unset, .unset]) rfl ?_
    show Steps p.tables e below (T5.setTop (mkF m 65 #[.val (.int p1), .val (.int p2), .val (.int (p1 &&& (15 : Int32))), .val (.int (own_dg ((p1 &&& (15 : Int32)) &&& (15 : Int32)))), .val (.int (1 : Int32)), .val (.int (own_dg ((p1 &&& (15 : Int32)) &&& (15 : Int32)))), .val (.int (1 : Int32)), .val (.int ((p2 &&& (65535 : Int32)).toUInt32.toUInt16.toUInt32.toInt32)), .unset, .unset, .unset] [])) _
    refine XS.iload X5.here hx rfl (hb hby at_65) rfl ?_
    show Steps p.tables e below (T5.setTop (mkF m 67 #[.val (.int p1), .val (.int p2), .val (.int (p1 &&& (15 : Int32))), .val (.int (own_dg ((p1 &&& (15 : Int32)) &&& (15 : Int32)))), .val (.int (1 : Int32)), .val (.int (own_dg ((p1 &&& (15 : Int32)) &&& (15 : Int32)))), .val (.int (1 : Int32)), .val (.int ((p2 &&& (65535 : Int32)).toUInt32.toUInt16.toUInt32.toInt32)), .unset, .unset, .unset] [(.int ((p2 &&& (65535 : Int32)).toUInt32.toUInt16.toUInt32.toInt32))])) _
    refine st6 _ ?_
    show Steps p.tables e below (T6.setTop (mkF m 70 #[.val (.int p1), .val (.int p2), .val (.int (p1 &&& (15 : Int32))), .val (.int (own_dg ((p1 &&& (15 : Int32)) &&& (15 : Int32)))), .val (.int (1 : Int32)), .val (.int (own_dg ((p1 &&& (15 : Int32)) &&& (15 : Int32)))), .val (.int (1 : Int32)), .val (.int ((p2 &&& (65535 : Int32)).toUInt32.toUInt16.toUInt32.toInt32)), .unset, .unset, .unset] [(.int (own_f2 ((p2 &&& (65535 : Int32)).toUInt32.toUInt16.toUInt32.toInt32)))])) _
    refine XS.istore X6.here hx rfl (hb hby at_70) rfl (l' := #[.val (.int p1), .val (.int p2), .val (.int (p1 &&& (15 : Int32))), .val (.int (own_dg ((p1 &&& (15 : Int32)) &&& (15 : Int32)))), .val (.int (1 : Int32)), .val (.int (own_dg ((p1 &&& (15 : Int32)) &&& (15 : Int32)))), .val (.int (1 : Int32)), .val (.int ((p2 &&& (65535 : Int32)).toUInt32.toUInt16.toUInt32.toInt32)), .val (.int (own_f2 ((p2 &&& (65535 : Int32)).toUInt32.toUInt16.toUInt32.toInt32))), .unset, .unset]) rfl ?_
    show Steps p.tables e below (T6.setTop (mkF m 72 #[.val (.int p1), .val (.int p2), .val (.int (p1 &&& (15 : Int32))), .val (.int (own_dg ((p1 &&& (15 : Int32)) &&& (15 : Int32)))), .val (.int (1 : Int32)), .val (.int (own_dg ((p1 &&& (15 : Int32)) &&& (15 : Int32)))), .val (.int (1 : Int32)), .val (.int ((p2 &&& (65535 : Int32)).toUInt32.toUInt16.toUInt32.toInt32)), .val (.int (own_f2 ((p2 &&& (65535 : Int32)).toUInt32.toUInt16.toUInt32.toInt32))), .unset, .unset] [])) _
    refine XS.iload X6.here hx rfl (hb hby at_72) rfl ?_
    show Steps p.tables e below (T6.setTop (mkF m 74 #[.val (.int p1), .val (.int p2), .val (.int (p1 &&& (15 : Int32))), .val (.int (own_dg ((p1 &&& (15 : Int32)) &&& (15 : Int32)))), .val (.int (1 : Int32)), .val (.int (own_dg ((p1 &&& (15 : Int32)) &&& (15 : Int32)))), .val (.int (1 : Int32)), .val (.int ((p2 &&& (65535 : Int32)).toUInt32.toUInt16.toUInt32.toInt32)), .val (.int (own_f2 ((p2 &&& (65535 : Int32)).toUInt32.toUInt16.toUInt32.toInt32))), .unset, .unset] [(.int (own_f2 ((p2 &&& (65535 : Int32)).toUInt32.toUInt16.toUInt32.toInt32)))])) _
    refine XS.iconst X6.here hx rfl (hb hby at_74) ?_
    show Steps p.tables e below (T6.setTop (mkF m 75 #[.val (.int p1), .val (.int p2), .val (.int (p1 &&& (15 : Int32))), .val (.int (own_dg ((p1 &&& (15 : Int32)) &&& (15 : Int32)))), .val (.int (1 : Int32)), .val (.int (own_dg ((p1 &&& (15 : Int32)) &&& (15 : Int32)))), .val (.int (1 : Int32)), .val (.int ((p2 &&& (65535 : Int32)).toUInt32.toUInt16.toUInt32.toInt32)), .val (.int (own_f2 ((p2 &&& (65535 : Int32)).toUInt32.toUInt16.toUInt32.toInt32))), .unset, .unset] [(.int (-1 : Int32)), (.int (own_f2 ((p2 &&& (65535 : Int32)).toUInt32.toUInt16.toUInt32.toInt32)))])) _
    refine XS.icmpYes X6.here hx rfl (pc0 := 75) (pc' := 84) rfl (hb hby at_75) rfl (feq ht75).2 (by decide) (by decide) ?_
    show Steps p.tables e below (T6.setTop (mkF m 84 #[.val (.int p1), .val (.int p2), .val (.int (p1 &&& (15 : Int32))), .val (.int (own_dg ((p1 &&& (15 : Int32)) &&& (15 : Int32)))), .val (.int (1 : Int32)), .val (.int (own_dg ((p1 &&& (15 : Int32)) &&& (15 : Int32)))), .val (.int (1 : Int32)), .val (.int ((p2 &&& (65535 : Int32)).toUInt32.toUInt16.toUInt32.toInt32)), .val (.int (own_f2 ((p2 &&& (65535 : Int32)).toUInt32.toUInt16.toUInt32.toInt32))), .unset, .unset] [])) _
    refine XS.iload X6.here hx rfl (hb hby at_84) rfl ?_
    show Steps p.tables e below (T6.setTop (mkF m 86 #[.val (.int p1), .val (.int p2), .val (.int (p1 &&& (15 : Int32))), .val (.int (own_dg ((p1 &&& (15 : Int32)) &&& (15 : Int32)))), .val (.int (1 : Int32)), .val (.int (own_dg ((p1 &&& (15 : Int32)) &&& (15 : Int32)))), .val (.int (1 : Int32)), .val (.int ((p2 &&& (65535 : Int32)).toUInt32.toUInt16.toUInt32.toInt32)), .val (.int (own_f2 ((p2 &&& (65535 : Int32)).toUInt32.toUInt16.toUInt32.toInt32))), .unset, .unset] [(.int (own_f2 ((p2 &&& (65535 : Int32)).toUInt32.toUInt16.toUInt32.toInt32)))])) _
    refine XS.ifNo X6.here hx rfl (hb hby at_86) rfl ((if0 _ _).trans (flt ht86).1) ?_
    show Steps p.tables e below (T6.setTop (mkF m 89 #[.val (.int p1), .val (.int p2), .val (.int (p1 &&& (15 : Int32))), .val (.int (own_dg ((p1 &&& (15 : Int32)) &&& (15 : Int32)))), .val (.int (1 : Int32)), .val (.int (own_dg ((p1 &&& (15 : Int32)) &&& (15 : Int32)))), .val (.int (1 : Int32)), .val (.int ((p2 &&& (65535 : Int32)).toUInt32.toUInt16.toUInt32.toInt32)), .val (.int (own_f2 ((p2 &&& (65535 : Int32)).toUInt32.toUInt16.toUInt32.toInt32))), .unset, .unset] [])) _
    refine XS.iload X6.here hx rfl (hb hby at_89) rfl ?_
    show Steps p.tables e below (T6.setTop (mkF m 91 #[.val (.int p1), .val (.int p2), .val (.int (p1 &&& (15 : Int32))), .val (.int (own_dg ((p1 &&& (15 : Int32)) &&& (15 : Int32)))), .val (.int (1 : Int32)), .val (.int (own_dg ((p1 &&& (15 : Int32)) &&& (15 : Int32)))), .val (.int (1 : Int32)), .val (.int ((p2 &&& (65535 : Int32)).toUInt32.toUInt16.toUInt32.toInt32)), .val (.int (own_f2 ((p2 &&& (65535 : Int32)).toUInt32.toUInt16.toUInt32.toInt32))), .unset, .unset] [(.int (own_f2 ((p2 &&& (65535 : Int32)).toUInt32.toUInt16.toUInt32.toInt32)))])) _
    refine XS.bipush X6.here hx rfl (hb hby at_91) ?_
    show Steps p.tables e below (T6.setTop (mkF m 93 #[.val (.int p1), .val (.int p2), .val (.int (p1 &&& (15 : Int32))), .val (.int (own_dg ((p1 &&& (15 : Int32)) &&& (15 : Int32)))), .val (.int (1 : Int32)), .val (.int (own_dg ((p1 &&& (15 : Int32)) &&& (15 : Int32)))), .val (.int (1 : Int32)), .val (.int ((p2 &&& (65535 : Int32)).toUInt32.toUInt16.toUInt32.toInt32)), .val (.int (own_f2 ((p2 &&& (65535 : Int32)).toUInt32.toUInt16.toUInt32.toInt32))), .unset, .unset] [(.int (15 : Int32)), (.int (own_f2 ((p2 &&& (65535 : Int32)).toUInt32.toUInt16.toUInt32.toInt32)))])) _
    refine XS.icmpNo X6.here hx rfl (hb hby at_93) rfl (flt ht93).2.2.1 ?_
    show Steps p.tables e below (T6.setTop (mkF m 96 #[.val (.int p1), .val (.int p2), .val (.int (p1 &&& (15 : Int32))), .val (.int (own_dg ((p1 &&& (15 : Int32)) &&& (15 : Int32)))), .val (.int (1 : Int32)), .val (.int (own_dg ((p1 &&& (15 : Int32)) &&& (15 : Int32)))), .val (.int (1 : Int32)), .val (.int ((p2 &&& (65535 : Int32)).toUInt32.toUInt16.toUInt32.toInt32)), .val (.int (own_f2 ((p2 &&& (65535 : Int32)).toUInt32.toUInt16.toUInt32.toInt32))), .unset, .unset] [])) _
    refine XS.iload X6.here hx rfl (hb hby at_96) rfl ?_
    show Steps p.tables e below (T6.setTop (mkF m 98 #[.val (.int p1), .val (.int p2), .val (.int (p1 &&& (15 : Int32))), .val (.int (own_dg ((p1 &&& (15 : Int32)) &&& (15 : Int32)))), .val (.int (1 : Int32)), .val (.int (own_dg ((p1 &&& (15 : Int32)) &&& (15 : Int32)))), .val (.int (1 : Int32)), .val (.int ((p2 &&& (65535 : Int32)).toUInt32.toUInt16.toUInt32.toInt32)), .val (.int (own_f2 ((p2 &&& (65535 : Int32)).toUInt32.toUInt16.toUInt32.toInt32))), .unset, .unset] [(.int (own_f2 ((p2 &&& (65535 : Int32)).toUInt32.toUInt16.toUInt32.toInt32)))])) _
    refine st7 _ ?_
    show Steps p.tables e below (T7.setTop (mkF m 101 #[.val (.int p1), .val (.int p2), .val (.int (p1 &&& (15 : Int32))), .val (.int (own_dg ((p1 &&& (15 : Int32)) &&& (15 : Int32)))), .val (.int (1 : Int32)), .val (.int (own_dg ((p1 &&& (15 : Int32)) &&& (15 : Int32)))), .val (.int (1 : Int32)), .val (.int ((p2 &&& (65535 : Int32)).toUInt32.toUInt16.toUInt32.toInt32)), .val (.int (own_f2 ((p2 &&& (65535 : Int32)).toUInt32.toUInt16.toUInt32.toInt32))), .unset, .unset] [(.int (own_dg ((own_f2 ((p2 &&& (65535 : Int32)).toUInt32.toUInt16.toUInt32.toInt32)) &&& (15 : Int32))))])) _
    refine XS.istore X7.here hx rfl (hb hby at_101) rfl (l' := #[.val (.int p1), .val (.int p2), .val (.int (p1 &&& (15 : Int32))), .val (.int (own_dg ((p1 &&& (15 : Int32)) &&& (15 : Int32)))), .val (.int (1 : Int32)), .val (.int (own_dg ((p1 &&& (15 : Int32)) &&& (15 : Int32)))), .val (.int (1 : Int32)), .val (.int ((p2 &&& (65535 : Int32)).toUInt32.toUInt16.toUInt32.toInt32)), .val (.int (own_f2 ((p2 &&& (65535 : Int32)).toUInt32.toUInt16.toUInt32.toInt32))), .unset, .val (.int (own_dg ((own_f2 ((p2 &&& (65535 : Int32)).toUInt32.toUInt16.toUInt32.toInt32)) &&& (15 : Int32))))]) rfl ?_
    show Steps p.tables e below (T7.setTop (mkF m 103 #[.val (.int p1), .val (.int p2), .val (.int (p1 &&& (15 : Int32))), .val (.int (own_dg ((p1 &&& (15 : Int32)) &&& (15 : Int32)))), .val (.int (1 : Int32)), .val (.int (own_dg ((p1 &&& (15 : Int32)) &&& (15 : Int32)))), .val (.int (1 : Int32)), .val (.int ((p2 &&& (65535 : Int32)).toUInt32.toUInt16.toUInt32.toInt32)), .val (.int (own_f2 ((p2 &&& (65535 : Int32)).toUInt32.toUInt16.toUInt32.toInt32))), .unset, .val (.int (own_dg ((own_f2 ((p2 &&& (65535 : Int32)).toUInt32.toUInt16.toUInt32.toInt32)) &&& (15 : Int32))))] [])) _
    refine XS.iload X7.here hx rfl (hb hby at_103) rfl ?_
    show Steps p.tables e below (T7.setTop (mkF m 105 #[.val (.int p1), .val (.int p2), .val (.int (p1 &&& (15 : Int32))), .val (.int (own_dg ((p1 &&& (15 : Int32)) &&& (15 : Int32)))), .val (.int (1 : Int32)), .val (.int (own_dg ((p1 &&& (15 : Int32)) &&& (15 : Int32)))), .val (.int (1 : Int32)), .val (.int ((p2 &&& (65535 : Int32)).toUInt32.toUInt16.toUInt32.toInt32)), .val (.int (own_f2 ((p2 &&& (65535 : Int32)).toUInt32.toUInt16.toUInt32.toInt32))), .unset, .val (.int (own_dg ((own_f2 ((p2 &&& (65535 : Int32)).toUInt32.toUInt16.toUInt32.toInt32)) &&& (15 : Int32))))] [(.int (own_dg ((own_f2 ((p2 &&& (65535 : Int32)).toUInt32.toUInt16.toUInt32.toInt32)) &&& (15 : Int32))))])) _
    refine XS.iload X7.here hx rfl (hb hby at_105) rfl ?_
    show Steps p.tables e below (T7.setTop (mkF m 107 #[.val (.int p1), .val (.int p2), .val (.int (p1 &&& (15 : Int32))), .val (.int (own_dg ((p1 &&& (15 : Int32)) &&& (15 : Int32)))), .val (.int (1 : Int32)), .val (.int (own_dg ((p1 &&& (15 : Int32)) &&& (15 : Int32)))), .val (.int (1 : Int32)), .val (.int ((p2 &&& (65535 : Int32)).toUInt32.toUInt16.toUInt32.toInt32)), .val (.int (own_f2 ((p2 &&& (65535 : Int32)).toUInt32.toUInt16.toUInt32.toInt32))), .unset, .val (.int (own_dg ((own_f2 ((p2 &&& (65535 : Int32)).toUInt32.toUInt16.toUInt32.toInt32)) &&& (15 : Int32))))] [(.int ((p2 &&& (65535 : Int32)).toUInt32.toUInt16.toUInt32.toInt32)), (.int (own_dg ((own_f2 ((p2 &&& (65535 : Int32)).toUInt32.toUInt16.toUInt32.toInt32)) &&& (15 : Int32))))])) _
    refine XS.icmpYes X7.here hx rfl (pc0 := 107) (pc' := 127) rfl (hb hby at_107) rfl (teq ht107).1 (by decide) (by decide) ?_
    show Steps p.tables e below (T7.setTop (mkF m 127 #[.val (.int p1), .val (.int p2), .val (.int (p1 &&& (15 : Int32))), .val (.int (own_dg ((p1 &&& (15 : Int32)) &&& (15 : Int32)))), .val (.int (1 : Int32)), .val (.int (own_dg ((p1 &&& (15 : Int32)) &&& (15 : Int32)))), .val (.int (1 : Int32)), .val (.int ((p2 &&& (65535 : Int32)).toUInt32.toUInt16.toUInt32.toInt32)), .val (.int (own_f2 ((p2 &&& (65535 : Int32)).toUInt32.toUInt16.toUInt32.toInt32))), .unset, .val (.int (own_dg ((own_f2 ((p2 &&& (65535 : Int32)).toUInt32.toUInt16.toUInt32.toInt32)) &&& (15 : Int32))))] [])) _
    refine XS.iconst X7.here hx rfl (hb hby at_127) ?_
    show Steps p.tables e below (T7.setTop (mkF m 128 #[.val (.int p1), .val (.int p2), .val (.int (p1 &&& (15 : Int32))), .val (.int (own_dg ((p1 &&& (15 : Int32)) &&& (15 : Int32)))), .val (.int (1 : Int32)), .val (.int (own_dg ((p1 &&& (15 : Int32)) &&& (15 : Int32)))), .val (.int (1 : Int32)), .val (.int ((p2 &&& (65535 : Int32)).toUInt32.toUInt16.toUInt32.toInt32)), .val (.int (own_f2 ((p2 &&& (65535 : Int32)).toUInt32.toUInt16.toUInt32.toInt32))), .unset, .val (.int (own_dg ((own_f2 ((p2 &&& (65535 : Int32)).toUInt32.toUInt16.toUInt32.toInt32)) &&& (15 : Int32))))] [(.int (1 : Int32))])) _
    refine XS.goto X7.here hx rfl (pc0 := 128) (pc' := 132) rfl (hb hby at_128) (by decide) (by decide) ?_
    show Steps p.tables e below (T7.setTop (mkF m 132 #[.val (.int p1), .val (.int p2), .val (.int (p1 &&& (15 : Int32))), .val (.int (own_dg ((p1 &&& (15 : Int32)) &&& (15 : Int32)))), .val (.int (1 : Int32)), .val (.int (own_dg ((p1 &&& (15 : Int32)) &&& (15 : Int32)))), .val (.int (1 : Int32)), .val (.int ((p2 &&& (65535 : Int32)).toUInt32.toUInt16.toUInt32.toInt32)), .val (.int (own_f2 ((p2 &&& (65535 : Int32)).toUInt32.toUInt16.toUInt32.toInt32))), .unset, .val (.int (own_dg ((own_f2 ((p2 &&& (65535 : Int32)).toUInt32.toUInt16.toUInt32.toInt32)) &&& (15 : Int32))))] [(.int (1 : Int32))])) _
    refine XS.istore X7.here hx rfl (hb hby at_132) rfl (l' := #[.val (.int p1), .val (.int p2), .val (.int (p1 &&& (15 : Int32))), .val (.int (own_dg ((p1 &&& (15 : Int32)) &&& (15 : Int32)))), .val (.int (1 : Int32)), .val (.int (own_dg ((p1 &&& (15 : Int32)) &&& (15 : Int32)))), .val (.int (1 : Int32)), .val (.int ((p2 &&& (65535 : Int32)).toUInt32.toUInt16.toUInt32.toInt32)), .val (.int (own_f2 ((p2 &&& (65535 : Int32)).toUInt32.toUInt16.toUInt32.toInt32))), .val (.int (1 : Int32)), .val (.int (own_dg ((own_f2 ((p2 &&& (65535 : Int32)).toUInt32.toUInt16.toUInt32.toInt32)) &&& (15 : Int32))))]) rfl ?_
    show Steps p.tables e below (T7.setTop (mkF m 134 #[.val (.int p1), .val (.int p2), .val (.int (p1 &&& (15 : Int32))), .val (.int (own_dg ((p1 &&& (15 : Int32)) &&& (15 : Int32)))), .val (.int (1 : Int32)), .val (.int (own_dg ((p1 &&& (15 : Int32)) &&& (15 : Int32)))), .val (.int (1 : Int32)), .val (.int ((p2 &&& (65535 : Int32)).toUInt32.toUInt16.toUInt32.toInt32)), .val (.int (own_f2 ((p2 &&& (65535 : Int32)).toUInt32.toUInt16.toUInt32.toInt32))), .val (.int (1 : Int32)), .val (.int (own_dg ((own_f2 ((p2 &&& (65535 : Int32)).toUInt32.toUInt16.toUInt32.toInt32)) &&& (15 : Int32))))] [])) _
    refine XS.goto X7.here hx rfl (pc0 := 134) (pc' := 140) rfl (hb hby at_134) (by decide) (by decide) ?_
    show Steps p.tables e below (T7.setTop (mkF m 140 #[.val (.int p1), .val (.int p2), .val (.int (p1 &&& (15 : Int32))), .val (.int (own_dg ((p1 &&& (15 : Int32)) &&& (15 : Int32)))), .val (.int (1 : Int32)), .val (.int (own_dg ((p1 &&& (15 : Int32)) &&& (15 : Int32)))), .val (.int (1 : Int32)), .val (.int ((p2 &&& (65535 : Int32)).toUInt32.toUInt16.toUInt32.toInt32)), .val (.int (own_f2 ((p2 &&& (65535 : Int32)).toUInt32.toUInt16.toUInt32.toInt32))), .val (.int (1 : Int32)), .val (.int (own_dg ((own_f2 ((p2 &&& (65535 : Int32)).toUInt32.toUInt16.toUInt32.toInt32)) &&& (15 : Int32))))] [])) _
    refine XS.iload X7.here hx rfl (hb hby at_140) rfl ?_
    show Steps p.tables e below (T7.setTop (mkF m 142 #[.val (.int p1), .val (.int p2), .val (.int (p1 &&& (15 : Int32))), .val (.int (own_dg ((p1 &&& (15 : Int32)) &&& (15 : Int32)))), .val (.int (1 : Int32)), .val (.int (own_dg ((p1 &&& (15 : Int32)) &&& (15 : Int32)))), .val (.int (1 : Int32)), .val (.int ((p2 &&& (65535 : Int32)).toUInt32.toUInt16.toUInt32.toInt32)), .val (.int (own_f2 ((p2 &&& (65535 : Int32)).toUInt32.toUInt16.toUInt32.toInt32))), .val (.int (1 : Int32)), .val (.int (own_dg ((own_f2 ((p2 &&& (65535 : Int32)).toUInt32.toUInt16.toUInt32.toInt32)) &&& (15 : Int32))))] [(.int (1 : Int32))])) _
    refine XS.ifNo X7.here hx rfl (hb hby at_142) rfl ((if0 _ _).trans (feq hc142).1) ?_
    show Steps p.tables e below (T7.setTop (mkF m 145 #[.val (.int p1), .val (.int p2), .val (.int (p1 &&& (15 : Int32))), .val (.int (own_dg ((p1 &&& (15 : Int32)) &&& (15 : Int32)))), .val (.int (1 : Int32)), .val (.int (own_dg ((p1 &&& (15 : Int32)) &&& (15 : Int32)))), .val (.int (1 : Int32)), .val (.int ((p2 &&& (65535 : Int32)).toUInt32.toUInt16.toUInt32.toInt32)), .val (.int (own_f2 ((p2 &&& (65535 : Int32)).toUInt32.toUInt16.toUInt32.toInt32))), .val (.int (1 : Int32)), .val (.int (own_dg ((own_f2 ((p2 &&& (65535 : Int32)).toUInt32.toUInt16.toUInt32.toInt32)) &&& (15 : Int32))))] [])) _
    refine XS.iload X7.here hx rfl (hb hby at_145) rfl ?_
    show Steps p.tables e below (T7.setTop (mkF m 147 #[.val (.int p1), .val (.int p2), .val (.int (p1 &&& (15 : Int32))), .val (.int (own_dg ((p1 &&& (15 : Int32)) &&& (15 : Int32)))), .val (.int (1 : Int32)), .val (.int (own_dg ((p1 &&& (15 : Int32)) &&& (15 : Int32)))), .val (.int (1 : Int32)), .val (.int ((p2 &&& (65535 : Int32)).toUInt32.toUInt16.toUInt32.toInt32)), .val (.int (own_f2 ((p2 &&& (65535 : Int32)).toUInt32.toUInt16.toUInt32.toInt32))), .val (.int (1 : Int32)), .val (.int (own_dg ((own_f2 ((p2 &&& (65535 : Int32)).toUInt32.toUInt16.toUInt32.toInt32)) &&& (15 : Int32))))] [(.int (1 : Int32))])) _
    refine XS.ifNo X7.here hx rfl (hb hby at_147) rfl ((if0 _ _).trans (feq hc147).1) ?_
    show Steps p.tables e below (T7.setTop (mkF m 150 #[.val (.int p1), .val (.int p2), .val (.int (p1 &&& (15 : Int32))), .val (.int (own_dg ((p1 &&& (15 : Int32)) &&& (15 : Int32)))), .val (.int (1 : Int32)), .val (.int (own_dg ((p1 &&& (15 : Int32)) &&& (15 : Int32)))), .val (.int (1 : Int32)), .val (.int ((p2 &&& (65535 : Int32)).toUInt32.toUInt16.toUInt32.toInt32)), .val (.int (own_f2 ((p2 &&& (65535 : Int32)).toUInt32.toUInt16.toUInt32.toInt32))), .val (.int (1 : Int32)), .val (.int (own_dg ((own_f2 ((p2 &&& (65535 : Int32)).toUInt32.toUInt16.toUInt32.toInt32)) &&& (15 : Int32))))] [])) _
    refine XS.iload X7.here hx rfl (hb hby at_150) rfl ?_
    show Steps p.tables e below (T7.setTop (mkF m 152 #[.val (.int p1), .val (.int p2), .val (.int (p1 &&& (15 : Int32))), .val (.int (own_dg ((p1 &&& (15 : Int32)) &&& (15 : Int32)))), .val (.int (1 : Int32)), .val (.int (own_dg ((p1 &&& (15 : Int32)) &&& (15 : Int32)))), .val (.int (1 : Int32)), .val (.int ((p2 &&& (65535 : Int32)).toUInt32.toUInt16.toUInt32.toInt32)), .val (.int (own_f2 ((p2 &&& (65535 : Int32)).toUInt32.toUInt16.toUInt32.toInt32))), .val (.int (1 : Int32)), .val (.int (own_dg ((own_f2 ((p2 &&& (65535 : Int32)).toUInt32.toUInt16.toUInt32.toInt32)) &&& (15 : Int32))))] [(.int (1 : Int32))])) _
    refine XS.ifNo X7.here hx rfl (hb hby at_152) rfl ((if0 _ _).trans (feq hc152).1) ?_
    show Steps p.tables e below (T7.setTop (mkF m 155 #[.val (.int p1), .val (.int p2), .val (.int (p1 &&& (15 : Int32))), .val (.int (own_dg ((p1 &&& (15 : Int32)) &&& (15 : Int32)))), .val (.int (1 : Int32)), .val (.int (own_dg ((p1 &&& (15 : Int32)) &&& (15 : Int32)))), .val (.int (1 : Int32)), .val (.int ((p2 &&& (65535 : Int32)).toUInt32.toUInt16.toUInt32.toInt32)), .val (.int (own_f2 ((p2 &&& (65535 : Int32)).toUInt32.toUInt16.toUInt32.toInt32))), .val (.int (1 : Int32)), .val (.int (own_dg ((own_f2 ((p2 &&& (65535 : Int32)).toUInt32.toUInt16.toUInt32.toInt32)) &&& (15 : Int32))))] [])) _
    refine XS.iconst X7.here hx rfl (hb hby at_155) ?_
    show Steps p.tables e below (T7.setTop (mkF m 156 #[.val (.int p1), .val (.int p2), .val (.int (p1 &&& (15 : Int32))), .val (.int (own_dg ((p1 &&& (15 : Int32)) &&& (15 : Int32)))), .val (.int (1 : Int32)), .val (.int (own_dg ((p1 &&& (15 : Int32)) &&& (15 : Int32)))), .val (.int (1 : Int32)), .val (.int ((p2 &&& (65535 : Int32)).toUInt32.toUInt16.toUInt32.toInt32)), .val (.int (own_f2 ((p2 &&& (65535 : Int32)).toUInt32.toUInt16.toUInt32.toInt32))), .val (.int (1 : Int32)), .val (.int (own_dg ((own_f2 ((p2 &&& (65535 : Int32)).toUInt32.toUInt16.toUInt32.toInt32)) &&& (15 : Int32))))] [(.int (1 : Int32))])) _
    refine XS.goto X7.here hx rfl (pc0 := 156) (pc' := 160) rfl (hb hby at_156) (by decide) (by decide) ?_
    show Steps p.tables e below (T7.setTop (mkF m 160 #[.val (.int p1), .val (.int p2), .val (.int (p1 &&& (15 : Int32))), .val (.int (own_dg ((p1 &&& (15 : Int32)) &&& (15 : Int32)))), .val (.int (1 : Int32)), .val (.int (own_dg ((p1 &&& (15 : Int32)) &&& (15 : Int32)))), .val (.int (1 : Int32)), .val (.int ((p2 &&& (65535 : Int32)).toUInt32.toUInt16.toUInt32.toInt32)), .val (.int (own_f2 ((p2 &&& (65535 : Int32)).toUInt32.toUInt16.toUInt32.toInt32))), .val (.int (1 : Int32)), .val (.int (own_dg ((own_f2 ((p2 &&& (65535 : Int32)).toUInt32.toUInt16.toUInt32.toInt32)) &&& (15 : Int32))))] [(.int (1 : Int32))])) _
    exact retN X7 hx (t := .boolean) Bd.returns (by simp) (hb hby at_160) hr
  · show Q0 Z h0 n0 _ T7.heap _
    exact ⟨rfl, N7⟩
set_option maxRecDepth 65536 in
set_option maxHeartbeats 40000000 in
theorem rm0_tC (l : Launch) (Z : State) (a0 : Array Value) (hw : ∀ d ∈ tables_1, d.before a0 Z = true) (ws : List Jvm.Cond) (p1 : Int32) (p2 : Int32) (wd : Addr) (cl : Cell) (h0 : Heap) (n0 : Nat) (Z0 : n0 ≤ h0.size) (S_DIGITS : Sta Z h0 "com/example/varpack/varpack/Hex" "DIGITS" "[C" (.ref wd)) (Ar : Arr Z h0 wd cl .char) (hin : ∀ p : Int32, ¬ ((p &&& (15 : Int32)) < 0 ∨ cl.slots.size ≤ (p &&& (15 : Int32)).toNatClampNeg)) (hat : ∀ p : Int32, cl.slots[(p &&& (15 : Int32)).toNatClampNeg]? = some (.int (own_dg (p &&& (15 : Int32))))) (ht15 : (own_f2 (own_dg ((p1 &&& (15 : Int32)) &&& (15 : Int32)))) = (p1 &&& (15 : Int32))) (hc28 : (p1 &&& (15 : Int32)) < (10 : Int32)) (ht48 : (own_f2 (own_dg ((p1 &&& (15 : Int32)) &&& (15 : Int32)))) = (p1 &&& (15 : Int32))) (ht75 : ¬ ((own_f2 ((p2 &&& (65535 : Int32)).toUInt32.toUInt16.toUInt32.toInt32)) = (-1 : Int32))) (ht86 : ¬ ((own_f2 ((p2 &&& (65535 : Int32)).toUInt32.toUInt16.toUInt32.toInt32)) < (0 : Int32))) (ht93 : ¬ ((15 : Int32) < (own_f2 ((p2 &&& (65535 : Int32)).toUInt32.toUInt16.toUInt32.toInt32)))) (ht107 : ¬ ((own_dg ((own_f2 ((p2 &&& (65535 : Int32)).toUInt32.toUInt16.toUInt32.toInt32)) &&& (15 : Int32))) = ((p2 &&& (65535 : Int32)).toUInt32.toUInt16.toUInt32.toInt32))) (ht114 : ¬ ((own_f2 ((p2 &&& (65535 : Int32)).toUInt32.toUInt16.toUInt32.toInt32)) < (10 : Int32))) (ht124 : ((own_dg ((own_f2 ((p2 &&& (65535 : Int32)).toUInt32.toUInt16.toUInt32.toInt32)) &&& (15 : Int32))) - (32 : Int32)) = ((p2 &&& (65535 : Int32)).toUInt32.toUInt16.toUInt32.toInt32)) (hc142 : ¬ ((1 : Int32) = (0 : Int32))) (hc147 : ¬ ((1 : Int32) = (0 : Int32))) (hc152 : ¬ ((1 : Int32) = (0 : Int32))) :
    MetFree l x (head1 (Jvm.Cond.code x code maxLocals ret :: ws) room_1) (fun a U => a = #[(.int p1), (.int p2)] ∧ Z.Warmed39 U.vm ∧ U.heap = h0) (fun _ _ _ _ _ => True) (fun _ U o U' => ∃ v L, o = .returned v ∧ Q0 Z h0 n0 v U'.heap L ∧ FrameEnd U o U' L room_1.cells room_1.slots) := by
  refine MetFree.of_bodySF (plainFor_of_name pn_0) hisR ?_
  intro p e s m args below meth c s₁ Bd hml0 hP hK
  obtain ⟨rfl, hZ, hh⟩ := hP
  have hx := Bd.exec
  have hby := Bd.bytes
  have hml : c.maxLocals = 11 := hml0
  have hown : s.vm.findClass "com/example/varpack/varpack/HexValueOfPinLaw" = some m.cls := findClass_of_methodNamed Bd.named
  have hnm := (name_of_methodNamed Bd.named Bd.method).1
  have X0 : Stand p l e room_1 s m #[(.int p1), (.int p2)] below meth c s₁ [] 0 0 := Stand.of_body Bd
  have e0 : s₁.heap = h0 := by rw [← hh, Bd.state]; rfl
  have N0 := Fr.nil n0
  have pre0 : ∀ t, Steps p.tables e below (s₁.setTop (mkF m 0 #[.val (.int p1), .val (.int p2), .unset, .unset, .unset, .unset, .unset, .unset, .unset, .unset, .unset] [])) t → Steps p.tables e below (s₁.setTop (entryFrame m #[(.int p1), (.int p2)] maxLocals)) t := fun t k => castTop (ef_0 m p1 p2) k
  -- 3. LAWS
  -- pc 6: com/example/varpack/varpack/Hex.digit by its contract rm1
  obtain ⟨_, _, ⟨T3, L3, k3, n3⟩, -, X3, ⟨Lc3, hQ3, l3, y3, z3⟩, st3⟩ := Jvm.LawKit.callS X0 hx (y := (⟨"com/example/varpack/varpack/Hex", "digit", "(I)C"⟩ : MethodName)) hown (mvT hZ (hw _ (List.mem_of_getElem? (i := 0) rfl))) (mvT hZ (hw _ (List.mem_of_getElem? (i := 1) rfl))) (mvT hZ (hw _ (List.mem_of_getElem? (i := 2) rfl))) (mvT hZ (hw _ (List.mem_of_getElem? (i := 3) rfl))) (by decide) (backOf (W := 0) (rm1 l Z a0 hw [] (p1 &&& (15 : Int32)) wd (own_dg ((p1 &&& (15 : Int32)) &&& (15 : Int32))) cl h0 n0 Z0 S_DIGITS Ar (hin _) (hat _) (own_hn _)) hZ (hw _ (List.mem_of_getElem? (i := 3) rfl)) (hw _ (List.mem_of_getElem? (i := 2) rfl)) (by decide) (by decide)) (g := (mkF m 6 #[.val (.int p1), .val (.int p2), .val (.int (p1 &&& (15 : Int32))), .unset, .unset, .unset, .unset, .unset, .unset, .unset, .unset] [(.int (p1 &&& (15 : Int32)))])) rfl (by rw [hml]; rfl) (argsL := [(.int (p1 &&& (15 : Int32)))]) (rest := []) (lenOf pd_0_0 rfl) rfl (by show 2 * 0 + _ ≤ _; exact Nat.le_of_eq rfl) (hb hby at_6) (fun _ _ => ⟨rfl, e0, (by decide : 0 + 0 ≤ _), (by decide : 0 + 0 ≤ _)⟩)
  dsimp only [Pt.U, Pt.locs, Pt.cells, Pt.slots] at X3 l3 y3 z3 st3 hQ3
  subst l3 y3 z3
  obtain ⟨rfl, N3q, e3q⟩ := hQ3
  have N3 := Fr.app N0 N3q
  have K3q : Keep h0 T3.heap [] := own_keep e3q
  have KH3 : Keep h0 T3.heap [] := (Keep.refl h0 []).trans K3q own_ws0
  have eh3 : T3.heap = h0 := by rw [e3q]
  -- pc 11: com/example/varpack/varpack/Hex.valueOf by its contract rm2
  obtain ⟨_, _, ⟨T4, L4, k4, n4⟩, -, X4, ⟨Lc4, hQ4, l4, y4, z4⟩, st4⟩ := Jvm.LawKit.callS X3 hx (y := (⟨"com/example/varpack/varpack/Hex", "valueOf", "(C)I"⟩ : MethodName)) hown (mvT hZ (hw _ (List.mem_of_getElem? (i := 6) rfl))) (mvT hZ (hw _ (List.mem_of_getElem? (i := 7) rfl))) (mvT hZ (hw _ (List.mem_of_getElem? (i := 2) rfl))) (mvT hZ (hw _ (List.mem_of_getElem? (i := 8) rfl))) (by decide) (backOf (W := 0) (rm2 l Z a0 hw [] (own_dg ((p1 &&& (15 : Int32)) &&& (15 : Int32)))  T3.heap n0 (Nat.le_trans Z0 KH3.1)) hZ (hw _ (List.mem_of_getElem? (i := 8) rfl)) (hw _ (List.mem_of_getElem? (i := 2) rfl)) (by decide) (by decide)) (g := (mkF m 11 #[.val (.int p1), .val (.int p2), .val (.int (p1 &&& (15 : Int32))), .val (.int (own_dg ((p1 &&& (15 : Int32)) &&& (15 : Int32)))), .unset, .unset, .unset, .unset, .unset, .unset, .unset] [(.int (own_dg ((p1 &&& (15 : Int32)) &&& (15 : Int32))))])) rfl (by rw [hml]; rfl) (argsL := [(.int (own_dg ((p1 &&& (15 : Int32)) &&& (15 : Int32))))]) (rest := []) (lenOf pd_0_1 rfl) rfl (by show 2 * 0 + _ ≤ _; exact Nat.le_of_eq rfl) (hb hby at_11) (fun _ _ => ⟨rfl, rfl, (by decide : 0 + 0 ≤ _), (by decide : 0 + 0 ≤ _)⟩)
  dsimp only [Pt.U, Pt.locs, Pt.cells, Pt.slots] at X4 l4 y4 z4 st4 hQ4
  subst l4 y4 z4
  obtain ⟨rfl, N4q, e4q⟩ := hQ4
  have N4 := Fr.app N3 N4q
  have K4q : Keep T3.heap T4.heap [] := own_keep e4q
  have KH4 : Keep h0 T4.heap [] := KH3.trans K4q own_ws0
  have eh4 : T4.heap = h0 := by rw [e4q]; exact eh3
  -- pc 44: com/example/varpack/varpack/Hex.valueOf by its contract rm2
  obtain ⟨_, _, ⟨T5, L5, k5, n5⟩, -, X5, ⟨Lc5, hQ5, l5, y5, z5⟩, st5⟩ := Jvm.LawKit.callS X4 hx (y := (⟨"com/example/varpack/varpack/Hex", "valueOf", "(C)I"⟩ : MethodName)) hown (mvT hZ (hw _ (List.mem_of_getElem? (i := 6) rfl))) (mvT hZ (hw _ (List.mem_of_getElem? (i := 7) rfl))) (mvT hZ (hw _ (List.mem_of_getElem? (i := 2) rfl))) (mvT hZ (hw _ (List.mem_of_getElem? (i := 8) rfl))) (by decide) (backOf (W := 0) (rm2 l Z a0 hw [] (own_dg ((p1 &&& (15 : Int32)) &&& (15 : Int32)))  T4.heap n0 (Nat.le_trans Z0 KH4.1)) hZ (hw _ (List.mem_of_getElem? (i := 8) rfl)) (hw _ (List.mem_of_getElem? (i := 2) rfl)) (by decide) (by decide)) (g := (mkF m 44 #[.val (.int p1), .val (.int p2), .val (.int (p1 &&& (15 : Int32))), .val (.int (own_dg ((p1 &&& (15 : Int32)) &&& (15 : Int32)))), .val (.int (1 : Int32)), .val (.int (own_dg ((p1 &&& (15 : Int32)) &&& (15 : Int32)))), .unset, .unset, .unset, .unset, .unset] [(.int (own_dg ((p1 &&& (15 : Int32)) &&& (15 : Int32))))])) rfl (by rw [hml]; rfl) (argsL := [(.int (own_dg ((p1 &&& (15 : Int32)) &&& (15 : Int32))))]) (rest := []) (lenOf pd_0_1 rfl) rfl (by show 2 * 0 + _ ≤ _; exact Nat.le_of_eq rfl) (hb hby at_44) (fun _ _ => ⟨rfl, rfl, (by decide : 0 + 0 ≤ _), (by decide : 0 + 0 ≤ _)⟩)
  dsimp only [Pt.U, Pt.locs, Pt.cells, Pt.slots] at X5 l5 y5 z5 st5 hQ5
  subst l5 y5 z5
  obtain ⟨rfl, N5q, e5q⟩ := hQ5
  have N5 := Fr.app N4 N5q
  have K5q : Keep T4.heap T5.heap [] := own_keep e5q
  have KH5 : Keep h0 T5.heap [] := KH4.trans K5q own_ws0
  have eh5 : T5.heap = h0 := by rw [e5q]; exact eh4
  -- pc 67: com/example/varpack/varpack/Hex.valueOf by its contract rm2
  obtain ⟨_, _, ⟨T6, L6, k6, n6⟩, -, X6, ⟨Lc6, hQ6, l6, y6, z6⟩, st6⟩ := Jvm.LawKit.callS X5 hx (y := (⟨"com/example/varpack/varpack/Hex", "valueOf", "(C)I"⟩ : MethodName)) hown (mvT hZ (hw _ (List.mem_of_getElem? (i := 6) rfl))) (mvT hZ (hw _ (List.mem_of_getElem? (i := 7) rfl))) (mvT hZ (hw _ (List.mem_of_getElem? (i := 2) rfl))) (mvT hZ (hw _ (List.mem_of_getElem? (i := 8) rfl))) (by decide) (backOf (W := 0) (rm2 l Z a0 hw [] ((p2 &&& (65535 : Int32)).toUInt32.toUInt16.toUInt32.toInt32)  T5.heap n0 (Nat.le_trans Z0 KH5.1)) hZ (hw _ (List.mem_of_getElem? (i := 8) rfl)) (hw _ (List.mem_of_getElem? (i := 2) rfl)) (by decide) (by decide)) (g := (mkF m 67 #[.val (.int p1), .val (.int p2), .val (.int (p1 &&& (15 : Int32))), .val (.int (own_dg ((p1 &&& (15 : Int32)) &&& (15 : Int32)))), .val (.int (1 : Int32)), .val (.int (own_dg ((p1 &&& (15 : Int32)) &&& (15 : Int32)))), .val (.int (1 : Int32)), .val (.int ((p2 &&& (65535 : Int32)).toUInt32.toUInt16.toUInt32.toInt32)), .unset, .unset, .unset] [(.int ((p2 &&& (65535 : Int32)).toUInt32.toUInt16.toUInt32.toInt32))])) rfl (by rw [hml]; rfl) (argsL := [(.int ((p2 &&& (65535 : Int32)).toUInt32.toUInt16.toUInt32.toInt32))]) (rest := []) (lenOf pd_0_1 rfl) rfl (by show 2 * 0 + _ ≤ _; exact Nat.le_of_eq rfl) (hb hby at_67) (fun _ _ => ⟨rfl, rfl, (by decide : 0 + 0 ≤ _), (by decide : 0 + 0 ≤ _)⟩)
  dsimp only [Pt.U, Pt.locs, Pt.cells, Pt.slots] at X6 l6 y6 z6 st6 hQ6
  subst l6 y6 z6
  obtain ⟨rfl, N6q, e6q⟩ := hQ6
  have N6 := Fr.app N5 N6q
  have K6q : Keep T5.heap T6.heap [] := own_keep e6q
  have KH6 : Keep h0 T6.heap [] := KH5.trans K6q own_ws0
  have eh6 : T6.heap = h0 := by rw [e6q]; exact eh5
  -- pc 98: com/example/varpack/varpack/Hex.digit by its contract rm1
  obtain ⟨_, _, ⟨T7, L7, k7, n7⟩, -, X7, ⟨Lc7, hQ7, l7, y7, z7⟩, st7⟩ := Jvm.LawKit.callS X6 hx (y := (⟨"com/example/varpack/varpack/Hex", "digit", "(I)C"⟩ : MethodName)) hown (mvT hZ (hw _ (List.mem_of_getElem? (i := 0) rfl))) (mvT hZ (hw _ (List.mem_of_getElem? (i := 1) rfl))) (mvT hZ (hw _ (List.mem_of_getElem? (i := 2) rfl))) (mvT hZ (hw _ (List.mem_of_getElem? (i := 3) rfl))) (by decide) (backOf (W := 0) (rm1 l Z a0 hw [] (own_f2 ((p2 &&& (65535 : Int32)).toUInt32.toUInt16.toUInt32.toInt32)) wd (own_dg ((own_f2 ((p2 &&& (65535 : Int32)).toUInt32.toUInt16.toUInt32.toInt32)) &&& (15 : Int32))) cl T6.heap n0 (Nat.le_trans Z0 KH6.1) (by rw [eh6]; exact S_DIGITS) (by rw [eh6]; exact Ar) (hin _) (hat _) (own_hn _)) hZ (hw _ (List.mem_of_getElem? (i := 3) rfl)) (hw _ (List.mem_of_getElem? (i := 2) rfl)) (by decide) (by decide)) (g := (mkF m 98 #[.val (.int p1), .val (.int p2), .val (.int (p1 &&& (15 : Int32))), .val (.int (own_dg ((p1 &&& (15 : Int32)) &&& (15 : Int32)))), .val (.int (1 : Int32)), .val (.int (own_dg ((p1 &&& (15 : Int32)) &&& (15 : Int32)))), .val (.int (1 : Int32)), .val (.int ((p2 &&& (65535 : Int32)).toUInt32.toUInt16.toUInt32.toInt32)), .val (.int (own_f2 ((p2 &&& (65535 : Int32)).toUInt32.toUInt16.toUInt32.toInt32))), .unset, .unset] [(.int (own_f2 ((p2 &&& (65535 : Int32)).toUInt32.toUInt16.toUInt32.toInt32)))])) rfl (by rw [hml]; rfl) (argsL := [(.int (own_f2 ((p2 &&& (65535 : Int32)).toUInt32.toUInt16.toUInt32.toInt32)))]) (rest := []) (lenOf pd_0_0 rfl) rfl (by show 2 * 0 + _ ≤ _; exact Nat.le_of_eq rfl) (hb hby at_98) (fun _ _ => ⟨rfl, rfl, (by decide : 0 + 0 ≤ _), (by decide : 0 + 0 ≤ _)⟩)
  dsimp only [Pt.U, Pt.locs, Pt.cells, Pt.slots] at X7 l7 y7 z7 st7 hQ7
  subst l7 y7 z7
  obtain ⟨rfl, N7q, e7q⟩ := hQ7
  have N7 := Fr.app N6 N7q
  have K7q : Keep T6.heap T7.heap [] := own_keep e7q
  have KH7 : Keep h0 T7.heap [] := KH6.trans K7q own_ws0
  have eh7 : T7.heap = h0 := by rw [e7q]; exact eh6
  obtain ⟨fs, hr, hrun, hended, hW, hsame⟩ := X7.leave (v := some (.int (1 : Int32))) (fun h => by rw [Bd.returns] at h; cases h) (BodyLoose.notSynchronized Bd)
  refine ⟨_, _, pre0 _ ?_, hrun, hended, _, _, rfl, ?_, ⟨_, rfl⟩, hW, hsame.mono (by decide) (by decide)⟩
  -- 4. STEPS
  · show Steps p.tables e below (s₁.setTop (mkF m 0 #[.val (.int p1), .val (.int p2), .unset, .unset, .unset, .unset, .unset, .unset, .unset, .unset, .unset] [])) _
    refine XS.iloadN X0.here hx rfl (hb hby at_0) rfl ?_
    show Steps p.tables e below (s₁.setTop (mkF m 1 #[.val (.int p1), .val (.int p2), .unset, .unset, .unset, .unset, .unset, .unset, .unset, .unset, .unset] [(.int p1)])) _
    refine XS.bipush X0.here hx rfl (hb hby at_1) ?_
    show Steps p.tables e below (s₁.setTop (mkF m 3 #[.val (.int p1), .val (.int p2), .unset, .unset, .unset, .unset, .unset, .unset, .unset, .unset, .unset] [(.int (15 : Int32)), (.int p1)])) _
    refine XS.iand X0.here hx rfl (hb hby at_3) rfl ?_
    show Steps p.tables e below (s₁.setTop (mkF m 4 #[.val (.int p1), .val (.int p2), .unset, .unset, .unset, .unset, .unset, .unset, .unset, .unset, .unset] [(.int (p1 &&& (15 : Int32)))])) _
    refine XS.istoreN X0.here hx rfl (hb hby at_4) rfl (l' := #[.val (.int p1), .val (.int p2), .val (.int (p1 &&& (15 : Int32))), .unset, .unset, .unset, .unset, .unset, .unset, .unset, .unset]) rfl ?_
    show Steps p.tables e below (s₁.setTop (mkF m 5 #[.val (.int p1), .val (.int p2), .val (.int (p1 &&& (15 : Int32))), .unset, .unset, .unset, .unset, .unset, .unset, .unset, .unset] [])) _
    refine XS.iloadN X0.here hx rfl (hb hby at_5) rfl ?_
    show Steps p.tables e below (s₁.setTop (mkF m 6 #[.val (.int p1), .val (.int p2), .val (.int (p1 &&& (15 : Int32))), .unset, .unset, .unset, .unset, .unset, .unset, .unset, .unset] [(.int (p1 &&& (15 : Int32)))])) _
    refine st3 _ ?_
    show Steps p.tables e below (T3.setTop (mkF m 9 #[.val (.int p1), .val (.int p2), .val (.int (p1 &&& (15 : Int32))), .unset, .unset, .unset, .unset, .unset, .unset, .unset, .unset] [(.int (own_dg ((p1 &&& (15 : Int32)) &&& (15 : Int32))))])) _
    refine XS.istoreN X3.here hx rfl (hb hby at_9) rfl (l' := #[.val (.int p1), .val (.int p2), .val (.int (p1 &&& (15 : Int32))), .val (.int (own_dg ((p1 &&& (15 : Int32)) &&& (15 : Int32)))), .unset, .unset, .unset, .unset, .unset, .unset, .unset]) rfl ?_
    show Steps p.tables e below (T3.setTop (mkF m 10 #[.val (.int p1), .val (.int p2), .val (.int (p1 &&& (15 : Int32))), .val (.int (own_dg ((p1 &&& (15 : Int32)) &&& (15 : Int32)))), .unset, .unset, .unset, .unset, .unset, .unset, .unset] [])) _
    refine XS.iloadN X3.here hx rfl (hb hby at_10) rfl ?_
    show Steps p.tables e below (T3.setTop (mkF m 11 #[.val (.int p1), .val (.int p2), .val (.int (p1 &&& (15 : Int32))), .val (.int (own_dg ((p1 &&& (15 : Int32)) &&& (15 : Int32)))), .unset, .unset, .unset, .unset, .unset, .unset, .unset] [(.int (own_dg ((p1 &&& (15 : Int32)) &&& (15 : Int32))))])) _
    refine st4 _ ?_
    show Steps p.tables e below (T4.setTop (mkF m 14 #[.val (.int p1), .val (.int p2), .val (.int (p1 &&& (15 : Int32))), .val (.int (own_dg ((p1 &&& (15 : Int32)) &&& (15 : Int32)))), .unset, .unset, .unset, .unset, .unset, .unset, .unset] [(.int (own_f2 (own_dg ((p1 &&& (15 : Int32)) &&& (15 : Int32)))))])) _
    refine XS.iloadN X4.here hx rfl (hb hby at_14) rfl ?_
    show Steps p.tables e below (T4.setTop (mkF m 15 #[.val (.int p1), .val (.int p2), .val (.int (p1 &&& (15 : Int32))), .val (.int (own_dg ((p1 &&& (15 : Int32)) &&& (15 : Int32)))), .unset, .unset, .unset, .unset, .unset, .unset, .unset] [(.int (p1 &&& (15 : Int32))), (.int (own_f2 (own_dg ((p1 &&& (15 : Int32)) &&& (15 : Int32)))))])) _
    refine XS.icmpNo X4.here hx rfl (hb hby at_15) rfl (teq ht15).2 ?_
    show Steps p.tables e below (T4.setTop (mkF m 18 #[.val (.int p1), .val (.int p2), .val (.int (p1 &&& (15 : Int32))), .val (.int (own_dg ((p1 &&& (15 : Int32)) &&& (15 : Int32)))), .unset, .unset, .unset, .unset, .unset, .unset, .unset] [])) _
    refine XS.iconst X4.here hx rfl (hb hby at_18) ?_
    show Steps p.tables e below (T4.setTop (mkF m 19 #[.val (.int p1), .val (.int p2), .val (.int (p1 &&& (15 : Int32))), .val (.int (own_dg ((p1 &&& (15 : Int32)) &&& (15 : Int32)))), .unset, .unset, .unset, .unset, .unset, .unset, .unset] [(.int (1 : Int32))])) _
    refine XS.goto X4.here hx rfl (pc0 := 19) (pc' := 23) rfl (hb hby at_19) (by decide) (by decide) ?_
    show Steps p.tables e below (T4.setTop (mkF m 23 #[.val (.int p1), .val (.int p2), .val (.int (p1 &&& (15 : Int32))), .val (.int (own_dg ((p1 &&& (15 : Int32)) &&& (15 : Int32)))), .unset, .unset, .unset, .unset, .unset, .unset, .unset] [(.int (1 : Int32))])) _
    refine XS.istore X4.here hx rfl (hb hby at_23) rfl (l' := #[.val (.int p1), .val (.int p2), .val (.int (p1 &&& (15 : Int32))), .val (.int (own_dg ((p1 &&& (15 : Int32)) &&& (15 : Int32)))), .val (.int (1 : Int32)), .unset, .unset, .unset, .unset, .unset, .unset]) rfl ?_
    show Steps p.tables e below (T4.setTop (mkF m 25 #[.val (.int p1), .val (.int p2), .val (.int (p1 &&& (15 : Int32))), .val (.int (own_dg ((p1 &&& (15 : Int32)) &&& (15 : Int32)))), .val (.int (1 : Int32)), .unset, .unset, .unset, .unset, .unset, .unset] [])) _
    refine XS.iloadN X4.here hx rfl (hb hby at_25) rfl ?_
    show Steps p.tables e below (T4.setTop (mkF m 26 #[.val (.int p1), .val (.int p2), .val (.int (p1 &&& (15 : Int32))), .val (.int (own_dg ((p1 &&& (15 : Int32)) &&& (15 : Int32)))), .val (.int (1 : Int32)), .unset, .unset, .unset, .unset, .unset, .unset] [(.int (p1 &&& (15 : Int32)))])) _
    refine XS.bipush X4.here hx rfl (hb hby at_26) ?_
    show Steps p.tables e below (T4.setTop (mkF m 28 #[.val (.int p1), .val (.int p2), .val (.int (p1 &&& (15 : Int32))), .val (.int (own_dg ((p1 &&& (15 : Int32)) &&& (15 : Int32)))), .val (.int (1 : Int32)), .unset, .unset, .unset, .unset, .unset, .unset] [(.int (10 : Int32)), (.int (p1 &&& (15 : Int32)))])) _
    refine XS.icmpYes X4.here hx rfl (pc0 := 28) (pc' := 39) rfl (hb hby at_28) rfl (tlt hc28).1 (by decide) (by decide) ?_
    show Steps p.tables e below (T4.setTop (mkF m 39 #[.val (.int p1), .val (.int p2), .val (.int (p1 &&& (15 : Int32))), .val (.int (own_dg ((p1 &&& (15 : Int32)) &&& (15 : Int32)))), .val (.int (1 : Int32)), .unset, .unset, .unset, .unset, .unset, .unset] [])) _
    refine XS.iloadN X4.here hx rfl (hb hby at_39) rfl ?_
    show Steps p.tables e below (T4.setTop (mkF m 40 #[.val (.int p1), .val (.int p2), .val (.int (p1 &&& (15 : Int32))), .val (.int (own_dg ((p1 &&& (15 : Int32)) &&& (15 : Int32)))), .val (.int (1 : Int32)), .unset, .unset, .unset, .unset, .unset, .unset] [(.int (own_dg ((p1 &&& (15 : Int32)) &&& (15 : Int32))))])) _
    refine XS.istore X4.here hx rfl (hb hby at_40) rfl (l' := #[.val (.int p1), .val (.int p2), .val (.int (p1 &&& (15 : Int32))), .val (.int (own_dg ((p1 &&& (15 : Int32)) &&& (15 : Int32)))), .val (.int (1 : Int32)), .val (.int (own_dg ((p1 &&& (15 : Int32)) &&& (15 : Int32)))), .unset, .unset, .unset, .unset, .unset]) rfl ?_
    show Steps p.tables e below (T4.setTop (mkF m 42 #[.val (.int p1), .val (.int p2), .val (.int (p1 &&& (15 : Int32))), .val (.int (own_dg ((p1 &&& (15 : Int32)) &&& (15 : Int32)))), .val (.int (1 : Int32)), .val (.int (own_dg ((p1 &&& (15 : Int32)) &&& (15 : Int32)))), .unset, .unset, .unset, .unset, .unset] [])) _
    refine XS.iload X4.here hx rfl (hb hby at_42) rfl ?_
    show Steps p.tables e below (T4.setTop (mkF m 44 #[.val (.int p1), .val (.int p2), .val (.int (p1 &&& (15 : Int32))), .val (.int (own_dg ((p1 &&& (15 : Int32)) &&& (15 : Int32)))), .val (.int (1 : Int32)), .val (.int (own_dg ((p1 &&& (15 : Int32)) &&& (15 : Int32)))), .unset, .unset, .unset, .unset, .unset] [(.int (own_dg ((p1 &&& (15 : Int32)) &&& (15 : Int32))))])) _
    refine st5 _ ?_
    show Steps p.tables e below (T5.setTop (mkF m 47 #[.val (.int p1), .val (.int p2), .val (.int (p1 &&& (15 : Int32))), .val (.int (own_dg ((p1 &&& (15 : Int32)) &&& (15 : Int32)))), .val (.int (1 : Int32)), .val (.int (own_dg ((p1 &&& (15 : Int32)) &&& (15 : Int32)))), .unset, .unset, .unset, .unset, .unset] [(.int (own_f2 (own_dg ((p1 &&& (15 : Int32)) &&& (15 : Int32)))))])) _
    refine XS.iloadN X5.here hx rfl (hb hby at_47) rfl ?_
    show Steps p.tables e below (T5.setTop (mkF m 48 #[.val (.int p1), .val (.int p2), .val (.int (p1 &&& (15 : Int32))), .val (.int (own_dg ((p1 &&& (15 : Int32)) &&& (15 : Int32)))), .val (.int (1 : Int32)), .val (.int (own_dg ((p1 &&& (15 : Int32)) &&& (15 : Int32)))), .unset, .unset, .unset, .unset, .unset] [(.int (p1 &&& (15 : Int32))), (.int (own_f2 (own_dg ((p1 &&& (15 : Int32)) &&& (15 : Int32)))))])) _
    refine XS.icmpNo X5.here hx rfl (hb hby at_48) rfl (teq ht48).2 ?_
    show Steps p.tables e below (T5.setTop (mkF m 51 #[.val (.int p1), .val (.int p2), .val (.int (p1 &&& (15 : Int32))), .val (.int (own_dg ((p1 &&& (15 : Int32)) &&& (15 : Int32)))), .val (.int (1 : Int32)), .val (.int (own_dg ((p1 &&& (15 : Int32)) &&& (15 : Int32)))), .unset, .unset, .unset, .unset, .unset] [])) _
    refine XS.iconst X5.here hx rfl (hb hby at_51) ?_
    show Steps p.tables e below (T5.setTop (mkF m 52 #[.val (.int p1), .val (.int p2), .val (.int (p1 &&& (15 : Int32))), .val (.int (own_dg ((p1 &&& (15 : Int32)) &&& (15 : Int32)))), .val (.int (1 : Int32)), .val (.int (own_dg ((p1 &&& (15 : Int32)) &&& (15 : Int32)))), .unset, .unset, .unset, .unset, .unset] [(.int (1 : Int32))])) _
    refine XS.goto X5.here hx rfl (pc0 := 52) (pc' := 56) rfl (hb hby at_52) (by decide) (by decide) ?_
    show Steps p.tables e below (T5.setTop (mkF m 56 #[.val (.int p1), .val (.int p2), .val (.int (p1 &&& (15 : Int32))), .val (.int (own_dg ((p1 &&& (15 : Int32)) &&& (15 : Int32)))), .val (.int (1 : Int32)), .val (.int (own_dg ((p1 &&& (15 : Int32)) &&& (15 : Int32)))), .unset, .unset, .unset, .unset, .unset] [(.int (1 : Int32))])) _
    refine XS.istore X5.here hx rfl (hb hby at_56) rfl (l' := #[.val (.int p1), .val (.int p2), .val (.int (p1 &&& (15 : Int32))), .val (.int (own_dg ((p1 &&& (15 : Int32)) &&& (15 : Int32)))), .val (.int (1 : Int32)), .val (.int (own_dg ((p1 &&& (15 : Int32)) &&& (15 : Int32)))), .val (.int (1 : Int32)), .unset, .unset, .unset, .unset]) rfl ?_
    show Steps p.tables e below (T5.setTop (mkF m 58 #[.val (.int p1), .val (.int p2), .val (.int (p1 &&& (15 : Int32))), .val (.int (own_dg ((p1 &&& (15 : Int32)) &&& (15 : Int32)))), .val (.int (1 : Int32)), .val (.int (own_dg ((p1 &&& (15 : Int32)) &&& (15 : Int32)))), .val (.int (1 : Int32)), .unset, .unset, .unset, .unset] [])) _
    refine XS.iloadN X5.here hx rfl (hb hby at_58) rfl ?_
    show Steps p.tables e below (T5.setTop (mkF m 59 #[.val (.int p1), .val (.int p2), .val (.int (p1 &&& (15 : Int32))), .val (.int (own_dg ((p1 &&& (15 : Int32)) &&& (15 : Int32)))), .val (.int (1 : Int32)), .val (.int (own_dg ((p1 &&& (15 : Int32)) &&& (15 : Int32)))), .val (.int (1 : Int32)), .unset, .unset, .unset, .unset] [(.int p2)])) _
    refine X5.ldcInt hx hown (mvT hZ (hw _ (List.mem_of_getElem? (i := 9) rfl))) (g := (mkF m 59 #[.val (.int p1), .val (.int p2), .val (.int (p1 &&& (15 : Int32))), .val (.int (own_dg ((p1 &&& (15 : Int32)) &&& (15 : Int32)))), .val (.int (1 : Int32)), .val (.int (own_dg ((p1 &&& (15 : Int32)) &&& (15 : Int32)))), .val (.int (1 : Int32)), .unset, .unset, .unset, .unset] [(.int p2)])) rfl (hb hby at_59) _ ?_
    show Steps p.tables e below (T5.setTop (mkF m 61 #[.val (.int p1), .val (.int p2), .val (.int (p1 &&& (15 : Int32))), .val (.int (own_dg ((p1 &&& (15 : Int32)) &&& (15 : Int32)))), .val (.int (1 : Int32)), .val (.int (own_dg ((p1 &&& (15 : Int32)) &&& (15 : Int32)))), .val (.int (1 : Int32)), .unset, .unset, .unset, .unset] [(.int (65535 : Int32)), (.int p2)])) _
    refine XS.iand X5.here hx rfl (hb hby at_61) rfl ?_
    show Steps p.tables e below (T5.setTop (mkF m 62 #[.val (.int p1), .val (.int p2), .val (.int (p1 &&& (15 : Int32))), .val (.int (own_dg ((p1 &&& (15 : Int32)) &&& (15 : Int32)))), .val (.int (1 : Int32)), .val (.int (own_dg ((p1 &&& (15 : Int32)) &&& (15 : Int32)))), .val (.int (1 : Int32)), .unset, .unset, .unset, .unset] [(.int (p2 &&& (65535 : Int32)))])) _
    refine XS.i2c X5.here hx rfl (hb hby at_62) rfl ?_
    show Steps p.tables e below (T5.setTop (mkF m 63 #[.val (.int p1), .val (.int p2), .val (.int (p1 &&& (15 : Int32))), .val (.int (own_dg ((p1 &&& (15 : Int32)) &&& (15 : Int32)))), .val (.int (1 : Int32)), .val (.int (own_dg ((p1 &&& (15 : Int32)) &&& (15 : Int32)))), .val (.int (1 : Int32)), .unset, .unset, .unset, .unset] [(.int ((p2 &&& (65535 : Int32)).toUInt32.toUInt16.toUInt32.toInt32))])) _
    refine XS.istore X5.here hx rfl (hb hby at_63) rfl (l' := #[.val (.int p1), .val (.int p2), .val (.int (p1 &&& (15 : Int32))), .val (.int (own_dg ((p1 &&& (15 : Int32)) &&& (15 : Int32)))), .val (.int (1 : Int32)), .val (.int (own_dg ((p1 &&& (15 : Int32)) &&& (15 : Int32)))), .val (.int (1 : Int32)), .val (.int ((p2 &&& (65535 : Int32)).toUInt32.toUInt16.toUInt32.toInt32)), .unset, .unset, .unset]) rfl ?_
    show Steps p.tables e below (T5.setTop (mkF m 65 #[.val (.int p1), .val (.int p2), .val (.int (p1 &&& (15 : Int32))), .val (.int (own_dg ((p1 &&& (15 : Int32)) &&& (15 : Int32)))), .val (.int (1 : Int32)), .val (.int (own_dg ((p1 &&& (15 : Int32)) &&& (15 : Int32)))), .val (.int (1 : Int32)), .val (.int ((p2 &&& (65535 : Int32)).toUInt32.toUInt16.toUInt32.toInt32)), .unset, .unset, .unset] [])) _
    refine XS.iload X5.here hx rfl (hb hby at_65) rfl ?_
    show Steps p.tables e below (T5.setTop (mkF m 67 #[.val (.int p1), .val (.int p2), .val (.int (p1 &&& (15 : Int32))), .val (.int (own_dg ((p1 &&& (15 : Int32)) &&& (15 : Int32)))), .val (.int (1 : Int32)), .val (.int (own_dg ((p1 &&& (15 : Int32)) &&& (15 : Int32)))), .val (.int (1 : Int32)), .val (.int ((p2 &&& (65535 : Int32)).toUInt32.toUInt16.toUInt32.toInt32)), .unset, .unset, .unset] [(.int ((p2 &&& (65535 : Int32)).toUInt32.toUInt16.toUInt32.toInt32))])) _
    refine st6 _ ?_
    show Steps p.tables e below (T6.setTop (mkF m 70 #[.val (.int p1), .val (.int p2), .val (.int (p1 &&& (15 : Int32))), .val (.int (own_dg ((p1 &&& (15 : Int32)) &&& (15 : Int32)))), .val (.int (1 : Int32)), .val (.int (own_dg ((p1 &&& (15 : Int32)) &&& (15 : Int32)))), .val (.int (1 : Int32)), .val (.int ((p2 &&& (65535 : Int32)).toUInt32.toUInt16.toUInt32.toInt32)), .unset, .unset, .unset] [(.int (own_f2 ((p2 &&& (65535 : Int32)).toUInt32.toUInt16.toUInt32.toInt32)))])) _
    refine XS.istore X6.here hx rfl (hb hby at_70) rfl (l' := #[.val (.int p1), .val (.int p2), .val (.int (p1 &&& (15 : Int32))), .val (.int (own_dg ((p1 &&& (15 : Int32)) &&& (15 : Int32)))), .val (.int (1 : Int32)), .val (.int (own_dg ((p1 &&& (15 : Int32)) &&& (15 : Int32)))), .val (.int (1 : Int32)), .val (.int ((p2 &&& (65535 : Int32)).toUInt32.toUInt16.toUInt32.toInt32)), .val (.int (own_f2 ((p2 &&& (65535 : Int32)).toUInt32.toUInt16.toUInt32.toInt32))), .unset, .unset]) rfl ?_
    show Steps p.tables e below (T6.setTop (mkF m 72 #[.val (.int p1), .val (.int p2), .val (.int (p1 &&& (15 : Int32))), .val (.int (own_dg ((p1 &&& (15 : Int32)) &&& (15 : Int32)))), .val (.int (1 : Int32)), .val (.int (own_dg ((p1 &&& (15 : Int32)) &&& (15 : Int32)))), .val (.int (1 : Int32)), .val (.int ((p2 &&& (65535 : Int32)).toUInt32.toUInt16.toUInt32.toInt32)), .val (.int (own_f2 ((p2 &&& (65535 : Int32)).toUInt32.toUInt16.toUInt32.toInt32))), .unset, .unset] [])) _
    refine XS.iload X6.here hx rfl (hb hby at_72) rfl ?_
    show Steps p.tables e below (T6.setTop (mkF m 74 #[.val (.int p1), .val (.int p2), .val (.int (p1 &&& (15 : Int32))), .val (.int (own_dg ((p1 &&& (15 : Int32)) &&& (15 : Int32)))), .val (.int (1 : Int32)), .val (.int (own_dg ((p1 &&& (15 : Int32)) &&& (15 : Int32)))), .val (.int (1 : Int32)), .val (.int ((p2 &&& (65535 : Int32)).toUInt32.toUInt16.toUInt32.toInt32)), .val (.int (own_f2 ((p2 &&& (65535 : Int32)).toUInt32.toUInt16.toUInt32.toInt32))), .unset, .unset] [(.int (own_f2 ((p2 &&& (65535 : Int32)).toUInt32.toUInt16.toUInt32.toInt32)))])) _
    refine XS.iconst X6.here hx rfl (hb hby at_74) ?_
    show Steps p.tables e below (T6.setTop (mkF m 75 #[.val (.int p1), .val (.int p2), .val (.int (p1 &&& (15 : Int32))), .val (.int (own_dg ((p1 &&& (15 : Int32)) &&& (15 : Int32)))), .val (.int (1 : Int32)), .val (.int (own_dg ((p1 &&& (15 : Int32)) &&& (15 : Int32)))), .val (.int (1 : Int32)), .val (.int ((p2 &&& (65535 : Int32)).toUInt32.toUInt16.toUInt32.toInt32)), .val (.int (own_f2 ((p2 &&& (65535 : Int32)).toUInt32.toUInt16.toUInt32.toInt32))), .unset, .unset] [(.int (-1 : Int32)), (.int (own_f2 ((p2 &&& (65535 : Int32)).toUInt32.toUInt16.toUInt32.toInt32)))])) _
    refine XS.icmpYes X6.here hx rfl (pc0 := 75) (pc' := 84) rfl (hb hby at_75) rfl (feq ht75).2 (by decide) (by decide) ?_
    show Steps p.tables e below (T6.setTop (mkF m 84 #[.val (.int p1), .val (.int p2), .val (.int (p1 &&& (15 : Int32))), .val (.int (own_dg ((p1 &&& (15 : Int32)) &&& (15 : Int32)))), .val (.int (1 : Int32)), .val (.int (own_dg ((p1 &&& (15 : Int32)) &&& (15 : Int32)))), .val (.int (1 : Int32)), .val (.int ((p2 &&& (65535 : Int32)).toUInt32.toUInt16.toUInt32.toInt32)), .val (.int (own_f2 ((p2 &&& (65535 : Int32)).toUInt32.toUInt16.toUInt32.toInt32))), .unset, .unset] [])) _
    refine XS.iload X6.here hx rfl (hb hby at_84) rfl ?_
    show Steps p.tables e below (T6.setTop (mkF m 86 #[.val (.int p1), .val (.int p2), .val (.int (p1 &&& (15 : Int32))), .val (.int (own_dg ((p1 &&& (15 : Int32)) &&& (15 : Int32)))), .val (.int (1 : Int32)), .val (.int (own_dg ((p1 &&& (15 : Int32)) &&& (15 : Int32)))), .val (.int (1 : Int32)), .val (.int ((p2 &&& (65535 : Int32)).toUInt32.toUInt16.toUInt32.toInt32)), .val (.int (own_f2 ((p2 &&& (65535 : Int32)).toUInt32.toUInt16.toUInt32.toInt32))), .unset, .unset] [(.int (own_f2 ((p2 &&& (65535 : Int32)).toUInt32.toUInt16.toUInt32.toInt32)))])) _
    refine XS.ifNo X6.here hx rfl (hb hby at_86) rfl ((if0 _ _).trans (flt ht86).1) ?_
    show Steps p.tables e below (T6.setTop (mkF m 89 #[.val (.int p1), .val (.int p2), .val (.int (p1 &&& (15 : Int32))), .val (.int (own_dg ((p1 &&& (15 : Int32)) &&& (15 : Int32)))), .val (.int (1 : Int32)), .val (.int (own_dg ((p1 &&& (15 : Int32)) &&& (15 : Int32)))), .val (.int (1 : Int32)), .val (.int ((p2 &&& (65535 : Int32)).toUInt32.toUInt16.toUInt32.toInt32)), .val (.int (own_f2 ((p2 &&& (65535 : Int32)).toUInt32.toUInt16.toUInt32.toInt32))), .unset, .unset] [])) _
    refine XS.iload X6.here hx rfl (hb hby at_89) rfl ?_
    show Steps p.tables e below (T6.setTop (mkF m 91 #[.val (.int p1), .val (.int p2), .val (.int (p1 &&& (15 : Int32))), .val (.int (own_dg ((p1 &&& (15 : Int32)) &&& (15 : Int32)))), .val (.int (1 : Int32)), .val (.int (own_dg ((p1 &&& (15 : Int32)) &&& (15 : Int32)))), .val (.int (1 : Int32)), .val (.int ((p2 &&& (65535 : Int32)).toUInt32.toUInt16.toUInt32.toInt32)), .val (.int (own_f2 ((p2 &&& (65535 : Int32)).toUInt32.toUInt16.toUInt32.toInt32))), .unset, .unset] [(.int (own_f2 ((p2 &&& (65535 : Int32)).toUInt32.toUInt16.toUInt32.toInt32)))])) _
    refine XS.bipush X6.here hx rfl (hb hby at_91) ?_
    show Steps p.tables e below (T6.setTop (mkF m 93 #[.val (.int p1), .val (.int p2), .val (.int (p1 &&& (15 : Int32))), .val (.int (own_dg ((p1 &&& (15 : Int32)) &&& (15 : Int32)))), .val (.int (1 : Int32)), .val (.int (own_dg ((p1 &&& (15 : Int32)) &&& (15 : Int32)))), .val (.int (1 : Int32)), .val (.int ((p2 &&& (65535 : Int32)).toUInt32.toUInt16.toUInt32.toInt32)), .val (.int (own_f2 ((p2 &&& (65535 : Int32)).toUInt32.toUInt16.toUInt32.toInt32))), .unset, .unset] [(.int (15 : Int32)), (.int (own_f2 ((p2 &&& (65535 : Int32)).toUInt32.toUInt16.toUInt32.toInt32)))])) _
    refine XS.icmpNo X6.here hx rfl (hb hby at_93) rfl (flt ht93).2.2.1 ?_
    show Steps p.tables e below (T6.setTop (mkF m 96 #[.val (.int p1), .val (.int p2), .val (.int (p1 &&& (15 : Int32))), .val (.int (own_dg ((p1 &&& (15 : Int32)) &&& (15 : Int32)))), .val (.int (1 : Int32)), .val (.int (own_dg ((p1 &&& (15 : Int32)) &&& (15 : Int32)))), .val (.int (1 : Int32)), .val (.int ((p2 &&& (65535 : Int32)).toUInt32.toUInt16.toUInt32.toInt32)), .val (.int (own_f2 ((p2 &&& (65535 : Int32)).toUInt32.toUInt16.toUInt32.toInt32))), .unset, .unset] [])) _
    refine XS.iload X6.here hx rfl (hb hby at_96) rfl ?_
    show Steps p.tables e below (T6.setTop (mkF m 98 #[.val (.int p1), .val (.int p2), .val (.int (p1 &&& (15 : Int32))), .val (.int (own_dg ((p1 &&& (15 : Int32)) &&& (15 : Int32)))), .val (.int (1 : Int32)), .val (.int (own_dg ((p1 &&& (15 : Int32)) &&& (15 : Int32)))), .val (.int (1 : Int32)), .val (.int ((p2 &&& (65535 : Int32)).toUInt32.toUInt16.toUInt32.toInt32)), .val (.int (own_f2 ((p2 &&& (65535 : Int32)).toUInt32.toUInt16.toUInt32.toInt32))), .unset, .unset] [(.int (own_f2 ((p2 &&& (65535 : Int32)).toUInt32.toUInt16.toUInt32.toInt32)))])) _
    refine st7 _ ?_
    show Steps p.tables e below (T7.setTop (mkF m 101 #[.val (.int p1), .val (.int p2), .val (.int (p1 &&& (15 : Int32))), .val (.int (own_dg ((p1 &&& (15 : Int32)) &&& (15 : Int32)))), .val (.int (1 : Int32)), .val (.int (own_dg ((p1 &&& (15 : Int32)) &&& (15 : Int32)))), .val (.int (1 : Int32)), .val (.int ((p2 &&& (65535 : Int32)).toUInt32.toUInt16.toUInt32.toInt32)), .val (.int (own_f2 ((p2 &&& (65535 : Int32)).toUInt32.toUInt16.toUInt32.toInt32))), .unset, .unset] [(.int (own_dg ((own_f2 ((p2 &&& (65535 : Int32)).toUInt32.toUInt16.toUInt32.toInt32)) &&& (15 : Int32))))])) _
    refine XS.istore X7.here hx rfl (hb hby at_101) rfl (l' := #[.val (.int p1), .val (.int p2), .val (.int (p1 &&& (15 : Int32))), .val (.int (own_dg ((p1 &&& (15 : Int32)) &&& (15 : Int32)))), .val (.int (1 : Int32)), .val (.int (own_dg ((p1 &&& (15 : Int32)) &&& (15 : Int32)))), .val (.int (1 : Int32)), .val (.int ((p2 &&& (65535 : Int32)).toUInt32.toUInt16.toUInt32.toInt32)), .val (.int (own_f2 ((p2 &&& (65535 : Int32)).toUInt32.toUInt16.toUInt32.toInt32))), .unset, .val (.int (own_dg ((own_f2 ((p2 &&& (65535 : Int32)).toUInt32.toUInt16.toUInt32.toInt32)) &&& (15 : Int32))))]) rfl ?_
    show Steps p.tables e below (T7.setTop (mkF m 103 #[.val (.int p1), .val (.int p2), .val (.int (p1 &&& (15 : Int32))), .val (.int (own_dg ((p1 &&& (15 : Int32)) &&& (15 : Int32)))), .val (.int (1 : Int32)), .val (.int (own_dg ((p1 &&& (15 : Int32)) &&& (15 : Int32)))), .val (.int (1 : Int32)), .val (.int ((p2 &&& (65535 : Int32)).toUInt32.toUInt16.toUInt32.toInt32)), .val (.int (own_f2 ((p2 &&& (65535 : Int32)).toUInt32.toUInt16.toUInt32.toInt32))), .unset, .val (.int (own_dg ((own_f2 ((p2 &&& (65535 : Int32)).toUInt32.toUInt16.toUInt32.toInt32)) &&& (15 : Int32))))] [])) _
    refine XS.iload X7.here hx rfl (hb hby at_103) rfl ?_
    show Steps p.tables e below (T7.setTop (mkF m 105 #[.val (.int p1), .val (.int p2), .val (.int (p1 &&& (15 : Int32))), .val (.int (own_dg ((p1 &&& (15 : Int32)) &&& (15 : Int32)))), .val (.int (1 : Int32)), .val (.int (own_dg ((p1 &&& (15 : Int32)) &&& (15 : Int32)))), .val (.int (1 : Int32)), .val (.int ((p2 &&& (65535 : Int32)).toUInt32.toUInt16.toUInt32.toInt32)), .val (.int (own_f2 ((p2 &&& (65535 : Int32)).toUInt32.toUInt16.toUInt32.toInt32))), .unset, .val (.int (own_dg ((own_f2 ((p2 &&& (65535 : Int32)).toUInt32.toUInt16.toUInt32.toInt32)) &&& (15 : Int32))))] [(.int (own_dg ((own_f2 ((p2 &&& (65535 : Int32)).toUInt32.toUInt16.toUInt32.toInt32)) &&& (15 : Int32))))])) _
    refine XS.iload X7.here hx rfl (hb hby at_105) rfl ?_
    show Steps p.tables e below (T7.setTop (mkF m 107 #[.val (.int p1), .val (.int p2), .val (.int (p1 &&& (15 : Int32))), .val (.int (own_dg ((p1 &&& (15 : Int32)) &&& (15 : Int32)))), .val (.int (1 : Int32)), .val (.int (own_dg ((p1 &&& (15 : Int32)) &&& (15 : Int32)))), .val (.int (1 : Int32)), .val (.int ((p2 &&& (65535 : Int32)).toUInt32.toUInt16.toUInt32.toInt32)), .val (.int (own_f2 ((p2 &&& (65535 : Int32)).toUInt32.toUInt16.toUInt32.toInt32))), .unset, .val (.int (own_dg ((own_f2 ((p2 &&& (65535 : Int32)).toUInt32.toUInt16.toUInt32.toInt32)) &&& (15 : Int32))))] [(.int ((p2 &&& (65535 : Int32)).toUInt32.toUInt16.toUInt32.toInt32)), (.int (own_dg ((own_f2 ((p2 &&& (65535 : Int32)).toUInt32.toUInt16.toUInt32.toInt32)) &&& (15 : Int32))))])) _
    refine XS.icmpNo X7.here hx rfl (hb hby at_107) rfl (feq ht107).1 ?_
    show Steps p.tables e below (T7.setTop (mkF m 110 #[.val (.int p1), .val (.int p2), .val (.int (p1 &&& (15 : Int32))), .val (.int (own_dg ((p1 &&& (15 : Int32)) &&& (15 : Int32)))), .val (.int (1 : Int32)), .val (.int (own_dg ((p1 &&& (15 : Int32)) &&& (15 : Int32)))), .val (.int (1 : Int32)), .val (.int ((p2 &&& (65535 : Int32)).toUInt32.toUInt16.toUInt32.toInt32)), .val (.int (own_f2 ((p2 &&& (65535 : Int32)).toUInt32.toUInt16.toUInt32.toInt32))), .unset, .val (.int (own_dg ((own_f2 ((p2 &&& (65535 : Int32)).toUInt32.toUInt16.toUInt32.toInt32)) &&& (15 : Int32))))] [])) _
    refine XS.iload X7.here hx rfl (hb hby at_110) rfl ?_
    show Steps p.tables e below (T7.setTop (mkF m 112 #[.val (.int p1), .val (.int p2), .val (.int (p1 &&& (15 : Int32))), .val (.int (own_dg ((p1 &&& (15 : Int32)) &&& (15 : Int32)))), .val (.int (1 : Int32)), .val (.int (own_dg ((p1 &&& (15 : Int32)) &&& (15 : Int32)))), .val (.int (1 : Int32)), .val (.int ((p2 &&& (65535 : Int32)).toUInt32.toUInt16.toUInt32.toInt32)), .val (.int (own_f2 ((p2 &&& (65535 : Int32)).toUInt32.toUInt16.toUInt32.toInt32))), .unset, .val (.int (own_dg ((own_f2 ((p2 &&& (65535 : Int32)).toUInt32.toUInt16.toUInt32.toInt32)) &&& (15 : Int32))))] [(.int (own_f2 ((p2 &&& (65535 : Int32)).toUInt32.toUInt16.toUInt32.toInt32)))])) _
    refine XS.bipush X7.here hx rfl (hb hby at_112) ?_
    show Steps p.tables e below (T7.setTop (mkF m 114 #[.val (.int p1), .val (.int p2), .val (.int (p1 &&& (15 : Int32))), .val (.int (own_dg ((p1 &&& (15 : Int32)) &&& (15 : Int32)))), .val (.int (1 : Int32)), .val (.int (own_dg ((p1 &&& (15 : Int32)) &&& (15 : Int32)))), .val (.int (1 : Int32)), .val (.int ((p2 &&& (65535 : Int32)).toUInt32.toUInt16.toUInt32.toInt32)), .val (.int (own_f2 ((p2 &&& (65535 : Int32)).toUInt32.toUInt16.toUInt32.toInt32))), .unset, .val (.int (own_dg ((own_f2 ((p2 &&& (65535 : Int32)).toUInt32.toUInt16.toUInt32.toInt32)) &&& (15 : Int32))))] [(.int (10 : Int32)), (.int (own_f2 ((p2 &&& (65535 : Int32)).toUInt32.toUInt16.toUInt32.toInt32)))])) _
    refine XS.icmpNo X7.here hx rfl (hb hby at_114) rfl (flt ht114).1 ?_
    show Steps p.tables e below (T7.setTop (mkF m 117 #[.val (.int p1), .val (.int p2), .val (.int (p1 &&& (15 : Int32))), .val (.int (own_dg ((p1 &&& (15 : Int32)) &&& (15 : Int32)))), .val (.int (1 : Int32)), .val (.int (own_dg ((p1 &&& (15 : Int32)) &&& (15 : Int32)))), .val (.int (1 : Int32)), .val (.int ((p2 &&& (65535 : Int32)).toUInt32.toUInt16.toUInt32.toInt32)), .val (.int (own_f2 ((p2 &&& (65535 : Int32)).toUInt32.toUInt16.toUInt32.toInt32))), .unset, .val (.int (own_dg ((own_f2 ((p2 &&& (65535 : Int32)).toUInt32.toUInt16.toUInt32.toInt32)) &&& (15 : Int32))))] [])) _
    refine XS.iload X7.here hx rfl (hb hby at_117) rfl ?_
    show Steps p.tables e below (T7.setTop (mkF m 119 #[.val (.int p1), .val (.int p2), .val (.int (p1 &&& (15 : Int32))), .val (.int (own_dg ((p1 &&& (15 : Int32)) &&& (15 : Int32)))), .val (.int (1 : Int32)), .val (.int (own_dg ((p1 &&& (15 : Int32)) &&& (15 : Int32)))), .val (.int (1 : Int32)), .val (.int ((p2 &&& (65535 : Int32)).toUInt32.toUInt16.toUInt32.toInt32)), .val (.int (own_f2 ((p2 &&& (65535 : Int32)).toUInt32.toUInt16.toUInt32.toInt32))), .unset, .val (.int (own_dg ((own_f2 ((p2 &&& (65535 : Int32)).toUInt32.toUInt16.toUInt32.toInt32)) &&& (15 : Int32))))] [(.int (own_dg ((own_f2 ((p2 &&& (65535 : Int32)).toUInt32.toUInt16.toUInt32.toInt32)) &&& (15 : Int32))))])) _
    refine XS.bipush X7.here hx rfl (hb hby at_119) ?_
    show Steps p.tables e below (T7.setTop (mkF m 121 #[.val (.int p1), .val (.int p2), .val (.int (p1 &&& (15 : Int32))), .val (.int (own_dg ((p1 &&& (15 : Int32)) &&& (15 : Int32)))), .val (.int (1 : Int32)), .val (.int (own_dg ((p1 &&& (15 : Int32)) &&& (15 : Int32)))), .val (.int (1 : Int32)), .val (.int ((p2 &&& (65535 : Int32)).toUInt32.toUInt16.toUInt32.toInt32)), .val (.int (own_f2 ((p2 &&& (65535 : Int32)).toUInt32.toUInt16.toUInt32.toInt32))), .unset, .val (.int (own_dg ((own_f2 ((p2 &&& (65535 : Int32)).toUInt32.toUInt16.toUInt32.toInt32)) &&& (15 : Int32))))] [(.int (32 : Int32)), (.int (own_dg ((own_f2 ((p2 &&& (65535 : Int32)).toUInt32.toUInt16.toUInt32.toInt32)) &&& (15 : Int32))))])) _
    refine XS.isub X7.here hx rfl (hb hby at_121) rfl ?_
    show Steps p.tables e below (T7.setTop (mkF m 122 #[.val (.int p1), .val (.int p2), .val (.int (p1 &&& (15 : Int32))), .val (.int (own_dg ((p1 &&& (15 : Int32)) &&& (15 : Int32)))), .val (.int (1 : Int32)), .val (.int (own_dg ((p1 &&& (15 : Int32)) &&& (15 : Int32)))), .val (.int (1 : Int32)), .val (.int ((p2 &&& (65535 : Int32)).toUInt32.toUInt16.toUInt32.toInt32)), .val (.int (own_f2 ((p2 &&& (65535 : Int32)).toUInt32.toUInt16.toUInt32.toInt32))), .unset, .val (.int (own_dg ((own_f2 ((p2 &&& (65535 : Int32)).toUInt32.toUInt16.toUInt32.toInt32)) &&& (15 : Int32))))] [(.int ((own_dg ((own_f2 ((p2 &&& (65535 : Int32)).toUInt32.toUInt16.toUInt32.toInt32)) &&& (15 : Int32))) - (32 : Int32)))])) _
    refine XS.iload X7.here hx rfl (hb hby at_122) rfl ?_
    show Steps p.tables e below (T7.setTop (mkF m 124 #[.val (.int p1), .val (.int p2), .val (.int (p1 &&& (15 : Int32))), .val (.int (own_dg ((p1 &&& (15 : Int32)) &&& (15 : Int32)))), .val (.int (1 : Int32)), .val (.int (own_dg ((p1 &&& (15 : Int32)) &&& (15 : Int32)))), .val (.int (1 : Int32)), .val (.int ((p2 &&& (65535 : Int32)).toUInt32.toUInt16.toUInt32.toInt32)), .val (.int (own_f2 ((p2 &&& (65535 : Int32)).toUInt32.toUInt16.toUInt32.toInt32))), .unset, .val (.int (own_dg ((own_f2 ((p2 &&& (65535 : Int32)).toUInt32.toUInt16.toUInt32.toInt32)) &&& (15 : Int32))))] [(.int ((p2 &&& (65535 : Int32)).toUInt32.toUInt16.toUInt32.toInt32)), (.int ((own_dg ((own_f2 ((p2 &&& (65535 : Int32)).toUInt32.toUInt16.toUInt32.toInt32)) &&& (15 : Int32))) - (32 : Int32)))])) _
    refine XS.icmpNo X7.here hx rfl (hb hby at_124) rfl (teq ht124).2 ?_
    show Steps p.tables e below (T7.setTop (mkF m 127 #[.val (.int p1), .val (.int p2), .val (.int (p1 &&& (15 : Int32))), .val (.int (own_dg ((p1 &&& (15 : Int32)) &&& (15 : Int32)))), .val (.int (1 : Int32)), .val (.int (own_dg ((p1 &&& (15 : Int32)) &&& (15 : Int32)))), .val (.int (1 : Int32)), .val (.int ((p2 &&& (65535 : Int32)).toUInt32.toUInt16.toUInt32.toInt32)), .val (.int (own_f2 ((p2 &&& (65535 : Int32)).toUInt32.toUInt16.toUInt32.toInt32))), .unset, .val (.int (own_dg ((own_f2 ((p2 &&& (65535 : Int32)).toUInt32.toUInt16.toUInt32.toInt32)) &&& (15 : Int32))))] [])) _
    refine XS.iconst X7.here hx rfl (hb hby at_127) ?_
    show Steps p.tables e below (T7.setTop (mkF m 128 #[.val (.int p1), .val (.int p2), .val (.int (p1 &&& (15 : Int32))), .val (.int (own_dg ((p1 &&& (15 : Int32)) &&& (15 : Int32)))), .val (.int (1 : Int32)), .val (.int (own_dg ((p1 &&& (15 : Int32)) &&& (15 : Int32)))), .val (.int (1 : Int32)), .val (.int ((p2 &&& (65535 : Int32)).toUInt32.toUInt16.toUInt32.toInt32)), .val (.int (own_f2 ((p2 &&& (65535 : Int32)).toUInt32.toUInt16.toUInt32.toInt32))), .unset, .val (.int (own_dg ((own_f2 ((p2 &&& (65535 : Int32)).toUInt32.toUInt16.toUInt32.toInt32)) &&& (15 : Int32))))] [(.int (1 : Int32))])) _
    refine XS.goto X7.here hx rfl (pc0 := 128) (pc' := 132) rfl (hb hby at_128) (by decide) (by decide) ?_
    show Steps p.tables e below (T7.setTop (mkF m 132 #[.val (.int p1), .val (.int p2), .val (.int (p1 &&& (15 : Int32))), .val (.int (own_dg ((p1 &&& (15 : Int32)) &&& (15 : Int32)))), .val (.int (1 : Int32)), .val (.int (own_dg ((p1 &&& (15 : Int32)) &&& (15 : Int32)))), .val (.int (1 : Int32)), .val (.int ((p2 &&& (65535 : Int32)).toUInt32.toUInt16.toUInt32.toInt32)), .val (.int (own_f2 ((p2 &&& (65535 : Int32)).toUInt32.toUInt16.toUInt32.toInt32))), .unset, .val (.int (own_dg ((own_f2 ((p2 &&& (65535 : Int32)).toUInt32.toUInt16.toUInt32.toInt32)) &&& (15 : Int32))))] [(.int (1 : Int32))])) _
    refine XS.istore X7.here hx rfl (hb hby at_132) rfl (l' := #[.val (.int p1), .val (.int p2), .val (.int (p1 &&& (15 : Int32))), .val (.int (own_dg ((p1 &&& (15 : Int32)) &&& (15 : Int32)))), .val (.int (1 : Int32)), .val (.int (own_dg ((p1 &&& (15 : Int32)) &&& (15 : Int32)))), .val (.int (1 : Int32)), .val (.int ((p2 &&& (65535 : Int32)).toUInt32.toUInt16.toUInt32.toInt32)), .val (.int (own_f2 ((p2 &&& (65535 : Int32)).toUInt32.toUInt16.toUInt32.toInt32))), .val (.int (1 : Int32)), .val (.int (own_dg ((own_f2 ((p2 &&& (65535 : Int32)).toUInt32.toUInt16.toUInt32.toInt32)) &&& (15 : Int32))))]) rfl ?_
    show Steps p.tables e below (T7.setTop (mkF m 134 #[.val (.int p1), .val (.int p2), .val (.int (p1 &&& (15 : Int32))), .val (.int (own_dg ((p1 &&& (15 : Int32)) &&& (15 : Int32)))), .val (.int (1 : Int32)), .val (.int (own_dg ((p1 &&& (15 : Int32)) &&& (15 : Int32)))), .val (.int (1 : Int32)), .val (.int ((p2 &&& (65535 : Int32)).toUInt32.toUInt16.toUInt32.toInt32)), .val (.int (own_f2 ((p2 &&& (65535 : Int32)).toUInt32.toUInt16.toUInt32.toInt32))), .val (.int (1 : Int32)), .val (.int (own_dg ((own_f2 ((p2 &&& (65535 : Int32)).toUInt32.toUInt16.toUInt32.toInt32)) &&& (15 : Int32))))] [])) _
    refine XS.goto X7.here hx rfl (pc0 := 134) (pc' := 140) rfl (hb hby at_134) (by decide) (by decide) ?_
    show Steps p.tables e below (T7.setTop (mkF m 140 #[.val (.int p1), .val (.int p2), .val (.int (p1 &&& (15 : Int32))), .val (.int (own_dg ((p1 &&& (15 : Int32)) &&& (15 : Int32)))), .val (.int (1 : Int32)), .val (.int (own_dg ((p1 &&& (15 : Int32)) &&& (15 : Int32)))), .val (.int (1 : Int32)), .val (.int ((p2 &&& (65535 : Int32)).toUInt32.toUInt16.toUInt32.toInt32)), .val (.int (own_f2 ((p2 &&& (65535 : Int32)).toUInt32.toUInt16.toUInt32.toInt32))), .val (.int (1 : Int32)), .val (.int (own_dg ((own_f2 ((p2 &&& (65535 : Int32)).toUInt32.toUInt16.toUInt32.toInt32)) &&& (15 : Int32))))] [])) _
    refine XS.iload X7.here hx rfl (hb hby at_140) rfl ?_
    show Steps p.tables e below (T7.setTop (mkF m 142 #[.val (.int p1), .val (.int p2), .val (.int (p1 &&& (15 : Int32))), .val (.int (own_dg ((p1 &&& (15 : Int32)) &&& (15 : Int32)))), .val (.int (1 : Int32)), .val (.int (own_dg ((p1 &&& (15 : Int32)) &&& (15 : Int32)))), .val (.int (1 : Int32)), .val (.int ((p2 &&& (65535 : Int32)).toUInt32.toUInt16.toUInt32.toInt32)), .val (.int (own_f2 ((p2 &&& (65535 : Int32)).toUInt32.toUInt16.toUInt32.toInt32))), .val (.int (1 : Int32)), .val (.int (own_dg ((own_f2 ((p2 &&& (65535 : Int32)).toUInt32.toUInt16.toUInt32.toInt32)) &&& (15 : Int32))))] [(.int (1 : Int32))])) _
    refine XS.ifNo X7.here hx rfl (hb hby at_142) rfl ((if0 _ _).trans (feq hc142).1) ?_
    show Steps p.tables e below (T7.setTop (mkF m 145 #[.val (.int p1), .val (.int p2), .val (.int (p1 &&& (15 : Int32))), .val (.int (own_dg ((p1 &&& (15 : Int32)) &&& (15 : Int32)))), .val (.int (1 : Int32)), .val (.int (own_dg ((p1 &&& (15 : Int32)) &&& (15 : Int32)))), .val (.int (1 : Int32)), .val (.int ((p2 &&& (65535 : Int32)).toUInt32.toUInt16.toUInt32.toInt32)), .val (.int (own_f2 ((p2 &&& (65535 : Int32)).toUInt32.toUInt16.toUInt32.toInt32))), .val (.int (1 : Int32)), .val (.int (own_dg ((own_f2 ((p2 &&& (65535 : Int32)).toUInt32.toUInt16.toUInt32.toInt32)) &&& (15 : Int32))))] [])) _
    refine XS.iload X7.here hx rfl (hb hby at_145) rfl ?_
    show Steps p.tables e below (T7.setTop (mkF m 147 #[.val (.int p1), .val (.int p2), .val (.int (p1 &&& (15 : Int32))), .val (.int (own_dg ((p1 &&& (15 : Int32)) &&& (15 : Int32)))), .val (.int (1 : Int32)), .val (.int (own_dg ((p1 &&& (15 : Int32)) &&& (15 : Int32)))), .val (.int (1 : Int32)), .val (.int ((p2 &&& (65535 : Int32)).toUInt32.toUInt16.toUInt32.toInt32)), .val (.int (own_f2 ((p2 &&& (65535 : Int32)).toUInt32.toUInt16.toUInt32.toInt32))), .val (.int (1 : Int32)), .val (.int (own_dg ((own_f2 ((p2 &&& (65535 : Int32)).toUInt32.toUInt16.toUInt32.toInt32)) &&& (15 : Int32))))] [(.int (1 : Int32))])) _
    refine XS.ifNo X7.here hx rfl (hb hby at_147) rfl ((if0 _ _).trans (feq hc147).1) ?_
    show Steps p.tables e below (T7.setTop (mkF m 150 #[.val (.int p1), .val (.int p2), .val (.int (p1 &&& (15 : Int32))), .val (.int (own_dg ((p1 &&& (15 : Int32)) &&& (15 : Int32)))), .val (.int (1 : Int32)), .val (.int (own_dg ((p1 &&& (15 : Int32)) &&& (15 : Int32)))), .val (.int (1 : Int32)), .val (.int ((p2 &&& (65535 : Int32)).toUInt32.toUInt16.toUInt32.toInt32)), .val (.int (own_f2 ((p2 &&& (65535 : Int32)).toUInt32.toUInt16.toUInt32.toInt32))), .val (.int (1 : Int32)), .val (.int (own_dg ((own_f2 ((p2 &&& (65535 : Int32)).toUInt32.toUInt16.toUInt32.toInt32)) &&& (15 : Int32))))] [])) _
    refine XS.iload X7.here hx rfl (hb hby at_150) rfl ?_
    show Steps p.tables e below (T7.setTop (mkF m 152 #[.val (.int p1), .val (.int p2), .val (.int (p1 &&& (15 : Int32))), .val (.int (own_dg ((p1 &&& (15 : Int32)) &&& (15 : Int32)))), .val (.int (1 : Int32)), .val (.int (own_dg ((p1 &&& (15 : Int32)) &&& (15 : Int32)))), .val (.int (1 : Int32)), .val (.int ((p2 &&& (65535 : Int32)).toUInt32.toUInt16.toUInt32.toInt32)), .val (.int (own_f2 ((p2 &&& (65535 : Int32)).toUInt32.toUInt16.toUInt32.toInt32))), .val (.int (1 : Int32)), .val (.int (own_dg ((own_f2 ((p2 &&& (65535 : Int32)).toUInt32.toUInt16.toUInt32.toInt32)) &&& (15 : Int32))))] [(.int (1 : Int32))])) _
    refine XS.ifNo X7.here hx rfl (hb hby at_152) rfl ((if0 _ _).trans (feq hc152).1) ?_
    show Steps p.tables e below (T7.setTop (mkF m 155 #[.val (.int p1), .val (.int p2), .val (.int (p1 &&& (15 : Int32))), .val (.int (own_dg ((p1 &&& (15 : Int32)) &&& (15 : Int32)))), .val (.int (1 : Int32)), .val (.int (own_dg ((p1 &&& (15 : Int32)) &&& (15 : Int32)))), .val (.int (1 : Int32)), .val (.int ((p2 &&& (65535 : Int32)).toUInt32.toUInt16.toUInt32.toInt32)), .val (.int (own_f2 ((p2 &&& (65535 : Int32)).toUInt32.toUInt16.toUInt32.toInt32))), .val (.int (1 : Int32)), .val (.int (own_dg ((own_f2 ((p2 &&& (65535 : Int32)).toUInt32.toUInt16.toUInt32.toInt32)) &&& (15 : Int32))))] [])) _
    refine XS.iconst X7.here hx rfl (hb hby at_155) ?_
    show Steps p.tables e below (T7.setTop (mkF m 156 #[.val (.int p1), .val (.int p2), .val (.int (p1 &&& (15 : Int32))), .val (.int (own_dg ((p1 &&& (15 : Int32)) &&& (15 : Int32)))), .val (.int (1 : Int32)), .val (.int (own_dg ((p1 &&& (15 : Int32)) &&& (15 : Int32)))), .val (.int (1 : Int32)), .val (.int ((p2 &&& (65535 : Int32)).toUInt32.toUInt16.toUInt32.toInt32)), .val (.int (own_f2 ((p2 &&& (65535 : Int32)).toUInt32.toUInt16.toUInt32.toInt32))), .val (.int (1 : Int32)), .val (.int (own_dg ((own_f2 ((p2 &&& (65535 : Int32)).toUInt32.toUInt16.toUInt32.toInt32)) &&& (15 : Int32))))] [(.int (1 : Int32))])) _
    refine XS.goto X7.here hx rfl (pc0 := 156) (pc' := 160) rfl (hb hby at_156) (by decide) (by decide) ?_
    show Steps p.tables e below (T7.setTop (mkF m 160 #[.val (.int p1), .val (.int p2), .val (.int (p1 &&& (15 : Int32))), .val (.int (own_dg ((p1 &&& (15 : Int32)) &&& (15 : Int32)))), .val (.int (1 : Int32)), .val (.int (own_dg ((p1 &&& (15 : Int32)) &&& (15 : Int32)))), .val (.int (1 : Int32)), .val (.int ((p2 &&& (65535 : Int32)).toUInt32.toUInt16.toUInt32.toInt32)), .val (.int (own_f2 ((p2 &&& (65535 : Int32)).toUInt32.toUInt16.toUInt32.toInt32))), .val (.int (1 : Int32)), .val (.int (own_dg ((own_f2 ((p2 &&& (65535 : Int32)).toUInt32.toUInt16.toUInt32.toInt32)) &&& (15 : Int32))))] [(.int (1 : Int32))])) _
    exact retN X7 hx (t := .boolean) Bd.returns (by simp) (hb hby at_160) hr
  · show Q0 Z h0 n0 _ T7.heap _
    exact ⟨rfl, N7⟩
set_option maxRecDepth 65536 in
set_option maxHeartbeats 40000000 in
theorem rm0_fA (l : Launch) (Z : State) (a0 : Array Value) (hw : ∀ d ∈ tables_1, d.before a0 Z = true) (ws : List Jvm.Cond) (p1 : Int32) (p2 : Int32) (wd : Addr) (cl : Cell) (h0 : Heap) (n0 : Nat) (Z0 : n0 ≤ h0.size) (S_DIGITS : Sta Z h0 "com/example/varpack/varpack/Hex" "DIGITS" "[C" (.ref wd)) (Ar : Arr Z h0 wd cl .char) (hin : ∀ p : Int32, ¬ ((p &&& (15 : Int32)) < 0 ∨ cl.slots.size ≤ (p &&& (15 : Int32)).toNatClampNeg)) (hat : ∀ p : Int32, cl.slots[(p &&& (15 : Int32)).toNatClampNeg]? = some (.int (own_dg (p &&& (15 : Int32))))) (ht15 : (own_f2 (own_dg ((p1 &&& (15 : Int32)) &&& (15 : Int32)))) = (p1 &&& (15 : Int32))) (hc28 : ¬ ((p1 &&& (15 : Int32)) < (10 : Int32))) (ht48 : (own_f2 (((own_dg ((p1 &&& (15 : Int32)) &&& (15 : Int32))) - (32 : Int32)).toUInt32.toUInt16.toUInt32.toInt32)) = (p1 &&& (15 : Int32))) (ht75 : (own_f2 ((p2 &&& (65535 : Int32)).toUInt32.toUInt16.toUInt32.toInt32)) = (-1 : Int32)) (hc142 : ¬ ((1 : Int32) = (0 : Int32))) (hc147 : ¬ ((1 : Int32) = (0 : Int32))) (hc152 : ¬ ((1 : Int32) = (0 : Int32))) :
    MetFree l x (head1 (Jvm.Cond.code x code maxLocals ret :: ws) room_1) (fun a U => a = #[(.int p1), (.int p2)] ∧ Z.Warmed39 U.vm ∧ U.heap = h0) (fun _ _ _ _ _ => True) (fun _ U o U' => ∃ v L, o = .returned v ∧ Q0 Z h0 n0 v U'.heap L ∧ FrameEnd U o U' L room_1.cells room_1.slots) := by
  refine MetFree.of_bodySF (plainFor_of_name pn_0) hisR ?_
  intro p e s m args below meth c s₁ Bd hml0 hP hK
  obtain ⟨rfl, hZ, hh⟩ := hP
  have hx := Bd.exec
  have hby := Bd.bytes
  have hml : c.maxLocals = 11 := hml0
  have hown : s.vm.findClass "com/example/varpack/varpack/HexValueOfPinLaw" = some m.cls := findClass_of_methodNamed Bd.named
  have hnm := (name_of_methodNamed Bd.named Bd.method).1
  have X0 : Stand p l e room_1 s m #[(.int p1), (.int p2)] below meth c s₁ [] 0 0 := Stand.of_body Bd
  have e0 : s₁.heap = h0 := by rw [← hh, Bd.state]; rfl
  have N0 := Fr.nil n0
  have pre0 : ∀ t, Steps p.tables e below (s₁.setTop (mkF m 0 #[.val (.int p1), .val (.int p2), .unset, .unset, .unset, .unset, .unset, .unset, .unset, .unset, .unset] [])) t → Steps p.tables e below (s₁.setTop (entryFrame m #[(.int p1), (.int p2)] maxLocals)) t := fun t k => castTop (ef_0 m p1 p2) k
  -- 3. LAWS
  -- pc 6: com/example/varpack/varpack/Hex.digit by its contract rm1
  obtain ⟨_, _, ⟨T3, L3, k3, n3⟩, -, X3, ⟨Lc3, hQ3, l3, y3, z3⟩, st3⟩ := Jvm.LawKit.callS X0 hx (y := (⟨"com/example/varpack/varpack/Hex", "digit", "(I)C"⟩ : MethodName)) hown (mvT hZ (hw _ (List.mem_of_getElem? (i := 0) rfl))) (mvT hZ (hw _ (List.mem_of_getElem? (i := 1) rfl))) (mvT hZ (hw _ (List.mem_of_getElem? (i := 2) rfl))) (mvT hZ (hw _ (List.mem_of_getElem? (i := 3) rfl))) (by decide) (backOf (W := 0) (rm1 l Z a0 hw [] (p1 &&& (15 : Int32)) wd (own_dg ((p1 &&& (15 : Int32)) &&& (15 : Int32))) cl h0 n0 Z0 S_DIGITS Ar (hin _) (hat _) (own_hn _)) hZ (hw _ (List.mem_of_getElem? (i := 3) rfl)) (hw _ (List.mem_of_getElem? (i := 2) rfl)) (by decide) (by decide)) (g := (mkF m 6 #[.val (.int p1), .val (.int p2), .val (.int (p1 &&& (15 : Int32))), .unset, .unset, .unset, .unset, .unset, .unset, .unset, .unset] [(.int (p1 &&& (15 : Int32)))])) rfl (by rw [hml]; rfl) (argsL := [(.int (p1 &&& (15 : Int32)))]) (rest := []) (lenOf pd_0_0 rfl) rfl (by show 2 * 0 + _ ≤ _; exact Nat.le_of_eq rfl) (hb hby at_6) (fun _ _ => ⟨rfl, e0, (by decide : 0 + 0 ≤ _), (by decide : 0 + 0 ≤ _)⟩)
  dsimp only [Pt.U, Pt.locs, Pt.cells, Pt.slots] at X3 l3 y3 z3 st3 hQ3
  subst l3 y3 z3
  obtain ⟨rfl, N3q, e3q⟩ := hQ3
  have N3 := Fr.app N0 N3q
  have K3q : Keep h0 T3.heap [] := own_keep e3q
  have KH3 : Keep h0 T3.heap [] := (Keep.refl h0 []).trans K3q own_ws0
  have eh3 : T3.heap = h0 := by rw [e3q]
  -- pc 11: com/example/varpack/varpack/Hex.valueOf by its contract rm2
  obtain ⟨_, _, ⟨T4, L4, k4, n4⟩, -, X4, ⟨Lc4, hQ4, l4, y4, z4⟩, st4⟩ := Jvm.LawKit.callS X3 hx (y := (⟨"com/example/varpack/varpack/Hex", "valueOf", "(C)I"⟩ : MethodName)) hown (mvT hZ (hw _ (List.mem_of_getElem? (i := 6) rfl))) (mvT hZ (hw _ (List.mem_of_getElem? (i := 7) rfl))) (mvT hZ (hw _ (List.mem_of_getElem? (i := 2) rfl))) (mvT hZ (hw _ (List.mem_of_getElem? (i := 8) rfl))) (by decide) (backOf (W := 0) (rm2 l Z a0 hw [] (own_dg ((p1 &&& (15 : Int32)) &&& (15 : Int32)))  T3.heap n0 (Nat.le_trans Z0 KH3.1)) hZ (hw _ (List.mem_of_getElem? (i := 8) rfl)) (hw _ (List.mem_of_getElem? (i := 2) rfl)) (by decide) (by decide)) (g := (mkF m 11 #[.val (.int p1), .val (.int p2), .val (.int (p1 &&& (15 : Int32))), .val (.int (own_dg ((p1 &&& (15 : Int32)) &&& (15 : Int32)))), .unset, .unset, .unset, .unset, .unset, .unset, .unset] [(.int (own_dg ((p1 &&& (15 : Int32)) &&& (15 : Int32))))])) rfl (by rw [hml]; rfl) (argsL := [(.int (own_dg ((p1 &&& (15 : Int32)) &&& (15 : Int32))))]) (rest := []) (lenOf pd_0_1 rfl) rfl (by show 2 * 0 + _ ≤ _; exact Nat.le_of_eq rfl) (hb hby at_11) (fun _ _ => ⟨rfl, rfl, (by decide : 0 + 0 ≤ _), (by decide : 0 + 0 ≤ _)⟩)
  dsimp only [Pt.U, Pt.locs, Pt.cells, Pt.slots] at X4 l4 y4 z4 st4 hQ4
  subst l4 y4 z4
  obtain ⟨rfl, N4q, e4q⟩ := hQ4
  have N4 := Fr.app N3 N4q
  have K4q : Keep T3.heap T4.heap [] := own_keep e4q
  have KH4 : Keep h0 T4.heap [] := KH3.trans K4q own_ws0
  have eh4 : T4.heap = h0 := by rw [e4q]; exact eh3
  -- pc 44: com/example/varpack/varpack/Hex.valueOf by its contract rm2
  obtain ⟨_, _, ⟨T5, L5, k5, n5⟩, -, X5, ⟨Lc5, hQ5, l5, y5, z5⟩, st5⟩ := Jvm.LawKit.callS X4 hx (y := (⟨"com/example/varpack/varpack/Hex", "valueOf", "(C)I"⟩ : MethodName)) hown (mvT hZ (hw _ (List.mem_of_getElem? (i := 6) rfl))) (mvT hZ (hw _ (List.mem_of_getElem? (i := 7) rfl))) (mvT hZ (hw _ (List.mem_of_getElem? (i := 2) rfl))) (mvT hZ (hw _ (List.mem_of_getElem? (i := 8) rfl))) (by decide) (backOf (W := 0) (rm2 l Z a0 hw [] (((own_dg ((p1 &&& (15 : Int32)) &&& (15 : Int32))) - (32 : Int32)).toUInt32.toUInt16.toUInt32.toInt32)  T4.heap n0 (Nat.le_trans Z0 KH4.1)) hZ (hw _ (List.mem_of_getElem? (i := 8) rfl)) (hw _ (List.mem_of_getElem? (i := 2) rfl)) (by decide) (by decide)) (g := (mkF m 44 #[.val (.int p1), .val (.int p2), .val (.int (p1 &&& (15 : Int32))), .val (.int (own_dg ((p1 &&& (15 : Int32)) &&& (15 : Int32)))), .val (.int (1 : Int32)), .val (.int (((own_dg ((p1 &&& (15 : Int32)) &&& (15 : Int32))) - (32 : Int32)).toUInt32.toUInt16.toUInt32.toInt32)), .unset, .unset, .unset, .unset, .unset] [(.int (((own_dg ((p1 &&& (15 : Int32)) &&& (15 : Int32))) - (32 : Int32)).toUInt32.toUInt16.toUInt32.toInt32))])) rfl (by rw [hml]; rfl) (argsL := [(.int (((own_dg ((p1 &&& (15 : Int32)) &&& (15 : Int32))) - (32 : Int32)).toUInt32.toUInt16.toUInt32.toInt32))]) (rest := []) (lenOf pd_0_1 rfl) rfl (by show 2 * 0 + _ ≤ _; exact Nat.le_of_eq rfl) (hb hby at_44) (fun _ _ => ⟨rfl, rfl, (by decide : 0 + 0 ≤ _), (by decide : 0 + 0 ≤ _)⟩)
  dsimp only [Pt.U, Pt.locs, Pt.cells, Pt.slots] at X5 l5 y5 z5 st5 hQ5
  subst l5 y5 z5
  obtain ⟨rfl, N5q, e5q⟩ := hQ5
  have N5 := Fr.app N4 N5q
  have K5q : Keep T4.heap T5.heap [] := own_keep e5q
  have KH5 : Keep h0 T5.heap [] := KH4.trans K5q own_ws0
  have eh5 : T5.heap = h0 := by rw [e5q]; exact eh4
  -- pc 67: com/example/varpack/varpack/Hex.valueOf by its contract rm2
  obtain ⟨_, _, ⟨T6, L6, k6, n6⟩, -, X6, ⟨Lc6, hQ6, l6, y6, z6⟩, st6⟩ := Jvm.LawKit.callS X5 hx (y := (⟨"com/example/varpack/varpack/Hex", "valueOf", "(C)I"⟩ : MethodName)) hown (mvT hZ (hw _ (List.mem_of_getElem? (i := 6) rfl))) (mvT hZ (hw _ (List.mem_of_getElem? (i := 7) rfl))) (mvT hZ (hw _ (List.mem_of_getElem? (i := 2) rfl))) (mvT hZ (hw _ (List.mem_of_getElem? (i := 8) rfl))) (by decide) (backOf (W := 0) (rm2 l Z a0 hw [] ((p2 &&& (65535 : Int32)).toUInt32.toUInt16.toUInt32.toInt32)  T5.heap n0 (Nat.le_trans Z0 KH5.1)) hZ (hw _ (List.mem_of_getElem? (i := 8) rfl)) (hw _ (List.mem_of_getElem? (i := 2) rfl)) (by decide) (by decide)) (g := (mkF m 67 #[.val (.int p1), .val (.int p2), .val (.int (p1 &&& (15 : Int32))), .val (.int (own_dg ((p1 &&& (15 : Int32)) &&& (15 : Int32)))), .val (.int (1 : Int32)), .val (.int (((own_dg ((p1 &&& (15 : Int32)) &&& (15 : Int32))) - (32 : Int32)).toUInt32.toUInt16.toUInt32.toInt32)), .val (.int (1 : Int32)), .val (.int ((p2 &&& (65535 : Int32)).toUInt32.toUInt16.toUInt32.toInt32)), .unset, .unset, .unset] [(.int ((p2 &&& (65535 : Int32)).toUInt32.toUInt16.toUInt32.toInt32))])) rfl (by rw [hml]; rfl) (argsL := [(.int ((p2 &&& (65535 : Int32)).toUInt32.toUInt16.toUInt32.toInt32))]) (rest := []) (lenOf pd_0_1 rfl) rfl (by show 2 * 0 + _ ≤ _; exact Nat.le_of_eq rfl) (hb hby at_67) (fun _ _ => ⟨rfl, rfl, (by decide : 0 + 0 ≤ _), (by decide : 0 + 0 ≤ _)⟩)
  dsimp only [Pt.U, Pt.locs, Pt.cells, Pt.slots] at X6 l6 y6 z6 st6 hQ6
  subst l6 y6 z6
  obtain ⟨rfl, N6q, e6q⟩ := hQ6
  have N6 := Fr.app N5 N6q
  have K6q : Keep T5.heap T6.heap [] := own_keep e6q
  have KH6 : Keep h0 T6.heap [] := KH5.trans K6q own_ws0
  have eh6 : T6.heap = h0 := by rw [e6q]; exact eh5
  obtain ⟨fs, hr, hrun, hended, hW, hsame⟩ := X6.leave (v := some (.int (1 : Int32))) (fun h => by rw [Bd.returns] at h; cases h) (BodyLoose.notSynchronized Bd)
  refine ⟨_, _, pre0 _ ?_, hrun, hended, _, _, rfl, ?_, ⟨_, rfl⟩, hW, hsame.mono (by decide) (by decide)⟩
  -- 4. STEPS
  · show Steps p.tables e below (s₁.setTop (mkF m 0 #[.val (.int p1), .val (.int p2), .unset, .unset, .unset, .unset, .unset, .unset, .unset, .unset, .unset] [])) _
    refine XS.iloadN X0.here hx rfl (hb hby at_0) rfl ?_
    show Steps p.tables e below (s₁.setTop (mkF m 1 #[.val (.int p1), .val (.int p2), .unset, .unset, .unset, .unset, .unset, .unset, .unset, .unset, .unset] [(.int p1)])) _
    refine XS.bipush X0.here hx rfl (hb hby at_1) ?_
    show Steps p.tables e below (s₁.setTop (mkF m 3 #[.val (.int p1), .val (.int p2), .unset, .unset, .unset, .unset, .unset, .unset, .unset, .unset, .unset] [(.int (15 : Int32)), (.int p1)])) _
    refine XS.iand X0.here hx rfl (hb hby at_3) rfl ?_
    show Steps p.tables e below (s₁.setTop (mkF m 4 #[.val (.int p1), .val (.int p2), .unset, .unset, .unset, .unset, .unset, .unset, .unset, .unset, .unset] [(.int (p1 &&& (15 : Int32)))])) _
    refine XS.istoreN X0.here hx rfl (hb hby at_4) rfl (l' := #[.val (.int p1), .val (.int p2), .val (.int (p1 &&& (15 : Int32))), .unset, .unset, .unset, .unset, .unset, .unset, .unset, .unset]) rfl ?_
    show Steps p.tables e below (s₁.setTop (mkF m 5 #[.val (.int p1), .val (.int p2), .val (.int (p1 &&& (15 : Int32))), .unset, .unset, .unset, .unset, .unset, .unset, .unset, .unset] [])) _
    refine XS.iloadN X0.here hx rfl (hb hby at_5) rfl ?_
    show Steps p.tables e below (s₁.setTop (mkF m 6 #[.val (.int p1), .val (.int p2), .val (.int (p1 &&& (15 : Int32))), .unset, .unset, .unset, .unset, .unset, .unset, .unset, .unset] [(.int (p1 &&& (15 : Int32)))])) _
    refine st3 _ ?_
    show Steps p.tables e below (T3.setTop (mkF m 9 #[.val (.int p1), .val (.int p2), .val (.int (p1 &&& (15 : Int32))), .unset, .unset, .unset, .unset, .unset, .unset, .unset, .unset] [(.int (own_dg ((p1 &&& (15 : Int32)) &&& (15 : Int32))))])) _
    refine XS.istoreN X3.here hx rfl (hb hby at_9) rfl (l' := #[.val (.int p1), .val (.int p2), .val (.int (p1 &&& (15 : Int32))), .val (.int (own_dg ((p1 &&& (15 : Int32)) &&& (15 : Int32)))), .unset, .unset, .unset, .unset, .unset, .unset, .unset]) rfl ?_
    show Steps p.tables e below (T3.setTop (mkF m 10 #[.val (.int p1), .val (.int p2), .val (.int (p1 &&& (15 : Int32))), .val (.int (own_dg ((p1 &&& (15 : Int32)) &&& (15 : Int32)))), .unset, .unset, .unset, .unset, .unset, .unset, .unset] [])) _
    refine XS.iloadN X3.here hx rfl (hb hby at_10) rfl ?_
    show Steps p.tables e below (T3.setTop (mkF m 11 #[.val (.int p1), .val (.int p2), .val (.int (p1 &&& (15 : Int32))), .val (.int (own_dg ((p1 &&& (15 : Int32)) &&& (15 : Int32)))), .unset, .unset, .unset, .unset, .unset, .unset, .unset] [(.int (own_dg ((p1 &&& (15 : Int32)) &&& (15 : Int32))))])) _
    refine st4 _ ?_
    show Steps p.tables e below (T4.setTop (mkF m 14 #[.val (.int p1), .val (.int p2), .val (.int (p1 &&& (15 : Int32))), .val (.int (own_dg ((p1 &&& (15 : Int32)) &&& (15 : Int32)))), .unset, .unset, .unset, .unset, .unset, .unset, .unset] [(.int (own_f2 (own_dg ((p1 &&& (15 : Int32)) &&& (15 : Int32)))))])) _
    refine XS.iloadN X4.here hx rfl (hb hby at_14) rfl ?_
    show Steps p.tables e below (T4.setTop (mkF m 15 #[.val (.int p1), .val (.int p2), .val (.int (p1 &&& (15 : Int32))), .val (.int (own_dg ((p1 &&& (15 : Int32)) &&& (15 : Int32)))), .unset, .unset, .unset, .unset, .unset, .unset, .unset] [(.int (p1 &&& (15 : Int32))), (.int (own_f2 (own_dg ((p1 &&& (15 : Int32)) &&& (15 : Int32)))))])) _
    refine XS.icmpNo X4.here hx rfl (hb hby at_15) rfl (teq ht15).2 ?_
    show Steps p.tables e below (T4.setTop (mkF m 18 #[.val (.int p1), .val (.int p2), .val (.int (p1 &&& (15 : Int32))), .val (.int (own_dg ((p1 &&& (15 : Int32)) &&& (15 : Int32)))), .unset, .unset, .unset, .unset, .unset, .unset, .unset] [])) _
    refine XS.iconst X4.here hx rfl (hb hby at_18) ?_
    show Steps p.tables e below (T4.setTop (mkF m 19 #[.val (.int p1), .val (.int p2), .val (.int (p1 &&& (15 : Int32))), .val (.int (own_dg ((p1 &&& (15 : Int32)) &&& (15 : Int32)))), .unset, .unset, .unset, .unset, .unset, .unset, .unset] [(.int (1 : Int32))])) _
    refine XS.goto X4.here hx rfl (pc0 := 19) (pc' := 23) rfl (hb hby at_19) (by decide) (by decide) ?_
    show Steps p.tables e below (T4.setTop (mkF m 23 #[.val (.int p1), .val (.int p2), .val (.int (p1 &&& (15 : Int32))), .val (.int (own_dg ((p1 &&& (15 : Int32)) &&& (15 : Int32)))), .unset, .unset, .unset, .unset, .unset, .unset, .unset] [(.int (1 : Int32))])) _
    refine XS.istore X4.here hx rfl (hb hby at_23) rfl (l' := #[.val (.int p1), .val (.int p2), .val (.int (p1 &&& (15 : Int32))), .val (.int (own_dg ((p1 &&& (15 : Int32)) &&& (15 : Int32)))), .val (.int (1 : Int32)), .unset, .unset, .unset, .unset, .unset, .unset]) rfl ?_
    show Steps p.tables e below (T4.setTop (mkF m 25 #[.val (.int p1), .val (.int p2), .val (.int (p1 &&& (15 : Int32))), .val (.int (own_dg ((p1 &&& (15 : Int32)) &&& (15 : Int32)))), .val (.int (1 : Int32)), .unset, .unset, .unset, .unset, .unset, .unset] [])) _
    refine XS.iloadN X4.here hx rfl (hb hby at_25) rfl ?_
    show Steps p.tables e below (T4.setTop (mkF m 26 #[.val (.int p1), .val (.int p2), .val (.int (p1 &&& (15 : Int32))), .val (.int (own_dg ((p1 &&& (15 : Int32)) &&& (15 : Int32)))), .val (.int (1 : Int32)), .unset, .unset, .unset, .unset, .unset, .unset] [(.int (p1 &&& (15 : Int32)))])) _
    refine XS.bipush X4.here hx rfl (hb hby at_26) ?_
    show Steps p.tables e below (T4.setTop (mkF m 28 #[.val (.int p1), .val (.int p2), .val (.int (p1 &&& (15 : Int32))), .val (.int (own_dg ((p1 &&& (15 : Int32)) &&& (15 : Int32)))), .val (.int (1 : Int32)), .unset, .unset, .unset, .unset, .unset, .unset] [(.int (10 : Int32)), (.int (p1 &&& (15 : Int32)))])) _
    refine XS.icmpNo X4.here hx rfl (hb hby at_28) rfl (flt hc28).1 ?_
    show Steps p.tables e below (T4.setTop (mkF m 31 #[.val (.int p1), .val (.int p2), .val (.int (p1 &&& (15 : Int32))), .val (.int (own_dg ((p1 &&& (15 : Int32)) &&& (15 : Int32)))), .val (.int (1 : Int32)), .unset, .unset, .unset, .unset, .unset, .unset] [])) _
    refine XS.iloadN X4.here hx rfl (hb hby at_31) rfl ?_
    show Steps p.tables e below (T4.setTop (mkF m 32 #[.val (.int p1), .val (.int p2), .val (.int (p1 &&& (15 : Int32))), .val (.int (own_dg ((p1 &&& (15 : Int32)) &&& (15 : Int32)))), .val (.int (1 : Int32)), .unset, .unset, .unset, .unset, .unset, .unset] [(.int (own_dg ((p1 &&& (15 : Int32)) &&& (15 : Int32))))])) _
    refine XS.bipush X4.here hx rfl (hb hby at_32) ?_
    show Steps p.tables e below (T4.setTop (mkF m 34 #[.val (.int p1), .val (.int p2), .val (.int (p1 &&& (15 : Int32))), .val (.int (own_dg ((p1 &&& (15 : Int32)) &&& (15 : Int32)))), .val (.int (1 : Int32)), .unset, .unset, .unset, .unset, .unset, .unset] [(.int (32 : Int32)), (.int (own_dg ((p1 &&& (15 : Int32)) &&& (15 : Int32))))])) _
    refine XS.isub X4.here hx rfl (hb hby at_34) rfl ?_
    show Steps p.tables e below (T4.setTop (mkF m 35 #[.val (.int p1), .val (.int p2), .val (.int (p1 &&& (15 : Int32))), .val (.int (own_dg ((p1 &&& (15 : Int32)) &&& (15 : Int32)))), .val (.int (1 : Int32)), .unset, .unset, .unset, .unset, .unset, .unset] [(.int ((own_dg ((p1 &&& (15 : Int32)) &&& (15 : Int32))) - (32 : Int32)))])) _
    refine XS.i2c X4.here hx rfl (hb hby at_35) rfl ?_
    show Steps p.tables e below (T4.setTop (mkF m 36 #[.val (.int p1), .val (.int p2), .val (.int (p1 &&& (15 : Int32))), .val (.int (own_dg ((p1 &&& (15 : Int32)) &&& (15 : Int32)))), .val (.int (1 : Int32)), .unset, .unset, .unset, .unset, .unset, .unset] [(.int (((own_dg ((p1 &&& (15 : Int32)) &&& (15 : Int32))) - (32 : Int32)).toUInt32.toUInt16.toUInt32.toInt32))])) _
    refine XS.goto X4.here hx rfl (pc0 := 36) (pc' := 40) rfl (hb hby at_36) (by decide) (by decide) ?_
    show Steps p.tables e below (T4.setTop (mkF m 40 #[.val (.int p1), .val (.int p2), .val (.int (p1 &&& (15 : Int32))), .val (.int (own_dg ((p1 &&& (15 : Int32)) &&& (15 : Int32)))), .val (.int (1 : Int32)), .unset, .unset, .unset, .unset, .unset, .unset] [(.int (((own_dg ((p1 &&& (15 : Int32)) &&& (15 : Int32))) - (32 : Int32)).toUInt32.toUInt16.toUInt32.toInt32))])) _
    refine XS.istore X4.here hx rfl (hb hby at_40) rfl (l' := #[.val (.int p1), .val (.int p2), .val (.int (p1 &&& (15 : Int32))), .val (.int (own_dg ((p1 &&& (15 : Int32)) &&& (15 : Int32)))), .val (.int (1 : Int32)), .val (.int (((own_dg ((p1 &&& (15 : Int32)) &&& (15 : Int32))) - (32 : Int32)).toUInt32.toUInt16.toUInt32.toInt32)), .unset, .unset, .unset, .unset, .unset]) rfl ?_
    show Steps p.tables e below (T4.setTop (mkF m 42 #[.val (.int p1), .val (.int p2), .val (.int (p1 &&& (15 : Int32))), .val (.int (own_dg ((p1 &&& (15 : Int32)) &&& (15 : Int32)))), .val (.int (1 : Int32)), .val (.int (((own_dg ((p1 &&& (15 : Int32)) &&& (15 : Int32))) - (32 : Int32)).toUInt32.toUInt16.toUInt32.toInt32)), .unset, .unset, .unset, .unset, .unset] [])) _
    refine XS.iload X4.here hx rfl (hb hby at_42) rfl ?_
    show Steps p.tables e below (T4.setTop (mkF m 44 #[.val (.int p1), .val (.int p2), .val (.int (p1 &&& (15 : Int32))), .val (.int (own_dg ((p1 &&& (15 : Int32)) &&& (15 : Int32)))), .val (.int (1 : Int32)), .val (.int (((own_dg ((p1 &&& (15 : Int32)) &&& (15 : Int32))) - (32 : Int32)).toUInt32.toUInt16.toUInt32.toInt32)), .unset, .unset, .unset, .unset, .unset] [(.int (((own_dg ((p1 &&& (15 : Int32)) &&& (15 : Int32))) - (32 : Int32)).toUInt32.toUInt16.toUInt32.toInt32))])) _
    refine st5 _ ?_
    show Steps p.tables e below (T5.setTop (mkF m 47 #[.val (.int p1), .val (.int p2), .val (.int (p1 &&& (15 : Int32))), .val (.int (own_dg ((p1 &&& (15 : Int32)) &&& (15 : Int32)))), .val (.int (1 : Int32)), .val (.int (((own_dg ((p1 &&& (15 : Int32)) &&& (15 : Int32))) - (32 : Int32)).toUInt32.toUInt16.toUInt32.toInt32)), .unset, .unset, .unset, .unset, .unset] [(.int (own_f2 (((own_dg ((p1 &&& (15 : Int32)) &&& (15 : Int32))) - (32 : Int32)).toUInt32.toUInt16.toUInt32.toInt32)))])) _
    refine XS.iloadN X5.here hx rfl (hb hby at_47) rfl ?_
    show Steps p.tables e below (T5.setTop (mkF m 48 #[.val (.int p1), .val (.int p2), .val (.int (p1 &&& (15 : Int32))), .val (.int (own_dg ((p1 &&& (15 : Int32)) &&& (15 : Int32)))), .val (.int (1 : Int32)), .val (.int (((own_dg ((p1 &&& (15 : Int32)) &&& (15 : Int32))) - (32 : Int32)).toUInt32.toUInt16.toUInt32.toInt32)), .unset, .unset, .unset, .unset, .unset] [(.int (p1 &&& (15 : Int32))), (.int (own_f2 (((own_dg ((p1 &&& (15 : Int32)) &&& (15 : Int32))) - (32 : Int32)).toUInt32.toUInt16.toUInt32.toInt32)))])) _
    refine XS.icmpNo X5.here hx rfl (hb hby at_48) rfl (teq ht48).2 ?_
    show Steps p.tables e below (T5.setTop (mkF m 51 #[.val (.int p1), .val (.int p2), .val (.int (p1 &&& (15 : Int32))), .val (.int (own_dg ((p1 &&& (15 : Int32)) &&& (15 : Int32)))), .val (.int (1 : Int32)), .val (.int (((own_dg ((p1 &&& (15 : Int32)) &&& (15 : Int32))) - (32 : Int32)).toUInt32.toUInt16.toUInt32.toInt32)), .unset, .unset, .unset, .unset, .unset] [])) _
    refine XS.iconst X5.here hx rfl (hb hby at_51) ?_
    show Steps p.tables e below (T5.setTop (mkF m 52 #[.val (.int p1), .val (.int p2), .val (.int (p1 &&& (15 : Int32))), .val (.int (own_dg ((p1 &&& (15 : Int32)) &&& (15 : Int32)))), .val (.int (1 : Int32)), .val (.int (((own_dg ((p1 &&& (15 : Int32)) &&& (15 : Int32))) - (32 : Int32)).toUInt32.toUInt16.toUInt32.toInt32)), .unset, .unset, .unset, .unset, .unset] [(.int (1 : Int32))])) _
    refine XS.goto X5.here hx rfl (pc0 := 52) (pc' := 56) rfl (hb hby at_52) (by decide) (by decide) ?_
    show Steps p.tables e below (T5.setTop (mkF m 56 #[.val (.int p1), .val (.int p2), .val (.int (p1 &&& (15 : Int32))), .val (.int (own_dg ((p1 &&& (15 : Int32)) &&& (15 : Int32)))), .val (.int (1 : Int32)), .val (.int (((own_dg ((p1 &&& (15 : Int32)) &&& (15 : Int32))) - (32 : Int32)).toUInt32.toUInt16.toUInt32.toInt32)), .unset, .unset, .unset, .unset, .unset] [(.int (1 : Int32))])) _
    refine XS.istore X5.here hx rfl (hb hby at_56) rfl (l' := #[.val (.int p1), .val (.int p2), .val (.int (p1 &&& (15 : Int32))), .val (.int (own_dg ((p1 &&& (15 : Int32)) &&& (15 : Int32)))), .val (.int (1 : Int32)), .val (.int (((own_dg ((p1 &&& (15 : Int32)) &&& (15 : Int32))) - (32 : Int32)).toUInt32.toUInt16.toUInt32.toInt32)), .val (.int (1 : Int32)), .unset, .unset, .unset, .unset]) rfl ?_
    show Steps p.tables e below (T5.setTop (mkF m 58 #[.val (.int p1), .val (.int p2), .val (.int (p1 &&& (15 : Int32))), .val (.int (own_dg ((p1 &&& (15 : Int32)) &&& (15 : Int32)))), .val (.int (1 : Int32)), .val (.int (((own_dg ((p1 &&& (15 : Int32)) &&& (15 : Int32))) - (32 : Int32)).toUInt32.toUInt16.toUInt32.toInt32)), .val (.int (1 : Int32)), .unset, .unset, .unset, .unset] [])) _
    refine XS.iloadN X5.here hx rfl (hb hby at_58) rfl ?_
    show Steps p.tables e below (T5.setTop (mkF m 59 #[.val (.int p1), .val (.int p2), .val (.int (p1 &&& (15 : Int32))), .val (.int (own_dg ((p1 &&& (15 : Int32)) &&& (15 : Int32)))), .val (.int (1 : Int32)), .val (.int (((own_dg ((p1 &&& (15 : Int32)) &&& (15 : Int32))) - (32 : Int32)).toUInt32.toUInt16.toUInt32.toInt32)), .val (.int (1 : Int32)), .unset, .unset, .unset, .unset] [(.int p2)])) _
    refine X5.ldcInt hx hown (mvT hZ (hw _ (List.mem_of_getElem? (i := 9) rfl))) (g := (mkF m 59 #[.val (.int p1), .val (.int p2), .val (.int (p1 &&& (15 : Int32))), .val (.int (own_dg ((p1 &&& (15 : Int32)) &&& (15 : Int32)))), .val (.int (1 : Int32)), .val (.int (((own_dg ((p1 &&& (15 : Int32)) &&& (15 : Int32))) - (32 : Int32)).toUInt32.toUInt16.toUInt32.toInt32)), .val (.int (1 : Int32)), .unset, .unset, .unset, .unset] [(.int p2)])) rfl (hb hby at_59) _ ?_
    show Steps p.tables e below (T5.setTop (mkF m 61 #[.val (.int p1), .val (.int p2), .val (.int (p1 &&& (15 : Int32))), .val (.int (own_dg ((p1 &&& (15 : Int32)) &&& (15 : Int32)))), .val (.int (1 : Int32)), .val (.int (((own_dg ((p1 &&& (15 : Int32)) &&& (15 : Int32))) - (32 : Int32)).toUInt32.toUInt16.toUInt32.toInt32)), .val (.int (1 : Int32)), .unset, .unset, .unset, .unset] [(.int (65535 : Int32)), (.int p2)])) _
    refine XS.iand X5.here hx rfl (hb hby at_61) rfl ?_
    show Steps p.tables e below (T5.setTop (mkF m 62 #[.val (.int p1), .val (.int p2), .val (.int (p1 &&& (15 : Int32))), .val (.int (own_dg ((p1 &&& (15 : Int32)) &&& (15 : Int32)))), .val (.int (1 : Int32)), .val (.int (((own_dg ((p1 &&& (15 : Int32)) &&& (15 : Int32))) - (32 : Int32)).toUInt32.toUInt16.toUInt32.toInt32)), .val (.int (1 : Int32)), .unset, .unset, .unset, .unset] [(.int (p2 &&& (65535 : Int32)))])) _
    refine XS.i2c X5.here hx rfl (hb hby at_62) rfl ?_
    show Steps p.tables e below (T5.setTop (mkF m 63 #[.val (.int p1), .val (.int p2), .val (.int (p1 &&& (15 : Int32))), .val (.int (own_dg ((p1 &&& (15 : Int32)) &&& (15 : Int32)))), .val (.int (1 : Int32)), .val (.int (((own_dg ((p1 &&& (15 : Int32)) &&& (15 : Int32))) - (32 : Int32)).toUInt32.toUInt16.toUInt32.toInt32)), .val (.int (1 : Int32)), .unset, .unset, .unset, .unset] [(.int ((p2 &&& (65535 : Int32)).toUInt32.toUInt16.toUInt32.toInt32))])) _
    refine XS.istore X5.here hx rfl (hb hby at_63) rfl (l' := #[.val (.int p1), .val (.int p2), .val (.int (p1 &&& (15 : Int32))), .val (.int (own_dg ((p1 &&& (15 : Int32)) &&& (15 : Int32)))), .val (.int (1 : Int32)), .val (.int (((own_dg ((p1 &&& (15 : Int32)) &&& (15 : Int32))) - (32 : Int32)).toUInt32.toUInt16.toUInt32.toInt32)), .val (.int (1 : Int32)), .val (.int ((p2 &&& (65535 : Int32)).toUInt32.toUInt16.toUInt32.toInt32)), .unset, .unset, .unset]) rfl ?_
    show Steps p.tables e below (T5.setTop (mkF m 65 #[.val (.int p1), .val (.int p2), .val (.int (p1 &&& (15 : Int32))), .val (.int (own_dg ((p1 &&& (15 : Int32)) &&& (15 : Int32)))), .val (.int (1 : Int32)), .val (.int (((own_dg ((p1 &&& (15 : Int32)) &&& (15 : Int32))) - (32 : Int32)).toUInt32.toUInt16.toUInt32.toInt32)), .val (.int (1 : Int32)), .val (.int ((p2 &&& (65535 : Int32)).toUInt32.toUInt16.toUInt32.toInt32)), .unset, .unset, .unset] [])) _
    refine XS.iload X5.here hx rfl (hb hby at_65) rfl ?_
    show Steps p.tables e below (T5.setTop (mkF m 67 #[.val (.int p1), .val (.int p2), .val (.int (p1 &&& (15 : Int32))), .val (.int (own_dg ((p1 &&& (15 : Int32)) &&& (15 : Int32)))), .val (.int (1 : Int32)), .val (.int (((own_dg ((p1 &&& (15 : Int32)) &&& (15 : Int32))) - (32 : Int32)).toUInt32.toUInt16.toUInt32.toInt32)), .val (.int (1 : Int32)), .val (.int ((p2 &&& (65535 : Int32)).toUInt32.toUInt16.toUInt32.toInt32)), .unset, .unset, .unset] [(.int ((p2 &&& (65535 : Int32)).toUInt32.toUInt16.toUInt32.toInt32))])) _
    refine st6 _ ?_
    show Steps p.tables e below (T6.setTop (mkF m 70 #[.val (.int p1), .val (.int p2), .val (.int (p1 &&& (15 : Int32))), .val (.int (own_dg ((p1 &&& (15 : Int32)) &&& (15 : Int32)))), .val (.int (1 : Int32)), .val (.int (((own_dg ((p1 &&& (15 : Int32)) &&& (15 : Int32))) - (32 : Int32)).toUInt32.toUInt16.toUInt32.toInt32)), .val (.int (1 : Int32)), .val (.int ((p2 &&& (65535 : Int32)).toUInt32.toUInt16.toUInt32.toInt32)), .unset, .unset, .unset] [(.int (own_f2 ((p2 &&& (65535 : Int32)).toUInt32.toUInt16.toUInt32.toInt32)))])) _
    refine XS.istore X6.here hx rfl (hb hby at_70) rfl (l' := #[.val (.int p1), .val (.int p2), .val (.int (p1 &&& (15 : Int32))), .val (.int (own_dg ((p1 &&& (15 : Int32)) &&& (15 : Int32)))), .val (.int (1 : Int32)), .val (.int (((own_dg ((p1 &&& (15 : Int32)) &&& (15 : Int32))) - (32 : Int32)).toUInt32.toUInt16.toUInt32.toInt32)), .val (.int (1 : Int32)), .val (.int ((p2 &&& (65535 : Int32)).toUInt32.toUInt16.toUInt32.toInt32)), .val (.int (own_f2 ((p2 &&& (65535 : Int32)).toUInt32.toUInt16.toUInt32.toInt32))), .unset, .unset]) rfl ?_
    show Steps p.tables e below (T6.setTop (mkF m 72 #[.val (.int p1), .val (.int p2), .val (.int (p1 &&& (15 : Int32))), .val (.int (own_dg ((p1 &&& (15 : Int32)) &&& (15 : Int32)))), .val (.int (1 : Int32)), .val (.int (((own_dg ((p1 &&& (15 : Int32)) &&& (15 : Int32))) - (32 : Int32)).toUInt32.toUInt16.toUInt32.toInt32)), .val (.int (1 : Int32)), .val (.int ((p2 &&& (65535 : Int32)).toUInt32.toUInt16.toUInt32.toInt32)), .val (.int (own_f2 ((p2 &&& (65535 : Int32)).toUInt32.toUInt16.toUInt32.toInt32))), .unset, .unset] [])) _
    refine XS.iload X6.here hx rfl (hb hby at_72) rfl ?_
    show Steps p.tables e below (T6.setTop (mkF m 74 #[.val (.int p1), .val (.int p2), .val (.int (p1 &&& (15 : Int32))), .val (.int (own_dg ((p1 &&& (15 : Int32)) &&& (15 : Int32)))), .val (.int (1 : Int32)), .val (.int (((own_dg ((p1 &&& (15 : Int32)) &&& (15 : Int32))) - (32 : Int32)).toUInt32.toUInt16.toUInt32.toInt32)), .val (.int (1 : Int32)), .val (.int ((p2 &&& (65535 : Int32)).toUInt32.toUInt16.toUInt32.toInt32)), .val (.int (own_f2 ((p2 &&& (65535 : Int32)).toUInt32.toUInt16.toUInt32.toInt32))), .unset, .unset] [(.int (own_f2 ((p2 &&& (65535 : Int32)).toUInt32.toUInt16.toUInt32.toInt32)))])) _
    refine XS.iconst X6.here hx rfl (hb hby at_74) ?_
    show Steps p.tables e below (T6.setTop (mkF m 75 #[.val (.int p1), .val (.int p2), .val (.int (p1 &&& (15 : Int32))), .val (.int (own_dg ((p1 &&& (15 : Int32)) &&& (15 : Int32)))), .val (.int (1 : Int32)), .val (.int (((own_dg ((p1 &&& (15 : Int32)) &&& (15 : Int32))) - (32 : Int32)).toUInt32.toUInt16.toUInt32.toInt32)), .val (.int (1 : Int32)), .val (.int ((p2 &&& (65535 : Int32)).toUInt32.toUInt16.toUInt32.toInt32)), .val (.int (own_f2 ((p2 &&& (65535 : Int32)).toUInt32.toUInt16.toUInt32.toInt32))), .unset, .unset] [(.int (-1 : Int32)), (.int (own_f2 ((p2 &&& (65535 : Int32)).toUInt32.toUInt16.toUInt32.toInt32)))])) _
    refine XS.icmpNo X6.here hx rfl (hb hby at_75) rfl (teq ht75).2 ?_
    show Steps p.tables e below (T6.setTop (mkF m 78 #[.val (.int p1), .val (.int p2), .val (.int (p1 &&& (15 : Int32))), .val (.int (own_dg ((p1 &&& (15 : Int32)) &&& (15 : Int32)))), .val (.int (1 : Int32)), .val (.int (((own_dg ((p1 &&& (15 : Int32)) &&& (15 : Int32))) - (32 : Int32)).toUInt32.toUInt16.toUInt32.toInt32)), .val (.int (1 : Int32)), .val (.int ((p2 &&& (65535 : Int32)).toUInt32.toUInt16.toUInt32.toInt32)), .val (.int (own_f2 ((p2 &&& (65535 : Int32)).toUInt32.toUInt16.toUInt32.toInt32))), .unset, .unset] [])) _
    refine XS.iconst X6.here hx rfl (hb hby at_78) ?_
    show Steps p.tables e below (T6.setTop (mkF m 79 #[.val (.int p1), .val (.int p2), .val (.int (p1 &&& (15 : Int32))), .val (.int (own_dg ((p1 &&& (15 : Int32)) &&& (15 : Int32)))), .val (.int (1 : Int32)), .val (.int (((own_dg ((p1 &&& (15 : Int32)) &&& (15 : Int32))) - (32 : Int32)).toUInt32.toUInt16.toUInt32.toInt32)), .val (.int (1 : Int32)), .val (.int ((p2 &&& (65535 : Int32)).toUInt32.toUInt16.toUInt32.toInt32)), .val (.int (own_f2 ((p2 &&& (65535 : Int32)).toUInt32.toUInt16.toUInt32.toInt32))), .unset, .unset] [(.int (1 : Int32))])) _
    refine XS.istore X6.here hx rfl (hb hby at_79) rfl (l' := #[.val (.int p1), .val (.int p2), .val (.int (p1 &&& (15 : Int32))), .val (.int (own_dg ((p1 &&& (15 : Int32)) &&& (15 : Int32)))), .val (.int (1 : Int32)), .val (.int (((own_dg ((p1 &&& (15 : Int32)) &&& (15 : Int32))) - (32 : Int32)).toUInt32.toUInt16.toUInt32.toInt32)), .val (.int (1 : Int32)), .val (.int ((p2 &&& (65535 : Int32)).toUInt32.toUInt16.toUInt32.toInt32)), .val (.int (own_f2 ((p2 &&& (65535 : Int32)).toUInt32.toUInt16.toUInt32.toInt32))), .val (.int (1 : Int32)), .unset]) rfl ?_
    show Steps p.tables e below (T6.setTop (mkF m 81 #[.val (.int p1), .val (.int p2), .val (.int (p1 &&& (15 : Int32))), .val (.int (own_dg ((p1 &&& (15 : Int32)) &&& (15 : Int32)))), .val (.int (1 : Int32)), .val (.int (((own_dg ((p1 &&& (15 : Int32)) &&& (15 : Int32))) - (32 : Int32)).toUInt32.toUInt16.toUInt32.toInt32)), .val (.int (1 : Int32)), .val (.int ((p2 &&& (65535 : Int32)).toUInt32.toUInt16.toUInt32.toInt32)), .val (.int (own_f2 ((p2 &&& (65535 : Int32)).toUInt32.toUInt16.toUInt32.toInt32))), .val (.int (1 : Int32)), .unset] [])) _
    refine XS.goto X6.here hx rfl (pc0 := 81) (pc' := 140) rfl (hb hby at_81) (by decide) (by decide) ?_
    show Steps p.tables e below (T6.setTop (mkF m 140 #[.val (.int p1), .val (.int p2), .val (.int (p1 &&& (15 : Int32))), .val (.int (own_dg ((p1 &&& (15 : Int32)) &&& (15 : Int32)))), .val (.int (1 : Int32)), .val (.int (((own_dg ((p1 &&& (15 : Int32)) &&& (15 : Int32))) - (32 : Int32)).toUInt32.toUInt16.toUInt32.toInt32)), .val (.int (1 : Int32)), .val (.int ((p2 &&& (65535 : Int32)).toUInt32.toUInt16.toUInt32.toInt32)), .val (.int (own_f2 ((p2 &&& (65535 : Int32)).toUInt32.toUInt16.toUInt32.toInt32))), .val (.int (1 : Int32)), .unset] [])) _
    refine XS.iload X6.here hx rfl (hb hby at_140) rfl ?_
    show Steps p.tables e below (T6.setTop (mkF m 142 #[.val (.int p1), .val (.int p2), .val (.int (p1 &&& (15 : Int32))), .val (.int (own_dg ((p1 &&& (15 : Int32)) &&& (15 : Int32)))), .val (.int (1 : Int32)), .val (.int (((own_dg ((p1 &&& (15 : Int32)) &&& (15 : Int32))) - (32 : Int32)).toUInt32.toUInt16.toUInt32.toInt32)), .val (.int (1 : Int32)), .val (.int ((p2 &&& (65535 : Int32)).toUInt32.toUInt16.toUInt32.toInt32)), .val (.int (own_f2 ((p2 &&& (65535 : Int32)).toUInt32.toUInt16.toUInt32.toInt32))), .val (.int (1 : Int32)), .unset] [(.int (1 : Int32))])) _
    refine XS.ifNo X6.here hx rfl (hb hby at_142) rfl ((if0 _ _).trans (feq hc142).1) ?_
    show Steps p.tables e below (T6.setTop (mkF m 145 #[.val (.int p1), .val (.int p2), .val (.int (p1 &&& (15 : Int32))), .val (.int (own_dg ((p1 &&& (15 : Int32)) &&& (15 : Int32)))), .val (.int (1 : Int32)), .val (.int (((own_dg ((p1 &&& (15 : Int32)) &&& (15 : Int32))) - (32 : Int32)).toUInt32.toUInt16.toUInt32.toInt32)), .val (.int (1 : Int32)), .val (.int ((p2 &&& (65535 : Int32)).toUInt32.toUInt16.toUInt32.toInt32)), .val (.int (own_f2 ((p2 &&& (65535 : Int32)).toUInt32.toUInt16.toUInt32.toInt32))), .val (.int (1 : Int32)), .unset] [])) _
    refine XS.iload X6.here hx rfl (hb hby at_145) rfl ?_
    show Steps p.tables e below (T6.setTop (mkF m 147 #[.val (.int p1), .val (.int p2), .val (.int (p1 &&& (15 : Int32))), .val (.int (own_dg ((p1 &&& (15 : Int32)) &&& (15 : Int32)))), .val (.int (1 : Int32)), .val (.int (((own_dg ((p1 &&& (15 : Int32)) &&& (15 : Int32))) - (32 : Int32)).toUInt32.toUInt16.toUInt32.toInt32)), .val (.int (1 : Int32)), .val (.int ((p2 &&& (65535 : Int32)).toUInt32.toUInt16.toUInt32.toInt32)), .val (.int (own_f2 ((p2 &&& (65535 : Int32)).toUInt32.toUInt16.toUInt32.toInt32))), .val (.int (1 : Int32)), .unset] [(.int (1 : Int32))])) _
    refine XS.ifNo X6.here hx rfl (hb hby at_147) rfl ((if0 _ _).trans (feq hc147).1) ?_
    show Steps p.tables e below (T6.setTop (mkF m 150 #[.val (.int p1), .val (.int p2), .val (.int (p1 &&& (15 : Int32))), .val (.int (own_dg ((p1 &&& (15 : Int32)) &&& (15 : Int32)))), .val (.int (1 : Int32)), .val (.int (((own_dg ((p1 &&& (15 : Int32)) &&& (15 : Int32))) - (32 : Int32)).toUInt32.toUInt16.toUInt32.toInt32)), .val (.int (1 : Int32)), .val (.int ((p2 &&& (65535 : Int32)).toUInt32.toUInt16.toUInt32.toInt32)), .val (.int (own_f2 ((p2 &&& (65535 : Int32)).toUInt32.toUInt16.toUInt32.toInt32))), .val (.int (1 : Int32)), .unset] [])) _
    refine XS.iload X6.here hx rfl (hb hby at_150) rfl ?_
    show Steps p.tables e below (T6.setTop (mkF m 152 #[.val (.int p1), .val (.int p2), .val (.int (p1 &&& (15 : Int32))), .val (.int (own_dg ((p1 &&& (15 : Int32)) &&& (15 : Int32)))), .val (.int (1 : Int32)), .val (.int (((own_dg ((p1 &&& (15 : Int32)) &&& (15 : Int32))) - (32 : Int32)).toUInt32.toUInt16.toUInt32.toInt32)), .val (.int (1 : Int32)), .val (.int ((p2 &&& (65535 : Int32)).toUInt32.toUInt16.toUInt32.toInt32)), .val (.int (own_f2 ((p2 &&& (65535 : Int32)).toUInt32.toUInt16.toUInt32.toInt32))), .val (.int (1 : Int32)), .unset] [(.int (1 : Int32))])) _
    refine XS.ifNo X6.here hx rfl (hb hby at_152) rfl ((if0 _ _).trans (feq hc152).1) ?_
    show Steps p.tables e below (T6.setTop (mkF m 155 #[.val (.int p1), .val (.int p2), .val (.int (p1 &&& (15 : Int32))), .val (.int (own_dg ((p1 &&& (15 : Int32)) &&& (15 : Int32)))), .val (.int (1 : Int32)), .val (.int (((own_dg ((p1 &&& (15 : Int32)) &&& (15 : Int32))) - (32 : Int32)).toUInt32.toUInt16.toUInt32.toInt32)), .val (.int (1 : Int32)), .val (.int ((p2 &&& (65535 : Int32)).toUInt32.toUInt16.toUInt32.toInt32)), .val (.int (own_f2 ((p2 &&& (65535 : Int32)).toUInt32.toUInt16.toUInt32.toInt32))), .val (.int (1 : Int32)), .unset] [])) _
    refine XS.iconst X6.here hx rfl (hb hby at_155) ?_
    show Steps p.tables e below (T6.setTop (mkF m 156 #[.val (.int p1), .val (.int p2), .val (.int (p1 &&& (15 : Int32))), .val (.int (own_dg ((p1 &&& (15 : Int32)) &&& (15 : Int32)))), .val (.int (1 : Int32)), .val (.int (((own_dg ((p1 &&& (15 : Int32)) &&& (15 : Int32))) - (32 : Int32)).toUInt32.toUInt16.toUInt32.toInt32)), .val (.int (1 : Int32)), .val (.int ((p2 &&& (65535 : Int32)).toUInt32.toUInt16.toUInt32.toInt32)), .val (.int (own_f2 ((p2 &&& (65535 : Int32)).toUInt32.toUInt16.toUInt32.toInt32))), .val (.int (1 : Int32)), .unset] [(.int (1 : Int32))])) _
    refine XS.goto X6.here hx rfl (pc0 := 156) (pc' := 160) rfl (hb hby at_156) (by decide) (by decide) ?_
    show Steps p.tables e below (T6.setTop (mkF m 160 #[.val (.int p1), .val (.int p2), .val (.int (p1 &&& (15 : Int32))), .val (.int (own_dg ((p1 &&& (15 : Int32)) &&& (15 : Int32)))), .val (.int (1 : Int32)), .val (.int (((own_dg ((p1 &&& (15 : Int32)) &&& (15 : Int32))) - (32 : Int32)).toUInt32.toUInt16.toUInt32.toInt32)), .val (.int (1 : Int32)), .val (.int ((p2 &&& (65535 : Int32)).toUInt32.toUInt16.toUInt32.toInt32)), .val (.int (own_f2 ((p2 &&& (65535 : Int32)).toUInt32.toUInt16.toUInt32.toInt32))), .val (.int (1 : Int32)), .unset] [(.int (1 : Int32))])) _
    exact retN X6 hx (t := .boolean) Bd.returns (by simp) (hb hby at_160) hr
  · show Q0 Z h0 n0 _ T6.heap _
    exact ⟨rfl, N6⟩
set_option maxRecDepth 65536 in
set_option maxHeartbeats 40000000 in
theorem rm0_fB (l : Launch) (Z : State) (a0 : Array Value) (hw : ∀ d ∈ tables_1, d.before a0 Z = true) (ws : List Jvm.Cond) (p1 : Int32) (p2 : Int32) (wd : Addr) (cl : Cell) (h0 : Heap) (n0 : Nat) (Z0 : n0 ≤ h0.size) (S_DIGITS : Sta Z h0 "com/example/varpack/varpack/Hex" "DIGITS" "[C" (.ref wd)) (Ar : Arr Z h0 wd cl .char) (hin : ∀ p : Int32, ¬ ((p &&& (15 : Int32)) < 0 ∨ cl.slots.size ≤ (p &&& (15 : Int32)).toNatClampNeg)) (hat : ∀ p : Int32, cl.slots[(p &&& (15 : Int32)).toNatClampNeg]? = some (.int (own_dg (p &&& (15 : Int32))))) (ht15 : (own_f2 (own_dg ((p1 &&& (15 : Int32)) &&& (15 : Int32)))) = (p1 &&& (15 : Int32))) (hc28 : ¬ ((p1 &&& (15 : Int32)) < (10 : Int32))) (ht48 : (own_f2 (((own_dg ((p1 &&& (15 : Int32)) &&& (15 : Int32))) - (32 : Int32)).toUInt32.toUInt16.toUInt32.toInt32)) = (p1 &&& (15 : Int32))) (ht75 : ¬ ((own_f2 ((p2 &&& (65535 : Int32)).toUInt32.toUInt16.toUInt32.toInt32)) = (-1 : Int32))) (ht86 : ¬ ((own_f2 ((p2 &&& (65535 : Int32)).toUInt32.toUInt16.toUInt32.toInt32)) < (0 : Int32))) (ht93 : ¬ ((15 : Int32) < (own_f2 ((p2 &&& (65535 : Int32)).toUInt32.toUInt16.toUInt32.toInt32)))) (ht107 : (own_dg ((own_f2 ((p2 &&& (65535 : Int32)).toUInt32.toUInt16.toUInt32.toInt32)) &&& (15 : Int32))) = ((p2 &&& (65535 : Int32)).toUInt32.toUInt16.toUInt32.toInt32)) (hc142 : ¬ ((1 : Int32) = (0 : Int32))) (hc147 : ¬ ((1 : Int32) = (0 : Int32))) (hc152 : ¬ ((1 : Int32) = (0 : Int32))) :
    MetFree l x (head1 (Jvm.Cond.code x code maxLocals ret :: ws) room_1) (fun a U => a = #[(.int p1), (.int p2)] ∧ Z.Warmed39 U.vm ∧ U.heap = h0) (fun _ _ _ _ _ => True) (fun _ U o U' => ∃ v L, o = .returned v ∧ Q0 Z h0 n0 v U'.heap L ∧ FrameEnd U o U' L room_1.cells room_1.slots) := by
  refine MetFree.of_bodySF (plainFor_of_name pn_0) hisR ?_
  intro p e s m args below meth c s₁ Bd hml0 hP hK
  obtain ⟨rfl, hZ, hh⟩ := hP
  have hx := Bd.exec
  have hby := Bd.bytes
  have hml : c.maxLocals = 11 := hml0
  have hown : s.vm.findClass "com/example/varpack/varpack/HexValueOfPinLaw" = some m.cls := findClass_of_methodNamed Bd.named
  have hnm := (name_of_methodNamed Bd.named Bd.method).1
  have X0 : Stand p l e room_1 s m #[(.int p1), (.int p2)] below meth c s₁ [] 0 0 := Stand.of_body Bd
  have e0 : s₁.heap = h0 := by rw [← hh, Bd.state]; rfl
  have N0 := Fr.nil n0
  have pre0 : ∀ t, Steps p.tables e below (s₁.setTop (mkF m 0 #[.val (.int p1), .val (.int p2), .unset, .unset, .unset, .unset, .unset, .unset, .unset, .unset, .unset] [])) t → Steps p.tables e below (s₁.setTop (entryFrame m #[(.int p1), (.int p2)] maxLocals)) t := fun t k => castTop (ef_0 m p1 p2) k
  -- 3. LAWS
  -- pc 6: com/example/varpack/varpack/Hex.digit by its contract rm1
  obtain ⟨_, _, ⟨T3, L3, k3, n3⟩, -, X3, ⟨Lc3, hQ3, l3, y3, z3⟩, st3⟩ := Jvm.LawKit.callS X0 hx (y := (⟨"com/example/varpack/varpack/Hex", "digit", "(I)C"⟩ : MethodName)) hown (mvT hZ (hw _ (List.mem_of_getElem? (i := 0) rfl))) (mvT hZ (hw _ (List.mem_of_getElem? (i := 1) rfl))) (mvT hZ (hw _ (List.mem_of_getElem? (i := 2) rfl))) (mvT hZ (hw _ (List.mem_of_getElem? (i := 3) rfl))) (by decide) (backOf (W := 0) (rm1 l Z a0 hw [] (p1 &&& (15 : Int32)) wd (own_dg ((p1 &&& (15 : Int32)) &&& (15 : Int32))) cl h0 n0 Z0 S_DIGITS Ar (hin _) (hat _) (own_hn _)) hZ (hw _ (List.mem_of_getElem? (i := 3) rfl)) (hw _ (List.mem_of_getElem? (i := 2) rfl)) (by decide) (by decide)) (g := (mkF m 6 #[.val (.int p1), .val (.int p2), .val (.int (p1 &&& (15 : Int32))), .unset, .unset, .unset, .unset, .unset, .unset, .unset, .unset] [(.int (p1 &&& (15 : Int32)))])) rfl (by rw [hml]; rfl) (argsL := [(.int (p1 &&& (15 : Int32)))]) (rest := []) (lenOf pd_0_0 rfl) rfl (by show 2 * 0 + _ ≤ _; exact Nat.le_of_eq rfl) (hb hby at_6) (fun _ _ => ⟨rfl, e0, (by decide : 0 + 0 ≤ _), (by decide : 0 + 0 ≤ _)⟩)
  dsimp only [Pt.U, Pt.locs, Pt.cells, Pt.slots] at X3 l3 y3 z3 st3 hQ3
  subst l3 y3 z3
  obtain ⟨rfl, N3q, e3q⟩ := hQ3
  have N3 := Fr.app N0 N3q
  have K3q : Keep h0 T3.heap [] := own_keep e3q
  have KH3 : Keep h0 T3.heap [] := (Keep.refl h0 []).trans K3q own_ws0
  have eh3 : T3.heap = h0 := by rw [e3q]
  -- pc 11: com/example/varpack/varpack/Hex.valueOf by its contract rm2
  obtain ⟨_, _, ⟨T4, L4, k4, n4⟩, -, X4, ⟨Lc4, hQ4, l4, y4, z4⟩, st4⟩ := Jvm.LawKit.callS X3 hx (y := (⟨"com/example/varpack/varpack/Hex", "valueOf", "(C)I"⟩ : MethodName)) hown (mvT hZ (hw _ (List.mem_of_getElem? (i := 6) rfl))) (mvT hZ (hw _ (List.mem_of_getElem? (i := 7) rfl))) (mvT hZ (hw _ (List.mem_of_getElem? (i := 2) rfl))) (mvT hZ (hw _ (List.mem_of_getElem? (i := 8) rfl))) (by decide) (backOf (W := 0) (rm2 l Z a0 hw [] (own_dg ((p1 &&& (15 : Int32)) &&& (15 : Int32)))  T3.heap n0 (Nat.le_trans Z0 KH3.1)) hZ (hw _ (List.mem_of_getElem? (i := 8) rfl)) (hw _ (List.mem_of_getElem? (i := 2) rfl)) (by decide) (by decide)) (g := (mkF m 11 #[.val (.int p1), .val (.int p2), .val (.int (p1 &&& (15 : Int32))), .val (.int (own_dg ((p1 &&& (15 : Int32)) &&& (15 : Int32)))), .unset, .unset, .unset, .unset, .unset, .unset, .unset] [(.int (own_dg ((p1 &&& (15 : Int32)) &&& (15 : Int32))))])) rfl (by rw [hml]; rfl) (argsL := [(.int (own_dg ((p1 &&& (15 : Int32)) &&& (15 : Int32))))]) (rest := []) (lenOf pd_0_1 rfl) rfl (by show 2 * 0 + _ ≤ _; exact Nat.le_of_eq rfl) (hb hby at_11) (fun _ _ => ⟨rfl, rfl, (by decide : 0 + 0 ≤ _), (by decide : 0 + 0 ≤ _)⟩)
  dsimp only [Pt.U, Pt.locs, Pt.cells, Pt.slots] at X4 l4 y4 z4 st4 hQ4
  subst l4 y4 z4
  obtain ⟨rfl, N4q, e4q⟩ := hQ4
  have N4 := Fr.app N3 N4q
  have K4q : Keep T3.heap T4.heap [] := own_keep e4q
  have KH4 : Keep h0 T4.heap [] := KH3.trans K4q own_ws0
  have eh4 : T4.heap = h0 := by rw [e4q]; exact eh3
  -- pc 44: com/example/varpack/varpack/Hex.valueOf by its contract rm2
  obtain ⟨_, _, ⟨T5, L5, k5, n5⟩, -, X5, ⟨Lc5, hQ5, l5, y5, z5⟩, st5⟩ := Jvm.LawKit.callS X4 hx (y := (⟨"com/example/varpack/varpack/Hex", "valueOf", "(C)I"⟩ : MethodName)) hown (mvT hZ (hw _ (List.mem_of_getElem? (i := 6) rfl))) (mvT hZ (hw _ (List.mem_of_getElem? (i := 7) rfl))) (mvT hZ (hw _ (List.mem_of_getElem? (i := 2) rfl))) (mvT hZ (hw _ (List.mem_of_getElem? (i := 8) rfl))) (by decide) (backOf (W := 0) (rm2 l Z a0 hw [] (((own_dg ((p1 &&& (15 : Int32)) &&& (15 : Int32))) - (32 : Int32)).toUInt32.toUInt16.toUInt32.toInt32)  T4.heap n0 (Nat.le_trans Z0 KH4.1)) hZ (hw _ (List.mem_of_getElem? (i := 8) rfl)) (hw _ (List.mem_of_getElem? (i := 2) rfl)) (by decide) (by decide)) (g := (mkF m 44 #[.val (.int p1), .val (.int p2), .val (.int (p1 &&& (15 : Int32))), .val (.int (own_dg ((p1 &&& (15 : Int32)) &&& (15 : Int32)))), .val (.int (1 : Int32)), .val (.int (((own_dg ((p1 &&& (15 : Int32)) &&& (15 : Int32))) - (32 : Int32)).toUInt32.toUInt16.toUInt32.toInt32)), .unset, .unset, .unset, .unset, .unset] [(.int (((own_dg ((p1 &&& (15 : Int32)) &&& (15 : Int32))) - (32 : Int32)).toUInt32.toUInt16.toUInt32.toInt32))])) rfl (by rw [hml]; rfl) (argsL := [(.int (((own_dg ((p1 &&& (15 : Int32)) &&& (15 : Int32))) - (32 : Int32)).toUInt32.toUInt16.toUInt32.toInt32))]) (rest := []) (lenOf pd_0_1 rfl) rfl (by show 2 * 0 + _ ≤ _; exact Nat.le_of_eq rfl) (hb hby at_44) (fun _ _ => ⟨rfl, rfl, (by decide : 0 + 0 ≤ _), (by decide : 0 + 0 ≤ _)⟩)
  dsimp only [Pt.U, Pt.locs, Pt.cells, Pt.slots] at X5 l5 y5 z5 st5 hQ5
  subst l5 y5 z5
  obtain ⟨rfl, N5q, e5q⟩ := hQ5
  have N5 := Fr.app N4 N5q
  have K5q : Keep T4.heap T5.heap [] := own_keep e5q
  have KH5 : Keep h0 T5.heap [] := KH4.trans K5q own_ws0
  have eh5 : T5.heap = h0 := by rw [e5q]; exact eh4
  -- pc 67: com/example/varpack/varpack/Hex.valueOf by its contract rm2
  obtain ⟨_, _, ⟨T6, L6, k6, n6⟩, -, X6, ⟨Lc6, hQ6, l6, y6, z6⟩, st6⟩ := Jvm.LawKit.callS X5 hx (y := (⟨"com/example/varpack/varpack/Hex", "valueOf", "(C)I"⟩ : MethodName)) hown (mvT hZ (hw _ (List.mem_of_getElem? (i := 6) rfl))) (mvT hZ (hw _ (List.mem_of_getElem? (i := 7) rfl))) (mvT hZ (hw _ (List.mem_of_getElem? (i := 2) rfl))) (mvT hZ (hw _ (List.mem_of_getElem? (i := 8) rfl))) (by decide) (backOf (W := 0) (rm2 l Z a0 hw [] ((p2 &&& (65535 : Int32)).toUInt32.toUInt16.toUInt32.toInt32)  T5.heap n0 (Nat.le_trans Z0 KH5.1)) hZ (hw _ (List.mem_of_getElem? (i := 8) rfl)) (hw _ (List.mem_of_getElem? (i := 2) rfl)) (by decide) (by decide)) (g := (mkF m 67 #[.val (.int p1), .val (.int p2), .val (.int (p1 &&& (15 : Int32))), .val (.int (own_dg ((p1 &&& (15 : Int32)) &&& (15 : Int32)))), .val (.int (1 : Int32)), .val (.int (((own_dg ((p1 &&& (15 : Int32)) &&& (15 : Int32))) - (32 : Int32)).toUInt32.toUInt16.toUInt32.toInt32)), .val (.int (1 : Int32)), .val (.int ((p2 &&& (65535 : Int32)).toUInt32.toUInt16.toUInt32.toInt32)), .unset, .unset, .unset] [(.int ((p2 &&& (65535 : Int32)).toUInt32.toUInt16.toUInt32.toInt32))])) rfl (by rw [hml]; rfl) (argsL := [(.int ((p2 &&& (65535 : Int32)).toUInt32.toUInt16.toUInt32.toInt32))]) (rest := []) (lenOf pd_0_1 rfl) rfl (by show 2 * 0 + _ ≤ _; exact Nat.le_of_eq rfl) (hb hby at_67) (fun _ _ => ⟨rfl, rfl, (by decide : 0 + 0 ≤ _), (by decide : 0 + 0 ≤ _)⟩)
  dsimp only [Pt.U, Pt.locs, Pt.cells, Pt.slots] at X6 l6 y6 z6 st6 hQ6
  subst l6 y6 z6
  obtain ⟨rfl, N6q, e6q⟩ := hQ6
  have N6 := Fr.app N5 N6q
  have K6q : Keep T5.heap T6.heap [] := own_keep e6q
  have KH6 : Keep h0 T6.heap [] := KH5.trans K6q own_ws0
  have eh6 : T6.heap = h0 := by rw [e6q]; exact eh5
  -- pc 98: com/example/varpack/varpack/Hex.digit by its contract rm1
  obtain ⟨_, _, ⟨T7, L7, k7, n7⟩, -, X7, ⟨Lc7, hQ7, l7, y7, z7⟩, st7⟩ := Jvm.LawKit.callS X6 hx (y := (⟨"com/example/varpack/varpack/Hex", "digit", "(I)C"⟩ : MethodName)) hown (mvT hZ (hw _ (List.mem_of_getElem? (i := 0) rfl))) (mvT hZ (hw _ (List.mem_of_getElem? (i := 1) rfl))) (mvT hZ (hw _ (List.mem_of_getElem? (i := 2) rfl))) (mvT hZ (hw _ (List.mem_of_getElem? (i := 3) rfl))) (by decide) (backOf (W := 0) (rm1 l Z a0 hw [] (own_f2 ((p2 &&& (65535 : Int32)).toUInt32.toUInt16.toUInt32.toInt32)) wd (own_dg ((own_f2 ((p2 &&& (65535 : Int32)).toUInt32.toUInt16.toUInt32.toInt32)) &&& (15 : Int32))) cl T6.heap n0 (Nat.le_trans Z0 KH6.1) (by rw [eh6]; exact S_DIGITS) (by rw [eh6]; exact Ar) (hin _) (hat _) (own_hn _)) hZ (hw _ (List.mem_of_getElem? (i := 3) rfl)) (hw _ (List.mem_of_getElem? (i := 2) rfl)) (by decide) (by decide)) (g := (mkF m 98 #[.val (.int p1), .val (.int p2), .val (.int (p1 &&& (15 : Int32))), .val (.int (own_dg ((p1 &&& (15 : Int32)) &&& (15 : Int32)))), .val (.int (1 : Int32)), .val (.int (((own_dg ((p1 &&& (15 : Int32)) &&& (15 : Int32))) - (32 : Int32)).toUInt32.toUInt16.toUInt32.toInt32)), .val (.int (1 : Int32)), .val (.int ((p2 &&& (65535 : Int32)).toUInt32.toUInt16.toUInt32.toInt32)), .val (.int (own_f2 ((p2 &&& (65535 : Int32)).toUInt32.toUInt16.toUInt32.toInt32))), .unset, .unset] [(.int (own_f2 ((p2 &&& (65535 : Int32)).toUInt32.toUInt16.toUInt32.toInt32)))])) rfl (by rw [hml]; rfl) (argsL := [(.int (own_f2 ((p2 &&& (65535 : Int32)).toUInt32.toUInt16.toUInt32.toInt32)))]) (rest := []) (lenOf pd_0_0 rfl) rfl (by show 2 * 0 + _ ≤ _; exact Nat.le_of_eq rfl) (hb hby at_98) (fun _ _ => ⟨rfl, rfl, (by decide : 0 + 0 ≤ _), (by decide : 0 + 0 ≤ _)⟩)
  dsimp only [Pt.U, Pt.locs, Pt.cells, Pt.slots] at X7 l7 y7 z7 st7 hQ7
  subst l7 y7 z7
  obtain ⟨rfl, N7q, e7q⟩ := hQ7
  have N7 := Fr.app N6 N7q
  have K7q : Keep T6.heap T7.heap [] := own_keep e7q
  have KH7 : Keep h0 T7.heap [] := KH6.trans K7q own_ws0
  have eh7 : T7.heap = h0 := by rw [e7q]; exact eh6
  obtain ⟨fs, hr, hrun, hended, hW, hsame⟩ := X7.leave (v := some (.int (1 : Int32))) (fun h => by rw [Bd.returns] at h; cases h) (BodyLoose.notSynchronized Bd)
  refine ⟨_, _, pre0 _ ?_, hrun, hended, _, _, rfl, ?_, ⟨_, rfl⟩, hW, hsame.mono (by decide) (by decide)⟩
  -- 4. STEPS
  · show Steps p.tables e below (s₁.setTop (mkF m 0 #[.val (.int p1), .val (.int p2), .unset, .unset, .unset, .unset, .unset, .unset, .unset, .unset, .unset] [])) _
    refine XS.iloadN X0.here hx rfl (hb hby at_0) rfl ?_
    show Steps p.tables e below (s₁.setTop (mkF m 1 #[.val (.int p1), .val (.int p2), .unset, .unset, .unset, .unset, .unset, .unset, .unset, .unset, .unset] [(.int p1)])) _
    refine XS.bipush X0.here hx rfl (hb hby at_1) ?_
    show Steps p.tables e below (s₁.setTop (mkF m 3 #[.val (.int p1), .val (.int p2), .unset, .unset, .unset, .unset, .unset, .unset, .unset, .unset, .unset] [(.int (15 : Int32)), (.int p1)])) _
    refine XS.iand X0.here hx rfl (hb hby at_3) rfl ?_
    show Steps p.tables e below (s₁.setTop (mkF m 4 #[.val (.int p1), .val (.int p2), .unset, .unset, .unset, .unset, .unset, .unset, .unset, .unset, .unset] [(.int (p1 &&& (15 : Int32)))])) _
    refine XS.istoreN X0.here hx rfl (hb hby at_4) rfl (l' := #[.val (.int p1), .val (.int p2), .val (.int (p1 &&& (15 : Int32))), .unset, .unset, .unset, .unset, .unset, .unset, .unset, .unset]) rfl ?_
    show Steps p.tables e below (s₁.setTop (mkF m 5 #[.val (.int p1), .val (.int p2), .val (.int (p1 &&& (15 : Int32))), .unset, .unset, .unset, .unset, .unset, .unset, .unset, .unset] [])) _
    refine XS.iloadN X0.here hx rfl (hb hby at_5) rfl ?_
    show Steps p.tables e below (s₁.setTop (mkF m 6 #[.val (.int p1), .val (.int p2), .val (.int (p1 &&& (15 : Int32))), .unset, .unset, .unset, .unset, .unset, .unset, .unset, .unset] [(.int (p1 &&& (15 : Int32)))])) _
    refine st3 _ ?_
    show Steps p.tables e below (T3.setTop (mkF m 9 #[.val (.int p1), .val (.int p2), .val (.int (p1 &&& (15 : Int32))), .unset, .unset, .unset, .unset, .unset, .unset, .unset, .unset] [(.int (own_dg ((p1 &&& (15 : Int32)) &&& (15 : Int32))))])) _
    refine XS.istoreN X3.here hx rfl (hb hby at_9) rfl (l' := #[.val (.int p1), .val (.int p2), .val (.int (p1 &&& (15 : Int32))), .val (.int (own_dg ((p1 &&& (15 : Int32)) &&& (15 : Int32)))), .unset, .unset, .unset, .unset, .unset, .unset, .unset]) rfl ?_
    show Steps p.tables e below (T3.setTop (mkF m 10 #[.val (.int p1), .val (.int p2), .val (.int (p1 &&& (15 : Int32))), .val (.int (own_dg ((p1 &&& (15 : Int32)) &&& (15 : Int32)))), .unset, .unset, .unset, .unset, .unset, .unset, .unset] [])) _
    refine XS.iloadN X3.here hx rfl (hb hby at_10) rfl ?_
    show Steps p.tables e below (T3.setTop (mkF m 11 #[.val (.int p1), .val (.int p2), .val (.int (p1 &&& (15 : Int32))), .val (.int (own_dg ((p1 &&& (15 : Int32)) &&& (15 : Int32)))), .unset, .unset, .unset, .unset, .unset, .unset, .unset] [(.int (own_dg ((p1 &&& (15 : Int32)) &&& (15 : Int32))))])) _
    refine st4 _ ?_
    show Steps p.tables e below (T4.setTop (mkF m 14 #[.val (.int p1), .val (.int p2), .val (.int (p1 &&& (15 : Int32))), .val (.int (own_dg ((p1 &&& (15 : Int32)) &&& (15 : Int32)))), .unset, .unset, .unset, .unset, .unset, .unset, .unset] [(.int (own_f2 (own_dg ((p1 &&& (15 : Int32)) &&& (15 : Int32)))))])) _
    refine XS.iloadN X4.here hx rfl (hb hby at_14) rfl ?_
    show Steps p.tables e below (T4.setTop (mkF m 15 #[.val (.int p1), .val (.int p2), .val (.int (p1 &&& (15 : Int32))), .val (.int (own_dg ((p1 &&& (15 : Int32)) &&& (15 : Int32)))), .unset, .unset, .unset, .unset, .unset, .unset, .unset] [(.int (p1 &&& (15 : Int32))), (.int (own_f2 (own_dg ((p1 &&& (15 : Int32)) &&& (15 : Int32)))))])) _
    refine XS.icmpNo X4.here hx rfl (hb hby at_15) rfl (teq ht15).2 ?_
    show Steps p.tables e below (T4.setTop (mkF m 18 #[.val (.int p1), .val (.int p2), .val (.int (p1 &&& (15 : Int32))), .val (.int (own_dg ((p1 &&& (15 : Int32)) &&& (15 : Int32)))), .unset, .unset, .unset, .unset, .unset, .unset, .unset] [])) _
    refine XS.iconst X4.here hx rfl (hb hby at_18) ?_
    show Steps p.tables e below (T4.setTop (mkF m 19 #[.val (.int p1), .val (.int p2), .val (.int (p1 &&& (15 : Int32))), .val (.int (own_dg ((p1 &&& (15 : Int32)) &&& (15 : Int32)))), .unset, .unset, .unset, .unset, .unset, .unset, .unset] [(.int (1 : Int32))])) _
    refine XS.goto X4.here hx rfl (pc0 := 19) (pc' := 23) rfl (hb hby at_19) (by decide) (by decide) ?_
    show Steps p.tables e below (T4.setTop (mkF m 23 #[.val (.int p1), .val (.int p2), .val (.int (p1 &&& (15 : Int32))), .val (.int (own_dg ((p1 &&& (15 : Int32)) &&& (15 : Int32)))), .unset, .unset, .unset, .unset, .unset, .unset, .unset] [(.int (1 : Int32))])) _
    refine XS.istore X4.here hx rfl (hb hby at_23) rfl (l' := #[.val (.int p1), .val (.int p2), .val (.int (p1 &&& (15 : Int32))), .val (.int (own_dg ((p1 &&& (15 : Int32)) &&& (15 : Int32)))), .val (.int (1 : Int32)), .unset, .unset, .unset, .unset, .unset, .unset]) rfl ?_
    show Steps p.tables e below (T4.setTop (mkF m 25 #[.val (.int p1), .val (.int p2), .val (.int (p1 &&& (15 : Int32))), .val (.int (own_dg ((p1 &&& (15 : Int32)) &&& (15 : Int32)))), .val (.int (1 : Int32)), .unset, .unset, .unset, .unset, .unset, .unset] [])) _
    refine XS.iloadN X4.here hx rfl (hb hby at_25) rfl ?_
    show Steps p.tables e below (T4.setTop (mkF m 26 #[.val (.int p1), .val (.int p2), .val (.int (p1 &&& (15 : Int32))), .val (.int (own_dg ((p1 &&& (15 : Int32)) &&& (15 : Int32)))), .val (.int (1 : Int32)), .unset, .unset, .unset, .unset, .unset, .unset] [(.int (p1 &&& (15 : Int32)))])) _
    refine XS.bipush X4.here hx rfl (hb hby at_26) ?_
    show Steps p.tables e below (T4.setTop (mkF m 28 #[.val (.int p1), .val (.int p2), .val (.int (p1 &&& (15 : Int32))), .val (.int (own_dg ((p1 &&& (15 : Int32)) &&& (15 : Int32)))), .val (.int (1 : Int32)), .unset, .unset, .unset, .unset, .unset, .unset] [(.int (10 : Int32)), (.int (p1 &&& (15 : Int32)))])) _
    refine XS.icmpNo X4.here hx rfl (hb hby at_28) rfl (flt hc28).1 ?_
    show Steps p.tables e below (T4.setTop (mkF m 31 #[.val (.int p1), .val (.int p2), .val (.int (p1 &&& (15 : Int32))), .val (.int (own_dg ((p1 &&& (15 : Int32)) &&& (15 : Int32)))), .val (.int (1 : Int32)), .unset, .unset, .unset, .unset, .unset, .unset] [])) _
    refine XS.iloadN X4.here hx rfl (hb hby at_31) rfl ?_
    show Steps p.tables e below (T4.setTop (mkF m 32 #[.val (.int p1), .val (.int p2), .val (.int (p1 &&& (15 : Int32))), .val (.int (own_dg ((p1 &&& (15 : Int32)) &&& (15 : Int32)))), .val (.int (1 : Int32)), .unset, .unset, .unset, .unset, .unset, .unset] [(.int (own_dg ((p1 &&& (15 : Int32)) &&& (15 : Int32))))])) _
    refine XS.bipush X4.here hx rfl (hb hby at_32) ?_
    show Steps p.tables e below (T4.setTop (mkF m 34 #[.val (.int p1), .val (.int p2), .val (.int (p1 &&& (15 : Int32))), .val (.int (own_dg ((p1 &&& (15 : Int32)) &&& (15 : Int32)))), .val (.int (1 : Int32)), .unset, .unset, .unset, .unset, .unset, .unset] [(.int (32 : Int32)), (.int (own_dg ((p1 &&& (15 : Int32)) &&& (15 : Int32))))])) _
    refine XS.isub X4.here hx rfl (hb hby at_34) rfl ?_
    show Steps p.tables e below (T4.setTop (mkF m 35 #[.val (.int p1), .val (.int p2), .val (.int (p1 &&& (15 : Int32))), .val (.int (own_dg ((p1 &&& (15 : Int32)) &&& (15 : Int32)))), .val (.int (1 : Int32)), .unset, .unset, .unset, .unset, .unset, .unset] [(.int ((own_dg ((p1 &&& (15 : Int32)) &&& (15 : Int32))) - (32 : Int32)))])) _
    refine XS.i2c X4.here hx rfl (hb hby at_35) rfl ?_
    show Steps p.tables e below (T4.setTop (mkF m 36 #[.val (.int p1), .val (.int p2), .val (.int (p1 &&& (15 : Int32))), .val (.int (own_dg ((p1 &&& (15 : Int32)) &&& (15 : Int32)))), .val (.int (1 : Int32)), .unset, .unset, .unset, .unset, .unset, .unset] [(.int (((own_dg ((p1 &&& (15 : Int32)) &&& (15 : Int32))) - (32 : Int32)).toUInt32.toUInt16.toUInt32.toInt32))])) _
    refine XS.goto X4.here hx rfl (pc0 := 36) (pc' := 40) rfl (hb hby at_36) (by decide) (by decide) ?_
    show Steps p.tables e below (T4.setTop (mkF m 40 #[.val (.int p1), .val (.int p2), .val (.int (p1 &&& (15 : Int32))), .val (.int (own_dg ((p1 &&& (15 : Int32)) &&& (15 : Int32)))), .val (.int (1 : Int32)), .unset, .unset, .unset, .unset, .unset, .unset] [(.int (((own_dg ((p1 &&& (15 : Int32)) &&& (15 : Int32))) - (32 : Int32)).toUInt32.toUInt16.toUInt32.toInt32))])) _
    refine XS.istore X4.here hx rfl (hb hby at_40) rfl (l' := #[.val (.int p1), .val (.int p2), .val (.int (p1 &&& (15 : Int32))), .val (.int (own_dg ((p1 &&& (15 : Int32)) &&& (15 : Int32)))), .val (.int (1 : Int32)), .val (.int (((own_dg ((p1 &&& (15 : Int32)) &&& (15 : Int32))) - (32 : Int32)).toUInt32.toUInt16.toUInt32.toInt32)), .unset, .unset, .unset, .unset, .unset]) rfl ?_
    show Steps p.tables e below (T4.setTop (mkF m 42 #[.val (.int p1), .val (.int p2), .val (.int (p1 &&& (15 : Int32))), .val (.int (own_dg ((p1 &&& (15 : Int32)) &&& (15 : Int32)))), .val (.int (1 : Int32)), .val (.int (((own_dg ((p1 &&& (15 : Int32)) &&& (15 : Int32))) - (32 : Int32)).toUInt32.toUInt16.toUInt32.toInt32)), .unset, .unset, .unset, .unset, .unset] [])) _
    refine XS.iload X4.here hx rfl (hb hby at_42) rfl ?_
    show Steps p.tables e below (T4.setTop (mkF m 44 #[.val (.int p1), .val (.int p2), .val (.int (p1 &&& (15 : Int32))), .val (.int (own_dg ((p1 &&& (15 : Int32)) &&& (15 : Int32)))), .val (.int (1 : Int32)), .val (.int (((own_dg ((p1 &&& (15 : Int32)) &&& (15 : Int32))) - (32 : Int32)).toUInt32.toUInt16.toUInt32.toInt32)), .unset, .unset, .unset, .unset, .unset] [(.int (((own_dg ((p1 &&& (15 : Int32)) &&& (15 : Int32))) - (32 : Int32)).toUInt32.toUInt16.toUInt32.toInt32))])) _
    refine st5 _ ?_
    show Steps p.tables e below (T5.setTop (mkF m 47 #[.val (.int p1), .val (.int p2), .val (.int (p1 &&& (15 : Int32))), .val (.int (own_dg ((p1 &&& (15 : Int32)) &&& (15 : Int32)))), .val (.int (1 : Int32)), .val (.int (((own_dg ((p1 &&& (15 : Int32)) &&& (15 : Int32))) - (32 : Int32)).toUInt32.toUInt16.toUInt32.toInt32)), .unset, .unset, .unset, .unset, .unset] [(.int (own_f2 (((own_dg ((p1 &&& (15 : Int32)) &&& (15 : Int32))) - (32 : Int32)).toUInt32.toUInt16.toUInt32.toInt32)))])) _
    refine XS.iloadN X5.here hx rfl (hb hby at_47) rfl ?_
    show Steps p.tables e below (T5.setTop (mkF m 48 #[.val (.int p1), .val (.int p2), .val (.int (p1 &&& (15 : Int32))), .val (.int (own_dg ((p1 &&& (15 : Int32)) &&& (15 : Int32)))), .val (.int (1 : Int32)), .val (.int (((own_dg ((p1 &&& (15 : Int32)) &&& (15 : Int32))) - (32 : Int32)).toUInt32.toUInt16.toUInt32.toInt32)), .unset, .unset, .unset, .unset, .unset] [(.int (p1 &&& (15 : Int32))), (.int (own_f2 (((own_dg ((p1 &&& (15 : Int32)) &&& (15 : Int32))) - (32 : Int32)).toUInt32.toUInt16.toUInt32.toInt32)))])) _
    refine XS.icmpNo X5.here hx rfl (hb hby at_48) rfl (teq ht48).2 ?_
    show Steps p.tables e below (T5.setTop (mkF m 51 #[.val (.int p1), .val (.int p2), .val (.int (p1 &&& (15 : Int32))), .val (.int (own_dg ((p1 &&& (15 : Int32)) &&& (15 : Int32)))), .val (.int (1 : Int32)), .val (.int (((own_dg ((p1 &&& (15 : Int32)) &&& (15 : Int32))) - (32 : Int32)).toUInt32.toUInt16.toUInt32.toInt32)), .unset, .unset, .unset, .unset, .unset] [])) _
    refine XS.iconst X5.here hx rfl (hb hby at_51) ?_
    show Steps p.tables e below (T5.setTop (mkF m 52 #[.val (.int p1), .val (.int p2), .val (.int (p1 &&& (15 : Int32))), .val (.int (own_dg ((p1 &&& (15 : Int32)) &&& (15 : Int32)))), .val (.int (1 : Int32)), .val (.int (((own_dg ((p1 &&& (15 : Int32)) &&& (15 : Int32))) - (32 : Int32)).toUInt32.toUInt16.toUInt32.toInt32)), .unset, .unset, .unset, .unset, .unset] [(.int (1 : Int32))])) _
    refine XS.goto X5.here hx rfl (pc0 := 52) (pc' := 56) rfl (hb hby at_52) (by decide) (by decide) ?_
    show Steps p.tables e below (T5.setTop (mkF m 56 #[.val (.int p1), .val (.int p2), .val (.int (p1 &&& (15 : Int32))), .val (.int (own_dg ((p1 &&& (15 : Int32)) &&& (15 : Int32)))), .val (.int (1 : Int32)), .val (.int (((own_dg ((p1 &&& (15 : Int32)) &&& (15 : Int32))) - (32 : Int32)).toUInt32.toUInt16.toUInt32.toInt32)), .unset, .unset, .unset, .unset, .unset] [(.int (1 : Int32))])) _
    refine XS.istore X5.here hx rfl (hb hby at_56) rfl (l' := #[.val (.int p1), .val (.int p2), .val (.int (p1 &&& (15 : Int32))), .val (.int (own_dg ((p1 &&& (15 : Int32)) &&& (15 : Int32)))), .val (.int (1 : Int32)), .val (.int (((own_dg ((p1 &&& (15 : Int32)) &&& (15 : Int32))) - (32 : Int32)).toUInt32.toUInt16.toUInt32.toInt32)), .val (.int (1 : Int32)), .unset, .unset, .unset, .unset]) rfl ?_
    show Steps p.tables e below (T5.setTop (mkF m 58 #[.val (.int p1), .val (.int p2), .val (.int (p1 &&& (15 : Int32))), .val (.int (own_dg ((p1 &&& (15 : Int32)) &&& (15 : Int32)))), .val (.int (1 : Int32)), .val (.int (((own_dg ((p1 &&& (15 : Int32)) &&& (15 : Int32))) - (32 : Int32)).toUInt32.toUInt16.toUInt32.toInt32)), .val (.int (1 : Int32)), .unset, .unset, .unset, .unset] [])) _
    refine XS.iloadN X5.here hx rfl (hb hby at_58) rfl ?_
    show Steps p.tables e below (T5.setTop (mkF m 59 #[.val (.int p1), .val (.int p2), .val (.int (p1 &&& (15 : Int32))), .val (.int (own_dg ((p1 &&& (15 : Int32)) &&& (15 : Int32)))), .val (.int (1 : Int32)), .val (.int (((own_dg ((p1 &&& (15 : Int32)) &&& (15 : Int32))) - (32 : Int32)).toUInt32.toUInt16.toUInt32.toInt32)), .val (.int (1 : Int32)), .unset, .unset, .unset, .unset] [(.int p2)])) _
    refine X5.ldcInt hx hown (mvT hZ (hw _ (List.mem_of_getElem? (i := 9) rfl))) (g := (mkF m 59 #[.val (.int p1), .val (.int p2), .val (.int (p1 &&& (15 : Int32))), .val (.int (own_dg ((p1 &&& (15 : Int32)) &&& (15 : Int32)))), .val (.int (1 : Int32)), .val (.int (((own_dg ((p1 &&& (15 : Int32)) &&& (15 : Int32))) - (32 : Int32)).toUInt32.toUInt16.toUInt32.toInt32)), .val (.int (1 : Int32)), .unset, .unset, .unset, .unset] [(.int p2)])) rfl (hb hby at_59) _ ?_
    show Steps p.tables e below (T5.setTop (mkF m 61 #[.val (.int p1), .val (.int p2), .val (.int (p1 &&& (15 : Int32))), .val (.int (own_dg ((p1 &&& (15 : Int32)) &&& (15 : Int32)))), .val (.int (1 : Int32)), .val (.int (((own_dg ((p1 &&& (15 : Int32)) &&& (15 : Int32))) - (32 : Int32)).toUInt32.toUInt16.toUInt32.toInt32)), .val (.int (1 : Int32)), .unset, .unset, .unset, .unset] [(.int (65535 : Int32)), (.int p2)])) _
    refine XS.iand X5.here hx rfl (hb hby at_61) rfl ?_
    show Steps p.tables e below (T5.setTop (mkF m 62 #[.val (.int p1), .val (.int p2), .val (.int (p1 &&& (15 : Int32))), .val (.int (own_dg ((p1 &&& (15 : Int32)) &&& (15 : Int32)))), .val (.int (1 : Int32)), .val (.int (((own_dg ((p1 &&& (15 : Int32)) &&& (15 : Int32))) - (32 : Int32)).toUInt32.toUInt16.toUInt32.toInt32)), .val (.int (1 : Int32)), .unset, .unset, .unset, .unset] [(.int (p2 &&& (65535 : Int32)))])) _
    refine XS.i2c X5.here hx rfl (hb hby at_62) rfl ?_
    show Steps p.tables e below (T5.setTop (mkF m 63 #[.val (.int p1), .val (.int p2), .val (.int (p1 &&& (15 : Int32))), .val (.int (own_dg ((p1 &&& (15 : Int32)) &&& (15 : Int32)))), .val (.int (1 : Int32)), .val (.int (((own_dg ((p1 &&& (15 : Int32)) &&& (15 : Int32))) - (32 : Int32)).toUInt32.toUInt16.toUInt32.toInt32)), .val (.int (1 : Int32)), .unset, .unset, .unset, .unset] [(.int ((p2 &&& (65535 : Int32)).toUInt32.toUInt16.toUInt32.toInt32))])) _
    refine XS.istore X5.here hx rfl (hb hby at_63) rfl (l' := #[.val (.int p1), .val (.int p2), .val (.int (p1 &&& (15 : Int32))), .val (.int (own_dg ((p1 &&& (15 : Int32)) &&& (15 : Int32)))), .val (.int (1 : Int32)), .val (.int (((own_dg ((p1 &&& (15 : Int32)) &&& (15 : Int32))) - (32 : Int32)).toUInt32.toUInt16.toUInt32.toInt32)), .val (.int (1 : Int32)), .val (.int ((p2 &&& (65535 : Int32)).toUInt32.toUInt16.toUInt32.toInt32)), .unset, .unset, .unset]) rfl ?_
    show Steps p.tables e below (T5.setTop (mkF m 65 #[.val (.int p1), .val (.int p2), .val (.int (p1 &&& (15 : Int32))), .val (.int (own_dg ((p1 &&& (15 : Int32)) &&& (15 : Int32)))), .val (.int (1 : Int32)), .val (.int (((own_dg ((p1 &&& (15 : Int32)) &&& (15 : Int32))) - (32 : Int32)).toUInt32.toUInt16.toUInt32.toInt32)), .val (.int (1 : Int32)), .val (.int ((p2 &&& (65535 : Int32)).toUInt32.toUInt16.toUInt32.toInt32)), .unset, .unset, .unset] [])) _
    refine XS.iload X5.here hx rfl (hb hby at_65) rfl ?_
    show Steps p.tables e below (T5.setTop (mkF m 67 #[.val (.int p1), .val (.int p2), .val (.int (p1 &&& (15 : Int32))), .val (.int (own_dg ((p1 &&& (15 : Int32)) &&& (15 : Int32)))), .val (.int (1 : Int32)), .val (.int (((own_dg ((p1 &&& (15 : Int32)) &&& (15 : Int32))) - (32 : Int32)).toUInt32.toUInt16.toUInt32.toInt32)), .val (.int (1 : Int32)), .val (.int ((p2 &&& (65535 : Int32)).toUInt32.toUInt16.toUInt32.toInt32)), .unset, .unset, .unset] [(.int ((p2 &&& (65535 : Int32)).toUInt32.toUInt16.toUInt32.toInt32))])) _
    refine st6 _ ?_
    show Steps p.tables e below (T6.setTop (mkF m 70 #[.val (.int p1), .val (.int p2), .val (.int (p1 &&& (15 : Int32))), .val (.int (own_dg ((p1 &&& (15 : Int32)) &&& (15 : Int32)))), .val (.int (1 : Int32)), .val (.int (((own_dg ((p1 &&& (15 : Int32)) &&& (15 : Int32))) - (32 : Int32)).toUInt32.toUInt16.toUInt32.toInt32)), .val (.int (1 : Int32)), .val (.int ((p2 &&& (65535 : Int32)).toUInt32.toUInt16.toUInt32.toInt32)), .unset, .unset, .unset] [(.int (own_f2 ((p2 &&& (65535 : Int32)).toUInt32.toUInt16.toUInt32.toInt32)))])) _
    refine XS.istore X6.here hx rfl (hb hby at_70) rfl (l' := #[.val (.int p1), .val (.int p2), .val (.int (p1 &&& (15 : Int32))), .val (.int (own_dg ((p1 &&& (15 : Int32)) &&& (15 : Int32)))), .val (.int (1 : Int32)), .val (.int (((own_dg ((p1 &&& (15 : Int32)) &&& (15 : Int32))) - (32 : Int32)).toUInt32.toUInt16.toUInt32.toInt32)), .val (.int (1 : Int32)), .val (.int ((p2 &&& (65535 : Int32)).toUInt32.toUInt16.toUInt32.toInt32)), .val (.int (own_f2 ((p2 &&& (65535 : Int32)).toUInt32.toUInt16.toUInt32.toInt32))), .unset, .unset]) rfl ?_
    show Steps p.tables e below (T6.setTop (mkF m 72 #[.val (.int p1), .val (.int p2), .val (.int (p1 &&& (15 : Int32))), .val (.int (own_dg ((p1 &&& (15 : Int32)) &&& (15 : Int32)))), .val (.int (1 : Int32)), .val (.int (((own_dg ((p1 &&& (15 : Int32)) &&& (15 : Int32))) - (32 : Int32)).toUInt32.toUInt16.toUInt32.toInt32)), .val (.int (1 : Int32)), .val (.int ((p2 &&& (65535 : Int32)).toUInt32.toUInt16.toUInt32.toInt32)), .val (.int (own_f2 ((p2 &&& (65535 : Int32)).toUInt32.toUInt16.toUInt32.toInt32))), .unset, .unset] [])) _
    refine XS.iload X6.here hx rfl (hb hby at_72) rfl ?_
    show Steps p.tables e below (T6.setTop (mkF m 74 #[.val (.int p1), .val (.int p2), .val (.int (p1 &&& (15 : Int32))), .val (.int (own_dg ((p1 &&& (15 : Int32)) &&& (15 : Int32)))), .val (.int (1 : Int32)), .val (.int (((own_dg ((p1 &&& (15 : Int32)) &&& (15 : Int32))) - (32 : Int32)).toUInt32.toUInt16.toUInt32.toInt32)), .val (.int (1 : Int32)), .val (.int ((p2 &&& (65535 : Int32)).toUInt32.toUInt16.toUInt32.toInt32)), .val (.int (own_f2 ((p2 &&& (65535 : Int32)).toUInt32.toUInt16.toUInt32.toInt32))), .unset, .unset] [(.int (own_f2 ((p2 &&& (65535 : Int32)).toUInt32.toUInt16.toUInt32.toInt32)))])) _
    refine XS.iconst X6.here hx rfl (hb hby at_74) ?_
    show Steps p.tables e below (T6.setTop (mkF m 75 #[.val (.int p1), .val (.int p2), .val (.int (p1 &&& (15 : Int32))), .val (.int (own_dg ((p1 &&& (15 : Int32)) &&& (15 : Int32)))), .val (.int (1 : Int32)), .val (.int (((own_dg ((p1 &&& (15 : Int32)) &&& (15 : Int32))) - (32 : Int32)).toUInt32.toUInt16.toUInt32.toInt32)), .val (.int (1 : Int32)), .val (.int ((p2 &&& (65535 : Int32)).toUInt32.toUInt16.toUInt32.toInt32)), .val (.int (own_f2 ((p2 &&& (65535 : Int32)).toUInt32.toUInt16.toUInt32.toInt32))), .unset, .unset] [(.int (-1 : Int32)), (.int (own_f2 ((p2 &&& (65535 : Int32)).toUInt32.toUInt16.toUInt32.toInt32)))])) _
    refine XS.icmpYes X6.here hx rfl (pc0 := 75) (pc' := 84) rfl (hb hby at_75) rfl (feq ht75).2 (by decide) (by decide) ?_
    show Steps p.tables e below (T6.setTop (mkF m 84 #[.val (.int p1), .val (.int p2), .val (.int (p1 &&& (15 : Int32))), .val (.int (own_dg ((p1 &&& (15 : Int32)) &&& (15 : Int32)))), .val (.int (1 : Int32)), .val (.int (((own_dg ((p1 &&& (15 : Int32)) &&& (15 : Int32))) - (32 : Int32)).toUInt32.toUInt16.toUInt32.toInt32)), .val (.int (1 : Int32)), .val (.int ((p2 &&& (65535 : Int32)).toUInt32.toUInt16.toUInt32.toInt32)), .val (.int (own_f2 ((p2 &&& (65535 : Int32)).toUInt32.toUInt16.toUInt32.toInt32))), .unset, .unset] [])) _
    refine XS.iload X6.here hx rfl (hb hby at_84) rfl ?_
    show Steps p.tables e below (T6.setTop (mkF m 86 #[.val (.int p1), .val (.int p2), .val (.int (p1 &&& (15 : Int32))), .val (.int (own_dg ((p1 &&& (15 : Int32)) &&& (15 : Int32)))), .val (.int (1 : Int32)), .val (.int (((own_dg ((p1 &&& (15 : Int32)) &&& (15 : Int32))) - (32 : Int32)).toUInt32.toUInt16.toUInt32.toInt32)), .val (.int (1 : Int32)), .val (.int ((p2 &&& (65535 : Int32)).toUInt32.toUInt16.toUInt32.toInt32)), .val (.int (own_f2 ((p2 &&& (65535 : Int32)).toUInt32.toUInt16.toUInt32.toInt32))), .unset, .unset] [(.int (own_f2 ((p2 &&& (65535 : Int32)).toUInt32.toUInt16.toUInt32.toInt32)))])) _
    refine XS.ifNo X6.here hx rfl (hb hby at_86) rfl ((if0 _ _).trans (flt ht86).1) ?_
    show Steps p.tables e below (T6.setTop (mkF m 89 #[.val (.int p1), .val (.int p2), .val (.int (p1 &&& (15 : Int32))), .val (.int (own_dg ((p1 &&& (15 : Int32)) &&& (15 : Int32)))), .val (.int (1 : Int32)), .val (.int (((own_dg ((p1 &&& (15 : Int32)) &&& (15 : Int32))) - (32 : Int32)).toUInt32.toUInt16.toUInt32.toInt32)), .val (.int (1 : Int32)), .val (.int ((p2 &&& (65535 : Int32)).toUInt32.toUInt16.toUInt32.toInt32)), .val (.int (own_f2 ((p2 &&& (65535 : Int32)).toUInt32.toUInt16.toUInt32.toInt32))), .unset, .unset] [])) _
    refine XS.iload X6.here hx rfl (hb hby at_89) rfl ?_
    show Steps p.tables e below (T6.setTop (mkF m 91 #[.val (.int p1), .val (.int p2), .val (.int (p1 &&& (15 : Int32))), .val (.int (own_dg ((p1 &&& (15 : Int32)) &&& (15 : Int32)))), .val (.int (1 : Int32)), .val (.int (((own_dg ((p1 &&& (15 : Int32)) &&& (15 : Int32))) - (32 : Int32)).toUInt32.toUInt16.toUInt32.toInt32)), .val (.int (1 : Int32)), .val (.int ((p2 &&& (65535 : Int32)).toUInt32.toUInt16.toUInt32.toInt32)), .val (.int (own_f2 ((p2 &&& (65535 : Int32)).toUInt32.toUInt16.toUInt32.toInt32))), .unset, .unset] [(.int (own_f2 ((p2 &&& (65535 : Int32)).toUInt32.toUInt16.toUInt32.toInt32)))])) _
    refine XS.bipush X6.here hx rfl (hb hby at_91) ?_
    show Steps p.tables e below (T6.setTop (mkF m 93 #[.val (.int p1), .val (.int p2), .val (.int (p1 &&& (15 : Int32))), .val (.int (own_dg ((p1 &&& (15 : Int32)) &&& (15 : Int32)))), .val (.int (1 : Int32)), .val (.int (((own_dg ((p1 &&& (15 : Int32)) &&& (15 : Int32))) - (32 : Int32)).toUInt32.toUInt16.toUInt32.toInt32)), .val (.int (1 : Int32)), .val (.int ((p2 &&& (65535 : Int32)).toUInt32.toUInt16.toUInt32.toInt32)), .val (.int (own_f2 ((p2 &&& (65535 : Int32)).toUInt32.toUInt16.toUInt32.toInt32))), .unset, .unset] [(.int (15 : Int32)), (.int (own_f2 ((p2 &&& (65535 : Int32)).toUInt32.toUInt16.toUInt32.toInt32)))])) _
    refine XS.icmpNo X6.here hx rfl (hb hby at_93) rfl (flt ht93).2.2.1 ?_
    show Steps p.tables e below (T6.setTop (mkF m 96 #[.val (.int p1), .val (.int p2), .val (.int (p1 &&& (15 : Int32))), .val (.int (own_dg ((p1 &&& (15 : Int32)) &&& (15 : Int32)))), .val (.int (1 : Int32)), .val (.int (((own_dg ((p1 &&& (15 : Int32)) &&& (15 : Int32))) - (32 : Int32)).toUInt32.toUInt16.toUInt32.toInt32)), .val (.int (1 : Int32)), .val (.int ((p2 &&& (65535 : Int32)).toUInt32.toUInt16.toUInt32.toInt32)), .val (.int (own_f2 ((p2 &&& (65535 : Int32)).toUInt32.toUInt16.toUInt32.toInt32))), .unset, .unset] [])) _
    refine XS.iload X6.here hx rfl (hb hby at_96) rfl ?_
    show Steps p.tables e below (T6.setTop (mkF m 98 #[.val (.int p1), .val (.int p2), .val (.int (p1 &&& (15 : Int32))), .val (.int (own_dg ((p1 &&& (15 : Int32)) &&& (15 : Int32)))), .val (.int (1 : Int32)), .val (.int (((own_dg ((p1 &&& (15 : Int32)) &&& (15 : Int32))) - (32 : Int32)).toUInt32.toUInt16.toUInt32.toInt32)), .val (.int (1 : Int32)), .val (.int ((p2 &&& (65535 : Int32)).toUInt32.toUInt16.toUInt32.toInt32)), .val (.int (own_f2 ((p2 &&& (65535 : Int32)).toUInt32.toUInt16.toUInt32.toInt32))), .unset, .unset] [(.int (own_f2 ((p2 &&& (65535 : Int32)).toUInt32.toUInt16.toUInt32.toInt32)))])) _
    refine st7 _ ?_
    show Steps p.tables e below (T7.setTop (mkF m 101 #[.val (.int p1), .val (.int p2), .val (.int (p1 &&& (15 : Int32))), .val (.int (own_dg ((p1 &&& (15 : Int32)) &&& (15 : Int32)))), .val (.int (1 : Int32)), .val (.int (((own_dg ((p1 &&& (15 : Int32)) &&& (15 : Int32))) - (32 : Int32)).toUInt32.toUInt16.toUInt32.toInt32)), .val (.int (1 : Int32)), .val (.int ((p2 &&& (65535 : Int32)).toUInt32.toUInt16.toUInt32.toInt32)), .val (.int (own_f2 ((p2 &&& (65535 : Int32)).toUInt32.toUInt16.toUInt32.toInt32))), .unset, .unset] [(.int (own_dg ((own_f2 ((p2 &&& (65535 : Int32)).toUInt32.toUInt16.toUInt32.toInt32)) &&& (15 : Int32))))])) _
    refine XS.istore X7.here hx rfl (hb hby at_101) rfl (l' := #[.val (.int p1), .val (.int p2), .val (.int (p1 &&& (15 : Int32))), .val (.int (own_dg ((p1 &&& (15 : Int32)) &&& (15 : Int32)))), .val (.int (1 : Int32)), .val (.int (((own_dg ((p1 &&& (15 : Int32)) &&& (15 : Int32))) - (32 : Int32)).toUInt32.toUInt16.toUInt32.toInt32)), .val (.int (1 : Int32)), .val (.int ((p2 &&& (65535 : Int32)).toUInt32.toUInt16.toUInt32.toInt32)), .val (.int (own_f2 ((p2 &&& (65535 : Int32)).toUInt32.toUInt16.toUInt32.toInt32))), .unset, .val (.int (own_dg ((own_f2 ((p2 &&& (65535 : Int32)).toUInt32.toUInt16.toUInt32.toInt32)) &&& (15 : Int32))))]) rfl ?_
    show Steps p.tables e below (T7.setTop (mkF m 103 #[.val (.int p1), .val (.int p2), .val (.int (p1 &&& (15 : Int32))), .val (.int (own_dg ((p1 &&& (15 : Int32)) &&& (15 : Int32)))), .val (.int (1 : Int32)), .val (.int (((own_dg ((p1 &&& (15 : Int32)) &&& (15 : Int32))) - (32 : Int32)).toUInt32.toUInt16.toUInt32.toInt32)), .val (.int (1 : Int32)), .val (.int ((p2 &&& (65535 : Int32)).toUInt32.toUInt16.toUInt32.toInt32)), .val (.int (own_f2 ((p2 &&& (65535 : Int32)).toUInt32.toUInt16.toUInt32.toInt32))), .unset, .val (.int (own_dg ((own_f2 ((p2 &&& (65535 : Int32)).toUInt32.toUInt16.toUInt32.toInt32)) &&& (15 : Int32))))] [])) _
    refine XS.iload X7.here hx rfl (hb hby at_103) rfl ?_
    show Steps p.tables e below (T7.setTop (mkF m 105 #[.val (.int p1), .val (.int p2), .val (.int (p1 &&& (15 : Int32))), .val (.int (own_dg ((p1 &&& (15 : Int32)) &&& (15 : Int32)))), .val (.int (1 : Int32)), .val (.int (((own_dg ((p1 &&& (15 : Int32)) &&& (15 : Int32))) - (32 : Int32)).toUInt32.toUInt16.toUInt32.toInt32)), .val (.int (1 : Int32)), .val (.int ((p2 &&& (65535 : Int32)).toUInt32.toUInt16.toUInt32.toInt32)), .val (.int (own_f2 ((p2 &&& (65535 : Int32)).toUInt32.toUInt16.toUInt32.toInt32))), .unset, .val (.int (own_dg ((own_f2 ((p2 &&& (65535 : Int32)).toUInt32.toUInt16.toUInt32.toInt32)) &&& (15 : Int32))))] [(.int (own_dg ((own_f2 ((p2 &&& (65535 : Int32)).toUInt32.toUInt16.toUInt32.toInt32)) &&& (15 : Int32))))])) _
    refine XS.iload X7.here hx rfl (hb hby at_105) rfl ?_
    show Steps p.tables e below (T7.setTop (mkF m 107 #[.val (.int p1), .val (.int p2), .val (.int (p1 &&& (15 : Int32))), .val (.int (own_dg ((p1 &&& (15 : Int32)) &&& (15 : Int32)))), .val (.int (1 : Int32)), .val (.int (((own_dg ((p1 &&& (15 : Int32)) &&& (15 : Int32))) - (32 : Int32)).toUInt32.toUInt16.toUInt32.toInt32)), .val (.int (1 : Int32)), .val (.int ((p2 &&& (65535 : Int32)).toUInt32.toUInt16.toUInt32.toInt32)), .val (.int (own_f2 ((p2 &&& (65535 : Int32)).toUInt32.toUInt16.toUInt32.toInt32))), .unset, .val (.int (own_dg ((own_f2 ((p2 &&& (65535 : Int32)).toUInt32.toUInt16.toUInt32.toInt32)) &&& (15 : Int32))))] [(.int ((p2 &&& (65535 : Int32)).toUInt32.toUInt16.toUInt32.toInt32)), (.int (own_dg ((own_f2 ((p2 &&& (65535 : Int32)).toUInt32.toUInt16.toUInt32.toInt32)) &&& (15 : Int32))))])) _
    refine XS.icmpYes X7.here hx rfl (pc0 := 107) (pc' := 127) rfl (hb hby at_107) rfl (teq ht107).1 (by decide) (by decide) ?_
    show Steps p.tables e below (T7.setTop (mkF m 127 #[.val (.int p1), .val (.int p2), .val (.int (p1 &&& (15 : Int32))), .val (.int (own_dg ((p1 &&& (15 : Int32)) &&& (15 : Int32)))), .val (.int (1 : Int32)), .val (.int (((own_dg ((p1 &&& (15 : Int32)) &&& (15 : Int32))) - (32 : Int32)).toUInt32.toUInt16.toUInt32.toInt32)), .val (.int (1 : Int32)), .val (.int ((p2 &&& (65535 : Int32)).toUInt32.toUInt16.toUInt32.toInt32)), .val (.int (own_f2 ((p2 &&& (65535 : Int32)).toUInt32.toUInt16.toUInt32.toInt32))), .unset, .val (.int (own_dg ((own_f2 ((p2 &&& (65535 : Int32)).toUInt32.toUInt16.toUInt32.toInt32)) &&& (15 : Int32))))] [])) _
    refine XS.iconst X7.here hx rfl (hb hby at_127) ?_
    show Steps p.tables e below (T7.setTop (mkF m 128 #[.val (.int p1), .val (.int p2), .val (.int (p1 &&& (15 : Int32))), .val (.int (own_dg ((p1 &&& (15 : Int32)) &&& (15 : Int32)))), .val (.int (1 : Int32)), .val (.int (((own_dg ((p1 &&& (15 : Int32)) &&& (15 : Int32))) - (32 : Int32)).toUInt32.toUInt16.toUInt32.toInt32)), .val (.int (1 : Int32)), .val (.int ((p2 &&& (65535 : Int32)).toUInt32.toUInt16.toUInt32.toInt32)), .val (.int (own_f2 ((p2 &&& (65535 : Int32)).toUInt32.toUInt16.toUInt32.toInt32))), .unset, .val (.int (own_dg ((own_f2 ((p2 &&& (65535 : Int32)).toUInt32.toUInt16.toUInt32.toInt32)) &&& (15 : Int32))))] [(.int (1 : Int32))])) _
    refine XS.goto X7.here hx rfl (pc0 := 128) (pc' := 132) rfl (hb hby at_128) (by decide) (by decide) ?_
    show Steps p.tables e below (T7.setTop (mkF m 132 #[.val (.int p1), .val (.int p2), .val (.int (p1 &&& (15 : Int32))), .val (.int (own_dg ((p1 &&& (15 : Int32)) &&& (15 : Int32)))), .val (.int (1 : Int32)), .val (.int (((own_dg ((p1 &&& (15 : Int32)) &&& (15 : Int32))) - (32 : Int32)).toUInt32.toUInt16.toUInt32.toInt32)), .val (.int (1 : Int32)), .val (.int ((p2 &&& (65535 : Int32)).toUInt32.toUInt16.toUInt32.toInt32)), .val (.int (own_f2 ((p2 &&& (65535 : Int32)).toUInt32.toUInt16.toUInt32.toInt32))), .unset, .val (.int (own_dg ((own_f2 ((p2 &&& (65535 : Int32)).toUInt32.toUInt16.toUInt32.toInt32)) &&& (15 : Int32))))] [(.int (1 : Int32))])) _
    refine XS.istore X7.here hx rfl (hb hby at_132) rfl (l' := #[.val (.int p1), .val (.int p2), .val (.int (p1 &&& (15 : Int32))), .val (.int (own_dg ((p1 &&& (15 : Int32)) &&& (15 : Int32)))), .val (.int (1 : Int32)), .val (.int (((own_dg ((p1 &&& (15 : Int32)) &&& (15 : Int32))) - (32 : Int32)).toUInt32.toUInt16.toUInt32.toInt32)), .val (.int (1 : Int32)), .val (.int ((p2 &&& (65535 : Int32)).toUInt32.toUInt16.toUInt32.toInt32)), .val (.int (own_f2 ((p2 &&& (65535 : Int32)).toUInt32.toUInt16.toUInt32.toInt32))), .val (.int (1 : Int32)), .val (.int (own_dg ((own_f2 ((p2 &&& (65535 : Int32)).toUInt32.toUInt16.toUInt32.toInt32)) &&& (15 : Int32))))]) rfl ?_
    show Steps p.tables e below (T7.setTop (mkF m 134 #[.val (.int p1), .val (.int p2), .val (.int (p1 &&& (15 : Int32))), .val (.int (own_dg ((p1 &&& (15 : Int32)) &&& (15 : Int32)))), .val (.int (1 : Int32)), .val (.int (((own_dg ((p1 &&& (15 : Int32)) &&& (15 : Int32))) - (32 : Int32)).toUInt32.toUInt16.toUInt32.toInt32)), .val (.int (1 : Int32)), .val (.int ((p2 &&& (65535 : Int32)).toUInt32.toUInt16.toUInt32.toInt32)), .val (.int (own_f2 ((p2 &&& (65535 : Int32)).toUInt32.toUInt16.toUInt32.toInt32))), .val (.int (1 : Int32)), .val (.int (own_dg ((own_f2 ((p2 &&& (65535 : Int32)).toUInt32.toUInt16.toUInt32.toInt32)) &&& (15 : Int32))))] [])) _
    refine XS.goto X7.here hx rfl (pc0 := 134) (pc' := 140) rfl (hb hby at_134) (by decide) (by decide) ?_
    show Steps p.tables e below (T7.setTop (mkF m 140 #[.val (.int p1), .val (.int p2), .val (.int (p1 &&& (15 : Int32))), .val (.int (own_dg ((p1 &&& (15 : Int32)) &&& (15 : Int32)))), .val (.int (1 : Int32)), .val (.int (((own_dg ((p1 &&& (15 : Int32)) &&& (15 : Int32))) - (32 : Int32)).toUInt32.toUInt16.toUInt32.toInt32)), .val (.int (1 : Int32)), .val (.int ((p2 &&& (65535 : Int32)).toUInt32.toUInt16.toUInt32.toInt32)), .val (.int (own_f2 ((p2 &&& (65535 : Int32)).toUInt32.toUInt16.toUInt32.toInt32))), .val (.int (1 : Int32)), .val (.int (own_dg ((own_f2 ((p2 &&& (65535 : Int32)).toUInt32.toUInt16.toUInt32.toInt32)) &&& (15 : Int32))))] [])) _
    refine XS.iload X7.here hx rfl (hb hby at_140) rfl ?_
    show Steps p.tables e below (T7.setTop (mkF m 142 #[.val (.int p1), .val (.int p2), .val (.int (p1 &&& (15 : Int32))), .val (.int (own_dg ((p1 &&& (15 : Int32)) &&& (15 : Int32)))), .val (.int (1 : Int32)), .val (.int (((own_dg ((p1 &&& (15 : Int32)) &&& (15 : Int32))) - (32 : Int32)).toUInt32.toUInt16.toUInt32.toInt32)), .val (.int (1 : Int32)), .val (.int ((p2 &&& (65535 : Int32)).toUInt32.toUInt16.toUInt32.toInt32)), .val (.int (own_f2 ((p2 &&& (65535 : Int32)).toUInt32.toUInt16.toUInt32.toInt32))), .val (.int (1 : Int32)), .val (.int (own_dg ((own_f2 ((p2 &&& (65535 : Int32)).toUInt32.toUInt16.toUInt32.toInt32)) &&& (15 : Int32))))] [(.int (1 : Int32))])) _
    refine XS.ifNo X7.here hx rfl (hb hby at_142) rfl ((if0 _ _).trans (feq hc142).1) ?_
    show Steps p.tables e below (T7.setTop (mkF m 145 #[.val (.int p1), .val (.int p2), .val (.int (p1 &&& (15 : Int32))), .val (.int (own_dg ((p1 &&& (15 : Int32)) &&& (15 : Int32)))), .val (.int (1 : Int32)), .val (.int (((own_dg ((p1 &&& (15 : Int32)) &&& (15 : Int32))) - (32 : Int32)).toUInt32.toUInt16.toUInt32.toInt32)), .val (.int (1 : Int32)), .val (.int ((p2 &&& (65535 : Int32)).toUInt32.toUInt16.toUInt32.toInt32)), .val (.int (own_f2 ((p2 &&& (65535 : Int32)).toUInt32.toUInt16.toUInt32.toInt32))), .val (.int (1 : Int32)), .val (.int (own_dg ((own_f2 ((p2 &&& (65535 : Int32)).toUInt32.toUInt16.toUInt32.toInt32)) &&& (15 : Int32))))] [])) _
    refine XS.iload X7.here hx rfl (hb hby at_145) rfl ?_
    show Steps p.tables e below (T7.setTop (mkF m 147 #[.val (.int p1), .val (.int p2), .val (.int (p1 &&& (15 : Int32))), .val (.int (own_dg ((p1 &&& (15 : Int32)) &&& (15 : Int32)))), .val (.int (1 : Int32)), .val (.int (((own_dg ((p1 &&& (15 : Int32)) &&& (15 : Int32))) - (32 : Int32)).toUInt32.toUInt16.toUInt32.toInt32)), .val (.int (1 : Int32)), .val (.int ((p2 &&& (65535 : Int32)).toUInt32.toUInt16.toUInt32.toInt32)), .val (.int (own_f2 ((p2 &&& (65535 : Int32)).toUInt32.toUInt16.toUInt32.toInt32))), .val (.int (1 : Int32)), .val (.int (own_dg ((own_f2 ((p2 &&& (65535 : Int32)).toUInt32.toUInt16.toUInt32.toInt32)) &&& (15 : Int32))))] [(.int (1 : Int32))])) _
    refine XS.ifNo X7.here hx rfl (hb hby at_147) rfl ((if0 _ _).trans (feq hc147).1) ?_
    show Steps p.tables e below (T7.setTop (mkF m 150 #[.val (.int p1), .val (.int p2), .val (.int (p1 &&& (15 : Int32))), .val (.int (own_dg ((p1 &&& (15 : Int32)) &&& (15 : Int32)))), .val (.int (1 : Int32)), .val (.int (((own_dg ((p1 &&& (15 : Int32)) &&& (15 : Int32))) - (32 : Int32)).toUInt32.toUInt16.toUInt32.toInt32)), .val (.int (1 : Int32)), .val (.int ((p2 &&& (65535 : Int32)).toUInt32.toUInt16.toUInt32.toInt32)), .val (.int (own_f2 ((p2 &&& (65535 : Int32)).toUInt32.toUInt16.toUInt32.toInt32))), .val (.int (1 : Int32)), .val (.int (own_dg ((own_f2 ((p2 &&& (65535 : Int32)).toUInt32.toUInt16.toUInt32.toInt32)) &&& (15 : Int32))))] [])) _
    refine XS.iload X7.here hx rfl (hb hby at_150) rfl ?_
    show Steps p.tables e below (T7.setTop (mkF m 152 #[.val (.int p1), .val (.int p2), .val (.int (p1 &&& (15 : Int32))), .val (.int (own_dg ((p1 &&& (15 : Int32)) &&& (15 : Int32)))), .val (.int (1 : Int32)), .val (.int (((own_dg ((p1 &&& (15 : Int32)) &&& (15 : Int32))) - (32 : Int32)).toUInt32.toUInt16.toUInt32.toInt32)), .val (.int (1 : Int32)), .val (.int ((p2 &&& (65535 : Int32)).toUInt32.toUInt16.toUInt32.toInt32)), .val (.int (own_f2 ((p2 &&& (65535 : Int32)).toUInt32.toUInt16.toUInt32.toInt32))), .val (.int (1 : Int32)), .val (.int (own_dg ((own_f2 ((p2 &&& (65535 : Int32)).toUInt32.toUInt16.toUInt32.toInt32)) &&& (15 : Int32))))] [(.int (1 : Int32))])) _
    refine XS.ifNo X7.here hx rfl (hb hby at_152) rfl ((if0 _ _).trans (feq hc152).1) ?_
    show Steps p.tables e below (T7.setTop (mkF m 155 #[.val (.int p1), .val (.int p2), .val (.int (p1 &&& (15 : Int32))), .val (.int (own_dg ((p1 &&& (15 : Int32)) &&& (15 : Int32)))), .val (.int (1 : Int32)), .val (.int (((own_dg ((p1 &&& (15 : Int32)) &&& (15 : Int32))) - (32 : Int32)).toUInt32.toUInt16.toUInt32.toInt32)), .val (.int (1 : Int32)), .val (.int ((p2 &&& (65535 : Int32)).toUInt32.toUInt16.toUInt32.toInt32)), .val (.int (own_f2 ((p2 &&& (65535 : Int32)).toUInt32.toUInt16.toUInt32.toInt32))), .val (.int (1 : Int32)), .val (.int (own_dg ((own_f2 ((p2 &&& (65535 : Int32)).toUInt32.toUInt16.toUInt32.toInt32)) &&& (15 : Int32))))] [])) _
    refine XS.iconst X7.here hx rfl (hb hby at_155) ?_
    show Steps p.tables e below (T7.setTop (mkF m 156 #[.val (.int p1), .val (.int p2), .val (.int (p1 &&& (15 : Int32))), .val (.int (own_dg ((p1 &&& (15 : Int32)) &&& (15 : Int32)))), .val (.int (1 : Int32)), .val (.int (((own_dg ((p1 &&& (15 : Int32)) &&& (15 : Int32))) - (32 : Int32)).toUInt32.toUInt16.toUInt32.toInt32)), .val (.int (1 : Int32)), .val (.int ((p2 &&& (65535 : Int32)).toUInt32.toUInt16.toUInt32.toInt32)), .val (.int (own_f2 ((p2 &&& (65535 : Int32)).toUInt32.toUInt16.toUInt32.toInt32))), .val (.int (1 : Int32)), .val (.int (own_dg ((own_f2 ((p2 &&& (65535 : Int32)).toUInt32.toUInt16.toUInt32.toInt32)) &&& (15 : Int32))))] [(.int (1 : Int32))])) _
    refine XS.goto X7.here hx rfl (pc0 := 156) (pc' := 160) rfl (hb hby at_156) (by decide) (by decide) ?_
    show Steps p.tables e below (T7.setTop (mkF m 160 #[.val (.int p1), .val (.int p2), .val (.int (p1 &&& (15 : Int32))), .val (.int (own_dg ((p1 &&& (15 : Int32)) &&& (15 : Int32)))), .val (.int (1 : Int32)), .val (.int (((own_dg ((p1 &&& (15 : Int32)) &&& (15 : Int32))) - (32 : Int32)).toUInt32.toUInt16.toUInt32.toInt32)), .val (.int (1 : Int32)), .val (.int ((p2 &&& (65535 : Int32)).toUInt32.toUInt16.toUInt32.toInt32)), .val (.int (own_f2 ((p2 &&& (65535 : Int32)).toUInt32.toUInt16.toUInt32.toInt32))), .val (.int (1 : Int32)), .val (.int (own_dg ((own_f2 ((p2 &&& (65535 : Int32)).toUInt32.toUInt16.toUInt32.toInt32)) &&& (15 : Int32))))] [(.int (1 : Int32))])) _
    exact retN X7 hx (t := .boolean) Bd.returns (by simp) (hb hby at_160) hr
  · show Q0 Z h0 n0 _ T7.heap _
    exact ⟨rfl, N7⟩
set_option maxRecDepth 65536 in
set_option maxHeartbeats 40000000 in
theorem rm0_fC (l : Launch) (Z : State) (a0 : Array Value) (hw : ∀ d ∈ tables_1, d.before a0 Z = true) (ws : List Jvm.Cond) (p1 : Int32) (p2 : Int32) (wd : Addr) (cl : Cell) (h0 : Heap) (n0 : Nat) (Z0 : n0 ≤ h0.size) (S_DIGITS : Sta Z h0 "com/example/varpack/varpack/Hex" "DIGITS" "[C" (.ref wd)) (Ar : Arr Z h0 wd cl .char) (hin : ∀ p : Int32, ¬ ((p &&& (15 : Int32)) < 0 ∨ cl.slots.size ≤ (p &&& (15 : Int32)).toNatClampNeg)) (hat : ∀ p : Int32, cl.slots[(p &&& (15 : Int32)).toNatClampNeg]? = some (.int (own_dg (p &&& (15 : Int32))))) (ht15 : (own_f2 (own_dg ((p1 &&& (15 : Int32)) &&& (15 : Int32)))) = (p1 &&& (15 : Int32))) (hc28 : ¬ ((p1 &&& (15 : Int32)) < (10 : Int32))) (ht48 : (own_f2 (((own_dg ((p1 &&& (15 : Int32)) &&& (15 : Int32))) - (32 : Int32)).toUInt32.toUInt16.toUInt32.toInt32)) = (p1 &&& (15 : Int32))) (ht75 : ¬ ((own_f2 ((p2 &&& (65535 : Int32)).toUInt32.toUInt16.toUInt32.toInt32)) = (-1 : Int32))) (ht86 : ¬ ((own_f2 ((p2 &&& (65535 : Int32)).toUInt32.toUInt16.toUInt32.toInt32)) < (0 : Int32))) (ht93 : ¬ ((15 : Int32) < (own_f2 ((p2 &&& (65535 : Int32)).toUInt32.toUInt16.toUInt32.toInt32)))) (ht107 : ¬ ((own_dg ((own_f2 ((p2 &&& (65535 : Int32)).toUInt32.toUInt16.toUInt32.toInt32)) &&& (15 : Int32))) = ((p2 &&& (65535 : Int32)).toUInt32.toUInt16.toUInt32.toInt32))) (ht114 : ¬ ((own_f2 ((p2 &&& (65535 : Int32)).toUInt32.toUInt16.toUInt32.toInt32)) < (10 : Int32))) (ht124 : ((own_dg ((own_f2 ((p2 &&& (65535 : Int32)).toUInt32.toUInt16.toUInt32.toInt32)) &&& (15 : Int32))) - (32 : Int32)) = ((p2 &&& (65535 : Int32)).toUInt32.toUInt16.toUInt32.toInt32)) (hc142 : ¬ ((1 : Int32) = (0 : Int32))) (hc147 : ¬ ((1 : Int32) = (0 : Int32))) (hc152 : ¬ ((1 : Int32) = (0 : Int32))) :
    MetFree l x (head1 (Jvm.Cond.code x code maxLocals ret :: ws) room_1) (fun a U => a = #[(.int p1), (.int p2)] ∧ Z.Warmed39 U.vm ∧ U.heap = h0) (fun _ _ _ _ _ => True) (fun _ U o U' => ∃ v L, o = .returned v ∧ Q0 Z h0 n0 v U'.heap L ∧ FrameEnd U o U' L room_1.cells room_1.slots) := by
  refine MetFree.of_bodySF (plainFor_of_name pn_0) hisR ?_
  intro p e s m args below meth c s₁ Bd hml0 hP hK
  obtain ⟨rfl, hZ, hh⟩ := hP
  have hx := Bd.exec
  have hby := Bd.bytes
  have hml : c.maxLocals = 11 := hml0
  have hown : s.vm.findClass "com/example/varpack/varpack/HexValueOfPinLaw" = some m.cls := findClass_of_methodNamed Bd.named
  have hnm := (name_of_methodNamed Bd.named Bd.method).1
  have X0 : Stand p l e room_1 s m #[(.int p1), (.int p2)] below meth c s₁ [] 0 0 := Stand.of_body Bd
  have e0 : s₁.heap = h0 := by rw [← hh, Bd.state]; rfl
  have N0 := Fr.nil n0
  have pre0 : ∀ t, Steps p.tables e below (s₁.setTop (mkF m 0 #[.val (.int p1), .val (.int p2), .unset, .unset, .unset, .unset, .unset, .unset, .unset, .unset, .unset] [])) t → Steps p.tables e below (s₁.setTop (entryFrame m #[(.int p1), (.int p2)] maxLocals)) t := fun t k => castTop (ef_0 m p1 p2) k
  -- 3. LAWS
  -- pc 6: com/example/varpack/varpack/Hex.digit by its contract rm1
  obtain ⟨_, _, ⟨T3, L3, k3, n3⟩, -, X3, ⟨Lc3, hQ3, l3, y3, z3⟩, st3⟩ := Jvm.LawKit.callS X0 hx (y := (⟨"com/example/varpack/varpack/Hex", "digit", "(I)C"⟩ : MethodName)) hown (mvT hZ (hw _ (List.mem_of_getElem? (i := 0) rfl))) (mvT hZ (hw _ (List.mem_of_getElem? (i := 1) rfl))) (mvT hZ (hw _ (List.mem_of_getElem? (i := 2) rfl))) (mvT hZ (hw _ (List.mem_of_getElem? (i := 3) rfl))) (by decide) (backOf (W := 0) (rm1 l Z a0 hw [] (p1 &&& (15 : Int32)) wd (own_dg ((p1 &&& (15 : Int32)) &&& (15 : Int32))) cl h0 n0 Z0 S_DIGITS Ar (hin _) (hat _) (own_hn _)) hZ (hw _ (List.mem_of_getElem? (i := 3) rfl)) (hw _ (List.mem_of_getElem? (i := 2) rfl)) (by decide) (by decide)) (g := (mkF m 6 #[.val (.int p1), .val (.int p2), .val (.int (p1 &&& (15 : Int32))), .unset, .unset, .unset, .unset, .unset, .unset, .unset, .unset] [(.int (p1 &&& (15 : Int32)))])) rfl (by rw [hml]; rfl) (argsL := [(.int (p1 &&& (15 : Int32)))]) (rest := []) (lenOf pd_0_0 rfl) rfl (by show 2 * 0 + _ ≤ _; exact Nat.le_of_eq rfl) (hb hby at_6) (fun _ _ => ⟨rfl, e0, (by decide : 0 + 0 ≤ _), (by decide : 0 + 0 ≤ _)⟩)
  dsimp only [Pt.U, Pt.locs, Pt.cells, Pt.slots] at X3 l3 y3 z3 st3 hQ3
  subst l3 y3 z3
  obtain ⟨rfl, N3q, e3q⟩ := hQ3
  have N3 := Fr.app N0 N3q
  have K3q : Keep h0 T3.heap [] := own_keep e3q
  have KH3 : Keep h0 T3.heap [] := (Keep.refl h0 []).trans K3q own_ws0
  have eh3 : T3.heap = h0 := by rw [e3q]
  -- pc 11: com/example/varpack/varpack/Hex.valueOf by its contract rm2
  obtain ⟨_, _, ⟨T4, L4, k4, n4⟩, -, X4, ⟨Lc4, hQ4, l4, y4, z4⟩, st4⟩ := Jvm.LawKit.callS X3 hx (y := (⟨"com/example/varpack/varpack/Hex", "valueOf", "(C)I"⟩ : MethodName)) hown (mvT hZ (hw _ (List.mem_of_getElem? (i := 6) rfl))) (mvT hZ (hw _ (List.mem_of_getElem? (i := 7) rfl))) (mvT hZ (hw _ (List.mem_of_getElem? (i := 2) rfl))) (mvT hZ (hw _ (List.mem_of_getElem? (i := 8) rfl))) (by decide) (backOf (W := 0) (rm2 l Z a0 hw [] (own_dg ((p1 &&& (15 : Int32)) &&& (15 : Int32)))  T3.heap n0 (Nat.le_trans Z0 KH3.1)) hZ (hw _ (List.mem_of_getElem? (i := 8) rfl)) (hw _ (List.mem_of_getElem? (i := 2) rfl)) (by decide) (by decide)) (g := (mkF m 11 #[.val (.int p1), .val (.int p2), .val (.int (p1 &&& (15 : Int32))), .val (.int (own_dg ((p1 &&& (15 : Int32)) &&& (15 : Int32)))), .unset, .unset, .unset, .unset, .unset, .unset, .unset] [(.int (own_dg ((p1 &&& (15 : Int32)) &&& (15 : Int32))))])) rfl (by rw [hml]; rfl) (argsL := [(.int (own_dg ((p1 &&& (15 : Int32)) &&& (15 : Int32))))]) (rest := []) (lenOf pd_0_1 rfl) rfl (by show 2 * 0 + _ ≤ _; exact Nat.le_of_eq rfl) (hb hby at_11) (fun _ _ => ⟨rfl, rfl, (by decide : 0 + 0 ≤ _), (by decide : 0 + 0 ≤ _)⟩)
  dsimp only [Pt.U, Pt.locs, Pt.cells, Pt.slots] at X4 l4 y4 z4 st4 hQ4
  subst l4 y4 z4
  obtain ⟨rfl, N4q, e4q⟩ := hQ4
  have N4 := Fr.app N3 N4q
  have K4q : Keep T3.heap T4.heap [] := own_keep e4q
  have KH4 : Keep h0 T4.heap [] := KH3.trans K4q own_ws0
  have eh4 : T4.heap = h0 := by rw [e4q]; exact eh3
  -- pc 44: com/example/varpack/varpack/Hex.valueOf by its contract rm2
  obtain ⟨_, _, ⟨T5, L5, k5, n5⟩, -, X5, ⟨Lc5, hQ5, l5, y5, z5⟩, st5⟩ := Jvm.LawKit.callS X4 hx (y := (⟨"com/example/varpack/varpack/Hex", "valueOf", "(C)I"⟩ : MethodName)) hown (mvT hZ (hw _ (List.mem_of_getElem? (i := 6) rfl))) (mvT hZ (hw _ (List.mem_of_getElem? (i := 7) rfl))) (mvT hZ (hw _ (List.mem_of_getElem? (i := 2) rfl))) (mvT hZ (hw _ (List.mem_of_getElem? (i := 8) rfl))) (by decide) (backOf (W := 0) (rm2 l Z a0 hw [] (((own_dg ((p1 &&& (15 : Int32)) &&& (15 : Int32))) - (32 : Int32)).toUInt32.toUInt16.toUInt32.toInt32)  T4.heap n0 (Nat.le_trans Z0 KH4.1)) hZ (hw _ (List.mem_of_getElem? (i := 8) rfl)) (hw _ (List.mem_of_getElem? (i := 2) rfl)) (by decide) (by decide)) (g := (mkF m 44 #[.val (.int p1), .val (.int p2), .val (.int (p1 &&& (15 : Int32))), .val (.int (own_dg ((p1 &&& (15 : Int32)) &&& (15 : Int32)))), .val (.int (1 : Int32)), .val (.int (((own_dg ((p1 &&& (15 : Int32)) &&& (15 : Int32))) - (32 : Int32)).toUInt32.toUInt16.toUInt32.toInt32)), .unset, .unset, .unset, .unset, .unset] [(.int (((own_dg ((p1 &&& (15 : Int32)) &&& (15 : Int32))) - (32 : Int32)).toUInt32.toUInt16.toUInt32.toInt32))])) rfl (by rw [hml]; rfl) (argsL := [(.int (((own_dg ((p1 &&& (15 : Int32)) &&& (15 : Int32))) - (32 : Int32)).toUInt32.toUInt16.toUInt32.toInt32))]) (rest := []) (lenOf pd_0_1 rfl) rfl (by show 2 * 0 + _ ≤ _; exact Nat.le_of_eq rfl) (hb hby at_44) (fun _ _ => ⟨rfl, rfl, (by decide : 0 + 0 ≤ _), (by decide : 0 + 0 ≤ _)⟩)
  dsimp only [Pt.U, Pt.locs, Pt.cells, Pt.slots] at X5 l5 y5 z5 st5 hQ5
  subst l5 y5 z5
  obtain ⟨rfl, N5q, e5q⟩ := hQ5
  have N5 := Fr.app N4 N5q
  have K5q : Keep T4.heap T5.heap [] := own_keep e5q
  have KH5 : Keep h0 T5.heap [] := KH4.trans K5q own_ws0
  have eh5 : T5.heap = h0 := by rw [e5q]; exact eh4
  -- pc 67: com/example/varpack/varpack/Hex.valueOf by its contract rm2
  obtain ⟨_, _, ⟨T6, L6, k6, n6⟩, -, X6, ⟨Lc6, hQ6, l6, y6, z6⟩, st6⟩ := Jvm.LawKit.callS X5 hx (y := (⟨"com/example/varpack/varpack/Hex", "valueOf", "(C)I"⟩ : MethodName)) hown (mvT hZ (hw _ (List.mem_of_getElem? (i := 6) rfl))) (mvT hZ (hw _ (List.mem_of_getElem? (i := 7) rfl))) (mvT hZ (hw _ (List.mem_of_getElem? (i := 2) rfl))) (mvT hZ (hw _ (List.mem_of_getElem? (i := 8) rfl))) (by decide) (backOf (W := 0) (rm2 l Z a0 hw [] ((p2 &&& (65535 : Int32)).toUInt32.toUInt16.toUInt32.toInt32)  T5.heap n0 (Nat.le_trans Z0 KH5.1)) hZ (hw _ (List.mem_of_getElem? (i := 8) rfl)) (hw _ (List.mem_of_getElem? (i := 2) rfl)) (by decide) (by decide)) (g := (mkF m 67 #[.val (.int p1), .val (.int p2), .val (.int (p1 &&& (15 : Int32))), .val (.int (own_dg ((p1 &&& (15 : Int32)) &&& (15 : Int32)))), .val (.int (1 : Int32)), .val (.int (((own_dg ((p1 &&& (15 : Int32)) &&& (15 : Int32))) - (32 : Int32)).toUInt32.toUInt16.toUInt32.toInt32)), .val (.int (1 : Int32)), .val (.int ((p2 &&& (65535 : Int32)).toUInt32.toUInt16.toUInt32.toInt32)), .unset, .unset, .unset] [(.int ((p2 &&& (65535 : Int32)).toUInt32.toUInt16.toUInt32.toInt32))])) rfl (by rw [hml]; rfl) (argsL := [(.int ((p2 &&& (65535 : Int32)).toUInt32.toUInt16.toUInt32.toInt32))]) (rest := []) (lenOf pd_0_1 rfl) rfl (by show 2 * 0 + _ ≤ _; exact Nat.le_of_eq rfl) (hb hby at_67) (fun _ _ => ⟨rfl, rfl, (by decide : 0 + 0 ≤ _), (by decide : 0 + 0 ≤ _)⟩)
  dsimp only [Pt.U, Pt.locs, Pt.cells, Pt.slots] at X6 l6 y6 z6 st6 hQ6
  subst l6 y6 z6
  obtain ⟨rfl, N6q, e6q⟩ := hQ6
  have N6 := Fr.app N5 N6q
  have K6q : Keep T5.heap T6.heap [] := own_keep e6q
  have KH6 : Keep h0 T6.heap [] := KH5.trans K6q own_ws0
  have eh6 : T6.heap = h0 := by rw [e6q]; exact eh5
  -- pc 98: com/example/varpack/varpack/Hex.digit by its contract rm1
  obtain ⟨_, _, ⟨T7, L7, k7, n7⟩, -, X7, ⟨Lc7, hQ7, l7, y7, z7⟩, st7⟩ := Jvm.LawKit.callS X6 hx (y := (⟨"com/example/varpack/varpack/Hex", "digit", "(I)C"⟩ : MethodName)) hown (mvT hZ (hw _ (List.mem_of_getElem? (i := 0) rfl))) (mvT hZ (hw _ (List.mem_of_getElem? (i := 1) rfl))) (mvT hZ (hw _ (List.mem_of_getElem? (i := 2) rfl))) (mvT hZ (hw _ (List.mem_of_getElem? (i := 3) rfl))) (by decide) (backOf (W := 0) (rm1 l Z a0 hw [] (own_f2 ((p2 &&& (65535 : Int32)).toUInt32.toUInt16.toUInt32.toInt32)) wd (own_dg ((own_f2 ((p2 &&& (65535 : Int32)).toUInt32.toUInt16.toUInt32.toInt32)) &&& (15 : Int32))) cl T6.heap n0 (Nat.le_trans Z0 KH6.1) (by rw [eh6]; exact S_DIGITS) (by rw [eh6]; exact Ar) (hin _) (hat _) (own_hn _)) hZ (hw _ (List.mem_of_getElem? (i := 3) rfl)) (hw _ (List.mem_of_getElem? (i := 2) rfl)) (by decide) (by decide)) (g := (mkF m 98 #[.val (.int p1), .val (.int p2), .val (.int (p1 &&& (15 : Int32))), .val (.int (own_dg ((p1 &&& (15 : Int32)) &&& (15 : Int32)))), .val (.int (1 : Int32)), .val (.int (((own_dg ((p1 &&& (15 : Int32)) &&& (15 : Int32))) - (32 : Int32)).toUInt32.toUInt16.toUInt32.toInt32)), .val (.int (1 : Int32)), .val (.int ((p2 &&& (65535 : Int32)).toUInt32.toUInt16.toUInt32.toInt32)), .val (.int (own_f2 ((p2 &&& (65535 : Int32)).toUInt32.toUInt16.toUInt32.toInt32))), .unset, .unset] [(.int (own_f2 ((p2 &&& (65535 : Int32)).toUInt32.toUInt16.toUInt32.toInt32)))])) rfl (by rw [hml]; rfl) (argsL := [(.int (own_f2 ((p2 &&& (65535 : Int32)).toUInt32.toUInt16.toUInt32.toInt32)))]) (rest := []) (lenOf pd_0_0 rfl) rfl (by show 2 * 0 + _ ≤ _; exact Nat.le_of_eq rfl) (hb hby at_98) (fun _ _ => ⟨rfl, rfl, (by decide : 0 + 0 ≤ _), (by decide : 0 + 0 ≤ _)⟩)
  dsimp only [Pt.U, Pt.locs, Pt.cells, Pt.slots] at X7 l7 y7 z7 st7 hQ7
  subst l7 y7 z7
  obtain ⟨rfl, N7q, e7q⟩ := hQ7
  have N7 := Fr.app N6 N7q
  have K7q : Keep T6.heap T7.heap [] := own_keep e7q
  have KH7 : Keep h0 T7.heap [] := KH6.trans K7q own_ws0
  have eh7 : T7.heap = h0 := by rw [e7q]; exact eh6
  obtain ⟨fs, hr, hrun, hended, hW, hsame⟩ := X7.leave (v := some (.int (1 : Int32))) (fun h => by rw [Bd.returns] at h; cases h) (BodyLoose.notSynchronized Bd)
  refine ⟨_, _, pre0 _ ?_, hrun, hended, _, _, rfl, ?_, ⟨_, rfl⟩, hW, hsame.mono (by decide) (by decide)⟩
  -- 4. STEPS
  · show Steps p.tables e below (s₁.setTop (mkF m 0 #[.val (.int p1), .val (.int p2), .unset, .unset, .unset, .unset, .unset, .unset, .unset, .unset, .unset] [])) _
    refine XS.iloadN X0.here hx rfl (hb hby at_0) rfl ?_
    show Steps p.tables e below (s₁.setTop (mkF m 1 #[.val (.int p1), .val (.int p2), .unset, .unset, .unset, .unset, .unset, .unset, .unset, .unset, .unset] [(.int p1)])) _
    refine XS.bipush X0.here hx rfl (hb hby at_1) ?_
    show Steps p.tables e below (s₁.setTop (mkF m 3 #[.val (.int p1), .val (.int p2), .unset, .unset, .unset, .unset, .unset, .unset, .unset, .unset, .unset] [(.int (15 : Int32)), (.int p1)])) _
    refine XS.iand X0.here hx rfl (hb hby at_3) rfl ?_
    show Steps p.tables e below (s₁.setTop (mkF m 4 #[.val (.int p1), .val (.int p2), .unset, .unset, .unset, .unset, .unset, .unset, .unset, .unset, .unset] [(.int (p1 &&& (15 : Int32)))])) _
    refine XS.istoreN X0.here hx rfl (hb hby at_4) rfl (l' := #[.val (.int p1), .val (.int p2), .val (.int (p1 &&& (15 : Int32))), .unset, .unset, .unset, .unset, .unset, .unset, .unset, .unset]) rfl ?_
    show Steps p.tables e below (s₁.setTop (mkF m 5 #[.val (.int p1), .val (.int p2), .val (.int (p1 &&& (15 : Int32))), .unset, .unset, .unset, .unset, .unset, .unset, .unset, .unset] [])) _
    refine XS.iloadN X0.here hx rfl (hb hby at_5) rfl ?_
    show Steps p.tables e below (s₁.setTop (mkF m 6 #[.val (.int p1), .val (.int p2), .val (.int (p1 &&& (15 : Int32))), .unset, .unset, .unset, .unset, .unset, .unset, .unset, .unset] [(.int (p1 &&& (15 : Int32)))])) _
    refine st3 _ ?_
    show Steps p.tables e below (T3.setTop (mkF m 9 #[.val (.int p1), .val (.int p2), .val (.int (p1 &&& (15 : Int32))), .unset, .unset, .unset, .unset, .unset, .unset, .unset, .unset] [(.int (own_dg ((p1 &&& (15 : Int32)) &&& (15 : Int32))))])) _
    refine XS.istoreN X3.here hx rfl (hb hby at_9) rfl (l' := #[.val (.int p1), .val (.int p2), .val (.int (p1 &&& (15 : Int32))), .val (.int (own_dg ((p1 &&& (15 : Int32)) &&& (15 : Int32)))), .unset, .unset, .unset, .unset, .unset, .unset, .unset]) rfl ?_
    show Steps p.tables e below (T3.setTop (mkF m 10 #[.val (.int p1), .val (.int p2), .val (.int (p1 &&& (15 : Int32))), .val (.int (own_dg ((p1 &&& (15 : Int32)) &&& (15 : Int32)))), .unset, .unset, .unset, .unset, .unset, .unset, .unset] [])) _
    refine XS.iloadN X3.here hx rfl (hb hby at_10) rfl ?_
    show Steps p.tables e below (T3.setTop (mkF m 11 #[.val (.int p1), .val (.int p2), .val (.int (p1 &&& (15 : Int32))), .val (.int (own_dg ((p1 &&& (15 : Int32)) &&& (15 : Int32)))), .unset, .unset, .unset, .unset, .unset, .unset, .unset] [(.int (own_dg ((p1 &&& (15 : Int32)) &&& (15 : Int32))))])) _
    refine st4 _ ?_
    show Steps p.tables e below (T4.setTop (mkF m 14 #[.val (.int p1), .val (.int p2), .val (.int (p1 &&& (15 : Int32))), .val (.int (own_dg ((p1 &&& (15 : Int32)) &&& (15 : Int32)))), .unset, .unset, .unset, .unset, .unset, .unset, .unset] [(.int (own_f2 (own_dg ((p1 &&& (15 : Int32)) &&& (15 : Int32)))))])) _
    refine XS.iloadN X4.here hx rfl (hb hby at_14) rfl ?_
    show Steps p.tables e below (T4.setTop (mkF m 15 #[.val (.int p1), .val (.int p2), .val (.int (p1 &&& (15 : Int32))), .val (.int (own_dg ((p1 &&& (15 : Int32)) &&& (15 : Int32)))), .unset, .unset, .unset, .unset, .unset, .unset, .unset] [(.int (p1 &&& (15 : Int32))), (.int (own_f2 (own_dg ((p1 &&& (15 : Int32)) &&& (15 : Int32)))))])) _
    refine XS.icmpNo X4.here hx rfl (hb hby at_15) rfl (teq ht15).2 ?_
    show Steps p.tables e below (T4.setTop (mkF m 18 #[.val (.int p1), .val (.int p2), .val (.int (p1 &&& (15 : Int32))), .val (.int (own_dg ((p1 &&& (15 : Int32)) &&& (15 : Int32)))), .unset, .unset, .unset, .unset, .unset, .unset, .unset] [])) _
    refine XS.iconst X4.here hx rfl (hb hby at_18) ?_
    show Steps p.tables e below (T4.setTop (mkF m 19 #[.val (.int p1), .val (.int p2), .val (.int (p1 &&& (15 : Int32))), .val (.int (own_dg ((p1 &&& (15 : Int32)) &&& (15 : Int32)))), .unset, .unset, .unset, .unset, .unset, .unset, .unset] [(.int (1 : Int32))])) _
    refine XS.goto X4.here hx rfl (pc0 := 19) (pc' := 23) rfl (hb hby at_19) (by decide) (by decide) ?_
    show Steps p.tables e below (T4.setTop (mkF m 23 #[.val (.int p1), .val (.int p2), .val (.int (p1 &&& (15 : Int32))), .val (.int (own_dg ((p1 &&& (15 : Int32)) &&& (15 : Int32)))), .unset, .unset, .unset, .unset, .unset, .unset, .unset] [(.int (1 : Int32))])) _
    refine XS.istore X4.here hx rfl (hb hby at_23) rfl (l' := #[.val (.int p1), .val (.int p2), .val (.int (p1 &&& (15 : Int32))), .val (.int (own_dg ((p1 &&& (15 : Int32)) &&& (15 : Int32)))), .val (.int (1 : Int32)), .unset, .unset, .unset, .unset, .unset, .unset]) rfl ?_
    show Steps p.tables e below (T4.setTop (mkF m 25 #[.val (.int p1), .val (.int p2), .val (.int (p1 &&& (15 : Int32))), .val (.int (own_dg ((p1 &&& (15 : Int32)) &&& (15 : Int32)))), .val (.int (1 : Int32)), .unset, .unset, .unset, .unset, .unset, .unset] [])) _
    refine XS.iloadN X4.here hx rfl (hb hby at_25) rfl ?_
    show Steps p.tables e below (T4.setTop (mkF m 26 #[.val (.int p1), .val (.int p2), .val (.int (p1 &&& (15 : Int32))), .val (.int (own_dg ((p1 &&& (15 : Int32)) &&& (15 : Int32)))), .val (.int (1 : Int32)), .unset, .unset, .unset, .unset, .unset, .unset] [(.int (p1 &&& (15 : Int32)))])) _
    refine XS.bipush X4.here hx rfl (hb hby at_26) ?_
    show Steps p.tables e below (T4.setTop (mkF m 28 #[.val (.int p1), .val (.int p2), .val (.int (p1 &&& (15 : Int32))), .val (.int (own_dg ((p1 &&& (15 : Int32)) &&& (15 : Int32)))), .val (.int (1 : Int32)), .unset, .unset, .unset, .unset, .unset, .unset] [(.int (10 : Int32)), (.int (p1 &&& (15 : Int32)))])) _
    refine XS.icmpNo X4.here hx rfl (hb hby at_28) rfl (flt hc28).1 ?_
    show Steps p.tables e below (T4.setTop (mkF m 31 #[.val (.int p1), .val (.int p2), .val (.int (p1 &&& (15 : Int32))), .val (.int (own_dg ((p1 &&& (15 : Int32)) &&& (15 : Int32)))), .val (.int (1 : Int32)), .unset, .unset, .unset, .unset, .unset, .unset] [])) _
    refine XS.iloadN X4.here hx rfl (hb hby at_31) rfl ?_
    show Steps p.tables e below (T4.setTop (mkF m 32 #[.val (.int p1), .val (.int p2), .val (.int (p1 &&& (15 : Int32))), .val (.int (own_dg ((p1 &&& (15 : Int32)) &&& (15 : Int32)))), .val (.int (1 : Int32)), .unset, .unset, .unset, .unset, .unset, .unset] [(.int (own_dg ((p1 &&& (15 : Int32)) &&& (15 : Int32))))])) _
    refine XS.bipush X4.here hx rfl (hb hby at_32) ?_
    show Steps p.tables e below (T4.setTop (mkF m 34 #[.val (.int p1), .val (.int p2), .val (.int (p1 &&& (15 : Int32))), .val (.int (own_dg ((p1 &&& (15 : Int32)) &&& (15 : Int32)))), .val (.int (1 : Int32)), .unset, .unset, .unset, .unset, .unset, .unset] [(.int (32 : Int32)), (.int (own_dg ((p1 &&& (15 : Int32)) &&& (15 : Int32))))])) _
    refine XS.isub X4.here hx rfl (hb hby at_34) rfl ?_
    show Steps p.tables e below (T4.setTop (mkF m 35 #[.val (.int p1), .val (.int p2), .val (.int (p1 &&& (15 : Int32))), .val (.int (own_dg ((p1 &&& (15 : Int32)) &&& (15 : Int32)))), .val (.int (1 : Int32)), .unset, .unset, .unset, .unset, .unset, .unset] [(.int ((own_dg ((p1 &&& (15 : Int32)) &&& (15 : Int32))) - (32 : Int32)))])) _
    refine XS.i2c X4.here hx rfl (hb hby at_35) rfl ?_
    show Steps p.tables e below (T4.setTop (mkF m 36 #[.val (.int p1), .val (.int p2), .val (.int (p1 &&& (15 : Int32))), .val (.int (own_dg ((p1 &&& (15 : Int32)) &&& (15 : Int32)))), .val (.int (1 : Int32)), .unset, .unset, .unset, .unset, .unset, .unset] [(.int (((own_dg ((p1 &&& (15 : Int32)) &&& (15 : Int32))) - (32 : Int32)).toUInt32.toUInt16.toUInt32.toInt32))])) _
    refine XS.goto X4.here hx rfl (pc0 := 36) (pc' := 40) rfl (hb hby at_36) (by decide) (by decide) ?_
    show Steps p.tables e below (T4.setTop (mkF m 40 #[.val (.int p1), .val (.int p2), .val (.int (p1 &&& (15 : Int32))), .val (.int (own_dg ((p1 &&& (15 : Int32)) &&& (15 : Int32)))), .val (.int (1 : Int32)), .unset, .unset, .unset, .unset, .unset, .unset] [(.int (((own_dg ((p1 &&& (15 : Int32)) &&& (15 : Int32))) - (32 : Int32)).toUInt32.toUInt16.toUInt32.toInt32))])) _
    refine XS.istore X4.here hx rfl (hb hby at_40) rfl (l' := #[.val (.int p1), .val (.int p2), .val (.int (p1 &&& (15 : Int32))), .val (.int (own_dg ((p1 &&& (15 : Int32)) &&& (15 : Int32)))), .val (.int (1 : Int32)), .val (.int (((own_dg ((p1 &&& (15 : Int32)) &&& (15 : Int32))) - (32 : Int32)).toUInt32.toUInt16.toUInt32.toInt32)), .unset, .unset, .unset, .unset, .unset]) rfl ?_
    show Steps p.tables e below (T4.setTop (mkF m 42 #[.val (.int p1), .val (.int p2), .val (.int (p1 &&& (15 : Int32))), .val (.int (own_dg ((p1 &&& (15 : Int32)) &&& (15 : Int32)))), .val (.int (1 : Int32)), .val (.int (((own_dg ((p1 &&& (15 : Int32)) &&& (15 : Int32))) - (32 : Int32)).toUInt32.toUInt16.toUInt32.toInt32)), .unset, .unset, .unset, .unset, .unset] [])) _
    refine XS.iload X4.here hx rfl (hb hby at_42) rfl ?_
    show Steps p.tables e below (T4.setTop (mkF m 44 #[.val (.int p1), .val (.int p2), .val (.int (p1 &&& (15 : Int32))), .val (.int (own_dg ((p1 &&& (15 : Int32)) &&& (15 : Int32)))), .val (.int (1 : Int32)), .val (.int (((own_dg ((p1 &&& (15 : Int32)) &&& (15 : Int32))) - (32 : Int32)).toUInt32.toUInt16.toUInt32.toInt32)), .unset, .unset, .unset, .unset, .unset] [(.int (((own_dg ((p1 &&& (15 : Int32)) &&& (15 : Int32))) - (32 : Int32)).toUInt32.toUInt16.toUInt32.toInt32))])) _
    refine st5 _ ?_
    show Steps p.tables e below (T5.setTop (mkF m 47 #[.val (.int p1), .val (.int p2), .val (.int (p1 &&& (15 : Int32))), .val (.int (own_dg ((p1 &&& (15 : Int32)) &&& (15 : Int32)))), .val (.int (1 : Int32)), .val (.int (((own_dg ((p1 &&& (15 : Int32)) &&& (15 : Int32))) - (32 : Int32)).toUInt32.toUInt16.toUInt32.toInt32)), .unset, .unset, .unset, .unset, .unset] [(.int (own_f2 (((own_dg ((p1 &&& (15 : Int32)) &&& (15 : Int32))) - (32 : Int32)).toUInt32.toUInt16.toUInt32.toInt32)))])) _
    refine XS.iloadN X5.here hx rfl (hb hby at_47) rfl ?_
    show Steps p.tables e below (T5.setTop (mkF m 48 #[.val (.int p1), .val (.int p2), .val (.int (p1 &&& (15 : Int32))), .val (.int (own_dg ((p1 &&& (15 : Int32)) &&& (15 : Int32)))), .val (.int (1 : Int32)), .val (.int (((own_dg ((p1 &&& (15 : Int32)) &&& (15 : Int32))) - (32 : Int32)).toUInt32.toUInt16.toUInt32.toInt32)), .unset, .unset, .unset, .unset, .unset] [(.int (p1 &&& (15 : Int32))), (.int (own_f2 (((own_dg ((p1 &&& (15 : Int32)) &&& (15 : Int32))) - (32 : Int32)).toUInt32.toUInt16.toUInt32.toInt32)))])) _
    refine XS.icmpNo X5.here hx rfl (hb hby at_48) rfl (teq ht48).2 ?_
    show Steps p.tables e below (T5.setTop (mkF m 51 #[.val (.int p1), .val (.int p2), .val (.int (p1 &&& (15 : Int32))), .val (.int (own_dg ((p1 &&& (15 : Int32)) &&& (15 : Int32)))), .val (.int (1 : Int32)), .val (.int (((own_dg ((p1 &&& (15 : Int32)) &&& (15 : Int32))) - (32 : Int32)).toUInt32.toUInt16.toUInt32.toInt32)), .unset, .unset, .unset, .unset, .unset] [])) _
    refine XS.iconst X5.here hx rfl (hb hby at_51) ?_
    show Steps p.tables e below (T5.setTop (mkF m 52 #[.val (.int p1), .val (.int p2), .val (.int (p1 &&& (15 : Int32))), .val (.int (own_dg ((p1 &&& (15 : Int32)) &&& (15 : Int32)))), .val (.int (1 : Int32)), .val (.int (((own_dg ((p1 &&& (15 : Int32)) &&& (15 : Int32))) - (32 : Int32)).toUInt32.toUInt16.toUInt32.toInt32)), .unset, .unset, .unset, .unset, .unset] [(.int (1 : Int32))])) _
    refine XS.goto X5.here hx rfl (pc0 := 52) (pc' := 56) rfl (hb hby at_52) (by decide) (by decide) ?_
    show Steps p.tables e below (T5.setTop (mkF m 56 #[.val (.int p1), .val (.int p2), .val (.int (p1 &&& (15 : Int32))), .val (.int (own_dg ((p1 &&& (15 : Int32)) &&& (15 : Int32)))), .val (.int (1 : Int32)), .val (.int (((own_dg ((p1 &&& (15 : Int32)) &&& (15 : Int32))) - (32 : Int32)).toUInt32.toUInt16.toUInt32.toInt32)), .unset, .unset, .unset, .unset, .unset] [(.int (1 : Int32))])) _
    refine XS.istore X5.here hx rfl (hb hby at_56) rfl (l' := #[.val (.int p1), .val (.int p2), .val (.int (p1 &&& (15 : Int32))), .val (.int (own_dg ((p1 &&& (15 : Int32)) &&& (15 : Int32)))), .val (.int (1 : Int32)), .val (.int (((own_dg ((p1 &&& (15 : Int32)) &&& (15 : Int32))) - (32 : Int32)).toUInt32.toUInt16.toUInt32.toInt32)), .val (.int (1 : Int32)), .unset, .unset, .unset, .unset]) rfl ?_
    show Steps p.tables e below (T5.setTop (mkF m 58 #[.val (.int p1), .val (.int p2), .val (.int (p1 &&& (15 : Int32))), .val (.int (own_dg ((p1 &&& (15 : Int32)) &&& (15 : Int32)))), .val (.int (1 : Int32)), .val (.int (((own_dg ((p1 &&& (15 : Int32)) &&& (15 : Int32))) - (32 : Int32)).toUInt32.toUInt16.toUInt32.toInt32)), .val (.int (1 : Int32)), .unset, .unset, .unset, .unset] [])) _
    refine XS.iloadN X5.here hx rfl (hb hby at_58) rfl ?_
    show Steps p.tables e below (T5.setTop (mkF m 59 #[.val (.int p1), .val (.int p2), .val (.int (p1 &&& (15 : Int32))), .val (.int (own_dg ((p1 &&& (15 : Int32)) &&& (15 : Int32)))), .val (.int (1 : Int32)), .val (.int (((own_dg ((p1 &&& (15 : Int32)) &&& (15 : Int32))) - (32 : Int32)).toUInt32.toUInt16.toUInt32.toInt32)), .val (.int (1 : Int32)), .unset, .unset, .unset, .unset] [(.int p2)])) _
    refine X5.ldcInt hx hown (mvT hZ (hw _ (List.mem_of_getElem? (i := 9) rfl))) (g := (mkF m 59 #[.val (.int p1), .val (.int p2), .val (.int (p1 &&& (15 : Int32))), .val (.int (own_dg ((p1 &&& (15 : Int32)) &&& (15 : Int32)))), .val (.int (1 : Int32)), .val (.int (((own_dg ((p1 &&& (15 : Int32)) &&& (15 : Int32))) - (32 : Int32)).toUInt32.toUInt16.toUInt32.toInt32)), .val (.int (1 : Int32)), .unset, .unset, .unset, .unset] [(.int p2)])) rfl (hb hby at_59) _ ?_
    show Steps p.tables e below (T5.setTop (mkF m 61 #[.val (.int p1), .val (.int p2), .val (.int (p1 &&& (15 : Int32))), .val (.int (own_dg ((p1 &&& (15 : Int32)) &&& (15 : Int32)))), .val (.int (1 : Int32)), .val (.int (((own_dg ((p1 &&& (15 : Int32)) &&& (15 : Int32))) - (32 : Int32)).toUInt32.toUInt16.toUInt32.toInt32)), .val (.int (1 : Int32)), .unset, .unset, .unset, .unset] [(.int (65535 : Int32)), (.int p2)])) _
    refine XS.iand X5.here hx rfl (hb hby at_61) rfl ?_
    show Steps p.tables e below (T5.setTop (mkF m 62 #[.val (.int p1), .val (.int p2), .val (.int (p1 &&& (15 : Int32))), .val (.int (own_dg ((p1 &&& (15 : Int32)) &&& (15 : Int32)))), .val (.int (1 : Int32)), .val (.int (((own_dg ((p1 &&& (15 : Int32)) &&& (15 : Int32))) - (32 : Int32)).toUInt32.toUInt16.toUInt32.toInt32)), .val (.int (1 : Int32)), .unset, .unset, .unset, .unset] [(.int (p2 &&& (65535 : Int32)))])) _
    refine XS.i2c X5.here hx rfl (hb hby at_62) rfl ?_
    show Steps p.tables e below (T5.setTop (mkF m 63 #[.val (.int p1), .val (.int p2), .val (.int (p1 &&& (15 : Int32))), .val (.int (own_dg ((p1 &&& (15 : Int32)) &&& (15 : Int32)))), .val (.int (1 : Int32)), .val (.int (((own_dg ((p1 &&& (15 : Int32)) &&& (15 : Int32))) - (32 : Int32)).toUInt32.toUInt16.toUInt32.toInt32)), .val (.int (1 : Int32)), .unset, .unset, .unset, .unset] [(.int ((p2 &&& (65535 : Int32)).toUInt32.toUInt16.toUInt32.toInt32))])) _
    refine XS.istore X5.here hx rfl (hb hby at_63) rfl (l' := #[.val (.int p1), .val (.int p2), .val (.int (p1 &&& (15 : Int32))), .val (.int (own_dg ((p1 &&& (15 : Int32)) &&& (15 : Int32)))), .val (.int (1 : Int32)), .val (.int (((own_dg ((p1 &&& (15 : Int32)) &&& (15 : Int32))) - (32 : Int32)).toUInt32.toUInt16.toUInt32.toInt32)), .val (.int (1 : Int32)), .val (.int ((p2 &&& (65535 : Int32)).toUInt32.toUInt16.toUInt32.toInt32)), .unset, .unset, .unset]) rfl ?_
    show Steps p.tables e below (T5.setTop (mkF m 65 #[.val (.int p1), .val (.int p2), .val (.int (p1 &&& (15 : Int32))), .val (.int (own_dg ((p1 &&& (15 : Int32)) &&& (15 : Int32)))), .val (.int (1 : Int32)), .val (.int (((own_dg ((p1 &&& (15 : Int32)) &&& (15 : Int32))) - (32 : Int32)).toUInt32.toUInt16.toUInt32.toInt32)), .val (.int (1 : Int32)), .val (.int ((p2 &&& (65535 : Int32)).toUInt32.toUInt16.toUInt32.toInt32)), .unset, .unset, .unset] [])) _
    refine XS.iload X5.here hx rfl (hb hby at_65) rfl ?_
    show Steps p.tables e below (T5.setTop (mkF m 67 #[.val (.int p1), .val (.int p2), .val (.int (p1 &&& (15 : Int32))), .val (.int (own_dg ((p1 &&& (15 : Int32)) &&& (15 : Int32)))), .val (.int (1 : Int32)), .val (.int (((own_dg ((p1 &&& (15 : Int32)) &&& (15 : Int32))) - (32 : Int32)).toUInt32.toUInt16.toUInt32.toInt32)), .val (.int (1 : Int32)), .val (.int ((p2 &&& (65535 : Int32)).toUInt32.toUInt16.toUInt32.toInt32)), .unset, .unset, .unset] [(.int ((p2 &&& (65535 : Int32)).toUInt32.toUInt16.toUInt32.toInt32))])) _
    refine st6 _ ?_
    show Steps p.tables e below (T6.setTop (mkF m 70 #[.val (.int p1), .val (.int p2), .val (.int (p1 &&& (15 : Int32))), .val (.int (own_dg ((p1 &&& (15 : Int32)) &&& (15 : Int32)))), .val (.int (1 : Int32)), .val (.int (((own_dg ((p1 &&& (15 : Int32)) &&& (15 : Int32))) - (32 : Int32)).toUInt32.toUInt16.toUInt32.toInt32)), .val (.int (1 : Int32)), .val (.int ((p2 &&& (65535 : Int32)).toUInt32.toUInt16.toUInt32.toInt32)), .unset, .unset, .unset] [(.int (own_f2 ((p2 &&& (65535 : Int32)).toUInt32.toUInt16.toUInt32.toInt32)))])) _
    refine XS.istore X6.here hx rfl (hb hby at_70) rfl (l' := #[.val (.int p1), .val (.int p2), .val (.int (p1 &&& (15 : Int32))), .val (.int (own_dg ((p1 &&& (15 : Int32)) &&& (15 : Int32)))), .val (.int (1 : Int32)), .val (.int (((own_dg ((p1 &&& (15 : Int32)) &&& (15 : Int32))) - (32 : Int32)).toUInt32.toUInt16.toUInt32.toInt32)), .val (.int (1 : Int32)), .val (.int ((p2 &&& (65535 : Int32)).toUInt32.toUInt16.toUInt32.toInt32)), .val (.int (own_f2 ((p2 &&& (65535 : Int32)).toUInt32.toUInt16.toUInt32.toInt32))), .unset, .unset]) rfl ?_
    show Steps p.tables e below (T6.setTop (mkF m 72 #[.val (.int p1), .val (.int p2), .val (.int (p1 &&& (15 : Int32))), .val (.int (own_dg ((p1 &&& (15 : Int32)) &&& (15 : Int32)))), .val (.int (1 : Int32)), .val (.int (((own_dg ((p1 &&& (15 : Int32)) &&& (15 : Int32))) - (32 : Int32)).toUInt32.toUInt16.toUInt32.toInt32)), .val (.int (1 : Int32)), .val (.int ((p2 &&& (65535 : Int32)).toUInt32.toUInt16.toUInt32.toInt32)), .val (.int (own_f2 ((p2 &&& (65535 : Int32)).toUInt32.toUInt16.toUInt32.toInt32))), .unset, .unset] [])) _
    refine XS.iload X6.here hx rfl (hb hby at_72) rfl ?_
    show Steps p.tables e below (T6.setTop (mkF m 74 #[.val (.int p1), .val (.int p2), .val (.int (p1 &&& (15 : Int32))), .val (.int (own_dg ((p1 &&& (15 : Int32)) &&& (15 : Int32)))), .val (.int (1 : Int32)), .val (.int (((own_dg ((p1 &&& (15 : Int32)) &&& (15 : Int32))) - (32 : Int32)).toUInt32.toUInt16.toUInt32.toInt32)), .val (.int (1 : Int32)), .val (.int ((p2 &&& (65535 : Int32)).toUInt32.toUInt16.toUInt32.toInt32)), .val (.int (own_f2 ((p2 &&& (65535 : Int32)).toUInt32.toUInt16.toUInt32.toInt32))), .unset, .unset] [(.int (own_f2 ((p2 &&& (65535 : Int32)).toUInt32.toUInt16.toUInt32.toInt32)))])) _
    refine XS.iconst X6.here hx rfl (hb hby at_74) ?_
    show Steps p.tables e below (T6.setTop (mkF m 75 #[.val (.int p1), .val (.int p2), .val (.int (p1 &&& (15 : Int32))), .val (.int (own_dg ((p1 &&& (15 : Int32)) &&& (15 : Int32)))), .val (.int (1 : Int32)), .val (.int (((own_dg ((p1 &&& (15 : Int32)) &&& (15 : Int32))) - (32 : Int32)).toUInt32.toUInt16.toUInt32.toInt32)), .val (.int (1 : Int32)), .val (.int ((p2 &&& (65535 : Int32)).toUInt32.toUInt16.toUInt32.toInt32)), .val (.int (own_f2 ((p2 &&& (65535 : Int32)).toUInt32.toUInt16.toUInt32.toInt32))), .unset, .unset] [(.int (-1 : Int32)), (.int (own_f2 ((p2 &&& (65535 : Int32)).toUInt32.toUInt16.toUInt32.toInt32)))])) _
    refine XS.icmpYes X6.here hx rfl (pc0 := 75) (pc' := 84) rfl (hb hby at_75) rfl (feq ht75).2 (by decide) (by decide) ?_
    show Steps p.tables e below (T6.setTop (mkF m 84 #[.val (.int p1), .val (.int p2), .val (.int (p1 &&& (15 : Int32))), .val (.int (own_dg ((p1 &&& (15 : Int32)) &&& (15 : Int32)))), .val (.int (1 : Int32)), .val (.int (((own_dg ((p1 &&& (15 : Int32)) &&& (15 : Int32))) - (32 : Int32)).toUInt32.toUInt16.toUInt32.toInt32)), .val (.int (1 : Int32)), .val (.int ((p2 &&& (65535 : Int32)).toUInt32.toUInt16.toUInt32.toInt32)), .val (.int (own_f2 ((p2 &&& (65535 : Int32)).toUInt32.toUInt16.toUInt32.toInt32))), .unset, .unset] [])) _
    refine XS.iload X6.here hx rfl (hb hby at_84) rfl ?_
    show Steps p.tables e below (T6.setTop (mkF m 86 #[.val (.int p1), .val (.int p2), .val (.int (p1 &&& (15 : Int32))), .val (.int (own_dg ((p1 &&& (15 : Int32)) &&& (15 : Int32)))), .val (.int (1 : Int32)), .val (.int (((own_dg ((p1 &&& (15 : Int32)) &&& (15 : Int32))) - (32 : Int32)).toUInt32.toUInt16.toUInt32.toInt32)), .val (.int (1 : Int32)), .val (.int ((p2 &&& (65535 : Int32)).toUInt32.toUInt16.toUInt32.toInt32)), .val (.int (own_f2 ((p2 &&& (65535 : Int32)).toUInt32.toUInt16.toUInt32.toInt32))), .unset, .unset] [(.int (own_f2 ((p2 &&& (65535 : Int32)).toUInt32.toUInt16.toUInt32.toInt32)))])) _
    refine XS.ifNo X6.here hx rfl (hb hby at_86) rfl ((if0 _ _).trans (flt ht86).1) ?_
    show Steps p.tables e below (T6.setTop (mkF m 89 #[.val (.int p1), .val (.int p2), .val (.int (p1 &&& (15 : Int32))), .val (.int (own_dg ((p1 &&& (15 : Int32)) &&& (15 : Int32)))), .val (.int (1 : Int32)), .val (.int (((own_dg ((p1 &&& (15 : Int32)) &&& (15 : Int32))) - (32 : Int32)).toUInt32.toUInt16.toUInt32.toInt32)), .val (.int (1 : Int32)), .val (.int ((p2 &&& (65535 : Int32)).toUInt32.toUInt16.toUInt32.toInt32)), .val (.int (own_f2 ((p2 &&& (65535 : Int32)).toUInt32.toUInt16.toUInt32.toInt32))), .unset, .unset] [])) _
    refine XS.iload X6.here hx rfl (hb hby at_89) rfl ?_
    show Steps p.tables e below (T6.setTop (mkF m 91 #[.val (.int p1), .val (.int p2), .val (.int (p1 &&& (15 : Int32))), .val (.int (own_dg ((p1 &&& (15 : Int32)) &&& (15 : Int32)))), .val (.int (1 : Int32)), .val (.int (((own_dg ((p1 &&& (15 : Int32)) &&& (15 : Int32))) - (32 : Int32)).toUInt32.toUInt16.toUInt32.toInt32)), .val (.int (1 : Int32)), .val (.int ((p2 &&& (65535 : Int32)).toUInt32.toUInt16.toUInt32.toInt32)), .val (.int (own_f2 ((p2 &&& (65535 : Int32)).toUInt32.toUInt16.toUInt32.toInt32))), .unset, .unset] [(.int (own_f2 ((p2 &&& (65535 : Int32)).toUInt32.toUInt16.toUInt32.toInt32)))])) _
    refine XS.bipush X6.here hx rfl (hb hby at_91) ?_
    show Steps p.tables e below (T6.setTop (mkF m 93 #[.val (.int p1), .val (.int p2), .val (.int (p1 &&& (15 : Int32))), .val (.int (own_dg ((p1 &&& (15 : Int32)) &&& (15 : Int32)))), .val (.int (1 : Int32)), .val (.int (((own_dg ((p1 &&& (15 : Int32)) &&& (15 : Int32))) - (32 : Int32)).toUInt32.toUInt16.toUInt32.toInt32)), .val (.int (1 : Int32)), .val (.int ((p2 &&& (65535 : Int32)).toUInt32.toUInt16.toUInt32.toInt32)), .val (.int (own_f2 ((p2 &&& (65535 : Int32)).toUInt32.toUInt16.toUInt32.toInt32))), .unset, .unset] [(.int (15 : Int32)), (.int (own_f2 ((p2 &&& (65535 : Int32)).toUInt32.toUInt16.toUInt32.toInt32)))])) _
    refine XS.icmpNo X6.here hx rfl (hb hby at_93) rfl (flt ht93).2.2.1 ?_
    show Steps p.tables e below (T6.setTop (mkF m 96 #[.val (.int p1), .val (.int p2), .val (.int (p1 &&& (15 : Int32))), .val (.int (own_dg ((p1 &&& (15 : Int32)) &&& (15 : Int32)))), .val (.int (1 : Int32)), .val (.int (((own_dg ((p1 &&& (15 : Int32)) &&& (15 : Int32))) - (32 : Int32)).toUInt32.toUInt16.toUInt32.toInt32)), .val (.int (1 : Int32)), .val (.int ((p2 &&& (65535 : Int32)).toUInt32.toUInt16.toUInt32.toInt32)), .val (.int (own_f2 ((p2 &&& (65535 : Int32)).toUInt32.toUInt16.toUInt32.toInt32))), .unset, .unset] [])) _
    refine XS.iload X6.here hx rfl (hb hby at_96) rfl ?_
    show Steps p.tables e below (T6.setTop (mkF m 98 #[.val (.int p1), .val (.int p2), .val (.int (p1 &&& (15 : Int32))), .val (.int (own_dg ((p1 &&& (15 : Int32)) &&& (15 : Int32)))), .val (.int (1 : Int32)), .val (.int (((own_dg ((p1 &&& (15 : Int32)) &&& (15 : Int32))) - (32 : Int32)).toUInt32.toUInt16.toUInt32.toInt32)), .val (.int (1 : Int32)), .val (.int ((p2 &&& (65535 : Int32)).toUInt32.toUInt16.toUInt32.toInt32)), .val (.int (own_f2 ((p2 &&& (65535 : Int32)).toUInt32.toUInt16.toUInt32.toInt32))), .unset, .unset] [(.int (own_f2 ((p2 &&& (65535 : Int32)).toUInt32.toUInt16.toUInt32.toInt32)))])) _
    refine st7 _ ?_
    show Steps p.tables e below (T7.setTop (mkF m 101 #[.val (.int p1), .val (.int p2), .val (.int (p1 &&& (15 : Int32))), .val (.int (own_dg ((p1 &&& (15 : Int32)) &&& (15 : Int32)))), .val (.int (1 : Int32)), .val (.int (((own_dg ((p1 &&& (15 : Int32)) &&& (15 : Int32))) - (32 : Int32)).toUInt32.toUInt16.toUInt32.toInt32)), .val (.int (1 : Int32)), .val (.int ((p2 &&& (65535 : Int32)).toUInt32.toUInt16.toUInt32.toInt32)), .val (.int (own_f2 ((p2 &&& (65535 : Int32)).toUInt32.toUInt16.toUInt32.toInt32))), .unset, .unset] [(.int (own_dg ((own_f2 ((p2 &&& (65535 : Int32)).toUInt32.toUInt16.toUInt32.toInt32)) &&& (15 : Int32))))])) _
    refine XS.istore X7.here hx rfl (hb hby at_101) rfl (l' := #[.val (.int p1), .val (.int p2), .val (.int (p1 &&& (15 : Int32))), .val (.int (own_dg ((p1 &&& (15 : Int32)) &&& (15 : Int32)))), .val (.int (1 : Int32)), .val (.int (((own_dg ((p1 &&& (15 : Int32)) &&& (15 : Int32))) - (32 : Int32)).toUInt32.toUInt16.toUInt32.toInt32)), .val (.int (1 : Int32)), .val (.int ((p2 &&& (65535 : Int32)).toUInt32.toUInt16.toUInt32.toInt32)), .val (.int (own_f2 ((p2 &&& (65535 : Int32)).toUInt32.toUInt16.toUInt32.toInt32))), .unset, .val (.int (own_dg ((own_f2 ((p2 &&& (65535 : Int32)).toUInt32.toUInt16.toUInt32.toInt32)) &&& (15 : Int32))))]) rfl ?_
    show Steps p.tables e below (T7.setTop (mkF m 103 #[.val (.int p1), .val (.int p2), .val (.int (p1 &&& (15 : Int32))), .val (.int (own_dg ((p1 &&& (15 : Int32)) &&& (15 : Int32)))), .val (.int (1 : Int32)), .val (.int (((own_dg ((p1 &&& (15 : Int32)) &&& (15 : Int32))) - (32 : Int32)).toUInt32.toUInt16.toUInt32.toInt32)), .val (.int (1 : Int32)), .val (.int ((p2 &&& (65535 : Int32)).toUInt32.toUInt16.toUInt32.toInt32)), .val (.int (own_f2 ((p2 &&& (65535 : Int32)).toUInt32.toUInt16.toUInt32.toInt32))), .unset, .val (.int (own_dg ((own_f2 ((p2 &&& (65535 : Int32)).toUInt32.toUInt16.toUInt32.toInt32)) &&& (15 : Int32))))] [])) _
    refine XS.iload X7.here hx rfl (hb hby at_103) rfl ?_
    show Steps p.tables e below (T7.setTop (mkF m 105 #[.val (.int p1), .val (.int p2), .val (.int (p1 &&& (15 : Int32))), .val (.int (own_dg ((p1 &&& (15 : Int32)) &&& (15 : Int32)))), .val (.int (1 : Int32)), .val (.int (((own_dg ((p1 &&& (15 : Int32)) &&& (15 : Int32))) - (32 : Int32)).toUInt32.toUInt16.toUInt32.toInt32)), .val (.int (1 : Int32)), .val (.int ((p2 &&& (65535 : Int32)).toUInt32.toUInt16.toUInt32.toInt32)), .val (.int (own_f2 ((p2 &&& (65535 : Int32)).toUInt32.toUInt16.toUInt32.toInt32))), .unset, .val (.int (own_dg ((own_f2 ((p2 &&& (65535 : Int32)).toUInt32.toUInt16.toUInt32.toInt32)) &&& (15 : Int32))))] [(.int (own_dg ((own_f2 ((p2 &&& (65535 : Int32)).toUInt32.toUInt16.toUInt32.toInt32)) &&& (15 : Int32))))])) _
    refine XS.iload X7.here hx rfl (hb hby at_105) rfl ?_
    show Steps p.tables e below (T7.setTop (mkF m 107 #[.val (.int p1), .val (.int p2), .val (.int (p1 &&& (15 : Int32))), .val (.int (own_dg ((p1 &&& (15 : Int32)) &&& (15 : Int32)))), .val (.int (1 : Int32)), .val (.int (((own_dg ((p1 &&& (15 : Int32)) &&& (15 : Int32))) - (32 : Int32)).toUInt32.toUInt16.toUInt32.toInt32)), .val (.int (1 : Int32)), .val (.int ((p2 &&& (65535 : Int32)).toUInt32.toUInt16.toUInt32.toInt32)), .val (.int (own_f2 ((p2 &&& (65535 : Int32)).toUInt32.toUInt16.toUInt32.toInt32))), .unset, .val (.int (own_dg ((own_f2 ((p2 &&& (65535 : Int32)).toUInt32.toUInt16.toUInt32.toInt32)) &&& (15 : Int32))))] [(.int ((p2 &&& (65535 : Int32)).toUInt32.toUInt16.toUInt32.toInt32)), (.int (own_dg ((own_f2 ((p2 &&& (65535 : Int32)).toUInt32.toUInt16.toUInt32.toInt32)) &&& (15 : Int32))))])) _
    refine XS.icmpNo X7.here hx rfl (hb hby at_107) rfl (feq ht107).1 ?_
    show Steps p.tables e below (T7.setTop (mkF m 110 #[.val (.int p1), .val (.int p2), .val (.int (p1 &&& (15 : Int32))), .val (.int (own_dg ((p1 &&& (15 : Int32)) &&& (15 : Int32)))), .val (.int (1 : Int32)), .val (.int (((own_dg ((p1 &&& (15 : Int32)) &&& (15 : Int32))) - (32 : Int32)).toUInt32.toUInt16.toUInt32.toInt32)), .val (.int (1 : Int32)), .val (.int ((p2 &&& (65535 : Int32)).toUInt32.toUInt16.toUInt32.toInt32)), .val (.int (own_f2 ((p2 &&& (65535 : Int32)).toUInt32.toUInt16.toUInt32.toInt32))), .unset, .val (.int (own_dg ((own_f2 ((p2 &&& (65535 : Int32)).toUInt32.toUInt16.toUInt32.toInt32)) &&& (15 : Int32))))] [])) _
    refine XS.iload X7.here hx rfl (hb hby at_110) rfl ?_
    show Steps p.tables e below (T7.setTop (mkF m 112 #[.val (.int p1), .val (.int p2), .val (.int (p1 &&& (15 : Int32))), .val (.int (own_dg ((p1 &&& (15 : Int32)) &&& (15 : Int32)))), .val (.int (1 : Int32)), .val (.int (((own_dg ((p1 &&& (15 : Int32)) &&& (15 : Int32))) - (32 : Int32)).toUInt32.toUInt16.toUInt32.toInt32)), .val (.int (1 : Int32)), .val (.int ((p2 &&& (65535 : Int32)).toUInt32.toUInt16.toUInt32.toInt32)), .val (.int (own_f2 ((p2 &&& (65535 : Int32)).toUInt32.toUInt16.toUInt32.toInt32))), .unset, .val (.int (own_dg ((own_f2 ((p2 &&& (65535 : Int32)).toUInt32.toUInt16.toUInt32.toInt32)) &&& (15 : Int32))))] [(.int (own_f2 ((p2 &&& (65535 : Int32)).toUInt32.toUInt16.toUInt32.toInt32)))])) _
    refine XS.bipush X7.here hx rfl (hb hby at_112) ?_
    show Steps p.tables e below (T7.setTop (mkF m 114 #[.val (.int p1), .val (.int p2), .val (.int (p1 &&& (15 : Int32))), .val (.int (own_dg ((p1 &&& (15 : Int32)) &&& (15 : Int32)))), .val (.int (1 : Int32)), .val (.int (((own_dg ((p1 &&& (15 : Int32)) &&& (15 : Int32))) - (32 : Int32)).toUInt32.toUInt16.toUInt32.toInt32)), .val (.int (1 : Int32)), .val (.int ((p2 &&& (65535 : Int32)).toUInt32.toUInt16.toUInt32.toInt32)), .val (.int (own_f2 ((p2 &&& (65535 : Int32)).toUInt32.toUInt16.toUInt32.toInt32))), .unset, .val (.int (own_dg ((own_f2 ((p2 &&& (65535 : Int32)).toUInt32.toUInt16.toUInt32.toInt32)) &&& (15 : Int32))))] [(.int (10 : Int32)), (.int (own_f2 ((p2 &&& (65535 : Int32)).toUInt32.toUInt16.toUInt32.toInt32)))])) _
    refine XS.icmpNo X7.here hx rfl (hb hby at_114) rfl (flt ht114).1 ?_
    show Steps p.tables e below (T7.setTop (mkF m 117 #[.val (.int p1), .val (.int p2), .val (.int (p1 &&& (15 : Int32))), .val (.int (own_dg ((p1 &&& (15 : Int32)) &&& (15 : Int32)))), .val (.int (1 : Int32)), .val (.int (((own_dg ((p1 &&& (15 : Int32)) &&& (15 : Int32))) - (32 : Int32)).toUInt32.toUInt16.toUInt32.toInt32)), .val (.int (1 : Int32)), .val (.int ((p2 &&& (65535 : Int32)).toUInt32.toUInt16.toUInt32.toInt32)), .val (.int (own_f2 ((p2 &&& (65535 : Int32)).toUInt32.toUInt16.toUInt32.toInt32))), .unset, .val (.int (own_dg ((own_f2 ((p2 &&& (65535 : Int32)).toUInt32.toUInt16.toUInt32.toInt32)) &&& (15 : Int32))))] [])) _
    refine XS.iload X7.here hx rfl (hb hby at_117) rfl ?_
    show Steps p.tables e below (T7.setTop (mkF m 119 #[.val (.int p1), .val (.int p2), .val (.int (p1 &&& (15 : Int32))), .val (.int (own_dg ((p1 &&& (15 : Int32)) &&& (15 : Int32)))), .val (.int (1 : Int32)), .val (.int (((own_dg ((p1 &&& (15 : Int32)) &&& (15 : Int32))) - (32 : Int32)).toUInt32.toUInt16.toUInt32.toInt32)), .val (.int (1 : Int32)), .val (.int ((p2 &&& (65535 : Int32)).toUInt32.toUInt16.toUInt32.toInt32)), .val (.int (own_f2 ((p2 &&& (65535 : Int32)).toUInt32.toUInt16.toUInt32.toInt32))), .unset, .val (.int (own_dg ((own_f2 ((p2 &&& (65535 : Int32)).toUInt32.toUInt16.toUInt32.toInt32)) &&& (15 : Int32))))] [(.int (own_dg ((own_f2 ((p2 &&& (65535 : Int32)).toUInt32.toUInt16.toUInt32.toInt32)) &&& (15 : Int32))))])) _
    refine XS.bipush X7.here hx rfl (hb hby at_119) ?_
    show Steps p.tables e below (T7.setTop (mkF m 121 #[.val (.int p1), .val (.int p2), .val (.int (p1 &&& (15 : Int32))), .val (.int (own_dg ((p1 &&& (15 : Int32)) &&& (15 : Int32)))), .val (.int (1 : Int32)), .val (.int (((own_dg ((p1 &&& (15 : Int32)) &&& (15 : Int32))) - (32 : Int32)).toUInt32.toUInt16.toUInt32.toInt32)), .val (.int (1 : Int32)), .val (.int ((p2 &&& (65535 : Int32)).toUInt32.toUInt16.toUInt32.toInt32)), .val (.int (own_f2 ((p2 &&& (65535 : Int32)).toUInt32.toUInt16.toUInt32.toInt32))), .unset, .val (.int (own_dg ((own_f2 ((p2 &&& (65535 : Int32)).toUInt32.toUInt16.toUInt32.toInt32)) &&& (15 : Int32))))] [(.int (32 : Int32)), (.int (own_dg ((own_f2 ((p2 &&& (65535 : Int32)).toUInt32.toUInt16.toUInt32.toInt32)) &&& (15 : Int32))))])) _
    refine XS.isub X7.here hx rfl (hb hby at_121) rfl ?_
    show Steps p.tables e below (T7.setTop (mkF m 122 #[.val (.int p1), .val (.int p2), .val (.int (p1 &&& (15 : Int32))), .val (.int (own_dg ((p1 &&& (15 : Int32)) &&& (15 : Int32)))), .val (.int (1 : Int32)), .val (.int (((own_dg ((p1 &&& (15 : Int32)) &&& (15 : Int32))) - (32 : Int32)).toUInt32.toUInt16.toUInt32.toInt32)), .val (.int (1 : Int32)), .val (.int ((p2 &&& (65535 : Int32)).toUInt32.toUInt16.toUInt32.toInt32)), .val (.int (own_f2 ((p2 &&& (65535 : Int32)).toUInt32.toUInt16.toUInt32.toInt32))), .unset, .val (.int (own_dg ((own_f2 ((p2 &&& (65535 : Int32)).toUInt32.toUInt16.toUInt32.toInt32)) &&& (15 : Int32))))] [(.int ((own_dg ((own_f2 ((p2 &&& (65535 : Int32)).toUInt32.toUInt16.toUInt32.toInt32)) &&& (15 : Int32))) - (32 : Int32)))])) _
    refine XS.iload X7.here hx rfl (hb hby at_122) rfl ?_
    show Steps p.tables e below (T7.setTop (mkF m 124 #[.val (.int p1), .val (.int p2), .val (.int (p1 &&& (15 : Int32))), .val (.int (own_dg ((p1 &&& (15 : Int32)) &&& (15 : Int32)))), .val (.int (1 : Int32)), .val (.int (((own_dg ((p1 &&& (15 : Int32)) &&& (15 : Int32))) - (32 : Int32)).toUInt32.toUInt16.toUInt32.toInt32)), .val (.int (1 : Int32)), .val (.int ((p2 &&& (65535 : Int32)).toUInt32.toUInt16.toUInt32.toInt32)), .val (.int (own_f2 ((p2 &&& (65535 : Int32)).toUInt32.toUInt16.toUInt32.toInt32))), .unset, .val (.int (own_dg ((own_f2 ((p2 &&& (65535 : Int32)).toUInt32.toUInt16.toUInt32.toInt32)) &&& (15 : Int32))))] [(.int ((p2 &&& (65535 : Int32)).toUInt32.toUInt16.toUInt32.toInt32)), (.int ((own_dg ((own_f2 ((p2 &&& (65535 : Int32)).toUInt32.toUInt16.toUInt32.toInt32)) &&& (15 : Int32))) - (32 : Int32)))])) _
    refine XS.icmpNo X7.here hx rfl (hb hby at_124) rfl (teq ht124).2 ?_
    show Steps p.tables e below (T7.setTop (mkF m 127 #[.val (.int p1), .val (.int p2), .val (.int (p1 &&& (15 : Int32))), .val (.int (own_dg ((p1 &&& (15 : Int32)) &&& (15 : Int32)))), .val (.int (1 : Int32)), .val (.int (((own_dg ((p1 &&& (15 : Int32)) &&& (15 : Int32))) - (32 : Int32)).toUInt32.toUInt16.toUInt32.toInt32)), .val (.int (1 : Int32)), .val (.int ((p2 &&& (65535 : Int32)).toUInt32.toUInt16.toUInt32.toInt32)), .val (.int (own_f2 ((p2 &&& (65535 : Int32)).toUInt32.toUInt16.toUInt32.toInt32))), .unset, .val (.int (own_dg ((own_f2 ((p2 &&& (65535 : Int32)).toUInt32.toUInt16.toUInt32.toInt32)) &&& (15 : Int32))))] [])) _
    refine XS.iconst X7.here hx rfl (hb hby at_127) ?_
    show Steps p.tables e below (T7.setTop (mkF m 128 #[.val (.int p1), .val (.int p2), .val (.int (p1 &&& (15 : Int32))), .val (.int (own_dg ((p1 &&& (15 : Int32)) &&& (15 : Int32)))), .val (.int (1 : Int32)), .val (.int (((own_dg ((p1 &&& (15 : Int32)) &&& (15 : Int32))) - (32 : Int32)).toUInt32.toUInt16.toUInt32.toInt32)), .val (.int (1 : Int32)), .val (.int ((p2 &&& (65535 : Int32)).toUInt32.toUInt16.toUInt32.toInt32)), .val (.int (own_f2 ((p2 &&& (65535 : Int32)).toUInt32.toUInt16.toUInt32.toInt32))), .unset, .val (.int (own_dg ((own_f2 ((p2 &&& (65535 : Int32)).toUInt32.toUInt16.toUInt32.toInt32)) &&& (15 : Int32))))] [(.int (1 : Int32))])) _
    refine XS.goto X7.here hx rfl (pc0 := 128) (pc' := 132) rfl (hb hby at_128) (by decide) (by decide) ?_
    show Steps p.tables e below (T7.setTop (mkF m 132 #[.val (.int p1), .val (.int p2), .val (.int (p1 &&& (15 : Int32))), .val (.int (own_dg ((p1 &&& (15 : Int32)) &&& (15 : Int32)))), .val (.int (1 : Int32)), .val (.int (((own_dg ((p1 &&& (15 : Int32)) &&& (15 : Int32))) - (32 : Int32)).toUInt32.toUInt16.toUInt32.toInt32)), .val (.int (1 : Int32)), .val (.int ((p2 &&& (65535 : Int32)).toUInt32.toUInt16.toUInt32.toInt32)), .val (.int (own_f2 ((p2 &&& (65535 : Int32)).toUInt32.toUInt16.toUInt32.toInt32))), .unset, .val (.int (own_dg ((own_f2 ((p2 &&& (65535 : Int32)).toUInt32.toUInt16.toUInt32.toInt32)) &&& (15 : Int32))))] [(.int (1 : Int32))])) _
    refine XS.istore X7.here hx rfl (hb hby at_132) rfl (l' := #[.val (.int p1), .val (.int p2), .val (.int (p1 &&& (15 : Int32))), .val (.int (own_dg ((p1 &&& (15 : Int32)) &&& (15 : Int32)))), .val (.int (1 : Int32)), .val (.int (((own_dg ((p1 &&& (15 : Int32)) &&& (15 : Int32))) - (32 : Int32)).toUInt32.toUInt16.toUInt32.toInt32)), .val (.int (1 : Int32)), .val (.int ((p2 &&& (65535 : Int32)).toUInt32.toUInt16.toUInt32.toInt32)), .val (.int (own_f2 ((p2 &&& (65535 : Int32)).toUInt32.toUInt16.toUInt32.toInt32))), .val (.int (1 : Int32)), .val (.int (own_dg ((own_f2 ((p2 &&& (65535 : Int32)).toUInt32.toUInt16.toUInt32.toInt32)) &&& (15 : Int32))))]) rfl ?_
    show Steps p.tables e below (T7.setTop (mkF m 134 #[.val (.int p1), .val (.int p2), .val (.int (p1 &&& (15 : Int32))), .val (.int (own_dg ((p1 &&& (15 : Int32)) &&& (15 : Int32)))), .val (.int (1 : Int32)), .val (.int (((own_dg ((p1 &&& (15 : Int32)) &&& (15 : Int32))) - (32 : Int32)).toUInt32.toUInt16.toUInt32.toInt32)), .val (.int (1 : Int32)), .val (.int ((p2 &&& (65535 : Int32)).toUInt32.toUInt16.toUInt32.toInt32)), .val (.int (own_f2 ((p2 &&& (65535 : Int32)).toUInt32.toUInt16.toUInt32.toInt32))), .val (.int (1 : Int32)), .val (.int (own_dg ((own_f2 ((p2 &&& (65535 : Int32)).toUInt32.toUInt16.toUInt32.toInt32)) &&& (15 : Int32))))] [])) _
    refine XS.goto X7.here hx rfl (pc0 := 134) (pc' := 140) rfl (hb hby at_134) (by decide) (by decide) ?_
    show Steps p.tables e below (T7.setTop (mkF m 140 #[.val (.int p1), .val (.int p2), .val (.int (p1 &&& (15 : Int32))), .val (.int (own_dg ((p1 &&& (15 : Int32)) &&& (15 : Int32)))), .val (.int (1 : Int32)), .val (.int (((own_dg ((p1 &&& (15 : Int32)) &&& (15 : Int32))) - (32 : Int32)).toUInt32.toUInt16.toUInt32.toInt32)), .val (.int (1 : Int32)), .val (.int ((p2 &&& (65535 : Int32)).toUInt32.toUInt16.toUInt32.toInt32)), .val (.int (own_f2 ((p2 &&& (65535 : Int32)).toUInt32.toUInt16.toUInt32.toInt32))), .val (.int (1 : Int32)), .val (.int (own_dg ((own_f2 ((p2 &&& (65535 : Int32)).toUInt32.toUInt16.toUInt32.toInt32)) &&& (15 : Int32))))] [])) _
    refine XS.iload X7.here hx rfl (hb hby at_140) rfl ?_
    show Steps p.tables e below (T7.setTop (mkF m 142 #[.val (.int p1), .val (.int p2), .val (.int (p1 &&& (15 : Int32))), .val (.int (own_dg ((p1 &&& (15 : Int32)) &&& (15 : Int32)))), .val (.int (1 : Int32)), .val (.int (((own_dg ((p1 &&& (15 : Int32)) &&& (15 : Int32))) - (32 : Int32)).toUInt32.toUInt16.toUInt32.toInt32)), .val (.int (1 : Int32)), .val (.int ((p2 &&& (65535 : Int32)).toUInt32.toUInt16.toUInt32.toInt32)), .val (.int (own_f2 ((p2 &&& (65535 : Int32)).toUInt32.toUInt16.toUInt32.toInt32))), .val (.int (1 : Int32)), .val (.int (own_dg ((own_f2 ((p2 &&& (65535 : Int32)).toUInt32.toUInt16.toUInt32.toInt32)) &&& (15 : Int32))))] [(.int (1 : Int32))])) _
    refine XS.ifNo X7.here hx rfl (hb hby at_142) rfl ((if0 _ _).trans (feq hc142).1) ?_
    show Steps p.tables e below (T7.setTop (mkF m 145 #[.val (.int p1), .val (.int p2), .val (.int (p1 &&& (15 : Int32))), .val (.int (own_dg ((p1 &&& (15 : Int32)) &&& (15 : Int32)))), .val (.int (1 : Int32)), .val (.int (((own_dg ((p1 &&& (15 : Int32)) &&& (15 : Int32))) - (32 : Int32)).toUInt32.toUInt16.toUInt32.toInt32)), .val (.int (1 : Int32)), .val (.int ((p2 &&& (65535 : Int32)).toUInt32.toUInt16.toUInt32.toInt32)), .val (.int (own_f2 ((p2 &&& (65535 : Int32)).toUInt32.toUInt16.toUInt32.toInt32))), .val (.int (1 : Int32)), .val (.int (own_dg ((own_f2 ((p2 &&& (65535 : Int32)).toUInt32.toUInt16.toUInt32.toInt32)) &&& (15 : Int32))))] [])) _
    refine XS.iload X7.here hx rfl (hb hby at_145) rfl ?_
    show Steps p.tables e below (T7.setTop (mkF m 147 #[.val (.int p1), .val (.int p2), .val (.int (p1 &&& (15 : Int32))), .val (.int (own_dg ((p1 &&& (15 : Int32)) &&& (15 : Int32)))), .val (.int (1 : Int32)), .val (.int (((own_dg ((p1 &&& (15 : Int32)) &&& (15 : Int32))) - (32 : Int32)).toUInt32.toUInt16.toUInt32.toInt32)), .val (.int (1 : Int32)), .val (.int ((p2 &&& (65535 : Int32)).toUInt32.toUInt16.toUInt32.toInt32)), .val (.int (own_f2 ((p2 &&& (65535 : Int32)).toUInt32.toUInt16.toUInt32.toInt32))), .val (.int (1 : Int32)), .val (.int (own_dg ((own_f2 ((p2 &&& (65535 : Int32)).toUInt32.toUInt16.toUInt32.toInt32)) &&& (15 : Int32))))] [(.int (1 : Int32))])) _
    refine XS.ifNo X7.here hx rfl (hb hby at_147) rfl ((if0 _ _).trans (feq hc147).1) ?_
    show Steps p.tables e below (T7.setTop (mkF m 150 #[.val (.int p1), .val (.int p2), .val (.int (p1 &&& (15 : Int32))), .val (.int (own_dg ((p1 &&& (15 : Int32)) &&& (15 : Int32)))), .val (.int (1 : Int32)), .val (.int (((own_dg ((p1 &&& (15 : Int32)) &&& (15 : Int32))) - (32 : Int32)).toUInt32.toUInt16.toUInt32.toInt32)), .val (.int (1 : Int32)), .val (.int ((p2 &&& (65535 : Int32)).toUInt32.toUInt16.toUInt32.toInt32)), .val (.int (own_f2 ((p2 &&& (65535 : Int32)).toUInt32.toUInt16.toUInt32.toInt32))), .val (.int (1 : Int32)), .val (.int (own_dg ((own_f2 ((p2 &&& (65535 : Int32)).toUInt32.toUInt16.toUInt32.toInt32)) &&& (15 : Int32))))] [])) _
    refine XS.iload X7.here hx rfl (hb hby at_150) rfl ?_
    show Steps p.tables e below (T7.setTop (mkF m 152 #[.val (.int p1), .val (.int p2), .val (.int (p1 &&& (15 : Int32))), .val (.int (own_dg ((p1 &&& (15 : Int32)) &&& (15 : Int32)))), .val (.int (1 : Int32)), .val (.int (((own_dg ((p1 &&& (15 : Int32)) &&& (15 : Int32))) - (32 : Int32)).toUInt32.toUInt16.toUInt32.toInt32)), .val (.int (1 : Int32)), .val (.int ((p2 &&& (65535 : Int32)).toUInt32.toUInt16.toUInt32.toInt32)), .val (.int (own_f2 ((p2 &&& (65535 : Int32)).toUInt32.toUInt16.toUInt32.toInt32))), .val (.int (1 : Int32)), .val (.int (own_dg ((own_f2 ((p2 &&& (65535 : Int32)).toUInt32.toUInt16.toUInt32.toInt32)) &&& (15 : Int32))))] [(.int (1 : Int32))])) _
    refine XS.ifNo X7.here hx rfl (hb hby at_152) rfl ((if0 _ _).trans (feq hc152).1) ?_
    show Steps p.tables e below (T7.setTop (mkF m 155 #[.val (.int p1), .val (.int p2), .val (.int (p1 &&& (15 : Int32))), .val (.int (own_dg ((p1 &&& (15 : Int32)) &&& (15 : Int32)))), .val (.int (1 : Int32)), .val (.int (((own_dg ((p1 &&& (15 : Int32)) &&& (15 : Int32))) - (32 : Int32)).toUInt32.toUInt16.toUInt32.toInt32)), .val (.int (1 : Int32)), .val (.int ((p2 &&& (65535 : Int32)).toUInt32.toUInt16.toUInt32.toInt32)), .val (.int (own_f2 ((p2 &&& (65535 : Int32)).toUInt32.toUInt16.toUInt32.toInt32))), .val (.int (1 : Int32)), .val (.int (own_dg ((own_f2 ((p2 &&& (65535 : Int32)).toUInt32.toUInt16.toUInt32.toInt32)) &&& (15 : Int32))))] [])) _
    refine XS.iconst X7.here hx rfl (hb hby at_155) ?_
    show Steps p.tables e below (T7.setTop (mkF m 156 #[.val (.int p1), .val (.int p2), .val (.int (p1 &&& (15 : Int32))), .val (.int (own_dg ((p1 &&& (15 : Int32)) &&& (15 : Int32)))), .val (.int (1 : Int32)), .val (.int (((own_dg ((p1 &&& (15 : Int32)) &&& (15 : Int32))) - (32 : Int32)).toUInt32.toUInt16.toUInt32.toInt32)), .val (.int (1 : Int32)), .val (.int ((p2 &&& (65535 : Int32)).toUInt32.toUInt16.toUInt32.toInt32)), .val (.int (own_f2 ((p2 &&& (65535 : Int32)).toUInt32.toUInt16.toUInt32.toInt32))), .val (.int (1 : Int32)), .val (.int (own_dg ((own_f2 ((p2 &&& (65535 : Int32)).toUInt32.toUInt16.toUInt32.toInt32)) &&& (15 : Int32))))] [(.int (1 : Int32))])) _
    refine XS.goto X7.here hx rfl (pc0 := 156) (pc' := 160) rfl (hb hby at_156) (by decide) (by decide) ?_
    show Steps p.tables e below (T7.setTop (mkF m 160 #[.val (.int p1), .val (.int p2), .val (.int (p1 &&& (15 : Int32))), .val (.int (own_dg ((p1 &&& (15 : Int32)) &&& (15 : Int32)))), .val (.int (1 : Int32)), .val (.int (((own_dg ((p1 &&& (15 : Int32)) &&& (15 : Int32))) - (32 : Int32)).toUInt32.toUInt16.toUInt32.toInt32)), .val (.int (1 : Int32)), .val (.int ((p2 &&& (65535 : Int32)).toUInt32.toUInt16.toUInt32.toInt32)), .val (.int (own_f2 ((p2 &&& (65535 : Int32)).toUInt32.toUInt16.toUInt32.toInt32))), .val (.int (1 : Int32)), .val (.int (own_dg ((own_f2 ((p2 &&& (65535 : Int32)).toUInt32.toUInt16.toUInt32.toInt32)) &&& (15 : Int32))))] [(.int (1 : Int32))])) _
    exact retN X7 hx (t := .boolean) Bd.returns (by simp) (hb hby at_160) hr
  · show Q0 Z h0 n0 _ T7.heap _
    exact ⟨rfl, N7⟩
theorem own_any103 : ∀ i : Fin 103, ¬ (own_f2 (Int32.ofNat i.val) = -1) → (¬ (own_f2 (Int32.ofNat i.val) = -1) ∧ ¬ (own_f2 (Int32.ofNat i.val) < 0) ∧ ¬ ((15 : Int32) < own_f2 (Int32.ofNat i.val)) ∧ (own_dg (own_f2 (Int32.ofNat i.val) &&& (15 : Int32)) = Int32.ofNat i.val ∨ (¬ (own_dg (own_f2 (Int32.ofNat i.val) &&& (15 : Int32)) = Int32.ofNat i.val) ∧ ¬ (own_f2 (Int32.ofNat i.val) < 10) ∧ own_dg (own_f2 (Int32.ofNat i.val) &&& (15 : Int32)) - (32 : Int32) = Int32.ofNat i.val))) := by decide +kernel
theorem own_low16 : ∀ i : Fin 16, own_f2 (own_dg (Int32.ofNat i.val)) = Int32.ofNat i.val := by decide
theorem own_up16 : ∀ i : Fin 16, ¬ (Int32.ofNat i.val < 10) → own_f2 ((own_dg (Int32.ofNat i.val) - (32 : Int32)).toUInt32.toUInt16.toUInt32.toInt32) = Int32.ofNat i.val := by decide
theorem own_low (p : Int32) : own_f2 (own_dg ((p &&& (15 : Int32)) &&& (15 : Int32))) = (p &&& (15 : Int32)) := by
  rw [own_and15]; obtain ⟨i, hi⟩ := own_16 p; rw [hi]; exact own_low16 i
theorem own_up (p : Int32) (h : ¬ ((p &&& (15 : Int32)) < (10 : Int32))) : own_f2 ((own_dg ((p &&& (15 : Int32)) &&& (15 : Int32)) - (32 : Int32)).toUInt32.toUInt16.toUInt32.toInt32) = (p &&& (15 : Int32)) := by
  rw [own_and15]; obtain ⟨i, hi⟩ := own_16 p; rw [hi] at h ⊢; exact own_up16 i h
theorem own_any (c : Int32) : own_f2 c = -1 ∨ (¬ (own_f2 c = -1) ∧ ¬ (own_f2 c < 0) ∧ ¬ ((15 : Int32) < own_f2 c) ∧ (own_dg (own_f2 c &&& (15 : Int32)) = c ∨ (¬ (own_dg (own_f2 c &&& (15 : Int32)) = c) ∧ ¬ (own_f2 c < 10) ∧ own_dg (own_f2 c &&& (15 : Int32)) - (32 : Int32) = c))) := by
  by_cases h : own_f2 c = -1
  · exact Or.inl h
  · refine Or.inr ?_
    have key : ∃ j : Nat, j < 103 ∧ c = Int32.ofNat j := by
      have k48 : (48 : Int32).toInt = 48 := by decide
      have k57 : (57 : Int32).toInt = 57 := by decide
      have k97 : (97 : Int32).toInt = 97 := by decide
      have k102 : (102 : Int32).toInt = 102 := by decide
      have k65 : (65 : Int32).toInt = 65 := by decide
      have k70 : (70 : Int32).toInt = 70 := by decide
      have hc : 0 ≤ c.toInt ∧ c.toInt < 103 := by
        unfold own_f2 at h
        simp only [Int32.lt_iff_toInt_lt, k48, k57, k97, k102, k65, k70] at h
        by_cases a1 : c.toInt < 48 <;> by_cases a2 : 57 < c.toInt <;> by_cases a3 : c.toInt < 97 <;> by_cases a4 : 102 < c.toInt <;> by_cases a5 : c.toInt < 65 <;> by_cases a6 : 70 < c.toInt <;> first | omega | (exfalso; simp [a1, a2, a3, a4, a5, a6] at h)
      refine ⟨c.toInt.toNat, by omega, ?_⟩
      apply Int32.toInt_inj.mp
      rw [Int32.toInt_ofNat_small (by omega)]
      omega
    obtain ⟨j, hj, rfl⟩ := key
    exact own_any103 ⟨j, hj⟩ h
set_option maxRecDepth 65536 in
set_option maxHeartbeats 40000000 in
theorem rm0 (l : Launch) (Z : State) (a0 : Array Value) (hw : ∀ d ∈ tables_1, d.before a0 Z = true) (ws : List Jvm.Cond) (p1 : Int32) (p2 : Int32) (wd : Addr) (cl : Cell) (h0 : Heap) (n0 : Nat) (Z0 : n0 ≤ h0.size) (S_DIGITS : Sta Z h0 "com/example/varpack/varpack/Hex" "DIGITS" "[C" (.ref wd)) (Ar : Arr Z h0 wd cl .char) (hin : ∀ p : Int32, ¬ ((p &&& (15 : Int32)) < 0 ∨ cl.slots.size ≤ (p &&& (15 : Int32)).toNatClampNeg)) (hat : ∀ p : Int32, cl.slots[(p &&& (15 : Int32)).toNatClampNeg]? = some (.int (own_dg (p &&& (15 : Int32))))) :
    MetFree l x (head1 (Jvm.Cond.code x code maxLocals ret :: ws) room_1) (fun a U => a = #[(.int p1), (.int p2)] ∧ Z.Warmed39 U.vm ∧ U.heap = h0) (fun _ _ _ _ _ => True) (fun _ U o U' => ∃ v L, o = .returned v ∧ Q0 Z h0 n0 v U'.heap L ∧ FrameEnd U o U' L room_1.cells room_1.slots) := by
  by_cases h1 : (p1 &&& (15 : Int32)) < (10 : Int32)
  · rcases own_any ((p2 &&& (65535 : Int32)).toUInt32.toUInt16.toUInt32.toInt32) with h2 | ⟨q1, q2, q3, q4 | ⟨q4, q5, q6⟩⟩
    · exact rm0_tA l Z a0 hw ws p1 p2 wd cl h0 n0 Z0 S_DIGITS Ar hin hat (own_low _) h1 (own_low _) h2 (by decide) (by decide) (by decide)
    · exact rm0_tB l Z a0 hw ws p1 p2 wd cl h0 n0 Z0 S_DIGITS Ar hin hat (own_low _) h1 (own_low _) q1 q2 q3 q4 (by decide) (by decide) (by decide)
    · exact rm0_tC l Z a0 hw ws p1 p2 wd cl h0 n0 Z0 S_DIGITS Ar hin hat (own_low _) h1 (own_low _) q1 q2 q3 q4 q5 q6 (by decide) (by decide) (by decide)
  · rcases own_any ((p2 &&& (65535 : Int32)).toUInt32.toUInt16.toUInt32.toInt32) with h2 | ⟨q1, q2, q3, q4 | ⟨q4, q5, q6⟩⟩
    · exact rm0_fA l Z a0 hw ws p1 p2 wd cl h0 n0 Z0 S_DIGITS Ar hin hat (own_low _) h1 (own_up _ h1) h2 (by decide) (by decide) (by decide)
    · exact rm0_fB l Z a0 hw ws p1 p2 wd cl h0 n0 Z0 S_DIGITS Ar hin hat (own_low _) h1 (own_up _ h1) q1 q2 q3 q4 (by decide) (by decide) (by decide)
    · exact rm0_fC l Z a0 hw ws p1 p2 wd cl h0 n0 Z0 S_DIGITS Ar hin hat (own_low _) h1 (own_up _ h1) q1 q2 q3 q4 q5 q6 (by decide) (by decide) (by decide)
theorem own_eqint {args : Array Value} {s : State} {a : Term} {idx : List Nat} {y : Int32} (h : (Cond.eq a (.int y)).value args s none s idx = some true) : a.eval args s none idx s = some (.int y) := by
  have hu : (Term.int y).eval args s none idx s = some (.int y) := rfl
  cases hv : a.eval args s none idx s with
  | none => simp [Cond.value, hv] at h
  | some v => cases v <;> simp [Cond.value, hv, hu] at h ⊢ <;> first | exact h | (subst h; rfl)
theorem own_eqref {args : Array Value} {s : State} {a u : Term} {idx : List Nat} {y : Addr} (h : (Cond.eq a u).value args s none s idx = some true) (hu : u.eval args s none idx s = some (.ref y)) : a.eval args s none idx s = some (.ref y) := by
  cases hv : a.eval args s none idx s with
  | none => simp [Cond.value, hv] at h
  | some v => cases v <;> simp [Cond.value, hv, hu] at h ⊢ <;> first | exact h | (subst h; rfl)
theorem own_eqlong {args : Array Value} {s : State} {a u : Term} {idx : List Nat} {y : Int64} (h : (Cond.eq a u).value args s none s idx = some true) (hu : u.eval args s none idx s = some (.long y)) : a.eval args s none idx s = some (.long y) := by
  cases hv : a.eval args s none idx s with
  | none => simp [Cond.value, hv] at h
  | some v => cases v <;> simp [Cond.value, hv, hu] at h ⊢ <;> first | exact h | (subst h; rfl)
theorem own_len {args : Array Value} {s : State} {t : Term} {wA : Addr} {cl : Cell} {ty : FieldType} {z : Int32} (ev : t.eval args s none [] s = some (.ref wA)) (A : Arr s s.heap wA cl ty) (h : (Cond.eq (.length t) (.int z)).value args s none s [] = some true) : cl.slots.size = z.toNatClampNeg := by
  have e := own_eqint h
  have hA : s.arrayAt? wA = some cl := IntBox.arrayAt_of A.1 A.2.1 A.2.2
  by_cases q : cl.slots.size < 2 ^ 31
  · rw [len_f ev hA q] at e
    have e2 : cl.slots.size.toInt32 = z := Value.int.inj (Option.some.inj e)
    rw [← e2]
    simp only [Int32.toNatClampNeg, len_toInt q]; rfl
  · simp [Term.eval, ev, hA] at e
    omega
theorem own_fold (f : Nat → Option Bool) : ∀ (L : List Nat) (acc : Option Bool), L.foldl (fun acc i => match acc with | some true => f i | x => x) acc = some true → acc = some true ∧ ∀ i ∈ L, f i = some true
  | [], acc, h => ⟨h, fun i hi => nomatch hi⟩
  | a :: L, acc, h => by
    obtain ⟨h1, h2⟩ := own_fold f L _ h
    match acc, h1 with
    | some true, h1 => exact ⟨rfl, fun i hi => by
        rcases List.mem_cons.mp hi with rfl | hi
        · exact h1
        · exact h2 i hi⟩
    | some false, h1 => exact absurd h1 (by simp)
    | none, h1 => exact absurd h1 (by simp)
theorem own_all {args : Array Value} {s : State} {t : Term} {c : Cond} {a : Addr} {cell : Cell} (ht : t.eval args s none [] s = some (.ref a)) (hA : s.arrayAt? a = some cell) (h : (Cond.all t c).value args s none s [] = some true) : ∀ i, i < cell.slots.size → c.value args s none s [i] = some true := by
  simp only [Cond.value, ht, hA] at h
  exact fun i hi => (own_fold (fun i => c.value args s none s [i]) _ _ h).2 i (List.mem_range.mpr hi)
theorem own_or {args : Array Value} {s : State} {c d : Cond} {idx : List Nat} (h1 : (Cond.or c d).value args s none s idx = some true) (h2 : c.value args s none s idx = some false) : d.value args s none s idx = some true := by
  simp only [Cond.value, h2] at h1; exact h1
theorem own_elem {args : Array Value} {s : State} {t : Term} {wd : Addr} {cl : Cell} (ev : ∀ idx, t.eval args s none idx s = some (.ref wd)) (hA : s.arrayAt? wd = some cl) (n : Nat) (hn : n < 16) (b : Int64) (q : (Cond.eq (.op1 .i2l (.elem t (.index 0))) (.op2 .ladd (.op1 .i2l (.index 0)) (.long b))).value args s none s [n] = some true) : ∃ v : Int32, cl.slots[n]? = some (.int v) ∧ v.toInt64 = (Int32.ofNat n).toInt64 + b := by
  have hidx : (Term.index 0).eval args s none [n] s = some (.int (Int32.ofNat n)) := Term.index_eval _
  have hu : (Term.op2 .ladd (.op1 .i2l (.index 0)) (.long b)).eval args s none [n] s = some (.long ((Int32.ofNat n).toInt64 + b)) := by
    rw [op2_f (op1_f hidx) (long_at b)]; rfl
  have e := own_eqlong q hu
  obtain ⟨x, hx, hx2⟩ := op1_v e
  have hneg : ¬ Int32.ofNat n < 0 := by
    rw [Int32.lt_iff_toInt_lt, Int32.toInt_ofNat_small (by omega)]
    have : (0 : Int32).toInt = 0 := by decide
    omega
  rw [elem_f (ev _) hidx hA hneg] at hx
  have hc : (Int32.ofNat n).toNatClampNeg = n := by
    rw [← Int32.toNat_toInt, Int32.toInt_ofNat_small (by omega)]; rfl
  rw [hc] at hx
  cases x with
  | int v => exact ⟨v, hx, Value.long.inj (Option.some.inj hx2)⟩
  | _ => simp [Unary.apply] at hx2
theorem own_cells {args : Array Value} {s : State} {t : Term} {wd : Addr} {cl : Cell} (ev : ∀ idx, t.eval args s none idx s = some (.ref wd)) (Ar : Arr s s.heap wd cl .char) (h1 : (Cond.eq (.length t) (.int 16)).value args s none s [] = some true)
    (h2 : (Cond.all t (.or (.le (.int 10) (.index 0)) (.eq (.op1 .i2l (.elem t (.index 0))) (.op2 .ladd (.op1 .i2l (.index 0)) (.long 48))))).value args s none s [] = some true) (h3 : (Cond.all t (.or (.lt (.index 0) (.int 10)) (.eq (.op1 .i2l (.elem t (.index 0))) (.op2 .ladd (.op1 .i2l (.index 0)) (.long 87))))).value args s none s [] = some true) :
    (∀ p : Int32, ¬ ((p &&& (15 : Int32)) < 0 ∨ cl.slots.size ≤ (p &&& (15 : Int32)).toNatClampNeg)) ∧ ∀ p : Int32, cl.slots[(p &&& (15 : Int32)).toNatClampNeg]? = some (.int (own_dg (p &&& (15 : Int32)))) := by
  have hA : s.arrayAt? wd = some cl := IntBox.arrayAt_of Ar.1 Ar.2.1 Ar.2.2
  have hsz : cl.slots.size = 16 := own_len (ev []) Ar h1
  have g : ∀ i : Fin 16, cl.slots[i.val]? = some (.int (own_dg (Int32.ofNat i.val))) := by
    intro i
    have hidx : (Term.index 0).eval args s none [i.val] s = some (.int (Int32.ofNat i.val)) := Term.index_eval _
    have a2 := own_all (ev []) hA h2 i.val (by rw [hsz]; exact i.isLt)
    have a3 := own_all (ev []) hA h3 i.val (by rw [hsz]; exact i.isLt)
    by_cases lt : Int32.ofNat i.val < 10
    · have c2 : (Cond.le (.int 10) (.index 0)).value args s none s [i.val] = some false := by
        rw [Cond.le_ints (Term.int_eval 10) hidx]; simp [Int32.not_le.mpr lt]
      have q : (Cond.eq (.op1 .i2l (.elem t (.index 0))) (.op2 .ladd (.op1 .i2l (.index 0)) (.long 48))).value args s none s [i.val] = some true := own_or a2 c2
      obtain ⟨v, e1, e2⟩ := own_elem ev hA i.val i.isLt 48 q
      rw [e1]; unfold own_dg; rw [if_pos lt]
      have e3 : v = Int32.ofNat i.val + 48 := by
        have : v.toInt64.toInt32 = ((Int32.ofNat i.val).toInt64 + 48).toInt32 := by rw [e2]
        simpa using this
      rw [e3]
    · have c3 : (Cond.lt (.index 0) (.int 10)).value args s none s [i.val] = some false := by
        rw [Cond.lt_ints hidx (Term.int_eval 10)]; simp [lt]
      have q : (Cond.eq (.op1 .i2l (.elem t (.index 0))) (.op2 .ladd (.op1 .i2l (.index 0)) (.long 87))).value args s none s [i.val] = some true := own_or a3 c3
      obtain ⟨v, e1, e2⟩ := own_elem ev hA i.val i.isLt 87 q
      rw [e1]; unfold own_dg; rw [if_neg lt]
      have e3 : v = Int32.ofNat i.val + 87 := by
        have : v.toInt64.toInt32 = ((Int32.ofNat i.val).toInt64 + 87).toInt32 := by rw [e2]
        simpa using this
      rw [e3]
  have k16 : ∀ i : Fin 16, (Int32.ofNat i.val).toNatClampNeg = i.val ∧ ¬ (Int32.ofNat i.val < 0) := by decide
  constructor
  · intro p; obtain ⟨i, hi⟩ := own_16 p
    rw [hi, hsz, (k16 i).1]; have := (k16 i).2; have := i.isLt
    rintro (q | q)
    · contradiction
    · omega
  · intro p; obtain ⟨i, hi⟩ := own_16 p
    rw [hi, (k16 i).1]; exact g i
set_option maxRecDepth 65536 in
set_option maxHeartbeats 40000000 in
theorem comes_1 {Post : Tables → Env → Array Value → State → Outcome → State → Prop} (hpost : ∀ tb e args s v u, (limb_1_1.after args s (.returned v) u = true ∧ limb_1_2.after args s (.returned v) u = true ∧ True) → FrameEnd s (.returned v) u (Jvm.fieldLocs frame_1_writes args s ++ Jvm.arrayLocs frame_1_arrays args s ++ Jvm.staticLocs frame_1_statics s) 0 0 → Post tb e args s (.returned v) u) :
    ArmFor flags0 classFile x code maxLocals ret World_1 tables_1 room_1 Calls_1 rest_1 Pre_1 Post := by
  intro l hfl _ _ p e ha hc hk s m args below hf hA hF happ hP
  obtain ⟨hcalls, hrest, hpre⟩ := hP
  obtain ⟨-, -, -, hnamed, -, -, -, hat⟩ := (Spec.applies_iff hf).mp happ
  obtain ⟨hg, hn⟩ := and_e (Cond.before_iff.mp (show (Jvm.Cond.and given_1 narrow_1).before args s = true from hpre))
  obtain ⟨g7, g8⟩ := and_e hg
  obtain ⟨g9, g10⟩ := and_e g8
  obtain ⟨w0, w1, rfl⟩ : ∃ w0 w1 : Value, args = #[w0, w1] := by
    have hs : args.size = 2 := by simpa [Cond.value, given_1] using g7
    obtain ⟨L⟩ := args
    match L, hs with
    | [w0, w1], _ => exact ⟨w0, w1, rfl⟩
  have hw := fun d (hd : d ∈ tables_1) => atoms_spec (ws := Jvm.Cond.code x code maxLocals ret :: tables_1) hat d (List.mem_cons_of_mem _ hd)
  have hfit : Fit s := fun {y c} hc i hi => by
    obtain ⟨ha, rfl⟩ := Array.getElem?_eq_some_iff.mp hc
    have q := List.all_eq_true.mp ((Array.all_eq_true_iff_forall_mem.mp hF) _ (Array.getElem_mem ha)) i (List.mem_range.mpr hi)
    simpa [Array.getElem?_eq_getElem hi] using q
  obtain ⟨i0, ei0⟩ := is_v g9
  obtain rfl : w0 = (.int i0) := Option.some.inj ei0
  obtain ⟨i1, ei1⟩ := is_v g10
  obtain rfl : w1 = (.int i1) := Option.some.inj ei1
  obtain ⟨nn0, mm0⟩ := and_e hn
  obtain ⟨nn1, mm1⟩ := and_e mm0
  obtain ⟨nn2, nn3⟩ := and_e mm1
  obtain ⟨wd, ev⟩ := arr_v nn0
  have S_DIGITS := Sta.start ev (Or.inr ⟨(hw _ (List.mem_of_getElem? (i := 2) rfl)), (hw _ (List.mem_of_getElem? (i := 5) rfl))⟩)
  obtain ⟨cl, Ar⟩ := Arr.start ev nn0
  obtain ⟨hin, hat⟩ := own_cells (fun _ => ev) Ar nn1 nn2 nn3
  obtain ⟨n, o, h1, h2, h3, _, L, rfl, ⟨rfl, N⟩, hq⟩ := rm0 l s _ hw tables_1 i0 i1 wd cl s.heap s.heap.size (Nat.le_refl _) S_DIGITS Ar hin hat p e ha hc hk s m _ below hf ((Spec.applies_iff_loose hf).mp happ).1 ⟨rfl, State.Warmed39.refl s, rfl⟩ trivial
  refine ⟨n, _, h1, h2, h3, hpost _ _ _ _ _ _ ⟨Cond.after_iff.mpr rfl, Cond.after_iff.mpr (eq_i res_at (Term.int_eval (1)) rfl), trivial⟩ ⟨hq.1, hq.2.1, (hq.2.2.sift fun y hy => Or.inr (N y hy)).mono (by decide) (by decide)⟩⟩
theorem main_1_1 : Claimed_1_1 := comes_1 fun _ _ _ _ _ _ h hF => ⟨h.1, hF⟩
theorem main_1_2 : Claimed_1_2 := comes_1 fun _ _ _ _ _ _ h hF => ⟨h.2.1, hF⟩
end Jvm.Pilot.@@N@@
namespace Jvm.Pilot.@@N@@
open Jvm Jvm.ClassFile Sem Op Lib Jvm.Free Jvm.Stand Jvm.Pilot.@@N@@.Jvm.D
/-! MADE BY PROGRAM (witnessworld.py) out of the Statement's table words and the real class files: 11 classes; the members and pool entries that the words name. The judged class is class 1, her method 1. -/
namespace start1
open Jvm.ClassFile
def u (s : String) : CpInfo := .utf8 (stringToUtf16 s)
/-- a pool by its gaps: so many unusable entries, then the entry; so many at the end -/
def gap : Nat → List CpInfo → List CpInfo
  | 0, r => r
  | n + 1, r => .unusable :: gap n r
def poolList (es : List (Nat × CpInfo)) (last : Nat) : List CpInfo := es.foldr (fun e r => gap e.1 (e.2 :: r)) (gap last [])
def pool (es : List (Nat × CpInfo)) (last : Nat) : Array CpInfo := ⟨poolList es last⟩
def fileOf (pool : Array CpInfo) (this : Nat) (attrs : Array Attribute := #[]) (ms : Array MethodInfo := #[]) (fl : Nat := 33) (sup : Nat := 0) (ifs : Array Nat := #[]) (fds : Array FieldInfo := #[]) : ClassFile where
  minorVersion := 0
  majorVersion := 65
  constantPool := pool
  accessFlags := fl
  thisClass := this
  superClass := sup
  interfaces := ifs
  fields := fds
  methods := ms
  attributes := attrs
def plain (name : String) (sup : Option ClassId) : Class where
  name := name
  kind := .ordinary
  loader := none
  accessFlags := 33
  super := sup
  interfaces := #[]
  cf := none
  fields := #[]
  methods := #[]
  instanceTypes := #[]
  staticTypes := #[]
  resolved := #[]
  callSites := []
  init := .initialized
  statics := none
  mirror := none

def pool0 : Array CpInfo := pool [(5, u "<init>"), (0, u "()V"), (1, .class_ 10), (1, u "java/lang/Object")] 113

def k0m0 : Method := { name := "<init>", desc := "()V", sig := { parameters := [], returnType := none }, accessFlags := 1, code := none }
/-- java/lang/Object -/
def k0 : Class := { plain "java/lang/Object" none with
  accessFlags := 33
  interfaces := #[]
  cf := some (fileOf pool0 8 #[] #[{ accessFlags := 1, nameIndex := 5, descriptorIndex := 6, attributes := #[] }] 33 0 #[] #[])
  fields := #[]
  methods := #[k0m0]
  instanceTypes := #[]
  staticTypes := #[]
  resolved := Array.replicate 124 none
  statics := none }

def pool1 : Array CpInfo := pool [(2, .class_ 4), (1, u "java/lang/Object"), (0, u "<init>"), (0, u "()V"), (0, .methodref 8 9), (0, .class_ 10), (0, .nameAndType 11 12), (0, u "com/example/varpack/varpack/Hex"), (0, u "digit"), (0, u "(I)C"), (0, .methodref 8 14), (0, .nameAndType 15 16), (0, u "valueOf"), (0, u "(C)I"), (0, .integer 65535), (0, .class_ 19), (0, u "com/example/varpack/varpack/HexValueOfPinLaw"), (2, u "law"), (0, u "(II)Z")] 3

def k1m0 : Method := { name := "<init>", desc := "()V", sig := { parameters := [], returnType := none }, accessFlags := 2, code := none }
def k1c1 : Code := { maxStack := 2, maxLocals := 11, code := code, exceptionTable := #[], attributes := #[] }
def k1m1 : Method := { name := "law", desc := "(II)Z", sig := { parameters := [.int, .int], returnType := some .boolean }, accessFlags := 9, code := some k1c1 }
/-- com/example/varpack/varpack/HexValueOfPinLaw -/
def k1 : Class := { plain "com/example/varpack/varpack/HexValueOfPinLaw" (some 0) with
  accessFlags := 49
  interfaces := #[]
  cf := some (fileOf pool1 18 #[] #[{ accessFlags := 2, nameIndex := 5, descriptorIndex := 6, attributes := #[] }, { accessFlags := 9, nameIndex := 22, descriptorIndex := 23, attributes := #[] }] 49 2 #[] #[])
  fields := #[]
  methods := #[k1m0, k1m1]
  instanceTypes := #[]
  staticTypes := #[]
  resolved := Array.replicate 27 none
  statics := none }

def pool2 : Array CpInfo := pool [(2, .class_ 4), (1, u "java/lang/Object"), (0, u "<init>"), (0, u "()V"), (0, .fieldref 8 9), (0, .class_ 10), (0, .nameAndType 11 12), (0, u "com/example/varpack/varpack/Hex"), (0, u "DIGITS"), (0, u "[C"), (7, u "digit"), (0, u "(I)C"), (28, u "valueOf"), (0, u "(C)I")] 38

def k2m0 : Method := { name := "<init>", desc := "()V", sig := { parameters := [], returnType := none }, accessFlags := 2, code := none }
def k2c1 : Code := { maxStack := 3, maxLocals := 1, code := prog_12_method_2_code, exceptionTable := #[], attributes := #[] }
def k2m1 : Method := { name := "digit", desc := "(I)C", sig := { parameters := [.int], returnType := some .char }, accessFlags := 8, code := some k2c1 }
def k2c2 : Code := { maxStack := 2, maxLocals := 1, code := prog_12_method_3_code, exceptionTable := #[], attributes := #[] }
def k2m2 : Method := { name := "valueOf", desc := "(C)I", sig := { parameters := [.char], returnType := some .int }, accessFlags := 8, code := some k2c2 }
/-- com/example/varpack/varpack/Hex -/
def k2 : Class := { plain "com/example/varpack/varpack/Hex" (some 0) with
  accessFlags := 48
  interfaces := #[]
  cf := some (fileOf pool2 8 #[] #[{ accessFlags := 2, nameIndex := 5, descriptorIndex := 6, attributes := #[] }, { accessFlags := 8, nameIndex := 20, descriptorIndex := 21, attributes := #[] }, { accessFlags := 8, nameIndex := 50, descriptorIndex := 51, attributes := #[] }] 48 2 #[] #[{ accessFlags := 26, nameIndex := 11, descriptorIndex := 12, attributes := #[] }])
  fields := #[{ name := "DIGITS", type := (.array .char), accessFlags := 26, slot := 0, constantValue := 0 }]
  methods := #[k2m0, k2m1, k2m2]
  instanceTypes := #[]
  staticTypes := #[(.array .char)]
  resolved := Array.replicate 90 none
  statics := some 0 }

def pool3 : Array CpInfo := pool [(1, u "java/lang/Cloneable"), (0, .class_ 1), (0, u "java/lang/Object"), (0, .class_ 3)] 3

/-- java/lang/Cloneable -/
def k3 : Class := { plain "java/lang/Cloneable" (some 0) with
  accessFlags := 1537
  interfaces := #[]
  cf := some (fileOf pool3 2 #[] #[] 1537 4 #[] #[])
  fields := #[]
  methods := #[]
  instanceTypes := #[]
  staticTypes := #[]
  resolved := Array.replicate 8 none
  statics := none }

def pool4 : Array CpInfo := pool [(1, u "java/io/Serializable"), (0, .class_ 1), (0, u "java/lang/Object"), (0, .class_ 3)] 3

/-- java/io/Serializable -/
def k4 : Class := { plain "java/io/Serializable" (some 0) with
  accessFlags := 1537
  interfaces := #[]
  cf := some (fileOf pool4 2 #[] #[] 1537 4 #[] #[])
  fields := #[]
  methods := #[]
  instanceTypes := #[]
  staticTypes := #[]
  resolved := Array.replicate 8 none
  statics := none }

/-- the primitive byte -/
def k5 : Class := { plain "byte" none with kind := .primitive 'B', accessFlags := 0x411 }
/-- [B -/
def k6 : Class := { plain "[B" (some 0) with kind := .array 5 .byte, interfaces := #[3, 4], accessFlags := 1041 }

/-- the primitive char -/
def k7 : Class := { plain "char" none with kind := .primitive 'C', accessFlags := 0x411 }
/-- [C -/
def k8 : Class := { plain "[C" (some 0) with kind := .array 7 .char, interfaces := #[3, 4], accessFlags := 1041 }

/-- the primitive int -/
def k9 : Class := { plain "int" none with kind := .primitive 'I', accessFlags := 0x411 }
/-- [I -/
def k10 : Class := { plain "[I" (some 0) with kind := .array 9 .int, interfaces := #[3, 4], accessFlags := 1041 }

def heap : Heap := #[{ cls := 2, slots := #[.ref 1], vm := .statics 2 },
  { cls := 8, slots := #[.int 48, .int 49, .int 50, .int 51, .int 52, .int 53, .int 54, .int 55, .int 56, .int 57, .int 97, .int 98, .int 99, .int 100, .int 101, .int 102], vm := .none }]
def classes : Array Class := #[k0, k1, k2, k3, k4, k5, k6, k7, k8, k9, k10]
def interned : List (Array UInt16 × Addr) := []
def slotsUsed : Nat := 17
def theMethod : MethodId := ⟨1, 1⟩
def args0 : Array Value := #[.int 5, .int 1]
def aboutOver (below : List Frame) : State where
  vm := { classes := classes, interned := interned.toArray }
  heap := heap
  slotsUsed := slotsUsed
  threads := #[{ frames := .invoking theMethod args0 :: below }]
def below0 : List Frame := [.native { method := ⟨0, 0⟩, args := #[] }]
def about1 : State := aboutOver below0
def p0 : Program := .bare "" "" ""
def e0 : Env := launch0.env 0 0 0
theorem w_frames : about1.frames = Frame.invoking theMethod args0 :: below0 := rfl
set_option maxRecDepth 65536 in
theorem w_args : argsFit about1.vm theMethod args0 = true := by decide +kernel
set_option maxRecDepth 65536 in
theorem w_heap : heapFits about1 = true := by decide +kernel
set_option maxRecDepth 65536 in
theorem w_runnable : about1.curStatus? = some .runnable := by decide +kernel
set_option maxRecDepth 65536 in
theorem w_alone : about1.alone = true := by decide +kernel
set_option maxRecDepth 65536 in
theorem w_named : about1.methodNamed? x = some theMethod := by decide +kernel
set_option maxRecDepth 65536 in
theorem w_hears : about1.hears theMethod below0 = true := by decide +kernel
set_option maxRecDepth 65536 in
theorem w_ripe : about1.ripe theMethod args0 below0 = true := by decide +kernel
theorem w_running : about1.status = .running := rfl
set_option maxRecDepth 65536 in
theorem w_room : about1.hasRoom e0.platform room_1 = true :=
  launch0.hasRoom_least _ room_1 (by decide +kernel) (by decide +kernel) (by decide +kernel) (by decide +kernel) (by decide +kernel) (by decide +kernel)
theorem allAtoms_all (ts : List Jvm.Cond) (a : Array Jvm.Value) (st : Jvm.State) : (allAtoms ts).before a st = ts.all (fun c => c.before a st) := by
  induction ts with
  | nil => rfl
  | cons c t ih =>
    show (Jvm.Cond.and c (allAtoms t)).before a st = _
    rw [Jvm.Cond.before_and, ih, List.all_cons]
def words1 : List Jvm.Cond := Jvm.Cond.code x code maxLocals ret :: tables_1
/-- a 'code' word, met by the world's own term for the bytes: nothing is compared byte by byte -/
theorem code_word {y : MethodName} {bytes : ByteArray} {mx : Nat} {rt : Option FieldType} {a : Array Value} {s : State} {m : MethodId} {meth : Method} {c : Code} (h1 : s.methodNamed? y = some m) (h2 : s.vm.method? m = some meth) (h3 : meth.code = some c) (h4 : c.code = bytes)
    (h5 : (c.maxLocals == mx && c.exceptionTable.isEmpty && decide (c.maxStack ≤ mostOperands) && decide (meth.sig.returnType = rt) && !meth.locks && decide (parseMethodDescriptor y.desc = some meth.sig)) = true) : (Jvm.Cond.code y bytes mx rt).before a s = true := by
  simp only [Bool.and_eq_true, beq_iff_eq, Bool.not_eq_true', decide_eq_true_eq] at h5
  obtain ⟨⟨⟨⟨⟨g1, g2⟩, g3⟩, g4⟩, g5⟩, g6⟩ := h5
  simp [Cond.before, Cond.holds, Cond.value, h1, h2, h3, h4, g1, g2, g3, g4, g5, g6]
def isCode : Jvm.Cond → Bool
  | .code _ _ _ _ => true
  | _ => false
theorem all_split {L : List Jvm.Cond} {P : Jvm.Cond → Bool} (h1 : L.all (fun c => isCode c || P c) = true) (h2 : ∀ c ∈ L.filter isCode, P c = true) : L.all P = true := by
  refine List.all_eq_true.mpr fun c hc => ?_
  have h := List.all_eq_true.mp h1 c hc
  rcases Bool.eq_false_or_eq_true (isCode c) with hi | hi
  · exact h2 c (List.mem_filter.mpr ⟨hc, hi⟩)
  · simpa [hi] using h
set_option maxRecDepth 65536 in
theorem w_c0 : (Jvm.Cond.code x code maxLocals ret).before args0 about1 = true := code_word (m := ⟨1, 1⟩) (meth := k1m1) (c := k1c1) (by decide +kernel) rfl rfl rfl (by decide +kernel)
set_option maxRecDepth 65536 in
theorem w_c1 : (Jvm.Cond.code ({ cls := "com/example/varpack/varpack/Hex", name := "digit", desc := "(I)C" } : Jvm.MethodName) prog_12_method_2_code (1 : Nat) (Option.some Jvm.ClassFile.FieldType.char)).before args0 about1 = true := code_word (m := ⟨2, 1⟩) (meth := k2m1) (c := k2c1) (by decide +kernel) rfl rfl rfl (by decide +kernel)
set_option maxRecDepth 65536 in
theorem w_c2 : (Jvm.Cond.code ({ cls := "com/example/varpack/varpack/Hex", name := "valueOf", desc := "(C)I" } : Jvm.MethodName) prog_12_method_3_code (1 : Nat) (Option.some Jvm.ClassFile.FieldType.int)).before args0 about1 = true := code_word (m := ⟨2, 2⟩) (meth := k2m2) (c := k2c2) (by decide +kernel) rfl rfl rfl (by decide +kernel)
def codes1 : List Jvm.Cond := [Jvm.Cond.code x code maxLocals ret, Jvm.Cond.code ({ cls := "com/example/varpack/varpack/Hex", name := "digit", desc := "(I)C" } : Jvm.MethodName) prog_12_method_2_code (1 : Nat) (Option.some Jvm.ClassFile.FieldType.char), Jvm.Cond.code ({ cls := "com/example/varpack/varpack/Hex", name := "valueOf", desc := "(C)I" } : Jvm.MethodName) prog_12_method_3_code (1 : Nat) (Option.some Jvm.ClassFile.FieldType.int)]
set_option maxRecDepth 65536 in
theorem codes_eq : words1.filter isCode = codes1 := rfl
theorem w_codes : ∀ c ∈ words1.filter isCode, c.before args0 about1 = true := by
  rw [codes_eq]
  intro c hc
  simp only [codes1, List.mem_cons, List.not_mem_nil, or_false] at hc
  rcases hc with rfl | rfl | rfl
  · exact w_c0
  · exact w_c1
  · exact w_c2
set_option maxRecDepth 65536 in
theorem w_t1 : words1.all (fun c => isCode c || c.before args0 about1) = true := by decide +kernel
theorem w_tables : (allAtoms (Jvm.Cond.code x code maxLocals ret :: tables_1)).before args0 about1 = true := by
  rw [allAtoms_all]
  show words1.all (fun c => c.before args0 about1) = true
  refine all_split ?_ w_codes
  rw [w_t1]
set_option maxRecDepth 65536 in
theorem w_case : (Jvm.Cond.and given_1 narrow_1).before args0 about1 = true := by decide +kernel
theorem w_applies : (headSpec (Jvm.Cond.code x code maxLocals ret :: tables_1) room_1).applies x e0.platform about1 = true :=
  (Spec.applies_iff w_frames).mpr ⟨w_running, w_runnable, w_alone, w_named, w_hears, w_ripe, w_room, w_tables⟩
theorem atStart : AtStart classFile x code maxLocals ret World_1 tables_1 room_1 Calls_1 rest_1 Pre_1 launch0 p0 e0 about1 theMethod args0 below0 :=
  ⟨lists_1, trivial, launch0.admits_env _ _ _, launch0.least_env, fairChoices_fair.cas, fairChoices_fair.clock, w_frames, w_args, w_heap, w_applies, trivial, trivial, w_case⟩
end start1
theorem witness_1 : WitnessClaimed_1 := ⟨start1.p0, start1.e0, start1.about1, start1.theMethod, start1.args0, start1.below0, start1.atStart⟩
end Jvm.Pilot.@@N@@
