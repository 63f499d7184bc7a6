import JvmDerived
import JvmDerived.Pilot.@@N@@Statement
import JvmDerived.Pilot.@@N@@Code
set_option linter.unusedVariables false
set_option linter.unusedSimpArgs false
namespace Jvm.RoadKit
open Sem ClassFile Op Lib Jvm.Stand Jvm.Free Jvm.LawKit
section New
variable {p : Program} {l : Launch} {e : Env} {R : Room} {s : State} {m : MethodId} {args : Array Value} {below : List Frame} {meth : Method} {c : Code} {T : State} {locs : List Loc} {cells slots : Nat}
theorem retI (X : Stand p l e R s m args below meth c T locs cells slots) (hx : p.tables.exec = Jvm.exec) {pc : Nat} {Ls : Array Slot} {z : Int32} {rest : List Value} (hret : meth.sig.returnType = some .int) (hd : decode c.code pc = .ok (.ireturn, 1)) {fs : List Frame}
    (hl : ∀ (f : JFrame) (acts : List Action), f.method = m → f.locked = none → f.entered = [] → (doReturn e (T.setTop f) acts (some (.int z))).1 = T.setFrames fs) : Steps p.tables e below (T.setTop (mkF m pc Ls (.int z :: rest))) (T.setFrames fs) := by
  have hm' : T.vm.method? m = some meth := X.method'
  have hn : narrow .int (.int z) = .int z := rfl
  show Steps p.tables e below (T.setTop { method := m, pc := pc, locals := Ls, stack := _ :: rest, locked := none }) _
  jvm_step X.here [X.here.top, hx, hd, hm', hret, hn]
  first | (intro acts; rw [hl _ acts rfl rfl rfl]) | rw [hl _ _ rfl rfl rfl]
  exact Steps.refl _
end New
end Jvm.RoadKit
namespace Jvm.Pilot.@@N@@
open Jvm Jvm.ClassFile Sem Op Lib Jvm.Free Jvm.Stand Jvm.LawKit Jvm.RoadKit Bundle Jvm.Pilot.@@N@@.Jvm.D
theorem own_keep {h h' : Heap} (e : h' = h) : Keep h h' [] := e ▸ Keep.refl _ _
theorem own_ws0 {h0 : Heap} {ws : List Addr} : ∀ x ∈ ([] : List Addr), x ∈ ws ∨ h0.size ≤ x := fun _ q => nomatch q
theorem own_ws1 {h0 : Heap} {ws : List Addr} {a : Addr} (q : h0.size ≤ a) : ∀ x ∈ [a], x ∈ ws ∨ h0.size ≤ x := fun x hx => by cases List.mem_singleton.mp hx; exact Or.inr q
theorem own_wsIn {h0 : Heap} {a : Addr} : ∀ x ∈ [a], x ∈ [a] ∨ h0.size ≤ x := fun x hx => Or.inl hx
theorem own_nin {a b : Addr} (h : a ≠ b) : a ∉ [b] := fun q => h (List.mem_singleton.mp q)
theorem own_ne {a b n : Nat} (h : a < n) (e : b = n) : a ≠ b := by omega
def own_St (Z : State) (h : Heap) (s p : Addr) (r f : Int32) : Prop := Exa Z h s "com/example/orderly_tx/orderlytx/UnitStatus" ∧ Fld Z h s "com/example/orderly_tx/orderlytx/UnitStatus" "joined" "Lcom/example/orderly_tx/orderlytx/UnitStatus;" .null ∧ Fld Z h s "com/example/orderly_tx/orderlytx/UnitStatus" "rollbackOnly" "Z" (.int r) ∧ Fld Z h s "com/example/orderly_tx/orderlytx/UnitStatus" "failedByParticipant" "Z" (.int f) ∧ Fld Z h s "com/example/orderly_tx/orderlytx/UnitStatus" "participantFailure" "Ljava/lang/Throwable;" .null ∧ Exa Z h p "com/example/orderly_tx/orderlytx/UnitStatus" ∧ Fld Z h p "com/example/orderly_tx/orderlytx/UnitStatus" "joined" "Lcom/example/orderly_tx/orderlytx/UnitStatus;" (.ref s)
theorem d2_0 : decode prog_46_method_3_code 0 = .ok (.aload_n 0, 1) := by decide +kernel
theorem d2_1 : decode prog_46_method_3_code 1 = .ok (.invokespecial 7, 3) := by decide +kernel
theorem d2_4 : decode prog_46_method_3_code 4 = .ok (.aload_n 0, 1) := by decide +kernel
theorem d2_5 : decode prog_46_method_3_code 5 = .ok (.aload_n 1, 1) := by decide +kernel
theorem d2_6 : decode prog_46_method_3_code 6 = .ok (.putfield 12, 3) := by decide +kernel
theorem d2_9 : decode prog_46_method_3_code 9 = .ok (.aload_n 0, 1) := by decide +kernel
theorem d2_10 : decode prog_46_method_3_code 10 = .ok (.aload_n 2, 1) := by decide +kernel
theorem d2_11 : decode prog_46_method_3_code 11 = .ok (.putfield 16, 3) := by decide +kernel
theorem d2_14 : decode prog_46_method_3_code 14 = .ok (.return_, 1) := by decide +kernel
theorem pn_2 : plainName "com/example/orderly_tx/orderlytx/UnitStatus" = true := by first | (simp [plainName, overriddenIn]; done) | decide +kernel
theorem ef_2 (m : MethodId) (x0 : Addr) : entryFrame m #[(.ref x0), .null, .null] 3 = mkF m 0 #[.val (.ref x0), .val .null, .val .null] [] := by first | (simp [entryFrame, mkF, argsToLocals, Value.category]; done) | rfl
def Q2 (Z : State) (a1 : Addr) (u_joined_a1 : Value) (u_completion_a1 : Value) (h0 : Heap) (n0 : Nat) (v : Option Value) (h : Heap) (L : List Loc) : Prop := v = none ∧ Fr n0 L ∧ Keep h0 h [a1] ∧ Exa Z h a1 "com/example/orderly_tx/orderlytx/UnitStatus" ∧ Fld Z h a1 "com/example/orderly_tx/orderlytx/UnitStatus" "joined" "Lcom/example/orderly_tx/orderlytx/UnitStatus;" .null ∧ Fld Z h a1 "com/example/orderly_tx/orderlytx/UnitStatus" "rollbackOnly" "Z" (.int (0 : Int32)) ∧ Fld Z h a1 "com/example/orderly_tx/orderlytx/UnitStatus" "failedByParticipant" "Z" (.int (0 : Int32)) ∧ Fld Z h a1 "com/example/orderly_tx/orderlytx/UnitStatus" "participantFailure" "Ljava/lang/Throwable;" .null
set_option maxRecDepth 65536 in
set_option maxHeartbeats 40000000 in
theorem rm2n (l : Launch) (Z : State) (a0 : Array Value) (hw : ∀ d ∈ tables_1, d.before a0 Z = true) (ws : List Jvm.Cond) (a1 : Addr) (u_joined_a1 : Value) (u_completion_a1 : Value) (h0 : Heap) (n0 : Nat) (Z0 : n0 ≤ h0.size) (E_a1 : Exa Z h0 a1 "com/example/orderly_tx/orderlytx/UnitStatus") (F_joined_a1 : Fld Z h0 a1 "com/example/orderly_tx/orderlytx/UnitStatus" "joined" "Lcom/example/orderly_tx/orderlytx/UnitStatus;" u_joined_a1) (g_a1 : n0 ≤ a1) (F_completion_a1 : Fld Z h0 a1 "com/example/orderly_tx/orderlytx/UnitStatus" "completion" "Lcom/example/orderly_tx/orderlytx/Completion;" u_completion_a1) (Fr0 : Fld Z h0 a1 "com/example/orderly_tx/orderlytx/UnitStatus" "rollbackOnly" "Z" (.int (0 : Int32))) (Ff0 : Fld Z h0 a1 "com/example/orderly_tx/orderlytx/UnitStatus" "failedByParticipant" "Z" (.int (0 : Int32))) (Fp0 : Fld Z h0 a1 "com/example/orderly_tx/orderlytx/UnitStatus" "participantFailure" "Ljava/lang/Throwable;" .null) :
    MetFree l (⟨"com/example/orderly_tx/orderlytx/UnitStatus", "<init>", "(Lcom/example/orderly_tx/orderlytx/UnitStatus;Lcom/example/orderly_tx/orderlytx/Completion;)V"⟩ : MethodName) (head1 (Jvm.Cond.code (⟨"com/example/orderly_tx/orderlytx/UnitStatus", "<init>", "(Lcom/example/orderly_tx/orderlytx/UnitStatus;Lcom/example/orderly_tx/orderlytx/Completion;)V"⟩ : MethodName) prog_46_method_3_code 3 none :: ws) ({ frames := 1, cells := 0, slots := 0, locals := 12 } : Room)) (fun a U => a = #[(.ref a1), .null, .null] ∧ Z.Warmed39 U.vm ∧ U.heap = h0) (fun _ _ _ _ _ => True) (fun _ U o U' => ∃ v L, o = .returned v ∧ Q2 Z a1 u_joined_a1 u_completion_a1 h0 n0 v U'.heap L ∧ FrameEnd U o U' L ({ frames := 1, cells := 0, slots := 0, locals := 12 } : Room).cells ({ frames := 1, cells := 0, slots := 0, locals := 12 } : Room).slots) := by
  refine MetFree.of_bodySF (plainFor_of_name pn_2) hisR ?_
  intro p e s m args below meth c s₁ Bd hml0 hP hK
  obtain ⟨rfl, hZ, hh⟩ := hP
  have hx := Bd.exec
  have hby := Bd.bytes
  have hml : c.maxLocals = 3 := hml0
  have hown : s.vm.findClass "com/example/orderly_tx/orderlytx/UnitStatus" = some m.cls := findClass_of_methodNamed Bd.named
  have hnm := (name_of_methodNamed Bd.named Bd.method).1
  have X0 : Stand p l e ({ frames := 1, cells := 0, slots := 0, locals := 12 } : Room) s m #[(.ref a1), .null, .null] below meth c s₁ [] 0 0 := Stand.of_body Bd
  have e0 : s₁.heap = h0 := by rw [← hh, Bd.state]; rfl
  have N0 := Fr.nil n0
  have pre0 : ∀ t, Steps p.tables e below (s₁.setTop (mkF m 0 #[.val (.ref a1), .val .null, .val .null] [])) t → Steps p.tables e below (s₁.setTop (entryFrame m #[(.ref a1), .null, .null] 3)) t := fun t k => castTop (ef_2 m a1) k
  -- 3. LAWS
  obtain ⟨T2, X2, e2, st2⟩ := initO X0 hx hZ hown (hw _ (List.mem_of_getElem? (i := 9) rfl)) (hw _ (List.mem_of_getElem? (i := 10) rfl)) (hw _ (List.mem_of_getElem? (i := 11) rfl)) e0 (g := (mkF m 1 #[.val (.ref a1), .val .null, .val .null] [(.ref a1)])) rfl (by rw [hml]; rfl) rfl (hb hby d2_1) (by decide) (W := 0) (by show 2 * 0 + _ ≤ _; exact Nat.le_of_eq rfl) (by decide)
  obtain ⟨T3, h3, X3, e3, W3, st3⟩ := putF X2 hx hZ hown (host := "") (Or.inl (hw _ (List.mem_of_getElem? (i := 12) rfl))) Via.refl e2 F_joined_a1 E_a1 (Or.inr ⟨(hw _ (List.mem_of_getElem? (i := 13) rfl)), rfl, hnm⟩) (hw _ (List.mem_of_getElem? (i := 1) rfl)) (ty := (.object "com/example/orderly_tx/orderlytx/UnitStatus")) (by decide) rfl rfl (g := (mkF m 6 #[.val (.ref a1), .val .null, .val .null] [.null, (.ref a1)])) rfl rfl (hb hby d2_6)
  have Fw3 := F_joined_a1.same W3      -- the field now holds .null
  have K3 : Keep h0 h3 [a1] := (Keep.refl h0 [a1]).wr W3 (Or.inl (List.mem_of_getElem? (i := 0) rfl))
  have N3 := Fr.snoc X3 N0 g_a1
  obtain ⟨T4, h4, X4, e4, W4, st4⟩ := putF X3 hx hZ hown (host := "") (Or.inl (hw _ (List.mem_of_getElem? (i := 14) rfl))) Via.refl e3 (F_completion_a1.other W3 (Or.inr (slot_ne (Or.inr (hw _ (List.mem_of_getElem? (i := 15) rfl))) (Or.inr (hw _ (List.mem_of_getElem? (i := 13) rfl))) (by decide) (t := (.object "com/example/orderly_tx/orderlytx/Completion")) (t' := (.object "com/example/orderly_tx/orderlytx/UnitStatus")) (by decide) (by decide)))) (E_a1.wr W3) (Or.inr ⟨(hw _ (List.mem_of_getElem? (i := 15) rfl)), rfl, hnm⟩) (hw _ (List.mem_of_getElem? (i := 1) rfl)) (ty := (.object "com/example/orderly_tx/orderlytx/Completion")) (by decide) rfl rfl (g := (mkF m 11 #[.val (.ref a1), .val .null, .val .null] [.null, (.ref a1)])) rfl rfl (hb hby d2_11)
  have Fw4 := (F_completion_a1.other W3 (Or.inr (slot_ne (Or.inr (hw _ (List.mem_of_getElem? (i := 15) rfl))) (Or.inr (hw _ (List.mem_of_getElem? (i := 13) rfl))) (by decide) (t := (.object "com/example/orderly_tx/orderlytx/Completion")) (t' := (.object "com/example/orderly_tx/orderlytx/UnitStatus")) (by decide) (by decide)))).same W4      -- the field now holds .null
  have K4 : Keep h0 h4 [a1] := K3.wr W4 (Or.inl (List.mem_of_getElem? (i := 0) rfl))
  have N4 := Fr.snoc X4 N3 g_a1
  obtain ⟨fs, hr, hrun, hended, hW, hsame⟩ := X4.leave (v := none) (fun _ => rfl) (BodyLoose.notSynchronized Bd)
  refine ⟨_, _, pre0 _ ?_, hrun, hended, _, _, rfl, ?_, ⟨_, rfl⟩, hW, hsame.mono (by decide) (by decide)⟩
  -- 4. STEPS
  · show Steps p.tables e below (s₁.setTop (mkF m 0 #[.val (.ref a1), .val .null, .val .null] [])) _
    refine XS.aloadN X0.here hx rfl (hb hby d2_0) rfl rfl ?_
    show Steps p.tables e below (s₁.setTop (mkF m 1 #[.val (.ref a1), .val .null, .val .null] [(.ref a1)])) _
    refine st2 _ ?_
    show Steps p.tables e below (T2.setTop (mkF m 4 #[.val (.ref a1), .val .null, .val .null] [])) _
    refine XS.aloadN X2.here hx rfl (hb hby d2_4) rfl rfl ?_
    show Steps p.tables e below (T2.setTop (mkF m 5 #[.val (.ref a1), .val .null, .val .null] [(.ref a1)])) _
    refine XS.aloadN X2.here hx rfl (hb hby d2_5) rfl rfl ?_
    show Steps p.tables e below (T2.setTop (mkF m 6 #[.val (.ref a1), .val .null, .val .null] [.null, (.ref a1)])) _
    refine st3 _ ?_
    show Steps p.tables e below (T3.setTop (mkF m 9 #[.val (.ref a1), .val .null, .val .null] [])) _
    refine XS.aloadN X3.here hx rfl (hb hby d2_9) rfl rfl ?_
    show Steps p.tables e below (T3.setTop (mkF m 10 #[.val (.ref a1), .val .null, .val .null] [(.ref a1)])) _
    refine XS.aloadN X3.here hx rfl (hb hby d2_10) rfl rfl ?_
    show Steps p.tables e below (T3.setTop (mkF m 11 #[.val (.ref a1), .val .null, .val .null] [.null, (.ref a1)])) _
    refine st4 _ ?_
    show Steps p.tables e below (T4.setTop (mkF m 14 #[.val (.ref a1), .val .null, .val .null] [])) _
    exact X4.returnOut hx Bd.returns (hb hby d2_14) hr
  · show Q2 Z a1 u_joined_a1 u_completion_a1 h0 n0 _ T4.heap _
    rw [e4]
    exact ⟨rfl, N4, K4, ((E_a1.wr W3).wr W4), (Fw3.other W4 (Or.inr (slot_ne (Or.inr (hw _ (List.mem_of_getElem? (i := 13) rfl))) (Or.inr (hw _ (List.mem_of_getElem? (i := 15) rfl))) (by decide) (t := (.object "com/example/orderly_tx/orderlytx/UnitStatus")) (t' := (.object "com/example/orderly_tx/orderlytx/Completion")) (by decide) (by decide)))), ((Fr0.other W3 (Or.inr (slot_ne (Or.inl (hw _ (List.mem_of_getElem? (i := 28) rfl))) (Or.inr (hw _ (List.mem_of_getElem? (i := 13) rfl))) (by decide) (t := .boolean) (t' := (.object "com/example/orderly_tx/orderlytx/UnitStatus")) (by decide) (by decide)))).other W4 (Or.inr (slot_ne (Or.inl (hw _ (List.mem_of_getElem? (i := 28) rfl))) (Or.inr (hw _ (List.mem_of_getElem? (i := 15) rfl))) (by decide) (t := .boolean) (t' := (.object "com/example/orderly_tx/orderlytx/Completion")) (by decide) (by decide)))), ((Ff0.other W3 (Or.inr (slot_ne (Or.inl (hw _ (List.mem_of_getElem? (i := 30) rfl))) (Or.inr (hw _ (List.mem_of_getElem? (i := 13) rfl))) (by decide) (t := .boolean) (t' := (.object "com/example/orderly_tx/orderlytx/UnitStatus")) (by decide) (by decide)))).other W4 (Or.inr (slot_ne (Or.inl (hw _ (List.mem_of_getElem? (i := 30) rfl))) (Or.inr (hw _ (List.mem_of_getElem? (i := 15) rfl))) (by decide) (t := .boolean) (t' := (.object "com/example/orderly_tx/orderlytx/Completion")) (by decide) (by decide)))), ((Fp0.other W3 (Or.inr (slot_ne (Or.inl (hw _ (List.mem_of_getElem? (i := 43) rfl))) (Or.inr (hw _ (List.mem_of_getElem? (i := 13) rfl))) (by decide) (t := (.object "java/lang/Throwable")) (t' := (.object "com/example/orderly_tx/orderlytx/UnitStatus")) (by decide) (by decide)))).other W4 (Or.inr (slot_ne (Or.inl (hw _ (List.mem_of_getElem? (i := 43) rfl))) (Or.inr (hw _ (List.mem_of_getElem? (i := 15) rfl))) (by decide) (t := (.object "java/lang/Throwable")) (t' := (.object "com/example/orderly_tx/orderlytx/Completion")) (by decide) (by decide))))⟩
theorem ef_2r (m : MethodId) (x0 : Addr) (x1 : Addr) : entryFrame m #[(.ref x0), (.ref x1), .null] 3 = mkF m 0 #[.val (.ref x0), .val (.ref x1), .val .null] [] := by first | (simp [entryFrame, mkF, argsToLocals, Value.category]; done) | rfl
def Q2r (Z : State) (a1 : Addr) (a2 : Addr) (u_joined_a1 : Value) (u_completion_a1 : Value) (h0 : Heap) (n0 : Nat) (v : Option Value) (h : Heap) (L : List Loc) : Prop := v = none ∧ Fr n0 L ∧ Keep h0 h [a1] ∧ Exa Z h a1 "com/example/orderly_tx/orderlytx/UnitStatus" ∧ Fld Z h a1 "com/example/orderly_tx/orderlytx/UnitStatus" "joined" "Lcom/example/orderly_tx/orderlytx/UnitStatus;" (.ref a2)
set_option maxRecDepth 65536 in
set_option maxHeartbeats 40000000 in
theorem rm2r (l : Launch) (Z : State) (a0 : Array Value) (hw : ∀ d ∈ tables_1, d.before a0 Z = true) (ws : List Jvm.Cond) (a1 : Addr) (a2 : Addr) (u_joined_a1 : Value) (u_completion_a1 : Value) (h0 : Heap) (n0 : Nat) (Z0 : n0 ≤ h0.size) (E_a1 : Exa Z h0 a1 "com/example/orderly_tx/orderlytx/UnitStatus") (F_joined_a1 : Fld Z h0 a1 "com/example/orderly_tx/orderlytx/UnitStatus" "joined" "Lcom/example/orderly_tx/orderlytx/UnitStatus;" u_joined_a1) (g_a1 : n0 ≤ a1) (F_completion_a1 : Fld Z h0 a1 "com/example/orderly_tx/orderlytx/UnitStatus" "completion" "Lcom/example/orderly_tx/orderlytx/Completion;" u_completion_a1) :
    MetFree l (⟨"com/example/orderly_tx/orderlytx/UnitStatus", "<init>", "(Lcom/example/orderly_tx/orderlytx/UnitStatus;Lcom/example/orderly_tx/orderlytx/Completion;)V"⟩ : MethodName) (head1 (Jvm.Cond.code (⟨"com/example/orderly_tx/orderlytx/UnitStatus", "<init>", "(Lcom/example/orderly_tx/orderlytx/UnitStatus;Lcom/example/orderly_tx/orderlytx/Completion;)V"⟩ : MethodName) prog_46_method_3_code 3 none :: ws) ({ frames := 1, cells := 0, slots := 0, locals := 12 } : Room)) (fun a U => a = #[(.ref a1), (.ref a2), .null] ∧ Z.Warmed39 U.vm ∧ U.heap = h0) (fun _ _ _ _ _ => True) (fun _ U o U' => ∃ v L, o = .returned v ∧ Q2r Z a1 a2 u_joined_a1 u_completion_a1 h0 n0 v U'.heap L ∧ FrameEnd U o U' L ({ frames := 1, cells := 0, slots := 0, locals := 12 } : Room).cells ({ frames := 1, cells := 0, slots := 0, locals := 12 } : Room).slots) := by
  refine MetFree.of_bodySF (plainFor_of_name pn_2) hisR ?_
  intro p e s m args below meth c s₁ Bd hml0 hP hK
  obtain ⟨rfl, hZ, hh⟩ := hP
  have hx := Bd.exec
  have hby := Bd.bytes
  have hml : c.maxLocals = 3 := hml0
  have hown : s.vm.findClass "com/example/orderly_tx/orderlytx/UnitStatus" = some m.cls := findClass_of_methodNamed Bd.named
  have hnm := (name_of_methodNamed Bd.named Bd.method).1
  have X0 : Stand p l e ({ frames := 1, cells := 0, slots := 0, locals := 12 } : Room) s m #[(.ref a1), (.ref a2), .null] below meth c s₁ [] 0 0 := Stand.of_body Bd
  have e0 : s₁.heap = h0 := by rw [← hh, Bd.state]; rfl
  have N0 := Fr.nil n0
  have pre0 : ∀ t, Steps p.tables e below (s₁.setTop (mkF m 0 #[.val (.ref a1), .val (.ref a2), .val .null] [])) t → Steps p.tables e below (s₁.setTop (entryFrame m #[(.ref a1), (.ref a2), .null] 3)) t := fun t k => castTop (ef_2r m a1 a2) k
  -- 3. LAWS
  obtain ⟨T3, X3, e3, st3⟩ := initO X0 hx hZ hown (hw _ (List.mem_of_getElem? (i := 9) rfl)) (hw _ (List.mem_of_getElem? (i := 10) rfl)) (hw _ (List.mem_of_getElem? (i := 11) rfl)) e0 (g := (mkF m 1 #[.val (.ref a1), .val (.ref a2), .val .null] [(.ref a1)])) rfl (by rw [hml]; rfl) rfl (hb hby d2_1) (by decide) (W := 0) (by show 2 * 0 + _ ≤ _; exact Nat.le_of_eq rfl) (by decide)
  obtain ⟨T4, h4, X4, e4, W4, st4⟩ := putF X3 hx hZ hown (host := "") (Or.inl (hw _ (List.mem_of_getElem? (i := 12) rfl))) Via.refl e3 F_joined_a1 E_a1 (Or.inr ⟨(hw _ (List.mem_of_getElem? (i := 13) rfl)), rfl, hnm⟩) (hw _ (List.mem_of_getElem? (i := 1) rfl)) (ty := (.object "com/example/orderly_tx/orderlytx/UnitStatus")) (by decide) rfl rfl (g := (mkF m 6 #[.val (.ref a1), .val (.ref a2), .val .null] [(.ref a2), (.ref a1)])) rfl rfl (hb hby d2_6)
  have Fw4 := F_joined_a1.same W4      -- the field now holds (.ref a2)
  have K4 : Keep h0 h4 [a1] := (Keep.refl h0 [a1]).wr W4 (Or.inl (List.mem_of_getElem? (i := 0) rfl))
  have N4 := Fr.snoc X4 N0 g_a1
  obtain ⟨T5, h5, X5, e5, W5, st5⟩ := putF X4 hx hZ hown (host := "") (Or.inl (hw _ (List.mem_of_getElem? (i := 14) rfl))) Via.refl e4 (F_completion_a1.other W4 (Or.inr (slot_ne (Or.inr (hw _ (List.mem_of_getElem? (i := 15) rfl))) (Or.inr (hw _ (List.mem_of_getElem? (i := 13) rfl))) (by decide) (t := (.object "com/example/orderly_tx/orderlytx/Completion")) (t' := (.object "com/example/orderly_tx/orderlytx/UnitStatus")) (by decide) (by decide)))) (E_a1.wr W4) (Or.inr ⟨(hw _ (List.mem_of_getElem? (i := 15) rfl)), rfl, hnm⟩) (hw _ (List.mem_of_getElem? (i := 1) rfl)) (ty := (.object "com/example/orderly_tx/orderlytx/Completion")) (by decide) rfl rfl (g := (mkF m 11 #[.val (.ref a1), .val (.ref a2), .val .null] [.null, (.ref a1)])) rfl rfl (hb hby d2_11)
  have Fw5 := (F_completion_a1.other W4 (Or.inr (slot_ne (Or.inr (hw _ (List.mem_of_getElem? (i := 15) rfl))) (Or.inr (hw _ (List.mem_of_getElem? (i := 13) rfl))) (by decide) (t := (.object "com/example/orderly_tx/orderlytx/Completion")) (t' := (.object "com/example/orderly_tx/orderlytx/UnitStatus")) (by decide) (by decide)))).same W5      -- the field now holds .null
  have K5 : Keep h0 h5 [a1] := K4.wr W5 (Or.inl (List.mem_of_getElem? (i := 0) rfl))
  have N5 := Fr.snoc X5 N4 g_a1
  obtain ⟨fs, hr, hrun, hended, hW, hsame⟩ := X5.leave (v := none) (fun _ => rfl) (BodyLoose.notSynchronized Bd)
  refine ⟨_, _, pre0 _ ?_, hrun, hended, _, _, rfl, ?_, ⟨_, rfl⟩, hW, hsame.mono (by decide) (by decide)⟩
  -- 4. STEPS
  · show Steps p.tables e below (s₁.setTop (mkF m 0 #[.val (.ref a1), .val (.ref a2), .val .null] [])) _
    refine XS.aloadN X0.here hx rfl (hb hby d2_0) rfl rfl ?_
    show Steps p.tables e below (s₁.setTop (mkF m 1 #[.val (.ref a1), .val (.ref a2), .val .null] [(.ref a1)])) _
    refine st3 _ ?_
    show Steps p.tables e below (T3.setTop (mkF m 4 #[.val (.ref a1), .val (.ref a2), .val .null] [])) _
    refine XS.aloadN X3.here hx rfl (hb hby d2_4) rfl rfl ?_
    show Steps p.tables e below (T3.setTop (mkF m 5 #[.val (.ref a1), .val (.ref a2), .val .null] [(.ref a1)])) _
    refine XS.aloadN X3.here hx rfl (hb hby d2_5) rfl rfl ?_
    show Steps p.tables e below (T3.setTop (mkF m 6 #[.val (.ref a1), .val (.ref a2), .val .null] [(.ref a2), (.ref a1)])) _
    refine st4 _ ?_
    show Steps p.tables e below (T4.setTop (mkF m 9 #[.val (.ref a1), .val (.ref a2), .val .null] [])) _
    refine XS.aloadN X4.here hx rfl (hb hby d2_9) rfl rfl ?_
    show Steps p.tables e below (T4.setTop (mkF m 10 #[.val (.ref a1), .val (.ref a2), .val .null] [(.ref a1)])) _
    refine XS.aloadN X4.here hx rfl (hb hby d2_10) rfl rfl ?_
    show Steps p.tables e below (T4.setTop (mkF m 11 #[.val (.ref a1), .val (.ref a2), .val .null] [.null, (.ref a1)])) _
    refine st5 _ ?_
    show Steps p.tables e below (T5.setTop (mkF m 14 #[.val (.ref a1), .val (.ref a2), .val .null] [])) _
    exact X5.returnOut hx Bd.returns (hb hby d2_14) hr
  · show Q2r Z a1 a2 u_joined_a1 u_completion_a1 h0 n0 _ T5.heap _
    rw [e5]
    exact ⟨rfl, N5, K5, ((E_a1.wr W4).wr W5), (Fw4.other W5 (Or.inr (slot_ne (Or.inr (hw _ (List.mem_of_getElem? (i := 13) rfl))) (Or.inr (hw _ (List.mem_of_getElem? (i := 15) rfl))) (by decide) (t := (.object "com/example/orderly_tx/orderlytx/UnitStatus")) (t' := (.object "com/example/orderly_tx/orderlytx/Completion")) (by decide) (by decide))))⟩
theorem d1_0 : decode prog_46_method_1_code 0 = .ok (.aload_n 0, 1) := by decide +kernel
theorem d1_1 : decode prog_46_method_1_code 1 = .ok (.aconst_null, 1) := by decide +kernel
theorem d1_2 : decode prog_46_method_1_code 2 = .ok (.aconst_null, 1) := by decide +kernel
theorem d1_3 : decode prog_46_method_1_code 3 = .ok (.invokespecial 1, 3) := by decide +kernel
theorem d1_6 : decode prog_46_method_1_code 6 = .ok (.return_, 1) := by decide +kernel
theorem pn_1 : plainName "com/example/orderly_tx/orderlytx/UnitStatus" = true := by first | (simp [plainName, overriddenIn]; done) | decide +kernel
theorem pd_1_1 : parseMethodDescriptor "(Lcom/example/orderly_tx/orderlytx/UnitStatus;Lcom/example/orderly_tx/orderlytx/Completion;)V" = some ⟨[(.object "com/example/orderly_tx/orderlytx/UnitStatus"), (.object "com/example/orderly_tx/orderlytx/Completion")], none⟩ := by decide +kernel
theorem ef_1 (m : MethodId) (x0 : Addr) : entryFrame m #[(.ref x0)] 1 = mkF m 0 #[.val (.ref x0)] [] := by first | (simp [entryFrame, mkF, argsToLocals, Value.category]; done) | rfl
def Q1 (Z : State) (a1 : Addr) (h0 : Heap) (n0 : Nat) (v : Option Value) (h : Heap) (L : List Loc) : Prop := v = none ∧ Fr n0 L ∧ Keep h0 h [a1] ∧ Exa Z h a1 "com/example/orderly_tx/orderlytx/UnitStatus" ∧ Fld Z h a1 "com/example/orderly_tx/orderlytx/UnitStatus" "joined" "Lcom/example/orderly_tx/orderlytx/UnitStatus;" .null ∧ Fld Z h a1 "com/example/orderly_tx/orderlytx/UnitStatus" "rollbackOnly" "Z" (.int (0 : Int32)) ∧ Fld Z h a1 "com/example/orderly_tx/orderlytx/UnitStatus" "failedByParticipant" "Z" (.int (0 : Int32)) ∧ Fld Z h a1 "com/example/orderly_tx/orderlytx/UnitStatus" "participantFailure" "Ljava/lang/Throwable;" .null
set_option maxRecDepth 65536 in
set_option maxHeartbeats 40000000 in
theorem rm1 (l : Launch) (Z : State) (a0 : Array Value) (hw : ∀ d ∈ tables_1, d.before a0 Z = true) (ws : List Jvm.Cond) (a1 : Addr) (h0 : Heap) (n0 : Nat) (Z0 : n0 ≤ h0.size) (E_a1 : Exa Z h0 a1 "com/example/orderly_tx/orderlytx/UnitStatus") (F_j : Fld Z h0 a1 "com/example/orderly_tx/orderlytx/UnitStatus" "joined" "Lcom/example/orderly_tx/orderlytx/UnitStatus;" .null) (g_a1 : n0 ≤ a1) (F_c : Fld Z h0 a1 "com/example/orderly_tx/orderlytx/UnitStatus" "completion" "Lcom/example/orderly_tx/orderlytx/Completion;" .null) (Fr0 : Fld Z h0 a1 "com/example/orderly_tx/orderlytx/UnitStatus" "rollbackOnly" "Z" (.int (0 : Int32))) (Ff0 : Fld Z h0 a1 "com/example/orderly_tx/orderlytx/UnitStatus" "failedByParticipant" "Z" (.int (0 : Int32))) (Fp0 : Fld Z h0 a1 "com/example/orderly_tx/orderlytx/UnitStatus" "participantFailure" "Ljava/lang/Throwable;" .null) :
    MetFree l (⟨"com/example/orderly_tx/orderlytx/UnitStatus", "<init>", "()V"⟩ : MethodName) (head1 (Jvm.Cond.code (⟨"com/example/orderly_tx/orderlytx/UnitStatus", "<init>", "()V"⟩ : MethodName) prog_46_method_1_code 1 none :: ws) ({ frames := 2, cells := 0, slots := 0, locals := 26 } : Room)) (fun a U => a = #[(.ref a1)] ∧ Z.Warmed39 U.vm ∧ U.heap = h0) (fun _ _ _ _ _ => True) (fun _ U o U' => ∃ v L, o = .returned v ∧ Q1 Z a1 h0 n0 v U'.heap L ∧ FrameEnd U o U' L ({ frames := 2, cells := 0, slots := 0, locals := 26 } : Room).cells ({ frames := 2, cells := 0, slots := 0, locals := 26 } : Room).slots) := by
  refine MetFree.of_bodySF (plainFor_of_name pn_1) hisR ?_
  intro p e s m args below meth c s₁ Bd hml0 hP hK
  obtain ⟨rfl, hZ, hh⟩ := hP
  have hx := Bd.exec
  have hby := Bd.bytes
  have hml : c.maxLocals = 1 := hml0
  have hown : s.vm.findClass "com/example/orderly_tx/orderlytx/UnitStatus" = some m.cls := findClass_of_methodNamed Bd.named
  have hnm := (name_of_methodNamed Bd.named Bd.method).1
  have X0 : Stand p l e ({ frames := 2, cells := 0, slots := 0, locals := 26 } : Room) s m #[(.ref a1)] below meth c s₁ [] 0 0 := Stand.of_body Bd
  have e0 : s₁.heap = h0 := by rw [← hh, Bd.state]; rfl
  have N0 := Fr.nil n0
  have pre0 : ∀ t, Steps p.tables e below (s₁.setTop (mkF m 0 #[.val (.ref a1)] [])) t → Steps p.tables e below (s₁.setTop (entryFrame m #[(.ref a1)] 1)) t := fun t k => castTop (ef_1 m a1) k
  -- 3. LAWS
  -- pc 3: the constructor of com/example/orderly_tx/orderlytx/UnitStatus by its contract rm2
  obtain ⟨_, _, ⟨T2, L2, k2, n2⟩, -, X2, ⟨Lc2, hQ2, l2, y2, z2⟩, st2⟩ := X0.specialBack hx (y := (⟨"com/example/orderly_tx/orderlytx/UnitStatus", "<init>", "(Lcom/example/orderly_tx/orderlytx/UnitStatus;Lcom/example/orderly_tx/orderlytx/Completion;)V"⟩ : MethodName)) rfl hown (mvT hZ (hw _ (List.mem_of_getElem? (i := 6) rfl))) (mvT hZ (hw _ (List.mem_of_getElem? (i := 7) rfl))) (mvT hZ (hw _ (List.mem_of_getElem? (i := 8) rfl))) (by decide) (backOf (W := 0) (rm2n l Z a0 hw [] a1 .null .null h0 n0 Z0 E_a1 F_j g_a1 F_c Fr0 Ff0 Fp0) hZ (hw _ (List.mem_of_getElem? (i := 8) rfl)) (hw _ (List.mem_of_getElem? (i := 2) rfl)) (by decide) (by decide)) (g := (mkF m 3 #[.val (.ref a1)] [.null, .null, (.ref a1)])) rfl (by rw [hml]; rfl) (Steps.refl _) (a := a1) (argsL := [.null, .null]) (rest := []) (lenOf pd_1_1 rfl) rfl (by show 2 * 0 + _ ≤ _; exact Nat.le_of_eq rfl) (hb hby d1_3) (fun _ _ => ⟨rfl, e0, (by decide : 0 + 0 ≤ _), (by decide : 0 + 0 ≤ _)⟩)
  dsimp only [Pt.U, Pt.locs, Pt.cells, Pt.slots] at X2 l2 y2 z2 st2 hQ2
  subst l2 y2 z2
  obtain ⟨rfl, N2q, K2q, E2q, Fj2, Fr2, Ff2, Fp2⟩ := hQ2
  have N2 := Fr.app N0 N2q
  have KH2 : Keep h0 T2.heap [a1] := (Keep.refl h0 [a1]).trans K2q own_wsIn
  obtain ⟨fs, hr, hrun, hended, hW, hsame⟩ := X2.leave (v := none) (fun _ => rfl) (BodyLoose.notSynchronized Bd)
  refine ⟨_, _, pre0 _ ?_, hrun, hended, _, _, rfl, ?_, ⟨_, rfl⟩, hW, hsame.mono (by decide) (by decide)⟩
  -- 4. STEPS
  · show Steps p.tables e below (s₁.setTop (mkF m 0 #[.val (.ref a1)] [])) _
    refine XS.aloadN X0.here hx rfl (hb hby d1_0) rfl rfl ?_
    show Steps p.tables e below (s₁.setTop (mkF m 1 #[.val (.ref a1)] [(.ref a1)])) _
    refine XS.aconstNull X0.here hx rfl (hb hby d1_1) ?_
    show Steps p.tables e below (s₁.setTop (mkF m 2 #[.val (.ref a1)] [.null, (.ref a1)])) _
    refine XS.aconstNull X0.here hx rfl (hb hby d1_2) ?_
    show Steps p.tables e below (s₁.setTop (mkF m 3 #[.val (.ref a1)] [.null, .null, (.ref a1)])) _
    refine st2.trans ?_
    show Steps p.tables e below (T2.setTop (mkF m 6 #[.val (.ref a1)] [])) _
    exact X2.returnOut hx Bd.returns (hb hby d1_6) hr
  · show Q1 Z a1 h0 n0 _ T2.heap _
    exact ⟨rfl, N2, K2q, E2q, Fj2, Fr2, Ff2, Fp2⟩
theorem d4_0 : decode prog_46_method_10_code 0 = .ok (.new 2, 3) := by decide +kernel
theorem d4_3 : decode prog_46_method_10_code 3 = .ok (.dup, 1) := by decide +kernel
theorem d4_4 : decode prog_46_method_10_code 4 = .ok (.aload_n 0, 1) := by decide +kernel
theorem d4_5 : decode prog_46_method_10_code 5 = .ok (.aconst_null, 1) := by decide +kernel
theorem d4_6 : decode prog_46_method_10_code 6 = .ok (.invokespecial 1, 3) := by decide +kernel
theorem d4_9 : decode prog_46_method_10_code 9 = .ok (.areturn, 1) := by decide +kernel
theorem pn_4 : plainName "com/example/orderly_tx/orderlytx/UnitStatus" = true := by first | (simp [plainName, overriddenIn]; done) | decide +kernel
theorem pd_4_1 : parseMethodDescriptor "(Lcom/example/orderly_tx/orderlytx/UnitStatus;Lcom/example/orderly_tx/orderlytx/Completion;)V" = some ⟨[(.object "com/example/orderly_tx/orderlytx/UnitStatus"), (.object "com/example/orderly_tx/orderlytx/Completion")], none⟩ := by decide +kernel
theorem ef_4 (m : MethodId) (x0 : Addr) : entryFrame m #[(.ref x0)] 1 = mkF m 0 #[.val (.ref x0)] [] := by first | (simp [entryFrame, mkF, argsToLocals, Value.category]; done) | rfl
def Q4 (Z : State) (a1 : Addr) (h0 : Heap) (n0 : Nat) (v : Option Value) (h : Heap) (L : List Loc) : Prop := v = some (.ref h0.size) ∧ Fr n0 L ∧ Keep h0 h [] ∧ Exa Z h h0.size "com/example/orderly_tx/orderlytx/UnitStatus" ∧ Fld Z h h0.size "com/example/orderly_tx/orderlytx/UnitStatus" "joined" "Lcom/example/orderly_tx/orderlytx/UnitStatus;" (.ref a1)
set_option maxRecDepth 65536 in
set_option maxHeartbeats 40000000 in
theorem rm4 (l : Launch) (Z : State) (a0 : Array Value) (hw : ∀ d ∈ tables_1, d.before a0 Z = true) (ws : List Jvm.Cond) (a1 : Addr) (h0 : Heap) (n0 : Nat) (Z0 : n0 ≤ h0.size)  :
    MetFree l (⟨"com/example/orderly_tx/orderlytx/UnitStatus", "forParticipant", "()Lcom/example/orderly_tx/orderlytx/UnitStatus;"⟩ : MethodName) (head1 (Jvm.Cond.code (⟨"com/example/orderly_tx/orderlytx/UnitStatus", "forParticipant", "()Lcom/example/orderly_tx/orderlytx/UnitStatus;"⟩ : MethodName) prog_46_method_10_code 1 (some (.object "com/example/orderly_tx/orderlytx/UnitStatus")) :: ws) ({ frames := 2, cells := 1, slots := 5, locals := 39 } : Room)) (fun a U => a = #[(.ref a1)] ∧ Z.Warmed39 U.vm ∧ U.heap = h0) (fun _ _ _ _ _ => True) (fun _ U o U' => ∃ v L, o = .returned v ∧ Q4 Z a1 h0 n0 v U'.heap L ∧ FrameEnd U o U' L ({ frames := 2, cells := 1, slots := 5, locals := 39 } : Room).cells ({ frames := 2, cells := 1, slots := 5, locals := 39 } : Room).slots) := by
  refine MetFree.of_bodySF (plainFor_of_name pn_4) hisR ?_
  intro p e s m args below meth c s₁ Bd hml0 hP hK
  obtain ⟨rfl, hZ, hh⟩ := hP
  have hx := Bd.exec
  have hby := Bd.bytes
  have hml : c.maxLocals = 1 := hml0
  have hown : s.vm.findClass "com/example/orderly_tx/orderlytx/UnitStatus" = some m.cls := findClass_of_methodNamed Bd.named
  have hnm := (name_of_methodNamed Bd.named Bd.method).1
  have X0 : Stand p l e ({ frames := 2, cells := 1, slots := 5, locals := 39 } : Room) s m #[(.ref a1)] below meth c s₁ [] 0 0 := Stand.of_body Bd
  have e0 : s₁.heap = h0 := by rw [← hh, Bd.state]; rfl
  have N0 := Fr.nil n0
  have pre0 : ∀ t, Steps p.tables e below (s₁.setTop (mkF m 0 #[.val (.ref a1)] [])) t → Steps p.tables e below (s₁.setTop (entryFrame m #[(.ref a1)] 1)) t := fun t k => castTop (ef_4 m a1) k
  -- 3. LAWS
  obtain ⟨T2, h2, X2, e2, E2, A2, D2, -, st2⟩ := newO X0 hx hZ hown (hw _ (List.mem_of_getElem? (i := 21) rfl)) (hw _ (List.mem_of_getElem? (i := 1) rfl)) (hw _ (List.mem_of_getElem? (i := 2) rfl)) e0 (g := (mkF m 0 #[.val (.ref a1)] [])) rfl (hb hby d4_0) (by decide) (by decide)
  obtain ⟨b2, g2⟩ : ∃ z, z = h0.size := ⟨_, rfl⟩      -- the fresh object's address
  rw [← g2] at A2 D2 st2      -- A2 : Exa Z h2 b2 "com/example/orderly_tx/orderlytx/UnitStatus"; E2 : Ext h0 h2 (carries every older fact: .ext E2)
  have F_joined_b2 : Fld Z h2 b2 "com/example/orderly_tx/orderlytx/UnitStatus" "joined" "Lcom/example/orderly_tx/orderlytx/UnitStatus;" .null := D2 (Or.inr (hw _ (List.mem_of_getElem? (i := 13) rfl))) (ty := (.object "com/example/orderly_tx/orderlytx/UnitStatus")) (by decide)
  have F_completion_b2 : Fld Z h2 b2 "com/example/orderly_tx/orderlytx/UnitStatus" "completion" "Lcom/example/orderly_tx/orderlytx/Completion;" .null := D2 (Or.inr (hw _ (List.mem_of_getElem? (i := 15) rfl))) (ty := (.object "com/example/orderly_tx/orderlytx/Completion")) (by decide)
  have F_rollbackOnly_b2 : Fld Z h2 b2 "com/example/orderly_tx/orderlytx/UnitStatus" "rollbackOnly" "Z" (.int (0 : Int32)) := D2 (Or.inl (hw _ (List.mem_of_getElem? (i := 28) rfl))) (ty := .boolean) (by decide)
  have F_failedByParticipant_b2 : Fld Z h2 b2 "com/example/orderly_tx/orderlytx/UnitStatus" "failedByParticipant" "Z" (.int (0 : Int32)) := D2 (Or.inl (hw _ (List.mem_of_getElem? (i := 30) rfl))) (ty := .boolean) (by decide)
  have F_participantFailure_b2 : Fld Z h2 b2 "com/example/orderly_tx/orderlytx/UnitStatus" "participantFailure" "Ljava/lang/Throwable;" .null := D2 (Or.inl (hw _ (List.mem_of_getElem? (i := 43) rfl))) (ty := (.object "java/lang/Throwable")) (by decide)
  have E_b2 := A2
  have g_b2 : n0 ≤ b2 := Nat.le_trans Z0 (Nat.le_of_eq g2.symm)
  have sz_b2 : h0.size ≤ b2 := (Nat.le_trans (Keep.refl h0 []).1 (Nat.le_of_eq g2.symm))
  have K2 : Keep h0 h2 [] := (Keep.refl h0 []).ext E2
  -- pc 6: the constructor of com/example/orderly_tx/orderlytx/UnitStatus by its contract rm2
  obtain ⟨_, _, ⟨T3, L3, k3, n3⟩, -, X3, ⟨Lc3, hQ3, l3, y3, z3⟩, st3⟩ := X2.specialBack hx (y := (⟨"com/example/orderly_tx/orderlytx/UnitStatus", "<init>", "(Lcom/example/orderly_tx/orderlytx/UnitStatus;Lcom/example/orderly_tx/orderlytx/Completion;)V"⟩ : MethodName)) rfl hown (mvT hZ (hw _ (List.mem_of_getElem? (i := 6) rfl))) (mvT hZ (hw _ (List.mem_of_getElem? (i := 7) rfl))) (mvT hZ (hw _ (List.mem_of_getElem? (i := 8) rfl))) (by decide) (backOf (W := 1) (rm2r l Z a0 hw [] b2 a1 .null .null h2 n0 (Nat.le_trans Z0 K2.1) E_b2 F_joined_b2 g_b2 F_completion_b2) hZ (hw _ (List.mem_of_getElem? (i := 8) rfl)) (hw _ (List.mem_of_getElem? (i := 2) rfl)) (by decide) (by decide)) (g := (mkF m 6 #[.val (.ref a1)] [.null, (.ref a1), (.ref b2), (.ref b2)])) rfl (by rw [hml]; rfl) (Steps.refl _) (a := b2) (argsL := [(.ref a1), .null]) (rest := [(.ref b2)]) (lenOf pd_4_1 rfl) rfl (by show 2 * 0 + _ ≤ _; exact Nat.le_of_eq rfl) (hb hby d4_6) (fun _ _ => ⟨rfl, e2, (by decide : 1 + 0 ≤ _), (by decide : 5 + 0 ≤ _)⟩)
  dsimp only [Pt.U, Pt.locs, Pt.cells, Pt.slots] at X3 l3 y3 z3 st3 hQ3
  subst l3 y3 z3
  obtain ⟨rfl, N3q, K3q, E3q, Fj3⟩ := hQ3
  have N3 := Fr.app N0 N3q
  have KH3 : Keep h0 T3.heap [] := K2.trans K3q (own_ws1 sz_b2)
  obtain ⟨fs, hr, hrun, hended, hW, hsame⟩ := X3.leave (v := some (.ref b2)) (fun h => by rw [Bd.returns] at h; cases h) (BodyLoose.notSynchronized Bd)
  refine ⟨_, _, pre0 _ ?_, hrun, hended, _, _, rfl, ?_, ⟨_, rfl⟩, hW, hsame.mono (by decide) (by decide)⟩
  -- 4. STEPS
  · show Steps p.tables e below (s₁.setTop (mkF m 0 #[.val (.ref a1)] [])) _
    refine st2 _ ?_
    show Steps p.tables e below (T2.setTop (mkF m 3 #[.val (.ref a1)] [(.ref b2)])) _
    refine XS.dup X2.here hx rfl (hb hby d4_3) rfl rfl ?_
    show Steps p.tables e below (T2.setTop (mkF m 4 #[.val (.ref a1)] [(.ref b2), (.ref b2)])) _
    refine XS.aloadN X2.here hx rfl (hb hby d4_4) rfl rfl ?_
    show Steps p.tables e below (T2.setTop (mkF m 5 #[.val (.ref a1)] [(.ref a1), (.ref b2), (.ref b2)])) _
    refine XS.aconstNull X2.here hx rfl (hb hby d4_5) ?_
    show Steps p.tables e below (T2.setTop (mkF m 6 #[.val (.ref a1)] [.null, (.ref a1), (.ref b2), (.ref b2)])) _
    refine st3.trans ?_
    show Steps p.tables e below (T3.setTop (mkF m 9 #[.val (.ref a1)] [(.ref b2)])) _
    jvm_step X3.here [X3.here.top, hx, (hb hby d4_9), X3.method', Bd.returns, Value.isRef, FieldType.isReference]
    first | (intro acts; rw [hr _ acts rfl rfl rfl]) | rw [hr _ _ rfl rfl rfl]
    exact Steps.refl _
  · show Q4 Z a1 h0 n0 _ T3.heap _
    exact ⟨(by rw [g2]), N3, KH3, (g2 ▸ E3q), (g2 ▸ Fj3)⟩
theorem d5_0 : decode prog_46_method_6_code 0 = .ok (.aload_n 0, 1) := by decide +kernel
theorem d5_1 : decode prog_46_method_6_code 1 = .ok (.getfield 12, 3) := by decide +kernel
theorem d5_4 : decode prog_46_method_6_code 4 = .ok (.ifnonnull 26, 3) := by decide +kernel
theorem d5_7 : decode prog_46_method_6_code 7 = .ok (.aload_n 0, 1) := by decide +kernel
theorem d5_8 : decode prog_46_method_6_code 8 = .ok (.getfield 24, 3) := by decide +kernel
theorem d5_11 : decode prog_46_method_6_code 11 = .ok (.ifCond .ne 10, 3) := by decide +kernel
theorem d5_21 : decode prog_46_method_6_code 21 = .ok (.iconst 1, 1) := by decide +kernel
theorem d5_22 : decode prog_46_method_6_code 22 = .ok (.goto 4, 3) := by decide +kernel
theorem d5_26 : decode prog_46_method_6_code 26 = .ok (.istore_n 1, 1) := by decide +kernel
theorem d5_27 : decode prog_46_method_6_code 27 = .ok (.goto 11, 3) := by decide +kernel
theorem d5_38 : decode prog_46_method_6_code 38 = .ok (.iload_n 1, 1) := by decide +kernel
theorem d5_39 : decode prog_46_method_6_code 39 = .ok (.ireturn, 1) := by decide +kernel
theorem pn_5 : plainName "com/example/orderly_tx/orderlytx/UnitStatus" = true := by first | (simp [plainName, overriddenIn]; done) | decide +kernel
theorem ef_5 (m : MethodId) (x0 : Addr) : entryFrame m #[(.ref x0)] 2 = mkF m 0 #[.val (.ref x0), .unset] [] := by first | (simp [entryFrame, mkF, argsToLocals, Value.category]; done) | rfl
theorem d5_14 : decode prog_46_method_6_code 14 = .ok (.aload_n 0, 1) := by decide +kernel
theorem d5_15 : decode prog_46_method_6_code 15 = .ok (.getfield 31, 3) := by decide +kernel
theorem d5_18 : decode prog_46_method_6_code 18 = .ok (.ifCond .eq 7, 3) := by decide +kernel
theorem d5_25 : decode prog_46_method_6_code 25 = .ok (.iconst 0, 1) := by decide +kernel
def own_f5 (w_rollbackOnly_a1 : Int32) (w_failedByParticipant_a1 : Int32) : Int32 := (if w_rollbackOnly_a1 = (0 : Int32) then (if w_failedByParticipant_a1 = (0 : Int32) then (0 : Int32) else (1 : Int32)) else (1 : Int32))
def Q5 (Z : State) (a1 : Addr) (w_rollbackOnly_a1 : Int32) (w_failedByParticipant_a1 : Int32) (h0 : Heap) (n0 : Nat) (v : Option Value) (h : Heap) (L : List Loc) : Prop := v = some (.int (own_f5 w_rollbackOnly_a1 w_failedByParticipant_a1)) ∧ Fr n0 L ∧ h = h0
set_option maxRecDepth 65536 in
set_option maxHeartbeats 40000000 in
theorem rm5_ft (l : Launch) (Z : State) (a0 : Array Value) (hw : ∀ d ∈ tables_1, d.before a0 Z = true) (ws : List Jvm.Cond) (a1 : Addr) (w_rollbackOnly_a1 : Int32) (w_failedByParticipant_a1 : Int32) (h0 : Heap) (n0 : Nat) (Z0 : n0 ≤ h0.size) (F_joined_a1 : Fld Z h0 a1 "com/example/orderly_tx/orderlytx/UnitStatus" "joined" "Lcom/example/orderly_tx/orderlytx/UnitStatus;" .null) (F_rollbackOnly_a1 : Fld Z h0 a1 "com/example/orderly_tx/orderlytx/UnitStatus" "rollbackOnly" "Z" (.int w_rollbackOnly_a1)) (F_failedByParticipant_a1 : Fld Z h0 a1 "com/example/orderly_tx/orderlytx/UnitStatus" "failedByParticipant" "Z" (.int w_failedByParticipant_a1)) (hc11 : ¬ (w_rollbackOnly_a1 = (0 : Int32))) :
    MetFree l (⟨"com/example/orderly_tx/orderlytx/UnitStatus", "isRollbackOnly", "()Z"⟩ : MethodName) (head1 (Jvm.Cond.code (⟨"com/example/orderly_tx/orderlytx/UnitStatus", "isRollbackOnly", "()Z"⟩ : MethodName) prog_46_method_6_code 2 (some .boolean) :: ws) ({ frames := 0, cells := 0, slots := 0, locals := 0 } : Room)) (fun a U => a = #[(.ref a1)] ∧ Z.Warmed39 U.vm ∧ U.heap = h0) (fun _ _ _ _ _ => True) (fun _ U o U' => ∃ v L, o = .returned v ∧ Q5 Z a1 w_rollbackOnly_a1 w_failedByParticipant_a1 h0 n0 v U'.heap L ∧ FrameEnd U o U' L ({ frames := 0, cells := 0, slots := 0, locals := 0 } : Room).cells ({ frames := 0, cells := 0, slots := 0, locals := 0 } : Room).slots) := by
  refine MetFree.of_bodySF (plainFor_of_name pn_5) hisR ?_
  intro p e s m args below meth c s₁ Bd hml0 hP hK
  obtain ⟨rfl, hZ, hh⟩ := hP
  have hx := Bd.exec
  have hby := Bd.bytes
  have hml : c.maxLocals = 2 := hml0
  have hown : s.vm.findClass "com/example/orderly_tx/orderlytx/UnitStatus" = some m.cls := findClass_of_methodNamed Bd.named
  have hnm := (name_of_methodNamed Bd.named Bd.method).1
  have X0 : Stand p l e ({ frames := 0, cells := 0, slots := 0, locals := 0 } : Room) s m #[(.ref a1)] below meth c s₁ [] 0 0 := Stand.of_body Bd
  have e0 : s₁.heap = h0 := by rw [← hh, Bd.state]; rfl
  have N0 := Fr.nil n0
  have pre0 : ∀ t, Steps p.tables e below (s₁.setTop (mkF m 0 #[.val (.ref a1), .unset] [])) t → Steps p.tables e below (s₁.setTop (entryFrame m #[(.ref a1)] 2)) t := fun t k => castTop (ef_5 m a1) k
  -- 3. LAWS
  obtain ⟨T2, X2, e2, st2⟩ := getF X0 hx hZ hown (host := "") (Or.inl (hw _ (List.mem_of_getElem? (i := 12) rfl))) Via.refl e0 F_joined_a1 (g := (mkF m 1 #[.val (.ref a1), .unset] [(.ref a1)])) rfl rfl (hb hby d5_1)
  obtain ⟨T4, X4, e4, st4⟩ := getF X2 hx hZ hown (host := "") (Or.inl (hw _ (List.mem_of_getElem? (i := 27) rfl))) Via.refl e2 F_rollbackOnly_a1 (g := (mkF m 8 #[.val (.ref a1), .unset] [(.ref a1)])) rfl rfl (hb hby d5_8)
  obtain ⟨fs, hr, hrun, hended, hW, hsame⟩ := X4.leave (v := some (.int (1 : Int32))) (fun h => by rw [Bd.returns] at h; cases h) (BodyLoose.notSynchronized Bd)
  refine ⟨_, _, pre0 _ ?_, hrun, hended, _, _, rfl, ?_, ⟨_, rfl⟩, hW, hsame.mono (by decide) (by decide)⟩
  -- 4. STEPS
  · show Steps p.tables e below (s₁.setTop (mkF m 0 #[.val (.ref a1), .unset] [])) _
    refine XS.aloadN X0.here hx rfl (hb hby d5_0) rfl rfl ?_
    show Steps p.tables e below (s₁.setTop (mkF m 1 #[.val (.ref a1), .unset] [(.ref a1)])) _
    refine st2 _ ?_
    show Steps p.tables e below (T2.setTop (mkF m 4 #[.val (.ref a1), .unset] [.null])) _
    refine XS.ifnonnullNo X2.here hx rfl (hb hby d5_4) rfl ?_
    show Steps p.tables e below (T2.setTop (mkF m 7 #[.val (.ref a1), .unset] [])) _
    refine XS.aloadN X2.here hx rfl (hb hby d5_7) rfl rfl ?_
    show Steps p.tables e below (T2.setTop (mkF m 8 #[.val (.ref a1), .unset] [(.ref a1)])) _
    refine st4 _ ?_
    show Steps p.tables e below (T4.setTop (mkF m 11 #[.val (.ref a1), .unset] [(.int w_rollbackOnly_a1)])) _
    refine XS.ifYes X4.here hx rfl (pc0 := 11) (pc' := 21) rfl (hb hby d5_11) rfl ((if0 _ _).trans (feq hc11).2) (by decide) (by decide) ?_
    show Steps p.tables e below (T4.setTop (mkF m 21 #[.val (.ref a1), .unset] [])) _
    refine XS.iconst X4.here hx rfl (hb hby d5_21) ?_
    show Steps p.tables e below (T4.setTop (mkF m 22 #[.val (.ref a1), .unset] [(.int (1 : Int32))])) _
    refine XS.goto X4.here hx rfl (pc0 := 22) (pc' := 26) rfl (hb hby d5_22) (by decide) (by decide) ?_
    show Steps p.tables e below (T4.setTop (mkF m 26 #[.val (.ref a1), .unset] [(.int (1 : Int32))])) _
    refine XS.istoreN X4.here hx rfl (hb hby d5_26) rfl (l' := #[.val (.ref a1), .val (.int (1 : Int32))]) rfl ?_
    show Steps p.tables e below (T4.setTop (mkF m 27 #[.val (.ref a1), .val (.int (1 : Int32))] [])) _
    refine XS.goto X4.here hx rfl (pc0 := 27) (pc' := 38) rfl (hb hby d5_27) (by decide) (by decide) ?_
    show Steps p.tables e below (T4.setTop (mkF m 38 #[.val (.ref a1), .val (.int (1 : Int32))] [])) _
    refine XS.iloadN X4.here hx rfl (hb hby d5_38) rfl ?_
    show Steps p.tables e below (T4.setTop (mkF m 39 #[.val (.ref a1), .val (.int (1 : Int32))] [(.int (1 : Int32))])) _
    exact retN X4 hx (t := .boolean) Bd.returns (by simp) (hb hby d5_39) hr
  · show Q5 Z a1 w_rollbackOnly_a1 w_failedByParticipant_a1 h0 n0 _ T4.heap _
    rw [e4]
    exact ⟨(by unfold own_f5; rw [if_neg hc11]), N0, rfl⟩
set_option maxRecDepth 65536 in
set_option maxHeartbeats 40000000 in
theorem rm5_fft (l : Launch) (Z : State) (a0 : Array Value) (hw : ∀ d ∈ tables_1, d.before a0 Z = true) (ws : List Jvm.Cond) (a1 : Addr) (w_rollbackOnly_a1 : Int32) (w_failedByParticipant_a1 : Int32) (h0 : Heap) (n0 : Nat) (Z0 : n0 ≤ h0.size) (F_joined_a1 : Fld Z h0 a1 "com/example/orderly_tx/orderlytx/UnitStatus" "joined" "Lcom/example/orderly_tx/orderlytx/UnitStatus;" .null) (F_rollbackOnly_a1 : Fld Z h0 a1 "com/example/orderly_tx/orderlytx/UnitStatus" "rollbackOnly" "Z" (.int w_rollbackOnly_a1)) (F_failedByParticipant_a1 : Fld Z h0 a1 "com/example/orderly_tx/orderlytx/UnitStatus" "failedByParticipant" "Z" (.int w_failedByParticipant_a1)) (hc11 : w_rollbackOnly_a1 = (0 : Int32)) (hc18 : w_failedByParticipant_a1 = (0 : Int32)) :
    MetFree l (⟨"com/example/orderly_tx/orderlytx/UnitStatus", "isRollbackOnly", "()Z"⟩ : MethodName) (head1 (Jvm.Cond.code (⟨"com/example/orderly_tx/orderlytx/UnitStatus", "isRollbackOnly", "()Z"⟩ : MethodName) prog_46_method_6_code 2 (some .boolean) :: ws) ({ frames := 0, cells := 0, slots := 0, locals := 0 } : Room)) (fun a U => a = #[(.ref a1)] ∧ Z.Warmed39 U.vm ∧ U.heap = h0) (fun _ _ _ _ _ => True) (fun _ U o U' => ∃ v L, o = .returned v ∧ Q5 Z a1 w_rollbackOnly_a1 w_failedByParticipant_a1 h0 n0 v U'.heap L ∧ FrameEnd U o U' L ({ frames := 0, cells := 0, slots := 0, locals := 0 } : Room).cells ({ frames := 0, cells := 0, slots := 0, locals := 0 } : Room).slots) := by
  refine MetFree.of_bodySF (plainFor_of_name pn_5) hisR ?_
  intro p e s m args below meth c s₁ Bd hml0 hP hK
  obtain ⟨rfl, hZ, hh⟩ := hP
  have hx := Bd.exec
  have hby := Bd.bytes
  have hml : c.maxLocals = 2 := hml0
  have hown : s.vm.findClass "com/example/orderly_tx/orderlytx/UnitStatus" = some m.cls := findClass_of_methodNamed Bd.named
  have hnm := (name_of_methodNamed Bd.named Bd.method).1
  have X0 : Stand p l e ({ frames := 0, cells := 0, slots := 0, locals := 0 } : Room) s m #[(.ref a1)] below meth c s₁ [] 0 0 := Stand.of_body Bd
  have e0 : s₁.heap = h0 := by rw [← hh, Bd.state]; rfl
  have N0 := Fr.nil n0
  have pre0 : ∀ t, Steps p.tables e below (s₁.setTop (mkF m 0 #[.val (.ref a1), .unset] [])) t → Steps p.tables e below (s₁.setTop (entryFrame m #[(.ref a1)] 2)) t := fun t k => castTop (ef_5 m a1) k
  -- 3. LAWS
  obtain ⟨T2, X2, e2, st2⟩ := getF X0 hx hZ hown (host := "") (Or.inl (hw _ (List.mem_of_getElem? (i := 12) rfl))) Via.refl e0 F_joined_a1 (g := (mkF m 1 #[.val (.ref a1), .unset] [(.ref a1)])) rfl rfl (hb hby d5_1)
  obtain ⟨T4, X4, e4, st4⟩ := getF X2 hx hZ hown (host := "") (Or.inl (hw _ (List.mem_of_getElem? (i := 27) rfl))) Via.refl e2 F_rollbackOnly_a1 (g := (mkF m 8 #[.val (.ref a1), .unset] [(.ref a1)])) rfl rfl (hb hby d5_8)
  obtain ⟨T6, X6, e6, st6⟩ := getF X4 hx hZ hown (host := "") (Or.inl (hw _ (List.mem_of_getElem? (i := 29) rfl))) Via.refl e4 F_failedByParticipant_a1 (g := (mkF m 15 #[.val (.ref a1), .unset] [(.ref a1)])) rfl rfl (hb hby d5_15)
  obtain ⟨fs, hr, hrun, hended, hW, hsame⟩ := X6.leave (v := some (.int (0 : Int32))) (fun h => by rw [Bd.returns] at h; cases h) (BodyLoose.notSynchronized Bd)
  refine ⟨_, _, pre0 _ ?_, hrun, hended, _, _, rfl, ?_, ⟨_, rfl⟩, hW, hsame.mono (by decide) (by decide)⟩
  -- 4. STEPS
  · show Steps p.tables e below (s₁.setTop (mkF m 0 #[.val (.ref a1), .unset] [])) _
    refine XS.aloadN X0.here hx rfl (hb hby d5_0) rfl rfl ?_
    show Steps p.tables e below (s₁.setTop (mkF m 1 #[.val (.ref a1), .unset] [(.ref a1)])) _
    refine st2 _ ?_
    show Steps p.tables e below (T2.setTop (mkF m 4 #[.val (.ref a1), .unset] [.null])) _
    refine XS.ifnonnullNo X2.here hx rfl (hb hby d5_4) rfl ?_
    show Steps p.tables e below (T2.setTop (mkF m 7 #[.val (.ref a1), .unset] [])) _
    refine XS.aloadN X2.here hx rfl (hb hby d5_7) rfl rfl ?_
    show Steps p.tables e below (T2.setTop (mkF m 8 #[.val (.ref a1), .unset] [(.ref a1)])) _
    refine st4 _ ?_
    show Steps p.tables e below (T4.setTop (mkF m 11 #[.val (.ref a1), .unset] [(.int w_rollbackOnly_a1)])) _
    refine XS.ifNo X4.here hx rfl (hb hby d5_11) rfl ((if0 _ _).trans (teq hc11).2) ?_
    show Steps p.tables e below (T4.setTop (mkF m 14 #[.val (.ref a1), .unset] [])) _
    refine XS.aloadN X4.here hx rfl (hb hby d5_14) rfl rfl ?_
    show Steps p.tables e below (T4.setTop (mkF m 15 #[.val (.ref a1), .unset] [(.ref a1)])) _
    refine st6 _ ?_
    show Steps p.tables e below (T6.setTop (mkF m 18 #[.val (.ref a1), .unset] [(.int w_failedByParticipant_a1)])) _
    refine XS.ifYes X6.here hx rfl (pc0 := 18) (pc' := 25) rfl (hb hby d5_18) rfl ((if0 _ _).trans (teq hc18).1) (by decide) (by decide) ?_
    show Steps p.tables e below (T6.setTop (mkF m 25 #[.val (.ref a1), .unset] [])) _
    refine XS.iconst X6.here hx rfl (hb hby d5_25) ?_
    show Steps p.tables e below (T6.setTop (mkF m 26 #[.val (.ref a1), .unset] [(.int (0 : Int32))])) _
    refine XS.istoreN X6.here hx rfl (hb hby d5_26) rfl (l' := #[.val (.ref a1), .val (.int (0 : Int32))]) rfl ?_
    show Steps p.tables e below (T6.setTop (mkF m 27 #[.val (.ref a1), .val (.int (0 : Int32))] [])) _
    refine XS.goto X6.here hx rfl (pc0 := 27) (pc' := 38) rfl (hb hby d5_27) (by decide) (by decide) ?_
    show Steps p.tables e below (T6.setTop (mkF m 38 #[.val (.ref a1), .val (.int (0 : Int32))] [])) _
    refine XS.iloadN X6.here hx rfl (hb hby d5_38) rfl ?_
    show Steps p.tables e below (T6.setTop (mkF m 39 #[.val (.ref a1), .val (.int (0 : Int32))] [(.int (0 : Int32))])) _
    exact retN X6 hx (t := .boolean) Bd.returns (by simp) (hb hby d5_39) hr
  · show Q5 Z a1 w_rollbackOnly_a1 w_failedByParticipant_a1 h0 n0 _ T6.heap _
    rw [e6]
    exact ⟨(by unfold own_f5; rw [if_pos hc11, if_pos hc18]), N0, rfl⟩
set_option maxRecDepth 65536 in
set_option maxHeartbeats 40000000 in
theorem rm5_fff (l : Launch) (Z : State) (a0 : Array Value) (hw : ∀ d ∈ tables_1, d.before a0 Z = true) (ws : List Jvm.Cond) (a1 : Addr) (w_rollbackOnly_a1 : Int32) (w_failedByParticipant_a1 : Int32) (h0 : Heap) (n0 : Nat) (Z0 : n0 ≤ h0.size) (F_joined_a1 : Fld Z h0 a1 "com/example/orderly_tx/orderlytx/UnitStatus" "joined" "Lcom/example/orderly_tx/orderlytx/UnitStatus;" .null) (F_rollbackOnly_a1 : Fld Z h0 a1 "com/example/orderly_tx/orderlytx/UnitStatus" "rollbackOnly" "Z" (.int w_rollbackOnly_a1)) (F_failedByParticipant_a1 : Fld Z h0 a1 "com/example/orderly_tx/orderlytx/UnitStatus" "failedByParticipant" "Z" (.int w_failedByParticipant_a1)) (hc11 : w_rollbackOnly_a1 = (0 : Int32)) (hc18 : ¬ (w_failedByParticipant_a1 = (0 : Int32))) :
    MetFree l (⟨"com/example/orderly_tx/orderlytx/UnitStatus", "isRollbackOnly", "()Z"⟩ : MethodName) (head1 (Jvm.Cond.code (⟨"com/example/orderly_tx/orderlytx/UnitStatus", "isRollbackOnly", "()Z"⟩ : MethodName) prog_46_method_6_code 2 (some .boolean) :: ws) ({ frames := 0, cells := 0, slots := 0, locals := 0 } : Room)) (fun a U => a = #[(.ref a1)] ∧ Z.Warmed39 U.vm ∧ U.heap = h0) (fun _ _ _ _ _ => True) (fun _ U o U' => ∃ v L, o = .returned v ∧ Q5 Z a1 w_rollbackOnly_a1 w_failedByParticipant_a1 h0 n0 v U'.heap L ∧ FrameEnd U o U' L ({ frames := 0, cells := 0, slots := 0, locals := 0 } : Room).cells ({ frames := 0, cells := 0, slots := 0, locals := 0 } : Room).slots) := by
  refine MetFree.of_bodySF (plainFor_of_name pn_5) hisR ?_
  intro p e s m args below meth c s₁ Bd hml0 hP hK
  obtain ⟨rfl, hZ, hh⟩ := hP
  have hx := Bd.exec
  have hby := Bd.bytes
  have hml : c.maxLocals = 2 := hml0
  have hown : s.vm.findClass "com/example/orderly_tx/orderlytx/UnitStatus" = some m.cls := findClass_of_methodNamed Bd.named
  have hnm := (name_of_methodNamed Bd.named Bd.method).1
  have X0 : Stand p l e ({ frames := 0, cells := 0, slots := 0, locals := 0 } : Room) s m #[(.ref a1)] below meth c s₁ [] 0 0 := Stand.of_body Bd
  have e0 : s₁.heap = h0 := by rw [← hh, Bd.state]; rfl
  have N0 := Fr.nil n0
  have pre0 : ∀ t, Steps p.tables e below (s₁.setTop (mkF m 0 #[.val (.ref a1), .unset] [])) t → Steps p.tables e below (s₁.setTop (entryFrame m #[(.ref a1)] 2)) t := fun t k => castTop (ef_5 m a1) k
  -- 3. LAWS
  obtain ⟨T2, X2, e2, st2⟩ := getF X0 hx hZ hown (host := "") (Or.inl (hw _ (List.mem_of_getElem? (i := 12) rfl))) Via.refl e0 F_joined_a1 (g := (mkF m 1 #[.val (.ref a1), .unset] [(.ref a1)])) rfl rfl (hb hby d5_1)
  obtain ⟨T4, X4, e4, st4⟩ := getF X2 hx hZ hown (host := "") (Or.inl (hw _ (List.mem_of_getElem? (i := 27) rfl))) Via.refl e2 F_rollbackOnly_a1 (g := (mkF m 8 #[.val (.ref a1), .unset] [(.ref a1)])) rfl rfl (hb hby d5_8)
  obtain ⟨T6, X6, e6, st6⟩ := getF X4 hx hZ hown (host := "") (Or.inl (hw _ (List.mem_of_getElem? (i := 29) rfl))) Via.refl e4 F_failedByParticipant_a1 (g := (mkF m 15 #[.val (.ref a1), .unset] [(.ref a1)])) rfl rfl (hb hby d5_15)
  obtain ⟨fs, hr, hrun, hended, hW, hsame⟩ := X6.leave (v := some (.int (1 : Int32))) (fun h => by rw [Bd.returns] at h; cases h) (BodyLoose.notSynchronized Bd)
  refine ⟨_, _, pre0 _ ?_, hrun, hended, _, _, rfl, ?_, ⟨_, rfl⟩, hW, hsame.mono (by decide) (by decide)⟩
  -- 4. STEPS
  · show Steps p.tables e below (s₁.setTop (mkF m 0 #[.val (.ref a1), .unset] [])) _
    refine XS.aloadN X0.here hx rfl (hb hby d5_0) rfl rfl ?_
    show Steps p.tables e below (s₁.setTop (mkF m 1 #[.val (.ref a1), .unset] [(.ref a1)])) _
    refine st2 _ ?_
    show Steps p.tables e below (T2.setTop (mkF m 4 #[.val (.ref a1), .unset] [.null])) _
    refine XS.ifnonnullNo X2.here hx rfl (hb hby d5_4) rfl ?_
    show Steps p.tables e below (T2.setTop (mkF m 7 #[.val (.ref a1), .unset] [])) _
    refine XS.aloadN X2.here hx rfl (hb hby d5_7) rfl rfl ?_
    show Steps p.tables e below (T2.setTop (mkF m 8 #[.val (.ref a1), .unset] [(.ref a1)])) _
    refine st4 _ ?_
    show Steps p.tables e below (T4.setTop (mkF m 11 #[.val (.ref a1), .unset] [(.int w_rollbackOnly_a1)])) _
    refine XS.ifNo X4.here hx rfl (hb hby d5_11) rfl ((if0 _ _).trans (teq hc11).2) ?_
    show Steps p.tables e below (T4.setTop (mkF m 14 #[.val (.ref a1), .unset] [])) _
    refine XS.aloadN X4.here hx rfl (hb hby d5_14) rfl rfl ?_
    show Steps p.tables e below (T4.setTop (mkF m 15 #[.val (.ref a1), .unset] [(.ref a1)])) _
    refine st6 _ ?_
    show Steps p.tables e below (T6.setTop (mkF m 18 #[.val (.ref a1), .unset] [(.int w_failedByParticipant_a1)])) _
    refine XS.ifNo X6.here hx rfl (hb hby d5_18) rfl ((if0 _ _).trans (feq hc18).1) ?_
    show Steps p.tables e below (T6.setTop (mkF m 21 #[.val (.ref a1), .unset] [])) _
    refine XS.iconst X6.here hx rfl (hb hby d5_21) ?_
    show Steps p.tables e below (T6.setTop (mkF m 22 #[.val (.ref a1), .unset] [(.int (1 : Int32))])) _
    refine XS.goto X6.here hx rfl (pc0 := 22) (pc' := 26) rfl (hb hby d5_22) (by decide) (by decide) ?_
    show Steps p.tables e below (T6.setTop (mkF m 26 #[.val (.ref a1), .unset] [(.int (1 : Int32))])) _
    refine XS.istoreN X6.here hx rfl (hb hby d5_26) rfl (l' := #[.val (.ref a1), .val (.int (1 : Int32))]) rfl ?_
    show Steps p.tables e below (T6.setTop (mkF m 27 #[.val (.ref a1), .val (.int (1 : Int32))] [])) _
    refine XS.goto X6.here hx rfl (pc0 := 27) (pc' := 38) rfl (hb hby d5_27) (by decide) (by decide) ?_
    show Steps p.tables e below (T6.setTop (mkF m 38 #[.val (.ref a1), .val (.int (1 : Int32))] [])) _
    refine XS.iloadN X6.here hx rfl (hb hby d5_38) rfl ?_
    show Steps p.tables e below (T6.setTop (mkF m 39 #[.val (.ref a1), .val (.int (1 : Int32))] [(.int (1 : Int32))])) _
    exact retN X6 hx (t := .boolean) Bd.returns (by simp) (hb hby d5_39) hr
  · show Q5 Z a1 w_rollbackOnly_a1 w_failedByParticipant_a1 h0 n0 _ T6.heap _
    rw [e6]
    exact ⟨(by unfold own_f5; rw [if_pos hc11, if_neg hc18]), N0, rfl⟩
set_option maxRecDepth 65536 in
set_option maxHeartbeats 40000000 in
theorem rm5 (l : Launch) (Z : State) (a0 : Array Value) (hw : ∀ d ∈ tables_1, d.before a0 Z = true) (ws : List Jvm.Cond) (a1 : Addr) (w_rollbackOnly_a1 : Int32) (w_failedByParticipant_a1 : Int32) (h0 : Heap) (n0 : Nat) (Z0 : n0 ≤ h0.size) (F_joined_a1 : Fld Z h0 a1 "com/example/orderly_tx/orderlytx/UnitStatus" "joined" "Lcom/example/orderly_tx/orderlytx/UnitStatus;" .null) (F_rollbackOnly_a1 : Fld Z h0 a1 "com/example/orderly_tx/orderlytx/UnitStatus" "rollbackOnly" "Z" (.int w_rollbackOnly_a1)) (F_failedByParticipant_a1 : Fld Z h0 a1 "com/example/orderly_tx/orderlytx/UnitStatus" "failedByParticipant" "Z" (.int w_failedByParticipant_a1)) :
    MetFree l (⟨"com/example/orderly_tx/orderlytx/UnitStatus", "isRollbackOnly", "()Z"⟩ : MethodName) (head1 (Jvm.Cond.code (⟨"com/example/orderly_tx/orderlytx/UnitStatus", "isRollbackOnly", "()Z"⟩ : MethodName) prog_46_method_6_code 2 (some .boolean) :: ws) ({ frames := 0, cells := 0, slots := 0, locals := 0 } : Room)) (fun a U => a = #[(.ref a1)] ∧ Z.Warmed39 U.vm ∧ U.heap = h0) (fun _ _ _ _ _ => True) (fun _ U o U' => ∃ v L, o = .returned v ∧ Q5 Z a1 w_rollbackOnly_a1 w_failedByParticipant_a1 h0 n0 v U'.heap L ∧ FrameEnd U o U' L ({ frames := 0, cells := 0, slots := 0, locals := 0 } : Room).cells ({ frames := 0, cells := 0, slots := 0, locals := 0 } : Room).slots) := by
  by_cases hc11 : w_rollbackOnly_a1 = (0 : Int32)
  · by_cases hc18 : w_failedByParticipant_a1 = (0 : Int32)
    · exact rm5_fft l Z a0 hw ws a1 w_rollbackOnly_a1 w_failedByParticipant_a1 h0 n0 Z0 F_joined_a1 F_rollbackOnly_a1 F_failedByParticipant_a1 hc11 hc18
    · exact rm5_fff l Z a0 hw ws a1 w_rollbackOnly_a1 w_failedByParticipant_a1 h0 n0 Z0 F_joined_a1 F_rollbackOnly_a1 F_failedByParticipant_a1 hc11 hc18
  · exact rm5_ft l Z a0 hw ws a1 w_rollbackOnly_a1 w_failedByParticipant_a1 h0 n0 Z0 F_joined_a1 F_rollbackOnly_a1 F_failedByParticipant_a1 hc11
theorem own_n5 (r f : Int32) : nar .boolean (own_f5 r f) = own_f5 r f := by unfold own_f5; split <;> (try split) <;> decide
theorem d5_30 : decode prog_46_method_6_code 30 = .ok (.aload_n 0, 1) := by decide +kernel
theorem d5_31 : decode prog_46_method_6_code 31 = .ok (.getfield 12, 3) := by decide +kernel
theorem d5_34 : decode prog_46_method_6_code 34 = .ok (.invokevirtual 34, 3) := by decide +kernel
theorem d5_37 : decode prog_46_method_6_code 37 = .ok (.istore_n 1, 1) := by decide +kernel
theorem pd_5_3 : parseMethodDescriptor "()Z" = some ⟨[], some .boolean⟩ := by decide +kernel
theorem ef_5p (m : MethodId) (x0 : Addr) : entryFrame m #[(.ref x0)] 2 = mkF m 0 #[.val (.ref x0), .unset] [] := by first | (simp [entryFrame, mkF, argsToLocals, Value.category]; done) | rfl
def Q5p (Z : State) (a1 : Addr) (w_joined_a1 : Addr) (r : Int32) (f : Int32) (h0 : Heap) (n0 : Nat) (v : Option Value) (h : Heap) (L : List Loc) : Prop := v = some (.int (own_f5 r f)) ∧ Fr n0 L ∧ h = h0
set_option maxRecDepth 65536 in
set_option maxHeartbeats 40000000 in
theorem rm5p (l : Launch) (Z : State) (a0 : Array Value) (hw : ∀ d ∈ tables_1, d.before a0 Z = true) (ws : List Jvm.Cond) (a1 : Addr) (w_joined_a1 : Addr) (r : Int32) (f : Int32) (h0 : Heap) (n0 : Nat) (Z0 : n0 ≤ h0.size) (F_joined_a1 : Fld Z h0 a1 "com/example/orderly_tx/orderlytx/UnitStatus" "joined" "Lcom/example/orderly_tx/orderlytx/UnitStatus;" (.ref w_joined_a1)) (E_w2 : Exa Z h0 w_joined_a1 "com/example/orderly_tx/orderlytx/UnitStatus") (Fj : Fld Z h0 w_joined_a1 "com/example/orderly_tx/orderlytx/UnitStatus" "joined" "Lcom/example/orderly_tx/orderlytx/UnitStatus;" .null) (Fro : Fld Z h0 w_joined_a1 "com/example/orderly_tx/orderlytx/UnitStatus" "rollbackOnly" "Z" (.int r)) (Ff : Fld Z h0 w_joined_a1 "com/example/orderly_tx/orderlytx/UnitStatus" "failedByParticipant" "Z" (.int f)) :
    MetFree l (⟨"com/example/orderly_tx/orderlytx/UnitStatus", "isRollbackOnly", "()Z"⟩ : MethodName) (head1 (Jvm.Cond.code (⟨"com/example/orderly_tx/orderlytx/UnitStatus", "isRollbackOnly", "()Z"⟩ : MethodName) prog_46_method_6_code 2 (some .boolean) :: ws) ({ frames := 1, cells := 0, slots := 0, locals := 13 } : Room)) (fun a U => a = #[(.ref a1)] ∧ Z.Warmed39 U.vm ∧ U.heap = h0) (fun _ _ _ _ _ => True) (fun _ U o U' => ∃ v L, o = .returned v ∧ Q5p Z a1 w_joined_a1 r f h0 n0 v U'.heap L ∧ FrameEnd U o U' L ({ frames := 1, cells := 0, slots := 0, locals := 13 } : Room).cells ({ frames := 1, cells := 0, slots := 0, locals := 13 } : Room).slots) := by
  refine MetFree.of_bodySF (plainFor_of_name pn_5) hisR ?_
  intro p e s m args below meth c s₁ Bd hml0 hP hK
  obtain ⟨rfl, hZ, hh⟩ := hP
  have hx := Bd.exec
  have hby := Bd.bytes
  have hml : c.maxLocals = 2 := hml0
  have hown : s.vm.findClass "com/example/orderly_tx/orderlytx/UnitStatus" = some m.cls := findClass_of_methodNamed Bd.named
  have hnm := (name_of_methodNamed Bd.named Bd.method).1
  have X0 : Stand p l e ({ frames := 1, cells := 0, slots := 0, locals := 13 } : Room) s m #[(.ref a1)] below meth c s₁ [] 0 0 := Stand.of_body Bd
  have e0 : s₁.heap = h0 := by rw [← hh, Bd.state]; rfl
  have N0 := Fr.nil n0
  have pre0 : ∀ t, Steps p.tables e below (s₁.setTop (mkF m 0 #[.val (.ref a1), .unset] [])) t → Steps p.tables e below (s₁.setTop (entryFrame m #[(.ref a1)] 2)) t := fun t k => castTop (ef_5p m a1) k
  -- 3. LAWS
  obtain ⟨T3, X3, e3, st3⟩ := getF X0 hx hZ hown (host := "") (Or.inl (hw _ (List.mem_of_getElem? (i := 12) rfl))) Via.refl e0 F_joined_a1 (g := (mkF m 1 #[.val (.ref a1), .unset] [(.ref a1)])) rfl rfl (hb hby d5_1)
  obtain ⟨T4, X4, e4, st4⟩ := getF X3 hx hZ hown (host := "") (Or.inl (hw _ (List.mem_of_getElem? (i := 12) rfl))) Via.refl e3 F_joined_a1 (g := (mkF m 31 #[.val (.ref a1), .unset] [(.ref a1)])) rfl rfl (hb hby d5_31)
  -- pc 34: com/example/orderly_tx/orderlytx/UnitStatus.isRollbackOnly by the contract of the body that the receiver's class selects, rm5
  obtain ⟨cq5, kq5, q5a, q5b, q5c⟩ := isOf hZ e4 E_w2
  obtain ⟨_, _, ⟨T5, L5, k5, n5⟩, -, X5, ⟨Lc5, hQ5, l5, y5, z5⟩, st5⟩ := X4.virtualBack hx (y := (⟨"com/example/orderly_tx/orderlytx/UnitStatus", "isRollbackOnly", "()Z"⟩ : MethodName)) (z := (⟨"com/example/orderly_tx/orderlytx/UnitStatus", "isRollbackOnly", "()Z"⟩ : MethodName)) hown (mvT hZ (hw _ (List.mem_of_getElem? (i := 31) rfl))) (mvT hZ (hw _ (List.mem_of_getElem? (i := 23) rfl))) (notFace_of_selects (args := #[]) (mvT hZ (hw _ (List.mem_of_getElem? (i := 25) rfl)))) (mvT hZ (hw _ (List.mem_of_getElem? (i := 25) rfl))) (mvT hZ (hw _ (List.mem_of_getElem? (i := 24) rfl))) (by decide) (backOf (W := 0) (rm5 l Z a0 hw [] w_joined_a1 r f h0 n0 Z0 Fj Fro Ff) hZ (hw _ (List.mem_of_getElem? (i := 26) rfl)) (hw _ (List.mem_of_getElem? (i := 2) rfl)) (by decide) (by decide)) q5a q5c (g := (mkF m 34 #[.val (.ref a1), .unset] [(.ref w_joined_a1)])) rfl (by rw [hml]; rfl) (Steps.refl _) (argsL := []) (rest := []) (lenOf pd_5_3 rfl) rfl (by show 2 * 0 + _ ≤ _; exact Nat.le_of_eq rfl) (hb hby d5_34) (fun _ _ => ⟨rfl, e4, (by decide : 0 + 0 ≤ _), (by decide : 0 + 0 ≤ _)⟩)
  dsimp only [Pt.U, Pt.locs, Pt.cells, Pt.slots] at X5 l5 y5 z5 st5 hQ5
  subst l5 y5 z5
  obtain ⟨rfl, N5q, e5q⟩ := hQ5
  have N5 := Fr.app N0 N5q
  have K5q : Keep h0 T5.heap [] := own_keep e5q
  have KH5 : Keep h0 T5.heap [] := (Keep.refl h0 []).trans K5q own_ws0
  have eh5 : T5.heap = h0 := by rw [e5q]
  obtain ⟨fs, hr, hrun, hended, hW, hsame⟩ := X5.leave (v := some (.int (own_f5 r f))) (fun h => by rw [Bd.returns] at h; cases h) (BodyLoose.notSynchronized Bd)
  refine ⟨_, _, pre0 _ ?_, hrun, hended, _, _, rfl, ?_, ⟨_, rfl⟩, hW, hsame.mono (by decide) (by decide)⟩
  -- 4. STEPS
  · show Steps p.tables e below (s₁.setTop (mkF m 0 #[.val (.ref a1), .unset] [])) _
    refine XS.aloadN X0.here hx rfl (hb hby d5_0) rfl rfl ?_
    show Steps p.tables e below (s₁.setTop (mkF m 1 #[.val (.ref a1), .unset] [(.ref a1)])) _
    refine st3 _ ?_
    show Steps p.tables e below (T3.setTop (mkF m 4 #[.val (.ref a1), .unset] [(.ref w_joined_a1)])) _
    refine XS.ifnonnullYes X3.here hx rfl (pc0 := 4) (pc' := 30) rfl (hb hby d5_4) rfl (by decide) (by decide) ?_
    show Steps p.tables e below (T3.setTop (mkF m 30 #[.val (.ref a1), .unset] [])) _
    refine XS.aloadN X3.here hx rfl (hb hby d5_30) rfl rfl ?_
    show Steps p.tables e below (T3.setTop (mkF m 31 #[.val (.ref a1), .unset] [(.ref a1)])) _
    refine st4 _ ?_
    show Steps p.tables e below (T4.setTop (mkF m 34 #[.val (.ref a1), .unset] [(.ref w_joined_a1)])) _
    refine st5.trans ?_
    show Steps p.tables e below (T5.setTop (mkF m 37 #[.val (.ref a1), .unset] [(.int (own_f5 r f))])) _
    refine XS.istoreN X5.here hx rfl (hb hby d5_37) rfl (l' := #[.val (.ref a1), .val (.int (own_f5 r f))]) rfl ?_
    show Steps p.tables e below (T5.setTop (mkF m 38 #[.val (.ref a1), .val (.int (own_f5 r f))] [])) _
    refine XS.iloadN X5.here hx rfl (hb hby d5_38) rfl ?_
    show Steps p.tables e below (T5.setTop (mkF m 39 #[.val (.ref a1), .val (.int (own_f5 r f))] [(.int (own_f5 r f))])) _
    exact retN X5 hx (t := .boolean) Bd.returns (by simp) (hb hby d5_39) (by rw [own_n5]; exact hr)
  · show Q5p Z a1 w_joined_a1 r f h0 n0 _ T5.heap _
    exact ⟨rfl, N5, eh5⟩
theorem d7_0 : decode prog_46_method_11_code 0 = .ok (.aload_n 0, 1) := by decide +kernel
theorem d7_1 : decode prog_46_method_11_code 1 = .ok (.iconst 1, 1) := by decide +kernel
theorem d7_2 : decode prog_46_method_11_code 2 = .ok (.putfield 31, 3) := by decide +kernel
theorem d7_5 : decode prog_46_method_11_code 5 = .ok (.aload_n 0, 1) := by decide +kernel
theorem d7_6 : decode prog_46_method_11_code 6 = .ok (.getfield 66, 3) := by decide +kernel
theorem d7_9 : decode prog_46_method_11_code 9 = .ok (.ifnonnull 8, 3) := by decide +kernel
theorem d7_12 : decode prog_46_method_11_code 12 = .ok (.aload_n 0, 1) := by decide +kernel
theorem d7_13 : decode prog_46_method_11_code 13 = .ok (.aload_n 1, 1) := by decide +kernel
theorem d7_14 : decode prog_46_method_11_code 14 = .ok (.putfield 66, 3) := by decide +kernel
theorem d7_17 : decode prog_46_method_11_code 17 = .ok (.return_, 1) := by decide +kernel
theorem pn_7 : plainName "com/example/orderly_tx/orderlytx/UnitStatus" = true := by first | (simp [plainName, overriddenIn]; done) | decide +kernel
theorem ef_7 (m : MethodId) (x0 : Addr) : entryFrame m #[(.ref x0), .null] 2 = mkF m 0 #[.val (.ref x0), .val .null] [] := by first | (simp [entryFrame, mkF, argsToLocals, Value.category]; done) | rfl
def Q7 (Z : State) (a1 : Addr) (u_failedByParticipant_a1 : Value) (pa : Addr) (r : Int32) (f : Int32) (h0 : Heap) (n0 : Nat) (v : Option Value) (h : Heap) (L : List Loc) : Prop := v = none ∧ Fr n0 L ∧ Keep h0 h [a1] ∧ own_St Z h a1 pa r (1 : Int32)
set_option maxRecDepth 65536 in
set_option maxHeartbeats 40000000 in
theorem rm7 (l : Launch) (Z : State) (a0 : Array Value) (hw : ∀ d ∈ tables_1, d.before a0 Z = true) (ws : List Jvm.Cond) (a1 : Addr) (u_failedByParticipant_a1 : Value) (pa : Addr) (r : Int32) (f : Int32) (h0 : Heap) (n0 : Nat) (Z0 : n0 ≤ h0.size) (Hst : own_St Z h0 a1 pa r f) (g_a1 : n0 ≤ a1) (nep : pa ≠ a1) :
    MetFree l (⟨"com/example/orderly_tx/orderlytx/UnitStatus", "failByParticipant", "(Ljava/lang/Throwable;)V"⟩ : MethodName) (head1 (Jvm.Cond.code (⟨"com/example/orderly_tx/orderlytx/UnitStatus", "failByParticipant", "(Ljava/lang/Throwable;)V"⟩ : MethodName) prog_46_method_11_code 2 none :: ws) ({ frames := 0, cells := 0, slots := 0, locals := 0 } : Room)) (fun a U => a = #[(.ref a1), .null] ∧ Z.Warmed39 U.vm ∧ U.heap = h0) (fun _ _ _ _ _ => True) (fun _ U o U' => ∃ v L, o = .returned v ∧ Q7 Z a1 u_failedByParticipant_a1 pa r f h0 n0 v U'.heap L ∧ FrameEnd U o U' L ({ frames := 0, cells := 0, slots := 0, locals := 0 } : Room).cells ({ frames := 0, cells := 0, slots := 0, locals := 0 } : Room).slots) := by
  refine MetFree.of_bodySF (plainFor_of_name pn_7) hisR ?_
  intro p e s m args below meth c s₁ Bd hml0 hP hK
  obtain ⟨rfl, hZ, hh⟩ := hP
  have hx := Bd.exec
  have hby := Bd.bytes
  have hml : c.maxLocals = 2 := hml0
  have hown : s.vm.findClass "com/example/orderly_tx/orderlytx/UnitStatus" = some m.cls := findClass_of_methodNamed Bd.named
  have hnm := (name_of_methodNamed Bd.named Bd.method).1
  have X0 : Stand p l e ({ frames := 0, cells := 0, slots := 0, locals := 0 } : Room) s m #[(.ref a1), .null] below meth c s₁ [] 0 0 := Stand.of_body Bd
  have e0 : s₁.heap = h0 := by rw [← hh, Bd.state]; rfl
  have N0 := Fr.nil n0
  obtain ⟨E_a1, Fj0, F_rollbackOnly_a1, F_failedByParticipant_a1, F_participantFailure_a1, E_pa, Fpj⟩ := Hst
  have pre0 : ∀ t, Steps p.tables e below (s₁.setTop (mkF m 0 #[.val (.ref a1), .val .null] [])) t → Steps p.tables e below (s₁.setTop (entryFrame m #[(.ref a1), .null] 2)) t := fun t k => castTop (ef_7 m a1) k
  -- 3. LAWS
  obtain ⟨T2, h2, X2, e2, W2, st2⟩ := putFN X0 hx hZ hown (hw _ (List.mem_of_getElem? (i := 29) rfl)) Via.refl e0 F_failedByParticipant_a1 E_a1 (Or.inl (hw _ (List.mem_of_getElem? (i := 30) rfl))) (hw _ (List.mem_of_getElem? (i := 1) rfl)) (ty := .boolean) (v' := (.int (1 : Int32))) (by decide) rfl (by decide) (g := (mkF m 2 #[.val (.ref a1), .val .null] [(.int (1 : Int32)), (.ref a1)])) rfl rfl (hb hby d7_2)
  have Fw2 := F_failedByParticipant_a1.same W2      -- the field now holds (.int (1 : Int32))
  have K2 : Keep h0 h2 [a1] := (Keep.refl h0 [a1]).wr W2 (Or.inl (List.mem_of_getElem? (i := 0) rfl))
  have N2 := Fr.snoc X2 N0 g_a1
  obtain ⟨T3, X3, e3, st3⟩ := getF X2 hx hZ hown (host := "") (Or.inl (hw _ (List.mem_of_getElem? (i := 42) rfl))) Via.refl e2 (F_participantFailure_a1.other W2 (Or.inr (slot_ne (Or.inl (hw _ (List.mem_of_getElem? (i := 43) rfl))) (Or.inl (hw _ (List.mem_of_getElem? (i := 30) rfl))) (by decide) (t := (.object "java/lang/Throwable")) (t' := .boolean) (by decide) (by decide)))) (g := (mkF m 6 #[.val (.ref a1), .val .null] [(.ref a1)])) rfl rfl (hb hby d7_6)
  obtain ⟨T4, h4, X4, e4, W4, st4⟩ := putF X3 hx hZ hown (host := "") (Or.inl (hw _ (List.mem_of_getElem? (i := 42) rfl))) Via.refl e3 (F_participantFailure_a1.other W2 (Or.inr (slot_ne (Or.inl (hw _ (List.mem_of_getElem? (i := 43) rfl))) (Or.inl (hw _ (List.mem_of_getElem? (i := 30) rfl))) (by decide) (t := (.object "java/lang/Throwable")) (t' := .boolean) (by decide) (by decide)))) (E_a1.wr W2) (Or.inl (hw _ (List.mem_of_getElem? (i := 43) rfl))) (hw _ (List.mem_of_getElem? (i := 1) rfl)) (ty := (.object "java/lang/Throwable")) (by decide) rfl rfl (g := (mkF m 14 #[.val (.ref a1), .val .null] [.null, (.ref a1)])) rfl rfl (hb hby d7_14)
  have Fw4 := (F_participantFailure_a1.other W2 (Or.inr (slot_ne (Or.inl (hw _ (List.mem_of_getElem? (i := 43) rfl))) (Or.inl (hw _ (List.mem_of_getElem? (i := 30) rfl))) (by decide) (t := (.object "java/lang/Throwable")) (t' := .boolean) (by decide) (by decide)))).same W4      -- the field now holds .null
  have K4 : Keep h0 h4 [a1] := K2.wr W4 (Or.inl (List.mem_of_getElem? (i := 0) rfl))
  have N4 := Fr.snoc X4 N2 g_a1
  obtain ⟨fs, hr, hrun, hended, hW, hsame⟩ := X4.leave (v := none) (fun _ => rfl) (BodyLoose.notSynchronized Bd)
  refine ⟨_, _, pre0 _ ?_, hrun, hended, _, _, rfl, ?_, ⟨_, rfl⟩, hW, hsame.mono (by decide) (by decide)⟩
  -- 4. STEPS
  · show Steps p.tables e below (s₁.setTop (mkF m 0 #[.val (.ref a1), .val .null] [])) _
    refine XS.aloadN X0.here hx rfl (hb hby d7_0) rfl rfl ?_
    show Steps p.tables e below (s₁.setTop (mkF m 1 #[.val (.ref a1), .val .null] [(.ref a1)])) _
    refine XS.iconst X0.here hx rfl (hb hby d7_1) ?_
    show Steps p.tables e below (s₁.setTop (mkF m 2 #[.val (.ref a1), .val .null] [(.int (1 : Int32)), (.ref a1)])) _
    refine st2 _ ?_
    show Steps p.tables e below (T2.setTop (mkF m 5 #[.val (.ref a1), .val .null] [])) _
    refine XS.aloadN X2.here hx rfl (hb hby d7_5) rfl rfl ?_
    show Steps p.tables e below (T2.setTop (mkF m 6 #[.val (.ref a1), .val .null] [(.ref a1)])) _
    refine st3 _ ?_
    show Steps p.tables e below (T3.setTop (mkF m 9 #[.val (.ref a1), .val .null] [.null])) _
    refine XS.ifnonnullNo X3.here hx rfl (hb hby d7_9) rfl ?_
    show Steps p.tables e below (T3.setTop (mkF m 12 #[.val (.ref a1), .val .null] [])) _
    refine XS.aloadN X3.here hx rfl (hb hby d7_12) rfl rfl ?_
    show Steps p.tables e below (T3.setTop (mkF m 13 #[.val (.ref a1), .val .null] [(.ref a1)])) _
    refine XS.aloadN X3.here hx rfl (hb hby d7_13) rfl rfl ?_
    show Steps p.tables e below (T3.setTop (mkF m 14 #[.val (.ref a1), .val .null] [.null, (.ref a1)])) _
    refine st4 _ ?_
    show Steps p.tables e below (T4.setTop (mkF m 17 #[.val (.ref a1), .val .null] [])) _
    exact X4.returnOut hx Bd.returns (hb hby d7_17) hr
  · show Q7 Z a1 u_failedByParticipant_a1 pa r f h0 n0 _ T4.heap _
    rw [e4]
    exact ⟨rfl, N4, K4, ((E_a1.wr W2).wr W4), ((Fj0.other W2 (Or.inr (slot_ne (Or.inr (hw _ (List.mem_of_getElem? (i := 13) rfl))) (Or.inl (hw _ (List.mem_of_getElem? (i := 30) rfl))) (by decide) (t := (.object "com/example/orderly_tx/orderlytx/UnitStatus")) (t' := .boolean) (by decide) (by decide)))).other W4 (Or.inr (slot_ne (Or.inr (hw _ (List.mem_of_getElem? (i := 13) rfl))) (Or.inl (hw _ (List.mem_of_getElem? (i := 43) rfl))) (by decide) (t := (.object "com/example/orderly_tx/orderlytx/UnitStatus")) (t' := (.object "java/lang/Throwable")) (by decide) (by decide)))), ((F_rollbackOnly_a1.other W2 (Or.inr (slot_ne (Or.inl (hw _ (List.mem_of_getElem? (i := 28) rfl))) (Or.inl (hw _ (List.mem_of_getElem? (i := 30) rfl))) (by decide) (t := .boolean) (t' := .boolean) (by decide) (by decide)))).other W4 (Or.inr (slot_ne (Or.inl (hw _ (List.mem_of_getElem? (i := 28) rfl))) (Or.inl (hw _ (List.mem_of_getElem? (i := 43) rfl))) (by decide) (t := .boolean) (t' := (.object "java/lang/Throwable")) (by decide) (by decide)))), (Fw2.other W4 (Or.inr (slot_ne (Or.inl (hw _ (List.mem_of_getElem? (i := 30) rfl))) (Or.inl (hw _ (List.mem_of_getElem? (i := 43) rfl))) (by decide) (t := .boolean) (t' := (.object "java/lang/Throwable")) (by decide) (by decide)))), Fw4, ((E_pa.wr W2).wr W4), ((Fpj.other W2 (Or.inl nep)).other W4 (Or.inl nep))⟩
theorem d6_0 : decode prog_46_method_5_code 0 = .ok (.aload_n 0, 1) := by decide +kernel
theorem d6_1 : decode prog_46_method_5_code 1 = .ok (.getfield 12, 3) := by decide +kernel
theorem d6_4 : decode prog_46_method_5_code 4 = .ok (.ifnonnull 11, 3) := by decide +kernel
theorem d6_7 : decode prog_46_method_5_code 7 = .ok (.aload_n 0, 1) := by decide +kernel
theorem d6_8 : decode prog_46_method_5_code 8 = .ok (.iconst 1, 1) := by decide +kernel
theorem d6_9 : decode prog_46_method_5_code 9 = .ok (.putfield 24, 3) := by decide +kernel
theorem d6_12 : decode prog_46_method_5_code 12 = .ok (.goto 11, 3) := by decide +kernel
theorem d6_23 : decode prog_46_method_5_code 23 = .ok (.return_, 1) := by decide +kernel
theorem pn_6 : plainName "com/example/orderly_tx/orderlytx/UnitStatus" = true := by first | (simp [plainName, overriddenIn]; done) | decide +kernel
theorem ef_6s (m : MethodId) (x0 : Addr) : entryFrame m #[(.ref x0), .null] 2 = mkF m 0 #[.val (.ref x0), .val .null] [] := by first | (simp [entryFrame, mkF, argsToLocals, Value.category]; done) | rfl
def Q6s (Z : State) (a1 : Addr) (u_rollbackOnly_a1 : Value) (pa : Addr) (r : Int32) (f : Int32) (h0 : Heap) (n0 : Nat) (v : Option Value) (h : Heap) (L : List Loc) : Prop := v = none ∧ Fr n0 L ∧ Keep h0 h [a1] ∧ own_St Z h a1 pa (1 : Int32) f
set_option maxRecDepth 65536 in
set_option maxHeartbeats 40000000 in
theorem rm6s (l : Launch) (Z : State) (a0 : Array Value) (hw : ∀ d ∈ tables_1, d.before a0 Z = true) (ws : List Jvm.Cond) (a1 : Addr) (u_rollbackOnly_a1 : Value) (pa : Addr) (r : Int32) (f : Int32) (h0 : Heap) (n0 : Nat) (Z0 : n0 ≤ h0.size) (Hst : own_St Z h0 a1 pa r f) (g_a1 : n0 ≤ a1) (nep : pa ≠ a1) :
    MetFree l (⟨"com/example/orderly_tx/orderlytx/UnitStatus", "fail", "(Ljava/lang/Throwable;)V"⟩ : MethodName) (head1 (Jvm.Cond.code (⟨"com/example/orderly_tx/orderlytx/UnitStatus", "fail", "(Ljava/lang/Throwable;)V"⟩ : MethodName) prog_46_method_5_code 2 none :: ws) ({ frames := 0, cells := 0, slots := 0, locals := 0 } : Room)) (fun a U => a = #[(.ref a1), .null] ∧ Z.Warmed39 U.vm ∧ U.heap = h0) (fun _ _ _ _ _ => True) (fun _ U o U' => ∃ v L, o = .returned v ∧ Q6s Z a1 u_rollbackOnly_a1 pa r f h0 n0 v U'.heap L ∧ FrameEnd U o U' L ({ frames := 0, cells := 0, slots := 0, locals := 0 } : Room).cells ({ frames := 0, cells := 0, slots := 0, locals := 0 } : Room).slots) := by
  refine MetFree.of_bodySF (plainFor_of_name pn_6) hisR ?_
  intro p e s m args below meth c s₁ Bd hml0 hP hK
  obtain ⟨rfl, hZ, hh⟩ := hP
  have hx := Bd.exec
  have hby := Bd.bytes
  have hml : c.maxLocals = 2 := hml0
  have hown : s.vm.findClass "com/example/orderly_tx/orderlytx/UnitStatus" = some m.cls := findClass_of_methodNamed Bd.named
  have hnm := (name_of_methodNamed Bd.named Bd.method).1
  have X0 : Stand p l e ({ frames := 0, cells := 0, slots := 0, locals := 0 } : Room) s m #[(.ref a1), .null] below meth c s₁ [] 0 0 := Stand.of_body Bd
  have e0 : s₁.heap = h0 := by rw [← hh, Bd.state]; rfl
  have N0 := Fr.nil n0
  obtain ⟨E_a1, F_joined_a1, F_rollbackOnly_a1, F_failedByParticipant_a1, F_participantFailure_a1, E_pa, Fpj⟩ := Hst
  have pre0 : ∀ t, Steps p.tables e below (s₁.setTop (mkF m 0 #[.val (.ref a1), .val .null] [])) t → Steps p.tables e below (s₁.setTop (entryFrame m #[(.ref a1), .null] 2)) t := fun t k => castTop (ef_6s m a1) k
  -- 3. LAWS
  obtain ⟨T2, X2, e2, st2⟩ := getF X0 hx hZ hown (host := "") (Or.inl (hw _ (List.mem_of_getElem? (i := 12) rfl))) Via.refl e0 F_joined_a1 (g := (mkF m 1 #[.val (.ref a1), .val .null] [(.ref a1)])) rfl rfl (hb hby d6_1)
  obtain ⟨T3, h3, X3, e3, W3, st3⟩ := putFN X2 hx hZ hown (hw _ (List.mem_of_getElem? (i := 27) rfl)) Via.refl e2 F_rollbackOnly_a1 E_a1 (Or.inl (hw _ (List.mem_of_getElem? (i := 28) rfl))) (hw _ (List.mem_of_getElem? (i := 1) rfl)) (ty := .boolean) (v' := (.int (1 : Int32))) (by decide) rfl (by decide) (g := (mkF m 9 #[.val (.ref a1), .val .null] [(.int (1 : Int32)), (.ref a1)])) rfl rfl (hb hby d6_9)
  have Fw3 := F_rollbackOnly_a1.same W3      -- the field now holds (.int (1 : Int32))
  have K3 : Keep h0 h3 [a1] := (Keep.refl h0 [a1]).wr W3 (Or.inl (List.mem_of_getElem? (i := 0) rfl))
  have N3 := Fr.snoc X3 N0 g_a1
  obtain ⟨fs, hr, hrun, hended, hW, hsame⟩ := X3.leave (v := none) (fun _ => rfl) (BodyLoose.notSynchronized Bd)
  refine ⟨_, _, pre0 _ ?_, hrun, hended, _, _, rfl, ?_, ⟨_, rfl⟩, hW, hsame.mono (by decide) (by decide)⟩
  -- 4. STEPS
  · show Steps p.tables e below (s₁.setTop (mkF m 0 #[.val (.ref a1), .val .null] [])) _
    refine XS.aloadN X0.here hx rfl (hb hby d6_0) rfl rfl ?_
    show Steps p.tables e below (s₁.setTop (mkF m 1 #[.val (.ref a1), .val .null] [(.ref a1)])) _
    refine st2 _ ?_
    show Steps p.tables e below (T2.setTop (mkF m 4 #[.val (.ref a1), .val .null] [.null])) _
    refine XS.ifnonnullNo X2.here hx rfl (hb hby d6_4) rfl ?_
    show Steps p.tables e below (T2.setTop (mkF m 7 #[.val (.ref a1), .val .null] [])) _
    refine XS.aloadN X2.here hx rfl (hb hby d6_7) rfl rfl ?_
    show Steps p.tables e below (T2.setTop (mkF m 8 #[.val (.ref a1), .val .null] [(.ref a1)])) _
    refine XS.iconst X2.here hx rfl (hb hby d6_8) ?_
    show Steps p.tables e below (T2.setTop (mkF m 9 #[.val (.ref a1), .val .null] [(.int (1 : Int32)), (.ref a1)])) _
    refine st3 _ ?_
    show Steps p.tables e below (T3.setTop (mkF m 12 #[.val (.ref a1), .val .null] [])) _
    refine XS.goto X3.here hx rfl (pc0 := 12) (pc' := 23) rfl (hb hby d6_12) (by decide) (by decide) ?_
    show Steps p.tables e below (T3.setTop (mkF m 23 #[.val (.ref a1), .val .null] [])) _
    exact X3.returnOut hx Bd.returns (hb hby d6_23) hr
  · show Q6s Z a1 u_rollbackOnly_a1 pa r f h0 n0 _ T3.heap _
    rw [e3]
    exact ⟨rfl, N3, K3, (E_a1.wr W3), (F_joined_a1.other W3 (Or.inr (slot_ne (Or.inr (hw _ (List.mem_of_getElem? (i := 13) rfl))) (Or.inl (hw _ (List.mem_of_getElem? (i := 28) rfl))) (by decide) (t := (.object "com/example/orderly_tx/orderlytx/UnitStatus")) (t' := .boolean) (by decide) (by decide)))), Fw3, (F_failedByParticipant_a1.other W3 (Or.inr (slot_ne (Or.inl (hw _ (List.mem_of_getElem? (i := 30) rfl))) (Or.inl (hw _ (List.mem_of_getElem? (i := 28) rfl))) (by decide) (t := .boolean) (t' := .boolean) (by decide) (by decide)))), (F_participantFailure_a1.other W3 (Or.inr (slot_ne (Or.inl (hw _ (List.mem_of_getElem? (i := 43) rfl))) (Or.inl (hw _ (List.mem_of_getElem? (i := 28) rfl))) (by decide) (t := (.object "java/lang/Throwable")) (t' := .boolean) (by decide) (by decide)))), (E_pa.wr W3), (Fpj.other W3 (Or.inl nep))⟩
theorem d6_15 : decode prog_46_method_5_code 15 = .ok (.aload_n 0, 1) := by decide +kernel
theorem d6_16 : decode prog_46_method_5_code 16 = .ok (.getfield 12, 3) := by decide +kernel
theorem d6_19 : decode prog_46_method_5_code 19 = .ok (.aload_n 1, 1) := by decide +kernel
theorem d6_20 : decode prog_46_method_5_code 20 = .ok (.invokevirtual 28, 3) := by decide +kernel
theorem pd_6_4 : parseMethodDescriptor "(Ljava/lang/Throwable;)V" = some ⟨[(.object "java/lang/Throwable")], none⟩ := by decide +kernel
theorem ef_6p (m : MethodId) (x0 : Addr) : entryFrame m #[(.ref x0), .null] 2 = mkF m 0 #[.val (.ref x0), .val .null] [] := by first | (simp [entryFrame, mkF, argsToLocals, Value.category]; done) | rfl
def Q6p (Z : State) (a1 : Addr) (w_joined_a1 : Addr) (r : Int32) (f : Int32) (h0 : Heap) (n0 : Nat) (v : Option Value) (h : Heap) (L : List Loc) : Prop := v = none ∧ Fr n0 L ∧ Keep h0 h [w_joined_a1] ∧ own_St Z h w_joined_a1 a1 r (1 : Int32)
set_option maxRecDepth 65536 in
set_option maxHeartbeats 40000000 in
theorem rm6p (l : Launch) (Z : State) (a0 : Array Value) (hw : ∀ d ∈ tables_1, d.before a0 Z = true) (ws : List Jvm.Cond) (a1 : Addr) (w_joined_a1 : Addr) (r : Int32) (f : Int32) (h0 : Heap) (n0 : Nat) (Z0 : n0 ≤ h0.size) (Hst : own_St Z h0 w_joined_a1 a1 r f) (g_s : n0 ≤ w_joined_a1) (nep : a1 ≠ w_joined_a1) :
    MetFree l (⟨"com/example/orderly_tx/orderlytx/UnitStatus", "fail", "(Ljava/lang/Throwable;)V"⟩ : MethodName) (head1 (Jvm.Cond.code (⟨"com/example/orderly_tx/orderlytx/UnitStatus", "fail", "(Ljava/lang/Throwable;)V"⟩ : MethodName) prog_46_method_5_code 2 none :: ws) ({ frames := 1, cells := 0, slots := 0, locals := 13 } : Room)) (fun a U => a = #[(.ref a1), .null] ∧ Z.Warmed39 U.vm ∧ U.heap = h0) (fun _ _ _ _ _ => True) (fun _ U o U' => ∃ v L, o = .returned v ∧ Q6p Z a1 w_joined_a1 r f h0 n0 v U'.heap L ∧ FrameEnd U o U' L ({ frames := 1, cells := 0, slots := 0, locals := 13 } : Room).cells ({ frames := 1, cells := 0, slots := 0, locals := 13 } : Room).slots) := by
  refine MetFree.of_bodySF (plainFor_of_name pn_6) hisR ?_
  intro p e s m args below meth c s₁ Bd hml0 hP hK
  obtain ⟨rfl, hZ, hh⟩ := hP
  have hx := Bd.exec
  have hby := Bd.bytes
  have hml : c.maxLocals = 2 := hml0
  have hown : s.vm.findClass "com/example/orderly_tx/orderlytx/UnitStatus" = some m.cls := findClass_of_methodNamed Bd.named
  have hnm := (name_of_methodNamed Bd.named Bd.method).1
  have X0 : Stand p l e ({ frames := 1, cells := 0, slots := 0, locals := 13 } : Room) s m #[(.ref a1), .null] below meth c s₁ [] 0 0 := Stand.of_body Bd
  have e0 : s₁.heap = h0 := by rw [← hh, Bd.state]; rfl
  have N0 := Fr.nil n0
  have Hst0 := Hst
  obtain ⟨E_w2, Fj0, Fr0, Ff0, Fp0, E_a1, F_joined_a1⟩ := Hst
  have pre0 : ∀ t, Steps p.tables e below (s₁.setTop (mkF m 0 #[.val (.ref a1), .val .null] [])) t → Steps p.tables e below (s₁.setTop (entryFrame m #[(.ref a1), .null] 2)) t := fun t k => castTop (ef_6p m a1) k
  -- 3. LAWS
  obtain ⟨T3, X3, e3, st3⟩ := getF X0 hx hZ hown (host := "") (Or.inl (hw _ (List.mem_of_getElem? (i := 12) rfl))) Via.refl e0 F_joined_a1 (g := (mkF m 1 #[.val (.ref a1), .val .null] [(.ref a1)])) rfl rfl (hb hby d6_1)
  obtain ⟨T4, X4, e4, st4⟩ := getF X3 hx hZ hown (host := "") (Or.inl (hw _ (List.mem_of_getElem? (i := 12) rfl))) Via.refl e3 F_joined_a1 (g := (mkF m 16 #[.val (.ref a1), .val .null] [(.ref a1)])) rfl rfl (hb hby d6_16)
  -- pc 20: com/example/orderly_tx/orderlytx/UnitStatus.failByParticipant by the contract of the body that the receiver's class selects, rm7
  obtain ⟨cq5, kq5, q5a, q5b, q5c⟩ := isOf hZ e4 E_w2
  obtain ⟨_, _, ⟨T5, L5, k5, n5⟩, -, X5, ⟨Lc5, hQ5, l5, y5, z5⟩, st5⟩ := X4.virtualBack hx (y := (⟨"com/example/orderly_tx/orderlytx/UnitStatus", "failByParticipant", "(Ljava/lang/Throwable;)V"⟩ : MethodName)) (z := (⟨"com/example/orderly_tx/orderlytx/UnitStatus", "failByParticipant", "(Ljava/lang/Throwable;)V"⟩ : MethodName)) hown (mvT hZ (hw _ (List.mem_of_getElem? (i := 37) rfl))) (mvT hZ (hw _ (List.mem_of_getElem? (i := 38) rfl))) (notFace_of_selects (args := #[]) (mvT hZ (hw _ (List.mem_of_getElem? (i := 40) rfl)))) (mvT hZ (hw _ (List.mem_of_getElem? (i := 40) rfl))) (mvT hZ (hw _ (List.mem_of_getElem? (i := 39) rfl))) (by decide) (backOf (W := 0) (rm7 l Z a0 hw [] w_joined_a1 .null a1 r f h0 n0 Z0 Hst0 g_s nep) hZ (hw _ (List.mem_of_getElem? (i := 41) rfl)) (hw _ (List.mem_of_getElem? (i := 2) rfl)) (by decide) (by decide)) q5a q5c (g := (mkF m 20 #[.val (.ref a1), .val .null] [.null, (.ref w_joined_a1)])) rfl (by rw [hml]; rfl) (Steps.refl _) (argsL := [.null]) (rest := []) (lenOf pd_6_4 rfl) rfl (by show 2 * 0 + _ ≤ _; exact Nat.le_of_eq rfl) (hb hby d6_20) (fun _ _ => ⟨rfl, e4, (by decide : 0 + 0 ≤ _), (by decide : 0 + 0 ≤ _)⟩)
  dsimp only [Pt.U, Pt.locs, Pt.cells, Pt.slots] at X5 l5 y5 z5 st5 hQ5
  subst l5 y5 z5
  obtain ⟨rfl, N5q, K5q, H5q⟩ := hQ5
  have N5 := Fr.app N0 N5q
  have KH5 : Keep h0 T5.heap [w_joined_a1] := (Keep.refl h0 [w_joined_a1]).trans K5q own_wsIn
  obtain ⟨fs, hr, hrun, hended, hW, hsame⟩ := X5.leave (v := none) (fun _ => rfl) (BodyLoose.notSynchronized Bd)
  refine ⟨_, _, pre0 _ ?_, hrun, hended, _, _, rfl, ?_, ⟨_, rfl⟩, hW, hsame.mono (by decide) (by decide)⟩
  -- 4. STEPS
  · show Steps p.tables e below (s₁.setTop (mkF m 0 #[.val (.ref a1), .val .null] [])) _
    refine XS.aloadN X0.here hx rfl (hb hby d6_0) rfl rfl ?_
    show Steps p.tables e below (s₁.setTop (mkF m 1 #[.val (.ref a1), .val .null] [(.ref a1)])) _
    refine st3 _ ?_
    show Steps p.tables e below (T3.setTop (mkF m 4 #[.val (.ref a1), .val .null] [(.ref w_joined_a1)])) _
    refine XS.ifnonnullYes X3.here hx rfl (pc0 := 4) (pc' := 15) rfl (hb hby d6_4) rfl (by decide) (by decide) ?_
    show Steps p.tables e below (T3.setTop (mkF m 15 #[.val (.ref a1), .val .null] [])) _
    refine XS.aloadN X3.here hx rfl (hb hby d6_15) rfl rfl ?_
    show Steps p.tables e below (T3.setTop (mkF m 16 #[.val (.ref a1), .val .null] [(.ref a1)])) _
    refine st4 _ ?_
    show Steps p.tables e below (T4.setTop (mkF m 19 #[.val (.ref a1), .val .null] [(.ref w_joined_a1)])) _
    refine XS.aloadN X4.here hx rfl (hb hby d6_19) rfl rfl ?_
    show Steps p.tables e below (T4.setTop (mkF m 20 #[.val (.ref a1), .val .null] [.null, (.ref w_joined_a1)])) _
    refine st5.trans ?_
    show Steps p.tables e below (T5.setTop (mkF m 23 #[.val (.ref a1), .val .null] [])) _
    exact X5.returnOut hx Bd.returns (hb hby d6_23) hr
  · show Q6p Z a1 w_joined_a1 r f h0 n0 _ T5.heap _
    exact ⟨rfl, N5, K5q, H5q⟩
theorem d8_0 : decode prog_46_method_4_code 0 = .ok (.aload_n 0, 1) := by decide +kernel
theorem d8_1 : decode prog_46_method_4_code 1 = .ok (.aconst_null, 1) := by decide +kernel
theorem d8_2 : decode prog_46_method_4_code 2 = .ok (.invokevirtual 20, 3) := by decide +kernel
theorem d8_5 : decode prog_46_method_4_code 5 = .ok (.return_, 1) := by decide +kernel
theorem pn_8 : plainName "com/example/orderly_tx/orderlytx/UnitStatus" = true := by first | (simp [plainName, overriddenIn]; done) | decide +kernel
theorem pd_8_4 : parseMethodDescriptor "(Ljava/lang/Throwable;)V" = some ⟨[(.object "java/lang/Throwable")], none⟩ := by decide +kernel
theorem ef_8s (m : MethodId) (x0 : Addr) : entryFrame m #[(.ref x0)] 1 = mkF m 0 #[.val (.ref x0)] [] := by first | (simp [entryFrame, mkF, argsToLocals, Value.category]; done) | rfl
def Q8s (Z : State) (a1 : Addr) (pa : Addr) (r : Int32) (f : Int32) (h0 : Heap) (n0 : Nat) (v : Option Value) (h : Heap) (L : List Loc) : Prop := v = none ∧ Fr n0 L ∧ Keep h0 h [a1] ∧ own_St Z h a1 pa (1 : Int32) f
set_option maxRecDepth 65536 in
set_option maxHeartbeats 40000000 in
theorem rm8s (l : Launch) (Z : State) (a0 : Array Value) (hw : ∀ d ∈ tables_1, d.before a0 Z = true) (ws : List Jvm.Cond) (a1 : Addr) (pa : Addr) (r : Int32) (f : Int32) (h0 : Heap) (n0 : Nat) (Z0 : n0 ≤ h0.size) (Hst : own_St Z h0 a1 pa r f) (g_a1 : n0 ≤ a1) (nep : pa ≠ a1) :
    MetFree l (⟨"com/example/orderly_tx/orderlytx/UnitStatus", "setRollbackOnly", "()V"⟩ : MethodName) (head1 (Jvm.Cond.code (⟨"com/example/orderly_tx/orderlytx/UnitStatus", "setRollbackOnly", "()V"⟩ : MethodName) prog_46_method_4_code 1 none :: ws) ({ frames := 1, cells := 0, slots := 0, locals := 13 } : Room)) (fun a U => a = #[(.ref a1)] ∧ Z.Warmed39 U.vm ∧ U.heap = h0) (fun _ _ _ _ _ => True) (fun _ U o U' => ∃ v L, o = .returned v ∧ Q8s Z a1 pa r f h0 n0 v U'.heap L ∧ FrameEnd U o U' L ({ frames := 1, cells := 0, slots := 0, locals := 13 } : Room).cells ({ frames := 1, cells := 0, slots := 0, locals := 13 } : Room).slots) := by
  refine MetFree.of_bodySF (plainFor_of_name pn_8) hisR ?_
  intro p e s m args below meth c s₁ Bd hml0 hP hK
  obtain ⟨rfl, hZ, hh⟩ := hP
  have hx := Bd.exec
  have hby := Bd.bytes
  have hml : c.maxLocals = 1 := hml0
  have hown : s.vm.findClass "com/example/orderly_tx/orderlytx/UnitStatus" = some m.cls := findClass_of_methodNamed Bd.named
  have hnm := (name_of_methodNamed Bd.named Bd.method).1
  have X0 : Stand p l e ({ frames := 1, cells := 0, slots := 0, locals := 13 } : Room) s m #[(.ref a1)] below meth c s₁ [] 0 0 := Stand.of_body Bd
  have e0 : s₁.heap = h0 := by rw [← hh, Bd.state]; rfl
  have N0 := Fr.nil n0
  have Hst0 := Hst
  have E_a1 := Hst.1
  have pre0 : ∀ t, Steps p.tables e below (s₁.setTop (mkF m 0 #[.val (.ref a1)] [])) t → Steps p.tables e below (s₁.setTop (entryFrame m #[(.ref a1)] 1)) t := fun t k => castTop (ef_8s m a1) k
  -- 3. LAWS
  -- pc 2: com/example/orderly_tx/orderlytx/UnitStatus.fail by the contract of the body that the receiver's class selects, rm6
  obtain ⟨cq2, kq2, q2a, q2b, q2c⟩ := isOf hZ e0 E_a1
  obtain ⟨_, _, ⟨T2, L2, k2, n2⟩, -, X2, ⟨Lc2, hQ2, l2, y2, z2⟩, st2⟩ := X0.virtualBack hx (y := (⟨"com/example/orderly_tx/orderlytx/UnitStatus", "fail", "(Ljava/lang/Throwable;)V"⟩ : MethodName)) (z := (⟨"com/example/orderly_tx/orderlytx/UnitStatus", "fail", "(Ljava/lang/Throwable;)V"⟩ : MethodName)) hown (mvT hZ (hw _ (List.mem_of_getElem? (i := 49) rfl))) (mvT hZ (hw _ (List.mem_of_getElem? (i := 33) rfl))) (notFace_of_selects (args := #[]) (mvT hZ (hw _ (List.mem_of_getElem? (i := 35) rfl)))) (mvT hZ (hw _ (List.mem_of_getElem? (i := 35) rfl))) (mvT hZ (hw _ (List.mem_of_getElem? (i := 34) rfl))) (by decide) (backOf (W := 0) (rm6s l Z a0 hw [] a1 .null pa r f h0 n0 Z0 Hst0 g_a1 nep) hZ (hw _ (List.mem_of_getElem? (i := 36) rfl)) (hw _ (List.mem_of_getElem? (i := 2) rfl)) (by decide) (by decide)) q2a q2c (g := (mkF m 2 #[.val (.ref a1)] [.null, (.ref a1)])) rfl (by rw [hml]; rfl) (Steps.refl _) (argsL := [.null]) (rest := []) (lenOf pd_8_4 rfl) rfl (by show 2 * 0 + _ ≤ _; exact Nat.le_of_eq rfl) (hb hby d8_2) (fun _ _ => ⟨rfl, e0, (by decide : 0 + 0 ≤ _), (by decide : 0 + 0 ≤ _)⟩)
  dsimp only [Pt.U, Pt.locs, Pt.cells, Pt.slots] at X2 l2 y2 z2 st2 hQ2
  subst l2 y2 z2
  obtain ⟨rfl, N2q, K2q, H2q⟩ := hQ2
  have N2 := Fr.app N0 N2q
  have KH2 : Keep h0 T2.heap [a1] := (Keep.refl h0 [a1]).trans K2q own_wsIn
  obtain ⟨fs, hr, hrun, hended, hW, hsame⟩ := X2.leave (v := none) (fun _ => rfl) (BodyLoose.notSynchronized Bd)
  refine ⟨_, _, pre0 _ ?_, hrun, hended, _, _, rfl, ?_, ⟨_, rfl⟩, hW, hsame.mono (by decide) (by decide)⟩
  -- 4. STEPS
  · show Steps p.tables e below (s₁.setTop (mkF m 0 #[.val (.ref a1)] [])) _
    refine XS.aloadN X0.here hx rfl (hb hby d8_0) rfl rfl ?_
    show Steps p.tables e below (s₁.setTop (mkF m 1 #[.val (.ref a1)] [(.ref a1)])) _
    refine XS.aconstNull X0.here hx rfl (hb hby d8_1) ?_
    show Steps p.tables e below (s₁.setTop (mkF m 2 #[.val (.ref a1)] [.null, (.ref a1)])) _
    refine st2.trans ?_
    show Steps p.tables e below (T2.setTop (mkF m 5 #[.val (.ref a1)] [])) _
    exact X2.returnOut hx Bd.returns (hb hby d8_5) hr
  · show Q8s Z a1 pa r f h0 n0 _ T2.heap _
    exact ⟨rfl, N2, K2q, H2q⟩
theorem ef_8p (m : MethodId) (x0 : Addr) : entryFrame m #[(.ref x0)] 1 = mkF m 0 #[.val (.ref x0)] [] := by first | (simp [entryFrame, mkF, argsToLocals, Value.category]; done) | rfl
def Q8p (Z : State) (a1 : Addr) (sa : Addr) (r : Int32) (f : Int32) (h0 : Heap) (n0 : Nat) (v : Option Value) (h : Heap) (L : List Loc) : Prop := v = none ∧ Fr n0 L ∧ Keep h0 h [sa] ∧ own_St Z h sa a1 r (1 : Int32)
set_option maxRecDepth 65536 in
set_option maxHeartbeats 40000000 in
theorem rm8p (l : Launch) (Z : State) (a0 : Array Value) (hw : ∀ d ∈ tables_1, d.before a0 Z = true) (ws : List Jvm.Cond) (a1 : Addr) (sa : Addr) (r : Int32) (f : Int32) (h0 : Heap) (n0 : Nat) (Z0 : n0 ≤ h0.size) (Hst : own_St Z h0 sa a1 r f) (g_s : n0 ≤ sa) (nep : a1 ≠ sa) :
    MetFree l (⟨"com/example/orderly_tx/orderlytx/UnitStatus", "setRollbackOnly", "()V"⟩ : MethodName) (head1 (Jvm.Cond.code (⟨"com/example/orderly_tx/orderlytx/UnitStatus", "setRollbackOnly", "()V"⟩ : MethodName) prog_46_method_4_code 1 none :: ws) ({ frames := 2, cells := 0, slots := 0, locals := 26 } : Room)) (fun a U => a = #[(.ref a1)] ∧ Z.Warmed39 U.vm ∧ U.heap = h0) (fun _ _ _ _ _ => True) (fun _ U o U' => ∃ v L, o = .returned v ∧ Q8p Z a1 sa r f h0 n0 v U'.heap L ∧ FrameEnd U o U' L ({ frames := 2, cells := 0, slots := 0, locals := 26 } : Room).cells ({ frames := 2, cells := 0, slots := 0, locals := 26 } : Room).slots) := by
  refine MetFree.of_bodySF (plainFor_of_name pn_8) hisR ?_
  intro p e s m args below meth c s₁ Bd hml0 hP hK
  obtain ⟨rfl, hZ, hh⟩ := hP
  have hx := Bd.exec
  have hby := Bd.bytes
  have hml : c.maxLocals = 1 := hml0
  have hown : s.vm.findClass "com/example/orderly_tx/orderlytx/UnitStatus" = some m.cls := findClass_of_methodNamed Bd.named
  have hnm := (name_of_methodNamed Bd.named Bd.method).1
  have X0 : Stand p l e ({ frames := 2, cells := 0, slots := 0, locals := 26 } : Room) s m #[(.ref a1)] below meth c s₁ [] 0 0 := Stand.of_body Bd
  have e0 : s₁.heap = h0 := by rw [← hh, Bd.state]; rfl
  have N0 := Fr.nil n0
  have Hst0 := Hst
  have E_a1 := Hst.2.2.2.2.2.1
  have pre0 : ∀ t, Steps p.tables e below (s₁.setTop (mkF m 0 #[.val (.ref a1)] [])) t → Steps p.tables e below (s₁.setTop (entryFrame m #[(.ref a1)] 1)) t := fun t k => castTop (ef_8p m a1) k
  -- 3. LAWS
  -- pc 2: com/example/orderly_tx/orderlytx/UnitStatus.fail by the contract of the body that the receiver's class selects, rm6
  obtain ⟨cq2, kq2, q2a, q2b, q2c⟩ := isOf hZ e0 E_a1
  obtain ⟨_, _, ⟨T2, L2, k2, n2⟩, -, X2, ⟨Lc2, hQ2, l2, y2, z2⟩, st2⟩ := X0.virtualBack hx (y := (⟨"com/example/orderly_tx/orderlytx/UnitStatus", "fail", "(Ljava/lang/Throwable;)V"⟩ : MethodName)) (z := (⟨"com/example/orderly_tx/orderlytx/UnitStatus", "fail", "(Ljava/lang/Throwable;)V"⟩ : MethodName)) hown (mvT hZ (hw _ (List.mem_of_getElem? (i := 49) rfl))) (mvT hZ (hw _ (List.mem_of_getElem? (i := 33) rfl))) (notFace_of_selects (args := #[]) (mvT hZ (hw _ (List.mem_of_getElem? (i := 35) rfl)))) (mvT hZ (hw _ (List.mem_of_getElem? (i := 35) rfl))) (mvT hZ (hw _ (List.mem_of_getElem? (i := 34) rfl))) (by decide) (backOf (W := 0) (rm6p l Z a0 hw [] a1 sa r f h0 n0 Z0 Hst0 g_s nep) hZ (hw _ (List.mem_of_getElem? (i := 36) rfl)) (hw _ (List.mem_of_getElem? (i := 2) rfl)) (by decide) (by decide)) q2a q2c (g := (mkF m 2 #[.val (.ref a1)] [.null, (.ref a1)])) rfl (by rw [hml]; rfl) (Steps.refl _) (argsL := [.null]) (rest := []) (lenOf pd_8_4 rfl) rfl (by show 2 * 0 + _ ≤ _; exact Nat.le_of_eq rfl) (hb hby d8_2) (fun _ _ => ⟨rfl, e0, (by decide : 0 + 0 ≤ _), (by decide : 0 + 0 ≤ _)⟩)
  dsimp only [Pt.U, Pt.locs, Pt.cells, Pt.slots] at X2 l2 y2 z2 st2 hQ2
  subst l2 y2 z2
  obtain ⟨rfl, N2q, K2q, H2q⟩ := hQ2
  have N2 := Fr.app N0 N2q
  have KH2 : Keep h0 T2.heap [sa] := (Keep.refl h0 [sa]).trans K2q own_wsIn
  obtain ⟨fs, hr, hrun, hended, hW, hsame⟩ := X2.leave (v := none) (fun _ => rfl) (BodyLoose.notSynchronized Bd)
  refine ⟨_, _, pre0 _ ?_, hrun, hended, _, _, rfl, ?_, ⟨_, rfl⟩, hW, hsame.mono (by decide) (by decide)⟩
  -- 4. STEPS
  · show Steps p.tables e below (s₁.setTop (mkF m 0 #[.val (.ref a1)] [])) _
    refine XS.aloadN X0.here hx rfl (hb hby d8_0) rfl rfl ?_
    show Steps p.tables e below (s₁.setTop (mkF m 1 #[.val (.ref a1)] [(.ref a1)])) _
    refine XS.aconstNull X0.here hx rfl (hb hby d8_1) ?_
    show Steps p.tables e below (s₁.setTop (mkF m 2 #[.val (.ref a1)] [.null, (.ref a1)])) _
    refine st2.trans ?_
    show Steps p.tables e below (T2.setTop (mkF m 5 #[.val (.ref a1)] [])) _
    exact X2.returnOut hx Bd.returns (hb hby d8_5) hr
  · show Q8p Z a1 sa r f h0 n0 _ T2.heap _
    exact ⟨rfl, N2, K2q, H2q⟩
theorem pd_0_0 : parseMethodDescriptor "()V" = some ⟨[], none⟩ := by decide +kernel
theorem pd_0_2 : parseMethodDescriptor "()Lcom/example/orderly_tx/orderlytx/UnitStatus;" = some ⟨[], some (.object "com/example/orderly_tx/orderlytx/UnitStatus")⟩ := by decide +kernel
theorem os0_7 {s0 : Slot} {s1 : Slot} {s2 : Slot} {s3 : Slot} {s4 : Slot} {s5 : Slot} {s6 : Slot} {s7 : Slot} {s8 : Slot} {s9 : Slot} {s10 : Slot} {s11 : Slot} {v : Addr} (h : One s2) : storeLocals #[s0, s1, s2, s3, s4, s5, s6, s7, s8, s9, s10, s11] 2 (.ref v) = some #[s0, s1, .val (.ref v), s3, s4, s5, s6, s7, s8, s9, s10, s11] := by
  rcases h with rfl | ⟨w, rfl, hw⟩
  · rfl
  · cases w <;> first | rfl | (simp [Value.category] at hw)
theorem os0_12 {s0 : Slot} {s1 : Slot} {z2 : Value} {s3 : Slot} {s4 : Slot} {s5 : Slot} {s6 : Slot} {s7 : Slot} {s8 : Slot} {s9 : Slot} {s10 : Slot} {s11 : Slot} {v : Addr} (h : One s3) : storeLocals #[s0, s1, .val z2, s3, s4, s5, s6, s7, s8, s9, s10, s11] 3 (.ref v) = some #[s0, s1, .val z2, .val (.ref v), s4, s5, s6, s7, s8, s9, s10, s11] := by
  rcases h with rfl | ⟨w, rfl, hw⟩
  · rfl
  · cases w <;> first | rfl | (simp [Value.category] at hw)
set_option maxRecDepth 65536 in
set_option maxHeartbeats 40000000 in
theorem own_p0 {p : Program} {l : Launch} {e : Env} {s : State} {m : MethodId} {args : Array Value} {below : List Frame} {meth : Method} {c : Code} {T0 : State} {locs : List Loc} {Z : State} {a0 : Array Value} {h0 : Heap} {n0 : Nat} (s0 : Slot) (s1 : Slot) (s2 : Slot) (s3 : Slot) (s4 : Slot) (s5 : Slot) (s6 : Slot) (s7 : Slot) (s8 : Slot) (s9 : Slot) (s10 : Slot) (s11 : Slot)
    (X0 : Stand p l e room_1 s m args below meth c T0 locs 0 0) (hx : p.tables.exec = Jvm.exec) (hZ : Z.Warmed39 s.vm) (hw : ∀ d ∈ tables_1, d.before a0 Z = true) (hby : c.code = code) (hml : c.maxLocals = 12) (hown : s.vm.findClass "com/example/orderly_tx/orderlytx/UnitStatusIsRollbackOnlyPinLaw" = some m.cls) (e0 : T0.heap = h0) (N0 : Fr n0 locs) (Z0 : n0 ≤ h0.size) (hs2 : One s2) (hs3 : One s3) :
    ∃ (T' : State) (h' : Heap) (locs' : List Loc) (o2 o3 : Addr), Stand p l e room_1 s m args below meth c T' locs' 2 10 ∧ T'.heap = h' ∧ Fr n0 locs' ∧ n0 ≤ h'.size ∧ n0 ≤ o2 ∧ o3 ≠ o2 ∧ own_St Z h' o2 o3 (0 : Int32) (0 : Int32) ∧ ∀ target, Steps p.tables e below (T'.setTop (mkF m 13 #[s0, s1, .val (.ref o2), .val (.ref o3), s4, s5, s6, s7, s8, s9, s10, s11] [])) target → Steps p.tables e below (T0.setTop (mkF m 0 #[s0, s1, s2, s3, s4, s5, s6, s7, s8, s9, s10, s11] [])) target := by
  -- 3. LAWS
  obtain ⟨T3, h3, X3, e3, E3, A3, D3, -, st3⟩ := newO X0 hx hZ hown (hw _ (List.mem_of_getElem? (i := 0) rfl)) (hw _ (List.mem_of_getElem? (i := 1) rfl)) (hw _ (List.mem_of_getElem? (i := 2) rfl)) e0 (g := (mkF m 0 #[s0, s1, s2, s3, s4, s5, s6, s7, s8, s9, s10, s11] [])) rfl (hb hby at_0) (by decide) (by decide)
  obtain ⟨b3, g3⟩ : ∃ z, z = h0.size := ⟨_, rfl⟩      -- the fresh object's address
  rw [← g3] at A3 D3 st3      -- A3 : Exa Z h3 b3 "com/example/orderly_tx/orderlytx/UnitStatus"; E3 : Ext h0 h3 (carries every older fact: .ext E3)
  have F_joined_b3 : Fld Z h3 b3 "com/example/orderly_tx/orderlytx/UnitStatus" "joined" "Lcom/example/orderly_tx/orderlytx/UnitStatus;" .null := D3 (Or.inr (hw _ (List.mem_of_getElem? (i := 13) rfl))) (ty := (.object "com/example/orderly_tx/orderlytx/UnitStatus")) (by decide)
  have F_completion_b3 : Fld Z h3 b3 "com/example/orderly_tx/orderlytx/UnitStatus" "completion" "Lcom/example/orderly_tx/orderlytx/Completion;" .null := D3 (Or.inr (hw _ (List.mem_of_getElem? (i := 15) rfl))) (ty := (.object "com/example/orderly_tx/orderlytx/Completion")) (by decide)
  have F_rollbackOnly_b3 : Fld Z h3 b3 "com/example/orderly_tx/orderlytx/UnitStatus" "rollbackOnly" "Z" (.int (0 : Int32)) := D3 (Or.inl (hw _ (List.mem_of_getElem? (i := 28) rfl))) (ty := .boolean) (by decide)
  have F_failedByParticipant_b3 : Fld Z h3 b3 "com/example/orderly_tx/orderlytx/UnitStatus" "failedByParticipant" "Z" (.int (0 : Int32)) := D3 (Or.inl (hw _ (List.mem_of_getElem? (i := 30) rfl))) (ty := .boolean) (by decide)
  have F_participantFailure_b3 : Fld Z h3 b3 "com/example/orderly_tx/orderlytx/UnitStatus" "participantFailure" "Ljava/lang/Throwable;" .null := D3 (Or.inl (hw _ (List.mem_of_getElem? (i := 43) rfl))) (ty := (.object "java/lang/Throwable")) (by decide)
  have E_b3 := A3
  have g_b3 : n0 ≤ b3 := Nat.le_trans Z0 (Nat.le_of_eq g3.symm)
  have sz_b3 : h0.size ≤ b3 := (Nat.le_trans (Keep.refl h0 []).1 (Nat.le_of_eq g3.symm))
  have K3 : Keep h0 h3 [] := (Keep.refl h0 []).ext E3
  -- pc 4: the constructor of com/example/orderly_tx/orderlytx/UnitStatus by its contract rm1
  obtain ⟨_, _, ⟨T4, L4, k4, n4⟩, -, X4, ⟨Lc4, hQ4, l4, y4, z4⟩, st4⟩ := X3.specialBack hx (y := (⟨"com/example/orderly_tx/orderlytx/UnitStatus", "<init>", "()V"⟩ : MethodName)) rfl hown (mvT hZ (hw _ (List.mem_of_getElem? (i := 3) rfl))) (mvT hZ (hw _ (List.mem_of_getElem? (i := 4) rfl))) (mvT hZ (hw _ (List.mem_of_getElem? (i := 5) rfl))) (by decide) (backOf (W := 1) (rm1 l Z a0 hw [] b3  h3 n0 (Nat.le_trans Z0 K3.1) E_b3 F_joined_b3 g_b3 F_completion_b3 F_rollbackOnly_b3 F_failedByParticipant_b3 F_participantFailure_b3) hZ (hw _ (List.mem_of_getElem? (i := 5) rfl)) (hw _ (List.mem_of_getElem? (i := 2) rfl)) (by decide) (by decide)) (g := (mkF m 4 #[s0, s1, s2, s3, s4, s5, s6, s7, s8, s9, s10, s11] [(.ref b3), (.ref b3)])) rfl (by rw [hml]; rfl) (Steps.refl _) (a := b3) (argsL := []) (rest := [(.ref b3)]) (lenOf pd_0_0 rfl) rfl (by show 2 * 0 + _ ≤ _; exact Nat.le_of_eq rfl) (hb hby at_4) (fun _ _ => ⟨rfl, e3, (by decide : 0 + 1 + 0 ≤ _), (by decide : 0 + 5 + 0 ≤ _)⟩)
  dsimp only [Pt.U, Pt.locs, Pt.cells, Pt.slots] at X4 l4 y4 z4 st4 hQ4
  subst l4 y4 z4
  obtain ⟨rfl, N4q, K4q, E4q, Fj4, Fr4, Ff4, Fp4⟩ := hQ4
  have N4 := Fr.app N0 N4q
  have KH4 : Keep h0 T4.heap [] := K3.trans K4q (own_ws1 sz_b3)
  -- pc 9: com/example/orderly_tx/orderlytx/UnitStatus.forParticipant by the contract of the body that the receiver's class selects, rm4
  obtain ⟨cq5, kq5, q5a, q5b, q5c⟩ := isOf hZ rfl (E_b3.keep K4q)
  obtain ⟨_, _, ⟨T5, L5, k5, n5⟩, -, X5, ⟨Lc5, hQ5, l5, y5, z5⟩, st5⟩ := X4.virtualBack hx (y := (⟨"com/example/orderly_tx/orderlytx/UnitStatus", "forParticipant", "()Lcom/example/orderly_tx/orderlytx/UnitStatus;"⟩ : MethodName)) (z := (⟨"com/example/orderly_tx/orderlytx/UnitStatus", "forParticipant", "()Lcom/example/orderly_tx/orderlytx/UnitStatus;"⟩ : MethodName)) hown (mvT hZ (hw _ (List.mem_of_getElem? (i := 16) rfl))) (mvT hZ (hw _ (List.mem_of_getElem? (i := 17) rfl))) (notFace_of_selects (args := #[]) (mvT hZ (hw _ (List.mem_of_getElem? (i := 19) rfl)))) (mvT hZ (hw _ (List.mem_of_getElem? (i := 19) rfl))) (mvT hZ (hw _ (List.mem_of_getElem? (i := 18) rfl))) (by decide) (backOf (W := 0) (rm4 l Z a0 hw [] b3  T4.heap n0 (Nat.le_trans Z0 KH4.1)) hZ (hw _ (List.mem_of_getElem? (i := 20) rfl)) (hw _ (List.mem_of_getElem? (i := 2) rfl)) (by decide) (by decide)) q5a q5c (g := (mkF m 9 #[s0, s1, .val (.ref b3), s3, s4, s5, s6, s7, s8, s9, s10, s11] [(.ref b3)])) rfl (by rw [hml]; rfl) (Steps.refl _) (argsL := []) (rest := []) (lenOf pd_0_2 rfl) rfl (by show 2 * 0 + _ ≤ _; exact Nat.le_of_eq rfl) (hb hby at_9) (fun _ _ => ⟨rfl, rfl, (by decide : 0 + 1 + 1 ≤ _), (by decide : 0 + 5 + 5 ≤ _)⟩)
  dsimp only [Pt.U, Pt.locs, Pt.cells, Pt.slots] at X5 l5 y5 z5 st5 hQ5
  subst l5 y5 z5
  obtain ⟨rfl, N5q, K5q, E5q, Fj5⟩ := hQ5
  have N5 := Fr.app N4 N5q
  have KH5 : Keep h0 T5.heap [] := KH4.trans K5q own_ws0
  obtain ⟨b5, g5⟩ : ∃ z, z = T4.heap.size := ⟨_, rfl⟩
  rw [← g5] at st5 E5q Fj5
  have ne5 : b5 ≠ b3 := Ne.symm (own_ne E4q.lt g5)
  refine ⟨T5, _, _, b3, b5, X5, rfl, N5, (Nat.le_trans Z0 KH5.1), g_b3, ne5, ⟨E4q.keep K5q, Fj4.keep K5q (by simp), Fr4.keep K5q (by simp), Ff4.keep K5q (by simp), Fp4.keep K5q (by simp), E5q, Fj5⟩, fun target kt => ?_⟩
  -- 4. STEPS
  show Steps p.tables e below (T0.setTop (mkF m 0 #[s0, s1, s2, s3, s4, s5, s6, s7, s8, s9, s10, s11] [])) _
  refine st3 _ ?_
  show Steps p.tables e below (T3.setTop (mkF m 3 #[s0, s1, s2, s3, s4, s5, s6, s7, s8, s9, s10, s11] [(.ref b3)])) _
  refine XS.dup X3.here hx rfl (hb hby at_3) rfl rfl ?_
  show Steps p.tables e below (T3.setTop (mkF m 4 #[s0, s1, s2, s3, s4, s5, s6, s7, s8, s9, s10, s11] [(.ref b3), (.ref b3)])) _
  refine st4.trans ?_
  show Steps p.tables e below (T4.setTop (mkF m 7 #[s0, s1, s2, s3, s4, s5, s6, s7, s8, s9, s10, s11] [(.ref b3)])) _
  refine XS.astoreN X4.here hx rfl (hb hby at_7) rfl rfl (l' := #[s0, s1, .val (.ref b3), s3, s4, s5, s6, s7, s8, s9, s10, s11]) (os0_7 hs2) ?_
  show Steps p.tables e below (T4.setTop (mkF m 8 #[s0, s1, .val (.ref b3), s3, s4, s5, s6, s7, s8, s9, s10, s11] [])) _
  refine XS.aloadN X4.here hx rfl (hb hby at_8) rfl rfl ?_
  show Steps p.tables e below (T4.setTop (mkF m 9 #[s0, s1, .val (.ref b3), s3, s4, s5, s6, s7, s8, s9, s10, s11] [(.ref b3)])) _
  refine st5.trans ?_
  show Steps p.tables e below (T5.setTop (mkF m 12 #[s0, s1, .val (.ref b3), s3, s4, s5, s6, s7, s8, s9, s10, s11] [(.ref b5)])) _
  refine XS.astoreN X5.here hx rfl (hb hby at_12) rfl rfl (l' := #[s0, s1, .val (.ref b3), .val (.ref b5), s4, s5, s6, s7, s8, s9, s10, s11]) (os0_12 hs3) ?_
  exact kt
theorem own_St_eq {Z : State} {h h' : Heap} {s p : Addr} {r f : Int32} (e : h' = h) (H : own_St Z h s p r f) : own_St Z h' s p r f := e ▸ H
theorem pd_0_3 : parseMethodDescriptor "()Z" = some ⟨[], some .boolean⟩ := by decide +kernel
theorem os0_24 {z0 : Value} {s1 : Slot} {z2 : Value} {z3 : Value} {s4 : Slot} {s5 : Slot} {s6 : Slot} {s7 : Slot} {s8 : Slot} {s9 : Slot} {s10 : Slot} {s11 : Slot} {v : Int32} (h : One s4) : storeLocals #[.val z0, s1, .val z2, .val z3, s4, s5, s6, s7, s8, s9, s10, s11] 4 (.int v) = some #[.val z0, s1, .val z2, .val z3, .val (.int v), s5, s6, s7, s8, s9, s10, s11] := by
  rcases h with rfl | ⟨w, rfl, hw⟩
  · rfl
  · cases w <;> first | rfl | (simp [Value.category] at hw)
theorem os0_37 {z0 : Value} {s1 : Slot} {z2 : Value} {z3 : Value} {z4 : Value} {s5 : Slot} {s6 : Slot} {s7 : Slot} {s8 : Slot} {s9 : Slot} {s10 : Slot} {s11 : Slot} {v : Int32} (h : One s5) : storeLocals #[.val z0, s1, .val z2, .val z3, .val z4, s5, s6, s7, s8, s9, s10, s11] 5 (.int v) = some #[.val z0, s1, .val z2, .val z3, .val z4, .val (.int v), s6, s7, s8, s9, s10, s11] := by
  rcases h with rfl | ⟨w, rfl, hw⟩
  · rfl
  · cases w <;> first | rfl | (simp [Value.category] at hw)
theorem os0_72 {z0 : Value} {s1 : Slot} {z2 : Value} {z3 : Value} {z4 : Value} {z5 : Value} {s6 : Slot} {s7 : Slot} {s8 : Slot} {s9 : Slot} {s10 : Slot} {s11 : Slot} {v : Int32} (h : One s6) : storeLocals #[.val z0, s1, .val z2, .val z3, .val z4, .val z5, s6, s7, s8, s9, s10, s11] 6 (.int v) = some #[.val z0, s1, .val z2, .val z3, .val z4, .val z5, .val (.int v), s7, s8, s9, s10, s11] := by
  rcases h with rfl | ⟨w, rfl, hw⟩
  · rfl
  · cases w <;> first | rfl | (simp [Value.category] at hw)
theorem os0_97 {z0 : Value} {s1 : Slot} {z2 : Value} {z3 : Value} {z4 : Value} {z5 : Value} {z6 : Value} {s7 : Slot} {s8 : Slot} {s9 : Slot} {s10 : Slot} {s11 : Slot} {v : Int32} (h : One s7) : storeLocals #[.val z0, s1, .val z2, .val z3, .val z4, .val z5, .val z6, s7, s8, s9, s10, s11] 7 (.int v) = some #[.val z0, s1, .val z2, .val z3, .val z4, .val z5, .val z6, .val (.int v), s8, s9, s10, s11] := by
  rcases h with rfl | ⟨w, rfl, hw⟩
  · rfl
  · cases w <;> first | rfl | (simp [Value.category] at hw)
set_option maxRecDepth 65536 in
set_option maxHeartbeats 40000000 in
theorem own_p1_00 {p : Program} {l : Launch} {e : Env} {s : State} {m : MethodId} {args : Array Value} {below : List Frame} {meth : Method} {c : Code} {T0 : State} {locs : List Loc} {Z : State} {a0 : Array Value} {h0 : Heap} {n0 : Nat} (i0 : Int32) (s1 : Slot) (o2 : Addr) (o3 : Addr) (s4 : Slot) (s5 : Slot) (s6 : Slot) (s7 : Slot) (s8 : Slot) (s9 : Slot) (s10 : Slot) (s11 : Slot)
    (X0 : Stand p l e room_1 s m args below meth c T0 locs 2 10) (hx : p.tables.exec = Jvm.exec) (hZ : Z.Warmed39 s.vm) (hw : ∀ d ∈ tables_1, d.before a0 Z = true) (hby : c.code = code) (hml : c.maxLocals = 12) (hown : s.vm.findClass "com/example/orderly_tx/orderlytx/UnitStatusIsRollbackOnlyPinLaw" = some m.cls) (e0 : T0.heap = h0) (N0 : Fr n0 locs) (Z0 : n0 ≤ h0.size) (Hst : own_St Z h0 o2 o3 (0 : Int32) (0 : Int32)) (g_o2 : n0 ≤ o2) (nep : o3 ≠ o2) (hs4 : One s4) (hs5 : One s5) (hs6 : One s6) (hs7 : One s7) (hc16 : (i0 &&& (1 : Int32)) = (0 : Int32)) (hc29 : (i0 &&& (2 : Int32)) = (0 : Int32)) (ht80 : (own_f5 (0 : Int32) (0 : Int32)) = (0 : Int32)) (ht89 : (own_f5 (0 : Int32) (0 : Int32)) = (0 : Int32)) :
    ∃ (T' : State) (h' : Heap) (locs' : List Loc) (r f x4 x5 x6 : Int32), Stand p l e room_1 s m args below meth c T' locs' 2 10 ∧ T'.heap = h' ∧ Fr n0 locs' ∧ n0 ≤ h'.size ∧ x6 = own_f5 r f ∧ own_St Z h' o2 o3 r f ∧ ∀ target, Steps p.tables e below (T'.setTop (mkF m 99 #[.val (.int i0), s1, .val (.ref o2), .val (.ref o3), .val (.int x4), .val (.int x5), .val (.int x6), .val (.int (1 : Int32)), s8, s9, s10, s11] [])) target → Steps p.tables e below (T0.setTop (mkF m 13 #[.val (.int i0), s1, .val (.ref o2), .val (.ref o3), s4, s5, s6, s7, s8, s9, s10, s11] [])) target := by
  have E_o2 := Hst.1
  have E_o3 := Hst.2.2.2.2.2.1
  -- 3. LAWS
  -- pc 75: com/example/orderly_tx/orderlytx/UnitStatus.isRollbackOnly by the contract of the body that the receiver's class selects, rm5
  obtain ⟨cq3, kq3, q3a, q3b, q3c⟩ := isOf hZ e0 E_o2
  obtain ⟨_, _, ⟨T3, L3, k3, n3⟩, -, X3, ⟨Lc3, hQ3, l3, y3, z3⟩, st3⟩ := X0.virtualBack hx (y := (⟨"com/example/orderly_tx/orderlytx/UnitStatus", "isRollbackOnly", "()Z"⟩ : MethodName)) (z := (⟨"com/example/orderly_tx/orderlytx/UnitStatus", "isRollbackOnly", "()Z"⟩ : MethodName)) hown (mvT hZ (hw _ (List.mem_of_getElem? (i := 22) rfl))) (mvT hZ (hw _ (List.mem_of_getElem? (i := 23) rfl))) (notFace_of_selects (args := #[]) (mvT hZ (hw _ (List.mem_of_getElem? (i := 25) rfl)))) (mvT hZ (hw _ (List.mem_of_getElem? (i := 25) rfl))) (mvT hZ (hw _ (List.mem_of_getElem? (i := 24) rfl))) (by decide) (backOf (W := 0) (rm5 l Z a0 hw [] o2 (0 : Int32) (0 : Int32) h0 n0 Z0 Hst.2.1 Hst.2.2.1 Hst.2.2.2.1) hZ (hw _ (List.mem_of_getElem? (i := 26) rfl)) (hw _ (List.mem_of_getElem? (i := 2) rfl)) (by decide) (by decide)) q3a q3c (g := (mkF m 75 #[.val (.int i0), s1, .val (.ref o2), .val (.ref o3), .val (.int (0 : Int32)), .val (.int (0 : Int32)), .val (.int (0 : Int32)), s7, s8, s9, s10, s11] [(.ref o2)])) rfl (by rw [hml]; rfl) (Steps.refl _) (argsL := []) (rest := []) (lenOf pd_0_3 rfl) rfl (by show 2 * 0 + _ ≤ _; exact Nat.le_of_eq rfl) (hb hby at_75) (fun _ _ => ⟨rfl, e0, (by decide : 2 + 0 + 0 ≤ _), (by decide : 10 + 0 + 0 ≤ _)⟩)
  dsimp only [Pt.U, Pt.locs, Pt.cells, Pt.slots] at X3 l3 y3 z3 st3 hQ3
  subst l3 y3 z3
  obtain ⟨rfl, N3q, e3q⟩ := hQ3
  have N3 := Fr.app N0 N3q
  have K3q : Keep h0 T3.heap [] := own_keep e3q
  have KH3 : Keep h0 T3.heap [o2] := (Keep.refl h0 [o2]).trans K3q own_ws0
  have eh3 : T3.heap = h0 := by rw [e3q]
  have Hn3 := own_St_eq e3q Hst
  -- pc 84: com/example/orderly_tx/orderlytx/UnitStatus.isRollbackOnly by the contract of the body that the receiver's class selects, rm5
  obtain ⟨cq4, kq4, q4a, q4b, q4c⟩ := isOf hZ rfl (E_o3.keep K3q)
  obtain ⟨_, _, ⟨T4, L4, k4, n4⟩, -, X4, ⟨Lc4, hQ4, l4, y4, z4⟩, st4⟩ := X3.virtualBack hx (y := (⟨"com/example/orderly_tx/orderlytx/UnitStatus", "isRollbackOnly", "()Z"⟩ : MethodName)) (z := (⟨"com/example/orderly_tx/orderlytx/UnitStatus", "isRollbackOnly", "()Z"⟩ : MethodName)) hown (mvT hZ (hw _ (List.mem_of_getElem? (i := 22) rfl))) (mvT hZ (hw _ (List.mem_of_getElem? (i := 23) rfl))) (notFace_of_selects (args := #[]) (mvT hZ (hw _ (List.mem_of_getElem? (i := 25) rfl)))) (mvT hZ (hw _ (List.mem_of_getElem? (i := 25) rfl))) (mvT hZ (hw _ (List.mem_of_getElem? (i := 24) rfl))) (by decide) (backOf (W := 0) (rm5p l Z a0 hw [] o3 o2 (0 : Int32) (0 : Int32) T3.heap n0 (Nat.le_trans Z0 KH3.1) Hn3.2.2.2.2.2.2 Hn3.1 Hn3.2.1 Hn3.2.2.1 Hn3.2.2.2.1) hZ (hw _ (List.mem_of_getElem? (i := 26) rfl)) (hw _ (List.mem_of_getElem? (i := 2) rfl)) (by decide) (by decide)) q4a q4c (g := (mkF m 84 #[.val (.int i0), s1, .val (.ref o2), .val (.ref o3), .val (.int (0 : Int32)), .val (.int (0 : Int32)), .val (.int (0 : Int32)), s7, s8, s9, s10, s11] [(.ref o3)])) rfl (by rw [hml]; rfl) (Steps.refl _) (argsL := []) (rest := []) (lenOf pd_0_3 rfl) rfl (by show 2 * 0 + _ ≤ _; exact Nat.le_of_eq rfl) (hb hby at_84) (fun _ _ => ⟨rfl, rfl, (by decide : 2 + 0 + 0 ≤ _), (by decide : 10 + 0 + 0 ≤ _)⟩)
  dsimp only [Pt.U, Pt.locs, Pt.cells, Pt.slots] at X4 l4 y4 z4 st4 hQ4
  subst l4 y4 z4
  obtain ⟨rfl, N4q, e4q⟩ := hQ4
  have N4 := Fr.app N3 N4q
  have K4q : Keep T3.heap T4.heap [] := own_keep e4q
  have KH4 : Keep h0 T4.heap [o2] := KH3.trans K4q own_ws0
  have eh4 : T4.heap = h0 := by rw [e4q]; exact eh3
  have Hn4 := own_St_eq e4q Hn3
  refine ⟨T4, _, _, (0 : Int32), (0 : Int32), (0 : Int32), (0 : Int32), (0 : Int32), X4, rfl, N4, (Nat.le_trans Z0 KH4.1), (by decide), Hn4, fun target kt => ?_⟩
  -- 4. STEPS
  show Steps p.tables e below (T0.setTop (mkF m 13 #[.val (.int i0), s1, .val (.ref o2), .val (.ref o3), s4, s5, s6, s7, s8, s9, s10, s11] [])) _
  refine XS.iloadN X0.here hx rfl (hb hby at_13) rfl ?_
  show Steps p.tables e below (T0.setTop (mkF m 14 #[.val (.int i0), s1, .val (.ref o2), .val (.ref o3), s4, s5, s6, s7, s8, s9, s10, s11] [(.int i0)])) _
  refine XS.iconst X0.here hx rfl (hb hby at_14) ?_
  show Steps p.tables e below (T0.setTop (mkF m 15 #[.val (.int i0), s1, .val (.ref o2), .val (.ref o3), s4, s5, s6, s7, s8, s9, s10, s11] [(.int (1 : Int32)), (.int i0)])) _
  refine XS.iand X0.here hx rfl (hb hby at_15) rfl ?_
  show Steps p.tables e below (T0.setTop (mkF m 16 #[.val (.int i0), s1, .val (.ref o2), .val (.ref o3), s4, s5, s6, s7, s8, s9, s10, s11] [(.int (i0 &&& (1 : Int32)))])) _
  refine XS.ifYes X0.here hx rfl (pc0 := 16) (pc' := 23) rfl (hb hby at_16) rfl ((if0 _ _).trans (teq hc16).1) (by decide) (by decide) ?_
  show Steps p.tables e below (T0.setTop (mkF m 23 #[.val (.int i0), s1, .val (.ref o2), .val (.ref o3), s4, s5, s6, s7, s8, s9, s10, s11] [])) _
  refine XS.iconst X0.here hx rfl (hb hby at_23) ?_
  show Steps p.tables e below (T0.setTop (mkF m 24 #[.val (.int i0), s1, .val (.ref o2), .val (.ref o3), s4, s5, s6, s7, s8, s9, s10, s11] [(.int (0 : Int32))])) _
  refine XS.istore X0.here hx rfl (hb hby at_24) rfl (l' := #[.val (.int i0), s1, .val (.ref o2), .val (.ref o3), .val (.int (0 : Int32)), s5, s6, s7, s8, s9, s10, s11]) (os0_24 hs4) ?_
  show Steps p.tables e below (T0.setTop (mkF m 26 #[.val (.int i0), s1, .val (.ref o2), .val (.ref o3), .val (.int (0 : Int32)), s5, s6, s7, s8, s9, s10, s11] [])) _
  refine XS.iloadN X0.here hx rfl (hb hby at_26) rfl ?_
  show Steps p.tables e below (T0.setTop (mkF m 27 #[.val (.int i0), s1, .val (.ref o2), .val (.ref o3), .val (.int (0 : Int32)), s5, s6, s7, s8, s9, s10, s11] [(.int i0)])) _
  refine XS.iconst X0.here hx rfl (hb hby at_27) ?_
  show Steps p.tables e below (T0.setTop (mkF m 28 #[.val (.int i0), s1, .val (.ref o2), .val (.ref o3), .val (.int (0 : Int32)), s5, s6, s7, s8, s9, s10, s11] [(.int (2 : Int32)), (.int i0)])) _
  refine XS.iand X0.here hx rfl (hb hby at_28) rfl ?_
  show Steps p.tables e below (T0.setTop (mkF m 29 #[.val (.int i0), s1, .val (.ref o2), .val (.ref o3), .val (.int (0 : Int32)), s5, s6, s7, s8, s9, s10, s11] [(.int (i0 &&& (2 : Int32)))])) _
  refine XS.ifYes X0.here hx rfl (pc0 := 29) (pc' := 36) rfl (hb hby at_29) rfl ((if0 _ _).trans (teq hc29).1) (by decide) (by decide) ?_
  show Steps p.tables e below (T0.setTop (mkF m 36 #[.val (.int i0), s1, .val (.ref o2), .val (.ref o3), .val (.int (0 : Int32)), s5, s6, s7, s8, s9, s10, s11] [])) _
  refine XS.iconst X0.here hx rfl (hb hby at_36) ?_
  show Steps p.tables e below (T0.setTop (mkF m 37 #[.val (.int i0), s1, .val (.ref o2), .val (.ref o3), .val (.int (0 : Int32)), s5, s6, s7, s8, s9, s10, s11] [(.int (0 : Int32))])) _
  refine XS.istore X0.here hx rfl (hb hby at_37) rfl (l' := #[.val (.int i0), s1, .val (.ref o2), .val (.ref o3), .val (.int (0 : Int32)), .val (.int (0 : Int32)), s6, s7, s8, s9, s10, s11]) (os0_37 hs5) ?_
  show Steps p.tables e below (T0.setTop (mkF m 39 #[.val (.int i0), s1, .val (.ref o2), .val (.ref o3), .val (.int (0 : Int32)), .val (.int (0 : Int32)), s6, s7, s8, s9, s10, s11] [])) _
  refine XS.iload X0.here hx rfl (hb hby at_39) rfl ?_
  show Steps p.tables e below (T0.setTop (mkF m 41 #[.val (.int i0), s1, .val (.ref o2), .val (.ref o3), .val (.int (0 : Int32)), .val (.int (0 : Int32)), s6, s7, s8, s9, s10, s11] [(.int (0 : Int32))])) _
  refine XS.ifYes X0.here hx rfl (pc0 := 41) (pc' := 48) rfl (hb hby at_41) rfl ((if0 _ _).trans (teq (rfl : (0 : Int32) = (0 : Int32))).1) (by decide) (by decide) ?_
  show Steps p.tables e below (T0.setTop (mkF m 48 #[.val (.int i0), s1, .val (.ref o2), .val (.ref o3), .val (.int (0 : Int32)), .val (.int (0 : Int32)), s6, s7, s8, s9, s10, s11] [])) _
  refine XS.iload X0.here hx rfl (hb hby at_48) rfl ?_
  show Steps p.tables e below (T0.setTop (mkF m 50 #[.val (.int i0), s1, .val (.ref o2), .val (.ref o3), .val (.int (0 : Int32)), .val (.int (0 : Int32)), s6, s7, s8, s9, s10, s11] [(.int (0 : Int32))])) _
  refine XS.ifYes X0.here hx rfl (pc0 := 50) (pc' := 57) rfl (hb hby at_50) rfl ((if0 _ _).trans (teq (rfl : (0 : Int32) = (0 : Int32))).1) (by decide) (by decide) ?_
  show Steps p.tables e below (T0.setTop (mkF m 57 #[.val (.int i0), s1, .val (.ref o2), .val (.ref o3), .val (.int (0 : Int32)), .val (.int (0 : Int32)), s6, s7, s8, s9, s10, s11] [])) _
  refine XS.iload X0.here hx rfl (hb hby at_57) rfl ?_
  show Steps p.tables e below (T0.setTop (mkF m 59 #[.val (.int i0), s1, .val (.ref o2), .val (.ref o3), .val (.int (0 : Int32)), .val (.int (0 : Int32)), s6, s7, s8, s9, s10, s11] [(.int (0 : Int32))])) _
  refine XS.ifNo X0.here hx rfl (hb hby at_59) rfl ((if0 _ _).trans (teq (rfl : (0 : Int32) = (0 : Int32))).2) ?_
  show Steps p.tables e below (T0.setTop (mkF m 62 #[.val (.int i0), s1, .val (.ref o2), .val (.ref o3), .val (.int (0 : Int32)), .val (.int (0 : Int32)), s6, s7, s8, s9, s10, s11] [])) _
  refine XS.iload X0.here hx rfl (hb hby at_62) rfl ?_
  show Steps p.tables e below (T0.setTop (mkF m 64 #[.val (.int i0), s1, .val (.ref o2), .val (.ref o3), .val (.int (0 : Int32)), .val (.int (0 : Int32)), s6, s7, s8, s9, s10, s11] [(.int (0 : Int32))])) _
  refine XS.ifYes X0.here hx rfl (pc0 := 64) (pc' := 71) rfl (hb hby at_64) rfl ((if0 _ _).trans (teq (rfl : (0 : Int32) = (0 : Int32))).1) (by decide) (by decide) ?_
  show Steps p.tables e below (T0.setTop (mkF m 71 #[.val (.int i0), s1, .val (.ref o2), .val (.ref o3), .val (.int (0 : Int32)), .val (.int (0 : Int32)), s6, s7, s8, s9, s10, s11] [])) _
  refine XS.iconst X0.here hx rfl (hb hby at_71) ?_
  show Steps p.tables e below (T0.setTop (mkF m 72 #[.val (.int i0), s1, .val (.ref o2), .val (.ref o3), .val (.int (0 : Int32)), .val (.int (0 : Int32)), s6, s7, s8, s9, s10, s11] [(.int (0 : Int32))])) _
  refine XS.istore X0.here hx rfl (hb hby at_72) rfl (l' := #[.val (.int i0), s1, .val (.ref o2), .val (.ref o3), .val (.int (0 : Int32)), .val (.int (0 : Int32)), .val (.int (0 : Int32)), s7, s8, s9, s10, s11]) (os0_72 hs6) ?_
  show Steps p.tables e below (T0.setTop (mkF m 74 #[.val (.int i0), s1, .val (.ref o2), .val (.ref o3), .val (.int (0 : Int32)), .val (.int (0 : Int32)), .val (.int (0 : Int32)), s7, s8, s9, s10, s11] [])) _
  refine XS.aloadN X0.here hx rfl (hb hby at_74) rfl rfl ?_
  show Steps p.tables e below (T0.setTop (mkF m 75 #[.val (.int i0), s1, .val (.ref o2), .val (.ref o3), .val (.int (0 : Int32)), .val (.int (0 : Int32)), .val (.int (0 : Int32)), s7, s8, s9, s10, s11] [(.ref o2)])) _
  refine st3.trans ?_
  show Steps p.tables e below (T3.setTop (mkF m 78 #[.val (.int i0), s1, .val (.ref o2), .val (.ref o3), .val (.int (0 : Int32)), .val (.int (0 : Int32)), .val (.int (0 : Int32)), s7, s8, s9, s10, s11] [(.int (own_f5 (0 : Int32) (0 : Int32)))])) _
  refine XS.iload X3.here hx rfl (hb hby at_78) rfl ?_
  show Steps p.tables e below (T3.setTop (mkF m 80 #[.val (.int i0), s1, .val (.ref o2), .val (.ref o3), .val (.int (0 : Int32)), .val (.int (0 : Int32)), .val (.int (0 : Int32)), s7, s8, s9, s10, s11] [(.int (0 : Int32)), (.int (own_f5 (0 : Int32) (0 : Int32)))])) _
  refine XS.icmpNo X3.here hx rfl (hb hby at_80) rfl (teq ht80).2 ?_
  show Steps p.tables e below (T3.setTop (mkF m 83 #[.val (.int i0), s1, .val (.ref o2), .val (.ref o3), .val (.int (0 : Int32)), .val (.int (0 : Int32)), .val (.int (0 : Int32)), s7, s8, s9, s10, s11] [])) _
  refine XS.aloadN X3.here hx rfl (hb hby at_83) rfl rfl ?_
  show Steps p.tables e below (T3.setTop (mkF m 84 #[.val (.int i0), s1, .val (.ref o2), .val (.ref o3), .val (.int (0 : Int32)), .val (.int (0 : Int32)), .val (.int (0 : Int32)), s7, s8, s9, s10, s11] [(.ref o3)])) _
  refine st4.trans ?_
  show Steps p.tables e below (T4.setTop (mkF m 87 #[.val (.int i0), s1, .val (.ref o2), .val (.ref o3), .val (.int (0 : Int32)), .val (.int (0 : Int32)), .val (.int (0 : Int32)), s7, s8, s9, s10, s11] [(.int (own_f5 (0 : Int32) (0 : Int32)))])) _
  refine XS.iload X4.here hx rfl (hb hby at_87) rfl ?_
  show Steps p.tables e below (T4.setTop (mkF m 89 #[.val (.int i0), s1, .val (.ref o2), .val (.ref o3), .val (.int (0 : Int32)), .val (.int (0 : Int32)), .val (.int (0 : Int32)), s7, s8, s9, s10, s11] [(.int (0 : Int32)), (.int (own_f5 (0 : Int32) (0 : Int32)))])) _
  refine XS.icmpNo X4.here hx rfl (hb hby at_89) rfl (teq ht89).2 ?_
  show Steps p.tables e below (T4.setTop (mkF m 92 #[.val (.int i0), s1, .val (.ref o2), .val (.ref o3), .val (.int (0 : Int32)), .val (.int (0 : Int32)), .val (.int (0 : Int32)), s7, s8, s9, s10, s11] [])) _
  refine XS.iconst X4.here hx rfl (hb hby at_92) ?_
  show Steps p.tables e below (T4.setTop (mkF m 93 #[.val (.int i0), s1, .val (.ref o2), .val (.ref o3), .val (.int (0 : Int32)), .val (.int (0 : Int32)), .val (.int (0 : Int32)), s7, s8, s9, s10, s11] [(.int (1 : Int32))])) _
  refine XS.goto X4.here hx rfl (pc0 := 93) (pc' := 97) rfl (hb hby at_93) (by decide) (by decide) ?_
  show Steps p.tables e below (T4.setTop (mkF m 97 #[.val (.int i0), s1, .val (.ref o2), .val (.ref o3), .val (.int (0 : Int32)), .val (.int (0 : Int32)), .val (.int (0 : Int32)), s7, s8, s9, s10, s11] [(.int (1 : Int32))])) _
  refine XS.istore X4.here hx rfl (hb hby at_97) rfl (l' := #[.val (.int i0), s1, .val (.ref o2), .val (.ref o3), .val (.int (0 : Int32)), .val (.int (0 : Int32)), .val (.int (0 : Int32)), .val (.int (1 : Int32)), s8, s9, s10, s11]) (os0_97 hs7) ?_
  exact kt
set_option maxRecDepth 65536 in
set_option maxHeartbeats 40000000 in
theorem own_p1_01 {p : Program} {l : Launch} {e : Env} {s : State} {m : MethodId} {args : Array Value} {below : List Frame} {meth : Method} {c : Code} {T0 : State} {locs : List Loc} {Z : State} {a0 : Array Value} {h0 : Heap} {n0 : Nat} (i0 : Int32) (s1 : Slot) (o2 : Addr) (o3 : Addr) (s4 : Slot) (s5 : Slot) (s6 : Slot) (s7 : Slot) (s8 : Slot) (s9 : Slot) (s10 : Slot) (s11 : Slot)
    (X0 : Stand p l e room_1 s m args below meth c T0 locs 2 10) (hx : p.tables.exec = Jvm.exec) (hZ : Z.Warmed39 s.vm) (hw : ∀ d ∈ tables_1, d.before a0 Z = true) (hby : c.code = code) (hml : c.maxLocals = 12) (hown : s.vm.findClass "com/example/orderly_tx/orderlytx/UnitStatusIsRollbackOnlyPinLaw" = some m.cls) (e0 : T0.heap = h0) (N0 : Fr n0 locs) (Z0 : n0 ≤ h0.size) (Hst : own_St Z h0 o2 o3 (0 : Int32) (0 : Int32)) (g_o2 : n0 ≤ o2) (nep : o3 ≠ o2) (hs4 : One s4) (hs5 : One s5) (hs6 : One s6) (hs7 : One s7) (hc16 : (i0 &&& (1 : Int32)) = (0 : Int32)) (hc29 : ¬ ((i0 &&& (2 : Int32)) = (0 : Int32))) (hc50 : ¬ ((1 : Int32) = (0 : Int32))) (hc64 : ¬ ((1 : Int32) = (0 : Int32))) (ht80 : (own_f5 (0 : Int32) (1 : Int32)) = (1 : Int32)) (ht89 : (own_f5 (0 : Int32) (1 : Int32)) = (1 : Int32)) :
    ∃ (T' : State) (h' : Heap) (locs' : List Loc) (r f x4 x5 x6 : Int32), Stand p l e room_1 s m args below meth c T' locs' 2 10 ∧ T'.heap = h' ∧ Fr n0 locs' ∧ n0 ≤ h'.size ∧ x6 = own_f5 r f ∧ own_St Z h' o2 o3 r f ∧ ∀ target, Steps p.tables e below (T'.setTop (mkF m 99 #[.val (.int i0), s1, .val (.ref o2), .val (.ref o3), .val (.int x4), .val (.int x5), .val (.int x6), .val (.int (1 : Int32)), s8, s9, s10, s11] [])) target → Steps p.tables e below (T0.setTop (mkF m 13 #[.val (.int i0), s1, .val (.ref o2), .val (.ref o3), s4, s5, s6, s7, s8, s9, s10, s11] [])) target := by
  have E_o2 := Hst.1
  have E_o3 := Hst.2.2.2.2.2.1
  -- 3. LAWS
  -- pc 54: com/example/orderly_tx/orderlytx/UnitStatus.setRollbackOnly by the contract of the body that the receiver's class selects, rm8
  obtain ⟨cq3, kq3, q3a, q3b, q3c⟩ := isOf hZ e0 E_o3
  obtain ⟨_, _, ⟨T3, L3, k3, n3⟩, -, X3, ⟨Lc3, hQ3, l3, y3, z3⟩, st3⟩ := X0.virtualBack hx (y := (⟨"com/example/orderly_tx/orderlytx/UnitStatus", "setRollbackOnly", "()V"⟩ : MethodName)) (z := (⟨"com/example/orderly_tx/orderlytx/UnitStatus", "setRollbackOnly", "()V"⟩ : MethodName)) hown (mvT hZ (hw _ (List.mem_of_getElem? (i := 44) rfl))) (mvT hZ (hw _ (List.mem_of_getElem? (i := 45) rfl))) (notFace_of_selects (args := #[]) (mvT hZ (hw _ (List.mem_of_getElem? (i := 47) rfl)))) (mvT hZ (hw _ (List.mem_of_getElem? (i := 47) rfl))) (mvT hZ (hw _ (List.mem_of_getElem? (i := 46) rfl))) (by decide) (backOf (W := 0) (rm8p l Z a0 hw [] o3 o2 (0 : Int32) (0 : Int32) h0 n0 Z0 Hst g_o2 nep) hZ (hw _ (List.mem_of_getElem? (i := 48) rfl)) (hw _ (List.mem_of_getElem? (i := 2) rfl)) (by decide) (by decide)) q3a q3c (g := (mkF m 54 #[.val (.int i0), s1, .val (.ref o2), .val (.ref o3), .val (.int (0 : Int32)), .val (.int (1 : Int32)), s6, s7, s8, s9, s10, s11] [(.ref o3)])) rfl (by rw [hml]; rfl) (Steps.refl _) (argsL := []) (rest := []) (lenOf pd_0_0 rfl) rfl (by show 2 * 0 + _ ≤ _; exact Nat.le_of_eq rfl) (hb hby at_54) (fun _ _ => ⟨rfl, e0, (by decide : 2 + 0 + 0 ≤ _), (by decide : 10 + 0 + 0 ≤ _)⟩)
  dsimp only [Pt.U, Pt.locs, Pt.cells, Pt.slots] at X3 l3 y3 z3 st3 hQ3
  subst l3 y3 z3
  obtain ⟨rfl, N3q, K3q, H3q⟩ := hQ3
  have N3 := Fr.app N0 N3q
  have KH3 : Keep h0 T3.heap [o2] := (Keep.refl h0 [o2]).trans K3q (fun x hx => Or.inl hx)
  -- pc 75: com/example/orderly_tx/orderlytx/UnitStatus.isRollbackOnly by the contract of the body that the receiver's class selects, rm5
  obtain ⟨cq4, kq4, q4a, q4b, q4c⟩ := isOf hZ rfl (E_o2.keep K3q)
  obtain ⟨_, _, ⟨T4, L4, k4, n4⟩, -, X4, ⟨Lc4, hQ4, l4, y4, z4⟩, st4⟩ := X3.virtualBack hx (y := (⟨"com/example/orderly_tx/orderlytx/UnitStatus", "isRollbackOnly", "()Z"⟩ : MethodName)) (z := (⟨"com/example/orderly_tx/orderlytx/UnitStatus", "isRollbackOnly", "()Z"⟩ : MethodName)) hown (mvT hZ (hw _ (List.mem_of_getElem? (i := 22) rfl))) (mvT hZ (hw _ (List.mem_of_getElem? (i := 23) rfl))) (notFace_of_selects (args := #[]) (mvT hZ (hw _ (List.mem_of_getElem? (i := 25) rfl)))) (mvT hZ (hw _ (List.mem_of_getElem? (i := 25) rfl))) (mvT hZ (hw _ (List.mem_of_getElem? (i := 24) rfl))) (by decide) (backOf (W := 0) (rm5 l Z a0 hw [] o2 (0 : Int32) (1 : Int32) T3.heap n0 (Nat.le_trans Z0 KH3.1) H3q.2.1 H3q.2.2.1 H3q.2.2.2.1) hZ (hw _ (List.mem_of_getElem? (i := 26) rfl)) (hw _ (List.mem_of_getElem? (i := 2) rfl)) (by decide) (by decide)) q4a q4c (g := (mkF m 75 #[.val (.int i0), s1, .val (.ref o2), .val (.ref o3), .val (.int (0 : Int32)), .val (.int (1 : Int32)), .val (.int (1 : Int32)), s7, s8, s9, s10, s11] [(.ref o2)])) rfl (by rw [hml]; rfl) (Steps.refl _) (argsL := []) (rest := []) (lenOf pd_0_3 rfl) rfl (by show 2 * 0 + _ ≤ _; exact Nat.le_of_eq rfl) (hb hby at_75) (fun _ _ => ⟨rfl, rfl, (by decide : 2 + 0 + 0 ≤ _), (by decide : 10 + 0 + 0 ≤ _)⟩)
  dsimp only [Pt.U, Pt.locs, Pt.cells, Pt.slots] at X4 l4 y4 z4 st4 hQ4
  subst l4 y4 z4
  obtain ⟨rfl, N4q, e4q⟩ := hQ4
  have N4 := Fr.app N3 N4q
  have K4q : Keep T3.heap T4.heap [] := own_keep e4q
  have KH4 : Keep h0 T4.heap [o2] := KH3.trans K4q own_ws0
  have Hn4 := own_St_eq e4q H3q
  -- pc 84: com/example/orderly_tx/orderlytx/UnitStatus.isRollbackOnly by the contract of the body that the receiver's class selects, rm5
  obtain ⟨cq5, kq5, q5a, q5b, q5c⟩ := isOf hZ rfl ((E_o3.keep K3q).keep K4q)
  obtain ⟨_, _, ⟨T5, L5, k5, n5⟩, -, X5, ⟨Lc5, hQ5, l5, y5, z5⟩, st5⟩ := X4.virtualBack hx (y := (⟨"com/example/orderly_tx/orderlytx/UnitStatus", "isRollbackOnly", "()Z"⟩ : MethodName)) (z := (⟨"com/example/orderly_tx/orderlytx/UnitStatus", "isRollbackOnly", "()Z"⟩ : MethodName)) hown (mvT hZ (hw _ (List.mem_of_getElem? (i := 22) rfl))) (mvT hZ (hw _ (List.mem_of_getElem? (i := 23) rfl))) (notFace_of_selects (args := #[]) (mvT hZ (hw _ (List.mem_of_getElem? (i := 25) rfl)))) (mvT hZ (hw _ (List.mem_of_getElem? (i := 25) rfl))) (mvT hZ (hw _ (List.mem_of_getElem? (i := 24) rfl))) (by decide) (backOf (W := 0) (rm5p l Z a0 hw [] o3 o2 (0 : Int32) (1 : Int32) T4.heap n0 (Nat.le_trans Z0 KH4.1) Hn4.2.2.2.2.2.2 Hn4.1 Hn4.2.1 Hn4.2.2.1 Hn4.2.2.2.1) hZ (hw _ (List.mem_of_getElem? (i := 26) rfl)) (hw _ (List.mem_of_getElem? (i := 2) rfl)) (by decide) (by decide)) q5a q5c (g := (mkF m 84 #[.val (.int i0), s1, .val (.ref o2), .val (.ref o3), .val (.int (0 : Int32)), .val (.int (1 : Int32)), .val (.int (1 : Int32)), s7, s8, s9, s10, s11] [(.ref o3)])) rfl (by rw [hml]; rfl) (Steps.refl _) (argsL := []) (rest := []) (lenOf pd_0_3 rfl) rfl (by show 2 * 0 + _ ≤ _; exact Nat.le_of_eq rfl) (hb hby at_84) (fun _ _ => ⟨rfl, rfl, (by decide : 2 + 0 + 0 ≤ _), (by decide : 10 + 0 + 0 ≤ _)⟩)
  dsimp only [Pt.U, Pt.locs, Pt.cells, Pt.slots] at X5 l5 y5 z5 st5 hQ5
  subst l5 y5 z5
  obtain ⟨rfl, N5q, e5q⟩ := hQ5
  have N5 := Fr.app N4 N5q
  have K5q : Keep T4.heap T5.heap [] := own_keep e5q
  have KH5 : Keep h0 T5.heap [o2] := KH4.trans K5q own_ws0
  have Hn5 := own_St_eq e5q Hn4
  refine ⟨T5, _, _, (0 : Int32), (1 : Int32), (0 : Int32), (1 : Int32), (1 : Int32), X5, rfl, N5, (Nat.le_trans Z0 KH5.1), (by decide), Hn5, fun target kt => ?_⟩
  -- 4. STEPS
  show Steps p.tables e below (T0.setTop (mkF m 13 #[.val (.int i0), s1, .val (.ref o2), .val (.ref o3), s4, s5, s6, s7, s8, s9, s10, s11] [])) _
  refine XS.iloadN X0.here hx rfl (hb hby at_13) rfl ?_
  show Steps p.tables e below (T0.setTop (mkF m 14 #[.val (.int i0), s1, .val (.ref o2), .val (.ref o3), s4, s5, s6, s7, s8, s9, s10, s11] [(.int i0)])) _
  refine XS.iconst X0.here hx rfl (hb hby at_14) ?_
  show Steps p.tables e below (T0.setTop (mkF m 15 #[.val (.int i0), s1, .val (.ref o2), .val (.ref o3), s4, s5, s6, s7, s8, s9, s10, s11] [(.int (1 : Int32)), (.int i0)])) _
  refine XS.iand X0.here hx rfl (hb hby at_15) rfl ?_
  show Steps p.tables e below (T0.setTop (mkF m 16 #[.val (.int i0), s1, .val (.ref o2), .val (.ref o3), s4, s5, s6, s7, s8, s9, s10, s11] [(.int (i0 &&& (1 : Int32)))])) _
  refine XS.ifYes X0.here hx rfl (pc0 := 16) (pc' := 23) rfl (hb hby at_16) rfl ((if0 _ _).trans (teq hc16).1) (by decide) (by decide) ?_
  show Steps p.tables e below (T0.setTop (mkF m 23 #[.val (.int i0), s1, .val (.ref o2), .val (.ref o3), s4, s5, s6, s7, s8, s9, s10, s11] [])) _
  refine XS.iconst X0.here hx rfl (hb hby at_23) ?_
  show Steps p.tables e below (T0.setTop (mkF m 24 #[.val (.int i0), s1, .val (.ref o2), .val (.ref o3), s4, s5, s6, s7, s8, s9, s10, s11] [(.int (0 : Int32))])) _
  refine XS.istore X0.here hx rfl (hb hby at_24) rfl (l' := #[.val (.int i0), s1, .val (.ref o2), .val (.ref o3), .val (.int (0 : Int32)), s5, s6, s7, s8, s9, s10, s11]) (os0_24 hs4) ?_
  show Steps p.tables e below (T0.setTop (mkF m 26 #[.val (.int i0), s1, .val (.ref o2), .val (.ref o3), .val (.int (0 : Int32)), s5, s6, s7, s8, s9, s10, s11] [])) _
  refine XS.iloadN X0.here hx rfl (hb hby at_26) rfl ?_
  show Steps p.tables e below (T0.setTop (mkF m 27 #[.val (.int i0), s1, .val (.ref o2), .val (.ref o3), .val (.int (0 : Int32)), s5, s6, s7, s8, s9, s10, s11] [(.int i0)])) _
  refine XS.iconst X0.here hx rfl (hb hby at_27) ?_
  show Steps p.tables e below (T0.setTop (mkF m 28 #[.val (.int i0), s1, .val (.ref o2), .val (.ref o3), .val (.int (0 : Int32)), s5, s6, s7, s8, s9, s10, s11] [(.int (2 : Int32)), (.int i0)])) _
  refine XS.iand X0.here hx rfl (hb hby at_28) rfl ?_
  show Steps p.tables e below (T0.setTop (mkF m 29 #[.val (.int i0), s1, .val (.ref o2), .val (.ref o3), .val (.int (0 : Int32)), s5, s6, s7, s8, s9, s10, s11] [(.int (i0 &&& (2 : Int32)))])) _
  refine XS.ifNo X0.here hx rfl (hb hby at_29) rfl ((if0 _ _).trans (feq hc29).1) ?_
  show Steps p.tables e below (T0.setTop (mkF m 32 #[.val (.int i0), s1, .val (.ref o2), .val (.ref o3), .val (.int (0 : Int32)), s5, s6, s7, s8, s9, s10, s11] [])) _
  refine XS.iconst X0.here hx rfl (hb hby at_32) ?_
  show Steps p.tables e below (T0.setTop (mkF m 33 #[.val (.int i0), s1, .val (.ref o2), .val (.ref o3), .val (.int (0 : Int32)), s5, s6, s7, s8, s9, s10, s11] [(.int (1 : Int32))])) _
  refine XS.goto X0.here hx rfl (pc0 := 33) (pc' := 37) rfl (hb hby at_33) (by decide) (by decide) ?_
  show Steps p.tables e below (T0.setTop (mkF m 37 #[.val (.int i0), s1, .val (.ref o2), .val (.ref o3), .val (.int (0 : Int32)), s5, s6, s7, s8, s9, s10, s11] [(.int (1 : Int32))])) _
  refine XS.istore X0.here hx rfl (hb hby at_37) rfl (l' := #[.val (.int i0), s1, .val (.ref o2), .val (.ref o3), .val (.int (0 : Int32)), .val (.int (1 : Int32)), s6, s7, s8, s9, s10, s11]) (os0_37 hs5) ?_
  show Steps p.tables e below (T0.setTop (mkF m 39 #[.val (.int i0), s1, .val (.ref o2), .val (.ref o3), .val (.int (0 : Int32)), .val (.int (1 : Int32)), s6, s7, s8, s9, s10, s11] [])) _
  refine XS.iload X0.here hx rfl (hb hby at_39) rfl ?_
  show Steps p.tables e below (T0.setTop (mkF m 41 #[.val (.int i0), s1, .val (.ref o2), .val (.ref o3), .val (.int (0 : Int32)), .val (.int (1 : Int32)), s6, s7, s8, s9, s10, s11] [(.int (0 : Int32))])) _
  refine XS.ifYes X0.here hx rfl (pc0 := 41) (pc' := 48) rfl (hb hby at_41) rfl ((if0 _ _).trans (teq (rfl : (0 : Int32) = (0 : Int32))).1) (by decide) (by decide) ?_
  show Steps p.tables e below (T0.setTop (mkF m 48 #[.val (.int i0), s1, .val (.ref o2), .val (.ref o3), .val (.int (0 : Int32)), .val (.int (1 : Int32)), s6, s7, s8, s9, s10, s11] [])) _
  refine XS.iload X0.here hx rfl (hb hby at_48) rfl ?_
  show Steps p.tables e below (T0.setTop (mkF m 50 #[.val (.int i0), s1, .val (.ref o2), .val (.ref o3), .val (.int (0 : Int32)), .val (.int (1 : Int32)), s6, s7, s8, s9, s10, s11] [(.int (1 : Int32))])) _
  refine XS.ifNo X0.here hx rfl (hb hby at_50) rfl ((if0 _ _).trans (feq hc50).1) ?_
  show Steps p.tables e below (T0.setTop (mkF m 53 #[.val (.int i0), s1, .val (.ref o2), .val (.ref o3), .val (.int (0 : Int32)), .val (.int (1 : Int32)), s6, s7, s8, s9, s10, s11] [])) _
  refine XS.aloadN X0.here hx rfl (hb hby at_53) rfl rfl ?_
  show Steps p.tables e below (T0.setTop (mkF m 54 #[.val (.int i0), s1, .val (.ref o2), .val (.ref o3), .val (.int (0 : Int32)), .val (.int (1 : Int32)), s6, s7, s8, s9, s10, s11] [(.ref o3)])) _
  refine st3.trans ?_
  show Steps p.tables e below (T3.setTop (mkF m 57 #[.val (.int i0), s1, .val (.ref o2), .val (.ref o3), .val (.int (0 : Int32)), .val (.int (1 : Int32)), s6, s7, s8, s9, s10, s11] [])) _
  refine XS.iload X3.here hx rfl (hb hby at_57) rfl ?_
  show Steps p.tables e below (T3.setTop (mkF m 59 #[.val (.int i0), s1, .val (.ref o2), .val (.ref o3), .val (.int (0 : Int32)), .val (.int (1 : Int32)), s6, s7, s8, s9, s10, s11] [(.int (0 : Int32))])) _
  refine XS.ifNo X3.here hx rfl (hb hby at_59) rfl ((if0 _ _).trans (teq (rfl : (0 : Int32) = (0 : Int32))).2) ?_
  show Steps p.tables e below (T3.setTop (mkF m 62 #[.val (.int i0), s1, .val (.ref o2), .val (.ref o3), .val (.int (0 : Int32)), .val (.int (1 : Int32)), s6, s7, s8, s9, s10, s11] [])) _
  refine XS.iload X3.here hx rfl (hb hby at_62) rfl ?_
  show Steps p.tables e below (T3.setTop (mkF m 64 #[.val (.int i0), s1, .val (.ref o2), .val (.ref o3), .val (.int (0 : Int32)), .val (.int (1 : Int32)), s6, s7, s8, s9, s10, s11] [(.int (1 : Int32))])) _
  refine XS.ifNo X3.here hx rfl (hb hby at_64) rfl ((if0 _ _).trans (feq hc64).1) ?_
  show Steps p.tables e below (T3.setTop (mkF m 67 #[.val (.int i0), s1, .val (.ref o2), .val (.ref o3), .val (.int (0 : Int32)), .val (.int (1 : Int32)), s6, s7, s8, s9, s10, s11] [])) _
  refine XS.iconst X3.here hx rfl (hb hby at_67) ?_
  show Steps p.tables e below (T3.setTop (mkF m 68 #[.val (.int i0), s1, .val (.ref o2), .val (.ref o3), .val (.int (0 : Int32)), .val (.int (1 : Int32)), s6, s7, s8, s9, s10, s11] [(.int (1 : Int32))])) _
  refine XS.goto X3.here hx rfl (pc0 := 68) (pc' := 72) rfl (hb hby at_68) (by decide) (by decide) ?_
  show Steps p.tables e below (T3.setTop (mkF m 72 #[.val (.int i0), s1, .val (.ref o2), .val (.ref o3), .val (.int (0 : Int32)), .val (.int (1 : Int32)), s6, s7, s8, s9, s10, s11] [(.int (1 : Int32))])) _
  refine XS.istore X3.here hx rfl (hb hby at_72) rfl (l' := #[.val (.int i0), s1, .val (.ref o2), .val (.ref o3), .val (.int (0 : Int32)), .val (.int (1 : Int32)), .val (.int (1 : Int32)), s7, s8, s9, s10, s11]) (os0_72 hs6) ?_
  show Steps p.tables e below (T3.setTop (mkF m 74 #[.val (.int i0), s1, .val (.ref o2), .val (.ref o3), .val (.int (0 : Int32)), .val (.int (1 : Int32)), .val (.int (1 : Int32)), s7, s8, s9, s10, s11] [])) _
  refine XS.aloadN X3.here hx rfl (hb hby at_74) rfl rfl ?_
  show Steps p.tables e below (T3.setTop (mkF m 75 #[.val (.int i0), s1, .val (.ref o2), .val (.ref o3), .val (.int (0 : Int32)), .val (.int (1 : Int32)), .val (.int (1 : Int32)), s7, s8, s9, s10, s11] [(.ref o2)])) _
  refine st4.trans ?_
  show Steps p.tables e below (T4.setTop (mkF m 78 #[.val (.int i0), s1, .val (.ref o2), .val (.ref o3), .val (.int (0 : Int32)), .val (.int (1 : Int32)), .val (.int (1 : Int32)), s7, s8, s9, s10, s11] [(.int (own_f5 (0 : Int32) (1 : Int32)))])) _
  refine XS.iload X4.here hx rfl (hb hby at_78) rfl ?_
  show Steps p.tables e below (T4.setTop (mkF m 80 #[.val (.int i0), s1, .val (.ref o2), .val (.ref o3), .val (.int (0 : Int32)), .val (.int (1 : Int32)), .val (.int (1 : Int32)), s7, s8, s9, s10, s11] [(.int (1 : Int32)), (.int (own_f5 (0 : Int32) (1 : Int32)))])) _
  refine XS.icmpNo X4.here hx rfl (hb hby at_80) rfl (teq ht80).2 ?_
  show Steps p.tables e below (T4.setTop (mkF m 83 #[.val (.int i0), s1, .val (.ref o2), .val (.ref o3), .val (.int (0 : Int32)), .val (.int (1 : Int32)), .val (.int (1 : Int32)), s7, s8, s9, s10, s11] [])) _
  refine XS.aloadN X4.here hx rfl (hb hby at_83) rfl rfl ?_
  show Steps p.tables e below (T4.setTop (mkF m 84 #[.val (.int i0), s1, .val (.ref o2), .val (.ref o3), .val (.int (0 : Int32)), .val (.int (1 : Int32)), .val (.int (1 : Int32)), s7, s8, s9, s10, s11] [(.ref o3)])) _
  refine st5.trans ?_
  show Steps p.tables e below (T5.setTop (mkF m 87 #[.val (.int i0), s1, .val (.ref o2), .val (.ref o3), .val (.int (0 : Int32)), .val (.int (1 : Int32)), .val (.int (1 : Int32)), s7, s8, s9, s10, s11] [(.int (own_f5 (0 : Int32) (1 : Int32)))])) _
  refine XS.iload X5.here hx rfl (hb hby at_87) rfl ?_
  show Steps p.tables e below (T5.setTop (mkF m 89 #[.val (.int i0), s1, .val (.ref o2), .val (.ref o3), .val (.int (0 : Int32)), .val (.int (1 : Int32)), .val (.int (1 : Int32)), s7, s8, s9, s10, s11] [(.int (1 : Int32)), (.int (own_f5 (0 : Int32) (1 : Int32)))])) _
  refine XS.icmpNo X5.here hx rfl (hb hby at_89) rfl (teq ht89).2 ?_
  show Steps p.tables e below (T5.setTop (mkF m 92 #[.val (.int i0), s1, .val (.ref o2), .val (.ref o3), .val (.int (0 : Int32)), .val (.int (1 : Int32)), .val (.int (1 : Int32)), s7, s8, s9, s10, s11] [])) _
  refine XS.iconst X5.here hx rfl (hb hby at_92) ?_
  show Steps p.tables e below (T5.setTop (mkF m 93 #[.val (.int i0), s1, .val (.ref o2), .val (.ref o3), .val (.int (0 : Int32)), .val (.int (1 : Int32)), .val (.int (1 : Int32)), s7, s8, s9, s10, s11] [(.int (1 : Int32))])) _
  refine XS.goto X5.here hx rfl (pc0 := 93) (pc' := 97) rfl (hb hby at_93) (by decide) (by decide) ?_
  show Steps p.tables e below (T5.setTop (mkF m 97 #[.val (.int i0), s1, .val (.ref o2), .val (.ref o3), .val (.int (0 : Int32)), .val (.int (1 : Int32)), .val (.int (1 : Int32)), s7, s8, s9, s10, s11] [(.int (1 : Int32))])) _
  refine XS.istore X5.here hx rfl (hb hby at_97) rfl (l' := #[.val (.int i0), s1, .val (.ref o2), .val (.ref o3), .val (.int (0 : Int32)), .val (.int (1 : Int32)), .val (.int (1 : Int32)), .val (.int (1 : Int32)), s8, s9, s10, s11]) (os0_97 hs7) ?_
  exact kt
set_option maxRecDepth 65536 in
set_option maxHeartbeats 40000000 in
theorem own_p1_10 {p : Program} {l : Launch} {e : Env} {s : State} {m : MethodId} {args : Array Value} {below : List Frame} {meth : Method} {c : Code} {T0 : State} {locs : List Loc} {Z : State} {a0 : Array Value} {h0 : Heap} {n0 : Nat} (i0 : Int32) (s1 : Slot) (o2 : Addr) (o3 : Addr) (s4 : Slot) (s5 : Slot) (s6 : Slot) (s7 : Slot) (s8 : Slot) (s9 : Slot) (s10 : Slot) (s11 : Slot)
    (X0 : Stand p l e room_1 s m args below meth c T0 locs 2 10) (hx : p.tables.exec = Jvm.exec) (hZ : Z.Warmed39 s.vm) (hw : ∀ d ∈ tables_1, d.before a0 Z = true) (hby : c.code = code) (hml : c.maxLocals = 12) (hown : s.vm.findClass "com/example/orderly_tx/orderlytx/UnitStatusIsRollbackOnlyPinLaw" = some m.cls) (e0 : T0.heap = h0) (N0 : Fr n0 locs) (Z0 : n0 ≤ h0.size) (Hst : own_St Z h0 o2 o3 (0 : Int32) (0 : Int32)) (g_o2 : n0 ≤ o2) (nep : o3 ≠ o2) (hs4 : One s4) (hs5 : One s5) (hs6 : One s6) (hs7 : One s7) (hc16 : ¬ ((i0 &&& (1 : Int32)) = (0 : Int32))) (hc29 : (i0 &&& (2 : Int32)) = (0 : Int32)) (hc41 : ¬ ((1 : Int32) = (0 : Int32))) (hc59 : ¬ ((1 : Int32) = (0 : Int32))) (ht80 : (own_f5 (1 : Int32) (0 : Int32)) = (1 : Int32)) (ht89 : (own_f5 (1 : Int32) (0 : Int32)) = (1 : Int32)) :
    ∃ (T' : State) (h' : Heap) (locs' : List Loc) (r f x4 x5 x6 : Int32), Stand p l e room_1 s m args below meth c T' locs' 2 10 ∧ T'.heap = h' ∧ Fr n0 locs' ∧ n0 ≤ h'.size ∧ x6 = own_f5 r f ∧ own_St Z h' o2 o3 r f ∧ ∀ target, Steps p.tables e below (T'.setTop (mkF m 99 #[.val (.int i0), s1, .val (.ref o2), .val (.ref o3), .val (.int x4), .val (.int x5), .val (.int x6), .val (.int (1 : Int32)), s8, s9, s10, s11] [])) target → Steps p.tables e below (T0.setTop (mkF m 13 #[.val (.int i0), s1, .val (.ref o2), .val (.ref o3), s4, s5, s6, s7, s8, s9, s10, s11] [])) target := by
  have E_o2 := Hst.1
  have E_o3 := Hst.2.2.2.2.2.1
  -- 3. LAWS
  -- pc 45: com/example/orderly_tx/orderlytx/UnitStatus.setRollbackOnly by the contract of the body that the receiver's class selects, rm8
  obtain ⟨cq3, kq3, q3a, q3b, q3c⟩ := isOf hZ e0 E_o2
  obtain ⟨_, _, ⟨T3, L3, k3, n3⟩, -, X3, ⟨Lc3, hQ3, l3, y3, z3⟩, st3⟩ := X0.virtualBack hx (y := (⟨"com/example/orderly_tx/orderlytx/UnitStatus", "setRollbackOnly", "()V"⟩ : MethodName)) (z := (⟨"com/example/orderly_tx/orderlytx/UnitStatus", "setRollbackOnly", "()V"⟩ : MethodName)) hown (mvT hZ (hw _ (List.mem_of_getElem? (i := 44) rfl))) (mvT hZ (hw _ (List.mem_of_getElem? (i := 45) rfl))) (notFace_of_selects (args := #[]) (mvT hZ (hw _ (List.mem_of_getElem? (i := 47) rfl)))) (mvT hZ (hw _ (List.mem_of_getElem? (i := 47) rfl))) (mvT hZ (hw _ (List.mem_of_getElem? (i := 46) rfl))) (by decide) (backOf (W := 0) (rm8s l Z a0 hw [] o2 o3 (0 : Int32) (0 : Int32) h0 n0 Z0 Hst g_o2 nep) hZ (hw _ (List.mem_of_getElem? (i := 48) rfl)) (hw _ (List.mem_of_getElem? (i := 2) rfl)) (by decide) (by decide)) q3a q3c (g := (mkF m 45 #[.val (.int i0), s1, .val (.ref o2), .val (.ref o3), .val (.int (1 : Int32)), .val (.int (0 : Int32)), s6, s7, s8, s9, s10, s11] [(.ref o2)])) rfl (by rw [hml]; rfl) (Steps.refl _) (argsL := []) (rest := []) (lenOf pd_0_0 rfl) rfl (by show 2 * 0 + _ ≤ _; exact Nat.le_of_eq rfl) (hb hby at_45) (fun _ _ => ⟨rfl, e0, (by decide : 2 + 0 + 0 ≤ _), (by decide : 10 + 0 + 0 ≤ _)⟩)
  dsimp only [Pt.U, Pt.locs, Pt.cells, Pt.slots] at X3 l3 y3 z3 st3 hQ3
  subst l3 y3 z3
  obtain ⟨rfl, N3q, K3q, H3q⟩ := hQ3
  have N3 := Fr.app N0 N3q
  have KH3 : Keep h0 T3.heap [o2] := (Keep.refl h0 [o2]).trans K3q (fun x hx => Or.inl hx)
  -- pc 75: com/example/orderly_tx/orderlytx/UnitStatus.isRollbackOnly by the contract of the body that the receiver's class selects, rm5
  obtain ⟨cq4, kq4, q4a, q4b, q4c⟩ := isOf hZ rfl (E_o2.keep K3q)
  obtain ⟨_, _, ⟨T4, L4, k4, n4⟩, -, X4, ⟨Lc4, hQ4, l4, y4, z4⟩, st4⟩ := X3.virtualBack hx (y := (⟨"com/example/orderly_tx/orderlytx/UnitStatus", "isRollbackOnly", "()Z"⟩ : MethodName)) (z := (⟨"com/example/orderly_tx/orderlytx/UnitStatus", "isRollbackOnly", "()Z"⟩ : MethodName)) hown (mvT hZ (hw _ (List.mem_of_getElem? (i := 22) rfl))) (mvT hZ (hw _ (List.mem_of_getElem? (i := 23) rfl))) (notFace_of_selects (args := #[]) (mvT hZ (hw _ (List.mem_of_getElem? (i := 25) rfl)))) (mvT hZ (hw _ (List.mem_of_getElem? (i := 25) rfl))) (mvT hZ (hw _ (List.mem_of_getElem? (i := 24) rfl))) (by decide) (backOf (W := 0) (rm5 l Z a0 hw [] o2 (1 : Int32) (0 : Int32) T3.heap n0 (Nat.le_trans Z0 KH3.1) H3q.2.1 H3q.2.2.1 H3q.2.2.2.1) hZ (hw _ (List.mem_of_getElem? (i := 26) rfl)) (hw _ (List.mem_of_getElem? (i := 2) rfl)) (by decide) (by decide)) q4a q4c (g := (mkF m 75 #[.val (.int i0), s1, .val (.ref o2), .val (.ref o3), .val (.int (1 : Int32)), .val (.int (0 : Int32)), .val (.int (1 : Int32)), s7, s8, s9, s10, s11] [(.ref o2)])) rfl (by rw [hml]; rfl) (Steps.refl _) (argsL := []) (rest := []) (lenOf pd_0_3 rfl) rfl (by show 2 * 0 + _ ≤ _; exact Nat.le_of_eq rfl) (hb hby at_75) (fun _ _ => ⟨rfl, rfl, (by decide : 2 + 0 + 0 ≤ _), (by decide : 10 + 0 + 0 ≤ _)⟩)
  dsimp only [Pt.U, Pt.locs, Pt.cells, Pt.slots] at X4 l4 y4 z4 st4 hQ4
  subst l4 y4 z4
  obtain ⟨rfl, N4q, e4q⟩ := hQ4
  have N4 := Fr.app N3 N4q
  have K4q : Keep T3.heap T4.heap [] := own_keep e4q
  have KH4 : Keep h0 T4.heap [o2] := KH3.trans K4q own_ws0
  have Hn4 := own_St_eq e4q H3q
  -- pc 84: com/example/orderly_tx/orderlytx/UnitStatus.isRollbackOnly by the contract of the body that the receiver's class selects, rm5
  obtain ⟨cq5, kq5, q5a, q5b, q5c⟩ := isOf hZ rfl ((E_o3.keep K3q).keep K4q)
  obtain ⟨_, _, ⟨T5, L5, k5, n5⟩, -, X5, ⟨Lc5, hQ5, l5, y5, z5⟩, st5⟩ := X4.virtualBack hx (y := (⟨"com/example/orderly_tx/orderlytx/UnitStatus", "isRollbackOnly", "()Z"⟩ : MethodName)) (z := (⟨"com/example/orderly_tx/orderlytx/UnitStatus", "isRollbackOnly", "()Z"⟩ : MethodName)) hown (mvT hZ (hw _ (List.mem_of_getElem? (i := 22) rfl))) (mvT hZ (hw _ (List.mem_of_getElem? (i := 23) rfl))) (notFace_of_selects (args := #[]) (mvT hZ (hw _ (List.mem_of_getElem? (i := 25) rfl)))) (mvT hZ (hw _ (List.mem_of_getElem? (i := 25) rfl))) (mvT hZ (hw _ (List.mem_of_getElem? (i := 24) rfl))) (by decide) (backOf (W := 0) (rm5p l Z a0 hw [] o3 o2 (1 : Int32) (0 : Int32) T4.heap n0 (Nat.le_trans Z0 KH4.1) Hn4.2.2.2.2.2.2 Hn4.1 Hn4.2.1 Hn4.2.2.1 Hn4.2.2.2.1) hZ (hw _ (List.mem_of_getElem? (i := 26) rfl)) (hw _ (List.mem_of_getElem? (i := 2) rfl)) (by decide) (by decide)) q5a q5c (g := (mkF m 84 #[.val (.int i0), s1, .val (.ref o2), .val (.ref o3), .val (.int (1 : Int32)), .val (.int (0 : Int32)), .val (.int (1 : Int32)), s7, s8, s9, s10, s11] [(.ref o3)])) rfl (by rw [hml]; rfl) (Steps.refl _) (argsL := []) (rest := []) (lenOf pd_0_3 rfl) rfl (by show 2 * 0 + _ ≤ _; exact Nat.le_of_eq rfl) (hb hby at_84) (fun _ _ => ⟨rfl, rfl, (by decide : 2 + 0 + 0 ≤ _), (by decide : 10 + 0 + 0 ≤ _)⟩)
  dsimp only [Pt.U, Pt.locs, Pt.cells, Pt.slots] at X5 l5 y5 z5 st5 hQ5
  subst l5 y5 z5
  obtain ⟨rfl, N5q, e5q⟩ := hQ5
  have N5 := Fr.app N4 N5q
  have K5q : Keep T4.heap T5.heap [] := own_keep e5q
  have KH5 : Keep h0 T5.heap [o2] := KH4.trans K5q own_ws0
  have Hn5 := own_St_eq e5q Hn4
  refine ⟨T5, _, _, (1 : Int32), (0 : Int32), (1 : Int32), (0 : Int32), (1 : Int32), X5, rfl, N5, (Nat.le_trans Z0 KH5.1), (by decide), Hn5, fun target kt => ?_⟩
  -- 4. STEPS
  show Steps p.tables e below (T0.setTop (mkF m 13 #[.val (.int i0), s1, .val (.ref o2), .val (.ref o3), s4, s5, s6, s7, s8, s9, s10, s11] [])) _
  refine XS.iloadN X0.here hx rfl (hb hby at_13) rfl ?_
  show Steps p.tables e below (T0.setTop (mkF m 14 #[.val (.int i0), s1, .val (.ref o2), .val (.ref o3), s4, s5, s6, s7, s8, s9, s10, s11] [(.int i0)])) _
  refine XS.iconst X0.here hx rfl (hb hby at_14) ?_
  show Steps p.tables e below (T0.setTop (mkF m 15 #[.val (.int i0), s1, .val (.ref o2), .val (.ref o3), s4, s5, s6, s7, s8, s9, s10, s11] [(.int (1 : Int32)), (.int i0)])) _
  refine XS.iand X0.here hx rfl (hb hby at_15) rfl ?_
  show Steps p.tables e below (T0.setTop (mkF m 16 #[.val (.int i0), s1, .val (.ref o2), .val (.ref o3), s4, s5, s6, s7, s8, s9, s10, s11] [(.int (i0 &&& (1 : Int32)))])) _
  refine XS.ifNo X0.here hx rfl (hb hby at_16) rfl ((if0 _ _).trans (feq hc16).1) ?_
  show Steps p.tables e below (T0.setTop (mkF m 19 #[.val (.int i0), s1, .val (.ref o2), .val (.ref o3), s4, s5, s6, s7, s8, s9, s10, s11] [])) _
  refine XS.iconst X0.here hx rfl (hb hby at_19) ?_
  show Steps p.tables e below (T0.setTop (mkF m 20 #[.val (.int i0), s1, .val (.ref o2), .val (.ref o3), s4, s5, s6, s7, s8, s9, s10, s11] [(.int (1 : Int32))])) _
  refine XS.goto X0.here hx rfl (pc0 := 20) (pc' := 24) rfl (hb hby at_20) (by decide) (by decide) ?_
  show Steps p.tables e below (T0.setTop (mkF m 24 #[.val (.int i0), s1, .val (.ref o2), .val (.ref o3), s4, s5, s6, s7, s8, s9, s10, s11] [(.int (1 : Int32))])) _
  refine XS.istore X0.here hx rfl (hb hby at_24) rfl (l' := #[.val (.int i0), s1, .val (.ref o2), .val (.ref o3), .val (.int (1 : Int32)), s5, s6, s7, s8, s9, s10, s11]) (os0_24 hs4) ?_
  show Steps p.tables e below (T0.setTop (mkF m 26 #[.val (.int i0), s1, .val (.ref o2), .val (.ref o3), .val (.int (1 : Int32)), s5, s6, s7, s8, s9, s10, s11] [])) _
  refine XS.iloadN X0.here hx rfl (hb hby at_26) rfl ?_
  show Steps p.tables e below (T0.setTop (mkF m 27 #[.val (.int i0), s1, .val (.ref o2), .val (.ref o3), .val (.int (1 : Int32)), s5, s6, s7, s8, s9, s10, s11] [(.int i0)])) _
  refine XS.iconst X0.here hx rfl (hb hby at_27) ?_
  show Steps p.tables e below (T0.setTop (mkF m 28 #[.val (.int i0), s1, .val (.ref o2), .val (.ref o3), .val (.int (1 : Int32)), s5, s6, s7, s8, s9, s10, s11] [(.int (2 : Int32)), (.int i0)])) _
  refine XS.iand X0.here hx rfl (hb hby at_28) rfl ?_
  show Steps p.tables e below (T0.setTop (mkF m 29 #[.val (.int i0), s1, .val (.ref o2), .val (.ref o3), .val (.int (1 : Int32)), s5, s6, s7, s8, s9, s10, s11] [(.int (i0 &&& (2 : Int32)))])) _
  refine XS.ifYes X0.here hx rfl (pc0 := 29) (pc' := 36) rfl (hb hby at_29) rfl ((if0 _ _).trans (teq hc29).1) (by decide) (by decide) ?_
  show Steps p.tables e below (T0.setTop (mkF m 36 #[.val (.int i0), s1, .val (.ref o2), .val (.ref o3), .val (.int (1 : Int32)), s5, s6, s7, s8, s9, s10, s11] [])) _
  refine XS.iconst X0.here hx rfl (hb hby at_36) ?_
  show Steps p.tables e below (T0.setTop (mkF m 37 #[.val (.int i0), s1, .val (.ref o2), .val (.ref o3), .val (.int (1 : Int32)), s5, s6, s7, s8, s9, s10, s11] [(.int (0 : Int32))])) _
  refine XS.istore X0.here hx rfl (hb hby at_37) rfl (l' := #[.val (.int i0), s1, .val (.ref o2), .val (.ref o3), .val (.int (1 : Int32)), .val (.int (0 : Int32)), s6, s7, s8, s9, s10, s11]) (os0_37 hs5) ?_
  show Steps p.tables e below (T0.setTop (mkF m 39 #[.val (.int i0), s1, .val (.ref o2), .val (.ref o3), .val (.int (1 : Int32)), .val (.int (0 : Int32)), s6, s7, s8, s9, s10, s11] [])) _
  refine XS.iload X0.here hx rfl (hb hby at_39) rfl ?_
  show Steps p.tables e below (T0.setTop (mkF m 41 #[.val (.int i0), s1, .val (.ref o2), .val (.ref o3), .val (.int (1 : Int32)), .val (.int (0 : Int32)), s6, s7, s8, s9, s10, s11] [(.int (1 : Int32))])) _
  refine XS.ifNo X0.here hx rfl (hb hby at_41) rfl ((if0 _ _).trans (feq hc41).1) ?_
  show Steps p.tables e below (T0.setTop (mkF m 44 #[.val (.int i0), s1, .val (.ref o2), .val (.ref o3), .val (.int (1 : Int32)), .val (.int (0 : Int32)), s6, s7, s8, s9, s10, s11] [])) _
  refine XS.aloadN X0.here hx rfl (hb hby at_44) rfl rfl ?_
  show Steps p.tables e below (T0.setTop (mkF m 45 #[.val (.int i0), s1, .val (.ref o2), .val (.ref o3), .val (.int (1 : Int32)), .val (.int (0 : Int32)), s6, s7, s8, s9, s10, s11] [(.ref o2)])) _
  refine st3.trans ?_
  show Steps p.tables e below (T3.setTop (mkF m 48 #[.val (.int i0), s1, .val (.ref o2), .val (.ref o3), .val (.int (1 : Int32)), .val (.int (0 : Int32)), s6, s7, s8, s9, s10, s11] [])) _
  refine XS.iload X3.here hx rfl (hb hby at_48) rfl ?_
  show Steps p.tables e below (T3.setTop (mkF m 50 #[.val (.int i0), s1, .val (.ref o2), .val (.ref o3), .val (.int (1 : Int32)), .val (.int (0 : Int32)), s6, s7, s8, s9, s10, s11] [(.int (0 : Int32))])) _
  refine XS.ifYes X3.here hx rfl (pc0 := 50) (pc' := 57) rfl (hb hby at_50) rfl ((if0 _ _).trans (teq (rfl : (0 : Int32) = (0 : Int32))).1) (by decide) (by decide) ?_
  show Steps p.tables e below (T3.setTop (mkF m 57 #[.val (.int i0), s1, .val (.ref o2), .val (.ref o3), .val (.int (1 : Int32)), .val (.int (0 : Int32)), s6, s7, s8, s9, s10, s11] [])) _
  refine XS.iload X3.here hx rfl (hb hby at_57) rfl ?_
  show Steps p.tables e below (T3.setTop (mkF m 59 #[.val (.int i0), s1, .val (.ref o2), .val (.ref o3), .val (.int (1 : Int32)), .val (.int (0 : Int32)), s6, s7, s8, s9, s10, s11] [(.int (1 : Int32))])) _
  refine XS.ifYes X3.here hx rfl (pc0 := 59) (pc' := 67) rfl (hb hby at_59) rfl ((if0 _ _).trans (feq hc59).2) (by decide) (by decide) ?_
  show Steps p.tables e below (T3.setTop (mkF m 67 #[.val (.int i0), s1, .val (.ref o2), .val (.ref o3), .val (.int (1 : Int32)), .val (.int (0 : Int32)), s6, s7, s8, s9, s10, s11] [])) _
  refine XS.iconst X3.here hx rfl (hb hby at_67) ?_
  show Steps p.tables e below (T3.setTop (mkF m 68 #[.val (.int i0), s1, .val (.ref o2), .val (.ref o3), .val (.int (1 : Int32)), .val (.int (0 : Int32)), s6, s7, s8, s9, s10, s11] [(.int (1 : Int32))])) _
  refine XS.goto X3.here hx rfl (pc0 := 68) (pc' := 72) rfl (hb hby at_68) (by decide) (by decide) ?_
  show Steps p.tables e below (T3.setTop (mkF m 72 #[.val (.int i0), s1, .val (.ref o2), .val (.ref o3), .val (.int (1 : Int32)), .val (.int (0 : Int32)), s6, s7, s8, s9, s10, s11] [(.int (1 : Int32))])) _
  refine XS.istore X3.here hx rfl (hb hby at_72) rfl (l' := #[.val (.int i0), s1, .val (.ref o2), .val (.ref o3), .val (.int (1 : Int32)), .val (.int (0 : Int32)), .val (.int (1 : Int32)), s7, s8, s9, s10, s11]) (os0_72 hs6) ?_
  show Steps p.tables e below (T3.setTop (mkF m 74 #[.val (.int i0), s1, .val (.ref o2), .val (.ref o3), .val (.int (1 : Int32)), .val (.int (0 : Int32)), .val (.int (1 : Int32)), s7, s8, s9, s10, s11] [])) _
  refine XS.aloadN X3.here hx rfl (hb hby at_74) rfl rfl ?_
  show Steps p.tables e below (T3.setTop (mkF m 75 #[.val (.int i0), s1, .val (.ref o2), .val (.ref o3), .val (.int (1 : Int32)), .val (.int (0 : Int32)), .val (.int (1 : Int32)), s7, s8, s9, s10, s11] [(.ref o2)])) _
  refine st4.trans ?_
  show Steps p.tables e below (T4.setTop (mkF m 78 #[.val (.int i0), s1, .val (.ref o2), .val (.ref o3), .val (.int (1 : Int32)), .val (.int (0 : Int32)), .val (.int (1 : Int32)), s7, s8, s9, s10, s11] [(.int (own_f5 (1 : Int32) (0 : Int32)))])) _
  refine XS.iload X4.here hx rfl (hb hby at_78) rfl ?_
  show Steps p.tables e below (T4.setTop (mkF m 80 #[.val (.int i0), s1, .val (.ref o2), .val (.ref o3), .val (.int (1 : Int32)), .val (.int (0 : Int32)), .val (.int (1 : Int32)), s7, s8, s9, s10, s11] [(.int (1 : Int32)), (.int (own_f5 (1 : Int32) (0 : Int32)))])) _
  refine XS.icmpNo X4.here hx rfl (hb hby at_80) rfl (teq ht80).2 ?_
  show Steps p.tables e below (T4.setTop (mkF m 83 #[.val (.int i0), s1, .val (.ref o2), .val (.ref o3), .val (.int (1 : Int32)), .val (.int (0 : Int32)), .val (.int (1 : Int32)), s7, s8, s9, s10, s11] [])) _
  refine XS.aloadN X4.here hx rfl (hb hby at_83) rfl rfl ?_
  show Steps p.tables e below (T4.setTop (mkF m 84 #[.val (.int i0), s1, .val (.ref o2), .val (.ref o3), .val (.int (1 : Int32)), .val (.int (0 : Int32)), .val (.int (1 : Int32)), s7, s8, s9, s10, s11] [(.ref o3)])) _
  refine st5.trans ?_
  show Steps p.tables e below (T5.setTop (mkF m 87 #[.val (.int i0), s1, .val (.ref o2), .val (.ref o3), .val (.int (1 : Int32)), .val (.int (0 : Int32)), .val (.int (1 : Int32)), s7, s8, s9, s10, s11] [(.int (own_f5 (1 : Int32) (0 : Int32)))])) _
  refine XS.iload X5.here hx rfl (hb hby at_87) rfl ?_
  show Steps p.tables e below (T5.setTop (mkF m 89 #[.val (.int i0), s1, .val (.ref o2), .val (.ref o3), .val (.int (1 : Int32)), .val (.int (0 : Int32)), .val (.int (1 : Int32)), s7, s8, s9, s10, s11] [(.int (1 : Int32)), (.int (own_f5 (1 : Int32) (0 : Int32)))])) _
  refine XS.icmpNo X5.here hx rfl (hb hby at_89) rfl (teq ht89).2 ?_
  show Steps p.tables e below (T5.setTop (mkF m 92 #[.val (.int i0), s1, .val (.ref o2), .val (.ref o3), .val (.int (1 : Int32)), .val (.int (0 : Int32)), .val (.int (1 : Int32)), s7, s8, s9, s10, s11] [])) _
  refine XS.iconst X5.here hx rfl (hb hby at_92) ?_
  show Steps p.tables e below (T5.setTop (mkF m 93 #[.val (.int i0), s1, .val (.ref o2), .val (.ref o3), .val (.int (1 : Int32)), .val (.int (0 : Int32)), .val (.int (1 : Int32)), s7, s8, s9, s10, s11] [(.int (1 : Int32))])) _
  refine XS.goto X5.here hx rfl (pc0 := 93) (pc' := 97) rfl (hb hby at_93) (by decide) (by decide) ?_
  show Steps p.tables e below (T5.setTop (mkF m 97 #[.val (.int i0), s1, .val (.ref o2), .val (.ref o3), .val (.int (1 : Int32)), .val (.int (0 : Int32)), .val (.int (1 : Int32)), s7, s8, s9, s10, s11] [(.int (1 : Int32))])) _
  refine XS.istore X5.here hx rfl (hb hby at_97) rfl (l' := #[.val (.int i0), s1, .val (.ref o2), .val (.ref o3), .val (.int (1 : Int32)), .val (.int (0 : Int32)), .val (.int (1 : Int32)), .val (.int (1 : Int32)), s8, s9, s10, s11]) (os0_97 hs7) ?_
  exact kt
set_option maxRecDepth 65536 in
set_option maxHeartbeats 40000000 in
theorem own_p1_11 {p : Program} {l : Launch} {e : Env} {s : State} {m : MethodId} {args : Array Value} {below : List Frame} {meth : Method} {c : Code} {T0 : State} {locs : List Loc} {Z : State} {a0 : Array Value} {h0 : Heap} {n0 : Nat} (i0 : Int32) (s1 : Slot) (o2 : Addr) (o3 : Addr) (s4 : Slot) (s5 : Slot) (s6 : Slot) (s7 : Slot) (s8 : Slot) (s9 : Slot) (s10 : Slot) (s11 : Slot)
    (X0 : Stand p l e room_1 s m args below meth c T0 locs 2 10) (hx : p.tables.exec = Jvm.exec) (hZ : Z.Warmed39 s.vm) (hw : ∀ d ∈ tables_1, d.before a0 Z = true) (hby : c.code = code) (hml : c.maxLocals = 12) (hown : s.vm.findClass "com/example/orderly_tx/orderlytx/UnitStatusIsRollbackOnlyPinLaw" = some m.cls) (e0 : T0.heap = h0) (N0 : Fr n0 locs) (Z0 : n0 ≤ h0.size) (Hst : own_St Z h0 o2 o3 (0 : Int32) (0 : Int32)) (g_o2 : n0 ≤ o2) (nep : o3 ≠ o2) (hs4 : One s4) (hs5 : One s5) (hs6 : One s6) (hs7 : One s7) (hc16 : ¬ ((i0 &&& (1 : Int32)) = (0 : Int32))) (hc29 : ¬ ((i0 &&& (2 : Int32)) = (0 : Int32))) (hc41 : ¬ ((1 : Int32) = (0 : Int32))) (hc50 : ¬ ((1 : Int32) = (0 : Int32))) (hc59 : ¬ ((1 : Int32) = (0 : Int32))) (ht80 : (own_f5 (1 : Int32) (1 : Int32)) = (1 : Int32)) (ht89 : (own_f5 (1 : Int32) (1 : Int32)) = (1 : Int32)) :
    ∃ (T' : State) (h' : Heap) (locs' : List Loc) (r f x4 x5 x6 : Int32), Stand p l e room_1 s m args below meth c T' locs' 2 10 ∧ T'.heap = h' ∧ Fr n0 locs' ∧ n0 ≤ h'.size ∧ x6 = own_f5 r f ∧ own_St Z h' o2 o3 r f ∧ ∀ target, Steps p.tables e below (T'.setTop (mkF m 99 #[.val (.int i0), s1, .val (.ref o2), .val (.ref o3), .val (.int x4), .val (.int x5), .val (.int x6), .val (.int (1 : Int32)), s8, s9, s10, s11] [])) target → Steps p.tables e below (T0.setTop (mkF m 13 #[.val (.int i0), s1, .val (.ref o2), .val (.ref o3), s4, s5, s6, s7, s8, s9, s10, s11] [])) target := by
  have E_o2 := Hst.1
  have E_o3 := Hst.2.2.2.2.2.1
  -- 3. LAWS
  -- pc 45: com/example/orderly_tx/orderlytx/UnitStatus.setRollbackOnly by the contract of the body that the receiver's class selects, rm8
  obtain ⟨cq3, kq3, q3a, q3b, q3c⟩ := isOf hZ e0 E_o2
  obtain ⟨_, _, ⟨T3, L3, k3, n3⟩, -, X3, ⟨Lc3, hQ3, l3, y3, z3⟩, st3⟩ := X0.virtualBack hx (y := (⟨"com/example/orderly_tx/orderlytx/UnitStatus", "setRollbackOnly", "()V"⟩ : MethodName)) (z := (⟨"com/example/orderly_tx/orderlytx/UnitStatus", "setRollbackOnly", "()V"⟩ : MethodName)) hown (mvT hZ (hw _ (List.mem_of_getElem? (i := 44) rfl))) (mvT hZ (hw _ (List.mem_of_getElem? (i := 45) rfl))) (notFace_of_selects (args := #[]) (mvT hZ (hw _ (List.mem_of_getElem? (i := 47) rfl)))) (mvT hZ (hw _ (List.mem_of_getElem? (i := 47) rfl))) (mvT hZ (hw _ (List.mem_of_getElem? (i := 46) rfl))) (by decide) (backOf (W := 0) (rm8s l Z a0 hw [] o2 o3 (0 : Int32) (0 : Int32) h0 n0 Z0 Hst g_o2 nep) hZ (hw _ (List.mem_of_getElem? (i := 48) rfl)) (hw _ (List.mem_of_getElem? (i := 2) rfl)) (by decide) (by decide)) q3a q3c (g := (mkF m 45 #[.val (.int i0), s1, .val (.ref o2), .val (.ref o3), .val (.int (1 : Int32)), .val (.int (1 : Int32)), s6, s7, s8, s9, s10, s11] [(.ref o2)])) rfl (by rw [hml]; rfl) (Steps.refl _) (argsL := []) (rest := []) (lenOf pd_0_0 rfl) rfl (by show 2 * 0 + _ ≤ _; exact Nat.le_of_eq rfl) (hb hby at_45) (fun _ _ => ⟨rfl, e0, (by decide : 2 + 0 + 0 ≤ _), (by decide : 10 + 0 + 0 ≤ _)⟩)
  dsimp only [Pt.U, Pt.locs, Pt.cells, Pt.slots] at X3 l3 y3 z3 st3 hQ3
  subst l3 y3 z3
  obtain ⟨rfl, N3q, K3q, H3q⟩ := hQ3
  have N3 := Fr.app N0 N3q
  have KH3 : Keep h0 T3.heap [o2] := (Keep.refl h0 [o2]).trans K3q (fun x hx => Or.inl hx)
  -- pc 54: com/example/orderly_tx/orderlytx/UnitStatus.setRollbackOnly by the contract of the body that the receiver's class selects, rm8
  obtain ⟨cq4, kq4, q4a, q4b, q4c⟩ := isOf hZ rfl (E_o3.keep K3q)
  obtain ⟨_, _, ⟨T4, L4, k4, n4⟩, -, X4, ⟨Lc4, hQ4, l4, y4, z4⟩, st4⟩ := X3.virtualBack hx (y := (⟨"com/example/orderly_tx/orderlytx/UnitStatus", "setRollbackOnly", "()V"⟩ : MethodName)) (z := (⟨"com/example/orderly_tx/orderlytx/UnitStatus", "setRollbackOnly", "()V"⟩ : MethodName)) hown (mvT hZ (hw _ (List.mem_of_getElem? (i := 44) rfl))) (mvT hZ (hw _ (List.mem_of_getElem? (i := 45) rfl))) (notFace_of_selects (args := #[]) (mvT hZ (hw _ (List.mem_of_getElem? (i := 47) rfl)))) (mvT hZ (hw _ (List.mem_of_getElem? (i := 47) rfl))) (mvT hZ (hw _ (List.mem_of_getElem? (i := 46) rfl))) (by decide) (backOf (W := 0) (rm8p l Z a0 hw [] o3 o2 (1 : Int32) (0 : Int32) T3.heap n0 (Nat.le_trans Z0 KH3.1) H3q g_o2 nep) hZ (hw _ (List.mem_of_getElem? (i := 48) rfl)) (hw _ (List.mem_of_getElem? (i := 2) rfl)) (by decide) (by decide)) q4a q4c (g := (mkF m 54 #[.val (.int i0), s1, .val (.ref o2), .val (.ref o3), .val (.int (1 : Int32)), .val (.int (1 : Int32)), s6, s7, s8, s9, s10, s11] [(.ref o3)])) rfl (by rw [hml]; rfl) (Steps.refl _) (argsL := []) (rest := []) (lenOf pd_0_0 rfl) rfl (by show 2 * 0 + _ ≤ _; exact Nat.le_of_eq rfl) (hb hby at_54) (fun _ _ => ⟨rfl, rfl, (by decide : 2 + 0 + 0 ≤ _), (by decide : 10 + 0 + 0 ≤ _)⟩)
  dsimp only [Pt.U, Pt.locs, Pt.cells, Pt.slots] at X4 l4 y4 z4 st4 hQ4
  subst l4 y4 z4
  obtain ⟨rfl, N4q, K4q, H4q⟩ := hQ4
  have N4 := Fr.app N3 N4q
  have KH4 : Keep h0 T4.heap [o2] := KH3.trans K4q (fun x hx => Or.inl hx)
  -- pc 75: com/example/orderly_tx/orderlytx/UnitStatus.isRollbackOnly by the contract of the body that the receiver's class selects, rm5
  obtain ⟨cq5, kq5, q5a, q5b, q5c⟩ := isOf hZ rfl ((E_o2.keep K3q).keep K4q)
  obtain ⟨_, _, ⟨T5, L5, k5, n5⟩, -, X5, ⟨Lc5, hQ5, l5, y5, z5⟩, st5⟩ := X4.virtualBack hx (y := (⟨"com/example/orderly_tx/orderlytx/UnitStatus", "isRollbackOnly", "()Z"⟩ : MethodName)) (z := (⟨"com/example/orderly_tx/orderlytx/UnitStatus", "isRollbackOnly", "()Z"⟩ : MethodName)) hown (mvT hZ (hw _ (List.mem_of_getElem? (i := 22) rfl))) (mvT hZ (hw _ (List.mem_of_getElem? (i := 23) rfl))) (notFace_of_selects (args := #[]) (mvT hZ (hw _ (List.mem_of_getElem? (i := 25) rfl)))) (mvT hZ (hw _ (List.mem_of_getElem? (i := 25) rfl))) (mvT hZ (hw _ (List.mem_of_getElem? (i := 24) rfl))) (by decide) (backOf (W := 0) (rm5 l Z a0 hw [] o2 (1 : Int32) (1 : Int32) T4.heap n0 (Nat.le_trans Z0 KH4.1) H4q.2.1 H4q.2.2.1 H4q.2.2.2.1) hZ (hw _ (List.mem_of_getElem? (i := 26) rfl)) (hw _ (List.mem_of_getElem? (i := 2) rfl)) (by decide) (by decide)) q5a q5c (g := (mkF m 75 #[.val (.int i0), s1, .val (.ref o2), .val (.ref o3), .val (.int (1 : Int32)), .val (.int (1 : Int32)), .val (.int (1 : Int32)), s7, s8, s9, s10, s11] [(.ref o2)])) rfl (by rw [hml]; rfl) (Steps.refl _) (argsL := []) (rest := []) (lenOf pd_0_3 rfl) rfl (by show 2 * 0 + _ ≤ _; exact Nat.le_of_eq rfl) (hb hby at_75) (fun _ _ => ⟨rfl, rfl, (by decide : 2 + 0 + 0 ≤ _), (by decide : 10 + 0 + 0 ≤ _)⟩)
  dsimp only [Pt.U, Pt.locs, Pt.cells, Pt.slots] at X5 l5 y5 z5 st5 hQ5
  subst l5 y5 z5
  obtain ⟨rfl, N5q, e5q⟩ := hQ5
  have N5 := Fr.app N4 N5q
  have K5q : Keep T4.heap T5.heap [] := own_keep e5q
  have KH5 : Keep h0 T5.heap [o2] := KH4.trans K5q own_ws0
  have Hn5 := own_St_eq e5q H4q
  -- pc 84: com/example/orderly_tx/orderlytx/UnitStatus.isRollbackOnly by the contract of the body that the receiver's class selects, rm5
  obtain ⟨cq6, kq6, q6a, q6b, q6c⟩ := isOf hZ rfl (((E_o3.keep K3q).keep K4q).keep K5q)
  obtain ⟨_, _, ⟨T6, L6, k6, n6⟩, -, X6, ⟨Lc6, hQ6, l6, y6, z6⟩, st6⟩ := X5.virtualBack hx (y := (⟨"com/example/orderly_tx/orderlytx/UnitStatus", "isRollbackOnly", "()Z"⟩ : MethodName)) (z := (⟨"com/example/orderly_tx/orderlytx/UnitStatus", "isRollbackOnly", "()Z"⟩ : MethodName)) hown (mvT hZ (hw _ (List.mem_of_getElem? (i := 22) rfl))) (mvT hZ (hw _ (List.mem_of_getElem? (i := 23) rfl))) (notFace_of_selects (args := #[]) (mvT hZ (hw _ (List.mem_of_getElem? (i := 25) rfl)))) (mvT hZ (hw _ (List.mem_of_getElem? (i := 25) rfl))) (mvT hZ (hw _ (List.mem_of_getElem? (i := 24) rfl))) (by decide) (backOf (W := 0) (rm5p l Z a0 hw [] o3 o2 (1 : Int32) (1 : Int32) T5.heap n0 (Nat.le_trans Z0 KH5.1) Hn5.2.2.2.2.2.2 Hn5.1 Hn5.2.1 Hn5.2.2.1 Hn5.2.2.2.1) hZ (hw _ (List.mem_of_getElem? (i := 26) rfl)) (hw _ (List.mem_of_getElem? (i := 2) rfl)) (by decide) (by decide)) q6a q6c (g := (mkF m 84 #[.val (.int i0), s1, .val (.ref o2), .val (.ref o3), .val (.int (1 : Int32)), .val (.int (1 : Int32)), .val (.int (1 : Int32)), s7, s8, s9, s10, s11] [(.ref o3)])) rfl (by rw [hml]; rfl) (Steps.refl _) (argsL := []) (rest := []) (lenOf pd_0_3 rfl) rfl (by show 2 * 0 + _ ≤ _; exact Nat.le_of_eq rfl) (hb hby at_84) (fun _ _ => ⟨rfl, rfl, (by decide : 2 + 0 + 0 ≤ _), (by decide : 10 + 0 + 0 ≤ _)⟩)
  dsimp only [Pt.U, Pt.locs, Pt.cells, Pt.slots] at X6 l6 y6 z6 st6 hQ6
  subst l6 y6 z6
  obtain ⟨rfl, N6q, e6q⟩ := hQ6
  have N6 := Fr.app N5 N6q
  have K6q : Keep T5.heap T6.heap [] := own_keep e6q
  have KH6 : Keep h0 T6.heap [o2] := KH5.trans K6q own_ws0
  have Hn6 := own_St_eq e6q Hn5
  refine ⟨T6, _, _, (1 : Int32), (1 : Int32), (1 : Int32), (1 : Int32), (1 : Int32), X6, rfl, N6, (Nat.le_trans Z0 KH6.1), (by decide), Hn6, fun target kt => ?_⟩
  -- 4. STEPS
  show Steps p.tables e below (T0.setTop (mkF m 13 #[.val (.int i0), s1, .val (.ref o2), .val (.ref o3), s4, s5, s6, s7, s8, s9, s10, s11] [])) _
  refine XS.iloadN X0.here hx rfl (hb hby at_13) rfl ?_
  show Steps p.tables e below (T0.setTop (mkF m 14 #[.val (.int i0), s1, .val (.ref o2), .val (.ref o3), s4, s5, s6, s7, s8, s9, s10, s11] [(.int i0)])) _
  refine XS.iconst X0.here hx rfl (hb hby at_14) ?_
  show Steps p.tables e below (T0.setTop (mkF m 15 #[.val (.int i0), s1, .val (.ref o2), .val (.ref o3), s4, s5, s6, s7, s8, s9, s10, s11] [(.int (1 : Int32)), (.int i0)])) _
  refine XS.iand X0.here hx rfl (hb hby at_15) rfl ?_
  show Steps p.tables e below (T0.setTop (mkF m 16 #[.val (.int i0), s1, .val (.ref o2), .val (.ref o3), s4, s5, s6, s7, s8, s9, s10, s11] [(.int (i0 &&& (1 : Int32)))])) _
  refine XS.ifNo X0.here hx rfl (hb hby at_16) rfl ((if0 _ _).trans (feq hc16).1) ?_
  show Steps p.tables e below (T0.setTop (mkF m 19 #[.val (.int i0), s1, .val (.ref o2), .val (.ref o3), s4, s5, s6, s7, s8, s9, s10, s11] [])) _
  refine XS.iconst X0.here hx rfl (hb hby at_19) ?_
  show Steps p.tables e below (T0.setTop (mkF m 20 #[.val (.int i0), s1, .val (.ref o2), .val (.ref o3), s4, s5, s6, s7, s8, s9, s10, s11] [(.int (1 : Int32))])) _
  refine XS.goto X0.here hx rfl (pc0 := 20) (pc' := 24) rfl (hb hby at_20) (by decide) (by decide) ?_
  show Steps p.tables e below (T0.setTop (mkF m 24 #[.val (.int i0), s1, .val (.ref o2), .val (.ref o3), s4, s5, s6, s7, s8, s9, s10, s11] [(.int (1 : Int32))])) _
  refine XS.istore X0.here hx rfl (hb hby at_24) rfl (l' := #[.val (.int i0), s1, .val (.ref o2), .val (.ref o3), .val (.int (1 : Int32)), s5, s6, s7, s8, s9, s10, s11]) (os0_24 hs4) ?_
  show Steps p.tables e below (T0.setTop (mkF m 26 #[.val (.int i0), s1, .val (.ref o2), .val (.ref o3), .val (.int (1 : Int32)), s5, s6, s7, s8, s9, s10, s11] [])) _
  refine XS.iloadN X0.here hx rfl (hb hby at_26) rfl ?_
  show Steps p.tables e below (T0.setTop (mkF m 27 #[.val (.int i0), s1, .val (.ref o2), .val (.ref o3), .val (.int (1 : Int32)), s5, s6, s7, s8, s9, s10, s11] [(.int i0)])) _
  refine XS.iconst X0.here hx rfl (hb hby at_27) ?_
  show Steps p.tables e below (T0.setTop (mkF m 28 #[.val (.int i0), s1, .val (.ref o2), .val (.ref o3), .val (.int (1 : Int32)), s5, s6, s7, s8, s9, s10, s11] [(.int (2 : Int32)), (.int i0)])) _
  refine XS.iand X0.here hx rfl (hb hby at_28) rfl ?_
  show Steps p.tables e below (T0.setTop (mkF m 29 #[.val (.int i0), s1, .val (.ref o2), .val (.ref o3), .val (.int (1 : Int32)), s5, s6, s7, s8, s9, s10, s11] [(.int (i0 &&& (2 : Int32)))])) _
  refine XS.ifNo X0.here hx rfl (hb hby at_29) rfl ((if0 _ _).trans (feq hc29).1) ?_
  show Steps p.tables e below (T0.setTop (mkF m 32 #[.val (.int i0), s1, .val (.ref o2), .val (.ref o3), .val (.int (1 : Int32)), s5, s6, s7, s8, s9, s10, s11] [])) _
  refine XS.iconst X0.here hx rfl (hb hby at_32) ?_
  show Steps p.tables e below (T0.setTop (mkF m 33 #[.val (.int i0), s1, .val (.ref o2), .val (.ref o3), .val (.int (1 : Int32)), s5, s6, s7, s8, s9, s10, s11] [(.int (1 : Int32))])) _
  refine XS.goto X0.here hx rfl (pc0 := 33) (pc' := 37) rfl (hb hby at_33) (by decide) (by decide) ?_
  show Steps p.tables e below (T0.setTop (mkF m 37 #[.val (.int i0), s1, .val (.ref o2), .val (.ref o3), .val (.int (1 : Int32)), s5, s6, s7, s8, s9, s10, s11] [(.int (1 : Int32))])) _
  refine XS.istore X0.here hx rfl (hb hby at_37) rfl (l' := #[.val (.int i0), s1, .val (.ref o2), .val (.ref o3), .val (.int (1 : Int32)), .val (.int (1 : Int32)), s6, s7, s8, s9, s10, s11]) (os0_37 hs5) ?_
  show Steps p.tables e below (T0.setTop (mkF m 39 #[.val (.int i0), s1, .val (.ref o2), .val (.ref o3), .val (.int (1 : Int32)), .val (.int (1 : Int32)), s6, s7, s8, s9, s10, s11] [])) _
  refine XS.iload X0.here hx rfl (hb hby at_39) rfl ?_
  show Steps p.tables e below (T0.setTop (mkF m 41 #[.val (.int i0), s1, .val (.ref o2), .val (.ref o3), .val (.int (1 : Int32)), .val (.int (1 : Int32)), s6, s7, s8, s9, s10, s11] [(.int (1 : Int32))])) _
  refine XS.ifNo X0.here hx rfl (hb hby at_41) rfl ((if0 _ _).trans (feq hc41).1) ?_
  show Steps p.tables e below (T0.setTop (mkF m 44 #[.val (.int i0), s1, .val (.ref o2), .val (.ref o3), .val (.int (1 : Int32)), .val (.int (1 : Int32)), s6, s7, s8, s9, s10, s11] [])) _
  refine XS.aloadN X0.here hx rfl (hb hby at_44) rfl rfl ?_
  show Steps p.tables e below (T0.setTop (mkF m 45 #[.val (.int i0), s1, .val (.ref o2), .val (.ref o3), .val (.int (1 : Int32)), .val (.int (1 : Int32)), s6, s7, s8, s9, s10, s11] [(.ref o2)])) _
  refine st3.trans ?_
  show Steps p.tables e below (T3.setTop (mkF m 48 #[.val (.int i0), s1, .val (.ref o2), .val (.ref o3), .val (.int (1 : Int32)), .val (.int (1 : Int32)), s6, s7, s8, s9, s10, s11] [])) _
  refine XS.iload X3.here hx rfl (hb hby at_48) rfl ?_
  show Steps p.tables e below (T3.setTop (mkF m 50 #[.val (.int i0), s1, .val (.ref o2), .val (.ref o3), .val (.int (1 : Int32)), .val (.int (1 : Int32)), s6, s7, s8, s9, s10, s11] [(.int (1 : Int32))])) _
  refine XS.ifNo X3.here hx rfl (hb hby at_50) rfl ((if0 _ _).trans (feq hc50).1) ?_
  show Steps p.tables e below (T3.setTop (mkF m 53 #[.val (.int i0), s1, .val (.ref o2), .val (.ref o3), .val (.int (1 : Int32)), .val (.int (1 : Int32)), s6, s7, s8, s9, s10, s11] [])) _
  refine XS.aloadN X3.here hx rfl (hb hby at_53) rfl rfl ?_
  show Steps p.tables e below (T3.setTop (mkF m 54 #[.val (.int i0), s1, .val (.ref o2), .val (.ref o3), .val (.int (1 : Int32)), .val (.int (1 : Int32)), s6, s7, s8, s9, s10, s11] [(.ref o3)])) _
  refine st4.trans ?_
  show Steps p.tables e below (T4.setTop (mkF m 57 #[.val (.int i0), s1, .val (.ref o2), .val (.ref o3), .val (.int (1 : Int32)), .val (.int (1 : Int32)), s6, s7, s8, s9, s10, s11] [])) _
  refine XS.iload X4.here hx rfl (hb hby at_57) rfl ?_
  show Steps p.tables e below (T4.setTop (mkF m 59 #[.val (.int i0), s1, .val (.ref o2), .val (.ref o3), .val (.int (1 : Int32)), .val (.int (1 : Int32)), s6, s7, s8, s9, s10, s11] [(.int (1 : Int32))])) _
  refine XS.ifYes X4.here hx rfl (pc0 := 59) (pc' := 67) rfl (hb hby at_59) rfl ((if0 _ _).trans (feq hc59).2) (by decide) (by decide) ?_
  show Steps p.tables e below (T4.setTop (mkF m 67 #[.val (.int i0), s1, .val (.ref o2), .val (.ref o3), .val (.int (1 : Int32)), .val (.int (1 : Int32)), s6, s7, s8, s9, s10, s11] [])) _
  refine XS.iconst X4.here hx rfl (hb hby at_67) ?_
  show Steps p.tables e below (T4.setTop (mkF m 68 #[.val (.int i0), s1, .val (.ref o2), .val (.ref o3), .val (.int (1 : Int32)), .val (.int (1 : Int32)), s6, s7, s8, s9, s10, s11] [(.int (1 : Int32))])) _
  refine XS.goto X4.here hx rfl (pc0 := 68) (pc' := 72) rfl (hb hby at_68) (by decide) (by decide) ?_
  show Steps p.tables e below (T4.setTop (mkF m 72 #[.val (.int i0), s1, .val (.ref o2), .val (.ref o3), .val (.int (1 : Int32)), .val (.int (1 : Int32)), s6, s7, s8, s9, s10, s11] [(.int (1 : Int32))])) _
  refine XS.istore X4.here hx rfl (hb hby at_72) rfl (l' := #[.val (.int i0), s1, .val (.ref o2), .val (.ref o3), .val (.int (1 : Int32)), .val (.int (1 : Int32)), .val (.int (1 : Int32)), s7, s8, s9, s10, s11]) (os0_72 hs6) ?_
  show Steps p.tables e below (T4.setTop (mkF m 74 #[.val (.int i0), s1, .val (.ref o2), .val (.ref o3), .val (.int (1 : Int32)), .val (.int (1 : Int32)), .val (.int (1 : Int32)), s7, s8, s9, s10, s11] [])) _
  refine XS.aloadN X4.here hx rfl (hb hby at_74) rfl rfl ?_
  show Steps p.tables e below (T4.setTop (mkF m 75 #[.val (.int i0), s1, .val (.ref o2), .val (.ref o3), .val (.int (1 : Int32)), .val (.int (1 : Int32)), .val (.int (1 : Int32)), s7, s8, s9, s10, s11] [(.ref o2)])) _
  refine st5.trans ?_
  show Steps p.tables e below (T5.setTop (mkF m 78 #[.val (.int i0), s1, .val (.ref o2), .val (.ref o3), .val (.int (1 : Int32)), .val (.int (1 : Int32)), .val (.int (1 : Int32)), s7, s8, s9, s10, s11] [(.int (own_f5 (1 : Int32) (1 : Int32)))])) _
  refine XS.iload X5.here hx rfl (hb hby at_78) rfl ?_
  show Steps p.tables e below (T5.setTop (mkF m 80 #[.val (.int i0), s1, .val (.ref o2), .val (.ref o3), .val (.int (1 : Int32)), .val (.int (1 : Int32)), .val (.int (1 : Int32)), s7, s8, s9, s10, s11] [(.int (1 : Int32)), (.int (own_f5 (1 : Int32) (1 : Int32)))])) _
  refine XS.icmpNo X5.here hx rfl (hb hby at_80) rfl (teq ht80).2 ?_
  show Steps p.tables e below (T5.setTop (mkF m 83 #[.val (.int i0), s1, .val (.ref o2), .val (.ref o3), .val (.int (1 : Int32)), .val (.int (1 : Int32)), .val (.int (1 : Int32)), s7, s8, s9, s10, s11] [])) _
  refine XS.aloadN X5.here hx rfl (hb hby at_83) rfl rfl ?_
  show Steps p.tables e below (T5.setTop (mkF m 84 #[.val (.int i0), s1, .val (.ref o2), .val (.ref o3), .val (.int (1 : Int32)), .val (.int (1 : Int32)), .val (.int (1 : Int32)), s7, s8, s9, s10, s11] [(.ref o3)])) _
  refine st6.trans ?_
  show Steps p.tables e below (T6.setTop (mkF m 87 #[.val (.int i0), s1, .val (.ref o2), .val (.ref o3), .val (.int (1 : Int32)), .val (.int (1 : Int32)), .val (.int (1 : Int32)), s7, s8, s9, s10, s11] [(.int (own_f5 (1 : Int32) (1 : Int32)))])) _
  refine XS.iload X6.here hx rfl (hb hby at_87) rfl ?_
  show Steps p.tables e below (T6.setTop (mkF m 89 #[.val (.int i0), s1, .val (.ref o2), .val (.ref o3), .val (.int (1 : Int32)), .val (.int (1 : Int32)), .val (.int (1 : Int32)), s7, s8, s9, s10, s11] [(.int (1 : Int32)), (.int (own_f5 (1 : Int32) (1 : Int32)))])) _
  refine XS.icmpNo X6.here hx rfl (hb hby at_89) rfl (teq ht89).2 ?_
  show Steps p.tables e below (T6.setTop (mkF m 92 #[.val (.int i0), s1, .val (.ref o2), .val (.ref o3), .val (.int (1 : Int32)), .val (.int (1 : Int32)), .val (.int (1 : Int32)), s7, s8, s9, s10, s11] [])) _
  refine XS.iconst X6.here hx rfl (hb hby at_92) ?_
  show Steps p.tables e below (T6.setTop (mkF m 93 #[.val (.int i0), s1, .val (.ref o2), .val (.ref o3), .val (.int (1 : Int32)), .val (.int (1 : Int32)), .val (.int (1 : Int32)), s7, s8, s9, s10, s11] [(.int (1 : Int32))])) _
  refine XS.goto X6.here hx rfl (pc0 := 93) (pc' := 97) rfl (hb hby at_93) (by decide) (by decide) ?_
  show Steps p.tables e below (T6.setTop (mkF m 97 #[.val (.int i0), s1, .val (.ref o2), .val (.ref o3), .val (.int (1 : Int32)), .val (.int (1 : Int32)), .val (.int (1 : Int32)), s7, s8, s9, s10, s11] [(.int (1 : Int32))])) _
  refine XS.istore X6.here hx rfl (hb hby at_97) rfl (l' := #[.val (.int i0), s1, .val (.ref o2), .val (.ref o3), .val (.int (1 : Int32)), .val (.int (1 : Int32)), .val (.int (1 : Int32)), .val (.int (1 : Int32)), s8, s9, s10, s11]) (os0_97 hs7) ?_
  exact kt
set_option maxRecDepth 65536 in
set_option maxHeartbeats 40000000 in
theorem own_p1 {p : Program} {l : Launch} {e : Env} {s : State} {m : MethodId} {args : Array Value} {below : List Frame} {meth : Method} {c : Code} {T0 : State} {locs : List Loc} {Z : State} {a0 : Array Value} {h0 : Heap} {n0 : Nat} (i0 : Int32) (s1 : Slot) (o2 : Addr) (o3 : Addr) (s4 : Slot) (s5 : Slot) (s6 : Slot) (s7 : Slot) (s8 : Slot) (s9 : Slot) (s10 : Slot) (s11 : Slot)
    (X0 : Stand p l e room_1 s m args below meth c T0 locs 2 10) (hx : p.tables.exec = Jvm.exec) (hZ : Z.Warmed39 s.vm) (hw : ∀ d ∈ tables_1, d.before a0 Z = true) (hby : c.code = code) (hml : c.maxLocals = 12) (hown : s.vm.findClass "com/example/orderly_tx/orderlytx/UnitStatusIsRollbackOnlyPinLaw" = some m.cls) (e0 : T0.heap = h0) (N0 : Fr n0 locs) (Z0 : n0 ≤ h0.size) (Hst : own_St Z h0 o2 o3 (0 : Int32) (0 : Int32)) (g_o2 : n0 ≤ o2) (nep : o3 ≠ o2) (hs4 : One s4) (hs5 : One s5) (hs6 : One s6) (hs7 : One s7) :
    ∃ (T' : State) (h' : Heap) (locs' : List Loc) (r f x4 x5 x6 : Int32), Stand p l e room_1 s m args below meth c T' locs' 2 10 ∧ T'.heap = h' ∧ Fr n0 locs' ∧ n0 ≤ h'.size ∧ x6 = own_f5 r f ∧ own_St Z h' o2 o3 r f ∧ ∀ target, Steps p.tables e below (T'.setTop (mkF m 99 #[.val (.int i0), s1, .val (.ref o2), .val (.ref o3), .val (.int x4), .val (.int x5), .val (.int x6), .val (.int (1 : Int32)), s8, s9, s10, s11] [])) target → Steps p.tables e below (T0.setTop (mkF m 13 #[.val (.int i0), s1, .val (.ref o2), .val (.ref o3), s4, s5, s6, s7, s8, s9, s10, s11] [])) target := by
  by_cases h1 : (i0 &&& (1 : Int32)) = (0 : Int32)
  · by_cases h2 : (i0 &&& (2 : Int32)) = (0 : Int32)
    · exact own_p1_00 i0 s1 o2 o3 s4 s5 s6 s7 s8 s9 s10 s11 X0 hx hZ hw hby hml hown e0 N0 Z0 Hst g_o2 nep hs4 hs5 hs6 hs7 h1 h2 (by decide) (by decide)
    · exact own_p1_01 i0 s1 o2 o3 s4 s5 s6 s7 s8 s9 s10 s11 X0 hx hZ hw hby hml hown e0 N0 Z0 Hst g_o2 nep hs4 hs5 hs6 hs7 h1 h2 (by decide) (by decide) (by decide) (by decide)
  · by_cases h2 : (i0 &&& (2 : Int32)) = (0 : Int32)
    · exact own_p1_10 i0 s1 o2 o3 s4 s5 s6 s7 s8 s9 s10 s11 X0 hx hZ hw hby hml hown e0 N0 Z0 Hst g_o2 nep hs4 hs5 hs6 hs7 h1 h2 (by decide) (by decide) (by decide) (by decide)
    · exact own_p1_11 i0 s1 o2 o3 s4 s5 s6 s7 s8 s9 s10 s11 X0 hx hZ hw hby hml hown e0 N0 Z0 Hst g_o2 nep hs4 hs5 hs6 hs7 h1 h2 (by decide) (by decide) (by decide) (by decide) (by decide)
theorem own_v1 (f : Int32) : own_f5 (1 : Int32) f = 1 := by simp [own_f5]
theorem own_v2 (r : Int32) : own_f5 r (1 : Int32) = 1 := by unfold own_f5; split <;> simp
theorem own_v3 {r f : Int32} (h : ¬ own_f5 r f = 0) : own_f5 r f = 1 := by
  unfold own_f5 at *
  by_cases a : r = 0 <;> by_cases b : f = 0 <;> simp_all
theorem os0_110 {s0 : Slot} {z1 : Value} {z2 : Value} {z3 : Value} {s4 : Slot} {s5 : Slot} {z6 : Value} {z7 : Value} {s8 : Slot} {s9 : Slot} {s10 : Slot} {s11 : Slot} {v : Int32} (h : One s8) : storeLocals #[s0, .val z1, .val z2, .val z3, s4, s5, .val z6, .val z7, s8, s9, s10, s11] 8 (.int v) = some #[s0, .val z1, .val z2, .val z3, s4, s5, .val z6, .val z7, .val (.int v), s9, s10, s11] := by
  rcases h with rfl | ⟨w, rfl, hw⟩
  · rfl
  · cases w <;> first | rfl | (simp [Value.category] at hw)
theorem os0_123 {s0 : Slot} {z1 : Value} {z2 : Value} {z3 : Value} {s4 : Slot} {s5 : Slot} {z6 : Value} {z7 : Value} {z8 : Value} {s9 : Slot} {s10 : Slot} {s11 : Slot} {v : Int32} (h : One s9) : storeLocals #[s0, .val z1, .val z2, .val z3, s4, s5, .val z6, .val z7, .val z8, s9, s10, s11] 9 (.int v) = some #[s0, .val z1, .val z2, .val z3, s4, s5, .val z6, .val z7, .val z8, .val (.int v), s10, s11] := by
  rcases h with rfl | ⟨w, rfl, hw⟩
  · rfl
  · cases w <;> first | rfl | (simp [Value.category] at hw)
theorem os0_165 {s0 : Slot} {z1 : Value} {z2 : Value} {z3 : Value} {s4 : Slot} {s5 : Slot} {z6 : Value} {z7 : Value} {z8 : Value} {z9 : Value} {s10 : Slot} {s11 : Slot} {v : Int32} (h : One s10) : storeLocals #[s0, .val z1, .val z2, .val z3, s4, s5, .val z6, .val z7, .val z8, .val z9, s10, s11] 10 (.int v) = some #[s0, .val z1, .val z2, .val z3, s4, s5, .val z6, .val z7, .val z8, .val z9, .val (.int v), s11] := by
  rcases h with rfl | ⟨w, rfl, hw⟩
  · rfl
  · cases w <;> first | rfl | (simp [Value.category] at hw)
theorem os0_190 {s0 : Slot} {z1 : Value} {z2 : Value} {z3 : Value} {s4 : Slot} {s5 : Slot} {z6 : Value} {z7 : Value} {z8 : Value} {z9 : Value} {z10 : Value} {s11 : Slot} {v : Int32} (h : One s11) : storeLocals #[s0, .val z1, .val z2, .val z3, s4, s5, .val z6, .val z7, .val z8, .val z9, .val z10, s11] 11 (.int v) = some #[s0, .val z1, .val z2, .val z3, s4, s5, .val z6, .val z7, .val z8, .val z9, .val z10, .val (.int v)] := by
  rcases h with rfl | ⟨w, rfl, hw⟩
  · rfl
  · cases w <;> first | rfl | (simp [Value.category] at hw)
set_option maxRecDepth 65536 in
set_option maxHeartbeats 40000000 in
theorem own_p2_000 {p : Program} {l : Launch} {e : Env} {s : State} {m : MethodId} {args : Array Value} {below : List Frame} {meth : Method} {c : Code} {T0 : State} {locs : List Loc} {Z : State} {a0 : Array Value} {h0 : Heap} {n0 : Nat} (s0 : Slot) (i1 : Int32) (o2 : Addr) (o3 : Addr) (s4 : Slot) (s5 : Slot) (i6 : Int32) (i7 : Int32) (s8 : Slot) (s9 : Slot) (s10 : Slot) (s11 : Slot) (r : Int32) (f : Int32)
    (X0 : Stand p l e room_1 s m args below meth c T0 locs 2 10) (hx : p.tables.exec = Jvm.exec) (hZ : Z.Warmed39 s.vm) (hw : ∀ d ∈ tables_1, d.before a0 Z = true) (hby : c.code = code) (hml : c.maxLocals = 12) (hown : s.vm.findClass "com/example/orderly_tx/orderlytx/UnitStatusIsRollbackOnlyPinLaw" = some m.cls) (e0 : T0.heap = h0) (N0 : Fr n0 locs) (Z0 : n0 ≤ h0.size) (Hst : own_St Z h0 o2 o3 r f) (g_o2 : n0 ≤ o2) (nep : o3 ≠ o2) (hs8 : One s8) (hs9 : One s9) (hs10 : One s10) (hs11 : One s11) (hc102 : (i1 &&& (1 : Int32)) = (0 : Int32)) (hc115 : (i1 &&& (2 : Int32)) = (0 : Int32)) (hc147 : i6 = (0 : Int32)) (ht173 : (own_f5 r f) = (0 : Int32)) (ht182 : (own_f5 r f) = (0 : Int32)) (hc194 : ¬ (i7 = (0 : Int32))) (hc199 : ¬ ((1 : Int32) = (0 : Int32))) :
    ∃ (T' : State) (h' : Heap) (locs' : List Loc) (x8 x9 x10 : Int32), Stand p l e room_1 s m args below meth c T' locs' 2 10 ∧ T'.heap = h' ∧ Fr n0 locs' ∧ True ∧ ∀ target, Steps p.tables e below (T'.setTop (mkF m 202 #[s0, .val (.int i1), .val (.ref o2), .val (.ref o3), s4, s5, .val (.int i6), .val (.int i7), .val (.int x8), .val (.int x9), .val (.int x10), .val (.int (1 : Int32))] [])) target → Steps p.tables e below (T0.setTop (mkF m 99 #[s0, .val (.int i1), .val (.ref o2), .val (.ref o3), s4, s5, .val (.int i6), .val (.int i7), s8, s9, s10, s11] [])) target := by
  have E_o2 := Hst.1
  have E_o3 := Hst.2.2.2.2.2.1
  -- 3. LAWS
  -- pc 168: com/example/orderly_tx/orderlytx/UnitStatus.isRollbackOnly by the contract of the body that the receiver's class selects, rm5
  obtain ⟨cq3, kq3, q3a, q3b, q3c⟩ := isOf hZ e0 E_o2
  obtain ⟨_, _, ⟨T3, L3, k3, n3⟩, -, X3, ⟨Lc3, hQ3, l3, y3, z3⟩, st3⟩ := X0.virtualBack hx (y := (⟨"com/example/orderly_tx/orderlytx/UnitStatus", "isRollbackOnly", "()Z"⟩ : MethodName)) (z := (⟨"com/example/orderly_tx/orderlytx/UnitStatus", "isRollbackOnly", "()Z"⟩ : MethodName)) hown (mvT hZ (hw _ (List.mem_of_getElem? (i := 22) rfl))) (mvT hZ (hw _ (List.mem_of_getElem? (i := 23) rfl))) (notFace_of_selects (args := #[]) (mvT hZ (hw _ (List.mem_of_getElem? (i := 25) rfl)))) (mvT hZ (hw _ (List.mem_of_getElem? (i := 25) rfl))) (mvT hZ (hw _ (List.mem_of_getElem? (i := 24) rfl))) (by decide) (backOf (W := 0) (rm5 l Z a0 hw [] o2 r f h0 n0 Z0 Hst.2.1 Hst.2.2.1 Hst.2.2.2.1) hZ (hw _ (List.mem_of_getElem? (i := 26) rfl)) (hw _ (List.mem_of_getElem? (i := 2) rfl)) (by decide) (by decide)) q3a q3c (g := (mkF m 168 #[s0, .val (.int i1), .val (.ref o2), .val (.ref o3), s4, s5, .val (.int i6), .val (.int i7), .val (.int (0 : Int32)), .val (.int (0 : Int32)), .val (.int (0 : Int32)), s11] [(.ref o2)])) rfl (by rw [hml]; rfl) (Steps.refl _) (argsL := []) (rest := []) (lenOf pd_0_3 rfl) rfl (by show 2 * 0 + _ ≤ _; exact Nat.le_of_eq rfl) (hb hby at_168) (fun _ _ => ⟨rfl, e0, (by decide : 2 + 0 + 0 ≤ _), (by decide : 10 + 0 + 0 ≤ _)⟩)
  dsimp only [Pt.U, Pt.locs, Pt.cells, Pt.slots] at X3 l3 y3 z3 st3 hQ3
  subst l3 y3 z3
  obtain ⟨rfl, N3q, e3q⟩ := hQ3
  have N3 := Fr.app N0 N3q
  have K3q : Keep h0 T3.heap [] := own_keep e3q
  have KH3 : Keep h0 T3.heap [o2] := (Keep.refl h0 [o2]).trans K3q own_ws0
  have eh3 : T3.heap = h0 := by rw [e3q]
  have Hn3 := own_St_eq e3q Hst
  -- pc 177: com/example/orderly_tx/orderlytx/UnitStatus.isRollbackOnly by the contract of the body that the receiver's class selects, rm5
  obtain ⟨cq4, kq4, q4a, q4b, q4c⟩ := isOf hZ rfl (E_o3.keep K3q)
  obtain ⟨_, _, ⟨T4, L4, k4, n4⟩, -, X4, ⟨Lc4, hQ4, l4, y4, z4⟩, st4⟩ := X3.virtualBack hx (y := (⟨"com/example/orderly_tx/orderlytx/UnitStatus", "isRollbackOnly", "()Z"⟩ : MethodName)) (z := (⟨"com/example/orderly_tx/orderlytx/UnitStatus", "isRollbackOnly", "()Z"⟩ : MethodName)) hown (mvT hZ (hw _ (List.mem_of_getElem? (i := 22) rfl))) (mvT hZ (hw _ (List.mem_of_getElem? (i := 23) rfl))) (notFace_of_selects (args := #[]) (mvT hZ (hw _ (List.mem_of_getElem? (i := 25) rfl)))) (mvT hZ (hw _ (List.mem_of_getElem? (i := 25) rfl))) (mvT hZ (hw _ (List.mem_of_getElem? (i := 24) rfl))) (by decide) (backOf (W := 0) (rm5p l Z a0 hw [] o3 o2 r f T3.heap n0 (Nat.le_trans Z0 KH3.1) Hn3.2.2.2.2.2.2 Hn3.1 Hn3.2.1 Hn3.2.2.1 Hn3.2.2.2.1) hZ (hw _ (List.mem_of_getElem? (i := 26) rfl)) (hw _ (List.mem_of_getElem? (i := 2) rfl)) (by decide) (by decide)) q4a q4c (g := (mkF m 177 #[s0, .val (.int i1), .val (.ref o2), .val (.ref o3), s4, s5, .val (.int i6), .val (.int i7), .val (.int (0 : Int32)), .val (.int (0 : Int32)), .val (.int (0 : Int32)), s11] [(.ref o3)])) rfl (by rw [hml]; rfl) (Steps.refl _) (argsL := []) (rest := []) (lenOf pd_0_3 rfl) rfl (by show 2 * 0 + _ ≤ _; exact Nat.le_of_eq rfl) (hb hby at_177) (fun _ _ => ⟨rfl, rfl, (by decide : 2 + 0 + 0 ≤ _), (by decide : 10 + 0 + 0 ≤ _)⟩)
  dsimp only [Pt.U, Pt.locs, Pt.cells, Pt.slots] at X4 l4 y4 z4 st4 hQ4
  subst l4 y4 z4
  obtain ⟨rfl, N4q, e4q⟩ := hQ4
  have N4 := Fr.app N3 N4q
  have K4q : Keep T3.heap T4.heap [] := own_keep e4q
  have KH4 : Keep h0 T4.heap [o2] := KH3.trans K4q own_ws0
  have eh4 : T4.heap = h0 := by rw [e4q]; exact eh3
  have Hn4 := own_St_eq e4q Hn3
  refine ⟨T4, _, _, (0 : Int32), (0 : Int32), (0 : Int32), X4, rfl, N4, trivial, fun target kt => ?_⟩
  -- 4. STEPS
  show Steps p.tables e below (T0.setTop (mkF m 99 #[s0, .val (.int i1), .val (.ref o2), .val (.ref o3), s4, s5, .val (.int i6), .val (.int i7), s8, s9, s10, s11] [])) _
  refine XS.iloadN X0.here hx rfl (hb hby at_99) rfl ?_
  show Steps p.tables e below (T0.setTop (mkF m 100 #[s0, .val (.int i1), .val (.ref o2), .val (.ref o3), s4, s5, .val (.int i6), .val (.int i7), s8, s9, s10, s11] [(.int i1)])) _
  refine XS.iconst X0.here hx rfl (hb hby at_100) ?_
  show Steps p.tables e below (T0.setTop (mkF m 101 #[s0, .val (.int i1), .val (.ref o2), .val (.ref o3), s4, s5, .val (.int i6), .val (.int i7), s8, s9, s10, s11] [(.int (1 : Int32)), (.int i1)])) _
  refine XS.iand X0.here hx rfl (hb hby at_101) rfl ?_
  show Steps p.tables e below (T0.setTop (mkF m 102 #[s0, .val (.int i1), .val (.ref o2), .val (.ref o3), s4, s5, .val (.int i6), .val (.int i7), s8, s9, s10, s11] [(.int (i1 &&& (1 : Int32)))])) _
  refine XS.ifYes X0.here hx rfl (pc0 := 102) (pc' := 109) rfl (hb hby at_102) rfl ((if0 _ _).trans (teq hc102).1) (by decide) (by decide) ?_
  show Steps p.tables e below (T0.setTop (mkF m 109 #[s0, .val (.int i1), .val (.ref o2), .val (.ref o3), s4, s5, .val (.int i6), .val (.int i7), s8, s9, s10, s11] [])) _
  refine XS.iconst X0.here hx rfl (hb hby at_109) ?_
  show Steps p.tables e below (T0.setTop (mkF m 110 #[s0, .val (.int i1), .val (.ref o2), .val (.ref o3), s4, s5, .val (.int i6), .val (.int i7), s8, s9, s10, s11] [(.int (0 : Int32))])) _
  refine XS.istore X0.here hx rfl (hb hby at_110) rfl (l' := #[s0, .val (.int i1), .val (.ref o2), .val (.ref o3), s4, s5, .val (.int i6), .val (.int i7), .val (.int (0 : Int32)), s9, s10, s11]) (os0_110 hs8) ?_
  show Steps p.tables e below (T0.setTop (mkF m 112 #[s0, .val (.int i1), .val (.ref o2), .val (.ref o3), s4, s5, .val (.int i6), .val (.int i7), .val (.int (0 : Int32)), s9, s10, s11] [])) _
  refine XS.iloadN X0.here hx rfl (hb hby at_112) rfl ?_
  show Steps p.tables e below (T0.setTop (mkF m 113 #[s0, .val (.int i1), .val (.ref o2), .val (.ref o3), s4, s5, .val (.int i6), .val (.int i7), .val (.int (0 : Int32)), s9, s10, s11] [(.int i1)])) _
  refine XS.iconst X0.here hx rfl (hb hby at_113) ?_
  show Steps p.tables e below (T0.setTop (mkF m 114 #[s0, .val (.int i1), .val (.ref o2), .val (.ref o3), s4, s5, .val (.int i6), .val (.int i7), .val (.int (0 : Int32)), s9, s10, s11] [(.int (2 : Int32)), (.int i1)])) _
  refine XS.iand X0.here hx rfl (hb hby at_114) rfl ?_
  show Steps p.tables e below (T0.setTop (mkF m 115 #[s0, .val (.int i1), .val (.ref o2), .val (.ref o3), s4, s5, .val (.int i6), .val (.int i7), .val (.int (0 : Int32)), s9, s10, s11] [(.int (i1 &&& (2 : Int32)))])) _
  refine XS.ifYes X0.here hx rfl (pc0 := 115) (pc' := 122) rfl (hb hby at_115) rfl ((if0 _ _).trans (teq hc115).1) (by decide) (by decide) ?_
  show Steps p.tables e below (T0.setTop (mkF m 122 #[s0, .val (.int i1), .val (.ref o2), .val (.ref o3), s4, s5, .val (.int i6), .val (.int i7), .val (.int (0 : Int32)), s9, s10, s11] [])) _
  refine XS.iconst X0.here hx rfl (hb hby at_122) ?_
  show Steps p.tables e below (T0.setTop (mkF m 123 #[s0, .val (.int i1), .val (.ref o2), .val (.ref o3), s4, s5, .val (.int i6), .val (.int i7), .val (.int (0 : Int32)), s9, s10, s11] [(.int (0 : Int32))])) _
  refine XS.istore X0.here hx rfl (hb hby at_123) rfl (l' := #[s0, .val (.int i1), .val (.ref o2), .val (.ref o3), s4, s5, .val (.int i6), .val (.int i7), .val (.int (0 : Int32)), .val (.int (0 : Int32)), s10, s11]) (os0_123 hs9) ?_
  show Steps p.tables e below (T0.setTop (mkF m 125 #[s0, .val (.int i1), .val (.ref o2), .val (.ref o3), s4, s5, .val (.int i6), .val (.int i7), .val (.int (0 : Int32)), .val (.int (0 : Int32)), s10, s11] [])) _
  refine XS.iload X0.here hx rfl (hb hby at_125) rfl ?_
  show Steps p.tables e below (T0.setTop (mkF m 127 #[s0, .val (.int i1), .val (.ref o2), .val (.ref o3), s4, s5, .val (.int i6), .val (.int i7), .val (.int (0 : Int32)), .val (.int (0 : Int32)), s10, s11] [(.int (0 : Int32))])) _
  refine XS.ifYes X0.here hx rfl (pc0 := 127) (pc' := 135) rfl (hb hby at_127) rfl ((if0 _ _).trans (teq (rfl : (0 : Int32) = (0 : Int32))).1) (by decide) (by decide) ?_
  show Steps p.tables e below (T0.setTop (mkF m 135 #[s0, .val (.int i1), .val (.ref o2), .val (.ref o3), s4, s5, .val (.int i6), .val (.int i7), .val (.int (0 : Int32)), .val (.int (0 : Int32)), s10, s11] [])) _
  refine XS.iload X0.here hx rfl (hb hby at_135) rfl ?_
  show Steps p.tables e below (T0.setTop (mkF m 137 #[s0, .val (.int i1), .val (.ref o2), .val (.ref o3), s4, s5, .val (.int i6), .val (.int i7), .val (.int (0 : Int32)), .val (.int (0 : Int32)), s10, s11] [(.int (0 : Int32))])) _
  refine XS.ifYes X0.here hx rfl (pc0 := 137) (pc' := 145) rfl (hb hby at_137) rfl ((if0 _ _).trans (teq (rfl : (0 : Int32) = (0 : Int32))).1) (by decide) (by decide) ?_
  show Steps p.tables e below (T0.setTop (mkF m 145 #[s0, .val (.int i1), .val (.ref o2), .val (.ref o3), s4, s5, .val (.int i6), .val (.int i7), .val (.int (0 : Int32)), .val (.int (0 : Int32)), s10, s11] [])) _
  refine XS.iload X0.here hx rfl (hb hby at_145) rfl ?_
  show Steps p.tables e below (T0.setTop (mkF m 147 #[s0, .val (.int i1), .val (.ref o2), .val (.ref o3), s4, s5, .val (.int i6), .val (.int i7), .val (.int (0 : Int32)), .val (.int (0 : Int32)), s10, s11] [(.int i6)])) _
  refine XS.ifNo X0.here hx rfl (hb hby at_147) rfl ((if0 _ _).trans (teq hc147).2) ?_
  show Steps p.tables e below (T0.setTop (mkF m 150 #[s0, .val (.int i1), .val (.ref o2), .val (.ref o3), s4, s5, .val (.int i6), .val (.int i7), .val (.int (0 : Int32)), .val (.int (0 : Int32)), s10, s11] [])) _
  refine XS.iload X0.here hx rfl (hb hby at_150) rfl ?_
  show Steps p.tables e below (T0.setTop (mkF m 152 #[s0, .val (.int i1), .val (.ref o2), .val (.ref o3), s4, s5, .val (.int i6), .val (.int i7), .val (.int (0 : Int32)), .val (.int (0 : Int32)), s10, s11] [(.int (0 : Int32))])) _
  refine XS.ifNo X0.here hx rfl (hb hby at_152) rfl ((if0 _ _).trans (teq (rfl : (0 : Int32) = (0 : Int32))).2) ?_
  show Steps p.tables e below (T0.setTop (mkF m 155 #[s0, .val (.int i1), .val (.ref o2), .val (.ref o3), s4, s5, .val (.int i6), .val (.int i7), .val (.int (0 : Int32)), .val (.int (0 : Int32)), s10, s11] [])) _
  refine XS.iload X0.here hx rfl (hb hby at_155) rfl ?_
  show Steps p.tables e below (T0.setTop (mkF m 157 #[s0, .val (.int i1), .val (.ref o2), .val (.ref o3), s4, s5, .val (.int i6), .val (.int i7), .val (.int (0 : Int32)), .val (.int (0 : Int32)), s10, s11] [(.int (0 : Int32))])) _
  refine XS.ifYes X0.here hx rfl (pc0 := 157) (pc' := 164) rfl (hb hby at_157) rfl ((if0 _ _).trans (teq (rfl : (0 : Int32) = (0 : Int32))).1) (by decide) (by decide) ?_
  show Steps p.tables e below (T0.setTop (mkF m 164 #[s0, .val (.int i1), .val (.ref o2), .val (.ref o3), s4, s5, .val (.int i6), .val (.int i7), .val (.int (0 : Int32)), .val (.int (0 : Int32)), s10, s11] [])) _
  refine XS.iconst X0.here hx rfl (hb hby at_164) ?_
  show Steps p.tables e below (T0.setTop (mkF m 165 #[s0, .val (.int i1), .val (.ref o2), .val (.ref o3), s4, s5, .val (.int i6), .val (.int i7), .val (.int (0 : Int32)), .val (.int (0 : Int32)), s10, s11] [(.int (0 : Int32))])) _
  refine XS.istore X0.here hx rfl (hb hby at_165) rfl (l' := #[s0, .val (.int i1), .val (.ref o2), .val (.ref o3), s4, s5, .val (.int i6), .val (.int i7), .val (.int (0 : Int32)), .val (.int (0 : Int32)), .val (.int (0 : Int32)), s11]) (os0_165 hs10) ?_
  show Steps p.tables e below (T0.setTop (mkF m 167 #[s0, .val (.int i1), .val (.ref o2), .val (.ref o3), s4, s5, .val (.int i6), .val (.int i7), .val (.int (0 : Int32)), .val (.int (0 : Int32)), .val (.int (0 : Int32)), s11] [])) _
  refine XS.aloadN X0.here hx rfl (hb hby at_167) rfl rfl ?_
  show Steps p.tables e below (T0.setTop (mkF m 168 #[s0, .val (.int i1), .val (.ref o2), .val (.ref o3), s4, s5, .val (.int i6), .val (.int i7), .val (.int (0 : Int32)), .val (.int (0 : Int32)), .val (.int (0 : Int32)), s11] [(.ref o2)])) _
  refine st3.trans ?_
  show Steps p.tables e below (T3.setTop (mkF m 171 #[s0, .val (.int i1), .val (.ref o2), .val (.ref o3), s4, s5, .val (.int i6), .val (.int i7), .val (.int (0 : Int32)), .val (.int (0 : Int32)), .val (.int (0 : Int32)), s11] [(.int (own_f5 r f))])) _
  refine XS.iload X3.here hx rfl (hb hby at_171) rfl ?_
  show Steps p.tables e below (T3.setTop (mkF m 173 #[s0, .val (.int i1), .val (.ref o2), .val (.ref o3), s4, s5, .val (.int i6), .val (.int i7), .val (.int (0 : Int32)), .val (.int (0 : Int32)), .val (.int (0 : Int32)), s11] [(.int (0 : Int32)), (.int (own_f5 r f))])) _
  refine XS.icmpNo X3.here hx rfl (hb hby at_173) rfl (teq ht173).2 ?_
  show Steps p.tables e below (T3.setTop (mkF m 176 #[s0, .val (.int i1), .val (.ref o2), .val (.ref o3), s4, s5, .val (.int i6), .val (.int i7), .val (.int (0 : Int32)), .val (.int (0 : Int32)), .val (.int (0 : Int32)), s11] [])) _
  refine XS.aloadN X3.here hx rfl (hb hby at_176) rfl rfl ?_
  show Steps p.tables e below (T3.setTop (mkF m 177 #[s0, .val (.int i1), .val (.ref o2), .val (.ref o3), s4, s5, .val (.int i6), .val (.int i7), .val (.int (0 : Int32)), .val (.int (0 : Int32)), .val (.int (0 : Int32)), s11] [(.ref o3)])) _
  refine st4.trans ?_
  show Steps p.tables e below (T4.setTop (mkF m 180 #[s0, .val (.int i1), .val (.ref o2), .val (.ref o3), s4, s5, .val (.int i6), .val (.int i7), .val (.int (0 : Int32)), .val (.int (0 : Int32)), .val (.int (0 : Int32)), s11] [(.int (own_f5 r f))])) _
  refine XS.iload X4.here hx rfl (hb hby at_180) rfl ?_
  show Steps p.tables e below (T4.setTop (mkF m 182 #[s0, .val (.int i1), .val (.ref o2), .val (.ref o3), s4, s5, .val (.int i6), .val (.int i7), .val (.int (0 : Int32)), .val (.int (0 : Int32)), .val (.int (0 : Int32)), s11] [(.int (0 : Int32)), (.int (own_f5 r f))])) _
  refine XS.icmpNo X4.here hx rfl (hb hby at_182) rfl (teq ht182).2 ?_
  show Steps p.tables e below (T4.setTop (mkF m 185 #[s0, .val (.int i1), .val (.ref o2), .val (.ref o3), s4, s5, .val (.int i6), .val (.int i7), .val (.int (0 : Int32)), .val (.int (0 : Int32)), .val (.int (0 : Int32)), s11] [])) _
  refine XS.iconst X4.here hx rfl (hb hby at_185) ?_
  show Steps p.tables e below (T4.setTop (mkF m 186 #[s0, .val (.int i1), .val (.ref o2), .val (.ref o3), s4, s5, .val (.int i6), .val (.int i7), .val (.int (0 : Int32)), .val (.int (0 : Int32)), .val (.int (0 : Int32)), s11] [(.int (1 : Int32))])) _
  refine XS.goto X4.here hx rfl (pc0 := 186) (pc' := 190) rfl (hb hby at_186) (by decide) (by decide) ?_
  show Steps p.tables e below (T4.setTop (mkF m 190 #[s0, .val (.int i1), .val (.ref o2), .val (.ref o3), s4, s5, .val (.int i6), .val (.int i7), .val (.int (0 : Int32)), .val (.int (0 : Int32)), .val (.int (0 : Int32)), s11] [(.int (1 : Int32))])) _
  refine XS.istore X4.here hx rfl (hb hby at_190) rfl (l' := #[s0, .val (.int i1), .val (.ref o2), .val (.ref o3), s4, s5, .val (.int i6), .val (.int i7), .val (.int (0 : Int32)), .val (.int (0 : Int32)), .val (.int (0 : Int32)), .val (.int (1 : Int32))]) (os0_190 hs11) ?_
  show Steps p.tables e below (T4.setTop (mkF m 192 #[s0, .val (.int i1), .val (.ref o2), .val (.ref o3), s4, s5, .val (.int i6), .val (.int i7), .val (.int (0 : Int32)), .val (.int (0 : Int32)), .val (.int (0 : Int32)), .val (.int (1 : Int32))] [])) _
  refine XS.iload X4.here hx rfl (hb hby at_192) rfl ?_
  show Steps p.tables e below (T4.setTop (mkF m 194 #[s0, .val (.int i1), .val (.ref o2), .val (.ref o3), s4, s5, .val (.int i6), .val (.int i7), .val (.int (0 : Int32)), .val (.int (0 : Int32)), .val (.int (0 : Int32)), .val (.int (1 : Int32))] [(.int i7)])) _
  refine XS.ifNo X4.here hx rfl (hb hby at_194) rfl ((if0 _ _).trans (feq hc194).1) ?_
  show Steps p.tables e below (T4.setTop (mkF m 197 #[s0, .val (.int i1), .val (.ref o2), .val (.ref o3), s4, s5, .val (.int i6), .val (.int i7), .val (.int (0 : Int32)), .val (.int (0 : Int32)), .val (.int (0 : Int32)), .val (.int (1 : Int32))] [])) _
  refine XS.iload X4.here hx rfl (hb hby at_197) rfl ?_
  show Steps p.tables e below (T4.setTop (mkF m 199 #[s0, .val (.int i1), .val (.ref o2), .val (.ref o3), s4, s5, .val (.int i6), .val (.int i7), .val (.int (0 : Int32)), .val (.int (0 : Int32)), .val (.int (0 : Int32)), .val (.int (1 : Int32))] [(.int (1 : Int32))])) _
  refine XS.ifNo X4.here hx rfl (hb hby at_199) rfl ((if0 _ _).trans (feq hc199).1) ?_
  exact kt
set_option maxRecDepth 65536 in
set_option maxHeartbeats 40000000 in
theorem own_p2_001 {p : Program} {l : Launch} {e : Env} {s : State} {m : MethodId} {args : Array Value} {below : List Frame} {meth : Method} {c : Code} {T0 : State} {locs : List Loc} {Z : State} {a0 : Array Value} {h0 : Heap} {n0 : Nat} (s0 : Slot) (i1 : Int32) (o2 : Addr) (o3 : Addr) (s4 : Slot) (s5 : Slot) (i6 : Int32) (i7 : Int32) (s8 : Slot) (s9 : Slot) (s10 : Slot) (s11 : Slot) (r : Int32) (f : Int32)
    (X0 : Stand p l e room_1 s m args below meth c T0 locs 2 10) (hx : p.tables.exec = Jvm.exec) (hZ : Z.Warmed39 s.vm) (hw : ∀ d ∈ tables_1, d.before a0 Z = true) (hby : c.code = code) (hml : c.maxLocals = 12) (hown : s.vm.findClass "com/example/orderly_tx/orderlytx/UnitStatusIsRollbackOnlyPinLaw" = some m.cls) (e0 : T0.heap = h0) (N0 : Fr n0 locs) (Z0 : n0 ≤ h0.size) (Hst : own_St Z h0 o2 o3 r f) (g_o2 : n0 ≤ o2) (nep : o3 ≠ o2) (hs8 : One s8) (hs9 : One s9) (hs10 : One s10) (hs11 : One s11) (hc102 : (i1 &&& (1 : Int32)) = (0 : Int32)) (hc115 : (i1 &&& (2 : Int32)) = (0 : Int32)) (hc147 : ¬ (i6 = (0 : Int32))) (ht173 : (own_f5 r f) = (1 : Int32)) (ht182 : (own_f5 r f) = (1 : Int32)) (hc194 : ¬ (i7 = (0 : Int32))) (hc199 : ¬ ((1 : Int32) = (0 : Int32))) :
    ∃ (T' : State) (h' : Heap) (locs' : List Loc) (x8 x9 x10 : Int32), Stand p l e room_1 s m args below meth c T' locs' 2 10 ∧ T'.heap = h' ∧ Fr n0 locs' ∧ True ∧ ∀ target, Steps p.tables e below (T'.setTop (mkF m 202 #[s0, .val (.int i1), .val (.ref o2), .val (.ref o3), s4, s5, .val (.int i6), .val (.int i7), .val (.int x8), .val (.int x9), .val (.int x10), .val (.int (1 : Int32))] [])) target → Steps p.tables e below (T0.setTop (mkF m 99 #[s0, .val (.int i1), .val (.ref o2), .val (.ref o3), s4, s5, .val (.int i6), .val (.int i7), s8, s9, s10, s11] [])) target := by
  have E_o2 := Hst.1
  have E_o3 := Hst.2.2.2.2.2.1
  -- 3. LAWS
  -- pc 168: com/example/orderly_tx/orderlytx/UnitStatus.isRollbackOnly by the contract of the body that the receiver's class selects, rm5
  obtain ⟨cq3, kq3, q3a, q3b, q3c⟩ := isOf hZ e0 E_o2
  obtain ⟨_, _, ⟨T3, L3, k3, n3⟩, -, X3, ⟨Lc3, hQ3, l3, y3, z3⟩, st3⟩ := X0.virtualBack hx (y := (⟨"com/example/orderly_tx/orderlytx/UnitStatus", "isRollbackOnly", "()Z"⟩ : MethodName)) (z := (⟨"com/example/orderly_tx/orderlytx/UnitStatus", "isRollbackOnly", "()Z"⟩ : MethodName)) hown (mvT hZ (hw _ (List.mem_of_getElem? (i := 22) rfl))) (mvT hZ (hw _ (List.mem_of_getElem? (i := 23) rfl))) (notFace_of_selects (args := #[]) (mvT hZ (hw _ (List.mem_of_getElem? (i := 25) rfl)))) (mvT hZ (hw _ (List.mem_of_getElem? (i := 25) rfl))) (mvT hZ (hw _ (List.mem_of_getElem? (i := 24) rfl))) (by decide) (backOf (W := 0) (rm5 l Z a0 hw [] o2 r f h0 n0 Z0 Hst.2.1 Hst.2.2.1 Hst.2.2.2.1) hZ (hw _ (List.mem_of_getElem? (i := 26) rfl)) (hw _ (List.mem_of_getElem? (i := 2) rfl)) (by decide) (by decide)) q3a q3c (g := (mkF m 168 #[s0, .val (.int i1), .val (.ref o2), .val (.ref o3), s4, s5, .val (.int i6), .val (.int i7), .val (.int (0 : Int32)), .val (.int (0 : Int32)), .val (.int (1 : Int32)), s11] [(.ref o2)])) rfl (by rw [hml]; rfl) (Steps.refl _) (argsL := []) (rest := []) (lenOf pd_0_3 rfl) rfl (by show 2 * 0 + _ ≤ _; exact Nat.le_of_eq rfl) (hb hby at_168) (fun _ _ => ⟨rfl, e0, (by decide : 2 + 0 + 0 ≤ _), (by decide : 10 + 0 + 0 ≤ _)⟩)
  dsimp only [Pt.U, Pt.locs, Pt.cells, Pt.slots] at X3 l3 y3 z3 st3 hQ3
  subst l3 y3 z3
  obtain ⟨rfl, N3q, e3q⟩ := hQ3
  have N3 := Fr.app N0 N3q
  have K3q : Keep h0 T3.heap [] := own_keep e3q
  have KH3 : Keep h0 T3.heap [o2] := (Keep.refl h0 [o2]).trans K3q own_ws0
  have eh3 : T3.heap = h0 := by rw [e3q]
  have Hn3 := own_St_eq e3q Hst
  -- pc 177: com/example/orderly_tx/orderlytx/UnitStatus.isRollbackOnly by the contract of the body that the receiver's class selects, rm5
  obtain ⟨cq4, kq4, q4a, q4b, q4c⟩ := isOf hZ rfl (E_o3.keep K3q)
  obtain ⟨_, _, ⟨T4, L4, k4, n4⟩, -, X4, ⟨Lc4, hQ4, l4, y4, z4⟩, st4⟩ := X3.virtualBack hx (y := (⟨"com/example/orderly_tx/orderlytx/UnitStatus", "isRollbackOnly", "()Z"⟩ : MethodName)) (z := (⟨"com/example/orderly_tx/orderlytx/UnitStatus", "isRollbackOnly", "()Z"⟩ : MethodName)) hown (mvT hZ (hw _ (List.mem_of_getElem? (i := 22) rfl))) (mvT hZ (hw _ (List.mem_of_getElem? (i := 23) rfl))) (notFace_of_selects (args := #[]) (mvT hZ (hw _ (List.mem_of_getElem? (i := 25) rfl)))) (mvT hZ (hw _ (List.mem_of_getElem? (i := 25) rfl))) (mvT hZ (hw _ (List.mem_of_getElem? (i := 24) rfl))) (by decide) (backOf (W := 0) (rm5p l Z a0 hw [] o3 o2 r f T3.heap n0 (Nat.le_trans Z0 KH3.1) Hn3.2.2.2.2.2.2 Hn3.1 Hn3.2.1 Hn3.2.2.1 Hn3.2.2.2.1) hZ (hw _ (List.mem_of_getElem? (i := 26) rfl)) (hw _ (List.mem_of_getElem? (i := 2) rfl)) (by decide) (by decide)) q4a q4c (g := (mkF m 177 #[s0, .val (.int i1), .val (.ref o2), .val (.ref o3), s4, s5, .val (.int i6), .val (.int i7), .val (.int (0 : Int32)), .val (.int (0 : Int32)), .val (.int (1 : Int32)), s11] [(.ref o3)])) rfl (by rw [hml]; rfl) (Steps.refl _) (argsL := []) (rest := []) (lenOf pd_0_3 rfl) rfl (by show 2 * 0 + _ ≤ _; exact Nat.le_of_eq rfl) (hb hby at_177) (fun _ _ => ⟨rfl, rfl, (by decide : 2 + 0 + 0 ≤ _), (by decide : 10 + 0 + 0 ≤ _)⟩)
  dsimp only [Pt.U, Pt.locs, Pt.cells, Pt.slots] at X4 l4 y4 z4 st4 hQ4
  subst l4 y4 z4
  obtain ⟨rfl, N4q, e4q⟩ := hQ4
  have N4 := Fr.app N3 N4q
  have K4q : Keep T3.heap T4.heap [] := own_keep e4q
  have KH4 : Keep h0 T4.heap [o2] := KH3.trans K4q own_ws0
  have eh4 : T4.heap = h0 := by rw [e4q]; exact eh3
  have Hn4 := own_St_eq e4q Hn3
  refine ⟨T4, _, _, (0 : Int32), (0 : Int32), (1 : Int32), X4, rfl, N4, trivial, fun target kt => ?_⟩
  -- 4. STEPS
  show Steps p.tables e below (T0.setTop (mkF m 99 #[s0, .val (.int i1), .val (.ref o2), .val (.ref o3), s4, s5, .val (.int i6), .val (.int i7), s8, s9, s10, s11] [])) _
  refine XS.iloadN X0.here hx rfl (hb hby at_99) rfl ?_
  show Steps p.tables e below (T0.setTop (mkF m 100 #[s0, .val (.int i1), .val (.ref o2), .val (.ref o3), s4, s5, .val (.int i6), .val (.int i7), s8, s9, s10, s11] [(.int i1)])) _
  refine XS.iconst X0.here hx rfl (hb hby at_100) ?_
  show Steps p.tables e below (T0.setTop (mkF m 101 #[s0, .val (.int i1), .val (.ref o2), .val (.ref o3), s4, s5, .val (.int i6), .val (.int i7), s8, s9, s10, s11] [(.int (1 : Int32)), (.int i1)])) _
  refine XS.iand X0.here hx rfl (hb hby at_101) rfl ?_
  show Steps p.tables e below (T0.setTop (mkF m 102 #[s0, .val (.int i1), .val (.ref o2), .val (.ref o3), s4, s5, .val (.int i6), .val (.int i7), s8, s9, s10, s11] [(.int (i1 &&& (1 : Int32)))])) _
  refine XS.ifYes X0.here hx rfl (pc0 := 102) (pc' := 109) rfl (hb hby at_102) rfl ((if0 _ _).trans (teq hc102).1) (by decide) (by decide) ?_
  show Steps p.tables e below (T0.setTop (mkF m 109 #[s0, .val (.int i1), .val (.ref o2), .val (.ref o3), s4, s5, .val (.int i6), .val (.int i7), s8, s9, s10, s11] [])) _
  refine XS.iconst X0.here hx rfl (hb hby at_109) ?_
  show Steps p.tables e below (T0.setTop (mkF m 110 #[s0, .val (.int i1), .val (.ref o2), .val (.ref o3), s4, s5, .val (.int i6), .val (.int i7), s8, s9, s10, s11] [(.int (0 : Int32))])) _
  refine XS.istore X0.here hx rfl (hb hby at_110) rfl (l' := #[s0, .val (.int i1), .val (.ref o2), .val (.ref o3), s4, s5, .val (.int i6), .val (.int i7), .val (.int (0 : Int32)), s9, s10, s11]) (os0_110 hs8) ?_
  show Steps p.tables e below (T0.setTop (mkF m 112 #[s0, .val (.int i1), .val (.ref o2), .val (.ref o3), s4, s5, .val (.int i6), .val (.int i7), .val (.int (0 : Int32)), s9, s10, s11] [])) _
  refine XS.iloadN X0.here hx rfl (hb hby at_112) rfl ?_
  show Steps p.tables e below (T0.setTop (mkF m 113 #[s0, .val (.int i1), .val (.ref o2), .val (.ref o3), s4, s5, .val (.int i6), .val (.int i7), .val (.int (0 : Int32)), s9, s10, s11] [(.int i1)])) _
  refine XS.iconst X0.here hx rfl (hb hby at_113) ?_
  show Steps p.tables e below (T0.setTop (mkF m 114 #[s0, .val (.int i1), .val (.ref o2), .val (.ref o3), s4, s5, .val (.int i6), .val (.int i7), .val (.int (0 : Int32)), s9, s10, s11] [(.int (2 : Int32)), (.int i1)])) _
  refine XS.iand X0.here hx rfl (hb hby at_114) rfl ?_
  show Steps p.tables e below (T0.setTop (mkF m 115 #[s0, .val (.int i1), .val (.ref o2), .val (.ref o3), s4, s5, .val (.int i6), .val (.int i7), .val (.int (0 : Int32)), s9, s10, s11] [(.int (i1 &&& (2 : Int32)))])) _
  refine XS.ifYes X0.here hx rfl (pc0 := 115) (pc' := 122) rfl (hb hby at_115) rfl ((if0 _ _).trans (teq hc115).1) (by decide) (by decide) ?_
  show Steps p.tables e below (T0.setTop (mkF m 122 #[s0, .val (.int i1), .val (.ref o2), .val (.ref o3), s4, s5, .val (.int i6), .val (.int i7), .val (.int (0 : Int32)), s9, s10, s11] [])) _
  refine XS.iconst X0.here hx rfl (hb hby at_122) ?_
  show Steps p.tables e below (T0.setTop (mkF m 123 #[s0, .val (.int i1), .val (.ref o2), .val (.ref o3), s4, s5, .val (.int i6), .val (.int i7), .val (.int (0 : Int32)), s9, s10, s11] [(.int (0 : Int32))])) _
  refine XS.istore X0.here hx rfl (hb hby at_123) rfl (l' := #[s0, .val (.int i1), .val (.ref o2), .val (.ref o3), s4, s5, .val (.int i6), .val (.int i7), .val (.int (0 : Int32)), .val (.int (0 : Int32)), s10, s11]) (os0_123 hs9) ?_
  show Steps p.tables e below (T0.setTop (mkF m 125 #[s0, .val (.int i1), .val (.ref o2), .val (.ref o3), s4, s5, .val (.int i6), .val (.int i7), .val (.int (0 : Int32)), .val (.int (0 : Int32)), s10, s11] [])) _
  refine XS.iload X0.here hx rfl (hb hby at_125) rfl ?_
  show Steps p.tables e below (T0.setTop (mkF m 127 #[s0, .val (.int i1), .val (.ref o2), .val (.ref o3), s4, s5, .val (.int i6), .val (.int i7), .val (.int (0 : Int32)), .val (.int (0 : Int32)), s10, s11] [(.int (0 : Int32))])) _
  refine XS.ifYes X0.here hx rfl (pc0 := 127) (pc' := 135) rfl (hb hby at_127) rfl ((if0 _ _).trans (teq (rfl : (0 : Int32) = (0 : Int32))).1) (by decide) (by decide) ?_
  show Steps p.tables e below (T0.setTop (mkF m 135 #[s0, .val (.int i1), .val (.ref o2), .val (.ref o3), s4, s5, .val (.int i6), .val (.int i7), .val (.int (0 : Int32)), .val (.int (0 : Int32)), s10, s11] [])) _
  refine XS.iload X0.here hx rfl (hb hby at_135) rfl ?_
  show Steps p.tables e below (T0.setTop (mkF m 137 #[s0, .val (.int i1), .val (.ref o2), .val (.ref o3), s4, s5, .val (.int i6), .val (.int i7), .val (.int (0 : Int32)), .val (.int (0 : Int32)), s10, s11] [(.int (0 : Int32))])) _
  refine XS.ifYes X0.here hx rfl (pc0 := 137) (pc' := 145) rfl (hb hby at_137) rfl ((if0 _ _).trans (teq (rfl : (0 : Int32) = (0 : Int32))).1) (by decide) (by decide) ?_
  show Steps p.tables e below (T0.setTop (mkF m 145 #[s0, .val (.int i1), .val (.ref o2), .val (.ref o3), s4, s5, .val (.int i6), .val (.int i7), .val (.int (0 : Int32)), .val (.int (0 : Int32)), s10, s11] [])) _
  refine XS.iload X0.here hx rfl (hb hby at_145) rfl ?_
  show Steps p.tables e below (T0.setTop (mkF m 147 #[s0, .val (.int i1), .val (.ref o2), .val (.ref o3), s4, s5, .val (.int i6), .val (.int i7), .val (.int (0 : Int32)), .val (.int (0 : Int32)), s10, s11] [(.int i6)])) _
  refine XS.ifYes X0.here hx rfl (pc0 := 147) (pc' := 160) rfl (hb hby at_147) rfl ((if0 _ _).trans (feq hc147).2) (by decide) (by decide) ?_
  show Steps p.tables e below (T0.setTop (mkF m 160 #[s0, .val (.int i1), .val (.ref o2), .val (.ref o3), s4, s5, .val (.int i6), .val (.int i7), .val (.int (0 : Int32)), .val (.int (0 : Int32)), s10, s11] [])) _
  refine XS.iconst X0.here hx rfl (hb hby at_160) ?_
  show Steps p.tables e below (T0.setTop (mkF m 161 #[s0, .val (.int i1), .val (.ref o2), .val (.ref o3), s4, s5, .val (.int i6), .val (.int i7), .val (.int (0 : Int32)), .val (.int (0 : Int32)), s10, s11] [(.int (1 : Int32))])) _
  refine XS.goto X0.here hx rfl (pc0 := 161) (pc' := 165) rfl (hb hby at_161) (by decide) (by decide) ?_
  show Steps p.tables e below (T0.setTop (mkF m 165 #[s0, .val (.int i1), .val (.ref o2), .val (.ref o3), s4, s5, .val (.int i6), .val (.int i7), .val (.int (0 : Int32)), .val (.int (0 : Int32)), s10, s11] [(.int (1 : Int32))])) _
  refine XS.istore X0.here hx rfl (hb hby at_165) rfl (l' := #[s0, .val (.int i1), .val (.ref o2), .val (.ref o3), s4, s5, .val (.int i6), .val (.int i7), .val (.int (0 : Int32)), .val (.int (0 : Int32)), .val (.int (1 : Int32)), s11]) (os0_165 hs10) ?_
  show Steps p.tables e below (T0.setTop (mkF m 167 #[s0, .val (.int i1), .val (.ref o2), .val (.ref o3), s4, s5, .val (.int i6), .val (.int i7), .val (.int (0 : Int32)), .val (.int (0 : Int32)), .val (.int (1 : Int32)), s11] [])) _
  refine XS.aloadN X0.here hx rfl (hb hby at_167) rfl rfl ?_
  show Steps p.tables e below (T0.setTop (mkF m 168 #[s0, .val (.int i1), .val (.ref o2), .val (.ref o3), s4, s5, .val (.int i6), .val (.int i7), .val (.int (0 : Int32)), .val (.int (0 : Int32)), .val (.int (1 : Int32)), s11] [(.ref o2)])) _
  refine st3.trans ?_
  show Steps p.tables e below (T3.setTop (mkF m 171 #[s0, .val (.int i1), .val (.ref o2), .val (.ref o3), s4, s5, .val (.int i6), .val (.int i7), .val (.int (0 : Int32)), .val (.int (0 : Int32)), .val (.int (1 : Int32)), s11] [(.int (own_f5 r f))])) _
  refine XS.iload X3.here hx rfl (hb hby at_171) rfl ?_
  show Steps p.tables e below (T3.setTop (mkF m 173 #[s0, .val (.int i1), .val (.ref o2), .val (.ref o3), s4, s5, .val (.int i6), .val (.int i7), .val (.int (0 : Int32)), .val (.int (0 : Int32)), .val (.int (1 : Int32)), s11] [(.int (1 : Int32)), (.int (own_f5 r f))])) _
  refine XS.icmpNo X3.here hx rfl (hb hby at_173) rfl (teq ht173).2 ?_
  show Steps p.tables e below (T3.setTop (mkF m 176 #[s0, .val (.int i1), .val (.ref o2), .val (.ref o3), s4, s5, .val (.int i6), .val (.int i7), .val (.int (0 : Int32)), .val (.int (0 : Int32)), .val (.int (1 : Int32)), s11] [])) _
  refine XS.aloadN X3.here hx rfl (hb hby at_176) rfl rfl ?_
  show Steps p.tables e below (T3.setTop (mkF m 177 #[s0, .val (.int i1), .val (.ref o2), .val (.ref o3), s4, s5, .val (.int i6), .val (.int i7), .val (.int (0 : Int32)), .val (.int (0 : Int32)), .val (.int (1 : Int32)), s11] [(.ref o3)])) _
  refine st4.trans ?_
  show Steps p.tables e below (T4.setTop (mkF m 180 #[s0, .val (.int i1), .val (.ref o2), .val (.ref o3), s4, s5, .val (.int i6), .val (.int i7), .val (.int (0 : Int32)), .val (.int (0 : Int32)), .val (.int (1 : Int32)), s11] [(.int (own_f5 r f))])) _
  refine XS.iload X4.here hx rfl (hb hby at_180) rfl ?_
  show Steps p.tables e below (T4.setTop (mkF m 182 #[s0, .val (.int i1), .val (.ref o2), .val (.ref o3), s4, s5, .val (.int i6), .val (.int i7), .val (.int (0 : Int32)), .val (.int (0 : Int32)), .val (.int (1 : Int32)), s11] [(.int (1 : Int32)), (.int (own_f5 r f))])) _
  refine XS.icmpNo X4.here hx rfl (hb hby at_182) rfl (teq ht182).2 ?_
  show Steps p.tables e below (T4.setTop (mkF m 185 #[s0, .val (.int i1), .val (.ref o2), .val (.ref o3), s4, s5, .val (.int i6), .val (.int i7), .val (.int (0 : Int32)), .val (.int (0 : Int32)), .val (.int (1 : Int32)), s11] [])) _
  refine XS.iconst X4.here hx rfl (hb hby at_185) ?_
  show Steps p.tables e below (T4.setTop (mkF m 186 #[s0, .val (.int i1), .val (.ref o2), .val (.ref o3), s4, s5, .val (.int i6), .val (.int i7), .val (.int (0 : Int32)), .val (.int (0 : Int32)), .val (.int (1 : Int32)), s11] [(.int (1 : Int32))])) _
  refine XS.goto X4.here hx rfl (pc0 := 186) (pc' := 190) rfl (hb hby at_186) (by decide) (by decide) ?_
  show Steps p.tables e below (T4.setTop (mkF m 190 #[s0, .val (.int i1), .val (.ref o2), .val (.ref o3), s4, s5, .val (.int i6), .val (.int i7), .val (.int (0 : Int32)), .val (.int (0 : Int32)), .val (.int (1 : Int32)), s11] [(.int (1 : Int32))])) _
  refine XS.istore X4.here hx rfl (hb hby at_190) rfl (l' := #[s0, .val (.int i1), .val (.ref o2), .val (.ref o3), s4, s5, .val (.int i6), .val (.int i7), .val (.int (0 : Int32)), .val (.int (0 : Int32)), .val (.int (1 : Int32)), .val (.int (1 : Int32))]) (os0_190 hs11) ?_
  show Steps p.tables e below (T4.setTop (mkF m 192 #[s0, .val (.int i1), .val (.ref o2), .val (.ref o3), s4, s5, .val (.int i6), .val (.int i7), .val (.int (0 : Int32)), .val (.int (0 : Int32)), .val (.int (1 : Int32)), .val (.int (1 : Int32))] [])) _
  refine XS.iload X4.here hx rfl (hb hby at_192) rfl ?_
  show Steps p.tables e below (T4.setTop (mkF m 194 #[s0, .val (.int i1), .val (.ref o2), .val (.ref o3), s4, s5, .val (.int i6), .val (.int i7), .val (.int (0 : Int32)), .val (.int (0 : Int32)), .val (.int (1 : Int32)), .val (.int (1 : Int32))] [(.int i7)])) _
  refine XS.ifNo X4.here hx rfl (hb hby at_194) rfl ((if0 _ _).trans (feq hc194).1) ?_
  show Steps p.tables e below (T4.setTop (mkF m 197 #[s0, .val (.int i1), .val (.ref o2), .val (.ref o3), s4, s5, .val (.int i6), .val (.int i7), .val (.int (0 : Int32)), .val (.int (0 : Int32)), .val (.int (1 : Int32)), .val (.int (1 : Int32))] [])) _
  refine XS.iload X4.here hx rfl (hb hby at_197) rfl ?_
  show Steps p.tables e below (T4.setTop (mkF m 199 #[s0, .val (.int i1), .val (.ref o2), .val (.ref o3), s4, s5, .val (.int i6), .val (.int i7), .val (.int (0 : Int32)), .val (.int (0 : Int32)), .val (.int (1 : Int32)), .val (.int (1 : Int32))] [(.int (1 : Int32))])) _
  refine XS.ifNo X4.here hx rfl (hb hby at_199) rfl ((if0 _ _).trans (feq hc199).1) ?_
  exact kt
theorem pd_0_4 : parseMethodDescriptor "(Ljava/lang/Throwable;)V" = some ⟨[(.object "java/lang/Throwable")], none⟩ := by decide +kernel
set_option maxRecDepth 65536 in
set_option maxHeartbeats 40000000 in
theorem own_p2_010 {p : Program} {l : Launch} {e : Env} {s : State} {m : MethodId} {args : Array Value} {below : List Frame} {meth : Method} {c : Code} {T0 : State} {locs : List Loc} {Z : State} {a0 : Array Value} {h0 : Heap} {n0 : Nat} (s0 : Slot) (i1 : Int32) (o2 : Addr) (o3 : Addr) (s4 : Slot) (s5 : Slot) (i6 : Int32) (i7 : Int32) (s8 : Slot) (s9 : Slot) (s10 : Slot) (s11 : Slot) (r : Int32) (f : Int32)
    (X0 : Stand p l e room_1 s m args below meth c T0 locs 2 10) (hx : p.tables.exec = Jvm.exec) (hZ : Z.Warmed39 s.vm) (hw : ∀ d ∈ tables_1, d.before a0 Z = true) (hby : c.code = code) (hml : c.maxLocals = 12) (hown : s.vm.findClass "com/example/orderly_tx/orderlytx/UnitStatusIsRollbackOnlyPinLaw" = some m.cls) (e0 : T0.heap = h0) (N0 : Fr n0 locs) (Z0 : n0 ≤ h0.size) (Hst : own_St Z h0 o2 o3 r f) (g_o2 : n0 ≤ o2) (nep : o3 ≠ o2) (hs8 : One s8) (hs9 : One s9) (hs10 : One s10) (hs11 : One s11) (hc102 : (i1 &&& (1 : Int32)) = (0 : Int32)) (hc115 : ¬ ((i1 &&& (2 : Int32)) = (0 : Int32))) (hc137 : ¬ ((1 : Int32) = (0 : Int32))) (hc147 : i6 = (0 : Int32)) (hc157 : ¬ ((1 : Int32) = (0 : Int32))) (ht173 : (own_f5 r (1 : Int32)) = (1 : Int32)) (ht182 : (own_f5 r (1 : Int32)) = (1 : Int32)) (hc194 : ¬ (i7 = (0 : Int32))) (hc199 : ¬ ((1 : Int32) = (0 : Int32))) :
    ∃ (T' : State) (h' : Heap) (locs' : List Loc) (x8 x9 x10 : Int32), Stand p l e room_1 s m args below meth c T' locs' 2 10 ∧ T'.heap = h' ∧ Fr n0 locs' ∧ True ∧ ∀ target, Steps p.tables e below (T'.setTop (mkF m 202 #[s0, .val (.int i1), .val (.ref o2), .val (.ref o3), s4, s5, .val (.int i6), .val (.int i7), .val (.int x8), .val (.int x9), .val (.int x10), .val (.int (1 : Int32))] [])) target → Steps p.tables e below (T0.setTop (mkF m 99 #[s0, .val (.int i1), .val (.ref o2), .val (.ref o3), s4, s5, .val (.int i6), .val (.int i7), s8, s9, s10, s11] [])) target := by
  have E_o2 := Hst.1
  have E_o3 := Hst.2.2.2.2.2.1
  -- 3. LAWS
  -- pc 142: com/example/orderly_tx/orderlytx/UnitStatus.fail by the contract of the body that the receiver's class selects, rm6
  obtain ⟨cq3, kq3, q3a, q3b, q3c⟩ := isOf hZ e0 E_o3
  obtain ⟨_, _, ⟨T3, L3, k3, n3⟩, -, X3, ⟨Lc3, hQ3, l3, y3, z3⟩, st3⟩ := X0.virtualBack hx (y := (⟨"com/example/orderly_tx/orderlytx/UnitStatus", "fail", "(Ljava/lang/Throwable;)V"⟩ : MethodName)) (z := (⟨"com/example/orderly_tx/orderlytx/UnitStatus", "fail", "(Ljava/lang/Throwable;)V"⟩ : MethodName)) hown (mvT hZ (hw _ (List.mem_of_getElem? (i := 32) rfl))) (mvT hZ (hw _ (List.mem_of_getElem? (i := 33) rfl))) (notFace_of_selects (args := #[]) (mvT hZ (hw _ (List.mem_of_getElem? (i := 35) rfl)))) (mvT hZ (hw _ (List.mem_of_getElem? (i := 35) rfl))) (mvT hZ (hw _ (List.mem_of_getElem? (i := 34) rfl))) (by decide) (backOf (W := 0) (rm6p l Z a0 hw [] o3 o2 r f h0 n0 Z0 Hst g_o2 nep) hZ (hw _ (List.mem_of_getElem? (i := 36) rfl)) (hw _ (List.mem_of_getElem? (i := 2) rfl)) (by decide) (by decide)) q3a q3c (g := (mkF m 142 #[s0, .val (.int i1), .val (.ref o2), .val (.ref o3), s4, s5, .val (.int i6), .val (.int i7), .val (.int (0 : Int32)), .val (.int (1 : Int32)), s10, s11] [.null, (.ref o3)])) rfl (by rw [hml]; rfl) (Steps.refl _) (argsL := [.null]) (rest := []) (lenOf pd_0_4 rfl) rfl (by show 2 * 0 + _ ≤ _; exact Nat.le_of_eq rfl) (hb hby at_142) (fun _ _ => ⟨rfl, e0, (by decide : 2 + 0 + 0 ≤ _), (by decide : 10 + 0 + 0 ≤ _)⟩)
  dsimp only [Pt.U, Pt.locs, Pt.cells, Pt.slots] at X3 l3 y3 z3 st3 hQ3
  subst l3 y3 z3
  obtain ⟨rfl, N3q, K3q, H3q⟩ := hQ3
  have N3 := Fr.app N0 N3q
  have KH3 : Keep h0 T3.heap [o2] := (Keep.refl h0 [o2]).trans K3q (fun x hx => Or.inl hx)
  -- pc 168: com/example/orderly_tx/orderlytx/UnitStatus.isRollbackOnly by the contract of the body that the receiver's class selects, rm5
  obtain ⟨cq4, kq4, q4a, q4b, q4c⟩ := isOf hZ rfl (E_o2.keep K3q)
  obtain ⟨_, _, ⟨T4, L4, k4, n4⟩, -, X4, ⟨Lc4, hQ4, l4, y4, z4⟩, st4⟩ := X3.virtualBack hx (y := (⟨"com/example/orderly_tx/orderlytx/UnitStatus", "isRollbackOnly", "()Z"⟩ : MethodName)) (z := (⟨"com/example/orderly_tx/orderlytx/UnitStatus", "isRollbackOnly", "()Z"⟩ : MethodName)) hown (mvT hZ (hw _ (List.mem_of_getElem? (i := 22) rfl))) (mvT hZ (hw _ (List.mem_of_getElem? (i := 23) rfl))) (notFace_of_selects (args := #[]) (mvT hZ (hw _ (List.mem_of_getElem? (i := 25) rfl)))) (mvT hZ (hw _ (List.mem_of_getElem? (i := 25) rfl))) (mvT hZ (hw _ (List.mem_of_getElem? (i := 24) rfl))) (by decide) (backOf (W := 0) (rm5 l Z a0 hw [] o2 r (1 : Int32) T3.heap n0 (Nat.le_trans Z0 KH3.1) H3q.2.1 H3q.2.2.1 H3q.2.2.2.1) hZ (hw _ (List.mem_of_getElem? (i := 26) rfl)) (hw _ (List.mem_of_getElem? (i := 2) rfl)) (by decide) (by decide)) q4a q4c (g := (mkF m 168 #[s0, .val (.int i1), .val (.ref o2), .val (.ref o3), s4, s5, .val (.int i6), .val (.int i7), .val (.int (0 : Int32)), .val (.int (1 : Int32)), .val (.int (1 : Int32)), s11] [(.ref o2)])) rfl (by rw [hml]; rfl) (Steps.refl _) (argsL := []) (rest := []) (lenOf pd_0_3 rfl) rfl (by show 2 * 0 + _ ≤ _; exact Nat.le_of_eq rfl) (hb hby at_168) (fun _ _ => ⟨rfl, rfl, (by decide : 2 + 0 + 0 ≤ _), (by decide : 10 + 0 + 0 ≤ _)⟩)
  dsimp only [Pt.U, Pt.locs, Pt.cells, Pt.slots] at X4 l4 y4 z4 st4 hQ4
  subst l4 y4 z4
  obtain ⟨rfl, N4q, e4q⟩ := hQ4
  have N4 := Fr.app N3 N4q
  have K4q : Keep T3.heap T4.heap [] := own_keep e4q
  have KH4 : Keep h0 T4.heap [o2] := KH3.trans K4q own_ws0
  have Hn4 := own_St_eq e4q H3q
  -- pc 177: com/example/orderly_tx/orderlytx/UnitStatus.isRollbackOnly by the contract of the body that the receiver's class selects, rm5
  obtain ⟨cq5, kq5, q5a, q5b, q5c⟩ := isOf hZ rfl ((E_o3.keep K3q).keep K4q)
  obtain ⟨_, _, ⟨T5, L5, k5, n5⟩, -, X5, ⟨Lc5, hQ5, l5, y5, z5⟩, st5⟩ := X4.virtualBack hx (y := (⟨"com/example/orderly_tx/orderlytx/UnitStatus", "isRollbackOnly", "()Z"⟩ : MethodName)) (z := (⟨"com/example/orderly_tx/orderlytx/UnitStatus", "isRollbackOnly", "()Z"⟩ : MethodName)) hown (mvT hZ (hw _ (List.mem_of_getElem? (i := 22) rfl))) (mvT hZ (hw _ (List.mem_of_getElem? (i := 23) rfl))) (notFace_of_selects (args := #[]) (mvT hZ (hw _ (List.mem_of_getElem? (i := 25) rfl)))) (mvT hZ (hw _ (List.mem_of_getElem? (i := 25) rfl))) (mvT hZ (hw _ (List.mem_of_getElem? (i := 24) rfl))) (by decide) (backOf (W := 0) (rm5p l Z a0 hw [] o3 o2 r (1 : Int32) T4.heap n0 (Nat.le_trans Z0 KH4.1) Hn4.2.2.2.2.2.2 Hn4.1 Hn4.2.1 Hn4.2.2.1 Hn4.2.2.2.1) hZ (hw _ (List.mem_of_getElem? (i := 26) rfl)) (hw _ (List.mem_of_getElem? (i := 2) rfl)) (by decide) (by decide)) q5a q5c (g := (mkF m 177 #[s0, .val (.int i1), .val (.ref o2), .val (.ref o3), s4, s5, .val (.int i6), .val (.int i7), .val (.int (0 : Int32)), .val (.int (1 : Int32)), .val (.int (1 : Int32)), s11] [(.ref o3)])) rfl (by rw [hml]; rfl) (Steps.refl _) (argsL := []) (rest := []) (lenOf pd_0_3 rfl) rfl (by show 2 * 0 + _ ≤ _; exact Nat.le_of_eq rfl) (hb hby at_177) (fun _ _ => ⟨rfl, rfl, (by decide : 2 + 0 + 0 ≤ _), (by decide : 10 + 0 + 0 ≤ _)⟩)
  dsimp only [Pt.U, Pt.locs, Pt.cells, Pt.slots] at X5 l5 y5 z5 st5 hQ5
  subst l5 y5 z5
  obtain ⟨rfl, N5q, e5q⟩ := hQ5
  have N5 := Fr.app N4 N5q
  have K5q : Keep T4.heap T5.heap [] := own_keep e5q
  have KH5 : Keep h0 T5.heap [o2] := KH4.trans K5q own_ws0
  have Hn5 := own_St_eq e5q Hn4
  refine ⟨T5, _, _, (0 : Int32), (1 : Int32), (1 : Int32), X5, rfl, N5, trivial, fun target kt => ?_⟩
  -- 4. STEPS
  show Steps p.tables e below (T0.setTop (mkF m 99 #[s0, .val (.int i1), .val (.ref o2), .val (.ref o3), s4, s5, .val (.int i6), .val (.int i7), s8, s9, s10, s11] [])) _
  refine XS.iloadN X0.here hx rfl (hb hby at_99) rfl ?_
  show Steps p.tables e below (T0.setTop (mkF m 100 #[s0, .val (.int i1), .val (.ref o2), .val (.ref o3), s4, s5, .val (.int i6), .val (.int i7), s8, s9, s10, s11] [(.int i1)])) _
  refine XS.iconst X0.here hx rfl (hb hby at_100) ?_
  show Steps p.tables e below (T0.setTop (mkF m 101 #[s0, .val (.int i1), .val (.ref o2), .val (.ref o3), s4, s5, .val (.int i6), .val (.int i7), s8, s9, s10, s11] [(.int (1 : Int32)), (.int i1)])) _
  refine XS.iand X0.here hx rfl (hb hby at_101) rfl ?_
  show Steps p.tables e below (T0.setTop (mkF m 102 #[s0, .val (.int i1), .val (.ref o2), .val (.ref o3), s4, s5, .val (.int i6), .val (.int i7), s8, s9, s10, s11] [(.int (i1 &&& (1 : Int32)))])) _
  refine XS.ifYes X0.here hx rfl (pc0 := 102) (pc' := 109) rfl (hb hby at_102) rfl ((if0 _ _).trans (teq hc102).1) (by decide) (by decide) ?_
  show Steps p.tables e below (T0.setTop (mkF m 109 #[s0, .val (.int i1), .val (.ref o2), .val (.ref o3), s4, s5, .val (.int i6), .val (.int i7), s8, s9, s10, s11] [])) _
  refine XS.iconst X0.here hx rfl (hb hby at_109) ?_
  show Steps p.tables e below (T0.setTop (mkF m 110 #[s0, .val (.int i1), .val (.ref o2), .val (.ref o3), s4, s5, .val (.int i6), .val (.int i7), s8, s9, s10, s11] [(.int (0 : Int32))])) _
  refine XS.istore X0.here hx rfl (hb hby at_110) rfl (l' := #[s0, .val (.int i1), .val (.ref o2), .val (.ref o3), s4, s5, .val (.int i6), .val (.int i7), .val (.int (0 : Int32)), s9, s10, s11]) (os0_110 hs8) ?_
  show Steps p.tables e below (T0.setTop (mkF m 112 #[s0, .val (.int i1), .val (.ref o2), .val (.ref o3), s4, s5, .val (.int i6), .val (.int i7), .val (.int (0 : Int32)), s9, s10, s11] [])) _
  refine XS.iloadN X0.here hx rfl (hb hby at_112) rfl ?_
  show Steps p.tables e below (T0.setTop (mkF m 113 #[s0, .val (.int i1), .val (.ref o2), .val (.ref o3), s4, s5, .val (.int i6), .val (.int i7), .val (.int (0 : Int32)), s9, s10, s11] [(.int i1)])) _
  refine XS.iconst X0.here hx rfl (hb hby at_113) ?_
  show Steps p.tables e below (T0.setTop (mkF m 114 #[s0, .val (.int i1), .val (.ref o2), .val (.ref o3), s4, s5, .val (.int i6), .val (.int i7), .val (.int (0 : Int32)), s9, s10, s11] [(.int (2 : Int32)), (.int i1)])) _
  refine XS.iand X0.here hx rfl (hb hby at_114) rfl ?_
  show Steps p.tables e below (T0.setTop (mkF m 115 #[s0, .val (.int i1), .val (.ref o2), .val (.ref o3), s4, s5, .val (.int i6), .val (.int i7), .val (.int (0 : Int32)), s9, s10, s11] [(.int (i1 &&& (2 : Int32)))])) _
  refine XS.ifNo X0.here hx rfl (hb hby at_115) rfl ((if0 _ _).trans (feq hc115).1) ?_
  show Steps p.tables e below (T0.setTop (mkF m 118 #[s0, .val (.int i1), .val (.ref o2), .val (.ref o3), s4, s5, .val (.int i6), .val (.int i7), .val (.int (0 : Int32)), s9, s10, s11] [])) _
  refine XS.iconst X0.here hx rfl (hb hby at_118) ?_
  show Steps p.tables e below (T0.setTop (mkF m 119 #[s0, .val (.int i1), .val (.ref o2), .val (.ref o3), s4, s5, .val (.int i6), .val (.int i7), .val (.int (0 : Int32)), s9, s10, s11] [(.int (1 : Int32))])) _
  refine XS.goto X0.here hx rfl (pc0 := 119) (pc' := 123) rfl (hb hby at_119) (by decide) (by decide) ?_
  show Steps p.tables e below (T0.setTop (mkF m 123 #[s0, .val (.int i1), .val (.ref o2), .val (.ref o3), s4, s5, .val (.int i6), .val (.int i7), .val (.int (0 : Int32)), s9, s10, s11] [(.int (1 : Int32))])) _
  refine XS.istore X0.here hx rfl (hb hby at_123) rfl (l' := #[s0, .val (.int i1), .val (.ref o2), .val (.ref o3), s4, s5, .val (.int i6), .val (.int i7), .val (.int (0 : Int32)), .val (.int (1 : Int32)), s10, s11]) (os0_123 hs9) ?_
  show Steps p.tables e below (T0.setTop (mkF m 125 #[s0, .val (.int i1), .val (.ref o2), .val (.ref o3), s4, s5, .val (.int i6), .val (.int i7), .val (.int (0 : Int32)), .val (.int (1 : Int32)), s10, s11] [])) _
  refine XS.iload X0.here hx rfl (hb hby at_125) rfl ?_
  show Steps p.tables e below (T0.setTop (mkF m 127 #[s0, .val (.int i1), .val (.ref o2), .val (.ref o3), s4, s5, .val (.int i6), .val (.int i7), .val (.int (0 : Int32)), .val (.int (1 : Int32)), s10, s11] [(.int (0 : Int32))])) _
  refine XS.ifYes X0.here hx rfl (pc0 := 127) (pc' := 135) rfl (hb hby at_127) rfl ((if0 _ _).trans (teq (rfl : (0 : Int32) = (0 : Int32))).1) (by decide) (by decide) ?_
  show Steps p.tables e below (T0.setTop (mkF m 135 #[s0, .val (.int i1), .val (.ref o2), .val (.ref o3), s4, s5, .val (.int i6), .val (.int i7), .val (.int (0 : Int32)), .val (.int (1 : Int32)), s10, s11] [])) _
  refine XS.iload X0.here hx rfl (hb hby at_135) rfl ?_
  show Steps p.tables e below (T0.setTop (mkF m 137 #[s0, .val (.int i1), .val (.ref o2), .val (.ref o3), s4, s5, .val (.int i6), .val (.int i7), .val (.int (0 : Int32)), .val (.int (1 : Int32)), s10, s11] [(.int (1 : Int32))])) _
  refine XS.ifNo X0.here hx rfl (hb hby at_137) rfl ((if0 _ _).trans (feq hc137).1) ?_
  show Steps p.tables e below (T0.setTop (mkF m 140 #[s0, .val (.int i1), .val (.ref o2), .val (.ref o3), s4, s5, .val (.int i6), .val (.int i7), .val (.int (0 : Int32)), .val (.int (1 : Int32)), s10, s11] [])) _
  refine XS.aloadN X0.here hx rfl (hb hby at_140) rfl rfl ?_
  show Steps p.tables e below (T0.setTop (mkF m 141 #[s0, .val (.int i1), .val (.ref o2), .val (.ref o3), s4, s5, .val (.int i6), .val (.int i7), .val (.int (0 : Int32)), .val (.int (1 : Int32)), s10, s11] [(.ref o3)])) _
  refine XS.aconstNull X0.here hx rfl (hb hby at_141) ?_
  show Steps p.tables e below (T0.setTop (mkF m 142 #[s0, .val (.int i1), .val (.ref o2), .val (.ref o3), s4, s5, .val (.int i6), .val (.int i7), .val (.int (0 : Int32)), .val (.int (1 : Int32)), s10, s11] [.null, (.ref o3)])) _
  refine st3.trans ?_
  show Steps p.tables e below (T3.setTop (mkF m 145 #[s0, .val (.int i1), .val (.ref o2), .val (.ref o3), s4, s5, .val (.int i6), .val (.int i7), .val (.int (0 : Int32)), .val (.int (1 : Int32)), s10, s11] [])) _
  refine XS.iload X3.here hx rfl (hb hby at_145) rfl ?_
  show Steps p.tables e below (T3.setTop (mkF m 147 #[s0, .val (.int i1), .val (.ref o2), .val (.ref o3), s4, s5, .val (.int i6), .val (.int i7), .val (.int (0 : Int32)), .val (.int (1 : Int32)), s10, s11] [(.int i6)])) _
  refine XS.ifNo X3.here hx rfl (hb hby at_147) rfl ((if0 _ _).trans (teq hc147).2) ?_
  show Steps p.tables e below (T3.setTop (mkF m 150 #[s0, .val (.int i1), .val (.ref o2), .val (.ref o3), s4, s5, .val (.int i6), .val (.int i7), .val (.int (0 : Int32)), .val (.int (1 : Int32)), s10, s11] [])) _
  refine XS.iload X3.here hx rfl (hb hby at_150) rfl ?_
  show Steps p.tables e below (T3.setTop (mkF m 152 #[s0, .val (.int i1), .val (.ref o2), .val (.ref o3), s4, s5, .val (.int i6), .val (.int i7), .val (.int (0 : Int32)), .val (.int (1 : Int32)), s10, s11] [(.int (0 : Int32))])) _
  refine XS.ifNo X3.here hx rfl (hb hby at_152) rfl ((if0 _ _).trans (teq (rfl : (0 : Int32) = (0 : Int32))).2) ?_
  show Steps p.tables e below (T3.setTop (mkF m 155 #[s0, .val (.int i1), .val (.ref o2), .val (.ref o3), s4, s5, .val (.int i6), .val (.int i7), .val (.int (0 : Int32)), .val (.int (1 : Int32)), s10, s11] [])) _
  refine XS.iload X3.here hx rfl (hb hby at_155) rfl ?_
  show Steps p.tables e below (T3.setTop (mkF m 157 #[s0, .val (.int i1), .val (.ref o2), .val (.ref o3), s4, s5, .val (.int i6), .val (.int i7), .val (.int (0 : Int32)), .val (.int (1 : Int32)), s10, s11] [(.int (1 : Int32))])) _
  refine XS.ifNo X3.here hx rfl (hb hby at_157) rfl ((if0 _ _).trans (feq hc157).1) ?_
  show Steps p.tables e below (T3.setTop (mkF m 160 #[s0, .val (.int i1), .val (.ref o2), .val (.ref o3), s4, s5, .val (.int i6), .val (.int i7), .val (.int (0 : Int32)), .val (.int (1 : Int32)), s10, s11] [])) _
  refine XS.iconst X3.here hx rfl (hb hby at_160) ?_
  show Steps p.tables e below (T3.setTop (mkF m 161 #[s0, .val (.int i1), .val (.ref o2), .val (.ref o3), s4, s5, .val (.int i6), .val (.int i7), .val (.int (0 : Int32)), .val (.int (1 : Int32)), s10, s11] [(.int (1 : Int32))])) _
  refine XS.goto X3.here hx rfl (pc0 := 161) (pc' := 165) rfl (hb hby at_161) (by decide) (by decide) ?_
  show Steps p.tables e below (T3.setTop (mkF m 165 #[s0, .val (.int i1), .val (.ref o2), .val (.ref o3), s4, s5, .val (.int i6), .val (.int i7), .val (.int (0 : Int32)), .val (.int (1 : Int32)), s10, s11] [(.int (1 : Int32))])) _
  refine XS.istore X3.here hx rfl (hb hby at_165) rfl (l' := #[s0, .val (.int i1), .val (.ref o2), .val (.ref o3), s4, s5, .val (.int i6), .val (.int i7), .val (.int (0 : Int32)), .val (.int (1 : Int32)), .val (.int (1 : Int32)), s11]) (os0_165 hs10) ?_
  show Steps p.tables e below (T3.setTop (mkF m 167 #[s0, .val (.int i1), .val (.ref o2), .val (.ref o3), s4, s5, .val (.int i6), .val (.int i7), .val (.int (0 : Int32)), .val (.int (1 : Int32)), .val (.int (1 : Int32)), s11] [])) _
  refine XS.aloadN X3.here hx rfl (hb hby at_167) rfl rfl ?_
  show Steps p.tables e below (T3.setTop (mkF m 168 #[s0, .val (.int i1), .val (.ref o2), .val (.ref o3), s4, s5, .val (.int i6), .val (.int i7), .val (.int (0 : Int32)), .val (.int (1 : Int32)), .val (.int (1 : Int32)), s11] [(.ref o2)])) _
  refine st4.trans ?_
  show Steps p.tables e below (T4.setTop (mkF m 171 #[s0, .val (.int i1), .val (.ref o2), .val (.ref o3), s4, s5, .val (.int i6), .val (.int i7), .val (.int (0 : Int32)), .val (.int (1 : Int32)), .val (.int (1 : Int32)), s11] [(.int (own_f5 r (1 : Int32)))])) _
  refine XS.iload X4.here hx rfl (hb hby at_171) rfl ?_
  show Steps p.tables e below (T4.setTop (mkF m 173 #[s0, .val (.int i1), .val (.ref o2), .val (.ref o3), s4, s5, .val (.int i6), .val (.int i7), .val (.int (0 : Int32)), .val (.int (1 : Int32)), .val (.int (1 : Int32)), s11] [(.int (1 : Int32)), (.int (own_f5 r (1 : Int32)))])) _
  refine XS.icmpNo X4.here hx rfl (hb hby at_173) rfl (teq ht173).2 ?_
  show Steps p.tables e below (T4.setTop (mkF m 176 #[s0, .val (.int i1), .val (.ref o2), .val (.ref o3), s4, s5, .val (.int i6), .val (.int i7), .val (.int (0 : Int32)), .val (.int (1 : Int32)), .val (.int (1 : Int32)), s11] [])) _
  refine XS.aloadN X4.here hx rfl (hb hby at_176) rfl rfl ?_
  show Steps p.tables e below (T4.setTop (mkF m 177 #[s0, .val (.int i1), .val (.ref o2), .val (.ref o3), s4, s5, .val (.int i6), .val (.int i7), .val (.int (0 : Int32)), .val (.int (1 : Int32)), .val (.int (1 : Int32)), s11] [(.ref o3)])) _
  refine st5.trans ?_
  show Steps p.tables e below (T5.setTop (mkF m 180 #[s0, .val (.int i1), .val (.ref o2), .val (.ref o3), s4, s5, .val (.int i6), .val (.int i7), .val (.int (0 : Int32)), .val (.int (1 : Int32)), .val (.int (1 : Int32)), s11] [(.int (own_f5 r (1 : Int32)))])) _
  refine XS.iload X5.here hx rfl (hb hby at_180) rfl ?_
  show Steps p.tables e below (T5.setTop (mkF m 182 #[s0, .val (.int i1), .val (.ref o2), .val (.ref o3), s4, s5, .val (.int i6), .val (.int i7), .val (.int (0 : Int32)), .val (.int (1 : Int32)), .val (.int (1 : Int32)), s11] [(.int (1 : Int32)), (.int (own_f5 r (1 : Int32)))])) _
  refine XS.icmpNo X5.here hx rfl (hb hby at_182) rfl (teq ht182).2 ?_
  show Steps p.tables e below (T5.setTop (mkF m 185 #[s0, .val (.int i1), .val (.ref o2), .val (.ref o3), s4, s5, .val (.int i6), .val (.int i7), .val (.int (0 : Int32)), .val (.int (1 : Int32)), .val (.int (1 : Int32)), s11] [])) _
  refine XS.iconst X5.here hx rfl (hb hby at_185) ?_
  show Steps p.tables e below (T5.setTop (mkF m 186 #[s0, .val (.int i1), .val (.ref o2), .val (.ref o3), s4, s5, .val (.int i6), .val (.int i7), .val (.int (0 : Int32)), .val (.int (1 : Int32)), .val (.int (1 : Int32)), s11] [(.int (1 : Int32))])) _
  refine XS.goto X5.here hx rfl (pc0 := 186) (pc' := 190) rfl (hb hby at_186) (by decide) (by decide) ?_
  show Steps p.tables e below (T5.setTop (mkF m 190 #[s0, .val (.int i1), .val (.ref o2), .val (.ref o3), s4, s5, .val (.int i6), .val (.int i7), .val (.int (0 : Int32)), .val (.int (1 : Int32)), .val (.int (1 : Int32)), s11] [(.int (1 : Int32))])) _
  refine XS.istore X5.here hx rfl (hb hby at_190) rfl (l' := #[s0, .val (.int i1), .val (.ref o2), .val (.ref o3), s4, s5, .val (.int i6), .val (.int i7), .val (.int (0 : Int32)), .val (.int (1 : Int32)), .val (.int (1 : Int32)), .val (.int (1 : Int32))]) (os0_190 hs11) ?_
  show Steps p.tables e below (T5.setTop (mkF m 192 #[s0, .val (.int i1), .val (.ref o2), .val (.ref o3), s4, s5, .val (.int i6), .val (.int i7), .val (.int (0 : Int32)), .val (.int (1 : Int32)), .val (.int (1 : Int32)), .val (.int (1 : Int32))] [])) _
  refine XS.iload X5.here hx rfl (hb hby at_192) rfl ?_
  show Steps p.tables e below (T5.setTop (mkF m 194 #[s0, .val (.int i1), .val (.ref o2), .val (.ref o3), s4, s5, .val (.int i6), .val (.int i7), .val (.int (0 : Int32)), .val (.int (1 : Int32)), .val (.int (1 : Int32)), .val (.int (1 : Int32))] [(.int i7)])) _
  refine XS.ifNo X5.here hx rfl (hb hby at_194) rfl ((if0 _ _).trans (feq hc194).1) ?_
  show Steps p.tables e below (T5.setTop (mkF m 197 #[s0, .val (.int i1), .val (.ref o2), .val (.ref o3), s4, s5, .val (.int i6), .val (.int i7), .val (.int (0 : Int32)), .val (.int (1 : Int32)), .val (.int (1 : Int32)), .val (.int (1 : Int32))] [])) _
  refine XS.iload X5.here hx rfl (hb hby at_197) rfl ?_
  show Steps p.tables e below (T5.setTop (mkF m 199 #[s0, .val (.int i1), .val (.ref o2), .val (.ref o3), s4, s5, .val (.int i6), .val (.int i7), .val (.int (0 : Int32)), .val (.int (1 : Int32)), .val (.int (1 : Int32)), .val (.int (1 : Int32))] [(.int (1 : Int32))])) _
  refine XS.ifNo X5.here hx rfl (hb hby at_199) rfl ((if0 _ _).trans (feq hc199).1) ?_
  exact kt
set_option maxRecDepth 65536 in
set_option maxHeartbeats 40000000 in
theorem own_p2_011 {p : Program} {l : Launch} {e : Env} {s : State} {m : MethodId} {args : Array Value} {below : List Frame} {meth : Method} {c : Code} {T0 : State} {locs : List Loc} {Z : State} {a0 : Array Value} {h0 : Heap} {n0 : Nat} (s0 : Slot) (i1 : Int32) (o2 : Addr) (o3 : Addr) (s4 : Slot) (s5 : Slot) (i6 : Int32) (i7 : Int32) (s8 : Slot) (s9 : Slot) (s10 : Slot) (s11 : Slot) (r : Int32) (f : Int32)
    (X0 : Stand p l e room_1 s m args below meth c T0 locs 2 10) (hx : p.tables.exec = Jvm.exec) (hZ : Z.Warmed39 s.vm) (hw : ∀ d ∈ tables_1, d.before a0 Z = true) (hby : c.code = code) (hml : c.maxLocals = 12) (hown : s.vm.findClass "com/example/orderly_tx/orderlytx/UnitStatusIsRollbackOnlyPinLaw" = some m.cls) (e0 : T0.heap = h0) (N0 : Fr n0 locs) (Z0 : n0 ≤ h0.size) (Hst : own_St Z h0 o2 o3 r f) (g_o2 : n0 ≤ o2) (nep : o3 ≠ o2) (hs8 : One s8) (hs9 : One s9) (hs10 : One s10) (hs11 : One s11) (hc102 : (i1 &&& (1 : Int32)) = (0 : Int32)) (hc115 : ¬ ((i1 &&& (2 : Int32)) = (0 : Int32))) (hc137 : ¬ ((1 : Int32) = (0 : Int32))) (hc147 : ¬ (i6 = (0 : Int32))) (ht173 : (own_f5 r (1 : Int32)) = (1 : Int32)) (ht182 : (own_f5 r (1 : Int32)) = (1 : Int32)) (hc194 : ¬ (i7 = (0 : Int32))) (hc199 : ¬ ((1 : Int32) = (0 : Int32))) :
    ∃ (T' : State) (h' : Heap) (locs' : List Loc) (x8 x9 x10 : Int32), Stand p l e room_1 s m args below meth c T' locs' 2 10 ∧ T'.heap = h' ∧ Fr n0 locs' ∧ True ∧ ∀ target, Steps p.tables e below (T'.setTop (mkF m 202 #[s0, .val (.int i1), .val (.ref o2), .val (.ref o3), s4, s5, .val (.int i6), .val (.int i7), .val (.int x8), .val (.int x9), .val (.int x10), .val (.int (1 : Int32))] [])) target → Steps p.tables e below (T0.setTop (mkF m 99 #[s0, .val (.int i1), .val (.ref o2), .val (.ref o3), s4, s5, .val (.int i6), .val (.int i7), s8, s9, s10, s11] [])) target := by
  have E_o2 := Hst.1
  have E_o3 := Hst.2.2.2.2.2.1
  -- 3. LAWS
  -- pc 142: com/example/orderly_tx/orderlytx/UnitStatus.fail by the contract of the body that the receiver's class selects, rm6
  obtain ⟨cq3, kq3, q3a, q3b, q3c⟩ := isOf hZ e0 E_o3
  obtain ⟨_, _, ⟨T3, L3, k3, n3⟩, -, X3, ⟨Lc3, hQ3, l3, y3, z3⟩, st3⟩ := X0.virtualBack hx (y := (⟨"com/example/orderly_tx/orderlytx/UnitStatus", "fail", "(Ljava/lang/Throwable;)V"⟩ : MethodName)) (z := (⟨"com/example/orderly_tx/orderlytx/UnitStatus", "fail", "(Ljava/lang/Throwable;)V"⟩ : MethodName)) hown (mvT hZ (hw _ (List.mem_of_getElem? (i := 32) rfl))) (mvT hZ (hw _ (List.mem_of_getElem? (i := 33) rfl))) (notFace_of_selects (args := #[]) (mvT hZ (hw _ (List.mem_of_getElem? (i := 35) rfl)))) (mvT hZ (hw _ (List.mem_of_getElem? (i := 35) rfl))) (mvT hZ (hw _ (List.mem_of_getElem? (i := 34) rfl))) (by decide) (backOf (W := 0) (rm6p l Z a0 hw [] o3 o2 r f h0 n0 Z0 Hst g_o2 nep) hZ (hw _ (List.mem_of_getElem? (i := 36) rfl)) (hw _ (List.mem_of_getElem? (i := 2) rfl)) (by decide) (by decide)) q3a q3c (g := (mkF m 142 #[s0, .val (.int i1), .val (.ref o2), .val (.ref o3), s4, s5, .val (.int i6), .val (.int i7), .val (.int (0 : Int32)), .val (.int (1 : Int32)), s10, s11] [.null, (.ref o3)])) rfl (by rw [hml]; rfl) (Steps.refl _) (argsL := [.null]) (rest := []) (lenOf pd_0_4 rfl) rfl (by show 2 * 0 + _ ≤ _; exact Nat.le_of_eq rfl) (hb hby at_142) (fun _ _ => ⟨rfl, e0, (by decide : 2 + 0 + 0 ≤ _), (by decide : 10 + 0 + 0 ≤ _)⟩)
  dsimp only [Pt.U, Pt.locs, Pt.cells, Pt.slots] at X3 l3 y3 z3 st3 hQ3
  subst l3 y3 z3
  obtain ⟨rfl, N3q, K3q, H3q⟩ := hQ3
  have N3 := Fr.app N0 N3q
  have KH3 : Keep h0 T3.heap [o2] := (Keep.refl h0 [o2]).trans K3q (fun x hx => Or.inl hx)
  -- pc 168: com/example/orderly_tx/orderlytx/UnitStatus.isRollbackOnly by the contract of the body that the receiver's class selects, rm5
  obtain ⟨cq4, kq4, q4a, q4b, q4c⟩ := isOf hZ rfl (E_o2.keep K3q)
  obtain ⟨_, _, ⟨T4, L4, k4, n4⟩, -, X4, ⟨Lc4, hQ4, l4, y4, z4⟩, st4⟩ := X3.virtualBack hx (y := (⟨"com/example/orderly_tx/orderlytx/UnitStatus", "isRollbackOnly", "()Z"⟩ : MethodName)) (z := (⟨"com/example/orderly_tx/orderlytx/UnitStatus", "isRollbackOnly", "()Z"⟩ : MethodName)) hown (mvT hZ (hw _ (List.mem_of_getElem? (i := 22) rfl))) (mvT hZ (hw _ (List.mem_of_getElem? (i := 23) rfl))) (notFace_of_selects (args := #[]) (mvT hZ (hw _ (List.mem_of_getElem? (i := 25) rfl)))) (mvT hZ (hw _ (List.mem_of_getElem? (i := 25) rfl))) (mvT hZ (hw _ (List.mem_of_getElem? (i := 24) rfl))) (by decide) (backOf (W := 0) (rm5 l Z a0 hw [] o2 r (1 : Int32) T3.heap n0 (Nat.le_trans Z0 KH3.1) H3q.2.1 H3q.2.2.1 H3q.2.2.2.1) hZ (hw _ (List.mem_of_getElem? (i := 26) rfl)) (hw _ (List.mem_of_getElem? (i := 2) rfl)) (by decide) (by decide)) q4a q4c (g := (mkF m 168 #[s0, .val (.int i1), .val (.ref o2), .val (.ref o3), s4, s5, .val (.int i6), .val (.int i7), .val (.int (0 : Int32)), .val (.int (1 : Int32)), .val (.int (1 : Int32)), s11] [(.ref o2)])) rfl (by rw [hml]; rfl) (Steps.refl _) (argsL := []) (rest := []) (lenOf pd_0_3 rfl) rfl (by show 2 * 0 + _ ≤ _; exact Nat.le_of_eq rfl) (hb hby at_168) (fun _ _ => ⟨rfl, rfl, (by decide : 2 + 0 + 0 ≤ _), (by decide : 10 + 0 + 0 ≤ _)⟩)
  dsimp only [Pt.U, Pt.locs, Pt.cells, Pt.slots] at X4 l4 y4 z4 st4 hQ4
  subst l4 y4 z4
  obtain ⟨rfl, N4q, e4q⟩ := hQ4
  have N4 := Fr.app N3 N4q
  have K4q : Keep T3.heap T4.heap [] := own_keep e4q
  have KH4 : Keep h0 T4.heap [o2] := KH3.trans K4q own_ws0
  have Hn4 := own_St_eq e4q H3q
  -- pc 177: com/example/orderly_tx/orderlytx/UnitStatus.isRollbackOnly by the contract of the body that the receiver's class selects, rm5
  obtain ⟨cq5, kq5, q5a, q5b, q5c⟩ := isOf hZ rfl ((E_o3.keep K3q).keep K4q)
  obtain ⟨_, _, ⟨T5, L5, k5, n5⟩, -, X5, ⟨Lc5, hQ5, l5, y5, z5⟩, st5⟩ := X4.virtualBack hx (y := (⟨"com/example/orderly_tx/orderlytx/UnitStatus", "isRollbackOnly", "()Z"⟩ : MethodName)) (z := (⟨"com/example/orderly_tx/orderlytx/UnitStatus", "isRollbackOnly", "()Z"⟩ : MethodName)) hown (mvT hZ (hw _ (List.mem_of_getElem? (i := 22) rfl))) (mvT hZ (hw _ (List.mem_of_getElem? (i := 23) rfl))) (notFace_of_selects (args := #[]) (mvT hZ (hw _ (List.mem_of_getElem? (i := 25) rfl)))) (mvT hZ (hw _ (List.mem_of_getElem? (i := 25) rfl))) (mvT hZ (hw _ (List.mem_of_getElem? (i := 24) rfl))) (by decide) (backOf (W := 0) (rm5p l Z a0 hw [] o3 o2 r (1 : Int32) T4.heap n0 (Nat.le_trans Z0 KH4.1) Hn4.2.2.2.2.2.2 Hn4.1 Hn4.2.1 Hn4.2.2.1 Hn4.2.2.2.1) hZ (hw _ (List.mem_of_getElem? (i := 26) rfl)) (hw _ (List.mem_of_getElem? (i := 2) rfl)) (by decide) (by decide)) q5a q5c (g := (mkF m 177 #[s0, .val (.int i1), .val (.ref o2), .val (.ref o3), s4, s5, .val (.int i6), .val (.int i7), .val (.int (0 : Int32)), .val (.int (1 : Int32)), .val (.int (1 : Int32)), s11] [(.ref o3)])) rfl (by rw [hml]; rfl) (Steps.refl _) (argsL := []) (rest := []) (lenOf pd_0_3 rfl) rfl (by show 2 * 0 + _ ≤ _; exact Nat.le_of_eq rfl) (hb hby at_177) (fun _ _ => ⟨rfl, rfl, (by decide : 2 + 0 + 0 ≤ _), (by decide : 10 + 0 + 0 ≤ _)⟩)
  dsimp only [Pt.U, Pt.locs, Pt.cells, Pt.slots] at X5 l5 y5 z5 st5 hQ5
  subst l5 y5 z5
  obtain ⟨rfl, N5q, e5q⟩ := hQ5
  have N5 := Fr.app N4 N5q
  have K5q : Keep T4.heap T5.heap [] := own_keep e5q
  have KH5 : Keep h0 T5.heap [o2] := KH4.trans K5q own_ws0
  have Hn5 := own_St_eq e5q Hn4
  refine ⟨T5, _, _, (0 : Int32), (1 : Int32), (1 : Int32), X5, rfl, N5, trivial, fun target kt => ?_⟩
  -- 4. STEPS
  show Steps p.tables e below (T0.setTop (mkF m 99 #[s0, .val (.int i1), .val (.ref o2), .val (.ref o3), s4, s5, .val (.int i6), .val (.int i7), s8, s9, s10, s11] [])) _
  refine XS.iloadN X0.here hx rfl (hb hby at_99) rfl ?_
  show Steps p.tables e below (T0.setTop (mkF m 100 #[s0, .val (.int i1), .val (.ref o2), .val (.ref o3), s4, s5, .val (.int i6), .val (.int i7), s8, s9, s10, s11] [(.int i1)])) _
  refine XS.iconst X0.here hx rfl (hb hby at_100) ?_
  show Steps p.tables e below (T0.setTop (mkF m 101 #[s0, .val (.int i1), .val (.ref o2), .val (.ref o3), s4, s5, .val (.int i6), .val (.int i7), s8, s9, s10, s11] [(.int (1 : Int32)), (.int i1)])) _
  refine XS.iand X0.here hx rfl (hb hby at_101) rfl ?_
  show Steps p.tables e below (T0.setTop (mkF m 102 #[s0, .val (.int i1), .val (.ref o2), .val (.ref o3), s4, s5, .val (.int i6), .val (.int i7), s8, s9, s10, s11] [(.int (i1 &&& (1 : Int32)))])) _
  refine XS.ifYes X0.here hx rfl (pc0 := 102) (pc' := 109) rfl (hb hby at_102) rfl ((if0 _ _).trans (teq hc102).1) (by decide) (by decide) ?_
  show Steps p.tables e below (T0.setTop (mkF m 109 #[s0, .val (.int i1), .val (.ref o2), .val (.ref o3), s4, s5, .val (.int i6), .val (.int i7), s8, s9, s10, s11] [])) _
  refine XS.iconst X0.here hx rfl (hb hby at_109) ?_
  show Steps p.tables e below (T0.setTop (mkF m 110 #[s0, .val (.int i1), .val (.ref o2), .val (.ref o3), s4, s5, .val (.int i6), .val (.int i7), s8, s9, s10, s11] [(.int (0 : Int32))])) _
  refine XS.istore X0.here hx rfl (hb hby at_110) rfl (l' := #[s0, .val (.int i1), .val (.ref o2), .val (.ref o3), s4, s5, .val (.int i6), .val (.int i7), .val (.int (0 : Int32)), s9, s10, s11]) (os0_110 hs8) ?_
  show Steps p.tables e below (T0.setTop (mkF m 112 #[s0, .val (.int i1), .val (.ref o2), .val (.ref o3), s4, s5, .val (.int i6), .val (.int i7), .val (.int (0 : Int32)), s9, s10, s11] [])) _
  refine XS.iloadN X0.here hx rfl (hb hby at_112) rfl ?_
  show Steps p.tables e below (T0.setTop (mkF m 113 #[s0, .val (.int i1), .val (.ref o2), .val (.ref o3), s4, s5, .val (.int i6), .val (.int i7), .val (.int (0 : Int32)), s9, s10, s11] [(.int i1)])) _
  refine XS.iconst X0.here hx rfl (hb hby at_113) ?_
  show Steps p.tables e below (T0.setTop (mkF m 114 #[s0, .val (.int i1), .val (.ref o2), .val (.ref o3), s4, s5, .val (.int i6), .val (.int i7), .val (.int (0 : Int32)), s9, s10, s11] [(.int (2 : Int32)), (.int i1)])) _
  refine XS.iand X0.here hx rfl (hb hby at_114) rfl ?_
  show Steps p.tables e below (T0.setTop (mkF m 115 #[s0, .val (.int i1), .val (.ref o2), .val (.ref o3), s4, s5, .val (.int i6), .val (.int i7), .val (.int (0 : Int32)), s9, s10, s11] [(.int (i1 &&& (2 : Int32)))])) _
  refine XS.ifNo X0.here hx rfl (hb hby at_115) rfl ((if0 _ _).trans (feq hc115).1) ?_
  show Steps p.tables e below (T0.setTop (mkF m 118 #[s0, .val (.int i1), .val (.ref o2), .val (.ref o3), s4, s5, .val (.int i6), .val (.int i7), .val (.int (0 : Int32)), s9, s10, s11] [])) _
  refine XS.iconst X0.here hx rfl (hb hby at_118) ?_
  show Steps p.tables e below (T0.setTop (mkF m 119 #[s0, .val (.int i1), .val (.ref o2), .val (.ref o3), s4, s5, .val (.int i6), .val (.int i7), .val (.int (0 : Int32)), s9, s10, s11] [(.int (1 : Int32))])) _
  refine XS.goto X0.here hx rfl (pc0 := 119) (pc' := 123) rfl (hb hby at_119) (by decide) (by decide) ?_
  show Steps p.tables e below (T0.setTop (mkF m 123 #[s0, .val (.int i1), .val (.ref o2), .val (.ref o3), s4, s5, .val (.int i6), .val (.int i7), .val (.int (0 : Int32)), s9, s10, s11] [(.int (1 : Int32))])) _
  refine XS.istore X0.here hx rfl (hb hby at_123) rfl (l' := #[s0, .val (.int i1), .val (.ref o2), .val (.ref o3), s4, s5, .val (.int i6), .val (.int i7), .val (.int (0 : Int32)), .val (.int (1 : Int32)), s10, s11]) (os0_123 hs9) ?_
  show Steps p.tables e below (T0.setTop (mkF m 125 #[s0, .val (.int i1), .val (.ref o2), .val (.ref o3), s4, s5, .val (.int i6), .val (.int i7), .val (.int (0 : Int32)), .val (.int (1 : Int32)), s10, s11] [])) _
  refine XS.iload X0.here hx rfl (hb hby at_125) rfl ?_
  show Steps p.tables e below (T0.setTop (mkF m 127 #[s0, .val (.int i1), .val (.ref o2), .val (.ref o3), s4, s5, .val (.int i6), .val (.int i7), .val (.int (0 : Int32)), .val (.int (1 : Int32)), s10, s11] [(.int (0 : Int32))])) _
  refine XS.ifYes X0.here hx rfl (pc0 := 127) (pc' := 135) rfl (hb hby at_127) rfl ((if0 _ _).trans (teq (rfl : (0 : Int32) = (0 : Int32))).1) (by decide) (by decide) ?_
  show Steps p.tables e below (T0.setTop (mkF m 135 #[s0, .val (.int i1), .val (.ref o2), .val (.ref o3), s4, s5, .val (.int i6), .val (.int i7), .val (.int (0 : Int32)), .val (.int (1 : Int32)), s10, s11] [])) _
  refine XS.iload X0.here hx rfl (hb hby at_135) rfl ?_
  show Steps p.tables e below (T0.setTop (mkF m 137 #[s0, .val (.int i1), .val (.ref o2), .val (.ref o3), s4, s5, .val (.int i6), .val (.int i7), .val (.int (0 : Int32)), .val (.int (1 : Int32)), s10, s11] [(.int (1 : Int32))])) _
  refine XS.ifNo X0.here hx rfl (hb hby at_137) rfl ((if0 _ _).trans (feq hc137).1) ?_
  show Steps p.tables e below (T0.setTop (mkF m 140 #[s0, .val (.int i1), .val (.ref o2), .val (.ref o3), s4, s5, .val (.int i6), .val (.int i7), .val (.int (0 : Int32)), .val (.int (1 : Int32)), s10, s11] [])) _
  refine XS.aloadN X0.here hx rfl (hb hby at_140) rfl rfl ?_
  show Steps p.tables e below (T0.setTop (mkF m 141 #[s0, .val (.int i1), .val (.ref o2), .val (.ref o3), s4, s5, .val (.int i6), .val (.int i7), .val (.int (0 : Int32)), .val (.int (1 : Int32)), s10, s11] [(.ref o3)])) _
  refine XS.aconstNull X0.here hx rfl (hb hby at_141) ?_
  show Steps p.tables e below (T0.setTop (mkF m 142 #[s0, .val (.int i1), .val (.ref o2), .val (.ref o3), s4, s5, .val (.int i6), .val (.int i7), .val (.int (0 : Int32)), .val (.int (1 : Int32)), s10, s11] [.null, (.ref o3)])) _
  refine st3.trans ?_
  show Steps p.tables e below (T3.setTop (mkF m 145 #[s0, .val (.int i1), .val (.ref o2), .val (.ref o3), s4, s5, .val (.int i6), .val (.int i7), .val (.int (0 : Int32)), .val (.int (1 : Int32)), s10, s11] [])) _
  refine XS.iload X3.here hx rfl (hb hby at_145) rfl ?_
  show Steps p.tables e below (T3.setTop (mkF m 147 #[s0, .val (.int i1), .val (.ref o2), .val (.ref o3), s4, s5, .val (.int i6), .val (.int i7), .val (.int (0 : Int32)), .val (.int (1 : Int32)), s10, s11] [(.int i6)])) _
  refine XS.ifYes X3.here hx rfl (pc0 := 147) (pc' := 160) rfl (hb hby at_147) rfl ((if0 _ _).trans (feq hc147).2) (by decide) (by decide) ?_
  show Steps p.tables e below (T3.setTop (mkF m 160 #[s0, .val (.int i1), .val (.ref o2), .val (.ref o3), s4, s5, .val (.int i6), .val (.int i7), .val (.int (0 : Int32)), .val (.int (1 : Int32)), s10, s11] [])) _
  refine XS.iconst X3.here hx rfl (hb hby at_160) ?_
  show Steps p.tables e below (T3.setTop (mkF m 161 #[s0, .val (.int i1), .val (.ref o2), .val (.ref o3), s4, s5, .val (.int i6), .val (.int i7), .val (.int (0 : Int32)), .val (.int (1 : Int32)), s10, s11] [(.int (1 : Int32))])) _
  refine XS.goto X3.here hx rfl (pc0 := 161) (pc' := 165) rfl (hb hby at_161) (by decide) (by decide) ?_
  show Steps p.tables e below (T3.setTop (mkF m 165 #[s0, .val (.int i1), .val (.ref o2), .val (.ref o3), s4, s5, .val (.int i6), .val (.int i7), .val (.int (0 : Int32)), .val (.int (1 : Int32)), s10, s11] [(.int (1 : Int32))])) _
  refine XS.istore X3.here hx rfl (hb hby at_165) rfl (l' := #[s0, .val (.int i1), .val (.ref o2), .val (.ref o3), s4, s5, .val (.int i6), .val (.int i7), .val (.int (0 : Int32)), .val (.int (1 : Int32)), .val (.int (1 : Int32)), s11]) (os0_165 hs10) ?_
  show Steps p.tables e below (T3.setTop (mkF m 167 #[s0, .val (.int i1), .val (.ref o2), .val (.ref o3), s4, s5, .val (.int i6), .val (.int i7), .val (.int (0 : Int32)), .val (.int (1 : Int32)), .val (.int (1 : Int32)), s11] [])) _
  refine XS.aloadN X3.here hx rfl (hb hby at_167) rfl rfl ?_
  show Steps p.tables e below (T3.setTop (mkF m 168 #[s0, .val (.int i1), .val (.ref o2), .val (.ref o3), s4, s5, .val (.int i6), .val (.int i7), .val (.int (0 : Int32)), .val (.int (1 : Int32)), .val (.int (1 : Int32)), s11] [(.ref o2)])) _
  refine st4.trans ?_
  show Steps p.tables e below (T4.setTop (mkF m 171 #[s0, .val (.int i1), .val (.ref o2), .val (.ref o3), s4, s5, .val (.int i6), .val (.int i7), .val (.int (0 : Int32)), .val (.int (1 : Int32)), .val (.int (1 : Int32)), s11] [(.int (own_f5 r (1 : Int32)))])) _
  refine XS.iload X4.here hx rfl (hb hby at_171) rfl ?_
  show Steps p.tables e below (T4.setTop (mkF m 173 #[s0, .val (.int i1), .val (.ref o2), .val (.ref o3), s4, s5, .val (.int i6), .val (.int i7), .val (.int (0 : Int32)), .val (.int (1 : Int32)), .val (.int (1 : Int32)), s11] [(.int (1 : Int32)), (.int (own_f5 r (1 : Int32)))])) _
  refine XS.icmpNo X4.here hx rfl (hb hby at_173) rfl (teq ht173).2 ?_
  show Steps p.tables e below (T4.setTop (mkF m 176 #[s0, .val (.int i1), .val (.ref o2), .val (.ref o3), s4, s5, .val (.int i6), .val (.int i7), .val (.int (0 : Int32)), .val (.int (1 : Int32)), .val (.int (1 : Int32)), s11] [])) _
  refine XS.aloadN X4.here hx rfl (hb hby at_176) rfl rfl ?_
  show Steps p.tables e below (T4.setTop (mkF m 177 #[s0, .val (.int i1), .val (.ref o2), .val (.ref o3), s4, s5, .val (.int i6), .val (.int i7), .val (.int (0 : Int32)), .val (.int (1 : Int32)), .val (.int (1 : Int32)), s11] [(.ref o3)])) _
  refine st5.trans ?_
  show Steps p.tables e below (T5.setTop (mkF m 180 #[s0, .val (.int i1), .val (.ref o2), .val (.ref o3), s4, s5, .val (.int i6), .val (.int i7), .val (.int (0 : Int32)), .val (.int (1 : Int32)), .val (.int (1 : Int32)), s11] [(.int (own_f5 r (1 : Int32)))])) _
  refine XS.iload X5.here hx rfl (hb hby at_180) rfl ?_
  show Steps p.tables e below (T5.setTop (mkF m 182 #[s0, .val (.int i1), .val (.ref o2), .val (.ref o3), s4, s5, .val (.int i6), .val (.int i7), .val (.int (0 : Int32)), .val (.int (1 : Int32)), .val (.int (1 : Int32)), s11] [(.int (1 : Int32)), (.int (own_f5 r (1 : Int32)))])) _
  refine XS.icmpNo X5.here hx rfl (hb hby at_182) rfl (teq ht182).2 ?_
  show Steps p.tables e below (T5.setTop (mkF m 185 #[s0, .val (.int i1), .val (.ref o2), .val (.ref o3), s4, s5, .val (.int i6), .val (.int i7), .val (.int (0 : Int32)), .val (.int (1 : Int32)), .val (.int (1 : Int32)), s11] [])) _
  refine XS.iconst X5.here hx rfl (hb hby at_185) ?_
  show Steps p.tables e below (T5.setTop (mkF m 186 #[s0, .val (.int i1), .val (.ref o2), .val (.ref o3), s4, s5, .val (.int i6), .val (.int i7), .val (.int (0 : Int32)), .val (.int (1 : Int32)), .val (.int (1 : Int32)), s11] [(.int (1 : Int32))])) _
  refine XS.goto X5.here hx rfl (pc0 := 186) (pc' := 190) rfl (hb hby at_186) (by decide) (by decide) ?_
  show Steps p.tables e below (T5.setTop (mkF m 190 #[s0, .val (.int i1), .val (.ref o2), .val (.ref o3), s4, s5, .val (.int i6), .val (.int i7), .val (.int (0 : Int32)), .val (.int (1 : Int32)), .val (.int (1 : Int32)), s11] [(.int (1 : Int32))])) _
  refine XS.istore X5.here hx rfl (hb hby at_190) rfl (l' := #[s0, .val (.int i1), .val (.ref o2), .val (.ref o3), s4, s5, .val (.int i6), .val (.int i7), .val (.int (0 : Int32)), .val (.int (1 : Int32)), .val (.int (1 : Int32)), .val (.int (1 : Int32))]) (os0_190 hs11) ?_
  show Steps p.tables e below (T5.setTop (mkF m 192 #[s0, .val (.int i1), .val (.ref o2), .val (.ref o3), s4, s5, .val (.int i6), .val (.int i7), .val (.int (0 : Int32)), .val (.int (1 : Int32)), .val (.int (1 : Int32)), .val (.int (1 : Int32))] [])) _
  refine XS.iload X5.here hx rfl (hb hby at_192) rfl ?_
  show Steps p.tables e below (T5.setTop (mkF m 194 #[s0, .val (.int i1), .val (.ref o2), .val (.ref o3), s4, s5, .val (.int i6), .val (.int i7), .val (.int (0 : Int32)), .val (.int (1 : Int32)), .val (.int (1 : Int32)), .val (.int (1 : Int32))] [(.int i7)])) _
  refine XS.ifNo X5.here hx rfl (hb hby at_194) rfl ((if0 _ _).trans (feq hc194).1) ?_
  show Steps p.tables e below (T5.setTop (mkF m 197 #[s0, .val (.int i1), .val (.ref o2), .val (.ref o3), s4, s5, .val (.int i6), .val (.int i7), .val (.int (0 : Int32)), .val (.int (1 : Int32)), .val (.int (1 : Int32)), .val (.int (1 : Int32))] [])) _
  refine XS.iload X5.here hx rfl (hb hby at_197) rfl ?_
  show Steps p.tables e below (T5.setTop (mkF m 199 #[s0, .val (.int i1), .val (.ref o2), .val (.ref o3), s4, s5, .val (.int i6), .val (.int i7), .val (.int (0 : Int32)), .val (.int (1 : Int32)), .val (.int (1 : Int32)), .val (.int (1 : Int32))] [(.int (1 : Int32))])) _
  refine XS.ifNo X5.here hx rfl (hb hby at_199) rfl ((if0 _ _).trans (feq hc199).1) ?_
  exact kt
set_option maxRecDepth 65536 in
set_option maxHeartbeats 40000000 in
theorem own_p2_100 {p : Program} {l : Launch} {e : Env} {s : State} {m : MethodId} {args : Array Value} {below : List Frame} {meth : Method} {c : Code} {T0 : State} {locs : List Loc} {Z : State} {a0 : Array Value} {h0 : Heap} {n0 : Nat} (s0 : Slot) (i1 : Int32) (o2 : Addr) (o3 : Addr) (s4 : Slot) (s5 : Slot) (i6 : Int32) (i7 : Int32) (s8 : Slot) (s9 : Slot) (s10 : Slot) (s11 : Slot) (r : Int32) (f : Int32)
    (X0 : Stand p l e room_1 s m args below meth c T0 locs 2 10) (hx : p.tables.exec = Jvm.exec) (hZ : Z.Warmed39 s.vm) (hw : ∀ d ∈ tables_1, d.before a0 Z = true) (hby : c.code = code) (hml : c.maxLocals = 12) (hown : s.vm.findClass "com/example/orderly_tx/orderlytx/UnitStatusIsRollbackOnlyPinLaw" = some m.cls) (e0 : T0.heap = h0) (N0 : Fr n0 locs) (Z0 : n0 ≤ h0.size) (Hst : own_St Z h0 o2 o3 r f) (g_o2 : n0 ≤ o2) (nep : o3 ≠ o2) (hs8 : One s8) (hs9 : One s9) (hs10 : One s10) (hs11 : One s11) (hc102 : ¬ ((i1 &&& (1 : Int32)) = (0 : Int32))) (hc115 : (i1 &&& (2 : Int32)) = (0 : Int32)) (hc127 : ¬ ((1 : Int32) = (0 : Int32))) (hc147 : i6 = (0 : Int32)) (hc152 : ¬ ((1 : Int32) = (0 : Int32))) (ht173 : (own_f5 (1 : Int32) f) = (1 : Int32)) (ht182 : (own_f5 (1 : Int32) f) = (1 : Int32)) (hc194 : ¬ (i7 = (0 : Int32))) (hc199 : ¬ ((1 : Int32) = (0 : Int32))) :
    ∃ (T' : State) (h' : Heap) (locs' : List Loc) (x8 x9 x10 : Int32), Stand p l e room_1 s m args below meth c T' locs' 2 10 ∧ T'.heap = h' ∧ Fr n0 locs' ∧ True ∧ ∀ target, Steps p.tables e below (T'.setTop (mkF m 202 #[s0, .val (.int i1), .val (.ref o2), .val (.ref o3), s4, s5, .val (.int i6), .val (.int i7), .val (.int x8), .val (.int x9), .val (.int x10), .val (.int (1 : Int32))] [])) target → Steps p.tables e below (T0.setTop (mkF m 99 #[s0, .val (.int i1), .val (.ref o2), .val (.ref o3), s4, s5, .val (.int i6), .val (.int i7), s8, s9, s10, s11] [])) target := by
  have E_o2 := Hst.1
  have E_o3 := Hst.2.2.2.2.2.1
  -- 3. LAWS
  -- pc 132: com/example/orderly_tx/orderlytx/UnitStatus.fail by the contract of the body that the receiver's class selects, rm6
  obtain ⟨cq3, kq3, q3a, q3b, q3c⟩ := isOf hZ e0 E_o2
  obtain ⟨_, _, ⟨T3, L3, k3, n3⟩, -, X3, ⟨Lc3, hQ3, l3, y3, z3⟩, st3⟩ := X0.virtualBack hx (y := (⟨"com/example/orderly_tx/orderlytx/UnitStatus", "fail", "(Ljava/lang/Throwable;)V"⟩ : MethodName)) (z := (⟨"com/example/orderly_tx/orderlytx/UnitStatus", "fail", "(Ljava/lang/Throwable;)V"⟩ : MethodName)) hown (mvT hZ (hw _ (List.mem_of_getElem? (i := 32) rfl))) (mvT hZ (hw _ (List.mem_of_getElem? (i := 33) rfl))) (notFace_of_selects (args := #[]) (mvT hZ (hw _ (List.mem_of_getElem? (i := 35) rfl)))) (mvT hZ (hw _ (List.mem_of_getElem? (i := 35) rfl))) (mvT hZ (hw _ (List.mem_of_getElem? (i := 34) rfl))) (by decide) (backOf (W := 0) (rm6s l Z a0 hw [] o2 .null o3 r f h0 n0 Z0 Hst g_o2 nep) hZ (hw _ (List.mem_of_getElem? (i := 36) rfl)) (hw _ (List.mem_of_getElem? (i := 2) rfl)) (by decide) (by decide)) q3a q3c (g := (mkF m 132 #[s0, .val (.int i1), .val (.ref o2), .val (.ref o3), s4, s5, .val (.int i6), .val (.int i7), .val (.int (1 : Int32)), .val (.int (0 : Int32)), s10, s11] [.null, (.ref o2)])) rfl (by rw [hml]; rfl) (Steps.refl _) (argsL := [.null]) (rest := []) (lenOf pd_0_4 rfl) rfl (by show 2 * 0 + _ ≤ _; exact Nat.le_of_eq rfl) (hb hby at_132) (fun _ _ => ⟨rfl, e0, (by decide : 2 + 0 + 0 ≤ _), (by decide : 10 + 0 + 0 ≤ _)⟩)
  dsimp only [Pt.U, Pt.locs, Pt.cells, Pt.slots] at X3 l3 y3 z3 st3 hQ3
  subst l3 y3 z3
  obtain ⟨rfl, N3q, K3q, H3q⟩ := hQ3
  have N3 := Fr.app N0 N3q
  have KH3 : Keep h0 T3.heap [o2] := (Keep.refl h0 [o2]).trans K3q (fun x hx => Or.inl hx)
  -- pc 168: com/example/orderly_tx/orderlytx/UnitStatus.isRollbackOnly by the contract of the body that the receiver's class selects, rm5
  obtain ⟨cq4, kq4, q4a, q4b, q4c⟩ := isOf hZ rfl (E_o2.keep K3q)
  obtain ⟨_, _, ⟨T4, L4, k4, n4⟩, -, X4, ⟨Lc4, hQ4, l4, y4, z4⟩, st4⟩ := X3.virtualBack hx (y := (⟨"com/example/orderly_tx/orderlytx/UnitStatus", "isRollbackOnly", "()Z"⟩ : MethodName)) (z := (⟨"com/example/orderly_tx/orderlytx/UnitStatus", "isRollbackOnly", "()Z"⟩ : MethodName)) hown (mvT hZ (hw _ (List.mem_of_getElem? (i := 22) rfl))) (mvT hZ (hw _ (List.mem_of_getElem? (i := 23) rfl))) (notFace_of_selects (args := #[]) (mvT hZ (hw _ (List.mem_of_getElem? (i := 25) rfl)))) (mvT hZ (hw _ (List.mem_of_getElem? (i := 25) rfl))) (mvT hZ (hw _ (List.mem_of_getElem? (i := 24) rfl))) (by decide) (backOf (W := 0) (rm5 l Z a0 hw [] o2 (1 : Int32) f T3.heap n0 (Nat.le_trans Z0 KH3.1) H3q.2.1 H3q.2.2.1 H3q.2.2.2.1) hZ (hw _ (List.mem_of_getElem? (i := 26) rfl)) (hw _ (List.mem_of_getElem? (i := 2) rfl)) (by decide) (by decide)) q4a q4c (g := (mkF m 168 #[s0, .val (.int i1), .val (.ref o2), .val (.ref o3), s4, s5, .val (.int i6), .val (.int i7), .val (.int (1 : Int32)), .val (.int (0 : Int32)), .val (.int (1 : Int32)), s11] [(.ref o2)])) rfl (by rw [hml]; rfl) (Steps.refl _) (argsL := []) (rest := []) (lenOf pd_0_3 rfl) rfl (by show 2 * 0 + _ ≤ _; exact Nat.le_of_eq rfl) (hb hby at_168) (fun _ _ => ⟨rfl, rfl, (by decide : 2 + 0 + 0 ≤ _), (by decide : 10 + 0 + 0 ≤ _)⟩)
  dsimp only [Pt.U, Pt.locs, Pt.cells, Pt.slots] at X4 l4 y4 z4 st4 hQ4
  subst l4 y4 z4
  obtain ⟨rfl, N4q, e4q⟩ := hQ4
  have N4 := Fr.app N3 N4q
  have K4q : Keep T3.heap T4.heap [] := own_keep e4q
  have KH4 : Keep h0 T4.heap [o2] := KH3.trans K4q own_ws0
  have Hn4 := own_St_eq e4q H3q
  -- pc 177: com/example/orderly_tx/orderlytx/UnitStatus.isRollbackOnly by the contract of the body that the receiver's class selects, rm5
  obtain ⟨cq5, kq5, q5a, q5b, q5c⟩ := isOf hZ rfl ((E_o3.keep K3q).keep K4q)
  obtain ⟨_, _, ⟨T5, L5, k5, n5⟩, -, X5, ⟨Lc5, hQ5, l5, y5, z5⟩, st5⟩ := X4.virtualBack hx (y := (⟨"com/example/orderly_tx/orderlytx/UnitStatus", "isRollbackOnly", "()Z"⟩ : MethodName)) (z := (⟨"com/example/orderly_tx/orderlytx/UnitStatus", "isRollbackOnly", "()Z"⟩ : MethodName)) hown (mvT hZ (hw _ (List.mem_of_getElem? (i := 22) rfl))) (mvT hZ (hw _ (List.mem_of_getElem? (i := 23) rfl))) (notFace_of_selects (args := #[]) (mvT hZ (hw _ (List.mem_of_getElem? (i := 25) rfl)))) (mvT hZ (hw _ (List.mem_of_getElem? (i := 25) rfl))) (mvT hZ (hw _ (List.mem_of_getElem? (i := 24) rfl))) (by decide) (backOf (W := 0) (rm5p l Z a0 hw [] o3 o2 (1 : Int32) f T4.heap n0 (Nat.le_trans Z0 KH4.1) Hn4.2.2.2.2.2.2 Hn4.1 Hn4.2.1 Hn4.2.2.1 Hn4.2.2.2.1) hZ (hw _ (List.mem_of_getElem? (i := 26) rfl)) (hw _ (List.mem_of_getElem? (i := 2) rfl)) (by decide) (by decide)) q5a q5c (g := (mkF m 177 #[s0, .val (.int i1), .val (.ref o2), .val (.ref o3), s4, s5, .val (.int i6), .val (.int i7), .val (.int (1 : Int32)), .val (.int (0 : Int32)), .val (.int (1 : Int32)), s11] [(.ref o3)])) rfl (by rw [hml]; rfl) (Steps.refl _) (argsL := []) (rest := []) (lenOf pd_0_3 rfl) rfl (by show 2 * 0 + _ ≤ _; exact Nat.le_of_eq rfl) (hb hby at_177) (fun _ _ => ⟨rfl, rfl, (by decide : 2 + 0 + 0 ≤ _), (by decide : 10 + 0 + 0 ≤ _)⟩)
  dsimp only [Pt.U, Pt.locs, Pt.cells, Pt.slots] at X5 l5 y5 z5 st5 hQ5
  subst l5 y5 z5
  obtain ⟨rfl, N5q, e5q⟩ := hQ5
  have N5 := Fr.app N4 N5q
  have K5q : Keep T4.heap T5.heap [] := own_keep e5q
  have KH5 : Keep h0 T5.heap [o2] := KH4.trans K5q own_ws0
  have Hn5 := own_St_eq e5q Hn4
  refine ⟨T5, _, _, (1 : Int32), (0 : Int32), (1 : Int32), X5, rfl, N5, trivial, fun target kt => ?_⟩
  -- 4. STEPS
  show Steps p.tables e below (T0.setTop (mkF m 99 #[s0, .val (.int i1), .val (.ref o2), .val (.ref o3), s4, s5, .val (.int i6), .val (.int i7), s8, s9, s10, s11] [])) _
  refine XS.iloadN X0.here hx rfl (hb hby at_99) rfl ?_
  show Steps p.tables e below (T0.setTop (mkF m 100 #[s0, .val (.int i1), .val (.ref o2), .val (.ref o3), s4, s5, .val (.int i6), .val (.int i7), s8, s9, s10, s11] [(.int i1)])) _
  refine XS.iconst X0.here hx rfl (hb hby at_100) ?_
  show Steps p.tables e below (T0.setTop (mkF m 101 #[s0, .val (.int i1), .val (.ref o2), .val (.ref o3), s4, s5, .val (.int i6), .val (.int i7), s8, s9, s10, s11] [(.int (1 : Int32)), (.int i1)])) _
  refine XS.iand X0.here hx rfl (hb hby at_101) rfl ?_
  show Steps p.tables e below (T0.setTop (mkF m 102 #[s0, .val (.int i1), .val (.ref o2), .val (.ref o3), s4, s5, .val (.int i6), .val (.int i7), s8, s9, s10, s11] [(.int (i1 &&& (1 : Int32)))])) _
  refine XS.ifNo X0.here hx rfl (hb hby at_102) rfl ((if0 _ _).trans (feq hc102).1) ?_
  show Steps p.tables e below (T0.setTop (mkF m 105 #[s0, .val (.int i1), .val (.ref o2), .val (.ref o3), s4, s5, .val (.int i6), .val (.int i7), s8, s9, s10, s11] [])) _
  refine XS.iconst X0.here hx rfl (hb hby at_105) ?_
  show Steps p.tables e below (T0.setTop (mkF m 106 #[s0, .val (.int i1), .val (.ref o2), .val (.ref o3), s4, s5, .val (.int i6), .val (.int i7), s8, s9, s10, s11] [(.int (1 : Int32))])) _
  refine XS.goto X0.here hx rfl (pc0 := 106) (pc' := 110) rfl (hb hby at_106) (by decide) (by decide) ?_
  show Steps p.tables e below (T0.setTop (mkF m 110 #[s0, .val (.int i1), .val (.ref o2), .val (.ref o3), s4, s5, .val (.int i6), .val (.int i7), s8, s9, s10, s11] [(.int (1 : Int32))])) _
  refine XS.istore X0.here hx rfl (hb hby at_110) rfl (l' := #[s0, .val (.int i1), .val (.ref o2), .val (.ref o3), s4, s5, .val (.int i6), .val (.int i7), .val (.int (1 : Int32)), s9, s10, s11]) (os0_110 hs8) ?_
  show Steps p.tables e below (T0.setTop (mkF m 112 #[s0, .val (.int i1), .val (.ref o2), .val (.ref o3), s4, s5, .val (.int i6), .val (.int i7), .val (.int (1 : Int32)), s9, s10, s11] [])) _
  refine XS.iloadN X0.here hx rfl (hb hby at_112) rfl ?_
  show Steps p.tables e below (T0.setTop (mkF m 113 #[s0, .val (.int i1), .val (.ref o2), .val (.ref o3), s4, s5, .val (.int i6), .val (.int i7), .val (.int (1 : Int32)), s9, s10, s11] [(.int i1)])) _
  refine XS.iconst X0.here hx rfl (hb hby at_113) ?_
  show Steps p.tables e below (T0.setTop (mkF m 114 #[s0, .val (.int i1), .val (.ref o2), .val (.ref o3), s4, s5, .val (.int i6), .val (.int i7), .val (.int (1 : Int32)), s9, s10, s11] [(.int (2 : Int32)), (.int i1)])) _
  refine XS.iand X0.here hx rfl (hb hby at_114) rfl ?_
  show Steps p.tables e below (T0.setTop (mkF m 115 #[s0, .val (.int i1), .val (.ref o2), .val (.ref o3), s4, s5, .val (.int i6), .val (.int i7), .val (.int (1 : Int32)), s9, s10, s11] [(.int (i1 &&& (2 : Int32)))])) _
  refine XS.ifYes X0.here hx rfl (pc0 := 115) (pc' := 122) rfl (hb hby at_115) rfl ((if0 _ _).trans (teq hc115).1) (by decide) (by decide) ?_
  show Steps p.tables e below (T0.setTop (mkF m 122 #[s0, .val (.int i1), .val (.ref o2), .val (.ref o3), s4, s5, .val (.int i6), .val (.int i7), .val (.int (1 : Int32)), s9, s10, s11] [])) _
  refine XS.iconst X0.here hx rfl (hb hby at_122) ?_
  show Steps p.tables e below (T0.setTop (mkF m 123 #[s0, .val (.int i1), .val (.ref o2), .val (.ref o3), s4, s5, .val (.int i6), .val (.int i7), .val (.int (1 : Int32)), s9, s10, s11] [(.int (0 : Int32))])) _
  refine XS.istore X0.here hx rfl (hb hby at_123) rfl (l' := #[s0, .val (.int i1), .val (.ref o2), .val (.ref o3), s4, s5, .val (.int i6), .val (.int i7), .val (.int (1 : Int32)), .val (.int (0 : Int32)), s10, s11]) (os0_123 hs9) ?_
  show Steps p.tables e below (T0.setTop (mkF m 125 #[s0, .val (.int i1), .val (.ref o2), .val (.ref o3), s4, s5, .val (.int i6), .val (.int i7), .val (.int (1 : Int32)), .val (.int (0 : Int32)), s10, s11] [])) _
  refine XS.iload X0.here hx rfl (hb hby at_125) rfl ?_
  show Steps p.tables e below (T0.setTop (mkF m 127 #[s0, .val (.int i1), .val (.ref o2), .val (.ref o3), s4, s5, .val (.int i6), .val (.int i7), .val (.int (1 : Int32)), .val (.int (0 : Int32)), s10, s11] [(.int (1 : Int32))])) _
  refine XS.ifNo X0.here hx rfl (hb hby at_127) rfl ((if0 _ _).trans (feq hc127).1) ?_
  show Steps p.tables e below (T0.setTop (mkF m 130 #[s0, .val (.int i1), .val (.ref o2), .val (.ref o3), s4, s5, .val (.int i6), .val (.int i7), .val (.int (1 : Int32)), .val (.int (0 : Int32)), s10, s11] [])) _
  refine XS.aloadN X0.here hx rfl (hb hby at_130) rfl rfl ?_
  show Steps p.tables e below (T0.setTop (mkF m 131 #[s0, .val (.int i1), .val (.ref o2), .val (.ref o3), s4, s5, .val (.int i6), .val (.int i7), .val (.int (1 : Int32)), .val (.int (0 : Int32)), s10, s11] [(.ref o2)])) _
  refine XS.aconstNull X0.here hx rfl (hb hby at_131) ?_
  show Steps p.tables e below (T0.setTop (mkF m 132 #[s0, .val (.int i1), .val (.ref o2), .val (.ref o3), s4, s5, .val (.int i6), .val (.int i7), .val (.int (1 : Int32)), .val (.int (0 : Int32)), s10, s11] [.null, (.ref o2)])) _
  refine st3.trans ?_
  show Steps p.tables e below (T3.setTop (mkF m 135 #[s0, .val (.int i1), .val (.ref o2), .val (.ref o3), s4, s5, .val (.int i6), .val (.int i7), .val (.int (1 : Int32)), .val (.int (0 : Int32)), s10, s11] [])) _
  refine XS.iload X3.here hx rfl (hb hby at_135) rfl ?_
  show Steps p.tables e below (T3.setTop (mkF m 137 #[s0, .val (.int i1), .val (.ref o2), .val (.ref o3), s4, s5, .val (.int i6), .val (.int i7), .val (.int (1 : Int32)), .val (.int (0 : Int32)), s10, s11] [(.int (0 : Int32))])) _
  refine XS.ifYes X3.here hx rfl (pc0 := 137) (pc' := 145) rfl (hb hby at_137) rfl ((if0 _ _).trans (teq (rfl : (0 : Int32) = (0 : Int32))).1) (by decide) (by decide) ?_
  show Steps p.tables e below (T3.setTop (mkF m 145 #[s0, .val (.int i1), .val (.ref o2), .val (.ref o3), s4, s5, .val (.int i6), .val (.int i7), .val (.int (1 : Int32)), .val (.int (0 : Int32)), s10, s11] [])) _
  refine XS.iload X3.here hx rfl (hb hby at_145) rfl ?_
  show Steps p.tables e below (T3.setTop (mkF m 147 #[s0, .val (.int i1), .val (.ref o2), .val (.ref o3), s4, s5, .val (.int i6), .val (.int i7), .val (.int (1 : Int32)), .val (.int (0 : Int32)), s10, s11] [(.int i6)])) _
  refine XS.ifNo X3.here hx rfl (hb hby at_147) rfl ((if0 _ _).trans (teq hc147).2) ?_
  show Steps p.tables e below (T3.setTop (mkF m 150 #[s0, .val (.int i1), .val (.ref o2), .val (.ref o3), s4, s5, .val (.int i6), .val (.int i7), .val (.int (1 : Int32)), .val (.int (0 : Int32)), s10, s11] [])) _
  refine XS.iload X3.here hx rfl (hb hby at_150) rfl ?_
  show Steps p.tables e below (T3.setTop (mkF m 152 #[s0, .val (.int i1), .val (.ref o2), .val (.ref o3), s4, s5, .val (.int i6), .val (.int i7), .val (.int (1 : Int32)), .val (.int (0 : Int32)), s10, s11] [(.int (1 : Int32))])) _
  refine XS.ifYes X3.here hx rfl (pc0 := 152) (pc' := 160) rfl (hb hby at_152) rfl ((if0 _ _).trans (feq hc152).2) (by decide) (by decide) ?_
  show Steps p.tables e below (T3.setTop (mkF m 160 #[s0, .val (.int i1), .val (.ref o2), .val (.ref o3), s4, s5, .val (.int i6), .val (.int i7), .val (.int (1 : Int32)), .val (.int (0 : Int32)), s10, s11] [])) _
  refine XS.iconst X3.here hx rfl (hb hby at_160) ?_
  show Steps p.tables e below (T3.setTop (mkF m 161 #[s0, .val (.int i1), .val (.ref o2), .val (.ref o3), s4, s5, .val (.int i6), .val (.int i7), .val (.int (1 : Int32)), .val (.int (0 : Int32)), s10, s11] [(.int (1 : Int32))])) _
  refine XS.goto X3.here hx rfl (pc0 := 161) (pc' := 165) rfl (hb hby at_161) (by decide) (by decide) ?_
  show Steps p.tables e below (T3.setTop (mkF m 165 #[s0, .val (.int i1), .val (.ref o2), .val (.ref o3), s4, s5, .val (.int i6), .val (.int i7), .val (.int (1 : Int32)), .val (.int (0 : Int32)), s10, s11] [(.int (1 : Int32))])) _
  refine XS.istore X3.here hx rfl (hb hby at_165) rfl (l' := #[s0, .val (.int i1), .val (.ref o2), .val (.ref o3), s4, s5, .val (.int i6), .val (.int i7), .val (.int (1 : Int32)), .val (.int (0 : Int32)), .val (.int (1 : Int32)), s11]) (os0_165 hs10) ?_
  show Steps p.tables e below (T3.setTop (mkF m 167 #[s0, .val (.int i1), .val (.ref o2), .val (.ref o3), s4, s5, .val (.int i6), .val (.int i7), .val (.int (1 : Int32)), .val (.int (0 : Int32)), .val (.int (1 : Int32)), s11] [])) _
  refine XS.aloadN X3.here hx rfl (hb hby at_167) rfl rfl ?_
  show Steps p.tables e below (T3.setTop (mkF m 168 #[s0, .val (.int i1), .val (.ref o2), .val (.ref o3), s4, s5, .val (.int i6), .val (.int i7), .val (.int (1 : Int32)), .val (.int (0 : Int32)), .val (.int (1 : Int32)), s11] [(.ref o2)])) _
  refine st4.trans ?_
  show Steps p.tables e below (T4.setTop (mkF m 171 #[s0, .val (.int i1), .val (.ref o2), .val (.ref o3), s4, s5, .val (.int i6), .val (.int i7), .val (.int (1 : Int32)), .val (.int (0 : Int32)), .val (.int (1 : Int32)), s11] [(.int (own_f5 (1 : Int32) f))])) _
  refine XS.iload X4.here hx rfl (hb hby at_171) rfl ?_
  show Steps p.tables e below (T4.setTop (mkF m 173 #[s0, .val (.int i1), .val (.ref o2), .val (.ref o3), s4, s5, .val (.int i6), .val (.int i7), .val (.int (1 : Int32)), .val (.int (0 : Int32)), .val (.int (1 : Int32)), s11] [(.int (1 : Int32)), (.int (own_f5 (1 : Int32) f))])) _
  refine XS.icmpNo X4.here hx rfl (hb hby at_173) rfl (teq ht173).2 ?_
  show Steps p.tables e below (T4.setTop (mkF m 176 #[s0, .val (.int i1), .val (.ref o2), .val (.ref o3), s4, s5, .val (.int i6), .val (.int i7), .val (.int (1 : Int32)), .val (.int (0 : Int32)), .val (.int (1 : Int32)), s11] [])) _
  refine XS.aloadN X4.here hx rfl (hb hby at_176) rfl rfl ?_
  show Steps p.tables e below (T4.setTop (mkF m 177 #[s0, .val (.int i1), .val (.ref o2), .val (.ref o3), s4, s5, .val (.int i6), .val (.int i7), .val (.int (1 : Int32)), .val (.int (0 : Int32)), .val (.int (1 : Int32)), s11] [(.ref o3)])) _
  refine st5.trans ?_
  show Steps p.tables e below (T5.setTop (mkF m 180 #[s0, .val (.int i1), .val (.ref o2), .val (.ref o3), s4, s5, .val (.int i6), .val (.int i7), .val (.int (1 : Int32)), .val (.int (0 : Int32)), .val (.int (1 : Int32)), s11] [(.int (own_f5 (1 : Int32) f))])) _
  refine XS.iload X5.here hx rfl (hb hby at_180) rfl ?_
  show Steps p.tables e below (T5.setTop (mkF m 182 #[s0, .val (.int i1), .val (.ref o2), .val (.ref o3), s4, s5, .val (.int i6), .val (.int i7), .val (.int (1 : Int32)), .val (.int (0 : Int32)), .val (.int (1 : Int32)), s11] [(.int (1 : Int32)), (.int (own_f5 (1 : Int32) f))])) _
  refine XS.icmpNo X5.here hx rfl (hb hby at_182) rfl (teq ht182).2 ?_
  show Steps p.tables e below (T5.setTop (mkF m 185 #[s0, .val (.int i1), .val (.ref o2), .val (.ref o3), s4, s5, .val (.int i6), .val (.int i7), .val (.int (1 : Int32)), .val (.int (0 : Int32)), .val (.int (1 : Int32)), s11] [])) _
  refine XS.iconst X5.here hx rfl (hb hby at_185) ?_
  show Steps p.tables e below (T5.setTop (mkF m 186 #[s0, .val (.int i1), .val (.ref o2), .val (.ref o3), s4, s5, .val (.int i6), .val (.int i7), .val (.int (1 : Int32)), .val (.int (0 : Int32)), .val (.int (1 : Int32)), s11] [(.int (1 : Int32))])) _
  refine XS.goto X5.here hx rfl (pc0 := 186) (pc' := 190) rfl (hb hby at_186) (by decide) (by decide) ?_
  show Steps p.tables e below (T5.setTop (mkF m 190 #[s0, .val (.int i1), .val (.ref o2), .val (.ref o3), s4, s5, .val (.int i6), .val (.int i7), .val (.int (1 : Int32)), .val (.int (0 : Int32)), .val (.int (1 : Int32)), s11] [(.int (1 : Int32))])) _
  refine XS.istore X5.here hx rfl (hb hby at_190) rfl (l' := #[s0, .val (.int i1), .val (.ref o2), .val (.ref o3), s4, s5, .val (.int i6), .val (.int i7), .val (.int (1 : Int32)), .val (.int (0 : Int32)), .val (.int (1 : Int32)), .val (.int (1 : Int32))]) (os0_190 hs11) ?_
  show Steps p.tables e below (T5.setTop (mkF m 192 #[s0, .val (.int i1), .val (.ref o2), .val (.ref o3), s4, s5, .val (.int i6), .val (.int i7), .val (.int (1 : Int32)), .val (.int (0 : Int32)), .val (.int (1 : Int32)), .val (.int (1 : Int32))] [])) _
  refine XS.iload X5.here hx rfl (hb hby at_192) rfl ?_
  show Steps p.tables e below (T5.setTop (mkF m 194 #[s0, .val (.int i1), .val (.ref o2), .val (.ref o3), s4, s5, .val (.int i6), .val (.int i7), .val (.int (1 : Int32)), .val (.int (0 : Int32)), .val (.int (1 : Int32)), .val (.int (1 : Int32))] [(.int i7)])) _
  refine XS.ifNo X5.here hx rfl (hb hby at_194) rfl ((if0 _ _).trans (feq hc194).1) ?_
  show Steps p.tables e below (T5.setTop (mkF m 197 #[s0, .val (.int i1), .val (.ref o2), .val (.ref o3), s4, s5, .val (.int i6), .val (.int i7), .val (.int (1 : Int32)), .val (.int (0 : Int32)), .val (.int (1 : Int32)), .val (.int (1 : Int32))] [])) _
  refine XS.iload X5.here hx rfl (hb hby at_197) rfl ?_
  show Steps p.tables e below (T5.setTop (mkF m 199 #[s0, .val (.int i1), .val (.ref o2), .val (.ref o3), s4, s5, .val (.int i6), .val (.int i7), .val (.int (1 : Int32)), .val (.int (0 : Int32)), .val (.int (1 : Int32)), .val (.int (1 : Int32))] [(.int (1 : Int32))])) _
  refine XS.ifNo X5.here hx rfl (hb hby at_199) rfl ((if0 _ _).trans (feq hc199).1) ?_
  exact kt
set_option maxRecDepth 65536 in
set_option maxHeartbeats 40000000 in
theorem own_p2_101 {p : Program} {l : Launch} {e : Env} {s : State} {m : MethodId} {args : Array Value} {below : List Frame} {meth : Method} {c : Code} {T0 : State} {locs : List Loc} {Z : State} {a0 : Array Value} {h0 : Heap} {n0 : Nat} (s0 : Slot) (i1 : Int32) (o2 : Addr) (o3 : Addr) (s4 : Slot) (s5 : Slot) (i6 : Int32) (i7 : Int32) (s8 : Slot) (s9 : Slot) (s10 : Slot) (s11 : Slot) (r : Int32) (f : Int32)
    (X0 : Stand p l e room_1 s m args below meth c T0 locs 2 10) (hx : p.tables.exec = Jvm.exec) (hZ : Z.Warmed39 s.vm) (hw : ∀ d ∈ tables_1, d.before a0 Z = true) (hby : c.code = code) (hml : c.maxLocals = 12) (hown : s.vm.findClass "com/example/orderly_tx/orderlytx/UnitStatusIsRollbackOnlyPinLaw" = some m.cls) (e0 : T0.heap = h0) (N0 : Fr n0 locs) (Z0 : n0 ≤ h0.size) (Hst : own_St Z h0 o2 o3 r f) (g_o2 : n0 ≤ o2) (nep : o3 ≠ o2) (hs8 : One s8) (hs9 : One s9) (hs10 : One s10) (hs11 : One s11) (hc102 : ¬ ((i1 &&& (1 : Int32)) = (0 : Int32))) (hc115 : (i1 &&& (2 : Int32)) = (0 : Int32)) (hc127 : ¬ ((1 : Int32) = (0 : Int32))) (hc147 : ¬ (i6 = (0 : Int32))) (ht173 : (own_f5 (1 : Int32) f) = (1 : Int32)) (ht182 : (own_f5 (1 : Int32) f) = (1 : Int32)) (hc194 : ¬ (i7 = (0 : Int32))) (hc199 : ¬ ((1 : Int32) = (0 : Int32))) :
    ∃ (T' : State) (h' : Heap) (locs' : List Loc) (x8 x9 x10 : Int32), Stand p l e room_1 s m args below meth c T' locs' 2 10 ∧ T'.heap = h' ∧ Fr n0 locs' ∧ True ∧ ∀ target, Steps p.tables e below (T'.setTop (mkF m 202 #[s0, .val (.int i1), .val (.ref o2), .val (.ref o3), s4, s5, .val (.int i6), .val (.int i7), .val (.int x8), .val (.int x9), .val (.int x10), .val (.int (1 : Int32))] [])) target → Steps p.tables e below (T0.setTop (mkF m 99 #[s0, .val (.int i1), .val (.ref o2), .val (.ref o3), s4, s5, .val (.int i6), .val (.int i7), s8, s9, s10, s11] [])) target := by
  have E_o2 := Hst.1
  have E_o3 := Hst.2.2.2.2.2.1
  -- 3. LAWS
  -- pc 132: com/example/orderly_tx/orderlytx/UnitStatus.fail by the contract of the body that the receiver's class selects, rm6
  obtain ⟨cq3, kq3, q3a, q3b, q3c⟩ := isOf hZ e0 E_o2
  obtain ⟨_, _, ⟨T3, L3, k3, n3⟩, -, X3, ⟨Lc3, hQ3, l3, y3, z3⟩, st3⟩ := X0.virtualBack hx (y := (⟨"com/example/orderly_tx/orderlytx/UnitStatus", "fail", "(Ljava/lang/Throwable;)V"⟩ : MethodName)) (z := (⟨"com/example/orderly_tx/orderlytx/UnitStatus", "fail", "(Ljava/lang/Throwable;)V"⟩ : MethodName)) hown (mvT hZ (hw _ (List.mem_of_getElem? (i := 32) rfl))) (mvT hZ (hw _ (List.mem_of_getElem? (i := 33) rfl))) (notFace_of_selects (args := #[]) (mvT hZ (hw _ (List.mem_of_getElem? (i := 35) rfl)))) (mvT hZ (hw _ (List.mem_of_getElem? (i := 35) rfl))) (mvT hZ (hw _ (List.mem_of_getElem? (i := 34) rfl))) (by decide) (backOf (W := 0) (rm6s l Z a0 hw [] o2 .null o3 r f h0 n0 Z0 Hst g_o2 nep) hZ (hw _ (List.mem_of_getElem? (i := 36) rfl)) (hw _ (List.mem_of_getElem? (i := 2) rfl)) (by decide) (by decide)) q3a q3c (g := (mkF m 132 #[s0, .val (.int i1), .val (.ref o2), .val (.ref o3), s4, s5, .val (.int i6), .val (.int i7), .val (.int (1 : Int32)), .val (.int (0 : Int32)), s10, s11] [.null, (.ref o2)])) rfl (by rw [hml]; rfl) (Steps.refl _) (argsL := [.null]) (rest := []) (lenOf pd_0_4 rfl) rfl (by show 2 * 0 + _ ≤ _; exact Nat.le_of_eq rfl) (hb hby at_132) (fun _ _ => ⟨rfl, e0, (by decide : 2 + 0 + 0 ≤ _), (by decide : 10 + 0 + 0 ≤ _)⟩)
  dsimp only [Pt.U, Pt.locs, Pt.cells, Pt.slots] at X3 l3 y3 z3 st3 hQ3
  subst l3 y3 z3
  obtain ⟨rfl, N3q, K3q, H3q⟩ := hQ3
  have N3 := Fr.app N0 N3q
  have KH3 : Keep h0 T3.heap [o2] := (Keep.refl h0 [o2]).trans K3q (fun x hx => Or.inl hx)
  -- pc 168: com/example/orderly_tx/orderlytx/UnitStatus.isRollbackOnly by the contract of the body that the receiver's class selects, rm5
  obtain ⟨cq4, kq4, q4a, q4b, q4c⟩ := isOf hZ rfl (E_o2.keep K3q)
  obtain ⟨_, _, ⟨T4, L4, k4, n4⟩, -, X4, ⟨Lc4, hQ4, l4, y4, z4⟩, st4⟩ := X3.virtualBack hx (y := (⟨"com/example/orderly_tx/orderlytx/UnitStatus", "isRollbackOnly", "()Z"⟩ : MethodName)) (z := (⟨"com/example/orderly_tx/orderlytx/UnitStatus", "isRollbackOnly", "()Z"⟩ : MethodName)) hown (mvT hZ (hw _ (List.mem_of_getElem? (i := 22) rfl))) (mvT hZ (hw _ (List.mem_of_getElem? (i := 23) rfl))) (notFace_of_selects (args := #[]) (mvT hZ (hw _ (List.mem_of_getElem? (i := 25) rfl)))) (mvT hZ (hw _ (List.mem_of_getElem? (i := 25) rfl))) (mvT hZ (hw _ (List.mem_of_getElem? (i := 24) rfl))) (by decide) (backOf (W := 0) (rm5 l Z a0 hw [] o2 (1 : Int32) f T3.heap n0 (Nat.le_trans Z0 KH3.1) H3q.2.1 H3q.2.2.1 H3q.2.2.2.1) hZ (hw _ (List.mem_of_getElem? (i := 26) rfl)) (hw _ (List.mem_of_getElem? (i := 2) rfl)) (by decide) (by decide)) q4a q4c (g := (mkF m 168 #[s0, .val (.int i1), .val (.ref o2), .val (.ref o3), s4, s5, .val (.int i6), .val (.int i7), .val (.int (1 : Int32)), .val (.int (0 : Int32)), .val (.int (1 : Int32)), s11] [(.ref o2)])) rfl (by rw [hml]; rfl) (Steps.refl _) (argsL := []) (rest := []) (lenOf pd_0_3 rfl) rfl (by show 2 * 0 + _ ≤ _; exact Nat.le_of_eq rfl) (hb hby at_168) (fun _ _ => ⟨rfl, rfl, (by decide : 2 + 0 + 0 ≤ _), (by decide : 10 + 0 + 0 ≤ _)⟩)
  dsimp only [Pt.U, Pt.locs, Pt.cells, Pt.slots] at X4 l4 y4 z4 st4 hQ4
  subst l4 y4 z4
  obtain ⟨rfl, N4q, e4q⟩ := hQ4
  have N4 := Fr.app N3 N4q
  have K4q : Keep T3.heap T4.heap [] := own_keep e4q
  have KH4 : Keep h0 T4.heap [o2] := KH3.trans K4q own_ws0
  have Hn4 := own_St_eq e4q H3q
  -- pc 177: com/example/orderly_tx/orderlytx/UnitStatus.isRollbackOnly by the contract of the body that the receiver's class selects, rm5
  obtain ⟨cq5, kq5, q5a, q5b, q5c⟩ := isOf hZ rfl ((E_o3.keep K3q).keep K4q)
  obtain ⟨_, _, ⟨T5, L5, k5, n5⟩, -, X5, ⟨Lc5, hQ5, l5, y5, z5⟩, st5⟩ := X4.virtualBack hx (y := (⟨"com/example/orderly_tx/orderlytx/UnitStatus", "isRollbackOnly", "()Z"⟩ : MethodName)) (z := (⟨"com/example/orderly_tx/orderlytx/UnitStatus", "isRollbackOnly", "()Z"⟩ : MethodName)) hown (mvT hZ (hw _ (List.mem_of_getElem? (i := 22) rfl))) (mvT hZ (hw _ (List.mem_of_getElem? (i := 23) rfl))) (notFace_of_selects (args := #[]) (mvT hZ (hw _ (List.mem_of_getElem? (i := 25) rfl)))) (mvT hZ (hw _ (List.mem_of_getElem? (i := 25) rfl))) (mvT hZ (hw _ (List.mem_of_getElem? (i := 24) rfl))) (by decide) (backOf (W := 0) (rm5p l Z a0 hw [] o3 o2 (1 : Int32) f T4.heap n0 (Nat.le_trans Z0 KH4.1) Hn4.2.2.2.2.2.2 Hn4.1 Hn4.2.1 Hn4.2.2.1 Hn4.2.2.2.1) hZ (hw _ (List.mem_of_getElem? (i := 26) rfl)) (hw _ (List.mem_of_getElem? (i := 2) rfl)) (by decide) (by decide)) q5a q5c (g := (mkF m 177 #[s0, .val (.int i1), .val (.ref o2), .val (.ref o3), s4, s5, .val (.int i6), .val (.int i7), .val (.int (1 : Int32)), .val (.int (0 : Int32)), .val (.int (1 : Int32)), s11] [(.ref o3)])) rfl (by rw [hml]; rfl) (Steps.refl _) (argsL := []) (rest := []) (lenOf pd_0_3 rfl) rfl (by show 2 * 0 + _ ≤ _; exact Nat.le_of_eq rfl) (hb hby at_177) (fun _ _ => ⟨rfl, rfl, (by decide : 2 + 0 + 0 ≤ _), (by decide : 10 + 0 + 0 ≤ _)⟩)
  dsimp only [Pt.U, Pt.locs, Pt.cells, Pt.slots] at X5 l5 y5 z5 st5 hQ5
  subst l5 y5 z5
  obtain ⟨rfl, N5q, e5q⟩ := hQ5
  have N5 := Fr.app N4 N5q
  have K5q : Keep T4.heap T5.heap [] := own_keep e5q
  have KH5 : Keep h0 T5.heap [o2] := KH4.trans K5q own_ws0
  have Hn5 := own_St_eq e5q Hn4
  refine ⟨T5, _, _, (1 : Int32), (0 : Int32), (1 : Int32), X5, rfl, N5, trivial, fun target kt => ?_⟩
  -- 4. STEPS
  show Steps p.tables e below (T0.setTop (mkF m 99 #[s0, .val (.int i1), .val (.ref o2), .val (.ref o3), s4, s5, .val (.int i6), .val (.int i7), s8, s9, s10, s11] [])) _
  refine XS.iloadN X0.here hx rfl (hb hby at_99) rfl ?_
  show Steps p.tables e below (T0.setTop (mkF m 100 #[s0, .val (.int i1), .val (.ref o2), .val (.ref o3), s4, s5, .val (.int i6), .val (.int i7), s8, s9, s10, s11] [(.int i1)])) _
  refine XS.iconst X0.here hx rfl (hb hby at_100) ?_
  show Steps p.tables e below (T0.setTop (mkF m 101 #[s0, .val (.int i1), .val (.ref o2), .val (.ref o3), s4, s5, .val (.int i6), .val (.int i7), s8, s9, s10, s11] [(.int (1 : Int32)), (.int i1)])) _
  refine XS.iand X0.here hx rfl (hb hby at_101) rfl ?_
  show Steps p.tables e below (T0.setTop (mkF m 102 #[s0, .val (.int i1), .val (.ref o2), .val (.ref o3), s4, s5, .val (.int i6), .val (.int i7), s8, s9, s10, s11] [(.int (i1 &&& (1 : Int32)))])) _
  refine XS.ifNo X0.here hx rfl (hb hby at_102) rfl ((if0 _ _).trans (feq hc102).1) ?_
  show Steps p.tables e below (T0.setTop (mkF m 105 #[s0, .val (.int i1), .val (.ref o2), .val (.ref o3), s4, s5, .val (.int i6), .val (.int i7), s8, s9, s10, s11] [])) _
  refine XS.iconst X0.here hx rfl (hb hby at_105) ?_
  show Steps p.tables e below (T0.setTop (mkF m 106 #[s0, .val (.int i1), .val (.ref o2), .val (.ref o3), s4, s5, .val (.int i6), .val (.int i7), s8, s9, s10, s11] [(.int (1 : Int32))])) _
  refine XS.goto X0.here hx rfl (pc0 := 106) (pc' := 110) rfl (hb hby at_106) (by decide) (by decide) ?_
  show Steps p.tables e below (T0.setTop (mkF m 110 #[s0, .val (.int i1), .val (.ref o2), .val (.ref o3), s4, s5, .val (.int i6), .val (.int i7), s8, s9, s10, s11] [(.int (1 : Int32))])) _
  refine XS.istore X0.here hx rfl (hb hby at_110) rfl (l' := #[s0, .val (.int i1), .val (.ref o2), .val (.ref o3), s4, s5, .val (.int i6), .val (.int i7), .val (.int (1 : Int32)), s9, s10, s11]) (os0_110 hs8) ?_
  show Steps p.tables e below (T0.setTop (mkF m 112 #[s0, .val (.int i1), .val (.ref o2), .val (.ref o3), s4, s5, .val (.int i6), .val (.int i7), .val (.int (1 : Int32)), s9, s10, s11] [])) _
  refine XS.iloadN X0.here hx rfl (hb hby at_112) rfl ?_
  show Steps p.tables e below (T0.setTop (mkF m 113 #[s0, .val (.int i1), .val (.ref o2), .val (.ref o3), s4, s5, .val (.int i6), .val (.int i7), .val (.int (1 : Int32)), s9, s10, s11] [(.int i1)])) _
  refine XS.iconst X0.here hx rfl (hb hby at_113) ?_
  show Steps p.tables e below (T0.setTop (mkF m 114 #[s0, .val (.int i1), .val (.ref o2), .val (.ref o3), s4, s5, .val (.int i6), .val (.int i7), .val (.int (1 : Int32)), s9, s10, s11] [(.int (2 : Int32)), (.int i1)])) _
  refine XS.iand X0.here hx rfl (hb hby at_114) rfl ?_
  show Steps p.tables e below (T0.setTop (mkF m 115 #[s0, .val (.int i1), .val (.ref o2), .val (.ref o3), s4, s5, .val (.int i6), .val (.int i7), .val (.int (1 : Int32)), s9, s10, s11] [(.int (i1 &&& (2 : Int32)))])) _
  refine XS.ifYes X0.here hx rfl (pc0 := 115) (pc' := 122) rfl (hb hby at_115) rfl ((if0 _ _).trans (teq hc115).1) (by decide) (by decide) ?_
  show Steps p.tables e below (T0.setTop (mkF m 122 #[s0, .val (.int i1), .val (.ref o2), .val (.ref o3), s4, s5, .val (.int i6), .val (.int i7), .val (.int (1 : Int32)), s9, s10, s11] [])) _
  refine XS.iconst X0.here hx rfl (hb hby at_122) ?_
  show Steps p.tables e below (T0.setTop (mkF m 123 #[s0, .val (.int i1), .val (.ref o2), .val (.ref o3), s4, s5, .val (.int i6), .val (.int i7), .val (.int (1 : Int32)), s9, s10, s11] [(.int (0 : Int32))])) _
  refine XS.istore X0.here hx rfl (hb hby at_123) rfl (l' := #[s0, .val (.int i1), .val (.ref o2), .val (.ref o3), s4, s5, .val (.int i6), .val (.int i7), .val (.int (1 : Int32)), .val (.int (0 : Int32)), s10, s11]) (os0_123 hs9) ?_
  show Steps p.tables e below (T0.setTop (mkF m 125 #[s0, .val (.int i1), .val (.ref o2), .val (.ref o3), s4, s5, .val (.int i6), .val (.int i7), .val (.int (1 : Int32)), .val (.int (0 : Int32)), s10, s11] [])) _
  refine XS.iload X0.here hx rfl (hb hby at_125) rfl ?_
  show Steps p.tables e below (T0.setTop (mkF m 127 #[s0, .val (.int i1), .val (.ref o2), .val (.ref o3), s4, s5, .val (.int i6), .val (.int i7), .val (.int (1 : Int32)), .val (.int (0 : Int32)), s10, s11] [(.int (1 : Int32))])) _
  refine XS.ifNo X0.here hx rfl (hb hby at_127) rfl ((if0 _ _).trans (feq hc127).1) ?_
  show Steps p.tables e below (T0.setTop (mkF m 130 #[s0, .val (.int i1), .val (.ref o2), .val (.ref o3), s4, s5, .val (.int i6), .val (.int i7), .val (.int (1 : Int32)), .val (.int (0 : Int32)), s10, s11] [])) _
  refine XS.aloadN X0.here hx rfl (hb hby at_130) rfl rfl ?_
  show Steps p.tables e below (T0.setTop (mkF m 131 #[s0, .val (.int i1), .val (.ref o2), .val (.ref o3), s4, s5, .val (.int i6), .val (.int i7), .val (.int (1 : Int32)), .val (.int (0 : Int32)), s10, s11] [(.ref o2)])) _
  refine XS.aconstNull X0.here hx rfl (hb hby at_131) ?_
  show Steps p.tables e below (T0.setTop (mkF m 132 #[s0, .val (.int i1), .val (.ref o2), .val (.ref o3), s4, s5, .val (.int i6), .val (.int i7), .val (.int (1 : Int32)), .val (.int (0 : Int32)), s10, s11] [.null, (.ref o2)])) _
  refine st3.trans ?_
  show Steps p.tables e below (T3.setTop (mkF m 135 #[s0, .val (.int i1), .val (.ref o2), .val (.ref o3), s4, s5, .val (.int i6), .val (.int i7), .val (.int (1 : Int32)), .val (.int (0 : Int32)), s10, s11] [])) _
  refine XS.iload X3.here hx rfl (hb hby at_135) rfl ?_
  show Steps p.tables e below (T3.setTop (mkF m 137 #[s0, .val (.int i1), .val (.ref o2), .val (.ref o3), s4, s5, .val (.int i6), .val (.int i7), .val (.int (1 : Int32)), .val (.int (0 : Int32)), s10, s11] [(.int (0 : Int32))])) _
  refine XS.ifYes X3.here hx rfl (pc0 := 137) (pc' := 145) rfl (hb hby at_137) rfl ((if0 _ _).trans (teq (rfl : (0 : Int32) = (0 : Int32))).1) (by decide) (by decide) ?_
  show Steps p.tables e below (T3.setTop (mkF m 145 #[s0, .val (.int i1), .val (.ref o2), .val (.ref o3), s4, s5, .val (.int i6), .val (.int i7), .val (.int (1 : Int32)), .val (.int (0 : Int32)), s10, s11] [])) _
  refine XS.iload X3.here hx rfl (hb hby at_145) rfl ?_
  show Steps p.tables e below (T3.setTop (mkF m 147 #[s0, .val (.int i1), .val (.ref o2), .val (.ref o3), s4, s5, .val (.int i6), .val (.int i7), .val (.int (1 : Int32)), .val (.int (0 : Int32)), s10, s11] [(.int i6)])) _
  refine XS.ifYes X3.here hx rfl (pc0 := 147) (pc' := 160) rfl (hb hby at_147) rfl ((if0 _ _).trans (feq hc147).2) (by decide) (by decide) ?_
  show Steps p.tables e below (T3.setTop (mkF m 160 #[s0, .val (.int i1), .val (.ref o2), .val (.ref o3), s4, s5, .val (.int i6), .val (.int i7), .val (.int (1 : Int32)), .val (.int (0 : Int32)), s10, s11] [])) _
  refine XS.iconst X3.here hx rfl (hb hby at_160) ?_
  show Steps p.tables e below (T3.setTop (mkF m 161 #[s0, .val (.int i1), .val (.ref o2), .val (.ref o3), s4, s5, .val (.int i6), .val (.int i7), .val (.int (1 : Int32)), .val (.int (0 : Int32)), s10, s11] [(.int (1 : Int32))])) _
  refine XS.goto X3.here hx rfl (pc0 := 161) (pc' := 165) rfl (hb hby at_161) (by decide) (by decide) ?_
  show Steps p.tables e below (T3.setTop (mkF m 165 #[s0, .val (.int i1), .val (.ref o2), .val (.ref o3), s4, s5, .val (.int i6), .val (.int i7), .val (.int (1 : Int32)), .val (.int (0 : Int32)), s10, s11] [(.int (1 : Int32))])) _
  refine XS.istore X3.here hx rfl (hb hby at_165) rfl (l' := #[s0, .val (.int i1), .val (.ref o2), .val (.ref o3), s4, s5, .val (.int i6), .val (.int i7), .val (.int (1 : Int32)), .val (.int (0 : Int32)), .val (.int (1 : Int32)), s11]) (os0_165 hs10) ?_
  show Steps p.tables e below (T3.setTop (mkF m 167 #[s0, .val (.int i1), .val (.ref o2), .val (.ref o3), s4, s5, .val (.int i6), .val (.int i7), .val (.int (1 : Int32)), .val (.int (0 : Int32)), .val (.int (1 : Int32)), s11] [])) _
  refine XS.aloadN X3.here hx rfl (hb hby at_167) rfl rfl ?_
  show Steps p.tables e below (T3.setTop (mkF m 168 #[s0, .val (.int i1), .val (.ref o2), .val (.ref o3), s4, s5, .val (.int i6), .val (.int i7), .val (.int (1 : Int32)), .val (.int (0 : Int32)), .val (.int (1 : Int32)), s11] [(.ref o2)])) _
  refine st4.trans ?_
  show Steps p.tables e below (T4.setTop (mkF m 171 #[s0, .val (.int i1), .val (.ref o2), .val (.ref o3), s4, s5, .val (.int i6), .val (.int i7), .val (.int (1 : Int32)), .val (.int (0 : Int32)), .val (.int (1 : Int32)), s11] [(.int (own_f5 (1 : Int32) f))])) _
  refine XS.iload X4.here hx rfl (hb hby at_171) rfl ?_
  show Steps p.tables e below (T4.setTop (mkF m 173 #[s0, .val (.int i1), .val (.ref o2), .val (.ref o3), s4, s5, .val (.int i6), .val (.int i7), .val (.int (1 : Int32)), .val (.int (0 : Int32)), .val (.int (1 : Int32)), s11] [(.int (1 : Int32)), (.int (own_f5 (1 : Int32) f))])) _
  refine XS.icmpNo X4.here hx rfl (hb hby at_173) rfl (teq ht173).2 ?_
  show Steps p.tables e below (T4.setTop (mkF m 176 #[s0, .val (.int i1), .val (.ref o2), .val (.ref o3), s4, s5, .val (.int i6), .val (.int i7), .val (.int (1 : Int32)), .val (.int (0 : Int32)), .val (.int (1 : Int32)), s11] [])) _
  refine XS.aloadN X4.here hx rfl (hb hby at_176) rfl rfl ?_
  show Steps p.tables e below (T4.setTop (mkF m 177 #[s0, .val (.int i1), .val (.ref o2), .val (.ref o3), s4, s5, .val (.int i6), .val (.int i7), .val (.int (1 : Int32)), .val (.int (0 : Int32)), .val (.int (1 : Int32)), s11] [(.ref o3)])) _
  refine st5.trans ?_
  show Steps p.tables e below (T5.setTop (mkF m 180 #[s0, .val (.int i1), .val (.ref o2), .val (.ref o3), s4, s5, .val (.int i6), .val (.int i7), .val (.int (1 : Int32)), .val (.int (0 : Int32)), .val (.int (1 : Int32)), s11] [(.int (own_f5 (1 : Int32) f))])) _
  refine XS.iload X5.here hx rfl (hb hby at_180) rfl ?_
  show Steps p.tables e below (T5.setTop (mkF m 182 #[s0, .val (.int i1), .val (.ref o2), .val (.ref o3), s4, s5, .val (.int i6), .val (.int i7), .val (.int (1 : Int32)), .val (.int (0 : Int32)), .val (.int (1 : Int32)), s11] [(.int (1 : Int32)), (.int (own_f5 (1 : Int32) f))])) _
  refine XS.icmpNo X5.here hx rfl (hb hby at_182) rfl (teq ht182).2 ?_
  show Steps p.tables e below (T5.setTop (mkF m 185 #[s0, .val (.int i1), .val (.ref o2), .val (.ref o3), s4, s5, .val (.int i6), .val (.int i7), .val (.int (1 : Int32)), .val (.int (0 : Int32)), .val (.int (1 : Int32)), s11] [])) _
  refine XS.iconst X5.here hx rfl (hb hby at_185) ?_
  show Steps p.tables e below (T5.setTop (mkF m 186 #[s0, .val (.int i1), .val (.ref o2), .val (.ref o3), s4, s5, .val (.int i6), .val (.int i7), .val (.int (1 : Int32)), .val (.int (0 : Int32)), .val (.int (1 : Int32)), s11] [(.int (1 : Int32))])) _
  refine XS.goto X5.here hx rfl (pc0 := 186) (pc' := 190) rfl (hb hby at_186) (by decide) (by decide) ?_
  show Steps p.tables e below (T5.setTop (mkF m 190 #[s0, .val (.int i1), .val (.ref o2), .val (.ref o3), s4, s5, .val (.int i6), .val (.int i7), .val (.int (1 : Int32)), .val (.int (0 : Int32)), .val (.int (1 : Int32)), s11] [(.int (1 : Int32))])) _
  refine XS.istore X5.here hx rfl (hb hby at_190) rfl (l' := #[s0, .val (.int i1), .val (.ref o2), .val (.ref o3), s4, s5, .val (.int i6), .val (.int i7), .val (.int (1 : Int32)), .val (.int (0 : Int32)), .val (.int (1 : Int32)), .val (.int (1 : Int32))]) (os0_190 hs11) ?_
  show Steps p.tables e below (T5.setTop (mkF m 192 #[s0, .val (.int i1), .val (.ref o2), .val (.ref o3), s4, s5, .val (.int i6), .val (.int i7), .val (.int (1 : Int32)), .val (.int (0 : Int32)), .val (.int (1 : Int32)), .val (.int (1 : Int32))] [])) _
  refine XS.iload X5.here hx rfl (hb hby at_192) rfl ?_
  show Steps p.tables e below (T5.setTop (mkF m 194 #[s0, .val (.int i1), .val (.ref o2), .val (.ref o3), s4, s5, .val (.int i6), .val (.int i7), .val (.int (1 : Int32)), .val (.int (0 : Int32)), .val (.int (1 : Int32)), .val (.int (1 : Int32))] [(.int i7)])) _
  refine XS.ifNo X5.here hx rfl (hb hby at_194) rfl ((if0 _ _).trans (feq hc194).1) ?_
  show Steps p.tables e below (T5.setTop (mkF m 197 #[s0, .val (.int i1), .val (.ref o2), .val (.ref o3), s4, s5, .val (.int i6), .val (.int i7), .val (.int (1 : Int32)), .val (.int (0 : Int32)), .val (.int (1 : Int32)), .val (.int (1 : Int32))] [])) _
  refine XS.iload X5.here hx rfl (hb hby at_197) rfl ?_
  show Steps p.tables e below (T5.setTop (mkF m 199 #[s0, .val (.int i1), .val (.ref o2), .val (.ref o3), s4, s5, .val (.int i6), .val (.int i7), .val (.int (1 : Int32)), .val (.int (0 : Int32)), .val (.int (1 : Int32)), .val (.int (1 : Int32))] [(.int (1 : Int32))])) _
  refine XS.ifNo X5.here hx rfl (hb hby at_199) rfl ((if0 _ _).trans (feq hc199).1) ?_
  exact kt
set_option maxRecDepth 65536 in
set_option maxHeartbeats 40000000 in
theorem own_p2_110 {p : Program} {l : Launch} {e : Env} {s : State} {m : MethodId} {args : Array Value} {below : List Frame} {meth : Method} {c : Code} {T0 : State} {locs : List Loc} {Z : State} {a0 : Array Value} {h0 : Heap} {n0 : Nat} (s0 : Slot) (i1 : Int32) (o2 : Addr) (o3 : Addr) (s4 : Slot) (s5 : Slot) (i6 : Int32) (i7 : Int32) (s8 : Slot) (s9 : Slot) (s10 : Slot) (s11 : Slot) (r : Int32) (f : Int32)
    (X0 : Stand p l e room_1 s m args below meth c T0 locs 2 10) (hx : p.tables.exec = Jvm.exec) (hZ : Z.Warmed39 s.vm) (hw : ∀ d ∈ tables_1, d.before a0 Z = true) (hby : c.code = code) (hml : c.maxLocals = 12) (hown : s.vm.findClass "com/example/orderly_tx/orderlytx/UnitStatusIsRollbackOnlyPinLaw" = some m.cls) (e0 : T0.heap = h0) (N0 : Fr n0 locs) (Z0 : n0 ≤ h0.size) (Hst : own_St Z h0 o2 o3 r f) (g_o2 : n0 ≤ o2) (nep : o3 ≠ o2) (hs8 : One s8) (hs9 : One s9) (hs10 : One s10) (hs11 : One s11) (hc102 : ¬ ((i1 &&& (1 : Int32)) = (0 : Int32))) (hc115 : ¬ ((i1 &&& (2 : Int32)) = (0 : Int32))) (hc127 : ¬ ((1 : Int32) = (0 : Int32))) (hc137 : ¬ ((1 : Int32) = (0 : Int32))) (hc147 : i6 = (0 : Int32)) (hc152 : ¬ ((1 : Int32) = (0 : Int32))) (ht173 : (own_f5 (1 : Int32) (1 : Int32)) = (1 : Int32)) (ht182 : (own_f5 (1 : Int32) (1 : Int32)) = (1 : Int32)) (hc194 : ¬ (i7 = (0 : Int32))) (hc199 : ¬ ((1 : Int32) = (0 : Int32))) :
    ∃ (T' : State) (h' : Heap) (locs' : List Loc) (x8 x9 x10 : Int32), Stand p l e room_1 s m args below meth c T' locs' 2 10 ∧ T'.heap = h' ∧ Fr n0 locs' ∧ True ∧ ∀ target, Steps p.tables e below (T'.setTop (mkF m 202 #[s0, .val (.int i1), .val (.ref o2), .val (.ref o3), s4, s5, .val (.int i6), .val (.int i7), .val (.int x8), .val (.int x9), .val (.int x10), .val (.int (1 : Int32))] [])) target → Steps p.tables e below (T0.setTop (mkF m 99 #[s0, .val (.int i1), .val (.ref o2), .val (.ref o3), s4, s5, .val (.int i6), .val (.int i7), s8, s9, s10, s11] [])) target := by
  have E_o2 := Hst.1
  have E_o3 := Hst.2.2.2.2.2.1
  -- 3. LAWS
  -- pc 132: com/example/orderly_tx/orderlytx/UnitStatus.fail by the contract of the body that the receiver's class selects, rm6
  obtain ⟨cq3, kq3, q3a, q3b, q3c⟩ := isOf hZ e0 E_o2
  obtain ⟨_, _, ⟨T3, L3, k3, n3⟩, -, X3, ⟨Lc3, hQ3, l3, y3, z3⟩, st3⟩ := X0.virtualBack hx (y := (⟨"com/example/orderly_tx/orderlytx/UnitStatus", "fail", "(Ljava/lang/Throwable;)V"⟩ : MethodName)) (z := (⟨"com/example/orderly_tx/orderlytx/UnitStatus", "fail", "(Ljava/lang/Throwable;)V"⟩ : MethodName)) hown (mvT hZ (hw _ (List.mem_of_getElem? (i := 32) rfl))) (mvT hZ (hw _ (List.mem_of_getElem? (i := 33) rfl))) (notFace_of_selects (args := #[]) (mvT hZ (hw _ (List.mem_of_getElem? (i := 35) rfl)))) (mvT hZ (hw _ (List.mem_of_getElem? (i := 35) rfl))) (mvT hZ (hw _ (List.mem_of_getElem? (i := 34) rfl))) (by decide) (backOf (W := 0) (rm6s l Z a0 hw [] o2 .null o3 r f h0 n0 Z0 Hst g_o2 nep) hZ (hw _ (List.mem_of_getElem? (i := 36) rfl)) (hw _ (List.mem_of_getElem? (i := 2) rfl)) (by decide) (by decide)) q3a q3c (g := (mkF m 132 #[s0, .val (.int i1), .val (.ref o2), .val (.ref o3), s4, s5, .val (.int i6), .val (.int i7), .val (.int (1 : Int32)), .val (.int (1 : Int32)), s10, s11] [.null, (.ref o2)])) rfl (by rw [hml]; rfl) (Steps.refl _) (argsL := [.null]) (rest := []) (lenOf pd_0_4 rfl) rfl (by show 2 * 0 + _ ≤ _; exact Nat.le_of_eq rfl) (hb hby at_132) (fun _ _ => ⟨rfl, e0, (by decide : 2 + 0 + 0 ≤ _), (by decide : 10 + 0 + 0 ≤ _)⟩)
  dsimp only [Pt.U, Pt.locs, Pt.cells, Pt.slots] at X3 l3 y3 z3 st3 hQ3
  subst l3 y3 z3
  obtain ⟨rfl, N3q, K3q, H3q⟩ := hQ3
  have N3 := Fr.app N0 N3q
  have KH3 : Keep h0 T3.heap [o2] := (Keep.refl h0 [o2]).trans K3q (fun x hx => Or.inl hx)
  -- pc 142: com/example/orderly_tx/orderlytx/UnitStatus.fail by the contract of the body that the receiver's class selects, rm6
  obtain ⟨cq4, kq4, q4a, q4b, q4c⟩ := isOf hZ rfl (E_o3.keep K3q)
  obtain ⟨_, _, ⟨T4, L4, k4, n4⟩, -, X4, ⟨Lc4, hQ4, l4, y4, z4⟩, st4⟩ := X3.virtualBack hx (y := (⟨"com/example/orderly_tx/orderlytx/UnitStatus", "fail", "(Ljava/lang/Throwable;)V"⟩ : MethodName)) (z := (⟨"com/example/orderly_tx/orderlytx/UnitStatus", "fail", "(Ljava/lang/Throwable;)V"⟩ : MethodName)) hown (mvT hZ (hw _ (List.mem_of_getElem? (i := 32) rfl))) (mvT hZ (hw _ (List.mem_of_getElem? (i := 33) rfl))) (notFace_of_selects (args := #[]) (mvT hZ (hw _ (List.mem_of_getElem? (i := 35) rfl)))) (mvT hZ (hw _ (List.mem_of_getElem? (i := 35) rfl))) (mvT hZ (hw _ (List.mem_of_getElem? (i := 34) rfl))) (by decide) (backOf (W := 0) (rm6p l Z a0 hw [] o3 o2 (1 : Int32) f T3.heap n0 (Nat.le_trans Z0 KH3.1) H3q g_o2 nep) hZ (hw _ (List.mem_of_getElem? (i := 36) rfl)) (hw _ (List.mem_of_getElem? (i := 2) rfl)) (by decide) (by decide)) q4a q4c (g := (mkF m 142 #[s0, .val (.int i1), .val (.ref o2), .val (.ref o3), s4, s5, .val (.int i6), .val (.int i7), .val (.int (1 : Int32)), .val (.int (1 : Int32)), s10, s11] [.null, (.ref o3)])) rfl (by rw [hml]; rfl) (Steps.refl _) (argsL := [.null]) (rest := []) (lenOf pd_0_4 rfl) rfl (by show 2 * 0 + _ ≤ _; exact Nat.le_of_eq rfl) (hb hby at_142) (fun _ _ => ⟨rfl, rfl, (by decide : 2 + 0 + 0 ≤ _), (by decide : 10 + 0 + 0 ≤ _)⟩)
  dsimp only [Pt.U, Pt.locs, Pt.cells, Pt.slots] at X4 l4 y4 z4 st4 hQ4
  subst l4 y4 z4
  obtain ⟨rfl, N4q, K4q, H4q⟩ := hQ4
  have N4 := Fr.app N3 N4q
  have KH4 : Keep h0 T4.heap [o2] := KH3.trans K4q (fun x hx => Or.inl hx)
  -- pc 168: com/example/orderly_tx/orderlytx/UnitStatus.isRollbackOnly by the contract of the body that the receiver's class selects, rm5
  obtain ⟨cq5, kq5, q5a, q5b, q5c⟩ := isOf hZ rfl ((E_o2.keep K3q).keep K4q)
  obtain ⟨_, _, ⟨T5, L5, k5, n5⟩, -, X5, ⟨Lc5, hQ5, l5, y5, z5⟩, st5⟩ := X4.virtualBack hx (y := (⟨"com/example/orderly_tx/orderlytx/UnitStatus", "isRollbackOnly", "()Z"⟩ : MethodName)) (z := (⟨"com/example/orderly_tx/orderlytx/UnitStatus", "isRollbackOnly", "()Z"⟩ : MethodName)) hown (mvT hZ (hw _ (List.mem_of_getElem? (i := 22) rfl))) (mvT hZ (hw _ (List.mem_of_getElem? (i := 23) rfl))) (notFace_of_selects (args := #[]) (mvT hZ (hw _ (List.mem_of_getElem? (i := 25) rfl)))) (mvT hZ (hw _ (List.mem_of_getElem? (i := 25) rfl))) (mvT hZ (hw _ (List.mem_of_getElem? (i := 24) rfl))) (by decide) (backOf (W := 0) (rm5 l Z a0 hw [] o2 (1 : Int32) (1 : Int32) T4.heap n0 (Nat.le_trans Z0 KH4.1) H4q.2.1 H4q.2.2.1 H4q.2.2.2.1) hZ (hw _ (List.mem_of_getElem? (i := 26) rfl)) (hw _ (List.mem_of_getElem? (i := 2) rfl)) (by decide) (by decide)) q5a q5c (g := (mkF m 168 #[s0, .val (.int i1), .val (.ref o2), .val (.ref o3), s4, s5, .val (.int i6), .val (.int i7), .val (.int (1 : Int32)), .val (.int (1 : Int32)), .val (.int (1 : Int32)), s11] [(.ref o2)])) rfl (by rw [hml]; rfl) (Steps.refl _) (argsL := []) (rest := []) (lenOf pd_0_3 rfl) rfl (by show 2 * 0 + _ ≤ _; exact Nat.le_of_eq rfl) (hb hby at_168) (fun _ _ => ⟨rfl, rfl, (by decide : 2 + 0 + 0 ≤ _), (by decide : 10 + 0 + 0 ≤ _)⟩)
  dsimp only [Pt.U, Pt.locs, Pt.cells, Pt.slots] at X5 l5 y5 z5 st5 hQ5
  subst l5 y5 z5
  obtain ⟨rfl, N5q, e5q⟩ := hQ5
  have N5 := Fr.app N4 N5q
  have K5q : Keep T4.heap T5.heap [] := own_keep e5q
  have KH5 : Keep h0 T5.heap [o2] := KH4.trans K5q own_ws0
  have Hn5 := own_St_eq e5q H4q
  -- pc 177: com/example/orderly_tx/orderlytx/UnitStatus.isRollbackOnly by the contract of the body that the receiver's class selects, rm5
  obtain ⟨cq6, kq6, q6a, q6b, q6c⟩ := isOf hZ rfl (((E_o3.keep K3q).keep K4q).keep K5q)
  obtain ⟨_, _, ⟨T6, L6, k6, n6⟩, -, X6, ⟨Lc6, hQ6, l6, y6, z6⟩, st6⟩ := X5.virtualBack hx (y := (⟨"com/example/orderly_tx/orderlytx/UnitStatus", "isRollbackOnly", "()Z"⟩ : MethodName)) (z := (⟨"com/example/orderly_tx/orderlytx/UnitStatus", "isRollbackOnly", "()Z"⟩ : MethodName)) hown (mvT hZ (hw _ (List.mem_of_getElem? (i := 22) rfl))) (mvT hZ (hw _ (List.mem_of_getElem? (i := 23) rfl))) (notFace_of_selects (args := #[]) (mvT hZ (hw _ (List.mem_of_getElem? (i := 25) rfl)))) (mvT hZ (hw _ (List.mem_of_getElem? (i := 25) rfl))) (mvT hZ (hw _ (List.mem_of_getElem? (i := 24) rfl))) (by decide) (backOf (W := 0) (rm5p l Z a0 hw [] o3 o2 (1 : Int32) (1 : Int32) T5.heap n0 (Nat.le_trans Z0 KH5.1) Hn5.2.2.2.2.2.2 Hn5.1 Hn5.2.1 Hn5.2.2.1 Hn5.2.2.2.1) hZ (hw _ (List.mem_of_getElem? (i := 26) rfl)) (hw _ (List.mem_of_getElem? (i := 2) rfl)) (by decide) (by decide)) q6a q6c (g := (mkF m 177 #[s0, .val (.int i1), .val (.ref o2), .val (.ref o3), s4, s5, .val (.int i6), .val (.int i7), .val (.int (1 : Int32)), .val (.int (1 : Int32)), .val (.int (1 : Int32)), s11] [(.ref o3)])) rfl (by rw [hml]; rfl) (Steps.refl _) (argsL := []) (rest := []) (lenOf pd_0_3 rfl) rfl (by show 2 * 0 + _ ≤ _; exact Nat.le_of_eq rfl) (hb hby at_177) (fun _ _ => ⟨rfl, rfl, (by decide : 2 + 0 + 0 ≤ _), (by decide : 10 + 0 + 0 ≤ _)⟩)
  dsimp only [Pt.U, Pt.locs, Pt.cells, Pt.slots] at X6 l6 y6 z6 st6 hQ6
  subst l6 y6 z6
  obtain ⟨rfl, N6q, e6q⟩ := hQ6
  have N6 := Fr.app N5 N6q
  have K6q : Keep T5.heap T6.heap [] := own_keep e6q
  have KH6 : Keep h0 T6.heap [o2] := KH5.trans K6q own_ws0
  have Hn6 := own_St_eq e6q Hn5
  refine ⟨T6, _, _, (1 : Int32), (1 : Int32), (1 : Int32), X6, rfl, N6, trivial, fun target kt => ?_⟩
  -- 4. STEPS
  show Steps p.tables e below (T0.setTop (mkF m 99 #[s0, .val (.int i1), .val (.ref o2), .val (.ref o3), s4, s5, .val (.int i6), .val (.int i7), s8, s9, s10, s11] [])) _
  refine XS.iloadN X0.here hx rfl (hb hby at_99) rfl ?_
  show Steps p.tables e below (T0.setTop (mkF m 100 #[s0, .val (.int i1), .val (.ref o2), .val (.ref o3), s4, s5, .val (.int i6), .val (.int i7), s8, s9, s10, s11] [(.int i1)])) _
  refine XS.iconst X0.here hx rfl (hb hby at_100) ?_
  show Steps p.tables e below (T0.setTop (mkF m 101 #[s0, .val (.int i1), .val (.ref o2), .val (.ref o3), s4, s5, .val (.int i6), .val (.int i7), s8, s9, s10, s11] [(.int (1 : Int32)), (.int i1)])) _
  refine XS.iand X0.here hx rfl (hb hby at_101) rfl ?_
  show Steps p.tables e below (T0.setTop (mkF m 102 #[s0, .val (.int i1), .val (.ref o2), .val (.ref o3), s4, s5, .val (.int i6), .val (.int i7), s8, s9, s10, s11] [(.int (i1 &&& (1 : Int32)))])) _
  refine XS.ifNo X0.here hx rfl (hb hby at_102) rfl ((if0 _ _).trans (feq hc102).1) ?_
  show Steps p.tables e below (T0.setTop (mkF m 105 #[s0, .val (.int i1), .val (.ref o2), .val (.ref o3), s4, s5, .val (.int i6), .val (.int i7), s8, s9, s10, s11] [])) _
  refine XS.iconst X0.here hx rfl (hb hby at_105) ?_
  show Steps p.tables e below (T0.setTop (mkF m 106 #[s0, .val (.int i1), .val (.ref o2), .val (.ref o3), s4, s5, .val (.int i6), .val (.int i7), s8, s9, s10, s11] [(.int (1 : Int32))])) _
  refine XS.goto X0.here hx rfl (pc0 := 106) (pc' := 110) rfl (hb hby at_106) (by decide) (by decide) ?_
  show Steps p.tables e below (T0.setTop (mkF m 110 #[s0, .val (.int i1), .val (.ref o2), .val (.ref o3), s4, s5, .val (.int i6), .val (.int i7), s8, s9, s10, s11] [(.int (1 : Int32))])) _
  refine XS.istore X0.here hx rfl (hb hby at_110) rfl (l' := #[s0, .val (.int i1), .val (.ref o2), .val (.ref o3), s4, s5, .val (.int i6), .val (.int i7), .val (.int (1 : Int32)), s9, s10, s11]) (os0_110 hs8) ?_
  show Steps p.tables e below (T0.setTop (mkF m 112 #[s0, .val (.int i1), .val (.ref o2), .val (.ref o3), s4, s5, .val (.int i6), .val (.int i7), .val (.int (1 : Int32)), s9, s10, s11] [])) _
  refine XS.iloadN X0.here hx rfl (hb hby at_112) rfl ?_
  show Steps p.tables e below (T0.setTop (mkF m 113 #[s0, .val (.int i1), .val (.ref o2), .val (.ref o3), s4, s5, .val (.int i6), .val (.int i7), .val (.int (1 : Int32)), s9, s10, s11] [(.int i1)])) _
  refine XS.iconst X0.here hx rfl (hb hby at_113) ?_
  show Steps p.tables e below (T0.setTop (mkF m 114 #[s0, .val (.int i1), .val (.ref o2), .val (.ref o3), s4, s5, .val (.int i6), .val (.int i7), .val (.int (1 : Int32)), s9, s10, s11] [(.int (2 : Int32)), (.int i1)])) _
  refine XS.iand X0.here hx rfl (hb hby at_114) rfl ?_
  show Steps p.tables e below (T0.setTop (mkF m 115 #[s0, .val (.int i1), .val (.ref o2), .val (.ref o3), s4, s5, .val (.int i6), .val (.int i7), .val (.int (1 : Int32)), s9, s10, s11] [(.int (i1 &&& (2 : Int32)))])) _
  refine XS.ifNo X0.here hx rfl (hb hby at_115) rfl ((if0 _ _).trans (feq hc115).1) ?_
  show Steps p.tables e below (T0.setTop (mkF m 118 #[s0, .val (.int i1), .val (.ref o2), .val (.ref o3), s4, s5, .val (.int i6), .val (.int i7), .val (.int (1 : Int32)), s9, s10, s11] [])) _
  refine XS.iconst X0.here hx rfl (hb hby at_118) ?_
  show Steps p.tables e below (T0.setTop (mkF m 119 #[s0, .val (.int i1), .val (.ref o2), .val (.ref o3), s4, s5, .val (.int i6), .val (.int i7), .val (.int (1 : Int32)), s9, s10, s11] [(.int (1 : Int32))])) _
  refine XS.goto X0.here hx rfl (pc0 := 119) (pc' := 123) rfl (hb hby at_119) (by decide) (by decide) ?_
  show Steps p.tables e below (T0.setTop (mkF m 123 #[s0, .val (.int i1), .val (.ref o2), .val (.ref o3), s4, s5, .val (.int i6), .val (.int i7), .val (.int (1 : Int32)), s9, s10, s11] [(.int (1 : Int32))])) _
  refine XS.istore X0.here hx rfl (hb hby at_123) rfl (l' := #[s0, .val (.int i1), .val (.ref o2), .val (.ref o3), s4, s5, .val (.int i6), .val (.int i7), .val (.int (1 : Int32)), .val (.int (1 : Int32)), s10, s11]) (os0_123 hs9) ?_
  show Steps p.tables e below (T0.setTop (mkF m 125 #[s0, .val (.int i1), .val (.ref o2), .val (.ref o3), s4, s5, .val (.int i6), .val (.int i7), .val (.int (1 : Int32)), .val (.int (1 : Int32)), s10, s11] [])) _
  refine XS.iload X0.here hx rfl (hb hby at_125) rfl ?_
  show Steps p.tables e below (T0.setTop (mkF m 127 #[s0, .val (.int i1), .val (.ref o2), .val (.ref o3), s4, s5, .val (.int i6), .val (.int i7), .val (.int (1 : Int32)), .val (.int (1 : Int32)), s10, s11] [(.int (1 : Int32))])) _
  refine XS.ifNo X0.here hx rfl (hb hby at_127) rfl ((if0 _ _).trans (feq hc127).1) ?_
  show Steps p.tables e below (T0.setTop (mkF m 130 #[s0, .val (.int i1), .val (.ref o2), .val (.ref o3), s4, s5, .val (.int i6), .val (.int i7), .val (.int (1 : Int32)), .val (.int (1 : Int32)), s10, s11] [])) _
  refine XS.aloadN X0.here hx rfl (hb hby at_130) rfl rfl ?_
  show Steps p.tables e below (T0.setTop (mkF m 131 #[s0, .val (.int i1), .val (.ref o2), .val (.ref o3), s4, s5, .val (.int i6), .val (.int i7), .val (.int (1 : Int32)), .val (.int (1 : Int32)), s10, s11] [(.ref o2)])) _
  refine XS.aconstNull X0.here hx rfl (hb hby at_131) ?_
  show Steps p.tables e below (T0.setTop (mkF m 132 #[s0, .val (.int i1), .val (.ref o2), .val (.ref o3), s4, s5, .val (.int i6), .val (.int i7), .val (.int (1 : Int32)), .val (.int (1 : Int32)), s10, s11] [.null, (.ref o2)])) _
  refine st3.trans ?_
  show Steps p.tables e below (T3.setTop (mkF m 135 #[s0, .val (.int i1), .val (.ref o2), .val (.ref o3), s4, s5, .val (.int i6), .val (.int i7), .val (.int (1 : Int32)), .val (.int (1 : Int32)), s10, s11] [])) _
  refine XS.iload X3.here hx rfl (hb hby at_135) rfl ?_
  show Steps p.tables e below (T3.setTop (mkF m 137 #[s0, .val (.int i1), .val (.ref o2), .val (.ref o3), s4, s5, .val (.int i6), .val (.int i7), .val (.int (1 : Int32)), .val (.int (1 : Int32)), s10, s11] [(.int (1 : Int32))])) _
  refine XS.ifNo X3.here hx rfl (hb hby at_137) rfl ((if0 _ _).trans (feq hc137).1) ?_
  show Steps p.tables e below (T3.setTop (mkF m 140 #[s0, .val (.int i1), .val (.ref o2), .val (.ref o3), s4, s5, .val (.int i6), .val (.int i7), .val (.int (1 : Int32)), .val (.int (1 : Int32)), s10, s11] [])) _
  refine XS.aloadN X3.here hx rfl (hb hby at_140) rfl rfl ?_
  show Steps p.tables e below (T3.setTop (mkF m 141 #[s0, .val (.int i1), .val (.ref o2), .val (.ref o3), s4, s5, .val (.int i6), .val (.int i7), .val (.int (1 : Int32)), .val (.int (1 : Int32)), s10, s11] [(.ref o3)])) _
  refine XS.aconstNull X3.here hx rfl (hb hby at_141) ?_
  show Steps p.tables e below (T3.setTop (mkF m 142 #[s0, .val (.int i1), .val (.ref o2), .val (.ref o3), s4, s5, .val (.int i6), .val (.int i7), .val (.int (1 : Int32)), .val (.int (1 : Int32)), s10, s11] [.null, (.ref o3)])) _
  refine st4.trans ?_
  show Steps p.tables e below (T4.setTop (mkF m 145 #[s0, .val (.int i1), .val (.ref o2), .val (.ref o3), s4, s5, .val (.int i6), .val (.int i7), .val (.int (1 : Int32)), .val (.int (1 : Int32)), s10, s11] [])) _
  refine XS.iload X4.here hx rfl (hb hby at_145) rfl ?_
  show Steps p.tables e below (T4.setTop (mkF m 147 #[s0, .val (.int i1), .val (.ref o2), .val (.ref o3), s4, s5, .val (.int i6), .val (.int i7), .val (.int (1 : Int32)), .val (.int (1 : Int32)), s10, s11] [(.int i6)])) _
  refine XS.ifNo X4.here hx rfl (hb hby at_147) rfl ((if0 _ _).trans (teq hc147).2) ?_
  show Steps p.tables e below (T4.setTop (mkF m 150 #[s0, .val (.int i1), .val (.ref o2), .val (.ref o3), s4, s5, .val (.int i6), .val (.int i7), .val (.int (1 : Int32)), .val (.int (1 : Int32)), s10, s11] [])) _
  refine XS.iload X4.here hx rfl (hb hby at_150) rfl ?_
  show Steps p.tables e below (T4.setTop (mkF m 152 #[s0, .val (.int i1), .val (.ref o2), .val (.ref o3), s4, s5, .val (.int i6), .val (.int i7), .val (.int (1 : Int32)), .val (.int (1 : Int32)), s10, s11] [(.int (1 : Int32))])) _
  refine XS.ifYes X4.here hx rfl (pc0 := 152) (pc' := 160) rfl (hb hby at_152) rfl ((if0 _ _).trans (feq hc152).2) (by decide) (by decide) ?_
  show Steps p.tables e below (T4.setTop (mkF m 160 #[s0, .val (.int i1), .val (.ref o2), .val (.ref o3), s4, s5, .val (.int i6), .val (.int i7), .val (.int (1 : Int32)), .val (.int (1 : Int32)), s10, s11] [])) _
  refine XS.iconst X4.here hx rfl (hb hby at_160) ?_
  show Steps p.tables e below (T4.setTop (mkF m 161 #[s0, .val (.int i1), .val (.ref o2), .val (.ref o3), s4, s5, .val (.int i6), .val (.int i7), .val (.int (1 : Int32)), .val (.int (1 : Int32)), s10, s11] [(.int (1 : Int32))])) _
  refine XS.goto X4.here hx rfl (pc0 := 161) (pc' := 165) rfl (hb hby at_161) (by decide) (by decide) ?_
  show Steps p.tables e below (T4.setTop (mkF m 165 #[s0, .val (.int i1), .val (.ref o2), .val (.ref o3), s4, s5, .val (.int i6), .val (.int i7), .val (.int (1 : Int32)), .val (.int (1 : Int32)), s10, s11] [(.int (1 : Int32))])) _
  refine XS.istore X4.here hx rfl (hb hby at_165) rfl (l' := #[s0, .val (.int i1), .val (.ref o2), .val (.ref o3), s4, s5, .val (.int i6), .val (.int i7), .val (.int (1 : Int32)), .val (.int (1 : Int32)), .val (.int (1 : Int32)), s11]) (os0_165 hs10) ?_
  show Steps p.tables e below (T4.setTop (mkF m 167 #[s0, .val (.int i1), .val (.ref o2), .val (.ref o3), s4, s5, .val (.int i6), .val (.int i7), .val (.int (1 : Int32)), .val (.int (1 : Int32)), .val (.int (1 : Int32)), s11] [])) _
  refine XS.aloadN X4.here hx rfl (hb hby at_167) rfl rfl ?_
  show Steps p.tables e below (T4.setTop (mkF m 168 #[s0, .val (.int i1), .val (.ref o2), .val (.ref o3), s4, s5, .val (.int i6), .val (.int i7), .val (.int (1 : Int32)), .val (.int (1 : Int32)), .val (.int (1 : Int32)), s11] [(.ref o2)])) _
  refine st5.trans ?_
  show Steps p.tables e below (T5.setTop (mkF m 171 #[s0, .val (.int i1), .val (.ref o2), .val (.ref o3), s4, s5, .val (.int i6), .val (.int i7), .val (.int (1 : Int32)), .val (.int (1 : Int32)), .val (.int (1 : Int32)), s11] [(.int (own_f5 (1 : Int32) (1 : Int32)))])) _
  refine XS.iload X5.here hx rfl (hb hby at_171) rfl ?_
  show Steps p.tables e below (T5.setTop (mkF m 173 #[s0, .val (.int i1), .val (.ref o2), .val (.ref o3), s4, s5, .val (.int i6), .val (.int i7), .val (.int (1 : Int32)), .val (.int (1 : Int32)), .val (.int (1 : Int32)), s11] [(.int (1 : Int32)), (.int (own_f5 (1 : Int32) (1 : Int32)))])) _
  refine XS.icmpNo X5.here hx rfl (hb hby at_173) rfl (teq ht173).2 ?_
  show Steps p.tables e below (T5.setTop (mkF m 176 #[s0, .val (.int i1), .val (.ref o2), .val (.ref o3), s4, s5, .val (.int i6), .val (.int i7), .val (.int (1 : Int32)), .val (.int (1 : Int32)), .val (.int (1 : Int32)), s11] [])) _
  refine XS.aloadN X5.here hx rfl (hb hby at_176) rfl rfl ?_
  show Steps p.tables e below (T5.setTop (mkF m 177 #[s0, .val (.int i1), .val (.ref o2), .val (.ref o3), s4, s5, .val (.int i6), .val (.int i7), .val (.int (1 : Int32)), .val (.int (1 : Int32)), .val (.int (1 : Int32)), s11] [(.ref o3)])) _
  refine st6.trans ?_
  show Steps p.tables e below (T6.setTop (mkF m 180 #[s0, .val (.int i1), .val (.ref o2), .val (.ref o3), s4, s5, .val (.int i6), .val (.int i7), .val (.int (1 : Int32)), .val (.int (1 : Int32)), .val (.int (1 : Int32)), s11] [(.int (own_f5 (1 : Int32) (1 : Int32)))])) _
  refine XS.iload X6.here hx rfl (hb hby at_180) rfl ?_
  show Steps p.tables e below (T6.setTop (mkF m 182 #[s0, .val (.int i1), .val (.ref o2), .val (.ref o3), s4, s5, .val (.int i6), .val (.int i7), .val (.int (1 : Int32)), .val (.int (1 : Int32)), .val (.int (1 : Int32)), s11] [(.int (1 : Int32)), (.int (own_f5 (1 : Int32) (1 : Int32)))])) _
  refine XS.icmpNo X6.here hx rfl (hb hby at_182) rfl (teq ht182).2 ?_
  show Steps p.tables e below (T6.setTop (mkF m 185 #[s0, .val (.int i1), .val (.ref o2), .val (.ref o3), s4, s5, .val (.int i6), .val (.int i7), .val (.int (1 : Int32)), .val (.int (1 : Int32)), .val (.int (1 : Int32)), s11] [])) _
  refine XS.iconst X6.here hx rfl (hb hby at_185) ?_
  show Steps p.tables e below (T6.setTop (mkF m 186 #[s0, .val (.int i1), .val (.ref o2), .val (.ref o3), s4, s5, .val (.int i6), .val (.int i7), .val (.int (1 : Int32)), .val (.int (1 : Int32)), .val (.int (1 : Int32)), s11] [(.int (1 : Int32))])) _
  refine XS.goto X6.here hx rfl (pc0 := 186) (pc' := 190) rfl (hb hby at_186) (by decide) (by decide) ?_
  show Steps p.tables e below (T6.setTop (mkF m 190 #[s0, .val (.int i1), .val (.ref o2), .val (.ref o3), s4, s5, .val (.int i6), .val (.int i7), .val (.int (1 : Int32)), .val (.int (1 : Int32)), .val (.int (1 : Int32)), s11] [(.int (1 : Int32))])) _
  refine XS.istore X6.here hx rfl (hb hby at_190) rfl (l' := #[s0, .val (.int i1), .val (.ref o2), .val (.ref o3), s4, s5, .val (.int i6), .val (.int i7), .val (.int (1 : Int32)), .val (.int (1 : Int32)), .val (.int (1 : Int32)), .val (.int (1 : Int32))]) (os0_190 hs11) ?_
  show Steps p.tables e below (T6.setTop (mkF m 192 #[s0, .val (.int i1), .val (.ref o2), .val (.ref o3), s4, s5, .val (.int i6), .val (.int i7), .val (.int (1 : Int32)), .val (.int (1 : Int32)), .val (.int (1 : Int32)), .val (.int (1 : Int32))] [])) _
  refine XS.iload X6.here hx rfl (hb hby at_192) rfl ?_
  show Steps p.tables e below (T6.setTop (mkF m 194 #[s0, .val (.int i1), .val (.ref o2), .val (.ref o3), s4, s5, .val (.int i6), .val (.int i7), .val (.int (1 : Int32)), .val (.int (1 : Int32)), .val (.int (1 : Int32)), .val (.int (1 : Int32))] [(.int i7)])) _
  refine XS.ifNo X6.here hx rfl (hb hby at_194) rfl ((if0 _ _).trans (feq hc194).1) ?_
  show Steps p.tables e below (T6.setTop (mkF m 197 #[s0, .val (.int i1), .val (.ref o2), .val (.ref o3), s4, s5, .val (.int i6), .val (.int i7), .val (.int (1 : Int32)), .val (.int (1 : Int32)), .val (.int (1 : Int32)), .val (.int (1 : Int32))] [])) _
  refine XS.iload X6.here hx rfl (hb hby at_197) rfl ?_
  show Steps p.tables e below (T6.setTop (mkF m 199 #[s0, .val (.int i1), .val (.ref o2), .val (.ref o3), s4, s5, .val (.int i6), .val (.int i7), .val (.int (1 : Int32)), .val (.int (1 : Int32)), .val (.int (1 : Int32)), .val (.int (1 : Int32))] [(.int (1 : Int32))])) _
  refine XS.ifNo X6.here hx rfl (hb hby at_199) rfl ((if0 _ _).trans (feq hc199).1) ?_
  exact kt
set_option maxRecDepth 65536 in
set_option maxHeartbeats 40000000 in
theorem own_p2_111 {p : Program} {l : Launch} {e : Env} {s : State} {m : MethodId} {args : Array Value} {below : List Frame} {meth : Method} {c : Code} {T0 : State} {locs : List Loc} {Z : State} {a0 : Array Value} {h0 : Heap} {n0 : Nat} (s0 : Slot) (i1 : Int32) (o2 : Addr) (o3 : Addr) (s4 : Slot) (s5 : Slot) (i6 : Int32) (i7 : Int32) (s8 : Slot) (s9 : Slot) (s10 : Slot) (s11 : Slot) (r : Int32) (f : Int32)
    (X0 : Stand p l e room_1 s m args below meth c T0 locs 2 10) (hx : p.tables.exec = Jvm.exec) (hZ : Z.Warmed39 s.vm) (hw : ∀ d ∈ tables_1, d.before a0 Z = true) (hby : c.code = code) (hml : c.maxLocals = 12) (hown : s.vm.findClass "com/example/orderly_tx/orderlytx/UnitStatusIsRollbackOnlyPinLaw" = some m.cls) (e0 : T0.heap = h0) (N0 : Fr n0 locs) (Z0 : n0 ≤ h0.size) (Hst : own_St Z h0 o2 o3 r f) (g_o2 : n0 ≤ o2) (nep : o3 ≠ o2) (hs8 : One s8) (hs9 : One s9) (hs10 : One s10) (hs11 : One s11) (hc102 : ¬ ((i1 &&& (1 : Int32)) = (0 : Int32))) (hc115 : ¬ ((i1 &&& (2 : Int32)) = (0 : Int32))) (hc127 : ¬ ((1 : Int32) = (0 : Int32))) (hc137 : ¬ ((1 : Int32) = (0 : Int32))) (hc147 : ¬ (i6 = (0 : Int32))) (ht173 : (own_f5 (1 : Int32) (1 : Int32)) = (1 : Int32)) (ht182 : (own_f5 (1 : Int32) (1 : Int32)) = (1 : Int32)) (hc194 : ¬ (i7 = (0 : Int32))) (hc199 : ¬ ((1 : Int32) = (0 : Int32))) :
    ∃ (T' : State) (h' : Heap) (locs' : List Loc) (x8 x9 x10 : Int32), Stand p l e room_1 s m args below meth c T' locs' 2 10 ∧ T'.heap = h' ∧ Fr n0 locs' ∧ True ∧ ∀ target, Steps p.tables e below (T'.setTop (mkF m 202 #[s0, .val (.int i1), .val (.ref o2), .val (.ref o3), s4, s5, .val (.int i6), .val (.int i7), .val (.int x8), .val (.int x9), .val (.int x10), .val (.int (1 : Int32))] [])) target → Steps p.tables e below (T0.setTop (mkF m 99 #[s0, .val (.int i1), .val (.ref o2), .val (.ref o3), s4, s5, .val (.int i6), .val (.int i7), s8, s9, s10, s11] [])) target := by
  have E_o2 := Hst.1
  have E_o3 := Hst.2.2.2.2.2.1
  -- 3. LAWS
  -- pc 132: com/example/orderly_tx/orderlytx/UnitStatus.fail by the contract of the body that the receiver's class selects, rm6
  obtain ⟨cq3, kq3, q3a, q3b, q3c⟩ := isOf hZ e0 E_o2
  obtain ⟨_, _, ⟨T3, L3, k3, n3⟩, -, X3, ⟨Lc3, hQ3, l3, y3, z3⟩, st3⟩ := X0.virtualBack hx (y := (⟨"com/example/orderly_tx/orderlytx/UnitStatus", "fail", "(Ljava/lang/Throwable;)V"⟩ : MethodName)) (z := (⟨"com/example/orderly_tx/orderlytx/UnitStatus", "fail", "(Ljava/lang/Throwable;)V"⟩ : MethodName)) hown (mvT hZ (hw _ (List.mem_of_getElem? (i := 32) rfl))) (mvT hZ (hw _ (List.mem_of_getElem? (i := 33) rfl))) (notFace_of_selects (args := #[]) (mvT hZ (hw _ (List.mem_of_getElem? (i := 35) rfl)))) (mvT hZ (hw _ (List.mem_of_getElem? (i := 35) rfl))) (mvT hZ (hw _ (List.mem_of_getElem? (i := 34) rfl))) (by decide) (backOf (W := 0) (rm6s l Z a0 hw [] o2 .null o3 r f h0 n0 Z0 Hst g_o2 nep) hZ (hw _ (List.mem_of_getElem? (i := 36) rfl)) (hw _ (List.mem_of_getElem? (i := 2) rfl)) (by decide) (by decide)) q3a q3c (g := (mkF m 132 #[s0, .val (.int i1), .val (.ref o2), .val (.ref o3), s4, s5, .val (.int i6), .val (.int i7), .val (.int (1 : Int32)), .val (.int (1 : Int32)), s10, s11] [.null, (.ref o2)])) rfl (by rw [hml]; rfl) (Steps.refl _) (argsL := [.null]) (rest := []) (lenOf pd_0_4 rfl) rfl (by show 2 * 0 + _ ≤ _; exact Nat.le_of_eq rfl) (hb hby at_132) (fun _ _ => ⟨rfl, e0, (by decide : 2 + 0 + 0 ≤ _), (by decide : 10 + 0 + 0 ≤ _)⟩)
  dsimp only [Pt.U, Pt.locs, Pt.cells, Pt.slots] at X3 l3 y3 z3 st3 hQ3
  subst l3 y3 z3
  obtain ⟨rfl, N3q, K3q, H3q⟩ := hQ3
  have N3 := Fr.app N0 N3q
  have KH3 : Keep h0 T3.heap [o2] := (Keep.refl h0 [o2]).trans K3q (fun x hx => Or.inl hx)
  -- pc 142: com/example/orderly_tx/orderlytx/UnitStatus.fail by the contract of the body that the receiver's class selects, rm6
  obtain ⟨cq4, kq4, q4a, q4b, q4c⟩ := isOf hZ rfl (E_o3.keep K3q)
  obtain ⟨_, _, ⟨T4, L4, k4, n4⟩, -, X4, ⟨Lc4, hQ4, l4, y4, z4⟩, st4⟩ := X3.virtualBack hx (y := (⟨"com/example/orderly_tx/orderlytx/UnitStatus", "fail", "(Ljava/lang/Throwable;)V"⟩ : MethodName)) (z := (⟨"com/example/orderly_tx/orderlytx/UnitStatus", "fail", "(Ljava/lang/Throwable;)V"⟩ : MethodName)) hown (mvT hZ (hw _ (List.mem_of_getElem? (i := 32) rfl))) (mvT hZ (hw _ (List.mem_of_getElem? (i := 33) rfl))) (notFace_of_selects (args := #[]) (mvT hZ (hw _ (List.mem_of_getElem? (i := 35) rfl)))) (mvT hZ (hw _ (List.mem_of_getElem? (i := 35) rfl))) (mvT hZ (hw _ (List.mem_of_getElem? (i := 34) rfl))) (by decide) (backOf (W := 0) (rm6p l Z a0 hw [] o3 o2 (1 : Int32) f T3.heap n0 (Nat.le_trans Z0 KH3.1) H3q g_o2 nep) hZ (hw _ (List.mem_of_getElem? (i := 36) rfl)) (hw _ (List.mem_of_getElem? (i := 2) rfl)) (by decide) (by decide)) q4a q4c (g := (mkF m 142 #[s0, .val (.int i1), .val (.ref o2), .val (.ref o3), s4, s5, .val (.int i6), .val (.int i7), .val (.int (1 : Int32)), .val (.int (1 : Int32)), s10, s11] [.null, (.ref o3)])) rfl (by rw [hml]; rfl) (Steps.refl _) (argsL := [.null]) (rest := []) (lenOf pd_0_4 rfl) rfl (by show 2 * 0 + _ ≤ _; exact Nat.le_of_eq rfl) (hb hby at_142) (fun _ _ => ⟨rfl, rfl, (by decide : 2 + 0 + 0 ≤ _), (by decide : 10 + 0 + 0 ≤ _)⟩)
  dsimp only [Pt.U, Pt.locs, Pt.cells, Pt.slots] at X4 l4 y4 z4 st4 hQ4
  subst l4 y4 z4
  obtain ⟨rfl, N4q, K4q, H4q⟩ := hQ4
  have N4 := Fr.app N3 N4q
  have KH4 : Keep h0 T4.heap [o2] := KH3.trans K4q (fun x hx => Or.inl hx)
  -- pc 168: com/example/orderly_tx/orderlytx/UnitStatus.isRollbackOnly by the contract of the body that the receiver's class selects, rm5
  obtain ⟨cq5, kq5, q5a, q5b, q5c⟩ := isOf hZ rfl ((E_o2.keep K3q).keep K4q)
  obtain ⟨_, _, ⟨T5, L5, k5, n5⟩, -, X5, ⟨Lc5, hQ5, l5, y5, z5⟩, st5⟩ := X4.virtualBack hx (y := (⟨"com/example/orderly_tx/orderlytx/UnitStatus", "isRollbackOnly", "()Z"⟩ : MethodName)) (z := (⟨"com/example/orderly_tx/orderlytx/UnitStatus", "isRollbackOnly", "()Z"⟩ : MethodName)) hown (mvT hZ (hw _ (List.mem_of_getElem? (i := 22) rfl))) (mvT hZ (hw _ (List.mem_of_getElem? (i := 23) rfl))) (notFace_of_selects (args := #[]) (mvT hZ (hw _ (List.mem_of_getElem? (i := 25) rfl)))) (mvT hZ (hw _ (List.mem_of_getElem? (i := 25) rfl))) (mvT hZ (hw _ (List.mem_of_getElem? (i := 24) rfl))) (by decide) (backOf (W := 0) (rm5 l Z a0 hw [] o2 (1 : Int32) (1 : Int32) T4.heap n0 (Nat.le_trans Z0 KH4.1) H4q.2.1 H4q.2.2.1 H4q.2.2.2.1) hZ (hw _ (List.mem_of_getElem? (i := 26) rfl)) (hw _ (List.mem_of_getElem? (i := 2) rfl)) (by decide) (by decide)) q5a q5c (g := (mkF m 168 #[s0, .val (.int i1), .val (.ref o2), .val (.ref o3), s4, s5, .val (.int i6), .val (.int i7), .val (.int (1 : Int32)), .val (.int (1 : Int32)), .val (.int (1 : Int32)), s11] [(.ref o2)])) rfl (by rw [hml]; rfl) (Steps.refl _) (argsL := []) (rest := []) (lenOf pd_0_3 rfl) rfl (by show 2 * 0 + _ ≤ _; exact Nat.le_of_eq rfl) (hb hby at_168) (fun _ _ => ⟨rfl, rfl, (by decide : 2 + 0 + 0 ≤ _), (by decide : 10 + 0 + 0 ≤ _)⟩)
  dsimp only [Pt.U, Pt.locs, Pt.cells, Pt.slots] at X5 l5 y5 z5 st5 hQ5
  subst l5 y5 z5
  obtain ⟨rfl, N5q, e5q⟩ := hQ5
  have N5 := Fr.app N4 N5q
  have K5q : Keep T4.heap T5.heap [] := own_keep e5q
  have KH5 : Keep h0 T5.heap [o2] := KH4.trans K5q own_ws0
  have Hn5 := own_St_eq e5q H4q
  -- pc 177: com/example/orderly_tx/orderlytx/UnitStatus.isRollbackOnly by the contract of the body that the receiver's class selects, rm5
  obtain ⟨cq6, kq6, q6a, q6b, q6c⟩ := isOf hZ rfl (((E_o3.keep K3q).keep K4q).keep K5q)
  obtain ⟨_, _, ⟨T6, L6, k6, n6⟩, -, X6, ⟨Lc6, hQ6, l6, y6, z6⟩, st6⟩ := X5.virtualBack hx (y := (⟨"com/example/orderly_tx/orderlytx/UnitStatus", "isRollbackOnly", "()Z"⟩ : MethodName)) (z := (⟨"com/example/orderly_tx/orderlytx/UnitStatus", "isRollbackOnly", "()Z"⟩ : MethodName)) hown (mvT hZ (hw _ (List.mem_of_getElem? (i := 22) rfl))) (mvT hZ (hw _ (List.mem_of_getElem? (i := 23) rfl))) (notFace_of_selects (args := #[]) (mvT hZ (hw _ (List.mem_of_getElem? (i := 25) rfl)))) (mvT hZ (hw _ (List.mem_of_getElem? (i := 25) rfl))) (mvT hZ (hw _ (List.mem_of_getElem? (i := 24) rfl))) (by decide) (backOf (W := 0) (rm5p l Z a0 hw [] o3 o2 (1 : Int32) (1 : Int32) T5.heap n0 (Nat.le_trans Z0 KH5.1) Hn5.2.2.2.2.2.2 Hn5.1 Hn5.2.1 Hn5.2.2.1 Hn5.2.2.2.1) hZ (hw _ (List.mem_of_getElem? (i := 26) rfl)) (hw _ (List.mem_of_getElem? (i := 2) rfl)) (by decide) (by decide)) q6a q6c (g := (mkF m 177 #[s0, .val (.int i1), .val (.ref o2), .val (.ref o3), s4, s5, .val (.int i6), .val (.int i7), .val (.int (1 : Int32)), .val (.int (1 : Int32)), .val (.int (1 : Int32)), s11] [(.ref o3)])) rfl (by rw [hml]; rfl) (Steps.refl _) (argsL := []) (rest := []) (lenOf pd_0_3 rfl) rfl (by show 2 * 0 + _ ≤ _; exact Nat.le_of_eq rfl) (hb hby at_177) (fun _ _ => ⟨rfl, rfl, (by decide : 2 + 0 + 0 ≤ _), (by decide : 10 + 0 + 0 ≤ _)⟩)
  dsimp only [Pt.U, Pt.locs, Pt.cells, Pt.slots] at X6 l6 y6 z6 st6 hQ6
  subst l6 y6 z6
  obtain ⟨rfl, N6q, e6q⟩ := hQ6
  have N6 := Fr.app N5 N6q
  have K6q : Keep T5.heap T6.heap [] := own_keep e6q
  have KH6 : Keep h0 T6.heap [o2] := KH5.trans K6q own_ws0
  have Hn6 := own_St_eq e6q Hn5
  refine ⟨T6, _, _, (1 : Int32), (1 : Int32), (1 : Int32), X6, rfl, N6, trivial, fun target kt => ?_⟩
  -- 4. STEPS
  show Steps p.tables e below (T0.setTop (mkF m 99 #[s0, .val (.int i1), .val (.ref o2), .val (.ref o3), s4, s5, .val (.int i6), .val (.int i7), s8, s9, s10, s11] [])) _
  refine XS.iloadN X0.here hx rfl (hb hby at_99) rfl ?_
  show Steps p.tables e below (T0.setTop (mkF m 100 #[s0, .val (.int i1), .val (.ref o2), .val (.ref o3), s4, s5, .val (.int i6), .val (.int i7), s8, s9, s10, s11] [(.int i1)])) _
  refine XS.iconst X0.here hx rfl (hb hby at_100) ?_
  show Steps p.tables e below (T0.setTop (mkF m 101 #[s0, .val (.int i1), .val (.ref o2), .val (.ref o3), s4, s5, .val (.int i6), .val (.int i7), s8, s9, s10, s11] [(.int (1 : Int32)), (.int i1)])) _
  refine XS.iand X0.here hx rfl (hb hby at_101) rfl ?_
  show Steps p.tables e below (T0.setTop (mkF m 102 #[s0, .val (.int i1), .val (.ref o2), .val (.ref o3), s4, s5, .val (.int i6), .val (.int i7), s8, s9, s10, s11] [(.int (i1 &&& (1 : Int32)))])) _
  refine XS.ifNo X0.here hx rfl (hb hby at_102) rfl ((if0 _ _).trans (feq hc102).1) ?_
  show Steps p.tables e below (T0.setTop (mkF m 105 #[s0, .val (.int i1), .val (.ref o2), .val (.ref o3), s4, s5, .val (.int i6), .val (.int i7), s8, s9, s10, s11] [])) _
  refine XS.iconst X0.here hx rfl (hb hby at_105) ?_
  show Steps p.tables e below (T0.setTop (mkF m 106 #[s0, .val (.int i1), .val (.ref o2), .val (.ref o3), s4, s5, .val (.int i6), .val (.int i7), s8, s9, s10, s11] [(.int (1 : Int32))])) _
  refine XS.goto X0.here hx rfl (pc0 := 106) (pc' := 110) rfl (hb hby at_106) (by decide) (by decide) ?_
  show Steps p.tables e below (T0.setTop (mkF m 110 #[s0, .val (.int i1), .val (.ref o2), .val (.ref o3), s4, s5, .val (.int i6), .val (.int i7), s8, s9, s10, s11] [(.int (1 : Int32))])) _
  refine XS.istore X0.here hx rfl (hb hby at_110) rfl (l' := #[s0, .val (.int i1), .val (.ref o2), .val (.ref o3), s4, s5, .val (.int i6), .val (.int i7), .val (.int (1 : Int32)), s9, s10, s11]) (os0_110 hs8) ?_
  show Steps p.tables e below (T0.setTop (mkF m 112 #[s0, .val (.int i1), .val (.ref o2), .val (.ref o3), s4, s5, .val (.int i6), .val (.int i7), .val (.int (1 : Int32)), s9, s10, s11] [])) _
  refine XS.iloadN X0.here hx rfl (hb hby at_112) rfl ?_
  show Steps p.tables e below (T0.setTop (mkF m 113 #[s0, .val (.int i1), .val (.ref o2), .val (.ref o3), s4, s5, .val (.int i6), .val (.int i7), .val (.int (1 : Int32)), s9, s10, s11] [(.int i1)])) _
  refine XS.iconst X0.here hx rfl (hb hby at_113) ?_
  show Steps p.tables e below (T0.setTop (mkF m 114 #[s0, .val (.int i1), .val (.ref o2), .val (.ref o3), s4, s5, .val (.int i6), .val (.int i7), .val (.int (1 : Int32)), s9, s10, s11] [(.int (2 : Int32)), (.int i1)])) _
  refine XS.iand X0.here hx rfl (hb hby at_114) rfl ?_
  show Steps p.tables e below (T0.setTop (mkF m 115 #[s0, .val (.int i1), .val (.ref o2), .val (.ref o3), s4, s5, .val (.int i6), .val (.int i7), .val (.int (1 : Int32)), s9, s10, s11] [(.int (i1 &&& (2 : Int32)))])) _
  refine XS.ifNo X0.here hx rfl (hb hby at_115) rfl ((if0 _ _).trans (feq hc115).1) ?_
  show Steps p.tables e below (T0.setTop (mkF m 118 #[s0, .val (.int i1), .val (.ref o2), .val (.ref o3), s4, s5, .val (.int i6), .val (.int i7), .val (.int (1 : Int32)), s9, s10, s11] [])) _
  refine XS.iconst X0.here hx rfl (hb hby at_118) ?_
  show Steps p.tables e below (T0.setTop (mkF m 119 #[s0, .val (.int i1), .val (.ref o2), .val (.ref o3), s4, s5, .val (.int i6), .val (.int i7), .val (.int (1 : Int32)), s9, s10, s11] [(.int (1 : Int32))])) _
  refine XS.goto X0.here hx rfl (pc0 := 119) (pc' := 123) rfl (hb hby at_119) (by decide) (by decide) ?_
  show Steps p.tables e below (T0.setTop (mkF m 123 #[s0, .val (.int i1), .val (.ref o2), .val (.ref o3), s4, s5, .val (.int i6), .val (.int i7), .val (.int (1 : Int32)), s9, s10, s11] [(.int (1 : Int32))])) _
  refine XS.istore X0.here hx rfl (hb hby at_123) rfl (l' := #[s0, .val (.int i1), .val (.ref o2), .val (.ref o3), s4, s5, .val (.int i6), .val (.int i7), .val (.int (1 : Int32)), .val (.int (1 : Int32)), s10, s11]) (os0_123 hs9) ?_
  show Steps p.tables e below (T0.setTop (mkF m 125 #[s0, .val (.int i1), .val (.ref o2), .val (.ref o3), s4, s5, .val (.int i6), .val (.int i7), .val (.int (1 : Int32)), .val (.int (1 : Int32)), s10, s11] [])) _
  refine XS.iload X0.here hx rfl (hb hby at_125) rfl ?_
  show Steps p.tables e below (T0.setTop (mkF m 127 #[s0, .val (.int i1), .val (.ref o2), .val (.ref o3), s4, s5, .val (.int i6), .val (.int i7), .val (.int (1 : Int32)), .val (.int (1 : Int32)), s10, s11] [(.int (1 : Int32))])) _
  refine XS.ifNo X0.here hx rfl (hb hby at_127) rfl ((if0 _ _).trans (feq hc127).1) ?_
  show Steps p.tables e below (T0.setTop (mkF m 130 #[s0, .val (.int i1), .val (.ref o2), .val (.ref o3), s4, s5, .val (.int i6), .val (.int i7), .val (.int (1 : Int32)), .val (.int (1 : Int32)), s10, s11] [])) _
  refine XS.aloadN X0.here hx rfl (hb hby at_130) rfl rfl ?_
  show Steps p.tables e below (T0.setTop (mkF m 131 #[s0, .val (.int i1), .val (.ref o2), .val (.ref o3), s4, s5, .val (.int i6), .val (.int i7), .val (.int (1 : Int32)), .val (.int (1 : Int32)), s10, s11] [(.ref o2)])) _
  refine XS.aconstNull X0.here hx rfl (hb hby at_131) ?_
  show Steps p.tables e below (T0.setTop (mkF m 132 #[s0, .val (.int i1), .val (.ref o2), .val (.ref o3), s4, s5, .val (.int i6), .val (.int i7), .val (.int (1 : Int32)), .val (.int (1 : Int32)), s10, s11] [.null, (.ref o2)])) _
  refine st3.trans ?_
  show Steps p.tables e below (T3.setTop (mkF m 135 #[s0, .val (.int i1), .val (.ref o2), .val (.ref o3), s4, s5, .val (.int i6), .val (.int i7), .val (.int (1 : Int32)), .val (.int (1 : Int32)), s10, s11] [])) _
  refine XS.iload X3.here hx rfl (hb hby at_135) rfl ?_
  show Steps p.tables e below (T3.setTop (mkF m 137 #[s0, .val (.int i1), .val (.ref o2), .val (.ref o3), s4, s5, .val (.int i6), .val (.int i7), .val (.int (1 : Int32)), .val (.int (1 : Int32)), s10, s11] [(.int (1 : Int32))])) _
  refine XS.ifNo X3.here hx rfl (hb hby at_137) rfl ((if0 _ _).trans (feq hc137).1) ?_
  show Steps p.tables e below (T3.setTop (mkF m 140 #[s0, .val (.int i1), .val (.ref o2), .val (.ref o3), s4, s5, .val (.int i6), .val (.int i7), .val (.int (1 : Int32)), .val (.int (1 : Int32)), s10, s11] [])) _
  refine XS.aloadN X3.here hx rfl (hb hby at_140) rfl rfl ?_
  show Steps p.tables e below (T3.setTop (mkF m 141 #[s0, .val (.int i1), .val (.ref o2), .val (.ref o3), s4, s5, .val (.int i6), .val (.int i7), .val (.int (1 : Int32)), .val (.int (1 : Int32)), s10, s11] [(.ref o3)])) _
  refine XS.aconstNull X3.here hx rfl (hb hby at_141) ?_
  show Steps p.tables e below (T3.setTop (mkF m 142 #[s0, .val (.int i1), .val (.ref o2), .val (.ref o3), s4, s5, .val (.int i6), .val (.int i7), .val (.int (1 : Int32)), .val (.int (1 : Int32)), s10, s11] [.null, (.ref o3)])) _
  refine st4.trans ?_
  show Steps p.tables e below (T4.setTop (mkF m 145 #[s0, .val (.int i1), .val (.ref o2), .val (.ref o3), s4, s5, .val (.int i6), .val (.int i7), .val (.int (1 : Int32)), .val (.int (1 : Int32)), s10, s11] [])) _
  refine XS.iload X4.here hx rfl (hb hby at_145) rfl ?_
  show Steps p.tables e below (T4.setTop (mkF m 147 #[s0, .val (.int i1), .val (.ref o2), .val (.ref o3), s4, s5, .val (.int i6), .val (.int i7), .val (.int (1 : Int32)), .val (.int (1 : Int32)), s10, s11] [(.int i6)])) _
  refine XS.ifYes X4.here hx rfl (pc0 := 147) (pc' := 160) rfl (hb hby at_147) rfl ((if0 _ _).trans (feq hc147).2) (by decide) (by decide) ?_
  show Steps p.tables e below (T4.setTop (mkF m 160 #[s0, .val (.int i1), .val (.ref o2), .val (.ref o3), s4, s5, .val (.int i6), .val (.int i7), .val (.int (1 : Int32)), .val (.int (1 : Int32)), s10, s11] [])) _
  refine XS.iconst X4.here hx rfl (hb hby at_160) ?_
  show Steps p.tables e below (T4.setTop (mkF m 161 #[s0, .val (.int i1), .val (.ref o2), .val (.ref o3), s4, s5, .val (.int i6), .val (.int i7), .val (.int (1 : Int32)), .val (.int (1 : Int32)), s10, s11] [(.int (1 : Int32))])) _
  refine XS.goto X4.here hx rfl (pc0 := 161) (pc' := 165) rfl (hb hby at_161) (by decide) (by decide) ?_
  show Steps p.tables e below (T4.setTop (mkF m 165 #[s0, .val (.int i1), .val (.ref o2), .val (.ref o3), s4, s5, .val (.int i6), .val (.int i7), .val (.int (1 : Int32)), .val (.int (1 : Int32)), s10, s11] [(.int (1 : Int32))])) _
  refine XS.istore X4.here hx rfl (hb hby at_165) rfl (l' := #[s0, .val (.int i1), .val (.ref o2), .val (.ref o3), s4, s5, .val (.int i6), .val (.int i7), .val (.int (1 : Int32)), .val (.int (1 : Int32)), .val (.int (1 : Int32)), s11]) (os0_165 hs10) ?_
  show Steps p.tables e below (T4.setTop (mkF m 167 #[s0, .val (.int i1), .val (.ref o2), .val (.ref o3), s4, s5, .val (.int i6), .val (.int i7), .val (.int (1 : Int32)), .val (.int (1 : Int32)), .val (.int (1 : Int32)), s11] [])) _
  refine XS.aloadN X4.here hx rfl (hb hby at_167) rfl rfl ?_
  show Steps p.tables e below (T4.setTop (mkF m 168 #[s0, .val (.int i1), .val (.ref o2), .val (.ref o3), s4, s5, .val (.int i6), .val (.int i7), .val (.int (1 : Int32)), .val (.int (1 : Int32)), .val (.int (1 : Int32)), s11] [(.ref o2)])) _
  refine st5.trans ?_
  show Steps p.tables e below (T5.setTop (mkF m 171 #[s0, .val (.int i1), .val (.ref o2), .val (.ref o3), s4, s5, .val (.int i6), .val (.int i7), .val (.int (1 : Int32)), .val (.int (1 : Int32)), .val (.int (1 : Int32)), s11] [(.int (own_f5 (1 : Int32) (1 : Int32)))])) _
  refine XS.iload X5.here hx rfl (hb hby at_171) rfl ?_
  show Steps p.tables e below (T5.setTop (mkF m 173 #[s0, .val (.int i1), .val (.ref o2), .val (.ref o3), s4, s5, .val (.int i6), .val (.int i7), .val (.int (1 : Int32)), .val (.int (1 : Int32)), .val (.int (1 : Int32)), s11] [(.int (1 : Int32)), (.int (own_f5 (1 : Int32) (1 : Int32)))])) _
  refine XS.icmpNo X5.here hx rfl (hb hby at_173) rfl (teq ht173).2 ?_
  show Steps p.tables e below (T5.setTop (mkF m 176 #[s0, .val (.int i1), .val (.ref o2), .val (.ref o3), s4, s5, .val (.int i6), .val (.int i7), .val (.int (1 : Int32)), .val (.int (1 : Int32)), .val (.int (1 : Int32)), s11] [])) _
  refine XS.aloadN X5.here hx rfl (hb hby at_176) rfl rfl ?_
  show Steps p.tables e below (T5.setTop (mkF m 177 #[s0, .val (.int i1), .val (.ref o2), .val (.ref o3), s4, s5, .val (.int i6), .val (.int i7), .val (.int (1 : Int32)), .val (.int (1 : Int32)), .val (.int (1 : Int32)), s11] [(.ref o3)])) _
  refine st6.trans ?_
  show Steps p.tables e below (T6.setTop (mkF m 180 #[s0, .val (.int i1), .val (.ref o2), .val (.ref o3), s4, s5, .val (.int i6), .val (.int i7), .val (.int (1 : Int32)), .val (.int (1 : Int32)), .val (.int (1 : Int32)), s11] [(.int (own_f5 (1 : Int32) (1 : Int32)))])) _
  refine XS.iload X6.here hx rfl (hb hby at_180) rfl ?_
  show Steps p.tables e below (T6.setTop (mkF m 182 #[s0, .val (.int i1), .val (.ref o2), .val (.ref o3), s4, s5, .val (.int i6), .val (.int i7), .val (.int (1 : Int32)), .val (.int (1 : Int32)), .val (.int (1 : Int32)), s11] [(.int (1 : Int32)), (.int (own_f5 (1 : Int32) (1 : Int32)))])) _
  refine XS.icmpNo X6.here hx rfl (hb hby at_182) rfl (teq ht182).2 ?_
  show Steps p.tables e below (T6.setTop (mkF m 185 #[s0, .val (.int i1), .val (.ref o2), .val (.ref o3), s4, s5, .val (.int i6), .val (.int i7), .val (.int (1 : Int32)), .val (.int (1 : Int32)), .val (.int (1 : Int32)), s11] [])) _
  refine XS.iconst X6.here hx rfl (hb hby at_185) ?_
  show Steps p.tables e below (T6.setTop (mkF m 186 #[s0, .val (.int i1), .val (.ref o2), .val (.ref o3), s4, s5, .val (.int i6), .val (.int i7), .val (.int (1 : Int32)), .val (.int (1 : Int32)), .val (.int (1 : Int32)), s11] [(.int (1 : Int32))])) _
  refine XS.goto X6.here hx rfl (pc0 := 186) (pc' := 190) rfl (hb hby at_186) (by decide) (by decide) ?_
  show Steps p.tables e below (T6.setTop (mkF m 190 #[s0, .val (.int i1), .val (.ref o2), .val (.ref o3), s4, s5, .val (.int i6), .val (.int i7), .val (.int (1 : Int32)), .val (.int (1 : Int32)), .val (.int (1 : Int32)), s11] [(.int (1 : Int32))])) _
  refine XS.istore X6.here hx rfl (hb hby at_190) rfl (l' := #[s0, .val (.int i1), .val (.ref o2), .val (.ref o3), s4, s5, .val (.int i6), .val (.int i7), .val (.int (1 : Int32)), .val (.int (1 : Int32)), .val (.int (1 : Int32)), .val (.int (1 : Int32))]) (os0_190 hs11) ?_
  show Steps p.tables e below (T6.setTop (mkF m 192 #[s0, .val (.int i1), .val (.ref o2), .val (.ref o3), s4, s5, .val (.int i6), .val (.int i7), .val (.int (1 : Int32)), .val (.int (1 : Int32)), .val (.int (1 : Int32)), .val (.int (1 : Int32))] [])) _
  refine XS.iload X6.here hx rfl (hb hby at_192) rfl ?_
  show Steps p.tables e below (T6.setTop (mkF m 194 #[s0, .val (.int i1), .val (.ref o2), .val (.ref o3), s4, s5, .val (.int i6), .val (.int i7), .val (.int (1 : Int32)), .val (.int (1 : Int32)), .val (.int (1 : Int32)), .val (.int (1 : Int32))] [(.int i7)])) _
  refine XS.ifNo X6.here hx rfl (hb hby at_194) rfl ((if0 _ _).trans (feq hc194).1) ?_
  show Steps p.tables e below (T6.setTop (mkF m 197 #[s0, .val (.int i1), .val (.ref o2), .val (.ref o3), s4, s5, .val (.int i6), .val (.int i7), .val (.int (1 : Int32)), .val (.int (1 : Int32)), .val (.int (1 : Int32)), .val (.int (1 : Int32))] [])) _
  refine XS.iload X6.here hx rfl (hb hby at_197) rfl ?_
  show Steps p.tables e below (T6.setTop (mkF m 199 #[s0, .val (.int i1), .val (.ref o2), .val (.ref o3), s4, s5, .val (.int i6), .val (.int i7), .val (.int (1 : Int32)), .val (.int (1 : Int32)), .val (.int (1 : Int32)), .val (.int (1 : Int32))] [(.int (1 : Int32))])) _
  refine XS.ifNo X6.here hx rfl (hb hby at_199) rfl ((if0 _ _).trans (feq hc199).1) ?_
  exact kt
set_option maxRecDepth 65536 in
set_option maxHeartbeats 40000000 in
theorem own_p2 {p : Program} {l : Launch} {e : Env} {s : State} {m : MethodId} {args : Array Value} {below : List Frame} {meth : Method} {c : Code} {T0 : State} {locs : List Loc} {Z : State} {a0 : Array Value} {h0 : Heap} {n0 : Nat} (s0 : Slot) (i1 : Int32) (o2 : Addr) (o3 : Addr) (s4 : Slot) (s5 : Slot) (i6 : Int32) (i7 : Int32) (s8 : Slot) (s9 : Slot) (s10 : Slot) (s11 : Slot) (r : Int32) (f : Int32)
    (X0 : Stand p l e room_1 s m args below meth c T0 locs 2 10) (hx : p.tables.exec = Jvm.exec) (hZ : Z.Warmed39 s.vm) (hw : ∀ d ∈ tables_1, d.before a0 Z = true) (hby : c.code = code) (hml : c.maxLocals = 12) (hown : s.vm.findClass "com/example/orderly_tx/orderlytx/UnitStatusIsRollbackOnlyPinLaw" = some m.cls) (e0 : T0.heap = h0) (N0 : Fr n0 locs) (Z0 : n0 ≤ h0.size) (Hst : own_St Z h0 o2 o3 r f) (g_o2 : n0 ≤ o2) (nep : o3 ≠ o2) (hs8 : One s8) (hs9 : One s9) (hs10 : One s10) (hs11 : One s11) (h6 : i6 = own_f5 r f) (h7 : ¬ (i7 = (0 : Int32))) :
    ∃ (T' : State) (h' : Heap) (locs' : List Loc) (x8 x9 x10 : Int32), Stand p l e room_1 s m args below meth c T' locs' 2 10 ∧ T'.heap = h' ∧ Fr n0 locs' ∧ True ∧ ∀ target, Steps p.tables e below (T'.setTop (mkF m 202 #[s0, .val (.int i1), .val (.ref o2), .val (.ref o3), s4, s5, .val (.int i6), .val (.int i7), .val (.int x8), .val (.int x9), .val (.int x10), .val (.int (1 : Int32))] [])) target → Steps p.tables e below (T0.setTop (mkF m 99 #[s0, .val (.int i1), .val (.ref o2), .val (.ref o3), s4, s5, .val (.int i6), .val (.int i7), s8, s9, s10, s11] [])) target := by
  by_cases h3 : i6 = (0 : Int32)
  · by_cases h1 : (i1 &&& (1 : Int32)) = (0 : Int32)
    · by_cases h2 : (i1 &&& (2 : Int32)) = (0 : Int32)
      · exact own_p2_000 s0 i1 o2 o3 s4 s5 i6 i7 s8 s9 s10 s11 r f X0 hx hZ hw hby hml hown e0 N0 Z0 Hst g_o2 nep hs8 hs9 hs10 hs11 h1 h2 h3 (h6.symm.trans h3) (h6.symm.trans h3) h7 (by decide)
      · exact own_p2_010 s0 i1 o2 o3 s4 s5 i6 i7 s8 s9 s10 s11 r f X0 hx hZ hw hby hml hown e0 N0 Z0 Hst g_o2 nep hs8 hs9 hs10 hs11 h1 h2 (by decide) h3 (by decide) (own_v2 _) (own_v2 _) h7 (by decide)
    · by_cases h2 : (i1 &&& (2 : Int32)) = (0 : Int32)
      · exact own_p2_100 s0 i1 o2 o3 s4 s5 i6 i7 s8 s9 s10 s11 r f X0 hx hZ hw hby hml hown e0 N0 Z0 Hst g_o2 nep hs8 hs9 hs10 hs11 h1 h2 (by decide) h3 (by decide) (own_v1 _) (own_v1 _) h7 (by decide)
      · exact own_p2_110 s0 i1 o2 o3 s4 s5 i6 i7 s8 s9 s10 s11 r f X0 hx hZ hw hby hml hown e0 N0 Z0 Hst g_o2 nep hs8 hs9 hs10 hs11 h1 h2 (by decide) (by decide) h3 (by decide) (by decide) (by decide) h7 (by decide)
  · by_cases h1 : (i1 &&& (1 : Int32)) = (0 : Int32)
    · by_cases h2 : (i1 &&& (2 : Int32)) = (0 : Int32)
      · exact own_p2_001 s0 i1 o2 o3 s4 s5 i6 i7 s8 s9 s10 s11 r f X0 hx hZ hw hby hml hown e0 N0 Z0 Hst g_o2 nep hs8 hs9 hs10 hs11 h1 h2 h3 (own_v3 fun q => h3 (h6.trans q)) (own_v3 fun q => h3 (h6.trans q)) h7 (by decide)
      · exact own_p2_011 s0 i1 o2 o3 s4 s5 i6 i7 s8 s9 s10 s11 r f X0 hx hZ hw hby hml hown e0 N0 Z0 Hst g_o2 nep hs8 hs9 hs10 hs11 h1 h2 (by decide) h3 (own_v2 _) (own_v2 _) h7 (by decide)
    · by_cases h2 : (i1 &&& (2 : Int32)) = (0 : Int32)
      · exact own_p2_101 s0 i1 o2 o3 s4 s5 i6 i7 s8 s9 s10 s11 r f X0 hx hZ hw hby hml hown e0 N0 Z0 Hst g_o2 nep hs8 hs9 hs10 hs11 h1 h2 (by decide) h3 (own_v1 _) (own_v1 _) h7 (by decide)
      · exact own_p2_111 s0 i1 o2 o3 s4 s5 i6 i7 s8 s9 s10 s11 r f X0 hx hZ hw hby hml hown e0 N0 Z0 Hst g_o2 nep hs8 hs9 hs10 hs11 h1 h2 (by decide) (by decide) h3 (by decide) (by decide) h7 (by decide)
theorem pn_0 : plainName "com/example/orderly_tx/orderlytx/UnitStatusIsRollbackOnlyPinLaw" = true := by first | (simp [plainName, overriddenIn]; done) | decide +kernel
theorem ef_0 (m : MethodId) (x0 : Int32) (x1 : Int32) : entryFrame m #[(.int x0), (.int x1)] maxLocals = mkF m 0 #[.val (.int x0), .val (.int x1), .unset, .unset, .unset, .unset, .unset, .unset, .unset, .unset, .unset, .unset] [] := by first | (simp [entryFrame, mkF, argsToLocals, Value.category, maxLocals]; done) | rfl
def Q0 (Z : State) (p1 : Int32) (p2 : Int32) (h0 : Heap) (n0 : Nat) (v : Option Value) (h : Heap) (L : List Loc) : Prop := v = some (.int (1 : Int32)) ∧ Fr n0 L
set_option maxRecDepth 65536 in
set_option maxHeartbeats 40000000 in
theorem rm0 (l : Launch) (Z : State) (a0 : Array Value) (hw : ∀ d ∈ tables_1, d.before a0 Z = true) (ws : List Jvm.Cond) (p1 : Int32) (p2 : Int32) (h0 : Heap) (n0 : Nat) (Z0 : n0 ≤ h0.size)  :
    MetFree l x (head1 (Jvm.Cond.code x code maxLocals ret :: ws) room_1) (fun a U => a = #[(.int p1), (.int p2)] ∧ Z.Warmed39 U.vm ∧ U.heap = h0) (fun _ _ _ _ _ => True) (fun _ U o U' => ∃ v L, o = .returned v ∧ Q0 Z p1 p2 h0 n0 v U'.heap L ∧ FrameEnd U o U' L room_1.cells room_1.slots) := by
  refine MetFree.of_bodySF (plainFor_of_name pn_0) hisR ?_
  intro p e s m args below meth c s₁ Bd hml0 hP hK
  obtain ⟨rfl, hZ, hh⟩ := hP
  have hx := Bd.exec
  have hby := Bd.bytes
  have hml : c.maxLocals = 12 := hml0
  have hown : s.vm.findClass "com/example/orderly_tx/orderlytx/UnitStatusIsRollbackOnlyPinLaw" = some m.cls := findClass_of_methodNamed Bd.named
  have hnm := (name_of_methodNamed Bd.named Bd.method).1
  have X0 : Stand p l e room_1 s m #[(.int p1), (.int p2)] below meth c s₁ [] 0 0 := Stand.of_body Bd
  have e0 : s₁.heap = h0 := by rw [← hh, Bd.state]; rfl
  have N0 := Fr.nil n0
  have pre0 : ∀ t, Steps p.tables e below (s₁.setTop (mkF m 0 #[.val (.int p1), .val (.int p2), .unset, .unset, .unset, .unset, .unset, .unset, .unset, .unset, .unset, .unset] [])) t → Steps p.tables e below (s₁.setTop (entryFrame m #[(.int p1), (.int p2)] maxLocals)) t := fun t k => castTop (ef_0 m p1 p2) k
  obtain ⟨T1, h1, locs1, o2, o3, X1, e1, N1, Z1, g1, ne1, H1, st1⟩ := own_p0 (.val (.int p1)) (.val (.int p2)) .unset .unset .unset .unset .unset .unset .unset .unset .unset .unset X0 hx hZ hw hby hml hown e0 N0 Z0 One.u One.u
  obtain ⟨T2, h2, locs2, r, f, x4, x5, x6, X2, e2, N2, Z2, v2, H2, st2⟩ := own_p1 p1 (.val (.int p2)) o2 o3 .unset .unset .unset .unset .unset .unset .unset .unset X1 hx hZ hw hby hml hown e1 N1 Z1 H1 g1 ne1 One.u One.u One.u One.u
  obtain ⟨T3, h3, locs3, x8, x9, x10, X3, e3, N3, -, st3⟩ := own_p2 (.val (.int p1)) p2 o2 o3 (.val (.int x4)) (.val (.int x5)) x6 (1 : Int32) .unset .unset .unset .unset r f X2 hx hZ hw hby hml hown e2 N2 Z2 H2 g1 ne1 One.u One.u One.u One.u v2 (by decide)
  obtain ⟨fs, hr, hrun, hended, hW, hsame⟩ := X3.leave (v := some (.int (1 : Int32))) (fun h => by rw [Bd.returns] at h; cases h) (BodyLoose.notSynchronized Bd)
  refine ⟨_, _, pre0 _ ?_, hrun, hended, _, _, rfl, ⟨rfl, N3⟩, ⟨_, rfl⟩, hW, hsame.mono (by decide) (by decide)⟩
  refine st1 _ ?_
  refine st2 _ ?_
  refine st3 _ ?_
  refine XS.iconst X3.here hx rfl (hb hby at_202) ?_
  show Steps p.tables e below (T3.setTop (mkF m 203 _ [(.int (1 : Int32))])) _
  refine XS.goto X3.here hx rfl (pc0 := 203) (pc' := 207) rfl (hb hby at_203) (by decide) (by decide) ?_
  show Steps p.tables e below (T3.setTop (mkF m 207 _ [(.int (1 : Int32))])) _
  exact retN X3 hx (t := .boolean) Bd.returns (by simp) (hb hby at_207) hr
set_option maxRecDepth 65536 in
set_option maxHeartbeats 40000000 in
theorem comes_1 {Post : Tables → Env → Array Value → State → Outcome → State → Prop} (hpost : ∀ tb e args s v u, (limb_1_1.after args s (.returned v) u = true ∧ limb_1_2.after args s (.returned v) u = true ∧ True) → FrameEnd s (.returned v) u (Jvm.fieldLocs frame_1_writes args s ++ Jvm.arrayLocs frame_1_arrays args s ++ Jvm.staticLocs frame_1_statics s) 16 128 → Post tb e args s (.returned v) u) :
    ArmFor flags0 classFile x code maxLocals ret World_1 tables_1 room_1 Calls_1 rest_1 Pre_1 Post := by
  intro l hfl _ _ p e ha hc hk s m args below hf hA hF happ hP
  obtain ⟨hcalls, hrest, hpre⟩ := hP
  obtain ⟨-, -, -, hnamed, -, -, -, hat⟩ := (Spec.applies_iff hf).mp happ
  obtain ⟨hg, hn⟩ := and_e (Cond.before_iff.mp (show (Jvm.Cond.and given_1 narrow_1).before args s = true from hpre))
  obtain ⟨g10, g11⟩ := and_e hg
  obtain ⟨g12, g13⟩ := and_e g11
  obtain ⟨w0, w1, rfl⟩ : ∃ w0 w1 : Value, args = #[w0, w1] := by
    have hs : args.size = 2 := by simpa [Cond.value, given_1] using g10
    obtain ⟨L⟩ := args
    match L, hs with
    | [w0, w1], _ => exact ⟨w0, w1, rfl⟩
  have hw := fun d (hd : d ∈ tables_1) => atoms_spec (ws := Jvm.Cond.code x code maxLocals ret :: tables_1) hat d (List.mem_cons_of_mem _ hd)
  have hfit : Fit s := fun {y c} hc i hi => by
    obtain ⟨ha, rfl⟩ := Array.getElem?_eq_some_iff.mp hc
    have q := List.all_eq_true.mp ((Array.all_eq_true_iff_forall_mem.mp hF) _ (Array.getElem_mem ha)) i (List.mem_range.mpr hi)
    simpa [Array.getElem?_eq_getElem hi] using q
  obtain ⟨i0, ei0⟩ := is_v g12
  obtain rfl : w0 = (.int i0) := Option.some.inj ei0
  obtain ⟨i1, ei1⟩ := is_v g13
  obtain rfl : w1 = (.int i1) := Option.some.inj ei1
  obtain ⟨n, o, h1, h2, h3, _, L, rfl, ⟨rfl, N⟩, hq⟩ := rm0 l s _ hw tables_1 i0 i1 s.heap s.heap.size (Nat.le_refl _)  p e ha hc hk s m _ below hf ((Spec.applies_iff_loose hf).mp happ).1 ⟨rfl, State.Warmed39.refl s, rfl⟩ trivial
  refine ⟨n, _, h1, h2, h3, hpost _ _ _ _ _ _ ⟨Cond.after_iff.mpr rfl, Cond.after_iff.mpr (eq_i res_at (Term.int_eval (1)) rfl), trivial⟩ ⟨hq.1, hq.2.1, (hq.2.2.sift fun y hy => Or.inr (N y hy)).mono (by decide) (by decide)⟩⟩
theorem main_1_1 : Claimed_1_1 := comes_1 fun _ _ _ _ _ _ h hF => ⟨h.1, hF⟩
theorem main_1_2 : Claimed_1_2 := comes_1 fun _ _ _ _ _ _ h hF => ⟨h.2.1, hF⟩
end Jvm.Pilot.@@N@@
namespace Jvm.Pilot.@@N@@
open Jvm Jvm.ClassFile Sem Op Lib Jvm.Free Jvm.Stand Jvm.Pilot.@@N@@.Jvm.D
/-! MADE BY PROGRAM (witnessworld.py) out of the Statement's table words and the real class files: 9 classes; the members and pool entries that the words name. The judged class is class 1, her method 1. -/
namespace start1
open Jvm.ClassFile
def u (s : String) : CpInfo := .utf8 (stringToUtf16 s)
/-- a pool by its gaps: so many unusable entries, then the entry; so many at the end -/
def gap : Nat → List CpInfo → List CpInfo
  | 0, r => r
  | n + 1, r => .unusable :: gap n r
def poolList (es : List (Nat × CpInfo)) (last : Nat) : List CpInfo := es.foldr (fun e r => gap e.1 (e.2 :: r)) (gap last [])
def pool (es : List (Nat × CpInfo)) (last : Nat) : Array CpInfo := ⟨poolList es last⟩
def fileOf (pool : Array CpInfo) (this : Nat) (attrs : Array Attribute := #[]) (ms : Array MethodInfo := #[]) (fl : Nat := 33) (sup : Nat := 0) (ifs : Array Nat := #[]) (fds : Array FieldInfo := #[]) : ClassFile where
  minorVersion := 0
  majorVersion := 65
  constantPool := pool
  accessFlags := fl
  thisClass := this
  superClass := sup
  interfaces := ifs
  fields := fds
  methods := ms
  attributes := attrs
def plain (name : String) (sup : Option ClassId) : Class where
  name := name
  kind := .ordinary
  loader := none
  accessFlags := 33
  super := sup
  interfaces := #[]
  cf := none
  fields := #[]
  methods := #[]
  instanceTypes := #[]
  staticTypes := #[]
  resolved := #[]
  callSites := []
  init := .initialized
  statics := none
  mirror := none

def pool0 : Array CpInfo := pool [(5, u "<init>"), (0, u "()V"), (1, .class_ 10), (1, u "java/lang/Object")] 113

def k0c0 : Code := { maxStack := 0, maxLocals := 1, code := object_method_1_code, exceptionTable := #[], attributes := #[] }
def k0m0 : Method := { name := "<init>", desc := "()V", sig := { parameters := [], returnType := none }, accessFlags := 1, code := some k0c0 }
/-- java/lang/Object -/
def k0 : Class := { plain "java/lang/Object" none with
  accessFlags := 33
  interfaces := #[]
  cf := some (fileOf pool0 8 #[] #[{ accessFlags := 1, nameIndex := 5, descriptorIndex := 6, attributes := #[] }] 33 0 #[] #[])
  fields := #[]
  methods := #[k0m0]
  instanceTypes := #[]
  staticTypes := #[]
  resolved := Array.replicate 124 none
  statics := none }

def pool1 : Array CpInfo := pool [(2, .class_ 4), (0, .nameAndType 5 6), (0, u "java/lang/Object"), (0, u "<init>"), (0, u "()V"), (0, .class_ 8), (0, u "com/example/orderly_tx/orderlytx/UnitStatus"), (0, .methodref 7 3), (0, .methodref 7 11), (0, .nameAndType 12 13), (0, u "forParticipant"), (0, u "()Lcom/example/orderly_tx/orderlytx/UnitStatus;"), (0, .methodref 7 15), (0, .nameAndType 16 6), (0, u "setRollbackOnly"), (0, .methodref 7 18), (0, .nameAndType 19 20), (0, u "isRollbackOnly"), (0, u "()Z"), (0, .methodref 7 22), (0, .nameAndType 23 24), (0, u "fail"), (0, u "(Ljava/lang/Throwable;)V"), (0, .class_ 26), (0, u "com/example/orderly_tx/orderlytx/UnitStatusIsRollbackOnlyPinLaw"), (2, u "law"), (0, u "(II)Z")] 3

def k1m0 : Method := { name := "<init>", desc := "()V", sig := { parameters := [], returnType := none }, accessFlags := 2, code := none }
def k1c1 : Code := { maxStack := 2, maxLocals := 12, code := code, exceptionTable := #[], attributes := #[] }
def k1m1 : Method := { name := "law", desc := "(II)Z", sig := { parameters := [.int, .int], returnType := some .boolean }, accessFlags := 9, code := some k1c1 }
/-- com/example/orderly_tx/orderlytx/UnitStatusIsRollbackOnlyPinLaw -/
def k1 : Class := { plain "com/example/orderly_tx/orderlytx/UnitStatusIsRollbackOnlyPinLaw" (some 0) with
  accessFlags := 49
  interfaces := #[]
  cf := some (fileOf pool1 25 #[] #[{ accessFlags := 2, nameIndex := 5, descriptorIndex := 6, attributes := #[] }, { accessFlags := 9, nameIndex := 29, descriptorIndex := 30, attributes := #[] }] 49 2 #[] #[])
  fields := #[]
  methods := #[k1m0, k1m1]
  instanceTypes := #[]
  staticTypes := #[]
  resolved := Array.replicate 34 none
  statics := none }

def pool2 : Array CpInfo := pool [(1, .methodref 2 3), (0, .class_ 4), (0, .nameAndType 5 6), (0, u "com/example/orderly_tx/orderlytx/UnitStatus"), (0, u "<init>"), (0, u "(Lcom/example/orderly_tx/orderlytx/UnitStatus;Lcom/example/orderly_tx/orderlytx/Completion;)V"), (0, .methodref 8 9), (0, .class_ 10), (0, .nameAndType 5 11), (0, u "java/lang/Object"), (0, u "()V"), (0, .fieldref 2 13), (0, .nameAndType 14 15), (0, u "joined"), (0, u "Lcom/example/orderly_tx/orderlytx/UnitStatus;"), (0, .fieldref 2 17), (0, .nameAndType 18 19), (0, u "completion"), (0, u "Lcom/example/orderly_tx/orderlytx/Completion;"), (0, .methodref 2 21), (0, .nameAndType 22 23), (0, u "fail"), (0, u "(Ljava/lang/Throwable;)V"), (0, .fieldref 2 25), (0, .nameAndType 26 27), (0, u "rollbackOnly"), (0, u "Z"), (0, .methodref 2 29), (0, .nameAndType 30 23), (0, u "failByParticipant"), (0, .fieldref 2 32), (0, .nameAndType 33 27), (0, u "failedByParticipant"), (0, .methodref 2 35), (0, .nameAndType 36 37), (0, u "isRollbackOnly"), (0, u "()Z"), (28, .fieldref 2 67), (0, .nameAndType 68 69), (0, u "participantFailure"), (0, u "Ljava/lang/Throwable;"), (3, u "setRollbackOnly"), (1, u "forParticipant"), (0, u "()Lcom/example/orderly_tx/orderlytx/UnitStatus;")] 5

def k2c0 : Code := { maxStack := 3, maxLocals := 1, code := prog_46_method_1_code, exceptionTable := #[], attributes := #[] }
def k2m0 : Method := { name := "<init>", desc := "()V", sig := { parameters := [], returnType := none }, accessFlags := 0, code := some k2c0 }
def k2c1 : Code := { maxStack := 2, maxLocals := 3, code := prog_46_method_3_code, exceptionTable := #[], attributes := #[] }
def k2m1 : Method := { name := "<init>", desc := "(Lcom/example/orderly_tx/orderlytx/UnitStatus;Lcom/example/orderly_tx/orderlytx/Completion;)V", sig := { parameters := [(.object "com/example/orderly_tx/orderlytx/UnitStatus"), (.object "com/example/orderly_tx/orderlytx/Completion")], returnType := none }, accessFlags := 2, code := some k2c1 }
def k2c2 : Code := { maxStack := 2, maxLocals := 1, code := prog_46_method_4_code, exceptionTable := #[], attributes := #[] }
def k2m2 : Method := { name := "setRollbackOnly", desc := "()V", sig := { parameters := [], returnType := none }, accessFlags := 1, code := some k2c2 }
def k2c3 : Code := { maxStack := 2, maxLocals := 2, code := prog_46_method_5_code, exceptionTable := #[], attributes := #[] }
def k2m3 : Method := { name := "fail", desc := "(Ljava/lang/Throwable;)V", sig := { parameters := [(.object "java/lang/Throwable")], returnType := none }, accessFlags := 0, code := some k2c3 }
def k2c4 : Code := { maxStack := 1, maxLocals := 2, code := prog_46_method_6_code, exceptionTable := #[], attributes := #[] }
def k2m4 : Method := { name := "isRollbackOnly", desc := "()Z", sig := { parameters := [], returnType := some .boolean }, accessFlags := 1, code := some k2c4 }
def k2c5 : Code := { maxStack := 4, maxLocals := 1, code := prog_46_method_10_code, exceptionTable := #[], attributes := #[] }
def k2m5 : Method := { name := "forParticipant", desc := "()Lcom/example/orderly_tx/orderlytx/UnitStatus;", sig := { parameters := [], returnType := some (.object "com/example/orderly_tx/orderlytx/UnitStatus") }, accessFlags := 0, code := some k2c5 }
def k2c6 : Code := { maxStack := 2, maxLocals := 2, code := prog_46_method_11_code, exceptionTable := #[], attributes := #[] }
def k2m6 : Method := { name := "failByParticipant", desc := "(Ljava/lang/Throwable;)V", sig := { parameters := [(.object "java/lang/Throwable")], returnType := none }, accessFlags := 0, code := some k2c6 }
/-- com/example/orderly_tx/orderlytx/UnitStatus -/
def k2 : Class := { plain "com/example/orderly_tx/orderlytx/UnitStatus" (some 0) with
  accessFlags := 33
  interfaces := #[]
  cf := some (fileOf pool2 2 #[] #[{ accessFlags := 0, nameIndex := 5, descriptorIndex := 11, attributes := #[] }, { accessFlags := 2, nameIndex := 5, descriptorIndex := 6, attributes := #[] }, { accessFlags := 1, nameIndex := 73, descriptorIndex := 11, attributes := #[] }, { accessFlags := 0, nameIndex := 22, descriptorIndex := 23, attributes := #[] }, { accessFlags := 1, nameIndex := 36, descriptorIndex := 37, attributes := #[] }, { accessFlags := 0, nameIndex := 75, descriptorIndex := 76, attributes := #[] }, { accessFlags := 0, nameIndex := 30, descriptorIndex := 23, attributes := #[] }] 33 8 #[] #[{ accessFlags := 18, nameIndex := 14, descriptorIndex := 15, attributes := #[] }, { accessFlags := 18, nameIndex := 18, descriptorIndex := 19, attributes := #[] }, { accessFlags := 2, nameIndex := 26, descriptorIndex := 27, attributes := #[] }, { accessFlags := 2, nameIndex := 33, descriptorIndex := 27, attributes := #[] }, { accessFlags := 2, nameIndex := 68, descriptorIndex := 69, attributes := #[] }])
  fields := #[{ name := "joined", type := (.object "com/example/orderly_tx/orderlytx/UnitStatus"), accessFlags := 18, slot := 0, constantValue := 0 }, { name := "completion", type := (.object "com/example/orderly_tx/orderlytx/Completion"), accessFlags := 18, slot := 1, constantValue := 0 }, { name := "rollbackOnly", type := .boolean, accessFlags := 2, slot := 2, constantValue := 0 }, { name := "failedByParticipant", type := .boolean, accessFlags := 2, slot := 3, constantValue := 0 }, { name := "participantFailure", type := (.object "java/lang/Throwable"), accessFlags := 2, slot := 4, constantValue := 0 }]
  methods := #[k2m0, k2m1, k2m2, k2m3, k2m4, k2m5, k2m6]
  instanceTypes := #[(.object "com/example/orderly_tx/orderlytx/UnitStatus"), (.object "com/example/orderly_tx/orderlytx/Completion"), .boolean, .boolean, (.object "java/lang/Throwable")]
  staticTypes := #[]
  resolved := Array.replicate 82 none
  statics := none }

def pool3 : Array CpInfo := pool [(1, u "java/lang/Cloneable"), (0, .class_ 1), (0, u "java/lang/Object"), (0, .class_ 3)] 3

/-- java/lang/Cloneable -/
def k3 : Class := { plain "java/lang/Cloneable" (some 0) with
  accessFlags := 1537
  interfaces := #[]
  cf := some (fileOf pool3 2 #[] #[] 1537 4 #[] #[])
  fields := #[]
  methods := #[]
  instanceTypes := #[]
  staticTypes := #[]
  resolved := Array.replicate 8 none
  statics := none }

def pool4 : Array CpInfo := pool [(1, u "java/io/Serializable"), (0, .class_ 1), (0, u "java/lang/Object"), (0, .class_ 3)] 3

/-- java/io/Serializable -/
def k4 : Class := { plain "java/io/Serializable" (some 0) with
  accessFlags := 1537
  interfaces := #[]
  cf := some (fileOf pool4 2 #[] #[] 1537 4 #[] #[])
  fields := #[]
  methods := #[]
  instanceTypes := #[]
  staticTypes := #[]
  resolved := Array.replicate 8 none
  statics := none }

/-- the primitive byte -/
def k5 : Class := { plain "byte" none with kind := .primitive 'B', accessFlags := 0x411 }
/-- [B -/
def k6 : Class := { plain "[B" (some 0) with kind := .array 5 .byte, interfaces := #[3, 4], accessFlags := 1041 }

/-- the primitive int -/
def k7 : Class := { plain "int" none with kind := .primitive 'I', accessFlags := 0x411 }
/-- [I -/
def k8 : Class := { plain "[I" (some 0) with kind := .array 7 .int, interfaces := #[3, 4], accessFlags := 1041 }

def heap : Heap := #[]
def classes : Array Class := #[k0, k1, k2, k3, k4, k5, k6, k7, k8]
def interned : List (Array UInt16 × Addr) := []
def slotsUsed : Nat := 0
def theMethod : MethodId := ⟨1, 1⟩
def args0 : Array Value := #[.int 5, .int 1]
def aboutOver (below : List Frame) : State where
  vm := { classes := classes, interned := interned.toArray }
  heap := heap
  slotsUsed := slotsUsed
  threads := #[{ frames := .invoking theMethod args0 :: below }]
def below0 : List Frame := [.native { method := ⟨0, 0⟩, args := #[] }]
def about1 : State := aboutOver below0
def p0 : Program := .bare "" "" ""
def e0 : Env := launch0.env 0 0 0
theorem w_frames : about1.frames = Frame.invoking theMethod args0 :: below0 := rfl
set_option maxRecDepth 65536 in
theorem w_args : argsFit about1.vm theMethod args0 = true := by decide +kernel
set_option maxRecDepth 65536 in
theorem w_heap : heapFits about1 = true := by decide +kernel
set_option maxRecDepth 65536 in
theorem w_runnable : about1.curStatus? = some .runnable := by decide +kernel
set_option maxRecDepth 65536 in
theorem w_alone : about1.alone = true := by decide +kernel
set_option maxRecDepth 65536 in
theorem w_named : about1.methodNamed? x = some theMethod := by decide +kernel
set_option maxRecDepth 65536 in
theorem w_hears : about1.hears theMethod below0 = true := by decide +kernel
set_option maxRecDepth 65536 in
theorem w_ripe : about1.ripe theMethod args0 below0 = true := by decide +kernel
theorem w_running : about1.status = .running := rfl
set_option maxRecDepth 65536 in
theorem w_room : about1.hasRoom e0.platform room_1 = true :=
  launch0.hasRoom_least _ room_1 (by decide +kernel) (by decide +kernel) (by decide +kernel) (by decide +kernel) (by decide +kernel) (by decide +kernel)
theorem allAtoms_all (ts : List Jvm.Cond) (a : Array Jvm.Value) (st : Jvm.State) : (allAtoms ts).before a st = ts.all (fun c => c.before a st) := by
  induction ts with
  | nil => rfl
  | cons c t ih =>
    show (Jvm.Cond.and c (allAtoms t)).before a st = _
    rw [Jvm.Cond.before_and, ih, List.all_cons]
def words1 : List Jvm.Cond := Jvm.Cond.code x code maxLocals ret :: tables_1
/-- a 'code' word, met by the world's own term for the bytes: nothing is compared byte by byte -/
theorem code_word {y : MethodName} {bytes : ByteArray} {mx : Nat} {rt : Option FieldType} {a : Array Value} {s : State} {m : MethodId} {meth : Method} {c : Code} (h1 : s.methodNamed? y = some m) (h2 : s.vm.method? m = some meth) (h3 : meth.code = some c) (h4 : c.code = bytes)
    (h5 : (c.maxLocals == mx && c.exceptionTable.isEmpty && decide (c.maxStack ≤ mostOperands) && decide (meth.sig.returnType = rt) && !meth.locks && decide (parseMethodDescriptor y.desc = some meth.sig)) = true) : (Jvm.Cond.code y bytes mx rt).before a s = true := by
  simp only [Bool.and_eq_true, beq_iff_eq, Bool.not_eq_true', decide_eq_true_eq] at h5
  obtain ⟨⟨⟨⟨⟨g1, g2⟩, g3⟩, g4⟩, g5⟩, g6⟩ := h5
  simp [Cond.before, Cond.holds, Cond.value, h1, h2, h3, h4, g1, g2, g3, g4, g5, g6]
def isCode : Jvm.Cond → Bool
  | .code _ _ _ _ => true
  | _ => false
theorem all_split {L : List Jvm.Cond} {P : Jvm.Cond → Bool} (h1 : L.all (fun c => isCode c || P c) = true) (h2 : ∀ c ∈ L.filter isCode, P c = true) : L.all P = true := by
  refine List.all_eq_true.mpr fun c hc => ?_
  have h := List.all_eq_true.mp h1 c hc
  rcases Bool.eq_false_or_eq_true (isCode c) with hi | hi
  · exact h2 c (List.mem_filter.mpr ⟨hc, hi⟩)
  · simpa [hi] using h
set_option maxRecDepth 65536 in
theorem w_c0 : (Jvm.Cond.code x code maxLocals ret).before args0 about1 = true := code_word (m := ⟨1, 1⟩) (meth := k1m1) (c := k1c1) (by decide +kernel) rfl rfl rfl (by decide +kernel)
set_option maxRecDepth 65536 in
theorem w_c1 : (Jvm.Cond.code ({ cls := "com/example/orderly_tx/orderlytx/UnitStatus", name := "<init>", desc := "()V" } : Jvm.MethodName) prog_46_method_1_code (1 : Nat) (Option.none : Option Jvm.ClassFile.FieldType)).before args0 about1 = true := code_word (m := ⟨2, 0⟩) (meth := k2m0) (c := k2c0) (by decide +kernel) rfl rfl rfl (by decide +kernel)
set_option maxRecDepth 65536 in
theorem w_c2 : (Jvm.Cond.code ({ cls := "com/example/orderly_tx/orderlytx/UnitStatus", name := "<init>", desc := "(Lcom/example/orderly_tx/orderlytx/UnitStatus;Lcom/example/orderly_tx/orderlytx/Completion;)V" } : Jvm.MethodName) prog_46_method_3_code (3 : Nat) (Option.none : Option Jvm.ClassFile.FieldType)).before args0 about1 = true := code_word (m := ⟨2, 1⟩) (meth := k2m1) (c := k2c1) (by decide +kernel) rfl rfl rfl (by decide +kernel)
set_option maxRecDepth 65536 in
theorem w_c3 : (Jvm.Cond.code ({ cls := "java/lang/Object", name := "<init>", desc := "()V" } : Jvm.MethodName) object_method_1_code (1 : Nat) (Option.none : Option Jvm.ClassFile.FieldType)).before args0 about1 = true := code_word (m := ⟨0, 0⟩) (meth := k0m0) (c := k0c0) (by decide +kernel) rfl rfl rfl (by decide +kernel)
set_option maxRecDepth 65536 in
theorem w_c4 : (Jvm.Cond.code ({ cls := "com/example/orderly_tx/orderlytx/UnitStatus", name := "forParticipant", desc := "()Lcom/example/orderly_tx/orderlytx/UnitStatus;" } : Jvm.MethodName) prog_46_method_10_code (1 : Nat) (Option.some (Jvm.ClassFile.FieldType.object "com/example/orderly_tx/orderlytx/UnitStatus"))).before args0 about1 = true := code_word (m := ⟨2, 5⟩) (meth := k2m5) (c := k2c5) (by decide +kernel) rfl rfl rfl (by decide +kernel)
set_option maxRecDepth 65536 in
theorem w_c5 : (Jvm.Cond.code ({ cls := "com/example/orderly_tx/orderlytx/UnitStatus", name := "isRollbackOnly", desc := "()Z" } : Jvm.MethodName) prog_46_method_6_code (2 : Nat) (Option.some Jvm.ClassFile.FieldType.boolean)).before args0 about1 = true := code_word (m := ⟨2, 4⟩) (meth := k2m4) (c := k2c4) (by decide +kernel) rfl rfl rfl (by decide +kernel)
set_option maxRecDepth 65536 in
theorem w_c6 : (Jvm.Cond.code ({ cls := "com/example/orderly_tx/orderlytx/UnitStatus", name := "fail", desc := "(Ljava/lang/Throwable;)V" } : Jvm.MethodName) prog_46_method_5_code (2 : Nat) (Option.none : Option Jvm.ClassFile.FieldType)).before args0 about1 = true := code_word (m := ⟨2, 3⟩) (meth := k2m3) (c := k2c3) (by decide +kernel) rfl rfl rfl (by decide +kernel)
set_option maxRecDepth 65536 in
theorem w_c7 : (Jvm.Cond.code ({ cls := "com/example/orderly_tx/orderlytx/UnitStatus", name := "failByParticipant", desc := "(Ljava/lang/Throwable;)V" } : Jvm.MethodName) prog_46_method_11_code (2 : Nat) (Option.none : Option Jvm.ClassFile.FieldType)).before args0 about1 = true := code_word (m := ⟨2, 6⟩) (meth := k2m6) (c := k2c6) (by decide +kernel) rfl rfl rfl (by decide +kernel)
set_option maxRecDepth 65536 in
theorem w_c8 : (Jvm.Cond.code ({ cls := "com/example/orderly_tx/orderlytx/UnitStatus", name := "setRollbackOnly", desc := "()V" } : Jvm.MethodName) prog_46_method_4_code (1 : Nat) (Option.none : Option Jvm.ClassFile.FieldType)).before args0 about1 = true := code_word (m := ⟨2, 2⟩) (meth := k2m2) (c := k2c2) (by decide +kernel) rfl rfl rfl (by decide +kernel)
def codes1 : List Jvm.Cond := [Jvm.Cond.code x code maxLocals ret, Jvm.Cond.code ({ cls := "com/example/orderly_tx/orderlytx/UnitStatus", name := "<init>", desc := "()V" } : Jvm.MethodName) prog_46_method_1_code (1 : Nat) (Option.none : Option Jvm.ClassFile.FieldType), Jvm.Cond.code ({ cls := "com/example/orderly_tx/orderlytx/UnitStatus", name := "<init>", desc := "(Lcom/example/orderly_tx/orderlytx/UnitStatus;Lcom/example/orderly_tx/orderlytx/Completion;)V" } : Jvm.MethodName) prog_46_method_3_code (3 : Nat) (Option.none : Option Jvm.ClassFile.FieldType), Jvm.Cond.code ({ cls := "java/lang/Object", name := "<init>", desc := "()V" } : Jvm.MethodName) object_method_1_code (1 : Nat) (Option.none : Option Jvm.ClassFile.FieldType), Jvm.Cond.code ({ cls := "com/example/orderly_tx/orderlytx/UnitStatus", name := "forParticipant", desc := "()Lcom/example/orderly_tx/orderlytx/UnitStatus;" } : Jvm.MethodName) prog_46_method_10_code (1 : Nat) (Option.some (Jvm.ClassFile.FieldType.object "com/example/orderly_tx/orderlytx/UnitStatus")), Jvm.Cond.code ({ cls := "com/example/orderly_tx/orderlytx/UnitStatus", name := "isRollbackOnly", desc := "()Z" } : Jvm.MethodName) prog_46_method_6_code (2 : Nat) (Option.some Jvm.ClassFile.FieldType.boolean), Jvm.Cond.code ({ cls := "com/example/orderly_tx/orderlytx/UnitStatus", name := "fail", desc := "(Ljava/lang/Throwable;)V" } : Jvm.MethodName) prog_46_method_5_code (2 : Nat) (Option.none : Option Jvm.ClassFile.FieldType), Jvm.Cond.code ({ cls := "com/example/orderly_tx/orderlytx/UnitStatus", name := "failByParticipant", desc := "(Ljava/lang/Throwable;)V" } : Jvm.MethodName) prog_46_method_11_code (2 : Nat) (Option.none : Option Jvm.ClassFile.FieldType), Jvm.Cond.code ({ cls := "com/example/orderly_tx/orderlytx/UnitStatus", name := "setRollbackOnly", desc := "()V" } : Jvm.MethodName) prog_46_method_4_code (1 : Nat) (Option.none : Option Jvm.ClassFile.FieldType)]
set_option maxRecDepth 65536 in
theorem codes_eq : words1.filter isCode = codes1 := rfl
theorem w_codes : ∀ c ∈ words1.filter isCode, c.before args0 about1 = true := by
  rw [codes_eq]
  intro c hc
  simp only [codes1, List.mem_cons, List.not_mem_nil, or_false] at hc
  rcases hc with rfl | rfl | rfl | rfl | rfl | rfl | rfl | rfl | rfl
  · exact w_c0
  · exact w_c1
  · exact w_c2
  · exact w_c3
  · exact w_c4
  · exact w_c5
  · exact w_c6
  · exact w_c7
  · exact w_c8
set_option maxRecDepth 65536 in
theorem w_t1 : (words1.take 24).all (fun c => isCode c || c.before args0 about1) = true := by decide +kernel
set_option maxRecDepth 65536 in
theorem w_t2 : ((words1.drop 24).take 24).all (fun c => isCode c || c.before args0 about1) = true := by decide +kernel
set_option maxRecDepth 65536 in
theorem w_t3 : ((words1.drop 24).drop 24).all (fun c => isCode c || c.before args0 about1) = true := by decide +kernel
theorem w_tables : (allAtoms (Jvm.Cond.code x code maxLocals ret :: tables_1)).before args0 about1 = true := by
  rw [allAtoms_all]
  show words1.all (fun c => c.before args0 about1) = true
  refine all_split ?_ w_codes
  rw [← List.take_append_drop 24 words1, List.all_append, w_t1, ← List.take_append_drop 24 (words1.drop 24), List.all_append, w_t2, w_t3]
  rfl
set_option maxRecDepth 65536 in
theorem w_case : (Jvm.Cond.and given_1 narrow_1).before args0 about1 = true := by decide +kernel
theorem w_applies : (headSpec (Jvm.Cond.code x code maxLocals ret :: tables_1) room_1).applies x e0.platform about1 = true :=
  (Spec.applies_iff w_frames).mpr ⟨w_running, w_runnable, w_alone, w_named, w_hears, w_ripe, w_room, w_tables⟩
theorem atStart : AtStart classFile x code maxLocals ret World_1 tables_1 room_1 Calls_1 rest_1 Pre_1 launch0 p0 e0 about1 theMethod args0 below0 :=
  ⟨lists_1, trivial, launch0.admits_env _ _ _, launch0.least_env, fairChoices_fair.cas, fairChoices_fair.clock, w_frames, w_args, w_heap, w_applies, trivial, trivial, w_case⟩
end start1
theorem witness_1 : WitnessClaimed_1 := ⟨start1.p0, start1.e0, start1.about1, start1.theMethod, start1.args0, start1.below0, start1.atStart⟩
end Jvm.Pilot.@@N@@
