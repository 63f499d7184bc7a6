import JvmDerived
import JvmDerived.Pilot.@@N@@Statement
import JvmDerived.Pilot.@@N@@Code
set_option linter.unusedVariables false
set_option linter.unusedSimpArgs false
@@BLOCK:NumsL.lean.txt@@
namespace Jvm.RoadKit
open Sem ClassFile Op Lib Jvm.Stand Jvm.Free Jvm.LawKit
section New
variable {p : Program} {l : Launch} {e : Env} {R : Room} {s : State} {m : MethodId} {args : Array Value} {below : List Frame} {meth : Method} {c : Code} {T : State} {locs : List Loc} {cells slots : Nat}
theorem retI (X : Stand p l e R s m args below meth c T locs cells slots) (hx : p.tables.exec = Jvm.exec) {pc : Nat} {Ls : Array Slot} {z : Int32} {rest : List Value} (hret : meth.sig.returnType = some .int) (hd : decode c.code pc = .ok (.ireturn, 1)) {fs : List Frame}
    (hl : ∀ (f : JFrame) (acts : List Action), f.method = m → f.locked = none → f.entered = [] → (doReturn e (T.setTop f) acts (some (.int z))).1 = T.setFrames fs) : Steps p.tables e below (T.setTop (mkF m pc Ls (.int z :: rest))) (T.setFrames fs) := by
  have hm' : T.vm.method? m = some meth := X.method'
  have hn : narrow .int (.int z) = .int z := rfl
  show Steps p.tables e below (T.setTop { method := m, pc := pc, locals := Ls, stack := _ :: rest, locked := none }) _
  jvm_step X.here [X.here.top, hx, hd, hm', hret, hn]
  first | (intro acts; rw [hl _ acts rfl rfl rfl]) | rw [hl _ _ rfl rfl rfl]
  exact Steps.refl _
end New
end Jvm.RoadKit
namespace Jvm.Pilot.@@N@@
open Jvm Jvm.ClassFile Sem Op Lib Jvm.Free Jvm.Stand Jvm.LawKit Jvm.RoadKit Bundle Jvm.Pilot.@@N@@.Jvm.D
theorem own_keep {h h' : Heap} (e : h' = h) : Keep h h' [] := e ▸ Keep.refl _ _
theorem own_ws0 {h0 : Heap} {ws : List Addr} : ∀ x ∈ ([] : List Addr), x ∈ ws ∨ h0.size ≤ x := fun _ q => nomatch q
theorem own_ws1 {h0 : Heap} {ws : List Addr} {a : Addr} (q : h0.size ≤ a) : ∀ x ∈ [a], x ∈ ws ∨ h0.size ≤ x := fun x hx => by cases List.mem_singleton.mp hx; exact Or.inr q
theorem own_wsIn {h0 : Heap} {a : Addr} : ∀ x ∈ [a], x ∈ [a] ∨ h0.size ≤ x := fun x hx => Or.inl hx
theorem own_nin {a b : Addr} (h : a ≠ b) : a ∉ [b] := fun q => h (List.mem_singleton.mp q)
theorem own_ne {a b n : Nat} (h : a < n) (e : b = n) : a ≠ b := by omega
theorem d1_0 : decode method_3_code 0 = .ok (.iload_n 3, 1) := by decide +kernel
theorem d1_1 : decode method_3_code 1 = .ok (.iload_n 2, 1) := by decide +kernel
theorem d1_2 : decode method_3_code 2 = .ok (.iushr, 1) := by decide +kernel
theorem d1_3 : decode method_3_code 3 = .ok (.iconst 1, 1) := by decide +kernel
theorem d1_4 : decode method_3_code 4 = .ok (.iand, 1) := by decide +kernel
theorem d1_5 : decode method_3_code 5 = .ok (.ifCond .ne 5, 3) := by decide +kernel
theorem d1_10 : decode method_3_code 10 = .ok (.ldc2_w 25, 3) := by decide +kernel
theorem d1_13 : decode method_3_code 13 = .ok (.bipush 8, 2) := by decide +kernel
theorem d1_15 : decode method_3_code 15 = .ok (.iload_n 2, 1) := by decide +kernel
theorem d1_16 : decode method_3_code 16 = .ok (.imul, 1) := by decide +kernel
theorem d1_17 : decode method_3_code 17 = .ok (.lshl, 1) := by decide +kernel
theorem d1_18 : decode method_3_code 18 = .ok (.lstore 5, 2) := by decide +kernel
theorem d1_20 : decode method_3_code 20 = .ok (.lload_n 0, 1) := by decide +kernel
theorem d1_21 : decode method_3_code 21 = .ok (.lload 5, 2) := by decide +kernel
theorem d1_23 : decode method_3_code 23 = .ok (.ldc2_w 27, 3) := by decide +kernel
theorem d1_26 : decode method_3_code 26 = .ok (.lxor, 1) := by decide +kernel
theorem d1_27 : decode method_3_code 27 = .ok (.land, 1) := by decide +kernel
theorem d1_28 : decode method_3_code 28 = .ok (.iload 4, 2) := by decide +kernel
theorem d1_30 : decode method_3_code 30 = .ok (.i2l, 1) := by decide +kernel
theorem d1_31 : decode method_3_code 31 = .ok (.bipush 8, 2) := by decide +kernel
theorem d1_33 : decode method_3_code 33 = .ok (.iload_n 2, 1) := by decide +kernel
theorem d1_34 : decode method_3_code 34 = .ok (.imul, 1) := by decide +kernel
theorem d1_35 : decode method_3_code 35 = .ok (.lshl, 1) := by decide +kernel
theorem d1_36 : decode method_3_code 36 = .ok (.lor, 1) := by decide +kernel
theorem d1_37 : decode method_3_code 37 = .ok (.lreturn, 1) := by decide +kernel
theorem pn_1 : plainName "com/example/recordframe/recordframe/cli/ByteWordsEqualToPinLaw" = true := by first | (simp [plainName, overriddenIn]; done) | decide +kernel
theorem ef_1 (m : MethodId) (x0 : Int64) (x1 : Int32) (x2 : Int32) (x3 : Int32) : entryFrame m #[(.long x0), (.int x1), (.int x2), (.int x3)] 7 = mkF m 0 #[.val (.long x0), .second, .val (.int x1), .val (.int x2), .val (.int x3), .unset, .unset] [] := by first | (simp [entryFrame, mkF, argsToLocals, Value.category]; done) | rfl
theorem d1_8 : decode method_3_code 8 = .ok (.lload_n 0, 1) := by decide +kernel
theorem d1_9 : decode method_3_code 9 = .ok (.lreturn, 1) := by decide +kernel
def own_f1 (q1 : Int64) (p2 : Int32) (p3 : Int32) (p4 : Int32) : Int64 := (if (((p3.toUInt32 >>> (p2 &&& 31).toUInt32).toInt32) &&& (1 : Int32)) = (0 : Int32) then q1 else ((q1 &&& (((255 : Int64) <<< (((8 : Int32) * p2) &&& 0x3f).toInt64) ^^^ (-1 : Int64))) ||| ((p4.toInt64) <<< (((8 : Int32) * p2) &&& 0x3f).toInt64)))
def Q1 (Z : State) (q1 : Int64) (p2 : Int32) (p3 : Int32) (p4 : Int32) (h0 : Heap) (n0 : Nat) (v : Option Value) (h : Heap) (L : List Loc) : Prop := v = some (.long (own_f1 q1 p2 p3 p4)) ∧ Fr n0 L ∧ h = h0
set_option maxRecDepth 65536 in
set_option maxHeartbeats 40000000 in
theorem rm1_t (l : Launch) (Z : State) (a0 : Array Value) (hw : ∀ d ∈ tables_1, d.before a0 Z = true) (ws : List Jvm.Cond) (q1 : Int64) (p2 : Int32) (p3 : Int32) (p4 : Int32) (h0 : Heap) (n0 : Nat) (Z0 : n0 ≤ h0.size) (hc5 : ¬ ((((p3.toUInt32 >>> (p2 &&& 31).toUInt32).toInt32) &&& (1 : Int32)) = (0 : Int32))) :
    MetFree l (⟨"com/example/recordframe/recordframe/cli/ByteWordsEqualToPinLaw", "place", "(JIII)J"⟩ : MethodName) (head1 (Jvm.Cond.code (⟨"com/example/recordframe/recordframe/cli/ByteWordsEqualToPinLaw", "place", "(JIII)J"⟩ : MethodName) method_3_code 7 (some .long) :: ws) ({ frames := 0, cells := 0, slots := 0, locals := 0 } : Room)) (fun a U => a = #[(.long q1), (.int p2), (.int p3), (.int p4)] ∧ Z.Warmed39 U.vm ∧ U.heap = h0) (fun _ _ _ _ _ => True) (fun _ U o U' => ∃ v L, o = .returned v ∧ Q1 Z q1 p2 p3 p4 h0 n0 v U'.heap L ∧ FrameEnd U o U' L ({ frames := 0, cells := 0, slots := 0, locals := 0 } : Room).cells ({ frames := 0, cells := 0, slots := 0, locals := 0 } : Room).slots) := by
  refine MetFree.of_bodySF (plainFor_of_name pn_1) hisR ?_
  intro p e s m args below meth c s₁ Bd hml0 hP hK
  obtain ⟨rfl, hZ, hh⟩ := hP
  have hx := Bd.exec
  have hby := Bd.bytes
  have hml : c.maxLocals = 7 := hml0
  have hown : s.vm.findClass "com/example/recordframe/recordframe/cli/ByteWordsEqualToPinLaw" = some m.cls := findClass_of_methodNamed Bd.named
  have hnm := (name_of_methodNamed Bd.named Bd.method).1
  have X0 : Stand p l e ({ frames := 0, cells := 0, slots := 0, locals := 0 } : Room) s m #[(.long q1), (.int p2), (.int p3), (.int p4)] below meth c s₁ [] 0 0 := Stand.of_body Bd
  have e0 : s₁.heap = h0 := by rw [← hh, Bd.state]; rfl
  have N0 := Fr.nil n0
  have pre0 : ∀ t, Steps p.tables e below (s₁.setTop (mkF m 0 #[.val (.long q1), .second, .val (.int p2), .val (.int p3), .val (.int p4), .unset, .unset] [])) t → Steps p.tables e below (s₁.setTop (entryFrame m #[(.long q1), (.int p2), (.int p3), (.int p4)] 7)) t := fun t k => castTop (ef_1 m q1 p2 p3 p4) k
  -- 3. LAWS

  obtain ⟨fs, hr, hrun, hended, hW, hsame⟩ := X0.leave (v := some (.long ((q1 &&& (((255 : Int64) <<< (((8 : Int32) * p2) &&& 0x3f).toInt64) ^^^ (-1 : Int64))) ||| ((p4.toInt64) <<< (((8 : Int32) * p2) &&& 0x3f).toInt64)))) (fun h => by rw [Bd.returns] at h; cases h) (BodyLoose.notSynchronized Bd)
  refine ⟨_, _, pre0 _ ?_, hrun, hended, _, _, rfl, ?_, ⟨_, rfl⟩, hW, hsame.mono (by decide) (by decide)⟩
  -- 4. STEPS
  · show Steps p.tables e below (s₁.setTop (mkF m 0 #[.val (.long q1), .second, .val (.int p2), .val (.int p3), .val (.int p4), .unset, .unset] [])) _
    refine XS.iloadN X0.here hx rfl (hb hby d1_0) rfl ?_
    show Steps p.tables e below (s₁.setTop (mkF m 1 #[.val (.long q1), .second, .val (.int p2), .val (.int p3), .val (.int p4), .unset, .unset] [(.int p3)])) _
    refine XS.iloadN X0.here hx rfl (hb hby d1_1) rfl ?_
    show Steps p.tables e below (s₁.setTop (mkF m 2 #[.val (.long q1), .second, .val (.int p2), .val (.int p3), .val (.int p4), .unset, .unset] [(.int p2), (.int p3)])) _
    refine XS.iushr X0.here hx rfl (hb hby d1_2) rfl ?_
    show Steps p.tables e below (s₁.setTop (mkF m 3 #[.val (.long q1), .second, .val (.int p2), .val (.int p3), .val (.int p4), .unset, .unset] [(.int ((p3.toUInt32 >>> (p2 &&& 31).toUInt32).toInt32))])) _
    refine XS.iconst X0.here hx rfl (hb hby d1_3) ?_
    show Steps p.tables e below (s₁.setTop (mkF m 4 #[.val (.long q1), .second, .val (.int p2), .val (.int p3), .val (.int p4), .unset, .unset] [(.int (1 : Int32)), (.int ((p3.toUInt32 >>> (p2 &&& 31).toUInt32).toInt32))])) _
    refine XS.iand X0.here hx rfl (hb hby d1_4) rfl ?_
    show Steps p.tables e below (s₁.setTop (mkF m 5 #[.val (.long q1), .second, .val (.int p2), .val (.int p3), .val (.int p4), .unset, .unset] [(.int (((p3.toUInt32 >>> (p2 &&& 31).toUInt32).toInt32) &&& (1 : Int32)))])) _
    refine XS.ifYes X0.here hx rfl (pc0 := 5) (pc' := 10) rfl (hb hby d1_5) rfl ((if0 _ _).trans (feq hc5).2) (by decide) (by decide) ?_
    show Steps p.tables e below (s₁.setTop (mkF m 10 #[.val (.long q1), .second, .val (.int p2), .val (.int p3), .val (.int p4), .unset, .unset] [])) _
    refine X0.ldc2Long hx hown (mvT hZ (hw _ (List.mem_of_getElem? (i := 4) rfl))) (g := (mkF m 10 #[.val (.long q1), .second, .val (.int p2), .val (.int p3), .val (.int p4), .unset, .unset] [])) rfl (hb hby d1_10) _ ?_
    show Steps p.tables e below (s₁.setTop (mkF m 13 #[.val (.long q1), .second, .val (.int p2), .val (.int p3), .val (.int p4), .unset, .unset] [(.long (255 : Int64))])) _
    refine XS.bipush X0.here hx rfl (hb hby d1_13) ?_
    show Steps p.tables e below (s₁.setTop (mkF m 15 #[.val (.long q1), .second, .val (.int p2), .val (.int p3), .val (.int p4), .unset, .unset] [(.int (8 : Int32)), (.long (255 : Int64))])) _
    refine XS.iloadN X0.here hx rfl (hb hby d1_15) rfl ?_
    show Steps p.tables e below (s₁.setTop (mkF m 16 #[.val (.long q1), .second, .val (.int p2), .val (.int p3), .val (.int p4), .unset, .unset] [(.int p2), (.int (8 : Int32)), (.long (255 : Int64))])) _
    refine XS.imul X0.here hx rfl (hb hby d1_16) rfl ?_
    show Steps p.tables e below (s₁.setTop (mkF m 17 #[.val (.long q1), .second, .val (.int p2), .val (.int p3), .val (.int p4), .unset, .unset] [(.int ((8 : Int32) * p2)), (.long (255 : Int64))])) _
    refine XS.lshl X0.here hx rfl (hb hby d1_17) rfl ?_
    show Steps p.tables e below (s₁.setTop (mkF m 18 #[.val (.long q1), .second, .val (.int p2), .val (.int p3), .val (.int p4), .unset, .unset] [(.long ((255 : Int64) <<< (((8 : Int32) * p2) &&& 0x3f).toInt64))])) _
    refine XS.lstore X0.here hx rfl (hb hby d1_18) rfl (l' := #[.val (.long q1), .second, .val (.int p2), .val (.int p3), .val (.int p4), .val (.long ((255 : Int64) <<< (((8 : Int32) * p2) &&& 0x3f).toInt64)), .second]) rfl ?_
    show Steps p.tables e below (s₁.setTop (mkF m 20 #[.val (.long q1), .second, .val (.int p2), .val (.int p3), .val (.int p4), .val (.long ((255 : Int64) <<< (((8 : Int32) * p2) &&& 0x3f).toInt64)), .second] [])) _
    refine XS.lloadN X0.here hx rfl (hb hby d1_20) rfl ?_
    show Steps p.tables e below (s₁.setTop (mkF m 21 #[.val (.long q1), .second, .val (.int p2), .val (.int p3), .val (.int p4), .val (.long ((255 : Int64) <<< (((8 : Int32) * p2) &&& 0x3f).toInt64)), .second] [(.long q1)])) _
    refine XS.lload X0.here hx rfl (hb hby d1_21) rfl ?_
    show Steps p.tables e below (s₁.setTop (mkF m 23 #[.val (.long q1), .second, .val (.int p2), .val (.int p3), .val (.int p4), .val (.long ((255 : Int64) <<< (((8 : Int32) * p2) &&& 0x3f).toInt64)), .second] [(.long ((255 : Int64) <<< (((8 : Int32) * p2) &&& 0x3f).toInt64)), (.long q1)])) _
    refine X0.ldc2Long hx hown (mvT hZ (hw _ (List.mem_of_getElem? (i := 5) rfl))) (g := (mkF m 23 #[.val (.long q1), .second, .val (.int p2), .val (.int p3), .val (.int p4), .val (.long ((255 : Int64) <<< (((8 : Int32) * p2) &&& 0x3f).toInt64)), .second] [(.long ((255 : Int64) <<< (((8 : Int32) * p2) &&& 0x3f).toInt64)), (.long q1)])) rfl (hb hby d1_23) _ ?_
    show Steps p.tables e below (s₁.setTop (mkF m 26 #[.val (.long q1), .second, .val (.int p2), .val (.int p3), .val (.int p4), .val (.long ((255 : Int64) <<< (((8 : Int32) * p2) &&& 0x3f).toInt64)), .second] [(.long (-1 : Int64)), (.long ((255 : Int64) <<< (((8 : Int32) * p2) &&& 0x3f).toInt64)), (.long q1)])) _
    refine XS.lxor X0.here hx rfl (hb hby d1_26) rfl ?_
    show Steps p.tables e below (s₁.setTop (mkF m 27 #[.val (.long q1), .second, .val (.int p2), .val (.int p3), .val (.int p4), .val (.long ((255 : Int64) <<< (((8 : Int32) * p2) &&& 0x3f).toInt64)), .second] [(.long (((255 : Int64) <<< (((8 : Int32) * p2) &&& 0x3f).toInt64) ^^^ (-1 : Int64))), (.long q1)])) _
    refine XS.land X0.here hx rfl (hb hby d1_27) rfl ?_
    show Steps p.tables e below (s₁.setTop (mkF m 28 #[.val (.long q1), .second, .val (.int p2), .val (.int p3), .val (.int p4), .val (.long ((255 : Int64) <<< (((8 : Int32) * p2) &&& 0x3f).toInt64)), .second] [(.long (q1 &&& (((255 : Int64) <<< (((8 : Int32) * p2) &&& 0x3f).toInt64) ^^^ (-1 : Int64))))])) _
    refine XS.iload X0.here hx rfl (hb hby d1_28) rfl ?_
    show Steps p.tables e below (s₁.setTop (mkF m 30 #[.val (.long q1), .second, .val (.int p2), .val (.int p3), .val (.int p4), .val (.long ((255 : Int64) <<< (((8 : Int32) * p2) &&& 0x3f).toInt64)), .second] [(.int p4), (.long (q1 &&& (((255 : Int64) <<< (((8 : Int32) * p2) &&& 0x3f).toInt64) ^^^ (-1 : Int64))))])) _
    refine XS.i2l X0.here hx rfl (hb hby d1_30) rfl ?_
    show Steps p.tables e below (s₁.setTop (mkF m 31 #[.val (.long q1), .second, .val (.int p2), .val (.int p3), .val (.int p4), .val (.long ((255 : Int64) <<< (((8 : Int32) * p2) &&& 0x3f).toInt64)), .second] [(.long (p4.toInt64)), (.long (q1 &&& (((255 : Int64) <<< (((8 : Int32) * p2) &&& 0x3f).toInt64) ^^^ (-1 : Int64))))])) _
    refine XS.bipush X0.here hx rfl (hb hby d1_31) ?_
    show Steps p.tables e below (s₁.setTop (mkF m 33 #[.val (.long q1), .second, .val (.int p2), .val (.int p3), .val (.int p4), .val (.long ((255 : Int64) <<< (((8 : Int32) * p2) &&& 0x3f).toInt64)), .second] [(.int (8 : Int32)), (.long (p4.toInt64)), (.long (q1 &&& (((255 : Int64) <<< (((8 : Int32) * p2) &&& 0x3f).toInt64) ^^^ (-1 : Int64))))])) _
    refine XS.iloadN X0.here hx rfl (hb hby d1_33) rfl ?_
    show Steps p.tables e below (s₁.setTop (mkF m 34 #[.val (.long q1), .second, .val (.int p2), .val (.int p3), .val (.int p4), .val (.long ((255 : Int64) <<< (((8 : Int32) * p2) &&& 0x3f).toInt64)), .second] [(.int p2), (.int (8 : Int32)), (.long (p4.toInt64)), (.long (q1 &&& (((255 : Int64) <<< (((8 : Int32) * p2) &&& 0x3f).toInt64) ^^^ (-1 : Int64))))])) _
    refine XS.imul X0.here hx rfl (hb hby d1_34) rfl ?_
    show Steps p.tables e below (s₁.setTop (mkF m 35 #[.val (.long q1), .second, .val (.int p2), .val (.int p3), .val (.int p4), .val (.long ((255 : Int64) <<< (((8 : Int32) * p2) &&& 0x3f).toInt64)), .second] [(.int ((8 : Int32) * p2)), (.long (p4.toInt64)), (.long (q1 &&& (((255 : Int64) <<< (((8 : Int32) * p2) &&& 0x3f).toInt64) ^^^ (-1 : Int64))))])) _
    refine XS.lshl X0.here hx rfl (hb hby d1_35) rfl ?_
    show Steps p.tables e below (s₁.setTop (mkF m 36 #[.val (.long q1), .second, .val (.int p2), .val (.int p3), .val (.int p4), .val (.long ((255 : Int64) <<< (((8 : Int32) * p2) &&& 0x3f).toInt64)), .second] [(.long ((p4.toInt64) <<< (((8 : Int32) * p2) &&& 0x3f).toInt64)), (.long (q1 &&& (((255 : Int64) <<< (((8 : Int32) * p2) &&& 0x3f).toInt64) ^^^ (-1 : Int64))))])) _
    refine XS.lor X0.here hx rfl (hb hby d1_36) rfl ?_
    show Steps p.tables e below (s₁.setTop (mkF m 37 #[.val (.long q1), .second, .val (.int p2), .val (.int p3), .val (.int p4), .val (.long ((255 : Int64) <<< (((8 : Int32) * p2) &&& 0x3f).toInt64)), .second] [(.long ((q1 &&& (((255 : Int64) <<< (((8 : Int32) * p2) &&& 0x3f).toInt64) ^^^ (-1 : Int64))) ||| ((p4.toInt64) <<< (((8 : Int32) * p2) &&& 0x3f).toInt64)))])) _
    exact X0.lreturnOut hx Bd.returns (hb hby d1_37) hr
  · show Q1 Z q1 p2 p3 p4 h0 n0 _ s₁.heap _
    rw [e0]
    exact ⟨(by unfold own_f1; rw [if_neg hc5]), N0, rfl⟩
set_option maxRecDepth 65536 in
set_option maxHeartbeats 40000000 in
theorem rm1_f (l : Launch) (Z : State) (a0 : Array Value) (hw : ∀ d ∈ tables_1, d.before a0 Z = true) (ws : List Jvm.Cond) (q1 : Int64) (p2 : Int32) (p3 : Int32) (p4 : Int32) (h0 : Heap) (n0 : Nat) (Z0 : n0 ≤ h0.size) (hc5 : (((p3.toUInt32 >>> (p2 &&& 31).toUInt32).toInt32) &&& (1 : Int32)) = (0 : Int32)) :
    MetFree l (⟨"com/example/recordframe/recordframe/cli/ByteWordsEqualToPinLaw", "place", "(JIII)J"⟩ : MethodName) (head1 (Jvm.Cond.code (⟨"com/example/recordframe/recordframe/cli/ByteWordsEqualToPinLaw", "place", "(JIII)J"⟩ : MethodName) method_3_code 7 (some .long) :: ws) ({ frames := 0, cells := 0, slots := 0, locals := 0 } : Room)) (fun a U => a = #[(.long q1), (.int p2), (.int p3), (.int p4)] ∧ Z.Warmed39 U.vm ∧ U.heap = h0) (fun _ _ _ _ _ => True) (fun _ U o U' => ∃ v L, o = .returned v ∧ Q1 Z q1 p2 p3 p4 h0 n0 v U'.heap L ∧ FrameEnd U o U' L ({ frames := 0, cells := 0, slots := 0, locals := 0 } : Room).cells ({ frames := 0, cells := 0, slots := 0, locals := 0 } : Room).slots) := by
  refine MetFree.of_bodySF (plainFor_of_name pn_1) hisR ?_
  intro p e s m args below meth c s₁ Bd hml0 hP hK
  obtain ⟨rfl, hZ, hh⟩ := hP
  have hx := Bd.exec
  have hby := Bd.bytes
  have hml : c.maxLocals = 7 := hml0
  have hown : s.vm.findClass "com/example/recordframe/recordframe/cli/ByteWordsEqualToPinLaw" = some m.cls := findClass_of_methodNamed Bd.named
  have hnm := (name_of_methodNamed Bd.named Bd.method).1
  have X0 : Stand p l e ({ frames := 0, cells := 0, slots := 0, locals := 0 } : Room) s m #[(.long q1), (.int p2), (.int p3), (.int p4)] below meth c s₁ [] 0 0 := Stand.of_body Bd
  have e0 : s₁.heap = h0 := by rw [← hh, Bd.state]; rfl
  have N0 := Fr.nil n0
  have pre0 : ∀ t, Steps p.tables e below (s₁.setTop (mkF m 0 #[.val (.long q1), .second, .val (.int p2), .val (.int p3), .val (.int p4), .unset, .unset] [])) t → Steps p.tables e below (s₁.setTop (entryFrame m #[(.long q1), (.int p2), (.int p3), (.int p4)] 7)) t := fun t k => castTop (ef_1 m q1 p2 p3 p4) k
  -- 3. LAWS

  obtain ⟨fs, hr, hrun, hended, hW, hsame⟩ := X0.leave (v := some (.long q1)) (fun h => by rw [Bd.returns] at h; cases h) (BodyLoose.notSynchronized Bd)
  refine ⟨_, _, pre0 _ ?_, hrun, hended, _, _, rfl, ?_, ⟨_, rfl⟩, hW, hsame.mono (by decide) (by decide)⟩
  -- 4. STEPS
  · show Steps p.tables e below (s₁.setTop (mkF m 0 #[.val (.long q1), .second, .val (.int p2), .val (.int p3), .val (.int p4), .unset, .unset] [])) _
    refine XS.iloadN X0.here hx rfl (hb hby d1_0) rfl ?_
    show Steps p.tables e below (s₁.setTop (mkF m 1 #[.val (.long q1), .second, .val (.int p2), .val (.int p3), .val (.int p4), .unset, .unset] [(.int p3)])) _
    refine XS.iloadN X0.here hx rfl (hb hby d1_1) rfl ?_
    show Steps p.tables e below (s₁.setTop (mkF m 2 #[.val (.long q1), .second, .val (.int p2), .val (.int p3), .val (.int p4), .unset, .unset] [(.int p2), (.int p3)])) _
    refine XS.iushr X0.here hx rfl (hb hby d1_2) rfl ?_
    show Steps p.tables e below (s₁.setTop (mkF m 3 #[.val (.long q1), .second, .val (.int p2), .val (.int p3), .val (.int p4), .unset, .unset] [(.int ((p3.toUInt32 >>> (p2 &&& 31).toUInt32).toInt32))])) _
    refine XS.iconst X0.here hx rfl (hb hby d1_3) ?_
    show Steps p.tables e below (s₁.setTop (mkF m 4 #[.val (.long q1), .second, .val (.int p2), .val (.int p3), .val (.int p4), .unset, .unset] [(.int (1 : Int32)), (.int ((p3.toUInt32 >>> (p2 &&& 31).toUInt32).toInt32))])) _
    refine XS.iand X0.here hx rfl (hb hby d1_4) rfl ?_
    show Steps p.tables e below (s₁.setTop (mkF m 5 #[.val (.long q1), .second, .val (.int p2), .val (.int p3), .val (.int p4), .unset, .unset] [(.int (((p3.toUInt32 >>> (p2 &&& 31).toUInt32).toInt32) &&& (1 : Int32)))])) _
    refine XS.ifNo X0.here hx rfl (hb hby d1_5) rfl ((if0 _ _).trans (teq hc5).2) ?_
    show Steps p.tables e below (s₁.setTop (mkF m 8 #[.val (.long q1), .second, .val (.int p2), .val (.int p3), .val (.int p4), .unset, .unset] [])) _
    refine XS.lloadN X0.here hx rfl (hb hby d1_8) rfl ?_
    show Steps p.tables e below (s₁.setTop (mkF m 9 #[.val (.long q1), .second, .val (.int p2), .val (.int p3), .val (.int p4), .unset, .unset] [(.long q1)])) _
    exact X0.lreturnOut hx Bd.returns (hb hby d1_9) hr
  · show Q1 Z q1 p2 p3 p4 h0 n0 _ s₁.heap _
    rw [e0]
    exact ⟨(by unfold own_f1; rw [if_pos hc5]), N0, rfl⟩
set_option maxRecDepth 65536 in
set_option maxHeartbeats 40000000 in
theorem rm1 (l : Launch) (Z : State) (a0 : Array Value) (hw : ∀ d ∈ tables_1, d.before a0 Z = true) (ws : List Jvm.Cond) (q1 : Int64) (p2 : Int32) (p3 : Int32) (p4 : Int32) (h0 : Heap) (n0 : Nat) (Z0 : n0 ≤ h0.size)  :
    MetFree l (⟨"com/example/recordframe/recordframe/cli/ByteWordsEqualToPinLaw", "place", "(JIII)J"⟩ : MethodName) (head1 (Jvm.Cond.code (⟨"com/example/recordframe/recordframe/cli/ByteWordsEqualToPinLaw", "place", "(JIII)J"⟩ : MethodName) method_3_code 7 (some .long) :: ws) ({ frames := 0, cells := 0, slots := 0, locals := 0 } : Room)) (fun a U => a = #[(.long q1), (.int p2), (.int p3), (.int p4)] ∧ Z.Warmed39 U.vm ∧ U.heap = h0) (fun _ _ _ _ _ => True) (fun _ U o U' => ∃ v L, o = .returned v ∧ Q1 Z q1 p2 p3 p4 h0 n0 v U'.heap L ∧ FrameEnd U o U' L ({ frames := 0, cells := 0, slots := 0, locals := 0 } : Room).cells ({ frames := 0, cells := 0, slots := 0, locals := 0 } : Room).slots) := by
  by_cases hc5 : (((p3.toUInt32 >>> (p2 &&& 31).toUInt32).toInt32) &&& (1 : Int32)) = (0 : Int32)
  · exact rm1_f l Z a0 hw ws q1 p2 p3 p4 h0 n0 Z0 hc5
  · exact rm1_t l Z a0 hw ws q1 p2 p3 p4 h0 n0 Z0 hc5
theorem d2_0 : decode prog_1_method_4_code 0 = .ok (.lload_n 0, 1) := by decide +kernel
theorem d2_1 : decode prog_1_method_4_code 1 = .ok (.ldc2_w 25, 3) := by decide +kernel
theorem d2_4 : decode prog_1_method_4_code 4 = .ok (.iload_n 2, 1) := by decide +kernel
theorem d2_5 : decode prog_1_method_4_code 5 = .ok (.sipush 255, 3) := by decide +kernel
theorem d2_8 : decode prog_1_method_4_code 8 = .ok (.iand, 1) := by decide +kernel
theorem d2_9 : decode prog_1_method_4_code 9 = .ok (.i2l, 1) := by decide +kernel
theorem d2_10 : decode prog_1_method_4_code 10 = .ok (.lmul, 1) := by decide +kernel
theorem d2_11 : decode prog_1_method_4_code 11 = .ok (.lxor, 1) := by decide +kernel
theorem d2_12 : decode prog_1_method_4_code 12 = .ok (.lstore_n 3, 1) := by decide +kernel
theorem d2_13 : decode prog_1_method_4_code 13 = .ok (.lload_n 3, 1) := by decide +kernel
theorem d2_14 : decode prog_1_method_4_code 14 = .ok (.ldc2_w 25, 3) := by decide +kernel
theorem d2_17 : decode prog_1_method_4_code 17 = .ok (.lsub, 1) := by decide +kernel
theorem d2_18 : decode prog_1_method_4_code 18 = .ok (.lload_n 3, 1) := by decide +kernel
theorem d2_19 : decode prog_1_method_4_code 19 = .ok (.ldc2_w 27, 3) := by decide +kernel
theorem d2_22 : decode prog_1_method_4_code 22 = .ok (.lxor, 1) := by decide +kernel
theorem d2_23 : decode prog_1_method_4_code 23 = .ok (.land, 1) := by decide +kernel
theorem d2_24 : decode prog_1_method_4_code 24 = .ok (.ldc2_w 29, 3) := by decide +kernel
theorem d2_27 : decode prog_1_method_4_code 27 = .ok (.land, 1) := by decide +kernel
theorem d2_28 : decode prog_1_method_4_code 28 = .ok (.lreturn, 1) := by decide +kernel
theorem pn_2 : plainName "com/example/recordframe/recordframe/cli/ByteWords" = true := by first | (simp [plainName, overriddenIn]; done) | decide +kernel
theorem ef_2 (m : MethodId) (x0 : Int64) (x1 : Int32) : entryFrame m #[(.long x0), (.int x1)] 5 = mkF m 0 #[.val (.long x0), .second, .val (.int x1), .unset, .unset] [] := by first | (simp [entryFrame, mkF, argsToLocals, Value.category]; done) | rfl
def own_f2 (q1 : Int64) (p2 : Int32) : Int64 := ((((q1 ^^^ ((72340172838076673 : Int64) * ((p2 &&& (255 : Int32)).toInt64))) - (72340172838076673 : Int64)) &&& ((q1 ^^^ ((72340172838076673 : Int64) * ((p2 &&& (255 : Int32)).toInt64))) ^^^ (-1 : Int64))) &&& (-9187201950435737472 : Int64))
def Q2 (Z : State) (q1 : Int64) (p2 : Int32) (h0 : Heap) (n0 : Nat) (v : Option Value) (h : Heap) (L : List Loc) : Prop := v = some (.long (own_f2 q1 p2)) ∧ Fr n0 L ∧ h = h0
set_option maxRecDepth 65536 in
set_option maxHeartbeats 40000000 in
theorem rm2_x (l : Launch) (Z : State) (a0 : Array Value) (hw : ∀ d ∈ tables_1, d.before a0 Z = true) (ws : List Jvm.Cond) (q1 : Int64) (p2 : Int32) (h0 : Heap) (n0 : Nat) (Z0 : n0 ≤ h0.size)  :
    MetFree l (⟨"com/example/recordframe/recordframe/cli/ByteWords", "equalTo", "(JB)J"⟩ : MethodName) (head1 (Jvm.Cond.code (⟨"com/example/recordframe/recordframe/cli/ByteWords", "equalTo", "(JB)J"⟩ : MethodName) prog_1_method_4_code 5 (some .long) :: ws) ({ frames := 0, cells := 0, slots := 0, locals := 0 } : Room)) (fun a U => a = #[(.long q1), (.int p2)] ∧ Z.Warmed39 U.vm ∧ U.heap = h0) (fun _ _ _ _ _ => True) (fun _ U o U' => ∃ v L, o = .returned v ∧ Q2 Z q1 p2 h0 n0 v U'.heap L ∧ FrameEnd U o U' L ({ frames := 0, cells := 0, slots := 0, locals := 0 } : Room).cells ({ frames := 0, cells := 0, slots := 0, locals := 0 } : Room).slots) := by
  refine MetFree.of_bodySF (plainFor_of_name pn_2) hisR ?_
  intro p e s m args below meth c s₁ Bd hml0 hP hK
  obtain ⟨rfl, hZ, hh⟩ := hP
  have hx := Bd.exec
  have hby := Bd.bytes
  have hml : c.maxLocals = 5 := hml0
  have hown : s.vm.findClass "com/example/recordframe/recordframe/cli/ByteWords" = some m.cls := findClass_of_methodNamed Bd.named
  have hnm := (name_of_methodNamed Bd.named Bd.method).1
  have X0 : Stand p l e ({ frames := 0, cells := 0, slots := 0, locals := 0 } : Room) s m #[(.long q1), (.int p2)] below meth c s₁ [] 0 0 := Stand.of_body Bd
  have e0 : s₁.heap = h0 := by rw [← hh, Bd.state]; rfl
  have N0 := Fr.nil n0
  have pre0 : ∀ t, Steps p.tables e below (s₁.setTop (mkF m 0 #[.val (.long q1), .second, .val (.int p2), .unset, .unset] [])) t → Steps p.tables e below (s₁.setTop (entryFrame m #[(.long q1), (.int p2)] 5)) t := fun t k => castTop (ef_2 m q1 p2) k
  -- 3. LAWS

  obtain ⟨fs, hr, hrun, hended, hW, hsame⟩ := X0.leave (v := some (.long ((((q1 ^^^ ((72340172838076673 : Int64) * ((p2 &&& (255 : Int32)).toInt64))) - (72340172838076673 : Int64)) &&& ((q1 ^^^ ((72340172838076673 : Int64) * ((p2 &&& (255 : Int32)).toInt64))) ^^^ (-1 : Int64))) &&& (-9187201950435737472 : Int64)))) (fun h => by rw [Bd.returns] at h; cases h) (BodyLoose.notSynchronized Bd)
  refine ⟨_, _, pre0 _ ?_, hrun, hended, _, _, rfl, ?_, ⟨_, rfl⟩, hW, hsame.mono (by decide) (by decide)⟩
  -- 4. STEPS
  · show Steps p.tables e below (s₁.setTop (mkF m 0 #[.val (.long q1), .second, .val (.int p2), .unset, .unset] [])) _
    refine XS.lloadN X0.here hx rfl (hb hby d2_0) rfl ?_
    show Steps p.tables e below (s₁.setTop (mkF m 1 #[.val (.long q1), .second, .val (.int p2), .unset, .unset] [(.long q1)])) _
    refine X0.ldc2Long hx hown (mvT hZ (hw _ (List.mem_of_getElem? (i := 10) rfl))) (g := (mkF m 1 #[.val (.long q1), .second, .val (.int p2), .unset, .unset] [(.long q1)])) rfl (hb hby d2_1) _ ?_
    show Steps p.tables e below (s₁.setTop (mkF m 4 #[.val (.long q1), .second, .val (.int p2), .unset, .unset] [(.long (72340172838076673 : Int64)), (.long q1)])) _
    refine XS.iloadN X0.here hx rfl (hb hby d2_4) rfl ?_
    show Steps p.tables e below (s₁.setTop (mkF m 5 #[.val (.long q1), .second, .val (.int p2), .unset, .unset] [(.int p2), (.long (72340172838076673 : Int64)), (.long q1)])) _
    refine XS.sipush X0.here hx rfl (hb hby d2_5) ?_
    show Steps p.tables e below (s₁.setTop (mkF m 8 #[.val (.long q1), .second, .val (.int p2), .unset, .unset] [(.int (255 : Int32)), (.int p2), (.long (72340172838076673 : Int64)), (.long q1)])) _
    refine XS.iand X0.here hx rfl (hb hby d2_8) rfl ?_
    show Steps p.tables e below (s₁.setTop (mkF m 9 #[.val (.long q1), .second, .val (.int p2), .unset, .unset] [(.int (p2 &&& (255 : Int32))), (.long (72340172838076673 : Int64)), (.long q1)])) _
    refine XS.i2l X0.here hx rfl (hb hby d2_9) rfl ?_
    show Steps p.tables e below (s₁.setTop (mkF m 10 #[.val (.long q1), .second, .val (.int p2), .unset, .unset] [(.long ((p2 &&& (255 : Int32)).toInt64)), (.long (72340172838076673 : Int64)), (.long q1)])) _
    refine XS.lmul X0.here hx rfl (hb hby d2_10) rfl ?_
    show Steps p.tables e below (s₁.setTop (mkF m 11 #[.val (.long q1), .second, .val (.int p2), .unset, .unset] [(.long ((72340172838076673 : Int64) * ((p2 &&& (255 : Int32)).toInt64))), (.long q1)])) _
    refine XS.lxor X0.here hx rfl (hb hby d2_11) rfl ?_
    show Steps p.tables e below (s₁.setTop (mkF m 12 #[.val (.long q1), .second, .val (.int p2), .unset, .unset] [(.long (q1 ^^^ ((72340172838076673 : Int64) * ((p2 &&& (255 : Int32)).toInt64))))])) _
    refine XS.lstoreN X0.here hx rfl (hb hby d2_12) rfl (l' := #[.val (.long q1), .second, .val (.int p2), .val (.long (q1 ^^^ ((72340172838076673 : Int64) * ((p2 &&& (255 : Int32)).toInt64)))), .second]) rfl ?_
    show Steps p.tables e below (s₁.setTop (mkF m 13 #[.val (.long q1), .second, .val (.int p2), .val (.long (q1 ^^^ ((72340172838076673 : Int64) * ((p2 &&& (255 : Int32)).toInt64)))), .second] [])) _
    refine XS.lloadN X0.here hx rfl (hb hby d2_13) rfl ?_
    show Steps p.tables e below (s₁.setTop (mkF m 14 #[.val (.long q1), .second, .val (.int p2), .val (.long (q1 ^^^ ((72340172838076673 : Int64) * ((p2 &&& (255 : Int32)).toInt64)))), .second] [(.long (q1 ^^^ ((72340172838076673 : Int64) * ((p2 &&& (255 : Int32)).toInt64))))])) _
    refine X0.ldc2Long hx hown (mvT hZ (hw _ (List.mem_of_getElem? (i := 10) rfl))) (g := (mkF m 14 #[.val (.long q1), .second, .val (.int p2), .val (.long (q1 ^^^ ((72340172838076673 : Int64) * ((p2 &&& (255 : Int32)).toInt64)))), .second] [(.long (q1 ^^^ ((72340172838076673 : Int64) * ((p2 &&& (255 : Int32)).toInt64))))])) rfl (hb hby d2_14) _ ?_
    show Steps p.tables e below (s₁.setTop (mkF m 17 #[.val (.long q1), .second, .val (.int p2), .val (.long (q1 ^^^ ((72340172838076673 : Int64) * ((p2 &&& (255 : Int32)).toInt64)))), .second] [(.long (72340172838076673 : Int64)), (.long (q1 ^^^ ((72340172838076673 : Int64) * ((p2 &&& (255 : Int32)).toInt64))))])) _
    refine XS.lsub X0.here hx rfl (hb hby d2_17) rfl ?_
    show Steps p.tables e below (s₁.setTop (mkF m 18 #[.val (.long q1), .second, .val (.int p2), .val (.long (q1 ^^^ ((72340172838076673 : Int64) * ((p2 &&& (255 : Int32)).toInt64)))), .second] [(.long ((q1 ^^^ ((72340172838076673 : Int64) * ((p2 &&& (255 : Int32)).toInt64))) - (72340172838076673 : Int64)))])) _
    refine XS.lloadN X0.here hx rfl (hb hby d2_18) rfl ?_
    show Steps p.tables e below (s₁.setTop (mkF m 19 #[.val (.long q1), .second, .val (.int p2), .val (.long (q1 ^^^ ((72340172838076673 : Int64) * ((p2 &&& (255 : Int32)).toInt64)))), .second] [(.long (q1 ^^^ ((72340172838076673 : Int64) * ((p2 &&& (255 : Int32)).toInt64)))), (.long ((q1 ^^^ ((72340172838076673 : Int64) * ((p2 &&& (255 : Int32)).toInt64))) - (72340172838076673 : Int64)))])) _
    refine X0.ldc2Long hx hown (mvT hZ (hw _ (List.mem_of_getElem? (i := 11) rfl))) (g := (mkF m 19 #[.val (.long q1), .second, .val (.int p2), .val (.long (q1 ^^^ ((72340172838076673 : Int64) * ((p2 &&& (255 : Int32)).toInt64)))), .second] [(.long (q1 ^^^ ((72340172838076673 : Int64) * ((p2 &&& (255 : Int32)).toInt64)))), (.long ((q1 ^^^ ((72340172838076673 : Int64) * ((p2 &&& (255 : Int32)).toInt64))) - (72340172838076673 : Int64)))])) rfl (hb hby d2_19) _ ?_
    show Steps p.tables e below (s₁.setTop (mkF m 22 #[.val (.long q1), .second, .val (.int p2), .val (.long (q1 ^^^ ((72340172838076673 : Int64) * ((p2 &&& (255 : Int32)).toInt64)))), .second] [(.long (-1 : Int64)), (.long (q1 ^^^ ((72340172838076673 : Int64) * ((p2 &&& (255 : Int32)).toInt64)))), (.long ((q1 ^^^ ((72340172838076673 : Int64) * ((p2 &&& (255 : Int32)).toInt64))) - (72340172838076673 : Int64)))])) _
    refine XS.lxor X0.here hx rfl (hb hby d2_22) rfl ?_
    show Steps p.tables e below (s₁.setTop (mkF m 23 #[.val (.long q1), .second, .val (.int p2), .val (.long (q1 ^^^ ((72340172838076673 : Int64) * ((p2 &&& (255 : Int32)).toInt64)))), .second] [(.long ((q1 ^^^ ((72340172838076673 : Int64) * ((p2 &&& (255 : Int32)).toInt64))) ^^^ (-1 : Int64))), (.long ((q1 ^^^ ((72340172838076673 : Int64) * ((p2 &&& (255 : Int32)).toInt64))) - (72340172838076673 : Int64)))])) _
    refine XS.land X0.here hx rfl (hb hby d2_23) rfl ?_
    show Steps p.tables e below (s₁.setTop (mkF m 24 #[.val (.long q1), .second, .val (.int p2), .val (.long (q1 ^^^ ((72340172838076673 : Int64) * ((p2 &&& (255 : Int32)).toInt64)))), .second] [(.long (((q1 ^^^ ((72340172838076673 : Int64) * ((p2 &&& (255 : Int32)).toInt64))) - (72340172838076673 : Int64)) &&& ((q1 ^^^ ((72340172838076673 : Int64) * ((p2 &&& (255 : Int32)).toInt64))) ^^^ (-1 : Int64))))])) _
    refine X0.ldc2Long hx hown (mvT hZ (hw _ (List.mem_of_getElem? (i := 12) rfl))) (g := (mkF m 24 #[.val (.long q1), .second, .val (.int p2), .val (.long (q1 ^^^ ((72340172838076673 : Int64) * ((p2 &&& (255 : Int32)).toInt64)))), .second] [(.long (((q1 ^^^ ((72340172838076673 : Int64) * ((p2 &&& (255 : Int32)).toInt64))) - (72340172838076673 : Int64)) &&& ((q1 ^^^ ((72340172838076673 : Int64) * ((p2 &&& (255 : Int32)).toInt64))) ^^^ (-1 : Int64))))])) rfl (hb hby d2_24) _ ?_
    show Steps p.tables e below (s₁.setTop (mkF m 27 #[.val (.long q1), .second, .val (.int p2), .val (.long (q1 ^^^ ((72340172838076673 : Int64) * ((p2 &&& (255 : Int32)).toInt64)))), .second] [(.long (-9187201950435737472 : Int64)), (.long (((q1 ^^^ ((72340172838076673 : Int64) * ((p2 &&& (255 : Int32)).toInt64))) - (72340172838076673 : Int64)) &&& ((q1 ^^^ ((72340172838076673 : Int64) * ((p2 &&& (255 : Int32)).toInt64))) ^^^ (-1 : Int64))))])) _
    refine XS.land X0.here hx rfl (hb hby d2_27) rfl ?_
    show Steps p.tables e below (s₁.setTop (mkF m 28 #[.val (.long q1), .second, .val (.int p2), .val (.long (q1 ^^^ ((72340172838076673 : Int64) * ((p2 &&& (255 : Int32)).toInt64)))), .second] [(.long ((((q1 ^^^ ((72340172838076673 : Int64) * ((p2 &&& (255 : Int32)).toInt64))) - (72340172838076673 : Int64)) &&& ((q1 ^^^ ((72340172838076673 : Int64) * ((p2 &&& (255 : Int32)).toInt64))) ^^^ (-1 : Int64))) &&& (-9187201950435737472 : Int64)))])) _
    exact X0.lreturnOut hx Bd.returns (hb hby d2_28) hr
  · show Q2 Z q1 p2 h0 n0 _ s₁.heap _
    rw [e0]
    exact ⟨rfl, N0, rfl⟩
set_option maxRecDepth 65536 in
set_option maxHeartbeats 40000000 in
theorem rm2 (l : Launch) (Z : State) (a0 : Array Value) (hw : ∀ d ∈ tables_1, d.before a0 Z = true) (ws : List Jvm.Cond) (q1 : Int64) (p2 : Int32) (h0 : Heap) (n0 : Nat) (Z0 : n0 ≤ h0.size)  :
    MetFree l (⟨"com/example/recordframe/recordframe/cli/ByteWords", "equalTo", "(JB)J"⟩ : MethodName) (head1 (Jvm.Cond.code (⟨"com/example/recordframe/recordframe/cli/ByteWords", "equalTo", "(JB)J"⟩ : MethodName) prog_1_method_4_code 5 (some .long) :: ws) ({ frames := 0, cells := 0, slots := 0, locals := 0 } : Room)) (fun a U => a = #[(.long q1), (.int p2)] ∧ Z.Warmed39 U.vm ∧ U.heap = h0) (fun _ _ _ _ _ => True) (fun _ U o U' => ∃ v L, o = .returned v ∧ Q2 Z q1 p2 h0 n0 v U'.heap L ∧ FrameEnd U o U' L ({ frames := 0, cells := 0, slots := 0, locals := 0 } : Room).cells ({ frames := 0, cells := 0, slots := 0, locals := 0 } : Room).slots) := by
  exact rm2_x l Z a0 hw ws q1 p2 h0 n0 Z0 
theorem d3_0 : decode method_4_code 0 = .ok (.lload_n 0, 1) := by decide +kernel
theorem d3_1 : decode method_4_code 1 = .ok (.bipush 8, 2) := by decide +kernel
theorem d3_3 : decode method_4_code 3 = .ok (.iload_n 2, 1) := by decide +kernel
theorem d3_4 : decode method_4_code 4 = .ok (.imul, 1) := by decide +kernel
theorem d3_5 : decode method_4_code 5 = .ok (.lushr, 1) := by decide +kernel
theorem d3_6 : decode method_4_code 6 = .ok (.ldc2_w 25, 3) := by decide +kernel
theorem d3_9 : decode method_4_code 9 = .ok (.land, 1) := by decide +kernel
theorem d3_10 : decode method_4_code 10 = .ok (.l2i, 1) := by decide +kernel
theorem d3_11 : decode method_4_code 11 = .ok (.istore 4, 2) := by decide +kernel
theorem d3_13 : decode method_4_code 13 = .ok (.iload 4, 2) := by decide +kernel
theorem d3_15 : decode method_4_code 15 = .ok (.iload_n 3, 1) := by decide +kernel
theorem d3_16 : decode method_4_code 16 = .ok (.if_icmp .ne 14, 3) := by decide +kernel
theorem d3_30 : decode method_4_code 30 = .ok (.lconst 0, 1) := by decide +kernel
theorem d3_31 : decode method_4_code 31 = .ok (.lreturn, 1) := by decide +kernel
theorem pn_3 : plainName "com/example/recordframe/recordframe/cli/ByteWordsEqualToPinLaw" = true := by first | (simp [plainName, overriddenIn]; done) | decide +kernel
theorem ef_3 (m : MethodId) (x0 : Int64) (x1 : Int32) (x2 : Int32) : entryFrame m #[(.long x0), (.int x1), (.int x2)] 5 = mkF m 0 #[.val (.long x0), .second, .val (.int x1), .val (.int x2), .unset] [] := by first | (simp [entryFrame, mkF, argsToLocals, Value.category]; done) | rfl
theorem d3_19 : decode method_4_code 19 = .ok (.ldc2_w 29, 3) := by decide +kernel
theorem d3_22 : decode method_4_code 22 = .ok (.bipush 8, 2) := by decide +kernel
theorem d3_24 : decode method_4_code 24 = .ok (.iload_n 2, 1) := by decide +kernel
theorem d3_25 : decode method_4_code 25 = .ok (.imul, 1) := by decide +kernel
theorem d3_26 : decode method_4_code 26 = .ok (.lshl, 1) := by decide +kernel
theorem d3_27 : decode method_4_code 27 = .ok (.goto 4, 3) := by decide +kernel
def own_f3 (q1 : Int64) (p2 : Int32) (p3 : Int32) : Int64 := (if ((((q1.toUInt64 >>> (((8 : Int32) * p2) &&& 0x3f).toInt64.toUInt64).toInt64) &&& (255 : Int64)).toInt32) = p3 then ((128 : Int64) <<< (((8 : Int32) * p2) &&& 0x3f).toInt64) else (0 : Int64))
def Q3 (Z : State) (q1 : Int64) (p2 : Int32) (p3 : Int32) (h0 : Heap) (n0 : Nat) (v : Option Value) (h : Heap) (L : List Loc) : Prop := v = some (.long (own_f3 q1 p2 p3)) ∧ Fr n0 L ∧ h = h0
set_option maxRecDepth 65536 in
set_option maxHeartbeats 40000000 in
theorem rm3_t (l : Launch) (Z : State) (a0 : Array Value) (hw : ∀ d ∈ tables_1, d.before a0 Z = true) (ws : List Jvm.Cond) (q1 : Int64) (p2 : Int32) (p3 : Int32) (h0 : Heap) (n0 : Nat) (Z0 : n0 ≤ h0.size) (hc16 : ¬ (((((q1.toUInt64 >>> (((8 : Int32) * p2) &&& 0x3f).toInt64.toUInt64).toInt64) &&& (255 : Int64)).toInt32) = p3)) :
    MetFree l (⟨"com/example/recordframe/recordframe/cli/ByteWordsEqualToPinLaw", "eq", "(JII)J"⟩ : MethodName) (head1 (Jvm.Cond.code (⟨"com/example/recordframe/recordframe/cli/ByteWordsEqualToPinLaw", "eq", "(JII)J"⟩ : MethodName) method_4_code 5 (some .long) :: ws) ({ frames := 0, cells := 0, slots := 0, locals := 0 } : Room)) (fun a U => a = #[(.long q1), (.int p2), (.int p3)] ∧ Z.Warmed39 U.vm ∧ U.heap = h0) (fun _ _ _ _ _ => True) (fun _ U o U' => ∃ v L, o = .returned v ∧ Q3 Z q1 p2 p3 h0 n0 v U'.heap L ∧ FrameEnd U o U' L ({ frames := 0, cells := 0, slots := 0, locals := 0 } : Room).cells ({ frames := 0, cells := 0, slots := 0, locals := 0 } : Room).slots) := by
  refine MetFree.of_bodySF (plainFor_of_name pn_3) hisR ?_
  intro p e s m args below meth c s₁ Bd hml0 hP hK
  obtain ⟨rfl, hZ, hh⟩ := hP
  have hx := Bd.exec
  have hby := Bd.bytes
  have hml : c.maxLocals = 5 := hml0
  have hown : s.vm.findClass "com/example/recordframe/recordframe/cli/ByteWordsEqualToPinLaw" = some m.cls := findClass_of_methodNamed Bd.named
  have hnm := (name_of_methodNamed Bd.named Bd.method).1
  have X0 : Stand p l e ({ frames := 0, cells := 0, slots := 0, locals := 0 } : Room) s m #[(.long q1), (.int p2), (.int p3)] below meth c s₁ [] 0 0 := Stand.of_body Bd
  have e0 : s₁.heap = h0 := by rw [← hh, Bd.state]; rfl
  have N0 := Fr.nil n0
  have pre0 : ∀ t, Steps p.tables e below (s₁.setTop (mkF m 0 #[.val (.long q1), .second, .val (.int p2), .val (.int p3), .unset] [])) t → Steps p.tables e below (s₁.setTop (entryFrame m #[(.long q1), (.int p2), (.int p3)] 5)) t := fun t k => castTop (ef_3 m q1 p2 p3) k
  -- 3. LAWS

  obtain ⟨fs, hr, hrun, hended, hW, hsame⟩ := X0.leave (v := some (.long (0 : Int64))) (fun h => by rw [Bd.returns] at h; cases h) (BodyLoose.notSynchronized Bd)
  refine ⟨_, _, pre0 _ ?_, hrun, hended, _, _, rfl, ?_, ⟨_, rfl⟩, hW, hsame.mono (by decide) (by decide)⟩
  -- 4. STEPS
  · show Steps p.tables e below (s₁.setTop (mkF m 0 #[.val (.long q1), .second, .val (.int p2), .val (.int p3), .unset] [])) _
    refine XS.lloadN X0.here hx rfl (hb hby d3_0) rfl ?_
    show Steps p.tables e below (s₁.setTop (mkF m 1 #[.val (.long q1), .second, .val (.int p2), .val (.int p3), .unset] [(.long q1)])) _
    refine XS.bipush X0.here hx rfl (hb hby d3_1) ?_
    show Steps p.tables e below (s₁.setTop (mkF m 3 #[.val (.long q1), .second, .val (.int p2), .val (.int p3), .unset] [(.int (8 : Int32)), (.long q1)])) _
    refine XS.iloadN X0.here hx rfl (hb hby d3_3) rfl ?_
    show Steps p.tables e below (s₁.setTop (mkF m 4 #[.val (.long q1), .second, .val (.int p2), .val (.int p3), .unset] [(.int p2), (.int (8 : Int32)), (.long q1)])) _
    refine XS.imul X0.here hx rfl (hb hby d3_4) rfl ?_
    show Steps p.tables e below (s₁.setTop (mkF m 5 #[.val (.long q1), .second, .val (.int p2), .val (.int p3), .unset] [(.int ((8 : Int32) * p2)), (.long q1)])) _
    refine XS.lushr X0.here hx rfl (hb hby d3_5) rfl ?_
    show Steps p.tables e below (s₁.setTop (mkF m 6 #[.val (.long q1), .second, .val (.int p2), .val (.int p3), .unset] [(.long ((q1.toUInt64 >>> (((8 : Int32) * p2) &&& 0x3f).toInt64.toUInt64).toInt64))])) _
    refine X0.ldc2Long hx hown (mvT hZ (hw _ (List.mem_of_getElem? (i := 4) rfl))) (g := (mkF m 6 #[.val (.long q1), .second, .val (.int p2), .val (.int p3), .unset] [(.long ((q1.toUInt64 >>> (((8 : Int32) * p2) &&& 0x3f).toInt64.toUInt64).toInt64))])) rfl (hb hby d3_6) _ ?_
    show Steps p.tables e below (s₁.setTop (mkF m 9 #[.val (.long q1), .second, .val (.int p2), .val (.int p3), .unset] [(.long (255 : Int64)), (.long ((q1.toUInt64 >>> (((8 : Int32) * p2) &&& 0x3f).toInt64.toUInt64).toInt64))])) _
    refine XS.land X0.here hx rfl (hb hby d3_9) rfl ?_
    show Steps p.tables e below (s₁.setTop (mkF m 10 #[.val (.long q1), .second, .val (.int p2), .val (.int p3), .unset] [(.long (((q1.toUInt64 >>> (((8 : Int32) * p2) &&& 0x3f).toInt64.toUInt64).toInt64) &&& (255 : Int64)))])) _
    refine XS.l2i X0.here hx rfl (hb hby d3_10) rfl ?_
    show Steps p.tables e below (s₁.setTop (mkF m 11 #[.val (.long q1), .second, .val (.int p2), .val (.int p3), .unset] [(.int ((((q1.toUInt64 >>> (((8 : Int32) * p2) &&& 0x3f).toInt64.toUInt64).toInt64) &&& (255 : Int64)).toInt32))])) _
    refine XS.istore X0.here hx rfl (hb hby d3_11) rfl (l' := #[.val (.long q1), .second, .val (.int p2), .val (.int p3), .val (.int ((((q1.toUInt64 >>> (((8 : Int32) * p2) &&& 0x3f).toInt64.toUInt64).toInt64) &&& (255 : Int64)).toInt32))]) rfl ?_
    show Steps p.tables e below (s₁.setTop (mkF m 13 #[.val (.long q1), .second, .val (.int p2), .val (.int p3), .val (.int ((((q1.toUInt64 >>> (((8 : Int32) * p2) &&& 0x3f).toInt64.toUInt64).toInt64) &&& (255 : Int64)).toInt32))] [])) _
    refine XS.iload X0.here hx rfl (hb hby d3_13) rfl ?_
    show Steps p.tables e below (s₁.setTop (mkF m 15 #[.val (.long q1), .second, .val (.int p2), .val (.int p3), .val (.int ((((q1.toUInt64 >>> (((8 : Int32) * p2) &&& 0x3f).toInt64.toUInt64).toInt64) &&& (255 : Int64)).toInt32))] [(.int ((((q1.toUInt64 >>> (((8 : Int32) * p2) &&& 0x3f).toInt64.toUInt64).toInt64) &&& (255 : Int64)).toInt32))])) _
    refine XS.iloadN X0.here hx rfl (hb hby d3_15) rfl ?_
    show Steps p.tables e below (s₁.setTop (mkF m 16 #[.val (.long q1), .second, .val (.int p2), .val (.int p3), .val (.int ((((q1.toUInt64 >>> (((8 : Int32) * p2) &&& 0x3f).toInt64.toUInt64).toInt64) &&& (255 : Int64)).toInt32))] [(.int p3), (.int ((((q1.toUInt64 >>> (((8 : Int32) * p2) &&& 0x3f).toInt64.toUInt64).toInt64) &&& (255 : Int64)).toInt32))])) _
    refine XS.icmpYes X0.here hx rfl (pc0 := 16) (pc' := 30) rfl (hb hby d3_16) rfl (feq hc16).2 (by decide) (by decide) ?_
    show Steps p.tables e below (s₁.setTop (mkF m 30 #[.val (.long q1), .second, .val (.int p2), .val (.int p3), .val (.int ((((q1.toUInt64 >>> (((8 : Int32) * p2) &&& 0x3f).toInt64.toUInt64).toInt64) &&& (255 : Int64)).toInt32))] [])) _
    refine XS.lconst X0.here hx rfl (hb hby d3_30) ?_
    show Steps p.tables e below (s₁.setTop (mkF m 31 #[.val (.long q1), .second, .val (.int p2), .val (.int p3), .val (.int ((((q1.toUInt64 >>> (((8 : Int32) * p2) &&& 0x3f).toInt64.toUInt64).toInt64) &&& (255 : Int64)).toInt32))] [(.long (0 : Int64))])) _
    exact X0.lreturnOut hx Bd.returns (hb hby d3_31) hr
  · show Q3 Z q1 p2 p3 h0 n0 _ s₁.heap _
    rw [e0]
    exact ⟨(by unfold own_f3; rw [if_neg hc16]), N0, rfl⟩
set_option maxRecDepth 65536 in
set_option maxHeartbeats 40000000 in
theorem rm3_f (l : Launch) (Z : State) (a0 : Array Value) (hw : ∀ d ∈ tables_1, d.before a0 Z = true) (ws : List Jvm.Cond) (q1 : Int64) (p2 : Int32) (p3 : Int32) (h0 : Heap) (n0 : Nat) (Z0 : n0 ≤ h0.size) (hc16 : ((((q1.toUInt64 >>> (((8 : Int32) * p2) &&& 0x3f).toInt64.toUInt64).toInt64) &&& (255 : Int64)).toInt32) = p3) :
    MetFree l (⟨"com/example/recordframe/recordframe/cli/ByteWordsEqualToPinLaw", "eq", "(JII)J"⟩ : MethodName) (head1 (Jvm.Cond.code (⟨"com/example/recordframe/recordframe/cli/ByteWordsEqualToPinLaw", "eq", "(JII)J"⟩ : MethodName) method_4_code 5 (some .long) :: ws) ({ frames := 0, cells := 0, slots := 0, locals := 0 } : Room)) (fun a U => a = #[(.long q1), (.int p2), (.int p3)] ∧ Z.Warmed39 U.vm ∧ U.heap = h0) (fun _ _ _ _ _ => True) (fun _ U o U' => ∃ v L, o = .returned v ∧ Q3 Z q1 p2 p3 h0 n0 v U'.heap L ∧ FrameEnd U o U' L ({ frames := 0, cells := 0, slots := 0, locals := 0 } : Room).cells ({ frames := 0, cells := 0, slots := 0, locals := 0 } : Room).slots) := by
  refine MetFree.of_bodySF (plainFor_of_name pn_3) hisR ?_
  intro p e s m args below meth c s₁ Bd hml0 hP hK
  obtain ⟨rfl, hZ, hh⟩ := hP
  have hx := Bd.exec
  have hby := Bd.bytes
  have hml : c.maxLocals = 5 := hml0
  have hown : s.vm.findClass "com/example/recordframe/recordframe/cli/ByteWordsEqualToPinLaw" = some m.cls := findClass_of_methodNamed Bd.named
  have hnm := (name_of_methodNamed Bd.named Bd.method).1
  have X0 : Stand p l e ({ frames := 0, cells := 0, slots := 0, locals := 0 } : Room) s m #[(.long q1), (.int p2), (.int p3)] below meth c s₁ [] 0 0 := Stand.of_body Bd
  have e0 : s₁.heap = h0 := by rw [← hh, Bd.state]; rfl
  have N0 := Fr.nil n0
  have pre0 : ∀ t, Steps p.tables e below (s₁.setTop (mkF m 0 #[.val (.long q1), .second, .val (.int p2), .val (.int p3), .unset] [])) t → Steps p.tables e below (s₁.setTop (entryFrame m #[(.long q1), (.int p2), (.int p3)] 5)) t := fun t k => castTop (ef_3 m q1 p2 p3) k
  -- 3. LAWS

  obtain ⟨fs, hr, hrun, hended, hW, hsame⟩ := X0.leave (v := some (.long ((128 : Int64) <<< (((8 : Int32) * p2) &&& 0x3f).toInt64))) (fun h => by rw [Bd.returns] at h; cases h) (BodyLoose.notSynchronized Bd)
  refine ⟨_, _, pre0 _ ?_, hrun, hended, _, _, rfl, ?_, ⟨_, rfl⟩, hW, hsame.mono (by decide) (by decide)⟩
  -- 4. STEPS
  · show Steps p.tables e below (s₁.setTop (mkF m 0 #[.val (.long q1), .second, .val (.int p2), .val (.int p3), .unset] [])) _
    refine XS.lloadN X0.here hx rfl (hb hby d3_0) rfl ?_
    show Steps p.tables e below (s₁.setTop (mkF m 1 #[.val (.long q1), .second, .val (.int p2), .val (.int p3), .unset] [(.long q1)])) _
    refine XS.bipush X0.here hx rfl (hb hby d3_1) ?_
    show Steps p.tables e below (s₁.setTop (mkF m 3 #[.val (.long q1), .second, .val (.int p2), .val (.int p3), .unset] [(.int (8 : Int32)), (.long q1)])) _
    refine XS.iloadN X0.here hx rfl (hb hby d3_3) rfl ?_
    show Steps p.tables e below (s₁.setTop (mkF m 4 #[.val (.long q1), .second, .val (.int p2), .val (.int p3), .unset] [(.int p2), (.int (8 : Int32)), (.long q1)])) _
    refine XS.imul X0.here hx rfl (hb hby d3_4) rfl ?_
    show Steps p.tables e below (s₁.setTop (mkF m 5 #[.val (.long q1), .second, .val (.int p2), .val (.int p3), .unset] [(.int ((8 : Int32) * p2)), (.long q1)])) _
    refine XS.lushr X0.here hx rfl (hb hby d3_5) rfl ?_
    show Steps p.tables e below (s₁.setTop (mkF m 6 #[.val (.long q1), .second, .val (.int p2), .val (.int p3), .unset] [(.long ((q1.toUInt64 >>> (((8 : Int32) * p2) &&& 0x3f).toInt64.toUInt64).toInt64))])) _
    refine X0.ldc2Long hx hown (mvT hZ (hw _ (List.mem_of_getElem? (i := 4) rfl))) (g := (mkF m 6 #[.val (.long q1), .second, .val (.int p2), .val (.int p3), .unset] [(.long ((q1.toUInt64 >>> (((8 : Int32) * p2) &&& 0x3f).toInt64.toUInt64).toInt64))])) rfl (hb hby d3_6) _ ?_
    show Steps p.tables e below (s₁.setTop (mkF m 9 #[.val (.long q1), .second, .val (.int p2), .val (.int p3), .unset] [(.long (255 : Int64)), (.long ((q1.toUInt64 >>> (((8 : Int32) * p2) &&& 0x3f).toInt64.toUInt64).toInt64))])) _
    refine XS.land X0.here hx rfl (hb hby d3_9) rfl ?_
    show Steps p.tables e below (s₁.setTop (mkF m 10 #[.val (.long q1), .second, .val (.int p2), .val (.int p3), .unset] [(.long (((q1.toUInt64 >>> (((8 : Int32) * p2) &&& 0x3f).toInt64.toUInt64).toInt64) &&& (255 : Int64)))])) _
    refine XS.l2i X0.here hx rfl (hb hby d3_10) rfl ?_
    show Steps p.tables e below (s₁.setTop (mkF m 11 #[.val (.long q1), .second, .val (.int p2), .val (.int p3), .unset] [(.int ((((q1.toUInt64 >>> (((8 : Int32) * p2) &&& 0x3f).toInt64.toUInt64).toInt64) &&& (255 : Int64)).toInt32))])) _
    refine XS.istore X0.here hx rfl (hb hby d3_11) rfl (l' := #[.val (.long q1), .second, .val (.int p2), .val (.int p3), .val (.int ((((q1.toUInt64 >>> (((8 : Int32) * p2) &&& 0x3f).toInt64.toUInt64).toInt64) &&& (255 : Int64)).toInt32))]) rfl ?_
    show Steps p.tables e below (s₁.setTop (mkF m 13 #[.val (.long q1), .second, .val (.int p2), .val (.int p3), .val (.int ((((q1.toUInt64 >>> (((8 : Int32) * p2) &&& 0x3f).toInt64.toUInt64).toInt64) &&& (255 : Int64)).toInt32))] [])) _
    refine XS.iload X0.here hx rfl (hb hby d3_13) rfl ?_
    show Steps p.tables e below (s₁.setTop (mkF m 15 #[.val (.long q1), .second, .val (.int p2), .val (.int p3), .val (.int ((((q1.toUInt64 >>> (((8 : Int32) * p2) &&& 0x3f).toInt64.toUInt64).toInt64) &&& (255 : Int64)).toInt32))] [(.int ((((q1.toUInt64 >>> (((8 : Int32) * p2) &&& 0x3f).toInt64.toUInt64).toInt64) &&& (255 : Int64)).toInt32))])) _
    refine XS.iloadN X0.here hx rfl (hb hby d3_15) rfl ?_
    show Steps p.tables e below (s₁.setTop (mkF m 16 #[.val (.long q1), .second, .val (.int p2), .val (.int p3), .val (.int ((((q1.toUInt64 >>> (((8 : Int32) * p2) &&& 0x3f).toInt64.toUInt64).toInt64) &&& (255 : Int64)).toInt32))] [(.int p3), (.int ((((q1.toUInt64 >>> (((8 : Int32) * p2) &&& 0x3f).toInt64.toUInt64).toInt64) &&& (255 : Int64)).toInt32))])) _
    refine XS.icmpNo X0.here hx rfl (hb hby d3_16) rfl (teq hc16).2 ?_
    show Steps p.tables e below (s₁.setTop (mkF m 19 #[.val (.long q1), .second, .val (.int p2), .val (.int p3), .val (.int ((((q1.toUInt64 >>> (((8 : Int32) * p2) &&& 0x3f).toInt64.toUInt64).toInt64) &&& (255 : Int64)).toInt32))] [])) _
    refine X0.ldc2Long hx hown (mvT hZ (hw _ (List.mem_of_getElem? (i := 16) rfl))) (g := (mkF m 19 #[.val (.long q1), .second, .val (.int p2), .val (.int p3), .val (.int ((((q1.toUInt64 >>> (((8 : Int32) * p2) &&& 0x3f).toInt64.toUInt64).toInt64) &&& (255 : Int64)).toInt32))] [])) rfl (hb hby d3_19) _ ?_
    show Steps p.tables e below (s₁.setTop (mkF m 22 #[.val (.long q1), .second, .val (.int p2), .val (.int p3), .val (.int ((((q1.toUInt64 >>> (((8 : Int32) * p2) &&& 0x3f).toInt64.toUInt64).toInt64) &&& (255 : Int64)).toInt32))] [(.long (128 : Int64))])) _
    refine XS.bipush X0.here hx rfl (hb hby d3_22) ?_
    show Steps p.tables e below (s₁.setTop (mkF m 24 #[.val (.long q1), .second, .val (.int p2), .val (.int p3), .val (.int ((((q1.toUInt64 >>> (((8 : Int32) * p2) &&& 0x3f).toInt64.toUInt64).toInt64) &&& (255 : Int64)).toInt32))] [(.int (8 : Int32)), (.long (128 : Int64))])) _
    refine XS.iloadN X0.here hx rfl (hb hby d3_24) rfl ?_
    show Steps p.tables e below (s₁.setTop (mkF m 25 #[.val (.long q1), .second, .val (.int p2), .val (.int p3), .val (.int ((((q1.toUInt64 >>> (((8 : Int32) * p2) &&& 0x3f).toInt64.toUInt64).toInt64) &&& (255 : Int64)).toInt32))] [(.int p2), (.int (8 : Int32)), (.long (128 : Int64))])) _
    refine XS.imul X0.here hx rfl (hb hby d3_25) rfl ?_
    show Steps p.tables e below (s₁.setTop (mkF m 26 #[.val (.long q1), .second, .val (.int p2), .val (.int p3), .val (.int ((((q1.toUInt64 >>> (((8 : Int32) * p2) &&& 0x3f).toInt64.toUInt64).toInt64) &&& (255 : Int64)).toInt32))] [(.int ((8 : Int32) * p2)), (.long (128 : Int64))])) _
    refine XS.lshl X0.here hx rfl (hb hby d3_26) rfl ?_
    show Steps p.tables e below (s₁.setTop (mkF m 27 #[.val (.long q1), .second, .val (.int p2), .val (.int p3), .val (.int ((((q1.toUInt64 >>> (((8 : Int32) * p2) &&& 0x3f).toInt64.toUInt64).toInt64) &&& (255 : Int64)).toInt32))] [(.long ((128 : Int64) <<< (((8 : Int32) * p2) &&& 0x3f).toInt64))])) _
    refine XS.goto X0.here hx rfl (pc0 := 27) (pc' := 31) rfl (hb hby d3_27) (by decide) (by decide) ?_
    show Steps p.tables e below (s₁.setTop (mkF m 31 #[.val (.long q1), .second, .val (.int p2), .val (.int p3), .val (.int ((((q1.toUInt64 >>> (((8 : Int32) * p2) &&& 0x3f).toInt64.toUInt64).toInt64) &&& (255 : Int64)).toInt32))] [(.long ((128 : Int64) <<< (((8 : Int32) * p2) &&& 0x3f).toInt64))])) _
    exact X0.lreturnOut hx Bd.returns (hb hby d3_31) hr
  · show Q3 Z q1 p2 p3 h0 n0 _ s₁.heap _
    rw [e0]
    exact ⟨(by unfold own_f3; rw [if_pos hc16]), N0, rfl⟩
set_option maxRecDepth 65536 in
set_option maxHeartbeats 40000000 in
theorem rm3 (l : Launch) (Z : State) (a0 : Array Value) (hw : ∀ d ∈ tables_1, d.before a0 Z = true) (ws : List Jvm.Cond) (q1 : Int64) (p2 : Int32) (p3 : Int32) (h0 : Heap) (n0 : Nat) (Z0 : n0 ≤ h0.size)  :
    MetFree l (⟨"com/example/recordframe/recordframe/cli/ByteWordsEqualToPinLaw", "eq", "(JII)J"⟩ : MethodName) (head1 (Jvm.Cond.code (⟨"com/example/recordframe/recordframe/cli/ByteWordsEqualToPinLaw", "eq", "(JII)J"⟩ : MethodName) method_4_code 5 (some .long) :: ws) ({ frames := 0, cells := 0, slots := 0, locals := 0 } : Room)) (fun a U => a = #[(.long q1), (.int p2), (.int p3)] ∧ Z.Warmed39 U.vm ∧ U.heap = h0) (fun _ _ _ _ _ => True) (fun _ U o U' => ∃ v L, o = .returned v ∧ Q3 Z q1 p2 p3 h0 n0 v U'.heap L ∧ FrameEnd U o U' L ({ frames := 0, cells := 0, slots := 0, locals := 0 } : Room).cells ({ frames := 0, cells := 0, slots := 0, locals := 0 } : Room).slots) := by
  by_cases hc16 : ((((q1.toUInt64 >>> (((8 : Int32) * p2) &&& 0x3f).toInt64.toUInt64).toInt64) &&& (255 : Int64)).toInt32) = p3
  · exact rm3_f l Z a0 hw ws q1 p2 p3 h0 n0 Z0 hc16
  · exact rm3_t l Z a0 hw ws q1 p2 p3 h0 n0 Z0 hc16
theorem pn_0 : plainName "com/example/recordframe/recordframe/cli/ByteWordsEqualToPinLaw" = true := by first | (simp [plainName, overriddenIn]; done) | decide +kernel
theorem pd_0_0 : parseMethodDescriptor "(JIII)J" = some ⟨[.long, .int, .int, .int], some .long⟩ := by decide +kernel
theorem pd_0_1 : parseMethodDescriptor "(JB)J" = some ⟨[.long, .byte], some .long⟩ := by decide +kernel
theorem pd_0_2 : parseMethodDescriptor "(JII)J" = some ⟨[.long, .int, .int], some .long⟩ := by decide +kernel
theorem ef_0 (m : MethodId) (x0 : Int64) (x1 : Int32) (x2 : Int32) : entryFrame m #[(.long x0), (.int x1), (.int x2)] maxLocals = mkF m 0 #[.val (.long x0), .second, .val (.int x1), .val (.int x2), .unset, .unset, .unset, .unset, .unset, .unset, .unset, .unset, .unset, .unset, .unset, .unset, .unset] [] := by first | (simp [entryFrame, mkF, argsToLocals, Value.category, maxLocals]; done) | rfl
def Q0 (Z : State) (q1 : Int64) (p2 : Int32) (p3 : Int32) (h0 : Heap) (n0 : Nat) (v : Option Value) (h : Heap) (L : List Loc) : Prop := v = some (.int (1 : Int32)) ∧ Fr n0 L
set_option maxRecDepth 65536 in
set_option maxHeartbeats 40000000 in
theorem rm0_x (l : Launch) (Z : State) (a0 : Array Value) (hw : ∀ d ∈ tables_1, d.before a0 Z = true) (ws : List Jvm.Cond) (q1 : Int64) (p2 : Int32) (p3 : Int32) (r4 : Int64) (r5 : Int64) (r6 : Int64) (r7 : Int64) (r8 : Int64) (r9 : Int64) (r10 : Int64) (r11 : Int64) (r12 : Int64) (r13 : Int64) (r14 : Int64) (r15 : Int64) (r16 : Int64) (r17 : Int64) (r18 : Int64) (r19 : Int64) (r20 : Int64) (h0 : Heap) (n0 : Nat) (Z0 : n0 ≤ h0.size) (hr4 : (own_f1 q1 (0 : Int32) p3 ((p2.toInt8.toInt32) &&& (255 : Int32))) = r4) (hr5 : (own_f1 r4 (1 : Int32) p3 ((p2.toInt8.toInt32) &&& (255 : Int32))) = r5) (hr6 : (own_f1 r5 (2 : Int32) p3 ((p2.toInt8.toInt32) &&& (255 : Int32))) = r6) (hr7 : (own_f1 r6 (3 : Int32) p3 ((p2.toInt8.toInt32) &&& (255 : Int32))) = r7) (hr8 : (own_f1 r7 (4 : Int32) p3 ((p2.toInt8.toInt32) &&& (255 : Int32))) = r8) (hr9 : (own_f1 r8 (5 : Int32) p3 ((p2.toInt8.toInt32) &&& (255 : Int32))) = r9) (hr10 : (own_f1 r9 (6 : Int32) p3 ((p2.toInt8.toInt32) &&& (255 : Int32))) = r10) (hr11 : (own_f1 r10 (7 : Int32) p3 ((p2.toInt8.toInt32) &&& (255 : Int32))) = r11) (hr12 : (own_f2 r11 (p2.toInt8.toInt32)) = r12) (hr13 : (own_f3 r11 (0 : Int32) ((p2.toInt8.toInt32) &&& (255 : Int32))) = r13) (hr14 : (own_f3 r11 (1 : Int32) ((p2.toInt8.toInt32) &&& (255 : Int32))) = r14) (hr15 : (own_f3 r11 (2 : Int32) ((p2.toInt8.toInt32) &&& (255 : Int32))) = r15) (hr16 : (own_f3 r11 (3 : Int32) ((p2.toInt8.toInt32) &&& (255 : Int32))) = r16) (hr17 : (own_f3 r11 (4 : Int32) ((p2.toInt8.toInt32) &&& (255 : Int32))) = r17) (hr18 : (own_f3 r11 (5 : Int32) ((p2.toInt8.toInt32) &&& (255 : Int32))) = r18) (hr19 : (own_f3 r11 (6 : Int32) ((p2.toInt8.toInt32) &&& (255 : Int32))) = r19) (hr20 : (own_f3 r11 (7 : Int32) ((p2.toInt8.toInt32) &&& (255 : Int32))) = r20) (ht239 : (lcmpW (r12 &&& (9187201950435737471 : Int64)) (0 : Int64)) = (0 : Int32)) (ht257 : (lcmpW (r12 &&& (((((((((0 : Int64) ||| r13) ||| r14) ||| r15) ||| r16) ||| r17) ||| r18) ||| r19) ||| r20)) (((((((((0 : Int64) ||| r13) ||| r14) ||| r15) ||| r16) ||| r17) ||| r18) ||| r19) ||| r20)) = (0 : Int32)) (ht276 : (lcmpW (r12 &&& (((((((((((0 : Int64) ||| r13) ||| r14) ||| r15) ||| r16) ||| r17) ||| r18) ||| r19) ||| r20) &&& (-(((((((((0 : Int64) ||| r13) ||| r14) ||| r15) ||| r16) ||| r17) ||| r18) ||| r19) ||| r20))) - (1 : Int64))) (0 : Int64)) = (0 : Int32)) (hc288 : ¬ ((1 : Int32) = (0 : Int32))) (hc293 : ¬ ((1 : Int32) = (0 : Int32))) (hc298 : ¬ ((1 : Int32) = (0 : Int32))) :
    MetFree l x (head1 (Jvm.Cond.code x code maxLocals ret :: ws) room_1) (fun a U => a = #[(.long q1), (.int p2), (.int p3)] ∧ Z.Warmed39 U.vm ∧ U.heap = h0) (fun _ _ _ _ _ => True) (fun _ U o U' => ∃ v L, o = .returned v ∧ Q0 Z q1 p2 p3 h0 n0 v U'.heap L ∧ FrameEnd U o U' L room_1.cells room_1.slots) := by
  refine MetFree.of_bodySF (plainFor_of_name pn_0) hisR ?_
  intro p e s m args below meth c s₁ Bd hml0 hP hK
  obtain ⟨rfl, hZ, hh⟩ := hP
  have hx := Bd.exec
  have hby := Bd.bytes
  have hml : c.maxLocals = 17 := hml0
  have hown : s.vm.findClass "com/example/recordframe/recordframe/cli/ByteWordsEqualToPinLaw" = some m.cls := findClass_of_methodNamed Bd.named
  have hnm := (name_of_methodNamed Bd.named Bd.method).1
  have X0 : Stand p l e room_1 s m #[(.long q1), (.int p2), (.int p3)] below meth c s₁ [] 0 0 := Stand.of_body Bd
  have e0 : s₁.heap = h0 := by rw [← hh, Bd.state]; rfl
  have N0 := Fr.nil n0
  have pre0 : ∀ t, Steps p.tables e below (s₁.setTop (mkF m 0 #[.val (.long q1), .second, .val (.int p2), .val (.int p3), .unset, .unset, .unset, .unset, .unset, .unset, .unset, .unset, .unset, .unset, .unset, .unset, .unset] [])) t → Steps p.tables e below (s₁.setTop (entryFrame m #[(.long q1), (.int p2), (.int p3)] maxLocals)) t := fun t k => castTop (ef_0 m q1 p2 p3) k
  -- 3. LAWS
  -- pc 21: com/example/recordframe/recordframe/cli/ByteWordsEqualToPinLaw.place by its contract rm1
  obtain ⟨_, _, ⟨T4, L4, k4, n4⟩, -, X4, ⟨Lc4, hQ4, l4, y4, z4⟩, st4⟩ := Jvm.LawKit.callS X0 hx (y := (⟨"com/example/recordframe/recordframe/cli/ByteWordsEqualToPinLaw", "place", "(JIII)J"⟩ : MethodName)) hown (mvT hZ (hw _ (List.mem_of_getElem? (i := 0) rfl))) (mvT hZ (hw _ (List.mem_of_getElem? (i := 1) rfl))) (mvT hZ (hw _ (List.mem_of_getElem? (i := 2) rfl))) (mvT hZ (hw _ (List.mem_of_getElem? (i := 3) rfl))) (by decide) (backOf (W := 0) (rm1 l Z a0 hw [] q1 (0 : Int32) p3 ((p2.toInt8.toInt32) &&& (255 : Int32))  h0 n0 Z0) hZ (hw _ (List.mem_of_getElem? (i := 3) rfl)) (hw _ (List.mem_of_getElem? (i := 2) rfl)) (by decide) (by decide)) (g := (mkF m 21 #[.val (.long q1), .second, .val (.int p2), .val (.int p3), .val (.int (p2.toInt8.toInt32)), .val (.int ((p2.toInt8.toInt32) &&& (255 : Int32))), .val (.long q1), .second, .unset, .unset, .unset, .unset, .unset, .unset, .unset, .unset, .unset] [(.int ((p2.toInt8.toInt32) &&& (255 : Int32))), (.int p3), (.int (0 : Int32)), (.long q1)])) rfl (by rw [hml]; rfl) (argsL := [(.long q1), (.int (0 : Int32)), (.int p3), (.int ((p2.toInt8.toInt32) &&& (255 : Int32)))]) (rest := []) (lenOf pd_0_0 rfl) rfl (by show 2 * 0 + _ ≤ _; exact Nat.le_of_eq rfl) (hb hby at_21) (fun _ _ => ⟨rfl, e0, (by decide : 0 + 0 ≤ _), (by decide : 0 + 0 ≤ _)⟩)
  dsimp only [Pt.U, Pt.locs, Pt.cells, Pt.slots] at X4 l4 y4 z4 st4 hQ4
  subst l4 y4 z4
  obtain ⟨rfl, N4q, e4q⟩ := hQ4
  rw [hr4] at st4
  have N4 := Fr.app N0 N4q
  have K4q : Keep h0 T4.heap [] := own_keep e4q
  have KH4 : Keep h0 T4.heap [] := (Keep.refl h0 []).trans K4q own_ws0
  have eh4 : T4.heap = h0 := by rw [e4q]
  -- pc 32: com/example/recordframe/recordframe/cli/ByteWordsEqualToPinLaw.place by its contract rm1
  obtain ⟨_, _, ⟨T5, L5, k5, n5⟩, -, X5, ⟨Lc5, hQ5, l5, y5, z5⟩, st5⟩ := Jvm.LawKit.callS X4 hx (y := (⟨"com/example/recordframe/recordframe/cli/ByteWordsEqualToPinLaw", "place", "(JIII)J"⟩ : MethodName)) hown (mvT hZ (hw _ (List.mem_of_getElem? (i := 0) rfl))) (mvT hZ (hw _ (List.mem_of_getElem? (i := 1) rfl))) (mvT hZ (hw _ (List.mem_of_getElem? (i := 2) rfl))) (mvT hZ (hw _ (List.mem_of_getElem? (i := 3) rfl))) (by decide) (backOf (W := 0) (rm1 l Z a0 hw [] r4 (1 : Int32) p3 ((p2.toInt8.toInt32) &&& (255 : Int32))  T4.heap n0 (Nat.le_trans Z0 KH4.1)) hZ (hw _ (List.mem_of_getElem? (i := 3) rfl)) (hw _ (List.mem_of_getElem? (i := 2) rfl)) (by decide) (by decide)) (g := (mkF m 32 #[.val (.long q1), .second, .val (.int p2), .val (.int p3), .val (.int (p2.toInt8.toInt32)), .val (.int ((p2.toInt8.toInt32) &&& (255 : Int32))), .val (.long r4), .second, .unset, .unset, .unset, .unset, .unset, .unset, .unset, .unset, .unset] [(.int ((p2.toInt8.toInt32) &&& (255 : Int32))), (.int p3), (.int (1 : Int32)), (.long r4)])) rfl (by rw [hml]; rfl) (argsL := [(.long r4), (.int (1 : Int32)), (.int p3), (.int ((p2.toInt8.toInt32) &&& (255 : Int32)))]) (rest := []) (lenOf pd_0_0 rfl) rfl (by show 2 * 0 + _ ≤ _; exact Nat.le_of_eq rfl) (hb hby at_32) (fun _ _ => ⟨rfl, rfl, (by decide : 0 + 0 ≤ _), (by decide : 0 + 0 ≤ _)⟩)
  dsimp only [Pt.U, Pt.locs, Pt.cells, Pt.slots] at X5 l5 y5 z5 st5 hQ5
  subst l5 y5 z5
  obtain ⟨rfl, N5q, e5q⟩ := hQ5
  rw [hr5] at st5
  have N5 := Fr.app N4 N5q
  have K5q : Keep T4.heap T5.heap [] := own_keep e5q
  have KH5 : Keep h0 T5.heap [] := KH4.trans K5q own_ws0
  have eh5 : T5.heap = h0 := by rw [e5q]; exact eh4
  -- pc 43: com/example/recordframe/recordframe/cli/ByteWordsEqualToPinLaw.place by its contract rm1
  obtain ⟨_, _, ⟨T6, L6, k6, n6⟩, -, X6, ⟨Lc6, hQ6, l6, y6, z6⟩, st6⟩ := Jvm.LawKit.callS X5 hx (y := (⟨"com/example/recordframe/recordframe/cli/ByteWordsEqualToPinLaw", "place", "(JIII)J"⟩ : MethodName)) hown (mvT hZ (hw _ (List.mem_of_getElem? (i := 0) rfl))) (mvT hZ (hw _ (List.mem_of_getElem? (i := 1) rfl))) (mvT hZ (hw _ (List.mem_of_getElem? (i := 2) rfl))) (mvT hZ (hw _ (List.mem_of_getElem? (i := 3) rfl))) (by decide) (backOf (W := 0) (rm1 l Z a0 hw [] r5 (2 : Int32) p3 ((p2.toInt8.toInt32) &&& (255 : Int32))  T5.heap n0 (Nat.le_trans Z0 KH5.1)) hZ (hw _ (List.mem_of_getElem? (i := 3) rfl)) (hw _ (List.mem_of_getElem? (i := 2) rfl)) (by decide) (by decide)) (g := (mkF m 43 #[.val (.long q1), .second, .val (.int p2), .val (.int p3), .val (.int (p2.toInt8.toInt32)), .val (.int ((p2.toInt8.toInt32) &&& (255 : Int32))), .val (.long r5), .second, .unset, .unset, .unset, .unset, .unset, .unset, .unset, .unset, .unset] [(.int ((p2.toInt8.toInt32) &&& (255 : Int32))), (.int p3), (.int (2 : Int32)), (.long r5)])) rfl (by rw [hml]; rfl) (argsL := [(.long r5), (.int (2 : Int32)), (.int p3), (.int ((p2.toInt8.toInt32) &&& (255 : Int32)))]) (rest := []) (lenOf pd_0_0 rfl) rfl (by show 2 * 0 + _ ≤ _; exact Nat.le_of_eq rfl) (hb hby at_43) (fun _ _ => ⟨rfl, rfl, (by decide : 0 + 0 ≤ _), (by decide : 0 + 0 ≤ _)⟩)
  dsimp only [Pt.U, Pt.locs, Pt.cells, Pt.slots] at X6 l6 y6 z6 st6 hQ6
  subst l6 y6 z6
  obtain ⟨rfl, N6q, e6q⟩ := hQ6
  rw [hr6] at st6
  have N6 := Fr.app N5 N6q
  have K6q : Keep T5.heap T6.heap [] := own_keep e6q
  have KH6 : Keep h0 T6.heap [] := KH5.trans K6q own_ws0
  have eh6 : T6.heap = h0 := by rw [e6q]; exact eh5
  -- pc 54: com/example/recordframe/recordframe/cli/ByteWordsEqualToPinLaw.place by its contract rm1
  obtain ⟨_, _, ⟨T7, L7, k7, n7⟩, -, X7, ⟨Lc7, hQ7, l7, y7, z7⟩, st7⟩ := Jvm.LawKit.callS X6 hx (y := (⟨"com/example/recordframe/recordframe/cli/ByteWordsEqualToPinLaw", "place", "(JIII)J"⟩ : MethodName)) hown (mvT hZ (hw _ (List.mem_of_getElem? (i := 0) rfl))) (mvT hZ (hw _ (List.mem_of_getElem? (i := 1) rfl))) (mvT hZ (hw _ (List.mem_of_getElem? (i := 2) rfl))) (mvT hZ (hw _ (List.mem_of_getElem? (i := 3) rfl))) (by decide) (backOf (W := 0) (rm1 l Z a0 hw [] r6 (3 : Int32) p3 ((p2.toInt8.toInt32) &&& (255 : Int32))  T6.heap n0 (Nat.le_trans Z0 KH6.1)) hZ (hw _ (List.mem_of_getElem? (i := 3) rfl)) (hw _ (List.mem_of_getElem? (i := 2) rfl)) (by decide) (by decide)) (g := (mkF m 54 #[.val (.long q1), .second, .val (.int p2), .val (.int p3), .val (.int (p2.toInt8.toInt32)), .val (.int ((p2.toInt8.toInt32) &&& (255 : Int32))), .val (.long r6), .second, .unset, .unset, .unset, .unset, .unset, .unset, .unset, .unset, .unset] [(.int ((p2.toInt8.toInt32) &&& (255 : Int32))), (.int p3), (.int (3 : Int32)), (.long r6)])) rfl (by rw [hml]; rfl) (argsL := [(.long r6), (.int (3 : Int32)), (.int p3), (.int ((p2.toInt8.toInt32) &&& (255 : Int32)))]) (rest := []) (lenOf pd_0_0 rfl) rfl (by show 2 * 0 + _ ≤ _; exact Nat.le_of_eq rfl) (hb hby at_54) (fun _ _ => ⟨rfl, rfl, (by decide : 0 + 0 ≤ _), (by decide : 0 + 0 ≤ _)⟩)
  dsimp only [Pt.U, Pt.locs, Pt.cells, Pt.slots] at X7 l7 y7 z7 st7 hQ7
  subst l7 y7 z7
  obtain ⟨rfl, N7q, e7q⟩ := hQ7
  rw [hr7] at st7
  have N7 := Fr.app N6 N7q
  have K7q : Keep T6.heap T7.heap [] := own_keep e7q
  have KH7 : Keep h0 T7.heap [] := KH6.trans K7q own_ws0
  have eh7 : T7.heap = h0 := by rw [e7q]; exact eh6
  -- pc 65: com/example/recordframe/recordframe/cli/ByteWordsEqualToPinLaw.place by its contract rm1
  obtain ⟨_, _, ⟨T8, L8, k8, n8⟩, -, X8, ⟨Lc8, hQ8, l8, y8, z8⟩, st8⟩ := Jvm.LawKit.callS X7 hx (y := (⟨"com/example/recordframe/recordframe/cli/ByteWordsEqualToPinLaw", "place", "(JIII)J"⟩ : MethodName)) hown (mvT hZ (hw _ (List.mem_of_getElem? (i := 0) rfl))) (mvT hZ (hw _ (List.mem_of_getElem? (i := 1) rfl))) (mvT hZ (hw _ (List.mem_of_getElem? (i := 2) rfl))) (mvT hZ (hw _ (List.mem_of_getElem? (i := 3) rfl))) (by decide) (backOf (W := 0) (rm1 l Z a0 hw [] r7 (4 : Int32) p3 ((p2.toInt8.toInt32) &&& (255 : Int32))  T7.heap n0 (Nat.le_trans Z0 KH7.1)) hZ (hw _ (List.mem_of_getElem? (i := 3) rfl)) (hw _ (List.mem_of_getElem? (i := 2) rfl)) (by decide) (by decide)) (g := (mkF m 65 #[.val (.long q1), .second, .val (.int p2), .val (.int p3), .val (.int (p2.toInt8.toInt32)), .val (.int ((p2.toInt8.toInt32) &&& (255 : Int32))), .val (.long r7), .second, .unset, .unset, .unset, .unset, .unset, .unset, .unset, .unset, .unset] [(.int ((p2.toInt8.toInt32) &&& (255 : Int32))), (.int p3), (.int (4 : Int32)), (.long r7)])) rfl (by rw [hml]; rfl) (argsL := [(.long r7), (.int (4 : Int32)), (.int p3), (.int ((p2.toInt8.toInt32) &&& (255 : Int32)))]) (rest := []) (lenOf pd_0_0 rfl) rfl (by show 2 * 0 + _ ≤ _; exact Nat.le_of_eq rfl) (hb hby at_65) (fun _ _ => ⟨rfl, rfl, (by decide : 0 + 0 ≤ _), (by decide : 0 + 0 ≤ _)⟩)
  dsimp only [Pt.U, Pt.locs, Pt.cells, Pt.slots] at X8 l8 y8 z8 st8 hQ8
  subst l8 y8 z8
  obtain ⟨rfl, N8q, e8q⟩ := hQ8
  rw [hr8] at st8
  have N8 := Fr.app N7 N8q
  have K8q : Keep T7.heap T8.heap [] := own_keep e8q
  have KH8 : Keep h0 T8.heap [] := KH7.trans K8q own_ws0
  have eh8 : T8.heap = h0 := by rw [e8q]; exact eh7
  -- pc 76: com/example/recordframe/recordframe/cli/ByteWordsEqualToPinLaw.place by its contract rm1
  obtain ⟨_, _, ⟨T9, L9, k9, n9⟩, -, X9, ⟨Lc9, hQ9, l9, y9, z9⟩, st9⟩ := Jvm.LawKit.callS X8 hx (y := (⟨"com/example/recordframe/recordframe/cli/ByteWordsEqualToPinLaw", "place", "(JIII)J"⟩ : MethodName)) hown (mvT hZ (hw _ (List.mem_of_getElem? (i := 0) rfl))) (mvT hZ (hw _ (List.mem_of_getElem? (i := 1) rfl))) (mvT hZ (hw _ (List.mem_of_getElem? (i := 2) rfl))) (mvT hZ (hw _ (List.mem_of_getElem? (i := 3) rfl))) (by decide) (backOf (W := 0) (rm1 l Z a0 hw [] r8 (5 : Int32) p3 ((p2.toInt8.toInt32) &&& (255 : Int32))  T8.heap n0 (Nat.le_trans Z0 KH8.1)) hZ (hw _ (List.mem_of_getElem? (i := 3) rfl)) (hw _ (List.mem_of_getElem? (i := 2) rfl)) (by decide) (by decide)) (g := (mkF m 76 #[.val (.long q1), .second, .val (.int p2), .val (.int p3), .val (.int (p2.toInt8.toInt32)), .val (.int ((p2.toInt8.toInt32) &&& (255 : Int32))), .val (.long r8), .second, .unset, .unset, .unset, .unset, .unset, .unset, .unset, .unset, .unset] [(.int ((p2.toInt8.toInt32) &&& (255 : Int32))), (.int p3), (.int (5 : Int32)), (.long r8)])) rfl (by rw [hml]; rfl) (argsL := [(.long r8), (.int (5 : Int32)), (.int p3), (.int ((p2.toInt8.toInt32) &&& (255 : Int32)))]) (rest := []) (lenOf pd_0_0 rfl) rfl (by show 2 * 0 + _ ≤ _; exact Nat.le_of_eq rfl) (hb hby at_76) (fun _ _ => ⟨rfl, rfl, (by decide : 0 + 0 ≤ _), (by decide : 0 + 0 ≤ _)⟩)
  dsimp only [Pt.U, Pt.locs, Pt.cells, Pt.slots] at X9 l9 y9 z9 st9 hQ9
  subst l9 y9 z9
  obtain ⟨rfl, N9q, e9q⟩ := hQ9
  rw [hr9] at st9
  have N9 := Fr.app N8 N9q
  have K9q : Keep T8.heap T9.heap [] := own_keep e9q
  have KH9 : Keep h0 T9.heap [] := KH8.trans K9q own_ws0
  have eh9 : T9.heap = h0 := by rw [e9q]; exact eh8
  -- pc 88: com/example/recordframe/recordframe/cli/ByteWordsEqualToPinLaw.place by its contract rm1
  obtain ⟨_, _, ⟨T10, L10, k10, n10⟩, -, X10, ⟨Lc10, hQ10, l10, y10, z10⟩, st10⟩ := Jvm.LawKit.callS X9 hx (y := (⟨"com/example/recordframe/recordframe/cli/ByteWordsEqualToPinLaw", "place", "(JIII)J"⟩ : MethodName)) hown (mvT hZ (hw _ (List.mem_of_getElem? (i := 0) rfl))) (mvT hZ (hw _ (List.mem_of_getElem? (i := 1) rfl))) (mvT hZ (hw _ (List.mem_of_getElem? (i := 2) rfl))) (mvT hZ (hw _ (List.mem_of_getElem? (i := 3) rfl))) (by decide) (backOf (W := 0) (rm1 l Z a0 hw [] r9 (6 : Int32) p3 ((p2.toInt8.toInt32) &&& (255 : Int32))  T9.heap n0 (Nat.le_trans Z0 KH9.1)) hZ (hw _ (List.mem_of_getElem? (i := 3) rfl)) (hw _ (List.mem_of_getElem? (i := 2) rfl)) (by decide) (by decide)) (g := (mkF m 88 #[.val (.long q1), .second, .val (.int p2), .val (.int p3), .val (.int (p2.toInt8.toInt32)), .val (.int ((p2.toInt8.toInt32) &&& (255 : Int32))), .val (.long r9), .second, .unset, .unset, .unset, .unset, .unset, .unset, .unset, .unset, .unset] [(.int ((p2.toInt8.toInt32) &&& (255 : Int32))), (.int p3), (.int (6 : Int32)), (.long r9)])) rfl (by rw [hml]; rfl) (argsL := [(.long r9), (.int (6 : Int32)), (.int p3), (.int ((p2.toInt8.toInt32) &&& (255 : Int32)))]) (rest := []) (lenOf pd_0_0 rfl) rfl (by show 2 * 0 + _ ≤ _; exact Nat.le_of_eq rfl) (hb hby at_88) (fun _ _ => ⟨rfl, rfl, (by decide : 0 + 0 ≤ _), (by decide : 0 + 0 ≤ _)⟩)
  dsimp only [Pt.U, Pt.locs, Pt.cells, Pt.slots] at X10 l10 y10 z10 st10 hQ10
  subst l10 y10 z10
  obtain ⟨rfl, N10q, e10q⟩ := hQ10
  rw [hr10] at st10
  have N10 := Fr.app N9 N10q
  have K10q : Keep T9.heap T10.heap [] := own_keep e10q
  have KH10 : Keep h0 T10.heap [] := KH9.trans K10q own_ws0
  have eh10 : T10.heap = h0 := by rw [e10q]; exact eh9
  -- pc 100: com/example/recordframe/recordframe/cli/ByteWordsEqualToPinLaw.place by its contract rm1
  obtain ⟨_, _, ⟨T11, L11, k11, n11⟩, -, X11, ⟨Lc11, hQ11, l11, y11, z11⟩, st11⟩ := Jvm.LawKit.callS X10 hx (y := (⟨"com/example/recordframe/recordframe/cli/ByteWordsEqualToPinLaw", "place", "(JIII)J"⟩ : MethodName)) hown (mvT hZ (hw _ (List.mem_of_getElem? (i := 0) rfl))) (mvT hZ (hw _ (List.mem_of_getElem? (i := 1) rfl))) (mvT hZ (hw _ (List.mem_of_getElem? (i := 2) rfl))) (mvT hZ (hw _ (List.mem_of_getElem? (i := 3) rfl))) (by decide) (backOf (W := 0) (rm1 l Z a0 hw [] r10 (7 : Int32) p3 ((p2.toInt8.toInt32) &&& (255 : Int32))  T10.heap n0 (Nat.le_trans Z0 KH10.1)) hZ (hw _ (List.mem_of_getElem? (i := 3) rfl)) (hw _ (List.mem_of_getElem? (i := 2) rfl)) (by decide) (by decide)) (g := (mkF m 100 #[.val (.long q1), .second, .val (.int p2), .val (.int p3), .val (.int (p2.toInt8.toInt32)), .val (.int ((p2.toInt8.toInt32) &&& (255 : Int32))), .val (.long r10), .second, .unset, .unset, .unset, .unset, .unset, .unset, .unset, .unset, .unset] [(.int ((p2.toInt8.toInt32) &&& (255 : Int32))), (.int p3), (.int (7 : Int32)), (.long r10)])) rfl (by rw [hml]; rfl) (argsL := [(.long r10), (.int (7 : Int32)), (.int p3), (.int ((p2.toInt8.toInt32) &&& (255 : Int32)))]) (rest := []) (lenOf pd_0_0 rfl) rfl (by show 2 * 0 + _ ≤ _; exact Nat.le_of_eq rfl) (hb hby at_100) (fun _ _ => ⟨rfl, rfl, (by decide : 0 + 0 ≤ _), (by decide : 0 + 0 ≤ _)⟩)
  dsimp only [Pt.U, Pt.locs, Pt.cells, Pt.slots] at X11 l11 y11 z11 st11 hQ11
  subst l11 y11 z11
  obtain ⟨rfl, N11q, e11q⟩ := hQ11
  rw [hr11] at st11
  have N11 := Fr.app N10 N11q
  have K11q : Keep T10.heap T11.heap [] := own_keep e11q
  have KH11 : Keep h0 T11.heap [] := KH10.trans K11q own_ws0
  have eh11 : T11.heap = h0 := by rw [e11q]; exact eh10
  -- pc 109: com/example/recordframe/recordframe/cli/ByteWords.equalTo by its contract rm2
  obtain ⟨_, _, ⟨T12, L12, k12, n12⟩, -, X12, ⟨Lc12, hQ12, l12, y12, z12⟩, st12⟩ := Jvm.LawKit.callS X11 hx (y := (⟨"com/example/recordframe/recordframe/cli/ByteWords", "equalTo", "(JB)J"⟩ : MethodName)) hown (mvT hZ (hw _ (List.mem_of_getElem? (i := 6) rfl))) (mvT hZ (hw _ (List.mem_of_getElem? (i := 7) rfl))) (mvT hZ (hw _ (List.mem_of_getElem? (i := 8) rfl))) (mvT hZ (hw _ (List.mem_of_getElem? (i := 9) rfl))) (by decide) (backOf (W := 0) (rm2 l Z a0 hw [] r11 (p2.toInt8.toInt32)  T11.heap n0 (Nat.le_trans Z0 KH11.1)) hZ (hw _ (List.mem_of_getElem? (i := 9) rfl)) (hw _ (List.mem_of_getElem? (i := 8) rfl)) (by decide) (by decide)) (g := (mkF m 109 #[.val (.long q1), .second, .val (.int p2), .val (.int p3), .val (.int (p2.toInt8.toInt32)), .val (.int ((p2.toInt8.toInt32) &&& (255 : Int32))), .val (.long r11), .second, .unset, .unset, .unset, .unset, .unset, .unset, .unset, .unset, .unset] [(.int (p2.toInt8.toInt32)), (.long r11)])) rfl (by rw [hml]; rfl) (argsL := [(.long r11), (.int (p2.toInt8.toInt32))]) (rest := []) (lenOf pd_0_1 rfl) rfl (by show 2 * 0 + _ ≤ _; exact Nat.le_of_eq rfl) (hb hby at_109) (fun _ _ => ⟨rfl, rfl, (by decide : 0 + 0 ≤ _), (by decide : 0 + 0 ≤ _)⟩)
  dsimp only [Pt.U, Pt.locs, Pt.cells, Pt.slots] at X12 l12 y12 z12 st12 hQ12
  subst l12 y12 z12
  obtain ⟨rfl, N12q, e12q⟩ := hQ12
  rw [hr12] at st12
  have N12 := Fr.app N11 N12q
  have K12q : Keep T11.heap T12.heap [] := own_keep e12q
  have KH12 : Keep h0 T12.heap [] := KH11.trans K12q own_ws0
  have eh12 : T12.heap = h0 := by rw [e12q]; exact eh11
  -- pc 124: com/example/recordframe/recordframe/cli/ByteWordsEqualToPinLaw.eq by its contract rm3
  obtain ⟨_, _, ⟨T13, L13, k13, n13⟩, -, X13, ⟨Lc13, hQ13, l13, y13, z13⟩, st13⟩ := Jvm.LawKit.callS X12 hx (y := (⟨"com/example/recordframe/recordframe/cli/ByteWordsEqualToPinLaw", "eq", "(JII)J"⟩ : MethodName)) hown (mvT hZ (hw _ (List.mem_of_getElem? (i := 13) rfl))) (mvT hZ (hw _ (List.mem_of_getElem? (i := 14) rfl))) (mvT hZ (hw _ (List.mem_of_getElem? (i := 2) rfl))) (mvT hZ (hw _ (List.mem_of_getElem? (i := 15) rfl))) (by decide) (backOf (W := 2) (rm3 l Z a0 hw [] r11 (0 : Int32) ((p2.toInt8.toInt32) &&& (255 : Int32))  T12.heap n0 (Nat.le_trans Z0 KH12.1)) hZ (hw _ (List.mem_of_getElem? (i := 15) rfl)) (hw _ (List.mem_of_getElem? (i := 2) rfl)) (by decide) (by decide)) (g := (mkF m 124 #[.val (.long q1), .second, .val (.int p2), .val (.int p3), .val (.int (p2.toInt8.toInt32)), .val (.int ((p2.toInt8.toInt32) &&& (255 : Int32))), .val (.long r11), .second, .val (.long r12), .second, .val (.long (0 : Int64)), .second, .unset, .unset, .unset, .unset, .unset] [(.int ((p2.toInt8.toInt32) &&& (255 : Int32))), (.int (0 : Int32)), (.long r11), (.long (0 : Int64))])) rfl (by rw [hml]; rfl) (argsL := [(.long r11), (.int (0 : Int32)), (.int ((p2.toInt8.toInt32) &&& (255 : Int32)))]) (rest := [(.long (0 : Int64))]) (lenOf pd_0_2 rfl) rfl (by show 2 * 0 + _ ≤ _; exact Nat.le_of_eq rfl) (hb hby at_124) (fun _ _ => ⟨rfl, rfl, (by decide : 0 + 0 ≤ _), (by decide : 0 + 0 ≤ _)⟩)
  dsimp only [Pt.U, Pt.locs, Pt.cells, Pt.slots] at X13 l13 y13 z13 st13 hQ13
  subst l13 y13 z13
  obtain ⟨rfl, N13q, e13q⟩ := hQ13
  rw [hr13] at st13
  have N13 := Fr.app N12 N13q
  have K13q : Keep T12.heap T13.heap [] := own_keep e13q
  have KH13 : Keep h0 T13.heap [] := KH12.trans K13q own_ws0
  have eh13 : T13.heap = h0 := by rw [e13q]; exact eh12
  -- pc 137: com/example/recordframe/recordframe/cli/ByteWordsEqualToPinLaw.eq by its contract rm3
  obtain ⟨_, _, ⟨T14, L14, k14, n14⟩, -, X14, ⟨Lc14, hQ14, l14, y14, z14⟩, st14⟩ := Jvm.LawKit.callS X13 hx (y := (⟨"com/example/recordframe/recordframe/cli/ByteWordsEqualToPinLaw", "eq", "(JII)J"⟩ : MethodName)) hown (mvT hZ (hw _ (List.mem_of_getElem? (i := 13) rfl))) (mvT hZ (hw _ (List.mem_of_getElem? (i := 14) rfl))) (mvT hZ (hw _ (List.mem_of_getElem? (i := 2) rfl))) (mvT hZ (hw _ (List.mem_of_getElem? (i := 15) rfl))) (by decide) (backOf (W := 2) (rm3 l Z a0 hw [] r11 (1 : Int32) ((p2.toInt8.toInt32) &&& (255 : Int32))  T13.heap n0 (Nat.le_trans Z0 KH13.1)) hZ (hw _ (List.mem_of_getElem? (i := 15) rfl)) (hw _ (List.mem_of_getElem? (i := 2) rfl)) (by decide) (by decide)) (g := (mkF m 137 #[.val (.long q1), .second, .val (.int p2), .val (.int p3), .val (.int (p2.toInt8.toInt32)), .val (.int ((p2.toInt8.toInt32) &&& (255 : Int32))), .val (.long r11), .second, .val (.long r12), .second, .val (.long ((0 : Int64) ||| r13)), .second, .unset, .unset, .unset, .unset, .unset] [(.int ((p2.toInt8.toInt32) &&& (255 : Int32))), (.int (1 : Int32)), (.long r11), (.long ((0 : Int64) ||| r13))])) rfl (by rw [hml]; rfl) (argsL := [(.long r11), (.int (1 : Int32)), (.int ((p2.toInt8.toInt32) &&& (255 : Int32)))]) (rest := [(.long ((0 : Int64) ||| r13))]) (lenOf pd_0_2 rfl) rfl (by show 2 * 0 + _ ≤ _; exact Nat.le_of_eq rfl) (hb hby at_137) (fun _ _ => ⟨rfl, rfl, (by decide : 0 + 0 ≤ _), (by decide : 0 + 0 ≤ _)⟩)
  dsimp only [Pt.U, Pt.locs, Pt.cells, Pt.slots] at X14 l14 y14 z14 st14 hQ14
  subst l14 y14 z14
  obtain ⟨rfl, N14q, e14q⟩ := hQ14
  rw [hr14] at st14
  have N14 := Fr.app N13 N14q
  have K14q : Keep T13.heap T14.heap [] := own_keep e14q
  have KH14 : Keep h0 T14.heap [] := KH13.trans K14q own_ws0
  have eh14 : T14.heap = h0 := by rw [e14q]; exact eh13
  -- pc 150: com/example/recordframe/recordframe/cli/ByteWordsEqualToPinLaw.eq by its contract rm3
  obtain ⟨_, _, ⟨T15, L15, k15, n15⟩, -, X15, ⟨Lc15, hQ15, l15, y15, z15⟩, st15⟩ := Jvm.LawKit.callS X14 hx (y := (⟨"com/example/recordframe/recordframe/cli/ByteWordsEqualToPinLaw", "eq", "(JII)J"⟩ : MethodName)) hown (mvT hZ (hw _ (List.mem_of_getElem? (i := 13) rfl))) (mvT hZ (hw _ (List.mem_of_getElem? (i := 14) rfl))) (mvT hZ (hw _ (List.mem_of_getElem? (i := 2) rfl))) (mvT hZ (hw _ (List.mem_of_getElem? (i := 15) rfl))) (by decide) (backOf (W := 2) (rm3 l Z a0 hw [] r11 (2 : Int32) ((p2.toInt8.toInt32) &&& (255 : Int32))  T14.heap n0 (Nat.le_trans Z0 KH14.1)) hZ (hw _ (List.mem_of_getElem? (i := 15) rfl)) (hw _ (List.mem_of_getElem? (i := 2) rfl)) (by decide) (by decide)) (g := (mkF m 150 #[.val (.long q1), .second, .val (.int p2), .val (.int p3), .val (.int (p2.toInt8.toInt32)), .val (.int ((p2.toInt8.toInt32) &&& (255 : Int32))), .val (.long r11), .second, .val (.long r12), .second, .val (.long (((0 : Int64) ||| r13) ||| r14)), .second, .unset, .unset, .unset, .unset, .unset] [(.int ((p2.toInt8.toInt32) &&& (255 : Int32))), (.int (2 : Int32)), (.long r11), (.long (((0 : Int64) ||| r13) ||| r14))])) rfl (by rw [hml]; rfl) (argsL := [(.long r11), (.int (2 : Int32)), (.int ((p2.toInt8.toInt32) &&& (255 : Int32)))]) (rest := [(.long (((0 : Int64) ||| r13) ||| r14))]) (lenOf pd_0_2 rfl) rfl (by show 2 * 0 + _ ≤ _; exact Nat.le_of_eq rfl) (hb hby at_150) (fun _ _ => ⟨rfl, rfl, (by decide : 0 + 0 ≤ _), (by decide : 0 + 0 ≤ _)⟩)
  dsimp only [Pt.U, Pt.locs, Pt.cells, Pt.slots] at X15 l15 y15 z15 st15 hQ15
  subst l15 y15 z15
  obtain ⟨rfl, N15q, e15q⟩ := hQ15
  rw [hr15] at st15
  have N15 := Fr.app N14 N15q
  have K15q : Keep T14.heap T15.heap [] := own_keep e15q
  have KH15 : Keep h0 T15.heap [] := KH14.trans K15q own_ws0
  have eh15 : T15.heap = h0 := by rw [e15q]; exact eh14
  -- pc 163: com/example/recordframe/recordframe/cli/ByteWordsEqualToPinLaw.eq by its contract rm3
  obtain ⟨_, _, ⟨T16, L16, k16, n16⟩, -, X16, ⟨Lc16, hQ16, l16, y16, z16⟩, st16⟩ := Jvm.LawKit.callS X15 hx (y := (⟨"com/example/recordframe/recordframe/cli/ByteWordsEqualToPinLaw", "eq", "(JII)J"⟩ : MethodName)) hown (mvT hZ (hw _ (List.mem_of_getElem? (i := 13) rfl))) (mvT hZ (hw _ (List.mem_of_getElem? (i := 14) rfl))) (mvT hZ (hw _ (List.mem_of_getElem? (i := 2) rfl))) (mvT hZ (hw _ (List.mem_of_getElem? (i := 15) rfl))) (by decide) (backOf (W := 2) (rm3 l Z a0 hw [] r11 (3 : Int32) ((p2.toInt8.toInt32) &&& (255 : Int32))  T15.heap n0 (Nat.le_trans Z0 KH15.1)) hZ (hw _ (List.mem_of_getElem? (i := 15) rfl)) (hw _ (List.mem_of_getElem? (i := 2) rfl)) (by decide) (by decide)) (g := (mkF m 163 #[.val (.long q1), .second, .val (.int p2), .val (.int p3), .val (.int (p2.toInt8.toInt32)), .val (.int ((p2.toInt8.toInt32) &&& (255 : Int32))), .val (.long r11), .second, .val (.long r12), .second, .val (.long ((((0 : Int64) ||| r13) ||| r14) ||| r15)), .second, .unset, .unset, .unset, .unset, .unset] [(.int ((p2.toInt8.toInt32) &&& (255 : Int32))), (.int (3 : Int32)), (.long r11), (.long ((((0 : Int64) ||| r13) ||| r14) ||| r15))])) rfl (by rw [hml]; rfl) (argsL := [(.long r11), (.int (3 : Int32)), (.int ((p2.toInt8.toInt32) &&& (255 : Int32)))]) (rest := [(.long ((((0 : Int64) ||| r13) ||| r14) ||| r15))]) (lenOf pd_0_2 rfl) rfl (by show 2 * 0 + _ ≤ _; exact Nat.le_of_eq rfl) (hb hby at_163) (fun _ _ => ⟨rfl, rfl, (by decide : 0 + 0 ≤ _), (by decide : 0 + 0 ≤ _)⟩)
  dsimp only [Pt.U, Pt.locs, Pt.cells, Pt.slots] at X16 l16 y16 z16 st16 hQ16
  subst l16 y16 z16
  obtain ⟨rfl, N16q, e16q⟩ := hQ16
  rw [hr16] at st16
  have N16 := Fr.app N15 N16q
  have K16q : Keep T15.heap T16.heap [] := own_keep e16q
  have KH16 : Keep h0 T16.heap [] := KH15.trans K16q own_ws0
  have eh16 : T16.heap = h0 := by rw [e16q]; exact eh15
  -- pc 176: com/example/recordframe/recordframe/cli/ByteWordsEqualToPinLaw.eq by its contract rm3
  obtain ⟨_, _, ⟨T17, L17, k17, n17⟩, -, X17, ⟨Lc17, hQ17, l17, y17, z17⟩, st17⟩ := Jvm.LawKit.callS X16 hx (y := (⟨"com/example/recordframe/recordframe/cli/ByteWordsEqualToPinLaw", "eq", "(JII)J"⟩ : MethodName)) hown (mvT hZ (hw _ (List.mem_of_getElem? (i := 13) rfl))) (mvT hZ (hw _ (List.mem_of_getElem? (i := 14) rfl))) (mvT hZ (hw _ (List.mem_of_getElem? (i := 2) rfl))) (mvT hZ (hw _ (List.mem_of_getElem? (i := 15) rfl))) (by decide) (backOf (W := 2) (rm3 l Z a0 hw [] r11 (4 : Int32) ((p2.toInt8.toInt32) &&& (255 : Int32))  T16.heap n0 (Nat.le_trans Z0 KH16.1)) hZ (hw _ (List.mem_of_getElem? (i := 15) rfl)) (hw _ (List.mem_of_getElem? (i := 2) rfl)) (by decide) (by decide)) (g := (mkF m 176 #[.val (.long q1), .second, .val (.int p2), .val (.int p3), .val (.int (p2.toInt8.toInt32)), .val (.int ((p2.toInt8.toInt32) &&& (255 : Int32))), .val (.long r11), .second, .val (.long r12), .second, .val (.long (((((0 : Int64) ||| r13) ||| r14) ||| r15) ||| r16)), .second, .unset, .unset, .unset, .unset, .unset] [(.int ((p2.toInt8.toInt32) &&& (255 : Int32))), (.int (4 : Int32)), (.long r11), (.long (((((0 : Int64) ||| r13) ||| r14) ||| r15) ||| r16))])) rfl (by rw [hml]; rfl) (argsL := [(.long r11), (.int (4 : Int32)), (.int ((p2.toInt8.toInt32) &&& (255 : Int32)))]) (rest := [(.long (((((0 : Int64) ||| r13) ||| r14) ||| r15) ||| r16))]) (lenOf pd_0_2 rfl) rfl (by show 2 * 0 + _ ≤ _; exact Nat.le_of_eq rfl) (hb hby at_176) (fun _ _ => ⟨rfl, rfl, (by decide : 0 + 0 ≤ _), (by decide : 0 + 0 ≤ _)⟩)
  dsimp only [Pt.U, Pt.locs, Pt.cells, Pt.slots] at X17 l17 y17 z17 st17 hQ17
  subst l17 y17 z17
  obtain ⟨rfl, N17q, e17q⟩ := hQ17
  rw [hr17] at st17
  have N17 := Fr.app N16 N17q
  have K17q : Keep T16.heap T17.heap [] := own_keep e17q
  have KH17 : Keep h0 T17.heap [] := KH16.trans K17q own_ws0
  have eh17 : T17.heap = h0 := by rw [e17q]; exact eh16
  -- pc 189: com/example/recordframe/recordframe/cli/ByteWordsEqualToPinLaw.eq by its contract rm3
  obtain ⟨_, _, ⟨T18, L18, k18, n18⟩, -, X18, ⟨Lc18, hQ18, l18, y18, z18⟩, st18⟩ := Jvm.LawKit.callS X17 hx (y := (⟨"com/example/recordframe/recordframe/cli/ByteWordsEqualToPinLaw", "eq", "(JII)J"⟩ : MethodName)) hown (mvT hZ (hw _ (List.mem_of_getElem? (i := 13) rfl))) (mvT hZ (hw _ (List.mem_of_getElem? (i := 14) rfl))) (mvT hZ (hw _ (List.mem_of_getElem? (i := 2) rfl))) (mvT hZ (hw _ (List.mem_of_getElem? (i := 15) rfl))) (by decide) (backOf (W := 2) (rm3 l Z a0 hw [] r11 (5 : Int32) ((p2.toInt8.toInt32) &&& (255 : Int32))  T17.heap n0 (Nat.le_trans Z0 KH17.1)) hZ (hw _ (List.mem_of_getElem? (i := 15) rfl)) (hw _ (List.mem_of_getElem? (i := 2) rfl)) (by decide) (by decide)) (g := (mkF m 189 #[.val (.long q1), .second, .val (.int p2), .val (.int p3), .val (.int (p2.toInt8.toInt32)), .val (.int ((p2.toInt8.toInt32) &&& (255 : Int32))), .val (.long r11), .second, .val (.long r12), .second, .val (.long ((((((0 : Int64) ||| r13) ||| r14) ||| r15) ||| r16) ||| r17)), .second, .unset, .unset, .unset, .unset, .unset] [(.int ((p2.toInt8.toInt32) &&& (255 : Int32))), (.int (5 : Int32)), (.long r11), (.long ((((((0 : Int64) ||| r13) ||| r14) ||| r15) ||| r16) ||| r17))])) rfl (by rw [hml]; rfl) (argsL := [(.long r11), (.int (5 : Int32)), (.int ((p2.toInt8.toInt32) &&& (255 : Int32)))]) (rest := [(.long ((((((0 : Int64) ||| r13) ||| r14) ||| r15) ||| r16) ||| r17))]) (lenOf pd_0_2 rfl) rfl (by show 2 * 0 + _ ≤ _; exact Nat.le_of_eq rfl) (hb hby at_189) (fun _ _ => ⟨rfl, rfl, (by decide : 0 + 0 ≤ _), (by decide : 0 + 0 ≤ _)⟩)
  dsimp only [Pt.U, Pt.locs, Pt.cells, Pt.slots] at X18 l18 y18 z18 st18 hQ18
  subst l18 y18 z18
  obtain ⟨rfl, N18q, e18q⟩ := hQ18
  rw [hr18] at st18
  have N18 := Fr.app N17 N18q
  have K18q : Keep T17.heap T18.heap [] := own_keep e18q
  have KH18 : Keep h0 T18.heap [] := KH17.trans K18q own_ws0
  have eh18 : T18.heap = h0 := by rw [e18q]; exact eh17
  -- pc 203: com/example/recordframe/recordframe/cli/ByteWordsEqualToPinLaw.eq by its contract rm3
  obtain ⟨_, _, ⟨T19, L19, k19, n19⟩, -, X19, ⟨Lc19, hQ19, l19, y19, z19⟩, st19⟩ := Jvm.LawKit.callS X18 hx (y := (⟨"com/example/recordframe/recordframe/cli/ByteWordsEqualToPinLaw", "eq", "(JII)J"⟩ : MethodName)) hown (mvT hZ (hw _ (List.mem_of_getElem? (i := 13) rfl))) (mvT hZ (hw _ (List.mem_of_getElem? (i := 14) rfl))) (mvT hZ (hw _ (List.mem_of_getElem? (i := 2) rfl))) (mvT hZ (hw _ (List.mem_of_getElem? (i := 15) rfl))) (by decide) (backOf (W := 2) (rm3 l Z a0 hw [] r11 (6 : Int32) ((p2.toInt8.toInt32) &&& (255 : Int32))  T18.heap n0 (Nat.le_trans Z0 KH18.1)) hZ (hw _ (List.mem_of_getElem? (i := 15) rfl)) (hw _ (List.mem_of_getElem? (i := 2) rfl)) (by decide) (by decide)) (g := (mkF m 203 #[.val (.long q1), .second, .val (.int p2), .val (.int p3), .val (.int (p2.toInt8.toInt32)), .val (.int ((p2.toInt8.toInt32) &&& (255 : Int32))), .val (.long r11), .second, .val (.long r12), .second, .val (.long (((((((0 : Int64) ||| r13) ||| r14) ||| r15) ||| r16) ||| r17) ||| r18)), .second, .unset, .unset, .unset, .unset, .unset] [(.int ((p2.toInt8.toInt32) &&& (255 : Int32))), (.int (6 : Int32)), (.long r11), (.long (((((((0 : Int64) ||| r13) ||| r14) ||| r15) ||| r16) ||| r17) ||| r18))])) rfl (by rw [hml]; rfl) (argsL := [(.long r11), (.int (6 : Int32)), (.int ((p2.toInt8.toInt32) &&& (255 : Int32)))]) (rest := [(.long (((((((0 : Int64) ||| r13) ||| r14) ||| r15) ||| r16) ||| r17) ||| r18))]) (lenOf pd_0_2 rfl) rfl (by show 2 * 0 + _ ≤ _; exact Nat.le_of_eq rfl) (hb hby at_203) (fun _ _ => ⟨rfl, rfl, (by decide : 0 + 0 ≤ _), (by decide : 0 + 0 ≤ _)⟩)
  dsimp only [Pt.U, Pt.locs, Pt.cells, Pt.slots] at X19 l19 y19 z19 st19 hQ19
  subst l19 y19 z19
  obtain ⟨rfl, N19q, e19q⟩ := hQ19
  rw [hr19] at st19
  have N19 := Fr.app N18 N19q
  have K19q : Keep T18.heap T19.heap [] := own_keep e19q
  have KH19 : Keep h0 T19.heap [] := KH18.trans K19q own_ws0
  have eh19 : T19.heap = h0 := by rw [e19q]; exact eh18
  -- pc 217: com/example/recordframe/recordframe/cli/ByteWordsEqualToPinLaw.eq by its contract rm3
  obtain ⟨_, _, ⟨T20, L20, k20, n20⟩, -, X20, ⟨Lc20, hQ20, l20, y20, z20⟩, st20⟩ := Jvm.LawKit.callS X19 hx (y := (⟨"com/example/recordframe/recordframe/cli/ByteWordsEqualToPinLaw", "eq", "(JII)J"⟩ : MethodName)) hown (mvT hZ (hw _ (List.mem_of_getElem? (i := 13) rfl))) (mvT hZ (hw _ (List.mem_of_getElem? (i := 14) rfl))) (mvT hZ (hw _ (List.mem_of_getElem? (i := 2) rfl))) (mvT hZ (hw _ (List.mem_of_getElem? (i := 15) rfl))) (by decide) (backOf (W := 2) (rm3 l Z a0 hw [] r11 (7 : Int32) ((p2.toInt8.toInt32) &&& (255 : Int32))  T19.heap n0 (Nat.le_trans Z0 KH19.1)) hZ (hw _ (List.mem_of_getElem? (i := 15) rfl)) (hw _ (List.mem_of_getElem? (i := 2) rfl)) (by decide) (by decide)) (g := (mkF m 217 #[.val (.long q1), .second, .val (.int p2), .val (.int p3), .val (.int (p2.toInt8.toInt32)), .val (.int ((p2.toInt8.toInt32) &&& (255 : Int32))), .val (.long r11), .second, .val (.long r12), .second, .val (.long ((((((((0 : Int64) ||| r13) ||| r14) ||| r15) ||| r16) ||| r17) ||| r18) ||| r19)), .second, .unset, .unset, .unset, .unset, .unset] [(.int ((p2.toInt8.toInt32) &&& (255 : Int32))), (.int (7 : Int32)), (.long r11), (.long ((((((((0 : Int64) ||| r13) ||| r14) ||| r15) ||| r16) ||| r17) ||| r18) ||| r19))])) rfl (by rw [hml]; rfl) (argsL := [(.long r11), (.int (7 : Int32)), (.int ((p2.toInt8.toInt32) &&& (255 : Int32)))]) (rest := [(.long ((((((((0 : Int64) ||| r13) ||| r14) ||| r15) ||| r16) ||| r17) ||| r18) ||| r19))]) (lenOf pd_0_2 rfl) rfl (by show 2 * 0 + _ ≤ _; exact Nat.le_of_eq rfl) (hb hby at_217) (fun _ _ => ⟨rfl, rfl, (by decide : 0 + 0 ≤ _), (by decide : 0 + 0 ≤ _)⟩)
  dsimp only [Pt.U, Pt.locs, Pt.cells, Pt.slots] at X20 l20 y20 z20 st20 hQ20
  subst l20 y20 z20
  obtain ⟨rfl, N20q, e20q⟩ := hQ20
  rw [hr20] at st20
  have N20 := Fr.app N19 N20q
  have K20q : Keep T19.heap T20.heap [] := own_keep e20q
  have KH20 : Keep h0 T20.heap [] := KH19.trans K20q own_ws0
  have eh20 : T20.heap = h0 := by rw [e20q]; exact eh19
  obtain ⟨fs, hr, hrun, hended, hW, hsame⟩ := X20.leave (v := some (.int (1 : Int32))) (fun h => by rw [Bd.returns] at h; cases h) (BodyLoose.notSynchronized Bd)
  refine ⟨_, _, pre0 _ ?_, hrun, hended, _, _, rfl, ?_, ⟨_, rfl⟩, hW, hsame.mono (by decide) (by decide)⟩
  -- 4. STEPS
  · show Steps p.tables e below (s₁.setTop (mkF m 0 #[.val (.long q1), .second, .val (.int p2), .val (.int p3), .unset, .unset, .unset, .unset, .unset, .unset, .unset, .unset, .unset, .unset, .unset, .unset, .unset] [])) _
    refine XS.iloadN X0.here hx rfl (hb hby at_0) rfl ?_
    show Steps p.tables e below (s₁.setTop (mkF m 1 #[.val (.long q1), .second, .val (.int p2), .val (.int p3), .unset, .unset, .unset, .unset, .unset, .unset, .unset, .unset, .unset, .unset, .unset, .unset, .unset] [(.int p2)])) _
    refine XS.i2b X0.here hx rfl (hb hby at_1) rfl ?_
    show Steps p.tables e below (s₁.setTop (mkF m 2 #[.val (.long q1), .second, .val (.int p2), .val (.int p3), .unset, .unset, .unset, .unset, .unset, .unset, .unset, .unset, .unset, .unset, .unset, .unset, .unset] [(.int (p2.toInt8.toInt32))])) _
    refine XS.istore X0.here hx rfl (hb hby at_2) rfl (l' := #[.val (.long q1), .second, .val (.int p2), .val (.int p3), .val (.int (p2.toInt8.toInt32)), .unset, .unset, .unset, .unset, .unset, .unset, .unset, .unset, .unset, .unset, .unset, .unset]) rfl ?_
    show Steps p.tables e below (s₁.setTop (mkF m 4 #[.val (.long q1), .second, .val (.int p2), .val (.int p3), .val (.int (p2.toInt8.toInt32)), .unset, .unset, .unset, .unset, .unset, .unset, .unset, .unset, .unset, .unset, .unset, .unset] [])) _
    refine XS.iload X0.here hx rfl (hb hby at_4) rfl ?_
    show Steps p.tables e below (s₁.setTop (mkF m 6 #[.val (.long q1), .second, .val (.int p2), .val (.int p3), .val (.int (p2.toInt8.toInt32)), .unset, .unset, .unset, .unset, .unset, .unset, .unset, .unset, .unset, .unset, .unset, .unset] [(.int (p2.toInt8.toInt32))])) _
    refine XS.sipush X0.here hx rfl (hb hby at_6) ?_
    show Steps p.tables e below (s₁.setTop (mkF m 9 #[.val (.long q1), .second, .val (.int p2), .val (.int p3), .val (.int (p2.toInt8.toInt32)), .unset, .unset, .unset, .unset, .unset, .unset, .unset, .unset, .unset, .unset, .unset, .unset] [(.int (255 : Int32)), (.int (p2.toInt8.toInt32))])) _
    refine XS.iand X0.here hx rfl (hb hby at_9) rfl ?_
    show Steps p.tables e below (s₁.setTop (mkF m 10 #[.val (.long q1), .second, .val (.int p2), .val (.int p3), .val (.int (p2.toInt8.toInt32)), .unset, .unset, .unset, .unset, .unset, .unset, .unset, .unset, .unset, .unset, .unset, .unset] [(.int ((p2.toInt8.toInt32) &&& (255 : Int32)))])) _
    refine XS.istore X0.here hx rfl (hb hby at_10) rfl (l' := #[.val (.long q1), .second, .val (.int p2), .val (.int p3), .val (.int (p2.toInt8.toInt32)), .val (.int ((p2.toInt8.toInt32) &&& (255 : Int32))), .unset, .unset, .unset, .unset, .unset, .unset, .unset, .unset, .unset, .unset, .unset]) rfl ?_
    show Steps p.tables e below (s₁.setTop (mkF m 12 #[.val (.long q1), .second, .val (.int p2), .val (.int p3), .val (.int (p2.toInt8.toInt32)), .val (.int ((p2.toInt8.toInt32) &&& (255 : Int32))), .unset, .unset, .unset, .unset, .unset, .unset, .unset, .unset, .unset, .unset, .unset] [])) _
    refine XS.lloadN X0.here hx rfl (hb hby at_12) rfl ?_
    show Steps p.tables e below (s₁.setTop (mkF m 13 #[.val (.long q1), .second, .val (.int p2), .val (.int p3), .val (.int (p2.toInt8.toInt32)), .val (.int ((p2.toInt8.toInt32) &&& (255 : Int32))), .unset, .unset, .unset, .unset, .unset, .unset, .unset, .unset, .unset, .unset, .unset] [(.long q1)])) _
    refine XS.lstore X0.here hx rfl (hb hby at_13) rfl (l' := #[.val (.long q1), .second, .val (.int p2), .val (.int p3), .val (.int (p2.toInt8.toInt32)), .val (.int ((p2.toInt8.toInt32) &&& (255 : Int32))), .val (.long q1), .second, .unset, .unset, .unset, .unset, .unset, .unset, .unset, .unset, .unset]) rfl ?_
    show Steps p.tables e below (s₁.setTop (mkF m 15 #[.val (.long q1), .second, .val (.int p2), .val (.int p3), .val (.int (p2.toInt8.toInt32)), .val (.int ((p2.toInt8.toInt32) &&& (255 : Int32))), .val (.long q1), .second, .unset, .unset, .unset, .unset, .unset, .unset, .unset, .unset, .unset] [])) _
    refine XS.lload X0.here hx rfl (hb hby at_15) rfl ?_
    show Steps p.tables e below (s₁.setTop (mkF m 17 #[.val (.long q1), .second, .val (.int p2), .val (.int p3), .val (.int (p2.toInt8.toInt32)), .val (.int ((p2.toInt8.toInt32) &&& (255 : Int32))), .val (.long q1), .second, .unset, .unset, .unset, .unset, .unset, .unset, .unset, .unset, .unset] [(.long q1)])) _
    refine XS.iconst X0.here hx rfl (hb hby at_17) ?_
    show Steps p.tables e below (s₁.setTop (mkF m 18 #[.val (.long q1), .second, .val (.int p2), .val (.int p3), .val (.int (p2.toInt8.toInt32)), .val (.int ((p2.toInt8.toInt32) &&& (255 : Int32))), .val (.long q1), .second, .unset, .unset, .unset, .unset, .unset, .unset, .unset, .unset, .unset] [(.int (0 : Int32)), (.long q1)])) _
    refine XS.iloadN X0.here hx rfl (hb hby at_18) rfl ?_
    show Steps p.tables e below (s₁.setTop (mkF m 19 #[.val (.long q1), .second, .val (.int p2), .val (.int p3), .val (.int (p2.toInt8.toInt32)), .val (.int ((p2.toInt8.toInt32) &&& (255 : Int32))), .val (.long q1), .second, .unset, .unset, .unset, .unset, .unset, .unset, .unset, .unset, .unset] [(.int p3), (.int (0 : Int32)), (.long q1)])) _
    refine XS.iload X0.here hx rfl (hb hby at_19) rfl ?_
    show Steps p.tables e below (s₁.setTop (mkF m 21 #[.val (.long q1), .second, .val (.int p2), .val (.int p3), .val (.int (p2.toInt8.toInt32)), .val (.int ((p2.toInt8.toInt32) &&& (255 : Int32))), .val (.long q1), .second, .unset, .unset, .unset, .unset, .unset, .unset, .unset, .unset, .unset] [(.int ((p2.toInt8.toInt32) &&& (255 : Int32))), (.int p3), (.int (0 : Int32)), (.long q1)])) _
    refine st4 _ ?_
    show Steps p.tables e below (T4.setTop (mkF m 24 #[.val (.long q1), .second, .val (.int p2), .val (.int p3), .val (.int (p2.toInt8.toInt32)), .val (.int ((p2.toInt8.toInt32) &&& (255 : Int32))), .val (.long q1), .second, .unset, .unset, .unset, .unset, .unset, .unset, .unset, .unset, .unset] [(.long r4)])) _
    refine XS.lstore X4.here hx rfl (hb hby at_24) rfl (l' := #[.val (.long q1), .second, .val (.int p2), .val (.int p3), .val (.int (p2.toInt8.toInt32)), .val (.int ((p2.toInt8.toInt32) &&& (255 : Int32))), .val (.long r4), .second, .unset, .unset, .unset, .unset, .unset, .unset, .unset, .unset, .unset]) rfl ?_
    show Steps p.tables e below (T4.setTop (mkF m 26 #[.val (.long q1), .second, .val (.int p2), .val (.int p3), .val (.int (p2.toInt8.toInt32)), .val (.int ((p2.toInt8.toInt32) &&& (255 : Int32))), .val (.long r4), .second, .unset, .unset, .unset, .unset, .unset, .unset, .unset, .unset, .unset] [])) _
    refine XS.lload X4.here hx rfl (hb hby at_26) rfl ?_
    show Steps p.tables e below (T4.setTop (mkF m 28 #[.val (.long q1), .second, .val (.int p2), .val (.int p3), .val (.int (p2.toInt8.toInt32)), .val (.int ((p2.toInt8.toInt32) &&& (255 : Int32))), .val (.long r4), .second, .unset, .unset, .unset, .unset, .unset, .unset, .unset, .unset, .unset] [(.long r4)])) _
    refine XS.iconst X4.here hx rfl (hb hby at_28) ?_
    show Steps p.tables e below (T4.setTop (mkF m 29 #[.val (.long q1), .second, .val (.int p2), .val (.int p3), .val (.int (p2.toInt8.toInt32)), .val (.int ((p2.toInt8.toInt32) &&& (255 : Int32))), .val (.long r4), .second, .unset, .unset, .unset, .unset, .unset, .unset, .unset, .unset, .unset] [(.int (1 : Int32)), (.long r4)])) _
    refine XS.iloadN X4.here hx rfl (hb hby at_29) rfl ?_
    show Steps p.tables e below (T4.setTop (mkF m 30 #[.val (.long q1), .second, .val (.int p2), .val (.int p3), .val (.int (p2.toInt8.toInt32)), .val (.int ((p2.toInt8.toInt32) &&& (255 : Int32))), .val (.long r4), .second, .unset, .unset, .unset, .unset, .unset, .unset, .unset, .unset, .unset] [(.int p3), (.int (1 : Int32)), (.long r4)])) _
    refine XS.iload X4.here hx rfl (hb hby at_30) rfl ?_
    show Steps p.tables e below (T4.setTop (mkF m 32 #[.val (.long q1), .second, .val (.int p2), .val (.int p3), .val (.int (p2.toInt8.toInt32)), .val (.int ((p2.toInt8.toInt32) &&& (255 : Int32))), .val (.long r4), .second, .unset, .unset, .unset, .unset, .unset, .unset, .unset, .unset, .unset] [(.int ((p2.toInt8.toInt32) &&& (255 : Int32))), (.int p3), (.int (1 : Int32)), (.long r4)])) _
    refine st5 _ ?_
    show Steps p.tables e below (T5.setTop (mkF m 35 #[.val (.long q1), .second, .val (.int p2), .val (.int p3), .val (.int (p2.toInt8.toInt32)), .val (.int ((p2.toInt8.toInt32) &&& (255 : Int32))), .val (.long r4), .second, .unset, .unset, .unset, .unset, .unset, .unset, .unset, .unset, .unset] [(.long r5)])) _
    refine XS.lstore X5.here hx rfl (hb hby at_35) rfl (l' := #[.val (.long q1), .second, .val (.int p2), .val (.int p3), .val (.int (p2.toInt8.toInt32)), .val (.int ((p2.toInt8.toInt32) &&& (255 : Int32))), .val (.long r5), .second, .unset, .unset, .unset, .unset, .unset, .unset, .unset, .unset, .unset]) rfl ?_
    show Steps p.tables e below (T5.setTop (mkF m 37 #[.val (.long q1), .second, .val (.int p2), .val (.int p3), .val (.int (p2.toInt8.toInt32)), .val (.int ((p2.toInt8.toInt32) &&& (255 : Int32))), .val (.long r5), .second, .unset, .unset, .unset, .unset, .unset, .unset, .unset, .unset, .unset] [])) _
    refine XS.lload X5.here hx rfl (hb hby at_37) rfl ?_
    show Steps p.tables e below (T5.setTop (mkF m 39 #[.val (.long q1), .second, .val (.int p2), .val (.int p3), .val (.int (p2.toInt8.toInt32)), .val (.int ((p2.toInt8.toInt32) &&& (255 : Int32))), .val (.long r5), .second, .unset, .unset, .unset, .unset, .unset, .unset, .unset, .unset, .unset] [(.long r5)])) _
    refine XS.iconst X5.here hx rfl (hb hby at_39) ?_
    show Steps p.tables e below (T5.setTop (mkF m 40 #[.val (.long q1), .second, .val (.int p2), .val (.int p3), .val (.int (p2.toInt8.toInt32)), .val (.int ((p2.toInt8.toInt32) &&& (255 : Int32))), .val (.long r5), .second, .unset, .unset, .unset, .unset, .unset, .unset, .unset, .unset, .unset] [(.int (2 : Int32)), (.long r5)])) _
    refine XS.iloadN X5.here hx rfl (hb hby at_40) rfl ?_
    show Steps p.tables e below (T5.setTop (mkF m 41 #[.val (.long q1), .second, .val (.int p2), .val (.int p3), .val (.int (p2.toInt8.toInt32)), .val (.int ((p2.toInt8.toInt32) &&& (255 : Int32))), .val (.long r5), .second, .unset, .unset, .unset, .unset, .unset, .unset, .unset, .unset, .unset] [(.int p3), (.int (2 : Int32)), (.long r5)])) _
    refine XS.iload X5.here hx rfl (hb hby at_41) rfl ?_
    show Steps p.tables e below (T5.setTop (mkF m 43 #[.val (.long q1), .second, .val (.int p2), .val (.int p3), .val (.int (p2.toInt8.toInt32)), .val (.int ((p2.toInt8.toInt32) &&& (255 : Int32))), .val (.long r5), .second, .unset, .unset, .unset, .unset, .unset, .unset, .unset, .unset, .unset] [(.int ((p2.toInt8.toInt32) &&& (255 : Int32))), (.int p3), (.int (2 : Int32)), (.long r5)])) _
    refine st6 _ ?_
    show Steps p.tables e below (T6.setTop (mkF m 46 #[.val (.long q1), .second, .val (.int p2), .val (.int p3), .val (.int (p2.toInt8.toInt32)), .val (.int ((p2.toInt8.toInt32) &&& (255 : Int32))), .val (.long r5), .second, .unset, .unset, .unset, .unset, .unset, .unset, .unset, .unset, .unset] [(.long r6)])) _
    refine XS.lstore X6.here hx rfl (hb hby at_46) rfl (l' := #[.val (.long q1), .second, .val (.int p2), .val (.int p3), .val (.int (p2.toInt8.toInt32)), .val (.int ((p2.toInt8.toInt32) &&& (255 : Int32))), .val (.long r6), .second, .unset, .unset, .unset, .unset, .unset, .unset, .unset, .unset, .unset]) rfl ?_
    show Steps p.tables e below (T6.setTop (mkF m 48 #[.val (.long q1), .second, .val (.int p2), .val (.int p3), .val (.int (p2.toInt8.toInt32)), .val (.int ((p2.toInt8.toInt32) &&& (255 : Int32))), .val (.long r6), .second, .unset, .unset, .unset, .unset, .unset, .unset, .unset, .unset, .unset] [])) _
    refine XS.lload X6.here hx rfl (hb hby at_48) rfl ?_
    show Steps p.tables e below (T6.setTop (mkF m 50 #[.val (.long q1), .second, .val (.int p2), .val (.int p3), .val (.int (p2.toInt8.toInt32)), .val (.int ((p2.toInt8.toInt32) &&& (255 : Int32))), .val (.long r6), .second, .unset, .unset, .unset, .unset, .unset, .unset, .unset, .unset, .unset] [(.long r6)])) _
    refine XS.iconst X6.here hx rfl (hb hby at_50) ?_
    show Steps p.tables e below (T6.setTop (mkF m 51 #[.val (.long q1), .second, .val (.int p2), .val (.int p3), .val (.int (p2.toInt8.toInt32)), .val (.int ((p2.toInt8.toInt32) &&& (255 : Int32))), .val (.long r6), .second, .unset, .unset, .unset, .unset, .unset, .unset, .unset, .unset, .unset] [(.int (3 : Int32)), (.long r6)])) _
    refine XS.iloadN X6.here hx rfl (hb hby at_51) rfl ?_
    show Steps p.tables e below (T6.setTop (mkF m 52 #[.val (.long q1), .second, .val (.int p2), .val (.int p3), .val (.int (p2.toInt8.toInt32)), .val (.int ((p2.toInt8.toInt32) &&& (255 : Int32))), .val (.long r6), .second, .unset, .unset, .unset, .unset, .unset, .unset, .unset, .unset, .unset] [(.int p3), (.int (3 : Int32)), (.long r6)])) _
    refine XS.iload X6.here hx rfl (hb hby at_52) rfl ?_
    show Steps p.tables e below (T6.setTop (mkF m 54 #[.val (.long q1), .second, .val (.int p2), .val (.int p3), .val (.int (p2.toInt8.toInt32)), .val (.int ((p2.toInt8.toInt32) &&& (255 : Int32))), .val (.long r6), .second, .unset, .unset, .unset, .unset, .unset, .unset, .unset, .unset, .unset] [(.int ((p2.toInt8.toInt32) &&& (255 : Int32))), (.int p3), (.int (3 : Int32)), (.long r6)])) _
    refine st7 _ ?_
    show Steps p.tables e below (T7.setTop (mkF m 57 #[.val (.long q1), .second, .val (.int p2), .val (.int p3), .val (.int (p2.toInt8.toInt32)), .val (.int ((p2.toInt8.toInt32) &&& (255 : Int32))), .val (.long r6), .second, .unset, .unset, .unset, .unset, .unset, .unset, .unset, .unset, .unset] [(.long r7)])) _
    refine XS.lstore X7.here hx rfl (hb hby at_57) rfl (l' := #[.val (.long q1), .second, .val (.int p2), .val (.int p3), .val (.int (p2.toInt8.toInt32)), .val (.int ((p2.toInt8.toInt32) &&& (255 : Int32))), .val (.long r7), .second, .unset, .unset, .unset, .unset, .unset, .unset, .unset, .unset, .unset]) rfl ?_
    show Steps p.tables e below (T7.setTop (mkF m 59 #[.val (.long q1), .second, .val (.int p2), .val (.int p3), .val (.int (p2.toInt8.toInt32)), .val (.int ((p2.toInt8.toInt32) &&& (255 : Int32))), .val (.long r7), .second, .unset, .unset, .unset, .unset, .unset, .unset, .unset, .unset, .unset] [])) _
    refine XS.lload X7.here hx rfl (hb hby at_59) rfl ?_
    show Steps p.tables e below (T7.setTop (mkF m 61 #[.val (.long q1), .second, .val (.int p2), .val (.int p3), .val (.int (p2.toInt8.toInt32)), .val (.int ((p2.toInt8.toInt32) &&& (255 : Int32))), .val (.long r7), .second, .unset, .unset, .unset, .unset, .unset, .unset, .unset, .unset, .unset] [(.long r7)])) _
    refine XS.iconst X7.here hx rfl (hb hby at_61) ?_
    show Steps p.tables e below (T7.setTop (mkF m 62 #[.val (.long q1), .second, .val (.int p2), .val (.int p3), .val (.int (p2.toInt8.toInt32)), .val (.int ((p2.toInt8.toInt32) &&& (255 : Int32))), .val (.long r7), .second, .unset, .unset, .unset, .unset, .unset, .unset, .unset, .unset, .unset] [(.int (4 : Int32)), (.long r7)])) _
    refine XS.iloadN X7.here hx rfl (hb hby at_62) rfl ?_
    show Steps p.tables e below (T7.setTop (mkF m 63 #[.val (.long q1), .second, .val (.int p2), .val (.int p3), .val (.int (p2.toInt8.toInt32)), .val (.int ((p2.toInt8.toInt32) &&& (255 : Int32))), .val (.long r7), .second, .unset, .unset, .unset, .unset, .unset, .unset, .unset, .unset, .unset] [(.int p3), (.int (4 : Int32)), (.long r7)])) _
    refine XS.iload X7.here hx rfl (hb hby at_63) rfl ?_
    show Steps p.tables e below (T7.setTop (mkF m 65 #[.val (.long q1), .second, .val (.int p2), .val (.int p3), .val (.int (p2.toInt8.toInt32)), .val (.int ((p2.toInt8.toInt32) &&& (255 : Int32))), .val (.long r7), .second, .unset, .unset, .unset, .unset, .unset, .unset, .unset, .unset, .unset] [(.int ((p2.toInt8.toInt32) &&& (255 : Int32))), (.int p3), (.int (4 : Int32)), (.long r7)])) _
    refine st8 _ ?_
    show Steps p.tables e below (T8.setTop (mkF m 68 #[.val (.long q1), .second, .val (.int p2), .val (.int p3), .val (.int (p2.toInt8.toInt32)), .val (.int ((p2.toInt8.toInt32) &&& (255 : Int32))), .val (.long r7), .second, .unset, .unset, .unset, .unset, .unset, .unset, .unset, .unset, .unset] [(.long r8)])) _
    refine XS.lstore X8.here hx rfl (hb hby at_68) rfl (l' := #[.val (.long q1), .second, .val (.int p2), .val (.int p3), .val (.int (p2.toInt8.toInt32)), .val (.int ((p2.toInt8.toInt32) &&& (255 : Int32))), .val (.long r8), .second, .unset, .unset, .unset, .unset, .unset, .unset, .unset, .unset, .unset]) rfl ?_
    show Steps p.tables e below (T8.setTop (mkF m 70 #[.val (.long q1), .second, .val (.int p2), .val (.int p3), .val (.int (p2.toInt8.toInt32)), .val (.int ((p2.toInt8.toInt32) &&& (255 : Int32))), .val (.long r8), .second, .unset, .unset, .unset, .unset, .unset, .unset, .unset, .unset, .unset] [])) _
    refine XS.lload X8.here hx rfl (hb hby at_70) rfl ?_
    show Steps p.tables e below (T8.setTop (mkF m 72 #[.val (.long q1), .second, .val (.int p2), .val (.int p3), .val (.int (p2.toInt8.toInt32)), .val (.int ((p2.toInt8.toInt32) &&& (255 : Int32))), .val (.long r8), .second, .unset, .unset, .unset, .unset, .unset, .unset, .unset, .unset, .unset] [(.long r8)])) _
    refine XS.iconst X8.here hx rfl (hb hby at_72) ?_
    show Steps p.tables e below (T8.setTop (mkF m 73 #[.val (.long q1), .second, .val (.int p2), .val (.int p3), .val (.int (p2.toInt8.toInt32)), .val (.int ((p2.toInt8.toInt32) &&& (255 : Int32))), .val (.long r8), .second, .unset, .unset, .unset, .unset, .unset, .unset, .unset, .unset, .unset] [(.int (5 : Int32)), (.long r8)])) _
    refine XS.iloadN X8.here hx rfl (hb hby at_73) rfl ?_
    show Steps p.tables e below (T8.setTop (mkF m 74 #[.val (.long q1), .second, .val (.int p2), .val (.int p3), .val (.int (p2.toInt8.toInt32)), .val (.int ((p2.toInt8.toInt32) &&& (255 : Int32))), .val (.long r8), .second, .unset, .unset, .unset, .unset, .unset, .unset, .unset, .unset, .unset] [(.int p3), (.int (5 : Int32)), (.long r8)])) _
    refine XS.iload X8.here hx rfl (hb hby at_74) rfl ?_
    show Steps p.tables e below (T8.setTop (mkF m 76 #[.val (.long q1), .second, .val (.int p2), .val (.int p3), .val (.int (p2.toInt8.toInt32)), .val (.int ((p2.toInt8.toInt32) &&& (255 : Int32))), .val (.long r8), .second, .unset, .unset, .unset, .unset, .unset, .unset, .unset, .unset, .unset] [(.int ((p2.toInt8.toInt32) &&& (255 : Int32))), (.int p3), (.int (5 : Int32)), (.long r8)])) _
    refine st9 _ ?_
    show Steps p.tables e below (T9.setTop (mkF m 79 #[.val (.long q1), .second, .val (.int p2), .val (.int p3), .val (.int (p2.toInt8.toInt32)), .val (.int ((p2.toInt8.toInt32) &&& (255 : Int32))), .val (.long r8), .second, .unset, .unset, .unset, .unset, .unset, .unset, .unset, .unset, .unset] [(.long r9)])) _
    refine XS.lstore X9.here hx rfl (hb hby at_79) rfl (l' := #[.val (.long q1), .second, .val (.int p2), .val (.int p3), .val (.int (p2.toInt8.toInt32)), .val (.int ((p2.toInt8.toInt32) &&& (255 : Int32))), .val (.long r9), .second, .unset, .unset, .unset, .unset, .unset, .unset, .unset, .unset, .unset]) rfl ?_
    show Steps p.tables e below (T9.setTop (mkF m 81 #[.val (.long q1), .second, .val (.int p2), .val (.int p3), .val (.int (p2.toInt8.toInt32)), .val (.int ((p2.toInt8.toInt32) &&& (255 : Int32))), .val (.long r9), .second, .unset, .unset, .unset, .unset, .unset, .unset, .unset, .unset, .unset] [])) _
    refine XS.lload X9.here hx rfl (hb hby at_81) rfl ?_
    show Steps p.tables e below (T9.setTop (mkF m 83 #[.val (.long q1), .second, .val (.int p2), .val (.int p3), .val (.int (p2.toInt8.toInt32)), .val (.int ((p2.toInt8.toInt32) &&& (255 : Int32))), .val (.long r9), .second, .unset, .unset, .unset, .unset, .unset, .unset, .unset, .unset, .unset] [(.long r9)])) _
    refine XS.bipush X9.here hx rfl (hb hby at_83) ?_
    show Steps p.tables e below (T9.setTop (mkF m 85 #[.val (.long q1), .second, .val (.int p2), .val (.int p3), .val (.int (p2.toInt8.toInt32)), .val (.int ((p2.toInt8.toInt32) &&& (255 : Int32))), .val (.long r9), .second, .unset, .unset, .unset, .unset, .unset, .unset, .unset, .unset, .unset] [(.int (6 : Int32)), (.long r9)])) _
    refine XS.iloadN X9.here hx rfl (hb hby at_85) rfl ?_
    show Steps p.tables e below (T9.setTop (mkF m 86 #[.val (.long q1), .second, .val (.int p2), .val (.int p3), .val (.int (p2.toInt8.toInt32)), .val (.int ((p2.toInt8.toInt32) &&& (255 : Int32))), .val (.long r9), .second, .unset, .unset, .unset, .unset, .unset, .unset, .unset, .unset, .unset] [(.int p3), (.int (6 : Int32)), (.long r9)])) _
    refine XS.iload X9.here hx rfl (hb hby at_86) rfl ?_
    show Steps p.tables e below (T9.setTop (mkF m 88 #[.val (.long q1), .second, .val (.int p2), .val (.int p3), .val (.int (p2.toInt8.toInt32)), .val (.int ((p2.toInt8.toInt32) &&& (255 : Int32))), .val (.long r9), .second, .unset, .unset, .unset, .unset, .unset, .unset, .unset, .unset, .unset] [(.int ((p2.toInt8.toInt32) &&& (255 : Int32))), (.int p3), (.int (6 : Int32)), (.long r9)])) _
    refine st10 _ ?_
    show Steps p.tables e below (T10.setTop (mkF m 91 #[.val (.long q1), .second, .val (.int p2), .val (.int p3), .val (.int (p2.toInt8.toInt32)), .val (.int ((p2.toInt8.toInt32) &&& (255 : Int32))), .val (.long r9), .second, .unset, .unset, .unset, .unset, .unset, .unset, .unset, .unset, .unset] [(.long r10)])) _
    refine XS.lstore X10.here hx rfl (hb hby at_91) rfl (l' := #[.val (.long q1), .second, .val (.int p2), .val (.int p3), .val (.int (p2.toInt8.toInt32)), .val (.int ((p2.toInt8.toInt32) &&& (255 : Int32))), .val (.long r10), .second, .unset, .unset, .unset, .unset, .unset, .unset, .unset, .unset, .unset]) rfl ?_
    show Steps p.tables e below (T10.setTop (mkF m 93 #[.val (.long q1), .second, .val (.int p2), .val (.int p3), .val (.int (p2.toInt8.toInt32)), .val (.int ((p2.toInt8.toInt32) &&& (255 : Int32))), .val (.long r10), .second, .unset, .unset, .unset, .unset, .unset, .unset, .unset, .unset, .unset] [])) _
    refine XS.lload X10.here hx rfl (hb hby at_93) rfl ?_
    show Steps p.tables e below (T10.setTop (mkF m 95 #[.val (.long q1), .second, .val (.int p2), .val (.int p3), .val (.int (p2.toInt8.toInt32)), .val (.int ((p2.toInt8.toInt32) &&& (255 : Int32))), .val (.long r10), .second, .unset, .unset, .unset, .unset, .unset, .unset, .unset, .unset, .unset] [(.long r10)])) _
    refine XS.bipush X10.here hx rfl (hb hby at_95) ?_
    show Steps p.tables e below (T10.setTop (mkF m 97 #[.val (.long q1), .second, .val (.int p2), .val (.int p3), .val (.int (p2.toInt8.toInt32)), .val (.int ((p2.toInt8.toInt32) &&& (255 : Int32))), .val (.long r10), .second, .unset, .unset, .unset, .unset, .unset, .unset, .unset, .unset, .unset] [(.int (7 : Int32)), (.long r10)])) _
    refine XS.iloadN X10.here hx rfl (hb hby at_97) rfl ?_
    show Steps p.tables e below (T10.setTop (mkF m 98 #[.val (.long q1), .second, .val (.int p2), .val (.int p3), .val (.int (p2.toInt8.toInt32)), .val (.int ((p2.toInt8.toInt32) &&& (255 : Int32))), .val (.long r10), .second, .unset, .unset, .unset, .unset, .unset, .unset, .unset, .unset, .unset] [(.int p3), (.int (7 : Int32)), (.long r10)])) _
    refine XS.iload X10.here hx rfl (hb hby at_98) rfl ?_
    show Steps p.tables e below (T10.setTop (mkF m 100 #[.val (.long q1), .second, .val (.int p2), .val (.int p3), .val (.int (p2.toInt8.toInt32)), .val (.int ((p2.toInt8.toInt32) &&& (255 : Int32))), .val (.long r10), .second, .unset, .unset, .unset, .unset, .unset, .unset, .unset, .unset, .unset] [(.int ((p2.toInt8.toInt32) &&& (255 : Int32))), (.int p3), (.int (7 : Int32)), (.long r10)])) _
    refine st11 _ ?_
    show Steps p.tables e below (T11.setTop (mkF m 103 #[.val (.long q1), .second, .val (.int p2), .val (.int p3), .val (.int (p2.toInt8.toInt32)), .val (.int ((p2.toInt8.toInt32) &&& (255 : Int32))), .val (.long r10), .second, .unset, .unset, .unset, .unset, .unset, .unset, .unset, .unset, .unset] [(.long r11)])) _
    refine XS.lstore X11.here hx rfl (hb hby at_103) rfl (l' := #[.val (.long q1), .second, .val (.int p2), .val (.int p3), .val (.int (p2.toInt8.toInt32)), .val (.int ((p2.toInt8.toInt32) &&& (255 : Int32))), .val (.long r11), .second, .unset, .unset, .unset, .unset, .unset, .unset, .unset, .unset, .unset]) rfl ?_
    show Steps p.tables e below (T11.setTop (mkF m 105 #[.val (.long q1), .second, .val (.int p2), .val (.int p3), .val (.int (p2.toInt8.toInt32)), .val (.int ((p2.toInt8.toInt32) &&& (255 : Int32))), .val (.long r11), .second, .unset, .unset, .unset, .unset, .unset, .unset, .unset, .unset, .unset] [])) _
    refine XS.lload X11.here hx rfl (hb hby at_105) rfl ?_
    show Steps p.tables e below (T11.setTop (mkF m 107 #[.val (.long q1), .second, .val (.int p2), .val (.int p3), .val (.int (p2.toInt8.toInt32)), .val (.int ((p2.toInt8.toInt32) &&& (255 : Int32))), .val (.long r11), .second, .unset, .unset, .unset, .unset, .unset, .unset, .unset, .unset, .unset] [(.long r11)])) _
    refine XS.iload X11.here hx rfl (hb hby at_107) rfl ?_
    show Steps p.tables e below (T11.setTop (mkF m 109 #[.val (.long q1), .second, .val (.int p2), .val (.int p3), .val (.int (p2.toInt8.toInt32)), .val (.int ((p2.toInt8.toInt32) &&& (255 : Int32))), .val (.long r11), .second, .unset, .unset, .unset, .unset, .unset, .unset, .unset, .unset, .unset] [(.int (p2.toInt8.toInt32)), (.long r11)])) _
    refine st12 _ ?_
    show Steps p.tables e below (T12.setTop (mkF m 112 #[.val (.long q1), .second, .val (.int p2), .val (.int p3), .val (.int (p2.toInt8.toInt32)), .val (.int ((p2.toInt8.toInt32) &&& (255 : Int32))), .val (.long r11), .second, .unset, .unset, .unset, .unset, .unset, .unset, .unset, .unset, .unset] [(.long r12)])) _
    refine XS.lstore X12.here hx rfl (hb hby at_112) rfl (l' := #[.val (.long q1), .second, .val (.int p2), .val (.int p3), .val (.int (p2.toInt8.toInt32)), .val (.int ((p2.toInt8.toInt32) &&& (255 : Int32))), .val (.long r11), .second, .val (.long r12), .second, .unset, .unset, .unset, .unset, .unset, .unset, .unset]) rfl ?_
    show Steps p.tables e below (T12.setTop (mkF m 114 #[.val (.long q1), .second, .val (.int p2), .val (.int p3), .val (.int (p2.toInt8.toInt32)), .val (.int ((p2.toInt8.toInt32) &&& (255 : Int32))), .val (.long r11), .second, .val (.long r12), .second, .unset, .unset, .unset, .unset, .unset, .unset, .unset] [])) _
    refine XS.lconst X12.here hx rfl (hb hby at_114) ?_
    show Steps p.tables e below (T12.setTop (mkF m 115 #[.val (.long q1), .second, .val (.int p2), .val (.int p3), .val (.int (p2.toInt8.toInt32)), .val (.int ((p2.toInt8.toInt32) &&& (255 : Int32))), .val (.long r11), .second, .val (.long r12), .second, .unset, .unset, .unset, .unset, .unset, .unset, .unset] [(.long (0 : Int64))])) _
    refine XS.lstore X12.here hx rfl (hb hby at_115) rfl (l' := #[.val (.long q1), .second, .val (.int p2), .val (.int p3), .val (.int (p2.toInt8.toInt32)), .val (.int ((p2.toInt8.toInt32) &&& (255 : Int32))), .val (.long r11), .second, .val (.long r12), .second, .val (.long (0 : Int64)), .second, .unset, .unset, .unset, .unset, .unset]) rfl ?_
    show Steps p.tables e below (T12.setTop (mkF m 117 #[.val (.long q1), .second, .val (.int p2), .val (.int p3), .val (.int (p2.toInt8.toInt32)), .val (.int ((p2.toInt8.toInt32) &&& (255 : Int32))), .val (.long r11), .second, .val (.long r12), .second, .val (.long (0 : Int64)), .second, .unset, .unset, .unset, .unset, .unset] [])) _
    refine XS.lload X12.here hx rfl (hb hby at_117) rfl ?_
    show Steps p.tables e below (T12.setTop (mkF m 119 #[.val (.long q1), .second, .val (.int p2), .val (.int p3), .val (.int (p2.toInt8.toInt32)), .val (.int ((p2.toInt8.toInt32) &&& (255 : Int32))), .val (.long r11), .second, .val (.long r12), .second, .val (.long (0 : Int64)), .second, .unset, .unset, .unset, .unset, .unset] [(.long (0 : Int64))])) _
    refine XS.lload X12.here hx rfl (hb hby at_119) rfl ?_
    show Steps p.tables e below (T12.setTop (mkF m 121 #[.val (.long q1), .second, .val (.int p2), .val (.int p3), .val (.int (p2.toInt8.toInt32)), .val (.int ((p2.toInt8.toInt32) &&& (255 : Int32))), .val (.long r11), .second, .val (.long r12), .second, .val (.long (0 : Int64)), .second, .unset, .unset, .unset, .unset, .unset] [(.long r11), (.long (0 : Int64))])) _
    refine XS.iconst X12.here hx rfl (hb hby at_121) ?_
    show Steps p.tables e below (T12.setTop (mkF m 122 #[.val (.long q1), .second, .val (.int p2), .val (.int p3), .val (.int (p2.toInt8.toInt32)), .val (.int ((p2.toInt8.toInt32) &&& (255 : Int32))), .val (.long r11), .second, .val (.long r12), .second, .val (.long (0 : Int64)), .second, .unset, .unset, .unset, .unset, .unset] [(.int (0 : Int32)), (.long r11), (.long (0 : Int64))])) _
    refine XS.iload X12.here hx rfl (hb hby at_122) rfl ?_
    show Steps p.tables e below (T12.setTop (mkF m 124 #[.val (.long q1), .second, .val (.int p2), .val (.int p3), .val (.int (p2.toInt8.toInt32)), .val (.int ((p2.toInt8.toInt32) &&& (255 : Int32))), .val (.long r11), .second, .val (.long r12), .second, .val (.long (0 : Int64)), .second, .unset, .unset, .unset, .unset, .unset] [(.int ((p2.toInt8.toInt32) &&& (255 : Int32))), (.int (0 : Int32)), (.long r11), (.long (0 : Int64))])) _
    refine st13 _ ?_
    show Steps p.tables e below (T13.setTop (mkF m 127 #[.val (.long q1), .second, .val (.int p2), .val (.int p3), .val (.int (p2.toInt8.toInt32)), .val (.int ((p2.toInt8.toInt32) &&& (255 : Int32))), .val (.long r11), .second, .val (.long r12), .second, .val (.long (0 : Int64)), .second, .unset, .unset, .unset, .unset, .unset] [(.long r13), (.long (0 : Int64))])) _
    refine XS.lor X13.here hx rfl (hb hby at_127) rfl ?_
    show Steps p.tables e below (T13.setTop (mkF m 128 #[.val (.long q1), .second, .val (.int p2), .val (.int p3), .val (.int (p2.toInt8.toInt32)), .val (.int ((p2.toInt8.toInt32) &&& (255 : Int32))), .val (.long r11), .second, .val (.long r12), .second, .val (.long (0 : Int64)), .second, .unset, .unset, .unset, .unset, .unset] [(.long ((0 : Int64) ||| r13))])) _
    refine XS.lstore X13.here hx rfl (hb hby at_128) rfl (l' := #[.val (.long q1), .second, .val (.int p2), .val (.int p3), .val (.int (p2.toInt8.toInt32)), .val (.int ((p2.toInt8.toInt32) &&& (255 : Int32))), .val (.long r11), .second, .val (.long r12), .second, .val (.long ((0 : Int64) ||| r13)), .second, .unset, .unset, .unset, .unset, .unset]) rfl ?_
    show Steps p.tables e below (T13.setTop (mkF m 130 #[.val (.long q1), .second, .val (.int p2), .val (.int p3), .val (.int (p2.toInt8.toInt32)), .val (.int ((p2.toInt8.toInt32) &&& (255 : Int32))), .val (.long r11), .second, .val (.long r12), .second, .val (.long ((0 : Int64) ||| r13)), .second, .unset, .unset, .unset, .unset, .unset] [])) _
    refine XS.lload X13.here hx rfl (hb hby at_130) rfl ?_
    show Steps p.tables e below (T13.setTop (mkF m 132 #[.val (.long q1), .second, .val (.int p2), .val (.int p3), .val (.int (p2.toInt8.toInt32)), .val (.int ((p2.toInt8.toInt32) &&& (255 : Int32))), .val (.long r11), .second, .val (.long r12), .second, .val (.long ((0 : Int64) ||| r13)), .second, .unset, .unset, .unset, .unset, .unset] [(.long ((0 : Int64) ||| r13))])) _
    refine XS.lload X13.here hx rfl (hb hby at_132) rfl ?_
    show Steps p.tables e below (T13.setTop (mkF m 134 #[.val (.long q1), .second, .val (.int p2), .val (.int p3), .val (.int (p2.toInt8.toInt32)), .val (.int ((p2.toInt8.toInt32) &&& (255 : Int32))), .val (.long r11), .second, .val (.long r12), .second, .val (.long ((0 : Int64) ||| r13)), .second, .unset, .unset, .unset, .unset, .unset] [(.long r11), (.long ((0 : Int64) ||| r13))])) _
    refine XS.iconst X13.here hx rfl (hb hby at_134) ?_
    show Steps p.tables e below (T13.setTop (mkF m 135 #[.val (.long q1), .second, .val (.int p2), .val (.int p3), .val (.int (p2.toInt8.toInt32)), .val (.int ((p2.toInt8.toInt32) &&& (255 : Int32))), .val (.long r11), .second, .val (.long r12), .second, .val (.long ((0 : Int64) ||| r13)), .second, .unset, .unset, .unset, .unset, .unset] [(.int (1 : Int32)), (.long r11), (.long ((0 : Int64) ||| r13))])) _
    refine XS.iload X13.here hx rfl (hb hby at_135) rfl ?_
    show Steps p.tables e below (T13.setTop (mkF m 137 #[.val (.long q1), .second, .val (.int p2), .val (.int p3), .val (.int (p2.toInt8.toInt32)), .val (.int ((p2.toInt8.toInt32) &&& (255 : Int32))), .val (.long r11), .second, .val (.long r12), .second, .val (.long ((0 : Int64) ||| r13)), .second, .unset, .unset, .unset, .unset, .unset] [(.int ((p2.toInt8.toInt32) &&& (255 : Int32))), (.int (1 : Int32)), (.long r11), (.long ((0 : Int64) ||| r13))])) _
    refine st14 _ ?_
    show Steps p.tables e below (T14.setTop (mkF m 140 #[.val (.long q1), .second, .val (.int p2), .val (.int p3), .val (.int (p2.toInt8.toInt32)), .val (.int ((p2.toInt8.toInt32) &&& (255 : Int32))), .val (.long r11), .second, .val (.long r12), .second, .val (.long ((0 : Int64) ||| r13)), .second, .unset, .unset, .unset, .unset, .unset] [(.long r14), (.long ((0 : Int64) ||| r13))])) _
    refine XS.lor X14.here hx rfl (hb hby at_140) rfl ?_
    show Steps p.tables e below (T14.setTop (mkF m 141 #[.val (.long q1), .second, .val (.int p2), .val (.int p3), .val (.int (p2.toInt8.toInt32)), .val (.int ((p2.toInt8.toInt32) &&& (255 : Int32))), .val (.long r11), .second, .val (.long r12), .second, .val (.long ((0 : Int64) ||| r13)), .second, .unset, .unset, .unset, .unset, .unset] [(.long (((0 : Int64) ||| r13) ||| r14))])) _
    refine XS.lstore X14.here hx rfl (hb hby at_141) rfl (l' := #[.val (.long q1), .second, .val (.int p2), .val (.int p3), .val (.int (p2.toInt8.toInt32)), .val (.int ((p2.toInt8.toInt32) &&& (255 : Int32))), .val (.long r11), .second, .val (.long r12), .second, .val (.long (((0 : Int64) ||| r13) ||| r14)), .second, .unset, .unset, .unset, .unset, .unset]) rfl ?_
    show Steps p.tables e below (T14.setTop (mkF m 143 #[.val (.long q1), .second, .val (.int p2), .val (.int p3), .val (.int (p2.toInt8.toInt32)), .val (.int ((p2.toInt8.toInt32) &&& (255 : Int32))), .val (.long r11), .second, .val (.long r12), .second, .val (.long (((0 : Int64) ||| r13) ||| r14)), .second, .unset, .unset, .unset, .unset, .unset] [])) _
    refine XS.lload X14.here hx rfl (hb hby at_143) rfl ?_
    show Steps p.tables e below (T14.setTop (mkF m 145 #[.val (.long q1), .second, .val (.int p2), .val (.int p3), .val (.int (p2.toInt8.toInt32)), .val (.int ((p2.toInt8.toInt32) &&& (255 : Int32))), .val (.long r11), .second, .val (.long r12), .second, .val (.long (((0 : Int64) ||| r13) ||| r14)), .second, .unset, .unset, .unset, .unset, .unset] [(.long (((0 : Int64) ||| r13) ||| r14))])) _
    refine XS.lload X14.here hx rfl (hb hby at_145) rfl ?_
    show Steps p.tables e below (T14.setTop (mkF m 147 #[.val (.long q1), .second, .val (.int p2), .val (.int p3), .val (.int (p2.toInt8.toInt32)), .val (.int ((p2.toInt8.toInt32) &&& (255 : Int32))), .val (.long r11), .second, .val (.long r12), .second, .val (.long (((0 : Int64) ||| r13) ||| r14)), .second, .unset, .unset, .unset, .unset, .unset] [(.long r11), (.long (((0 : Int64) ||| r13) ||| r14))])) _
    refine XS.iconst X14.here hx rfl (hb hby at_147) ?_
    show Steps p.tables e below (T14.setTop (mkF m 148 #[.val (.long q1), .second, .val (.int p2), .val (.int p3), .val (.int (p2.toInt8.toInt32)), .val (.int ((p2.toInt8.toInt32) &&& (255 : Int32))), .val (.long r11), .second, .val (.long r12), .second, .val (.long (((0 : Int64) ||| r13) ||| r14)), .second, .unset, .unset, .unset, .unset, .unset] [(.int (2 : Int32)), (.long r11), (.long (((0 : Int64) ||| r13) ||| r14))])) _
    refine XS.iload X14.here hx rfl (hb hby at_148) rfl ?_
    show Steps p.tables e below (T14.setTop (mkF m 150 #[.val (.long q1), .second, .val (.int p2), .val (.int p3), .val (.int (p2.toInt8.toInt32)), .val (.int ((p2.toInt8.toInt32) &&& (255 : Int32))), .val (.long r11), .second, .val (.long r12), .second, .val (.long (((0 : Int64) ||| r13) ||| r14)), .second, .unset, .unset, .unset, .unset, .unset] [(.int ((p2.toInt8.toInt32) &&& (255 : Int32))), (.int (2 : Int32)), (.long r11), (.long (((0 : Int64) ||| r13) ||| r14))])) _
    refine st15 _ ?_
    show Steps p.tables e below (T15.setTop (mkF m 153 #[.val (.long q1), .second, .val (.int p2), .val (.int p3), .val (.int (p2.toInt8.toInt32)), .val (.int ((p2.toInt8.toInt32) &&& (255 : Int32))), .val (.long r11), .second, .val (.long r12), .second, .val (.long (((0 : Int64) ||| r13) ||| r14)), .second, .unset, .unset, .unset, .unset, .unset] [(.long r15), (.long (((0 : Int64) ||| r13) ||| r14))])) _
    refine XS.lor X15.here hx rfl (hb hby at_153) rfl ?_
    show Steps p.tables e below (T15.setTop (mkF m 154 #[.val (.long q1), .second, .val (.int p2), .val (.int p3), .val (.int (p2.toInt8.toInt32)), .val (.int ((p2.toInt8.toInt32) &&& (255 : Int32))), .val (.long r11), .second, .val (.long r12), .second, .val (.long (((0 : Int64) ||| r13) ||| r14)), .second, .unset, .unset, .unset, .unset, .unset] [(.long ((((0 : Int64) ||| r13) ||| r14) ||| r15))])) _
    refine XS.lstore X15.here hx rfl (hb hby at_154) rfl (l' := #[.val (.long q1), .second, .val (.int p2), .val (.int p3), .val (.int (p2.toInt8.toInt32)), .val (.int ((p2.toInt8.toInt32) &&& (255 : Int32))), .val (.long r11), .second, .val (.long r12), .second, .val (.long ((((0 : Int64) ||| r13) ||| r14) ||| r15)), .second, .unset, .unset, .unset, .unset, .unset]) rfl ?_
    show Steps p.tables e below (T15.setTop (mkF m 156 #[.val (.long q1), .second, .val (.int p2), .val (.int p3), .val (.int (p2.toInt8.toInt32)), .val (.int ((p2.toInt8.toInt32) &&& (255 : Int32))), .val (.long r11), .second, .val (.long r12), .second, .val (.long ((((0 : Int64) ||| r13) ||| r14) ||| r15)), .second, .unset, .unset, .unset, .unset, .unset] [])) _
    refine XS.lload X15.here hx rfl (hb hby at_156) rfl ?_
    show Steps p.tables e below (T15.setTop (mkF m 158 #[.val (.long q1), .second, .val (.int p2), .val (.int p3), .val (.int (p2.toInt8.toInt32)), .val (.int ((p2.toInt8.toInt32) &&& (255 : Int32))), .val (.long r11), .second, .val (.long r12), .second, .val (.long ((((0 : Int64) ||| r13) ||| r14) ||| r15)), .second, .unset, .unset, .unset, .unset, .unset] [(.long ((((0 : Int64) ||| r13) ||| r14) ||| r15))])) _
    refine XS.lload X15.here hx rfl (hb hby at_158) rfl ?_
    show Steps p.tables e below (T15.setTop (mkF m 160 #[.val (.long q1), .second, .val (.int p2), .val (.int p3), .val (.int (p2.toInt8.toInt32)), .val (.int ((p2.toInt8.toInt32) &&& (255 : Int32))), .val (.long r11), .second, .val (.long r12), .second, .val (.long ((((0 : Int64) ||| r13) ||| r14) ||| r15)), .second, .unset, .unset, .unset, .unset, .unset] [(.long r11), (.long ((((0 : Int64) ||| r13) ||| r14) ||| r15))])) _
    refine XS.iconst X15.here hx rfl (hb hby at_160) ?_
    show Steps p.tables e below (T15.setTop (mkF m 161 #[.val (.long q1), .second, .val (.int p2), .val (.int p3), .val (.int (p2.toInt8.toInt32)), .val (.int ((p2.toInt8.toInt32) &&& (255 : Int32))), .val (.long r11), .second, .val (.long r12), .second, .val (.long ((((0 : Int64) ||| r13) ||| r14) ||| r15)), .second, .unset, .unset, .unset, .unset, .unset] [(.int (3 : Int32)), (.long r11), (.long ((((0 : Int64) ||| r13) ||| r14) ||| r15))])) _
    refine XS.iload X15.here hx rfl (hb hby at_161) rfl ?_
    show Steps p.tables e below (T15.setTop (mkF m 163 #[.val (.long q1), .second, .val (.int p2), .val (.int p3), .val (.int (p2.toInt8.toInt32)), .val (.int ((p2.toInt8.toInt32) &&& (255 : Int32))), .val (.long r11), .second, .val (.long r12), .second, .val (.long ((((0 : Int64) ||| r13) ||| r14) ||| r15)), .second, .unset, .unset, .unset, .unset, .unset] [(.int ((p2.toInt8.toInt32) &&& (255 : Int32))), (.int (3 : Int32)), (.long r11), (.long ((((0 : Int64) ||| r13) ||| r14) ||| r15))])) _
    refine st16 _ ?_
    show Steps p.tables e below (T16.setTop (mkF m 166 #[.val (.long q1), .second, .val (.int p2), .val (.int p3), .val (.int (p2.toInt8.toInt32)), .val (.int ((p2.toInt8.toInt32) &&& (255 : Int32))), .val (.long r11), .second, .val (.long r12), .second, .val (.long ((((0 : Int64) ||| r13) ||| r14) ||| r15)), .second, .unset, .unset, .unset, .unset, .unset] [(.long r16), (.long ((((0 : Int64) ||| r13) ||| r14) ||| r15))])) _
    refine XS.lor X16.here hx rfl (hb hby at_166) rfl ?_
    show Steps p.tables e below (T16.setTop (mkF m 167 #[.val (.long q1), .second, .val (.int p2), .val (.int p3), .val (.int (p2.toInt8.toInt32)), .val (.int ((p2.toInt8.toInt32) &&& (255 : Int32))), .val (.long r11), .second, .val (.long r12), .second, .val (.long ((((0 : Int64) ||| r13) ||| r14) ||| r15)), .second, .unset, .unset, .unset, .unset, .unset] [(.long (((((0 : Int64) ||| r13) ||| r14) ||| r15) ||| r16))])) _
    refine XS.lstore X16.here hx rfl (hb hby at_167) rfl (l' := #[.val (.long q1), .second, .val (.int p2), .val (.int p3), .val (.int (p2.toInt8.toInt32)), .val (.int ((p2.toInt8.toInt32) &&& (255 : Int32))), .val (.long r11), .second, .val (.long r12), .second, .val (.long (((((0 : Int64) ||| r13) ||| r14) ||| r15) ||| r16)), .second, .unset, .unset, .unset, .unset, .unset]) rfl ?_
    show Steps p.tables e below (T16.setTop (mkF m 169 #[.val (.long q1), .second, .val (.int p2), .val (.int p3), .val (.int (p2.toInt8.toInt32)), .val (.int ((p2.toInt8.toInt32) &&& (255 : Int32))), .val (.long r11), .second, .val (.long r12), .second, .val (.long (((((0 : Int64) ||| r13) ||| r14) ||| r15) ||| r16)), .second, .unset, .unset, .unset, .unset, .unset] [])) _
    refine XS.lload X16.here hx rfl (hb hby at_169) rfl ?_
    show Steps p.tables e below (T16.setTop (mkF m 171 #[.val (.long q1), .second, .val (.int p2), .val (.int p3), .val (.int (p2.toInt8.toInt32)), .val (.int ((p2.toInt8.toInt32) &&& (255 : Int32))), .val (.long r11), .second, .val (.long r12), .second, .val (.long (((((0 : Int64) ||| r13) ||| r14) ||| r15) ||| r16)), .second, .unset, .unset, .unset, .unset, .unset] [(.long (((((0 : Int64) ||| r13) ||| r14) ||| r15) ||| r16))])) _
    refine XS.lload X16.here hx rfl (hb hby at_171) rfl ?_
    show Steps p.tables e below (T16.setTop (mkF m 173 #[.val (.long q1), .second, .val (.int p2), .val (.int p3), .val (.int (p2.toInt8.toInt32)), .val (.int ((p2.toInt8.toInt32) &&& (255 : Int32))), .val (.long r11), .second, .val (.long r12), .second, .val (.long (((((0 : Int64) ||| r13) ||| r14) ||| r15) ||| r16)), .second, .unset, .unset, .unset, .unset, .unset] [(.long r11), (.long (((((0 : Int64) ||| r13) ||| r14) ||| r15) ||| r16))])) _
    refine XS.iconst X16.here hx rfl (hb hby at_173) ?_
    show Steps p.tables e below (T16.setTop (mkF m 174 #[.val (.long q1), .second, .val (.int p2), .val (.int p3), .val (.int (p2.toInt8.toInt32)), .val (.int ((p2.toInt8.toInt32) &&& (255 : Int32))), .val (.long r11), .second, .val (.long r12), .second, .val (.long (((((0 : Int64) ||| r13) ||| r14) ||| r15) ||| r16)), .second, .unset, .unset, .unset, .unset, .unset] [(.int (4 : Int32)), (.long r11), (.long (((((0 : Int64) ||| r13) ||| r14) ||| r15) ||| r16))])) _
    refine XS.iload X16.here hx rfl (hb hby at_174) rfl ?_
    show Steps p.tables e below (T16.setTop (mkF m 176 #[.val (.long q1), .second, .val (.int p2), .val (.int p3), .val (.int (p2.toInt8.toInt32)), .val (.int ((p2.toInt8.toInt32) &&& (255 : Int32))), .val (.long r11), .second, .val (.long r12), .second, .val (.long (((((0 : Int64) ||| r13) ||| r14) ||| r15) ||| r16)), .second, .unset, .unset, .unset, .unset, .unset] [(.int ((p2.toInt8.toInt32) &&& (255 : Int32))), (.int (4 : Int32)), (.long r11), (.long (((((0 : Int64) ||| r13) ||| r14) ||| r15) ||| r16))])) _
    refine st17 _ ?_
    show Steps p.tables e below (T17.setTop (mkF m 179 #[.val (.long q1), .second, .val (.int p2), .val (.int p3), .val (.int (p2.toInt8.toInt32)), .val (.int ((p2.toInt8.toInt32) &&& (255 : Int32))), .val (.long r11), .second, .val (.long r12), .second, .val (.long (((((0 : Int64) ||| r13) ||| r14) ||| r15) ||| r16)), .second, .unset, .unset, .unset, .unset, .unset] [(.long r17), (.long (((((0 : Int64) ||| r13) ||| r14) ||| r15) ||| r16))])) _
    refine XS.lor X17.here hx rfl (hb hby at_179) rfl ?_
    show Steps p.tables e below (T17.setTop (mkF m 180 #[.val (.long q1), .second, .val (.int p2), .val (.int p3), .val (.int (p2.toInt8.toInt32)), .val (.int ((p2.toInt8.toInt32) &&& (255 : Int32))), .val (.long r11), .second, .val (.long r12), .second, .val (.long (((((0 : Int64) ||| r13) ||| r14) ||| r15) ||| r16)), .second, .unset, .unset, .unset, .unset, .unset] [(.long ((((((0 : Int64) ||| r13) ||| r14) ||| r15) ||| r16) ||| r17))])) _
    refine XS.lstore X17.here hx rfl (hb hby at_180) rfl (l' := #[.val (.long q1), .second, .val (.int p2), .val (.int p3), .val (.int (p2.toInt8.toInt32)), .val (.int ((p2.toInt8.toInt32) &&& (255 : Int32))), .val (.long r11), .second, .val (.long r12), .second, .val (.long ((((((0 : Int64) ||| r13) ||| r14) ||| r15) ||| r16) ||| r17)), .second, .unset, .unset, .unset, .unset, .unset]) rfl ?_
    show Steps p.tables e below (T17.setTop (mkF m 182 #[.val (.long q1), .second, .val (.int p2), .val (.int p3), .val (.int (p2.toInt8.toInt32)), .val (.int ((p2.toInt8.toInt32) &&& (255 : Int32))), .val (.long r11), .second, .val (.long r12), .second, .val (.long ((((((0 : Int64) ||| r13) ||| r14) ||| r15) ||| r16) ||| r17)), .second, .unset, .unset, .unset, .unset, .unset] [])) _
    refine XS.lload X17.here hx rfl (hb hby at_182) rfl ?_
    show Steps p.tables e below (T17.setTop (mkF m 184 #[.val (.long q1), .second, .val (.int p2), .val (.int p3), .val (.int (p2.toInt8.toInt32)), .val (.int ((p2.toInt8.toInt32) &&& (255 : Int32))), .val (.long r11), .second, .val (.long r12), .second, .val (.long ((((((0 : Int64) ||| r13) ||| r14) ||| r15) ||| r16) ||| r17)), .second, .unset, .unset, .unset, .unset, .unset] [(.long ((((((0 : Int64) ||| r13) ||| r14) ||| r15) ||| r16) ||| r17))])) _
    refine XS.lload X17.here hx rfl (hb hby at_184) rfl ?_
    show Steps p.tables e below (T17.setTop (mkF m 186 #[.val (.long q1), .second, .val (.int p2), .val (.int p3), .val (.int (p2.toInt8.toInt32)), .val (.int ((p2.toInt8.toInt32) &&& (255 : Int32))), .val (.long r11), .second, .val (.long r12), .second, .val (.long ((((((0 : Int64) ||| r13) ||| r14) ||| r15) ||| r16) ||| r17)), .second, .unset, .unset, .unset, .unset, .unset] [(.long r11), (.long ((((((0 : Int64) ||| r13) ||| r14) ||| r15) ||| r16) ||| r17))])) _
    refine XS.iconst X17.here hx rfl (hb hby at_186) ?_
    show Steps p.tables e below (T17.setTop (mkF m 187 #[.val (.long q1), .second, .val (.int p2), .val (.int p3), .val (.int (p2.toInt8.toInt32)), .val (.int ((p2.toInt8.toInt32) &&& (255 : Int32))), .val (.long r11), .second, .val (.long r12), .second, .val (.long ((((((0 : Int64) ||| r13) ||| r14) ||| r15) ||| r16) ||| r17)), .second, .unset, .unset, .unset, .unset, .unset] [(.int (5 : Int32)), (.long r11), (.long ((((((0 : Int64) ||| r13) ||| r14) ||| r15) ||| r16) ||| r17))])) _
    refine XS.iload X17.here hx rfl (hb hby at_187) rfl ?_
    show Steps p.tables e below (T17.setTop (mkF m 189 #[.val (.long q1), .second, .val (.int p2), .val (.int p3), .val (.int (p2.toInt8.toInt32)), .val (.int ((p2.toInt8.toInt32) &&& (255 : Int32))), .val (.long r11), .second, .val (.long r12), .second, .val (.long ((((((0 : Int64) ||| r13) ||| r14) ||| r15) ||| r16) ||| r17)), .second, .unset, .unset, .unset, .unset, .unset] [(.int ((p2.toInt8.toInt32) &&& (255 : Int32))), (.int (5 : Int32)), (.long r11), (.long ((((((0 : Int64) ||| r13) ||| r14) ||| r15) ||| r16) ||| r17))])) _
    refine st18 _ ?_
    show Steps p.tables e below (T18.setTop (mkF m 192 #[.val (.long q1), .second, .val (.int p2), .val (.int p3), .val (.int (p2.toInt8.toInt32)), .val (.int ((p2.toInt8.toInt32) &&& (255 : Int32))), .val (.long r11), .second, .val (.long r12), .second, .val (.long ((((((0 : Int64) ||| r13) ||| r14) ||| r15) ||| r16) ||| r17)), .second, .unset, .unset, .unset, .unset, .unset] [(.long r18), (.long ((((((0 : Int64) ||| r13) ||| r14) ||| r15) ||| r16) ||| r17))])) _
    refine XS.lor X18.here hx rfl (hb hby at_192) rfl ?_
    show Steps p.tables e below (T18.setTop (mkF m 193 #[.val (.long q1), .second, .val (.int p2), .val (.int p3), .val (.int (p2.toInt8.toInt32)), .val (.int ((p2.toInt8.toInt32) &&& (255 : Int32))), .val (.long r11), .second, .val (.long r12), .second, .val (.long ((((((0 : Int64) ||| r13) ||| r14) ||| r15) ||| r16) ||| r17)), .second, .unset, .unset, .unset, .unset, .unset] [(.long (((((((0 : Int64) ||| r13) ||| r14) ||| r15) ||| r16) ||| r17) ||| r18))])) _
    refine XS.lstore X18.here hx rfl (hb hby at_193) rfl (l' := #[.val (.long q1), .second, .val (.int p2), .val (.int p3), .val (.int (p2.toInt8.toInt32)), .val (.int ((p2.toInt8.toInt32) &&& (255 : Int32))), .val (.long r11), .second, .val (.long r12), .second, .val (.long (((((((0 : Int64) ||| r13) ||| r14) ||| r15) ||| r16) ||| r17) ||| r18)), .second, .unset, .unset, .unset, .unset, .unset]) rfl ?_
    show Steps p.tables e below (T18.setTop (mkF m 195 #[.val (.long q1), .second, .val (.int p2), .val (.int p3), .val (.int (p2.toInt8.toInt32)), .val (.int ((p2.toInt8.toInt32) &&& (255 : Int32))), .val (.long r11), .second, .val (.long r12), .second, .val (.long (((((((0 : Int64) ||| r13) ||| r14) ||| r15) ||| r16) ||| r17) ||| r18)), .second, .unset, .unset, .unset, .unset, .unset] [])) _
    refine XS.lload X18.here hx rfl (hb hby at_195) rfl ?_
    show Steps p.tables e below (T18.setTop (mkF m 197 #[.val (.long q1), .second, .val (.int p2), .val (.int p3), .val (.int (p2.toInt8.toInt32)), .val (.int ((p2.toInt8.toInt32) &&& (255 : Int32))), .val (.long r11), .second, .val (.long r12), .second, .val (.long (((((((0 : Int64) ||| r13) ||| r14) ||| r15) ||| r16) ||| r17) ||| r18)), .second, .unset, .unset, .unset, .unset, .unset] [(.long (((((((0 : Int64) ||| r13) ||| r14) ||| r15) ||| r16) ||| r17) ||| r18))])) _
    refine XS.lload X18.here hx rfl (hb hby at_197) rfl ?_
    show Steps p.tables e below (T18.setTop (mkF m 199 #[.val (.long q1), .second, .val (.int p2), .val (.int p3), .val (.int (p2.toInt8.toInt32)), .val (.int ((p2.toInt8.toInt32) &&& (255 : Int32))), .val (.long r11), .second, .val (.long r12), .second, .val (.long (((((((0 : Int64) ||| r13) ||| r14) ||| r15) ||| r16) ||| r17) ||| r18)), .second, .unset, .unset, .unset, .unset, .unset] [(.long r11), (.long (((((((0 : Int64) ||| r13) ||| r14) ||| r15) ||| r16) ||| r17) ||| r18))])) _
    refine XS.bipush X18.here hx rfl (hb hby at_199) ?_
    show Steps p.tables e below (T18.setTop (mkF m 201 #[.val (.long q1), .second, .val (.int p2), .val (.int p3), .val (.int (p2.toInt8.toInt32)), .val (.int ((p2.toInt8.toInt32) &&& (255 : Int32))), .val (.long r11), .second, .val (.long r12), .second, .val (.long (((((((0 : Int64) ||| r13) ||| r14) ||| r15) ||| r16) ||| r17) ||| r18)), .second, .unset, .unset, .unset, .unset, .unset] [(.int (6 : Int32)), (.long r11), (.long (((((((0 : Int64) ||| r13) ||| r14) ||| r15) ||| r16) ||| r17) ||| r18))])) _
    refine XS.iload X18.here hx rfl (hb hby at_201) rfl ?_
    show Steps p.tables e below (T18.setTop (mkF m 203 #[.val (.long q1), .second, .val (.int p2), .val (.int p3), .val (.int (p2.toInt8.toInt32)), .val (.int ((p2.toInt8.toInt32) &&& (255 : Int32))), .val (.long r11), .second, .val (.long r12), .second, .val (.long (((((((0 : Int64) ||| r13) ||| r14) ||| r15) ||| r16) ||| r17) ||| r18)), .second, .unset, .unset, .unset, .unset, .unset] [(.int ((p2.toInt8.toInt32) &&& (255 : Int32))), (.int (6 : Int32)), (.long r11), (.long (((((((0 : Int64) ||| r13) ||| r14) ||| r15) ||| r16) ||| r17) ||| r18))])) _
    refine st19 _ ?_
    show Steps p.tables e below (T19.setTop (mkF m 206 #[.val (.long q1), .second, .val (.int p2), .val (.int p3), .val (.int (p2.toInt8.toInt32)), .val (.int ((p2.toInt8.toInt32) &&& (255 : Int32))), .val (.long r11), .second, .val (.long r12), .second, .val (.long (((((((0 : Int64) ||| r13) ||| r14) ||| r15) ||| r16) ||| r17) ||| r18)), .second, .unset, .unset, .unset, .unset, .unset] [(.long r19), (.long (((((((0 : Int64) ||| r13) ||| r14) ||| r15) ||| r16) ||| r17) ||| r18))])) _
    refine XS.lor X19.here hx rfl (hb hby at_206) rfl ?_
    show Steps p.tables e below (T19.setTop (mkF m 207 #[.val (.long q1), .second, .val (.int p2), .val (.int p3), .val (.int (p2.toInt8.toInt32)), .val (.int ((p2.toInt8.toInt32) &&& (255 : Int32))), .val (.long r11), .second, .val (.long r12), .second, .val (.long (((((((0 : Int64) ||| r13) ||| r14) ||| r15) ||| r16) ||| r17) ||| r18)), .second, .unset, .unset, .unset, .unset, .unset] [(.long ((((((((0 : Int64) ||| r13) ||| r14) ||| r15) ||| r16) ||| r17) ||| r18) ||| r19))])) _
    refine XS.lstore X19.here hx rfl (hb hby at_207) rfl (l' := #[.val (.long q1), .second, .val (.int p2), .val (.int p3), .val (.int (p2.toInt8.toInt32)), .val (.int ((p2.toInt8.toInt32) &&& (255 : Int32))), .val (.long r11), .second, .val (.long r12), .second, .val (.long ((((((((0 : Int64) ||| r13) ||| r14) ||| r15) ||| r16) ||| r17) ||| r18) ||| r19)), .second, .unset, .unset, .unset, .unset, .unset]) rfl ?_
    show Steps p.tables e below (T19.setTop (mkF m 209 #[.val (.long q1), .second, .val (.int p2), .val (.int p3), .val (.int (p2.toInt8.toInt32)), .val (.int ((p2.toInt8.toInt32) &&& (255 : Int32))), .val (.long r11), .second, .val (.long r12), .second, .val (.long ((((((((0 : Int64) ||| r13) ||| r14) ||| r15) ||| r16) ||| r17) ||| r18) ||| r19)), .second, .unset, .unset, .unset, .unset, .unset] [])) _
    refine XS.lload X19.here hx rfl (hb hby at_209) rfl ?_
    show Steps p.tables e below (T19.setTop (mkF m 211 #[.val (.long q1), .second, .val (.int p2), .val (.int p3), .val (.int (p2.toInt8.toInt32)), .val (.int ((p2.toInt8.toInt32) &&& (255 : Int32))), .val (.long r11), .second, .val (.long r12), .second, .val (.long ((((((((0 : Int64) ||| r13) ||| r14) ||| r15) ||| r16) ||| r17) ||| r18) ||| r19)), .second, .unset, .unset, .unset, .unset, .unset] [(.long ((((((((0 : Int64) ||| r13) ||| r14) ||| r15) ||| r16) ||| r17) ||| r18) ||| r19))])) _
    refine XS.lload X19.here hx rfl (hb hby at_211) rfl ?_
    show Steps p.tables e below (T19.setTop (mkF m 213 #[.val (.long q1), .second, .val (.int p2), .val (.int p3), .val (.int (p2.toInt8.toInt32)), .val (.int ((p2.toInt8.toInt32) &&& (255 : Int32))), .val (.long r11), .second, .val (.long r12), .second, .val (.long ((((((((0 : Int64) ||| r13) ||| r14) ||| r15) ||| r16) ||| r17) ||| r18) ||| r19)), .second, .unset, .unset, .unset, .unset, .unset] [(.long r11), (.long ((((((((0 : Int64) ||| r13) ||| r14) ||| r15) ||| r16) ||| r17) ||| r18) ||| r19))])) _
    refine XS.bipush X19.here hx rfl (hb hby at_213) ?_
    show Steps p.tables e below (T19.setTop (mkF m 215 #[.val (.long q1), .second, .val (.int p2), .val (.int p3), .val (.int (p2.toInt8.toInt32)), .val (.int ((p2.toInt8.toInt32) &&& (255 : Int32))), .val (.long r11), .second, .val (.long r12), .second, .val (.long ((((((((0 : Int64) ||| r13) ||| r14) ||| r15) ||| r16) ||| r17) ||| r18) ||| r19)), .second, .unset, .unset, .unset, .unset, .unset] [(.int (7 : Int32)), (.long r11), (.long ((((((((0 : Int64) ||| r13) ||| r14) ||| r15) ||| r16) ||| r17) ||| r18) ||| r19))])) _
    refine XS.iload X19.here hx rfl (hb hby at_215) rfl ?_
    show Steps p.tables e below (T19.setTop (mkF m 217 #[.val (.long q1), .second, .val (.int p2), .val (.int p3), .val (.int (p2.toInt8.toInt32)), .val (.int ((p2.toInt8.toInt32) &&& (255 : Int32))), .val (.long r11), .second, .val (.long r12), .second, .val (.long ((((((((0 : Int64) ||| r13) ||| r14) ||| r15) ||| r16) ||| r17) ||| r18) ||| r19)), .second, .unset, .unset, .unset, .unset, .unset] [(.int ((p2.toInt8.toInt32) &&& (255 : Int32))), (.int (7 : Int32)), (.long r11), (.long ((((((((0 : Int64) ||| r13) ||| r14) ||| r15) ||| r16) ||| r17) ||| r18) ||| r19))])) _
    refine st20 _ ?_
    show Steps p.tables e below (T20.setTop (mkF m 220 #[.val (.long q1), .second, .val (.int p2), .val (.int p3), .val (.int (p2.toInt8.toInt32)), .val (.int ((p2.toInt8.toInt32) &&& (255 : Int32))), .val (.long r11), .second, .val (.long r12), .second, .val (.long ((((((((0 : Int64) ||| r13) ||| r14) ||| r15) ||| r16) ||| r17) ||| r18) ||| r19)), .second, .unset, .unset, .unset, .unset, .unset] [(.long r20), (.long ((((((((0 : Int64) ||| r13) ||| r14) ||| r15) ||| r16) ||| r17) ||| r18) ||| r19))])) _
    refine XS.lor X20.here hx rfl (hb hby at_220) rfl ?_
    show Steps p.tables e below (T20.setTop (mkF m 221 #[.val (.long q1), .second, .val (.int p2), .val (.int p3), .val (.int (p2.toInt8.toInt32)), .val (.int ((p2.toInt8.toInt32) &&& (255 : Int32))), .val (.long r11), .second, .val (.long r12), .second, .val (.long ((((((((0 : Int64) ||| r13) ||| r14) ||| r15) ||| r16) ||| r17) ||| r18) ||| r19)), .second, .unset, .unset, .unset, .unset, .unset] [(.long (((((((((0 : Int64) ||| r13) ||| r14) ||| r15) ||| r16) ||| r17) ||| r18) ||| r19) ||| r20))])) _
    refine XS.lstore X20.here hx rfl (hb hby at_221) rfl (l' := #[.val (.long q1), .second, .val (.int p2), .val (.int p3), .val (.int (p2.toInt8.toInt32)), .val (.int ((p2.toInt8.toInt32) &&& (255 : Int32))), .val (.long r11), .second, .val (.long r12), .second, .val (.long (((((((((0 : Int64) ||| r13) ||| r14) ||| r15) ||| r16) ||| r17) ||| r18) ||| r19) ||| r20)), .second, .unset, .unset, .unset, .unset, .unset]) rfl ?_
    show Steps p.tables e below (T20.setTop (mkF m 223 #[.val (.long q1), .second, .val (.int p2), .val (.int p3), .val (.int (p2.toInt8.toInt32)), .val (.int ((p2.toInt8.toInt32) &&& (255 : Int32))), .val (.long r11), .second, .val (.long r12), .second, .val (.long (((((((((0 : Int64) ||| r13) ||| r14) ||| r15) ||| r16) ||| r17) ||| r18) ||| r19) ||| r20)), .second, .unset, .unset, .unset, .unset, .unset] [])) _
    refine XS.lload X20.here hx rfl (hb hby at_223) rfl ?_
    show Steps p.tables e below (T20.setTop (mkF m 225 #[.val (.long q1), .second, .val (.int p2), .val (.int p3), .val (.int (p2.toInt8.toInt32)), .val (.int ((p2.toInt8.toInt32) &&& (255 : Int32))), .val (.long r11), .second, .val (.long r12), .second, .val (.long (((((((((0 : Int64) ||| r13) ||| r14) ||| r15) ||| r16) ||| r17) ||| r18) ||| r19) ||| r20)), .second, .unset, .unset, .unset, .unset, .unset] [(.long (((((((((0 : Int64) ||| r13) ||| r14) ||| r15) ||| r16) ||| r17) ||| r18) ||| r19) ||| r20))])) _
    refine XS.lload X20.here hx rfl (hb hby at_225) rfl ?_
    show Steps p.tables e below (T20.setTop (mkF m 227 #[.val (.long q1), .second, .val (.int p2), .val (.int p3), .val (.int (p2.toInt8.toInt32)), .val (.int ((p2.toInt8.toInt32) &&& (255 : Int32))), .val (.long r11), .second, .val (.long r12), .second, .val (.long (((((((((0 : Int64) ||| r13) ||| r14) ||| r15) ||| r16) ||| r17) ||| r18) ||| r19) ||| r20)), .second, .unset, .unset, .unset, .unset, .unset] [(.long (((((((((0 : Int64) ||| r13) ||| r14) ||| r15) ||| r16) ||| r17) ||| r18) ||| r19) ||| r20)), (.long (((((((((0 : Int64) ||| r13) ||| r14) ||| r15) ||| r16) ||| r17) ||| r18) ||| r19) ||| r20))])) _
    refine XS.lneg X20.here hx rfl (hb hby at_227) rfl ?_
    show Steps p.tables e below (T20.setTop (mkF m 228 #[.val (.long q1), .second, .val (.int p2), .val (.int p3), .val (.int (p2.toInt8.toInt32)), .val (.int ((p2.toInt8.toInt32) &&& (255 : Int32))), .val (.long r11), .second, .val (.long r12), .second, .val (.long (((((((((0 : Int64) ||| r13) ||| r14) ||| r15) ||| r16) ||| r17) ||| r18) ||| r19) ||| r20)), .second, .unset, .unset, .unset, .unset, .unset] [(.long (-(((((((((0 : Int64) ||| r13) ||| r14) ||| r15) ||| r16) ||| r17) ||| r18) ||| r19) ||| r20))), (.long (((((((((0 : Int64) ||| r13) ||| r14) ||| r15) ||| r16) ||| r17) ||| r18) ||| r19) ||| r20))])) _
    refine XS.land X20.here hx rfl (hb hby at_228) rfl ?_
    show Steps p.tables e below (T20.setTop (mkF m 229 #[.val (.long q1), .second, .val (.int p2), .val (.int p3), .val (.int (p2.toInt8.toInt32)), .val (.int ((p2.toInt8.toInt32) &&& (255 : Int32))), .val (.long r11), .second, .val (.long r12), .second, .val (.long (((((((((0 : Int64) ||| r13) ||| r14) ||| r15) ||| r16) ||| r17) ||| r18) ||| r19) ||| r20)), .second, .unset, .unset, .unset, .unset, .unset] [(.long ((((((((((0 : Int64) ||| r13) ||| r14) ||| r15) ||| r16) ||| r17) ||| r18) ||| r19) ||| r20) &&& (-(((((((((0 : Int64) ||| r13) ||| r14) ||| r15) ||| r16) ||| r17) ||| r18) ||| r19) ||| r20))))])) _
    refine XS.lstore X20.here hx rfl (hb hby at_229) rfl (l' := #[.val (.long q1), .second, .val (.int p2), .val (.int p3), .val (.int (p2.toInt8.toInt32)), .val (.int ((p2.toInt8.toInt32) &&& (255 : Int32))), .val (.long r11), .second, .val (.long r12), .second, .val (.long (((((((((0 : Int64) ||| r13) ||| r14) ||| r15) ||| r16) ||| r17) ||| r18) ||| r19) ||| r20)), .second, .val (.long ((((((((((0 : Int64) ||| r13) ||| r14) ||| r15) ||| r16) ||| r17) ||| r18) ||| r19) ||| r20) &&& (-(((((((((0 : Int64) ||| r13) ||| r14) ||| r15) ||| r16) ||| r17) ||| r18) ||| r19) ||| r20)))), .second, .unset, .unset, .unset]) rfl ?_
    show Steps p.tables e below (T20.setTop (mkF m 231 #[.val (.long q1), .second, .val (.int p2), .val (.int p3), .val (.int (p2.toInt8.toInt32)), .val (.int ((p2.toInt8.toInt32) &&& (255 : Int32))), .val (.long r11), .second, .val (.long r12), .second, .val (.long (((((((((0 : Int64) ||| r13) ||| r14) ||| r15) ||| r16) ||| r17) ||| r18) ||| r19) ||| r20)), .second, .val (.long ((((((((((0 : Int64) ||| r13) ||| r14) ||| r15) ||| r16) ||| r17) ||| r18) ||| r19) ||| r20) &&& (-(((((((((0 : Int64) ||| r13) ||| r14) ||| r15) ||| r16) ||| r17) ||| r18) ||| r19) ||| r20)))), .second, .unset, .unset, .unset] [])) _
    refine XS.lload X20.here hx rfl (hb hby at_231) rfl ?_
    show Steps p.tables e below (T20.setTop (mkF m 233 #[.val (.long q1), .second, .val (.int p2), .val (.int p3), .val (.int (p2.toInt8.toInt32)), .val (.int ((p2.toInt8.toInt32) &&& (255 : Int32))), .val (.long r11), .second, .val (.long r12), .second, .val (.long (((((((((0 : Int64) ||| r13) ||| r14) ||| r15) ||| r16) ||| r17) ||| r18) ||| r19) ||| r20)), .second, .val (.long ((((((((((0 : Int64) ||| r13) ||| r14) ||| r15) ||| r16) ||| r17) ||| r18) ||| r19) ||| r20) &&& (-(((((((((0 : Int64) ||| r13) ||| r14) ||| r15) ||| r16) ||| r17) ||| r18) ||| r19) ||| r20)))), .second, .unset, .unset, .unset] [(.long r12)])) _
    refine X20.ldc2Long hx hown (mvT hZ (hw _ (List.mem_of_getElem? (i := 17) rfl))) (g := (mkF m 233 #[.val (.long q1), .second, .val (.int p2), .val (.int p3), .val (.int (p2.toInt8.toInt32)), .val (.int ((p2.toInt8.toInt32) &&& (255 : Int32))), .val (.long r11), .second, .val (.long r12), .second, .val (.long (((((((((0 : Int64) ||| r13) ||| r14) ||| r15) ||| r16) ||| r17) ||| r18) ||| r19) ||| r20)), .second, .val (.long ((((((((((0 : Int64) ||| r13) ||| r14) ||| r15) ||| r16) ||| r17) ||| r18) ||| r19) ||| r20) &&& (-(((((((((0 : Int64) ||| r13) ||| r14) ||| r15) ||| r16) ||| r17) ||| r18) ||| r19) ||| r20)))), .second, .unset, .unset, .unset] [(.long r12)])) rfl (hb hby at_233) _ ?_
    show Steps p.tables e below (T20.setTop (mkF m 236 #[.val (.long q1), .second, .val (.int p2), .val (.int p3), .val (.int (p2.toInt8.toInt32)), .val (.int ((p2.toInt8.toInt32) &&& (255 : Int32))), .val (.long r11), .second, .val (.long r12), .second, .val (.long (((((((((0 : Int64) ||| r13) ||| r14) ||| r15) ||| r16) ||| r17) ||| r18) ||| r19) ||| r20)), .second, .val (.long ((((((((((0 : Int64) ||| r13) ||| r14) ||| r15) ||| r16) ||| r17) ||| r18) ||| r19) ||| r20) &&& (-(((((((((0 : Int64) ||| r13) ||| r14) ||| r15) ||| r16) ||| r17) ||| r18) ||| r19) ||| r20)))), .second, .unset, .unset, .unset] [(.long (9187201950435737471 : Int64)), (.long r12)])) _
    refine XS.land X20.here hx rfl (hb hby at_236) rfl ?_
    show Steps p.tables e below (T20.setTop (mkF m 237 #[.val (.long q1), .second, .val (.int p2), .val (.int p3), .val (.int (p2.toInt8.toInt32)), .val (.int ((p2.toInt8.toInt32) &&& (255 : Int32))), .val (.long r11), .second, .val (.long r12), .second, .val (.long (((((((((0 : Int64) ||| r13) ||| r14) ||| r15) ||| r16) ||| r17) ||| r18) ||| r19) ||| r20)), .second, .val (.long ((((((((((0 : Int64) ||| r13) ||| r14) ||| r15) ||| r16) ||| r17) ||| r18) ||| r19) ||| r20) &&& (-(((((((((0 : Int64) ||| r13) ||| r14) ||| r15) ||| r16) ||| r17) ||| r18) ||| r19) ||| r20)))), .second, .unset, .unset, .unset] [(.long (r12 &&& (9187201950435737471 : Int64)))])) _
    refine XS.lconst X20.here hx rfl (hb hby at_237) ?_
    show Steps p.tables e below (T20.setTop (mkF m 238 #[.val (.long q1), .second, .val (.int p2), .val (.int p3), .val (.int (p2.toInt8.toInt32)), .val (.int ((p2.toInt8.toInt32) &&& (255 : Int32))), .val (.long r11), .second, .val (.long r12), .second, .val (.long (((((((((0 : Int64) ||| r13) ||| r14) ||| r15) ||| r16) ||| r17) ||| r18) ||| r19) ||| r20)), .second, .val (.long ((((((((((0 : Int64) ||| r13) ||| r14) ||| r15) ||| r16) ||| r17) ||| r18) ||| r19) ||| r20) &&& (-(((((((((0 : Int64) ||| r13) ||| r14) ||| r15) ||| r16) ||| r17) ||| r18) ||| r19) ||| r20)))), .second, .unset, .unset, .unset] [(.long (0 : Int64)), (.long (r12 &&& (9187201950435737471 : Int64)))])) _
    refine XS.lcmp X20.here hx rfl (hb hby at_238) rfl ?_
    show Steps p.tables e below (T20.setTop (mkF m 239 #[.val (.long q1), .second, .val (.int p2), .val (.int p3), .val (.int (p2.toInt8.toInt32)), .val (.int ((p2.toInt8.toInt32) &&& (255 : Int32))), .val (.long r11), .second, .val (.long r12), .second, .val (.long (((((((((0 : Int64) ||| r13) ||| r14) ||| r15) ||| r16) ||| r17) ||| r18) ||| r19) ||| r20)), .second, .val (.long ((((((((((0 : Int64) ||| r13) ||| r14) ||| r15) ||| r16) ||| r17) ||| r18) ||| r19) ||| r20) &&& (-(((((((((0 : Int64) ||| r13) ||| r14) ||| r15) ||| r16) ||| r17) ||| r18) ||| r19) ||| r20)))), .second, .unset, .unset, .unset] [(.int (lcmpW (r12 &&& (9187201950435737471 : Int64)) (0 : Int64)))])) _
    refine XS.ifNo X20.here hx rfl (hb hby at_239) rfl ((if0 _ _).trans (teq ht239).2) ?_
    show Steps p.tables e below (T20.setTop (mkF m 242 #[.val (.long q1), .second, .val (.int p2), .val (.int p3), .val (.int (p2.toInt8.toInt32)), .val (.int ((p2.toInt8.toInt32) &&& (255 : Int32))), .val (.long r11), .second, .val (.long r12), .second, .val (.long (((((((((0 : Int64) ||| r13) ||| r14) ||| r15) ||| r16) ||| r17) ||| r18) ||| r19) ||| r20)), .second, .val (.long ((((((((((0 : Int64) ||| r13) ||| r14) ||| r15) ||| r16) ||| r17) ||| r18) ||| r19) ||| r20) &&& (-(((((((((0 : Int64) ||| r13) ||| r14) ||| r15) ||| r16) ||| r17) ||| r18) ||| r19) ||| r20)))), .second, .unset, .unset, .unset] [])) _
    refine XS.iconst X20.here hx rfl (hb hby at_242) ?_
    show Steps p.tables e below (T20.setTop (mkF m 243 #[.val (.long q1), .second, .val (.int p2), .val (.int p3), .val (.int (p2.toInt8.toInt32)), .val (.int ((p2.toInt8.toInt32) &&& (255 : Int32))), .val (.long r11), .second, .val (.long r12), .second, .val (.long (((((((((0 : Int64) ||| r13) ||| r14) ||| r15) ||| r16) ||| r17) ||| r18) ||| r19) ||| r20)), .second, .val (.long ((((((((((0 : Int64) ||| r13) ||| r14) ||| r15) ||| r16) ||| r17) ||| r18) ||| r19) ||| r20) &&& (-(((((((((0 : Int64) ||| r13) ||| r14) ||| r15) ||| r16) ||| r17) ||| r18) ||| r19) ||| r20)))), .second, .unset, .unset, .unset] [(.int (1 : Int32))])) _
    refine XS.goto X20.here hx rfl (pc0 := 243) (pc' := 247) rfl (hb hby at_243) (by decide) (by decide) ?_
    show Steps p.tables e below (T20.setTop (mkF m 247 #[.val (.long q1), .second, .val (.int p2), .val (.int p3), .val (.int (p2.toInt8.toInt32)), .val (.int ((p2.toInt8.toInt32) &&& (255 : Int32))), .val (.long r11), .second, .val (.long r12), .second, .val (.long (((((((((0 : Int64) ||| r13) ||| r14) ||| r15) ||| r16) ||| r17) ||| r18) ||| r19) ||| r20)), .second, .val (.long ((((((((((0 : Int64) ||| r13) ||| r14) ||| r15) ||| r16) ||| r17) ||| r18) ||| r19) ||| r20) &&& (-(((((((((0 : Int64) ||| r13) ||| r14) ||| r15) ||| r16) ||| r17) ||| r18) ||| r19) ||| r20)))), .second, .unset, .unset, .unset] [(.int (1 : Int32))])) _
    refine XS.istore X20.here hx rfl (hb hby at_247) rfl (l' := #[.val (.long q1), .second, .val (.int p2), .val (.int p3), .val (.int (p2.toInt8.toInt32)), .val (.int ((p2.toInt8.toInt32) &&& (255 : Int32))), .val (.long r11), .second, .val (.long r12), .second, .val (.long (((((((((0 : Int64) ||| r13) ||| r14) ||| r15) ||| r16) ||| r17) ||| r18) ||| r19) ||| r20)), .second, .val (.long ((((((((((0 : Int64) ||| r13) ||| r14) ||| r15) ||| r16) ||| r17) ||| r18) ||| r19) ||| r20) &&& (-(((((((((0 : Int64) ||| r13) ||| r14) ||| r15) ||| r16) ||| r17) ||| r18) ||| r19) ||| r20)))), .second, .val (.int (1 : Int32)), .unset, .unset]) rfl ?_
    show Steps p.tables e below (T20.setTop (mkF m 249 #[.val (.long q1), .second, .val (.int p2), .val (.int p3), .val (.int (p2.toInt8.toInt32)), .val (.int ((p2.toInt8.toInt32) &&& (255 : Int32))), .val (.long r11), .second, .val (.long r12), .second, .val (.long (((((((((0 : Int64) ||| r13) ||| r14) ||| r15) ||| r16) ||| r17) ||| r18) ||| r19) ||| r20)), .second, .val (.long ((((((((((0 : Int64) ||| r13) ||| r14) ||| r15) ||| r16) ||| r17) ||| r18) ||| r19) ||| r20) &&& (-(((((((((0 : Int64) ||| r13) ||| r14) ||| r15) ||| r16) ||| r17) ||| r18) ||| r19) ||| r20)))), .second, .val (.int (1 : Int32)), .unset, .unset] [])) _
    refine XS.lload X20.here hx rfl (hb hby at_249) rfl ?_
    show Steps p.tables e below (T20.setTop (mkF m 251 #[.val (.long q1), .second, .val (.int p2), .val (.int p3), .val (.int (p2.toInt8.toInt32)), .val (.int ((p2.toInt8.toInt32) &&& (255 : Int32))), .val (.long r11), .second, .val (.long r12), .second, .val (.long (((((((((0 : Int64) ||| r13) ||| r14) ||| r15) ||| r16) ||| r17) ||| r18) ||| r19) ||| r20)), .second, .val (.long ((((((((((0 : Int64) ||| r13) ||| r14) ||| r15) ||| r16) ||| r17) ||| r18) ||| r19) ||| r20) &&& (-(((((((((0 : Int64) ||| r13) ||| r14) ||| r15) ||| r16) ||| r17) ||| r18) ||| r19) ||| r20)))), .second, .val (.int (1 : Int32)), .unset, .unset] [(.long r12)])) _
    refine XS.lload X20.here hx rfl (hb hby at_251) rfl ?_
    show Steps p.tables e below (T20.setTop (mkF m 253 #[.val (.long q1), .second, .val (.int p2), .val (.int p3), .val (.int (p2.toInt8.toInt32)), .val (.int ((p2.toInt8.toInt32) &&& (255 : Int32))), .val (.long r11), .second, .val (.long r12), .second, .val (.long (((((((((0 : Int64) ||| r13) ||| r14) ||| r15) ||| r16) ||| r17) ||| r18) ||| r19) ||| r20)), .second, .val (.long ((((((((((0 : Int64) ||| r13) ||| r14) ||| r15) ||| r16) ||| r17) ||| r18) ||| r19) ||| r20) &&& (-(((((((((0 : Int64) ||| r13) ||| r14) ||| r15) ||| r16) ||| r17) ||| r18) ||| r19) ||| r20)))), .second, .val (.int (1 : Int32)), .unset, .unset] [(.long (((((((((0 : Int64) ||| r13) ||| r14) ||| r15) ||| r16) ||| r17) ||| r18) ||| r19) ||| r20)), (.long r12)])) _
    refine XS.land X20.here hx rfl (hb hby at_253) rfl ?_
    show Steps p.tables e below (T20.setTop (mkF m 254 #[.val (.long q1), .second, .val (.int p2), .val (.int p3), .val (.int (p2.toInt8.toInt32)), .val (.int ((p2.toInt8.toInt32) &&& (255 : Int32))), .val (.long r11), .second, .val (.long r12), .second, .val (.long (((((((((0 : Int64) ||| r13) ||| r14) ||| r15) ||| r16) ||| r17) ||| r18) ||| r19) ||| r20)), .second, .val (.long ((((((((((0 : Int64) ||| r13) ||| r14) ||| r15) ||| r16) ||| r17) ||| r18) ||| r19) ||| r20) &&& (-(((((((((0 : Int64) ||| r13) ||| r14) ||| r15) ||| r16) ||| r17) ||| r18) ||| r19) ||| r20)))), .second, .val (.int (1 : Int32)), .unset, .unset] [(.long (r12 &&& (((((((((0 : Int64) ||| r13) ||| r14) ||| r15) ||| r16) ||| r17) ||| r18) ||| r19) ||| r20)))])) _
    refine XS.lload X20.here hx rfl (hb hby at_254) rfl ?_
    show Steps p.tables e below (T20.setTop (mkF m 256 #[.val (.long q1), .second, .val (.int p2), .val (.int p3), .val (.int (p2.toInt8.toInt32)), .val (.int ((p2.toInt8.toInt32) &&& (255 : Int32))), .val (.long r11), .second, .val (.long r12), .second, .val (.long (((((((((0 : Int64) ||| r13) ||| r14) ||| r15) ||| r16) ||| r17) ||| r18) ||| r19) ||| r20)), .second, .val (.long ((((((((((0 : Int64) ||| r13) ||| r14) ||| r15) ||| r16) ||| r17) ||| r18) ||| r19) ||| r20) &&& (-(((((((((0 : Int64) ||| r13) ||| r14) ||| r15) ||| r16) ||| r17) ||| r18) ||| r19) ||| r20)))), .second, .val (.int (1 : Int32)), .unset, .unset] [(.long (((((((((0 : Int64) ||| r13) ||| r14) ||| r15) ||| r16) ||| r17) ||| r18) ||| r19) ||| r20)), (.long (r12 &&& (((((((((0 : Int64) ||| r13) ||| r14) ||| r15) ||| r16) ||| r17) ||| r18) ||| r19) ||| r20)))])) _
    refine XS.lcmp X20.here hx rfl (hb hby at_256) rfl ?_
    show Steps p.tables e below (T20.setTop (mkF m 257 #[.val (.long q1), .second, .val (.int p2), .val (.int p3), .val (.int (p2.toInt8.toInt32)), .val (.int ((p2.toInt8.toInt32) &&& (255 : Int32))), .val (.long r11), .second, .val (.long r12), .second, .val (.long (((((((((0 : Int64) ||| r13) ||| r14) ||| r15) ||| r16) ||| r17) ||| r18) ||| r19) ||| r20)), .second, .val (.long ((((((((((0 : Int64) ||| r13) ||| r14) ||| r15) ||| r16) ||| r17) ||| r18) ||| r19) ||| r20) &&& (-(((((((((0 : Int64) ||| r13) ||| r14) ||| r15) ||| r16) ||| r17) ||| r18) ||| r19) ||| r20)))), .second, .val (.int (1 : Int32)), .unset, .unset] [(.int (lcmpW (r12 &&& (((((((((0 : Int64) ||| r13) ||| r14) ||| r15) ||| r16) ||| r17) ||| r18) ||| r19) ||| r20)) (((((((((0 : Int64) ||| r13) ||| r14) ||| r15) ||| r16) ||| r17) ||| r18) ||| r19) ||| r20)))])) _
    refine XS.ifNo X20.here hx rfl (hb hby at_257) rfl ((if0 _ _).trans (teq ht257).2) ?_
    show Steps p.tables e below (T20.setTop (mkF m 260 #[.val (.long q1), .second, .val (.int p2), .val (.int p3), .val (.int (p2.toInt8.toInt32)), .val (.int ((p2.toInt8.toInt32) &&& (255 : Int32))), .val (.long r11), .second, .val (.long r12), .second, .val (.long (((((((((0 : Int64) ||| r13) ||| r14) ||| r15) ||| r16) ||| r17) ||| r18) ||| r19) ||| r20)), .second, .val (.long ((((((((((0 : Int64) ||| r13) ||| r14) ||| r15) ||| r16) ||| r17) ||| r18) ||| r19) ||| r20) &&& (-(((((((((0 : Int64) ||| r13) ||| r14) ||| r15) ||| r16) ||| r17) ||| r18) ||| r19) ||| r20)))), .second, .val (.int (1 : Int32)), .unset, .unset] [])) _
    refine XS.iconst X20.here hx rfl (hb hby at_260) ?_
    show Steps p.tables e below (T20.setTop (mkF m 261 #[.val (.long q1), .second, .val (.int p2), .val (.int p3), .val (.int (p2.toInt8.toInt32)), .val (.int ((p2.toInt8.toInt32) &&& (255 : Int32))), .val (.long r11), .second, .val (.long r12), .second, .val (.long (((((((((0 : Int64) ||| r13) ||| r14) ||| r15) ||| r16) ||| r17) ||| r18) ||| r19) ||| r20)), .second, .val (.long ((((((((((0 : Int64) ||| r13) ||| r14) ||| r15) ||| r16) ||| r17) ||| r18) ||| r19) ||| r20) &&& (-(((((((((0 : Int64) ||| r13) ||| r14) ||| r15) ||| r16) ||| r17) ||| r18) ||| r19) ||| r20)))), .second, .val (.int (1 : Int32)), .unset, .unset] [(.int (1 : Int32))])) _
    refine XS.goto X20.here hx rfl (pc0 := 261) (pc' := 265) rfl (hb hby at_261) (by decide) (by decide) ?_
    show Steps p.tables e below (T20.setTop (mkF m 265 #[.val (.long q1), .second, .val (.int p2), .val (.int p3), .val (.int (p2.toInt8.toInt32)), .val (.int ((p2.toInt8.toInt32) &&& (255 : Int32))), .val (.long r11), .second, .val (.long r12), .second, .val (.long (((((((((0 : Int64) ||| r13) ||| r14) ||| r15) ||| r16) ||| r17) ||| r18) ||| r19) ||| r20)), .second, .val (.long ((((((((((0 : Int64) ||| r13) ||| r14) ||| r15) ||| r16) ||| r17) ||| r18) ||| r19) ||| r20) &&& (-(((((((((0 : Int64) ||| r13) ||| r14) ||| r15) ||| r16) ||| r17) ||| r18) ||| r19) ||| r20)))), .second, .val (.int (1 : Int32)), .unset, .unset] [(.int (1 : Int32))])) _
    refine XS.istore X20.here hx rfl (hb hby at_265) rfl (l' := #[.val (.long q1), .second, .val (.int p2), .val (.int p3), .val (.int (p2.toInt8.toInt32)), .val (.int ((p2.toInt8.toInt32) &&& (255 : Int32))), .val (.long r11), .second, .val (.long r12), .second, .val (.long (((((((((0 : Int64) ||| r13) ||| r14) ||| r15) ||| r16) ||| r17) ||| r18) ||| r19) ||| r20)), .second, .val (.long ((((((((((0 : Int64) ||| r13) ||| r14) ||| r15) ||| r16) ||| r17) ||| r18) ||| r19) ||| r20) &&& (-(((((((((0 : Int64) ||| r13) ||| r14) ||| r15) ||| r16) ||| r17) ||| r18) ||| r19) ||| r20)))), .second, .val (.int (1 : Int32)), .val (.int (1 : Int32)), .unset]) rfl ?_
    show Steps p.tables e below (T20.setTop (mkF m 267 #[.val (.long q1), .second, .val (.int p2), .val (.int p3), .val (.int (p2.toInt8.toInt32)), .val (.int ((p2.toInt8.toInt32) &&& (255 : Int32))), .val (.long r11), .second, .val (.long r12), .second, .val (.long (((((((((0 : Int64) ||| r13) ||| r14) ||| r15) ||| r16) ||| r17) ||| r18) ||| r19) ||| r20)), .second, .val (.long ((((((((((0 : Int64) ||| r13) ||| r14) ||| r15) ||| r16) ||| r17) ||| r18) ||| r19) ||| r20) &&& (-(((((((((0 : Int64) ||| r13) ||| r14) ||| r15) ||| r16) ||| r17) ||| r18) ||| r19) ||| r20)))), .second, .val (.int (1 : Int32)), .val (.int (1 : Int32)), .unset] [])) _
    refine XS.lload X20.here hx rfl (hb hby at_267) rfl ?_
    show Steps p.tables e below (T20.setTop (mkF m 269 #[.val (.long q1), .second, .val (.int p2), .val (.int p3), .val (.int (p2.toInt8.toInt32)), .val (.int ((p2.toInt8.toInt32) &&& (255 : Int32))), .val (.long r11), .second, .val (.long r12), .second, .val (.long (((((((((0 : Int64) ||| r13) ||| r14) ||| r15) ||| r16) ||| r17) ||| r18) ||| r19) ||| r20)), .second, .val (.long ((((((((((0 : Int64) ||| r13) ||| r14) ||| r15) ||| r16) ||| r17) ||| r18) ||| r19) ||| r20) &&& (-(((((((((0 : Int64) ||| r13) ||| r14) ||| r15) ||| r16) ||| r17) ||| r18) ||| r19) ||| r20)))), .second, .val (.int (1 : Int32)), .val (.int (1 : Int32)), .unset] [(.long r12)])) _
    refine XS.lload X20.here hx rfl (hb hby at_269) rfl ?_
    show Steps p.tables e below (T20.setTop (mkF m 271 #[.val (.long q1), .second, .val (.int p2), .val (.int p3), .val (.int (p2.toInt8.toInt32)), .val (.int ((p2.toInt8.toInt32) &&& (255 : Int32))), .val (.long r11), .second, .val (.long r12), .second, .val (.long (((((((((0 : Int64) ||| r13) ||| r14) ||| r15) ||| r16) ||| r17) ||| r18) ||| r19) ||| r20)), .second, .val (.long ((((((((((0 : Int64) ||| r13) ||| r14) ||| r15) ||| r16) ||| r17) ||| r18) ||| r19) ||| r20) &&& (-(((((((((0 : Int64) ||| r13) ||| r14) ||| r15) ||| r16) ||| r17) ||| r18) ||| r19) ||| r20)))), .second, .val (.int (1 : Int32)), .val (.int (1 : Int32)), .unset] [(.long ((((((((((0 : Int64) ||| r13) ||| r14) ||| r15) ||| r16) ||| r17) ||| r18) ||| r19) ||| r20) &&& (-(((((((((0 : Int64) ||| r13) ||| r14) ||| r15) ||| r16) ||| r17) ||| r18) ||| r19) ||| r20)))), (.long r12)])) _
    refine XS.lconst X20.here hx rfl (hb hby at_271) ?_
    show Steps p.tables e below (T20.setTop (mkF m 272 #[.val (.long q1), .second, .val (.int p2), .val (.int p3), .val (.int (p2.toInt8.toInt32)), .val (.int ((p2.toInt8.toInt32) &&& (255 : Int32))), .val (.long r11), .second, .val (.long r12), .second, .val (.long (((((((((0 : Int64) ||| r13) ||| r14) ||| r15) ||| r16) ||| r17) ||| r18) ||| r19) ||| r20)), .second, .val (.long ((((((((((0 : Int64) ||| r13) ||| r14) ||| r15) ||| r16) ||| r17) ||| r18) ||| r19) ||| r20) &&& (-(((((((((0 : Int64) ||| r13) ||| r14) ||| r15) ||| r16) ||| r17) ||| r18) ||| r19) ||| r20)))), .second, .val (.int (1 : Int32)), .val (.int (1 : Int32)), .unset] [(.long (1 : Int64)), (.long ((((((((((0 : Int64) ||| r13) ||| r14) ||| r15) ||| r16) ||| r17) ||| r18) ||| r19) ||| r20) &&& (-(((((((((0 : Int64) ||| r13) ||| r14) ||| r15) ||| r16) ||| r17) ||| r18) ||| r19) ||| r20)))), (.long r12)])) _
    refine XS.lsub X20.here hx rfl (hb hby at_272) rfl ?_
    show Steps p.tables e below (T20.setTop (mkF m 273 #[.val (.long q1), .second, .val (.int p2), .val (.int p3), .val (.int (p2.toInt8.toInt32)), .val (.int ((p2.toInt8.toInt32) &&& (255 : Int32))), .val (.long r11), .second, .val (.long r12), .second, .val (.long (((((((((0 : Int64) ||| r13) ||| r14) ||| r15) ||| r16) ||| r17) ||| r18) ||| r19) ||| r20)), .second, .val (.long ((((((((((0 : Int64) ||| r13) ||| r14) ||| r15) ||| r16) ||| r17) ||| r18) ||| r19) ||| r20) &&& (-(((((((((0 : Int64) ||| r13) ||| r14) ||| r15) ||| r16) ||| r17) ||| r18) ||| r19) ||| r20)))), .second, .val (.int (1 : Int32)), .val (.int (1 : Int32)), .unset] [(.long (((((((((((0 : Int64) ||| r13) ||| r14) ||| r15) ||| r16) ||| r17) ||| r18) ||| r19) ||| r20) &&& (-(((((((((0 : Int64) ||| r13) ||| r14) ||| r15) ||| r16) ||| r17) ||| r18) ||| r19) ||| r20))) - (1 : Int64))), (.long r12)])) _
    refine XS.land X20.here hx rfl (hb hby at_273) rfl ?_
    show Steps p.tables e below (T20.setTop (mkF m 274 #[.val (.long q1), .second, .val (.int p2), .val (.int p3), .val (.int (p2.toInt8.toInt32)), .val (.int ((p2.toInt8.toInt32) &&& (255 : Int32))), .val (.long r11), .second, .val (.long r12), .second, .val (.long (((((((((0 : Int64) ||| r13) ||| r14) ||| r15) ||| r16) ||| r17) ||| r18) ||| r19) ||| r20)), .second, .val (.long ((((((((((0 : Int64) ||| r13) ||| r14) ||| r15) ||| r16) ||| r17) ||| r18) ||| r19) ||| r20) &&& (-(((((((((0 : Int64) ||| r13) ||| r14) ||| r15) ||| r16) ||| r17) ||| r18) ||| r19) ||| r20)))), .second, .val (.int (1 : Int32)), .val (.int (1 : Int32)), .unset] [(.long (r12 &&& (((((((((((0 : Int64) ||| r13) ||| r14) ||| r15) ||| r16) ||| r17) ||| r18) ||| r19) ||| r20) &&& (-(((((((((0 : Int64) ||| r13) ||| r14) ||| r15) ||| r16) ||| r17) ||| r18) ||| r19) ||| r20))) - (1 : Int64))))])) _
    refine XS.lconst X20.here hx rfl (hb hby at_274) ?_
    show Steps p.tables e below (T20.setTop (mkF m 275 #[.val (.long q1), .second, .val (.int p2), .val (.int p3), .val (.int (p2.toInt8.toInt32)), .val (.int ((p2.toInt8.toInt32) &&& (255 : Int32))), .val (.long r11), .second, .val (.long r12), .second, .val (.long (((((((((0 : Int64) ||| r13) ||| r14) ||| r15) ||| r16) ||| r17) ||| r18) ||| r19) ||| r20)), .second, .val (.long ((((((((((0 : Int64) ||| r13) ||| r14) ||| r15) ||| r16) ||| r17) ||| r18) ||| r19) ||| r20) &&& (-(((((((((0 : Int64) ||| r13) ||| r14) ||| r15) ||| r16) ||| r17) ||| r18) ||| r19) ||| r20)))), .second, .val (.int (1 : Int32)), .val (.int (1 : Int32)), .unset] [(.long (0 : Int64)), (.long (r12 &&& (((((((((((0 : Int64) ||| r13) ||| r14) ||| r15) ||| r16) ||| r17) ||| r18) ||| r19) ||| r20) &&& (-(((((((((0 : Int64) ||| r13) ||| r14) ||| r15) ||| r16) ||| r17) ||| r18) ||| r19) ||| r20))) - (1 : Int64))))])) _
    refine XS.lcmp X20.here hx rfl (hb hby at_275) rfl ?_
    show Steps p.tables e below (T20.setTop (mkF m 276 #[.val (.long q1), .second, .val (.int p2), .val (.int p3), .val (.int (p2.toInt8.toInt32)), .val (.int ((p2.toInt8.toInt32) &&& (255 : Int32))), .val (.long r11), .second, .val (.long r12), .second, .val (.long (((((((((0 : Int64) ||| r13) ||| r14) ||| r15) ||| r16) ||| r17) ||| r18) ||| r19) ||| r20)), .second, .val (.long ((((((((((0 : Int64) ||| r13) ||| r14) ||| r15) ||| r16) ||| r17) ||| r18) ||| r19) ||| r20) &&& (-(((((((((0 : Int64) ||| r13) ||| r14) ||| r15) ||| r16) ||| r17) ||| r18) ||| r19) ||| r20)))), .second, .val (.int (1 : Int32)), .val (.int (1 : Int32)), .unset] [(.int (lcmpW (r12 &&& (((((((((((0 : Int64) ||| r13) ||| r14) ||| r15) ||| r16) ||| r17) ||| r18) ||| r19) ||| r20) &&& (-(((((((((0 : Int64) ||| r13) ||| r14) ||| r15) ||| r16) ||| r17) ||| r18) ||| r19) ||| r20))) - (1 : Int64))) (0 : Int64)))])) _
    refine XS.ifNo X20.here hx rfl (hb hby at_276) rfl ((if0 _ _).trans (teq ht276).2) ?_
    show Steps p.tables e below (T20.setTop (mkF m 279 #[.val (.long q1), .second, .val (.int p2), .val (.int p3), .val (.int (p2.toInt8.toInt32)), .val (.int ((p2.toInt8.toInt32) &&& (255 : Int32))), .val (.long r11), .second, .val (.long r12), .second, .val (.long (((((((((0 : Int64) ||| r13) ||| r14) ||| r15) ||| r16) ||| r17) ||| r18) ||| r19) ||| r20)), .second, .val (.long ((((((((((0 : Int64) ||| r13) ||| r14) ||| r15) ||| r16) ||| r17) ||| r18) ||| r19) ||| r20) &&& (-(((((((((0 : Int64) ||| r13) ||| r14) ||| r15) ||| r16) ||| r17) ||| r18) ||| r19) ||| r20)))), .second, .val (.int (1 : Int32)), .val (.int (1 : Int32)), .unset] [])) _
    refine XS.iconst X20.here hx rfl (hb hby at_279) ?_
    show Steps p.tables e below (T20.setTop (mkF m 280 #[.val (.long q1), .second, .val (.int p2), .val (.int p3), .val (.int (p2.toInt8.toInt32)), .val (.int ((p2.toInt8.toInt32) &&& (255 : Int32))), .val (.long r11), .second, .val (.long r12), .second, .val (.long (((((((((0 : Int64) ||| r13) ||| r14) ||| r15) ||| r16) ||| r17) ||| r18) ||| r19) ||| r20)), .second, .val (.long ((((((((((0 : Int64) ||| r13) ||| r14) ||| r15) ||| r16) ||| r17) ||| r18) ||| r19) ||| r20) &&& (-(((((((((0 : Int64) ||| r13) ||| r14) ||| r15) ||| r16) ||| r17) ||| r18) ||| r19) ||| r20)))), .second, .val (.int (1 : Int32)), .val (.int (1 : Int32)), .unset] [(.int (1 : Int32))])) _
    refine XS.goto X20.here hx rfl (pc0 := 280) (pc' := 284) rfl (hb hby at_280) (by decide) (by decide) ?_
    show Steps p.tables e below (T20.setTop (mkF m 284 #[.val (.long q1), .second, .val (.int p2), .val (.int p3), .val (.int (p2.toInt8.toInt32)), .val (.int ((p2.toInt8.toInt32) &&& (255 : Int32))), .val (.long r11), .second, .val (.long r12), .second, .val (.long (((((((((0 : Int64) ||| r13) ||| r14) ||| r15) ||| r16) ||| r17) ||| r18) ||| r19) ||| r20)), .second, .val (.long ((((((((((0 : Int64) ||| r13) ||| r14) ||| r15) ||| r16) ||| r17) ||| r18) ||| r19) ||| r20) &&& (-(((((((((0 : Int64) ||| r13) ||| r14) ||| r15) ||| r16) ||| r17) ||| r18) ||| r19) ||| r20)))), .second, .val (.int (1 : Int32)), .val (.int (1 : Int32)), .unset] [(.int (1 : Int32))])) _
    refine XS.istore X20.here hx rfl (hb hby at_284) rfl (l' := #[.val (.long q1), .second, .val (.int p2), .val (.int p3), .val (.int (p2.toInt8.toInt32)), .val (.int ((p2.toInt8.toInt32) &&& (255 : Int32))), .val (.long r11), .second, .val (.long r12), .second, .val (.long (((((((((0 : Int64) ||| r13) ||| r14) ||| r15) ||| r16) ||| r17) ||| r18) ||| r19) ||| r20)), .second, .val (.long ((((((((((0 : Int64) ||| r13) ||| r14) ||| r15) ||| r16) ||| r17) ||| r18) ||| r19) ||| r20) &&& (-(((((((((0 : Int64) ||| r13) ||| r14) ||| r15) ||| r16) ||| r17) ||| r18) ||| r19) ||| r20)))), .second, .val (.int (1 : Int32)), .val (.int (1 : Int32)), .val (.int (1 : Int32))]) rfl ?_
    show Steps p.tables e below (T20.setTop (mkF m 286 #[.val (.long q1), .second, .val (.int p2), .val (.int p3), .val (.int (p2.toInt8.toInt32)), .val (.int ((p2.toInt8.toInt32) &&& (255 : Int32))), .val (.long r11), .second, .val (.long r12), .second, .val (.long (((((((((0 : Int64) ||| r13) ||| r14) ||| r15) ||| r16) ||| r17) ||| r18) ||| r19) ||| r20)), .second, .val (.long ((((((((((0 : Int64) ||| r13) ||| r14) ||| r15) ||| r16) ||| r17) ||| r18) ||| r19) ||| r20) &&& (-(((((((((0 : Int64) ||| r13) ||| r14) ||| r15) ||| r16) ||| r17) ||| r18) ||| r19) ||| r20)))), .second, .val (.int (1 : Int32)), .val (.int (1 : Int32)), .val (.int (1 : Int32))] [])) _
    refine XS.iload X20.here hx rfl (hb hby at_286) rfl ?_
    show Steps p.tables e below (T20.setTop (mkF m 288 #[.val (.long q1), .second, .val (.int p2), .val (.int p3), .val (.int (p2.toInt8.toInt32)), .val (.int ((p2.toInt8.toInt32) &&& (255 : Int32))), .val (.long r11), .second, .val (.long r12), .second, .val (.long (((((((((0 : Int64) ||| r13) ||| r14) ||| r15) ||| r16) ||| r17) ||| r18) ||| r19) ||| r20)), .second, .val (.long ((((((((((0 : Int64) ||| r13) ||| r14) ||| r15) ||| r16) ||| r17) ||| r18) ||| r19) ||| r20) &&& (-(((((((((0 : Int64) ||| r13) ||| r14) ||| r15) ||| r16) ||| r17) ||| r18) ||| r19) ||| r20)))), .second, .val (.int (1 : Int32)), .val (.int (1 : Int32)), .val (.int (1 : Int32))] [(.int (1 : Int32))])) _
    refine XS.ifNo X20.here hx rfl (hb hby at_288) rfl ((if0 _ _).trans (feq hc288).1) ?_
    show Steps p.tables e below (T20.setTop (mkF m 291 #[.val (.long q1), .second, .val (.int p2), .val (.int p3), .val (.int (p2.toInt8.toInt32)), .val (.int ((p2.toInt8.toInt32) &&& (255 : Int32))), .val (.long r11), .second, .val (.long r12), .second, .val (.long (((((((((0 : Int64) ||| r13) ||| r14) ||| r15) ||| r16) ||| r17) ||| r18) ||| r19) ||| r20)), .second, .val (.long ((((((((((0 : Int64) ||| r13) ||| r14) ||| r15) ||| r16) ||| r17) ||| r18) ||| r19) ||| r20) &&& (-(((((((((0 : Int64) ||| r13) ||| r14) ||| r15) ||| r16) ||| r17) ||| r18) ||| r19) ||| r20)))), .second, .val (.int (1 : Int32)), .val (.int (1 : Int32)), .val (.int (1 : Int32))] [])) _
    refine XS.iload X20.here hx rfl (hb hby at_291) rfl ?_
    show Steps p.tables e below (T20.setTop (mkF m 293 #[.val (.long q1), .second, .val (.int p2), .val (.int p3), .val (.int (p2.toInt8.toInt32)), .val (.int ((p2.toInt8.toInt32) &&& (255 : Int32))), .val (.long r11), .second, .val (.long r12), .second, .val (.long (((((((((0 : Int64) ||| r13) ||| r14) ||| r15) ||| r16) ||| r17) ||| r18) ||| r19) ||| r20)), .second, .val (.long ((((((((((0 : Int64) ||| r13) ||| r14) ||| r15) ||| r16) ||| r17) ||| r18) ||| r19) ||| r20) &&& (-(((((((((0 : Int64) ||| r13) ||| r14) ||| r15) ||| r16) ||| r17) ||| r18) ||| r19) ||| r20)))), .second, .val (.int (1 : Int32)), .val (.int (1 : Int32)), .val (.int (1 : Int32))] [(.int (1 : Int32))])) _
    refine XS.ifNo X20.here hx rfl (hb hby at_293) rfl ((if0 _ _).trans (feq hc293).1) ?_
    show Steps p.tables e below (T20.setTop (mkF m 296 #[.val (.long q1), .second, .val (.int p2), .val (.int p3), .val (.int (p2.toInt8.toInt32)), .val (.int ((p2.toInt8.toInt32) &&& (255 : Int32))), .val (.long r11), .second, .val (.long r12), .second, .val (.long (((((((((0 : Int64) ||| r13) ||| r14) ||| r15) ||| r16) ||| r17) ||| r18) ||| r19) ||| r20)), .second, .val (.long ((((((((((0 : Int64) ||| r13) ||| r14) ||| r15) ||| r16) ||| r17) ||| r18) ||| r19) ||| r20) &&& (-(((((((((0 : Int64) ||| r13) ||| r14) ||| r15) ||| r16) ||| r17) ||| r18) ||| r19) ||| r20)))), .second, .val (.int (1 : Int32)), .val (.int (1 : Int32)), .val (.int (1 : Int32))] [])) _
    refine XS.iload X20.here hx rfl (hb hby at_296) rfl ?_
    show Steps p.tables e below (T20.setTop (mkF m 298 #[.val (.long q1), .second, .val (.int p2), .val (.int p3), .val (.int (p2.toInt8.toInt32)), .val (.int ((p2.toInt8.toInt32) &&& (255 : Int32))), .val (.long r11), .second, .val (.long r12), .second, .val (.long (((((((((0 : Int64) ||| r13) ||| r14) ||| r15) ||| r16) ||| r17) ||| r18) ||| r19) ||| r20)), .second, .val (.long ((((((((((0 : Int64) ||| r13) ||| r14) ||| r15) ||| r16) ||| r17) ||| r18) ||| r19) ||| r20) &&& (-(((((((((0 : Int64) ||| r13) ||| r14) ||| r15) ||| r16) ||| r17) ||| r18) ||| r19) ||| r20)))), .second, .val (.int (1 : Int32)), .val (.int (1 : Int32)), .val (.int (1 : Int32))] [(.int (1 : Int32))])) _
    refine XS.ifNo X20.here hx rfl (hb hby at_298) rfl ((if0 _ _).trans (feq hc298).1) ?_
    show Steps p.tables e below (T20.setTop (mkF m 301 #[.val (.long q1), .second, .val (.int p2), .val (.int p3), .val (.int (p2.toInt8.toInt32)), .val (.int ((p2.toInt8.toInt32) &&& (255 : Int32))), .val (.long r11), .second, .val (.long r12), .second, .val (.long (((((((((0 : Int64) ||| r13) ||| r14) ||| r15) ||| r16) ||| r17) ||| r18) ||| r19) ||| r20)), .second, .val (.long ((((((((((0 : Int64) ||| r13) ||| r14) ||| r15) ||| r16) ||| r17) ||| r18) ||| r19) ||| r20) &&& (-(((((((((0 : Int64) ||| r13) ||| r14) ||| r15) ||| r16) ||| r17) ||| r18) ||| r19) ||| r20)))), .second, .val (.int (1 : Int32)), .val (.int (1 : Int32)), .val (.int (1 : Int32))] [])) _
    refine XS.iconst X20.here hx rfl (hb hby at_301) ?_
    show Steps p.tables e below (T20.setTop (mkF m 302 #[.val (.long q1), .second, .val (.int p2), .val (.int p3), .val (.int (p2.toInt8.toInt32)), .val (.int ((p2.toInt8.toInt32) &&& (255 : Int32))), .val (.long r11), .second, .val (.long r12), .second, .val (.long (((((((((0 : Int64) ||| r13) ||| r14) ||| r15) ||| r16) ||| r17) ||| r18) ||| r19) ||| r20)), .second, .val (.long ((((((((((0 : Int64) ||| r13) ||| r14) ||| r15) ||| r16) ||| r17) ||| r18) ||| r19) ||| r20) &&& (-(((((((((0 : Int64) ||| r13) ||| r14) ||| r15) ||| r16) ||| r17) ||| r18) ||| r19) ||| r20)))), .second, .val (.int (1 : Int32)), .val (.int (1 : Int32)), .val (.int (1 : Int32))] [(.int (1 : Int32))])) _
    refine XS.goto X20.here hx rfl (pc0 := 302) (pc' := 306) rfl (hb hby at_302) (by decide) (by decide) ?_
    show Steps p.tables e below (T20.setTop (mkF m 306 #[.val (.long q1), .second, .val (.int p2), .val (.int p3), .val (.int (p2.toInt8.toInt32)), .val (.int ((p2.toInt8.toInt32) &&& (255 : Int32))), .val (.long r11), .second, .val (.long r12), .second, .val (.long (((((((((0 : Int64) ||| r13) ||| r14) ||| r15) ||| r16) ||| r17) ||| r18) ||| r19) ||| r20)), .second, .val (.long ((((((((((0 : Int64) ||| r13) ||| r14) ||| r15) ||| r16) ||| r17) ||| r18) ||| r19) ||| r20) &&& (-(((((((((0 : Int64) ||| r13) ||| r14) ||| r15) ||| r16) ||| r17) ||| r18) ||| r19) ||| r20)))), .second, .val (.int (1 : Int32)), .val (.int (1 : Int32)), .val (.int (1 : Int32))] [(.int (1 : Int32))])) _
    exact retN X20 hx (t := .boolean) Bd.returns (by simp) (hb hby at_306) hr
  · show Q0 Z q1 p2 p3 h0 n0 _ T20.heap _
    exact ⟨rfl, N20⟩
def own_L : BitVec 64 := 0x0101010101010101#64
def own_H : BitVec 64 := 0x8080808080808080#64
theorem own_bit (x : BitVec 64) (i : Nat) : x.getLsbD i = decide (x.toNat / 2 ^ i % 2 = 1) := by
  rw [← BitVec.testBit_toNat, Nat.testBit_eq_decide_div_mod_eq]
theorem own_dif (x : BitVec 64) : (x - own_L).toNat = (18374403900871474943 + x.toNat) % 18446744073709551616 := by
  rw [BitVec.toNat_sub]; rfl
theorem own_sb {m : BitVec 64} {i : Nat} (h : m.getLsbD i = true) : m &&& BitVec.twoPow 64 i = BitVec.twoPow 64 i := by rw [BitVec.and_twoPow, if_pos h]
theorem own_cb {m : BitVec 64} {i : Nat} (h : m.getLsbD i = false) : m &&& BitVec.twoPow 64 i = 0#64 := by rw [BitVec.and_twoPow, if_neg (by rw [h]; decide)]
theorem own_set0 {x : BitVec 64} (h : x.toNat / 1 % 256 = 0) : ((x - own_L) &&& ~~~x).getLsbD 7 = true := by
  have hx := x.isLt
  have p1 : (2 : Nat) ^ 7 = 128 := by decide
  rw [BitVec.getLsbD_and, BitVec.getLsbD_not, own_bit, own_bit, own_dif, p1]
  have h1 : (18374403900871474943 + x.toNat) % 18446744073709551616 / 128 % 2 = 1 := by omega
  have h2 : ¬ x.toNat / 128 % 2 = 1 := by omega
  simp [h1, h2]
theorem own_clr0 {x : BitVec 64} (g0 : ¬ x.toNat / 1 % 256 = 0) : ((x - own_L) &&& ~~~x).getLsbD 7 = false := by
  have hx := x.isLt
  have p1 : (2 : Nat) ^ 7 = 128 := by decide
  rw [BitVec.getLsbD_and, BitVec.getLsbD_not, own_bit, own_bit, own_dif, p1]
  by_cases h2 : x.toNat / 128 % 2 = 1
  · simp [h2]
  · have h1 : ¬ (18374403900871474943 + x.toNat) % 18446744073709551616 / 128 % 2 = 1 := by omega
    simp [h1]
theorem own_set1 {x : BitVec 64} (h : x.toNat / 256 % 256 = 0) : ((x - own_L) &&& ~~~x).getLsbD 15 = true := by
  have hx := x.isLt
  have p1 : (2 : Nat) ^ 15 = 32768 := by decide
  rw [BitVec.getLsbD_and, BitVec.getLsbD_not, own_bit, own_bit, own_dif, p1]
  have h1 : (18374403900871474943 + x.toNat) % 18446744073709551616 / 32768 % 2 = 1 := by omega
  have h2 : ¬ x.toNat / 32768 % 2 = 1 := by omega
  simp [h1, h2]
theorem own_clr1 {x : BitVec 64} (g0 : ¬ x.toNat / 1 % 256 = 0) (g1 : ¬ x.toNat / 256 % 256 = 0) : ((x - own_L) &&& ~~~x).getLsbD 15 = false := by
  have hx := x.isLt
  have p1 : (2 : Nat) ^ 15 = 32768 := by decide
  rw [BitVec.getLsbD_and, BitVec.getLsbD_not, own_bit, own_bit, own_dif, p1]
  by_cases h2 : x.toNat / 32768 % 2 = 1
  · simp [h2]
  · have h1 : ¬ (18374403900871474943 + x.toNat) % 18446744073709551616 / 32768 % 2 = 1 := by omega
    simp [h1]
theorem own_set2 {x : BitVec 64} (h : x.toNat / 65536 % 256 = 0) : ((x - own_L) &&& ~~~x).getLsbD 23 = true := by
  have hx := x.isLt
  have p1 : (2 : Nat) ^ 23 = 8388608 := by decide
  rw [BitVec.getLsbD_and, BitVec.getLsbD_not, own_bit, own_bit, own_dif, p1]
  have h1 : (18374403900871474943 + x.toNat) % 18446744073709551616 / 8388608 % 2 = 1 := by omega
  have h2 : ¬ x.toNat / 8388608 % 2 = 1 := by omega
  simp [h1, h2]
theorem own_clr2 {x : BitVec 64} (g0 : ¬ x.toNat / 1 % 256 = 0) (g1 : ¬ x.toNat / 256 % 256 = 0) (g2 : ¬ x.toNat / 65536 % 256 = 0) : ((x - own_L) &&& ~~~x).getLsbD 23 = false := by
  have hx := x.isLt
  have p1 : (2 : Nat) ^ 23 = 8388608 := by decide
  rw [BitVec.getLsbD_and, BitVec.getLsbD_not, own_bit, own_bit, own_dif, p1]
  by_cases h2 : x.toNat / 8388608 % 2 = 1
  · simp [h2]
  · have h1 : ¬ (18374403900871474943 + x.toNat) % 18446744073709551616 / 8388608 % 2 = 1 := by omega
    simp [h1]
theorem own_set3 {x : BitVec 64} (h : x.toNat / 16777216 % 256 = 0) : ((x - own_L) &&& ~~~x).getLsbD 31 = true := by
  have hx := x.isLt
  have p1 : (2 : Nat) ^ 31 = 2147483648 := by decide
  rw [BitVec.getLsbD_and, BitVec.getLsbD_not, own_bit, own_bit, own_dif, p1]
  have h1 : (18374403900871474943 + x.toNat) % 18446744073709551616 / 2147483648 % 2 = 1 := by omega
  have h2 : ¬ x.toNat / 2147483648 % 2 = 1 := by omega
  simp [h1, h2]
theorem own_clr3 {x : BitVec 64} (g0 : ¬ x.toNat / 1 % 256 = 0) (g1 : ¬ x.toNat / 256 % 256 = 0) (g2 : ¬ x.toNat / 65536 % 256 = 0) (g3 : ¬ x.toNat / 16777216 % 256 = 0) : ((x - own_L) &&& ~~~x).getLsbD 31 = false := by
  have hx := x.isLt
  have p1 : (2 : Nat) ^ 31 = 2147483648 := by decide
  rw [BitVec.getLsbD_and, BitVec.getLsbD_not, own_bit, own_bit, own_dif, p1]
  by_cases h2 : x.toNat / 2147483648 % 2 = 1
  · simp [h2]
  · have h1 : ¬ (18374403900871474943 + x.toNat) % 18446744073709551616 / 2147483648 % 2 = 1 := by omega
    simp [h1]
theorem own_set4 {x : BitVec 64} (h : x.toNat / 4294967296 % 256 = 0) : ((x - own_L) &&& ~~~x).getLsbD 39 = true := by
  have hx := x.isLt
  have p1 : (2 : Nat) ^ 39 = 549755813888 := by decide
  rw [BitVec.getLsbD_and, BitVec.getLsbD_not, own_bit, own_bit, own_dif, p1]
  have h1 : (18374403900871474943 + x.toNat) % 18446744073709551616 / 549755813888 % 2 = 1 := by omega
  have h2 : ¬ x.toNat / 549755813888 % 2 = 1 := by omega
  simp [h1, h2]
theorem own_clr4 {x : BitVec 64} (g0 : ¬ x.toNat / 1 % 256 = 0) (g1 : ¬ x.toNat / 256 % 256 = 0) (g2 : ¬ x.toNat / 65536 % 256 = 0) (g3 : ¬ x.toNat / 16777216 % 256 = 0) (g4 : ¬ x.toNat / 4294967296 % 256 = 0) : ((x - own_L) &&& ~~~x).getLsbD 39 = false := by
  have hx := x.isLt
  have p1 : (2 : Nat) ^ 39 = 549755813888 := by decide
  rw [BitVec.getLsbD_and, BitVec.getLsbD_not, own_bit, own_bit, own_dif, p1]
  by_cases h2 : x.toNat / 549755813888 % 2 = 1
  · simp [h2]
  · have h1 : ¬ (18374403900871474943 + x.toNat) % 18446744073709551616 / 549755813888 % 2 = 1 := by omega
    simp [h1]
theorem own_set5 {x : BitVec 64} (h : x.toNat / 1099511627776 % 256 = 0) : ((x - own_L) &&& ~~~x).getLsbD 47 = true := by
  have hx := x.isLt
  have p1 : (2 : Nat) ^ 47 = 140737488355328 := by decide
  rw [BitVec.getLsbD_and, BitVec.getLsbD_not, own_bit, own_bit, own_dif, p1]
  have h1 : (18374403900871474943 + x.toNat) % 18446744073709551616 / 140737488355328 % 2 = 1 := by omega
  have h2 : ¬ x.toNat / 140737488355328 % 2 = 1 := by omega
  simp [h1, h2]
theorem own_clr5 {x : BitVec 64} (g0 : ¬ x.toNat / 1 % 256 = 0) (g1 : ¬ x.toNat / 256 % 256 = 0) (g2 : ¬ x.toNat / 65536 % 256 = 0) (g3 : ¬ x.toNat / 16777216 % 256 = 0) (g4 : ¬ x.toNat / 4294967296 % 256 = 0) (g5 : ¬ x.toNat / 1099511627776 % 256 = 0) : ((x - own_L) &&& ~~~x).getLsbD 47 = false := by
  have hx := x.isLt
  have p1 : (2 : Nat) ^ 47 = 140737488355328 := by decide
  rw [BitVec.getLsbD_and, BitVec.getLsbD_not, own_bit, own_bit, own_dif, p1]
  by_cases h2 : x.toNat / 140737488355328 % 2 = 1
  · simp [h2]
  · have h1 : ¬ (18374403900871474943 + x.toNat) % 18446744073709551616 / 140737488355328 % 2 = 1 := by omega
    simp [h1]
theorem own_set6 {x : BitVec 64} (h : x.toNat / 281474976710656 % 256 = 0) : ((x - own_L) &&& ~~~x).getLsbD 55 = true := by
  have hx := x.isLt
  have p1 : (2 : Nat) ^ 55 = 36028797018963968 := by decide
  rw [BitVec.getLsbD_and, BitVec.getLsbD_not, own_bit, own_bit, own_dif, p1]
  have h1 : (18374403900871474943 + x.toNat) % 18446744073709551616 / 36028797018963968 % 2 = 1 := by omega
  have h2 : ¬ x.toNat / 36028797018963968 % 2 = 1 := by omega
  simp [h1, h2]
theorem own_clr6 {x : BitVec 64} (g0 : ¬ x.toNat / 1 % 256 = 0) (g1 : ¬ x.toNat / 256 % 256 = 0) (g2 : ¬ x.toNat / 65536 % 256 = 0) (g3 : ¬ x.toNat / 16777216 % 256 = 0) (g4 : ¬ x.toNat / 4294967296 % 256 = 0) (g5 : ¬ x.toNat / 1099511627776 % 256 = 0) (g6 : ¬ x.toNat / 281474976710656 % 256 = 0) : ((x - own_L) &&& ~~~x).getLsbD 55 = false := by
  have hx := x.isLt
  have p1 : (2 : Nat) ^ 55 = 36028797018963968 := by decide
  rw [BitVec.getLsbD_and, BitVec.getLsbD_not, own_bit, own_bit, own_dif, p1]
  by_cases h2 : x.toNat / 36028797018963968 % 2 = 1
  · simp [h2]
  · have h1 : ¬ (18374403900871474943 + x.toNat) % 18446744073709551616 / 36028797018963968 % 2 = 1 := by omega
    simp [h1]
theorem own_set7 {x : BitVec 64} (h : x.toNat / 72057594037927936 % 256 = 0) : ((x - own_L) &&& ~~~x).getLsbD 63 = true := by
  have hx := x.isLt
  have p1 : (2 : Nat) ^ 63 = 9223372036854775808 := by decide
  rw [BitVec.getLsbD_and, BitVec.getLsbD_not, own_bit, own_bit, own_dif, p1]
  have h1 : (18374403900871474943 + x.toNat) % 18446744073709551616 / 9223372036854775808 % 2 = 1 := by omega
  have h2 : ¬ x.toNat / 9223372036854775808 % 2 = 1 := by omega
  simp [h1, h2]
theorem own_clr7 {x : BitVec 64} (g0 : ¬ x.toNat / 1 % 256 = 0) (g1 : ¬ x.toNat / 256 % 256 = 0) (g2 : ¬ x.toNat / 65536 % 256 = 0) (g3 : ¬ x.toNat / 16777216 % 256 = 0) (g4 : ¬ x.toNat / 4294967296 % 256 = 0) (g5 : ¬ x.toNat / 1099511627776 % 256 = 0) (g6 : ¬ x.toNat / 281474976710656 % 256 = 0) (g7 : ¬ x.toNat / 72057594037927936 % 256 = 0) : ((x - own_L) &&& ~~~x).getLsbD 63 = false := by
  have hx := x.isLt
  have p1 : (2 : Nat) ^ 63 = 9223372036854775808 := by decide
  rw [BitVec.getLsbD_and, BitVec.getLsbD_not, own_bit, own_bit, own_dif, p1]
  by_cases h2 : x.toNat / 9223372036854775808 % 2 = 1
  · simp [h2]
  · have h1 : ¬ (18374403900871474943 + x.toNat) % 18446744073709551616 / 9223372036854775808 % 2 = 1 := by omega
    simp [h1]
def own_ref (b0 b1 b2 b3 b4 b5 b6 b7 : Bool) : BitVec 64 := ((((((((0#64 ||| (bif b0 then BitVec.twoPow 64 7 else 0#64)) ||| (bif b1 then BitVec.twoPow 64 15 else 0#64)) ||| (bif b2 then BitVec.twoPow 64 23 else 0#64)) ||| (bif b3 then BitVec.twoPow 64 31 else 0#64)) ||| (bif b4 then BitVec.twoPow 64 39 else 0#64)) ||| (bif b5 then BitVec.twoPow 64 47 else 0#64)) ||| (bif b6 then BitVec.twoPow 64 55 else 0#64)) ||| (bif b7 then BitVec.twoPow 64 63 else 0#64))
theorem own_low : ∀ b0 b1 b2 b3 b4 b5 b6 b7 : Bool, own_H &&& ((own_ref b0 b1 b2 b3 b4 b5 b6 b7 &&& -(own_ref b0 b1 b2 b3 b4 b5 b6 b7)) - 1#64) = ((((((((0#64 ||| (bif !b0 then BitVec.twoPow 64 7 else 0#64)) ||| (bif !b0 && !b1 then BitVec.twoPow 64 15 else 0#64)) ||| (bif !b0 && !b1 && !b2 then BitVec.twoPow 64 23 else 0#64)) ||| (bif !b0 && !b1 && !b2 && !b3 then BitVec.twoPow 64 31 else 0#64)) ||| (bif !b0 && !b1 && !b2 && !b3 && !b4 then BitVec.twoPow 64 39 else 0#64)) ||| (bif !b0 && !b1 && !b2 && !b3 && !b4 && !b5 then BitVec.twoPow 64 47 else 0#64)) ||| (bif !b0 && !b1 && !b2 && !b3 && !b4 && !b5 && !b6 then BitVec.twoPow 64 55 else 0#64)) ||| (bif !b0 && !b1 && !b2 && !b3 && !b4 && !b5 && !b6 && !b7 then BitVec.twoPow 64 63 else 0#64)) := by decide +kernel
theorem own_t1 (n : BitVec 64) : (n &&& own_H) &&& 0x7F7F7F7F7F7F7F7F#64 = 0#64 := by
  rw [BitVec.and_assoc, show own_H &&& 0x7F7F7F7F7F7F7F7F#64 = 0#64 from by decide]; simp
theorem own_Href : ∀ b0 b1 b2 b3 b4 b5 b6 b7 : Bool, own_H &&& own_ref b0 b1 b2 b3 b4 b5 b6 b7 = own_ref b0 b1 b2 b3 b4 b5 b6 b7 := by decide +kernel
theorem own_t2 {x : BitVec 64} {b0 b1 b2 b3 b4 b5 b6 b7 : Bool} (h0 : b0 = true ↔ x.toNat / 1 % 256 = 0) (h1 : b1 = true ↔ x.toNat / 256 % 256 = 0) (h2 : b2 = true ↔ x.toNat / 65536 % 256 = 0) (h3 : b3 = true ↔ x.toNat / 16777216 % 256 = 0) (h4 : b4 = true ↔ x.toNat / 4294967296 % 256 = 0) (h5 : b5 = true ↔ x.toNat / 1099511627776 % 256 = 0) (h6 : b6 = true ↔ x.toNat / 281474976710656 % 256 = 0) (h7 : b7 = true ↔ x.toNat / 72057594037927936 % 256 = 0) : (((x - own_L) &&& ~~~x) &&& own_H) &&& own_ref b0 b1 b2 b3 b4 b5 b6 b7 = own_ref b0 b1 b2 b3 b4 b5 b6 b7 := by
  have e : ((x - own_L) &&& ~~~x) &&& own_ref b0 b1 b2 b3 b4 b5 b6 b7 = own_ref b0 b1 b2 b3 b4 b5 b6 b7 := by
    unfold own_ref
    simp only [BitVec.and_or_distrib_left]
    congr 1
    · congr 1
      · congr 1
        · congr 1
          · congr 1
            · congr 1
              · congr 1
                · congr 1
                  · simp
                  · cases b0 <;> first | exact own_sb (own_set0 (h0.mp rfl)) | simp
                · cases b1 <;> first | exact own_sb (own_set1 (h1.mp rfl)) | simp
              · cases b2 <;> first | exact own_sb (own_set2 (h2.mp rfl)) | simp
            · cases b3 <;> first | exact own_sb (own_set3 (h3.mp rfl)) | simp
          · cases b4 <;> first | exact own_sb (own_set4 (h4.mp rfl)) | simp
        · cases b5 <;> first | exact own_sb (own_set5 (h5.mp rfl)) | simp
      · cases b6 <;> first | exact own_sb (own_set6 (h6.mp rfl)) | simp
    · cases b7 <;> first | exact own_sb (own_set7 (h7.mp rfl)) | simp
  have f : own_H &&& own_ref b0 b1 b2 b3 b4 b5 b6 b7 = own_ref b0 b1 b2 b3 b4 b5 b6 b7 := by
    exact own_Href b0 b1 b2 b3 b4 b5 b6 b7
  rw [BitVec.and_assoc, f, e]
theorem own_d {n : BitVec 64} {c : Bool} {i : Nat} (h : c = true → n.getLsbD i = false) : n &&& (bif c then BitVec.twoPow 64 i else 0#64) = 0#64 := by
  cases c
  · simp
  · exact own_cb (h rfl)
theorem own_xd (a b c : BitVec 64) : (a ^^^ b) &&& c = (a &&& c) ^^^ (b &&& c) := by
  apply BitVec.eq_of_getLsbD_eq
  intro i hi
  simp only [BitVec.getLsbD_and, BitVec.getLsbD_xor]
  cases a.getLsbD i <;> cases b.getLsbD i <;> cases c.getLsbD i <;> rfl
theorem own_t3 {x : BitVec 64} {b0 b1 b2 b3 b4 b5 b6 b7 : Bool} (h0 : b0 = true ↔ x.toNat / 1 % 256 = 0) (h1 : b1 = true ↔ x.toNat / 256 % 256 = 0) (h2 : b2 = true ↔ x.toNat / 65536 % 256 = 0) (h3 : b3 = true ↔ x.toNat / 16777216 % 256 = 0) (h4 : b4 = true ↔ x.toNat / 4294967296 % 256 = 0) (h5 : b5 = true ↔ x.toNat / 1099511627776 % 256 = 0) (h6 : b6 = true ↔ x.toNat / 281474976710656 % 256 = 0) (h7 : b7 = true ↔ x.toNat / 72057594037927936 % 256 = 0) : (((x - own_L) &&& ~~~x) &&& own_H) &&& ((own_ref b0 b1 b2 b3 b4 b5 b6 b7 &&& -(own_ref b0 b1 b2 b3 b4 b5 b6 b7)) - 1#64) = 0#64 := by
  rw [BitVec.and_assoc, own_low]
  simp only [BitVec.and_or_distrib_left]
  have d0 : ((x - own_L) &&& ~~~x) &&& (bif !b0 then BitVec.twoPow 64 7 else 0#64) = 0#64 := own_d fun hb => own_clr0 (fun q => by simp [h0.mpr q] at hb)
  have d1 : ((x - own_L) &&& ~~~x) &&& (bif !b0 && !b1 then BitVec.twoPow 64 15 else 0#64) = 0#64 := own_d fun hb => own_clr1 (fun q => by simp [h0.mpr q] at hb) (fun q => by simp [h1.mpr q] at hb)
  have d2 : ((x - own_L) &&& ~~~x) &&& (bif !b0 && !b1 && !b2 then BitVec.twoPow 64 23 else 0#64) = 0#64 := own_d fun hb => own_clr2 (fun q => by simp [h0.mpr q] at hb) (fun q => by simp [h1.mpr q] at hb) (fun q => by simp [h2.mpr q] at hb)
  have d3 : ((x - own_L) &&& ~~~x) &&& (bif !b0 && !b1 && !b2 && !b3 then BitVec.twoPow 64 31 else 0#64) = 0#64 := own_d fun hb => own_clr3 (fun q => by simp [h0.mpr q] at hb) (fun q => by simp [h1.mpr q] at hb) (fun q => by simp [h2.mpr q] at hb) (fun q => by simp [h3.mpr q] at hb)
  have d4 : ((x - own_L) &&& ~~~x) &&& (bif !b0 && !b1 && !b2 && !b3 && !b4 then BitVec.twoPow 64 39 else 0#64) = 0#64 := own_d fun hb => own_clr4 (fun q => by simp [h0.mpr q] at hb) (fun q => by simp [h1.mpr q] at hb) (fun q => by simp [h2.mpr q] at hb) (fun q => by simp [h3.mpr q] at hb) (fun q => by simp [h4.mpr q] at hb)
  have d5 : ((x - own_L) &&& ~~~x) &&& (bif !b0 && !b1 && !b2 && !b3 && !b4 && !b5 then BitVec.twoPow 64 47 else 0#64) = 0#64 := own_d fun hb => own_clr5 (fun q => by simp [h0.mpr q] at hb) (fun q => by simp [h1.mpr q] at hb) (fun q => by simp [h2.mpr q] at hb) (fun q => by simp [h3.mpr q] at hb) (fun q => by simp [h4.mpr q] at hb) (fun q => by simp [h5.mpr q] at hb)
  have d6 : ((x - own_L) &&& ~~~x) &&& (bif !b0 && !b1 && !b2 && !b3 && !b4 && !b5 && !b6 then BitVec.twoPow 64 55 else 0#64) = 0#64 := own_d fun hb => own_clr6 (fun q => by simp [h0.mpr q] at hb) (fun q => by simp [h1.mpr q] at hb) (fun q => by simp [h2.mpr q] at hb) (fun q => by simp [h3.mpr q] at hb) (fun q => by simp [h4.mpr q] at hb) (fun q => by simp [h5.mpr q] at hb) (fun q => by simp [h6.mpr q] at hb)
  have d7 : ((x - own_L) &&& ~~~x) &&& (bif !b0 && !b1 && !b2 && !b3 && !b4 && !b5 && !b6 && !b7 then BitVec.twoPow 64 63 else 0#64) = 0#64 := own_d fun hb => own_clr7 (fun q => by simp [h0.mpr q] at hb) (fun q => by simp [h1.mpr q] at hb) (fun q => by simp [h2.mpr q] at hb) (fun q => by simp [h3.mpr q] at hb) (fun q => by simp [h4.mpr q] at hb) (fun q => by simp [h5.mpr q] at hb) (fun q => by simp [h6.mpr q] at hb) (fun q => by simp [h7.mpr q] at hb)
  rw [d0, d1, d2, d3, d4, d5, d6, d7]
  simp
theorem own_shr (z : Int64) (k : Int32) (n : Nat) (h : ((k &&& 0x3f).toInt64.toUInt64).toBitVec.toNat % 64 = n) : ((z.toUInt64 >>> (k &&& 0x3f).toInt64.toUInt64).toInt64).toBitVec = z.toBitVec >>> n := by
  subst h
  simp [UInt64.toBitVec_shiftRight]
theorem own_vb (u : Int32) : (u &&& (255 : Int32)).toInt64.toBitVec.toNat < 256 ∧ 0 ≤ (u &&& (255 : Int32)).toInt ∧ (u &&& (255 : Int32)).toInt < 256 := by
  have e1 : (u &&& (255 : Int32)).toInt = u.toInt % 2 ^ 8 := Jvm.Kit.i32_mask u 255 (k := 8) (by decide) (by decide)
  have e2 : (u &&& (255 : Int32)).toInt64.toInt = (u &&& (255 : Int32)).toInt := Int32.toInt_toInt64 _
  generalize (u &&& (255 : Int32)) = v at *
  have e3 : v.toInt64.toInt = v.toInt64.toBitVec.toInt := rfl
  rw [e3, BitVec.toInt_eq_toNat_cond] at e2
  have h := v.toInt64.toBitVec.isLt
  split at e2 <;> omega
theorem own_rep0 : ∀ n : Fin 256, ((own_L * BitVec.ofNat 64 n.val) >>> 0) &&& 255#64 = BitVec.ofNat 64 n.val := by decide +kernel
theorem own_z0 (W : Int64) (u : Int32) : (((((W.toUInt64 >>> (((8 : Int32) * (0 : Int32)) &&& 0x3f).toInt64.toUInt64).toInt64) &&& (255 : Int64)).toInt32) = (u &&& (255 : Int32))) ↔ (W.toBitVec ^^^ (own_L * (u &&& (255 : Int32)).toInt64.toBitVec)).toNat / 1 % 256 = 0 := by
  obtain ⟨q1, q2, q3⟩ := own_vb u
  generalize (u &&& (255 : Int32)) = v at *
  have eS : ((W.toUInt64 >>> (((8 : Int32) * (0 : Int32)) &&& 0x3f).toInt64.toUInt64).toInt64).toBitVec = W.toBitVec >>> 0 := own_shr W _ 0 (by decide)
  generalize hY : ((W.toUInt64 >>> (((8 : Int32) * (0 : Int32)) &&& 0x3f).toInt64.toUInt64).toInt64) = Y at *
  have eY : (Y &&& (255 : Int64)).toInt = Y.toInt % 2 ^ 8 := Jvm.Kit.i64_mask Y 255 (k := 8) (by decide) (by decide)
  have e1 : (Y &&& (255 : Int64)).toInt32 = v ↔ (Y &&& (255 : Int64)) = v.toInt64 := by
    rw [← Int32.toInt_inj, ← Int64.toInt_inj, Int32.toInt_toInt64, Jvm.Kit.i32_of_i64 (by omega) (by omega)]
  rw [e1, ← Int64.toBitVec_inj, Int64.toBitVec_and, eS, show Int64.toBitVec 255 = 255#64 from rfl]
  have e2 : (W.toBitVec ^^^ (own_L * v.toInt64.toBitVec)).toNat / 1 % 256 = (((W.toBitVec ^^^ (own_L * v.toInt64.toBitVec)) >>> 0) &&& 255#64).toNat := by
    rw [BitVec.toNat_and, BitVec.toNat_ushiftRight, Nat.shiftRight_eq_div_pow]
    exact (Nat.and_two_pow_sub_one_eq_mod _ 8).symm
  have e3 : v.toInt64.toBitVec = BitVec.ofNat 64 v.toInt64.toBitVec.toNat := by simp
  have e4 : ((own_L * v.toInt64.toBitVec) >>> 0) &&& 255#64 = v.toInt64.toBitVec := by
    have r := own_rep0 ⟨v.toInt64.toBitVec.toNat, q1⟩
    rw [← e3] at r
    exact r
  rw [e2, BitVec.ushiftRight_xor_distrib, own_xd, e4]
  constructor
  · intro h; rw [h, BitVec.xor_self]; rfl
  · intro h
    have h' := BitVec.eq_of_toNat_eq (x := _) (y := 0#64) h
    exact BitVec.xor_eq_zero_iff.mp h'
theorem own_rep1 : ∀ n : Fin 256, ((own_L * BitVec.ofNat 64 n.val) >>> 8) &&& 255#64 = BitVec.ofNat 64 n.val := by decide +kernel
theorem own_z1 (W : Int64) (u : Int32) : (((((W.toUInt64 >>> (((8 : Int32) * (1 : Int32)) &&& 0x3f).toInt64.toUInt64).toInt64) &&& (255 : Int64)).toInt32) = (u &&& (255 : Int32))) ↔ (W.toBitVec ^^^ (own_L * (u &&& (255 : Int32)).toInt64.toBitVec)).toNat / 256 % 256 = 0 := by
  obtain ⟨q1, q2, q3⟩ := own_vb u
  generalize (u &&& (255 : Int32)) = v at *
  have eS : ((W.toUInt64 >>> (((8 : Int32) * (1 : Int32)) &&& 0x3f).toInt64.toUInt64).toInt64).toBitVec = W.toBitVec >>> 8 := own_shr W _ 8 (by decide)
  generalize hY : ((W.toUInt64 >>> (((8 : Int32) * (1 : Int32)) &&& 0x3f).toInt64.toUInt64).toInt64) = Y at *
  have eY : (Y &&& (255 : Int64)).toInt = Y.toInt % 2 ^ 8 := Jvm.Kit.i64_mask Y 255 (k := 8) (by decide) (by decide)
  have e1 : (Y &&& (255 : Int64)).toInt32 = v ↔ (Y &&& (255 : Int64)) = v.toInt64 := by
    rw [← Int32.toInt_inj, ← Int64.toInt_inj, Int32.toInt_toInt64, Jvm.Kit.i32_of_i64 (by omega) (by omega)]
  rw [e1, ← Int64.toBitVec_inj, Int64.toBitVec_and, eS, show Int64.toBitVec 255 = 255#64 from rfl]
  have e2 : (W.toBitVec ^^^ (own_L * v.toInt64.toBitVec)).toNat / 256 % 256 = (((W.toBitVec ^^^ (own_L * v.toInt64.toBitVec)) >>> 8) &&& 255#64).toNat := by
    rw [BitVec.toNat_and, BitVec.toNat_ushiftRight, Nat.shiftRight_eq_div_pow]
    exact (Nat.and_two_pow_sub_one_eq_mod _ 8).symm
  have e3 : v.toInt64.toBitVec = BitVec.ofNat 64 v.toInt64.toBitVec.toNat := by simp
  have e4 : ((own_L * v.toInt64.toBitVec) >>> 8) &&& 255#64 = v.toInt64.toBitVec := by
    have r := own_rep1 ⟨v.toInt64.toBitVec.toNat, q1⟩
    rw [← e3] at r
    exact r
  rw [e2, BitVec.ushiftRight_xor_distrib, own_xd, e4]
  constructor
  · intro h; rw [h, BitVec.xor_self]; rfl
  · intro h
    have h' := BitVec.eq_of_toNat_eq (x := _) (y := 0#64) h
    exact BitVec.xor_eq_zero_iff.mp h'
theorem own_rep2 : ∀ n : Fin 256, ((own_L * BitVec.ofNat 64 n.val) >>> 16) &&& 255#64 = BitVec.ofNat 64 n.val := by decide +kernel
theorem own_z2 (W : Int64) (u : Int32) : (((((W.toUInt64 >>> (((8 : Int32) * (2 : Int32)) &&& 0x3f).toInt64.toUInt64).toInt64) &&& (255 : Int64)).toInt32) = (u &&& (255 : Int32))) ↔ (W.toBitVec ^^^ (own_L * (u &&& (255 : Int32)).toInt64.toBitVec)).toNat / 65536 % 256 = 0 := by
  obtain ⟨q1, q2, q3⟩ := own_vb u
  generalize (u &&& (255 : Int32)) = v at *
  have eS : ((W.toUInt64 >>> (((8 : Int32) * (2 : Int32)) &&& 0x3f).toInt64.toUInt64).toInt64).toBitVec = W.toBitVec >>> 16 := own_shr W _ 16 (by decide)
  generalize hY : ((W.toUInt64 >>> (((8 : Int32) * (2 : Int32)) &&& 0x3f).toInt64.toUInt64).toInt64) = Y at *
  have eY : (Y &&& (255 : Int64)).toInt = Y.toInt % 2 ^ 8 := Jvm.Kit.i64_mask Y 255 (k := 8) (by decide) (by decide)
  have e1 : (Y &&& (255 : Int64)).toInt32 = v ↔ (Y &&& (255 : Int64)) = v.toInt64 := by
    rw [← Int32.toInt_inj, ← Int64.toInt_inj, Int32.toInt_toInt64, Jvm.Kit.i32_of_i64 (by omega) (by omega)]
  rw [e1, ← Int64.toBitVec_inj, Int64.toBitVec_and, eS, show Int64.toBitVec 255 = 255#64 from rfl]
  have e2 : (W.toBitVec ^^^ (own_L * v.toInt64.toBitVec)).toNat / 65536 % 256 = (((W.toBitVec ^^^ (own_L * v.toInt64.toBitVec)) >>> 16) &&& 255#64).toNat := by
    rw [BitVec.toNat_and, BitVec.toNat_ushiftRight, Nat.shiftRight_eq_div_pow]
    exact (Nat.and_two_pow_sub_one_eq_mod _ 8).symm
  have e3 : v.toInt64.toBitVec = BitVec.ofNat 64 v.toInt64.toBitVec.toNat := by simp
  have e4 : ((own_L * v.toInt64.toBitVec) >>> 16) &&& 255#64 = v.toInt64.toBitVec := by
    have r := own_rep2 ⟨v.toInt64.toBitVec.toNat, q1⟩
    rw [← e3] at r
    exact r
  rw [e2, BitVec.ushiftRight_xor_distrib, own_xd, e4]
  constructor
  · intro h; rw [h, BitVec.xor_self]; rfl
  · intro h
    have h' := BitVec.eq_of_toNat_eq (x := _) (y := 0#64) h
    exact BitVec.xor_eq_zero_iff.mp h'
theorem own_rep3 : ∀ n : Fin 256, ((own_L * BitVec.ofNat 64 n.val) >>> 24) &&& 255#64 = BitVec.ofNat 64 n.val := by decide +kernel
theorem own_z3 (W : Int64) (u : Int32) : (((((W.toUInt64 >>> (((8 : Int32) * (3 : Int32)) &&& 0x3f).toInt64.toUInt64).toInt64) &&& (255 : Int64)).toInt32) = (u &&& (255 : Int32))) ↔ (W.toBitVec ^^^ (own_L * (u &&& (255 : Int32)).toInt64.toBitVec)).toNat / 16777216 % 256 = 0 := by
  obtain ⟨q1, q2, q3⟩ := own_vb u
  generalize (u &&& (255 : Int32)) = v at *
  have eS : ((W.toUInt64 >>> (((8 : Int32) * (3 : Int32)) &&& 0x3f).toInt64.toUInt64).toInt64).toBitVec = W.toBitVec >>> 24 := own_shr W _ 24 (by decide)
  generalize hY : ((W.toUInt64 >>> (((8 : Int32) * (3 : Int32)) &&& 0x3f).toInt64.toUInt64).toInt64) = Y at *
  have eY : (Y &&& (255 : Int64)).toInt = Y.toInt % 2 ^ 8 := Jvm.Kit.i64_mask Y 255 (k := 8) (by decide) (by decide)
  have e1 : (Y &&& (255 : Int64)).toInt32 = v ↔ (Y &&& (255 : Int64)) = v.toInt64 := by
    rw [← Int32.toInt_inj, ← Int64.toInt_inj, Int32.toInt_toInt64, Jvm.Kit.i32_of_i64 (by omega) (by omega)]
  rw [e1, ← Int64.toBitVec_inj, Int64.toBitVec_and, eS, show Int64.toBitVec 255 = 255#64 from rfl]
  have e2 : (W.toBitVec ^^^ (own_L * v.toInt64.toBitVec)).toNat / 16777216 % 256 = (((W.toBitVec ^^^ (own_L * v.toInt64.toBitVec)) >>> 24) &&& 255#64).toNat := by
    rw [BitVec.toNat_and, BitVec.toNat_ushiftRight, Nat.shiftRight_eq_div_pow]
    exact (Nat.and_two_pow_sub_one_eq_mod _ 8).symm
  have e3 : v.toInt64.toBitVec = BitVec.ofNat 64 v.toInt64.toBitVec.toNat := by simp
  have e4 : ((own_L * v.toInt64.toBitVec) >>> 24) &&& 255#64 = v.toInt64.toBitVec := by
    have r := own_rep3 ⟨v.toInt64.toBitVec.toNat, q1⟩
    rw [← e3] at r
    exact r
  rw [e2, BitVec.ushiftRight_xor_distrib, own_xd, e4]
  constructor
  · intro h; rw [h, BitVec.xor_self]; rfl
  · intro h
    have h' := BitVec.eq_of_toNat_eq (x := _) (y := 0#64) h
    exact BitVec.xor_eq_zero_iff.mp h'
theorem own_rep4 : ∀ n : Fin 256, ((own_L * BitVec.ofNat 64 n.val) >>> 32) &&& 255#64 = BitVec.ofNat 64 n.val := by decide +kernel
theorem own_z4 (W : Int64) (u : Int32) : (((((W.toUInt64 >>> (((8 : Int32) * (4 : Int32)) &&& 0x3f).toInt64.toUInt64).toInt64) &&& (255 : Int64)).toInt32) = (u &&& (255 : Int32))) ↔ (W.toBitVec ^^^ (own_L * (u &&& (255 : Int32)).toInt64.toBitVec)).toNat / 4294967296 % 256 = 0 := by
  obtain ⟨q1, q2, q3⟩ := own_vb u
  generalize (u &&& (255 : Int32)) = v at *
  have eS : ((W.toUInt64 >>> (((8 : Int32) * (4 : Int32)) &&& 0x3f).toInt64.toUInt64).toInt64).toBitVec = W.toBitVec >>> 32 := own_shr W _ 32 (by decide)
  generalize hY : ((W.toUInt64 >>> (((8 : Int32) * (4 : Int32)) &&& 0x3f).toInt64.toUInt64).toInt64) = Y at *
  have eY : (Y &&& (255 : Int64)).toInt = Y.toInt % 2 ^ 8 := Jvm.Kit.i64_mask Y 255 (k := 8) (by decide) (by decide)
  have e1 : (Y &&& (255 : Int64)).toInt32 = v ↔ (Y &&& (255 : Int64)) = v.toInt64 := by
    rw [← Int32.toInt_inj, ← Int64.toInt_inj, Int32.toInt_toInt64, Jvm.Kit.i32_of_i64 (by omega) (by omega)]
  rw [e1, ← Int64.toBitVec_inj, Int64.toBitVec_and, eS, show Int64.toBitVec 255 = 255#64 from rfl]
  have e2 : (W.toBitVec ^^^ (own_L * v.toInt64.toBitVec)).toNat / 4294967296 % 256 = (((W.toBitVec ^^^ (own_L * v.toInt64.toBitVec)) >>> 32) &&& 255#64).toNat := by
    rw [BitVec.toNat_and, BitVec.toNat_ushiftRight, Nat.shiftRight_eq_div_pow]
    exact (Nat.and_two_pow_sub_one_eq_mod _ 8).symm
  have e3 : v.toInt64.toBitVec = BitVec.ofNat 64 v.toInt64.toBitVec.toNat := by simp
  have e4 : ((own_L * v.toInt64.toBitVec) >>> 32) &&& 255#64 = v.toInt64.toBitVec := by
    have r := own_rep4 ⟨v.toInt64.toBitVec.toNat, q1⟩
    rw [← e3] at r
    exact r
  rw [e2, BitVec.ushiftRight_xor_distrib, own_xd, e4]
  constructor
  · intro h; rw [h, BitVec.xor_self]; rfl
  · intro h
    have h' := BitVec.eq_of_toNat_eq (x := _) (y := 0#64) h
    exact BitVec.xor_eq_zero_iff.mp h'
theorem own_rep5 : ∀ n : Fin 256, ((own_L * BitVec.ofNat 64 n.val) >>> 40) &&& 255#64 = BitVec.ofNat 64 n.val := by decide +kernel
theorem own_z5 (W : Int64) (u : Int32) : (((((W.toUInt64 >>> (((8 : Int32) * (5 : Int32)) &&& 0x3f).toInt64.toUInt64).toInt64) &&& (255 : Int64)).toInt32) = (u &&& (255 : Int32))) ↔ (W.toBitVec ^^^ (own_L * (u &&& (255 : Int32)).toInt64.toBitVec)).toNat / 1099511627776 % 256 = 0 := by
  obtain ⟨q1, q2, q3⟩ := own_vb u
  generalize (u &&& (255 : Int32)) = v at *
  have eS : ((W.toUInt64 >>> (((8 : Int32) * (5 : Int32)) &&& 0x3f).toInt64.toUInt64).toInt64).toBitVec = W.toBitVec >>> 40 := own_shr W _ 40 (by decide)
  generalize hY : ((W.toUInt64 >>> (((8 : Int32) * (5 : Int32)) &&& 0x3f).toInt64.toUInt64).toInt64) = Y at *
  have eY : (Y &&& (255 : Int64)).toInt = Y.toInt % 2 ^ 8 := Jvm.Kit.i64_mask Y 255 (k := 8) (by decide) (by decide)
  have e1 : (Y &&& (255 : Int64)).toInt32 = v ↔ (Y &&& (255 : Int64)) = v.toInt64 := by
    rw [← Int32.toInt_inj, ← Int64.toInt_inj, Int32.toInt_toInt64, Jvm.Kit.i32_of_i64 (by omega) (by omega)]
  rw [e1, ← Int64.toBitVec_inj, Int64.toBitVec_and, eS, show Int64.toBitVec 255 = 255#64 from rfl]
  have e2 : (W.toBitVec ^^^ (own_L * v.toInt64.toBitVec)).toNat / 1099511627776 % 256 = (((W.toBitVec ^^^ (own_L * v.toInt64.toBitVec)) >>> 40) &&& 255#64).toNat := by
    rw [BitVec.toNat_and, BitVec.toNat_ushiftRight, Nat.shiftRight_eq_div_pow]
    exact (Nat.and_two_pow_sub_one_eq_mod _ 8).symm
  have e3 : v.toInt64.toBitVec = BitVec.ofNat 64 v.toInt64.toBitVec.toNat := by simp
  have e4 : ((own_L * v.toInt64.toBitVec) >>> 40) &&& 255#64 = v.toInt64.toBitVec := by
    have r := own_rep5 ⟨v.toInt64.toBitVec.toNat, q1⟩
    rw [← e3] at r
    exact r
  rw [e2, BitVec.ushiftRight_xor_distrib, own_xd, e4]
  constructor
  · intro h; rw [h, BitVec.xor_self]; rfl
  · intro h
    have h' := BitVec.eq_of_toNat_eq (x := _) (y := 0#64) h
    exact BitVec.xor_eq_zero_iff.mp h'
theorem own_rep6 : ∀ n : Fin 256, ((own_L * BitVec.ofNat 64 n.val) >>> 48) &&& 255#64 = BitVec.ofNat 64 n.val := by decide +kernel
theorem own_z6 (W : Int64) (u : Int32) : (((((W.toUInt64 >>> (((8 : Int32) * (6 : Int32)) &&& 0x3f).toInt64.toUInt64).toInt64) &&& (255 : Int64)).toInt32) = (u &&& (255 : Int32))) ↔ (W.toBitVec ^^^ (own_L * (u &&& (255 : Int32)).toInt64.toBitVec)).toNat / 281474976710656 % 256 = 0 := by
  obtain ⟨q1, q2, q3⟩ := own_vb u
  generalize (u &&& (255 : Int32)) = v at *
  have eS : ((W.toUInt64 >>> (((8 : Int32) * (6 : Int32)) &&& 0x3f).toInt64.toUInt64).toInt64).toBitVec = W.toBitVec >>> 48 := own_shr W _ 48 (by decide)
  generalize hY : ((W.toUInt64 >>> (((8 : Int32) * (6 : Int32)) &&& 0x3f).toInt64.toUInt64).toInt64) = Y at *
  have eY : (Y &&& (255 : Int64)).toInt = Y.toInt % 2 ^ 8 := Jvm.Kit.i64_mask Y 255 (k := 8) (by decide) (by decide)
  have e1 : (Y &&& (255 : Int64)).toInt32 = v ↔ (Y &&& (255 : Int64)) = v.toInt64 := by
    rw [← Int32.toInt_inj, ← Int64.toInt_inj, Int32.toInt_toInt64, Jvm.Kit.i32_of_i64 (by omega) (by omega)]
  rw [e1, ← Int64.toBitVec_inj, Int64.toBitVec_and, eS, show Int64.toBitVec 255 = 255#64 from rfl]
  have e2 : (W.toBitVec ^^^ (own_L * v.toInt64.toBitVec)).toNat / 281474976710656 % 256 = (((W.toBitVec ^^^ (own_L * v.toInt64.toBitVec)) >>> 48) &&& 255#64).toNat := by
    rw [BitVec.toNat_and, BitVec.toNat_ushiftRight, Nat.shiftRight_eq_div_pow]
    exact (Nat.and_two_pow_sub_one_eq_mod _ 8).symm
  have e3 : v.toInt64.toBitVec = BitVec.ofNat 64 v.toInt64.toBitVec.toNat := by simp
  have e4 : ((own_L * v.toInt64.toBitVec) >>> 48) &&& 255#64 = v.toInt64.toBitVec := by
    have r := own_rep6 ⟨v.toInt64.toBitVec.toNat, q1⟩
    rw [← e3] at r
    exact r
  rw [e2, BitVec.ushiftRight_xor_distrib, own_xd, e4]
  constructor
  · intro h; rw [h, BitVec.xor_self]; rfl
  · intro h
    have h' := BitVec.eq_of_toNat_eq (x := _) (y := 0#64) h
    exact BitVec.xor_eq_zero_iff.mp h'
theorem own_rep7 : ∀ n : Fin 256, ((own_L * BitVec.ofNat 64 n.val) >>> 56) &&& 255#64 = BitVec.ofNat 64 n.val := by decide +kernel
theorem own_z7 (W : Int64) (u : Int32) : (((((W.toUInt64 >>> (((8 : Int32) * (7 : Int32)) &&& 0x3f).toInt64.toUInt64).toInt64) &&& (255 : Int64)).toInt32) = (u &&& (255 : Int32))) ↔ (W.toBitVec ^^^ (own_L * (u &&& (255 : Int32)).toInt64.toBitVec)).toNat / 72057594037927936 % 256 = 0 := by
  obtain ⟨q1, q2, q3⟩ := own_vb u
  generalize (u &&& (255 : Int32)) = v at *
  have eS : ((W.toUInt64 >>> (((8 : Int32) * (7 : Int32)) &&& 0x3f).toInt64.toUInt64).toInt64).toBitVec = W.toBitVec >>> 56 := own_shr W _ 56 (by decide)
  generalize hY : ((W.toUInt64 >>> (((8 : Int32) * (7 : Int32)) &&& 0x3f).toInt64.toUInt64).toInt64) = Y at *
  have eY : (Y &&& (255 : Int64)).toInt = Y.toInt % 2 ^ 8 := Jvm.Kit.i64_mask Y 255 (k := 8) (by decide) (by decide)
  have e1 : (Y &&& (255 : Int64)).toInt32 = v ↔ (Y &&& (255 : Int64)) = v.toInt64 := by
    rw [← Int32.toInt_inj, ← Int64.toInt_inj, Int32.toInt_toInt64, Jvm.Kit.i32_of_i64 (by omega) (by omega)]
  rw [e1, ← Int64.toBitVec_inj, Int64.toBitVec_and, eS, show Int64.toBitVec 255 = 255#64 from rfl]
  have e2 : (W.toBitVec ^^^ (own_L * v.toInt64.toBitVec)).toNat / 72057594037927936 % 256 = (((W.toBitVec ^^^ (own_L * v.toInt64.toBitVec)) >>> 56) &&& 255#64).toNat := by
    rw [BitVec.toNat_and, BitVec.toNat_ushiftRight, Nat.shiftRight_eq_div_pow]
    exact (Nat.and_two_pow_sub_one_eq_mod _ 8).symm
  have e3 : v.toInt64.toBitVec = BitVec.ofNat 64 v.toInt64.toBitVec.toNat := by simp
  have e4 : ((own_L * v.toInt64.toBitVec) >>> 56) &&& 255#64 = v.toInt64.toBitVec := by
    have r := own_rep7 ⟨v.toInt64.toBitVec.toNat, q1⟩
    rw [← e3] at r
    exact r
  rw [e2, BitVec.ushiftRight_xor_distrib, own_xd, e4]
  constructor
  · intro h; rw [h, BitVec.xor_self]; rfl
  · intro h
    have h' := BitVec.eq_of_toNat_eq (x := _) (y := 0#64) h
    exact BitVec.xor_eq_zero_iff.mp h'
theorem own_e0 (W : Int64) (u : Int32) : (own_f3 W (0 : Int32) (u &&& (255 : Int32))).toBitVec = bif decide ((W.toBitVec ^^^ (own_L * (u &&& (255 : Int32)).toInt64.toBitVec)).toNat / 1 % 256 = 0) then BitVec.twoPow 64 7 else 0#64 := by
  unfold own_f3
  by_cases h : (W.toBitVec ^^^ (own_L * (u &&& (255 : Int32)).toInt64.toBitVec)).toNat / 1 % 256 = 0
  · rw [if_pos ((own_z0 W u).mpr h), decide_eq_true h]; decide
  · rw [if_neg fun q => h ((own_z0 W u).mp q), decide_eq_false h]; rfl
theorem own_e1 (W : Int64) (u : Int32) : (own_f3 W (1 : Int32) (u &&& (255 : Int32))).toBitVec = bif decide ((W.toBitVec ^^^ (own_L * (u &&& (255 : Int32)).toInt64.toBitVec)).toNat / 256 % 256 = 0) then BitVec.twoPow 64 15 else 0#64 := by
  unfold own_f3
  by_cases h : (W.toBitVec ^^^ (own_L * (u &&& (255 : Int32)).toInt64.toBitVec)).toNat / 256 % 256 = 0
  · rw [if_pos ((own_z1 W u).mpr h), decide_eq_true h]; decide
  · rw [if_neg fun q => h ((own_z1 W u).mp q), decide_eq_false h]; rfl
theorem own_e2 (W : Int64) (u : Int32) : (own_f3 W (2 : Int32) (u &&& (255 : Int32))).toBitVec = bif decide ((W.toBitVec ^^^ (own_L * (u &&& (255 : Int32)).toInt64.toBitVec)).toNat / 65536 % 256 = 0) then BitVec.twoPow 64 23 else 0#64 := by
  unfold own_f3
  by_cases h : (W.toBitVec ^^^ (own_L * (u &&& (255 : Int32)).toInt64.toBitVec)).toNat / 65536 % 256 = 0
  · rw [if_pos ((own_z2 W u).mpr h), decide_eq_true h]; decide
  · rw [if_neg fun q => h ((own_z2 W u).mp q), decide_eq_false h]; rfl
theorem own_e3 (W : Int64) (u : Int32) : (own_f3 W (3 : Int32) (u &&& (255 : Int32))).toBitVec = bif decide ((W.toBitVec ^^^ (own_L * (u &&& (255 : Int32)).toInt64.toBitVec)).toNat / 16777216 % 256 = 0) then BitVec.twoPow 64 31 else 0#64 := by
  unfold own_f3
  by_cases h : (W.toBitVec ^^^ (own_L * (u &&& (255 : Int32)).toInt64.toBitVec)).toNat / 16777216 % 256 = 0
  · rw [if_pos ((own_z3 W u).mpr h), decide_eq_true h]; decide
  · rw [if_neg fun q => h ((own_z3 W u).mp q), decide_eq_false h]; rfl
theorem own_e4 (W : Int64) (u : Int32) : (own_f3 W (4 : Int32) (u &&& (255 : Int32))).toBitVec = bif decide ((W.toBitVec ^^^ (own_L * (u &&& (255 : Int32)).toInt64.toBitVec)).toNat / 4294967296 % 256 = 0) then BitVec.twoPow 64 39 else 0#64 := by
  unfold own_f3
  by_cases h : (W.toBitVec ^^^ (own_L * (u &&& (255 : Int32)).toInt64.toBitVec)).toNat / 4294967296 % 256 = 0
  · rw [if_pos ((own_z4 W u).mpr h), decide_eq_true h]; decide
  · rw [if_neg fun q => h ((own_z4 W u).mp q), decide_eq_false h]; rfl
theorem own_e5 (W : Int64) (u : Int32) : (own_f3 W (5 : Int32) (u &&& (255 : Int32))).toBitVec = bif decide ((W.toBitVec ^^^ (own_L * (u &&& (255 : Int32)).toInt64.toBitVec)).toNat / 1099511627776 % 256 = 0) then BitVec.twoPow 64 47 else 0#64 := by
  unfold own_f3
  by_cases h : (W.toBitVec ^^^ (own_L * (u &&& (255 : Int32)).toInt64.toBitVec)).toNat / 1099511627776 % 256 = 0
  · rw [if_pos ((own_z5 W u).mpr h), decide_eq_true h]; decide
  · rw [if_neg fun q => h ((own_z5 W u).mp q), decide_eq_false h]; rfl
theorem own_e6 (W : Int64) (u : Int32) : (own_f3 W (6 : Int32) (u &&& (255 : Int32))).toBitVec = bif decide ((W.toBitVec ^^^ (own_L * (u &&& (255 : Int32)).toInt64.toBitVec)).toNat / 281474976710656 % 256 = 0) then BitVec.twoPow 64 55 else 0#64 := by
  unfold own_f3
  by_cases h : (W.toBitVec ^^^ (own_L * (u &&& (255 : Int32)).toInt64.toBitVec)).toNat / 281474976710656 % 256 = 0
  · rw [if_pos ((own_z6 W u).mpr h), decide_eq_true h]; decide
  · rw [if_neg fun q => h ((own_z6 W u).mp q), decide_eq_false h]; rfl
theorem own_e7 (W : Int64) (u : Int32) : (own_f3 W (7 : Int32) (u &&& (255 : Int32))).toBitVec = bif decide ((W.toBitVec ^^^ (own_L * (u &&& (255 : Int32)).toInt64.toBitVec)).toNat / 72057594037927936 % 256 = 0) then BitVec.twoPow 64 63 else 0#64 := by
  unfold own_f3
  by_cases h : (W.toBitVec ^^^ (own_L * (u &&& (255 : Int32)).toInt64.toBitVec)).toNat / 72057594037927936 % 256 = 0
  · rw [if_pos ((own_z7 W u).mpr h), decide_eq_true h]; decide
  · rw [if_neg fun q => h ((own_z7 W u).mp q), decide_eq_false h]; rfl
theorem own_m (W : Int64) (u : Int32) : (own_f2 W u).toBitVec = (((W.toBitVec ^^^ (own_L * (u &&& (255 : Int32)).toInt64.toBitVec)) - own_L) &&& ~~~(W.toBitVec ^^^ (own_L * (u &&& (255 : Int32)).toInt64.toBitVec))) &&& own_H := by
  unfold own_f2
  rw [Int64.toBitVec_and, Int64.toBitVec_and, Int64.toBitVec_sub, Int64.toBitVec_xor (W ^^^ _), Int64.toBitVec_xor W, Int64.toBitVec_mul, show Int64.toBitVec 72340172838076673 = own_L from by decide, show Int64.toBitVec (-9187201950435737472) = own_H from by decide, show Int64.toBitVec (-1) = BitVec.allOnes 64 from by decide, BitVec.xor_allOnes]
theorem own_r (W : Int64) (u : Int32) : (((((((((0 : Int64) ||| own_f3 W (0 : Int32) (u &&& (255 : Int32))) ||| own_f3 W (1 : Int32) (u &&& (255 : Int32))) ||| own_f3 W (2 : Int32) (u &&& (255 : Int32))) ||| own_f3 W (3 : Int32) (u &&& (255 : Int32))) ||| own_f3 W (4 : Int32) (u &&& (255 : Int32))) ||| own_f3 W (5 : Int32) (u &&& (255 : Int32))) ||| own_f3 W (6 : Int32) (u &&& (255 : Int32))) ||| own_f3 W (7 : Int32) (u &&& (255 : Int32))).toBitVec = own_ref (decide ((W.toBitVec ^^^ (own_L * (u &&& (255 : Int32)).toInt64.toBitVec)).toNat / 1 % 256 = 0)) (decide ((W.toBitVec ^^^ (own_L * (u &&& (255 : Int32)).toInt64.toBitVec)).toNat / 256 % 256 = 0)) (decide ((W.toBitVec ^^^ (own_L * (u &&& (255 : Int32)).toInt64.toBitVec)).toNat / 65536 % 256 = 0)) (decide ((W.toBitVec ^^^ (own_L * (u &&& (255 : Int32)).toInt64.toBitVec)).toNat / 16777216 % 256 = 0)) (decide ((W.toBitVec ^^^ (own_L * (u &&& (255 : Int32)).toInt64.toBitVec)).toNat / 4294967296 % 256 = 0)) (decide ((W.toBitVec ^^^ (own_L * (u &&& (255 : Int32)).toInt64.toBitVec)).toNat / 1099511627776 % 256 = 0)) (decide ((W.toBitVec ^^^ (own_L * (u &&& (255 : Int32)).toInt64.toBitVec)).toNat / 281474976710656 % 256 = 0)) (decide ((W.toBitVec ^^^ (own_L * (u &&& (255 : Int32)).toInt64.toBitVec)).toNat / 72057594037927936 % 256 = 0)) := by
  rw [Int64.toBitVec_or, Int64.toBitVec_or, Int64.toBitVec_or, Int64.toBitVec_or, Int64.toBitVec_or, Int64.toBitVec_or, Int64.toBitVec_or, Int64.toBitVec_or, own_e0, own_e1, own_e2, own_e3, own_e4, own_e5, own_e6, own_e7]
  rfl
theorem own_c1 (W : Int64) (u : Int32) : lcmpW (own_f2 W u &&& (9187201950435737471 : Int64)) (0 : Int64) = 0 := by
  rw [lcW]; refine (lc_eq _ _).mpr (Int64.toBitVec_inj.mp ?_)
  rw [Int64.toBitVec_and, own_m]; exact own_t1 _
theorem own_c2 (W : Int64) (u : Int32) : lcmpW (own_f2 W u &&& (((((((((0 : Int64) ||| own_f3 W (0 : Int32) (u &&& (255 : Int32))) ||| own_f3 W (1 : Int32) (u &&& (255 : Int32))) ||| own_f3 W (2 : Int32) (u &&& (255 : Int32))) ||| own_f3 W (3 : Int32) (u &&& (255 : Int32))) ||| own_f3 W (4 : Int32) (u &&& (255 : Int32))) ||| own_f3 W (5 : Int32) (u &&& (255 : Int32))) ||| own_f3 W (6 : Int32) (u &&& (255 : Int32))) ||| own_f3 W (7 : Int32) (u &&& (255 : Int32)))) (((((((((0 : Int64) ||| own_f3 W (0 : Int32) (u &&& (255 : Int32))) ||| own_f3 W (1 : Int32) (u &&& (255 : Int32))) ||| own_f3 W (2 : Int32) (u &&& (255 : Int32))) ||| own_f3 W (3 : Int32) (u &&& (255 : Int32))) ||| own_f3 W (4 : Int32) (u &&& (255 : Int32))) ||| own_f3 W (5 : Int32) (u &&& (255 : Int32))) ||| own_f3 W (6 : Int32) (u &&& (255 : Int32))) ||| own_f3 W (7 : Int32) (u &&& (255 : Int32))) = 0 := by
  rw [lcW]; refine (lc_eq _ _).mpr (Int64.toBitVec_inj.mp ?_)
  rw [Int64.toBitVec_and, own_m, own_r]; exact own_t2 decide_eq_true_iff decide_eq_true_iff decide_eq_true_iff decide_eq_true_iff decide_eq_true_iff decide_eq_true_iff decide_eq_true_iff decide_eq_true_iff
theorem own_c3 (W : Int64) (u : Int32) : lcmpW (own_f2 W u &&& (((((((((((0 : Int64) ||| own_f3 W (0 : Int32) (u &&& (255 : Int32))) ||| own_f3 W (1 : Int32) (u &&& (255 : Int32))) ||| own_f3 W (2 : Int32) (u &&& (255 : Int32))) ||| own_f3 W (3 : Int32) (u &&& (255 : Int32))) ||| own_f3 W (4 : Int32) (u &&& (255 : Int32))) ||| own_f3 W (5 : Int32) (u &&& (255 : Int32))) ||| own_f3 W (6 : Int32) (u &&& (255 : Int32))) ||| own_f3 W (7 : Int32) (u &&& (255 : Int32))) &&& (-(((((((((0 : Int64) ||| own_f3 W (0 : Int32) (u &&& (255 : Int32))) ||| own_f3 W (1 : Int32) (u &&& (255 : Int32))) ||| own_f3 W (2 : Int32) (u &&& (255 : Int32))) ||| own_f3 W (3 : Int32) (u &&& (255 : Int32))) ||| own_f3 W (4 : Int32) (u &&& (255 : Int32))) ||| own_f3 W (5 : Int32) (u &&& (255 : Int32))) ||| own_f3 W (6 : Int32) (u &&& (255 : Int32))) ||| own_f3 W (7 : Int32) (u &&& (255 : Int32))))) - (1 : Int64))) (0 : Int64) = 0 := by
  rw [lcW]; refine (lc_eq _ _).mpr (Int64.toBitVec_inj.mp ?_)
  rw [Int64.toBitVec_and, Int64.toBitVec_sub, Int64.toBitVec_and, Int64.toBitVec_neg, own_m, own_r]; exact own_t3 decide_eq_true_iff decide_eq_true_iff decide_eq_true_iff decide_eq_true_iff decide_eq_true_iff decide_eq_true_iff decide_eq_true_iff decide_eq_true_iff
set_option maxRecDepth 65536 in
set_option maxHeartbeats 40000000 in
theorem rm0 (l : Launch) (Z : State) (a0 : Array Value) (hw : ∀ d ∈ tables_1, d.before a0 Z = true) (ws : List Jvm.Cond) (q1 : Int64) (p2 : Int32) (p3 : Int32) (h0 : Heap) (n0 : Nat) (Z0 : n0 ≤ h0.size)  :
    MetFree l x (head1 (Jvm.Cond.code x code maxLocals ret :: ws) room_1) (fun a U => a = #[(.long q1), (.int p2), (.int p3)] ∧ Z.Warmed39 U.vm ∧ U.heap = h0) (fun _ _ _ _ _ => True) (fun _ U o U' => ∃ v L, o = .returned v ∧ Q0 Z q1 p2 p3 h0 n0 v U'.heap L ∧ FrameEnd U o U' L room_1.cells room_1.slots) := by
  exact rm0_x l Z a0 hw ws q1 p2 p3 _ _ _ _ _ _ _ _ _ _ _ _ _ _ _ _ _ h0 n0 Z0 rfl rfl rfl rfl rfl rfl rfl rfl rfl rfl rfl rfl rfl rfl rfl rfl rfl (own_c1 _ _) (own_c2 _ _) (own_c3 _ _) (by decide) (by decide) (by decide)
set_option maxRecDepth 65536 in
set_option maxHeartbeats 40000000 in
theorem comes_1 {Post : Tables → Env → Array Value → State → Outcome → State → Prop} (hpost : ∀ tb e args s v u, (limb_1_1.after args s (.returned v) u = true ∧ limb_1_2.after args s (.returned v) u = true ∧ True) → FrameEnd s (.returned v) u (Jvm.fieldLocs frame_1_writes args s ++ Jvm.arrayLocs frame_1_arrays args s ++ Jvm.staticLocs frame_1_statics s) 0 0 → Post tb e args s (.returned v) u) :
    ArmFor flags0 classFile x code maxLocals ret World_1 tables_1 room_1 Calls_1 rest_1 Pre_1 Post := by
  intro l hfl _ _ p e ha hc hk s m args below hf hA hF happ hP
  obtain ⟨hcalls, hrest, hpre⟩ := hP
  obtain ⟨-, -, -, hnamed, -, -, -, hat⟩ := (Spec.applies_iff hf).mp happ
  obtain ⟨hg, hn⟩ := and_e (Cond.before_iff.mp (show (Jvm.Cond.and given_1 narrow_1).before args s = true from hpre))
  obtain ⟨g21, g22⟩ := and_e hg
  obtain ⟨g23, g24⟩ := and_e g22
  obtain ⟨g25, g26⟩ := and_e g24
  obtain ⟨w0, w1, w2, rfl⟩ : ∃ w0 w1 w2 : Value, args = #[w0, w1, w2] := by
    have hs : args.size = 3 := by simpa [Cond.value, given_1] using g21
    obtain ⟨L⟩ := args
    match L, hs with
    | [w0, w1, w2], _ => exact ⟨w0, w1, w2, rfl⟩
  have hw := fun d (hd : d ∈ tables_1) => atoms_spec (ws := Jvm.Cond.code x code maxLocals ret :: tables_1) hat d (List.mem_cons_of_mem _ hd)
  have hfit : Fit s := fun {y c} hc i hi => by
    obtain ⟨ha, rfl⟩ := Array.getElem?_eq_some_iff.mp hc
    have q := List.all_eq_true.mp ((Array.all_eq_true_iff_forall_mem.mp hF) _ (Array.getElem_mem ha)) i (List.mem_range.mpr hi)
    simpa [Array.getElem?_eq_getElem hi] using q
  obtain ⟨i0, ei0⟩ := isL_v g23
  obtain rfl : w0 = (.long i0) := Option.some.inj ei0
  obtain ⟨i1, ei1⟩ := is_v g25
  obtain rfl : w1 = (.int i1) := Option.some.inj ei1
  obtain ⟨i2, ei2⟩ := is_v g26
  obtain rfl : w2 = (.int i2) := Option.some.inj ei2
  obtain ⟨n, o, h1, h2, h3, _, L, rfl, ⟨rfl, N⟩, hq⟩ := rm0 l s _ hw tables_1 i0 i1 i2 s.heap s.heap.size (Nat.le_refl _)  p e ha hc hk s m _ below hf ((Spec.applies_iff_loose hf).mp happ).1 ⟨rfl, State.Warmed39.refl s, rfl⟩ trivial
  refine ⟨n, _, h1, h2, h3, hpost _ _ _ _ _ _ ⟨Cond.after_iff.mpr rfl, Cond.after_iff.mpr (eq_i res_at (Term.int_eval (1)) rfl), trivial⟩ ⟨hq.1, hq.2.1, (hq.2.2.sift fun y hy => Or.inr (N y hy)).mono (by decide) (by decide)⟩⟩
theorem main_1_1 : Claimed_1_1 := comes_1 fun _ _ _ _ _ _ h hF => ⟨h.1, hF⟩
theorem main_1_2 : Claimed_1_2 := comes_1 fun _ _ _ _ _ _ h hF => ⟨h.2.1, hF⟩
end Jvm.Pilot.@@N@@
namespace Jvm.Pilot.@@N@@
open Jvm Jvm.ClassFile Sem Op Lib Jvm.Free Jvm.Stand Jvm.Pilot.@@N@@.Jvm.D
/-! MADE BY PROGRAM (witnessworld.py) out of the Statement's table words and the real class files: 9 classes; the members and pool entries that the words name. The judged class is class 1, her method 1. -/
namespace start1
open Jvm.ClassFile
def u (s : String) : CpInfo := .utf8 (stringToUtf16 s)
/-- a pool by its gaps: so many unusable entries, then the entry; so many at the end -/
def gap : Nat → List CpInfo → List CpInfo
  | 0, r => r
  | n + 1, r => .unusable :: gap n r
def poolList (es : List (Nat × CpInfo)) (last : Nat) : List CpInfo := es.foldr (fun e r => gap e.1 (e.2 :: r)) (gap last [])
def pool (es : List (Nat × CpInfo)) (last : Nat) : Array CpInfo := ⟨poolList es last⟩
def fileOf (pool : Array CpInfo) (this : Nat) (attrs : Array Attribute := #[]) (ms : Array MethodInfo := #[]) (fl : Nat := 33) (sup : Nat := 0) (ifs : Array Nat := #[]) (fds : Array FieldInfo := #[]) : ClassFile where
  minorVersion := 0
  majorVersion := 65
  constantPool := pool
  accessFlags := fl
  thisClass := this
  superClass := sup
  interfaces := ifs
  fields := fds
  methods := ms
  attributes := attrs
def plain (name : String) (sup : Option ClassId) : Class where
  name := name
  kind := .ordinary
  loader := none
  accessFlags := 33
  super := sup
  interfaces := #[]
  cf := none
  fields := #[]
  methods := #[]
  instanceTypes := #[]
  staticTypes := #[]
  resolved := #[]
  callSites := []
  init := .initialized
  statics := none
  mirror := none

def pool0 : Array CpInfo := pool [(5, u "<init>"), (0, u "()V"), (1, .class_ 10), (1, u "java/lang/Object")] 113

def k0m0 : Method := { name := "<init>", desc := "()V", sig := { parameters := [], returnType := none }, accessFlags := 1, code := none }
/-- java/lang/Object -/
def k0 : Class := { plain "java/lang/Object" none with
  accessFlags := 33
  interfaces := #[]
  cf := some (fileOf pool0 8 #[] #[{ accessFlags := 1, nameIndex := 5, descriptorIndex := 6, attributes := #[] }] 33 0 #[] #[])
  fields := #[]
  methods := #[k0m0]
  instanceTypes := #[]
  staticTypes := #[]
  resolved := Array.replicate 124 none
  statics := none }

def pool1 : Array CpInfo := pool [(2, .class_ 4), (1, u "java/lang/Object"), (0, u "<init>"), (0, u "()V"), (0, .methodref 8 9), (0, .class_ 10), (0, .nameAndType 11 12), (0, u "com/example/recordframe/recordframe/cli/ByteWordsEqualToPinLaw"), (0, u "place"), (0, u "(JIII)J"), (0, .methodref 14 15), (0, .class_ 16), (0, .nameAndType 17 18), (0, u "com/example/recordframe/recordframe/cli/ByteWords"), (0, u "equalTo"), (0, u "(JB)J"), (0, .methodref 8 20), (0, .nameAndType 21 22), (0, u "eq"), (0, u "(JII)J"), (0, .long 9187201950435737471), (1, .long 255), (1, .long 18446744073709551615), (1, .long 128), (3, u "law"), (0, u "(JII)Z")] 3

def k1m0 : Method := { name := "<init>", desc := "()V", sig := { parameters := [], returnType := none }, accessFlags := 2, code := none }
def k1c1 : Code := { maxStack := 6, maxLocals := 17, code := code, exceptionTable := #[], attributes := #[] }
def k1m1 : Method := { name := "law", desc := "(JII)Z", sig := { parameters := [.long, .int, .int], returnType := some .boolean }, accessFlags := 9, code := some k1c1 }
def k1c2 : Code := { maxStack := 6, maxLocals := 7, code := method_3_code, exceptionTable := #[], attributes := #[] }
def k1m2 : Method := { name := "place", desc := "(JIII)J", sig := { parameters := [.long, .int, .int, .int], returnType := some .long }, accessFlags := 10, code := some k1c2 }
def k1c3 : Code := { maxStack := 4, maxLocals := 5, code := method_4_code, exceptionTable := #[], attributes := #[] }
def k1m3 : Method := { name := "eq", desc := "(JII)J", sig := { parameters := [.long, .int, .int], returnType := some .long }, accessFlags := 10, code := some k1c3 }
/-- com/example/recordframe/recordframe/cli/ByteWordsEqualToPinLaw -/
def k1 : Class := { plain "com/example/recordframe/recordframe/cli/ByteWordsEqualToPinLaw" (some 0) with
  accessFlags := 49
  interfaces := #[]
  cf := some (fileOf pool1 8 #[] #[{ accessFlags := 2, nameIndex := 5, descriptorIndex := 6, attributes := #[] }, { accessFlags := 9, nameIndex := 33, descriptorIndex := 34, attributes := #[] }, { accessFlags := 10, nameIndex := 11, descriptorIndex := 12, attributes := #[] }, { accessFlags := 10, nameIndex := 21, descriptorIndex := 22, attributes := #[] }] 49 2 #[] #[])
  fields := #[]
  methods := #[k1m0, k1m1, k1m2, k1m3]
  instanceTypes := #[]
  staticTypes := #[]
  resolved := Array.replicate 38 none
  statics := none }

def pool2 : Array CpInfo := pool [(4, .class_ 6), (1, u "java/lang/Object"), (0, u "<init>"), (0, u "()V"), (1, .class_ 12), (1, u "com/example/recordframe/recordframe/cli/ByteWords"), (0, u "LONGS"), (0, u "Ljava/lang/invoke/VarHandle;"), (10, .long 72340172838076673), (1, .long 18446744073709551615), (1, .long 9259542123273814144), (8, u "equalTo"), (0, u "(JB)J"), (21, u "SIZE"), (0, u "I"), (2, u "ONES"), (0, u "J"), (0, u "HIGH_BITS")] 13

def k2m0 : Method := { name := "<init>", desc := "()V", sig := { parameters := [], returnType := none }, accessFlags := 2, code := none }
def k2c1 : Code := { maxStack := 6, maxLocals := 5, code := prog_1_method_4_code, exceptionTable := #[], attributes := #[] }
def k2m1 : Method := { name := "equalTo", desc := "(JB)J", sig := { parameters := [.long, .byte], returnType := some .long }, accessFlags := 8, code := some k2c1 }
/-- com/example/recordframe/recordframe/cli/ByteWords -/
def k2 : Class := { plain "com/example/recordframe/recordframe/cli/ByteWords" (some 0) with
  accessFlags := 48
  interfaces := #[]
  cf := some (fileOf pool2 10 #[] #[{ accessFlags := 2, nameIndex := 7, descriptorIndex := 8, attributes := #[] }, { accessFlags := 8, nameIndex := 38, descriptorIndex := 39, attributes := #[] }] 48 4 #[] #[{ accessFlags := 24, nameIndex := 61, descriptorIndex := 62, attributes := #[] }, { accessFlags := 26, nameIndex := 13, descriptorIndex := 14, attributes := #[] }, { accessFlags := 26, nameIndex := 65, descriptorIndex := 66, attributes := #[] }, { accessFlags := 26, nameIndex := 67, descriptorIndex := 66, attributes := #[] }])
  fields := #[{ name := "SIZE", type := .int, accessFlags := 24, slot := 0, constantValue := 0 }, { name := "LONGS", type := (.object "java/lang/invoke/VarHandle"), accessFlags := 26, slot := 1, constantValue := 0 }, { name := "ONES", type := .long, accessFlags := 26, slot := 2, constantValue := 0 }, { name := "HIGH_BITS", type := .long, accessFlags := 26, slot := 3, constantValue := 0 }]
  methods := #[k2m0, k2m1]
  instanceTypes := #[]
  staticTypes := #[.int, (.object "java/lang/invoke/VarHandle"), .long, .long]
  resolved := Array.replicate 81 none
  statics := none }

def pool3 : Array CpInfo := pool [(1, u "java/lang/Cloneable"), (0, .class_ 1), (0, u "java/lang/Object"), (0, .class_ 3)] 3

/-- java/lang/Cloneable -/
def k3 : Class := { plain "java/lang/Cloneable" (some 0) with
  accessFlags := 1537
  interfaces := #[]
  cf := some (fileOf pool3 2 #[] #[] 1537 4 #[] #[])
  fields := #[]
  methods := #[]
  instanceTypes := #[]
  staticTypes := #[]
  resolved := Array.replicate 8 none
  statics := none }

def pool4 : Array CpInfo := pool [(1, u "java/io/Serializable"), (0, .class_ 1), (0, u "java/lang/Object"), (0, .class_ 3)] 3

/-- java/io/Serializable -/
def k4 : Class := { plain "java/io/Serializable" (some 0) with
  accessFlags := 1537
  interfaces := #[]
  cf := some (fileOf pool4 2 #[] #[] 1537 4 #[] #[])
  fields := #[]
  methods := #[]
  instanceTypes := #[]
  staticTypes := #[]
  resolved := Array.replicate 8 none
  statics := none }

/-- the primitive byte -/
def k5 : Class := { plain "byte" none with kind := .primitive 'B', accessFlags := 0x411 }
/-- [B -/
def k6 : Class := { plain "[B" (some 0) with kind := .array 5 .byte, interfaces := #[3, 4], accessFlags := 1041 }

/-- the primitive int -/
def k7 : Class := { plain "int" none with kind := .primitive 'I', accessFlags := 0x411 }
/-- [I -/
def k8 : Class := { plain "[I" (some 0) with kind := .array 7 .int, interfaces := #[3, 4], accessFlags := 1041 }

def heap : Heap := #[]
def classes : Array Class := #[k0, k1, k2, k3, k4, k5, k6, k7, k8]
def interned : List (Array UInt16 × Addr) := []
def slotsUsed : Nat := 0
def theMethod : MethodId := ⟨1, 1⟩
def args0 : Array Value := #[.long 5, .int 3, .int 3]
def aboutOver (below : List Frame) : State where
  vm := { classes := classes, interned := interned.toArray }
  heap := heap
  slotsUsed := slotsUsed
  threads := #[{ frames := .invoking theMethod args0 :: below }]
def below0 : List Frame := [.native { method := ⟨0, 0⟩, args := #[] }]
def about1 : State := aboutOver below0
def p0 : Program := .bare "" "" ""
def e0 : Env := launch0.env 0 0 0
theorem w_frames : about1.frames = Frame.invoking theMethod args0 :: below0 := rfl
set_option maxRecDepth 65536 in
theorem w_args : argsFit about1.vm theMethod args0 = true := by decide +kernel
set_option maxRecDepth 65536 in
theorem w_heap : heapFits about1 = true := by decide +kernel
set_option maxRecDepth 65536 in
theorem w_runnable : about1.curStatus? = some .runnable := by decide +kernel
set_option maxRecDepth 65536 in
theorem w_alone : about1.alone = true := by decide +kernel
set_option maxRecDepth 65536 in
theorem w_named : about1.methodNamed? x = some theMethod := by decide +kernel
set_option maxRecDepth 65536 in
theorem w_hears : about1.hears theMethod below0 = true := by decide +kernel
set_option maxRecDepth 65536 in
theorem w_ripe : about1.ripe theMethod args0 below0 = true := by decide +kernel
theorem w_running : about1.status = .running := rfl
set_option maxRecDepth 65536 in
theorem w_room : about1.hasRoom e0.platform room_1 = true :=
  launch0.hasRoom_least _ room_1 (by decide +kernel) (by decide +kernel) (by decide +kernel) (by decide +kernel) (by decide +kernel) (by decide +kernel)
theorem allAtoms_all (ts : List Jvm.Cond) (a : Array Jvm.Value) (st : Jvm.State) : (allAtoms ts).before a st = ts.all (fun c => c.before a st) := by
  induction ts with
  | nil => rfl
  | cons c t ih =>
    show (Jvm.Cond.and c (allAtoms t)).before a st = _
    rw [Jvm.Cond.before_and, ih, List.all_cons]
def words1 : List Jvm.Cond := Jvm.Cond.code x code maxLocals ret :: tables_1
/-- a 'code' word, met by the world's own term for the bytes: nothing is compared byte by byte -/
theorem code_word {y : MethodName} {bytes : ByteArray} {mx : Nat} {rt : Option FieldType} {a : Array Value} {s : State} {m : MethodId} {meth : Method} {c : Code} (h1 : s.methodNamed? y = some m) (h2 : s.vm.method? m = some meth) (h3 : meth.code = some c) (h4 : c.code = bytes)
    (h5 : (c.maxLocals == mx && c.exceptionTable.isEmpty && decide (c.maxStack ≤ mostOperands) && decide (meth.sig.returnType = rt) && !meth.locks && decide (parseMethodDescriptor y.desc = some meth.sig)) = true) : (Jvm.Cond.code y bytes mx rt).before a s = true := by
  simp only [Bool.and_eq_true, beq_iff_eq, Bool.not_eq_true', decide_eq_true_eq] at h5
  obtain ⟨⟨⟨⟨⟨g1, g2⟩, g3⟩, g4⟩, g5⟩, g6⟩ := h5
  simp [Cond.before, Cond.holds, Cond.value, h1, h2, h3, h4, g1, g2, g3, g4, g5, g6]
def isCode : Jvm.Cond → Bool
  | .code _ _ _ _ => true
  | _ => false
theorem all_split {L : List Jvm.Cond} {P : Jvm.Cond → Bool} (h1 : L.all (fun c => isCode c || P c) = true) (h2 : ∀ c ∈ L.filter isCode, P c = true) : L.all P = true := by
  refine List.all_eq_true.mpr fun c hc => ?_
  have h := List.all_eq_true.mp h1 c hc
  rcases Bool.eq_false_or_eq_true (isCode c) with hi | hi
  · exact h2 c (List.mem_filter.mpr ⟨hc, hi⟩)
  · simpa [hi] using h
set_option maxRecDepth 65536 in
theorem w_c0 : (Jvm.Cond.code x code maxLocals ret).before args0 about1 = true := code_word (m := ⟨1, 1⟩) (meth := k1m1) (c := k1c1) (by decide +kernel) rfl rfl rfl (by decide +kernel)
set_option maxRecDepth 65536 in
theorem w_c1 : (Jvm.Cond.code ({ cls := "com/example/recordframe/recordframe/cli/ByteWordsEqualToPinLaw", name := "place", desc := "(JIII)J" } : Jvm.MethodName) method_3_code (7 : Nat) (Option.some Jvm.ClassFile.FieldType.long)).before args0 about1 = true := code_word (m := ⟨1, 2⟩) (meth := k1m2) (c := k1c2) (by decide +kernel) rfl rfl rfl (by decide +kernel)
set_option maxRecDepth 65536 in
theorem w_c2 : (Jvm.Cond.code ({ cls := "com/example/recordframe/recordframe/cli/ByteWords", name := "equalTo", desc := "(JB)J" } : Jvm.MethodName) prog_1_method_4_code (5 : Nat) (Option.some Jvm.ClassFile.FieldType.long)).before args0 about1 = true := code_word (m := ⟨2, 1⟩) (meth := k2m1) (c := k2c1) (by decide +kernel) rfl rfl rfl (by decide +kernel)
set_option maxRecDepth 65536 in
theorem w_c3 : (Jvm.Cond.code ({ cls := "com/example/recordframe/recordframe/cli/ByteWordsEqualToPinLaw", name := "eq", desc := "(JII)J" } : Jvm.MethodName) method_4_code (5 : Nat) (Option.some Jvm.ClassFile.FieldType.long)).before args0 about1 = true := code_word (m := ⟨1, 3⟩) (meth := k1m3) (c := k1c3) (by decide +kernel) rfl rfl rfl (by decide +kernel)
def codes1 : List Jvm.Cond := [Jvm.Cond.code x code maxLocals ret, Jvm.Cond.code ({ cls := "com/example/recordframe/recordframe/cli/ByteWordsEqualToPinLaw", name := "place", desc := "(JIII)J" } : Jvm.MethodName) method_3_code (7 : Nat) (Option.some Jvm.ClassFile.FieldType.long), Jvm.Cond.code ({ cls := "com/example/recordframe/recordframe/cli/ByteWords", name := "equalTo", desc := "(JB)J" } : Jvm.MethodName) prog_1_method_4_code (5 : Nat) (Option.some Jvm.ClassFile.FieldType.long), Jvm.Cond.code ({ cls := "com/example/recordframe/recordframe/cli/ByteWordsEqualToPinLaw", name := "eq", desc := "(JII)J" } : Jvm.MethodName) method_4_code (5 : Nat) (Option.some Jvm.ClassFile.FieldType.long)]
set_option maxRecDepth 65536 in
theorem codes_eq : words1.filter isCode = codes1 := rfl
theorem w_codes : ∀ c ∈ words1.filter isCode, c.before args0 about1 = true := by
  rw [codes_eq]
  intro c hc
  simp only [codes1, List.mem_cons, List.not_mem_nil, or_false] at hc
  rcases hc with rfl | rfl | rfl | rfl
  · exact w_c0
  · exact w_c1
  · exact w_c2
  · exact w_c3
set_option maxRecDepth 65536 in
theorem w_t1 : words1.all (fun c => isCode c || c.before args0 about1) = true := by decide +kernel
theorem w_tables : (allAtoms (Jvm.Cond.code x code maxLocals ret :: tables_1)).before args0 about1 = true := by
  rw [allAtoms_all]
  show words1.all (fun c => c.before args0 about1) = true
  refine all_split ?_ w_codes
  rw [w_t1]
set_option maxRecDepth 65536 in
theorem w_case : (Jvm.Cond.and given_1 narrow_1).before args0 about1 = true := by decide +kernel
theorem w_applies : (headSpec (Jvm.Cond.code x code maxLocals ret :: tables_1) room_1).applies x e0.platform about1 = true :=
  (Spec.applies_iff w_frames).mpr ⟨w_running, w_runnable, w_alone, w_named, w_hears, w_ripe, w_room, w_tables⟩
theorem atStart : AtStart classFile x code maxLocals ret World_1 tables_1 room_1 Calls_1 rest_1 Pre_1 launch0 p0 e0 about1 theMethod args0 below0 :=
  ⟨lists_1, trivial, launch0.admits_env _ _ _, launch0.least_env, fairChoices_fair.cas, fairChoices_fair.clock, w_frames, w_args, w_heap, w_applies, trivial, trivial, w_case⟩
end start1
theorem witness_1 : WitnessClaimed_1 := ⟨start1.p0, start1.e0, start1.about1, start1.theMethod, start1.args0, start1.below0, start1.atStart⟩
end Jvm.Pilot.@@N@@
