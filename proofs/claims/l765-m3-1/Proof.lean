import JvmDerived
import JvmDerived.Pilot.@@N@@Statement
import JvmDerived.Pilot.@@N@@Code
set_option linter.unusedVariables false
set_option linter.unusedSimpArgs false
@@BLOCK:NumsL.lean.txt@@
namespace Jvm.RoadKit
open Sem ClassFile Op Lib Jvm.Stand Jvm.Free Jvm.LawKit
section New
variable {p : Program} {l : Launch} {e : Env} {R : Room} {s : State} {m : MethodId} {args : Array Value} {below : List Frame} {meth : Method} {c : Code} {T : State} {locs : List Loc} {cells slots : Nat}
theorem retI (X : Stand p l e R s m args below meth c T locs cells slots) (hx : p.tables.exec = Jvm.exec) {pc : Nat} {Ls : Array Slot} {z : Int32} {rest : List Value} (hret : meth.sig.returnType = some .int) (hd : decode c.code pc = .ok (.ireturn, 1)) {fs : List Frame}
    (hl : ∀ (f : JFrame) (acts : List Action), f.method = m → f.locked = none → f.entered = [] → (doReturn e (T.setTop f) acts (some (.int z))).1 = T.setFrames fs) : Steps p.tables e below (T.setTop (mkF m pc Ls (.int z :: rest))) (T.setFrames fs) := by
  have hm' : T.vm.method? m = some meth := X.method'
  have hn : narrow .int (.int z) = .int z := rfl
  show Steps p.tables e below (T.setTop { method := m, pc := pc, locals := Ls, stack := _ :: rest, locked := none }) _
  jvm_step X.here [X.here.top, hx, hd, hm', hret, hn]
  first | (intro acts; rw [hl _ acts rfl rfl rfl]) | rw [hl _ _ rfl rfl rfl]
  exact Steps.refl _
end New
end Jvm.RoadKit
/- laws to paste: Road.backV (cut by pick.py; bodies as the Statement names them) -/
namespace Jvm.Pilot.@@N@@
namespace StrChars
open Jvm Sem ClassFile Op Lib Jvm.Stand Jvm.Free.XT Jvm.Free.ALB Jvm.Free.JM Jvm.Free
open Jvm.Lib.Cold (StaticIs)
/-- a char array whose places are chars -/
def Ch (a : Addr) (A : Cell) (U : State) : Prop := Arr .char a A U ∧ Typed .char A
theorem Ch.mv {a : Addr} {A : Cell} {U U' : State} (h : Ch a A U) (hal : U.vm.Alike U'.vm) (hh : U'.heap = U.heap) : Ch a A U' := ⟨h.1.mv hal hh, h.2⟩
theorem Ch.keep {a : Addr} {A : Cell} {U U' : State} (h : Ch a A U) (hal : U.vm.Alike U'.vm) (hk : U'.heap[a]? = some A) : Ch a A U' := ⟨h.1.keep hal hk, h.2⟩
/-- what place i of a char[]'s cell holds -/
def cv (A : Cell) (i : Nat) : Int32 := match A.slots[i]? with | some (.int x) => x | _ => 0
theorem Ch.get {a : Addr} {A : Cell} {U : State} (h : Ch a A U) {i : Nat} (hi : i < A.slots.size) : A.slots[i]? = some (.int (cv A i)) := by
  have e := Array.getElem?_eq_getElem hi
  have f := h.2 i _ e
  unfold cv; rw [e]
  generalize A.slots[i] = v at f
  cases v <;> simp [fits] at f ⊢
/-- the byte that i2b leaves of a char -/
def lo8 (x : Int32) : Int32 := x.toInt8.toInt32
theorem fits_lo8 (y : Int32) : fits .byte (.int (lo8 y)) = true := by
  have h1 := y.toInt8.le_toInt
  have h2 := y.toInt8.toInt_lt
  simp only [lo8, fits, Bool.and_eq_true, decide_eq_true_eq, Int32.le_iff_toInt_le, Int8.toInt_toInt32, show (-128 : Int32).toInt = -128 from by decide, show (127 : Int32).toInt = 127 from by decide]
  omega
/-- A' is A but that each place j of lo .. hi - 1 holds f j -/
def Laid (A A' : Cell) (lo hi : Nat) (f : Nat → Value) : Prop := A'.cls = A.cls ∧ A'.vm = A.vm ∧ A'.slots.size = A.slots.size ∧ ∀ i, A'.slots[i]? = if lo ≤ i ∧ i < hi then some (f i) else A.slots[i]?
theorem Laid.zero (A : Cell) (lo : Nat) (f : Nat → Value) : Laid A A lo (lo + 0) f := ⟨rfl, rfl, rfl, fun i => by rw [if_neg (by omega)]⟩
theorem Laid.step {A Ak : Cell} {lo k : Nat} {f : Nat → Value} {v : Value} (h : Laid A Ak lo k f) (hlo : lo ≤ k) (hk : k < Ak.slots.size) (hv : v = f k) : Laid A (Ak.setSlot k v) lo (k + 1) f := by
  refine ⟨h.1, h.2.1, by simpa [Cell.setSlot] using h.2.2.1, fun i => ?_⟩
  by_cases e : k = i
  · subst e; rw [Cell.slots_setSlot_self v hk, if_pos (by omega), hv]
  · rw [Cell.slots_setSlot_ne v e, h.2.2.2 i]
    by_cases q : lo ≤ i ∧ i < k
    · rw [if_pos q, if_pos (by omega)]
    · rw [if_neg q, if_neg (by omega)]
def U16 : String := "java/lang/StringUTF16"
namespace Cmp5
def yN : MethodName := ⟨"java/lang/StringUTF16", "compress", "([CI[BII)I"⟩
abbrev yB : ByteArray := jdk_52_method_21_code
theorem d0 : decode yB 0 = .ok (.iconst 0, 1) := by decide +kernel
theorem d1 : decode yB 1 = .ok (.istore 5, 2) := by decide +kernel
theorem d3 : decode yB 3 = .ok (.iload 5, 2) := by decide +kernel
theorem d5 : decode yB 5 = .ok (.iload 4, 2) := by decide +kernel
theorem d7 : decode yB 7 = .ok (.if_icmp (.ge) 37, 3) := by decide +kernel
theorem d10 : decode yB 10 = .ok (.aload_n 0, 1) := by decide +kernel
theorem d11 : decode yB 11 = .ok (.iload_n 1, 1) := by decide +kernel
theorem d12 : decode yB 12 = .ok (.caload, 1) := by decide +kernel
theorem d13 : decode yB 13 = .ok (.istore 6, 2) := by decide +kernel
theorem d15 : decode yB 15 = .ok (.iload 6, 2) := by decide +kernel
theorem d17 : decode yB 17 = .ok (.sipush 255, 3) := by decide +kernel
theorem d20 : decode yB 20 = .ok (.if_icmp (.le) 6, 3) := by decide +kernel
theorem d26 : decode yB 26 = .ok (.aload_n 2, 1) := by decide +kernel
theorem d27 : decode yB 27 = .ok (.iload_n 3, 1) := by decide +kernel
theorem d28 : decode yB 28 = .ok (.iload 6, 2) := by decide +kernel
theorem d30 : decode yB 30 = .ok (.i2b, 1) := by decide +kernel
theorem d31 : decode yB 31 = .ok (.bastore, 1) := by decide +kernel
theorem d32 : decode yB 32 = .ok (.iinc 1 1, 3) := by decide +kernel
theorem d35 : decode yB 35 = .ok (.iinc 3 1, 3) := by decide +kernel
theorem d38 : decode yB 38 = .ok (.iinc 5 1, 3) := by decide +kernel
theorem d41 : decode yB 41 = .ok (.goto (-38), 3) := by decide +kernel
theorem d44 : decode yB 44 = .ok (.iload 4, 2) := by decide +kernel
theorem d46 : decode yB 46 = .ok (.ireturn, 1) := by decide +kernel
def site : List Cond := []
def tab : Cond := tabOf yN yB 7 (some .int) site
def P (b : Addr) (A : Cell) (d : Addr) (B : Cell) (o q len : Nat) (args : Array Value) (s : State) : Prop := args = #[.ref b, .int (Int32.ofNat o), .ref d, .int (Int32.ofNat q), .int (Int32.ofNat len)] ∧ Ch b A s ∧ Arr .byte d B s ∧ b ≠ d ∧ o + len ≤ A.slots.size ∧ q + len ≤ B.slots.size ∧ ∀ i, i < len → ¬ 255 < cv A (o + i)
def E (b : Addr) (A : Cell) (d : Addr) (B : Cell) (o q len : Nat) (r : Option Value) (s u : State) : Prop := r = some (.int (Int32.ofNat len)) ∧ ∃ B', Put d B' s u ∧ Laid B B' q (q + len) (fun j => Value.int (lo8 (cv A (o + (j - q)))))
/-- no char of the range above 255: len; the places written hold each char's low byte -/
theorem law (l : Launch) (b : Addr) (A : Cell) (d : Addr) (B : Cell) (o q len : Nat) : Law l yN 5 5 0 0 yB 7 (some .int) site (P b A d B o q len) (E b A d B o q len) (copyLocs d q len) 0 0 := by
  refine Law.of_walk (plainFor_of_name (by decide +kernel)) (by decide +kernel) (by decide +kernel) (by decide) (fun _ _ h => by rw [h.1]; rfl) (fun _ U U' hal hh h => ⟨h.1, h.2.1.mv hal hh, h.2.2.1.mv hal hh, h.2.2.2⟩) (fun r U U' V V' h1 hal h2 h => ⟨h.1, h.2.elim fun B' q => ⟨B', q.1.mv h1 h2, q.2⟩⟩) ?_
  intro p e s m args below meth c s₁ X0 hexec hbytes hml hret hlk hnm hown hh0 W hP
  obtain ⟨rfl, hA, hB, hne, l1, l2, hp⟩ := hP
  have c1 : Steps p.tables e below (s₁.setTop (entryFrame m #[.ref b, .int (Int32.ofNat o), .ref d, .int (Int32.ofNat q), .int (Int32.ofNat len)] 7)) (s₁.setTop (mkF m 0 #[.val (.ref b), .val (.int (Int32.ofNat o)), .val (.ref d), .val (.int (Int32.ofNat q)), .val (.int (Int32.ofNat len)), .unset, .unset] [])) := entry rfl
  have hA0 := hA.1.mv X0.warmed.alike hh0
  have hB0 := hB.mv X0.warmed.alike hh0
  have a31 := hA.1.2.2.2
  have c2 : Steps p.tables e below (s₁.setTop (entryFrame m #[.ref b, .int (Int32.ofNat o), .ref d, .int (Int32.ofNat q), .int (Int32.ofNat len)] 7)) (s₁.setTop (mkF m 3 #[.val (.ref b), .val (.int (Int32.ofNat o)), .val (.ref d), .val (.int (Int32.ofNat q)), .val (.int (Int32.ofNat len)), .val (.int 0), .unset] [])) := c1.trans (by
    refine iconstV X0.here hexec rfl 0 (hb hbytes d0) (by decide) ?_
    refine XS.istore X0.here hexec rfl (hb hbytes d1) rfl rfl ?_
    exact Steps.refl _)
  have loop : ∀ (r i : Nat), i + r = len → ∀ (z : Slot), (z = .unset ∨ ∃ w, z = .val w ∧ w.category = 1) → ∀ (Tl : State) (Bk : Cell), Stand p l e { frames := 0, locals := 0, cells := 0, slots := 0 } s m #[.ref b, .int (Int32.ofNat o), .ref d, .int (Int32.ofNat q), .int (Int32.ofNat len)] below meth c Tl ([] ++ copyLocs d q i) 0 0 → Put d Bk s₁ Tl → Laid B Bk q (q + i) (fun j => Value.int (lo8 (cv A (o + (j - q))))) →
      Steps p.tables e below (s₁.setTop (entryFrame m #[.ref b, .int (Int32.ofNat o), .ref d, .int (Int32.ofNat q), .int (Int32.ofNat len)] 7)) (Tl.setTop (mkF m 3 #[.val (.ref b), .val (.int (Int32.ofNat (o + i))), .val (.ref d), .val (.int (Int32.ofNat (q + i))), .val (.int (Int32.ofNat len)), .val (.int (Int32.ofNat i)), z] [])) → ∃ (T' : State) (B' : Cell) (z' : Slot), Stand p l e { frames := 0, locals := 0, cells := 0, slots := 0 } s m #[.ref b, .int (Int32.ofNat o), .ref d, .int (Int32.ofNat q), .int (Int32.ofNat len)] below meth c T' ([] ++ copyLocs d q len) 0 0 ∧ Put d B' s₁ T' ∧ Laid B B' q (q + len) (fun j => Value.int (lo8 (cv A (o + (j - q))))) ∧
      Steps p.tables e below (s₁.setTop (entryFrame m #[.ref b, .int (Int32.ofNat o), .ref d, .int (Int32.ofNat q), .int (Int32.ofNat len)] 7)) (T'.setTop (mkF m 3 #[.val (.ref b), .val (.int (Int32.ofNat (o + len))), .val (.ref d), .val (.int (Int32.ofNat (q + len))), .val (.int (Int32.ofNat len)), .val (.int (Int32.ofNat len)), z'] [])) := by
    intro r
    induction r with
    | zero =>
      intro i hi z hz Tl Bk Xl pl fl cl
      have hil : i = len := by omega
      rw [hil] at Xl fl cl
      exact ⟨Tl, Bk, z, Xl, pl, fl, cl⟩
    | succ r ih =>
      intro i hi z hz Tl Bk Xl pl fl cl
      have all := X0.warmed.alike.symm.trans Xl.warmed.alike
      have hAl := hA0.keep all (pl.other hne hA0.1)
      have hBk := hB0.like all pl.1 fl.1 fl.2.1 fl.2.2.1
      have hlt : q + i < Bk.slots.size := by rw [fl.2.2.1]; omega
      have c3 : Steps p.tables e below (s₁.setTop (entryFrame m #[.ref b, .int (Int32.ofNat o), .ref d, .int (Int32.ofNat q), .int (Int32.ofNat len)] 7)) (Tl.setTop (mkF m 12 #[.val (.ref b), .val (.int (Int32.ofNat (o + i))), .val (.ref d), .val (.int (Int32.ofNat (q + i))), .val (.int (Int32.ofNat len)), .val (.int (Int32.ofNat i)), z] [.int (Int32.ofNat (o + i)), .ref b])) := cl.trans (by
        refine XS.iload Xl.here hexec rfl (hb hbytes d3) rfl ?_
        refine XS.iload Xl.here hexec rfl (hb hbytes d5) rfl ?_
        refine XS.icmpNo Xl.here hexec rfl (hb hbytes d7) rfl (ii_ge_f (lt32 (by omega) (by omega))) ?_
        refine XS.aloadN Xl.here hexec rfl (hb hbytes d10) rfl rfl ?_
        refine XS.iloadN Xl.here hexec rfl (hb hbytes d11) rfl ?_
        exact Steps.refl _)
      have c4 : Steps p.tables e below (s₁.setTop (entryFrame m #[.ref b, .int (Int32.ofNat o), .ref d, .int (Int32.ofNat q), .int (Int32.ofNat len)] 7)) (Tl.setTop (mkF m 13 #[.val (.ref b), .val (.int (Int32.ofNat (o + i))), .val (.ref d), .val (.int (Int32.ofNat (q + i))), .val (.int (Int32.ofNat len)), .val (.int (Int32.ofNat i)), z] [.int (cv A (o + i))])) := c3.trans (by
        refine Xl.aget hexec hAl rfl (hA.get (i := o + i) (by omega)) rfl rfl (hb hbytes d12) ?_
        exact Steps.refl _)
      have c5 : Steps p.tables e below (s₁.setTop (entryFrame m #[.ref b, .int (Int32.ofNat o), .ref d, .int (Int32.ofNat q), .int (Int32.ofNat len)] 7)) (Tl.setTop (mkF m 15 #[.val (.ref b), .val (.int (Int32.ofNat (o + i))), .val (.ref d), .val (.int (Int32.ofNat (q + i))), .val (.int (Int32.ofNat len)), .val (.int (Int32.ofNat i)), .val (.int (cv A (o + i)))] [])) := c4.trans (by
        refine XS.istoreS Xl.here hexec rfl (hb hbytes d13) rfl rfl hz ?_
        exact Steps.refl _)
      have c6 : Steps p.tables e below (s₁.setTop (entryFrame m #[.ref b, .int (Int32.ofNat o), .ref d, .int (Int32.ofNat q), .int (Int32.ofNat len)] 7)) (Tl.setTop (mkF m 31 #[.val (.ref b), .val (.int (Int32.ofNat (o + i))), .val (.ref d), .val (.int (Int32.ofNat (q + i))), .val (.int (Int32.ofNat len)), .val (.int (Int32.ofNat i)), .val (.int (cv A (o + i)))] [.int (lo8 (cv A (o + i))), .int (Int32.ofNat (q + i)), .ref d])) := c5.trans (by
        refine XS.iload Xl.here hexec rfl (hb hbytes d15) rfl ?_
        refine sipushV Xl.here hexec rfl 255 (hb hbytes d17) (by decide) ?_
        refine XS.icmpYes Xl.here hexec rfl (pc0 := 20) rfl (hb hbytes d20) rfl (ii_le_t (hp i (by omega))) (by decide) rfl ?_
        refine XS.aloadN Xl.here hexec rfl (hb hbytes d26) rfl rfl ?_
        refine XS.iloadN Xl.here hexec rfl (hb hbytes d27) rfl ?_
        refine XS.iload Xl.here hexec rfl (hb hbytes d28) rfl ?_
        refine i2b Xl.here hexec rfl (hb hbytes d30) rfl ?_
        exact Steps.refl _)
      obtain ⟨T7, X7, p7, st7⟩ := Xl.aput hexec hBk rfl hlt rfl (fits_lo8 (cv A (o + i))) (g := (mkF m 31 #[.val (.ref b), .val (.int (Int32.ofNat (o + i))), .val (.ref d), .val (.int (Int32.ofNat (q + i))), .val (.int (Int32.ofNat len)), .val (.int (Int32.ofNat i)), .val (.int (cv A (o + i)))] [.int (lo8 (cv A (o + i))), .int (Int32.ofNat (q + i)), .ref d])) rfl (rest := []) rfl (hb hbytes d31)
      have c8 : Steps p.tables e below (s₁.setTop (entryFrame m #[.ref b, .int (Int32.ofNat o), .ref d, .int (Int32.ofNat q), .int (Int32.ofNat len)] 7)) (T7.setTop (mkF m 32 #[.val (.ref b), .val (.int (Int32.ofNat (o + i))), .val (.ref d), .val (.int (Int32.ofNat (q + i))), .val (.int (Int32.ofNat len)), .val (.int (Int32.ofNat i)), .val (.int (cv A (o + i)))] [])) := c6.trans (st7 _ (Steps.refl _))
      have c9 : Steps p.tables e below (s₁.setTop (entryFrame m #[.ref b, .int (Int32.ofNat o), .ref d, .int (Int32.ofNat q), .int (Int32.ofNat len)] 7)) (T7.setTop (mkF m 3 #[.val (.ref b), .val (.int (Int32.ofNat (o + i) + 1)), .val (.ref d), .val (.int (Int32.ofNat (q + i) + 1)), .val (.int (Int32.ofNat len)), .val (.int (Int32.ofNat i + 1)), .val (.int (cv A (o + i)))] [])) := c8.trans (by
        refine iincV X7.here hexec rfl 1 (hb hbytes d32) (by decide) rfl rfl ?_
        refine iincV X7.here hexec rfl 1 (hb hbytes d35) (by decide) rfl rfl ?_
        refine iincV X7.here hexec rfl 1 (hb hbytes d38) (by decide) rfl rfl ?_
        refine XS.goto X7.here hexec rfl (pc0 := 41) rfl (hb hbytes d41) (by decide) rfl ?_
        exact Steps.refl _)
      have c10 : Steps p.tables e below (s₁.setTop (entryFrame m #[.ref b, .int (Int32.ofNat o), .ref d, .int (Int32.ofNat q), .int (Int32.ofNat len)] 7)) (T7.setTop (mkF m 3 #[.val (.ref b), .val (.int (Int32.ofNat (o + (i + 1)))), .val (.ref d), .val (.int (Int32.ofNat (q + (i + 1)))), .val (.int (Int32.ofNat len)), .val (.int (Int32.ofNat (i + 1))), .val (.int (cv A (o + i)))] [])) := by
        have := c9
        rw [succ32, succ32, succ32] at this
        exact this
      exact ih (i + 1) (by omega) _ (Or.inr ⟨_, rfl, rfl⟩) T7 _ (by rw [copyLocs_step, ← List.append_assoc]; exact X7) (pl.trans p7) (fl.step (by omega) hlt (by simp)) c10
  obtain ⟨T9, B9, z9, X9, p9, f9, g9⟩ := loop len 0 (by omega) .unset (Or.inl rfl) s₁ B (by simpa [copyLocs] using X0) ⟨hB0.1, fun _ _ => rfl, rfl⟩ (Laid.zero _ _ _) c2
  have c11 : Steps p.tables e below (s₁.setTop (entryFrame m #[.ref b, .int (Int32.ofNat o), .ref d, .int (Int32.ofNat q), .int (Int32.ofNat len)] 7)) (T9.setTop (mkF m 46 #[.val (.ref b), .val (.int (Int32.ofNat (o + len))), .val (.ref d), .val (.int (Int32.ofNat (q + len))), .val (.int (Int32.ofNat len)), .val (.int (Int32.ofNat len)), z9] [.int (Int32.ofNat len)])) := g9.trans (by
    refine XS.iload X9.here hexec rfl (hb hbytes d3) rfl ?_
    refine XS.iload X9.here hexec rfl (hb hbytes d5) rfl ?_
    refine XS.icmpYes X9.here hexec rfl (pc0 := 7) rfl (hb hbytes d7) rfl (ii_ge_t (nlt32 (by omega) (Nat.le_refl _))) (by decide) rfl ?_
    refine XS.iload X9.here hexec rfl (hb hbytes d44) rfl ?_
    exact Steps.refl _)
  exact ⟨T9, some (.int (Int32.ofNat len)), _, _, _, X9, by simp, rfl, rfl, (fun h => by cases h), ⟨rfl, B9, p9.from hh0, f9⟩, fun fs hl => c11.trans (X9.ireturnOut hexec hret rfl (Or.inl rfl) (hb hbytes d46) hl)⟩
end Cmp5
namespace Cmp3
def yN : MethodName := ⟨"java/lang/StringUTF16", "compress", "([CII)[B"⟩
abbrev yB : ByteArray := jdk_52_method_16_code
theorem d0 : decode yB 0 = .ok (.iload_n 2, 1) := by decide +kernel
theorem d1 : decode yB 1 = .ok (.newarray .byte, 2) := by decide +kernel
theorem d3 : decode yB 3 = .ok (.astore_n 3, 1) := by decide +kernel
theorem d4 : decode yB 4 = .ok (.aload_n 0, 1) := by decide +kernel
theorem d5 : decode yB 5 = .ok (.iload_n 1, 1) := by decide +kernel
theorem d6 : decode yB 6 = .ok (.aload_n 3, 1) := by decide +kernel
theorem d7 : decode yB 7 = .ok (.iconst 0, 1) := by decide +kernel
theorem d8 : decode yB 8 = .ok (.iload_n 2, 1) := by decide +kernel
theorem d9 : decode yB 9 = .ok (.invokestatic 115, 3) := by decide +kernel
theorem d12 : decode yB 12 = .ok (.istore 4, 2) := by decide +kernel
theorem d14 : decode yB 14 = .ok (.iload 4, 2) := by decide +kernel
theorem d16 : decode yB 16 = .ok (.iload_n 2, 1) := by decide +kernel
theorem d17 : decode yB 17 = .ok (.if_icmp (.eq) 40, 3) := by decide +kernel
theorem d57 : decode yB 57 = .ok (.aload_n 3, 1) := by decide +kernel
theorem d58 : decode yB 58 = .ok (.areturn, 1) := by decide +kernel
def site : List Cond := [.arrayClass .byte, Cmp5.tab] ++ staticW U16 115 Cmp5.yN
def tab : Cond := tabOf yN yB 6 (some (.array .byte)) site
def P (b : Addr) (A : Cell) (o len : Nat) (args : Array Value) (s : State) : Prop := args = #[.ref b, .int (Int32.ofNat o), .int (Int32.ofNat len)] ∧ Ch b A s ∧ o + len ≤ A.slots.size ∧ len ≤ 536870912 ∧ ∀ i, i < len → ¬ 255 < cv A (o + i)
def E (b : Addr) (A : Cell) (o len : Nat) (r : Option Value) (s u : State) : Prop := NewArr .byte "[B" len (fun j => .int (lo8 (cv A (o + j)))) r s u ∧ u.heap.size = s.heap.size + 1
/-- no char of the range above 255: a new byte[] of their low bytes -/
theorem law (l : Launch) (b : Addr) (A : Cell) (o len : Nat) : Law l yN 3 3 1 18 yB 6 (some (.array .byte)) site (P b A o len) (E b A o len) [] 1 len := by
  refine Law.of_walk (plainFor_of_name (by decide +kernel)) (by decide +kernel) (by decide +kernel) (by decide) (fun _ _ h => by rw [h.1]; rfl) (fun _ U U' hal hh h => ⟨h.1, h.2.1.mv hal hh, h.2.2⟩) (fun r U U' V V' h1 hal h2 h => ⟨NewArr.mv r U U' V V' h1 hal h2 h.1, by rw [h1, h2]; exact h.2⟩) ?_
  intro p e s m args below meth c s₁ X0 hexec hbytes hml hret hlk hnm hown hh0 W hP
  obtain ⟨rfl, hA, l1, l2, hp⟩ := hP
  have a31 := hA.1.2.2.2
  have c1 : Steps p.tables e below (s₁.setTop (entryFrame m #[.ref b, .int (Int32.ofNat o), .int (Int32.ofNat len)] 6)) (s₁.setTop (mkF m 0 #[.val (.ref b), .val (.int (Int32.ofNat o)), .val (.int (Int32.ofNat len)), .unset, .unset, .unset] [])) := entry rfl
  have c2 : Steps p.tables e below (s₁.setTop (entryFrame m #[.ref b, .int (Int32.ofNat o), .int (Int32.ofNat len)] 6)) (s₁.setTop (mkF m 1 #[.val (.ref b), .val (.int (Int32.ofNat o)), .val (.int (Int32.ofNat len)), .unset, .unset, .unset] [.int (Int32.ofNat len)])) := c1.trans (by
    refine XS.iloadN X0.here hexec rfl (hb hbytes d0) rfl ?_
    exact Steps.refl _)
  obtain ⟨T3, B3, X3, ba3, bs3, bv3, bh3, bf3, st3⟩ := X0.anew hexec (atype := .byte) (wk W (.arrayClass .byte)) rfl (by show len * 1 ≤ _; omega) (by omega) (g := (mkF m 1 #[.val (.ref b), .val (.int (Int32.ofNat o)), .val (.int (Int32.ofNat len)), .unset, .unset, .unset] [.int (Int32.ofNat len)])) rfl (hb hbytes d1) (rest := []) rfl (Nat.le_refl _) (by show 0 + len ≤ len; omega)
  rw [hh0] at ba3 st3
  have kp3 : XT.Kept s T3 := (XT.Kept.of_eq hh0).push bh3
  have hA3 := hA.keep X3.warmed.alike (kp3 _ _ hA.1.1)
  have hne : b ≠ s.heap.size := hA.1.ne
  have c4 : Steps p.tables e below (s₁.setTop (entryFrame m #[.ref b, .int (Int32.ofNat o), .int (Int32.ofNat len)] 6)) (T3.setTop (mkF m 3 #[.val (.ref b), .val (.int (Int32.ofNat o)), .val (.int (Int32.ofNat len)), .unset, .unset, .unset] [.ref s.heap.size])) := c2.trans (st3 _ (Steps.refl _))
  have c5 : Steps p.tables e below (s₁.setTop (entryFrame m #[.ref b, .int (Int32.ofNat o), .int (Int32.ofNat len)] 6)) (T3.setTop (mkF m 9 #[.val (.ref b), .val (.int (Int32.ofNat o)), .val (.int (Int32.ofNat len)), .val (.ref s.heap.size), .unset, .unset] [.int (Int32.ofNat len), .int 0, .ref s.heap.size, .int (Int32.ofNat o), .ref b])) := c4.trans (by
    refine XS.astoreN X3.here hexec rfl (hb hbytes d3) rfl rfl rfl ?_
    refine XS.aloadN X3.here hexec rfl (hb hbytes d4) rfl rfl ?_
    refine XS.iloadN X3.here hexec rfl (hb hbytes d5) rfl ?_
    refine XS.aloadN X3.here hexec rfl (hb hbytes d6) rfl rfl ?_
    refine iconstV X3.here hexec rfl 0 (hb hbytes d7) (by decide) ?_
    refine XS.iloadN X3.here hexec rfl (hb hbytes d8) rfl ?_
    exact Steps.refl _)
  obtain ⟨v6, T6, X6, E6, g6⟩ := X3.callS hexec (Cmp5.law l b A s.heap.size B3 o 0 len) hown (wks W (staticW U16 115 Cmp5.yN)) (wk W Cmp5.tab) (W := 0) (Nat.le_of_ble_eq_true rfl) (Nat.le_of_ble_eq_true rfl) (Nat.le_refl _) (by show 0 + len + 0 ≤ len; omega) (g := (mkF m 9 #[.val (.ref b), .val (.int (Int32.ofNat o)), .val (.int (Int32.ofNat len)), .val (.ref s.heap.size), .unset, .unset] [.int (Int32.ofNat len), .int (Int32.ofNat 0), .ref s.heap.size, .int (Int32.ofNat o), .ref b])) rfl (by rw [hml]; rfl) c5 (argsL := [.ref b, .int (Int32.ofNat o), .ref s.heap.size, .int (Int32.ofNat 0), .int (Int32.ofNat len)]) (rest := []) rfl rfl (by show 2 * 0 + 0 ≤ _; decide) (hb hbytes d9) (⟨rfl, hA3, ba3, hne, l1, by rw [bs3]; simp, hp⟩)
  obtain ⟨rfl, B6, p6, f6⟩ := E6
  have c7 : Steps p.tables e below (s₁.setTop (entryFrame m #[.ref b, .int (Int32.ofNat o), .int (Int32.ofNat len)] 6)) (T6.setTop (mkF m 12 #[.val (.ref b), .val (.int (Int32.ofNat o)), .val (.int (Int32.ofNat len)), .val (.ref s.heap.size), .unset, .unset] [.int (Int32.ofNat len)])) := g6
  have c8 : Steps p.tables e below (s₁.setTop (entryFrame m #[.ref b, .int (Int32.ofNat o), .int (Int32.ofNat len)] 6)) (T6.setTop (mkF m 58 #[.val (.ref b), .val (.int (Int32.ofNat o)), .val (.int (Int32.ofNat len)), .val (.ref s.heap.size), .val (.int (Int32.ofNat len)), .unset] [.ref s.heap.size])) := c7.trans (by
    refine XS.istore X6.here hexec rfl (hb hbytes d12) rfl rfl ?_
    refine XS.iload X6.here hexec rfl (hb hbytes d14) rfl ?_
    refine XS.iloadN X6.here hexec rfl (hb hbytes d16) rfl ?_
    refine XS.icmpYes X6.here hexec rfl (pc0 := 17) rfl (hb hbytes d17) rfl (ii_eq_t rfl) (by decide) rfl ?_
    refine XS.aloadN X6.here hexec rfl (hb hbytes d57) rfl rfl ?_
    exact Steps.refl _)
  have X8 := X6.wide (L' := []) (cells' := 1) (slots' := len) (fun x hx hlt => by
    simp only [List.nil_append, copyLocs, List.mem_map, List.mem_range] at hx
    obtain ⟨i, -, rfl⟩ := hx
    exact absurd hlt (Nat.lt_irrefl _)) (Nat.le_refl _) (by omega)
  exact ⟨T6, some (.ref s.heap.size), _, _, _, X8, rfl, rfl, rfl, (fun h => by cases h), ⟨⟨rfl, B6, ba3.like (X3.warmed.alike.symm.trans X6.warmed.alike) p6.1 f6.1 f6.2.1 f6.2.2.1, f6.2.1.trans bv3, by rw [X6.warmed.alike.findClass, f6.1]; exact bf3, by rw [f6.2.2.1, bs3]; simp, fun j hj => by rw [f6.2.2.2 j, if_pos (by omega)]; rfl, kp3.put p6 (Nat.le_refl _)⟩, by rw [p6.2.2, bh3, hh0]; simp⟩, fun fs hl => c8.trans (X8.areturnOut hexec rfl hret rfl (hb hbytes d58) hl)⟩
end Cmp3
namespace CodL
def yN : MethodName := ⟨"java/lang/StringUTF16", "coderFromArrayLen", "([BI)B"⟩
abbrev yB : ByteArray := jdk_52_method_15_code
theorem d0 : decode yB 0 = .ok (.iload_n 1, 1) := by decide +kernel
theorem d1 : decode yB 1 = .ok (.aload_n 0, 1) := by decide +kernel
theorem d2 : decode yB 2 = .ok (.arraylength, 1) := by decide +kernel
theorem d3 : decode yB 3 = .ok (.isub, 1) := by decide +kernel
theorem d4 : decode yB 4 = .ok (.bipush 31, 2) := by decide +kernel
theorem d6 : decode yB 6 = .ok (.iushr, 1) := by decide +kernel
theorem d7 : decode yB 7 = .ok (.i2b, 1) := by decide +kernel
theorem d8 : decode yB 8 = .ok (.ireturn, 1) := by decide +kernel
def site : List Cond := []
def tab : Cond := tabOf yN yB 2 (some .byte) site
def P (d : Addr) (B : Cell) (args : Array Value) (s : State) : Prop := args = #[.ref d, .int (Int32.ofNat B.slots.size)] ∧ Arr .byte d B s
def E (r : Option Value) (s u : State) : Prop := XT.PureE (some (.int 0)) r s u
/-- an array as long as the number of chars: LATIN1 -/
theorem law (l : Launch) (d : Addr) (B : Cell) : Law l yN 2 2 0 0 yB 2 (some .byte) site (P d B) E [] 0 0 := by
  refine Law.of_walk (plainFor_of_name (by decide +kernel)) (by decide +kernel) (by decide +kernel) (by decide) (fun _ _ h => by rw [h.1]; rfl) (fun _ U U' hal hh h => ⟨h.1, h.2.mv hal hh⟩) (fun r U U' V V' h1 hal h2 h => XT.PureE.mv r U U' V V' h1 hal h2 h) ?_
  intro p e s m args below meth c s₁ X0 hexec hbytes hml hret hlk hnm hown hh0 W hP
  obtain ⟨rfl, hB⟩ := hP
  have hB0 := hB.mv X0.warmed.alike hh0
  have c1 : Steps p.tables e below (s₁.setTop (entryFrame m #[.ref d, .int (Int32.ofNat B.slots.size)] 2)) (s₁.setTop (mkF m 0 #[.val (.ref d), .val (.int (Int32.ofNat B.slots.size))] [])) := entry rfl
  have c2 : Steps p.tables e below (s₁.setTop (entryFrame m #[.ref d, .int (Int32.ofNat B.slots.size)] 2)) (s₁.setTop (mkF m 2 #[.val (.ref d), .val (.int (Int32.ofNat B.slots.size))] [.ref d, .int (Int32.ofNat B.slots.size)])) := c1.trans (by
    refine XS.iloadN X0.here hexec rfl (hb hbytes d0) rfl ?_
    refine XS.aloadN X0.here hexec rfl (hb hbytes d1) rfl rfl ?_
    exact Steps.refl _)
  have c3 : Steps p.tables e below (s₁.setTop (entryFrame m #[.ref d, .int (Int32.ofNat B.slots.size)] 2)) (s₁.setTop (mkF m 8 #[.val (.ref d), .val (.int (Int32.ofNat B.slots.size))] [.int (lo8 (ushr (Int32.ofNat B.slots.size - Int32.ofNat B.slots.size) 31))])) := c2.trans (by
    refine X0.alen hexec hB0 rfl rfl (hb hbytes d2) ?_
    refine XS.isub X0.here hexec rfl (hb hbytes d3) rfl ?_
    refine bipushV X0.here hexec rfl 31 (hb hbytes d4) (by decide) ?_
    refine iushr X0.here hexec rfl (hb hbytes d6) rfl ?_
    refine i2b X0.here hexec rfl (hb hbytes d7) rfl ?_
    exact Steps.refl _)
  have e0 : lo8 (ushr (Int32.ofNat B.slots.size - Int32.ofNat B.slots.size) 31) = 0 := by rw [Int32.sub_self]; decide
  rw [e0] at c3
  exact ⟨s₁, some (.int 0), _, _, _, X0, rfl, rfl, rfl, (fun h => by cases h), ⟨rfl, hh0⟩, fun fs hl => c3.trans (X0.ireturnOut hexec hret rfl (Or.inr (Or.inr (Or.inl rfl))) (hb hbytes d8) hl)⟩
end CodL
/-- the String at a is Latin-1 over a new byte[] (the heap's one new cell): the low bytes of the len chars of A from o on; every cell but a is kept -/
def Got (a : Addr) (D : Cell) (fV fC : Field) (A : Cell) (o len : Nat) (r : Option Value) (s u : State) : Prop := r = none ∧ ∃ D' V : Cell, Blank "java/lang/String" a D' u ∧ Same D D' [fV.slot, fC.slot] ∧ D'.slots[fV.slot]? = some (.ref s.heap.size) ∧ D'.slots[fC.slot]? = some (.int 0) ∧ Arr .byte s.heap.size V u ∧ V.vm = .none ∧ u.vm.findClass "[B" = some V.cls ∧ V.slots.size = len ∧ (∀ j, j < len → V.slots[j]? = some (.int (lo8 (cv A (o + j))))) ∧ (∀ (y : Addr) (c : Cell), y ≠ a → s.heap[y]? = some c → u.heap[y]? = some c) ∧ u.heap.size = s.heap.size + 1
theorem Got.mv {a : Addr} {D A : Cell} {fV fC : Field} {o len : Nat} : ∀ r (U U' V V' : State), U'.heap = U.heap → V.vm.Alike V'.vm → V'.heap = V.heap → Got a D fV fC A o len r U V → Got a D fV fC A o len r U' V' :=
  fun r U U' V V' h1 hal h2 ⟨e0, D', X, a1, a2, a3, a4, a5, a6, a7, a8, a9, a10, a11⟩ => ⟨e0, D', X, a1.mv hal h2, a2, by rw [h1]; exact a3, a4, by rw [h1]; exact a5.mv hal h2, a6, by rw [hal.findClass]; exact a7, a8, a9, by rw [h1, h2]; exact a10, by rw [h1, h2]; exact a11⟩
namespace New4
def yN : MethodName := ⟨"java/lang/String", "<init>", "([CIILjava/lang/Void;)V"⟩
abbrev yB : ByteArray := jdk_42_method_149_code
theorem d0 : decode yB 0 = .ok (.aload_n 0, 1) := by decide +kernel
theorem d1 : decode yB 1 = .ok (.invokespecial 1, 3) := by decide +kernel
theorem d4 : decode yB 4 = .ok (.iload_n 3, 1) := by decide +kernel
theorem d5 : decode yB 5 = .ok (.ifCond (.ne) 22, 3) := by decide +kernel
theorem d27 : decode yB 27 = .ok (.getstatic 38, 3) := by decide +kernel
theorem d30 : decode yB 30 = .ok (.ifCond (.eq) 28, 3) := by decide +kernel
theorem d33 : decode yB 33 = .ok (.aload_n 1, 1) := by decide +kernel
theorem d34 : decode yB 34 = .ok (.iload_n 2, 1) := by decide +kernel
theorem d35 : decode yB 35 = .ok (.iload_n 3, 1) := by decide +kernel
theorem d36 : decode yB 36 = .ok (.invokestatic 177, 3) := by decide +kernel
theorem d39 : decode yB 39 = .ok (.astore 5, 2) := by decide +kernel
theorem d41 : decode yB 41 = .ok (.aload_n 0, 1) := by decide +kernel
theorem d42 : decode yB 42 = .ok (.aload 5, 2) := by decide +kernel
theorem d44 : decode yB 44 = .ok (.iload_n 3, 1) := by decide +kernel
theorem d45 : decode yB 45 = .ok (.invokestatic 47, 3) := by decide +kernel
theorem d48 : decode yB 48 = .ok (.putfield 15, 3) := by decide +kernel
theorem d51 : decode yB 51 = .ok (.aload_n 0, 1) := by decide +kernel
theorem d52 : decode yB 52 = .ok (.aload 5, 2) := by decide +kernel
theorem d54 : decode yB 54 = .ok (.putfield 9, 3) := by decide +kernel
theorem d57 : decode yB 57 = .ok (.return_, 1) := by decide +kernel
def site : List Cond := [.fieldLink "java/lang/String" 38 "java/lang/String" "COMPACT_STRINGS" "Z", Cmp3.tab, CodL.tab, .laysFinal "java/lang/String" "java/lang/String" "value" "[B", .fieldLink "java/lang/String" 9 "java/lang/String" "value" "[B", .laysFinal "java/lang/String" "java/lang/String" "coder" "B", .fieldLink "java/lang/String" 15 "java/lang/String" "coder" "B"] ++ objW "java/lang/String" 1 ++ staticW "java/lang/String" 177 Cmp3.yN ++ staticW "java/lang/String" 47 CodL.yN
def tab : Cond := tabOf yN yB 6 none site
def P (a : Addr) (D : Cell) (fV fC : Field) (b : Addr) (A : Cell) (z : Int32) (o len : Nat) (args : Array Value) (s : State) : Prop := args = #[.ref a, .ref b, .int (Int32.ofNat o), .int (Int32.ofNat len), .null] ∧ Blank "java/lang/String" a D s ∧ Found "java/lang/String" "value" "[B" fV s ∧ Found "java/lang/String" "coder" "B" fC s ∧ Ch b A s ∧ StaticIs s "java/lang/String" "COMPACT_STRINGS" "Z" (.int z) ∧ ¬ z = 0 ∧ 0 < len ∧ o + len ≤ A.slots.size ∧ len ≤ 536870912 ∧ ∀ i, i < len → ¬ 255 < cv A (o + i)
def E (a : Addr) (D : Cell) (fV fC : Field) (A : Cell) (o len : Nat) (r : Option Value) (s u : State) : Prop := Got a D fV fC A o len r s u
/-- len > 0, no char of the range above 255: a Latin-1 String of their low bytes -/
theorem law (l : Launch) (a : Addr) (D : Cell) (fV fC : Field) (b : Addr) (A : Cell) (z : Int32) (o len : Nat) : Law l yN 5 4 2 35 yB 6 none site (P a D fV fC b A z o len) (E a D fV fC A o len) [⟨a, fC.slot⟩, ⟨a, fV.slot⟩] 1 len := by
  refine Law.of_walk (plainFor_of_name (by decide +kernel)) (by decide +kernel) (by decide +kernel) (by decide) (fun _ _ h => by rw [h.1]; rfl) (fun _ U U' hal hh h => ⟨h.1, h.2.1.mv hal hh, h.2.2.1.al hal, h.2.2.2.1.al hal, h.2.2.2.2.1.mv hal hh, h.2.2.2.2.2.1.there hal hh, h.2.2.2.2.2.2⟩) (fun r U U' V V' h1 hal h2 h => Got.mv r U U' V V' h1 hal h2 h) ?_
  intro p e s m args below meth c s₁ X0 hexec hbytes hml hret hlk hnm hown hh0 W hP
  obtain ⟨rfl, hB, f1, f2, hA, s1, hz, l0, l1, l2, hp⟩ := hP
  have a31 := hA.1.2.2.2
  have c1 : Steps p.tables e below (s₁.setTop (entryFrame m #[.ref a, .ref b, .int (Int32.ofNat o), .int (Int32.ofNat len), .null] 6)) (s₁.setTop (mkF m 0 #[.val (.ref a), .val (.ref b), .val (.int (Int32.ofNat o)), .val (.int (Int32.ofNat len)), .val .null, .unset] [])) := entry rfl
  have c2 : Steps p.tables e below (s₁.setTop (entryFrame m #[.ref a, .ref b, .int (Int32.ofNat o), .int (Int32.ofNat len), .null] 6)) (s₁.setTop (mkF m 1 #[.val (.ref a), .val (.ref b), .val (.int (Int32.ofNat o)), .val (.int (Int32.ofNat len)), .val .null, .unset] [.ref a])) := c1.trans (by
    refine XS.aloadN X0.here hexec rfl (hb hbytes d0) rfl rfl ?_
    exact Steps.refl _)
  obtain ⟨T3, X3, q3, st3⟩ := X0.oinit hexec hown (wks W (objW "java/lang/String" 1)) (g := (mkF m 1 #[.val (.ref a), .val (.ref b), .val (.int (Int32.ofNat o)), .val (.int (Int32.ofNat len)), .val .null, .unset] [.ref a])) rfl (by rw [hml]; rfl) (rest := []) rfl (hb hbytes d1) (W := 0) (by show 2 * 0 + 0 ≤ _; decide) (Nat.le_of_ble_eq_true rfl) (Nat.le_of_ble_eq_true rfl)
  have hh3 := q3.trans hh0
  have c4 : Steps p.tables e below (s₁.setTop (entryFrame m #[.ref a, .ref b, .int (Int32.ofNat o), .int (Int32.ofNat len), .null] 6)) (T3.setTop (mkF m 27 #[.val (.ref a), .val (.ref b), .val (.int (Int32.ofNat o)), .val (.int (Int32.ofNat len)), .val .null, .unset] [])) := (c2.trans (st3 _ (Steps.refl _))).trans (by
    refine XS.iloadN X3.here hexec rfl (hb hbytes d4) rfl ?_
    refine XS.ifYes X3.here hexec rfl (pc0 := 5) rfl (hb hbytes d5) rfl (i0_ne_t (nz32 (by omega) l0)) (by decide) rfl ?_
    exact Steps.refl _)
  obtain ⟨T5, X5, q5, st5⟩ := X3.sget hexec hown (wk W (.fieldLink "java/lang/String" 38 "java/lang/String" "COMPACT_STRINGS" "Z")) s1 (fun _ _ h => by rw [hh3]; exact h) (g := (mkF m 27 #[.val (.ref a), .val (.ref b), .val (.int (Int32.ofNat o)), .val (.int (Int32.ofNat len)), .val .null, .unset] [])) rfl (hb hbytes d27)
  have hh5 := q5.trans hh3
  have c6 : Steps p.tables e below (s₁.setTop (entryFrame m #[.ref a, .ref b, .int (Int32.ofNat o), .int (Int32.ofNat len), .null] 6)) (T5.setTop (mkF m 30 #[.val (.ref a), .val (.ref b), .val (.int (Int32.ofNat o)), .val (.int (Int32.ofNat len)), .val .null, .unset] [.int z])) := c4.trans (st5 _ (Steps.refl _))
  have c7 : Steps p.tables e below (s₁.setTop (entryFrame m #[.ref a, .ref b, .int (Int32.ofNat o), .int (Int32.ofNat len), .null] 6)) (T5.setTop (mkF m 36 #[.val (.ref a), .val (.ref b), .val (.int (Int32.ofNat o)), .val (.int (Int32.ofNat len)), .val .null, .unset] [.int (Int32.ofNat len), .int (Int32.ofNat o), .ref b])) := c6.trans (by
    refine XS.ifNo X5.here hexec rfl (hb hbytes d30) rfl (i0_eq_f hz) ?_
    refine XS.aloadN X5.here hexec rfl (hb hbytes d33) rfl rfl ?_
    refine XS.iloadN X5.here hexec rfl (hb hbytes d34) rfl ?_
    refine XS.iloadN X5.here hexec rfl (hb hbytes d35) rfl ?_
    exact Steps.refl _)
  obtain ⟨v8, T8, X8, E8, g8⟩ := X5.callS hexec (Cmp3.law l b A o len) hown (wks W (staticW "java/lang/String" 177 Cmp3.yN)) (wk W Cmp3.tab) (W := 0) (Nat.le_of_ble_eq_true rfl) (Nat.le_of_ble_eq_true rfl) (Nat.le_refl _) (by show 0 + len ≤ len; omega) (g := (mkF m 36 #[.val (.ref a), .val (.ref b), .val (.int (Int32.ofNat o)), .val (.int (Int32.ofNat len)), .val .null, .unset] [.int (Int32.ofNat len), .int (Int32.ofNat o), .ref b])) rfl (by rw [hml]; rfl) c7 (argsL := [.ref b, .int (Int32.ofNat o), .int (Int32.ofNat len)]) (rest := []) rfl rfl (by show 2 * 0 + 0 ≤ _; decide) (hb hbytes d36) (⟨rfl, hA.mv X5.warmed.alike hh5, l1, l2, hp⟩)
  obtain ⟨e8, z8⟩ := E8
  obtain ⟨rfl, N, n1, n2, n3, n4, n5, n6⟩ := NewArr.mv _ T5 s _ _ hh5.symm (Vm.Alike.refl _) rfl e8
  rw [hh5] at z8
  have hB1 := hB.keep X8.warmed.alike (n6 _ _ hB.1)
  have hne : s.heap.size ≠ a := (Nat.ne_of_lt (Array.getElem?_eq_some_iff.mp hB.1).1).symm
  have c9 : Steps p.tables e below (s₁.setTop (entryFrame m #[.ref a, .ref b, .int (Int32.ofNat o), .int (Int32.ofNat len), .null] 6)) (T8.setTop (mkF m 39 #[.val (.ref a), .val (.ref b), .val (.int (Int32.ofNat o)), .val (.int (Int32.ofNat len)), .val .null, .unset] [.ref s.heap.size])) := g8
  have c10 : Steps p.tables e below (s₁.setTop (entryFrame m #[.ref a, .ref b, .int (Int32.ofNat o), .int (Int32.ofNat len), .null] 6)) (T8.setTop (mkF m 45 #[.val (.ref a), .val (.ref b), .val (.int (Int32.ofNat o)), .val (.int (Int32.ofNat len)), .val .null, .val (.ref s.heap.size)] [.int (Int32.ofNat N.slots.size), .ref s.heap.size, .ref a])) := by
    have hc : Steps p.tables e below (s₁.setTop (entryFrame m #[.ref a, .ref b, .int (Int32.ofNat o), .int (Int32.ofNat len), .null] 6)) (T8.setTop (mkF m 45 #[.val (.ref a), .val (.ref b), .val (.int (Int32.ofNat o)), .val (.int (Int32.ofNat len)), .val .null, .val (.ref s.heap.size)] [.int (Int32.ofNat len), .ref s.heap.size, .ref a])) := c9.trans (by
      refine XS.astore X8.here hexec rfl (hb hbytes d39) rfl rfl rfl ?_
      refine XS.aloadN X8.here hexec rfl (hb hbytes d41) rfl rfl ?_
      refine XS.aload X8.here hexec rfl (hb hbytes d42) rfl rfl ?_
      refine XS.iloadN X8.here hexec rfl (hb hbytes d44) rfl ?_
      exact Steps.refl _)
    rw [n4]; exact hc
  obtain ⟨v11, T11, X11, E11, g11⟩ := X8.callS hexec (CodL.law l s.heap.size N) hown (wks W (staticW "java/lang/String" 47 CodL.yN)) (wk W CodL.tab) (W := 1) (Nat.le_of_ble_eq_true rfl) (Nat.le_of_ble_eq_true rfl) (Nat.le_refl _) (by show 0 + len + 0 ≤ len; omega) (g := (mkF m 45 #[.val (.ref a), .val (.ref b), .val (.int (Int32.ofNat o)), .val (.int (Int32.ofNat len)), .val .null, .val (.ref s.heap.size)] [.int (Int32.ofNat N.slots.size), .ref s.heap.size, .ref a])) rfl (by rw [hml]; rfl) c10 (argsL := [.ref s.heap.size, .int (Int32.ofNat N.slots.size)]) (rest := [.ref a]) rfl rfl (by show 2 * 0 + (1 + 0) ≤ _; decide) (hb hbytes d45) (⟨rfl, n1⟩)
  obtain ⟨rfl, q11⟩ := E11
  have hB11 := hB1.mv (X8.warmed.alike.symm.trans X11.warmed.alike) q11
  have c12 : Steps p.tables e below (s₁.setTop (entryFrame m #[.ref a, .ref b, .int (Int32.ofNat o), .int (Int32.ofNat len), .null] 6)) (T11.setTop (mkF m 48 #[.val (.ref a), .val (.ref b), .val (.int (Int32.ofNat o)), .val (.int (Int32.ofNat len)), .val .null, .val (.ref s.heap.size)] [.int 0, .ref a])) := g11
  obtain ⟨T13, X13, p13, bl13, sl13, st13⟩ := X11.finit hexec hown (wk W (.fieldLink "java/lang/String" 15 "java/lang/String" "coder" "B")) (Or.inr ⟨_, (wk W (.laysFinal "java/lang/String" "java/lang/String" "coder" "B"))⟩) (Or.inl ⟨rfl, hnm⟩) f2 (Or.inl rfl) hB11 (t := .byte) (by decide +kernel) rfl (g := (mkF m 48 #[.val (.ref a), .val (.ref b), .val (.int (Int32.ofNat o)), .val (.int (Int32.ofNat len)), .val .null, .val (.ref s.heap.size)] [.int 0, .ref a])) rfl (rest := []) rfl (hb hbytes d48)
  have c14 : Steps p.tables e below (s₁.setTop (entryFrame m #[.ref a, .ref b, .int (Int32.ofNat o), .int (Int32.ofNat len), .null] 6)) (T13.setTop (mkF m 54 #[.val (.ref a), .val (.ref b), .val (.int (Int32.ofNat o)), .val (.int (Int32.ofNat len)), .val .null, .val (.ref s.heap.size)] [.ref s.heap.size, .ref a])) := (c12.trans (st13 _ (Steps.refl _))).trans (by
    refine XS.aloadN X13.here hexec rfl (hb hbytes d51) rfl rfl ?_
    refine XS.aload X13.here hexec rfl (hb hbytes d52) rfl rfl ?_
    exact Steps.refl _)
  obtain ⟨T15, X15, p15, bl15, sl15, st15⟩ := X13.finit hexec hown (wk W (.fieldLink "java/lang/String" 9 "java/lang/String" "value" "[B")) (Or.inr ⟨_, (wk W (.laysFinal "java/lang/String" "java/lang/String" "value" "[B"))⟩) (Or.inl ⟨rfl, hnm⟩) f1 (Or.inl rfl) bl13 (t := (.array .byte)) (by decide +kernel) rfl (g := (mkF m 54 #[.val (.ref a), .val (.ref b), .val (.int (Int32.ofNat o)), .val (.int (Int32.ofNat len)), .val .null, .val (.ref s.heap.size)] [.ref s.heap.size, .ref a])) rfl (rest := []) rfl (hb hbytes d54)
  have c16 : Steps p.tables e below (s₁.setTop (entryFrame m #[.ref a, .ref b, .int (Int32.ofNat o), .int (Int32.ofNat len), .null] 6)) (T15.setTop (mkF m 57 #[.val (.ref a), .val (.ref b), .val (.int (Int32.ofNat o)), .val (.int (Int32.ofNat len)), .val .null, .val (.ref s.heap.size)] [])) := c14.trans (st15 _ (Steps.refl _))
  have ap := apart (Or.inr ⟨_, (wk W (.laysFinal "java/lang/String" "java/lang/String" "value" "[B"))⟩) (Or.inr ⟨_, (wk W (.laysFinal "java/lang/String" "java/lang/String" "coder" "B"))⟩) f1 f2 (t₁ := .array .byte) (t₂ := .byte) (by decide +kernel) (by decide +kernel) (by decide)
  have al := X8.warmed.alike.symm.trans X15.warmed.alike
  have n7 : T11.heap[s.heap.size]? = some N := by rw [q11]; exact n1.1
  exact ⟨T15, none, _, _, _, X15, by simp, rfl, by omega, (fun _ => rfl), ⟨rfl, _, N, bl15, ((Same.refl D _).set _ (by simp)).set _ (by simp), sl15, (Cell.slots_setSlot_ne _ ap).trans sl13, n1.keep al (p15.other hne (p13.other hne n7)), n2, by rw [al.findClass]; exact n3, n4, n5, fun y c h1 h2 => p15.other h1 (p13.other h1 (by rw [q11]; exact n6 y c h2)), by rw [p15.2.2, p13.2.2, q11]; exact z8⟩, fun fs hl => c16.trans (X15.returnOut hexec hret (hb hbytes d57) hl)⟩
end New4
namespace New1
def yN : MethodName := ⟨"java/lang/String", "<init>", "([C)V"⟩
abbrev yB : ByteArray := jdk_42_method_3_code
theorem d0 : decode yB 0 = .ok (.aload_n 0, 1) := by decide +kernel
theorem d1 : decode yB 1 = .ok (.aload_n 1, 1) := by decide +kernel
theorem d2 : decode yB 2 = .ok (.iconst 0, 1) := by decide +kernel
theorem d3 : decode yB 3 = .ok (.aload_n 1, 1) := by decide +kernel
theorem d4 : decode yB 4 = .ok (.arraylength, 1) := by decide +kernel
theorem d5 : decode yB 5 = .ok (.aconst_null, 1) := by decide +kernel
theorem d6 : decode yB 6 = .ok (.invokespecial 27, 3) := by decide +kernel
theorem d9 : decode yB 9 = .ok (.return_, 1) := by decide +kernel
def site : List Cond := [New4.tab] ++ initW "java/lang/String" 27 New4.yN
def tab : Cond := tabOf yN yB 2 none site
def P (a : Addr) (D : Cell) (fV fC : Field) (b : Addr) (A : Cell) (z : Int32) (args : Array Value) (s : State) : Prop := args = #[.ref a, .ref b] ∧ Blank "java/lang/String" a D s ∧ Found "java/lang/String" "value" "[B" fV s ∧ Found "java/lang/String" "coder" "B" fC s ∧ Ch b A s ∧ StaticIs s "java/lang/String" "COMPACT_STRINGS" "Z" (.int z) ∧ ¬ z = 0 ∧ 0 < A.slots.size ∧ A.slots.size ≤ 536870912 ∧ ∀ i, i < A.slots.size → ¬ 255 < cv A i
def E (a : Addr) (D : Cell) (fV fC : Field) (A : Cell) (r : Option Value) (s u : State) : Prop := Got a D fV fC A 0 A.slots.size r s u
/-- new String(chars), not empty, no char above 255: a Latin-1 String of their low bytes -/
theorem law (l : Launch) (a : Addr) (D : Cell) (fV fC : Field) (b : Addr) (A : Cell) (z : Int32) : Law l yN 2 1 3 52 yB 2 none site (P a D fV fC b A z) (E a D fV fC A) [⟨a, fC.slot⟩, ⟨a, fV.slot⟩] 1 A.slots.size := by
  refine Law.of_walk (plainFor_of_name (by decide +kernel)) (by decide +kernel) (by decide +kernel) (by decide) (fun _ _ h => by rw [h.1]; rfl) (fun _ U U' hal hh h => ⟨h.1, h.2.1.mv hal hh, h.2.2.1.al hal, h.2.2.2.1.al hal, h.2.2.2.2.1.mv hal hh, h.2.2.2.2.2.1.there hal hh, h.2.2.2.2.2.2⟩) (fun r U U' V V' h1 hal h2 h => Got.mv r U U' V V' h1 hal h2 h) ?_
  intro p e s m args below meth c s₁ X0 hexec hbytes hml hret hlk hnm hown hh0 W hP
  obtain ⟨rfl, hB, f1, f2, hA, s1, hz, l0, l2, hp⟩ := hP
  have c1 : Steps p.tables e below (s₁.setTop (entryFrame m #[.ref a, .ref b] 2)) (s₁.setTop (mkF m 0 #[.val (.ref a), .val (.ref b)] [])) := entry rfl
  have c2 : Steps p.tables e below (s₁.setTop (entryFrame m #[.ref a, .ref b] 2)) (s₁.setTop (mkF m 6 #[.val (.ref a), .val (.ref b)] [.null, .int (Int32.ofNat A.slots.size), .int 0, .ref b, .ref a])) := c1.trans (by
    refine XS.aloadN X0.here hexec rfl (hb hbytes d0) rfl rfl ?_
    refine XS.aloadN X0.here hexec rfl (hb hbytes d1) rfl rfl ?_
    refine iconstV X0.here hexec rfl 0 (hb hbytes d2) (by decide) ?_
    refine XS.aloadN X0.here hexec rfl (hb hbytes d3) rfl rfl ?_
    refine X0.alen hexec (hA.1.mv X0.warmed.alike hh0) rfl rfl (hb hbytes d4) ?_
    refine XS.aconstNull X0.here hexec rfl (hb hbytes d5) ?_
    exact Steps.refl _)
  obtain ⟨v3, T3, X3, E3, g3⟩ := X0.callN hexec (New4.law l a D fV fC b A z 0 A.slots.size) rfl hown (wks W (initW "java/lang/String" 27 New4.yN)) (W New4.tab (by simp only [site, List.mem_cons, List.mem_append, true_or, or_true])) (W := 0) (Nat.le_of_ble_eq_true rfl) (Nat.le_of_ble_eq_true rfl) (Nat.le_refl _) (by show 0 + A.slots.size ≤ A.slots.size; omega) (g := (mkF m 6 #[.val (.ref a), .val (.ref b)] [.null, .int (Int32.ofNat A.slots.size), .int (Int32.ofNat 0), .ref b, .ref a])) rfl (by rw [hml]; rfl) c2 (argsL := [.ref b, .int (Int32.ofNat 0), .int (Int32.ofNat A.slots.size), .null]) (rest := []) rfl rfl (by show 2 * 0 + 0 ≤ _; decide) (hb hbytes d6) (⟨rfl, hB.mv X0.warmed.alike hh0, f1.al X0.warmed.alike, f2.al X0.warmed.alike, hA.mv X0.warmed.alike hh0, s1.there X0.warmed.alike hh0, hz, l0, by omega, l2, fun i hi => by rw [Nat.zero_add]; exact hp i hi⟩)
  have e0 := Got.mv _ s₁ s _ _ hh0.symm (Vm.Alike.refl _) rfl E3
  obtain rfl := e0.1
  have c4 : Steps p.tables e below (s₁.setTop (entryFrame m #[.ref a, .ref b] 2)) (T3.setTop (mkF m 9 #[.val (.ref a), .val (.ref b)] [])) := g3
  exact ⟨T3, none, _, _, _, X3, by simp, rfl, by omega, (fun _ => rfl), e0, fun fs hl => c4.trans (X3.returnOut hexec hret (hb hbytes d9) hl)⟩
theorem pays {l : Launch} {R : Room} {p : Program} {e : Env} {below : List Frame} {s : State} {sargs : Array Value} {len W : Nat} (a : Addr) (D : Cell) (fV fC : Field) (b : Addr) (A : Cell) (z : Int32) (htab : tab.before sargs s = true) (hfr : 4 ≤ R.frames) (hlo : W + 65 ≤ R.locals) :
    Back l R p e below s sargs yN len W (fun A₁ a₁ => A₁.cells + 1 ≤ R.cells ∧ A₁.slots + A.slots.size ≤ R.slots ∧ P a D fV fC b A z a₁ A₁.U) (fun A₁ _ v₁ B₁ => E a D fV fC A v₁ A₁.U B₁.U ∧ B₁.locs = A₁.locs ++ [⟨a, fC.slot⟩, ⟨a, fV.slot⟩] ∧ B₁.cells = A₁.cells + 1 ∧ B₁.slots = A₁.slots + A.slots.size) :=
  (law l a D fV fC b A z).pays htab hfr (by omega)
end New1
end StrChars
namespace StrChars.Road
open Jvm Sem ClassFile Op Lib Jvm.Stand Jvm.Free Jvm.Free.XT
open Jvm.Lib.Cold (StaticIs)
abbrev ST : String := "java/lang/String"
/-- every table word that New1's law asks, flat -/
abbrev words : List Jvm.Cond := [.code New1.yN New1.yB 2 none, .initialized ST, .methodLink ST 27 New4.yN, .instanceMethod New4.yN,
  .code New4.yN New4.yB 6 none, .fieldLink ST 38 ST "COMPACT_STRINGS" "Z", .laysFinal ST ST "value" "[B", .fieldLink ST 9 ST "value" "[B", .laysFinal ST ST "coder" "B", .fieldLink ST 15 ST "coder" "B",
  .methodLink ST 1 Lib.objectInit, .instanceMethod Lib.objectInit, .code Lib.objectInit ⟨#[0xb1]⟩ 1 none, .methodLink ST 177 Cmp3.yN, .static Cmp3.yN, .methodLink ST 47 CodL.yN, .static CodL.yN,
  .code Cmp3.yN Cmp3.yB 6 (some (.array .byte)), .initialized U16, .arrayClass .byte, .methodLink U16 115 Cmp5.yN, .static Cmp5.yN, .code Cmp5.yN Cmp5.yB 7 (some .int), .code CodL.yN CodL.yB 2 (some .byte)]
theorem tab_of {a : Array Value} {s : State} (h : ∀ w ∈ words, w.before a s = true) : New1.tab.before a s = true := by
  have h5 : Cmp5.tab.before a s = true := unparts (wk h (.code Cmp5.yN Cmp5.yB 7 (some .int))) (wks h (.initialized Cmp5.yN.cls :: Cmp5.site))
  have hc : CodL.tab.before a s = true := unparts (wk h (.code CodL.yN CodL.yB 2 (some .byte))) (wks h (.initialized CodL.yN.cls :: CodL.site))
  have q5 : ∀ w ∈ Cmp5.tab :: words, w.before a s = true := fun w hw => (List.mem_cons.mp hw).elim (fun e => e ▸ h5) (h w)
  have h3 : Cmp3.tab.before a s = true := unparts (wk q5 (.code Cmp3.yN Cmp3.yB 6 (some (.array .byte)))) (wks q5 (.initialized Cmp3.yN.cls :: Cmp3.site))
  have q3 : ∀ w ∈ Cmp3.tab :: CodL.tab :: words, w.before a s = true := fun w hw => (List.mem_cons.mp hw).elim (fun e => e ▸ h3) fun hw => (List.mem_cons.mp hw).elim (fun e => e ▸ hc) (h w)
  have h4 : New4.tab.before a s = true := unparts (wk q3 (.code New4.yN New4.yB 6 none)) (wks q3 (.initialized New4.yN.cls :: New4.site))
  have q4 : ∀ w ∈ New4.tab :: words, w.before a s = true := fun w hw => (List.mem_cons.mp hw).elim (fun e => e ▸ h4) (h w)
  exact unparts (wk q4 (.code New1.yN New1.yB 2 none)) (wks q4 (.initialized New1.yN.cls :: New1.site))
/-- the words ride from the start Z to the walk's own state -/
theorem moved {Z s : State} {a0 args : Array Value} (hZ : Z.Warmed39 s.vm) (hw : ∀ d ∈ words, d.before a0 Z = true) : ∀ d ∈ words, d.before args s = true := fun d hd => by
  have q := hw d hd
  have t : ∀ d ∈ words, d = .arrayClass .byte ∨ (d.onTables && d.keepsFace) = true := by decide +kernel
  rcases t d hd with rfl | t
  · exact RoadKit.mvA hZ q
  · exact RoadKit.mv hZ q t
/-- WHAT COMES BACK, over the tables of the start Z: h the heap at the call, h' behind it -/
def Q (Z : State) (x : Addr) (A : Cell) (h : Heap) (v : Option Value) (h' : Heap) (L : List Loc) : Prop := v = none ∧ (∀ y ∈ L, y.base = x) ∧ RoadKit.Keep h h' [x] ∧ h'.size = h.size + 1 ∧ RoadKit.Exa Z h' x ST ∧ RoadKit.Fld Z h' x ST "value" "[B" (.ref h.size) ∧ RoadKit.Fld Z h' x ST "coder" "B" (.int 0) ∧
  (∃ V : Cell, RoadKit.Arr Z h' h.size V .byte ∧ V.vm = .none ∧ Z.vm.findClass "[B" = some V.cls ∧ V.slots.size = A.slots.size ∧ ∀ j, j < A.slots.size → V.slots[j]? = some (.int (lo8 (cv A j)))) ∧
  ∀ (O n d : String) (w : Value), RoadKit.Fld Z h x O n d w → RoadKit.slotOf Z O n d ≠ RoadKit.slotOf Z ST "value" "[B" → RoadKit.slotOf Z O n d ≠ RoadKit.slotOf Z ST "coder" "B" → RoadKit.Fld Z h' x O n d w
/-- **new String(chars) AT A CALL, IN THE ROAD'S FORM**: for specialBack behind newO: x the fresh String, b the char[] with the cell A -/
theorem back {p : Program} {l : Launch} {e : Env} {R : Room} {s : State} {args : Array Value} {below : List Frame} {len W : Nat} {Z : State} {a0 : Array Value} {h : Heap} (hZ : Z.Warmed39 s.vm) (hw : ∀ d ∈ words, d.before a0 Z = true) {kI : Nat} (wi : (Jvm.Cond.instantiable ST kI).before a0 Z = true)
    {x b : Addr} {A : Cell} {z : Int32} {v0 c0 : Value} (E : RoadKit.Exa Z h x ST) (V : RoadKit.Fld Z h x ST "value" "[B" v0) (C : RoadKit.Fld Z h x ST "coder" "B" c0) (K : RoadKit.Arr Z h b A .char) (hty : Typed .char A) (S : RoadKit.Sta Z h ST "COMPACT_STRINGS" "Z" (.int z)) (hz : ¬ z = 0)
    (l0 : 0 < A.slots.size) (l2 : A.slots.size ≤ 536870912) (hp : ∀ i, i < A.slots.size → ¬ 255 < cv A i) (hfr : 4 ≤ R.frames) (hlo : W + 65 ≤ R.locals) :
    Back l R p e below s args New1.yN len W (fun P a => a = #[.ref x, .ref b] ∧ P.U.heap = h ∧ P.cells + 1 ≤ R.cells ∧ P.slots + A.slots.size ≤ R.slots)
      (fun P _ v B => ∃ L, Q Z x A h v B.U.heap L ∧ B.locs = P.locs ++ L ∧ B.cells = P.cells + 1 ∧ B.slots = P.slots + A.slots.size) := by
  intro m meth c P g ig mk a X hg hsize hdg hW hn hp'
  obtain ⟨rfl, rfl, r1, r2⟩ := hp'
  have al : Z.vm.Alike P.U.vm := hZ.alike.trans X.warmed.alike
  obtain ⟨D, cfV, kV, iV, fV, hD, gV, stV, knV, obV, asV, slV⟩ := id V
  obtain ⟨D', cfC, kC, iC, fC, hD', gC, stC, -, -, asC, slC⟩ := id C
  cases hD.symm.trans hD'
  obtain ⟨D2, kD, e1, e2, e3, e4, e5⟩ := id E
  cases hD.symm.trans e1
  obtain ⟨c2, k2, i1, i2, i3, -⟩ := Cond.instantiable_spec wi
  cases e2.symm.trans i1
  cases e3.symm.trans i2
  obtain ⟨kU, u1, u2⟩ := al.2.2 _ _ e3
  have hB : Blank ST x D P.U := ⟨hD, ⟨knV, fun q hq => by rw [hq] at obV; cases obV⟩, by rw [al.findClass]; exact e2, kU, u1, by rw [u2]; exact i3, by rw [u2]; exact e5 i3⟩
  have F1 : Found ST "value" "[B" fV P.U := ⟨SBG.found_only al ⟨cfV, kV, iV, gV⟩, stV⟩
  have F2 : Found ST "coder" "B" fC P.U := ⟨SBG.found_only al ⟨cfC, kC, iC, gC⟩, stC⟩
  have hA : Ch b A P.U := ⟨⟨K.1, State.isArrayOf_alike al K.2.1, K.2.2, by omega⟩, hty⟩
  have hS : StaticIs P.U ST "COMPACT_STRINGS" "Z" (.int z) := by
    obtain ⟨cfS, iS, kS, fS, st, cS, t1, t2, t3, t4, t5, t6, t7⟩ := S
    exact StaticIs.there (s := { Z with heap := P.U.heap }) ⟨cfS, iS, kS, fS, st, cS, t1, t2, t3, t4, t5, (fun q => by rw [q] at t6; cases t6), t7⟩ al rfl
  obtain ⟨v, B, X', ⟨⟨hv, E', V', q1, q2, q3, q4, q5, q6, q7, q8, q9, q10, q11⟩, hl, hc, hs⟩, st⟩ := New1.pays x D fV fC b A z (tab_of (moved hZ hw)) hfr hlo m meth c P g ig mk _ X hg hsize hdg hW hn ⟨r1, r2, rfl, hB, F1, F2, hA, hS, hz, l0, l2, hp⟩
  have al' : Z.vm.Alike B.U.vm := hZ.alike.trans X'.warmed.alike
  have hsz : E'.slots.size = D.slots.size := by
    obtain ⟨-, -, -, kB, w1, w2, w3⟩ := q1
    obtain ⟨kB', y1, y2⟩ := al'.2.2 _ _ e3
    rw [q2.2.1] at w1
    cases w1.symm.trans y1
    rw [w3, e5 i3, y2]
  refine ⟨v, B, X', ⟨_, ⟨hv, ?_, ⟨by omega, fun y cy hy hn' => q10 y cy (by simpa using hn') hy, fun y cy hy => ?_⟩, q11, ⟨E', _, q1.1, by rw [q2.2.1]; exact e2, by rw [q2.2.1]; exact e3, by rw [q2.1]; exact obV, fun _ => by rw [hsz]; exact e5 i3⟩,
    ⟨E', cfV, kV, iV, fV, q1.1, gV, stV, by rw [q2.1]; exact knV, by rw [q2.1]; exact obV, by rw [q2.2.1]; exact asV, q3⟩, ⟨E', cfC, kC, iC, fC, q1.1, gC, stC, by rw [q2.1]; exact knV, by rw [q2.1]; exact obV, by rw [q2.2.1]; exact asC, q4⟩,
    ⟨V', ⟨q5.1, State.isArrayOf_alike al'.symm q5.2.1, q5.2.2.1⟩, q6, by rw [← al'.findClass]; exact q7, q8, fun j hj => by have := q9 j hj; rwa [Nat.zero_add] at this⟩, fun O n d w F n1 n2 => ?_⟩, hl, hc, hs⟩, st⟩
  · intro y hy
    simp only [List.mem_cons, List.not_mem_nil, or_false] at hy
    rcases hy with rfl | rfl <;> rfl
  · by_cases q : y = x
    · subst q
      cases hD.symm.trans hy
      exact ⟨E', q1.1, q2.2.1, q2.1, hsz⟩
    · exact ⟨cy, q10 y cy q hy, rfl, rfl, rfl⟩
  · obtain ⟨D3, cf, k, i, f, g1, g2, g3, g4, g5, g6, g7⟩ := F
    cases hD.symm.trans g1
    simp only [RoadKit.slotOf, g2, gV, gC, Option.map_some, Option.getD_some] at n1 n2
    exact ⟨E', cf, k, i, f, q1.1, g2, g3, by rw [q2.1]; exact g4, by rw [q2.1]; exact g5, by rw [q2.2.1]; exact g6, by rw [q2.2.2 f.slot (by simp [n1, n2])]; exact g7⟩
end StrChars.Road
namespace StrChars.Road
open Jvm Sem ClassFile Op Lib Jvm.Stand Jvm.Free Jvm.Free.XT
/-- WHAT COMES BACK, the byte[] as a list of values -/
def QA (Z : State) (x : Addr) (zn : Int32) (cs : List Int32) (h : Heap) (v : Option Value) (h' : Heap) (L : List Loc) : Prop := v = none ∧ (∀ y ∈ L, y.base = x) ∧ RoadKit.Keep h h' [x] ∧ h'.size = h.size + 1 ∧ RoadKit.Exa Z h' x ST ∧ RoadKit.Fld Z h' x ST "value" "[B" (.ref h.size) ∧ RoadKit.Fld Z h' x ST "coder" "B" (.int 0) ∧
  (∃ kb, Z.vm.findClass "[B" = some kb ∧ RoadKit.Arv Z h' h.size kb .byte zn (cs.map fun c => .int (lo8 c)) (.int 0)) ∧
  ∀ (O n d : String) (w : Value), RoadKit.Fld Z h x O n d w → RoadKit.slotOf Z O n d ≠ RoadKit.slotOf Z ST "value" "[B" → RoadKit.slotOf Z O n d ≠ RoadKit.slotOf Z ST "coder" "B" → RoadKit.Fld Z h' x O n d w
/-- **new String(chars) AT A CALL, THE ARRAYS AS LISTS**: the char[] at b holds cs, not empty, no char above 255 -/
theorem backArv {p : Program} {l : Launch} {e : Env} {R : Room} {s : State} {args : Array Value} {below : List Frame} {len W : Nat} {Z : State} {a0 : Array Value} {h : Heap} (hZ : Z.Warmed39 s.vm) (hw : ∀ d ∈ words, d.before a0 Z = true) {kI : Nat} (wi : (Jvm.Cond.instantiable ST kI).before a0 Z = true)
    {x b : Addr} {k : ClassId} {zn z : Int32} {cs : List Int32} {dv v0 c0 : Value} (E : RoadKit.Exa Z h x ST) (V : RoadKit.Fld Z h x ST "value" "[B" v0) (C : RoadKit.Fld Z h x ST "coder" "B" c0) (K : RoadKit.Arv Z h b k .char zn (cs.map Value.int) dv) (S : RoadKit.Sta Z h ST "COMPACT_STRINGS" "Z" (.int z)) (hz : ¬ z = 0)
    (hlen : zn.toNatClampNeg = cs.length) (h0 : 0 < cs.length) (hbig : cs.length ≤ 536870912) (hall : ∀ c ∈ cs, ¬ 255 < c) (hfr : 4 ≤ R.frames) (hlo : W + 65 ≤ R.locals) :
    Back l R p e below s args New1.yN len W (fun P a => a = #[.ref x, .ref b] ∧ P.U.heap = h ∧ P.cells + 1 ≤ R.cells ∧ P.slots + cs.length ≤ R.slots)
      (fun P _ v B => ∃ L, QA Z x zn cs h v B.U.heap L ∧ B.locs = P.locs ++ L ∧ B.cells = P.cells + 1 ∧ B.slots = P.slots + cs.length) := by
  obtain ⟨A, K1, K2, K3, K4, K5, K6⟩ := K
  have e : A.slots.size = cs.length := K3.trans hlen
  have hat : ∀ (i : Nat) (hi : i < cs.length), A.slots[i]? = some (.int cs[i]) := fun i hi => by rw [K5 i (by omega)]; simp [List.getD_eq_getElem?_getD, hi]
  have hcv : ∀ (i : Nat) (hi : i < cs.length), cv A i = cs[i] := fun i hi => by unfold cv; rw [hat i hi]
  have hty : Typed .char A := fun i v hv => by
    have hi : i < A.slots.size := (Array.getElem?_eq_some_iff.mp hv).1
    have q := K5 i hi
    rw [hv] at q
    rw [Option.some.inj q]
    exact K6 i hi
  refine Back.mono (back hZ hw wi E V C K1 hty S hz (by omega) (by omega) (fun i hi => by rw [hcv i (by omega)]; exact hall _ (List.getElem_mem _)) hfr hlo) (fun P a hp => ⟨hp.1, hp.2.1, hp.2.2.1, by rw [e]; exact hp.2.2.2⟩) (fun P a v B hp hq => ?_)
  obtain ⟨L, ⟨q1, q2, q3, q4, q5, q6, q7, ⟨V', v1, v2, v3, v4, v5⟩, q9⟩, hl, hc, hs⟩ := hq
  refine ⟨L, ⟨q1, q2, q3, q4, q5, q6, q7, ⟨V'.cls, v3, V', v1, rfl, by rw [v4, e, hlen], K4, fun i hi => ?_, fun i hi => ?_⟩, q9⟩, hl, hc, by rw [hs, e]⟩
  · have hi' : i < cs.length := by omega
    rw [v5 i (by omega), hcv i hi']; simp [List.getD_eq_getElem?_getD, hi']
  · have hi' : i < cs.length := by omega
    simp only [List.getD_eq_getElem?_getD, List.getElem?_map, List.getElem?_eq_getElem hi', Option.map_some, Option.getD_some]
    exact fits_lo8 _
end StrChars.Road
namespace StrChars.Road
open Jvm Sem ClassFile Op Lib Jvm.Stand Jvm.Free Jvm.Free.XT
/-- WHAT COMES BACK, in the writer's own shape -/
def QV (Z : State) (x : Addr) (N : Int32) (bs : List Int32) (h : Heap) (n0 : Nat) (v : Option Value) (h' : Heap) (L : List Loc) : Prop := v = none ∧ RoadKit.Fr n0 L ∧ RoadKit.Keep h h' [x] ∧ RoadKit.Exa Z h' x ST ∧ RoadKit.Fld Z h' x ST "coder" "B" (.int 0) ∧
  ∃ (t : Addr) (kb : ClassId), n0 ≤ t ∧ h.size ≤ t ∧ ¬ t = x ∧ RoadKit.Fld Z h' x ST "value" "[B" (.ref t) ∧ RoadKit.Arv Z h' t kb .byte N (bs.map Value.int) (.int 0)
/-- **new String(chars) AT A CALL, FOR THE WRITER**: a char[] of n known ints, each 0 to 255 -/
theorem backV {p : Program} {l : Launch} {e : Env} {R : Room} {s : State} {args : Array Value} {below : List Frame} {len W : Nat} {Z : State} {a0 : Array Value} {h : Heap} (hZ : Z.Warmed39 s.vm) (hw : ∀ d ∈ words, d.before a0 Z = true) {kI : Nat} (wi : (Jvm.Cond.instantiable ST kI).before a0 Z = true)
    {x b : Addr} {kC : ClassId} {cs bs : List Int32} {d v0 c0 : Value} {z N : Int32} {n n0 : Nat} (hx0 : n0 ≤ x) (hh0 : n0 ≤ h.size) (E : RoadKit.Exa Z h x ST) (V : RoadKit.Fld Z h x ST "value" "[B" v0) (C : RoadKit.Fld Z h x ST "coder" "B" c0) (K : RoadKit.Arv Z h b kC .char N (cs.map Value.int) d) (S : RoadKit.Sta Z h ST "COMPACT_STRINGS" "Z" (.int z)) (hz : ¬ z = 0)
    (hn : cs.length = n) (hN : N = Int32.ofNat n) (l0 : 0 < n) (l2 : n ≤ 4000) (hp : ∀ c ∈ cs, ¬ c < 0 ∧ ¬ (255 : Int32) < c) (hb : bs = cs.map (fun c => c.toInt8.toInt32)) (hfr : 4 ≤ R.frames) (hlo : W + 65 ≤ R.locals) :
    Back l R p e below s args (⟨"java/lang/String", "<init>", "([C)V"⟩ : MethodName) len W (fun P a => a = #[.ref x, .ref b] ∧ P.U.heap = h ∧ P.cells + 1 ≤ R.cells ∧ P.slots + n ≤ R.slots)
      (fun P _ v B => ∃ L, QV Z x N bs h n0 v B.U.heap L ∧ B.locs = P.locs ++ L ∧ B.cells = P.cells + 1 ∧ B.slots = P.slots + n) := by
  subst hn hN hb
  refine Back.mono (backArv hZ hw wi E V C K S hz (n32 (by omega)) l0 (by omega) (fun c hc => (hp c hc).2) hfr hlo) (fun P a hp => hp) (fun P a v B hp hq => ?_)
  obtain ⟨L, ⟨q1, q2, q3, q4, q5, q6, q7, ⟨kb, v1, v2⟩, q9⟩, hl, hc, hs⟩ := hq
  exact ⟨L, ⟨q1, fun y hy => by rw [q2 y hy]; exact hx0, q3, q5, q7, h.size, kb, hh0, Nat.le_refl _, Nat.ne_of_gt E.lt, q6, by rw [List.map_map]; exact v2⟩, hl, hc, hs⟩
end StrChars.Road
end Jvm.Pilot.@@N@@
namespace Jvm.Pilot.@@N@@
open Jvm Jvm.ClassFile Sem Op Lib Jvm.Free Jvm.Stand Jvm.LawKit Jvm.RoadKit Bundle Jvm.Pilot.@@N@@.Jvm.D
theorem own_w {a0 : Array Value} {Z : State} (hw : ∀ d ∈ tables_1, d.before a0 Z = true) (i : Nat) {d : Jvm.Cond} (h : tables_1[i]? = some d) : d.before a0 Z = true := hw _ (List.mem_of_getElem? h)
theorem own_keep {h h' : Heap} (e : h' = h) : Keep h h' [] := e ▸ Keep.refl _ _
theorem own_ws0 {h0 : Heap} {ws : List Addr} : ∀ x ∈ ([] : List Addr), x ∈ ws ∨ h0.size ≤ x := fun _ q => nomatch q
theorem own_ws1 {h0 : Heap} {ws : List Addr} {a : Addr} (q : h0.size ≤ a) : ∀ x ∈ [a], x ∈ ws ∨ h0.size ≤ x := fun x hx => by cases List.mem_singleton.mp hx; exact Or.inr q
theorem own_wsIn {h0 : Heap} {a : Addr} : ∀ x ∈ [a], x ∈ [a] ∨ h0.size ≤ x := fun x hx => Or.inl hx
theorem own_nin {a b : Addr} (h : a ≠ b) : a ∉ [b] := fun q => h (List.mem_singleton.mp q)
theorem own_ne {a b n : Nat} (h : a < n) (e : b = n) : a ≠ b := by omega
theorem d6_0 : decode jdk_42_method_152_code 0 = .ok (.getstatic 38, 3) := by decide +kernel
theorem d6_3 : decode jdk_42_method_152_code 3 = .ok (.ifCond .eq 10, 3) := by decide +kernel
theorem d6_13 : decode jdk_42_method_152_code 13 = .ok (.iconst 1, 1) := by decide +kernel
theorem d6_14 : decode jdk_42_method_152_code 14 = .ok (.ireturn, 1) := by decide +kernel
theorem pn_6 : plainName "java/lang/String" = true := by first | (simp [plainName, overriddenIn]; done) | decide +kernel
theorem ef_6 (m : MethodId) (x0 : Addr) : entryFrame m #[(.ref x0)] 1 = mkF m 0 #[.val (.ref x0)] [] := by first | (simp [entryFrame, mkF, argsToLocals, Value.category]; done) | rfl
theorem d6_6 : decode jdk_42_method_152_code 6 = .ok (.aload_n 0, 1) := by decide +kernel
theorem d6_7 : decode jdk_42_method_152_code 7 = .ok (.getfield 15, 3) := by decide +kernel
theorem d6_10 : decode jdk_42_method_152_code 10 = .ok (.goto 4, 3) := by decide +kernel
def own_f6 (w_COMPACT_STRINGS : Int32) (w_coder_a1 : Int32) : Int32 := (if w_COMPACT_STRINGS = (0 : Int32) then (1 : Int32) else (nar .byte w_coder_a1))
def Q6 (Z : State) (a1 : Addr) (w_COMPACT_STRINGS : Int32) (w_coder_a1 : Int32) (h0 : Heap) (n0 : Nat) (v : Option Value) (h : Heap) (L : List Loc) : Prop := v = some (.int (own_f6 w_COMPACT_STRINGS w_coder_a1)) ∧ Fr n0 L ∧ h = h0
set_option maxRecDepth 65536 in
set_option maxHeartbeats 40000000 in
theorem rm6_t (l : Launch) (Z : State) (a0 : Array Value) (hw : ∀ d ∈ tables_1, d.before a0 Z = true) (ws : List Jvm.Cond) (a1 : Addr) (w_COMPACT_STRINGS : Int32) (w_coder_a1 : Int32) (h0 : Heap) (n0 : Nat) (Z0 : n0 ≤ h0.size) (S_COMPACT_STRINGS : Sta Z h0 "java/lang/String" "COMPACT_STRINGS" "Z" (.int w_COMPACT_STRINGS)) (F_coder_a1 : Fld Z h0 a1 "java/lang/String" "coder" "B" (.int w_coder_a1)) (hc3 : w_COMPACT_STRINGS = (0 : Int32)) :
    MetFree l (⟨"java/lang/String", "coder", "()B"⟩ : MethodName) (head1 (Jvm.Cond.code (⟨"java/lang/String", "coder", "()B"⟩ : MethodName) jdk_42_method_152_code 1 (some .byte) :: ws) ({ frames := 0, cells := 0, slots := 0, locals := 0 } : Room)) (fun a U => a = #[(.ref a1)] ∧ Z.Warmed39 U.vm ∧ U.heap = h0) (fun _ _ _ _ _ => True) (fun _ U o U' => ∃ v L, o = .returned v ∧ Q6 Z a1 w_COMPACT_STRINGS w_coder_a1 h0 n0 v U'.heap L ∧ FrameEnd U o U' L ({ frames := 0, cells := 0, slots := 0, locals := 0 } : Room).cells ({ frames := 0, cells := 0, slots := 0, locals := 0 } : Room).slots) := by
  refine MetFree.of_bodySF (plainFor_of_name pn_6) hisR ?_
  intro p e s m args below meth c s₁ Bd hml0 hP hK
  obtain ⟨rfl, hZ, hh⟩ := hP
  have hx := Bd.exec
  have hby := Bd.bytes
  have hml : c.maxLocals = 1 := hml0
  have hown : s.vm.findClass "java/lang/String" = some m.cls := findClass_of_methodNamed Bd.named
  have hnm := (name_of_methodNamed Bd.named Bd.method).1
  have X0 : Stand p l e ({ frames := 0, cells := 0, slots := 0, locals := 0 } : Room) s m #[(.ref a1)] below meth c s₁ [] 0 0 := Stand.of_body Bd
  have e0 : s₁.heap = h0 := by rw [← hh, Bd.state]; rfl
  have N0 := Fr.nil n0
  have pre0 : ∀ t, Steps p.tables e below (s₁.setTop (mkF m 0 #[.val (.ref a1)] [])) t → Steps p.tables e below (s₁.setTop (entryFrame m #[(.ref a1)] 1)) t := fun t k => castTop (ef_6 m a1) k
  obtain ⟨T3, X3, e3, st3⟩ := getS2 X0 hx hZ hown (host := "") (Or.inl (own_w hw 38 rfl)) Via.refl e0 S_COMPACT_STRINGS (g := (mkF m 0 #[.val (.ref a1)] [])) rfl (hb hby d6_0)
  obtain ⟨fs, hr, hrun, hended, hW, hsame⟩ := X3.leave (v := some (.int (1 : Int32))) (fun h => by rw [Bd.returns] at h; cases h) (BodyLoose.notSynchronized Bd)
  refine ⟨_, _, pre0 _ ?_, hrun, hended, _, _, rfl, ?_, ⟨_, rfl⟩, hW, hsame.mono (by decide) (by decide)⟩
  · show Steps p.tables e below (s₁.setTop (mkF m 0 #[.val (.ref a1)] [])) _
    refine st3 _ ?_
    show Steps p.tables e below (T3.setTop (mkF m 3 #[.val (.ref a1)] [(.int w_COMPACT_STRINGS)])) _
    refine XS.ifYes X3.here hx rfl (pc0 := 3) (pc' := 13) rfl (hb hby d6_3) rfl ((if0 _ _).trans (teq hc3).1) (by decide) (by decide) ?_
    refine XS.iconst X3.here hx rfl (hb hby d6_13) ?_
    show Steps p.tables e below (T3.setTop (mkF m 14 #[.val (.ref a1)] [(.int (1 : Int32))])) _
    exact retN X3 hx (t := .byte) Bd.returns (by simp) (hb hby d6_14) hr
  · show Q6 Z a1 w_COMPACT_STRINGS w_coder_a1 h0 n0 _ T3.heap _
    rw [e3]
    exact ⟨(by unfold own_f6; rw [if_pos hc3]), N0, rfl⟩
set_option maxRecDepth 65536 in
set_option maxHeartbeats 40000000 in
theorem rm6_f (l : Launch) (Z : State) (a0 : Array Value) (hw : ∀ d ∈ tables_1, d.before a0 Z = true) (ws : List Jvm.Cond) (a1 : Addr) (w_COMPACT_STRINGS : Int32) (w_coder_a1 : Int32) (h0 : Heap) (n0 : Nat) (Z0 : n0 ≤ h0.size) (S_COMPACT_STRINGS : Sta Z h0 "java/lang/String" "COMPACT_STRINGS" "Z" (.int w_COMPACT_STRINGS)) (F_coder_a1 : Fld Z h0 a1 "java/lang/String" "coder" "B" (.int w_coder_a1)) (hc3 : ¬ (w_COMPACT_STRINGS = (0 : Int32))) :
    MetFree l (⟨"java/lang/String", "coder", "()B"⟩ : MethodName) (head1 (Jvm.Cond.code (⟨"java/lang/String", "coder", "()B"⟩ : MethodName) jdk_42_method_152_code 1 (some .byte) :: ws) ({ frames := 0, cells := 0, slots := 0, locals := 0 } : Room)) (fun a U => a = #[(.ref a1)] ∧ Z.Warmed39 U.vm ∧ U.heap = h0) (fun _ _ _ _ _ => True) (fun _ U o U' => ∃ v L, o = .returned v ∧ Q6 Z a1 w_COMPACT_STRINGS w_coder_a1 h0 n0 v U'.heap L ∧ FrameEnd U o U' L ({ frames := 0, cells := 0, slots := 0, locals := 0 } : Room).cells ({ frames := 0, cells := 0, slots := 0, locals := 0 } : Room).slots) := by
  refine MetFree.of_bodySF (plainFor_of_name pn_6) hisR ?_
  intro p e s m args below meth c s₁ Bd hml0 hP hK
  obtain ⟨rfl, hZ, hh⟩ := hP
  have hx := Bd.exec
  have hby := Bd.bytes
  have hml : c.maxLocals = 1 := hml0
  have hown : s.vm.findClass "java/lang/String" = some m.cls := findClass_of_methodNamed Bd.named
  have hnm := (name_of_methodNamed Bd.named Bd.method).1
  have X0 : Stand p l e ({ frames := 0, cells := 0, slots := 0, locals := 0 } : Room) s m #[(.ref a1)] below meth c s₁ [] 0 0 := Stand.of_body Bd
  have e0 : s₁.heap = h0 := by rw [← hh, Bd.state]; rfl
  have N0 := Fr.nil n0
  have pre0 : ∀ t, Steps p.tables e below (s₁.setTop (mkF m 0 #[.val (.ref a1)] [])) t → Steps p.tables e below (s₁.setTop (entryFrame m #[(.ref a1)] 1)) t := fun t k => castTop (ef_6 m a1) k
  obtain ⟨T3, X3, e3, st3⟩ := getS2 X0 hx hZ hown (host := "") (Or.inl (own_w hw 38 rfl)) Via.refl e0 S_COMPACT_STRINGS (g := (mkF m 0 #[.val (.ref a1)] [])) rfl (hb hby d6_0)
  obtain ⟨T5, X5, e5, st5⟩ := getF X3 hx hZ hown (host := "") (Or.inl (own_w hw 23 rfl)) Via.refl e3 F_coder_a1 (g := (mkF m 7 #[.val (.ref a1)] [(.ref a1)])) rfl rfl (hb hby d6_7)
  obtain ⟨fs, hr, hrun, hended, hW, hsame⟩ := X5.leave (v := some (.int (nar .byte w_coder_a1))) (fun h => by rw [Bd.returns] at h; cases h) (BodyLoose.notSynchronized Bd)
  refine ⟨_, _, pre0 _ ?_, hrun, hended, _, _, rfl, ?_, ⟨_, rfl⟩, hW, hsame.mono (by decide) (by decide)⟩
  · show Steps p.tables e below (s₁.setTop (mkF m 0 #[.val (.ref a1)] [])) _
    refine st3 _ ?_
    show Steps p.tables e below (T3.setTop (mkF m 3 #[.val (.ref a1)] [(.int w_COMPACT_STRINGS)])) _
    refine XS.ifNo X3.here hx rfl (hb hby d6_3) rfl ((if0 _ _).trans (feq hc3).1) ?_
    refine XS.aloadN X3.here hx rfl (hb hby d6_6) rfl rfl ?_
    show Steps p.tables e below (T3.setTop (mkF m 7 #[.val (.ref a1)] [(.ref a1)])) _
    refine st5 _ ?_
    show Steps p.tables e below (T5.setTop (mkF m 10 #[.val (.ref a1)] [(.int w_coder_a1)])) _
    refine XS.goto X5.here hx rfl (pc0 := 10) (pc' := 14) rfl (hb hby d6_10) (by decide) (by decide) ?_
    show Steps p.tables e below (T5.setTop (mkF m 14 #[.val (.ref a1)] [(.int w_coder_a1)])) _
    exact retN X5 hx (t := .byte) Bd.returns (by simp) (hb hby d6_14) hr
  · show Q6 Z a1 w_COMPACT_STRINGS w_coder_a1 h0 n0 _ T5.heap _
    rw [e5]
    exact ⟨(by unfold own_f6; rw [if_neg hc3]), N0, rfl⟩
set_option maxRecDepth 65536 in
set_option maxHeartbeats 40000000 in
theorem rm6 (l : Launch) (Z : State) (a0 : Array Value) (hw : ∀ d ∈ tables_1, d.before a0 Z = true) (ws : List Jvm.Cond) (a1 : Addr) (w_COMPACT_STRINGS : Int32) (w_coder_a1 : Int32) (h0 : Heap) (n0 : Nat) (Z0 : n0 ≤ h0.size) (S_COMPACT_STRINGS : Sta Z h0 "java/lang/String" "COMPACT_STRINGS" "Z" (.int w_COMPACT_STRINGS)) (F_coder_a1 : Fld Z h0 a1 "java/lang/String" "coder" "B" (.int w_coder_a1)) :
    MetFree l (⟨"java/lang/String", "coder", "()B"⟩ : MethodName) (head1 (Jvm.Cond.code (⟨"java/lang/String", "coder", "()B"⟩ : MethodName) jdk_42_method_152_code 1 (some .byte) :: ws) ({ frames := 0, cells := 0, slots := 0, locals := 0 } : Room)) (fun a U => a = #[(.ref a1)] ∧ Z.Warmed39 U.vm ∧ U.heap = h0) (fun _ _ _ _ _ => True) (fun _ U o U' => ∃ v L, o = .returned v ∧ Q6 Z a1 w_COMPACT_STRINGS w_coder_a1 h0 n0 v U'.heap L ∧ FrameEnd U o U' L ({ frames := 0, cells := 0, slots := 0, locals := 0 } : Room).cells ({ frames := 0, cells := 0, slots := 0, locals := 0 } : Room).slots) := by
  by_cases hc3 : w_COMPACT_STRINGS = (0 : Int32)
  · exact rm6_t l Z a0 hw ws a1 w_COMPACT_STRINGS w_coder_a1 h0 n0 Z0 S_COMPACT_STRINGS F_coder_a1 hc3
  · exact rm6_f l Z a0 hw ws a1 w_COMPACT_STRINGS w_coder_a1 h0 n0 Z0 S_COMPACT_STRINGS F_coder_a1 hc3
theorem d12_0 : decode jdk_42_method_154_code 0 = .ok (.getstatic 38, 3) := by decide +kernel
theorem d12_3 : decode jdk_42_method_154_code 3 = .ok (.ifCond .eq 14, 3) := by decide +kernel
theorem d12_17 : decode jdk_42_method_154_code 17 = .ok (.iconst 0, 1) := by decide +kernel
theorem d12_18 : decode jdk_42_method_154_code 18 = .ok (.ireturn, 1) := by decide +kernel
theorem pn_12 : plainName "java/lang/String" = true := by first | (simp [plainName, overriddenIn]; done) | decide +kernel
theorem ef_12 (m : MethodId) (x0 : Addr) : entryFrame m #[(.ref x0)] 1 = mkF m 0 #[.val (.ref x0)] [] := by first | (simp [entryFrame, mkF, argsToLocals, Value.category]; done) | rfl
theorem d12_6 : decode jdk_42_method_154_code 6 = .ok (.aload_n 0, 1) := by decide +kernel
theorem d12_7 : decode jdk_42_method_154_code 7 = .ok (.getfield 15, 3) := by decide +kernel
theorem d12_10 : decode jdk_42_method_154_code 10 = .ok (.ifCond .ne 7, 3) := by decide +kernel
theorem d12_13 : decode jdk_42_method_154_code 13 = .ok (.iconst 1, 1) := by decide +kernel
theorem d12_14 : decode jdk_42_method_154_code 14 = .ok (.goto 4, 3) := by decide +kernel
def own_f12 (w_COMPACT_STRINGS : Int32) (w_coder_a1 : Int32) : Int32 := (if w_COMPACT_STRINGS = (0 : Int32) then (0 : Int32) else (if w_coder_a1 = (0 : Int32) then (1 : Int32) else (0 : Int32)))
def Q12 (Z : State) (a1 : Addr) (w_COMPACT_STRINGS : Int32) (w_coder_a1 : Int32) (h0 : Heap) (n0 : Nat) (v : Option Value) (h : Heap) (L : List Loc) : Prop := v = some (.int (own_f12 w_COMPACT_STRINGS w_coder_a1)) ∧ Fr n0 L ∧ h = h0
set_option maxRecDepth 65536 in
set_option maxHeartbeats 40000000 in
theorem rm12_t (l : Launch) (Z : State) (a0 : Array Value) (hw : ∀ d ∈ tables_1, d.before a0 Z = true) (ws : List Jvm.Cond) (a1 : Addr) (w_COMPACT_STRINGS : Int32) (w_coder_a1 : Int32) (h0 : Heap) (n0 : Nat) (Z0 : n0 ≤ h0.size) (S_COMPACT_STRINGS : Sta Z h0 "java/lang/String" "COMPACT_STRINGS" "Z" (.int w_COMPACT_STRINGS)) (F_coder_a1 : Fld Z h0 a1 "java/lang/String" "coder" "B" (.int w_coder_a1)) (hc3 : w_COMPACT_STRINGS = (0 : Int32)) :
    MetFree l (⟨"java/lang/String", "isLatin1", "()Z"⟩ : MethodName) (head1 (Jvm.Cond.code (⟨"java/lang/String", "isLatin1", "()Z"⟩ : MethodName) jdk_42_method_154_code 1 (some .boolean) :: ws) ({ frames := 0, cells := 0, slots := 0, locals := 0 } : Room)) (fun a U => a = #[(.ref a1)] ∧ Z.Warmed39 U.vm ∧ U.heap = h0) (fun _ _ _ _ _ => True) (fun _ U o U' => ∃ v L, o = .returned v ∧ Q12 Z a1 w_COMPACT_STRINGS w_coder_a1 h0 n0 v U'.heap L ∧ FrameEnd U o U' L ({ frames := 0, cells := 0, slots := 0, locals := 0 } : Room).cells ({ frames := 0, cells := 0, slots := 0, locals := 0 } : Room).slots) := by
  refine MetFree.of_bodySF (plainFor_of_name pn_12) hisR ?_
  intro p e s m args below meth c s₁ Bd hml0 hP hK
  obtain ⟨rfl, hZ, hh⟩ := hP
  have hx := Bd.exec
  have hby := Bd.bytes
  have hml : c.maxLocals = 1 := hml0
  have hown : s.vm.findClass "java/lang/String" = some m.cls := findClass_of_methodNamed Bd.named
  have hnm := (name_of_methodNamed Bd.named Bd.method).1
  have X0 : Stand p l e ({ frames := 0, cells := 0, slots := 0, locals := 0 } : Room) s m #[(.ref a1)] below meth c s₁ [] 0 0 := Stand.of_body Bd
  have e0 : s₁.heap = h0 := by rw [← hh, Bd.state]; rfl
  have N0 := Fr.nil n0
  have pre0 : ∀ t, Steps p.tables e below (s₁.setTop (mkF m 0 #[.val (.ref a1)] [])) t → Steps p.tables e below (s₁.setTop (entryFrame m #[(.ref a1)] 1)) t := fun t k => castTop (ef_12 m a1) k
  obtain ⟨T3, X3, e3, st3⟩ := getS2 X0 hx hZ hown (host := "") (Or.inl (own_w hw 38 rfl)) Via.refl e0 S_COMPACT_STRINGS (g := (mkF m 0 #[.val (.ref a1)] [])) rfl (hb hby d12_0)
  obtain ⟨fs, hr, hrun, hended, hW, hsame⟩ := X3.leave (v := some (.int (0 : Int32))) (fun h => by rw [Bd.returns] at h; cases h) (BodyLoose.notSynchronized Bd)
  refine ⟨_, _, pre0 _ ?_, hrun, hended, _, _, rfl, ?_, ⟨_, rfl⟩, hW, hsame.mono (by decide) (by decide)⟩
  · show Steps p.tables e below (s₁.setTop (mkF m 0 #[.val (.ref a1)] [])) _
    refine st3 _ ?_
    show Steps p.tables e below (T3.setTop (mkF m 3 #[.val (.ref a1)] [(.int w_COMPACT_STRINGS)])) _
    refine XS.ifYes X3.here hx rfl (pc0 := 3) (pc' := 17) rfl (hb hby d12_3) rfl ((if0 _ _).trans (teq hc3).1) (by decide) (by decide) ?_
    refine XS.iconst X3.here hx rfl (hb hby d12_17) ?_
    show Steps p.tables e below (T3.setTop (mkF m 18 #[.val (.ref a1)] [(.int (0 : Int32))])) _
    exact retN X3 hx (t := .boolean) Bd.returns (by simp) (hb hby d12_18) hr
  · show Q12 Z a1 w_COMPACT_STRINGS w_coder_a1 h0 n0 _ T3.heap _
    rw [e3]
    exact ⟨(by unfold own_f12; rw [if_pos hc3]), N0, rfl⟩
set_option maxRecDepth 65536 in
set_option maxHeartbeats 40000000 in
theorem rm12_ft (l : Launch) (Z : State) (a0 : Array Value) (hw : ∀ d ∈ tables_1, d.before a0 Z = true) (ws : List Jvm.Cond) (a1 : Addr) (w_COMPACT_STRINGS : Int32) (w_coder_a1 : Int32) (h0 : Heap) (n0 : Nat) (Z0 : n0 ≤ h0.size) (S_COMPACT_STRINGS : Sta Z h0 "java/lang/String" "COMPACT_STRINGS" "Z" (.int w_COMPACT_STRINGS)) (F_coder_a1 : Fld Z h0 a1 "java/lang/String" "coder" "B" (.int w_coder_a1)) (hc3 : ¬ (w_COMPACT_STRINGS = (0 : Int32))) (hc10 : ¬ (w_coder_a1 = (0 : Int32))) :
    MetFree l (⟨"java/lang/String", "isLatin1", "()Z"⟩ : MethodName) (head1 (Jvm.Cond.code (⟨"java/lang/String", "isLatin1", "()Z"⟩ : MethodName) jdk_42_method_154_code 1 (some .boolean) :: ws) ({ frames := 0, cells := 0, slots := 0, locals := 0 } : Room)) (fun a U => a = #[(.ref a1)] ∧ Z.Warmed39 U.vm ∧ U.heap = h0) (fun _ _ _ _ _ => True) (fun _ U o U' => ∃ v L, o = .returned v ∧ Q12 Z a1 w_COMPACT_STRINGS w_coder_a1 h0 n0 v U'.heap L ∧ FrameEnd U o U' L ({ frames := 0, cells := 0, slots := 0, locals := 0 } : Room).cells ({ frames := 0, cells := 0, slots := 0, locals := 0 } : Room).slots) := by
  refine MetFree.of_bodySF (plainFor_of_name pn_12) hisR ?_
  intro p e s m args below meth c s₁ Bd hml0 hP hK
  obtain ⟨rfl, hZ, hh⟩ := hP
  have hx := Bd.exec
  have hby := Bd.bytes
  have hml : c.maxLocals = 1 := hml0
  have hown : s.vm.findClass "java/lang/String" = some m.cls := findClass_of_methodNamed Bd.named
  have hnm := (name_of_methodNamed Bd.named Bd.method).1
  have X0 : Stand p l e ({ frames := 0, cells := 0, slots := 0, locals := 0 } : Room) s m #[(.ref a1)] below meth c s₁ [] 0 0 := Stand.of_body Bd
  have e0 : s₁.heap = h0 := by rw [← hh, Bd.state]; rfl
  have N0 := Fr.nil n0
  have pre0 : ∀ t, Steps p.tables e below (s₁.setTop (mkF m 0 #[.val (.ref a1)] [])) t → Steps p.tables e below (s₁.setTop (entryFrame m #[(.ref a1)] 1)) t := fun t k => castTop (ef_12 m a1) k
  obtain ⟨T3, X3, e3, st3⟩ := getS2 X0 hx hZ hown (host := "") (Or.inl (own_w hw 38 rfl)) Via.refl e0 S_COMPACT_STRINGS (g := (mkF m 0 #[.val (.ref a1)] [])) rfl (hb hby d12_0)
  obtain ⟨T5, X5, e5, st5⟩ := getF X3 hx hZ hown (host := "") (Or.inl (own_w hw 23 rfl)) Via.refl e3 F_coder_a1 (g := (mkF m 7 #[.val (.ref a1)] [(.ref a1)])) rfl rfl (hb hby d12_7)
  obtain ⟨fs, hr, hrun, hended, hW, hsame⟩ := X5.leave (v := some (.int (0 : Int32))) (fun h => by rw [Bd.returns] at h; cases h) (BodyLoose.notSynchronized Bd)
  refine ⟨_, _, pre0 _ ?_, hrun, hended, _, _, rfl, ?_, ⟨_, rfl⟩, hW, hsame.mono (by decide) (by decide)⟩
  · show Steps p.tables e below (s₁.setTop (mkF m 0 #[.val (.ref a1)] [])) _
    refine st3 _ ?_
    show Steps p.tables e below (T3.setTop (mkF m 3 #[.val (.ref a1)] [(.int w_COMPACT_STRINGS)])) _
    refine XS.ifNo X3.here hx rfl (hb hby d12_3) rfl ((if0 _ _).trans (feq hc3).1) ?_
    refine XS.aloadN X3.here hx rfl (hb hby d12_6) rfl rfl ?_
    show Steps p.tables e below (T3.setTop (mkF m 7 #[.val (.ref a1)] [(.ref a1)])) _
    refine st5 _ ?_
    show Steps p.tables e below (T5.setTop (mkF m 10 #[.val (.ref a1)] [(.int w_coder_a1)])) _
    refine XS.ifYes X5.here hx rfl (pc0 := 10) (pc' := 17) rfl (hb hby d12_10) rfl ((if0 _ _).trans (feq hc10).2) (by decide) (by decide) ?_
    refine XS.iconst X5.here hx rfl (hb hby d12_17) ?_
    show Steps p.tables e below (T5.setTop (mkF m 18 #[.val (.ref a1)] [(.int (0 : Int32))])) _
    exact retN X5 hx (t := .boolean) Bd.returns (by simp) (hb hby d12_18) hr
  · show Q12 Z a1 w_COMPACT_STRINGS w_coder_a1 h0 n0 _ T5.heap _
    rw [e5]
    exact ⟨(by unfold own_f12; rw [if_neg hc3, if_neg hc10]), N0, rfl⟩
set_option maxRecDepth 65536 in
set_option maxHeartbeats 40000000 in
theorem rm12_ff (l : Launch) (Z : State) (a0 : Array Value) (hw : ∀ d ∈ tables_1, d.before a0 Z = true) (ws : List Jvm.Cond) (a1 : Addr) (w_COMPACT_STRINGS : Int32) (w_coder_a1 : Int32) (h0 : Heap) (n0 : Nat) (Z0 : n0 ≤ h0.size) (S_COMPACT_STRINGS : Sta Z h0 "java/lang/String" "COMPACT_STRINGS" "Z" (.int w_COMPACT_STRINGS)) (F_coder_a1 : Fld Z h0 a1 "java/lang/String" "coder" "B" (.int w_coder_a1)) (hc3 : ¬ (w_COMPACT_STRINGS = (0 : Int32))) (hc10 : w_coder_a1 = (0 : Int32)) :
    MetFree l (⟨"java/lang/String", "isLatin1", "()Z"⟩ : MethodName) (head1 (Jvm.Cond.code (⟨"java/lang/String", "isLatin1", "()Z"⟩ : MethodName) jdk_42_method_154_code 1 (some .boolean) :: ws) ({ frames := 0, cells := 0, slots := 0, locals := 0 } : Room)) (fun a U => a = #[(.ref a1)] ∧ Z.Warmed39 U.vm ∧ U.heap = h0) (fun _ _ _ _ _ => True) (fun _ U o U' => ∃ v L, o = .returned v ∧ Q12 Z a1 w_COMPACT_STRINGS w_coder_a1 h0 n0 v U'.heap L ∧ FrameEnd U o U' L ({ frames := 0, cells := 0, slots := 0, locals := 0 } : Room).cells ({ frames := 0, cells := 0, slots := 0, locals := 0 } : Room).slots) := by
  refine MetFree.of_bodySF (plainFor_of_name pn_12) hisR ?_
  intro p e s m args below meth c s₁ Bd hml0 hP hK
  obtain ⟨rfl, hZ, hh⟩ := hP
  have hx := Bd.exec
  have hby := Bd.bytes
  have hml : c.maxLocals = 1 := hml0
  have hown : s.vm.findClass "java/lang/String" = some m.cls := findClass_of_methodNamed Bd.named
  have hnm := (name_of_methodNamed Bd.named Bd.method).1
  have X0 : Stand p l e ({ frames := 0, cells := 0, slots := 0, locals := 0 } : Room) s m #[(.ref a1)] below meth c s₁ [] 0 0 := Stand.of_body Bd
  have e0 : s₁.heap = h0 := by rw [← hh, Bd.state]; rfl
  have N0 := Fr.nil n0
  have pre0 : ∀ t, Steps p.tables e below (s₁.setTop (mkF m 0 #[.val (.ref a1)] [])) t → Steps p.tables e below (s₁.setTop (entryFrame m #[(.ref a1)] 1)) t := fun t k => castTop (ef_12 m a1) k
  obtain ⟨T3, X3, e3, st3⟩ := getS2 X0 hx hZ hown (host := "") (Or.inl (own_w hw 38 rfl)) Via.refl e0 S_COMPACT_STRINGS (g := (mkF m 0 #[.val (.ref a1)] [])) rfl (hb hby d12_0)
  obtain ⟨T5, X5, e5, st5⟩ := getF X3 hx hZ hown (host := "") (Or.inl (own_w hw 23 rfl)) Via.refl e3 F_coder_a1 (g := (mkF m 7 #[.val (.ref a1)] [(.ref a1)])) rfl rfl (hb hby d12_7)
  obtain ⟨fs, hr, hrun, hended, hW, hsame⟩ := X5.leave (v := some (.int (1 : Int32))) (fun h => by rw [Bd.returns] at h; cases h) (BodyLoose.notSynchronized Bd)
  refine ⟨_, _, pre0 _ ?_, hrun, hended, _, _, rfl, ?_, ⟨_, rfl⟩, hW, hsame.mono (by decide) (by decide)⟩
  · show Steps p.tables e below (s₁.setTop (mkF m 0 #[.val (.ref a1)] [])) _
    refine st3 _ ?_
    show Steps p.tables e below (T3.setTop (mkF m 3 #[.val (.ref a1)] [(.int w_COMPACT_STRINGS)])) _
    refine XS.ifNo X3.here hx rfl (hb hby d12_3) rfl ((if0 _ _).trans (feq hc3).1) ?_
    refine XS.aloadN X3.here hx rfl (hb hby d12_6) rfl rfl ?_
    show Steps p.tables e below (T3.setTop (mkF m 7 #[.val (.ref a1)] [(.ref a1)])) _
    refine st5 _ ?_
    show Steps p.tables e below (T5.setTop (mkF m 10 #[.val (.ref a1)] [(.int w_coder_a1)])) _
    refine XS.ifNo X5.here hx rfl (hb hby d12_10) rfl ((if0 _ _).trans (teq hc10).2) ?_
    refine XS.iconst X5.here hx rfl (hb hby d12_13) ?_
    refine XS.goto X5.here hx rfl (pc0 := 14) (pc' := 18) rfl (hb hby d12_14) (by decide) (by decide) ?_
    show Steps p.tables e below (T5.setTop (mkF m 18 #[.val (.ref a1)] [(.int (1 : Int32))])) _
    exact retN X5 hx (t := .boolean) Bd.returns (by simp) (hb hby d12_18) hr
  · show Q12 Z a1 w_COMPACT_STRINGS w_coder_a1 h0 n0 _ T5.heap _
    rw [e5]
    exact ⟨(by unfold own_f12; rw [if_neg hc3, if_pos hc10]), N0, rfl⟩
set_option maxRecDepth 65536 in
set_option maxHeartbeats 40000000 in
theorem rm12 (l : Launch) (Z : State) (a0 : Array Value) (hw : ∀ d ∈ tables_1, d.before a0 Z = true) (ws : List Jvm.Cond) (a1 : Addr) (w_COMPACT_STRINGS : Int32) (w_coder_a1 : Int32) (h0 : Heap) (n0 : Nat) (Z0 : n0 ≤ h0.size) (S_COMPACT_STRINGS : Sta Z h0 "java/lang/String" "COMPACT_STRINGS" "Z" (.int w_COMPACT_STRINGS)) (F_coder_a1 : Fld Z h0 a1 "java/lang/String" "coder" "B" (.int w_coder_a1)) :
    MetFree l (⟨"java/lang/String", "isLatin1", "()Z"⟩ : MethodName) (head1 (Jvm.Cond.code (⟨"java/lang/String", "isLatin1", "()Z"⟩ : MethodName) jdk_42_method_154_code 1 (some .boolean) :: ws) ({ frames := 0, cells := 0, slots := 0, locals := 0 } : Room)) (fun a U => a = #[(.ref a1)] ∧ Z.Warmed39 U.vm ∧ U.heap = h0) (fun _ _ _ _ _ => True) (fun _ U o U' => ∃ v L, o = .returned v ∧ Q12 Z a1 w_COMPACT_STRINGS w_coder_a1 h0 n0 v U'.heap L ∧ FrameEnd U o U' L ({ frames := 0, cells := 0, slots := 0, locals := 0 } : Room).cells ({ frames := 0, cells := 0, slots := 0, locals := 0 } : Room).slots) := by
  by_cases hc3 : w_COMPACT_STRINGS = (0 : Int32)
  · exact rm12_t l Z a0 hw ws a1 w_COMPACT_STRINGS w_coder_a1 h0 n0 Z0 S_COMPACT_STRINGS F_coder_a1 hc3
  · by_cases hc10 : w_coder_a1 = (0 : Int32)
    · exact rm12_ff l Z a0 hw ws a1 w_COMPACT_STRINGS w_coder_a1 h0 n0 Z0 S_COMPACT_STRINGS F_coder_a1 hc3 hc10
    · exact rm12_ft l Z a0 hw ws a1 w_COMPACT_STRINGS w_coder_a1 h0 n0 Z0 S_COMPACT_STRINGS F_coder_a1 hc3 hc10
theorem d16_0 : decode prog_21_method_4_code 0 = .ok (.iload_n 0, 1) := by decide +kernel
theorem d16_1 : decode prog_21_method_4_code 1 = .ok (.bipush 48, 2) := by decide +kernel
theorem d16_3 : decode prog_21_method_4_code 3 = .ok (.if_icmp .lt 9, 3) := by decide +kernel
theorem d16_12 : decode prog_21_method_4_code 12 = .ok (.iload_n 0, 1) := by decide +kernel
theorem d16_13 : decode prog_21_method_4_code 13 = .ok (.bipush 65, 2) := by decide +kernel
theorem d16_15 : decode prog_21_method_4_code 15 = .ok (.if_icmp .lt 9, 3) := by decide +kernel
theorem d16_24 : decode prog_21_method_4_code 24 = .ok (.iload_n 0, 1) := by decide +kernel
theorem d16_25 : decode prog_21_method_4_code 25 = .ok (.bipush 97, 2) := by decide +kernel
theorem d16_27 : decode prog_21_method_4_code 27 = .ok (.if_icmp .lt 13, 3) := by decide +kernel
theorem d16_40 : decode prog_21_method_4_code 40 = .ok (.iconst 0, 1) := by decide +kernel
theorem d16_41 : decode prog_21_method_4_code 41 = .ok (.ireturn, 1) := by decide +kernel
theorem pn_16 : plainName "com/example/marcwerk/marcwerk/marc/MarcText" = true := by first | (simp [plainName, overriddenIn]; done) | decide +kernel
theorem ef_16 (m : MethodId) (x0 : Int32) : entryFrame m #[(.int x0)] 1 = mkF m 0 #[.val (.int x0)] [] := by first | (simp [entryFrame, mkF, argsToLocals, Value.category]; done) | rfl
theorem d16_30 : decode prog_21_method_4_code 30 = .ok (.iload_n 0, 1) := by decide +kernel
theorem d16_31 : decode prog_21_method_4_code 31 = .ok (.bipush 122, 2) := by decide +kernel
theorem d16_33 : decode prog_21_method_4_code 33 = .ok (.if_icmp .gt 7, 3) := by decide +kernel
theorem d16_36 : decode prog_21_method_4_code 36 = .ok (.iconst 1, 1) := by decide +kernel
theorem d16_37 : decode prog_21_method_4_code 37 = .ok (.goto 4, 3) := by decide +kernel
theorem d16_18 : decode prog_21_method_4_code 18 = .ok (.iload_n 0, 1) := by decide +kernel
theorem d16_19 : decode prog_21_method_4_code 19 = .ok (.bipush 90, 2) := by decide +kernel
theorem d16_21 : decode prog_21_method_4_code 21 = .ok (.if_icmp .le 15, 3) := by decide +kernel
theorem d16_6 : decode prog_21_method_4_code 6 = .ok (.iload_n 0, 1) := by decide +kernel
theorem d16_7 : decode prog_21_method_4_code 7 = .ok (.bipush 57, 2) := by decide +kernel
theorem d16_9 : decode prog_21_method_4_code 9 = .ok (.if_icmp .le 27, 3) := by decide +kernel
def own_f16 (p1 : Int32) : Int32 := (if p1 < (48 : Int32) then (if p1 < (65 : Int32) then (if p1 < (97 : Int32) then (0 : Int32) else (if (122 : Int32) < p1 then (0 : Int32) else (1 : Int32))) else (if (90 : Int32) < p1 then (if p1 < (97 : Int32) then (0 : Int32) else (if (122 : Int32) < p1 then (0 : Int32) else (1 : Int32))) else (1 : Int32))) else (if (57 : Int32) < p1 then (if p1 < (65 : Int32) then (if p1 < (97 : Int32) then (0 : Int32) else (if (122 : Int32) < p1 then (0 : Int32) else (1 : Int32))) else (if (90 : Int32) < p1 then (if p1 < (97 : Int32) then (0 : Int32) else (if (122 : Int32) < p1 then (0 : Int32) else (1 : Int32))) else (1 : Int32))) else (1 : Int32)))
def Q16 (Z : State) (p1 : Int32) (h0 : Heap) (n0 : Nat) (v : Option Value) (h : Heap) (L : List Loc) : Prop := v = some (.int (own_f16 p1)) ∧ Fr n0 L ∧ h = h0
set_option maxRecDepth 65536 in
set_option maxHeartbeats 40000000 in
theorem rm16_ttt (l : Launch) (Z : State) (a0 : Array Value) (hw : ∀ d ∈ tables_1, d.before a0 Z = true) (ws : List Jvm.Cond) (p1 : Int32) (h0 : Heap) (n0 : Nat) (Z0 : n0 ≤ h0.size) (hc3 : p1 < (48 : Int32)) (hc15 : p1 < (65 : Int32)) (hc27 : p1 < (97 : Int32)) :
    MetFree l (⟨"com/example/marcwerk/marcwerk/marc/MarcText", "isTagCharacter", "(C)Z"⟩ : MethodName) (head1 (Jvm.Cond.code (⟨"com/example/marcwerk/marcwerk/marc/MarcText", "isTagCharacter", "(C)Z"⟩ : MethodName) prog_21_method_4_code 1 (some .boolean) :: ws) ({ frames := 0, cells := 0, slots := 0, locals := 0 } : Room)) (fun a U => a = #[(.int p1)] ∧ Z.Warmed39 U.vm ∧ U.heap = h0) (fun _ _ _ _ _ => True) (fun _ U o U' => ∃ v L, o = .returned v ∧ Q16 Z p1 h0 n0 v U'.heap L ∧ FrameEnd U o U' L ({ frames := 0, cells := 0, slots := 0, locals := 0 } : Room).cells ({ frames := 0, cells := 0, slots := 0, locals := 0 } : Room).slots) := by
  refine MetFree.of_bodySF (plainFor_of_name pn_16) hisR ?_
  intro p e s m args below meth c s₁ Bd hml0 hP hK
  obtain ⟨rfl, hZ, hh⟩ := hP
  have hx := Bd.exec
  have hby := Bd.bytes
  have hml : c.maxLocals = 1 := hml0
  have hown : s.vm.findClass "com/example/marcwerk/marcwerk/marc/MarcText" = some m.cls := findClass_of_methodNamed Bd.named
  have hnm := (name_of_methodNamed Bd.named Bd.method).1
  have X0 : Stand p l e ({ frames := 0, cells := 0, slots := 0, locals := 0 } : Room) s m #[(.int p1)] below meth c s₁ [] 0 0 := Stand.of_body Bd
  have e0 : s₁.heap = h0 := by rw [← hh, Bd.state]; rfl
  have N0 := Fr.nil n0
  have pre0 : ∀ t, Steps p.tables e below (s₁.setTop (mkF m 0 #[.val (.int p1)] [])) t → Steps p.tables e below (s₁.setTop (entryFrame m #[(.int p1)] 1)) t := fun t k => castTop (ef_16 m p1) k

  obtain ⟨fs, hr, hrun, hended, hW, hsame⟩ := X0.leave (v := some (.int (0 : Int32))) (fun h => by rw [Bd.returns] at h; cases h) (BodyLoose.notSynchronized Bd)
  refine ⟨_, _, pre0 _ ?_, hrun, hended, _, _, rfl, ?_, ⟨_, rfl⟩, hW, hsame.mono (by decide) (by decide)⟩
  · show Steps p.tables e below (s₁.setTop (mkF m 0 #[.val (.int p1)] [])) _
    refine XS.iloadN X0.here hx rfl (hb hby d16_0) rfl ?_
    refine XS.bipush X0.here hx rfl (hb hby d16_1) ?_
    refine XS.icmpYes X0.here hx rfl (pc0 := 3) (pc' := 12) rfl (hb hby d16_3) rfl (tlt hc3).1 (by decide) (by decide) ?_
    refine XS.iloadN X0.here hx rfl (hb hby d16_12) rfl ?_
    refine XS.bipush X0.here hx rfl (hb hby d16_13) ?_
    refine XS.icmpYes X0.here hx rfl (pc0 := 15) (pc' := 24) rfl (hb hby d16_15) rfl (tlt hc15).1 (by decide) (by decide) ?_
    refine XS.iloadN X0.here hx rfl (hb hby d16_24) rfl ?_
    refine XS.bipush X0.here hx rfl (hb hby d16_25) ?_
    refine XS.icmpYes X0.here hx rfl (pc0 := 27) (pc' := 40) rfl (hb hby d16_27) rfl (tlt hc27).1 (by decide) (by decide) ?_
    refine XS.iconst X0.here hx rfl (hb hby d16_40) ?_
    show Steps p.tables e below (s₁.setTop (mkF m 41 #[.val (.int p1)] [(.int (0 : Int32))])) _
    exact retN X0 hx (t := .boolean) Bd.returns (by simp) (hb hby d16_41) hr
  · show Q16 Z p1 h0 n0 _ s₁.heap _
    rw [e0]
    exact ⟨(by unfold own_f16; rw [if_pos hc3, if_pos hc15, if_pos hc27]), N0, rfl⟩
set_option maxRecDepth 65536 in
set_option maxHeartbeats 40000000 in
theorem rm16_ttft (l : Launch) (Z : State) (a0 : Array Value) (hw : ∀ d ∈ tables_1, d.before a0 Z = true) (ws : List Jvm.Cond) (p1 : Int32) (h0 : Heap) (n0 : Nat) (Z0 : n0 ≤ h0.size) (hc3 : p1 < (48 : Int32)) (hc15 : p1 < (65 : Int32)) (hc27 : ¬ (p1 < (97 : Int32))) (hc33 : (122 : Int32) < p1) :
    MetFree l (⟨"com/example/marcwerk/marcwerk/marc/MarcText", "isTagCharacter", "(C)Z"⟩ : MethodName) (head1 (Jvm.Cond.code (⟨"com/example/marcwerk/marcwerk/marc/MarcText", "isTagCharacter", "(C)Z"⟩ : MethodName) prog_21_method_4_code 1 (some .boolean) :: ws) ({ frames := 0, cells := 0, slots := 0, locals := 0 } : Room)) (fun a U => a = #[(.int p1)] ∧ Z.Warmed39 U.vm ∧ U.heap = h0) (fun _ _ _ _ _ => True) (fun _ U o U' => ∃ v L, o = .returned v ∧ Q16 Z p1 h0 n0 v U'.heap L ∧ FrameEnd U o U' L ({ frames := 0, cells := 0, slots := 0, locals := 0 } : Room).cells ({ frames := 0, cells := 0, slots := 0, locals := 0 } : Room).slots) := by
  refine MetFree.of_bodySF (plainFor_of_name pn_16) hisR ?_
  intro p e s m args below meth c s₁ Bd hml0 hP hK
  obtain ⟨rfl, hZ, hh⟩ := hP
  have hx := Bd.exec
  have hby := Bd.bytes
  have hml : c.maxLocals = 1 := hml0
  have hown : s.vm.findClass "com/example/marcwerk/marcwerk/marc/MarcText" = some m.cls := findClass_of_methodNamed Bd.named
  have hnm := (name_of_methodNamed Bd.named Bd.method).1
  have X0 : Stand p l e ({ frames := 0, cells := 0, slots := 0, locals := 0 } : Room) s m #[(.int p1)] below meth c s₁ [] 0 0 := Stand.of_body Bd
  have e0 : s₁.heap = h0 := by rw [← hh, Bd.state]; rfl
  have N0 := Fr.nil n0
  have pre0 : ∀ t, Steps p.tables e below (s₁.setTop (mkF m 0 #[.val (.int p1)] [])) t → Steps p.tables e below (s₁.setTop (entryFrame m #[(.int p1)] 1)) t := fun t k => castTop (ef_16 m p1) k

  obtain ⟨fs, hr, hrun, hended, hW, hsame⟩ := X0.leave (v := some (.int (0 : Int32))) (fun h => by rw [Bd.returns] at h; cases h) (BodyLoose.notSynchronized Bd)
  refine ⟨_, _, pre0 _ ?_, hrun, hended, _, _, rfl, ?_, ⟨_, rfl⟩, hW, hsame.mono (by decide) (by decide)⟩
  · show Steps p.tables e below (s₁.setTop (mkF m 0 #[.val (.int p1)] [])) _
    refine XS.iloadN X0.here hx rfl (hb hby d16_0) rfl ?_
    refine XS.bipush X0.here hx rfl (hb hby d16_1) ?_
    refine XS.icmpYes X0.here hx rfl (pc0 := 3) (pc' := 12) rfl (hb hby d16_3) rfl (tlt hc3).1 (by decide) (by decide) ?_
    refine XS.iloadN X0.here hx rfl (hb hby d16_12) rfl ?_
    refine XS.bipush X0.here hx rfl (hb hby d16_13) ?_
    refine XS.icmpYes X0.here hx rfl (pc0 := 15) (pc' := 24) rfl (hb hby d16_15) rfl (tlt hc15).1 (by decide) (by decide) ?_
    refine XS.iloadN X0.here hx rfl (hb hby d16_24) rfl ?_
    refine XS.bipush X0.here hx rfl (hb hby d16_25) ?_
    refine XS.icmpNo X0.here hx rfl (hb hby d16_27) rfl (flt hc27).1 ?_
    refine XS.iloadN X0.here hx rfl (hb hby d16_30) rfl ?_
    refine XS.bipush X0.here hx rfl (hb hby d16_31) ?_
    refine XS.icmpYes X0.here hx rfl (pc0 := 33) (pc' := 40) rfl (hb hby d16_33) rfl (tlt hc33).2.2.1 (by decide) (by decide) ?_
    refine XS.iconst X0.here hx rfl (hb hby d16_40) ?_
    show Steps p.tables e below (s₁.setTop (mkF m 41 #[.val (.int p1)] [(.int (0 : Int32))])) _
    exact retN X0 hx (t := .boolean) Bd.returns (by simp) (hb hby d16_41) hr
  · show Q16 Z p1 h0 n0 _ s₁.heap _
    rw [e0]
    exact ⟨(by unfold own_f16; rw [if_pos hc3, if_pos hc15, if_neg hc27, if_pos hc33]), N0, rfl⟩
set_option maxRecDepth 65536 in
set_option maxHeartbeats 40000000 in
theorem rm16_ttff (l : Launch) (Z : State) (a0 : Array Value) (hw : ∀ d ∈ tables_1, d.before a0 Z = true) (ws : List Jvm.Cond) (p1 : Int32) (h0 : Heap) (n0 : Nat) (Z0 : n0 ≤ h0.size) (hc3 : p1 < (48 : Int32)) (hc15 : p1 < (65 : Int32)) (hc27 : ¬ (p1 < (97 : Int32))) (hc33 : ¬ ((122 : Int32) < p1)) :
    MetFree l (⟨"com/example/marcwerk/marcwerk/marc/MarcText", "isTagCharacter", "(C)Z"⟩ : MethodName) (head1 (Jvm.Cond.code (⟨"com/example/marcwerk/marcwerk/marc/MarcText", "isTagCharacter", "(C)Z"⟩ : MethodName) prog_21_method_4_code 1 (some .boolean) :: ws) ({ frames := 0, cells := 0, slots := 0, locals := 0 } : Room)) (fun a U => a = #[(.int p1)] ∧ Z.Warmed39 U.vm ∧ U.heap = h0) (fun _ _ _ _ _ => True) (fun _ U o U' => ∃ v L, o = .returned v ∧ Q16 Z p1 h0 n0 v U'.heap L ∧ FrameEnd U o U' L ({ frames := 0, cells := 0, slots := 0, locals := 0 } : Room).cells ({ frames := 0, cells := 0, slots := 0, locals := 0 } : Room).slots) := by
  refine MetFree.of_bodySF (plainFor_of_name pn_16) hisR ?_
  intro p e s m args below meth c s₁ Bd hml0 hP hK
  obtain ⟨rfl, hZ, hh⟩ := hP
  have hx := Bd.exec
  have hby := Bd.bytes
  have hml : c.maxLocals = 1 := hml0
  have hown : s.vm.findClass "com/example/marcwerk/marcwerk/marc/MarcText" = some m.cls := findClass_of_methodNamed Bd.named
  have hnm := (name_of_methodNamed Bd.named Bd.method).1
  have X0 : Stand p l e ({ frames := 0, cells := 0, slots := 0, locals := 0 } : Room) s m #[(.int p1)] below meth c s₁ [] 0 0 := Stand.of_body Bd
  have e0 : s₁.heap = h0 := by rw [← hh, Bd.state]; rfl
  have N0 := Fr.nil n0
  have pre0 : ∀ t, Steps p.tables e below (s₁.setTop (mkF m 0 #[.val (.int p1)] [])) t → Steps p.tables e below (s₁.setTop (entryFrame m #[(.int p1)] 1)) t := fun t k => castTop (ef_16 m p1) k

  obtain ⟨fs, hr, hrun, hended, hW, hsame⟩ := X0.leave (v := some (.int (1 : Int32))) (fun h => by rw [Bd.returns] at h; cases h) (BodyLoose.notSynchronized Bd)
  refine ⟨_, _, pre0 _ ?_, hrun, hended, _, _, rfl, ?_, ⟨_, rfl⟩, hW, hsame.mono (by decide) (by decide)⟩
  · show Steps p.tables e below (s₁.setTop (mkF m 0 #[.val (.int p1)] [])) _
    refine XS.iloadN X0.here hx rfl (hb hby d16_0) rfl ?_
    refine XS.bipush X0.here hx rfl (hb hby d16_1) ?_
    refine XS.icmpYes X0.here hx rfl (pc0 := 3) (pc' := 12) rfl (hb hby d16_3) rfl (tlt hc3).1 (by decide) (by decide) ?_
    refine XS.iloadN X0.here hx rfl (hb hby d16_12) rfl ?_
    refine XS.bipush X0.here hx rfl (hb hby d16_13) ?_
    refine XS.icmpYes X0.here hx rfl (pc0 := 15) (pc' := 24) rfl (hb hby d16_15) rfl (tlt hc15).1 (by decide) (by decide) ?_
    refine XS.iloadN X0.here hx rfl (hb hby d16_24) rfl ?_
    refine XS.bipush X0.here hx rfl (hb hby d16_25) ?_
    refine XS.icmpNo X0.here hx rfl (hb hby d16_27) rfl (flt hc27).1 ?_
    refine XS.iloadN X0.here hx rfl (hb hby d16_30) rfl ?_
    refine XS.bipush X0.here hx rfl (hb hby d16_31) ?_
    refine XS.icmpNo X0.here hx rfl (hb hby d16_33) rfl (flt hc33).2.2.1 ?_
    refine XS.iconst X0.here hx rfl (hb hby d16_36) ?_
    refine XS.goto X0.here hx rfl (pc0 := 37) (pc' := 41) rfl (hb hby d16_37) (by decide) (by decide) ?_
    show Steps p.tables e below (s₁.setTop (mkF m 41 #[.val (.int p1)] [(.int (1 : Int32))])) _
    exact retN X0 hx (t := .boolean) Bd.returns (by simp) (hb hby d16_41) hr
  · show Q16 Z p1 h0 n0 _ s₁.heap _
    rw [e0]
    exact ⟨(by unfold own_f16; rw [if_pos hc3, if_pos hc15, if_neg hc27, if_neg hc33]), N0, rfl⟩
set_option maxRecDepth 65536 in
set_option maxHeartbeats 40000000 in
theorem rm16_tft (l : Launch) (Z : State) (a0 : Array Value) (hw : ∀ d ∈ tables_1, d.before a0 Z = true) (ws : List Jvm.Cond) (p1 : Int32) (h0 : Heap) (n0 : Nat) (Z0 : n0 ≤ h0.size) (hc3 : p1 < (48 : Int32)) (hc15 : ¬ (p1 < (65 : Int32))) (hc21 : ¬ ((90 : Int32) < p1)) :
    MetFree l (⟨"com/example/marcwerk/marcwerk/marc/MarcText", "isTagCharacter", "(C)Z"⟩ : MethodName) (head1 (Jvm.Cond.code (⟨"com/example/marcwerk/marcwerk/marc/MarcText", "isTagCharacter", "(C)Z"⟩ : MethodName) prog_21_method_4_code 1 (some .boolean) :: ws) ({ frames := 0, cells := 0, slots := 0, locals := 0 } : Room)) (fun a U => a = #[(.int p1)] ∧ Z.Warmed39 U.vm ∧ U.heap = h0) (fun _ _ _ _ _ => True) (fun _ U o U' => ∃ v L, o = .returned v ∧ Q16 Z p1 h0 n0 v U'.heap L ∧ FrameEnd U o U' L ({ frames := 0, cells := 0, slots := 0, locals := 0 } : Room).cells ({ frames := 0, cells := 0, slots := 0, locals := 0 } : Room).slots) := by
  refine MetFree.of_bodySF (plainFor_of_name pn_16) hisR ?_
  intro p e s m args below meth c s₁ Bd hml0 hP hK
  obtain ⟨rfl, hZ, hh⟩ := hP
  have hx := Bd.exec
  have hby := Bd.bytes
  have hml : c.maxLocals = 1 := hml0
  have hown : s.vm.findClass "com/example/marcwerk/marcwerk/marc/MarcText" = some m.cls := findClass_of_methodNamed Bd.named
  have hnm := (name_of_methodNamed Bd.named Bd.method).1
  have X0 : Stand p l e ({ frames := 0, cells := 0, slots := 0, locals := 0 } : Room) s m #[(.int p1)] below meth c s₁ [] 0 0 := Stand.of_body Bd
  have e0 : s₁.heap = h0 := by rw [← hh, Bd.state]; rfl
  have N0 := Fr.nil n0
  have pre0 : ∀ t, Steps p.tables e below (s₁.setTop (mkF m 0 #[.val (.int p1)] [])) t → Steps p.tables e below (s₁.setTop (entryFrame m #[(.int p1)] 1)) t := fun t k => castTop (ef_16 m p1) k

  obtain ⟨fs, hr, hrun, hended, hW, hsame⟩ := X0.leave (v := some (.int (1 : Int32))) (fun h => by rw [Bd.returns] at h; cases h) (BodyLoose.notSynchronized Bd)
  refine ⟨_, _, pre0 _ ?_, hrun, hended, _, _, rfl, ?_, ⟨_, rfl⟩, hW, hsame.mono (by decide) (by decide)⟩
  · show Steps p.tables e below (s₁.setTop (mkF m 0 #[.val (.int p1)] [])) _
    refine XS.iloadN X0.here hx rfl (hb hby d16_0) rfl ?_
    refine XS.bipush X0.here hx rfl (hb hby d16_1) ?_
    refine XS.icmpYes X0.here hx rfl (pc0 := 3) (pc' := 12) rfl (hb hby d16_3) rfl (tlt hc3).1 (by decide) (by decide) ?_
    refine XS.iloadN X0.here hx rfl (hb hby d16_12) rfl ?_
    refine XS.bipush X0.here hx rfl (hb hby d16_13) ?_
    refine XS.icmpNo X0.here hx rfl (hb hby d16_15) rfl (flt hc15).1 ?_
    refine XS.iloadN X0.here hx rfl (hb hby d16_18) rfl ?_
    refine XS.bipush X0.here hx rfl (hb hby d16_19) ?_
    refine XS.icmpYes X0.here hx rfl (pc0 := 21) (pc' := 36) rfl (hb hby d16_21) rfl (flt hc21).2.2.2 (by decide) (by decide) ?_
    refine XS.iconst X0.here hx rfl (hb hby d16_36) ?_
    refine XS.goto X0.here hx rfl (pc0 := 37) (pc' := 41) rfl (hb hby d16_37) (by decide) (by decide) ?_
    show Steps p.tables e below (s₁.setTop (mkF m 41 #[.val (.int p1)] [(.int (1 : Int32))])) _
    exact retN X0 hx (t := .boolean) Bd.returns (by simp) (hb hby d16_41) hr
  · show Q16 Z p1 h0 n0 _ s₁.heap _
    rw [e0]
    exact ⟨(by unfold own_f16; rw [if_pos hc3, if_neg hc15, if_neg hc21]), N0, rfl⟩
set_option maxRecDepth 65536 in
set_option maxHeartbeats 40000000 in
theorem rm16_tfft (l : Launch) (Z : State) (a0 : Array Value) (hw : ∀ d ∈ tables_1, d.before a0 Z = true) (ws : List Jvm.Cond) (p1 : Int32) (h0 : Heap) (n0 : Nat) (Z0 : n0 ≤ h0.size) (hc3 : p1 < (48 : Int32)) (hc15 : ¬ (p1 < (65 : Int32))) (hc21 : (90 : Int32) < p1) (hc27 : p1 < (97 : Int32)) :
    MetFree l (⟨"com/example/marcwerk/marcwerk/marc/MarcText", "isTagCharacter", "(C)Z"⟩ : MethodName) (head1 (Jvm.Cond.code (⟨"com/example/marcwerk/marcwerk/marc/MarcText", "isTagCharacter", "(C)Z"⟩ : MethodName) prog_21_method_4_code 1 (some .boolean) :: ws) ({ frames := 0, cells := 0, slots := 0, locals := 0 } : Room)) (fun a U => a = #[(.int p1)] ∧ Z.Warmed39 U.vm ∧ U.heap = h0) (fun _ _ _ _ _ => True) (fun _ U o U' => ∃ v L, o = .returned v ∧ Q16 Z p1 h0 n0 v U'.heap L ∧ FrameEnd U o U' L ({ frames := 0, cells := 0, slots := 0, locals := 0 } : Room).cells ({ frames := 0, cells := 0, slots := 0, locals := 0 } : Room).slots) := by
  refine MetFree.of_bodySF (plainFor_of_name pn_16) hisR ?_
  intro p e s m args below meth c s₁ Bd hml0 hP hK
  obtain ⟨rfl, hZ, hh⟩ := hP
  have hx := Bd.exec
  have hby := Bd.bytes
  have hml : c.maxLocals = 1 := hml0
  have hown : s.vm.findClass "com/example/marcwerk/marcwerk/marc/MarcText" = some m.cls := findClass_of_methodNamed Bd.named
  have hnm := (name_of_methodNamed Bd.named Bd.method).1
  have X0 : Stand p l e ({ frames := 0, cells := 0, slots := 0, locals := 0 } : Room) s m #[(.int p1)] below meth c s₁ [] 0 0 := Stand.of_body Bd
  have e0 : s₁.heap = h0 := by rw [← hh, Bd.state]; rfl
  have N0 := Fr.nil n0
  have pre0 : ∀ t, Steps p.tables e below (s₁.setTop (mkF m 0 #[.val (.int p1)] [])) t → Steps p.tables e below (s₁.setTop (entryFrame m #[(.int p1)] 1)) t := fun t k => castTop (ef_16 m p1) k

  obtain ⟨fs, hr, hrun, hended, hW, hsame⟩ := X0.leave (v := some (.int (0 : Int32))) (fun h => by rw [Bd.returns] at h; cases h) (BodyLoose.notSynchronized Bd)
  refine ⟨_, _, pre0 _ ?_, hrun, hended, _, _, rfl, ?_, ⟨_, rfl⟩, hW, hsame.mono (by decide) (by decide)⟩
  · show Steps p.tables e below (s₁.setTop (mkF m 0 #[.val (.int p1)] [])) _
    refine XS.iloadN X0.here hx rfl (hb hby d16_0) rfl ?_
    refine XS.bipush X0.here hx rfl (hb hby d16_1) ?_
    refine XS.icmpYes X0.here hx rfl (pc0 := 3) (pc' := 12) rfl (hb hby d16_3) rfl (tlt hc3).1 (by decide) (by decide) ?_
    refine XS.iloadN X0.here hx rfl (hb hby d16_12) rfl ?_
    refine XS.bipush X0.here hx rfl (hb hby d16_13) ?_
    refine XS.icmpNo X0.here hx rfl (hb hby d16_15) rfl (flt hc15).1 ?_
    refine XS.iloadN X0.here hx rfl (hb hby d16_18) rfl ?_
    refine XS.bipush X0.here hx rfl (hb hby d16_19) ?_
    refine XS.icmpNo X0.here hx rfl (hb hby d16_21) rfl (tlt hc21).2.2.2 ?_
    refine XS.iloadN X0.here hx rfl (hb hby d16_24) rfl ?_
    refine XS.bipush X0.here hx rfl (hb hby d16_25) ?_
    refine XS.icmpYes X0.here hx rfl (pc0 := 27) (pc' := 40) rfl (hb hby d16_27) rfl (tlt hc27).1 (by decide) (by decide) ?_
    refine XS.iconst X0.here hx rfl (hb hby d16_40) ?_
    show Steps p.tables e below (s₁.setTop (mkF m 41 #[.val (.int p1)] [(.int (0 : Int32))])) _
    exact retN X0 hx (t := .boolean) Bd.returns (by simp) (hb hby d16_41) hr
  · show Q16 Z p1 h0 n0 _ s₁.heap _
    rw [e0]
    exact ⟨(by unfold own_f16; rw [if_pos hc3, if_neg hc15, if_pos hc21, if_pos hc27]), N0, rfl⟩
set_option maxRecDepth 65536 in
set_option maxHeartbeats 40000000 in
theorem rm16_tffft (l : Launch) (Z : State) (a0 : Array Value) (hw : ∀ d ∈ tables_1, d.before a0 Z = true) (ws : List Jvm.Cond) (p1 : Int32) (h0 : Heap) (n0 : Nat) (Z0 : n0 ≤ h0.size) (hc3 : p1 < (48 : Int32)) (hc15 : ¬ (p1 < (65 : Int32))) (hc21 : (90 : Int32) < p1) (hc27 : ¬ (p1 < (97 : Int32))) (hc33 : (122 : Int32) < p1) :
    MetFree l (⟨"com/example/marcwerk/marcwerk/marc/MarcText", "isTagCharacter", "(C)Z"⟩ : MethodName) (head1 (Jvm.Cond.code (⟨"com/example/marcwerk/marcwerk/marc/MarcText", "isTagCharacter", "(C)Z"⟩ : MethodName) prog_21_method_4_code 1 (some .boolean) :: ws) ({ frames := 0, cells := 0, slots := 0, locals := 0 } : Room)) (fun a U => a = #[(.int p1)] ∧ Z.Warmed39 U.vm ∧ U.heap = h0) (fun _ _ _ _ _ => True) (fun _ U o U' => ∃ v L, o = .returned v ∧ Q16 Z p1 h0 n0 v U'.heap L ∧ FrameEnd U o U' L ({ frames := 0, cells := 0, slots := 0, locals := 0 } : Room).cells ({ frames := 0, cells := 0, slots := 0, locals := 0 } : Room).slots) := by
  refine MetFree.of_bodySF (plainFor_of_name pn_16) hisR ?_
  intro p e s m args below meth c s₁ Bd hml0 hP hK
  obtain ⟨rfl, hZ, hh⟩ := hP
  have hx := Bd.exec
  have hby := Bd.bytes
  have hml : c.maxLocals = 1 := hml0
  have hown : s.vm.findClass "com/example/marcwerk/marcwerk/marc/MarcText" = some m.cls := findClass_of_methodNamed Bd.named
  have hnm := (name_of_methodNamed Bd.named Bd.method).1
  have X0 : Stand p l e ({ frames := 0, cells := 0, slots := 0, locals := 0 } : Room) s m #[(.int p1)] below meth c s₁ [] 0 0 := Stand.of_body Bd
  have e0 : s₁.heap = h0 := by rw [← hh, Bd.state]; rfl
  have N0 := Fr.nil n0
  have pre0 : ∀ t, Steps p.tables e below (s₁.setTop (mkF m 0 #[.val (.int p1)] [])) t → Steps p.tables e below (s₁.setTop (entryFrame m #[(.int p1)] 1)) t := fun t k => castTop (ef_16 m p1) k

  obtain ⟨fs, hr, hrun, hended, hW, hsame⟩ := X0.leave (v := some (.int (0 : Int32))) (fun h => by rw [Bd.returns] at h; cases h) (BodyLoose.notSynchronized Bd)
  refine ⟨_, _, pre0 _ ?_, hrun, hended, _, _, rfl, ?_, ⟨_, rfl⟩, hW, hsame.mono (by decide) (by decide)⟩
  · show Steps p.tables e below (s₁.setTop (mkF m 0 #[.val (.int p1)] [])) _
    refine XS.iloadN X0.here hx rfl (hb hby d16_0) rfl ?_
    refine XS.bipush X0.here hx rfl (hb hby d16_1) ?_
    refine XS.icmpYes X0.here hx rfl (pc0 := 3) (pc' := 12) rfl (hb hby d16_3) rfl (tlt hc3).1 (by decide) (by decide) ?_
    refine XS.iloadN X0.here hx rfl (hb hby d16_12) rfl ?_
    refine XS.bipush X0.here hx rfl (hb hby d16_13) ?_
    refine XS.icmpNo X0.here hx rfl (hb hby d16_15) rfl (flt hc15).1 ?_
    refine XS.iloadN X0.here hx rfl (hb hby d16_18) rfl ?_
    refine XS.bipush X0.here hx rfl (hb hby d16_19) ?_
    refine XS.icmpNo X0.here hx rfl (hb hby d16_21) rfl (tlt hc21).2.2.2 ?_
    refine XS.iloadN X0.here hx rfl (hb hby d16_24) rfl ?_
    refine XS.bipush X0.here hx rfl (hb hby d16_25) ?_
    refine XS.icmpNo X0.here hx rfl (hb hby d16_27) rfl (flt hc27).1 ?_
    refine XS.iloadN X0.here hx rfl (hb hby d16_30) rfl ?_
    refine XS.bipush X0.here hx rfl (hb hby d16_31) ?_
    refine XS.icmpYes X0.here hx rfl (pc0 := 33) (pc' := 40) rfl (hb hby d16_33) rfl (tlt hc33).2.2.1 (by decide) (by decide) ?_
    refine XS.iconst X0.here hx rfl (hb hby d16_40) ?_
    show Steps p.tables e below (s₁.setTop (mkF m 41 #[.val (.int p1)] [(.int (0 : Int32))])) _
    exact retN X0 hx (t := .boolean) Bd.returns (by simp) (hb hby d16_41) hr
  · show Q16 Z p1 h0 n0 _ s₁.heap _
    rw [e0]
    exact ⟨(by unfold own_f16; rw [if_pos hc3, if_neg hc15, if_pos hc21, if_neg hc27, if_pos hc33]), N0, rfl⟩
set_option maxRecDepth 65536 in
set_option maxHeartbeats 40000000 in
theorem rm16_tffff (l : Launch) (Z : State) (a0 : Array Value) (hw : ∀ d ∈ tables_1, d.before a0 Z = true) (ws : List Jvm.Cond) (p1 : Int32) (h0 : Heap) (n0 : Nat) (Z0 : n0 ≤ h0.size) (hc3 : p1 < (48 : Int32)) (hc15 : ¬ (p1 < (65 : Int32))) (hc21 : (90 : Int32) < p1) (hc27 : ¬ (p1 < (97 : Int32))) (hc33 : ¬ ((122 : Int32) < p1)) :
    MetFree l (⟨"com/example/marcwerk/marcwerk/marc/MarcText", "isTagCharacter", "(C)Z"⟩ : MethodName) (head1 (Jvm.Cond.code (⟨"com/example/marcwerk/marcwerk/marc/MarcText", "isTagCharacter", "(C)Z"⟩ : MethodName) prog_21_method_4_code 1 (some .boolean) :: ws) ({ frames := 0, cells := 0, slots := 0, locals := 0 } : Room)) (fun a U => a = #[(.int p1)] ∧ Z.Warmed39 U.vm ∧ U.heap = h0) (fun _ _ _ _ _ => True) (fun _ U o U' => ∃ v L, o = .returned v ∧ Q16 Z p1 h0 n0 v U'.heap L ∧ FrameEnd U o U' L ({ frames := 0, cells := 0, slots := 0, locals := 0 } : Room).cells ({ frames := 0, cells := 0, slots := 0, locals := 0 } : Room).slots) := by
  refine MetFree.of_bodySF (plainFor_of_name pn_16) hisR ?_
  intro p e s m args below meth c s₁ Bd hml0 hP hK
  obtain ⟨rfl, hZ, hh⟩ := hP
  have hx := Bd.exec
  have hby := Bd.bytes
  have hml : c.maxLocals = 1 := hml0
  have hown : s.vm.findClass "com/example/marcwerk/marcwerk/marc/MarcText" = some m.cls := findClass_of_methodNamed Bd.named
  have hnm := (name_of_methodNamed Bd.named Bd.method).1
  have X0 : Stand p l e ({ frames := 0, cells := 0, slots := 0, locals := 0 } : Room) s m #[(.int p1)] below meth c s₁ [] 0 0 := Stand.of_body Bd
  have e0 : s₁.heap = h0 := by rw [← hh, Bd.state]; rfl
  have N0 := Fr.nil n0
  have pre0 : ∀ t, Steps p.tables e below (s₁.setTop (mkF m 0 #[.val (.int p1)] [])) t → Steps p.tables e below (s₁.setTop (entryFrame m #[(.int p1)] 1)) t := fun t k => castTop (ef_16 m p1) k

  obtain ⟨fs, hr, hrun, hended, hW, hsame⟩ := X0.leave (v := some (.int (1 : Int32))) (fun h => by rw [Bd.returns] at h; cases h) (BodyLoose.notSynchronized Bd)
  refine ⟨_, _, pre0 _ ?_, hrun, hended, _, _, rfl, ?_, ⟨_, rfl⟩, hW, hsame.mono (by decide) (by decide)⟩
  · show Steps p.tables e below (s₁.setTop (mkF m 0 #[.val (.int p1)] [])) _
    refine XS.iloadN X0.here hx rfl (hb hby d16_0) rfl ?_
    refine XS.bipush X0.here hx rfl (hb hby d16_1) ?_
    refine XS.icmpYes X0.here hx rfl (pc0 := 3) (pc' := 12) rfl (hb hby d16_3) rfl (tlt hc3).1 (by decide) (by decide) ?_
    refine XS.iloadN X0.here hx rfl (hb hby d16_12) rfl ?_
    refine XS.bipush X0.here hx rfl (hb hby d16_13) ?_
    refine XS.icmpNo X0.here hx rfl (hb hby d16_15) rfl (flt hc15).1 ?_
    refine XS.iloadN X0.here hx rfl (hb hby d16_18) rfl ?_
    refine XS.bipush X0.here hx rfl (hb hby d16_19) ?_
    refine XS.icmpNo X0.here hx rfl (hb hby d16_21) rfl (tlt hc21).2.2.2 ?_
    refine XS.iloadN X0.here hx rfl (hb hby d16_24) rfl ?_
    refine XS.bipush X0.here hx rfl (hb hby d16_25) ?_
    refine XS.icmpNo X0.here hx rfl (hb hby d16_27) rfl (flt hc27).1 ?_
    refine XS.iloadN X0.here hx rfl (hb hby d16_30) rfl ?_
    refine XS.bipush X0.here hx rfl (hb hby d16_31) ?_
    refine XS.icmpNo X0.here hx rfl (hb hby d16_33) rfl (flt hc33).2.2.1 ?_
    refine XS.iconst X0.here hx rfl (hb hby d16_36) ?_
    refine XS.goto X0.here hx rfl (pc0 := 37) (pc' := 41) rfl (hb hby d16_37) (by decide) (by decide) ?_
    show Steps p.tables e below (s₁.setTop (mkF m 41 #[.val (.int p1)] [(.int (1 : Int32))])) _
    exact retN X0 hx (t := .boolean) Bd.returns (by simp) (hb hby d16_41) hr
  · show Q16 Z p1 h0 n0 _ s₁.heap _
    rw [e0]
    exact ⟨(by unfold own_f16; rw [if_pos hc3, if_neg hc15, if_pos hc21, if_neg hc27, if_neg hc33]), N0, rfl⟩
set_option maxRecDepth 65536 in
set_option maxHeartbeats 40000000 in
theorem rm16_ft (l : Launch) (Z : State) (a0 : Array Value) (hw : ∀ d ∈ tables_1, d.before a0 Z = true) (ws : List Jvm.Cond) (p1 : Int32) (h0 : Heap) (n0 : Nat) (Z0 : n0 ≤ h0.size) (hc3 : ¬ (p1 < (48 : Int32))) (hc9 : ¬ ((57 : Int32) < p1)) :
    MetFree l (⟨"com/example/marcwerk/marcwerk/marc/MarcText", "isTagCharacter", "(C)Z"⟩ : MethodName) (head1 (Jvm.Cond.code (⟨"com/example/marcwerk/marcwerk/marc/MarcText", "isTagCharacter", "(C)Z"⟩ : MethodName) prog_21_method_4_code 1 (some .boolean) :: ws) ({ frames := 0, cells := 0, slots := 0, locals := 0 } : Room)) (fun a U => a = #[(.int p1)] ∧ Z.Warmed39 U.vm ∧ U.heap = h0) (fun _ _ _ _ _ => True) (fun _ U o U' => ∃ v L, o = .returned v ∧ Q16 Z p1 h0 n0 v U'.heap L ∧ FrameEnd U o U' L ({ frames := 0, cells := 0, slots := 0, locals := 0 } : Room).cells ({ frames := 0, cells := 0, slots := 0, locals := 0 } : Room).slots) := by
  refine MetFree.of_bodySF (plainFor_of_name pn_16) hisR ?_
  intro p e s m args below meth c s₁ Bd hml0 hP hK
  obtain ⟨rfl, hZ, hh⟩ := hP
  have hx := Bd.exec
  have hby := Bd.bytes
  have hml : c.maxLocals = 1 := hml0
  have hown : s.vm.findClass "com/example/marcwerk/marcwerk/marc/MarcText" = some m.cls := findClass_of_methodNamed Bd.named
  have hnm := (name_of_methodNamed Bd.named Bd.method).1
  have X0 : Stand p l e ({ frames := 0, cells := 0, slots := 0, locals := 0 } : Room) s m #[(.int p1)] below meth c s₁ [] 0 0 := Stand.of_body Bd
  have e0 : s₁.heap = h0 := by rw [← hh, Bd.state]; rfl
  have N0 := Fr.nil n0
  have pre0 : ∀ t, Steps p.tables e below (s₁.setTop (mkF m 0 #[.val (.int p1)] [])) t → Steps p.tables e below (s₁.setTop (entryFrame m #[(.int p1)] 1)) t := fun t k => castTop (ef_16 m p1) k

  obtain ⟨fs, hr, hrun, hended, hW, hsame⟩ := X0.leave (v := some (.int (1 : Int32))) (fun h => by rw [Bd.returns] at h; cases h) (BodyLoose.notSynchronized Bd)
  refine ⟨_, _, pre0 _ ?_, hrun, hended, _, _, rfl, ?_, ⟨_, rfl⟩, hW, hsame.mono (by decide) (by decide)⟩
  · show Steps p.tables e below (s₁.setTop (mkF m 0 #[.val (.int p1)] [])) _
    refine XS.iloadN X0.here hx rfl (hb hby d16_0) rfl ?_
    refine XS.bipush X0.here hx rfl (hb hby d16_1) ?_
    refine XS.icmpNo X0.here hx rfl (hb hby d16_3) rfl (flt hc3).1 ?_
    refine XS.iloadN X0.here hx rfl (hb hby d16_6) rfl ?_
    refine XS.bipush X0.here hx rfl (hb hby d16_7) ?_
    refine XS.icmpYes X0.here hx rfl (pc0 := 9) (pc' := 36) rfl (hb hby d16_9) rfl (flt hc9).2.2.2 (by decide) (by decide) ?_
    refine XS.iconst X0.here hx rfl (hb hby d16_36) ?_
    refine XS.goto X0.here hx rfl (pc0 := 37) (pc' := 41) rfl (hb hby d16_37) (by decide) (by decide) ?_
    show Steps p.tables e below (s₁.setTop (mkF m 41 #[.val (.int p1)] [(.int (1 : Int32))])) _
    exact retN X0 hx (t := .boolean) Bd.returns (by simp) (hb hby d16_41) hr
  · show Q16 Z p1 h0 n0 _ s₁.heap _
    rw [e0]
    exact ⟨(by unfold own_f16; rw [if_neg hc3, if_neg hc9]), N0, rfl⟩
set_option maxRecDepth 65536 in
set_option maxHeartbeats 40000000 in
theorem rm16_fftt (l : Launch) (Z : State) (a0 : Array Value) (hw : ∀ d ∈ tables_1, d.before a0 Z = true) (ws : List Jvm.Cond) (p1 : Int32) (h0 : Heap) (n0 : Nat) (Z0 : n0 ≤ h0.size) (hc3 : ¬ (p1 < (48 : Int32))) (hc9 : (57 : Int32) < p1) (hc15 : p1 < (65 : Int32)) (hc27 : p1 < (97 : Int32)) :
    MetFree l (⟨"com/example/marcwerk/marcwerk/marc/MarcText", "isTagCharacter", "(C)Z"⟩ : MethodName) (head1 (Jvm.Cond.code (⟨"com/example/marcwerk/marcwerk/marc/MarcText", "isTagCharacter", "(C)Z"⟩ : MethodName) prog_21_method_4_code 1 (some .boolean) :: ws) ({ frames := 0, cells := 0, slots := 0, locals := 0 } : Room)) (fun a U => a = #[(.int p1)] ∧ Z.Warmed39 U.vm ∧ U.heap = h0) (fun _ _ _ _ _ => True) (fun _ U o U' => ∃ v L, o = .returned v ∧ Q16 Z p1 h0 n0 v U'.heap L ∧ FrameEnd U o U' L ({ frames := 0, cells := 0, slots := 0, locals := 0 } : Room).cells ({ frames := 0, cells := 0, slots := 0, locals := 0 } : Room).slots) := by
  refine MetFree.of_bodySF (plainFor_of_name pn_16) hisR ?_
  intro p e s m args below meth c s₁ Bd hml0 hP hK
  obtain ⟨rfl, hZ, hh⟩ := hP
  have hx := Bd.exec
  have hby := Bd.bytes
  have hml : c.maxLocals = 1 := hml0
  have hown : s.vm.findClass "com/example/marcwerk/marcwerk/marc/MarcText" = some m.cls := findClass_of_methodNamed Bd.named
  have hnm := (name_of_methodNamed Bd.named Bd.method).1
  have X0 : Stand p l e ({ frames := 0, cells := 0, slots := 0, locals := 0 } : Room) s m #[(.int p1)] below meth c s₁ [] 0 0 := Stand.of_body Bd
  have e0 : s₁.heap = h0 := by rw [← hh, Bd.state]; rfl
  have N0 := Fr.nil n0
  have pre0 : ∀ t, Steps p.tables e below (s₁.setTop (mkF m 0 #[.val (.int p1)] [])) t → Steps p.tables e below (s₁.setTop (entryFrame m #[(.int p1)] 1)) t := fun t k => castTop (ef_16 m p1) k

  obtain ⟨fs, hr, hrun, hended, hW, hsame⟩ := X0.leave (v := some (.int (0 : Int32))) (fun h => by rw [Bd.returns] at h; cases h) (BodyLoose.notSynchronized Bd)
  refine ⟨_, _, pre0 _ ?_, hrun, hended, _, _, rfl, ?_, ⟨_, rfl⟩, hW, hsame.mono (by decide) (by decide)⟩
  · show Steps p.tables e below (s₁.setTop (mkF m 0 #[.val (.int p1)] [])) _
    refine XS.iloadN X0.here hx rfl (hb hby d16_0) rfl ?_
    refine XS.bipush X0.here hx rfl (hb hby d16_1) ?_
    refine XS.icmpNo X0.here hx rfl (hb hby d16_3) rfl (flt hc3).1 ?_
    refine XS.iloadN X0.here hx rfl (hb hby d16_6) rfl ?_
    refine XS.bipush X0.here hx rfl (hb hby d16_7) ?_
    refine XS.icmpNo X0.here hx rfl (hb hby d16_9) rfl (tlt hc9).2.2.2 ?_
    refine XS.iloadN X0.here hx rfl (hb hby d16_12) rfl ?_
    refine XS.bipush X0.here hx rfl (hb hby d16_13) ?_
    refine XS.icmpYes X0.here hx rfl (pc0 := 15) (pc' := 24) rfl (hb hby d16_15) rfl (tlt hc15).1 (by decide) (by decide) ?_
    refine XS.iloadN X0.here hx rfl (hb hby d16_24) rfl ?_
    refine XS.bipush X0.here hx rfl (hb hby d16_25) ?_
    refine XS.icmpYes X0.here hx rfl (pc0 := 27) (pc' := 40) rfl (hb hby d16_27) rfl (tlt hc27).1 (by decide) (by decide) ?_
    refine XS.iconst X0.here hx rfl (hb hby d16_40) ?_
    show Steps p.tables e below (s₁.setTop (mkF m 41 #[.val (.int p1)] [(.int (0 : Int32))])) _
    exact retN X0 hx (t := .boolean) Bd.returns (by simp) (hb hby d16_41) hr
  · show Q16 Z p1 h0 n0 _ s₁.heap _
    rw [e0]
    exact ⟨(by unfold own_f16; rw [if_neg hc3, if_pos hc9, if_pos hc15, if_pos hc27]), N0, rfl⟩
set_option maxRecDepth 65536 in
set_option maxHeartbeats 40000000 in
theorem rm16_fftft (l : Launch) (Z : State) (a0 : Array Value) (hw : ∀ d ∈ tables_1, d.before a0 Z = true) (ws : List Jvm.Cond) (p1 : Int32) (h0 : Heap) (n0 : Nat) (Z0 : n0 ≤ h0.size) (hc3 : ¬ (p1 < (48 : Int32))) (hc9 : (57 : Int32) < p1) (hc15 : p1 < (65 : Int32)) (hc27 : ¬ (p1 < (97 : Int32))) (hc33 : (122 : Int32) < p1) :
    MetFree l (⟨"com/example/marcwerk/marcwerk/marc/MarcText", "isTagCharacter", "(C)Z"⟩ : MethodName) (head1 (Jvm.Cond.code (⟨"com/example/marcwerk/marcwerk/marc/MarcText", "isTagCharacter", "(C)Z"⟩ : MethodName) prog_21_method_4_code 1 (some .boolean) :: ws) ({ frames := 0, cells := 0, slots := 0, locals := 0 } : Room)) (fun a U => a = #[(.int p1)] ∧ Z.Warmed39 U.vm ∧ U.heap = h0) (fun _ _ _ _ _ => True) (fun _ U o U' => ∃ v L, o = .returned v ∧ Q16 Z p1 h0 n0 v U'.heap L ∧ FrameEnd U o U' L ({ frames := 0, cells := 0, slots := 0, locals := 0 } : Room).cells ({ frames := 0, cells := 0, slots := 0, locals := 0 } : Room).slots) := by
  refine MetFree.of_bodySF (plainFor_of_name pn_16) hisR ?_
  intro p e s m args below meth c s₁ Bd hml0 hP hK
  obtain ⟨rfl, hZ, hh⟩ := hP
  have hx := Bd.exec
  have hby := Bd.bytes
  have hml : c.maxLocals = 1 := hml0
  have hown : s.vm.findClass "com/example/marcwerk/marcwerk/marc/MarcText" = some m.cls := findClass_of_methodNamed Bd.named
  have hnm := (name_of_methodNamed Bd.named Bd.method).1
  have X0 : Stand p l e ({ frames := 0, cells := 0, slots := 0, locals := 0 } : Room) s m #[(.int p1)] below meth c s₁ [] 0 0 := Stand.of_body Bd
  have e0 : s₁.heap = h0 := by rw [← hh, Bd.state]; rfl
  have N0 := Fr.nil n0
  have pre0 : ∀ t, Steps p.tables e below (s₁.setTop (mkF m 0 #[.val (.int p1)] [])) t → Steps p.tables e below (s₁.setTop (entryFrame m #[(.int p1)] 1)) t := fun t k => castTop (ef_16 m p1) k

  obtain ⟨fs, hr, hrun, hended, hW, hsame⟩ := X0.leave (v := some (.int (0 : Int32))) (fun h => by rw [Bd.returns] at h; cases h) (BodyLoose.notSynchronized Bd)
  refine ⟨_, _, pre0 _ ?_, hrun, hended, _, _, rfl, ?_, ⟨_, rfl⟩, hW, hsame.mono (by decide) (by decide)⟩
  · show Steps p.tables e below (s₁.setTop (mkF m 0 #[.val (.int p1)] [])) _
    refine XS.iloadN X0.here hx rfl (hb hby d16_0) rfl ?_
    refine XS.bipush X0.here hx rfl (hb hby d16_1) ?_
    refine XS.icmpNo X0.here hx rfl (hb hby d16_3) rfl (flt hc3).1 ?_
    refine XS.iloadN X0.here hx rfl (hb hby d16_6) rfl ?_
    refine XS.bipush X0.here hx rfl (hb hby d16_7) ?_
    refine XS.icmpNo X0.here hx rfl (hb hby d16_9) rfl (tlt hc9).2.2.2 ?_
    refine XS.iloadN X0.here hx rfl (hb hby d16_12) rfl ?_
    refine XS.bipush X0.here hx rfl (hb hby d16_13) ?_
    refine XS.icmpYes X0.here hx rfl (pc0 := 15) (pc' := 24) rfl (hb hby d16_15) rfl (tlt hc15).1 (by decide) (by decide) ?_
    refine XS.iloadN X0.here hx rfl (hb hby d16_24) rfl ?_
    refine XS.bipush X0.here hx rfl (hb hby d16_25) ?_
    refine XS.icmpNo X0.here hx rfl (hb hby d16_27) rfl (flt hc27).1 ?_
    refine XS.iloadN X0.here hx rfl (hb hby d16_30) rfl ?_
    refine XS.bipush X0.here hx rfl (hb hby d16_31) ?_
    refine XS.icmpYes X0.here hx rfl (pc0 := 33) (pc' := 40) rfl (hb hby d16_33) rfl (tlt hc33).2.2.1 (by decide) (by decide) ?_
    refine XS.iconst X0.here hx rfl (hb hby d16_40) ?_
    show Steps p.tables e below (s₁.setTop (mkF m 41 #[.val (.int p1)] [(.int (0 : Int32))])) _
    exact retN X0 hx (t := .boolean) Bd.returns (by simp) (hb hby d16_41) hr
  · show Q16 Z p1 h0 n0 _ s₁.heap _
    rw [e0]
    exact ⟨(by unfold own_f16; rw [if_neg hc3, if_pos hc9, if_pos hc15, if_neg hc27, if_pos hc33]), N0, rfl⟩
set_option maxRecDepth 65536 in
set_option maxHeartbeats 40000000 in
theorem rm16_fftff (l : Launch) (Z : State) (a0 : Array Value) (hw : ∀ d ∈ tables_1, d.before a0 Z = true) (ws : List Jvm.Cond) (p1 : Int32) (h0 : Heap) (n0 : Nat) (Z0 : n0 ≤ h0.size) (hc3 : ¬ (p1 < (48 : Int32))) (hc9 : (57 : Int32) < p1) (hc15 : p1 < (65 : Int32)) (hc27 : ¬ (p1 < (97 : Int32))) (hc33 : ¬ ((122 : Int32) < p1)) :
    MetFree l (⟨"com/example/marcwerk/marcwerk/marc/MarcText", "isTagCharacter", "(C)Z"⟩ : MethodName) (head1 (Jvm.Cond.code (⟨"com/example/marcwerk/marcwerk/marc/MarcText", "isTagCharacter", "(C)Z"⟩ : MethodName) prog_21_method_4_code 1 (some .boolean) :: ws) ({ frames := 0, cells := 0, slots := 0, locals := 0 } : Room)) (fun a U => a = #[(.int p1)] ∧ Z.Warmed39 U.vm ∧ U.heap = h0) (fun _ _ _ _ _ => True) (fun _ U o U' => ∃ v L, o = .returned v ∧ Q16 Z p1 h0 n0 v U'.heap L ∧ FrameEnd U o U' L ({ frames := 0, cells := 0, slots := 0, locals := 0 } : Room).cells ({ frames := 0, cells := 0, slots := 0, locals := 0 } : Room).slots) := by
  refine MetFree.of_bodySF (plainFor_of_name pn_16) hisR ?_
  intro p e s m args below meth c s₁ Bd hml0 hP hK
  obtain ⟨rfl, hZ, hh⟩ := hP
  have hx := Bd.exec
  have hby := Bd.bytes
  have hml : c.maxLocals = 1 := hml0
  have hown : s.vm.findClass "com/example/marcwerk/marcwerk/marc/MarcText" = some m.cls := findClass_of_methodNamed Bd.named
  have hnm := (name_of_methodNamed Bd.named Bd.method).1
  have X0 : Stand p l e ({ frames := 0, cells := 0, slots := 0, locals := 0 } : Room) s m #[(.int p1)] below meth c s₁ [] 0 0 := Stand.of_body Bd
  have e0 : s₁.heap = h0 := by rw [← hh, Bd.state]; rfl
  have N0 := Fr.nil n0
  have pre0 : ∀ t, Steps p.tables e below (s₁.setTop (mkF m 0 #[.val (.int p1)] [])) t → Steps p.tables e below (s₁.setTop (entryFrame m #[(.int p1)] 1)) t := fun t k => castTop (ef_16 m p1) k

  obtain ⟨fs, hr, hrun, hended, hW, hsame⟩ := X0.leave (v := some (.int (1 : Int32))) (fun h => by rw [Bd.returns] at h; cases h) (BodyLoose.notSynchronized Bd)
  refine ⟨_, _, pre0 _ ?_, hrun, hended, _, _, rfl, ?_, ⟨_, rfl⟩, hW, hsame.mono (by decide) (by decide)⟩
  · show Steps p.tables e below (s₁.setTop (mkF m 0 #[.val (.int p1)] [])) _
    refine XS.iloadN X0.here hx rfl (hb hby d16_0) rfl ?_
    refine XS.bipush X0.here hx rfl (hb hby d16_1) ?_
    refine XS.icmpNo X0.here hx rfl (hb hby d16_3) rfl (flt hc3).1 ?_
    refine XS.iloadN X0.here hx rfl (hb hby d16_6) rfl ?_
    refine XS.bipush X0.here hx rfl (hb hby d16_7) ?_
    refine XS.icmpNo X0.here hx rfl (hb hby d16_9) rfl (tlt hc9).2.2.2 ?_
    refine XS.iloadN X0.here hx rfl (hb hby d16_12) rfl ?_
    refine XS.bipush X0.here hx rfl (hb hby d16_13) ?_
    refine XS.icmpYes X0.here hx rfl (pc0 := 15) (pc' := 24) rfl (hb hby d16_15) rfl (tlt hc15).1 (by decide) (by decide) ?_
    refine XS.iloadN X0.here hx rfl (hb hby d16_24) rfl ?_
    refine XS.bipush X0.here hx rfl (hb hby d16_25) ?_
    refine XS.icmpNo X0.here hx rfl (hb hby d16_27) rfl (flt hc27).1 ?_
    refine XS.iloadN X0.here hx rfl (hb hby d16_30) rfl ?_
    refine XS.bipush X0.here hx rfl (hb hby d16_31) ?_
    refine XS.icmpNo X0.here hx rfl (hb hby d16_33) rfl (flt hc33).2.2.1 ?_
    refine XS.iconst X0.here hx rfl (hb hby d16_36) ?_
    refine XS.goto X0.here hx rfl (pc0 := 37) (pc' := 41) rfl (hb hby d16_37) (by decide) (by decide) ?_
    show Steps p.tables e below (s₁.setTop (mkF m 41 #[.val (.int p1)] [(.int (1 : Int32))])) _
    exact retN X0 hx (t := .boolean) Bd.returns (by simp) (hb hby d16_41) hr
  · show Q16 Z p1 h0 n0 _ s₁.heap _
    rw [e0]
    exact ⟨(by unfold own_f16; rw [if_neg hc3, if_pos hc9, if_pos hc15, if_neg hc27, if_neg hc33]), N0, rfl⟩
set_option maxRecDepth 65536 in
set_option maxHeartbeats 40000000 in
theorem rm16_ffft (l : Launch) (Z : State) (a0 : Array Value) (hw : ∀ d ∈ tables_1, d.before a0 Z = true) (ws : List Jvm.Cond) (p1 : Int32) (h0 : Heap) (n0 : Nat) (Z0 : n0 ≤ h0.size) (hc3 : ¬ (p1 < (48 : Int32))) (hc9 : (57 : Int32) < p1) (hc15 : ¬ (p1 < (65 : Int32))) (hc21 : ¬ ((90 : Int32) < p1)) :
    MetFree l (⟨"com/example/marcwerk/marcwerk/marc/MarcText", "isTagCharacter", "(C)Z"⟩ : MethodName) (head1 (Jvm.Cond.code (⟨"com/example/marcwerk/marcwerk/marc/MarcText", "isTagCharacter", "(C)Z"⟩ : MethodName) prog_21_method_4_code 1 (some .boolean) :: ws) ({ frames := 0, cells := 0, slots := 0, locals := 0 } : Room)) (fun a U => a = #[(.int p1)] ∧ Z.Warmed39 U.vm ∧ U.heap = h0) (fun _ _ _ _ _ => True) (fun _ U o U' => ∃ v L, o = .returned v ∧ Q16 Z p1 h0 n0 v U'.heap L ∧ FrameEnd U o U' L ({ frames := 0, cells := 0, slots := 0, locals := 0 } : Room).cells ({ frames := 0, cells := 0, slots := 0, locals := 0 } : Room).slots) := by
  refine MetFree.of_bodySF (plainFor_of_name pn_16) hisR ?_
  intro p e s m args below meth c s₁ Bd hml0 hP hK
  obtain ⟨rfl, hZ, hh⟩ := hP
  have hx := Bd.exec
  have hby := Bd.bytes
  have hml : c.maxLocals = 1 := hml0
  have hown : s.vm.findClass "com/example/marcwerk/marcwerk/marc/MarcText" = some m.cls := findClass_of_methodNamed Bd.named
  have hnm := (name_of_methodNamed Bd.named Bd.method).1
  have X0 : Stand p l e ({ frames := 0, cells := 0, slots := 0, locals := 0 } : Room) s m #[(.int p1)] below meth c s₁ [] 0 0 := Stand.of_body Bd
  have e0 : s₁.heap = h0 := by rw [← hh, Bd.state]; rfl
  have N0 := Fr.nil n0
  have pre0 : ∀ t, Steps p.tables e below (s₁.setTop (mkF m 0 #[.val (.int p1)] [])) t → Steps p.tables e below (s₁.setTop (entryFrame m #[(.int p1)] 1)) t := fun t k => castTop (ef_16 m p1) k

  obtain ⟨fs, hr, hrun, hended, hW, hsame⟩ := X0.leave (v := some (.int (1 : Int32))) (fun h => by rw [Bd.returns] at h; cases h) (BodyLoose.notSynchronized Bd)
  refine ⟨_, _, pre0 _ ?_, hrun, hended, _, _, rfl, ?_, ⟨_, rfl⟩, hW, hsame.mono (by decide) (by decide)⟩
  · show Steps p.tables e below (s₁.setTop (mkF m 0 #[.val (.int p1)] [])) _
    refine XS.iloadN X0.here hx rfl (hb hby d16_0) rfl ?_
    refine XS.bipush X0.here hx rfl (hb hby d16_1) ?_
    refine XS.icmpNo X0.here hx rfl (hb hby d16_3) rfl (flt hc3).1 ?_
    refine XS.iloadN X0.here hx rfl (hb hby d16_6) rfl ?_
    refine XS.bipush X0.here hx rfl (hb hby d16_7) ?_
    refine XS.icmpNo X0.here hx rfl (hb hby d16_9) rfl (tlt hc9).2.2.2 ?_
    refine XS.iloadN X0.here hx rfl (hb hby d16_12) rfl ?_
    refine XS.bipush X0.here hx rfl (hb hby d16_13) ?_
    refine XS.icmpNo X0.here hx rfl (hb hby d16_15) rfl (flt hc15).1 ?_
    refine XS.iloadN X0.here hx rfl (hb hby d16_18) rfl ?_
    refine XS.bipush X0.here hx rfl (hb hby d16_19) ?_
    refine XS.icmpYes X0.here hx rfl (pc0 := 21) (pc' := 36) rfl (hb hby d16_21) rfl (flt hc21).2.2.2 (by decide) (by decide) ?_
    refine XS.iconst X0.here hx rfl (hb hby d16_36) ?_
    refine XS.goto X0.here hx rfl (pc0 := 37) (pc' := 41) rfl (hb hby d16_37) (by decide) (by decide) ?_
    show Steps p.tables e below (s₁.setTop (mkF m 41 #[.val (.int p1)] [(.int (1 : Int32))])) _
    exact retN X0 hx (t := .boolean) Bd.returns (by simp) (hb hby d16_41) hr
  · show Q16 Z p1 h0 n0 _ s₁.heap _
    rw [e0]
    exact ⟨(by unfold own_f16; rw [if_neg hc3, if_pos hc9, if_neg hc15, if_neg hc21]), N0, rfl⟩
set_option maxRecDepth 65536 in
set_option maxHeartbeats 40000000 in
theorem rm16_fffft (l : Launch) (Z : State) (a0 : Array Value) (hw : ∀ d ∈ tables_1, d.before a0 Z = true) (ws : List Jvm.Cond) (p1 : Int32) (h0 : Heap) (n0 : Nat) (Z0 : n0 ≤ h0.size) (hc3 : ¬ (p1 < (48 : Int32))) (hc9 : (57 : Int32) < p1) (hc15 : ¬ (p1 < (65 : Int32))) (hc21 : (90 : Int32) < p1) (hc27 : p1 < (97 : Int32)) :
    MetFree l (⟨"com/example/marcwerk/marcwerk/marc/MarcText", "isTagCharacter", "(C)Z"⟩ : MethodName) (head1 (Jvm.Cond.code (⟨"com/example/marcwerk/marcwerk/marc/MarcText", "isTagCharacter", "(C)Z"⟩ : MethodName) prog_21_method_4_code 1 (some .boolean) :: ws) ({ frames := 0, cells := 0, slots := 0, locals := 0 } : Room)) (fun a U => a = #[(.int p1)] ∧ Z.Warmed39 U.vm ∧ U.heap = h0) (fun _ _ _ _ _ => True) (fun _ U o U' => ∃ v L, o = .returned v ∧ Q16 Z p1 h0 n0 v U'.heap L ∧ FrameEnd U o U' L ({ frames := 0, cells := 0, slots := 0, locals := 0 } : Room).cells ({ frames := 0, cells := 0, slots := 0, locals := 0 } : Room).slots) := by
  refine MetFree.of_bodySF (plainFor_of_name pn_16) hisR ?_
  intro p e s m args below meth c s₁ Bd hml0 hP hK
  obtain ⟨rfl, hZ, hh⟩ := hP
  have hx := Bd.exec
  have hby := Bd.bytes
  have hml : c.maxLocals = 1 := hml0
  have hown : s.vm.findClass "com/example/marcwerk/marcwerk/marc/MarcText" = some m.cls := findClass_of_methodNamed Bd.named
  have hnm := (name_of_methodNamed Bd.named Bd.method).1
  have X0 : Stand p l e ({ frames := 0, cells := 0, slots := 0, locals := 0 } : Room) s m #[(.int p1)] below meth c s₁ [] 0 0 := Stand.of_body Bd
  have e0 : s₁.heap = h0 := by rw [← hh, Bd.state]; rfl
  have N0 := Fr.nil n0
  have pre0 : ∀ t, Steps p.tables e below (s₁.setTop (mkF m 0 #[.val (.int p1)] [])) t → Steps p.tables e below (s₁.setTop (entryFrame m #[(.int p1)] 1)) t := fun t k => castTop (ef_16 m p1) k

  obtain ⟨fs, hr, hrun, hended, hW, hsame⟩ := X0.leave (v := some (.int (0 : Int32))) (fun h => by rw [Bd.returns] at h; cases h) (BodyLoose.notSynchronized Bd)
  refine ⟨_, _, pre0 _ ?_, hrun, hended, _, _, rfl, ?_, ⟨_, rfl⟩, hW, hsame.mono (by decide) (by decide)⟩
  · show Steps p.tables e below (s₁.setTop (mkF m 0 #[.val (.int p1)] [])) _
    refine XS.iloadN X0.here hx rfl (hb hby d16_0) rfl ?_
    refine XS.bipush X0.here hx rfl (hb hby d16_1) ?_
    refine XS.icmpNo X0.here hx rfl (hb hby d16_3) rfl (flt hc3).1 ?_
    refine XS.iloadN X0.here hx rfl (hb hby d16_6) rfl ?_
    refine XS.bipush X0.here hx rfl (hb hby d16_7) ?_
    refine XS.icmpNo X0.here hx rfl (hb hby d16_9) rfl (tlt hc9).2.2.2 ?_
    refine XS.iloadN X0.here hx rfl (hb hby d16_12) rfl ?_
    refine XS.bipush X0.here hx rfl (hb hby d16_13) ?_
    refine XS.icmpNo X0.here hx rfl (hb hby d16_15) rfl (flt hc15).1 ?_
    refine XS.iloadN X0.here hx rfl (hb hby d16_18) rfl ?_
    refine XS.bipush X0.here hx rfl (hb hby d16_19) ?_
    refine XS.icmpNo X0.here hx rfl (hb hby d16_21) rfl (tlt hc21).2.2.2 ?_
    refine XS.iloadN X0.here hx rfl (hb hby d16_24) rfl ?_
    refine XS.bipush X0.here hx rfl (hb hby d16_25) ?_
    refine XS.icmpYes X0.here hx rfl (pc0 := 27) (pc' := 40) rfl (hb hby d16_27) rfl (tlt hc27).1 (by decide) (by decide) ?_
    refine XS.iconst X0.here hx rfl (hb hby d16_40) ?_
    show Steps p.tables e below (s₁.setTop (mkF m 41 #[.val (.int p1)] [(.int (0 : Int32))])) _
    exact retN X0 hx (t := .boolean) Bd.returns (by simp) (hb hby d16_41) hr
  · show Q16 Z p1 h0 n0 _ s₁.heap _
    rw [e0]
    exact ⟨(by unfold own_f16; rw [if_neg hc3, if_pos hc9, if_neg hc15, if_pos hc21, if_pos hc27]), N0, rfl⟩
set_option maxRecDepth 65536 in
set_option maxHeartbeats 40000000 in
theorem rm16_ffffft (l : Launch) (Z : State) (a0 : Array Value) (hw : ∀ d ∈ tables_1, d.before a0 Z = true) (ws : List Jvm.Cond) (p1 : Int32) (h0 : Heap) (n0 : Nat) (Z0 : n0 ≤ h0.size) (hc3 : ¬ (p1 < (48 : Int32))) (hc9 : (57 : Int32) < p1) (hc15 : ¬ (p1 < (65 : Int32))) (hc21 : (90 : Int32) < p1) (hc27 : ¬ (p1 < (97 : Int32))) (hc33 : (122 : Int32) < p1) :
    MetFree l (⟨"com/example/marcwerk/marcwerk/marc/MarcText", "isTagCharacter", "(C)Z"⟩ : MethodName) (head1 (Jvm.Cond.code (⟨"com/example/marcwerk/marcwerk/marc/MarcText", "isTagCharacter", "(C)Z"⟩ : MethodName) prog_21_method_4_code 1 (some .boolean) :: ws) ({ frames := 0, cells := 0, slots := 0, locals := 0 } : Room)) (fun a U => a = #[(.int p1)] ∧ Z.Warmed39 U.vm ∧ U.heap = h0) (fun _ _ _ _ _ => True) (fun _ U o U' => ∃ v L, o = .returned v ∧ Q16 Z p1 h0 n0 v U'.heap L ∧ FrameEnd U o U' L ({ frames := 0, cells := 0, slots := 0, locals := 0 } : Room).cells ({ frames := 0, cells := 0, slots := 0, locals := 0 } : Room).slots) := by
  refine MetFree.of_bodySF (plainFor_of_name pn_16) hisR ?_
  intro p e s m args below meth c s₁ Bd hml0 hP hK
  obtain ⟨rfl, hZ, hh⟩ := hP
  have hx := Bd.exec
  have hby := Bd.bytes
  have hml : c.maxLocals = 1 := hml0
  have hown : s.vm.findClass "com/example/marcwerk/marcwerk/marc/MarcText" = some m.cls := findClass_of_methodNamed Bd.named
  have hnm := (name_of_methodNamed Bd.named Bd.method).1
  have X0 : Stand p l e ({ frames := 0, cells := 0, slots := 0, locals := 0 } : Room) s m #[(.int p1)] below meth c s₁ [] 0 0 := Stand.of_body Bd
  have e0 : s₁.heap = h0 := by rw [← hh, Bd.state]; rfl
  have N0 := Fr.nil n0
  have pre0 : ∀ t, Steps p.tables e below (s₁.setTop (mkF m 0 #[.val (.int p1)] [])) t → Steps p.tables e below (s₁.setTop (entryFrame m #[(.int p1)] 1)) t := fun t k => castTop (ef_16 m p1) k

  obtain ⟨fs, hr, hrun, hended, hW, hsame⟩ := X0.leave (v := some (.int (0 : Int32))) (fun h => by rw [Bd.returns] at h; cases h) (BodyLoose.notSynchronized Bd)
  refine ⟨_, _, pre0 _ ?_, hrun, hended, _, _, rfl, ?_, ⟨_, rfl⟩, hW, hsame.mono (by decide) (by decide)⟩
  · show Steps p.tables e below (s₁.setTop (mkF m 0 #[.val (.int p1)] [])) _
    refine XS.iloadN X0.here hx rfl (hb hby d16_0) rfl ?_
    refine XS.bipush X0.here hx rfl (hb hby d16_1) ?_
    refine XS.icmpNo X0.here hx rfl (hb hby d16_3) rfl (flt hc3).1 ?_
    refine XS.iloadN X0.here hx rfl (hb hby d16_6) rfl ?_
    refine XS.bipush X0.here hx rfl (hb hby d16_7) ?_
    refine XS.icmpNo X0.here hx rfl (hb hby d16_9) rfl (tlt hc9).2.2.2 ?_
    refine XS.iloadN X0.here hx rfl (hb hby d16_12) rfl ?_
    refine XS.bipush X0.here hx rfl (hb hby d16_13) ?_
    refine XS.icmpNo X0.here hx rfl (hb hby d16_15) rfl (flt hc15).1 ?_
    refine XS.iloadN X0.here hx rfl (hb hby d16_18) rfl ?_
    refine XS.bipush X0.here hx rfl (hb hby d16_19) ?_
    refine XS.icmpNo X0.here hx rfl (hb hby d16_21) rfl (tlt hc21).2.2.2 ?_
    refine XS.iloadN X0.here hx rfl (hb hby d16_24) rfl ?_
    refine XS.bipush X0.here hx rfl (hb hby d16_25) ?_
    refine XS.icmpNo X0.here hx rfl (hb hby d16_27) rfl (flt hc27).1 ?_
    refine XS.iloadN X0.here hx rfl (hb hby d16_30) rfl ?_
    refine XS.bipush X0.here hx rfl (hb hby d16_31) ?_
    refine XS.icmpYes X0.here hx rfl (pc0 := 33) (pc' := 40) rfl (hb hby d16_33) rfl (tlt hc33).2.2.1 (by decide) (by decide) ?_
    refine XS.iconst X0.here hx rfl (hb hby d16_40) ?_
    show Steps p.tables e below (s₁.setTop (mkF m 41 #[.val (.int p1)] [(.int (0 : Int32))])) _
    exact retN X0 hx (t := .boolean) Bd.returns (by simp) (hb hby d16_41) hr
  · show Q16 Z p1 h0 n0 _ s₁.heap _
    rw [e0]
    exact ⟨(by unfold own_f16; rw [if_neg hc3, if_pos hc9, if_neg hc15, if_pos hc21, if_neg hc27, if_pos hc33]), N0, rfl⟩
set_option maxRecDepth 65536 in
set_option maxHeartbeats 40000000 in
theorem rm16_ffffff (l : Launch) (Z : State) (a0 : Array Value) (hw : ∀ d ∈ tables_1, d.before a0 Z = true) (ws : List Jvm.Cond) (p1 : Int32) (h0 : Heap) (n0 : Nat) (Z0 : n0 ≤ h0.size) (hc3 : ¬ (p1 < (48 : Int32))) (hc9 : (57 : Int32) < p1) (hc15 : ¬ (p1 < (65 : Int32))) (hc21 : (90 : Int32) < p1) (hc27 : ¬ (p1 < (97 : Int32))) (hc33 : ¬ ((122 : Int32) < p1)) :
    MetFree l (⟨"com/example/marcwerk/marcwerk/marc/MarcText", "isTagCharacter", "(C)Z"⟩ : MethodName) (head1 (Jvm.Cond.code (⟨"com/example/marcwerk/marcwerk/marc/MarcText", "isTagCharacter", "(C)Z"⟩ : MethodName) prog_21_method_4_code 1 (some .boolean) :: ws) ({ frames := 0, cells := 0, slots := 0, locals := 0 } : Room)) (fun a U => a = #[(.int p1)] ∧ Z.Warmed39 U.vm ∧ U.heap = h0) (fun _ _ _ _ _ => True) (fun _ U o U' => ∃ v L, o = .returned v ∧ Q16 Z p1 h0 n0 v U'.heap L ∧ FrameEnd U o U' L ({ frames := 0, cells := 0, slots := 0, locals := 0 } : Room).cells ({ frames := 0, cells := 0, slots := 0, locals := 0 } : Room).slots) := by
  refine MetFree.of_bodySF (plainFor_of_name pn_16) hisR ?_
  intro p e s m args below meth c s₁ Bd hml0 hP hK
  obtain ⟨rfl, hZ, hh⟩ := hP
  have hx := Bd.exec
  have hby := Bd.bytes
  have hml : c.maxLocals = 1 := hml0
  have hown : s.vm.findClass "com/example/marcwerk/marcwerk/marc/MarcText" = some m.cls := findClass_of_methodNamed Bd.named
  have hnm := (name_of_methodNamed Bd.named Bd.method).1
  have X0 : Stand p l e ({ frames := 0, cells := 0, slots := 0, locals := 0 } : Room) s m #[(.int p1)] below meth c s₁ [] 0 0 := Stand.of_body Bd
  have e0 : s₁.heap = h0 := by rw [← hh, Bd.state]; rfl
  have N0 := Fr.nil n0
  have pre0 : ∀ t, Steps p.tables e below (s₁.setTop (mkF m 0 #[.val (.int p1)] [])) t → Steps p.tables e below (s₁.setTop (entryFrame m #[(.int p1)] 1)) t := fun t k => castTop (ef_16 m p1) k

  obtain ⟨fs, hr, hrun, hended, hW, hsame⟩ := X0.leave (v := some (.int (1 : Int32))) (fun h => by rw [Bd.returns] at h; cases h) (BodyLoose.notSynchronized Bd)
  refine ⟨_, _, pre0 _ ?_, hrun, hended, _, _, rfl, ?_, ⟨_, rfl⟩, hW, hsame.mono (by decide) (by decide)⟩
  · show Steps p.tables e below (s₁.setTop (mkF m 0 #[.val (.int p1)] [])) _
    refine XS.iloadN X0.here hx rfl (hb hby d16_0) rfl ?_
    refine XS.bipush X0.here hx rfl (hb hby d16_1) ?_
    refine XS.icmpNo X0.here hx rfl (hb hby d16_3) rfl (flt hc3).1 ?_
    refine XS.iloadN X0.here hx rfl (hb hby d16_6) rfl ?_
    refine XS.bipush X0.here hx rfl (hb hby d16_7) ?_
    refine XS.icmpNo X0.here hx rfl (hb hby d16_9) rfl (tlt hc9).2.2.2 ?_
    refine XS.iloadN X0.here hx rfl (hb hby d16_12) rfl ?_
    refine XS.bipush X0.here hx rfl (hb hby d16_13) ?_
    refine XS.icmpNo X0.here hx rfl (hb hby d16_15) rfl (flt hc15).1 ?_
    refine XS.iloadN X0.here hx rfl (hb hby d16_18) rfl ?_
    refine XS.bipush X0.here hx rfl (hb hby d16_19) ?_
    refine XS.icmpNo X0.here hx rfl (hb hby d16_21) rfl (tlt hc21).2.2.2 ?_
    refine XS.iloadN X0.here hx rfl (hb hby d16_24) rfl ?_
    refine XS.bipush X0.here hx rfl (hb hby d16_25) ?_
    refine XS.icmpNo X0.here hx rfl (hb hby d16_27) rfl (flt hc27).1 ?_
    refine XS.iloadN X0.here hx rfl (hb hby d16_30) rfl ?_
    refine XS.bipush X0.here hx rfl (hb hby d16_31) ?_
    refine XS.icmpNo X0.here hx rfl (hb hby d16_33) rfl (flt hc33).2.2.1 ?_
    refine XS.iconst X0.here hx rfl (hb hby d16_36) ?_
    refine XS.goto X0.here hx rfl (pc0 := 37) (pc' := 41) rfl (hb hby d16_37) (by decide) (by decide) ?_
    show Steps p.tables e below (s₁.setTop (mkF m 41 #[.val (.int p1)] [(.int (1 : Int32))])) _
    exact retN X0 hx (t := .boolean) Bd.returns (by simp) (hb hby d16_41) hr
  · show Q16 Z p1 h0 n0 _ s₁.heap _
    rw [e0]
    exact ⟨(by unfold own_f16; rw [if_neg hc3, if_pos hc9, if_neg hc15, if_pos hc21, if_neg hc27, if_neg hc33]), N0, rfl⟩
set_option maxRecDepth 65536 in
set_option maxHeartbeats 40000000 in
theorem rm16 (l : Launch) (Z : State) (a0 : Array Value) (hw : ∀ d ∈ tables_1, d.before a0 Z = true) (ws : List Jvm.Cond) (p1 : Int32) (h0 : Heap) (n0 : Nat) (Z0 : n0 ≤ h0.size)  :
    MetFree l (⟨"com/example/marcwerk/marcwerk/marc/MarcText", "isTagCharacter", "(C)Z"⟩ : MethodName) (head1 (Jvm.Cond.code (⟨"com/example/marcwerk/marcwerk/marc/MarcText", "isTagCharacter", "(C)Z"⟩ : MethodName) prog_21_method_4_code 1 (some .boolean) :: ws) ({ frames := 0, cells := 0, slots := 0, locals := 0 } : Room)) (fun a U => a = #[(.int p1)] ∧ Z.Warmed39 U.vm ∧ U.heap = h0) (fun _ _ _ _ _ => True) (fun _ U o U' => ∃ v L, o = .returned v ∧ Q16 Z p1 h0 n0 v U'.heap L ∧ FrameEnd U o U' L ({ frames := 0, cells := 0, slots := 0, locals := 0 } : Room).cells ({ frames := 0, cells := 0, slots := 0, locals := 0 } : Room).slots) := by
  by_cases hc3 : p1 < (48 : Int32)
  · by_cases hc15 : p1 < (65 : Int32)
    · by_cases hc27 : p1 < (97 : Int32)
      · exact rm16_ttt l Z a0 hw ws p1 h0 n0 Z0 hc3 hc15 hc27
      · by_cases hc33 : (122 : Int32) < p1
        · exact rm16_ttft l Z a0 hw ws p1 h0 n0 Z0 hc3 hc15 hc27 hc33
        · exact rm16_ttff l Z a0 hw ws p1 h0 n0 Z0 hc3 hc15 hc27 hc33
    · by_cases hc21 : (90 : Int32) < p1
      · by_cases hc27 : p1 < (97 : Int32)
        · exact rm16_tfft l Z a0 hw ws p1 h0 n0 Z0 hc3 hc15 hc21 hc27
        · by_cases hc33 : (122 : Int32) < p1
          · exact rm16_tffft l Z a0 hw ws p1 h0 n0 Z0 hc3 hc15 hc21 hc27 hc33
          · exact rm16_tffff l Z a0 hw ws p1 h0 n0 Z0 hc3 hc15 hc21 hc27 hc33
      · exact rm16_tft l Z a0 hw ws p1 h0 n0 Z0 hc3 hc15 hc21
  · by_cases hc9 : (57 : Int32) < p1
    · by_cases hc15 : p1 < (65 : Int32)
      · by_cases hc27 : p1 < (97 : Int32)
        · exact rm16_fftt l Z a0 hw ws p1 h0 n0 Z0 hc3 hc9 hc15 hc27
        · by_cases hc33 : (122 : Int32) < p1
          · exact rm16_fftft l Z a0 hw ws p1 h0 n0 Z0 hc3 hc9 hc15 hc27 hc33
          · exact rm16_fftff l Z a0 hw ws p1 h0 n0 Z0 hc3 hc9 hc15 hc27 hc33
      · by_cases hc21 : (90 : Int32) < p1
        · by_cases hc27 : p1 < (97 : Int32)
          · exact rm16_fffft l Z a0 hw ws p1 h0 n0 Z0 hc3 hc9 hc15 hc21 hc27
          · by_cases hc33 : (122 : Int32) < p1
            · exact rm16_ffffft l Z a0 hw ws p1 h0 n0 Z0 hc3 hc9 hc15 hc21 hc27 hc33
            · exact rm16_ffffff l Z a0 hw ws p1 h0 n0 Z0 hc3 hc9 hc15 hc21 hc27 hc33
        · exact rm16_ffft l Z a0 hw ws p1 h0 n0 Z0 hc3 hc9 hc15 hc21
    · exact rm16_ft l Z a0 hw ws p1 h0 n0 Z0 hc3 hc9
theorem d10_0 : decode method_2_code 0 = .ok (.iload_n 0, 1) := by decide +kernel
theorem d10_1 : decode method_2_code 1 = .ok (.bipush 48, 2) := by decide +kernel
theorem d10_3 : decode method_2_code 3 = .ok (.isub, 1) := by decide +kernel
theorem d10_4 : decode method_2_code 4 = .ok (.istore_n 1, 1) := by decide +kernel
theorem d10_5 : decode method_2_code 5 = .ok (.iload_n 1, 1) := by decide +kernel
theorem d10_6 : decode method_2_code 6 = .ok (.ifCond .lt 11, 3) := by decide +kernel
theorem d10_17 : decode method_2_code 17 = .ok (.iload_n 0, 1) := by decide +kernel
theorem d10_18 : decode method_2_code 18 = .ok (.bipush 32, 2) := by decide +kernel
theorem d10_20 : decode method_2_code 20 = .ok (.ior, 1) := by decide +kernel
theorem d10_21 : decode method_2_code 21 = .ok (.bipush 97, 2) := by decide +kernel
theorem d10_23 : decode method_2_code 23 = .ok (.isub, 1) := by decide +kernel
theorem d10_24 : decode method_2_code 24 = .ok (.istore_n 2, 1) := by decide +kernel
theorem d10_25 : decode method_2_code 25 = .ok (.iload_n 2, 1) := by decide +kernel
theorem d10_26 : decode method_2_code 26 = .ok (.ifCond .lt 13, 3) := by decide +kernel
theorem d10_39 : decode method_2_code 39 = .ok (.iconst 0, 1) := by decide +kernel
theorem d10_40 : decode method_2_code 40 = .ok (.ireturn, 1) := by decide +kernel
theorem pn_10 : plainName "com/example/marcwerk/marcwerk/marc/MarcTextIsTagPinLaw" = true := by first | (simp [plainName, overriddenIn]; done) | decide +kernel
theorem ef_10 (m : MethodId) (x0 : Int32) : entryFrame m #[(.int x0)] 3 = mkF m 0 #[.val (.int x0), .unset, .unset] [] := by first | (simp [entryFrame, mkF, argsToLocals, Value.category]; done) | rfl
theorem d10_29 : decode method_2_code 29 = .ok (.iload_n 2, 1) := by decide +kernel
theorem d10_30 : decode method_2_code 30 = .ok (.bipush 26, 2) := by decide +kernel
theorem d10_32 : decode method_2_code 32 = .ok (.if_icmp .ge 7, 3) := by decide +kernel
theorem d10_35 : decode method_2_code 35 = .ok (.iconst 1, 1) := by decide +kernel
theorem d10_36 : decode method_2_code 36 = .ok (.goto 4, 3) := by decide +kernel
theorem d10_9 : decode method_2_code 9 = .ok (.iload_n 1, 1) := by decide +kernel
theorem d10_10 : decode method_2_code 10 = .ok (.bipush 10, 2) := by decide +kernel
theorem d10_12 : decode method_2_code 12 = .ok (.if_icmp .ge 5, 3) := by decide +kernel
theorem d10_15 : decode method_2_code 15 = .ok (.iconst 1, 1) := by decide +kernel
theorem d10_16 : decode method_2_code 16 = .ok (.ireturn, 1) := by decide +kernel
def own_f10 (p1 : Int32) : Int32 := (if (p1 - (48 : Int32)) < (0 : Int32) then (if ((p1 ||| (32 : Int32)) - (97 : Int32)) < (0 : Int32) then (0 : Int32) else (if ((p1 ||| (32 : Int32)) - (97 : Int32)) < (26 : Int32) then (1 : Int32) else (0 : Int32))) else (if (p1 - (48 : Int32)) < (10 : Int32) then (1 : Int32) else (if ((p1 ||| (32 : Int32)) - (97 : Int32)) < (0 : Int32) then (0 : Int32) else (if ((p1 ||| (32 : Int32)) - (97 : Int32)) < (26 : Int32) then (1 : Int32) else (0 : Int32)))))
def Q10 (Z : State) (p1 : Int32) (h0 : Heap) (n0 : Nat) (v : Option Value) (h : Heap) (L : List Loc) : Prop := v = some (.int (own_f10 p1)) ∧ Fr n0 L ∧ h = h0
set_option maxRecDepth 65536 in
set_option maxHeartbeats 40000000 in
theorem rm10_tt (l : Launch) (Z : State) (a0 : Array Value) (hw : ∀ d ∈ tables_1, d.before a0 Z = true) (ws : List Jvm.Cond) (p1 : Int32) (h0 : Heap) (n0 : Nat) (Z0 : n0 ≤ h0.size) (hc6 : (p1 - (48 : Int32)) < (0 : Int32)) (hc26 : ((p1 ||| (32 : Int32)) - (97 : Int32)) < (0 : Int32)) :
    MetFree l (⟨"com/example/marcwerk/marcwerk/marc/MarcTextIsTagPinLaw", "refTagChar", "(C)Z"⟩ : MethodName) (head1 (Jvm.Cond.code (⟨"com/example/marcwerk/marcwerk/marc/MarcTextIsTagPinLaw", "refTagChar", "(C)Z"⟩ : MethodName) method_2_code 3 (some .boolean) :: ws) ({ frames := 0, cells := 0, slots := 0, locals := 0 } : Room)) (fun a U => a = #[(.int p1)] ∧ Z.Warmed39 U.vm ∧ U.heap = h0) (fun _ _ _ _ _ => True) (fun _ U o U' => ∃ v L, o = .returned v ∧ Q10 Z p1 h0 n0 v U'.heap L ∧ FrameEnd U o U' L ({ frames := 0, cells := 0, slots := 0, locals := 0 } : Room).cells ({ frames := 0, cells := 0, slots := 0, locals := 0 } : Room).slots) := by
  refine MetFree.of_bodySF (plainFor_of_name pn_10) hisR ?_
  intro p e s m args below meth c s₁ Bd hml0 hP hK
  obtain ⟨rfl, hZ, hh⟩ := hP
  have hx := Bd.exec
  have hby := Bd.bytes
  have hml : c.maxLocals = 3 := hml0
  have hown : s.vm.findClass "com/example/marcwerk/marcwerk/marc/MarcTextIsTagPinLaw" = some m.cls := findClass_of_methodNamed Bd.named
  have hnm := (name_of_methodNamed Bd.named Bd.method).1
  have X0 : Stand p l e ({ frames := 0, cells := 0, slots := 0, locals := 0 } : Room) s m #[(.int p1)] below meth c s₁ [] 0 0 := Stand.of_body Bd
  have e0 : s₁.heap = h0 := by rw [← hh, Bd.state]; rfl
  have N0 := Fr.nil n0
  have pre0 : ∀ t, Steps p.tables e below (s₁.setTop (mkF m 0 #[.val (.int p1), .unset, .unset] [])) t → Steps p.tables e below (s₁.setTop (entryFrame m #[(.int p1)] 3)) t := fun t k => castTop (ef_10 m p1) k

  obtain ⟨fs, hr, hrun, hended, hW, hsame⟩ := X0.leave (v := some (.int (0 : Int32))) (fun h => by rw [Bd.returns] at h; cases h) (BodyLoose.notSynchronized Bd)
  refine ⟨_, _, pre0 _ ?_, hrun, hended, _, _, rfl, ?_, ⟨_, rfl⟩, hW, hsame.mono (by decide) (by decide)⟩
  · show Steps p.tables e below (s₁.setTop (mkF m 0 #[.val (.int p1), .unset, .unset] [])) _
    refine XS.iloadN X0.here hx rfl (hb hby d10_0) rfl ?_
    refine XS.bipush X0.here hx rfl (hb hby d10_1) ?_
    refine XS.isub X0.here hx rfl (hb hby d10_3) rfl ?_
    refine XS.istoreN X0.here hx rfl (hb hby d10_4) rfl (l' := #[.val (.int p1), .val (.int (p1 - (48 : Int32))), .unset]) rfl ?_
    refine XS.iloadN X0.here hx rfl (hb hby d10_5) rfl ?_
    refine XS.ifYes X0.here hx rfl (pc0 := 6) (pc' := 17) rfl (hb hby d10_6) rfl ((if0 _ _).trans (tlt hc6).1) (by decide) (by decide) ?_
    refine XS.iloadN X0.here hx rfl (hb hby d10_17) rfl ?_
    refine XS.bipush X0.here hx rfl (hb hby d10_18) ?_
    refine XS.ior X0.here hx rfl (hb hby d10_20) rfl ?_
    refine XS.bipush X0.here hx rfl (hb hby d10_21) ?_
    refine XS.isub X0.here hx rfl (hb hby d10_23) rfl ?_
    refine XS.istoreN X0.here hx rfl (hb hby d10_24) rfl (l' := #[.val (.int p1), .val (.int (p1 - (48 : Int32))), .val (.int ((p1 ||| (32 : Int32)) - (97 : Int32)))]) rfl ?_
    refine XS.iloadN X0.here hx rfl (hb hby d10_25) rfl ?_
    refine XS.ifYes X0.here hx rfl (pc0 := 26) (pc' := 39) rfl (hb hby d10_26) rfl ((if0 _ _).trans (tlt hc26).1) (by decide) (by decide) ?_
    refine XS.iconst X0.here hx rfl (hb hby d10_39) ?_
    show Steps p.tables e below (s₁.setTop (mkF m 40 #[.val (.int p1), .val (.int (p1 - (48 : Int32))), .val (.int ((p1 ||| (32 : Int32)) - (97 : Int32)))] [(.int (0 : Int32))])) _
    exact retN X0 hx (t := .boolean) Bd.returns (by simp) (hb hby d10_40) hr
  · show Q10 Z p1 h0 n0 _ s₁.heap _
    rw [e0]
    exact ⟨(by unfold own_f10; rw [if_pos hc6, if_pos hc26]), N0, rfl⟩
set_option maxRecDepth 65536 in
set_option maxHeartbeats 40000000 in
theorem rm10_tft (l : Launch) (Z : State) (a0 : Array Value) (hw : ∀ d ∈ tables_1, d.before a0 Z = true) (ws : List Jvm.Cond) (p1 : Int32) (h0 : Heap) (n0 : Nat) (Z0 : n0 ≤ h0.size) (hc6 : (p1 - (48 : Int32)) < (0 : Int32)) (hc26 : ¬ (((p1 ||| (32 : Int32)) - (97 : Int32)) < (0 : Int32))) (hc32 : ¬ (((p1 ||| (32 : Int32)) - (97 : Int32)) < (26 : Int32))) :
    MetFree l (⟨"com/example/marcwerk/marcwerk/marc/MarcTextIsTagPinLaw", "refTagChar", "(C)Z"⟩ : MethodName) (head1 (Jvm.Cond.code (⟨"com/example/marcwerk/marcwerk/marc/MarcTextIsTagPinLaw", "refTagChar", "(C)Z"⟩ : MethodName) method_2_code 3 (some .boolean) :: ws) ({ frames := 0, cells := 0, slots := 0, locals := 0 } : Room)) (fun a U => a = #[(.int p1)] ∧ Z.Warmed39 U.vm ∧ U.heap = h0) (fun _ _ _ _ _ => True) (fun _ U o U' => ∃ v L, o = .returned v ∧ Q10 Z p1 h0 n0 v U'.heap L ∧ FrameEnd U o U' L ({ frames := 0, cells := 0, slots := 0, locals := 0 } : Room).cells ({ frames := 0, cells := 0, slots := 0, locals := 0 } : Room).slots) := by
  refine MetFree.of_bodySF (plainFor_of_name pn_10) hisR ?_
  intro p e s m args below meth c s₁ Bd hml0 hP hK
  obtain ⟨rfl, hZ, hh⟩ := hP
  have hx := Bd.exec
  have hby := Bd.bytes
  have hml : c.maxLocals = 3 := hml0
  have hown : s.vm.findClass "com/example/marcwerk/marcwerk/marc/MarcTextIsTagPinLaw" = some m.cls := findClass_of_methodNamed Bd.named
  have hnm := (name_of_methodNamed Bd.named Bd.method).1
  have X0 : Stand p l e ({ frames := 0, cells := 0, slots := 0, locals := 0 } : Room) s m #[(.int p1)] below meth c s₁ [] 0 0 := Stand.of_body Bd
  have e0 : s₁.heap = h0 := by rw [← hh, Bd.state]; rfl
  have N0 := Fr.nil n0
  have pre0 : ∀ t, Steps p.tables e below (s₁.setTop (mkF m 0 #[.val (.int p1), .unset, .unset] [])) t → Steps p.tables e below (s₁.setTop (entryFrame m #[(.int p1)] 3)) t := fun t k => castTop (ef_10 m p1) k

  obtain ⟨fs, hr, hrun, hended, hW, hsame⟩ := X0.leave (v := some (.int (0 : Int32))) (fun h => by rw [Bd.returns] at h; cases h) (BodyLoose.notSynchronized Bd)
  refine ⟨_, _, pre0 _ ?_, hrun, hended, _, _, rfl, ?_, ⟨_, rfl⟩, hW, hsame.mono (by decide) (by decide)⟩
  · show Steps p.tables e below (s₁.setTop (mkF m 0 #[.val (.int p1), .unset, .unset] [])) _
    refine XS.iloadN X0.here hx rfl (hb hby d10_0) rfl ?_
    refine XS.bipush X0.here hx rfl (hb hby d10_1) ?_
    refine XS.isub X0.here hx rfl (hb hby d10_3) rfl ?_
    refine XS.istoreN X0.here hx rfl (hb hby d10_4) rfl (l' := #[.val (.int p1), .val (.int (p1 - (48 : Int32))), .unset]) rfl ?_
    refine XS.iloadN X0.here hx rfl (hb hby d10_5) rfl ?_
    refine XS.ifYes X0.here hx rfl (pc0 := 6) (pc' := 17) rfl (hb hby d10_6) rfl ((if0 _ _).trans (tlt hc6).1) (by decide) (by decide) ?_
    refine XS.iloadN X0.here hx rfl (hb hby d10_17) rfl ?_
    refine XS.bipush X0.here hx rfl (hb hby d10_18) ?_
    refine XS.ior X0.here hx rfl (hb hby d10_20) rfl ?_
    refine XS.bipush X0.here hx rfl (hb hby d10_21) ?_
    refine XS.isub X0.here hx rfl (hb hby d10_23) rfl ?_
    refine XS.istoreN X0.here hx rfl (hb hby d10_24) rfl (l' := #[.val (.int p1), .val (.int (p1 - (48 : Int32))), .val (.int ((p1 ||| (32 : Int32)) - (97 : Int32)))]) rfl ?_
    refine XS.iloadN X0.here hx rfl (hb hby d10_25) rfl ?_
    refine XS.ifNo X0.here hx rfl (hb hby d10_26) rfl ((if0 _ _).trans (flt hc26).1) ?_
    refine XS.iloadN X0.here hx rfl (hb hby d10_29) rfl ?_
    refine XS.bipush X0.here hx rfl (hb hby d10_30) ?_
    refine XS.icmpYes X0.here hx rfl (pc0 := 32) (pc' := 39) rfl (hb hby d10_32) rfl (flt hc32).2.1 (by decide) (by decide) ?_
    refine XS.iconst X0.here hx rfl (hb hby d10_39) ?_
    show Steps p.tables e below (s₁.setTop (mkF m 40 #[.val (.int p1), .val (.int (p1 - (48 : Int32))), .val (.int ((p1 ||| (32 : Int32)) - (97 : Int32)))] [(.int (0 : Int32))])) _
    exact retN X0 hx (t := .boolean) Bd.returns (by simp) (hb hby d10_40) hr
  · show Q10 Z p1 h0 n0 _ s₁.heap _
    rw [e0]
    exact ⟨(by unfold own_f10; rw [if_pos hc6, if_neg hc26, if_neg hc32]), N0, rfl⟩
set_option maxRecDepth 65536 in
set_option maxHeartbeats 40000000 in
theorem rm10_tff (l : Launch) (Z : State) (a0 : Array Value) (hw : ∀ d ∈ tables_1, d.before a0 Z = true) (ws : List Jvm.Cond) (p1 : Int32) (h0 : Heap) (n0 : Nat) (Z0 : n0 ≤ h0.size) (hc6 : (p1 - (48 : Int32)) < (0 : Int32)) (hc26 : ¬ (((p1 ||| (32 : Int32)) - (97 : Int32)) < (0 : Int32))) (hc32 : ((p1 ||| (32 : Int32)) - (97 : Int32)) < (26 : Int32)) :
    MetFree l (⟨"com/example/marcwerk/marcwerk/marc/MarcTextIsTagPinLaw", "refTagChar", "(C)Z"⟩ : MethodName) (head1 (Jvm.Cond.code (⟨"com/example/marcwerk/marcwerk/marc/MarcTextIsTagPinLaw", "refTagChar", "(C)Z"⟩ : MethodName) method_2_code 3 (some .boolean) :: ws) ({ frames := 0, cells := 0, slots := 0, locals := 0 } : Room)) (fun a U => a = #[(.int p1)] ∧ Z.Warmed39 U.vm ∧ U.heap = h0) (fun _ _ _ _ _ => True) (fun _ U o U' => ∃ v L, o = .returned v ∧ Q10 Z p1 h0 n0 v U'.heap L ∧ FrameEnd U o U' L ({ frames := 0, cells := 0, slots := 0, locals := 0 } : Room).cells ({ frames := 0, cells := 0, slots := 0, locals := 0 } : Room).slots) := by
  refine MetFree.of_bodySF (plainFor_of_name pn_10) hisR ?_
  intro p e s m args below meth c s₁ Bd hml0 hP hK
  obtain ⟨rfl, hZ, hh⟩ := hP
  have hx := Bd.exec
  have hby := Bd.bytes
  have hml : c.maxLocals = 3 := hml0
  have hown : s.vm.findClass "com/example/marcwerk/marcwerk/marc/MarcTextIsTagPinLaw" = some m.cls := findClass_of_methodNamed Bd.named
  have hnm := (name_of_methodNamed Bd.named Bd.method).1
  have X0 : Stand p l e ({ frames := 0, cells := 0, slots := 0, locals := 0 } : Room) s m #[(.int p1)] below meth c s₁ [] 0 0 := Stand.of_body Bd
  have e0 : s₁.heap = h0 := by rw [← hh, Bd.state]; rfl
  have N0 := Fr.nil n0
  have pre0 : ∀ t, Steps p.tables e below (s₁.setTop (mkF m 0 #[.val (.int p1), .unset, .unset] [])) t → Steps p.tables e below (s₁.setTop (entryFrame m #[(.int p1)] 3)) t := fun t k => castTop (ef_10 m p1) k

  obtain ⟨fs, hr, hrun, hended, hW, hsame⟩ := X0.leave (v := some (.int (1 : Int32))) (fun h => by rw [Bd.returns] at h; cases h) (BodyLoose.notSynchronized Bd)
  refine ⟨_, _, pre0 _ ?_, hrun, hended, _, _, rfl, ?_, ⟨_, rfl⟩, hW, hsame.mono (by decide) (by decide)⟩
  · show Steps p.tables e below (s₁.setTop (mkF m 0 #[.val (.int p1), .unset, .unset] [])) _
    refine XS.iloadN X0.here hx rfl (hb hby d10_0) rfl ?_
    refine XS.bipush X0.here hx rfl (hb hby d10_1) ?_
    refine XS.isub X0.here hx rfl (hb hby d10_3) rfl ?_
    refine XS.istoreN X0.here hx rfl (hb hby d10_4) rfl (l' := #[.val (.int p1), .val (.int (p1 - (48 : Int32))), .unset]) rfl ?_
    refine XS.iloadN X0.here hx rfl (hb hby d10_5) rfl ?_
    refine XS.ifYes X0.here hx rfl (pc0 := 6) (pc' := 17) rfl (hb hby d10_6) rfl ((if0 _ _).trans (tlt hc6).1) (by decide) (by decide) ?_
    refine XS.iloadN X0.here hx rfl (hb hby d10_17) rfl ?_
    refine XS.bipush X0.here hx rfl (hb hby d10_18) ?_
    refine XS.ior X0.here hx rfl (hb hby d10_20) rfl ?_
    refine XS.bipush X0.here hx rfl (hb hby d10_21) ?_
    refine XS.isub X0.here hx rfl (hb hby d10_23) rfl ?_
    refine XS.istoreN X0.here hx rfl (hb hby d10_24) rfl (l' := #[.val (.int p1), .val (.int (p1 - (48 : Int32))), .val (.int ((p1 ||| (32 : Int32)) - (97 : Int32)))]) rfl ?_
    refine XS.iloadN X0.here hx rfl (hb hby d10_25) rfl ?_
    refine XS.ifNo X0.here hx rfl (hb hby d10_26) rfl ((if0 _ _).trans (flt hc26).1) ?_
    refine XS.iloadN X0.here hx rfl (hb hby d10_29) rfl ?_
    refine XS.bipush X0.here hx rfl (hb hby d10_30) ?_
    refine XS.icmpNo X0.here hx rfl (hb hby d10_32) rfl (tlt hc32).2.1 ?_
    refine XS.iconst X0.here hx rfl (hb hby d10_35) ?_
    refine XS.goto X0.here hx rfl (pc0 := 36) (pc' := 40) rfl (hb hby d10_36) (by decide) (by decide) ?_
    show Steps p.tables e below (s₁.setTop (mkF m 40 #[.val (.int p1), .val (.int (p1 - (48 : Int32))), .val (.int ((p1 ||| (32 : Int32)) - (97 : Int32)))] [(.int (1 : Int32))])) _
    exact retN X0 hx (t := .boolean) Bd.returns (by simp) (hb hby d10_40) hr
  · show Q10 Z p1 h0 n0 _ s₁.heap _
    rw [e0]
    exact ⟨(by unfold own_f10; rw [if_pos hc6, if_neg hc26, if_pos hc32]), N0, rfl⟩
set_option maxRecDepth 65536 in
set_option maxHeartbeats 40000000 in
theorem rm10_ftt (l : Launch) (Z : State) (a0 : Array Value) (hw : ∀ d ∈ tables_1, d.before a0 Z = true) (ws : List Jvm.Cond) (p1 : Int32) (h0 : Heap) (n0 : Nat) (Z0 : n0 ≤ h0.size) (hc6 : ¬ ((p1 - (48 : Int32)) < (0 : Int32))) (hc12 : ¬ ((p1 - (48 : Int32)) < (10 : Int32))) (hc26 : ((p1 ||| (32 : Int32)) - (97 : Int32)) < (0 : Int32)) :
    MetFree l (⟨"com/example/marcwerk/marcwerk/marc/MarcTextIsTagPinLaw", "refTagChar", "(C)Z"⟩ : MethodName) (head1 (Jvm.Cond.code (⟨"com/example/marcwerk/marcwerk/marc/MarcTextIsTagPinLaw", "refTagChar", "(C)Z"⟩ : MethodName) method_2_code 3 (some .boolean) :: ws) ({ frames := 0, cells := 0, slots := 0, locals := 0 } : Room)) (fun a U => a = #[(.int p1)] ∧ Z.Warmed39 U.vm ∧ U.heap = h0) (fun _ _ _ _ _ => True) (fun _ U o U' => ∃ v L, o = .returned v ∧ Q10 Z p1 h0 n0 v U'.heap L ∧ FrameEnd U o U' L ({ frames := 0, cells := 0, slots := 0, locals := 0 } : Room).cells ({ frames := 0, cells := 0, slots := 0, locals := 0 } : Room).slots) := by
  refine MetFree.of_bodySF (plainFor_of_name pn_10) hisR ?_
  intro p e s m args below meth c s₁ Bd hml0 hP hK
  obtain ⟨rfl, hZ, hh⟩ := hP
  have hx := Bd.exec
  have hby := Bd.bytes
  have hml : c.maxLocals = 3 := hml0
  have hown : s.vm.findClass "com/example/marcwerk/marcwerk/marc/MarcTextIsTagPinLaw" = some m.cls := findClass_of_methodNamed Bd.named
  have hnm := (name_of_methodNamed Bd.named Bd.method).1
  have X0 : Stand p l e ({ frames := 0, cells := 0, slots := 0, locals := 0 } : Room) s m #[(.int p1)] below meth c s₁ [] 0 0 := Stand.of_body Bd
  have e0 : s₁.heap = h0 := by rw [← hh, Bd.state]; rfl
  have N0 := Fr.nil n0
  have pre0 : ∀ t, Steps p.tables e below (s₁.setTop (mkF m 0 #[.val (.int p1), .unset, .unset] [])) t → Steps p.tables e below (s₁.setTop (entryFrame m #[(.int p1)] 3)) t := fun t k => castTop (ef_10 m p1) k

  obtain ⟨fs, hr, hrun, hended, hW, hsame⟩ := X0.leave (v := some (.int (0 : Int32))) (fun h => by rw [Bd.returns] at h; cases h) (BodyLoose.notSynchronized Bd)
  refine ⟨_, _, pre0 _ ?_, hrun, hended, _, _, rfl, ?_, ⟨_, rfl⟩, hW, hsame.mono (by decide) (by decide)⟩
  · show Steps p.tables e below (s₁.setTop (mkF m 0 #[.val (.int p1), .unset, .unset] [])) _
    refine XS.iloadN X0.here hx rfl (hb hby d10_0) rfl ?_
    refine XS.bipush X0.here hx rfl (hb hby d10_1) ?_
    refine XS.isub X0.here hx rfl (hb hby d10_3) rfl ?_
    refine XS.istoreN X0.here hx rfl (hb hby d10_4) rfl (l' := #[.val (.int p1), .val (.int (p1 - (48 : Int32))), .unset]) rfl ?_
    refine XS.iloadN X0.here hx rfl (hb hby d10_5) rfl ?_
    refine XS.ifNo X0.here hx rfl (hb hby d10_6) rfl ((if0 _ _).trans (flt hc6).1) ?_
    refine XS.iloadN X0.here hx rfl (hb hby d10_9) rfl ?_
    refine XS.bipush X0.here hx rfl (hb hby d10_10) ?_
    refine XS.icmpYes X0.here hx rfl (pc0 := 12) (pc' := 17) rfl (hb hby d10_12) rfl (flt hc12).2.1 (by decide) (by decide) ?_
    refine XS.iloadN X0.here hx rfl (hb hby d10_17) rfl ?_
    refine XS.bipush X0.here hx rfl (hb hby d10_18) ?_
    refine XS.ior X0.here hx rfl (hb hby d10_20) rfl ?_
    refine XS.bipush X0.here hx rfl (hb hby d10_21) ?_
    refine XS.isub X0.here hx rfl (hb hby d10_23) rfl ?_
    refine XS.istoreN X0.here hx rfl (hb hby d10_24) rfl (l' := #[.val (.int p1), .val (.int (p1 - (48 : Int32))), .val (.int ((p1 ||| (32 : Int32)) - (97 : Int32)))]) rfl ?_
    refine XS.iloadN X0.here hx rfl (hb hby d10_25) rfl ?_
    refine XS.ifYes X0.here hx rfl (pc0 := 26) (pc' := 39) rfl (hb hby d10_26) rfl ((if0 _ _).trans (tlt hc26).1) (by decide) (by decide) ?_
    refine XS.iconst X0.here hx rfl (hb hby d10_39) ?_
    show Steps p.tables e below (s₁.setTop (mkF m 40 #[.val (.int p1), .val (.int (p1 - (48 : Int32))), .val (.int ((p1 ||| (32 : Int32)) - (97 : Int32)))] [(.int (0 : Int32))])) _
    exact retN X0 hx (t := .boolean) Bd.returns (by simp) (hb hby d10_40) hr
  · show Q10 Z p1 h0 n0 _ s₁.heap _
    rw [e0]
    exact ⟨(by unfold own_f10; rw [if_neg hc6, if_neg hc12, if_pos hc26]), N0, rfl⟩
set_option maxRecDepth 65536 in
set_option maxHeartbeats 40000000 in
theorem rm10_ftft (l : Launch) (Z : State) (a0 : Array Value) (hw : ∀ d ∈ tables_1, d.before a0 Z = true) (ws : List Jvm.Cond) (p1 : Int32) (h0 : Heap) (n0 : Nat) (Z0 : n0 ≤ h0.size) (hc6 : ¬ ((p1 - (48 : Int32)) < (0 : Int32))) (hc12 : ¬ ((p1 - (48 : Int32)) < (10 : Int32))) (hc26 : ¬ (((p1 ||| (32 : Int32)) - (97 : Int32)) < (0 : Int32))) (hc32 : ¬ (((p1 ||| (32 : Int32)) - (97 : Int32)) < (26 : Int32))) :
    MetFree l (⟨"com/example/marcwerk/marcwerk/marc/MarcTextIsTagPinLaw", "refTagChar", "(C)Z"⟩ : MethodName) (head1 (Jvm.Cond.code (⟨"com/example/marcwerk/marcwerk/marc/MarcTextIsTagPinLaw", "refTagChar", "(C)Z"⟩ : MethodName) method_2_code 3 (some .boolean) :: ws) ({ frames := 0, cells := 0, slots := 0, locals := 0 } : Room)) (fun a U => a = #[(.int p1)] ∧ Z.Warmed39 U.vm ∧ U.heap = h0) (fun _ _ _ _ _ => True) (fun _ U o U' => ∃ v L, o = .returned v ∧ Q10 Z p1 h0 n0 v U'.heap L ∧ FrameEnd U o U' L ({ frames := 0, cells := 0, slots := 0, locals := 0 } : Room).cells ({ frames := 0, cells := 0, slots := 0, locals := 0 } : Room).slots) := by
  refine MetFree.of_bodySF (plainFor_of_name pn_10) hisR ?_
  intro p e s m args below meth c s₁ Bd hml0 hP hK
  obtain ⟨rfl, hZ, hh⟩ := hP
  have hx := Bd.exec
  have hby := Bd.bytes
  have hml : c.maxLocals = 3 := hml0
  have hown : s.vm.findClass "com/example/marcwerk/marcwerk/marc/MarcTextIsTagPinLaw" = some m.cls := findClass_of_methodNamed Bd.named
  have hnm := (name_of_methodNamed Bd.named Bd.method).1
  have X0 : Stand p l e ({ frames := 0, cells := 0, slots := 0, locals := 0 } : Room) s m #[(.int p1)] below meth c s₁ [] 0 0 := Stand.of_body Bd
  have e0 : s₁.heap = h0 := by rw [← hh, Bd.state]; rfl
  have N0 := Fr.nil n0
  have pre0 : ∀ t, Steps p.tables e below (s₁.setTop (mkF m 0 #[.val (.int p1), .unset, .unset] [])) t → Steps p.tables e below (s₁.setTop (entryFrame m #[(.int p1)] 3)) t := fun t k => castTop (ef_10 m p1) k

  obtain ⟨fs, hr, hrun, hended, hW, hsame⟩ := X0.leave (v := some (.int (0 : Int32))) (fun h => by rw [Bd.returns] at h; cases h) (BodyLoose.notSynchronized Bd)
  refine ⟨_, _, pre0 _ ?_, hrun, hended, _, _, rfl, ?_, ⟨_, rfl⟩, hW, hsame.mono (by decide) (by decide)⟩
  · show Steps p.tables e below (s₁.setTop (mkF m 0 #[.val (.int p1), .unset, .unset] [])) _
    refine XS.iloadN X0.here hx rfl (hb hby d10_0) rfl ?_
    refine XS.bipush X0.here hx rfl (hb hby d10_1) ?_
    refine XS.isub X0.here hx rfl (hb hby d10_3) rfl ?_
    refine XS.istoreN X0.here hx rfl (hb hby d10_4) rfl (l' := #[.val (.int p1), .val (.int (p1 - (48 : Int32))), .unset]) rfl ?_
    refine XS.iloadN X0.here hx rfl (hb hby d10_5) rfl ?_
    refine XS.ifNo X0.here hx rfl (hb hby d10_6) rfl ((if0 _ _).trans (flt hc6).1) ?_
    refine XS.iloadN X0.here hx rfl (hb hby d10_9) rfl ?_
    refine XS.bipush X0.here hx rfl (hb hby d10_10) ?_
    refine XS.icmpYes X0.here hx rfl (pc0 := 12) (pc' := 17) rfl (hb hby d10_12) rfl (flt hc12).2.1 (by decide) (by decide) ?_
    refine XS.iloadN X0.here hx rfl (hb hby d10_17) rfl ?_
    refine XS.bipush X0.here hx rfl (hb hby d10_18) ?_
    refine XS.ior X0.here hx rfl (hb hby d10_20) rfl ?_
    refine XS.bipush X0.here hx rfl (hb hby d10_21) ?_
    refine XS.isub X0.here hx rfl (hb hby d10_23) rfl ?_
    refine XS.istoreN X0.here hx rfl (hb hby d10_24) rfl (l' := #[.val (.int p1), .val (.int (p1 - (48 : Int32))), .val (.int ((p1 ||| (32 : Int32)) - (97 : Int32)))]) rfl ?_
    refine XS.iloadN X0.here hx rfl (hb hby d10_25) rfl ?_
    refine XS.ifNo X0.here hx rfl (hb hby d10_26) rfl ((if0 _ _).trans (flt hc26).1) ?_
    refine XS.iloadN X0.here hx rfl (hb hby d10_29) rfl ?_
    refine XS.bipush X0.here hx rfl (hb hby d10_30) ?_
    refine XS.icmpYes X0.here hx rfl (pc0 := 32) (pc' := 39) rfl (hb hby d10_32) rfl (flt hc32).2.1 (by decide) (by decide) ?_
    refine XS.iconst X0.here hx rfl (hb hby d10_39) ?_
    show Steps p.tables e below (s₁.setTop (mkF m 40 #[.val (.int p1), .val (.int (p1 - (48 : Int32))), .val (.int ((p1 ||| (32 : Int32)) - (97 : Int32)))] [(.int (0 : Int32))])) _
    exact retN X0 hx (t := .boolean) Bd.returns (by simp) (hb hby d10_40) hr
  · show Q10 Z p1 h0 n0 _ s₁.heap _
    rw [e0]
    exact ⟨(by unfold own_f10; rw [if_neg hc6, if_neg hc12, if_neg hc26, if_neg hc32]), N0, rfl⟩
set_option maxRecDepth 65536 in
set_option maxHeartbeats 40000000 in
theorem rm10_ftff (l : Launch) (Z : State) (a0 : Array Value) (hw : ∀ d ∈ tables_1, d.before a0 Z = true) (ws : List Jvm.Cond) (p1 : Int32) (h0 : Heap) (n0 : Nat) (Z0 : n0 ≤ h0.size) (hc6 : ¬ ((p1 - (48 : Int32)) < (0 : Int32))) (hc12 : ¬ ((p1 - (48 : Int32)) < (10 : Int32))) (hc26 : ¬ (((p1 ||| (32 : Int32)) - (97 : Int32)) < (0 : Int32))) (hc32 : ((p1 ||| (32 : Int32)) - (97 : Int32)) < (26 : Int32)) :
    MetFree l (⟨"com/example/marcwerk/marcwerk/marc/MarcTextIsTagPinLaw", "refTagChar", "(C)Z"⟩ : MethodName) (head1 (Jvm.Cond.code (⟨"com/example/marcwerk/marcwerk/marc/MarcTextIsTagPinLaw", "refTagChar", "(C)Z"⟩ : MethodName) method_2_code 3 (some .boolean) :: ws) ({ frames := 0, cells := 0, slots := 0, locals := 0 } : Room)) (fun a U => a = #[(.int p1)] ∧ Z.Warmed39 U.vm ∧ U.heap = h0) (fun _ _ _ _ _ => True) (fun _ U o U' => ∃ v L, o = .returned v ∧ Q10 Z p1 h0 n0 v U'.heap L ∧ FrameEnd U o U' L ({ frames := 0, cells := 0, slots := 0, locals := 0 } : Room).cells ({ frames := 0, cells := 0, slots := 0, locals := 0 } : Room).slots) := by
  refine MetFree.of_bodySF (plainFor_of_name pn_10) hisR ?_
  intro p e s m args below meth c s₁ Bd hml0 hP hK
  obtain ⟨rfl, hZ, hh⟩ := hP
  have hx := Bd.exec
  have hby := Bd.bytes
  have hml : c.maxLocals = 3 := hml0
  have hown : s.vm.findClass "com/example/marcwerk/marcwerk/marc/MarcTextIsTagPinLaw" = some m.cls := findClass_of_methodNamed Bd.named
  have hnm := (name_of_methodNamed Bd.named Bd.method).1
  have X0 : Stand p l e ({ frames := 0, cells := 0, slots := 0, locals := 0 } : Room) s m #[(.int p1)] below meth c s₁ [] 0 0 := Stand.of_body Bd
  have e0 : s₁.heap = h0 := by rw [← hh, Bd.state]; rfl
  have N0 := Fr.nil n0
  have pre0 : ∀ t, Steps p.tables e below (s₁.setTop (mkF m 0 #[.val (.int p1), .unset, .unset] [])) t → Steps p.tables e below (s₁.setTop (entryFrame m #[(.int p1)] 3)) t := fun t k => castTop (ef_10 m p1) k

  obtain ⟨fs, hr, hrun, hended, hW, hsame⟩ := X0.leave (v := some (.int (1 : Int32))) (fun h => by rw [Bd.returns] at h; cases h) (BodyLoose.notSynchronized Bd)
  refine ⟨_, _, pre0 _ ?_, hrun, hended, _, _, rfl, ?_, ⟨_, rfl⟩, hW, hsame.mono (by decide) (by decide)⟩
  · show Steps p.tables e below (s₁.setTop (mkF m 0 #[.val (.int p1), .unset, .unset] [])) _
    refine XS.iloadN X0.here hx rfl (hb hby d10_0) rfl ?_
    refine XS.bipush X0.here hx rfl (hb hby d10_1) ?_
    refine XS.isub X0.here hx rfl (hb hby d10_3) rfl ?_
    refine XS.istoreN X0.here hx rfl (hb hby d10_4) rfl (l' := #[.val (.int p1), .val (.int (p1 - (48 : Int32))), .unset]) rfl ?_
    refine XS.iloadN X0.here hx rfl (hb hby d10_5) rfl ?_
    refine XS.ifNo X0.here hx rfl (hb hby d10_6) rfl ((if0 _ _).trans (flt hc6).1) ?_
    refine XS.iloadN X0.here hx rfl (hb hby d10_9) rfl ?_
    refine XS.bipush X0.here hx rfl (hb hby d10_10) ?_
    refine XS.icmpYes X0.here hx rfl (pc0 := 12) (pc' := 17) rfl (hb hby d10_12) rfl (flt hc12).2.1 (by decide) (by decide) ?_
    refine XS.iloadN X0.here hx rfl (hb hby d10_17) rfl ?_
    refine XS.bipush X0.here hx rfl (hb hby d10_18) ?_
    refine XS.ior X0.here hx rfl (hb hby d10_20) rfl ?_
    refine XS.bipush X0.here hx rfl (hb hby d10_21) ?_
    refine XS.isub X0.here hx rfl (hb hby d10_23) rfl ?_
    refine XS.istoreN X0.here hx rfl (hb hby d10_24) rfl (l' := #[.val (.int p1), .val (.int (p1 - (48 : Int32))), .val (.int ((p1 ||| (32 : Int32)) - (97 : Int32)))]) rfl ?_
    refine XS.iloadN X0.here hx rfl (hb hby d10_25) rfl ?_
    refine XS.ifNo X0.here hx rfl (hb hby d10_26) rfl ((if0 _ _).trans (flt hc26).1) ?_
    refine XS.iloadN X0.here hx rfl (hb hby d10_29) rfl ?_
    refine XS.bipush X0.here hx rfl (hb hby d10_30) ?_
    refine XS.icmpNo X0.here hx rfl (hb hby d10_32) rfl (tlt hc32).2.1 ?_
    refine XS.iconst X0.here hx rfl (hb hby d10_35) ?_
    refine XS.goto X0.here hx rfl (pc0 := 36) (pc' := 40) rfl (hb hby d10_36) (by decide) (by decide) ?_
    show Steps p.tables e below (s₁.setTop (mkF m 40 #[.val (.int p1), .val (.int (p1 - (48 : Int32))), .val (.int ((p1 ||| (32 : Int32)) - (97 : Int32)))] [(.int (1 : Int32))])) _
    exact retN X0 hx (t := .boolean) Bd.returns (by simp) (hb hby d10_40) hr
  · show Q10 Z p1 h0 n0 _ s₁.heap _
    rw [e0]
    exact ⟨(by unfold own_f10; rw [if_neg hc6, if_neg hc12, if_neg hc26, if_pos hc32]), N0, rfl⟩
set_option maxRecDepth 65536 in
set_option maxHeartbeats 40000000 in
theorem rm10_ff (l : Launch) (Z : State) (a0 : Array Value) (hw : ∀ d ∈ tables_1, d.before a0 Z = true) (ws : List Jvm.Cond) (p1 : Int32) (h0 : Heap) (n0 : Nat) (Z0 : n0 ≤ h0.size) (hc6 : ¬ ((p1 - (48 : Int32)) < (0 : Int32))) (hc12 : (p1 - (48 : Int32)) < (10 : Int32)) :
    MetFree l (⟨"com/example/marcwerk/marcwerk/marc/MarcTextIsTagPinLaw", "refTagChar", "(C)Z"⟩ : MethodName) (head1 (Jvm.Cond.code (⟨"com/example/marcwerk/marcwerk/marc/MarcTextIsTagPinLaw", "refTagChar", "(C)Z"⟩ : MethodName) method_2_code 3 (some .boolean) :: ws) ({ frames := 0, cells := 0, slots := 0, locals := 0 } : Room)) (fun a U => a = #[(.int p1)] ∧ Z.Warmed39 U.vm ∧ U.heap = h0) (fun _ _ _ _ _ => True) (fun _ U o U' => ∃ v L, o = .returned v ∧ Q10 Z p1 h0 n0 v U'.heap L ∧ FrameEnd U o U' L ({ frames := 0, cells := 0, slots := 0, locals := 0 } : Room).cells ({ frames := 0, cells := 0, slots := 0, locals := 0 } : Room).slots) := by
  refine MetFree.of_bodySF (plainFor_of_name pn_10) hisR ?_
  intro p e s m args below meth c s₁ Bd hml0 hP hK
  obtain ⟨rfl, hZ, hh⟩ := hP
  have hx := Bd.exec
  have hby := Bd.bytes
  have hml : c.maxLocals = 3 := hml0
  have hown : s.vm.findClass "com/example/marcwerk/marcwerk/marc/MarcTextIsTagPinLaw" = some m.cls := findClass_of_methodNamed Bd.named
  have hnm := (name_of_methodNamed Bd.named Bd.method).1
  have X0 : Stand p l e ({ frames := 0, cells := 0, slots := 0, locals := 0 } : Room) s m #[(.int p1)] below meth c s₁ [] 0 0 := Stand.of_body Bd
  have e0 : s₁.heap = h0 := by rw [← hh, Bd.state]; rfl
  have N0 := Fr.nil n0
  have pre0 : ∀ t, Steps p.tables e below (s₁.setTop (mkF m 0 #[.val (.int p1), .unset, .unset] [])) t → Steps p.tables e below (s₁.setTop (entryFrame m #[(.int p1)] 3)) t := fun t k => castTop (ef_10 m p1) k

  obtain ⟨fs, hr, hrun, hended, hW, hsame⟩ := X0.leave (v := some (.int (1 : Int32))) (fun h => by rw [Bd.returns] at h; cases h) (BodyLoose.notSynchronized Bd)
  refine ⟨_, _, pre0 _ ?_, hrun, hended, _, _, rfl, ?_, ⟨_, rfl⟩, hW, hsame.mono (by decide) (by decide)⟩
  · show Steps p.tables e below (s₁.setTop (mkF m 0 #[.val (.int p1), .unset, .unset] [])) _
    refine XS.iloadN X0.here hx rfl (hb hby d10_0) rfl ?_
    refine XS.bipush X0.here hx rfl (hb hby d10_1) ?_
    refine XS.isub X0.here hx rfl (hb hby d10_3) rfl ?_
    refine XS.istoreN X0.here hx rfl (hb hby d10_4) rfl (l' := #[.val (.int p1), .val (.int (p1 - (48 : Int32))), .unset]) rfl ?_
    refine XS.iloadN X0.here hx rfl (hb hby d10_5) rfl ?_
    refine XS.ifNo X0.here hx rfl (hb hby d10_6) rfl ((if0 _ _).trans (flt hc6).1) ?_
    refine XS.iloadN X0.here hx rfl (hb hby d10_9) rfl ?_
    refine XS.bipush X0.here hx rfl (hb hby d10_10) ?_
    refine XS.icmpNo X0.here hx rfl (hb hby d10_12) rfl (tlt hc12).2.1 ?_
    refine XS.iconst X0.here hx rfl (hb hby d10_15) ?_
    show Steps p.tables e below (s₁.setTop (mkF m 16 #[.val (.int p1), .val (.int (p1 - (48 : Int32))), .unset] [(.int (1 : Int32))])) _
    exact retN X0 hx (t := .boolean) Bd.returns (by simp) (hb hby d10_16) hr
  · show Q10 Z p1 h0 n0 _ s₁.heap _
    rw [e0]
    exact ⟨(by unfold own_f10; rw [if_neg hc6, if_pos hc12]), N0, rfl⟩
set_option maxRecDepth 65536 in
set_option maxHeartbeats 40000000 in
theorem rm10 (l : Launch) (Z : State) (a0 : Array Value) (hw : ∀ d ∈ tables_1, d.before a0 Z = true) (ws : List Jvm.Cond) (p1 : Int32) (h0 : Heap) (n0 : Nat) (Z0 : n0 ≤ h0.size)  :
    MetFree l (⟨"com/example/marcwerk/marcwerk/marc/MarcTextIsTagPinLaw", "refTagChar", "(C)Z"⟩ : MethodName) (head1 (Jvm.Cond.code (⟨"com/example/marcwerk/marcwerk/marc/MarcTextIsTagPinLaw", "refTagChar", "(C)Z"⟩ : MethodName) method_2_code 3 (some .boolean) :: ws) ({ frames := 0, cells := 0, slots := 0, locals := 0 } : Room)) (fun a U => a = #[(.int p1)] ∧ Z.Warmed39 U.vm ∧ U.heap = h0) (fun _ _ _ _ _ => True) (fun _ U o U' => ∃ v L, o = .returned v ∧ Q10 Z p1 h0 n0 v U'.heap L ∧ FrameEnd U o U' L ({ frames := 0, cells := 0, slots := 0, locals := 0 } : Room).cells ({ frames := 0, cells := 0, slots := 0, locals := 0 } : Room).slots) := by
  by_cases hc6 : (p1 - (48 : Int32)) < (0 : Int32)
  · by_cases hc26 : ((p1 ||| (32 : Int32)) - (97 : Int32)) < (0 : Int32)
    · exact rm10_tt l Z a0 hw ws p1 h0 n0 Z0 hc6 hc26
    · by_cases hc32 : ((p1 ||| (32 : Int32)) - (97 : Int32)) < (26 : Int32)
      · exact rm10_tff l Z a0 hw ws p1 h0 n0 Z0 hc6 hc26 hc32
      · exact rm10_tft l Z a0 hw ws p1 h0 n0 Z0 hc6 hc26 hc32
  · by_cases hc12 : (p1 - (48 : Int32)) < (10 : Int32)
    · exact rm10_ff l Z a0 hw ws p1 h0 n0 Z0 hc6 hc12
    · by_cases hc26 : ((p1 ||| (32 : Int32)) - (97 : Int32)) < (0 : Int32)
      · exact rm10_ftt l Z a0 hw ws p1 h0 n0 Z0 hc6 hc12 hc26
      · by_cases hc32 : ((p1 ||| (32 : Int32)) - (97 : Int32)) < (26 : Int32)
        · exact rm10_ftff l Z a0 hw ws p1 h0 n0 Z0 hc6 hc12 hc26 hc32
        · exact rm10_ftft l Z a0 hw ws p1 h0 n0 Z0 hc6 hc12 hc26 hc32
theorem d15_0 : decode jdk_41_method_11_code 0 = .ok (.iload_n 0, 1) := by decide +kernel
theorem d15_1 : decode jdk_41_method_11_code 1 = .ok (.ifCond .lt 8, 3) := by decide +kernel
theorem d15_4 : decode jdk_41_method_11_code 4 = .ok (.iload_n 0, 1) := by decide +kernel
theorem d15_5 : decode jdk_41_method_11_code 5 = .ok (.iload_n 1, 1) := by decide +kernel
theorem d15_6 : decode jdk_41_method_11_code 6 = .ok (.if_icmp .lt 10, 3) := by decide +kernel
theorem d15_16 : decode jdk_41_method_11_code 16 = .ok (.iload_n 0, 1) := by decide +kernel
theorem d15_17 : decode jdk_41_method_11_code 17 = .ok (.ireturn, 1) := by decide +kernel
theorem pn_15 : plainName "jdk/internal/util/Preconditions" = true := by first | (simp [plainName, overriddenIn]; done) | decide +kernel
theorem ef_15 (m : MethodId) (x0 : Int32) (x1 : Int32) (x2 : Addr) : entryFrame m #[(.int x0), (.int x1), (.ref x2)] 3 = mkF m 0 #[.val (.int x0), .val (.int x1), .val (.ref x2)] [] := by first | (simp [entryFrame, mkF, argsToLocals, Value.category]; done) | rfl
def Q15 (Z : State) (p1 : Int32) (p2 : Int32) (a3 : Addr) (h0 : Heap) (n0 : Nat) (v : Option Value) (h : Heap) (L : List Loc) : Prop := v = some (.int p1) ∧ Fr n0 L ∧ h = h0
set_option maxRecDepth 65536 in
set_option maxHeartbeats 40000000 in
theorem rm15 (l : Launch) (Z : State) (a0 : Array Value) (hw : ∀ d ∈ tables_1, d.before a0 Z = true) (ws : List Jvm.Cond) (p1 : Int32) (p2 : Int32) (a3 : Addr) (h0 : Heap) (n0 : Nat) (Z0 : n0 ≤ h0.size) (hc1 : ¬ (p1 < (0 : Int32))) (hc6 : p1 < p2) :
    MetFree l (⟨"jdk/internal/util/Preconditions", "checkIndex", "(IILjava/util/function/BiFunction;)I"⟩ : MethodName) (head1 (Jvm.Cond.code (⟨"jdk/internal/util/Preconditions", "checkIndex", "(IILjava/util/function/BiFunction;)I"⟩ : MethodName) jdk_41_method_11_code 3 (some .int) :: ws) ({ frames := 0, cells := 0, slots := 0, locals := 0 } : Room)) (fun a U => a = #[(.int p1), (.int p2), (.ref a3)] ∧ Z.Warmed39 U.vm ∧ U.heap = h0) (fun _ _ _ _ _ => True) (fun _ U o U' => ∃ v L, o = .returned v ∧ Q15 Z p1 p2 a3 h0 n0 v U'.heap L ∧ FrameEnd U o U' L ({ frames := 0, cells := 0, slots := 0, locals := 0 } : Room).cells ({ frames := 0, cells := 0, slots := 0, locals := 0 } : Room).slots) := by
  refine MetFree.of_bodySF (plainFor_of_name pn_15) hisR ?_
  intro p e s m args below meth c s₁ Bd hml0 hP hK
  obtain ⟨rfl, hZ, hh⟩ := hP
  have hx := Bd.exec
  have hby := Bd.bytes
  have hml : c.maxLocals = 3 := hml0
  have hown : s.vm.findClass "jdk/internal/util/Preconditions" = some m.cls := findClass_of_methodNamed Bd.named
  have hnm := (name_of_methodNamed Bd.named Bd.method).1
  have X0 : Stand p l e ({ frames := 0, cells := 0, slots := 0, locals := 0 } : Room) s m #[(.int p1), (.int p2), (.ref a3)] below meth c s₁ [] 0 0 := Stand.of_body Bd
  have e0 : s₁.heap = h0 := by rw [← hh, Bd.state]; rfl
  have N0 := Fr.nil n0
  have pre0 : ∀ t, Steps p.tables e below (s₁.setTop (mkF m 0 #[.val (.int p1), .val (.int p2), .val (.ref a3)] [])) t → Steps p.tables e below (s₁.setTop (entryFrame m #[(.int p1), (.int p2), (.ref a3)] 3)) t := fun t k => castTop (ef_15 m p1 p2 a3) k

  obtain ⟨fs, hr, hrun, hended, hW, hsame⟩ := X0.leave (v := some (.int p1)) (fun h => by rw [Bd.returns] at h; cases h) (BodyLoose.notSynchronized Bd)
  refine ⟨_, _, pre0 _ ?_, hrun, hended, _, _, rfl, ?_, ⟨_, rfl⟩, hW, hsame.mono (by decide) (by decide)⟩
  · show Steps p.tables e below (s₁.setTop (mkF m 0 #[.val (.int p1), .val (.int p2), .val (.ref a3)] [])) _
    refine XS.iloadN X0.here hx rfl (hb hby d15_0) rfl ?_
    refine XS.ifNo X0.here hx rfl (hb hby d15_1) rfl ((if0 _ _).trans (flt hc1).1) ?_
    refine XS.iloadN X0.here hx rfl (hb hby d15_4) rfl ?_
    refine XS.iloadN X0.here hx rfl (hb hby d15_5) rfl ?_
    refine XS.icmpYes X0.here hx rfl (pc0 := 6) (pc' := 16) rfl (hb hby d15_6) rfl (tlt hc6).1 (by decide) (by decide) ?_
    refine XS.iloadN X0.here hx rfl (hb hby d15_16) rfl ?_
    show Steps p.tables e below (s₁.setTop (mkF m 17 #[.val (.int p1), .val (.int p2), .val (.ref a3)] [(.int p1)])) _
    exact retI X0 hx Bd.returns (hb hby d15_17) hr
  · show Q15 Z p1 p2 a3 h0 n0 _ s₁.heap _
    rw [e0]
    exact ⟨rfl, N0, rfl⟩
theorem ef_15n (m : MethodId) (x0 : Int32) (x1 : Int32) : entryFrame m #[(.int x0), (.int x1), .null] 3 = mkF m 0 #[.val (.int x0), .val (.int x1), .val .null] [] := by first | (simp [entryFrame, mkF, argsToLocals, Value.category]; done) | rfl
def Q15n (Z : State) (p1 : Int32) (p2 : Int32) (h0 : Heap) (n0 : Nat) (v : Option Value) (h : Heap) (L : List Loc) : Prop := v = some (.int p1) ∧ Fr n0 L ∧ h = h0
set_option maxRecDepth 65536 in
set_option maxHeartbeats 40000000 in
theorem rm15n (l : Launch) (Z : State) (a0 : Array Value) (hw : ∀ d ∈ tables_1, d.before a0 Z = true) (ws : List Jvm.Cond) (p1 : Int32) (p2 : Int32) (h0 : Heap) (n0 : Nat) (Z0 : n0 ≤ h0.size) (hc1 : ¬ (p1 < (0 : Int32))) (hc6 : p1 < p2) :
    MetFree l (⟨"jdk/internal/util/Preconditions", "checkIndex", "(IILjava/util/function/BiFunction;)I"⟩ : MethodName) (head1 (Jvm.Cond.code (⟨"jdk/internal/util/Preconditions", "checkIndex", "(IILjava/util/function/BiFunction;)I"⟩ : MethodName) jdk_41_method_11_code 3 (some .int) :: ws) ({ frames := 0, cells := 0, slots := 0, locals := 0 } : Room)) (fun a U => a = #[(.int p1), (.int p2), .null] ∧ Z.Warmed39 U.vm ∧ U.heap = h0) (fun _ _ _ _ _ => True) (fun _ U o U' => ∃ v L, o = .returned v ∧ Q15n Z p1 p2 h0 n0 v U'.heap L ∧ FrameEnd U o U' L ({ frames := 0, cells := 0, slots := 0, locals := 0 } : Room).cells ({ frames := 0, cells := 0, slots := 0, locals := 0 } : Room).slots) := by
  refine MetFree.of_bodySF (plainFor_of_name pn_15) hisR ?_
  intro p e s m args below meth c s₁ Bd hml0 hP hK
  obtain ⟨rfl, hZ, hh⟩ := hP
  have hx := Bd.exec
  have hby := Bd.bytes
  have hml : c.maxLocals = 3 := hml0
  have hown : s.vm.findClass "jdk/internal/util/Preconditions" = some m.cls := findClass_of_methodNamed Bd.named
  have hnm := (name_of_methodNamed Bd.named Bd.method).1
  have X0 : Stand p l e ({ frames := 0, cells := 0, slots := 0, locals := 0 } : Room) s m #[(.int p1), (.int p2), .null] below meth c s₁ [] 0 0 := Stand.of_body Bd
  have e0 : s₁.heap = h0 := by rw [← hh, Bd.state]; rfl
  have N0 := Fr.nil n0
  have pre0 : ∀ t, Steps p.tables e below (s₁.setTop (mkF m 0 #[.val (.int p1), .val (.int p2), .val .null] [])) t → Steps p.tables e below (s₁.setTop (entryFrame m #[(.int p1), (.int p2), .null] 3)) t := fun t k => castTop (ef_15n m p1 p2) k

  obtain ⟨fs, hr, hrun, hended, hW, hsame⟩ := X0.leave (v := some (.int p1)) (fun h => by rw [Bd.returns] at h; cases h) (BodyLoose.notSynchronized Bd)
  refine ⟨_, _, pre0 _ ?_, hrun, hended, _, _, rfl, ?_, ⟨_, rfl⟩, hW, hsame.mono (by decide) (by decide)⟩
  · show Steps p.tables e below (s₁.setTop (mkF m 0 #[.val (.int p1), .val (.int p2), .val .null] [])) _
    refine XS.iloadN X0.here hx rfl (hb hby d15_0) rfl ?_
    refine XS.ifNo X0.here hx rfl (hb hby d15_1) rfl ((if0 _ _).trans (flt hc1).1) ?_
    refine XS.iloadN X0.here hx rfl (hb hby d15_4) rfl ?_
    refine XS.iloadN X0.here hx rfl (hb hby d15_5) rfl ?_
    refine XS.icmpYes X0.here hx rfl (pc0 := 6) (pc' := 16) rfl (hb hby d15_6) rfl (tlt hc6).1 (by decide) (by decide) ?_
    refine XS.iloadN X0.here hx rfl (hb hby d15_16) rfl ?_
    show Steps p.tables e below (s₁.setTop (mkF m 17 #[.val (.int p1), .val (.int p2), .val .null] [(.int p1)])) _
    exact retI X0 hx Bd.returns (hb hby d15_17) hr
  · show Q15n Z p1 p2 h0 n0 _ s₁.heap _
    rw [e0]
    exact ⟨rfl, N0, rfl⟩
def Q14 (Z : State) (h0 : Heap) (n0 : Nat) (v : Option Value) (h : Heap) (L : List Loc) : Prop := v = none ∧ Fr n0 L ∧ h = h0
theorem d14_0 : decode jdk_42_method_155_code 0 = .ok (.iload_n 0, 1) := by decide +kernel
theorem d14_1 : decode jdk_42_method_155_code 1 = .ok (.iload_n 1, 1) := by decide +kernel
theorem d14_2 : decode jdk_42_method_155_code 2 = .ok (.getstatic 1053, 3) := by decide +kernel
theorem d14_5 : decode jdk_42_method_155_code 5 = .ok (.invokestatic 1059, 3) := by decide +kernel
theorem d14_8 : decode jdk_42_method_155_code 8 = .ok (.pop, 1) := by decide +kernel
theorem d14_9 : decode jdk_42_method_155_code 9 = .ok (.return_, 1) := by decide +kernel
theorem pn_14 : plainName "java/lang/String" = true := by first | (simp [plainName, overriddenIn]; done) | decide +kernel
theorem pd_14_14 : parseMethodDescriptor "(IILjava/util/function/BiFunction;)I" = some ⟨[.int, .int, (.object "java/util/function/BiFunction")], some .int⟩ := by decide +kernel
theorem ef_14 (m : MethodId) (x0 : Int32) (x1 : Int32) : entryFrame m #[(.int x0), (.int x1)] 2 = mkF m 0 #[.val (.int x0), .val (.int x1)] [] := by first | (simp [entryFrame, mkF, argsToLocals, Value.category]; done) | rfl
set_option maxRecDepth 65536 in
set_option maxHeartbeats 40000000 in
theorem rm14r (l : Launch) (Z : State) (a0 : Array Value) (hw : ∀ d ∈ tables_1, d.before a0 Z = true) (ws : List Jvm.Cond) (p1 : Int32) (p2 : Int32) (w_SIOOBE_FORMATTER : Addr) (h0 : Heap) (n0 : Nat) (Z0 : n0 ≤ h0.size) (S_SIOOBE_FORMATTER : Sta Z h0 "jdk/internal/util/Preconditions" "SIOOBE_FORMATTER" "Ljava/util/function/BiFunction;" (.ref w_SIOOBE_FORMATTER)) (h1 : ¬ (p1 < 0)) (h2 : p1 < p2) :
    MetFree l (⟨"java/lang/String", "checkIndex", "(II)V"⟩ : MethodName) (head1 (Jvm.Cond.code (⟨"java/lang/String", "checkIndex", "(II)V"⟩ : MethodName) jdk_42_method_155_code 2 none :: ws) ({ frames := 1, cells := 0, slots := 0, locals := 14 } : Room)) (fun a U => a = #[(.int p1), (.int p2)] ∧ Z.Warmed39 U.vm ∧ U.heap = h0) (fun _ _ _ _ _ => True) (fun _ U o U' => ∃ v L, o = .returned v ∧ Q14 Z h0 n0 v U'.heap L ∧ FrameEnd U o U' L ({ frames := 1, cells := 0, slots := 0, locals := 14 } : Room).cells ({ frames := 1, cells := 0, slots := 0, locals := 14 } : Room).slots) := by
  refine MetFree.of_bodySF (plainFor_of_name pn_14) hisR ?_
  intro p e s m args below meth c s₁ Bd hml0 hP hK
  obtain ⟨rfl, hZ, hh⟩ := hP
  have hx := Bd.exec
  have hby := Bd.bytes
  have hml : c.maxLocals = 2 := hml0
  have hown : s.vm.findClass "java/lang/String" = some m.cls := findClass_of_methodNamed Bd.named
  have hnm := (name_of_methodNamed Bd.named Bd.method).1
  have X0 : Stand p l e ({ frames := 1, cells := 0, slots := 0, locals := 14 } : Room) s m #[(.int p1), (.int p2)] below meth c s₁ [] 0 0 := Stand.of_body Bd
  have e0 : s₁.heap = h0 := by rw [← hh, Bd.state]; rfl
  have N0 := Fr.nil n0
  have pre0 : ∀ t, Steps p.tables e below (s₁.setTop (mkF m 0 #[.val (.int p1), .val (.int p2)] [])) t → Steps p.tables e below (s₁.setTop (entryFrame m #[(.int p1), (.int p2)] 2)) t := fun t k => castTop (ef_14 m p1 p2) k
  obtain ⟨T4, X4, e4, st4⟩ := getS2 X0 hx hZ hown (host := "") (Or.inl (own_w hw 70 rfl)) Via.refl e0 S_SIOOBE_FORMATTER (g := (mkF m 2 #[.val (.int p1), .val (.int p2)] [(.int p2), (.int p1)])) rfl (hb hby d14_2)
  obtain ⟨_, _, ⟨T5, L5, k5, n5⟩, -, X5, ⟨Lc5, hQ5, l5, y5, z5⟩, st5⟩ := Jvm.LawKit.callS X4 hx (y := (⟨"jdk/internal/util/Preconditions", "checkIndex", "(IILjava/util/function/BiFunction;)I"⟩ : MethodName)) hown (mvT hZ (own_w hw 72 rfl)) (mvT hZ (own_w hw 73 rfl)) (mvT hZ (own_w hw 71 rfl)) (mvT hZ (own_w hw 74 rfl)) (by decide) (backOf (W := 0) (rm15 l Z a0 hw [] p1 p2 w_SIOOBE_FORMATTER  h0 n0 Z0 h1 h2) hZ (own_w hw 74 rfl) (own_w hw 71 rfl) (by decide) (by decide)) (g := (mkF m 5 #[.val (.int p1), .val (.int p2)] [(.ref w_SIOOBE_FORMATTER), (.int p2), (.int p1)])) rfl (by rw [hml]; rfl) (argsL := [(.int p1), (.int p2), (.ref w_SIOOBE_FORMATTER)]) (rest := []) (lenOf pd_14_14 rfl) rfl (by show 2 * 0 + _ ≤ _; exact Nat.le_of_eq rfl) (hb hby d14_5) (fun _ _ => ⟨rfl, e4, (by decide : 0 + 0 ≤ _), (by decide : 0 + 0 ≤ _)⟩)
  dsimp only [Pt.U, Pt.locs, Pt.cells, Pt.slots] at X5 l5 y5 z5 st5 hQ5
  subst l5 y5 z5
  obtain ⟨rfl, N5q, e5q⟩ := hQ5
  have N5 := Fr.app N0 N5q
  have K5q : Keep h0 T5.heap [] := own_keep e5q
  have KH5 : Keep h0 T5.heap [] := (Keep.refl h0 []).trans K5q own_ws0
  have eh5 : T5.heap = h0 := by rw [e5q]
  obtain ⟨fs, hr, hrun, hended, hW, hsame⟩ := X5.leave (v := none) (fun _ => rfl) (BodyLoose.notSynchronized Bd)
  refine ⟨_, _, pre0 _ ?_, hrun, hended, _, _, rfl, ?_, ⟨_, rfl⟩, hW, hsame.mono (by decide) (by decide)⟩
  · show Steps p.tables e below (s₁.setTop (mkF m 0 #[.val (.int p1), .val (.int p2)] [])) _
    refine XS.iloadN X0.here hx rfl (hb hby d14_0) rfl ?_
    refine XS.iloadN X0.here hx rfl (hb hby d14_1) rfl ?_
    show Steps p.tables e below (s₁.setTop (mkF m 2 #[.val (.int p1), .val (.int p2)] [(.int p2), (.int p1)])) _
    refine st4 _ ?_
    show Steps p.tables e below (T4.setTop (mkF m 5 #[.val (.int p1), .val (.int p2)] [(.ref w_SIOOBE_FORMATTER), (.int p2), (.int p1)])) _
    refine st5 _ ?_
    show Steps p.tables e below (T5.setTop (mkF m 8 #[.val (.int p1), .val (.int p2)] [(.int p1)])) _
    refine XS.pop X5.here hx rfl (hb hby d14_8) rfl rfl ?_
    show Steps p.tables e below (T5.setTop (mkF m 9 #[.val (.int p1), .val (.int p2)] [])) _
    exact X5.returnOut hx Bd.returns (hb hby d14_9) hr
  · show Q14 Z h0 n0 _ T5.heap _
    exact ⟨rfl, N5, eh5⟩
set_option maxRecDepth 65536 in
set_option maxHeartbeats 40000000 in
theorem rm14n (l : Launch) (Z : State) (a0 : Array Value) (hw : ∀ d ∈ tables_1, d.before a0 Z = true) (ws : List Jvm.Cond) (p1 : Int32) (p2 : Int32) (h0 : Heap) (n0 : Nat) (Z0 : n0 ≤ h0.size) (S_SIOOBE_FORMATTER : Sta Z h0 "jdk/internal/util/Preconditions" "SIOOBE_FORMATTER" "Ljava/util/function/BiFunction;" .null) (h1 : ¬ (p1 < 0)) (h2 : p1 < p2) :
    MetFree l (⟨"java/lang/String", "checkIndex", "(II)V"⟩ : MethodName) (head1 (Jvm.Cond.code (⟨"java/lang/String", "checkIndex", "(II)V"⟩ : MethodName) jdk_42_method_155_code 2 none :: ws) ({ frames := 1, cells := 0, slots := 0, locals := 14 } : Room)) (fun a U => a = #[(.int p1), (.int p2)] ∧ Z.Warmed39 U.vm ∧ U.heap = h0) (fun _ _ _ _ _ => True) (fun _ U o U' => ∃ v L, o = .returned v ∧ Q14 Z h0 n0 v U'.heap L ∧ FrameEnd U o U' L ({ frames := 1, cells := 0, slots := 0, locals := 14 } : Room).cells ({ frames := 1, cells := 0, slots := 0, locals := 14 } : Room).slots) := by
  refine MetFree.of_bodySF (plainFor_of_name pn_14) hisR ?_
  intro p e s m args below meth c s₁ Bd hml0 hP hK
  obtain ⟨rfl, hZ, hh⟩ := hP
  have hx := Bd.exec
  have hby := Bd.bytes
  have hml : c.maxLocals = 2 := hml0
  have hown : s.vm.findClass "java/lang/String" = some m.cls := findClass_of_methodNamed Bd.named
  have hnm := (name_of_methodNamed Bd.named Bd.method).1
  have X0 : Stand p l e ({ frames := 1, cells := 0, slots := 0, locals := 14 } : Room) s m #[(.int p1), (.int p2)] below meth c s₁ [] 0 0 := Stand.of_body Bd
  have e0 : s₁.heap = h0 := by rw [← hh, Bd.state]; rfl
  have N0 := Fr.nil n0
  have pre0 : ∀ t, Steps p.tables e below (s₁.setTop (mkF m 0 #[.val (.int p1), .val (.int p2)] [])) t → Steps p.tables e below (s₁.setTop (entryFrame m #[(.int p1), (.int p2)] 2)) t := fun t k => castTop (ef_14 m p1 p2) k
  obtain ⟨T3, X3, e3, st3⟩ := getS2 X0 hx hZ hown (host := "") (Or.inl (own_w hw 70 rfl)) Via.refl e0 S_SIOOBE_FORMATTER (g := (mkF m 2 #[.val (.int p1), .val (.int p2)] [(.int p2), (.int p1)])) rfl (hb hby d14_2)
  obtain ⟨_, _, ⟨T4, L4, k4, n4⟩, -, X4, ⟨Lc4, hQ4, l4, y4, z4⟩, st4⟩ := Jvm.LawKit.callS X3 hx (y := (⟨"jdk/internal/util/Preconditions", "checkIndex", "(IILjava/util/function/BiFunction;)I"⟩ : MethodName)) hown (mvT hZ (own_w hw 72 rfl)) (mvT hZ (own_w hw 73 rfl)) (mvT hZ (own_w hw 71 rfl)) (mvT hZ (own_w hw 74 rfl)) (by decide) (backOf (W := 0) (rm15n l Z a0 hw [] p1 p2  h0 n0 Z0 h1 h2) hZ (own_w hw 74 rfl) (own_w hw 71 rfl) (by decide) (by decide)) (g := (mkF m 5 #[.val (.int p1), .val (.int p2)] [.null, (.int p2), (.int p1)])) rfl (by rw [hml]; rfl) (argsL := [(.int p1), (.int p2), .null]) (rest := []) (lenOf pd_14_14 rfl) rfl (by show 2 * 0 + _ ≤ _; exact Nat.le_of_eq rfl) (hb hby d14_5) (fun _ _ => ⟨rfl, e3, (by decide : 0 + 0 ≤ _), (by decide : 0 + 0 ≤ _)⟩)
  dsimp only [Pt.U, Pt.locs, Pt.cells, Pt.slots] at X4 l4 y4 z4 st4 hQ4
  subst l4 y4 z4
  obtain ⟨rfl, N4q, e4q⟩ := hQ4
  have N4 := Fr.app N0 N4q
  have K4q : Keep h0 T4.heap [] := own_keep e4q
  have KH4 : Keep h0 T4.heap [] := (Keep.refl h0 []).trans K4q own_ws0
  have eh4 : T4.heap = h0 := by rw [e4q]
  obtain ⟨fs, hr, hrun, hended, hW, hsame⟩ := X4.leave (v := none) (fun _ => rfl) (BodyLoose.notSynchronized Bd)
  refine ⟨_, _, pre0 _ ?_, hrun, hended, _, _, rfl, ?_, ⟨_, rfl⟩, hW, hsame.mono (by decide) (by decide)⟩
  · show Steps p.tables e below (s₁.setTop (mkF m 0 #[.val (.int p1), .val (.int p2)] [])) _
    refine XS.iloadN X0.here hx rfl (hb hby d14_0) rfl ?_
    refine XS.iloadN X0.here hx rfl (hb hby d14_1) rfl ?_
    show Steps p.tables e below (s₁.setTop (mkF m 2 #[.val (.int p1), .val (.int p2)] [(.int p2), (.int p1)])) _
    refine st3 _ ?_
    show Steps p.tables e below (T3.setTop (mkF m 5 #[.val (.int p1), .val (.int p2)] [.null, (.int p2), (.int p1)])) _
    refine st4 _ ?_
    show Steps p.tables e below (T4.setTop (mkF m 8 #[.val (.int p1), .val (.int p2)] [(.int p1)])) _
    refine XS.pop X4.here hx rfl (hb hby d14_8) rfl rfl ?_
    show Steps p.tables e below (T4.setTop (mkF m 9 #[.val (.int p1), .val (.int p2)] [])) _
    exact X4.returnOut hx Bd.returns (hb hby d14_9) hr
  · show Q14 Z h0 n0 _ T4.heap _
    exact ⟨rfl, N4, eh4⟩
set_option maxRecDepth 65536 in
set_option maxHeartbeats 40000000 in
theorem rm14 (l : Launch) (Z : State) (a0 : Array Value) (hw : ∀ d ∈ tables_1, d.before a0 Z = true) (ws : List Jvm.Cond) (p1 : Int32) (p2 : Int32) (G3 : Value) (h0 : Heap) (n0 : Nat) (Z0 : n0 ≤ h0.size) (O4 : Sta Z h0 "jdk/internal/util/Preconditions" "SIOOBE_FORMATTER" "Ljava/util/function/BiFunction;" G3) (rG3 : G3.isRef = true) (h1 : ¬ (p1 < 0)) (h2 : p1 < p2) :
    MetFree l (⟨"java/lang/String", "checkIndex", "(II)V"⟩ : MethodName) (head1 (Jvm.Cond.code (⟨"java/lang/String", "checkIndex", "(II)V"⟩ : MethodName) jdk_42_method_155_code 2 none :: ws) ({ frames := 1, cells := 0, slots := 0, locals := 14 } : Room)) (fun a U => a = #[(.int p1), (.int p2)] ∧ Z.Warmed39 U.vm ∧ U.heap = h0) (fun _ _ _ _ _ => True) (fun _ U o U' => ∃ v L, o = .returned v ∧ Q14 Z h0 n0 v U'.heap L ∧ FrameEnd U o U' L ({ frames := 1, cells := 0, slots := 0, locals := 14 } : Room).cells ({ frames := 1, cells := 0, slots := 0, locals := 14 } : Room).slots) := by
  rcases ref_cases rG3 with rfl | ⟨w, rfl⟩
  · exact rm14n l Z a0 hw ws p1 p2 h0 n0 Z0 O4 h1 h2
  · exact rm14r l Z a0 hw ws p1 p2 w h0 n0 Z0 O4 h1 h2
theorem d13_0 : decode jdk_43_method_2_code 0 = .ok (.iload_n 1, 1) := by decide +kernel
theorem d13_1 : decode jdk_43_method_2_code 1 = .ok (.aload_n 0, 1) := by decide +kernel
theorem d13_2 : decode jdk_43_method_2_code 2 = .ok (.arraylength, 1) := by decide +kernel
theorem d13_3 : decode jdk_43_method_2_code 3 = .ok (.invokestatic 9, 3) := by decide +kernel
theorem d13_6 : decode jdk_43_method_2_code 6 = .ok (.aload_n 0, 1) := by decide +kernel
theorem d13_7 : decode jdk_43_method_2_code 7 = .ok (.iload_n 1, 1) := by decide +kernel
theorem d13_8 : decode jdk_43_method_2_code 8 = .ok (.baload, 1) := by decide +kernel
theorem d13_9 : decode jdk_43_method_2_code 9 = .ok (.sipush 255, 3) := by decide +kernel
theorem d13_12 : decode jdk_43_method_2_code 12 = .ok (.iand, 1) := by decide +kernel
theorem d13_13 : decode jdk_43_method_2_code 13 = .ok (.i2c, 1) := by decide +kernel
theorem d13_14 : decode jdk_43_method_2_code 14 = .ok (.ireturn, 1) := by decide +kernel
theorem pn_13 : plainName "java/lang/StringLatin1" = true := by first | (simp [plainName, overriddenIn]; done) | decide +kernel
theorem pd_13_13 : parseMethodDescriptor "(II)V" = some ⟨[.int, .int], none⟩ := by decide +kernel
theorem ef_13 (m : MethodId) (x0 : Addr) (x1 : Int32) : entryFrame m #[(.ref x0), (.int x1)] 2 = mkF m 0 #[.val (.ref x0), .val (.int x1)] [] := by first | (simp [entryFrame, mkF, argsToLocals, Value.category]; done) | rfl
def Q13 (Z : State) (a1 : Addr) (p2 : Int32) (cl_a1 : Cell) (z_a1 : Int32) (w4 : Int32) (G3 : Value) (h0 : Heap) (n0 : Nat) (v : Option Value) (h : Heap) (L : List Loc) : Prop := v = some (.int (nar .char ((w4 &&& (255 : Int32)).toUInt32.toUInt16.toUInt32.toInt32))) ∧ Fr n0 L ∧ h = h0
set_option maxRecDepth 65536 in
set_option maxHeartbeats 40000000 in
theorem rm13 (l : Launch) (Z : State) (a0 : Array Value) (hw : ∀ d ∈ tables_1, d.before a0 Z = true) (ws : List Jvm.Cond) (a1 : Addr) (p2 : Int32) (cl_a1 : Cell) (z_a1 : Int32) (w4 : Int32) (G3 : Value) (h0 : Heap) (n0 : Nat) (Z0 : n0 ≤ h0.size) (Ar_a1 : Arr Z h0 a1 cl_a1 .byte) (S_a1 : cl_a1.slots.size = z_a1.toNatClampNeg) (N_a1 : ¬ z_a1 < 0) (hin8 : ¬ (p2 < 0 ∨ cl_a1.slots.size ≤ (p2).toNatClampNeg)) (hat8 : cl_a1.slots[(p2).toNatClampNeg]? = some (.int w4)) (O4 : Sta Z h0 "jdk/internal/util/Preconditions" "SIOOBE_FORMATTER" "Ljava/util/function/BiFunction;" G3) (rG3 : G3.isRef = true) (h1 : ¬ (p2 < 0)) (h2 : p2 < z_a1) :
    MetFree l (⟨"java/lang/StringLatin1", "charAt", "([BI)C"⟩ : MethodName) (head1 (Jvm.Cond.code (⟨"java/lang/StringLatin1", "charAt", "([BI)C"⟩ : MethodName) jdk_43_method_2_code 2 (some .char) :: ws) ({ frames := 2, cells := 0, slots := 0, locals := 27 } : Room)) (fun a U => a = #[(.ref a1), (.int p2)] ∧ Z.Warmed39 U.vm ∧ U.heap = h0) (fun _ _ _ _ _ => True) (fun _ U o U' => ∃ v L, o = .returned v ∧ Q13 Z a1 p2 cl_a1 z_a1 w4 G3 h0 n0 v U'.heap L ∧ FrameEnd U o U' L ({ frames := 2, cells := 0, slots := 0, locals := 27 } : Room).cells ({ frames := 2, cells := 0, slots := 0, locals := 27 } : Room).slots) := by
  refine MetFree.of_bodySF (plainFor_of_name pn_13) hisR ?_
  intro p e s m args below meth c s₁ Bd hml0 hP hK
  obtain ⟨rfl, hZ, hh⟩ := hP
  have hx := Bd.exec
  have hby := Bd.bytes
  have hml : c.maxLocals = 2 := hml0
  have hown : s.vm.findClass "java/lang/StringLatin1" = some m.cls := findClass_of_methodNamed Bd.named
  have hnm := (name_of_methodNamed Bd.named Bd.method).1
  have X0 : Stand p l e ({ frames := 2, cells := 0, slots := 0, locals := 27 } : Room) s m #[(.ref a1), (.int p2)] below meth c s₁ [] 0 0 := Stand.of_body Bd
  have e0 : s₁.heap = h0 := by rw [← hh, Bd.state]; rfl
  have N0 := Fr.nil n0
  have pre0 : ∀ t, Steps p.tables e below (s₁.setTop (mkF m 0 #[.val (.ref a1), .val (.int p2)] [])) t → Steps p.tables e below (s₁.setTop (entryFrame m #[(.ref a1), (.int p2)] 2)) t := fun t k => castTop (ef_13 m a1 p2) k
  obtain ⟨_, _, ⟨T3, L3, k3, n3⟩, -, X3, ⟨Lc3, hQ3, l3, y3, z3⟩, st3⟩ := Jvm.LawKit.callS X0 hx (y := (⟨"java/lang/String", "checkIndex", "(II)V"⟩ : MethodName)) hown (mvT hZ (own_w hw 67 rfl)) (mvT hZ (own_w hw 68 rfl)) (mvT hZ (own_w hw 5 rfl)) (mvT hZ (own_w hw 69 rfl)) (by decide) (backOf (W := 0) (rm14 l Z a0 hw [] p2 z_a1 G3 h0 n0 Z0 O4 rG3 h1 h2) hZ (own_w hw 69 rfl) (own_w hw 5 rfl) (by decide) (by decide)) (g := (mkF m 3 #[.val (.ref a1), .val (.int p2)] [(.int z_a1), (.int p2)])) rfl (by rw [hml]; rfl) (argsL := [(.int p2), (.int z_a1)]) (rest := []) (lenOf pd_13_13 rfl) rfl (by show 2 * 0 + _ ≤ _; exact Nat.le_of_eq rfl) (hb hby d13_3) (fun _ _ => ⟨rfl, e0, (by decide : 0 + 0 ≤ _), (by decide : 0 + 0 ≤ _)⟩)
  dsimp only [Pt.U, Pt.locs, Pt.cells, Pt.slots] at X3 l3 y3 z3 st3 hQ3
  subst l3 y3 z3
  obtain ⟨rfl, N3q, e3q⟩ := hQ3
  have N3 := Fr.app N0 N3q
  have K3q : Keep h0 T3.heap [] := own_keep e3q
  have KH3 : Keep h0 T3.heap [] := (Keep.refl h0 []).trans K3q own_ws0
  have eh3 : T3.heap = h0 := by rw [e3q]
  obtain ⟨fs, hr, hrun, hended, hW, hsame⟩ := X3.leave (v := some (.int (nar .char ((w4 &&& (255 : Int32)).toUInt32.toUInt16.toUInt32.toInt32)))) (fun h => by rw [Bd.returns] at h; cases h) (BodyLoose.notSynchronized Bd)
  refine ⟨_, _, pre0 _ ?_, hrun, hended, _, _, rfl, ?_, ⟨_, rfl⟩, hW, hsame.mono (by decide) (by decide)⟩
  · show Steps p.tables e below (s₁.setTop (mkF m 0 #[.val (.ref a1), .val (.int p2)] [])) _
    refine XS.iloadN X0.here hx rfl (hb hby d13_0) rfl ?_
    refine XS.aloadN X0.here hx rfl (hb hby d13_1) rfl rfl ?_
    show Steps p.tables e below (s₁.setTop (mkF m 2 #[.val (.ref a1), .val (.int p2)] [(.ref a1), (.int p2)])) _
    refine X0.arraylength hx (by rw [e0]; exact Ar_a1.1) (State.isArrayOf_alike hZ.alike Ar_a1.2.1) (g := (mkF m 2 #[.val (.ref a1), .val (.int p2)] [(.ref a1), (.int p2)])) rfl rfl (hb hby d13_2) _ ?_
    rw [len_of S_a1 N_a1]
    show Steps p.tables e below (s₁.setTop (mkF m 3 #[.val (.ref a1), .val (.int p2)] [(.int z_a1), (.int p2)])) _
    refine st3 _ ?_
    show Steps p.tables e below (T3.setTop (mkF m 6 #[.val (.ref a1), .val (.int p2)] [])) _
    refine XS.aloadN X3.here hx rfl (hb hby d13_6) rfl rfl ?_
    refine XS.iloadN X3.here hx rfl (hb hby d13_7) rfl ?_
    show Steps p.tables e below (T3.setTop (mkF m 8 #[.val (.ref a1), .val (.int p2)] [(.int p2), (.ref a1)])) _
    refine X3.baloadBytes hx (j := p2) (v := (.int w4)) (by rw [e3q]; exact Ar_a1.1) (State.isArrayOf_alike hZ.alike Ar_a1.2.1) Ar_a1.2.2 hin8 hat8 (g := (mkF m 8 #[.val (.ref a1), .val (.int p2)] [(.int p2), (.ref a1)])) rfl rfl (hb hby d13_8) _ ?_
    show Steps p.tables e below (T3.setTop (mkF m 9 #[.val (.ref a1), .val (.int p2)] [(.int w4)])) _
    refine XS.sipush X3.here hx rfl (hb hby d13_9) ?_
    refine XS.iand X3.here hx rfl (hb hby d13_12) rfl ?_
    refine XS.i2c X3.here hx rfl (hb hby d13_13) rfl ?_
    show Steps p.tables e below (T3.setTop (mkF m 14 #[.val (.ref a1), .val (.int p2)] [(.int ((w4 &&& (255 : Int32)).toUInt32.toUInt16.toUInt32.toInt32))])) _
    exact retN X3 hx (t := .char) Bd.returns (by simp) (hb hby d13_14) hr
  · show Q13 Z a1 p2 cl_a1 z_a1 w4 G3 h0 n0 _ T3.heap _
    exact ⟨rfl, N3, eh3⟩
theorem d24_0 : decode jdk_52_method_6_code 0 = .ok (.aload_n 0, 1) := by decide +kernel
theorem d24_1 : decode jdk_52_method_6_code 1 = .ok (.arraylength, 1) := by decide +kernel
theorem d24_2 : decode jdk_52_method_6_code 2 = .ok (.iconst 1, 1) := by decide +kernel
theorem d24_3 : decode jdk_52_method_6_code 3 = .ok (.ishr, 1) := by decide +kernel
theorem d24_4 : decode jdk_52_method_6_code 4 = .ok (.ireturn, 1) := by decide +kernel
theorem pn_24 : plainName "java/lang/StringUTF16" = true := by first | (simp [plainName, overriddenIn]; done) | decide +kernel
theorem ef_24 (m : MethodId) (x0 : Addr) : entryFrame m #[(.ref x0)] 1 = mkF m 0 #[.val (.ref x0)] [] := by first | (simp [entryFrame, mkF, argsToLocals, Value.category]; done) | rfl
def own_f24 (z_a1 : Int32) : Int32 := (z_a1 >>> ((1 : Int32) &&& 31))
def Q24 (Z : State) (a1 : Addr) (cl_a1 : Cell) (z_a1 : Int32) (h0 : Heap) (n0 : Nat) (v : Option Value) (h : Heap) (L : List Loc) : Prop := v = some (.int (own_f24 z_a1)) ∧ Fr n0 L ∧ h = h0
set_option maxRecDepth 65536 in
set_option maxHeartbeats 40000000 in
theorem rm24_x (l : Launch) (Z : State) (a0 : Array Value) (hw : ∀ d ∈ tables_1, d.before a0 Z = true) (ws : List Jvm.Cond) (a1 : Addr) (cl_a1 : Cell) (z_a1 : Int32) (h0 : Heap) (n0 : Nat) (Z0 : n0 ≤ h0.size) (Ar_a1 : Arr Z h0 a1 cl_a1 .byte) (S_a1 : cl_a1.slots.size = z_a1.toNatClampNeg) (N_a1 : ¬ z_a1 < 0) :
    MetFree l (⟨"java/lang/StringUTF16", "length", "([B)I"⟩ : MethodName) (head1 (Jvm.Cond.code (⟨"java/lang/StringUTF16", "length", "([B)I"⟩ : MethodName) jdk_52_method_6_code 1 (some .int) :: ws) ({ frames := 0, cells := 0, slots := 0, locals := 0 } : Room)) (fun a U => a = #[(.ref a1)] ∧ Z.Warmed39 U.vm ∧ U.heap = h0) (fun _ _ _ _ _ => True) (fun _ U o U' => ∃ v L, o = .returned v ∧ Q24 Z a1 cl_a1 z_a1 h0 n0 v U'.heap L ∧ FrameEnd U o U' L ({ frames := 0, cells := 0, slots := 0, locals := 0 } : Room).cells ({ frames := 0, cells := 0, slots := 0, locals := 0 } : Room).slots) := by
  refine MetFree.of_bodySF (plainFor_of_name pn_24) hisR ?_
  intro p e s m args below meth c s₁ Bd hml0 hP hK
  obtain ⟨rfl, hZ, hh⟩ := hP
  have hx := Bd.exec
  have hby := Bd.bytes
  have hml : c.maxLocals = 1 := hml0
  have hown : s.vm.findClass "java/lang/StringUTF16" = some m.cls := findClass_of_methodNamed Bd.named
  have hnm := (name_of_methodNamed Bd.named Bd.method).1
  have X0 : Stand p l e ({ frames := 0, cells := 0, slots := 0, locals := 0 } : Room) s m #[(.ref a1)] below meth c s₁ [] 0 0 := Stand.of_body Bd
  have e0 : s₁.heap = h0 := by rw [← hh, Bd.state]; rfl
  have N0 := Fr.nil n0
  have pre0 : ∀ t, Steps p.tables e below (s₁.setTop (mkF m 0 #[.val (.ref a1)] [])) t → Steps p.tables e below (s₁.setTop (entryFrame m #[(.ref a1)] 1)) t := fun t k => castTop (ef_24 m a1) k

  obtain ⟨fs, hr, hrun, hended, hW, hsame⟩ := X0.leave (v := some (.int (z_a1 >>> ((1 : Int32) &&& 31)))) (fun h => by rw [Bd.returns] at h; cases h) (BodyLoose.notSynchronized Bd)
  refine ⟨_, _, pre0 _ ?_, hrun, hended, _, _, rfl, ?_, ⟨_, rfl⟩, hW, hsame.mono (by decide) (by decide)⟩
  · show Steps p.tables e below (s₁.setTop (mkF m 0 #[.val (.ref a1)] [])) _
    refine XS.aloadN X0.here hx rfl (hb hby d24_0) rfl rfl ?_
    show Steps p.tables e below (s₁.setTop (mkF m 1 #[.val (.ref a1)] [(.ref a1)])) _
    refine X0.arraylength hx (by rw [e0]; exact Ar_a1.1) (State.isArrayOf_alike hZ.alike Ar_a1.2.1) (g := (mkF m 1 #[.val (.ref a1)] [(.ref a1)])) rfl rfl (hb hby d24_1) _ ?_
    rw [len_of S_a1 N_a1]
    show Steps p.tables e below (s₁.setTop (mkF m 2 #[.val (.ref a1)] [(.int z_a1)])) _
    refine XS.iconst X0.here hx rfl (hb hby d24_2) ?_
    refine XS.ishr X0.here hx rfl (hb hby d24_3) rfl ?_
    show Steps p.tables e below (s₁.setTop (mkF m 4 #[.val (.ref a1)] [(.int (z_a1 >>> ((1 : Int32) &&& 31)))])) _
    exact retI X0 hx Bd.returns (hb hby d24_4) hr
  · show Q24 Z a1 cl_a1 z_a1 h0 n0 _ s₁.heap _
    rw [e0]
    exact ⟨rfl, N0, rfl⟩
set_option maxRecDepth 65536 in
set_option maxHeartbeats 40000000 in
theorem rm24 (l : Launch) (Z : State) (a0 : Array Value) (hw : ∀ d ∈ tables_1, d.before a0 Z = true) (ws : List Jvm.Cond) (a1 : Addr) (cl_a1 : Cell) (z_a1 : Int32) (h0 : Heap) (n0 : Nat) (Z0 : n0 ≤ h0.size) (Ar_a1 : Arr Z h0 a1 cl_a1 .byte) (S_a1 : cl_a1.slots.size = z_a1.toNatClampNeg) (N_a1 : ¬ z_a1 < 0) :
    MetFree l (⟨"java/lang/StringUTF16", "length", "([B)I"⟩ : MethodName) (head1 (Jvm.Cond.code (⟨"java/lang/StringUTF16", "length", "([B)I"⟩ : MethodName) jdk_52_method_6_code 1 (some .int) :: ws) ({ frames := 0, cells := 0, slots := 0, locals := 0 } : Room)) (fun a U => a = #[(.ref a1)] ∧ Z.Warmed39 U.vm ∧ U.heap = h0) (fun _ _ _ _ _ => True) (fun _ U o U' => ∃ v L, o = .returned v ∧ Q24 Z a1 cl_a1 z_a1 h0 n0 v U'.heap L ∧ FrameEnd U o U' L ({ frames := 0, cells := 0, slots := 0, locals := 0 } : Room).cells ({ frames := 0, cells := 0, slots := 0, locals := 0 } : Room).slots) := by
  exact rm24_x l Z a0 hw ws a1 cl_a1 z_a1 h0 n0 Z0 Ar_a1 S_a1 N_a1
theorem d23_0 : decode jdk_52_method_91_code 0 = .ok (.iload_n 0, 1) := by decide +kernel
theorem d23_1 : decode jdk_52_method_91_code 1 = .ok (.aload_n 1, 1) := by decide +kernel
theorem d23_2 : decode jdk_52_method_91_code 2 = .ok (.invokestatic 48, 3) := by decide +kernel
theorem d23_5 : decode jdk_52_method_91_code 5 = .ok (.invokestatic 414, 3) := by decide +kernel
theorem d23_8 : decode jdk_52_method_91_code 8 = .ok (.return_, 1) := by decide +kernel
theorem pn_23 : plainName "java/lang/StringUTF16" = true := by first | (simp [plainName, overriddenIn]; done) | decide +kernel
theorem pd_23_19 : parseMethodDescriptor "([B)I" = some ⟨[(.array .byte)], some .int⟩ := by decide +kernel
theorem pd_23_13 : parseMethodDescriptor "(II)V" = some ⟨[.int, .int], none⟩ := by decide +kernel
theorem ef_23 (m : MethodId) (x0 : Int32) (x1 : Addr) : entryFrame m #[(.int x0), (.ref x1)] 2 = mkF m 0 #[.val (.int x0), .val (.ref x1)] [] := by first | (simp [entryFrame, mkF, argsToLocals, Value.category]; done) | rfl
def Q23 (Z : State) (p1 : Int32) (a2 : Addr) (cl_a2 : Cell) (z_a2 : Int32) (G3 : Value) (h0 : Heap) (n0 : Nat) (v : Option Value) (h : Heap) (L : List Loc) : Prop := v = none ∧ Fr n0 L ∧ h = h0
set_option maxRecDepth 65536 in
set_option maxHeartbeats 40000000 in
theorem rm23 (l : Launch) (Z : State) (a0 : Array Value) (hw : ∀ d ∈ tables_1, d.before a0 Z = true) (ws : List Jvm.Cond) (p1 : Int32) (a2 : Addr) (cl_a2 : Cell) (z_a2 : Int32) (G3 : Value) (h0 : Heap) (n0 : Nat) (Z0 : n0 ≤ h0.size) (Ar_a2 : Arr Z h0 a2 cl_a2 .byte) (S_a2 : cl_a2.slots.size = z_a2.toNatClampNeg) (N_a2 : ¬ z_a2 < 0) (O4 : Sta Z h0 "jdk/internal/util/Preconditions" "SIOOBE_FORMATTER" "Ljava/util/function/BiFunction;" G3) (rG3 : G3.isRef = true) (h1 : ¬ (p1 < 0)) (h2 : p1 < own_f24 z_a2) :
    MetFree l (⟨"java/lang/StringUTF16", "checkIndex", "(I[B)V"⟩ : MethodName) (head1 (Jvm.Cond.code (⟨"java/lang/StringUTF16", "checkIndex", "(I[B)V"⟩ : MethodName) jdk_52_method_91_code 2 none :: ws) ({ frames := 2, cells := 0, slots := 0, locals := 27 } : Room)) (fun a U => a = #[(.int p1), (.ref a2)] ∧ Z.Warmed39 U.vm ∧ U.heap = h0) (fun _ _ _ _ _ => True) (fun _ U o U' => ∃ v L, o = .returned v ∧ Q23 Z p1 a2 cl_a2 z_a2 G3 h0 n0 v U'.heap L ∧ FrameEnd U o U' L ({ frames := 2, cells := 0, slots := 0, locals := 27 } : Room).cells ({ frames := 2, cells := 0, slots := 0, locals := 27 } : Room).slots) := by
  refine MetFree.of_bodySF (plainFor_of_name pn_23) hisR ?_
  intro p e s m args below meth c s₁ Bd hml0 hP hK
  obtain ⟨rfl, hZ, hh⟩ := hP
  have hx := Bd.exec
  have hby := Bd.bytes
  have hml : c.maxLocals = 2 := hml0
  have hown : s.vm.findClass "java/lang/StringUTF16" = some m.cls := findClass_of_methodNamed Bd.named
  have hnm := (name_of_methodNamed Bd.named Bd.method).1
  have X0 : Stand p l e ({ frames := 2, cells := 0, slots := 0, locals := 27 } : Room) s m #[(.int p1), (.ref a2)] below meth c s₁ [] 0 0 := Stand.of_body Bd
  have e0 : s₁.heap = h0 := by rw [← hh, Bd.state]; rfl
  have N0 := Fr.nil n0
  have pre0 : ∀ t, Steps p.tables e below (s₁.setTop (mkF m 0 #[.val (.int p1), .val (.ref a2)] [])) t → Steps p.tables e below (s₁.setTop (entryFrame m #[(.int p1), (.ref a2)] 2)) t := fun t k => castTop (ef_23 m p1 a2) k
  obtain ⟨_, _, ⟨T3, L3, k3, n3⟩, -, X3, ⟨Lc3, hQ3, l3, y3, z3⟩, st3⟩ := Jvm.LawKit.callS X0 hx (y := (⟨"java/lang/StringUTF16", "length", "([B)I"⟩ : MethodName)) hown (mvT hZ (own_w hw 103 rfl)) (mvT hZ (own_w hw 104 rfl)) (mvT hZ (own_w hw 41 rfl)) (mvT hZ (own_w hw 105 rfl)) (by decide) (backOf (W := 1) (rm24 l Z a0 hw [] a2 cl_a2 z_a2 h0 n0 Z0 Ar_a2 S_a2 N_a2) hZ (own_w hw 105 rfl) (own_w hw 41 rfl) (by decide) (by decide)) (g := (mkF m 2 #[.val (.int p1), .val (.ref a2)] [(.ref a2), (.int p1)])) rfl (by rw [hml]; rfl) (argsL := [(.ref a2)]) (rest := [(.int p1)]) (lenOf pd_23_19 rfl) rfl (by show 2 * 0 + _ ≤ _; exact Nat.le_of_eq rfl) (hb hby d23_2) (fun _ _ => ⟨rfl, e0, (by decide : 0 + 0 ≤ _), (by decide : 0 + 0 ≤ _)⟩)
  dsimp only [Pt.U, Pt.locs, Pt.cells, Pt.slots] at X3 l3 y3 z3 st3 hQ3
  subst l3 y3 z3
  obtain ⟨rfl, N3q, e3q⟩ := hQ3
  have N3 := Fr.app N0 N3q
  have K3q : Keep h0 T3.heap [] := own_keep e3q
  have KH3 : Keep h0 T3.heap [] := (Keep.refl h0 []).trans K3q own_ws0
  have eh3 : T3.heap = h0 := by rw [e3q]
  obtain ⟨_, _, ⟨T4, L4, k4, n4⟩, -, X4, ⟨Lc4, hQ4, l4, y4, z4⟩, st4⟩ := Jvm.LawKit.callS X3 hx (y := (⟨"java/lang/String", "checkIndex", "(II)V"⟩ : MethodName)) hown (mvT hZ (own_w hw 106 rfl)) (mvT hZ (own_w hw 68 rfl)) (mvT hZ (own_w hw 5 rfl)) (mvT hZ (own_w hw 69 rfl)) (by decide) (backOf (W := 0) (rm14 l Z a0 hw [] p1 (own_f24 z_a2) G3 T3.heap n0 (Nat.le_trans Z0 KH3.1) (by rw [e3q]; exact O4) rG3 h1 h2) hZ (own_w hw 69 rfl) (own_w hw 5 rfl) (by decide) (by decide)) (g := (mkF m 5 #[.val (.int p1), .val (.ref a2)] [(.int (own_f24 z_a2)), (.int p1)])) rfl (by rw [hml]; rfl) (argsL := [(.int p1), (.int (own_f24 z_a2))]) (rest := []) (lenOf pd_23_13 rfl) rfl (by show 2 * 0 + _ ≤ _; exact Nat.le_of_eq rfl) (hb hby d23_5) (fun _ _ => ⟨rfl, rfl, (by decide : 0 + 0 ≤ _), (by decide : 0 + 0 ≤ _)⟩)
  dsimp only [Pt.U, Pt.locs, Pt.cells, Pt.slots] at X4 l4 y4 z4 st4 hQ4
  subst l4 y4 z4
  obtain ⟨rfl, N4q, e4q⟩ := hQ4
  have N4 := Fr.app N3 N4q
  have K4q : Keep T3.heap T4.heap [] := own_keep e4q
  have KH4 : Keep h0 T4.heap [] := KH3.trans K4q own_ws0
  have eh4 : T4.heap = h0 := by rw [e4q]; exact eh3
  obtain ⟨fs, hr, hrun, hended, hW, hsame⟩ := X4.leave (v := none) (fun _ => rfl) (BodyLoose.notSynchronized Bd)
  refine ⟨_, _, pre0 _ ?_, hrun, hended, _, _, rfl, ?_, ⟨_, rfl⟩, hW, hsame.mono (by decide) (by decide)⟩
  · show Steps p.tables e below (s₁.setTop (mkF m 0 #[.val (.int p1), .val (.ref a2)] [])) _
    refine XS.iloadN X0.here hx rfl (hb hby d23_0) rfl ?_
    refine XS.aloadN X0.here hx rfl (hb hby d23_1) rfl rfl ?_
    show Steps p.tables e below (s₁.setTop (mkF m 2 #[.val (.int p1), .val (.ref a2)] [(.ref a2), (.int p1)])) _
    refine st3 _ ?_
    show Steps p.tables e below (T3.setTop (mkF m 5 #[.val (.int p1), .val (.ref a2)] [(.int (own_f24 z_a2)), (.int p1)])) _
    refine st4 _ ?_
    show Steps p.tables e below (T4.setTop (mkF m 8 #[.val (.int p1), .val (.ref a2)] [])) _
    exact X4.returnOut hx Bd.returns (hb hby d23_8) hr
  · show Q23 Z p1 a2 cl_a2 z_a2 G3 h0 n0 _ T4.heap _
    exact ⟨rfl, N4, eh4⟩
def own_gc (x y : Int32) : Int32 := nar .char ((((x &&& (255 : Int32)) <<< ((0 : Int32) &&& 31)) ||| ((y &&& (255 : Int32)) <<< ((8 : Int32) &&& 31))).toUInt32.toUInt16.toUInt32.toInt32)
theorem d21_0 : decode jdk_52_method_5_code 0 = .ok (.getstatic 44, 3) := by decide +kernel
theorem d21_3 : decode jdk_52_method_5_code 3 = .ok (.ifCond .ne 25, 3) := by decide +kernel
theorem d21_28 : decode jdk_52_method_5_code 28 = .ok (.iload_n 1, 1) := by decide +kernel
theorem d21_29 : decode jdk_52_method_5_code 29 = .ok (.iconst 1, 1) := by decide +kernel
theorem d21_30 : decode jdk_52_method_5_code 30 = .ok (.ishl, 1) := by decide +kernel
theorem d21_31 : decode jdk_52_method_5_code 31 = .ok (.istore_n 1, 1) := by decide +kernel
theorem d21_32 : decode jdk_52_method_5_code 32 = .ok (.aload_n 0, 1) := by decide +kernel
theorem d21_33 : decode jdk_52_method_5_code 33 = .ok (.iload_n 1, 1) := by decide +kernel
theorem d21_34 : decode jdk_52_method_5_code 34 = .ok (.iinc 1 1, 3) := by decide +kernel
theorem d21_37 : decode jdk_52_method_5_code 37 = .ok (.baload, 1) := by decide +kernel
theorem d21_38 : decode jdk_52_method_5_code 38 = .ok (.sipush 255, 3) := by decide +kernel
theorem d21_41 : decode jdk_52_method_5_code 41 = .ok (.iand, 1) := by decide +kernel
theorem d21_42 : decode jdk_52_method_5_code 42 = .ok (.getstatic 59, 3) := by decide +kernel
theorem d21_45 : decode jdk_52_method_5_code 45 = .ok (.ishl, 1) := by decide +kernel
theorem d21_46 : decode jdk_52_method_5_code 46 = .ok (.aload_n 0, 1) := by decide +kernel
theorem d21_47 : decode jdk_52_method_5_code 47 = .ok (.iload_n 1, 1) := by decide +kernel
theorem d21_48 : decode jdk_52_method_5_code 48 = .ok (.baload, 1) := by decide +kernel
theorem d21_49 : decode jdk_52_method_5_code 49 = .ok (.sipush 255, 3) := by decide +kernel
theorem d21_52 : decode jdk_52_method_5_code 52 = .ok (.iand, 1) := by decide +kernel
theorem d21_53 : decode jdk_52_method_5_code 53 = .ok (.getstatic 63, 3) := by decide +kernel
theorem d21_56 : decode jdk_52_method_5_code 56 = .ok (.ishl, 1) := by decide +kernel
theorem d21_57 : decode jdk_52_method_5_code 57 = .ok (.ior, 1) := by decide +kernel
theorem d21_58 : decode jdk_52_method_5_code 58 = .ok (.i2c, 1) := by decide +kernel
theorem d21_59 : decode jdk_52_method_5_code 59 = .ok (.ireturn, 1) := by decide +kernel
theorem pn_21 : plainName "java/lang/StringUTF16" = true := by first | (simp [plainName, overriddenIn]; done) | decide +kernel
theorem ef_21 (m : MethodId) (x0 : Addr) (x1 : Int32) : entryFrame m #[(.ref x0), (.int x1)] 2 = mkF m 0 #[.val (.ref x0), .val (.int x1)] [] := by first | (simp [entryFrame, mkF, argsToLocals, Value.category]; done) | rfl
def Q21 (Z : State) (a1 : Addr) (p2 : Int32) (w5 : Int32) (cl_a1 : Cell) (w8 : Int32) (h0 : Heap) (n0 : Nat) (v : Option Value) (h : Heap) (L : List Loc) : Prop := v = some (.int (own_gc w5 w8)) ∧ Fr n0 L ∧ h = h0
set_option maxRecDepth 65536 in
set_option maxHeartbeats 40000000 in
theorem rm21 (l : Launch) (Z : State) (a0 : Array Value) (hw : ∀ d ∈ tables_1, d.before a0 Z = true) (ws : List Jvm.Cond) (a1 : Addr) (p2 : Int32) (w5 : Int32) (cl_a1 : Cell) (w8 : Int32) (h0 : Heap) (n0 : Nat) (Z0 : n0 ≤ h0.size) (S__assertionsDisabled : Sta Z h0 "java/lang/StringUTF16" "$assertionsDisabled" "Z" (.int (1 : Int32))) (Ar_a1 : Arr Z h0 a1 cl_a1 .byte) (hin37 : ¬ ((p2 <<< ((1 : Int32) &&& 31)) < 0 ∨ cl_a1.slots.size ≤ ((p2 <<< ((1 : Int32) &&& 31))).toNatClampNeg)) (hat37 : cl_a1.slots[((p2 <<< ((1 : Int32) &&& 31))).toNatClampNeg]? = some (.int w5)) (S_HI_BYTE_SHIFT : Sta Z h0 "java/lang/StringUTF16" "HI_BYTE_SHIFT" "I" (.int (0 : Int32))) (hin48 : ¬ (((p2 <<< ((1 : Int32) &&& 31)) + (1 : Int32)) < 0 ∨ cl_a1.slots.size ≤ (((p2 <<< ((1 : Int32) &&& 31)) + (1 : Int32))).toNatClampNeg)) (hat48 : cl_a1.slots[(((p2 <<< ((1 : Int32) &&& 31)) + (1 : Int32))).toNatClampNeg]? = some (.int w8)) (S_LO_BYTE_SHIFT : Sta Z h0 "java/lang/StringUTF16" "LO_BYTE_SHIFT" "I" (.int (8 : Int32))) (hc3 : ¬ ((1 : Int32) = (0 : Int32))) :
    MetFree l (⟨"java/lang/StringUTF16", "getChar", "([BI)C"⟩ : MethodName) (head1 (Jvm.Cond.code (⟨"java/lang/StringUTF16", "getChar", "([BI)C"⟩ : MethodName) jdk_52_method_5_code 2 (some .char) :: ws) ({ frames := 0, cells := 0, slots := 0, locals := 0 } : Room)) (fun a U => a = #[(.ref a1), (.int p2)] ∧ Z.Warmed39 U.vm ∧ U.heap = h0) (fun _ _ _ _ _ => True) (fun _ U o U' => ∃ v L, o = .returned v ∧ Q21 Z a1 p2 w5 cl_a1 w8 h0 n0 v U'.heap L ∧ FrameEnd U o U' L ({ frames := 0, cells := 0, slots := 0, locals := 0 } : Room).cells ({ frames := 0, cells := 0, slots := 0, locals := 0 } : Room).slots) := by
  refine MetFree.of_bodySF (plainFor_of_name pn_21) hisR ?_
  intro p e s m args below meth c s₁ Bd hml0 hP hK
  obtain ⟨rfl, hZ, hh⟩ := hP
  have hx := Bd.exec
  have hby := Bd.bytes
  have hml : c.maxLocals = 2 := hml0
  have hown : s.vm.findClass "java/lang/StringUTF16" = some m.cls := findClass_of_methodNamed Bd.named
  have hnm := (name_of_methodNamed Bd.named Bd.method).1
  have X0 : Stand p l e ({ frames := 0, cells := 0, slots := 0, locals := 0 } : Room) s m #[(.ref a1), (.int p2)] below meth c s₁ [] 0 0 := Stand.of_body Bd
  have e0 : s₁.heap = h0 := by rw [← hh, Bd.state]; rfl
  have N0 := Fr.nil n0
  have pre0 : ∀ t, Steps p.tables e below (s₁.setTop (mkF m 0 #[.val (.ref a1), .val (.int p2)] [])) t → Steps p.tables e below (s₁.setTop (entryFrame m #[(.ref a1), (.int p2)] 2)) t := fun t k => castTop (ef_21 m a1 p2) k
  obtain ⟨T4, X4, e4, st4⟩ := getS2 X0 hx hZ hown (host := "") (Or.inl (own_w hw 91 rfl)) Via.refl e0 S__assertionsDisabled (g := (mkF m 0 #[.val (.ref a1), .val (.int p2)] [])) rfl (hb hby d21_0)
  obtain ⟨T7, X7, e7, st7⟩ := getS2 X4 hx hZ hown (host := "") (Or.inl (own_w hw 92 rfl)) Via.refl e4 S_HI_BYTE_SHIFT (g := (mkF m 42 #[.val (.ref a1), .val (.int ((p2 <<< ((1 : Int32) &&& 31)) + (1 : Int32)))] [(.int (w5 &&& (255 : Int32)))])) rfl (hb hby d21_42)
  obtain ⟨T10, X10, e10, st10⟩ := getS2 X7 hx hZ hown (host := "") (Or.inl (own_w hw 93 rfl)) Via.refl e7 S_LO_BYTE_SHIFT (g := (mkF m 53 #[.val (.ref a1), .val (.int ((p2 <<< ((1 : Int32) &&& 31)) + (1 : Int32)))] [(.int (w8 &&& (255 : Int32))), (.int ((w5 &&& (255 : Int32)) <<< ((0 : Int32) &&& 31)))])) rfl (hb hby d21_53)
  obtain ⟨fs, hr, hrun, hended, hW, hsame⟩ := X10.leave (v := some (.int (nar .char ((((w5 &&& (255 : Int32)) <<< ((0 : Int32) &&& 31)) ||| ((w8 &&& (255 : Int32)) <<< ((8 : Int32) &&& 31))).toUInt32.toUInt16.toUInt32.toInt32)))) (fun h => by rw [Bd.returns] at h; cases h) (BodyLoose.notSynchronized Bd)
  refine ⟨_, _, pre0 _ ?_, hrun, hended, _, _, rfl, ?_, ⟨_, rfl⟩, hW, hsame.mono (by decide) (by decide)⟩
  · show Steps p.tables e below (s₁.setTop (mkF m 0 #[.val (.ref a1), .val (.int p2)] [])) _
    refine st4 _ ?_
    show Steps p.tables e below (T4.setTop (mkF m 3 #[.val (.ref a1), .val (.int p2)] [(.int (1 : Int32))])) _
    refine XS.ifYes X4.here hx rfl (pc0 := 3) (pc' := 28) rfl (hb hby d21_3) rfl ((if0 _ _).trans (feq hc3).2) (by decide) (by decide) ?_
    refine XS.iloadN X4.here hx rfl (hb hby d21_28) rfl ?_
    refine XS.iconst X4.here hx rfl (hb hby d21_29) ?_
    refine XS.ishl X4.here hx rfl (hb hby d21_30) rfl ?_
    refine XS.istoreN X4.here hx rfl (hb hby d21_31) rfl (l' := #[.val (.ref a1), .val (.int (p2 <<< ((1 : Int32) &&& 31)))]) rfl ?_
    refine XS.aloadN X4.here hx rfl (hb hby d21_32) rfl rfl ?_
    refine XS.iloadN X4.here hx rfl (hb hby d21_33) rfl ?_
    refine XS.iinc X4.here hx rfl (hb hby d21_34) rfl (l' := #[.val (.ref a1), .val (.int ((p2 <<< ((1 : Int32) &&& 31)) + (1 : Int32)))]) rfl ?_
    show Steps p.tables e below (T4.setTop (mkF m 37 #[.val (.ref a1), .val (.int ((p2 <<< ((1 : Int32) &&& 31)) + (1 : Int32)))] [(.int (p2 <<< ((1 : Int32) &&& 31))), (.ref a1)])) _
    refine X4.baloadBytes hx (j := (p2 <<< ((1 : Int32) &&& 31))) (v := (.int w5)) (by rw [e4]; exact Ar_a1.1) (State.isArrayOf_alike hZ.alike Ar_a1.2.1) Ar_a1.2.2 hin37 hat37 (g := (mkF m 37 #[.val (.ref a1), .val (.int ((p2 <<< ((1 : Int32) &&& 31)) + (1 : Int32)))] [(.int (p2 <<< ((1 : Int32) &&& 31))), (.ref a1)])) rfl rfl (hb hby d21_37) _ ?_
    show Steps p.tables e below (T4.setTop (mkF m 38 #[.val (.ref a1), .val (.int ((p2 <<< ((1 : Int32) &&& 31)) + (1 : Int32)))] [(.int w5)])) _
    refine XS.sipush X4.here hx rfl (hb hby d21_38) ?_
    refine XS.iand X4.here hx rfl (hb hby d21_41) rfl ?_
    show Steps p.tables e below (T4.setTop (mkF m 42 #[.val (.ref a1), .val (.int ((p2 <<< ((1 : Int32) &&& 31)) + (1 : Int32)))] [(.int (w5 &&& (255 : Int32)))])) _
    refine st7 _ ?_
    show Steps p.tables e below (T7.setTop (mkF m 45 #[.val (.ref a1), .val (.int ((p2 <<< ((1 : Int32) &&& 31)) + (1 : Int32)))] [(.int (0 : Int32)), (.int (w5 &&& (255 : Int32)))])) _
    refine XS.ishl X7.here hx rfl (hb hby d21_45) rfl ?_
    refine XS.aloadN X7.here hx rfl (hb hby d21_46) rfl rfl ?_
    refine XS.iloadN X7.here hx rfl (hb hby d21_47) rfl ?_
    show Steps p.tables e below (T7.setTop (mkF m 48 #[.val (.ref a1), .val (.int ((p2 <<< ((1 : Int32) &&& 31)) + (1 : Int32)))] [(.int ((p2 <<< ((1 : Int32) &&& 31)) + (1 : Int32))), (.ref a1), (.int ((w5 &&& (255 : Int32)) <<< ((0 : Int32) &&& 31)))])) _
    refine X7.baloadBytes hx (j := ((p2 <<< ((1 : Int32) &&& 31)) + (1 : Int32))) (v := (.int w8)) (by rw [e7]; exact Ar_a1.1) (State.isArrayOf_alike hZ.alike Ar_a1.2.1) Ar_a1.2.2 hin48 hat48 (g := (mkF m 48 #[.val (.ref a1), .val (.int ((p2 <<< ((1 : Int32) &&& 31)) + (1 : Int32)))] [(.int ((p2 <<< ((1 : Int32) &&& 31)) + (1 : Int32))), (.ref a1), (.int ((w5 &&& (255 : Int32)) <<< ((0 : Int32) &&& 31)))])) rfl rfl (hb hby d21_48) _ ?_
    show Steps p.tables e below (T7.setTop (mkF m 49 #[.val (.ref a1), .val (.int ((p2 <<< ((1 : Int32) &&& 31)) + (1 : Int32)))] [(.int w8), (.int ((w5 &&& (255 : Int32)) <<< ((0 : Int32) &&& 31)))])) _
    refine XS.sipush X7.here hx rfl (hb hby d21_49) ?_
    refine XS.iand X7.here hx rfl (hb hby d21_52) rfl ?_
    show Steps p.tables e below (T7.setTop (mkF m 53 #[.val (.ref a1), .val (.int ((p2 <<< ((1 : Int32) &&& 31)) + (1 : Int32)))] [(.int (w8 &&& (255 : Int32))), (.int ((w5 &&& (255 : Int32)) <<< ((0 : Int32) &&& 31)))])) _
    refine st10 _ ?_
    show Steps p.tables e below (T10.setTop (mkF m 56 #[.val (.ref a1), .val (.int ((p2 <<< ((1 : Int32) &&& 31)) + (1 : Int32)))] [(.int (8 : Int32)), (.int (w8 &&& (255 : Int32))), (.int ((w5 &&& (255 : Int32)) <<< ((0 : Int32) &&& 31)))])) _
    refine XS.ishl X10.here hx rfl (hb hby d21_56) rfl ?_
    refine XS.ior X10.here hx rfl (hb hby d21_57) rfl ?_
    refine XS.i2c X10.here hx rfl (hb hby d21_58) rfl ?_
    show Steps p.tables e below (T10.setTop (mkF m 59 #[.val (.ref a1), .val (.int ((p2 <<< ((1 : Int32) &&& 31)) + (1 : Int32)))] [(.int ((((w5 &&& (255 : Int32)) <<< ((0 : Int32) &&& 31)) ||| ((w8 &&& (255 : Int32)) <<< ((8 : Int32) &&& 31))).toUInt32.toUInt16.toUInt32.toInt32))])) _
    exact retN X10 hx (t := .char) Bd.returns (by simp) (hb hby d21_59) hr
  · show Q21 Z a1 p2 w5 cl_a1 w8 h0 n0 _ T10.heap _
    rw [e10]
    exact ⟨rfl, N0, rfl⟩
theorem d22_0 : decode jdk_52_method_83_code 0 = .ok (.iload_n 1, 1) := by decide +kernel
theorem d22_1 : decode jdk_52_method_83_code 1 = .ok (.aload_n 0, 1) := by decide +kernel
theorem d22_2 : decode jdk_52_method_83_code 2 = .ok (.invokestatic 67, 3) := by decide +kernel
theorem d22_5 : decode jdk_52_method_83_code 5 = .ok (.aload_n 0, 1) := by decide +kernel
theorem d22_6 : decode jdk_52_method_83_code 6 = .ok (.iload_n 1, 1) := by decide +kernel
theorem d22_7 : decode jdk_52_method_83_code 7 = .ok (.invokestatic 71, 3) := by decide +kernel
theorem d22_10 : decode jdk_52_method_83_code 10 = .ok (.ireturn, 1) := by decide +kernel
theorem pn_22 : plainName "java/lang/StringUTF16" = true := by first | (simp [plainName, overriddenIn]; done) | decide +kernel
theorem pd_22_18 : parseMethodDescriptor "(I[B)V" = some ⟨[.int, (.array .byte)], none⟩ := by decide +kernel
theorem pd_22_12 : parseMethodDescriptor "([BI)C" = some ⟨[(.array .byte), .int], some .char⟩ := by decide +kernel
theorem ef_22 (m : MethodId) (x0 : Addr) (x1 : Int32) : entryFrame m #[(.ref x0), (.int x1)] 2 = mkF m 0 #[.val (.ref x0), .val (.int x1)] [] := by first | (simp [entryFrame, mkF, argsToLocals, Value.category]; done) | rfl
def Q22 (Z : State) (a1 : Addr) (p2 : Int32) (cl : Cell) (z : Int32) (x : Int32) (y : Int32) (G3 : Value) (h0 : Heap) (n0 : Nat) (v : Option Value) (h : Heap) (L : List Loc) : Prop := v = some (.int (nar .char (own_gc x y))) ∧ Fr n0 L ∧ h = h0
set_option maxRecDepth 65536 in
set_option maxHeartbeats 40000000 in
theorem rm22 (l : Launch) (Z : State) (a0 : Array Value) (hw : ∀ d ∈ tables_1, d.before a0 Z = true) (ws : List Jvm.Cond) (a1 : Addr) (p2 : Int32) (cl : Cell) (z : Int32) (x : Int32) (y : Int32) (G3 : Value) (h0 : Heap) (n0 : Nat) (Z0 : n0 ≤ h0.size) (Ar : Arr Z h0 a1 cl .byte) (Sz : cl.slots.size = z.toNatClampNeg) (Nz : ¬ z < 0) (O4 : Sta Z h0 "jdk/internal/util/Preconditions" "SIOOBE_FORMATTER" "Ljava/util/function/BiFunction;" G3) (rG3 : G3.isRef = true) (S__assertionsDisabled : Sta Z h0 "java/lang/StringUTF16" "$assertionsDisabled" "Z" (.int (1 : Int32))) (S_HI_BYTE_SHIFT : Sta Z h0 "java/lang/StringUTF16" "HI_BYTE_SHIFT" "I" (.int (0 : Int32))) (S_LO_BYTE_SHIFT : Sta Z h0 "java/lang/StringUTF16" "LO_BYTE_SHIFT" "I" (.int (8 : Int32))) (h1 : ¬ (p2 < 0)) (h2 : p2 < own_f24 z) (hin37 : ¬ ((p2 <<< ((1 : Int32) &&& 31)) < 0 ∨ cl.slots.size ≤ ((p2 <<< ((1 : Int32) &&& 31))).toNatClampNeg)) (hat37 : cl.slots[((p2 <<< ((1 : Int32) &&& 31))).toNatClampNeg]? = some (.int x)) (hin48 : ¬ (((p2 <<< ((1 : Int32) &&& 31)) + (1 : Int32)) < 0 ∨ cl.slots.size ≤ (((p2 <<< ((1 : Int32) &&& 31)) + (1 : Int32))).toNatClampNeg)) (hat48 : cl.slots[(((p2 <<< ((1 : Int32) &&& 31)) + (1 : Int32))).toNatClampNeg]? = some (.int y)) :
    MetFree l (⟨"java/lang/StringUTF16", "charAt", "([BI)C"⟩ : MethodName) (head1 (Jvm.Cond.code (⟨"java/lang/StringUTF16", "charAt", "([BI)C"⟩ : MethodName) jdk_52_method_83_code 2 (some .char) :: ws) ({ frames := 3, cells := 0, slots := 0, locals := 40 } : Room)) (fun a U => a = #[(.ref a1), (.int p2)] ∧ Z.Warmed39 U.vm ∧ U.heap = h0) (fun _ _ _ _ _ => True) (fun _ U o U' => ∃ v L, o = .returned v ∧ Q22 Z a1 p2 cl z x y G3 h0 n0 v U'.heap L ∧ FrameEnd U o U' L ({ frames := 3, cells := 0, slots := 0, locals := 40 } : Room).cells ({ frames := 3, cells := 0, slots := 0, locals := 40 } : Room).slots) := by
  refine MetFree.of_bodySF (plainFor_of_name pn_22) hisR ?_
  intro p e s m args below meth c s₁ Bd hml0 hP hK
  obtain ⟨rfl, hZ, hh⟩ := hP
  have hx := Bd.exec
  have hby := Bd.bytes
  have hml : c.maxLocals = 2 := hml0
  have hown : s.vm.findClass "java/lang/StringUTF16" = some m.cls := findClass_of_methodNamed Bd.named
  have hnm := (name_of_methodNamed Bd.named Bd.method).1
  have X0 : Stand p l e ({ frames := 3, cells := 0, slots := 0, locals := 40 } : Room) s m #[(.ref a1), (.int p2)] below meth c s₁ [] 0 0 := Stand.of_body Bd
  have e0 : s₁.heap = h0 := by rw [← hh, Bd.state]; rfl
  have N0 := Fr.nil n0
  have pre0 : ∀ t, Steps p.tables e below (s₁.setTop (mkF m 0 #[.val (.ref a1), .val (.int p2)] [])) t → Steps p.tables e below (s₁.setTop (entryFrame m #[(.ref a1), (.int p2)] 2)) t := fun t k => castTop (ef_22 m a1 p2) k
  obtain ⟨_, _, ⟨T3, L3, k3, n3⟩, -, X3, ⟨Lc3, hQ3, l3, y3, z3⟩, st3⟩ := Jvm.LawKit.callS X0 hx (y := (⟨"java/lang/StringUTF16", "checkIndex", "(I[B)V"⟩ : MethodName)) hown (mvT hZ (own_w hw 100 rfl)) (mvT hZ (own_w hw 101 rfl)) (mvT hZ (own_w hw 41 rfl)) (mvT hZ (own_w hw 102 rfl)) (by decide) (backOf (W := 0) (rm23 l Z a0 hw [] p2 a1 cl z G3 h0 n0 Z0 Ar Sz Nz O4 rG3 h1 h2) hZ (own_w hw 102 rfl) (own_w hw 41 rfl) (by decide) (by decide)) (g := (mkF m 2 #[.val (.ref a1), .val (.int p2)] [(.ref a1), (.int p2)])) rfl (by rw [hml]; rfl) (argsL := [(.int p2), (.ref a1)]) (rest := []) (lenOf pd_22_18 rfl) rfl (by show 2 * 0 + _ ≤ _; exact Nat.le_of_eq rfl) (hb hby d22_2) (fun _ _ => ⟨rfl, e0, (by decide : 0 + 0 ≤ _), (by decide : 0 + 0 ≤ _)⟩)
  dsimp only [Pt.U, Pt.locs, Pt.cells, Pt.slots] at X3 l3 y3 z3 st3 hQ3
  subst l3 y3 z3
  obtain ⟨rfl, N3q, e3q⟩ := hQ3
  have N3 := Fr.app N0 N3q
  have K3q : Keep h0 T3.heap [] := own_keep e3q
  have KH3 : Keep h0 T3.heap [] := (Keep.refl h0 []).trans K3q own_ws0
  have eh3 : T3.heap = h0 := by rw [e3q]
  obtain ⟨_, _, ⟨T4, L4, k4, n4⟩, -, X4, ⟨Lc4, hQ4, l4, y4, z4⟩, st4⟩ := Jvm.LawKit.callS X3 hx (y := (⟨"java/lang/StringUTF16", "getChar", "([BI)C"⟩ : MethodName)) hown (mvT hZ (own_w hw 94 rfl)) (mvT hZ (own_w hw 95 rfl)) (mvT hZ (own_w hw 41 rfl)) (mvT hZ (own_w hw 96 rfl)) (by decide) (backOf (W := 0) (rm21 l Z a0 hw [] a1 p2 x cl y T3.heap n0 (Nat.le_trans Z0 KH3.1) (by rw [e3q]; exact S__assertionsDisabled) (by rw [e3q]; exact Ar) hin37 hat37 (by rw [e3q]; exact S_HI_BYTE_SHIFT) hin48 hat48 (by rw [e3q]; exact S_LO_BYTE_SHIFT) (by decide)) hZ (own_w hw 96 rfl) (own_w hw 41 rfl) (by decide) (by decide)) (g := (mkF m 7 #[.val (.ref a1), .val (.int p2)] [(.int p2), (.ref a1)])) rfl (by rw [hml]; rfl) (argsL := [(.ref a1), (.int p2)]) (rest := []) (lenOf pd_22_12 rfl) rfl (by show 2 * 0 + _ ≤ _; exact Nat.le_of_eq rfl) (hb hby d22_7) (fun _ _ => ⟨rfl, rfl, (by decide : 0 + 0 ≤ _), (by decide : 0 + 0 ≤ _)⟩)
  dsimp only [Pt.U, Pt.locs, Pt.cells, Pt.slots] at X4 l4 y4 z4 st4 hQ4
  subst l4 y4 z4
  obtain ⟨rfl, N4q, e4q⟩ := hQ4
  have N4 := Fr.app N3 N4q
  have K4q : Keep T3.heap T4.heap [] := own_keep e4q
  have KH4 : Keep h0 T4.heap [] := KH3.trans K4q own_ws0
  have eh4 : T4.heap = h0 := by rw [e4q]; exact eh3
  obtain ⟨fs, hr, hrun, hended, hW, hsame⟩ := X4.leave (v := some (.int (nar .char (own_gc x y)))) (fun h => by rw [Bd.returns] at h; cases h) (BodyLoose.notSynchronized Bd)
  refine ⟨_, _, pre0 _ ?_, hrun, hended, _, _, rfl, ?_, ⟨_, rfl⟩, hW, hsame.mono (by decide) (by decide)⟩
  · show Steps p.tables e below (s₁.setTop (mkF m 0 #[.val (.ref a1), .val (.int p2)] [])) _
    refine XS.iloadN X0.here hx rfl (hb hby d22_0) rfl ?_
    refine XS.aloadN X0.here hx rfl (hb hby d22_1) rfl rfl ?_
    show Steps p.tables e below (s₁.setTop (mkF m 2 #[.val (.ref a1), .val (.int p2)] [(.ref a1), (.int p2)])) _
    refine st3 _ ?_
    show Steps p.tables e below (T3.setTop (mkF m 5 #[.val (.ref a1), .val (.int p2)] [])) _
    refine XS.aloadN X3.here hx rfl (hb hby d22_5) rfl rfl ?_
    refine XS.iloadN X3.here hx rfl (hb hby d22_6) rfl ?_
    show Steps p.tables e below (T3.setTop (mkF m 7 #[.val (.ref a1), .val (.int p2)] [(.int p2), (.ref a1)])) _
    refine st4 _ ?_
    show Steps p.tables e below (T4.setTop (mkF m 10 #[.val (.ref a1), .val (.int p2)] [(.int (own_gc x y))])) _
    exact retN X4 hx (t := .char) Bd.returns (by simp) (hb hby d22_10) hr
  · show Q22 Z a1 p2 cl z x y G3 h0 n0 _ T4.heap _
    exact ⟨rfl, N4, eh4⟩
theorem d11_0 : decode jdk_42_method_56_code 0 = .ok (.aload_n 0, 1) := by decide +kernel
theorem d11_1 : decode jdk_42_method_56_code 1 = .ok (.invokevirtual 492, 3) := by decide +kernel
theorem d11_4 : decode jdk_42_method_56_code 4 = .ok (.ifCond .eq 12, 3) := by decide +kernel
theorem d11_16 : decode jdk_42_method_56_code 16 = .ok (.aload_n 0, 1) := by decide +kernel
theorem d11_17 : decode jdk_42_method_56_code 17 = .ok (.getfield 9, 3) := by decide +kernel
theorem d11_20 : decode jdk_42_method_56_code 20 = .ok (.iload_n 1, 1) := by decide +kernel
theorem d11_21 : decode jdk_42_method_56_code 21 = .ok (.invokestatic 498, 3) := by decide +kernel
theorem d11_24 : decode jdk_42_method_56_code 24 = .ok (.ireturn, 1) := by decide +kernel
theorem pn_11 : plainName "java/lang/String" = true := by first | (simp [plainName, overriddenIn]; done) | decide +kernel
theorem pd_11_11 : parseMethodDescriptor "()Z" = some ⟨[], some .boolean⟩ := by decide +kernel
theorem pd_11_12 : parseMethodDescriptor "([BI)C" = some ⟨[(.array .byte), .int], some .char⟩ := by decide +kernel
theorem ef_11U (m : MethodId) (x0 : Addr) (x1 : Int32) : entryFrame m #[(.ref x0), (.int x1)] 2 = mkF m 0 #[.val (.ref x0), .val (.int x1)] [] := by first | (simp [entryFrame, mkF, argsToLocals, Value.category]; done) | rfl
def Q11U (Z : State) (a1 : Addr) (p2 : Int32) (w_value_a1 : Addr) (G1 : Int32) (cl : Cell) (z : Int32) (x : Int32) (y : Int32) (G3 : Value) (cv : Int32) (h0 : Heap) (n0 : Nat) (v : Option Value) (h : Heap) (L : List Loc) : Prop := v = some (.int cv) ∧ Fr n0 L ∧ h = h0
set_option maxRecDepth 65536 in
set_option maxHeartbeats 40000000 in
theorem rm11U (l : Launch) (Z : State) (a0 : Array Value) (hw : ∀ d ∈ tables_1, d.before a0 Z = true) (ws : List Jvm.Cond) (a1 : Addr) (p2 : Int32) (w_value_a1 : Addr) (G1 : Int32) (cl : Cell) (z : Int32) (x : Int32) (y : Int32) (G3 : Value) (cv : Int32) (h0 : Heap) (n0 : Nat) (Z0 : n0 ≤ h0.size) (E_a1 : Exa Z h0 a1 "java/lang/String") (F_value_a1 : Fld Z h0 a1 "java/lang/String" "value" "[B" (.ref w_value_a1)) (ht4 : (own_f12 G1 (1 : Int32)) = (0 : Int32)) (S_CS : Sta Z h0 "java/lang/String" "COMPACT_STRINGS" "Z" (.int G1)) (F_c : Fld Z h0 a1 "java/lang/String" "coder" "B" (.int (1 : Int32))) (Ar : Arr Z h0 w_value_a1 cl .byte) (Sz : cl.slots.size = z.toNatClampNeg) (Nz : ¬ z < 0) (O4 : Sta Z h0 "jdk/internal/util/Preconditions" "SIOOBE_FORMATTER" "Ljava/util/function/BiFunction;" G3) (rG3 : G3.isRef = true) (S__assertionsDisabled : Sta Z h0 "java/lang/StringUTF16" "$assertionsDisabled" "Z" (.int (1 : Int32))) (S_HI_BYTE_SHIFT : Sta Z h0 "java/lang/StringUTF16" "HI_BYTE_SHIFT" "I" (.int (0 : Int32))) (S_LO_BYTE_SHIFT : Sta Z h0 "java/lang/StringUTF16" "LO_BYTE_SHIFT" "I" (.int (8 : Int32))) (h1 : ¬ (p2 < 0)) (h2 : p2 < own_f24 z) (hin37 : ¬ ((p2 <<< ((1 : Int32) &&& 31)) < 0 ∨ cl.slots.size ≤ ((p2 <<< ((1 : Int32) &&& 31))).toNatClampNeg)) (hat37 : cl.slots[((p2 <<< ((1 : Int32) &&& 31))).toNatClampNeg]? = some (.int x)) (hin48 : ¬ (((p2 <<< ((1 : Int32) &&& 31)) + (1 : Int32)) < 0 ∨ cl.slots.size ≤ (((p2 <<< ((1 : Int32) &&& 31)) + (1 : Int32))).toNatClampNeg)) (hat48 : cl.slots[(((p2 <<< ((1 : Int32) &&& 31)) + (1 : Int32))).toNatClampNeg]? = some (.int y)) (hcv : nar .char (nar .char (own_gc x y)) = cv) :
    MetFree l (⟨"java/lang/String", "charAt", "(I)C"⟩ : MethodName) (head1 (Jvm.Cond.code (⟨"java/lang/String", "charAt", "(I)C"⟩ : MethodName) jdk_42_method_56_code 2 (some .char) :: ws) ({ frames := 4, cells := 0, slots := 0, locals := 53 } : Room)) (fun a U => a = #[(.ref a1), (.int p2)] ∧ Z.Warmed39 U.vm ∧ U.heap = h0) (fun _ _ _ _ _ => True) (fun _ U o U' => ∃ v L, o = .returned v ∧ Q11U Z a1 p2 w_value_a1 G1 cl z x y G3 cv h0 n0 v U'.heap L ∧ FrameEnd U o U' L ({ frames := 4, cells := 0, slots := 0, locals := 53 } : Room).cells ({ frames := 4, cells := 0, slots := 0, locals := 53 } : Room).slots) := by
  refine MetFree.of_bodySF (plainFor_of_name pn_11) hisR ?_
  intro p e s m args below meth c s₁ Bd hml0 hP hK
  obtain ⟨rfl, hZ, hh⟩ := hP
  have hx := Bd.exec
  have hby := Bd.bytes
  have hml : c.maxLocals = 2 := hml0
  have hown : s.vm.findClass "java/lang/String" = some m.cls := findClass_of_methodNamed Bd.named
  have hnm := (name_of_methodNamed Bd.named Bd.method).1
  have X0 : Stand p l e ({ frames := 4, cells := 0, slots := 0, locals := 53 } : Room) s m #[(.ref a1), (.int p2)] below meth c s₁ [] 0 0 := Stand.of_body Bd
  have e0 : s₁.heap = h0 := by rw [← hh, Bd.state]; rfl
  have N0 := Fr.nil n0
  have pre0 : ∀ t, Steps p.tables e below (s₁.setTop (mkF m 0 #[.val (.ref a1), .val (.int p2)] [])) t → Steps p.tables e below (s₁.setTop (entryFrame m #[(.ref a1), (.int p2)] 2)) t := fun t k => castTop (ef_11U m a1 p2) k
  obtain ⟨cq3, kq3, q3a, q3b, q3c⟩ := isOf hZ e0 E_a1
  obtain ⟨_, _, ⟨T3, L3, k3, n3⟩, -, X3, ⟨Lc3, hQ3, l3, y3, z3⟩, st3⟩ := X0.virtualBack hx (y := (⟨"java/lang/String", "isLatin1", "()Z"⟩ : MethodName)) (z := (⟨"java/lang/String", "isLatin1", "()Z"⟩ : MethodName)) hown (mvT hZ (own_w hw 58 rfl)) (mvT hZ (own_w hw 59 rfl)) (notFace_of_selects (args := #[]) (mvT hZ (own_w hw 61 rfl))) (mvT hZ (own_w hw 61 rfl)) (mvT hZ (own_w hw 60 rfl)) (by decide) (backOf (W := 0) (rm12 l Z a0 hw [] a1 G1 (1 : Int32) h0 n0 Z0 S_CS F_c) hZ (own_w hw 62 rfl) (own_w hw 5 rfl) (by decide) (by decide)) q3a q3c (g := (mkF m 1 #[.val (.ref a1), .val (.int p2)] [(.ref a1)])) rfl (by rw [hml]; rfl) (Steps.refl _) (argsL := []) (rest := []) (lenOf pd_11_11 rfl) rfl (by show 2 * 0 + _ ≤ _; exact Nat.le_of_eq rfl) (hb hby d11_1) (fun _ _ => ⟨rfl, e0, (by decide : 0 + 0 ≤ _), (by decide : 0 + 0 ≤ _)⟩)
  dsimp only [Pt.U, Pt.locs, Pt.cells, Pt.slots] at X3 l3 y3 z3 st3 hQ3
  subst l3 y3 z3
  obtain ⟨rfl, N3q, e3q⟩ := hQ3
  have N3 := Fr.app N0 N3q
  have K3q : Keep h0 T3.heap [] := own_keep e3q
  have KH3 : Keep h0 T3.heap [] := (Keep.refl h0 []).trans K3q own_ws0
  have eh3 : T3.heap = h0 := by rw [e3q]
  obtain ⟨T5, X5, e5, st5⟩ := getF X3 hx hZ hown (host := "") (Or.inl (own_w hw 22 rfl)) Via.refl rfl (F_value_a1.keep K3q (by simp)) (g := (mkF m 17 #[.val (.ref a1), .val (.int p2)] [(.ref a1)])) rfl rfl (hb hby d11_17)
  obtain ⟨_, _, ⟨T6, L6, k6, n6⟩, -, X6, ⟨Lc6, hQ6, l6, y6, z6⟩, st6⟩ := Jvm.LawKit.callS X5 hx (y := (⟨"java/lang/StringUTF16", "charAt", "([BI)C"⟩ : MethodName)) hown (mvT hZ (own_w hw 97 rfl)) (mvT hZ (own_w hw 98 rfl)) (mvT hZ (own_w hw 41 rfl)) (mvT hZ (own_w hw 99 rfl)) (by decide) (backOf (W := 0) (rm22 l Z a0 hw [] w_value_a1 p2 cl z x y G3 T3.heap n0 (Nat.le_trans Z0 KH3.1) (by rw [e3q]; exact Ar) Sz Nz (by rw [e3q]; exact O4) rG3 (by rw [e3q]; exact S__assertionsDisabled) (by rw [e3q]; exact S_HI_BYTE_SHIFT) (by rw [e3q]; exact S_LO_BYTE_SHIFT) h1 h2 hin37 hat37 hin48 hat48) hZ (own_w hw 99 rfl) (own_w hw 41 rfl) (by decide) (by decide)) (g := (mkF m 21 #[.val (.ref a1), .val (.int p2)] [(.int p2), (.ref w_value_a1)])) rfl (by rw [hml]; rfl) (argsL := [(.ref w_value_a1), (.int p2)]) (rest := []) (lenOf pd_11_12 rfl) rfl (by show 2 * 0 + _ ≤ _; exact Nat.le_of_eq rfl) (hb hby d11_21) (fun _ _ => ⟨rfl, e5, (by decide : 0 + 0 ≤ _), (by decide : 0 + 0 ≤ _)⟩)
  dsimp only [Pt.U, Pt.locs, Pt.cells, Pt.slots] at X6 l6 y6 z6 st6 hQ6
  subst l6 y6 z6
  obtain ⟨rfl, N6q, e6q⟩ := hQ6
  have N6 := Fr.app N3 N6q
  have K6q : Keep T3.heap T6.heap [] := own_keep e6q
  have KH6 : Keep h0 T6.heap [] := KH3.trans K6q own_ws0
  have eh6 : T6.heap = h0 := by rw [e6q]; exact eh3
  obtain ⟨fs, hr, hrun, hended, hW, hsame⟩ := X6.leave (v := some (.int (nar .char (nar .char (own_gc x y))))) (fun h => by rw [Bd.returns] at h; cases h) (BodyLoose.notSynchronized Bd)
  refine ⟨_, _, pre0 _ ?_, hrun, hended, _, _, rfl, ?_, ⟨_, rfl⟩, hW, hsame.mono (by decide) (by decide)⟩
  · show Steps p.tables e below (s₁.setTop (mkF m 0 #[.val (.ref a1), .val (.int p2)] [])) _
    refine XS.aloadN X0.here hx rfl (hb hby d11_0) rfl rfl ?_
    show Steps p.tables e below (s₁.setTop (mkF m 1 #[.val (.ref a1), .val (.int p2)] [(.ref a1)])) _
    refine st3.trans ?_
    show Steps p.tables e below (T3.setTop (mkF m 4 #[.val (.ref a1), .val (.int p2)] [(.int (own_f12 G1 (1 : Int32)))])) _
    refine XS.ifYes X3.here hx rfl (pc0 := 4) (pc' := 16) rfl (hb hby d11_4) rfl ((if0 _ _).trans (teq ht4).1) (by decide) (by decide) ?_
    refine XS.aloadN X3.here hx rfl (hb hby d11_16) rfl rfl ?_
    show Steps p.tables e below (T3.setTop (mkF m 17 #[.val (.ref a1), .val (.int p2)] [(.ref a1)])) _
    refine st5 _ ?_
    show Steps p.tables e below (T5.setTop (mkF m 20 #[.val (.ref a1), .val (.int p2)] [(.ref w_value_a1)])) _
    refine XS.iloadN X5.here hx rfl (hb hby d11_20) rfl ?_
    show Steps p.tables e below (T5.setTop (mkF m 21 #[.val (.ref a1), .val (.int p2)] [(.int p2), (.ref w_value_a1)])) _
    refine st6 _ ?_
    show Steps p.tables e below (T6.setTop (mkF m 24 #[.val (.ref a1), .val (.int p2)] [(.int (nar .char (own_gc x y)))])) _
    exact retN X6 hx (t := .char) Bd.returns (by simp) (hb hby d11_24) hr
  · show Q11U Z a1 p2 w_value_a1 G1 cl z x y G3 cv h0 n0 _ T6.heap _
    exact ⟨(by rw [hcv]), N6, eh6⟩
theorem d11_7 : decode jdk_42_method_56_code 7 = .ok (.aload_n 0, 1) := by decide +kernel
theorem d11_8 : decode jdk_42_method_56_code 8 = .ok (.getfield 9, 3) := by decide +kernel
theorem d11_11 : decode jdk_42_method_56_code 11 = .ok (.iload_n 1, 1) := by decide +kernel
theorem d11_12 : decode jdk_42_method_56_code 12 = .ok (.invokestatic 495, 3) := by decide +kernel
theorem d11_15 : decode jdk_42_method_56_code 15 = .ok (.ireturn, 1) := by decide +kernel
theorem ef_11L (m : MethodId) (x0 : Addr) (x1 : Int32) : entryFrame m #[(.ref x0), (.int x1)] 2 = mkF m 0 #[.val (.ref x0), .val (.int x1)] [] := by first | (simp [entryFrame, mkF, argsToLocals, Value.category]; done) | rfl
def Q11L (Z : State) (a1 : Addr) (p2 : Int32) (w_value_a1 : Addr) (G1 : Int32) (cl : Cell) (z : Int32) (x : Int32) (G3 : Value) (cv : Int32) (h0 : Heap) (n0 : Nat) (v : Option Value) (h : Heap) (L : List Loc) : Prop := v = some (.int cv) ∧ Fr n0 L ∧ h = h0
set_option maxRecDepth 65536 in
set_option maxHeartbeats 40000000 in
theorem rm11L (l : Launch) (Z : State) (a0 : Array Value) (hw : ∀ d ∈ tables_1, d.before a0 Z = true) (ws : List Jvm.Cond) (a1 : Addr) (p2 : Int32) (w_value_a1 : Addr) (G1 : Int32) (cl : Cell) (z : Int32) (x : Int32) (G3 : Value) (cv : Int32) (h0 : Heap) (n0 : Nat) (Z0 : n0 ≤ h0.size) (E_a1 : Exa Z h0 a1 "java/lang/String") (F_value_a1 : Fld Z h0 a1 "java/lang/String" "value" "[B" (.ref w_value_a1)) (ht4 : ¬ ((own_f12 G1 (0 : Int32)) = (0 : Int32))) (S_CS : Sta Z h0 "java/lang/String" "COMPACT_STRINGS" "Z" (.int G1)) (F_c : Fld Z h0 a1 "java/lang/String" "coder" "B" (.int (0 : Int32))) (Ar : Arr Z h0 w_value_a1 cl .byte) (Sz : cl.slots.size = z.toNatClampNeg) (Nz : ¬ z < 0) (O4 : Sta Z h0 "jdk/internal/util/Preconditions" "SIOOBE_FORMATTER" "Ljava/util/function/BiFunction;" G3) (rG3 : G3.isRef = true) (h1 : ¬ (p2 < 0)) (h2 : p2 < z) (hin8 : ¬ (p2 < 0 ∨ cl.slots.size ≤ (p2).toNatClampNeg)) (hat8 : cl.slots[(p2).toNatClampNeg]? = some (.int x)) (hcv : nar .char (nar .char ((x &&& (255 : Int32)).toUInt32.toUInt16.toUInt32.toInt32)) = cv) :
    MetFree l (⟨"java/lang/String", "charAt", "(I)C"⟩ : MethodName) (head1 (Jvm.Cond.code (⟨"java/lang/String", "charAt", "(I)C"⟩ : MethodName) jdk_42_method_56_code 2 (some .char) :: ws) ({ frames := 4, cells := 0, slots := 0, locals := 53 } : Room)) (fun a U => a = #[(.ref a1), (.int p2)] ∧ Z.Warmed39 U.vm ∧ U.heap = h0) (fun _ _ _ _ _ => True) (fun _ U o U' => ∃ v L, o = .returned v ∧ Q11L Z a1 p2 w_value_a1 G1 cl z x G3 cv h0 n0 v U'.heap L ∧ FrameEnd U o U' L ({ frames := 4, cells := 0, slots := 0, locals := 53 } : Room).cells ({ frames := 4, cells := 0, slots := 0, locals := 53 } : Room).slots) := by
  refine MetFree.of_bodySF (plainFor_of_name pn_11) hisR ?_
  intro p e s m args below meth c s₁ Bd hml0 hP hK
  obtain ⟨rfl, hZ, hh⟩ := hP
  have hx := Bd.exec
  have hby := Bd.bytes
  have hml : c.maxLocals = 2 := hml0
  have hown : s.vm.findClass "java/lang/String" = some m.cls := findClass_of_methodNamed Bd.named
  have hnm := (name_of_methodNamed Bd.named Bd.method).1
  have X0 : Stand p l e ({ frames := 4, cells := 0, slots := 0, locals := 53 } : Room) s m #[(.ref a1), (.int p2)] below meth c s₁ [] 0 0 := Stand.of_body Bd
  have e0 : s₁.heap = h0 := by rw [← hh, Bd.state]; rfl
  have N0 := Fr.nil n0
  have pre0 : ∀ t, Steps p.tables e below (s₁.setTop (mkF m 0 #[.val (.ref a1), .val (.int p2)] [])) t → Steps p.tables e below (s₁.setTop (entryFrame m #[(.ref a1), (.int p2)] 2)) t := fun t k => castTop (ef_11L m a1 p2) k
  obtain ⟨cq3, kq3, q3a, q3b, q3c⟩ := isOf hZ e0 E_a1
  obtain ⟨_, _, ⟨T3, L3, k3, n3⟩, -, X3, ⟨Lc3, hQ3, l3, y3, z3⟩, st3⟩ := X0.virtualBack hx (y := (⟨"java/lang/String", "isLatin1", "()Z"⟩ : MethodName)) (z := (⟨"java/lang/String", "isLatin1", "()Z"⟩ : MethodName)) hown (mvT hZ (own_w hw 58 rfl)) (mvT hZ (own_w hw 59 rfl)) (notFace_of_selects (args := #[]) (mvT hZ (own_w hw 61 rfl))) (mvT hZ (own_w hw 61 rfl)) (mvT hZ (own_w hw 60 rfl)) (by decide) (backOf (W := 0) (rm12 l Z a0 hw [] a1 G1 (0 : Int32) h0 n0 Z0 S_CS F_c) hZ (own_w hw 62 rfl) (own_w hw 5 rfl) (by decide) (by decide)) q3a q3c (g := (mkF m 1 #[.val (.ref a1), .val (.int p2)] [(.ref a1)])) rfl (by rw [hml]; rfl) (Steps.refl _) (argsL := []) (rest := []) (lenOf pd_11_11 rfl) rfl (by show 2 * 0 + _ ≤ _; exact Nat.le_of_eq rfl) (hb hby d11_1) (fun _ _ => ⟨rfl, e0, (by decide : 0 + 0 ≤ _), (by decide : 0 + 0 ≤ _)⟩)
  dsimp only [Pt.U, Pt.locs, Pt.cells, Pt.slots] at X3 l3 y3 z3 st3 hQ3
  subst l3 y3 z3
  obtain ⟨rfl, N3q, e3q⟩ := hQ3
  have N3 := Fr.app N0 N3q
  have K3q : Keep h0 T3.heap [] := own_keep e3q
  have KH3 : Keep h0 T3.heap [] := (Keep.refl h0 []).trans K3q own_ws0
  have eh3 : T3.heap = h0 := by rw [e3q]
  obtain ⟨T5, X5, e5, st5⟩ := getF X3 hx hZ hown (host := "") (Or.inl (own_w hw 22 rfl)) Via.refl rfl (F_value_a1.keep K3q (by simp)) (g := (mkF m 8 #[.val (.ref a1), .val (.int p2)] [(.ref a1)])) rfl rfl (hb hby d11_8)
  obtain ⟨_, _, ⟨T6, L6, k6, n6⟩, -, X6, ⟨Lc6, hQ6, l6, y6, z6⟩, st6⟩ := Jvm.LawKit.callS X5 hx (y := (⟨"java/lang/StringLatin1", "charAt", "([BI)C"⟩ : MethodName)) hown (mvT hZ (own_w hw 63 rfl)) (mvT hZ (own_w hw 64 rfl)) (mvT hZ (own_w hw 65 rfl)) (mvT hZ (own_w hw 66 rfl)) (by decide) (backOf (W := 0) (rm13 l Z a0 hw [] w_value_a1 p2 cl z x G3 T3.heap n0 (Nat.le_trans Z0 KH3.1) (by rw [e3q]; exact Ar) Sz Nz hin8 hat8 (by rw [e3q]; exact O4) rG3 h1 h2) hZ (own_w hw 66 rfl) (own_w hw 65 rfl) (by decide) (by decide)) (g := (mkF m 12 #[.val (.ref a1), .val (.int p2)] [(.int p2), (.ref w_value_a1)])) rfl (by rw [hml]; rfl) (argsL := [(.ref w_value_a1), (.int p2)]) (rest := []) (lenOf pd_11_12 rfl) rfl (by show 2 * 0 + _ ≤ _; exact Nat.le_of_eq rfl) (hb hby d11_12) (fun _ _ => ⟨rfl, e5, (by decide : 0 + 0 ≤ _), (by decide : 0 + 0 ≤ _)⟩)
  dsimp only [Pt.U, Pt.locs, Pt.cells, Pt.slots] at X6 l6 y6 z6 st6 hQ6
  subst l6 y6 z6
  obtain ⟨rfl, N6q, e6q⟩ := hQ6
  have N6 := Fr.app N3 N6q
  have K6q : Keep T3.heap T6.heap [] := own_keep e6q
  have KH6 : Keep h0 T6.heap [] := KH3.trans K6q own_ws0
  have eh6 : T6.heap = h0 := by rw [e6q]; exact eh3
  obtain ⟨fs, hr, hrun, hended, hW, hsame⟩ := X6.leave (v := some (.int (nar .char (nar .char ((x &&& (255 : Int32)).toUInt32.toUInt16.toUInt32.toInt32))))) (fun h => by rw [Bd.returns] at h; cases h) (BodyLoose.notSynchronized Bd)
  refine ⟨_, _, pre0 _ ?_, hrun, hended, _, _, rfl, ?_, ⟨_, rfl⟩, hW, hsame.mono (by decide) (by decide)⟩
  · show Steps p.tables e below (s₁.setTop (mkF m 0 #[.val (.ref a1), .val (.int p2)] [])) _
    refine XS.aloadN X0.here hx rfl (hb hby d11_0) rfl rfl ?_
    show Steps p.tables e below (s₁.setTop (mkF m 1 #[.val (.ref a1), .val (.int p2)] [(.ref a1)])) _
    refine st3.trans ?_
    show Steps p.tables e below (T3.setTop (mkF m 4 #[.val (.ref a1), .val (.int p2)] [(.int (own_f12 G1 (0 : Int32)))])) _
    refine XS.ifNo X3.here hx rfl (hb hby d11_4) rfl ((if0 _ _).trans (feq ht4).1) ?_
    refine XS.aloadN X3.here hx rfl (hb hby d11_7) rfl rfl ?_
    show Steps p.tables e below (T3.setTop (mkF m 8 #[.val (.ref a1), .val (.int p2)] [(.ref a1)])) _
    refine st5 _ ?_
    show Steps p.tables e below (T5.setTop (mkF m 11 #[.val (.ref a1), .val (.int p2)] [(.ref w_value_a1)])) _
    refine XS.iloadN X5.here hx rfl (hb hby d11_11) rfl ?_
    show Steps p.tables e below (T5.setTop (mkF m 12 #[.val (.ref a1), .val (.int p2)] [(.int p2), (.ref w_value_a1)])) _
    refine st6 _ ?_
    show Steps p.tables e below (T6.setTop (mkF m 15 #[.val (.ref a1), .val (.int p2)] [(.int (nar .char ((x &&& (255 : Int32)).toUInt32.toUInt16.toUInt32.toInt32)))])) _
    exact retN X6 hx (t := .char) Bd.returns (by simp) (hb hby d11_15) hr
  · show Q11L Z a1 p2 w_value_a1 G1 cl z x G3 cv h0 n0 _ T6.heap _
    exact ⟨(by rw [hcv]), N6, eh6⟩
theorem d5_0 : decode jdk_42_method_54_code 0 = .ok (.aload_n 0, 1) := by decide +kernel
theorem d5_1 : decode jdk_42_method_54_code 1 = .ok (.getfield 9, 3) := by decide +kernel
theorem d5_4 : decode jdk_42_method_54_code 4 = .ok (.arraylength, 1) := by decide +kernel
theorem d5_5 : decode jdk_42_method_54_code 5 = .ok (.aload_n 0, 1) := by decide +kernel
theorem d5_6 : decode jdk_42_method_54_code 6 = .ok (.invokevirtual 335, 3) := by decide +kernel
theorem d5_9 : decode jdk_42_method_54_code 9 = .ok (.ishr, 1) := by decide +kernel
theorem d5_10 : decode jdk_42_method_54_code 10 = .ok (.ireturn, 1) := by decide +kernel
theorem pn_5 : plainName "java/lang/String" = true := by first | (simp [plainName, overriddenIn]; done) | decide +kernel
theorem pd_5_5 : parseMethodDescriptor "()B" = some ⟨[], some .byte⟩ := by decide +kernel
theorem ef_5 (m : MethodId) (x0 : Addr) : entryFrame m #[(.ref x0)] 1 = mkF m 0 #[.val (.ref x0)] [] := by first | (simp [entryFrame, mkF, argsToLocals, Value.category]; done) | rfl
def Q5 (Z : State) (a1 : Addr) (w_value_a1 : Addr) (cl_w2 : Cell) (z_w2 : Int32) (G1 : Int32) (k : Int32) (h0 : Heap) (n0 : Nat) (v : Option Value) (h : Heap) (L : List Loc) : Prop := v = some (.int (z_w2 >>> ((own_f6 G1 k) &&& 31))) ∧ Fr n0 L ∧ h = h0
set_option maxRecDepth 65536 in
set_option maxHeartbeats 40000000 in
theorem rm5 (l : Launch) (Z : State) (a0 : Array Value) (hw : ∀ d ∈ tables_1, d.before a0 Z = true) (ws : List Jvm.Cond) (a1 : Addr) (w_value_a1 : Addr) (cl_w2 : Cell) (z_w2 : Int32) (G1 : Int32) (k : Int32) (h0 : Heap) (n0 : Nat) (Z0 : n0 ≤ h0.size) (F_value_a1 : Fld Z h0 a1 "java/lang/String" "value" "[B" (.ref w_value_a1)) (Ar_w2 : Arr Z h0 w_value_a1 cl_w2 .byte) (S_w2 : cl_w2.slots.size = z_w2.toNatClampNeg) (N_w2 : ¬ z_w2 < 0) (E_a1 : Exa Z h0 a1 "java/lang/String") (S_CS : Sta Z h0 "java/lang/String" "COMPACT_STRINGS" "Z" (.int G1)) (F_c : Fld Z h0 a1 "java/lang/String" "coder" "B" (.int k)) :
    MetFree l (⟨"java/lang/String", "length", "()I"⟩ : MethodName) (head1 (Jvm.Cond.code (⟨"java/lang/String", "length", "()I"⟩ : MethodName) jdk_42_method_54_code 1 (some .int) :: ws) ({ frames := 1, cells := 0, slots := 0, locals := 13 } : Room)) (fun a U => a = #[(.ref a1)] ∧ Z.Warmed39 U.vm ∧ U.heap = h0) (fun _ _ _ _ _ => True) (fun _ U o U' => ∃ v L, o = .returned v ∧ Q5 Z a1 w_value_a1 cl_w2 z_w2 G1 k h0 n0 v U'.heap L ∧ FrameEnd U o U' L ({ frames := 1, cells := 0, slots := 0, locals := 13 } : Room).cells ({ frames := 1, cells := 0, slots := 0, locals := 13 } : Room).slots) := by
  refine MetFree.of_bodySF (plainFor_of_name pn_5) hisR ?_
  intro p e s m args below meth c s₁ Bd hml0 hP hK
  obtain ⟨rfl, hZ, hh⟩ := hP
  have hx := Bd.exec
  have hby := Bd.bytes
  have hml : c.maxLocals = 1 := hml0
  have hown : s.vm.findClass "java/lang/String" = some m.cls := findClass_of_methodNamed Bd.named
  have hnm := (name_of_methodNamed Bd.named Bd.method).1
  have X0 : Stand p l e ({ frames := 1, cells := 0, slots := 0, locals := 13 } : Room) s m #[(.ref a1)] below meth c s₁ [] 0 0 := Stand.of_body Bd
  have e0 : s₁.heap = h0 := by rw [← hh, Bd.state]; rfl
  have N0 := Fr.nil n0
  have pre0 : ∀ t, Steps p.tables e below (s₁.setTop (mkF m 0 #[.val (.ref a1)] [])) t → Steps p.tables e below (s₁.setTop (entryFrame m #[(.ref a1)] 1)) t := fun t k => castTop (ef_5 m a1) k
  obtain ⟨T3, X3, e3, st3⟩ := getF X0 hx hZ hown (host := "") (Or.inl (own_w hw 22 rfl)) Via.refl e0 F_value_a1 (g := (mkF m 1 #[.val (.ref a1)] [(.ref a1)])) rfl rfl (hb hby d5_1)
  obtain ⟨cq4, kq4, q4a, q4b, q4c⟩ := isOf hZ e3 E_a1
  obtain ⟨_, _, ⟨T4, L4, k4, n4⟩, -, X4, ⟨Lc4, hQ4, l4, y4, z4⟩, st4⟩ := X3.virtualBack hx (y := (⟨"java/lang/String", "coder", "()B"⟩ : MethodName)) (z := (⟨"java/lang/String", "coder", "()B"⟩ : MethodName)) hown (mvT hZ (own_w hw 33 rfl)) (mvT hZ (own_w hw 34 rfl)) (notFace_of_selects (args := #[]) (mvT hZ (own_w hw 36 rfl))) (mvT hZ (own_w hw 36 rfl)) (mvT hZ (own_w hw 35 rfl)) (by decide) (backOf (W := 1) (rm6 l Z a0 hw [] a1 G1 k h0 n0 Z0 S_CS F_c) hZ (own_w hw 37 rfl) (own_w hw 5 rfl) (by decide) (by decide)) q4a q4c (g := (mkF m 6 #[.val (.ref a1)] [(.ref a1), (.int z_w2)])) rfl (by rw [hml]; rfl) (Steps.refl _) (argsL := []) (rest := [(.int z_w2)]) (lenOf pd_5_5 rfl) rfl (by show 2 * 0 + _ ≤ _; exact Nat.le_of_eq rfl) (hb hby d5_6) (fun _ _ => ⟨rfl, e3, (by decide : 0 + 0 ≤ _), (by decide : 0 + 0 ≤ _)⟩)
  dsimp only [Pt.U, Pt.locs, Pt.cells, Pt.slots] at X4 l4 y4 z4 st4 hQ4
  subst l4 y4 z4
  obtain ⟨rfl, N4q, e4q⟩ := hQ4
  have N4 := Fr.app N0 N4q
  have K4q : Keep h0 T4.heap [] := own_keep e4q
  have KH4 : Keep h0 T4.heap [] := (Keep.refl h0 []).trans K4q own_ws0
  have eh4 : T4.heap = h0 := by rw [e4q]
  obtain ⟨fs, hr, hrun, hended, hW, hsame⟩ := X4.leave (v := some (.int (z_w2 >>> ((own_f6 G1 k) &&& 31)))) (fun h => by rw [Bd.returns] at h; cases h) (BodyLoose.notSynchronized Bd)
  refine ⟨_, _, pre0 _ ?_, hrun, hended, _, _, rfl, ?_, ⟨_, rfl⟩, hW, hsame.mono (by decide) (by decide)⟩
  · show Steps p.tables e below (s₁.setTop (mkF m 0 #[.val (.ref a1)] [])) _
    refine XS.aloadN X0.here hx rfl (hb hby d5_0) rfl rfl ?_
    show Steps p.tables e below (s₁.setTop (mkF m 1 #[.val (.ref a1)] [(.ref a1)])) _
    refine st3 _ ?_
    show Steps p.tables e below (T3.setTop (mkF m 4 #[.val (.ref a1)] [(.ref w_value_a1)])) _
    refine X3.arraylength hx (by rw [e3]; exact Ar_w2.1) (State.isArrayOf_alike hZ.alike Ar_w2.2.1) (g := (mkF m 4 #[.val (.ref a1)] [(.ref w_value_a1)])) rfl rfl (hb hby d5_4) _ ?_
    rw [len_of S_w2 N_w2]
    show Steps p.tables e below (T3.setTop (mkF m 5 #[.val (.ref a1)] [(.int z_w2)])) _
    refine XS.aloadN X3.here hx rfl (hb hby d5_5) rfl rfl ?_
    show Steps p.tables e below (T3.setTop (mkF m 6 #[.val (.ref a1)] [(.ref a1), (.int z_w2)])) _
    refine st4.trans ?_
    show Steps p.tables e below (T4.setTop (mkF m 9 #[.val (.ref a1)] [(.int (own_f6 G1 k)), (.int z_w2)])) _
    refine XS.ishr X4.here hx rfl (hb hby d5_9) rfl ?_
    show Steps p.tables e below (T4.setTop (mkF m 10 #[.val (.ref a1)] [(.int (z_w2 >>> ((own_f6 G1 k) &&& 31)))])) _
    exact retI X4 hx Bd.returns (hb hby d5_10) hr
  · show Q5 Z a1 w_value_a1 cl_w2 z_w2 G1 k h0 n0 _ T4.heap _
    exact ⟨rfl, N4, eh4⟩
def own_lo (c : Int32) : Int32 := nar .byte ((c >>> ((0 : Int32) &&& 31)).toInt8.toInt32)
def own_hi (c : Int32) : Int32 := nar .byte ((c >>> ((8 : Int32) &&& 31)).toInt8.toInt32)
theorem own_c16 (x : Int32) : (x.toUInt32.toUInt16.toUInt32.toInt32).toBitVec = (x.toBitVec.setWidth 16).setWidth 32 := rfl
theorem own_b8 (x : Int32) : (x.toInt8.toInt32).toBitVec = (x.toBitVec.signExtend 8).signExtend 32 := by
  rfl
theorem own_s0 (x : Int32) : (x >>> ((0 : Int32) &&& 31)).toBitVec = x.toBitVec := by
  have : x >>> ((0 : Int32) &&& 31) = x := by
    apply Int32.toBitVec_inj.mp
    rw [Int32.toBitVec_shiftRight, show (((0 : Int32) &&& 31).toBitVec.smod 32) = 0#32 from by decide]
    simp
  rw [this]
theorem own_s8 (x : Int32) : (x >>> ((8 : Int32) &&& 31)).toBitVec = x.toBitVec.sshiftRight 8 := by
  rw [Int32.toBitVec_shiftRight, show (((8 : Int32) &&& 31).toBitVec.smod 32) = 8#32 from by decide]
  rfl
theorem own_l0 (x : Int32) : (x <<< ((0 : Int32) &&& 31)).toBitVec = x.toBitVec := by
  rw [Int32.toBitVec_shiftLeft, show (((0 : Int32) &&& 31).toBitVec.smod 32) = 0#32 from by decide]
  simp
theorem own_l8 (x : Int32) : (x <<< ((8 : Int32) &&& 31)).toBitVec = x.toBitVec <<< 8 := by
  rw [Int32.toBitVec_shiftLeft, show (((8 : Int32) &&& 31).toBitVec.smod 32) = 8#32 from by decide]
  rfl
theorem own_f255 (i : Nat) : (255#32).getLsbD i = decide (i < 8) := by
  by_cases h : i < 32
  · have t : ∀ i : Fin 32, (255#32).getLsbD i.val = decide (i.val < 8) := by decide
    exact t ⟨i, h⟩
  · rw [BitVec.getLsbD_of_ge _ _ (by omega)]; simp; omega
theorem own_spell (c : Int32) (h : c.toBitVec.toNat < 65536) : nar .char (nar .char (own_gc (own_lo c) (own_hi c))) = c := by
  apply Int32.toBitVec_inj.mp
  show ((((((own_gc (own_lo c) (own_hi c)).toUInt32.toUInt16.toUInt32.toInt32).toUInt32.toUInt16.toUInt32.toInt32)).toBitVec)) = _
  unfold own_gc own_lo own_hi
  simp only [nar]
  simp only [own_c16, Int32.toBitVec_or, own_l0, own_l8, Int32.toBitVec_and, own_b8, own_s0, own_s8]
  generalize c.toBitVec = b at h
  apply BitVec.eq_of_getLsbD_eq
  intro i hi
  have hb : 16 ≤ i → b.getLsbD i = false := fun q => by
    rw [← BitVec.testBit_toNat]
    exact Nat.testBit_lt_two_pow (Nat.lt_of_lt_of_le h (by
      have : 2 ^ 16 ≤ 2 ^ i := Nat.pow_le_pow_right (by decide) q
      omega))
  have e255 : Int32.toBitVec 255 = 255#32 := rfl
  simp only [BitVec.getLsbD_setWidth, BitVec.getLsbD_or, BitVec.getLsbD_and, BitVec.getLsbD_shiftLeft, BitVec.getLsbD_signExtend, BitVec.getLsbD_sshiftRight, e255, own_f255]
  by_cases h8 : i < 8
  · have q1 : i < 16 := by omega
    simp [h8, q1, hi]
  · by_cases h16 : i < 16
    · have q2 : i - 8 < 8 := by omega
      have q3 : 8 + (i - 8) = i := by omega
      have q4 : i - 8 < 32 := by omega
      have q5 : ¬ 32 ≤ i - 8 := by omega
      simp [h8, h16, hi, q2, q3, q4, q5]
    · rw [hb (by omega)]
      simp [h16]
theorem own_cvU (c : Int32) (h : ¬ c < 0 ∧ ¬ (65535 : Int32) < c) : nar .char (nar .char (own_gc (own_lo c) (own_hi c))) = c := by
  apply own_spell
  obtain ⟨h1, h2⟩ := h
  rw [Int32.lt_iff_toInt_lt] at h1 h2
  have e0 : (0 : Int32).toInt = 0 := by decide
  have e1 : (65535 : Int32).toInt = 65535 := by decide
  have e2 : c.toInt = c.toBitVec.toInt := rfl
  rw [BitVec.toInt_eq_toNat_cond] at e2
  have hl := c.toBitVec.isLt
  split at e2 <;> omega
theorem own_cvL (c : Int32) (h : ¬ c < 0 ∧ ¬ (255 : Int32) < c) : nar .char (nar .char (((c.toInt8.toInt32) &&& (255 : Int32)).toUInt32.toUInt16.toUInt32.toInt32)) = c := by
  have t : ∀ k : Fin 256, nar .char (nar .char ((((Int32.ofNat k.val).toInt8.toInt32) &&& (255 : Int32)).toUInt32.toUInt16.toUInt32.toInt32)) = Int32.ofNat k.val := by decide +kernel
  obtain ⟨h1, h2⟩ := h
  rw [Int32.lt_iff_toInt_lt] at h1 h2
  have e0 : (0 : Int32).toInt = 0 := by decide
  have e1 : (255 : Int32).toInt = 255 := by decide
  have e2 : c = Int32.ofNat c.toInt.toNat := by
    apply Int32.toInt_inj.mp
    rw [Int32.toInt_ofNat_small (by omega)]; omega
  rw [e2]; exact t ⟨c.toInt.toNat, by omega⟩
def own_SL (Z : State) (h : Heap) (s : Addr) (n : Int32) : Prop := Exa Z h s "java/lang/String" ∧ ∃ (t : Addr) (cl : Cell) (k z : Int32), Fld Z h s "java/lang/String" "value" "[B" (.ref t) ∧ Fld Z h s "java/lang/String" "coder" "B" (.int k) ∧ Arr Z h t cl .byte ∧ cl.slots.size = z.toNatClampNeg ∧ ¬ z < 0 ∧ z >>> ((nar .byte k) &&& 31) = n
def own_S3 (Z : State) (h : Heap) (s : Addr) (c0 c1 c2 : Int32) : Prop := Exa Z h s "java/lang/String" ∧ ∃ (t : Addr) (kb : ClassId) (d : Value), Fld Z h s "java/lang/String" "value" "[B" (.ref t) ∧ ((Fld Z h s "java/lang/String" "coder" "B" (.int (0 : Int32)) ∧ Arv Z h t kb .byte (3 : Int32) [Value.int (c0.toInt8.toInt32), Value.int (c1.toInt8.toInt32), Value.int (c2.toInt8.toInt32)] d ∧ (∀ c ∈ [c0, c1, c2], ¬ c < 0 ∧ ¬ (255 : Int32) < c)) ∨ (Fld Z h s "java/lang/String" "coder" "B" (.int (1 : Int32)) ∧ Arv Z h t kb .byte (6 : Int32) [Value.int (own_lo c0), Value.int (own_hi c0), Value.int (own_lo c1), Value.int (own_hi c1), Value.int (own_lo c2), Value.int (own_hi c2)] d ∧ (∀ c ∈ [c0, c1, c2], ¬ c < 0 ∧ ¬ (65535 : Int32) < c)))
theorem own_S3_SL {Z : State} {h : Heap} {s : Addr} {c0 c1 c2 : Int32} (H : own_S3 Z h s c0 c1 c2) : own_SL Z h s 3 := by
  obtain ⟨E, t, kb, d, V, ⟨C, A, -⟩ | ⟨C, A, -⟩⟩ := H
  · obtain ⟨cl, Ar, q, S, N, Hh, G⟩ := A
    exact ⟨E, t, cl, 0, 3, V, C, Ar, S, N, by decide⟩
  · obtain ⟨cl, Ar, q, S, N, Hh, G⟩ := A
    exact ⟨E, t, cl, 1, 6, V, C, Ar, S, N, by decide⟩
theorem own_f12L {G : Int32} (h : ¬ (G = 0)) : ¬ (own_f12 G 0 = 0) := by unfold own_f12; rw [if_neg h]; decide
theorem own_f12U (G : Int32) : own_f12 G 1 = 0 := by unfold own_f12; split <;> rfl
def Q11 (Z : State) (cv : Int32) (h0 : Heap) (n0 : Nat) (v : Option Value) (h : Heap) (L : List Loc) : Prop := v = some (.int cv) ∧ Fr n0 L ∧ h = h0
set_option maxRecDepth 65536 in
set_option maxHeartbeats 40000000 in
theorem rm11_0 (l : Launch) (Z : State) (a0 : Array Value) (hw : ∀ d ∈ tables_1, d.before a0 Z = true) (ws : List Jvm.Cond) (a1 : Addr) (c0 : Int32) (c1 : Int32) (c2 : Int32) (G1 : Int32) (G3 : Value) (h0 : Heap) (n0 : Nat) (Z0 : n0 ≤ h0.size) (H3 : own_S3 Z h0 a1 c0 c1 c2) (S_CS : Sta Z h0 "java/lang/String" "COMPACT_STRINGS" "Z" (.int G1)) (P5 : ¬ (G1 = (0 : Int32))) (O4 : Sta Z h0 "jdk/internal/util/Preconditions" "SIOOBE_FORMATTER" "Ljava/util/function/BiFunction;" G3) (rG3 : G3.isRef = true) (S__assertionsDisabled : Sta Z h0 "java/lang/StringUTF16" "$assertionsDisabled" "Z" (.int (1 : Int32))) (S_HI_BYTE_SHIFT : Sta Z h0 "java/lang/StringUTF16" "HI_BYTE_SHIFT" "I" (.int (0 : Int32))) (S_LO_BYTE_SHIFT : Sta Z h0 "java/lang/StringUTF16" "LO_BYTE_SHIFT" "I" (.int (8 : Int32))) :
    MetFree l (⟨"java/lang/String", "charAt", "(I)C"⟩ : MethodName) (head1 (Jvm.Cond.code (⟨"java/lang/String", "charAt", "(I)C"⟩ : MethodName) jdk_42_method_56_code 2 (some .char) :: ws) ({ frames := 4, cells := 0, slots := 0, locals := 53 } : Room)) (fun a U => a = #[(.ref a1), (.int (0 : Int32))] ∧ Z.Warmed39 U.vm ∧ U.heap = h0) (fun _ _ _ _ _ => True) (fun _ U o U' => ∃ v L, o = .returned v ∧ Q11 Z c0 h0 n0 v U'.heap L ∧ FrameEnd U o U' L ({ frames := 4, cells := 0, slots := 0, locals := 53 } : Room).cells ({ frames := 4, cells := 0, slots := 0, locals := 53 } : Room).slots) := by
  obtain ⟨E, t, kb, d, V, ⟨C, A, B⟩ | ⟨C, A, B⟩⟩ := H3
  · obtain ⟨cl, Ar, q, S, N, Hh, G⟩ := A
    exact rm11L l Z a0 hw ws a1 (0 : Int32) t G1 cl (3 : Int32) (c0.toInt8.toInt32) G3 c0 h0 n0 Z0 E V (own_f12L P5) S_CS C Ar S N O4 rG3 (by decide) (by decide) (inb_of S ⟨by decide, by decide⟩) (Hh 0 (by rw [S]; decide)) (own_cvL _ (B _ (by simp)))
  · obtain ⟨cl, Ar, q, S, N, Hh, G⟩ := A
    exact rm11U l Z a0 hw ws a1 (0 : Int32) t G1 cl (6 : Int32) (own_lo c0) (own_hi c0) G3 c0 h0 n0 Z0 E V (own_f12U _) S_CS C Ar S N O4 rG3 S__assertionsDisabled S_HI_BYTE_SHIFT S_LO_BYTE_SHIFT (by decide) (by decide) (inb_of S ⟨by decide, by decide⟩) (Hh 0 (by rw [S]; decide)) (inb_of S ⟨by decide, by decide⟩) (Hh 1 (by rw [S]; decide)) (own_cvU _ (B _ (by simp)))
set_option maxRecDepth 65536 in
set_option maxHeartbeats 40000000 in
theorem rm11_1 (l : Launch) (Z : State) (a0 : Array Value) (hw : ∀ d ∈ tables_1, d.before a0 Z = true) (ws : List Jvm.Cond) (a1 : Addr) (c0 : Int32) (c1 : Int32) (c2 : Int32) (G1 : Int32) (G3 : Value) (h0 : Heap) (n0 : Nat) (Z0 : n0 ≤ h0.size) (H3 : own_S3 Z h0 a1 c0 c1 c2) (S_CS : Sta Z h0 "java/lang/String" "COMPACT_STRINGS" "Z" (.int G1)) (P5 : ¬ (G1 = (0 : Int32))) (O4 : Sta Z h0 "jdk/internal/util/Preconditions" "SIOOBE_FORMATTER" "Ljava/util/function/BiFunction;" G3) (rG3 : G3.isRef = true) (S__assertionsDisabled : Sta Z h0 "java/lang/StringUTF16" "$assertionsDisabled" "Z" (.int (1 : Int32))) (S_HI_BYTE_SHIFT : Sta Z h0 "java/lang/StringUTF16" "HI_BYTE_SHIFT" "I" (.int (0 : Int32))) (S_LO_BYTE_SHIFT : Sta Z h0 "java/lang/StringUTF16" "LO_BYTE_SHIFT" "I" (.int (8 : Int32))) :
    MetFree l (⟨"java/lang/String", "charAt", "(I)C"⟩ : MethodName) (head1 (Jvm.Cond.code (⟨"java/lang/String", "charAt", "(I)C"⟩ : MethodName) jdk_42_method_56_code 2 (some .char) :: ws) ({ frames := 4, cells := 0, slots := 0, locals := 53 } : Room)) (fun a U => a = #[(.ref a1), (.int (1 : Int32))] ∧ Z.Warmed39 U.vm ∧ U.heap = h0) (fun _ _ _ _ _ => True) (fun _ U o U' => ∃ v L, o = .returned v ∧ Q11 Z c1 h0 n0 v U'.heap L ∧ FrameEnd U o U' L ({ frames := 4, cells := 0, slots := 0, locals := 53 } : Room).cells ({ frames := 4, cells := 0, slots := 0, locals := 53 } : Room).slots) := by
  obtain ⟨E, t, kb, d, V, ⟨C, A, B⟩ | ⟨C, A, B⟩⟩ := H3
  · obtain ⟨cl, Ar, q, S, N, Hh, G⟩ := A
    exact rm11L l Z a0 hw ws a1 (1 : Int32) t G1 cl (3 : Int32) (c1.toInt8.toInt32) G3 c1 h0 n0 Z0 E V (own_f12L P5) S_CS C Ar S N O4 rG3 (by decide) (by decide) (inb_of S ⟨by decide, by decide⟩) (Hh 1 (by rw [S]; decide)) (own_cvL _ (B _ (by simp)))
  · obtain ⟨cl, Ar, q, S, N, Hh, G⟩ := A
    exact rm11U l Z a0 hw ws a1 (1 : Int32) t G1 cl (6 : Int32) (own_lo c1) (own_hi c1) G3 c1 h0 n0 Z0 E V (own_f12U _) S_CS C Ar S N O4 rG3 S__assertionsDisabled S_HI_BYTE_SHIFT S_LO_BYTE_SHIFT (by decide) (by decide) (inb_of S ⟨by decide, by decide⟩) (Hh 2 (by rw [S]; decide)) (inb_of S ⟨by decide, by decide⟩) (Hh 3 (by rw [S]; decide)) (own_cvU _ (B _ (by simp)))
set_option maxRecDepth 65536 in
set_option maxHeartbeats 40000000 in
theorem rm11_2 (l : Launch) (Z : State) (a0 : Array Value) (hw : ∀ d ∈ tables_1, d.before a0 Z = true) (ws : List Jvm.Cond) (a1 : Addr) (c0 : Int32) (c1 : Int32) (c2 : Int32) (G1 : Int32) (G3 : Value) (h0 : Heap) (n0 : Nat) (Z0 : n0 ≤ h0.size) (H3 : own_S3 Z h0 a1 c0 c1 c2) (S_CS : Sta Z h0 "java/lang/String" "COMPACT_STRINGS" "Z" (.int G1)) (P5 : ¬ (G1 = (0 : Int32))) (O4 : Sta Z h0 "jdk/internal/util/Preconditions" "SIOOBE_FORMATTER" "Ljava/util/function/BiFunction;" G3) (rG3 : G3.isRef = true) (S__assertionsDisabled : Sta Z h0 "java/lang/StringUTF16" "$assertionsDisabled" "Z" (.int (1 : Int32))) (S_HI_BYTE_SHIFT : Sta Z h0 "java/lang/StringUTF16" "HI_BYTE_SHIFT" "I" (.int (0 : Int32))) (S_LO_BYTE_SHIFT : Sta Z h0 "java/lang/StringUTF16" "LO_BYTE_SHIFT" "I" (.int (8 : Int32))) :
    MetFree l (⟨"java/lang/String", "charAt", "(I)C"⟩ : MethodName) (head1 (Jvm.Cond.code (⟨"java/lang/String", "charAt", "(I)C"⟩ : MethodName) jdk_42_method_56_code 2 (some .char) :: ws) ({ frames := 4, cells := 0, slots := 0, locals := 53 } : Room)) (fun a U => a = #[(.ref a1), (.int (2 : Int32))] ∧ Z.Warmed39 U.vm ∧ U.heap = h0) (fun _ _ _ _ _ => True) (fun _ U o U' => ∃ v L, o = .returned v ∧ Q11 Z c2 h0 n0 v U'.heap L ∧ FrameEnd U o U' L ({ frames := 4, cells := 0, slots := 0, locals := 53 } : Room).cells ({ frames := 4, cells := 0, slots := 0, locals := 53 } : Room).slots) := by
  obtain ⟨E, t, kb, d, V, ⟨C, A, B⟩ | ⟨C, A, B⟩⟩ := H3
  · obtain ⟨cl, Ar, q, S, N, Hh, G⟩ := A
    exact rm11L l Z a0 hw ws a1 (2 : Int32) t G1 cl (3 : Int32) (c2.toInt8.toInt32) G3 c2 h0 n0 Z0 E V (own_f12L P5) S_CS C Ar S N O4 rG3 (by decide) (by decide) (inb_of S ⟨by decide, by decide⟩) (Hh 2 (by rw [S]; decide)) (own_cvL _ (B _ (by simp)))
  · obtain ⟨cl, Ar, q, S, N, Hh, G⟩ := A
    exact rm11U l Z a0 hw ws a1 (2 : Int32) t G1 cl (6 : Int32) (own_lo c2) (own_hi c2) G3 c2 h0 n0 Z0 E V (own_f12U _) S_CS C Ar S N O4 rG3 S__assertionsDisabled S_HI_BYTE_SHIFT S_LO_BYTE_SHIFT (by decide) (by decide) (inb_of S ⟨by decide, by decide⟩) (Hh 4 (by rw [S]; decide)) (inb_of S ⟨by decide, by decide⟩) (Hh 5 (by rw [S]; decide)) (own_cvU _ (B _ (by simp)))
def Q5n (Z : State) (nn : Int32) (h0 : Heap) (n0 : Nat) (v : Option Value) (h : Heap) (L : List Loc) : Prop := v = some (.int nn) ∧ Fr n0 L ∧ h = h0
set_option maxRecDepth 65536 in
set_option maxHeartbeats 40000000 in
theorem rm5n (l : Launch) (Z : State) (a0 : Array Value) (hw : ∀ d ∈ tables_1, d.before a0 Z = true) (ws : List Jvm.Cond) (a1 : Addr) (nn : Int32) (G1 : Int32) (h0 : Heap) (n0 : Nat) (Z0 : n0 ≤ h0.size) (HL : own_SL Z h0 a1 nn) (S_CS : Sta Z h0 "java/lang/String" "COMPACT_STRINGS" "Z" (.int G1)) (P5 : ¬ (G1 = (0 : Int32))) :
    MetFree l (⟨"java/lang/String", "length", "()I"⟩ : MethodName) (head1 (Jvm.Cond.code (⟨"java/lang/String", "length", "()I"⟩ : MethodName) jdk_42_method_54_code 1 (some .int) :: ws) ({ frames := 1, cells := 0, slots := 0, locals := 13 } : Room)) (fun a U => a = #[(.ref a1)] ∧ Z.Warmed39 U.vm ∧ U.heap = h0) (fun _ _ _ _ _ => True) (fun _ U o U' => ∃ v L, o = .returned v ∧ Q5n Z nn h0 n0 v U'.heap L ∧ FrameEnd U o U' L ({ frames := 1, cells := 0, slots := 0, locals := 13 } : Room).cells ({ frames := 1, cells := 0, slots := 0, locals := 13 } : Room).slots) := by
  obtain ⟨E, t, cl, k, z, V, C, Ar, S, N, hn⟩ := HL
  have e : own_f6 G1 k = nar .byte k := by unfold own_f6; rw [if_neg P5]
  have q := rm5 l Z a0 hw ws a1 t cl z G1 k h0 n0 Z0 V Ar S N E S_CS C
  unfold Q5 at q
  rw [e, hn] at q
  exact q
def Q4 (Z : State) (r : Int32) (h0 : Heap) (n0 : Nat) (v : Option Value) (h : Heap) (L : List Loc) : Prop := v = some (.int r) ∧ Fr n0 L ∧ h = h0
theorem d4_0 : decode prog_21_method_3_code 0 = .ok (.aload_n 0, 1) := by decide +kernel
theorem d4_1 : decode prog_21_method_3_code 1 = .ok (.invokevirtual 7, 3) := by decide +kernel
theorem d4_4 : decode prog_21_method_3_code 4 = .ok (.iconst 3, 1) := by decide +kernel
theorem d4_5 : decode prog_21_method_3_code 5 = .ok (.if_icmp .ne 40, 3) := by decide +kernel
theorem d4_45 : decode prog_21_method_3_code 45 = .ok (.iconst 0, 1) := by decide +kernel
theorem d4_46 : decode prog_21_method_3_code 46 = .ok (.ireturn, 1) := by decide +kernel
theorem pn_4 : plainName "com/example/marcwerk/marcwerk/marc/MarcText" = true := by first | (simp [plainName, overriddenIn]; done) | decide +kernel
theorem pd_4_4 : parseMethodDescriptor "()I" = some ⟨[], some .int⟩ := by decide +kernel
theorem ef_4 (m : MethodId) (x0 : Addr) : entryFrame m #[(.ref x0)] 1 = mkF m 0 #[.val (.ref x0)] [] := by first | (simp [entryFrame, mkF, argsToLocals, Value.category]; done) | rfl
set_option maxRecDepth 65536 in
set_option maxHeartbeats 40000000 in
theorem rm4_ne (l : Launch) (Z : State) (a0 : Array Value) (hw : ∀ d ∈ tables_1, d.before a0 Z = true) (ws : List Jvm.Cond) (a1 : Addr) (nn : Int32) (G1 : Int32) (h0 : Heap) (n0 : Nat) (Z0 : n0 ≤ h0.size) (HL : own_SL Z h0 a1 nn) (S_CS : Sta Z h0 "java/lang/String" "COMPACT_STRINGS" "Z" (.int G1)) (P5 : ¬ (G1 = (0 : Int32))) (ht5 : ¬ (nn = (3 : Int32))) :
    MetFree l (⟨"com/example/marcwerk/marcwerk/marc/MarcText", "isTag", "(Ljava/lang/String;)Z"⟩ : MethodName) (head1 (Jvm.Cond.code (⟨"com/example/marcwerk/marcwerk/marc/MarcText", "isTag", "(Ljava/lang/String;)Z"⟩ : MethodName) prog_21_method_3_code 1 (some .boolean) :: ws) ({ frames := 5, cells := 0, slots := 0, locals := 66 } : Room)) (fun a U => a = #[(.ref a1)] ∧ Z.Warmed39 U.vm ∧ U.heap = h0) (fun _ _ _ _ _ => True) (fun _ U o U' => ∃ v L, o = .returned v ∧ Q4 Z (0 : Int32) h0 n0 v U'.heap L ∧ FrameEnd U o U' L ({ frames := 5, cells := 0, slots := 0, locals := 66 } : Room).cells ({ frames := 5, cells := 0, slots := 0, locals := 66 } : Room).slots) := by
  refine MetFree.of_bodySF (plainFor_of_name pn_4) hisR ?_
  intro p e s m args below meth c s₁ Bd hml0 hP hK
  obtain ⟨rfl, hZ, hh⟩ := hP
  have hx := Bd.exec
  have hby := Bd.bytes
  have hml : c.maxLocals = 1 := hml0
  have hown : s.vm.findClass "com/example/marcwerk/marcwerk/marc/MarcText" = some m.cls := findClass_of_methodNamed Bd.named
  have hnm := (name_of_methodNamed Bd.named Bd.method).1
  have X0 : Stand p l e ({ frames := 5, cells := 0, slots := 0, locals := 66 } : Room) s m #[(.ref a1)] below meth c s₁ [] 0 0 := Stand.of_body Bd
  have e0 : s₁.heap = h0 := by rw [← hh, Bd.state]; rfl
  have N0 := Fr.nil n0
  have E_a1 := HL.1
  have pre0 : ∀ t, Steps p.tables e below (s₁.setTop (mkF m 0 #[.val (.ref a1)] [])) t → Steps p.tables e below (s₁.setTop (entryFrame m #[(.ref a1)] 1)) t := fun t k => castTop (ef_4 m a1) k
  obtain ⟨cq2, kq2, q2a, q2b, q2c⟩ := isOf hZ e0 E_a1
  obtain ⟨_, _, ⟨T2, L2, k2, n2⟩, -, X2, ⟨Lc2, hQ2, l2, y2, z2⟩, st2⟩ := X0.virtualBack hx (y := (⟨"java/lang/String", "length", "()I"⟩ : MethodName)) (z := (⟨"java/lang/String", "length", "()I"⟩ : MethodName)) hown (mvT hZ (own_w hw 28 rfl)) (mvT hZ (own_w hw 29 rfl)) (notFace_of_selects (args := #[]) (mvT hZ (own_w hw 31 rfl))) (mvT hZ (own_w hw 31 rfl)) (mvT hZ (own_w hw 30 rfl)) (by decide) (backOf (W := 0) (rm5n l Z a0 hw [] a1 nn G1 h0 n0 Z0 HL S_CS P5) hZ (own_w hw 32 rfl) (own_w hw 5 rfl) (by decide) (by decide)) q2a q2c (g := (mkF m 1 #[.val (.ref a1)] [(.ref a1)])) rfl (by rw [hml]; rfl) (Steps.refl _) (argsL := []) (rest := []) (lenOf pd_4_4 rfl) rfl (by show 2 * 0 + _ ≤ _; exact Nat.le_of_eq rfl) (hb hby d4_1) (fun _ _ => ⟨rfl, e0, (by decide : 0 + 0 ≤ _), (by decide : 0 + 0 ≤ _)⟩)
  dsimp only [Pt.U, Pt.locs, Pt.cells, Pt.slots] at X2 l2 y2 z2 st2 hQ2
  subst l2 y2 z2
  obtain ⟨rfl, N2q, e2q⟩ := hQ2
  have N2 := Fr.app N0 N2q
  have K2q : Keep h0 T2.heap [] := own_keep e2q
  have KH2 : Keep h0 T2.heap [] := (Keep.refl h0 []).trans K2q own_ws0
  have eh2 : T2.heap = h0 := by rw [e2q]
  obtain ⟨fs, hr, hrun, hended, hW, hsame⟩ := X2.leave (v := some (.int (0 : Int32))) (fun h => by rw [Bd.returns] at h; cases h) (BodyLoose.notSynchronized Bd)
  refine ⟨_, _, pre0 _ ?_, hrun, hended, _, _, rfl, ?_, ⟨_, rfl⟩, hW, hsame.mono (by decide) (by decide)⟩
  · show Steps p.tables e below (s₁.setTop (mkF m 0 #[.val (.ref a1)] [])) _
    refine XS.aloadN X0.here hx rfl (hb hby d4_0) rfl rfl ?_
    show Steps p.tables e below (s₁.setTop (mkF m 1 #[.val (.ref a1)] [(.ref a1)])) _
    refine st2.trans ?_
    show Steps p.tables e below (T2.setTop (mkF m 4 #[.val (.ref a1)] [(.int nn)])) _
    refine XS.iconst X2.here hx rfl (hb hby d4_4) ?_
    refine XS.icmpYes X2.here hx rfl (pc0 := 5) (pc' := 45) rfl (hb hby d4_5) rfl (feq ht5).2 (by decide) (by decide) ?_
    refine XS.iconst X2.here hx rfl (hb hby d4_45) ?_
    show Steps p.tables e below (T2.setTop (mkF m 46 #[.val (.ref a1)] [(.int (0 : Int32))])) _
    exact retN X2 hx (t := .boolean) Bd.returns (by simp) (hb hby d4_46) hr
  · show Q4 Z (0 : Int32) h0 n0 _ T2.heap _
    exact ⟨rfl, N2, eh2⟩
theorem d4_8 : decode prog_21_method_3_code 8 = .ok (.aload_n 0, 1) := by decide +kernel
theorem d4_9 : decode prog_21_method_3_code 9 = .ok (.iconst 0, 1) := by decide +kernel
theorem d4_10 : decode prog_21_method_3_code 10 = .ok (.invokevirtual 13, 3) := by decide +kernel
theorem d4_13 : decode prog_21_method_3_code 13 = .ok (.invokestatic 17, 3) := by decide +kernel
theorem d4_16 : decode prog_21_method_3_code 16 = .ok (.ifCond .eq 29, 3) := by decide +kernel
theorem pd_4_10 : parseMethodDescriptor "(I)C" = some ⟨[.int], some .char⟩ := by decide +kernel
theorem pd_4_9 : parseMethodDescriptor "(C)Z" = some ⟨[.char], some .boolean⟩ := by decide +kernel
set_option maxRecDepth 65536 in
set_option maxHeartbeats 40000000 in
theorem rm4_ft (l : Launch) (Z : State) (a0 : Array Value) (hw : ∀ d ∈ tables_1, d.before a0 Z = true) (ws : List Jvm.Cond) (a1 : Addr) (c0 : Int32) (c1 : Int32) (c2 : Int32) (G1 : Int32) (G3 : Value) (h0 : Heap) (n0 : Nat) (Z0 : n0 ≤ h0.size) (H3 : own_S3 Z h0 a1 c0 c1 c2) (S_CS : Sta Z h0 "java/lang/String" "COMPACT_STRINGS" "Z" (.int G1)) (P5 : ¬ (G1 = (0 : Int32))) (O4 : Sta Z h0 "jdk/internal/util/Preconditions" "SIOOBE_FORMATTER" "Ljava/util/function/BiFunction;" G3) (rG3 : G3.isRef = true) (S__assertionsDisabled : Sta Z h0 "java/lang/StringUTF16" "$assertionsDisabled" "Z" (.int (1 : Int32))) (S_HI_BYTE_SHIFT : Sta Z h0 "java/lang/StringUTF16" "HI_BYTE_SHIFT" "I" (.int (0 : Int32))) (S_LO_BYTE_SHIFT : Sta Z h0 "java/lang/StringUTF16" "LO_BYTE_SHIFT" "I" (.int (8 : Int32))) (ht5 : (3 : Int32) = (3 : Int32)) (ht16 : (own_f16 c0) = (0 : Int32)) :
    MetFree l (⟨"com/example/marcwerk/marcwerk/marc/MarcText", "isTag", "(Ljava/lang/String;)Z"⟩ : MethodName) (head1 (Jvm.Cond.code (⟨"com/example/marcwerk/marcwerk/marc/MarcText", "isTag", "(Ljava/lang/String;)Z"⟩ : MethodName) prog_21_method_3_code 1 (some .boolean) :: ws) ({ frames := 5, cells := 0, slots := 0, locals := 66 } : Room)) (fun a U => a = #[(.ref a1)] ∧ Z.Warmed39 U.vm ∧ U.heap = h0) (fun _ _ _ _ _ => True) (fun _ U o U' => ∃ v L, o = .returned v ∧ Q4 Z (0 : Int32) h0 n0 v U'.heap L ∧ FrameEnd U o U' L ({ frames := 5, cells := 0, slots := 0, locals := 66 } : Room).cells ({ frames := 5, cells := 0, slots := 0, locals := 66 } : Room).slots) := by
  refine MetFree.of_bodySF (plainFor_of_name pn_4) hisR ?_
  intro p e s m args below meth c s₁ Bd hml0 hP hK
  obtain ⟨rfl, hZ, hh⟩ := hP
  have hx := Bd.exec
  have hby := Bd.bytes
  have hml : c.maxLocals = 1 := hml0
  have hown : s.vm.findClass "com/example/marcwerk/marcwerk/marc/MarcText" = some m.cls := findClass_of_methodNamed Bd.named
  have hnm := (name_of_methodNamed Bd.named Bd.method).1
  have X0 : Stand p l e ({ frames := 5, cells := 0, slots := 0, locals := 66 } : Room) s m #[(.ref a1)] below meth c s₁ [] 0 0 := Stand.of_body Bd
  have e0 : s₁.heap = h0 := by rw [← hh, Bd.state]; rfl
  have N0 := Fr.nil n0
  have E_a1 := H3.1
  have pre0 : ∀ t, Steps p.tables e below (s₁.setTop (mkF m 0 #[.val (.ref a1)] [])) t → Steps p.tables e below (s₁.setTop (entryFrame m #[(.ref a1)] 1)) t := fun t k => castTop (ef_4 m a1) k
  obtain ⟨cq2, kq2, q2a, q2b, q2c⟩ := isOf hZ e0 E_a1
  obtain ⟨_, _, ⟨T2, L2, k2, n2⟩, -, X2, ⟨Lc2, hQ2, l2, y2, z2⟩, st2⟩ := X0.virtualBack hx (y := (⟨"java/lang/String", "length", "()I"⟩ : MethodName)) (z := (⟨"java/lang/String", "length", "()I"⟩ : MethodName)) hown (mvT hZ (own_w hw 28 rfl)) (mvT hZ (own_w hw 29 rfl)) (notFace_of_selects (args := #[]) (mvT hZ (own_w hw 31 rfl))) (mvT hZ (own_w hw 31 rfl)) (mvT hZ (own_w hw 30 rfl)) (by decide) (backOf (W := 0) (rm5n l Z a0 hw [] a1 (3 : Int32) G1 h0 n0 Z0 (own_S3_SL H3) S_CS P5) hZ (own_w hw 32 rfl) (own_w hw 5 rfl) (by decide) (by decide)) q2a q2c (g := (mkF m 1 #[.val (.ref a1)] [(.ref a1)])) rfl (by rw [hml]; rfl) (Steps.refl _) (argsL := []) (rest := []) (lenOf pd_4_4 rfl) rfl (by show 2 * 0 + _ ≤ _; exact Nat.le_of_eq rfl) (hb hby d4_1) (fun _ _ => ⟨rfl, e0, (by decide : 0 + 0 ≤ _), (by decide : 0 + 0 ≤ _)⟩)
  dsimp only [Pt.U, Pt.locs, Pt.cells, Pt.slots] at X2 l2 y2 z2 st2 hQ2
  subst l2 y2 z2
  obtain ⟨rfl, N2q, e2q⟩ := hQ2
  have N2 := Fr.app N0 N2q
  have K2q : Keep h0 T2.heap [] := own_keep e2q
  have KH2 : Keep h0 T2.heap [] := (Keep.refl h0 []).trans K2q own_ws0
  have eh2 : T2.heap = h0 := by rw [e2q]
  obtain ⟨cq3, kq3, q3a, q3b, q3c⟩ := isOf hZ rfl (E_a1.keep K2q)
  obtain ⟨_, _, ⟨T3, L3, k3, n3⟩, -, X3, ⟨Lc3, hQ3, l3, y3, z3⟩, st3⟩ := X2.virtualBack hx (y := (⟨"java/lang/String", "charAt", "(I)C"⟩ : MethodName)) (z := (⟨"java/lang/String", "charAt", "(I)C"⟩ : MethodName)) hown (mvT hZ (own_w hw 53 rfl)) (mvT hZ (own_w hw 54 rfl)) (notFace_of_selects (args := #[]) (mvT hZ (own_w hw 56 rfl))) (mvT hZ (own_w hw 56 rfl)) (mvT hZ (own_w hw 55 rfl)) (by decide) (backOf (W := 0) (rm11_0 l Z a0 hw [] a1 c0 c1 c2 G1 G3 T2.heap n0 (Nat.le_trans Z0 KH2.1) (by rw [eh2]; exact H3) (by rw [eh2]; exact S_CS) P5 (by rw [eh2]; exact O4) rG3 (by rw [eh2]; exact S__assertionsDisabled) (by rw [eh2]; exact S_HI_BYTE_SHIFT) (by rw [eh2]; exact S_LO_BYTE_SHIFT)) hZ (own_w hw 57 rfl) (own_w hw 5 rfl) (by decide) (by decide)) q3a q3c (g := (mkF m 10 #[.val (.ref a1)] [(.int (0 : Int32)), (.ref a1)])) rfl (by rw [hml]; rfl) (Steps.refl _) (argsL := [(.int (0 : Int32))]) (rest := []) (lenOf pd_4_10 rfl) rfl (by show 2 * 0 + _ ≤ _; exact Nat.le_of_eq rfl) (hb hby d4_10) (fun _ _ => ⟨rfl, rfl, (by decide : 0 + 0 ≤ _), (by decide : 0 + 0 ≤ _)⟩)
  dsimp only [Pt.U, Pt.locs, Pt.cells, Pt.slots] at X3 l3 y3 z3 st3 hQ3
  subst l3 y3 z3
  obtain ⟨rfl, N3q, e3q⟩ := hQ3
  have N3 := Fr.app N2 N3q
  have K3q : Keep T2.heap T3.heap [] := own_keep e3q
  have KH3 : Keep h0 T3.heap [] := KH2.trans K3q own_ws0
  have eh3 : T3.heap = h0 := by rw [e3q]; exact eh2
  obtain ⟨_, _, ⟨T4, L4, k4, n4⟩, -, X4, ⟨Lc4, hQ4, l4, y4, z4⟩, st4⟩ := Jvm.LawKit.callS X3 hx (y := (⟨"com/example/marcwerk/marcwerk/marc/MarcText", "isTagCharacter", "(C)Z"⟩ : MethodName)) hown (mvT hZ (own_w hw 75 rfl)) (mvT hZ (own_w hw 76 rfl)) (mvT hZ (own_w hw 26 rfl)) (mvT hZ (own_w hw 77 rfl)) (by decide) (backOf (W := 0) (rm16 l Z a0 hw [] c0  T3.heap n0 (Nat.le_trans Z0 KH3.1)) hZ (own_w hw 77 rfl) (own_w hw 26 rfl) (by decide) (by decide)) (g := (mkF m 13 #[.val (.ref a1)] [(.int c0)])) rfl (by rw [hml]; rfl) (argsL := [(.int c0)]) (rest := []) (lenOf pd_4_9 rfl) rfl (by show 2 * 0 + _ ≤ _; exact Nat.le_of_eq rfl) (hb hby d4_13) (fun _ _ => ⟨rfl, rfl, (by decide : 0 + 0 ≤ _), (by decide : 0 + 0 ≤ _)⟩)
  dsimp only [Pt.U, Pt.locs, Pt.cells, Pt.slots] at X4 l4 y4 z4 st4 hQ4
  subst l4 y4 z4
  obtain ⟨rfl, N4q, e4q⟩ := hQ4
  have N4 := Fr.app N3 N4q
  have K4q : Keep T3.heap T4.heap [] := own_keep e4q
  have KH4 : Keep h0 T4.heap [] := KH3.trans K4q own_ws0
  have eh4 : T4.heap = h0 := by rw [e4q]; exact eh3
  obtain ⟨fs, hr, hrun, hended, hW, hsame⟩ := X4.leave (v := some (.int (0 : Int32))) (fun h => by rw [Bd.returns] at h; cases h) (BodyLoose.notSynchronized Bd)
  refine ⟨_, _, pre0 _ ?_, hrun, hended, _, _, rfl, ?_, ⟨_, rfl⟩, hW, hsame.mono (by decide) (by decide)⟩
  · show Steps p.tables e below (s₁.setTop (mkF m 0 #[.val (.ref a1)] [])) _
    refine XS.aloadN X0.here hx rfl (hb hby d4_0) rfl rfl ?_
    show Steps p.tables e below (s₁.setTop (mkF m 1 #[.val (.ref a1)] [(.ref a1)])) _
    refine st2.trans ?_
    show Steps p.tables e below (T2.setTop (mkF m 4 #[.val (.ref a1)] [(.int (3 : Int32))])) _
    refine XS.iconst X2.here hx rfl (hb hby d4_4) ?_
    refine XS.icmpNo X2.here hx rfl (hb hby d4_5) rfl (teq ht5).2 ?_
    refine XS.aloadN X2.here hx rfl (hb hby d4_8) rfl rfl ?_
    refine XS.iconst X2.here hx rfl (hb hby d4_9) ?_
    show Steps p.tables e below (T2.setTop (mkF m 10 #[.val (.ref a1)] [(.int (0 : Int32)), (.ref a1)])) _
    refine st3.trans ?_
    show Steps p.tables e below (T3.setTop (mkF m 13 #[.val (.ref a1)] [(.int c0)])) _
    refine st4 _ ?_
    show Steps p.tables e below (T4.setTop (mkF m 16 #[.val (.ref a1)] [(.int (own_f16 c0))])) _
    refine XS.ifYes X4.here hx rfl (pc0 := 16) (pc' := 45) rfl (hb hby d4_16) rfl ((if0 _ _).trans (teq ht16).1) (by decide) (by decide) ?_
    refine XS.iconst X4.here hx rfl (hb hby d4_45) ?_
    show Steps p.tables e below (T4.setTop (mkF m 46 #[.val (.ref a1)] [(.int (0 : Int32))])) _
    exact retN X4 hx (t := .boolean) Bd.returns (by simp) (hb hby d4_46) hr
  · show Q4 Z (0 : Int32) h0 n0 _ T4.heap _
    exact ⟨rfl, N4, eh4⟩
theorem d4_19 : decode prog_21_method_3_code 19 = .ok (.aload_n 0, 1) := by decide +kernel
theorem d4_20 : decode prog_21_method_3_code 20 = .ok (.iconst 1, 1) := by decide +kernel
theorem d4_21 : decode prog_21_method_3_code 21 = .ok (.invokevirtual 13, 3) := by decide +kernel
theorem d4_24 : decode prog_21_method_3_code 24 = .ok (.invokestatic 17, 3) := by decide +kernel
theorem d4_27 : decode prog_21_method_3_code 27 = .ok (.ifCond .eq 18, 3) := by decide +kernel
set_option maxRecDepth 65536 in
set_option maxHeartbeats 40000000 in
theorem rm4_fft (l : Launch) (Z : State) (a0 : Array Value) (hw : ∀ d ∈ tables_1, d.before a0 Z = true) (ws : List Jvm.Cond) (a1 : Addr) (c0 : Int32) (c1 : Int32) (c2 : Int32) (G1 : Int32) (G3 : Value) (h0 : Heap) (n0 : Nat) (Z0 : n0 ≤ h0.size) (H3 : own_S3 Z h0 a1 c0 c1 c2) (S_CS : Sta Z h0 "java/lang/String" "COMPACT_STRINGS" "Z" (.int G1)) (P5 : ¬ (G1 = (0 : Int32))) (O4 : Sta Z h0 "jdk/internal/util/Preconditions" "SIOOBE_FORMATTER" "Ljava/util/function/BiFunction;" G3) (rG3 : G3.isRef = true) (S__assertionsDisabled : Sta Z h0 "java/lang/StringUTF16" "$assertionsDisabled" "Z" (.int (1 : Int32))) (S_HI_BYTE_SHIFT : Sta Z h0 "java/lang/StringUTF16" "HI_BYTE_SHIFT" "I" (.int (0 : Int32))) (S_LO_BYTE_SHIFT : Sta Z h0 "java/lang/StringUTF16" "LO_BYTE_SHIFT" "I" (.int (8 : Int32))) (ht5 : (3 : Int32) = (3 : Int32)) (ht16 : ¬ ((own_f16 c0) = (0 : Int32))) (ht27 : (own_f16 c1) = (0 : Int32)) :
    MetFree l (⟨"com/example/marcwerk/marcwerk/marc/MarcText", "isTag", "(Ljava/lang/String;)Z"⟩ : MethodName) (head1 (Jvm.Cond.code (⟨"com/example/marcwerk/marcwerk/marc/MarcText", "isTag", "(Ljava/lang/String;)Z"⟩ : MethodName) prog_21_method_3_code 1 (some .boolean) :: ws) ({ frames := 5, cells := 0, slots := 0, locals := 66 } : Room)) (fun a U => a = #[(.ref a1)] ∧ Z.Warmed39 U.vm ∧ U.heap = h0) (fun _ _ _ _ _ => True) (fun _ U o U' => ∃ v L, o = .returned v ∧ Q4 Z (0 : Int32) h0 n0 v U'.heap L ∧ FrameEnd U o U' L ({ frames := 5, cells := 0, slots := 0, locals := 66 } : Room).cells ({ frames := 5, cells := 0, slots := 0, locals := 66 } : Room).slots) := by
  refine MetFree.of_bodySF (plainFor_of_name pn_4) hisR ?_
  intro p e s m args below meth c s₁ Bd hml0 hP hK
  obtain ⟨rfl, hZ, hh⟩ := hP
  have hx := Bd.exec
  have hby := Bd.bytes
  have hml : c.maxLocals = 1 := hml0
  have hown : s.vm.findClass "com/example/marcwerk/marcwerk/marc/MarcText" = some m.cls := findClass_of_methodNamed Bd.named
  have hnm := (name_of_methodNamed Bd.named Bd.method).1
  have X0 : Stand p l e ({ frames := 5, cells := 0, slots := 0, locals := 66 } : Room) s m #[(.ref a1)] below meth c s₁ [] 0 0 := Stand.of_body Bd
  have e0 : s₁.heap = h0 := by rw [← hh, Bd.state]; rfl
  have N0 := Fr.nil n0
  have E_a1 := H3.1
  have pre0 : ∀ t, Steps p.tables e below (s₁.setTop (mkF m 0 #[.val (.ref a1)] [])) t → Steps p.tables e below (s₁.setTop (entryFrame m #[(.ref a1)] 1)) t := fun t k => castTop (ef_4 m a1) k
  obtain ⟨cq2, kq2, q2a, q2b, q2c⟩ := isOf hZ e0 E_a1
  obtain ⟨_, _, ⟨T2, L2, k2, n2⟩, -, X2, ⟨Lc2, hQ2, l2, y2, z2⟩, st2⟩ := X0.virtualBack hx (y := (⟨"java/lang/String", "length", "()I"⟩ : MethodName)) (z := (⟨"java/lang/String", "length", "()I"⟩ : MethodName)) hown (mvT hZ (own_w hw 28 rfl)) (mvT hZ (own_w hw 29 rfl)) (notFace_of_selects (args := #[]) (mvT hZ (own_w hw 31 rfl))) (mvT hZ (own_w hw 31 rfl)) (mvT hZ (own_w hw 30 rfl)) (by decide) (backOf (W := 0) (rm5n l Z a0 hw [] a1 (3 : Int32) G1 h0 n0 Z0 (own_S3_SL H3) S_CS P5) hZ (own_w hw 32 rfl) (own_w hw 5 rfl) (by decide) (by decide)) q2a q2c (g := (mkF m 1 #[.val (.ref a1)] [(.ref a1)])) rfl (by rw [hml]; rfl) (Steps.refl _) (argsL := []) (rest := []) (lenOf pd_4_4 rfl) rfl (by show 2 * 0 + _ ≤ _; exact Nat.le_of_eq rfl) (hb hby d4_1) (fun _ _ => ⟨rfl, e0, (by decide : 0 + 0 ≤ _), (by decide : 0 + 0 ≤ _)⟩)
  dsimp only [Pt.U, Pt.locs, Pt.cells, Pt.slots] at X2 l2 y2 z2 st2 hQ2
  subst l2 y2 z2
  obtain ⟨rfl, N2q, e2q⟩ := hQ2
  have N2 := Fr.app N0 N2q
  have K2q : Keep h0 T2.heap [] := own_keep e2q
  have KH2 : Keep h0 T2.heap [] := (Keep.refl h0 []).trans K2q own_ws0
  have eh2 : T2.heap = h0 := by rw [e2q]
  obtain ⟨cq3, kq3, q3a, q3b, q3c⟩ := isOf hZ rfl (E_a1.keep K2q)
  obtain ⟨_, _, ⟨T3, L3, k3, n3⟩, -, X3, ⟨Lc3, hQ3, l3, y3, z3⟩, st3⟩ := X2.virtualBack hx (y := (⟨"java/lang/String", "charAt", "(I)C"⟩ : MethodName)) (z := (⟨"java/lang/String", "charAt", "(I)C"⟩ : MethodName)) hown (mvT hZ (own_w hw 53 rfl)) (mvT hZ (own_w hw 54 rfl)) (notFace_of_selects (args := #[]) (mvT hZ (own_w hw 56 rfl))) (mvT hZ (own_w hw 56 rfl)) (mvT hZ (own_w hw 55 rfl)) (by decide) (backOf (W := 0) (rm11_0 l Z a0 hw [] a1 c0 c1 c2 G1 G3 T2.heap n0 (Nat.le_trans Z0 KH2.1) (by rw [eh2]; exact H3) (by rw [eh2]; exact S_CS) P5 (by rw [eh2]; exact O4) rG3 (by rw [eh2]; exact S__assertionsDisabled) (by rw [eh2]; exact S_HI_BYTE_SHIFT) (by rw [eh2]; exact S_LO_BYTE_SHIFT)) hZ (own_w hw 57 rfl) (own_w hw 5 rfl) (by decide) (by decide)) q3a q3c (g := (mkF m 10 #[.val (.ref a1)] [(.int (0 : Int32)), (.ref a1)])) rfl (by rw [hml]; rfl) (Steps.refl _) (argsL := [(.int (0 : Int32))]) (rest := []) (lenOf pd_4_10 rfl) rfl (by show 2 * 0 + _ ≤ _; exact Nat.le_of_eq rfl) (hb hby d4_10) (fun _ _ => ⟨rfl, rfl, (by decide : 0 + 0 ≤ _), (by decide : 0 + 0 ≤ _)⟩)
  dsimp only [Pt.U, Pt.locs, Pt.cells, Pt.slots] at X3 l3 y3 z3 st3 hQ3
  subst l3 y3 z3
  obtain ⟨rfl, N3q, e3q⟩ := hQ3
  have N3 := Fr.app N2 N3q
  have K3q : Keep T2.heap T3.heap [] := own_keep e3q
  have KH3 : Keep h0 T3.heap [] := KH2.trans K3q own_ws0
  have eh3 : T3.heap = h0 := by rw [e3q]; exact eh2
  obtain ⟨_, _, ⟨T4, L4, k4, n4⟩, -, X4, ⟨Lc4, hQ4, l4, y4, z4⟩, st4⟩ := Jvm.LawKit.callS X3 hx (y := (⟨"com/example/marcwerk/marcwerk/marc/MarcText", "isTagCharacter", "(C)Z"⟩ : MethodName)) hown (mvT hZ (own_w hw 75 rfl)) (mvT hZ (own_w hw 76 rfl)) (mvT hZ (own_w hw 26 rfl)) (mvT hZ (own_w hw 77 rfl)) (by decide) (backOf (W := 0) (rm16 l Z a0 hw [] c0  T3.heap n0 (Nat.le_trans Z0 KH3.1)) hZ (own_w hw 77 rfl) (own_w hw 26 rfl) (by decide) (by decide)) (g := (mkF m 13 #[.val (.ref a1)] [(.int c0)])) rfl (by rw [hml]; rfl) (argsL := [(.int c0)]) (rest := []) (lenOf pd_4_9 rfl) rfl (by show 2 * 0 + _ ≤ _; exact Nat.le_of_eq rfl) (hb hby d4_13) (fun _ _ => ⟨rfl, rfl, (by decide : 0 + 0 ≤ _), (by decide : 0 + 0 ≤ _)⟩)
  dsimp only [Pt.U, Pt.locs, Pt.cells, Pt.slots] at X4 l4 y4 z4 st4 hQ4
  subst l4 y4 z4
  obtain ⟨rfl, N4q, e4q⟩ := hQ4
  have N4 := Fr.app N3 N4q
  have K4q : Keep T3.heap T4.heap [] := own_keep e4q
  have KH4 : Keep h0 T4.heap [] := KH3.trans K4q own_ws0
  have eh4 : T4.heap = h0 := by rw [e4q]; exact eh3
  obtain ⟨cq5, kq5, q5a, q5b, q5c⟩ := isOf hZ rfl (((E_a1.keep K2q).keep K3q).keep K4q)
  obtain ⟨_, _, ⟨T5, L5, k5, n5⟩, -, X5, ⟨Lc5, hQ5, l5, y5, z5⟩, st5⟩ := X4.virtualBack hx (y := (⟨"java/lang/String", "charAt", "(I)C"⟩ : MethodName)) (z := (⟨"java/lang/String", "charAt", "(I)C"⟩ : MethodName)) hown (mvT hZ (own_w hw 53 rfl)) (mvT hZ (own_w hw 54 rfl)) (notFace_of_selects (args := #[]) (mvT hZ (own_w hw 56 rfl))) (mvT hZ (own_w hw 56 rfl)) (mvT hZ (own_w hw 55 rfl)) (by decide) (backOf (W := 0) (rm11_1 l Z a0 hw [] a1 c0 c1 c2 G1 G3 T4.heap n0 (Nat.le_trans Z0 KH4.1) (by rw [eh4]; exact H3) (by rw [eh4]; exact S_CS) P5 (by rw [eh4]; exact O4) rG3 (by rw [eh4]; exact S__assertionsDisabled) (by rw [eh4]; exact S_HI_BYTE_SHIFT) (by rw [eh4]; exact S_LO_BYTE_SHIFT)) hZ (own_w hw 57 rfl) (own_w hw 5 rfl) (by decide) (by decide)) q5a q5c (g := (mkF m 21 #[.val (.ref a1)] [(.int (1 : Int32)), (.ref a1)])) rfl (by rw [hml]; rfl) (Steps.refl _) (argsL := [(.int (1 : Int32))]) (rest := []) (lenOf pd_4_10 rfl) rfl (by show 2 * 0 + _ ≤ _; exact Nat.le_of_eq rfl) (hb hby d4_21) (fun _ _ => ⟨rfl, rfl, (by decide : 0 + 0 ≤ _), (by decide : 0 + 0 ≤ _)⟩)
  dsimp only [Pt.U, Pt.locs, Pt.cells, Pt.slots] at X5 l5 y5 z5 st5 hQ5
  subst l5 y5 z5
  obtain ⟨rfl, N5q, e5q⟩ := hQ5
  have N5 := Fr.app N4 N5q
  have K5q : Keep T4.heap T5.heap [] := own_keep e5q
  have KH5 : Keep h0 T5.heap [] := KH4.trans K5q own_ws0
  have eh5 : T5.heap = h0 := by rw [e5q]; exact eh4
  obtain ⟨_, _, ⟨T6, L6, k6, n6⟩, -, X6, ⟨Lc6, hQ6, l6, y6, z6⟩, st6⟩ := Jvm.LawKit.callS X5 hx (y := (⟨"com/example/marcwerk/marcwerk/marc/MarcText", "isTagCharacter", "(C)Z"⟩ : MethodName)) hown (mvT hZ (own_w hw 75 rfl)) (mvT hZ (own_w hw 76 rfl)) (mvT hZ (own_w hw 26 rfl)) (mvT hZ (own_w hw 77 rfl)) (by decide) (backOf (W := 0) (rm16 l Z a0 hw [] c1  T5.heap n0 (Nat.le_trans Z0 KH5.1)) hZ (own_w hw 77 rfl) (own_w hw 26 rfl) (by decide) (by decide)) (g := (mkF m 24 #[.val (.ref a1)] [(.int c1)])) rfl (by rw [hml]; rfl) (argsL := [(.int c1)]) (rest := []) (lenOf pd_4_9 rfl) rfl (by show 2 * 0 + _ ≤ _; exact Nat.le_of_eq rfl) (hb hby d4_24) (fun _ _ => ⟨rfl, rfl, (by decide : 0 + 0 ≤ _), (by decide : 0 + 0 ≤ _)⟩)
  dsimp only [Pt.U, Pt.locs, Pt.cells, Pt.slots] at X6 l6 y6 z6 st6 hQ6
  subst l6 y6 z6
  obtain ⟨rfl, N6q, e6q⟩ := hQ6
  have N6 := Fr.app N5 N6q
  have K6q : Keep T5.heap T6.heap [] := own_keep e6q
  have KH6 : Keep h0 T6.heap [] := KH5.trans K6q own_ws0
  have eh6 : T6.heap = h0 := by rw [e6q]; exact eh5
  obtain ⟨fs, hr, hrun, hended, hW, hsame⟩ := X6.leave (v := some (.int (0 : Int32))) (fun h => by rw [Bd.returns] at h; cases h) (BodyLoose.notSynchronized Bd)
  refine ⟨_, _, pre0 _ ?_, hrun, hended, _, _, rfl, ?_, ⟨_, rfl⟩, hW, hsame.mono (by decide) (by decide)⟩
  · show Steps p.tables e below (s₁.setTop (mkF m 0 #[.val (.ref a1)] [])) _
    refine XS.aloadN X0.here hx rfl (hb hby d4_0) rfl rfl ?_
    show Steps p.tables e below (s₁.setTop (mkF m 1 #[.val (.ref a1)] [(.ref a1)])) _
    refine st2.trans ?_
    show Steps p.tables e below (T2.setTop (mkF m 4 #[.val (.ref a1)] [(.int (3 : Int32))])) _
    refine XS.iconst X2.here hx rfl (hb hby d4_4) ?_
    refine XS.icmpNo X2.here hx rfl (hb hby d4_5) rfl (teq ht5).2 ?_
    refine XS.aloadN X2.here hx rfl (hb hby d4_8) rfl rfl ?_
    refine XS.iconst X2.here hx rfl (hb hby d4_9) ?_
    show Steps p.tables e below (T2.setTop (mkF m 10 #[.val (.ref a1)] [(.int (0 : Int32)), (.ref a1)])) _
    refine st3.trans ?_
    show Steps p.tables e below (T3.setTop (mkF m 13 #[.val (.ref a1)] [(.int c0)])) _
    refine st4 _ ?_
    show Steps p.tables e below (T4.setTop (mkF m 16 #[.val (.ref a1)] [(.int (own_f16 c0))])) _
    refine XS.ifNo X4.here hx rfl (hb hby d4_16) rfl ((if0 _ _).trans (feq ht16).1) ?_
    refine XS.aloadN X4.here hx rfl (hb hby d4_19) rfl rfl ?_
    refine XS.iconst X4.here hx rfl (hb hby d4_20) ?_
    show Steps p.tables e below (T4.setTop (mkF m 21 #[.val (.ref a1)] [(.int (1 : Int32)), (.ref a1)])) _
    refine st5.trans ?_
    show Steps p.tables e below (T5.setTop (mkF m 24 #[.val (.ref a1)] [(.int c1)])) _
    refine st6 _ ?_
    show Steps p.tables e below (T6.setTop (mkF m 27 #[.val (.ref a1)] [(.int (own_f16 c1))])) _
    refine XS.ifYes X6.here hx rfl (pc0 := 27) (pc' := 45) rfl (hb hby d4_27) rfl ((if0 _ _).trans (teq ht27).1) (by decide) (by decide) ?_
    refine XS.iconst X6.here hx rfl (hb hby d4_45) ?_
    show Steps p.tables e below (T6.setTop (mkF m 46 #[.val (.ref a1)] [(.int (0 : Int32))])) _
    exact retN X6 hx (t := .boolean) Bd.returns (by simp) (hb hby d4_46) hr
  · show Q4 Z (0 : Int32) h0 n0 _ T6.heap _
    exact ⟨rfl, N6, eh6⟩
theorem d4_30 : decode prog_21_method_3_code 30 = .ok (.aload_n 0, 1) := by decide +kernel
theorem d4_31 : decode prog_21_method_3_code 31 = .ok (.iconst 2, 1) := by decide +kernel
theorem d4_32 : decode prog_21_method_3_code 32 = .ok (.invokevirtual 13, 3) := by decide +kernel
theorem d4_35 : decode prog_21_method_3_code 35 = .ok (.invokestatic 17, 3) := by decide +kernel
theorem d4_38 : decode prog_21_method_3_code 38 = .ok (.ifCond .eq 7, 3) := by decide +kernel
set_option maxRecDepth 65536 in
set_option maxHeartbeats 40000000 in
theorem rm4_ffft (l : Launch) (Z : State) (a0 : Array Value) (hw : ∀ d ∈ tables_1, d.before a0 Z = true) (ws : List Jvm.Cond) (a1 : Addr) (c0 : Int32) (c1 : Int32) (c2 : Int32) (G1 : Int32) (G3 : Value) (h0 : Heap) (n0 : Nat) (Z0 : n0 ≤ h0.size) (H3 : own_S3 Z h0 a1 c0 c1 c2) (S_CS : Sta Z h0 "java/lang/String" "COMPACT_STRINGS" "Z" (.int G1)) (P5 : ¬ (G1 = (0 : Int32))) (O4 : Sta Z h0 "jdk/internal/util/Preconditions" "SIOOBE_FORMATTER" "Ljava/util/function/BiFunction;" G3) (rG3 : G3.isRef = true) (S__assertionsDisabled : Sta Z h0 "java/lang/StringUTF16" "$assertionsDisabled" "Z" (.int (1 : Int32))) (S_HI_BYTE_SHIFT : Sta Z h0 "java/lang/StringUTF16" "HI_BYTE_SHIFT" "I" (.int (0 : Int32))) (S_LO_BYTE_SHIFT : Sta Z h0 "java/lang/StringUTF16" "LO_BYTE_SHIFT" "I" (.int (8 : Int32))) (ht5 : (3 : Int32) = (3 : Int32)) (ht16 : ¬ ((own_f16 c0) = (0 : Int32))) (ht27 : ¬ ((own_f16 c1) = (0 : Int32))) (ht38 : (own_f16 c2) = (0 : Int32)) :
    MetFree l (⟨"com/example/marcwerk/marcwerk/marc/MarcText", "isTag", "(Ljava/lang/String;)Z"⟩ : MethodName) (head1 (Jvm.Cond.code (⟨"com/example/marcwerk/marcwerk/marc/MarcText", "isTag", "(Ljava/lang/String;)Z"⟩ : MethodName) prog_21_method_3_code 1 (some .boolean) :: ws) ({ frames := 5, cells := 0, slots := 0, locals := 66 } : Room)) (fun a U => a = #[(.ref a1)] ∧ Z.Warmed39 U.vm ∧ U.heap = h0) (fun _ _ _ _ _ => True) (fun _ U o U' => ∃ v L, o = .returned v ∧ Q4 Z (0 : Int32) h0 n0 v U'.heap L ∧ FrameEnd U o U' L ({ frames := 5, cells := 0, slots := 0, locals := 66 } : Room).cells ({ frames := 5, cells := 0, slots := 0, locals := 66 } : Room).slots) := by
  refine MetFree.of_bodySF (plainFor_of_name pn_4) hisR ?_
  intro p e s m args below meth c s₁ Bd hml0 hP hK
  obtain ⟨rfl, hZ, hh⟩ := hP
  have hx := Bd.exec
  have hby := Bd.bytes
  have hml : c.maxLocals = 1 := hml0
  have hown : s.vm.findClass "com/example/marcwerk/marcwerk/marc/MarcText" = some m.cls := findClass_of_methodNamed Bd.named
  have hnm := (name_of_methodNamed Bd.named Bd.method).1
  have X0 : Stand p l e ({ frames := 5, cells := 0, slots := 0, locals := 66 } : Room) s m #[(.ref a1)] below meth c s₁ [] 0 0 := Stand.of_body Bd
  have e0 : s₁.heap = h0 := by rw [← hh, Bd.state]; rfl
  have N0 := Fr.nil n0
  have E_a1 := H3.1
  have pre0 : ∀ t, Steps p.tables e below (s₁.setTop (mkF m 0 #[.val (.ref a1)] [])) t → Steps p.tables e below (s₁.setTop (entryFrame m #[(.ref a1)] 1)) t := fun t k => castTop (ef_4 m a1) k
  obtain ⟨cq2, kq2, q2a, q2b, q2c⟩ := isOf hZ e0 E_a1
  obtain ⟨_, _, ⟨T2, L2, k2, n2⟩, -, X2, ⟨Lc2, hQ2, l2, y2, z2⟩, st2⟩ := X0.virtualBack hx (y := (⟨"java/lang/String", "length", "()I"⟩ : MethodName)) (z := (⟨"java/lang/String", "length", "()I"⟩ : MethodName)) hown (mvT hZ (own_w hw 28 rfl)) (mvT hZ (own_w hw 29 rfl)) (notFace_of_selects (args := #[]) (mvT hZ (own_w hw 31 rfl))) (mvT hZ (own_w hw 31 rfl)) (mvT hZ (own_w hw 30 rfl)) (by decide) (backOf (W := 0) (rm5n l Z a0 hw [] a1 (3 : Int32) G1 h0 n0 Z0 (own_S3_SL H3) S_CS P5) hZ (own_w hw 32 rfl) (own_w hw 5 rfl) (by decide) (by decide)) q2a q2c (g := (mkF m 1 #[.val (.ref a1)] [(.ref a1)])) rfl (by rw [hml]; rfl) (Steps.refl _) (argsL := []) (rest := []) (lenOf pd_4_4 rfl) rfl (by show 2 * 0 + _ ≤ _; exact Nat.le_of_eq rfl) (hb hby d4_1) (fun _ _ => ⟨rfl, e0, (by decide : 0 + 0 ≤ _), (by decide : 0 + 0 ≤ _)⟩)
  dsimp only [Pt.U, Pt.locs, Pt.cells, Pt.slots] at X2 l2 y2 z2 st2 hQ2
  subst l2 y2 z2
  obtain ⟨rfl, N2q, e2q⟩ := hQ2
  have N2 := Fr.app N0 N2q
  have K2q : Keep h0 T2.heap [] := own_keep e2q
  have KH2 : Keep h0 T2.heap [] := (Keep.refl h0 []).trans K2q own_ws0
  have eh2 : T2.heap = h0 := by rw [e2q]
  obtain ⟨cq3, kq3, q3a, q3b, q3c⟩ := isOf hZ rfl (E_a1.keep K2q)
  obtain ⟨_, _, ⟨T3, L3, k3, n3⟩, -, X3, ⟨Lc3, hQ3, l3, y3, z3⟩, st3⟩ := X2.virtualBack hx (y := (⟨"java/lang/String", "charAt", "(I)C"⟩ : MethodName)) (z := (⟨"java/lang/String", "charAt", "(I)C"⟩ : MethodName)) hown (mvT hZ (own_w hw 53 rfl)) (mvT hZ (own_w hw 54 rfl)) (notFace_of_selects (args := #[]) (mvT hZ (own_w hw 56 rfl))) (mvT hZ (own_w hw 56 rfl)) (mvT hZ (own_w hw 55 rfl)) (by decide) (backOf (W := 0) (rm11_0 l Z a0 hw [] a1 c0 c1 c2 G1 G3 T2.heap n0 (Nat.le_trans Z0 KH2.1) (by rw [eh2]; exact H3) (by rw [eh2]; exact S_CS) P5 (by rw [eh2]; exact O4) rG3 (by rw [eh2]; exact S__assertionsDisabled) (by rw [eh2]; exact S_HI_BYTE_SHIFT) (by rw [eh2]; exact S_LO_BYTE_SHIFT)) hZ (own_w hw 57 rfl) (own_w hw 5 rfl) (by decide) (by decide)) q3a q3c (g := (mkF m 10 #[.val (.ref a1)] [(.int (0 : Int32)), (.ref a1)])) rfl (by rw [hml]; rfl) (Steps.refl _) (argsL := [(.int (0 : Int32))]) (rest := []) (lenOf pd_4_10 rfl) rfl (by show 2 * 0 + _ ≤ _; exact Nat.le_of_eq rfl) (hb hby d4_10) (fun _ _ => ⟨rfl, rfl, (by decide : 0 + 0 ≤ _), (by decide : 0 + 0 ≤ _)⟩)
  dsimp only [Pt.U, Pt.locs, Pt.cells, Pt.slots] at X3 l3 y3 z3 st3 hQ3
  subst l3 y3 z3
  obtain ⟨rfl, N3q, e3q⟩ := hQ3
  have N3 := Fr.app N2 N3q
  have K3q : Keep T2.heap T3.heap [] := own_keep e3q
  have KH3 : Keep h0 T3.heap [] := KH2.trans K3q own_ws0
  have eh3 : T3.heap = h0 := by rw [e3q]; exact eh2
  obtain ⟨_, _, ⟨T4, L4, k4, n4⟩, -, X4, ⟨Lc4, hQ4, l4, y4, z4⟩, st4⟩ := Jvm.LawKit.callS X3 hx (y := (⟨"com/example/marcwerk/marcwerk/marc/MarcText", "isTagCharacter", "(C)Z"⟩ : MethodName)) hown (mvT hZ (own_w hw 75 rfl)) (mvT hZ (own_w hw 76 rfl)) (mvT hZ (own_w hw 26 rfl)) (mvT hZ (own_w hw 77 rfl)) (by decide) (backOf (W := 0) (rm16 l Z a0 hw [] c0  T3.heap n0 (Nat.le_trans Z0 KH3.1)) hZ (own_w hw 77 rfl) (own_w hw 26 rfl) (by decide) (by decide)) (g := (mkF m 13 #[.val (.ref a1)] [(.int c0)])) rfl (by rw [hml]; rfl) (argsL := [(.int c0)]) (rest := []) (lenOf pd_4_9 rfl) rfl (by show 2 * 0 + _ ≤ _; exact Nat.le_of_eq rfl) (hb hby d4_13) (fun _ _ => ⟨rfl, rfl, (by decide : 0 + 0 ≤ _), (by decide : 0 + 0 ≤ _)⟩)
  dsimp only [Pt.U, Pt.locs, Pt.cells, Pt.slots] at X4 l4 y4 z4 st4 hQ4
  subst l4 y4 z4
  obtain ⟨rfl, N4q, e4q⟩ := hQ4
  have N4 := Fr.app N3 N4q
  have K4q : Keep T3.heap T4.heap [] := own_keep e4q
  have KH4 : Keep h0 T4.heap [] := KH3.trans K4q own_ws0
  have eh4 : T4.heap = h0 := by rw [e4q]; exact eh3
  obtain ⟨cq5, kq5, q5a, q5b, q5c⟩ := isOf hZ rfl (((E_a1.keep K2q).keep K3q).keep K4q)
  obtain ⟨_, _, ⟨T5, L5, k5, n5⟩, -, X5, ⟨Lc5, hQ5, l5, y5, z5⟩, st5⟩ := X4.virtualBack hx (y := (⟨"java/lang/String", "charAt", "(I)C"⟩ : MethodName)) (z := (⟨"java/lang/String", "charAt", "(I)C"⟩ : MethodName)) hown (mvT hZ (own_w hw 53 rfl)) (mvT hZ (own_w hw 54 rfl)) (notFace_of_selects (args := #[]) (mvT hZ (own_w hw 56 rfl))) (mvT hZ (own_w hw 56 rfl)) (mvT hZ (own_w hw 55 rfl)) (by decide) (backOf (W := 0) (rm11_1 l Z a0 hw [] a1 c0 c1 c2 G1 G3 T4.heap n0 (Nat.le_trans Z0 KH4.1) (by rw [eh4]; exact H3) (by rw [eh4]; exact S_CS) P5 (by rw [eh4]; exact O4) rG3 (by rw [eh4]; exact S__assertionsDisabled) (by rw [eh4]; exact S_HI_BYTE_SHIFT) (by rw [eh4]; exact S_LO_BYTE_SHIFT)) hZ (own_w hw 57 rfl) (own_w hw 5 rfl) (by decide) (by decide)) q5a q5c (g := (mkF m 21 #[.val (.ref a1)] [(.int (1 : Int32)), (.ref a1)])) rfl (by rw [hml]; rfl) (Steps.refl _) (argsL := [(.int (1 : Int32))]) (rest := []) (lenOf pd_4_10 rfl) rfl (by show 2 * 0 + _ ≤ _; exact Nat.le_of_eq rfl) (hb hby d4_21) (fun _ _ => ⟨rfl, rfl, (by decide : 0 + 0 ≤ _), (by decide : 0 + 0 ≤ _)⟩)
  dsimp only [Pt.U, Pt.locs, Pt.cells, Pt.slots] at X5 l5 y5 z5 st5 hQ5
  subst l5 y5 z5
  obtain ⟨rfl, N5q, e5q⟩ := hQ5
  have N5 := Fr.app N4 N5q
  have K5q : Keep T4.heap T5.heap [] := own_keep e5q
  have KH5 : Keep h0 T5.heap [] := KH4.trans K5q own_ws0
  have eh5 : T5.heap = h0 := by rw [e5q]; exact eh4
  obtain ⟨_, _, ⟨T6, L6, k6, n6⟩, -, X6, ⟨Lc6, hQ6, l6, y6, z6⟩, st6⟩ := Jvm.LawKit.callS X5 hx (y := (⟨"com/example/marcwerk/marcwerk/marc/MarcText", "isTagCharacter", "(C)Z"⟩ : MethodName)) hown (mvT hZ (own_w hw 75 rfl)) (mvT hZ (own_w hw 76 rfl)) (mvT hZ (own_w hw 26 rfl)) (mvT hZ (own_w hw 77 rfl)) (by decide) (backOf (W := 0) (rm16 l Z a0 hw [] c1  T5.heap n0 (Nat.le_trans Z0 KH5.1)) hZ (own_w hw 77 rfl) (own_w hw 26 rfl) (by decide) (by decide)) (g := (mkF m 24 #[.val (.ref a1)] [(.int c1)])) rfl (by rw [hml]; rfl) (argsL := [(.int c1)]) (rest := []) (lenOf pd_4_9 rfl) rfl (by show 2 * 0 + _ ≤ _; exact Nat.le_of_eq rfl) (hb hby d4_24) (fun _ _ => ⟨rfl, rfl, (by decide : 0 + 0 ≤ _), (by decide : 0 + 0 ≤ _)⟩)
  dsimp only [Pt.U, Pt.locs, Pt.cells, Pt.slots] at X6 l6 y6 z6 st6 hQ6
  subst l6 y6 z6
  obtain ⟨rfl, N6q, e6q⟩ := hQ6
  have N6 := Fr.app N5 N6q
  have K6q : Keep T5.heap T6.heap [] := own_keep e6q
  have KH6 : Keep h0 T6.heap [] := KH5.trans K6q own_ws0
  have eh6 : T6.heap = h0 := by rw [e6q]; exact eh5
  obtain ⟨cq7, kq7, q7a, q7b, q7c⟩ := isOf hZ rfl (((((E_a1.keep K2q).keep K3q).keep K4q).keep K5q).keep K6q)
  obtain ⟨_, _, ⟨T7, L7, k7, n7⟩, -, X7, ⟨Lc7, hQ7, l7, y7, z7⟩, st7⟩ := X6.virtualBack hx (y := (⟨"java/lang/String", "charAt", "(I)C"⟩ : MethodName)) (z := (⟨"java/lang/String", "charAt", "(I)C"⟩ : MethodName)) hown (mvT hZ (own_w hw 53 rfl)) (mvT hZ (own_w hw 54 rfl)) (notFace_of_selects (args := #[]) (mvT hZ (own_w hw 56 rfl))) (mvT hZ (own_w hw 56 rfl)) (mvT hZ (own_w hw 55 rfl)) (by decide) (backOf (W := 0) (rm11_2 l Z a0 hw [] a1 c0 c1 c2 G1 G3 T6.heap n0 (Nat.le_trans Z0 KH6.1) (by rw [eh6]; exact H3) (by rw [eh6]; exact S_CS) P5 (by rw [eh6]; exact O4) rG3 (by rw [eh6]; exact S__assertionsDisabled) (by rw [eh6]; exact S_HI_BYTE_SHIFT) (by rw [eh6]; exact S_LO_BYTE_SHIFT)) hZ (own_w hw 57 rfl) (own_w hw 5 rfl) (by decide) (by decide)) q7a q7c (g := (mkF m 32 #[.val (.ref a1)] [(.int (2 : Int32)), (.ref a1)])) rfl (by rw [hml]; rfl) (Steps.refl _) (argsL := [(.int (2 : Int32))]) (rest := []) (lenOf pd_4_10 rfl) rfl (by show 2 * 0 + _ ≤ _; exact Nat.le_of_eq rfl) (hb hby d4_32) (fun _ _ => ⟨rfl, rfl, (by decide : 0 + 0 ≤ _), (by decide : 0 + 0 ≤ _)⟩)
  dsimp only [Pt.U, Pt.locs, Pt.cells, Pt.slots] at X7 l7 y7 z7 st7 hQ7
  subst l7 y7 z7
  obtain ⟨rfl, N7q, e7q⟩ := hQ7
  have N7 := Fr.app N6 N7q
  have K7q : Keep T6.heap T7.heap [] := own_keep e7q
  have KH7 : Keep h0 T7.heap [] := KH6.trans K7q own_ws0
  have eh7 : T7.heap = h0 := by rw [e7q]; exact eh6
  obtain ⟨_, _, ⟨T8, L8, k8, n8⟩, -, X8, ⟨Lc8, hQ8, l8, y8, z8⟩, st8⟩ := Jvm.LawKit.callS X7 hx (y := (⟨"com/example/marcwerk/marcwerk/marc/MarcText", "isTagCharacter", "(C)Z"⟩ : MethodName)) hown (mvT hZ (own_w hw 75 rfl)) (mvT hZ (own_w hw 76 rfl)) (mvT hZ (own_w hw 26 rfl)) (mvT hZ (own_w hw 77 rfl)) (by decide) (backOf (W := 0) (rm16 l Z a0 hw [] c2  T7.heap n0 (Nat.le_trans Z0 KH7.1)) hZ (own_w hw 77 rfl) (own_w hw 26 rfl) (by decide) (by decide)) (g := (mkF m 35 #[.val (.ref a1)] [(.int c2)])) rfl (by rw [hml]; rfl) (argsL := [(.int c2)]) (rest := []) (lenOf pd_4_9 rfl) rfl (by show 2 * 0 + _ ≤ _; exact Nat.le_of_eq rfl) (hb hby d4_35) (fun _ _ => ⟨rfl, rfl, (by decide : 0 + 0 ≤ _), (by decide : 0 + 0 ≤ _)⟩)
  dsimp only [Pt.U, Pt.locs, Pt.cells, Pt.slots] at X8 l8 y8 z8 st8 hQ8
  subst l8 y8 z8
  obtain ⟨rfl, N8q, e8q⟩ := hQ8
  have N8 := Fr.app N7 N8q
  have K8q : Keep T7.heap T8.heap [] := own_keep e8q
  have KH8 : Keep h0 T8.heap [] := KH7.trans K8q own_ws0
  have eh8 : T8.heap = h0 := by rw [e8q]; exact eh7
  obtain ⟨fs, hr, hrun, hended, hW, hsame⟩ := X8.leave (v := some (.int (0 : Int32))) (fun h => by rw [Bd.returns] at h; cases h) (BodyLoose.notSynchronized Bd)
  refine ⟨_, _, pre0 _ ?_, hrun, hended, _, _, rfl, ?_, ⟨_, rfl⟩, hW, hsame.mono (by decide) (by decide)⟩
  · show Steps p.tables e below (s₁.setTop (mkF m 0 #[.val (.ref a1)] [])) _
    refine XS.aloadN X0.here hx rfl (hb hby d4_0) rfl rfl ?_
    show Steps p.tables e below (s₁.setTop (mkF m 1 #[.val (.ref a1)] [(.ref a1)])) _
    refine st2.trans ?_
    show Steps p.tables e below (T2.setTop (mkF m 4 #[.val (.ref a1)] [(.int (3 : Int32))])) _
    refine XS.iconst X2.here hx rfl (hb hby d4_4) ?_
    refine XS.icmpNo X2.here hx rfl (hb hby d4_5) rfl (teq ht5).2 ?_
    refine XS.aloadN X2.here hx rfl (hb hby d4_8) rfl rfl ?_
    refine XS.iconst X2.here hx rfl (hb hby d4_9) ?_
    show Steps p.tables e below (T2.setTop (mkF m 10 #[.val (.ref a1)] [(.int (0 : Int32)), (.ref a1)])) _
    refine st3.trans ?_
    show Steps p.tables e below (T3.setTop (mkF m 13 #[.val (.ref a1)] [(.int c0)])) _
    refine st4 _ ?_
    show Steps p.tables e below (T4.setTop (mkF m 16 #[.val (.ref a1)] [(.int (own_f16 c0))])) _
    refine XS.ifNo X4.here hx rfl (hb hby d4_16) rfl ((if0 _ _).trans (feq ht16).1) ?_
    refine XS.aloadN X4.here hx rfl (hb hby d4_19) rfl rfl ?_
    refine XS.iconst X4.here hx rfl (hb hby d4_20) ?_
    show Steps p.tables e below (T4.setTop (mkF m 21 #[.val (.ref a1)] [(.int (1 : Int32)), (.ref a1)])) _
    refine st5.trans ?_
    show Steps p.tables e below (T5.setTop (mkF m 24 #[.val (.ref a1)] [(.int c1)])) _
    refine st6 _ ?_
    show Steps p.tables e below (T6.setTop (mkF m 27 #[.val (.ref a1)] [(.int (own_f16 c1))])) _
    refine XS.ifNo X6.here hx rfl (hb hby d4_27) rfl ((if0 _ _).trans (feq ht27).1) ?_
    refine XS.aloadN X6.here hx rfl (hb hby d4_30) rfl rfl ?_
    refine XS.iconst X6.here hx rfl (hb hby d4_31) ?_
    show Steps p.tables e below (T6.setTop (mkF m 32 #[.val (.ref a1)] [(.int (2 : Int32)), (.ref a1)])) _
    refine st7.trans ?_
    show Steps p.tables e below (T7.setTop (mkF m 35 #[.val (.ref a1)] [(.int c2)])) _
    refine st8 _ ?_
    show Steps p.tables e below (T8.setTop (mkF m 38 #[.val (.ref a1)] [(.int (own_f16 c2))])) _
    refine XS.ifYes X8.here hx rfl (pc0 := 38) (pc' := 45) rfl (hb hby d4_38) rfl ((if0 _ _).trans (teq ht38).1) (by decide) (by decide) ?_
    refine XS.iconst X8.here hx rfl (hb hby d4_45) ?_
    show Steps p.tables e below (T8.setTop (mkF m 46 #[.val (.ref a1)] [(.int (0 : Int32))])) _
    exact retN X8 hx (t := .boolean) Bd.returns (by simp) (hb hby d4_46) hr
  · show Q4 Z (0 : Int32) h0 n0 _ T8.heap _
    exact ⟨rfl, N8, eh8⟩
theorem d4_41 : decode prog_21_method_3_code 41 = .ok (.iconst 1, 1) := by decide +kernel
theorem d4_42 : decode prog_21_method_3_code 42 = .ok (.goto 4, 3) := by decide +kernel
set_option maxRecDepth 65536 in
set_option maxHeartbeats 40000000 in
theorem rm4_ffff (l : Launch) (Z : State) (a0 : Array Value) (hw : ∀ d ∈ tables_1, d.before a0 Z = true) (ws : List Jvm.Cond) (a1 : Addr) (c0 : Int32) (c1 : Int32) (c2 : Int32) (G1 : Int32) (G3 : Value) (h0 : Heap) (n0 : Nat) (Z0 : n0 ≤ h0.size) (H3 : own_S3 Z h0 a1 c0 c1 c2) (S_CS : Sta Z h0 "java/lang/String" "COMPACT_STRINGS" "Z" (.int G1)) (P5 : ¬ (G1 = (0 : Int32))) (O4 : Sta Z h0 "jdk/internal/util/Preconditions" "SIOOBE_FORMATTER" "Ljava/util/function/BiFunction;" G3) (rG3 : G3.isRef = true) (S__assertionsDisabled : Sta Z h0 "java/lang/StringUTF16" "$assertionsDisabled" "Z" (.int (1 : Int32))) (S_HI_BYTE_SHIFT : Sta Z h0 "java/lang/StringUTF16" "HI_BYTE_SHIFT" "I" (.int (0 : Int32))) (S_LO_BYTE_SHIFT : Sta Z h0 "java/lang/StringUTF16" "LO_BYTE_SHIFT" "I" (.int (8 : Int32))) (ht5 : (3 : Int32) = (3 : Int32)) (ht16 : ¬ ((own_f16 c0) = (0 : Int32))) (ht27 : ¬ ((own_f16 c1) = (0 : Int32))) (ht38 : ¬ ((own_f16 c2) = (0 : Int32))) :
    MetFree l (⟨"com/example/marcwerk/marcwerk/marc/MarcText", "isTag", "(Ljava/lang/String;)Z"⟩ : MethodName) (head1 (Jvm.Cond.code (⟨"com/example/marcwerk/marcwerk/marc/MarcText", "isTag", "(Ljava/lang/String;)Z"⟩ : MethodName) prog_21_method_3_code 1 (some .boolean) :: ws) ({ frames := 5, cells := 0, slots := 0, locals := 66 } : Room)) (fun a U => a = #[(.ref a1)] ∧ Z.Warmed39 U.vm ∧ U.heap = h0) (fun _ _ _ _ _ => True) (fun _ U o U' => ∃ v L, o = .returned v ∧ Q4 Z (1 : Int32) h0 n0 v U'.heap L ∧ FrameEnd U o U' L ({ frames := 5, cells := 0, slots := 0, locals := 66 } : Room).cells ({ frames := 5, cells := 0, slots := 0, locals := 66 } : Room).slots) := by
  refine MetFree.of_bodySF (plainFor_of_name pn_4) hisR ?_
  intro p e s m args below meth c s₁ Bd hml0 hP hK
  obtain ⟨rfl, hZ, hh⟩ := hP
  have hx := Bd.exec
  have hby := Bd.bytes
  have hml : c.maxLocals = 1 := hml0
  have hown : s.vm.findClass "com/example/marcwerk/marcwerk/marc/MarcText" = some m.cls := findClass_of_methodNamed Bd.named
  have hnm := (name_of_methodNamed Bd.named Bd.method).1
  have X0 : Stand p l e ({ frames := 5, cells := 0, slots := 0, locals := 66 } : Room) s m #[(.ref a1)] below meth c s₁ [] 0 0 := Stand.of_body Bd
  have e0 : s₁.heap = h0 := by rw [← hh, Bd.state]; rfl
  have N0 := Fr.nil n0
  have E_a1 := H3.1
  have pre0 : ∀ t, Steps p.tables e below (s₁.setTop (mkF m 0 #[.val (.ref a1)] [])) t → Steps p.tables e below (s₁.setTop (entryFrame m #[(.ref a1)] 1)) t := fun t k => castTop (ef_4 m a1) k
  obtain ⟨cq2, kq2, q2a, q2b, q2c⟩ := isOf hZ e0 E_a1
  obtain ⟨_, _, ⟨T2, L2, k2, n2⟩, -, X2, ⟨Lc2, hQ2, l2, y2, z2⟩, st2⟩ := X0.virtualBack hx (y := (⟨"java/lang/String", "length", "()I"⟩ : MethodName)) (z := (⟨"java/lang/String", "length", "()I"⟩ : MethodName)) hown (mvT hZ (own_w hw 28 rfl)) (mvT hZ (own_w hw 29 rfl)) (notFace_of_selects (args := #[]) (mvT hZ (own_w hw 31 rfl))) (mvT hZ (own_w hw 31 rfl)) (mvT hZ (own_w hw 30 rfl)) (by decide) (backOf (W := 0) (rm5n l Z a0 hw [] a1 (3 : Int32) G1 h0 n0 Z0 (own_S3_SL H3) S_CS P5) hZ (own_w hw 32 rfl) (own_w hw 5 rfl) (by decide) (by decide)) q2a q2c (g := (mkF m 1 #[.val (.ref a1)] [(.ref a1)])) rfl (by rw [hml]; rfl) (Steps.refl _) (argsL := []) (rest := []) (lenOf pd_4_4 rfl) rfl (by show 2 * 0 + _ ≤ _; exact Nat.le_of_eq rfl) (hb hby d4_1) (fun _ _ => ⟨rfl, e0, (by decide : 0 + 0 ≤ _), (by decide : 0 + 0 ≤ _)⟩)
  dsimp only [Pt.U, Pt.locs, Pt.cells, Pt.slots] at X2 l2 y2 z2 st2 hQ2
  subst l2 y2 z2
  obtain ⟨rfl, N2q, e2q⟩ := hQ2
  have N2 := Fr.app N0 N2q
  have K2q : Keep h0 T2.heap [] := own_keep e2q
  have KH2 : Keep h0 T2.heap [] := (Keep.refl h0 []).trans K2q own_ws0
  have eh2 : T2.heap = h0 := by rw [e2q]
  obtain ⟨cq3, kq3, q3a, q3b, q3c⟩ := isOf hZ rfl (E_a1.keep K2q)
  obtain ⟨_, _, ⟨T3, L3, k3, n3⟩, -, X3, ⟨Lc3, hQ3, l3, y3, z3⟩, st3⟩ := X2.virtualBack hx (y := (⟨"java/lang/String", "charAt", "(I)C"⟩ : MethodName)) (z := (⟨"java/lang/String", "charAt", "(I)C"⟩ : MethodName)) hown (mvT hZ (own_w hw 53 rfl)) (mvT hZ (own_w hw 54 rfl)) (notFace_of_selects (args := #[]) (mvT hZ (own_w hw 56 rfl))) (mvT hZ (own_w hw 56 rfl)) (mvT hZ (own_w hw 55 rfl)) (by decide) (backOf (W := 0) (rm11_0 l Z a0 hw [] a1 c0 c1 c2 G1 G3 T2.heap n0 (Nat.le_trans Z0 KH2.1) (by rw [eh2]; exact H3) (by rw [eh2]; exact S_CS) P5 (by rw [eh2]; exact O4) rG3 (by rw [eh2]; exact S__assertionsDisabled) (by rw [eh2]; exact S_HI_BYTE_SHIFT) (by rw [eh2]; exact S_LO_BYTE_SHIFT)) hZ (own_w hw 57 rfl) (own_w hw 5 rfl) (by decide) (by decide)) q3a q3c (g := (mkF m 10 #[.val (.ref a1)] [(.int (0 : Int32)), (.ref a1)])) rfl (by rw [hml]; rfl) (Steps.refl _) (argsL := [(.int (0 : Int32))]) (rest := []) (lenOf pd_4_10 rfl) rfl (by show 2 * 0 + _ ≤ _; exact Nat.le_of_eq rfl) (hb hby d4_10) (fun _ _ => ⟨rfl, rfl, (by decide : 0 + 0 ≤ _), (by decide : 0 + 0 ≤ _)⟩)
  dsimp only [Pt.U, Pt.locs, Pt.cells, Pt.slots] at X3 l3 y3 z3 st3 hQ3
  subst l3 y3 z3
  obtain ⟨rfl, N3q, e3q⟩ := hQ3
  have N3 := Fr.app N2 N3q
  have K3q : Keep T2.heap T3.heap [] := own_keep e3q
  have KH3 : Keep h0 T3.heap [] := KH2.trans K3q own_ws0
  have eh3 : T3.heap = h0 := by rw [e3q]; exact eh2
  obtain ⟨_, _, ⟨T4, L4, k4, n4⟩, -, X4, ⟨Lc4, hQ4, l4, y4, z4⟩, st4⟩ := Jvm.LawKit.callS X3 hx (y := (⟨"com/example/marcwerk/marcwerk/marc/MarcText", "isTagCharacter", "(C)Z"⟩ : MethodName)) hown (mvT hZ (own_w hw 75 rfl)) (mvT hZ (own_w hw 76 rfl)) (mvT hZ (own_w hw 26 rfl)) (mvT hZ (own_w hw 77 rfl)) (by decide) (backOf (W := 0) (rm16 l Z a0 hw [] c0  T3.heap n0 (Nat.le_trans Z0 KH3.1)) hZ (own_w hw 77 rfl) (own_w hw 26 rfl) (by decide) (by decide)) (g := (mkF m 13 #[.val (.ref a1)] [(.int c0)])) rfl (by rw [hml]; rfl) (argsL := [(.int c0)]) (rest := []) (lenOf pd_4_9 rfl) rfl (by show 2 * 0 + _ ≤ _; exact Nat.le_of_eq rfl) (hb hby d4_13) (fun _ _ => ⟨rfl, rfl, (by decide : 0 + 0 ≤ _), (by decide : 0 + 0 ≤ _)⟩)
  dsimp only [Pt.U, Pt.locs, Pt.cells, Pt.slots] at X4 l4 y4 z4 st4 hQ4
  subst l4 y4 z4
  obtain ⟨rfl, N4q, e4q⟩ := hQ4
  have N4 := Fr.app N3 N4q
  have K4q : Keep T3.heap T4.heap [] := own_keep e4q
  have KH4 : Keep h0 T4.heap [] := KH3.trans K4q own_ws0
  have eh4 : T4.heap = h0 := by rw [e4q]; exact eh3
  obtain ⟨cq5, kq5, q5a, q5b, q5c⟩ := isOf hZ rfl (((E_a1.keep K2q).keep K3q).keep K4q)
  obtain ⟨_, _, ⟨T5, L5, k5, n5⟩, -, X5, ⟨Lc5, hQ5, l5, y5, z5⟩, st5⟩ := X4.virtualBack hx (y := (⟨"java/lang/String", "charAt", "(I)C"⟩ : MethodName)) (z := (⟨"java/lang/String", "charAt", "(I)C"⟩ : MethodName)) hown (mvT hZ (own_w hw 53 rfl)) (mvT hZ (own_w hw 54 rfl)) (notFace_of_selects (args := #[]) (mvT hZ (own_w hw 56 rfl))) (mvT hZ (own_w hw 56 rfl)) (mvT hZ (own_w hw 55 rfl)) (by decide) (backOf (W := 0) (rm11_1 l Z a0 hw [] a1 c0 c1 c2 G1 G3 T4.heap n0 (Nat.le_trans Z0 KH4.1) (by rw [eh4]; exact H3) (by rw [eh4]; exact S_CS) P5 (by rw [eh4]; exact O4) rG3 (by rw [eh4]; exact S__assertionsDisabled) (by rw [eh4]; exact S_HI_BYTE_SHIFT) (by rw [eh4]; exact S_LO_BYTE_SHIFT)) hZ (own_w hw 57 rfl) (own_w hw 5 rfl) (by decide) (by decide)) q5a q5c (g := (mkF m 21 #[.val (.ref a1)] [(.int (1 : Int32)), (.ref a1)])) rfl (by rw [hml]; rfl) (Steps.refl _) (argsL := [(.int (1 : Int32))]) (rest := []) (lenOf pd_4_10 rfl) rfl (by show 2 * 0 + _ ≤ _; exact Nat.le_of_eq rfl) (hb hby d4_21) (fun _ _ => ⟨rfl, rfl, (by decide : 0 + 0 ≤ _), (by decide : 0 + 0 ≤ _)⟩)
  dsimp only [Pt.U, Pt.locs, Pt.cells, Pt.slots] at X5 l5 y5 z5 st5 hQ5
  subst l5 y5 z5
  obtain ⟨rfl, N5q, e5q⟩ := hQ5
  have N5 := Fr.app N4 N5q
  have K5q : Keep T4.heap T5.heap [] := own_keep e5q
  have KH5 : Keep h0 T5.heap [] := KH4.trans K5q own_ws0
  have eh5 : T5.heap = h0 := by rw [e5q]; exact eh4
  obtain ⟨_, _, ⟨T6, L6, k6, n6⟩, -, X6, ⟨Lc6, hQ6, l6, y6, z6⟩, st6⟩ := Jvm.LawKit.callS X5 hx (y := (⟨"com/example/marcwerk/marcwerk/marc/MarcText", "isTagCharacter", "(C)Z"⟩ : MethodName)) hown (mvT hZ (own_w hw 75 rfl)) (mvT hZ (own_w hw 76 rfl)) (mvT hZ (own_w hw 26 rfl)) (mvT hZ (own_w hw 77 rfl)) (by decide) (backOf (W := 0) (rm16 l Z a0 hw [] c1  T5.heap n0 (Nat.le_trans Z0 KH5.1)) hZ (own_w hw 77 rfl) (own_w hw 26 rfl) (by decide) (by decide)) (g := (mkF m 24 #[.val (.ref a1)] [(.int c1)])) rfl (by rw [hml]; rfl) (argsL := [(.int c1)]) (rest := []) (lenOf pd_4_9 rfl) rfl (by show 2 * 0 + _ ≤ _; exact Nat.le_of_eq rfl) (hb hby d4_24) (fun _ _ => ⟨rfl, rfl, (by decide : 0 + 0 ≤ _), (by decide : 0 + 0 ≤ _)⟩)
  dsimp only [Pt.U, Pt.locs, Pt.cells, Pt.slots] at X6 l6 y6 z6 st6 hQ6
  subst l6 y6 z6
  obtain ⟨rfl, N6q, e6q⟩ := hQ6
  have N6 := Fr.app N5 N6q
  have K6q : Keep T5.heap T6.heap [] := own_keep e6q
  have KH6 : Keep h0 T6.heap [] := KH5.trans K6q own_ws0
  have eh6 : T6.heap = h0 := by rw [e6q]; exact eh5
  obtain ⟨cq7, kq7, q7a, q7b, q7c⟩ := isOf hZ rfl (((((E_a1.keep K2q).keep K3q).keep K4q).keep K5q).keep K6q)
  obtain ⟨_, _, ⟨T7, L7, k7, n7⟩, -, X7, ⟨Lc7, hQ7, l7, y7, z7⟩, st7⟩ := X6.virtualBack hx (y := (⟨"java/lang/String", "charAt", "(I)C"⟩ : MethodName)) (z := (⟨"java/lang/String", "charAt", "(I)C"⟩ : MethodName)) hown (mvT hZ (own_w hw 53 rfl)) (mvT hZ (own_w hw 54 rfl)) (notFace_of_selects (args := #[]) (mvT hZ (own_w hw 56 rfl))) (mvT hZ (own_w hw 56 rfl)) (mvT hZ (own_w hw 55 rfl)) (by decide) (backOf (W := 0) (rm11_2 l Z a0 hw [] a1 c0 c1 c2 G1 G3 T6.heap n0 (Nat.le_trans Z0 KH6.1) (by rw [eh6]; exact H3) (by rw [eh6]; exact S_CS) P5 (by rw [eh6]; exact O4) rG3 (by rw [eh6]; exact S__assertionsDisabled) (by rw [eh6]; exact S_HI_BYTE_SHIFT) (by rw [eh6]; exact S_LO_BYTE_SHIFT)) hZ (own_w hw 57 rfl) (own_w hw 5 rfl) (by decide) (by decide)) q7a q7c (g := (mkF m 32 #[.val (.ref a1)] [(.int (2 : Int32)), (.ref a1)])) rfl (by rw [hml]; rfl) (Steps.refl _) (argsL := [(.int (2 : Int32))]) (rest := []) (lenOf pd_4_10 rfl) rfl (by show 2 * 0 + _ ≤ _; exact Nat.le_of_eq rfl) (hb hby d4_32) (fun _ _ => ⟨rfl, rfl, (by decide : 0 + 0 ≤ _), (by decide : 0 + 0 ≤ _)⟩)
  dsimp only [Pt.U, Pt.locs, Pt.cells, Pt.slots] at X7 l7 y7 z7 st7 hQ7
  subst l7 y7 z7
  obtain ⟨rfl, N7q, e7q⟩ := hQ7
  have N7 := Fr.app N6 N7q
  have K7q : Keep T6.heap T7.heap [] := own_keep e7q
  have KH7 : Keep h0 T7.heap [] := KH6.trans K7q own_ws0
  have eh7 : T7.heap = h0 := by rw [e7q]; exact eh6
  obtain ⟨_, _, ⟨T8, L8, k8, n8⟩, -, X8, ⟨Lc8, hQ8, l8, y8, z8⟩, st8⟩ := Jvm.LawKit.callS X7 hx (y := (⟨"com/example/marcwerk/marcwerk/marc/MarcText", "isTagCharacter", "(C)Z"⟩ : MethodName)) hown (mvT hZ (own_w hw 75 rfl)) (mvT hZ (own_w hw 76 rfl)) (mvT hZ (own_w hw 26 rfl)) (mvT hZ (own_w hw 77 rfl)) (by decide) (backOf (W := 0) (rm16 l Z a0 hw [] c2  T7.heap n0 (Nat.le_trans Z0 KH7.1)) hZ (own_w hw 77 rfl) (own_w hw 26 rfl) (by decide) (by decide)) (g := (mkF m 35 #[.val (.ref a1)] [(.int c2)])) rfl (by rw [hml]; rfl) (argsL := [(.int c2)]) (rest := []) (lenOf pd_4_9 rfl) rfl (by show 2 * 0 + _ ≤ _; exact Nat.le_of_eq rfl) (hb hby d4_35) (fun _ _ => ⟨rfl, rfl, (by decide : 0 + 0 ≤ _), (by decide : 0 + 0 ≤ _)⟩)
  dsimp only [Pt.U, Pt.locs, Pt.cells, Pt.slots] at X8 l8 y8 z8 st8 hQ8
  subst l8 y8 z8
  obtain ⟨rfl, N8q, e8q⟩ := hQ8
  have N8 := Fr.app N7 N8q
  have K8q : Keep T7.heap T8.heap [] := own_keep e8q
  have KH8 : Keep h0 T8.heap [] := KH7.trans K8q own_ws0
  have eh8 : T8.heap = h0 := by rw [e8q]; exact eh7
  obtain ⟨fs, hr, hrun, hended, hW, hsame⟩ := X8.leave (v := some (.int (1 : Int32))) (fun h => by rw [Bd.returns] at h; cases h) (BodyLoose.notSynchronized Bd)
  refine ⟨_, _, pre0 _ ?_, hrun, hended, _, _, rfl, ?_, ⟨_, rfl⟩, hW, hsame.mono (by decide) (by decide)⟩
  · show Steps p.tables e below (s₁.setTop (mkF m 0 #[.val (.ref a1)] [])) _
    refine XS.aloadN X0.here hx rfl (hb hby d4_0) rfl rfl ?_
    show Steps p.tables e below (s₁.setTop (mkF m 1 #[.val (.ref a1)] [(.ref a1)])) _
    refine st2.trans ?_
    show Steps p.tables e below (T2.setTop (mkF m 4 #[.val (.ref a1)] [(.int (3 : Int32))])) _
    refine XS.iconst X2.here hx rfl (hb hby d4_4) ?_
    refine XS.icmpNo X2.here hx rfl (hb hby d4_5) rfl (teq ht5).2 ?_
    refine XS.aloadN X2.here hx rfl (hb hby d4_8) rfl rfl ?_
    refine XS.iconst X2.here hx rfl (hb hby d4_9) ?_
    show Steps p.tables e below (T2.setTop (mkF m 10 #[.val (.ref a1)] [(.int (0 : Int32)), (.ref a1)])) _
    refine st3.trans ?_
    show Steps p.tables e below (T3.setTop (mkF m 13 #[.val (.ref a1)] [(.int c0)])) _
    refine st4 _ ?_
    show Steps p.tables e below (T4.setTop (mkF m 16 #[.val (.ref a1)] [(.int (own_f16 c0))])) _
    refine XS.ifNo X4.here hx rfl (hb hby d4_16) rfl ((if0 _ _).trans (feq ht16).1) ?_
    refine XS.aloadN X4.here hx rfl (hb hby d4_19) rfl rfl ?_
    refine XS.iconst X4.here hx rfl (hb hby d4_20) ?_
    show Steps p.tables e below (T4.setTop (mkF m 21 #[.val (.ref a1)] [(.int (1 : Int32)), (.ref a1)])) _
    refine st5.trans ?_
    show Steps p.tables e below (T5.setTop (mkF m 24 #[.val (.ref a1)] [(.int c1)])) _
    refine st6 _ ?_
    show Steps p.tables e below (T6.setTop (mkF m 27 #[.val (.ref a1)] [(.int (own_f16 c1))])) _
    refine XS.ifNo X6.here hx rfl (hb hby d4_27) rfl ((if0 _ _).trans (feq ht27).1) ?_
    refine XS.aloadN X6.here hx rfl (hb hby d4_30) rfl rfl ?_
    refine XS.iconst X6.here hx rfl (hb hby d4_31) ?_
    show Steps p.tables e below (T6.setTop (mkF m 32 #[.val (.ref a1)] [(.int (2 : Int32)), (.ref a1)])) _
    refine st7.trans ?_
    show Steps p.tables e below (T7.setTop (mkF m 35 #[.val (.ref a1)] [(.int c2)])) _
    refine st8 _ ?_
    show Steps p.tables e below (T8.setTop (mkF m 38 #[.val (.ref a1)] [(.int (own_f16 c2))])) _
    refine XS.ifNo X8.here hx rfl (hb hby d4_38) rfl ((if0 _ _).trans (feq ht38).1) ?_
    refine XS.iconst X8.here hx rfl (hb hby d4_41) ?_
    refine XS.goto X8.here hx rfl (pc0 := 42) (pc' := 46) rfl (hb hby d4_42) (by decide) (by decide) ?_
    show Steps p.tables e below (T8.setTop (mkF m 46 #[.val (.ref a1)] [(.int (1 : Int32))])) _
    exact retN X8 hx (t := .boolean) Bd.returns (by simp) (hb hby d4_46) hr
  · show Q4 Z (1 : Int32) h0 n0 _ T8.heap _
    exact ⟨rfl, N8, eh8⟩
def own_tag (c0 c1 c2 : Int32) : Int32 := if own_f16 c0 = 0 then 0 else if own_f16 c1 = 0 then 0 else if own_f16 c2 = 0 then 0 else 1
set_option maxRecDepth 65536 in
set_option maxHeartbeats 40000000 in
theorem rm4_3 (l : Launch) (Z : State) (a0 : Array Value) (hw : ∀ d ∈ tables_1, d.before a0 Z = true) (ws : List Jvm.Cond) (a1 : Addr) (c0 : Int32) (c1 : Int32) (c2 : Int32) (G1 : Int32) (G3 : Value) (h0 : Heap) (n0 : Nat) (Z0 : n0 ≤ h0.size) (H3 : own_S3 Z h0 a1 c0 c1 c2) (S_CS : Sta Z h0 "java/lang/String" "COMPACT_STRINGS" "Z" (.int G1)) (P5 : ¬ (G1 = (0 : Int32))) (O4 : Sta Z h0 "jdk/internal/util/Preconditions" "SIOOBE_FORMATTER" "Ljava/util/function/BiFunction;" G3) (rG3 : G3.isRef = true) (S__assertionsDisabled : Sta Z h0 "java/lang/StringUTF16" "$assertionsDisabled" "Z" (.int (1 : Int32))) (S_HI_BYTE_SHIFT : Sta Z h0 "java/lang/StringUTF16" "HI_BYTE_SHIFT" "I" (.int (0 : Int32))) (S_LO_BYTE_SHIFT : Sta Z h0 "java/lang/StringUTF16" "LO_BYTE_SHIFT" "I" (.int (8 : Int32))) :
    MetFree l (⟨"com/example/marcwerk/marcwerk/marc/MarcText", "isTag", "(Ljava/lang/String;)Z"⟩ : MethodName) (head1 (Jvm.Cond.code (⟨"com/example/marcwerk/marcwerk/marc/MarcText", "isTag", "(Ljava/lang/String;)Z"⟩ : MethodName) prog_21_method_3_code 1 (some .boolean) :: ws) ({ frames := 5, cells := 0, slots := 0, locals := 66 } : Room)) (fun a U => a = #[(.ref a1)] ∧ Z.Warmed39 U.vm ∧ U.heap = h0) (fun _ _ _ _ _ => True) (fun _ U o U' => ∃ v L, o = .returned v ∧ Q4 Z (own_tag c0 c1 c2) h0 n0 v U'.heap L ∧ FrameEnd U o U' L ({ frames := 5, cells := 0, slots := 0, locals := 66 } : Room).cells ({ frames := 5, cells := 0, slots := 0, locals := 66 } : Room).slots) := by
  unfold own_tag
  by_cases q0 : own_f16 c0 = 0
  · rw [if_pos q0]; exact rm4_ft l Z a0 hw ws a1 c0 c1 c2 G1 G3 h0 n0 Z0 H3 S_CS P5 O4 rG3 S__assertionsDisabled S_HI_BYTE_SHIFT S_LO_BYTE_SHIFT (by decide) q0
  · rw [if_neg q0]
    by_cases q1 : own_f16 c1 = 0
    · rw [if_pos q1]; exact rm4_fft l Z a0 hw ws a1 c0 c1 c2 G1 G3 h0 n0 Z0 H3 S_CS P5 O4 rG3 S__assertionsDisabled S_HI_BYTE_SHIFT S_LO_BYTE_SHIFT (by decide) q0 q1
    · rw [if_neg q1]
      by_cases q2 : own_f16 c2 = 0
      · rw [if_pos q2]; exact rm4_ffft l Z a0 hw ws a1 c0 c1 c2 G1 G3 h0 n0 Z0 H3 S_CS P5 O4 rG3 S__assertionsDisabled S_HI_BYTE_SHIFT S_LO_BYTE_SHIFT (by decide) q0 q1 q2
      · rw [if_neg q2]; exact rm4_ffff l Z a0 hw ws a1 c0 c1 c2 G1 G3 h0 n0 Z0 H3 S_CS P5 O4 rG3 S__assertionsDisabled S_HI_BYTE_SHIFT S_LO_BYTE_SHIFT (by decide) q0 q1 q2
theorem d9_0 : decode jdk_52_method_15_code 0 = .ok (.iload_n 1, 1) := by decide +kernel
theorem d9_1 : decode jdk_52_method_15_code 1 = .ok (.aload_n 0, 1) := by decide +kernel
theorem d9_2 : decode jdk_52_method_15_code 2 = .ok (.arraylength, 1) := by decide +kernel
theorem d9_3 : decode jdk_52_method_15_code 3 = .ok (.isub, 1) := by decide +kernel
theorem d9_4 : decode jdk_52_method_15_code 4 = .ok (.bipush 31, 2) := by decide +kernel
theorem d9_6 : decode jdk_52_method_15_code 6 = .ok (.iushr, 1) := by decide +kernel
theorem d9_7 : decode jdk_52_method_15_code 7 = .ok (.i2b, 1) := by decide +kernel
theorem d9_8 : decode jdk_52_method_15_code 8 = .ok (.ireturn, 1) := by decide +kernel
theorem pn_9 : plainName "java/lang/StringUTF16" = true := by first | (simp [plainName, overriddenIn]; done) | decide +kernel
theorem ef_9 (m : MethodId) (x0 : Addr) (x1 : Int32) : entryFrame m #[(.ref x0), (.int x1)] 2 = mkF m 0 #[.val (.ref x0), .val (.int x1)] [] := by first | (simp [entryFrame, mkF, argsToLocals, Value.category]; done) | rfl
def own_f9 (p2 : Int32) (z_a1 : Int32) : Int32 := (nar .byte ((((p2 - z_a1).toUInt32 >>> ((31 : Int32) &&& 31).toUInt32).toInt32).toInt8.toInt32))
def Q9 (Z : State) (a1 : Addr) (p2 : Int32) (cl_a1 : Cell) (z_a1 : Int32) (h0 : Heap) (n0 : Nat) (v : Option Value) (h : Heap) (L : List Loc) : Prop := v = some (.int (own_f9 p2 z_a1)) ∧ Fr n0 L ∧ h = h0
set_option maxRecDepth 65536 in
set_option maxHeartbeats 40000000 in
theorem rm9_x (l : Launch) (Z : State) (a0 : Array Value) (hw : ∀ d ∈ tables_1, d.before a0 Z = true) (ws : List Jvm.Cond) (a1 : Addr) (p2 : Int32) (cl_a1 : Cell) (z_a1 : Int32) (h0 : Heap) (n0 : Nat) (Z0 : n0 ≤ h0.size) (Ar_a1 : Arr Z h0 a1 cl_a1 .byte) (S_a1 : cl_a1.slots.size = z_a1.toNatClampNeg) (N_a1 : ¬ z_a1 < 0) :
    MetFree l (⟨"java/lang/StringUTF16", "coderFromArrayLen", "([BI)B"⟩ : MethodName) (head1 (Jvm.Cond.code (⟨"java/lang/StringUTF16", "coderFromArrayLen", "([BI)B"⟩ : MethodName) jdk_52_method_15_code 2 (some .byte) :: ws) ({ frames := 0, cells := 0, slots := 0, locals := 0 } : Room)) (fun a U => a = #[(.ref a1), (.int p2)] ∧ Z.Warmed39 U.vm ∧ U.heap = h0) (fun _ _ _ _ _ => True) (fun _ U o U' => ∃ v L, o = .returned v ∧ Q9 Z a1 p2 cl_a1 z_a1 h0 n0 v U'.heap L ∧ FrameEnd U o U' L ({ frames := 0, cells := 0, slots := 0, locals := 0 } : Room).cells ({ frames := 0, cells := 0, slots := 0, locals := 0 } : Room).slots) := by
  refine MetFree.of_bodySF (plainFor_of_name pn_9) hisR ?_
  intro p e s m args below meth c s₁ Bd hml0 hP hK
  obtain ⟨rfl, hZ, hh⟩ := hP
  have hx := Bd.exec
  have hby := Bd.bytes
  have hml : c.maxLocals = 2 := hml0
  have hown : s.vm.findClass "java/lang/StringUTF16" = some m.cls := findClass_of_methodNamed Bd.named
  have hnm := (name_of_methodNamed Bd.named Bd.method).1
  have X0 : Stand p l e ({ frames := 0, cells := 0, slots := 0, locals := 0 } : Room) s m #[(.ref a1), (.int p2)] below meth c s₁ [] 0 0 := Stand.of_body Bd
  have e0 : s₁.heap = h0 := by rw [← hh, Bd.state]; rfl
  have N0 := Fr.nil n0
  have pre0 : ∀ t, Steps p.tables e below (s₁.setTop (mkF m 0 #[.val (.ref a1), .val (.int p2)] [])) t → Steps p.tables e below (s₁.setTop (entryFrame m #[(.ref a1), (.int p2)] 2)) t := fun t k => castTop (ef_9 m a1 p2) k

  obtain ⟨fs, hr, hrun, hended, hW, hsame⟩ := X0.leave (v := some (.int (nar .byte ((((p2 - z_a1).toUInt32 >>> ((31 : Int32) &&& 31).toUInt32).toInt32).toInt8.toInt32)))) (fun h => by rw [Bd.returns] at h; cases h) (BodyLoose.notSynchronized Bd)
  refine ⟨_, _, pre0 _ ?_, hrun, hended, _, _, rfl, ?_, ⟨_, rfl⟩, hW, hsame.mono (by decide) (by decide)⟩
  · show Steps p.tables e below (s₁.setTop (mkF m 0 #[.val (.ref a1), .val (.int p2)] [])) _
    refine XS.iloadN X0.here hx rfl (hb hby d9_0) rfl ?_
    refine XS.aloadN X0.here hx rfl (hb hby d9_1) rfl rfl ?_
    show Steps p.tables e below (s₁.setTop (mkF m 2 #[.val (.ref a1), .val (.int p2)] [(.ref a1), (.int p2)])) _
    refine X0.arraylength hx (by rw [e0]; exact Ar_a1.1) (State.isArrayOf_alike hZ.alike Ar_a1.2.1) (g := (mkF m 2 #[.val (.ref a1), .val (.int p2)] [(.ref a1), (.int p2)])) rfl rfl (hb hby d9_2) _ ?_
    rw [len_of S_a1 N_a1]
    show Steps p.tables e below (s₁.setTop (mkF m 3 #[.val (.ref a1), .val (.int p2)] [(.int z_a1), (.int p2)])) _
    refine XS.isub X0.here hx rfl (hb hby d9_3) rfl ?_
    refine XS.bipush X0.here hx rfl (hb hby d9_4) ?_
    refine XS.iushr X0.here hx rfl (hb hby d9_6) rfl ?_
    refine XS.i2b X0.here hx rfl (hb hby d9_7) rfl ?_
    show Steps p.tables e below (s₁.setTop (mkF m 8 #[.val (.ref a1), .val (.int p2)] [(.int ((((p2 - z_a1).toUInt32 >>> ((31 : Int32) &&& 31).toUInt32).toInt32).toInt8.toInt32))])) _
    exact retN X0 hx (t := .byte) Bd.returns (by simp) (hb hby d9_8) hr
  · show Q9 Z a1 p2 cl_a1 z_a1 h0 n0 _ s₁.heap _
    rw [e0]
    exact ⟨rfl, N0, rfl⟩
set_option maxRecDepth 65536 in
set_option maxHeartbeats 40000000 in
theorem rm9 (l : Launch) (Z : State) (a0 : Array Value) (hw : ∀ d ∈ tables_1, d.before a0 Z = true) (ws : List Jvm.Cond) (a1 : Addr) (p2 : Int32) (cl_a1 : Cell) (z_a1 : Int32) (h0 : Heap) (n0 : Nat) (Z0 : n0 ≤ h0.size) (Ar_a1 : Arr Z h0 a1 cl_a1 .byte) (S_a1 : cl_a1.slots.size = z_a1.toNatClampNeg) (N_a1 : ¬ z_a1 < 0) :
    MetFree l (⟨"java/lang/StringUTF16", "coderFromArrayLen", "([BI)B"⟩ : MethodName) (head1 (Jvm.Cond.code (⟨"java/lang/StringUTF16", "coderFromArrayLen", "([BI)B"⟩ : MethodName) jdk_52_method_15_code 2 (some .byte) :: ws) ({ frames := 0, cells := 0, slots := 0, locals := 0 } : Room)) (fun a U => a = #[(.ref a1), (.int p2)] ∧ Z.Warmed39 U.vm ∧ U.heap = h0) (fun _ _ _ _ _ => True) (fun _ U o U' => ∃ v L, o = .returned v ∧ Q9 Z a1 p2 cl_a1 z_a1 h0 n0 v U'.heap L ∧ FrameEnd U o U' L ({ frames := 0, cells := 0, slots := 0, locals := 0 } : Room).cells ({ frames := 0, cells := 0, slots := 0, locals := 0 } : Room).slots) := by
  exact rm9_x l Z a0 hw ws a1 p2 cl_a1 z_a1 h0 n0 Z0 Ar_a1 S_a1 N_a1
theorem d19_0 : decode jdk_52_method_3_code 0 = .ok (.iload_n 0, 1) := by decide +kernel
theorem d19_1 : decode jdk_52_method_3_code 1 = .ok (.ifCond .ge 11, 3) := by decide +kernel
theorem d19_12 : decode jdk_52_method_3_code 12 = .ok (.iload_n 0, 1) := by decide +kernel
theorem d19_13 : decode jdk_52_method_3_code 13 = .ok (.ldc 20, 2) := by decide +kernel
theorem d19_15 : decode jdk_52_method_3_code 15 = .ok (.if_icmp .lt 40, 3) := by decide +kernel
theorem d19_55 : decode jdk_52_method_3_code 55 = .ok (.iload_n 0, 1) := by decide +kernel
theorem d19_56 : decode jdk_52_method_3_code 56 = .ok (.iconst 1, 1) := by decide +kernel
theorem d19_57 : decode jdk_52_method_3_code 57 = .ok (.ishl, 1) := by decide +kernel
theorem d19_58 : decode jdk_52_method_3_code 58 = .ok (.ireturn, 1) := by decide +kernel
theorem pn_19 : plainName "java/lang/StringUTF16" = true := by first | (simp [plainName, overriddenIn]; done) | decide +kernel
theorem ef_19 (m : MethodId) (x0 : Int32) : entryFrame m #[(.int x0)] 1 = mkF m 0 #[.val (.int x0)] [] := by first | (simp [entryFrame, mkF, argsToLocals, Value.category]; done) | rfl
def Q19 (Z : State) (p1 : Int32) (h0 : Heap) (n0 : Nat) (v : Option Value) (h : Heap) (L : List Loc) : Prop := v = some (.int (p1 <<< ((1 : Int32) &&& 31))) ∧ Fr n0 L ∧ h = h0
set_option maxRecDepth 65536 in
set_option maxHeartbeats 40000000 in
theorem rm19 (l : Launch) (Z : State) (a0 : Array Value) (hw : ∀ d ∈ tables_1, d.before a0 Z = true) (ws : List Jvm.Cond) (p1 : Int32) (h0 : Heap) (n0 : Nat) (Z0 : n0 ≤ h0.size) (hc1 : ¬ (p1 < (0 : Int32))) (hc15 : p1 < (1073741823 : Int32)) :
    MetFree l (⟨"java/lang/StringUTF16", "newBytesLength", "(I)I"⟩ : MethodName) (head1 (Jvm.Cond.code (⟨"java/lang/StringUTF16", "newBytesLength", "(I)I"⟩ : MethodName) jdk_52_method_3_code 1 (some .int) :: ws) ({ frames := 0, cells := 0, slots := 0, locals := 0 } : Room)) (fun a U => a = #[(.int p1)] ∧ Z.Warmed39 U.vm ∧ U.heap = h0) (fun _ _ _ _ _ => True) (fun _ U o U' => ∃ v L, o = .returned v ∧ Q19 Z p1 h0 n0 v U'.heap L ∧ FrameEnd U o U' L ({ frames := 0, cells := 0, slots := 0, locals := 0 } : Room).cells ({ frames := 0, cells := 0, slots := 0, locals := 0 } : Room).slots) := by
  refine MetFree.of_bodySF (plainFor_of_name pn_19) hisR ?_
  intro p e s m args below meth c s₁ Bd hml0 hP hK
  obtain ⟨rfl, hZ, hh⟩ := hP
  have hx := Bd.exec
  have hby := Bd.bytes
  have hml : c.maxLocals = 1 := hml0
  have hown : s.vm.findClass "java/lang/StringUTF16" = some m.cls := findClass_of_methodNamed Bd.named
  have hnm := (name_of_methodNamed Bd.named Bd.method).1
  have X0 : Stand p l e ({ frames := 0, cells := 0, slots := 0, locals := 0 } : Room) s m #[(.int p1)] below meth c s₁ [] 0 0 := Stand.of_body Bd
  have e0 : s₁.heap = h0 := by rw [← hh, Bd.state]; rfl
  have N0 := Fr.nil n0
  have pre0 : ∀ t, Steps p.tables e below (s₁.setTop (mkF m 0 #[.val (.int p1)] [])) t → Steps p.tables e below (s₁.setTop (entryFrame m #[(.int p1)] 1)) t := fun t k => castTop (ef_19 m p1) k

  obtain ⟨fs, hr, hrun, hended, hW, hsame⟩ := X0.leave (v := some (.int (p1 <<< ((1 : Int32) &&& 31)))) (fun h => by rw [Bd.returns] at h; cases h) (BodyLoose.notSynchronized Bd)
  refine ⟨_, _, pre0 _ ?_, hrun, hended, _, _, rfl, ?_, ⟨_, rfl⟩, hW, hsame.mono (by decide) (by decide)⟩
  · show Steps p.tables e below (s₁.setTop (mkF m 0 #[.val (.int p1)] [])) _
    refine XS.iloadN X0.here hx rfl (hb hby d19_0) rfl ?_
    refine XS.ifYes X0.here hx rfl (pc0 := 1) (pc' := 12) rfl (hb hby d19_1) rfl ((if0 _ _).trans (flt hc1).2.1) (by decide) (by decide) ?_
    refine XS.iloadN X0.here hx rfl (hb hby d19_12) rfl ?_
    show Steps p.tables e below (s₁.setTop (mkF m 13 #[.val (.int p1)] [(.int p1)])) _
    refine X0.ldcInt hx hown (mvT hZ (own_w hw 87 rfl)) (g := (mkF m 13 #[.val (.int p1)] [(.int p1)])) rfl (hb hby d19_13) _ ?_
    show Steps p.tables e below (s₁.setTop (mkF m 15 #[.val (.int p1)] [(.int (1073741823 : Int32)), (.int p1)])) _
    refine XS.icmpYes X0.here hx rfl (pc0 := 15) (pc' := 55) rfl (hb hby d19_15) rfl (tlt hc15).1 (by decide) (by decide) ?_
    refine XS.iloadN X0.here hx rfl (hb hby d19_55) rfl ?_
    refine XS.iconst X0.here hx rfl (hb hby d19_56) ?_
    refine XS.ishl X0.here hx rfl (hb hby d19_57) rfl ?_
    show Steps p.tables e below (s₁.setTop (mkF m 58 #[.val (.int p1)] [(.int (p1 <<< ((1 : Int32) &&& 31)))])) _
    exact retI X0 hx Bd.returns (hb hby d19_58) hr
  · show Q19 Z p1 h0 n0 _ s₁.heap _
    rw [e0]
    exact ⟨rfl, N0, rfl⟩
theorem d18_0 : decode jdk_52_method_2_code 0 = .ok (.iload_n 0, 1) := by decide +kernel
theorem d18_1 : decode jdk_52_method_2_code 1 = .ok (.invokestatic 11, 3) := by decide +kernel
theorem d18_4 : decode jdk_52_method_2_code 4 = .ok (.newarray .byte, 2) := by decide +kernel
theorem d18_6 : decode jdk_52_method_2_code 6 = .ok (.areturn, 1) := by decide +kernel
theorem pn_18 : plainName "java/lang/StringUTF16" = true := by first | (simp [plainName, overriddenIn]; done) | decide +kernel
theorem pd_18_16 : parseMethodDescriptor "(I)I" = some ⟨[.int], some .int⟩ := by decide +kernel
theorem ef_18_1 (m : MethodId) (x0 : Int32) : entryFrame m #[(.int x0)] 1 = mkF m 0 #[.val (.int x0)] [] := by first | (simp [entryFrame, mkF, argsToLocals, Value.category]; done) | rfl
def Q18_1 (Z : State) (h0 : Heap) (n0 : Nat) (v : Option Value) (h : Heap) (L : List Loc) : Prop := v = some (.ref h0.size) ∧ Fr n0 L ∧ Keep h0 h [] ∧ ∃ kb, Arv Z h h0.size kb .byte (2 : Int32) [Value.int (0 : Int32), Value.int (0 : Int32)] (.int (0 : Int32))
set_option maxRecDepth 65536 in
set_option maxHeartbeats 40000000 in
theorem rm18_1 (l : Launch) (Z : State) (a0 : Array Value) (hw : ∀ d ∈ tables_1, d.before a0 Z = true) (ws : List Jvm.Cond) (h0 : Heap) (n0 : Nat) (Z0 : n0 ≤ h0.size)  :
    MetFree l (⟨"java/lang/StringUTF16", "newBytesFor", "(I)[B"⟩ : MethodName) (head1 (Jvm.Cond.code (⟨"java/lang/StringUTF16", "newBytesFor", "(I)[B"⟩ : MethodName) jdk_52_method_2_code 1 (some (.array .byte)) :: ws) ({ frames := 1, cells := 1, slots := 2, locals := 12 } : Room)) (fun a U => a = #[(.int (1 : Int32))] ∧ Z.Warmed39 U.vm ∧ U.heap = h0) (fun _ _ _ _ _ => True) (fun _ U o U' => ∃ v L, o = .returned v ∧ Q18_1 Z h0 n0 v U'.heap L ∧ FrameEnd U o U' L ({ frames := 1, cells := 1, slots := 2, locals := 12 } : Room).cells ({ frames := 1, cells := 1, slots := 2, locals := 12 } : Room).slots) := by
  refine MetFree.of_bodySF (plainFor_of_name pn_18) hisR ?_
  intro p e s m args below meth c s₁ Bd hml0 hP hK
  obtain ⟨rfl, hZ, hh⟩ := hP
  have hx := Bd.exec
  have hby := Bd.bytes
  have hml : c.maxLocals = 1 := hml0
  have hown : s.vm.findClass "java/lang/StringUTF16" = some m.cls := findClass_of_methodNamed Bd.named
  have hnm := (name_of_methodNamed Bd.named Bd.method).1
  have X0 : Stand p l e ({ frames := 1, cells := 1, slots := 2, locals := 12 } : Room) s m #[(.int (1 : Int32))] below meth c s₁ [] 0 0 := Stand.of_body Bd
  have e0 : s₁.heap = h0 := by rw [← hh, Bd.state]; rfl
  have N0 := Fr.nil n0
  have pre0 : ∀ t, Steps p.tables e below (s₁.setTop (mkF m 0 #[.val (.int (1 : Int32))] [])) t → Steps p.tables e below (s₁.setTop (entryFrame m #[(.int (1 : Int32))] 1)) t := fun t k => castTop (ef_18_1 m (1 : Int32)) k
  obtain ⟨_, _, ⟨T2, L2, k2, n2⟩, -, X2, ⟨Lc2, hQ2, l2, y2, z2⟩, st2⟩ := Jvm.LawKit.callS X0 hx (y := (⟨"java/lang/StringUTF16", "newBytesLength", "(I)I"⟩ : MethodName)) hown (mvT hZ (own_w hw 84 rfl)) (mvT hZ (own_w hw 85 rfl)) (mvT hZ (own_w hw 41 rfl)) (mvT hZ (own_w hw 86 rfl)) (by decide) (backOf (W := 0) (rm19 l Z a0 hw [] (1 : Int32)  h0 n0 Z0 (by decide) (by decide)) hZ (own_w hw 86 rfl) (own_w hw 41 rfl) (by decide) (by decide)) (g := (mkF m 1 #[.val (.int (1 : Int32))] [(.int (1 : Int32))])) rfl (by rw [hml]; rfl) (argsL := [(.int (1 : Int32))]) (rest := []) (lenOf pd_18_16 rfl) rfl (by show 2 * 0 + _ ≤ _; exact Nat.le_of_eq rfl) (hb hby d18_1) (fun _ _ => ⟨rfl, e0, (by decide : 0 + 0 ≤ _), (by decide : 0 + 0 ≤ _)⟩)
  dsimp only [Pt.U, Pt.locs, Pt.cells, Pt.slots] at X2 l2 y2 z2 st2 hQ2
  subst l2 y2 z2
  obtain ⟨rfl, N2q, e2q⟩ := hQ2
  have N2 := Fr.app N0 N2q
  have K2q : Keep h0 T2.heap [] := own_keep e2q
  have KH2 : Keep h0 T2.heap [] := (Keep.refl h0 []).trans K2q own_ws0
  have eh2 : T2.heap = h0 := by rw [e2q]
  rw [show (((1 : Int32)) <<< ((1 : Int32) &&& 31)) = (2 : Int32) from by decide] at st2
  obtain ⟨T3, h3, k3, X3, e3, E3, A3, st3⟩ := newP X2 hx hZ (own_w hw 17 rfl) rfl (g := (mkF m 4 #[.val (.int (1 : Int32))] [(.int (2 : Int32))])) rfl (hb hby d18_4) rfl (by decide) (cap := 2) (by decide) (by decide) (by decide) (by decide)
  obtain ⟨b3, g3⟩ : ∃ z, z = T2.heap.size := ⟨_, rfl⟩
  rw [← g3] at A3 st3
  have V_b3 : Arv Z h3 b3 k3 .byte (2 : Int32) [Value.int (0 : Int32), Value.int (0 : Int32)] (.int (0 : Int32)) := (Arv.new A3 (by decide)).pad (pad_rep [] (.int (0 : Int32)) 2)
  have g_b3 : n0 ≤ b3 := Nat.le_trans (Nat.le_trans Z0 K2q.1) (Nat.le_of_eq g3.symm)
  have sz_b3 : h0.size ≤ b3 := (Nat.le_trans KH2.1 (Nat.le_of_eq g3.symm))
  have K3 : Keep h0 h3 [] := KH2.ext E3
  obtain ⟨fs, hr, hrun, hended, hW, hsame⟩ := X3.leave (v := some (.ref b3)) (fun h => by rw [Bd.returns] at h; cases h) (BodyLoose.notSynchronized Bd)
  refine ⟨_, _, pre0 _ ?_, hrun, hended, _, _, rfl, ?_, ⟨_, rfl⟩, hW, hsame.mono (by decide) (by decide)⟩
  · show Steps p.tables e below (s₁.setTop (mkF m 0 #[.val (.int (1 : Int32))] [])) _
    refine XS.iloadN X0.here hx rfl (hb hby d18_0) rfl ?_
    show Steps p.tables e below (s₁.setTop (mkF m 1 #[.val (.int (1 : Int32))] [(.int (1 : Int32))])) _
    refine st2 _ ?_
    show Steps p.tables e below (T2.setTop (mkF m 4 #[.val (.int (1 : Int32))] [(.int (2 : Int32))])) _
    refine st3 _ ?_
    show Steps p.tables e below (T3.setTop (mkF m 6 #[.val (.int (1 : Int32))] [(.ref b3)])) _
    jvm_step X3.here [X3.here.top, hx, (hb hby d18_6), X3.method', Bd.returns, Value.isRef, FieldType.isReference]
    first | (intro acts; rw [hr _ acts rfl rfl rfl]) | rw [hr _ _ rfl rfl rfl]
    exact Steps.refl _
  · show Q18_1 Z h0 n0 _ T3.heap _
    rw [e3]
    exact ⟨(by rw [g3, eh2]), N2, K3, _, (eh2 ▸ g3 ▸ V_b3)⟩
theorem ef_18_2 (m : MethodId) (x0 : Int32) : entryFrame m #[(.int x0)] 1 = mkF m 0 #[.val (.int x0)] [] := by first | (simp [entryFrame, mkF, argsToLocals, Value.category]; done) | rfl
def Q18_2 (Z : State) (h0 : Heap) (n0 : Nat) (v : Option Value) (h : Heap) (L : List Loc) : Prop := v = some (.ref h0.size) ∧ Fr n0 L ∧ Keep h0 h [] ∧ ∃ kb, Arv Z h h0.size kb .byte (4 : Int32) [Value.int (0 : Int32), Value.int (0 : Int32), Value.int (0 : Int32), Value.int (0 : Int32)] (.int (0 : Int32))
set_option maxRecDepth 65536 in
set_option maxHeartbeats 40000000 in
theorem rm18_2 (l : Launch) (Z : State) (a0 : Array Value) (hw : ∀ d ∈ tables_1, d.before a0 Z = true) (ws : List Jvm.Cond) (h0 : Heap) (n0 : Nat) (Z0 : n0 ≤ h0.size)  :
    MetFree l (⟨"java/lang/StringUTF16", "newBytesFor", "(I)[B"⟩ : MethodName) (head1 (Jvm.Cond.code (⟨"java/lang/StringUTF16", "newBytesFor", "(I)[B"⟩ : MethodName) jdk_52_method_2_code 1 (some (.array .byte)) :: ws) ({ frames := 1, cells := 1, slots := 4, locals := 12 } : Room)) (fun a U => a = #[(.int (2 : Int32))] ∧ Z.Warmed39 U.vm ∧ U.heap = h0) (fun _ _ _ _ _ => True) (fun _ U o U' => ∃ v L, o = .returned v ∧ Q18_2 Z h0 n0 v U'.heap L ∧ FrameEnd U o U' L ({ frames := 1, cells := 1, slots := 4, locals := 12 } : Room).cells ({ frames := 1, cells := 1, slots := 4, locals := 12 } : Room).slots) := by
  refine MetFree.of_bodySF (plainFor_of_name pn_18) hisR ?_
  intro p e s m args below meth c s₁ Bd hml0 hP hK
  obtain ⟨rfl, hZ, hh⟩ := hP
  have hx := Bd.exec
  have hby := Bd.bytes
  have hml : c.maxLocals = 1 := hml0
  have hown : s.vm.findClass "java/lang/StringUTF16" = some m.cls := findClass_of_methodNamed Bd.named
  have hnm := (name_of_methodNamed Bd.named Bd.method).1
  have X0 : Stand p l e ({ frames := 1, cells := 1, slots := 4, locals := 12 } : Room) s m #[(.int (2 : Int32))] below meth c s₁ [] 0 0 := Stand.of_body Bd
  have e0 : s₁.heap = h0 := by rw [← hh, Bd.state]; rfl
  have N0 := Fr.nil n0
  have pre0 : ∀ t, Steps p.tables e below (s₁.setTop (mkF m 0 #[.val (.int (2 : Int32))] [])) t → Steps p.tables e below (s₁.setTop (entryFrame m #[(.int (2 : Int32))] 1)) t := fun t k => castTop (ef_18_2 m (2 : Int32)) k
  obtain ⟨_, _, ⟨T2, L2, k2, n2⟩, -, X2, ⟨Lc2, hQ2, l2, y2, z2⟩, st2⟩ := Jvm.LawKit.callS X0 hx (y := (⟨"java/lang/StringUTF16", "newBytesLength", "(I)I"⟩ : MethodName)) hown (mvT hZ (own_w hw 84 rfl)) (mvT hZ (own_w hw 85 rfl)) (mvT hZ (own_w hw 41 rfl)) (mvT hZ (own_w hw 86 rfl)) (by decide) (backOf (W := 0) (rm19 l Z a0 hw [] (2 : Int32)  h0 n0 Z0 (by decide) (by decide)) hZ (own_w hw 86 rfl) (own_w hw 41 rfl) (by decide) (by decide)) (g := (mkF m 1 #[.val (.int (2 : Int32))] [(.int (2 : Int32))])) rfl (by rw [hml]; rfl) (argsL := [(.int (2 : Int32))]) (rest := []) (lenOf pd_18_16 rfl) rfl (by show 2 * 0 + _ ≤ _; exact Nat.le_of_eq rfl) (hb hby d18_1) (fun _ _ => ⟨rfl, e0, (by decide : 0 + 0 ≤ _), (by decide : 0 + 0 ≤ _)⟩)
  dsimp only [Pt.U, Pt.locs, Pt.cells, Pt.slots] at X2 l2 y2 z2 st2 hQ2
  subst l2 y2 z2
  obtain ⟨rfl, N2q, e2q⟩ := hQ2
  have N2 := Fr.app N0 N2q
  have K2q : Keep h0 T2.heap [] := own_keep e2q
  have KH2 : Keep h0 T2.heap [] := (Keep.refl h0 []).trans K2q own_ws0
  have eh2 : T2.heap = h0 := by rw [e2q]
  rw [show (((2 : Int32)) <<< ((1 : Int32) &&& 31)) = (4 : Int32) from by decide] at st2
  obtain ⟨T3, h3, k3, X3, e3, E3, A3, st3⟩ := newP X2 hx hZ (own_w hw 17 rfl) rfl (g := (mkF m 4 #[.val (.int (2 : Int32))] [(.int (4 : Int32))])) rfl (hb hby d18_4) rfl (by decide) (cap := 4) (by decide) (by decide) (by decide) (by decide)
  obtain ⟨b3, g3⟩ : ∃ z, z = T2.heap.size := ⟨_, rfl⟩
  rw [← g3] at A3 st3
  have V_b3 : Arv Z h3 b3 k3 .byte (4 : Int32) [Value.int (0 : Int32), Value.int (0 : Int32), Value.int (0 : Int32), Value.int (0 : Int32)] (.int (0 : Int32)) := (Arv.new A3 (by decide)).pad (pad_rep [] (.int (0 : Int32)) 4)
  have g_b3 : n0 ≤ b3 := Nat.le_trans (Nat.le_trans Z0 K2q.1) (Nat.le_of_eq g3.symm)
  have sz_b3 : h0.size ≤ b3 := (Nat.le_trans KH2.1 (Nat.le_of_eq g3.symm))
  have K3 : Keep h0 h3 [] := KH2.ext E3
  obtain ⟨fs, hr, hrun, hended, hW, hsame⟩ := X3.leave (v := some (.ref b3)) (fun h => by rw [Bd.returns] at h; cases h) (BodyLoose.notSynchronized Bd)
  refine ⟨_, _, pre0 _ ?_, hrun, hended, _, _, rfl, ?_, ⟨_, rfl⟩, hW, hsame.mono (by decide) (by decide)⟩
  · show Steps p.tables e below (s₁.setTop (mkF m 0 #[.val (.int (2 : Int32))] [])) _
    refine XS.iloadN X0.here hx rfl (hb hby d18_0) rfl ?_
    show Steps p.tables e below (s₁.setTop (mkF m 1 #[.val (.int (2 : Int32))] [(.int (2 : Int32))])) _
    refine st2 _ ?_
    show Steps p.tables e below (T2.setTop (mkF m 4 #[.val (.int (2 : Int32))] [(.int (4 : Int32))])) _
    refine st3 _ ?_
    show Steps p.tables e below (T3.setTop (mkF m 6 #[.val (.int (2 : Int32))] [(.ref b3)])) _
    jvm_step X3.here [X3.here.top, hx, (hb hby d18_6), X3.method', Bd.returns, Value.isRef, FieldType.isReference]
    first | (intro acts; rw [hr _ acts rfl rfl rfl]) | rw [hr _ _ rfl rfl rfl]
    exact Steps.refl _
  · show Q18_2 Z h0 n0 _ T3.heap _
    rw [e3]
    exact ⟨(by rw [g3, eh2]), N2, K3, _, (eh2 ▸ g3 ▸ V_b3)⟩
theorem ef_18_3 (m : MethodId) (x0 : Int32) : entryFrame m #[(.int x0)] 1 = mkF m 0 #[.val (.int x0)] [] := by first | (simp [entryFrame, mkF, argsToLocals, Value.category]; done) | rfl
def Q18_3 (Z : State) (h0 : Heap) (n0 : Nat) (v : Option Value) (h : Heap) (L : List Loc) : Prop := v = some (.ref h0.size) ∧ Fr n0 L ∧ Keep h0 h [] ∧ ∃ kb, Arv Z h h0.size kb .byte (6 : Int32) [Value.int (0 : Int32), Value.int (0 : Int32), Value.int (0 : Int32), Value.int (0 : Int32), Value.int (0 : Int32), Value.int (0 : Int32)] (.int (0 : Int32))
set_option maxRecDepth 65536 in
set_option maxHeartbeats 40000000 in
theorem rm18_3 (l : Launch) (Z : State) (a0 : Array Value) (hw : ∀ d ∈ tables_1, d.before a0 Z = true) (ws : List Jvm.Cond) (h0 : Heap) (n0 : Nat) (Z0 : n0 ≤ h0.size)  :
    MetFree l (⟨"java/lang/StringUTF16", "newBytesFor", "(I)[B"⟩ : MethodName) (head1 (Jvm.Cond.code (⟨"java/lang/StringUTF16", "newBytesFor", "(I)[B"⟩ : MethodName) jdk_52_method_2_code 1 (some (.array .byte)) :: ws) ({ frames := 1, cells := 1, slots := 6, locals := 12 } : Room)) (fun a U => a = #[(.int (3 : Int32))] ∧ Z.Warmed39 U.vm ∧ U.heap = h0) (fun _ _ _ _ _ => True) (fun _ U o U' => ∃ v L, o = .returned v ∧ Q18_3 Z h0 n0 v U'.heap L ∧ FrameEnd U o U' L ({ frames := 1, cells := 1, slots := 6, locals := 12 } : Room).cells ({ frames := 1, cells := 1, slots := 6, locals := 12 } : Room).slots) := by
  refine MetFree.of_bodySF (plainFor_of_name pn_18) hisR ?_
  intro p e s m args below meth c s₁ Bd hml0 hP hK
  obtain ⟨rfl, hZ, hh⟩ := hP
  have hx := Bd.exec
  have hby := Bd.bytes
  have hml : c.maxLocals = 1 := hml0
  have hown : s.vm.findClass "java/lang/StringUTF16" = some m.cls := findClass_of_methodNamed Bd.named
  have hnm := (name_of_methodNamed Bd.named Bd.method).1
  have X0 : Stand p l e ({ frames := 1, cells := 1, slots := 6, locals := 12 } : Room) s m #[(.int (3 : Int32))] below meth c s₁ [] 0 0 := Stand.of_body Bd
  have e0 : s₁.heap = h0 := by rw [← hh, Bd.state]; rfl
  have N0 := Fr.nil n0
  have pre0 : ∀ t, Steps p.tables e below (s₁.setTop (mkF m 0 #[.val (.int (3 : Int32))] [])) t → Steps p.tables e below (s₁.setTop (entryFrame m #[(.int (3 : Int32))] 1)) t := fun t k => castTop (ef_18_3 m (3 : Int32)) k
  obtain ⟨_, _, ⟨T2, L2, k2, n2⟩, -, X2, ⟨Lc2, hQ2, l2, y2, z2⟩, st2⟩ := Jvm.LawKit.callS X0 hx (y := (⟨"java/lang/StringUTF16", "newBytesLength", "(I)I"⟩ : MethodName)) hown (mvT hZ (own_w hw 84 rfl)) (mvT hZ (own_w hw 85 rfl)) (mvT hZ (own_w hw 41 rfl)) (mvT hZ (own_w hw 86 rfl)) (by decide) (backOf (W := 0) (rm19 l Z a0 hw [] (3 : Int32)  h0 n0 Z0 (by decide) (by decide)) hZ (own_w hw 86 rfl) (own_w hw 41 rfl) (by decide) (by decide)) (g := (mkF m 1 #[.val (.int (3 : Int32))] [(.int (3 : Int32))])) rfl (by rw [hml]; rfl) (argsL := [(.int (3 : Int32))]) (rest := []) (lenOf pd_18_16 rfl) rfl (by show 2 * 0 + _ ≤ _; exact Nat.le_of_eq rfl) (hb hby d18_1) (fun _ _ => ⟨rfl, e0, (by decide : 0 + 0 ≤ _), (by decide : 0 + 0 ≤ _)⟩)
  dsimp only [Pt.U, Pt.locs, Pt.cells, Pt.slots] at X2 l2 y2 z2 st2 hQ2
  subst l2 y2 z2
  obtain ⟨rfl, N2q, e2q⟩ := hQ2
  have N2 := Fr.app N0 N2q
  have K2q : Keep h0 T2.heap [] := own_keep e2q
  have KH2 : Keep h0 T2.heap [] := (Keep.refl h0 []).trans K2q own_ws0
  have eh2 : T2.heap = h0 := by rw [e2q]
  rw [show (((3 : Int32)) <<< ((1 : Int32) &&& 31)) = (6 : Int32) from by decide] at st2
  obtain ⟨T3, h3, k3, X3, e3, E3, A3, st3⟩ := newP X2 hx hZ (own_w hw 17 rfl) rfl (g := (mkF m 4 #[.val (.int (3 : Int32))] [(.int (6 : Int32))])) rfl (hb hby d18_4) rfl (by decide) (cap := 6) (by decide) (by decide) (by decide) (by decide)
  obtain ⟨b3, g3⟩ : ∃ z, z = T2.heap.size := ⟨_, rfl⟩
  rw [← g3] at A3 st3
  have V_b3 : Arv Z h3 b3 k3 .byte (6 : Int32) [Value.int (0 : Int32), Value.int (0 : Int32), Value.int (0 : Int32), Value.int (0 : Int32), Value.int (0 : Int32), Value.int (0 : Int32)] (.int (0 : Int32)) := (Arv.new A3 (by decide)).pad (pad_rep [] (.int (0 : Int32)) 6)
  have g_b3 : n0 ≤ b3 := Nat.le_trans (Nat.le_trans Z0 K2q.1) (Nat.le_of_eq g3.symm)
  have sz_b3 : h0.size ≤ b3 := (Nat.le_trans KH2.1 (Nat.le_of_eq g3.symm))
  have K3 : Keep h0 h3 [] := KH2.ext E3
  obtain ⟨fs, hr, hrun, hended, hW, hsame⟩ := X3.leave (v := some (.ref b3)) (fun h => by rw [Bd.returns] at h; cases h) (BodyLoose.notSynchronized Bd)
  refine ⟨_, _, pre0 _ ?_, hrun, hended, _, _, rfl, ?_, ⟨_, rfl⟩, hW, hsame.mono (by decide) (by decide)⟩
  · show Steps p.tables e below (s₁.setTop (mkF m 0 #[.val (.int (3 : Int32))] [])) _
    refine XS.iloadN X0.here hx rfl (hb hby d18_0) rfl ?_
    show Steps p.tables e below (s₁.setTop (mkF m 1 #[.val (.int (3 : Int32))] [(.int (3 : Int32))])) _
    refine st2 _ ?_
    show Steps p.tables e below (T2.setTop (mkF m 4 #[.val (.int (3 : Int32))] [(.int (6 : Int32))])) _
    refine st3 _ ?_
    show Steps p.tables e below (T3.setTop (mkF m 6 #[.val (.int (3 : Int32))] [(.ref b3)])) _
    jvm_step X3.here [X3.here.top, hx, (hb hby d18_6), X3.method', Bd.returns, Value.isRef, FieldType.isReference]
    first | (intro acts; rw [hr _ acts rfl rfl rfl]) | rw [hr _ _ rfl rfl rfl]
    exact Steps.refl _
  · show Q18_3 Z h0 n0 _ T3.heap _
    rw [e3]
    exact ⟨(by rw [g3, eh2]), N2, K3, _, (eh2 ▸ g3 ▸ V_b3)⟩
theorem ef_18_4 (m : MethodId) (x0 : Int32) : entryFrame m #[(.int x0)] 1 = mkF m 0 #[.val (.int x0)] [] := by first | (simp [entryFrame, mkF, argsToLocals, Value.category]; done) | rfl
def Q18_4 (Z : State) (h0 : Heap) (n0 : Nat) (v : Option Value) (h : Heap) (L : List Loc) : Prop := v = some (.ref h0.size) ∧ Fr n0 L ∧ Keep h0 h [] ∧ ∃ kb, Arv Z h h0.size kb .byte (8 : Int32) [Value.int (0 : Int32), Value.int (0 : Int32), Value.int (0 : Int32), Value.int (0 : Int32), Value.int (0 : Int32), Value.int (0 : Int32), Value.int (0 : Int32), Value.int (0 : Int32)] (.int (0 : Int32))
set_option maxRecDepth 65536 in
set_option maxHeartbeats 40000000 in
theorem rm18_4 (l : Launch) (Z : State) (a0 : Array Value) (hw : ∀ d ∈ tables_1, d.before a0 Z = true) (ws : List Jvm.Cond) (h0 : Heap) (n0 : Nat) (Z0 : n0 ≤ h0.size)  :
    MetFree l (⟨"java/lang/StringUTF16", "newBytesFor", "(I)[B"⟩ : MethodName) (head1 (Jvm.Cond.code (⟨"java/lang/StringUTF16", "newBytesFor", "(I)[B"⟩ : MethodName) jdk_52_method_2_code 1 (some (.array .byte)) :: ws) ({ frames := 1, cells := 1, slots := 8, locals := 12 } : Room)) (fun a U => a = #[(.int (4 : Int32))] ∧ Z.Warmed39 U.vm ∧ U.heap = h0) (fun _ _ _ _ _ => True) (fun _ U o U' => ∃ v L, o = .returned v ∧ Q18_4 Z h0 n0 v U'.heap L ∧ FrameEnd U o U' L ({ frames := 1, cells := 1, slots := 8, locals := 12 } : Room).cells ({ frames := 1, cells := 1, slots := 8, locals := 12 } : Room).slots) := by
  refine MetFree.of_bodySF (plainFor_of_name pn_18) hisR ?_
  intro p e s m args below meth c s₁ Bd hml0 hP hK
  obtain ⟨rfl, hZ, hh⟩ := hP
  have hx := Bd.exec
  have hby := Bd.bytes
  have hml : c.maxLocals = 1 := hml0
  have hown : s.vm.findClass "java/lang/StringUTF16" = some m.cls := findClass_of_methodNamed Bd.named
  have hnm := (name_of_methodNamed Bd.named Bd.method).1
  have X0 : Stand p l e ({ frames := 1, cells := 1, slots := 8, locals := 12 } : Room) s m #[(.int (4 : Int32))] below meth c s₁ [] 0 0 := Stand.of_body Bd
  have e0 : s₁.heap = h0 := by rw [← hh, Bd.state]; rfl
  have N0 := Fr.nil n0
  have pre0 : ∀ t, Steps p.tables e below (s₁.setTop (mkF m 0 #[.val (.int (4 : Int32))] [])) t → Steps p.tables e below (s₁.setTop (entryFrame m #[(.int (4 : Int32))] 1)) t := fun t k => castTop (ef_18_4 m (4 : Int32)) k
  obtain ⟨_, _, ⟨T2, L2, k2, n2⟩, -, X2, ⟨Lc2, hQ2, l2, y2, z2⟩, st2⟩ := Jvm.LawKit.callS X0 hx (y := (⟨"java/lang/StringUTF16", "newBytesLength", "(I)I"⟩ : MethodName)) hown (mvT hZ (own_w hw 84 rfl)) (mvT hZ (own_w hw 85 rfl)) (mvT hZ (own_w hw 41 rfl)) (mvT hZ (own_w hw 86 rfl)) (by decide) (backOf (W := 0) (rm19 l Z a0 hw [] (4 : Int32)  h0 n0 Z0 (by decide) (by decide)) hZ (own_w hw 86 rfl) (own_w hw 41 rfl) (by decide) (by decide)) (g := (mkF m 1 #[.val (.int (4 : Int32))] [(.int (4 : Int32))])) rfl (by rw [hml]; rfl) (argsL := [(.int (4 : Int32))]) (rest := []) (lenOf pd_18_16 rfl) rfl (by show 2 * 0 + _ ≤ _; exact Nat.le_of_eq rfl) (hb hby d18_1) (fun _ _ => ⟨rfl, e0, (by decide : 0 + 0 ≤ _), (by decide : 0 + 0 ≤ _)⟩)
  dsimp only [Pt.U, Pt.locs, Pt.cells, Pt.slots] at X2 l2 y2 z2 st2 hQ2
  subst l2 y2 z2
  obtain ⟨rfl, N2q, e2q⟩ := hQ2
  have N2 := Fr.app N0 N2q
  have K2q : Keep h0 T2.heap [] := own_keep e2q
  have KH2 : Keep h0 T2.heap [] := (Keep.refl h0 []).trans K2q own_ws0
  have eh2 : T2.heap = h0 := by rw [e2q]
  rw [show (((4 : Int32)) <<< ((1 : Int32) &&& 31)) = (8 : Int32) from by decide] at st2
  obtain ⟨T3, h3, k3, X3, e3, E3, A3, st3⟩ := newP X2 hx hZ (own_w hw 17 rfl) rfl (g := (mkF m 4 #[.val (.int (4 : Int32))] [(.int (8 : Int32))])) rfl (hb hby d18_4) rfl (by decide) (cap := 8) (by decide) (by decide) (by decide) (by decide)
  obtain ⟨b3, g3⟩ : ∃ z, z = T2.heap.size := ⟨_, rfl⟩
  rw [← g3] at A3 st3
  have V_b3 : Arv Z h3 b3 k3 .byte (8 : Int32) [Value.int (0 : Int32), Value.int (0 : Int32), Value.int (0 : Int32), Value.int (0 : Int32), Value.int (0 : Int32), Value.int (0 : Int32), Value.int (0 : Int32), Value.int (0 : Int32)] (.int (0 : Int32)) := (Arv.new A3 (by decide)).pad (pad_rep [] (.int (0 : Int32)) 8)
  have g_b3 : n0 ≤ b3 := Nat.le_trans (Nat.le_trans Z0 K2q.1) (Nat.le_of_eq g3.symm)
  have sz_b3 : h0.size ≤ b3 := (Nat.le_trans KH2.1 (Nat.le_of_eq g3.symm))
  have K3 : Keep h0 h3 [] := KH2.ext E3
  obtain ⟨fs, hr, hrun, hended, hW, hsame⟩ := X3.leave (v := some (.ref b3)) (fun h => by rw [Bd.returns] at h; cases h) (BodyLoose.notSynchronized Bd)
  refine ⟨_, _, pre0 _ ?_, hrun, hended, _, _, rfl, ?_, ⟨_, rfl⟩, hW, hsame.mono (by decide) (by decide)⟩
  · show Steps p.tables e below (s₁.setTop (mkF m 0 #[.val (.int (4 : Int32))] [])) _
    refine XS.iloadN X0.here hx rfl (hb hby d18_0) rfl ?_
    show Steps p.tables e below (s₁.setTop (mkF m 1 #[.val (.int (4 : Int32))] [(.int (4 : Int32))])) _
    refine st2 _ ?_
    show Steps p.tables e below (T2.setTop (mkF m 4 #[.val (.int (4 : Int32))] [(.int (8 : Int32))])) _
    refine st3 _ ?_
    show Steps p.tables e below (T3.setTop (mkF m 6 #[.val (.int (4 : Int32))] [(.ref b3)])) _
    jvm_step X3.here [X3.here.top, hx, (hb hby d18_6), X3.method', Bd.returns, Value.isRef, FieldType.isReference]
    first | (intro acts; rw [hr _ acts rfl rfl rfl]) | rw [hr _ _ rfl rfl rfl]
    exact Steps.refl _
  · show Q18_4 Z h0 n0 _ T3.heap _
    rw [e3]
    exact ⟨(by rw [g3, eh2]), N2, K3, _, (eh2 ▸ g3 ▸ V_b3)⟩
theorem d20_0 : decode jdk_52_method_4_code 0 = .ok (.getstatic 44, 3) := by decide +kernel
theorem d20_3 : decode jdk_52_method_4_code 3 = .ok (.ifCond .ne 25, 3) := by decide +kernel
theorem d20_28 : decode jdk_52_method_4_code 28 = .ok (.iload_n 1, 1) := by decide +kernel
theorem d20_29 : decode jdk_52_method_4_code 29 = .ok (.iconst 1, 1) := by decide +kernel
theorem d20_30 : decode jdk_52_method_4_code 30 = .ok (.ishl, 1) := by decide +kernel
theorem d20_31 : decode jdk_52_method_4_code 31 = .ok (.istore_n 1, 1) := by decide +kernel
theorem d20_32 : decode jdk_52_method_4_code 32 = .ok (.aload_n 0, 1) := by decide +kernel
theorem d20_33 : decode jdk_52_method_4_code 33 = .ok (.iload_n 1, 1) := by decide +kernel
theorem d20_34 : decode jdk_52_method_4_code 34 = .ok (.iinc 1 1, 3) := by decide +kernel
theorem d20_37 : decode jdk_52_method_4_code 37 = .ok (.iload_n 2, 1) := by decide +kernel
theorem d20_38 : decode jdk_52_method_4_code 38 = .ok (.getstatic 59, 3) := by decide +kernel
theorem d20_41 : decode jdk_52_method_4_code 41 = .ok (.ishr, 1) := by decide +kernel
theorem d20_42 : decode jdk_52_method_4_code 42 = .ok (.i2b, 1) := by decide +kernel
theorem d20_43 : decode jdk_52_method_4_code 43 = .ok (.bastore, 1) := by decide +kernel
theorem d20_44 : decode jdk_52_method_4_code 44 = .ok (.aload_n 0, 1) := by decide +kernel
theorem d20_45 : decode jdk_52_method_4_code 45 = .ok (.iload_n 1, 1) := by decide +kernel
theorem d20_46 : decode jdk_52_method_4_code 46 = .ok (.iload_n 2, 1) := by decide +kernel
theorem d20_47 : decode jdk_52_method_4_code 47 = .ok (.getstatic 63, 3) := by decide +kernel
theorem d20_50 : decode jdk_52_method_4_code 50 = .ok (.ishr, 1) := by decide +kernel
theorem d20_51 : decode jdk_52_method_4_code 51 = .ok (.i2b, 1) := by decide +kernel
theorem d20_52 : decode jdk_52_method_4_code 52 = .ok (.bastore, 1) := by decide +kernel
theorem d20_53 : decode jdk_52_method_4_code 53 = .ok (.return_, 1) := by decide +kernel
theorem pn_20 : plainName "java/lang/StringUTF16" = true := by first | (simp [plainName, overriddenIn]; done) | decide +kernel
theorem ef_20 (m : MethodId) (x0 : Addr) (x1 : Int32) (x2 : Int32) : entryFrame m #[(.ref x0), (.int x1), (.int x2)] 3 = mkF m 0 #[.val (.ref x0), .val (.int x1), .val (.int x2)] [] := by first | (simp [entryFrame, mkF, argsToLocals, Value.category]; done) | rfl
def Q20 (Z : State) (a1 : Addr) (p3 : Int32) (kb : ClassId) (z : Int32) (us : List Value) (d : Value) (i0 : Nat) (h0 : Heap) (n0 : Nat) (v : Option Value) (h : Heap) (L : List Loc) : Prop := v = none ∧ Fr n0 L ∧ Keep h0 h [a1] ∧ Arv Z h a1 kb .byte z ((us.set i0 (.int (own_lo p3))).set (i0 + 1) (.int (own_hi p3))) d
set_option maxRecDepth 65536 in
set_option maxHeartbeats 40000000 in
theorem rm20 (l : Launch) (Z : State) (a0 : Array Value) (hw : ∀ d ∈ tables_1, d.before a0 Z = true) (ws : List Jvm.Cond) (a1 : Addr) (p2 : Int32) (p3 : Int32) (kb : ClassId) (z : Int32) (us : List Value) (d : Value) (i0 : Nat) (h0 : Heap) (n0 : Nat) (Z0 : n0 ≤ h0.size) (V : Arv Z h0 a1 kb .byte z us d) (hi0 : (p2 <<< ((1 : Int32) &&& 31)).toNatClampNeg = i0) (hi1 : ((p2 <<< ((1 : Int32) &&& 31)) + (1 : Int32)).toNatClampNeg = i0 + 1) (hn0 : ¬ ((p2 <<< ((1 : Int32) &&& 31)) < 0)) (hz0 : (p2 <<< ((1 : Int32) &&& 31)) < z) (hn1 : ¬ (((p2 <<< ((1 : Int32) &&& 31)) + (1 : Int32)) < 0)) (hz1 : ((p2 <<< ((1 : Int32) &&& 31)) + (1 : Int32)) < z) (hl0 : i0 < us.length) (hl1 : i0 + 1 < us.length) (g_a1 : n0 ≤ a1) (S__assertionsDisabled : Sta Z h0 "java/lang/StringUTF16" "$assertionsDisabled" "Z" (.int (1 : Int32))) (S_HI_BYTE_SHIFT : Sta Z h0 "java/lang/StringUTF16" "HI_BYTE_SHIFT" "I" (.int (0 : Int32))) (S_LO_BYTE_SHIFT : Sta Z h0 "java/lang/StringUTF16" "LO_BYTE_SHIFT" "I" (.int (8 : Int32))) :
    MetFree l (⟨"java/lang/StringUTF16", "putChar", "([BII)V"⟩ : MethodName) (head1 (Jvm.Cond.code (⟨"java/lang/StringUTF16", "putChar", "([BII)V"⟩ : MethodName) jdk_52_method_4_code 3 none :: ws) ({ frames := 0, cells := 0, slots := 0, locals := 0 } : Room)) (fun a U => a = #[(.ref a1), (.int p2), (.int p3)] ∧ Z.Warmed39 U.vm ∧ U.heap = h0) (fun _ _ _ _ _ => True) (fun _ U o U' => ∃ v L, o = .returned v ∧ Q20 Z a1 p3 kb z us d i0 h0 n0 v U'.heap L ∧ FrameEnd U o U' L ({ frames := 0, cells := 0, slots := 0, locals := 0 } : Room).cells ({ frames := 0, cells := 0, slots := 0, locals := 0 } : Room).slots) := by
  refine MetFree.of_bodySF (plainFor_of_name pn_20) hisR ?_
  intro p e s m args below meth c s₁ Bd hml0 hP hK
  obtain ⟨rfl, hZ, hh⟩ := hP
  have hx := Bd.exec
  have hby := Bd.bytes
  have hml : c.maxLocals = 3 := hml0
  have hown : s.vm.findClass "java/lang/StringUTF16" = some m.cls := findClass_of_methodNamed Bd.named
  have hnm := (name_of_methodNamed Bd.named Bd.method).1
  have X0 : Stand p l e ({ frames := 0, cells := 0, slots := 0, locals := 0 } : Room) s m #[(.ref a1), (.int p2), (.int p3)] below meth c s₁ [] 0 0 := Stand.of_body Bd
  have e0 : s₁.heap = h0 := by rw [← hh, Bd.state]; rfl
  have N0 := Fr.nil n0
  have pre0 : ∀ t, Steps p.tables e below (s₁.setTop (mkF m 0 #[.val (.ref a1), .val (.int p2), .val (.int p3)] [])) t → Steps p.tables e below (s₁.setTop (entryFrame m #[(.ref a1), (.int p2), (.int p3)] 3)) t := fun t k => castTop (ef_20 m a1 p2 p3) k
  obtain ⟨T5, X5, e5, st5⟩ := getS2 X0 hx hZ hown (host := "") (Or.inl (own_w hw 91 rfl)) Via.refl e0 S__assertionsDisabled (g := (mkF m 0 #[.val (.ref a1), .val (.int p2), .val (.int p3)] [])) rfl (hb hby d20_0)
  obtain ⟨T7, X7, e7, st7⟩ := getS2 X5 hx hZ hown (host := "") (Or.inl (own_w hw 92 rfl)) Via.refl e5 S_HI_BYTE_SHIFT (g := (mkF m 38 #[.val (.ref a1), .val (.int ((p2 <<< ((1 : Int32) &&& 31)) + (1 : Int32))), .val (.int p3)] [(.int p3), (.int (p2 <<< ((1 : Int32) &&& 31))), (.ref a1)])) rfl (hb hby d20_38)
  obtain ⟨cl_1, Ar_a1, q_1, S_1, N_1, H_1, G_1⟩ := V
  have hin43 : ¬ ((p2 <<< ((1 : Int32) &&& 31)) < 0 ∨ cl_1.slots.size ≤ ((p2 <<< ((1 : Int32) &&& 31))).toNatClampNeg) := inb_of S_1 ⟨hn0, hz0⟩
  obtain ⟨T8, h8, X8, e8, W8, st8⟩ := stB X7 hx hZ e7 Ar_a1 (j := (p2 <<< ((1 : Int32) &&& 31))) hin43 (g := (mkF m 43 #[.val (.ref a1), .val (.int ((p2 <<< ((1 : Int32) &&& 31)) + (1 : Int32))), .val (.int p3)] [(.int ((p3 >>> ((0 : Int32) &&& 31)).toInt8.toInt32)), (.int (p2 <<< ((1 : Int32) &&& 31))), (.ref a1)])) rfl rfl (hb hby d20_43)
  have V1 : Arv Z h8 a1 kb .byte z (us.set i0 (.int (own_lo p3))) d := Arv.set Ar_a1 q_1 S_1 N_1 H_1 G_1 (fits_nar_byte _) W8 i0 hi0 hl0
  have N8 := Fr.snoc X8 N0 g_a1
  have K8 : Keep h0 h8 [a1] := (Keep.refl h0 [a1]).wr W8 (Or.inl (List.mem_of_getElem? (i := 0) rfl))
  obtain ⟨T10, X10, e10, st10⟩ := getS2 X8 hx hZ hown (host := "") (Or.inl (own_w hw 93 rfl)) Via.refl e8 (S_LO_BYTE_SHIFT.wr W8) (g := (mkF m 47 #[.val (.ref a1), .val (.int ((p2 <<< ((1 : Int32) &&& 31)) + (1 : Int32))), .val (.int p3)] [(.int p3), (.int ((p2 <<< ((1 : Int32) &&& 31)) + (1 : Int32))), (.ref a1)])) rfl (hb hby d20_47)
  obtain ⟨cl_2, Ar_a1, q_2, S_2, N_2, H_2, G_2⟩ := V1
  have hin52 : ¬ (((p2 <<< ((1 : Int32) &&& 31)) + (1 : Int32)) < 0 ∨ cl_2.slots.size ≤ (((p2 <<< ((1 : Int32) &&& 31)) + (1 : Int32))).toNatClampNeg) := inb_of S_2 ⟨hn1, hz1⟩
  obtain ⟨T11, h11, X11, e11, W11, st11⟩ := stB X10 hx hZ e10 Ar_a1 (j := ((p2 <<< ((1 : Int32) &&& 31)) + (1 : Int32))) hin52 (g := (mkF m 52 #[.val (.ref a1), .val (.int ((p2 <<< ((1 : Int32) &&& 31)) + (1 : Int32))), .val (.int p3)] [(.int ((p3 >>> ((8 : Int32) &&& 31)).toInt8.toInt32)), (.int ((p2 <<< ((1 : Int32) &&& 31)) + (1 : Int32))), (.ref a1)])) rfl rfl (hb hby d20_52)
  have V2 : Arv Z h11 a1 kb .byte z ((us.set i0 (.int (own_lo p3))).set (i0 + 1) (.int (own_hi p3))) d := Arv.set Ar_a1 q_2 S_2 N_2 H_2 G_2 (fits_nar_byte _) W11 (i0 + 1) hi1 (by rw [List.length_set]; exact hl1)
  have N11 := Fr.snoc X11 N8 g_a1
  have K11 : Keep h0 h11 [a1] := K8.wr W11 (Or.inl (List.mem_of_getElem? (i := 0) rfl))
  obtain ⟨fs, hr, hrun, hended, hW, hsame⟩ := X11.leave (v := none) (fun _ => rfl) (BodyLoose.notSynchronized Bd)
  refine ⟨_, _, pre0 _ ?_, hrun, hended, _, _, rfl, ?_, ⟨_, rfl⟩, hW, hsame.mono (by decide) (by decide)⟩
  · show Steps p.tables e below (s₁.setTop (mkF m 0 #[.val (.ref a1), .val (.int p2), .val (.int p3)] [])) _
    refine st5 _ ?_
    show Steps p.tables e below (T5.setTop (mkF m 3 #[.val (.ref a1), .val (.int p2), .val (.int p3)] [(.int (1 : Int32))])) _
    refine XS.ifYes X5.here hx rfl (pc0 := 3) (pc' := 28) rfl (hb hby d20_3) rfl ((if0 _ _).trans (feq (by decide : ¬ ((1 : Int32) = (0 : Int32)))).2) (by decide) (by decide) ?_
    refine XS.iloadN X5.here hx rfl (hb hby d20_28) rfl ?_
    refine XS.iconst X5.here hx rfl (hb hby d20_29) ?_
    refine XS.ishl X5.here hx rfl (hb hby d20_30) rfl ?_
    refine XS.istoreN X5.here hx rfl (hb hby d20_31) rfl (l' := #[.val (.ref a1), .val (.int (p2 <<< ((1 : Int32) &&& 31))), .val (.int p3)]) rfl ?_
    refine XS.aloadN X5.here hx rfl (hb hby d20_32) rfl rfl ?_
    refine XS.iloadN X5.here hx rfl (hb hby d20_33) rfl ?_
    refine XS.iinc X5.here hx rfl (hb hby d20_34) rfl (l' := #[.val (.ref a1), .val (.int ((p2 <<< ((1 : Int32) &&& 31)) + (1 : Int32))), .val (.int p3)]) rfl ?_
    refine XS.iloadN X5.here hx rfl (hb hby d20_37) rfl ?_
    show Steps p.tables e below (T5.setTop (mkF m 38 #[.val (.ref a1), .val (.int ((p2 <<< ((1 : Int32) &&& 31)) + (1 : Int32))), .val (.int p3)] [(.int p3), (.int (p2 <<< ((1 : Int32) &&& 31))), (.ref a1)])) _
    refine st7 _ ?_
    show Steps p.tables e below (T7.setTop (mkF m 41 #[.val (.ref a1), .val (.int ((p2 <<< ((1 : Int32) &&& 31)) + (1 : Int32))), .val (.int p3)] [(.int (0 : Int32)), (.int p3), (.int (p2 <<< ((1 : Int32) &&& 31))), (.ref a1)])) _
    refine XS.ishr X7.here hx rfl (hb hby d20_41) rfl ?_
    refine XS.i2b X7.here hx rfl (hb hby d20_42) rfl ?_
    show Steps p.tables e below (T7.setTop (mkF m 43 #[.val (.ref a1), .val (.int ((p2 <<< ((1 : Int32) &&& 31)) + (1 : Int32))), .val (.int p3)] [(.int ((p3 >>> ((0 : Int32) &&& 31)).toInt8.toInt32)), (.int (p2 <<< ((1 : Int32) &&& 31))), (.ref a1)])) _
    refine st8 _ ?_
    show Steps p.tables e below (T8.setTop (mkF m 44 #[.val (.ref a1), .val (.int ((p2 <<< ((1 : Int32) &&& 31)) + (1 : Int32))), .val (.int p3)] [])) _
    refine XS.aloadN X8.here hx rfl (hb hby d20_44) rfl rfl ?_
    refine XS.iloadN X8.here hx rfl (hb hby d20_45) rfl ?_
    refine XS.iloadN X8.here hx rfl (hb hby d20_46) rfl ?_
    show Steps p.tables e below (T8.setTop (mkF m 47 #[.val (.ref a1), .val (.int ((p2 <<< ((1 : Int32) &&& 31)) + (1 : Int32))), .val (.int p3)] [(.int p3), (.int ((p2 <<< ((1 : Int32) &&& 31)) + (1 : Int32))), (.ref a1)])) _
    refine st10 _ ?_
    show Steps p.tables e below (T10.setTop (mkF m 50 #[.val (.ref a1), .val (.int ((p2 <<< ((1 : Int32) &&& 31)) + (1 : Int32))), .val (.int p3)] [(.int (8 : Int32)), (.int p3), (.int ((p2 <<< ((1 : Int32) &&& 31)) + (1 : Int32))), (.ref a1)])) _
    refine XS.ishr X10.here hx rfl (hb hby d20_50) rfl ?_
    refine XS.i2b X10.here hx rfl (hb hby d20_51) rfl ?_
    show Steps p.tables e below (T10.setTop (mkF m 52 #[.val (.ref a1), .val (.int ((p2 <<< ((1 : Int32) &&& 31)) + (1 : Int32))), .val (.int p3)] [(.int ((p3 >>> ((8 : Int32) &&& 31)).toInt8.toInt32)), (.int ((p2 <<< ((1 : Int32) &&& 31)) + (1 : Int32))), (.ref a1)])) _
    refine st11 _ ?_
    show Steps p.tables e below (T11.setTop (mkF m 53 #[.val (.ref a1), .val (.int ((p2 <<< ((1 : Int32) &&& 31)) + (1 : Int32))), .val (.int p3)] [])) _
    exact X11.returnOut hx Bd.returns (hb hby d20_53) hr
  · show Q20 Z a1 p3 kb z us d i0 h0 n0 _ T11.heap _
    rw [e11]
    exact ⟨rfl, N11, K11, V2⟩
theorem d8_3 : decode jdk_52_method_21_code 3 = .ok (.iload 5, 2) := by decide +kernel
theorem d8_5 : decode jdk_52_method_21_code 5 = .ok (.iload 4, 2) := by decide +kernel
theorem d8_7 : decode jdk_52_method_21_code 7 = .ok (.if_icmp .ge 37, 3) := by decide +kernel
theorem d8_10 : decode jdk_52_method_21_code 10 = .ok (.aload_n 0, 1) := by decide +kernel
theorem d8_11 : decode jdk_52_method_21_code 11 = .ok (.iload_n 1, 1) := by decide +kernel
theorem d8_12 : decode jdk_52_method_21_code 12 = .ok (.caload, 1) := by decide +kernel
theorem d8_13 : decode jdk_52_method_21_code 13 = .ok (.istore 6, 2) := by decide +kernel
theorem d8_15 : decode jdk_52_method_21_code 15 = .ok (.iload 6, 2) := by decide +kernel
theorem d8_17 : decode jdk_52_method_21_code 17 = .ok (.sipush 255, 3) := by decide +kernel
theorem d8_20 : decode jdk_52_method_21_code 20 = .ok (.if_icmp .le 6, 3) := by decide +kernel
theorem d8_26 : decode jdk_52_method_21_code 26 = .ok (.aload_n 2, 1) := by decide +kernel
theorem d8_27 : decode jdk_52_method_21_code 27 = .ok (.iload_n 3, 1) := by decide +kernel
theorem d8_28 : decode jdk_52_method_21_code 28 = .ok (.iload 6, 2) := by decide +kernel
theorem d8_30 : decode jdk_52_method_21_code 30 = .ok (.i2b, 1) := by decide +kernel
theorem d8_31 : decode jdk_52_method_21_code 31 = .ok (.bastore, 1) := by decide +kernel
theorem d8_32 : decode jdk_52_method_21_code 32 = .ok (.iinc 1 1, 3) := by decide +kernel
theorem d8_35 : decode jdk_52_method_21_code 35 = .ok (.iinc 3 1, 3) := by decide +kernel
theorem d8_38 : decode jdk_52_method_21_code 38 = .ok (.iinc 5 1, 3) := by decide +kernel
theorem d8_41 : decode jdk_52_method_21_code 41 = .ok (.goto (-38), 3) := by decide +kernel
theorem os8_13 {z0 : Value} {z1 : Value} {z2 : Value} {z3 : Value} {z4 : Value} {z5 : Value} {s6 : Slot} {v : Int32} (h : One s6) : storeLocals #[.val z0, .val z1, .val z2, .val z3, .val z4, .val z5, s6] 6 (.int v) = some #[.val z0, .val z1, .val z2, .val z3, .val z4, .val z5, .val (.int v)] := by
  rcases h with rfl | ⟨w, rfl, hw⟩
  · rfl
  · cases w <;> first | rfl | (simp [Value.category] at hw)
set_option maxRecDepth 65536 in
set_option maxHeartbeats 40000000 in
theorem own_t8 {p : Program} {l : Launch} {e : Env} {s : State} {m : MethodId} {args : Array Value} {below : List Frame} {meth : Method} {c : Code} {T0 : State} {locs : List Loc} {Z : State} {a0 : Array Value} {h0 : Heap} {n0 : Nat} (o0 : Addr) (i1 : Int32) (o2 : Addr) (i3 : Int32) (i4 : Int32) (i5 : Int32) (s6 : Slot) (w6 : Int32) (cl_o0 : Cell) (cl_o2 : Cell)
    (X0 : Stand p l e ({ frames := 0, cells := 0, slots := 0, locals := 0 } : Room) s m args below meth c T0 locs 0 0) (hx : p.tables.exec = Jvm.exec) (hZ : Z.Warmed39 s.vm) (hw : ∀ d ∈ tables_1, d.before a0 Z = true) (hby : c.code = jdk_52_method_21_code) (hml : c.maxLocals = 7) (hown : s.vm.findClass "java/lang/StringUTF16" = some m.cls) (e0 : T0.heap = h0) (N0 : Fr n0 locs) (Z0 : n0 ≤ h0.size) (hs6 : One s6) (Ar_o0 : Arr Z h0 o0 cl_o0 .char) (hin12 : ¬ (i1 < 0 ∨ cl_o0.slots.size ≤ (i1).toNatClampNeg)) (hat12 : cl_o0.slots[(i1).toNatClampNeg]? = some (.int w6)) (Ar_o2 : Arr Z h0 o2 cl_o2 .byte) (hin31 : ¬ (i3 < 0 ∨ cl_o2.slots.size ≤ (i3).toNatClampNeg)) (g_o2 : n0 ≤ o2) (hc7 : i5 < i4) (hc20 : ¬ ((255 : Int32) < w6)) :
    ∃ (T' : State) (h' : Heap) (locs' : List Loc) , Stand p l e ({ frames := 0, cells := 0, slots := 0, locals := 0 } : Room) s m args below meth c T' locs' 0 0 ∧ T'.heap = h' ∧ Fr n0 locs' ∧ Keep h0 h' [o2] ∧ (∃ cl' : Cell, Arr Z h' o2 cl' .byte ∧ cl'.slots.size = cl_o2.slots.size) ∧ ∀ target, Steps p.tables e below (T'.setTop (mkF m 3 #[.val (.ref o0), .val (.int (i1 + (1 : Int32))), .val (.ref o2), .val (.int (i3 + (1 : Int32))), .val (.int i4), .val (.int (i5 + (1 : Int32))), .val (.int w6)] [])) target → Steps p.tables e below (T0.setTop (mkF m 3 #[.val (.ref o0), .val (.int i1), .val (.ref o2), .val (.int i3), .val (.int i4), .val (.int i5), s6] [])) target := by
  obtain ⟨T7, h7, X7, e7, W7, st7⟩ := stB X0 hx hZ e0 Ar_o2 (j := i3) hin31 (g := (mkF m 31 #[.val (.ref o0), .val (.int i1), .val (.ref o2), .val (.int i3), .val (.int i4), .val (.int i5), .val (.int w6)] [(.int (w6.toInt8.toInt32)), (.int i3), (.ref o2)])) rfl rfl (hb hby d8_31)
  have N7 := Fr.snoc X7 N0 g_o2
  have K7 : Keep h0 h7 [o2] := (Keep.refl h0 [o2]).wr W7 (Or.inl (List.mem_of_getElem? (i := 0) rfl))
  refine ⟨T7, _, _, X7, e7, N7, K7, ⟨_, Ar_o2.same W7, sz_set _ _ _⟩, fun target kt => ?_⟩
  show Steps p.tables e below (T0.setTop (mkF m 3 #[.val (.ref o0), .val (.int i1), .val (.ref o2), .val (.int i3), .val (.int i4), .val (.int i5), s6] [])) _
  refine XS.iload X0.here hx rfl (hb hby d8_3) rfl ?_
  refine XS.iload X0.here hx rfl (hb hby d8_5) rfl ?_
  refine XS.icmpNo X0.here hx rfl (hb hby d8_7) rfl (tlt hc7).2.1 ?_
  refine XS.aloadN X0.here hx rfl (hb hby d8_10) rfl rfl ?_
  refine XS.iloadN X0.here hx rfl (hb hby d8_11) rfl ?_
  show Steps p.tables e below (T0.setTop (mkF m 12 #[.val (.ref o0), .val (.int i1), .val (.ref o2), .val (.int i3), .val (.int i4), .val (.int i5), s6] [(.int i1), (.ref o0)])) _
  refine X0.caload hx (j := i1) (v := (.int w6)) (by rw [e0]; exact Ar_o0.1) (State.isArrayOf_alike hZ.alike Ar_o0.2.1) Ar_o0.2.2 hin12 hat12 (g := (mkF m 12 #[.val (.ref o0), .val (.int i1), .val (.ref o2), .val (.int i3), .val (.int i4), .val (.int i5), s6] [(.int i1), (.ref o0)])) rfl rfl (hb hby d8_12) _ ?_
  show Steps p.tables e below (T0.setTop (mkF m 13 #[.val (.ref o0), .val (.int i1), .val (.ref o2), .val (.int i3), .val (.int i4), .val (.int i5), s6] [(.int w6)])) _
  refine XS.istore X0.here hx rfl (hb hby d8_13) rfl (l' := #[.val (.ref o0), .val (.int i1), .val (.ref o2), .val (.int i3), .val (.int i4), .val (.int i5), .val (.int w6)]) (os8_13 hs6) ?_
  refine XS.iload X0.here hx rfl (hb hby d8_15) rfl ?_
  refine XS.sipush X0.here hx rfl (hb hby d8_17) ?_
  refine XS.icmpYes X0.here hx rfl (pc0 := 20) (pc' := 26) rfl (hb hby d8_20) rfl (flt hc20).2.2.2 (by decide) (by decide) ?_
  refine XS.aloadN X0.here hx rfl (hb hby d8_26) rfl rfl ?_
  refine XS.iloadN X0.here hx rfl (hb hby d8_27) rfl ?_
  refine XS.iload X0.here hx rfl (hb hby d8_28) rfl ?_
  refine XS.i2b X0.here hx rfl (hb hby d8_30) rfl ?_
  show Steps p.tables e below (T0.setTop (mkF m 31 #[.val (.ref o0), .val (.int i1), .val (.ref o2), .val (.int i3), .val (.int i4), .val (.int i5), .val (.int w6)] [(.int (w6.toInt8.toInt32)), (.int i3), (.ref o2)])) _
  refine st7 _ ?_
  show Steps p.tables e below (T7.setTop (mkF m 32 #[.val (.ref o0), .val (.int i1), .val (.ref o2), .val (.int i3), .val (.int i4), .val (.int i5), .val (.int w6)] [])) _
  refine XS.iinc X7.here hx rfl (hb hby d8_32) rfl (l' := #[.val (.ref o0), .val (.int (i1 + (1 : Int32))), .val (.ref o2), .val (.int i3), .val (.int i4), .val (.int i5), .val (.int w6)]) rfl ?_
  refine XS.iinc X7.here hx rfl (hb hby d8_35) rfl (l' := #[.val (.ref o0), .val (.int (i1 + (1 : Int32))), .val (.ref o2), .val (.int (i3 + (1 : Int32))), .val (.int i4), .val (.int i5), .val (.int w6)]) rfl ?_
  refine XS.iinc X7.here hx rfl (hb hby d8_38) rfl (l' := #[.val (.ref o0), .val (.int (i1 + (1 : Int32))), .val (.ref o2), .val (.int (i3 + (1 : Int32))), .val (.int i4), .val (.int (i5 + (1 : Int32))), .val (.int w6)]) rfl ?_
  refine XS.goto X7.here hx rfl (pc0 := 41) (pc' := 3) rfl (hb hby d8_41) (by decide) (by decide) ?_
  exact kt
theorem os8_13_own_x8 {z0 : Value} {z1 : Value} {s2 : Slot} {s3 : Slot} {z4 : Value} {z5 : Value} {s6 : Slot} {v : Int32} (h : One s6) : storeLocals #[.val z0, .val z1, s2, s3, .val z4, .val z5, s6] 6 (.int v) = some #[.val z0, .val z1, s2, s3, .val z4, .val z5, .val (.int v)] := by
  rcases h with rfl | ⟨w, rfl, hw⟩
  · rfl
  · cases w <;> first | rfl | (simp [Value.category] at hw)
set_option maxRecDepth 65536 in
set_option maxHeartbeats 40000000 in
theorem own_x8 {p : Program} {l : Launch} {e : Env} {R : Room} {s : State} {m : MethodId} {args : Array Value} {below : List Frame} {meth : Method} {c : Code} {T0 : State} {locs : List Loc} {cells slots : Nat} {Z : State} {a0 : Array Value} {h0 : Heap} (o0 : Addr) (i1 : Int32) (s2 : Slot) (s3 : Slot) (i4 : Int32) (i5 : Int32) (s6 : Slot) (w6 : Int32) (cl_o0 : Cell)
    (X0 : Stand p l e R s m args below meth c T0 locs cells slots) (hx : p.tables.exec = Jvm.exec) (hZ : Z.Warmed39 s.vm) (hw : ∀ d ∈ tables_1, d.before a0 Z = true) (hby : c.code = jdk_52_method_21_code) (hml : c.maxLocals = 7) (hown : s.vm.findClass "java/lang/StringUTF16" = some m.cls) (e0 : T0.heap = h0) (Ar_o0 : Arr Z h0 o0 cl_o0 .char) (hin12 : ¬ (i1 < 0 ∨ cl_o0.slots.size ≤ (i1).toNatClampNeg)) (hat12 : cl_o0.slots[(i1).toNatClampNeg]? = some (.int w6)) (hs6 : One s6) (hc7 : i5 < i4) (hc20 : (255 : Int32) < w6) :
    ∃ (T' : State), Stand p l e R s m args below meth c T' locs cells slots ∧ T'.heap = h0 ∧
      ∀ target, Steps p.tables e below (T'.setTop (mkF m 23 #[.val (.ref o0), .val (.int i1), s2, s3, .val (.int i4), .val (.int i5), .val (.int w6)] [])) target → Steps p.tables e below (T0.setTop (mkF m 3 #[.val (.ref o0), .val (.int i1), s2, s3, .val (.int i4), .val (.int i5), s6] [])) target := by

  refine ⟨T0, X0, e0, fun target kt => ?_⟩
  show Steps p.tables e below (T0.setTop (mkF m 3 #[.val (.ref o0), .val (.int i1), s2, s3, .val (.int i4), .val (.int i5), s6] [])) _
  refine XS.iload X0.here hx rfl (hb hby d8_3) rfl ?_
  refine XS.iload X0.here hx rfl (hb hby d8_5) rfl ?_
  refine XS.icmpNo X0.here hx rfl (hb hby d8_7) rfl (tlt hc7).2.1 ?_
  refine XS.aloadN X0.here hx rfl (hb hby d8_10) rfl rfl ?_
  refine XS.iloadN X0.here hx rfl (hb hby d8_11) rfl ?_
  show Steps p.tables e below (T0.setTop (mkF m 12 #[.val (.ref o0), .val (.int i1), s2, s3, .val (.int i4), .val (.int i5), s6] [(.int i1), (.ref o0)])) _
  refine X0.caload hx (j := i1) (v := (.int w6)) (by rw [e0]; exact Ar_o0.1) (State.isArrayOf_alike hZ.alike Ar_o0.2.1) Ar_o0.2.2 hin12 hat12 (g := (mkF m 12 #[.val (.ref o0), .val (.int i1), s2, s3, .val (.int i4), .val (.int i5), s6] [(.int i1), (.ref o0)])) rfl rfl (hb hby d8_12) _ ?_
  show Steps p.tables e below (T0.setTop (mkF m 13 #[.val (.ref o0), .val (.int i1), s2, s3, .val (.int i4), .val (.int i5), s6] [(.int w6)])) _
  refine XS.istore X0.here hx rfl (hb hby d8_13) rfl (l' := #[.val (.ref o0), .val (.int i1), s2, s3, .val (.int i4), .val (.int i5), .val (.int w6)]) (os8_13_own_x8 hs6) ?_
  refine XS.iload X0.here hx rfl (hb hby d8_15) rfl ?_
  refine XS.sipush X0.here hx rfl (hb hby d8_17) ?_
  refine XS.icmpNo X0.here hx rfl (hb hby d8_20) rfl (tlt hc20).2.2.2 ?_
  exact kt
theorem own_lt {a b n : Int32} (h : b < n) (q : a.toInt ≤ b.toInt) : a < n := by
  rw [Int32.lt_iff_toInt_lt] at *; omega
theorem d8_0 : decode jdk_52_method_21_code 0 = .ok (.iconst 0, 1) := by decide +kernel
theorem d8_1 : decode jdk_52_method_21_code 1 = .ok (.istore 5, 2) := by decide +kernel
theorem d8_23 : decode jdk_52_method_21_code 23 = .ok (.iload 5, 2) := by decide +kernel
theorem d8_25 : decode jdk_52_method_21_code 25 = .ok (.ireturn, 1) := by decide +kernel
theorem pn_8 : plainName "java/lang/StringUTF16" = true := by first | (simp [plainName, overriddenIn]; done) | decide +kernel
theorem ef_8 (m : MethodId) (x0 : Addr) (x1 : Int32) (x2 : Addr) (x3 : Int32) (x4 : Int32) : entryFrame m #[(.ref x0), (.int x1), (.ref x2), (.int x3), (.int x4)] 7 = mkF m 0 #[.val (.ref x0), .val (.int x1), .val (.ref x2), .val (.int x3), .val (.int x4), .unset, .unset] [] := by first | (simp [entryFrame, mkF, argsToLocals, Value.category]; done) | rfl
def Q8 (Z : State) (b : Addr) (r : Int32) (h0 : Heap) (n0 : Nat) (v : Option Value) (h : Heap) (L : List Loc) : Prop := v = some (.int r) ∧ Fr n0 L ∧ Keep h0 h [b]
set_option maxRecDepth 65536 in
set_option maxHeartbeats 40000000 in
theorem rm8_0 (l : Launch) (Z : State) (a0 : Array Value) (hw : ∀ d ∈ tables_1, d.before a0 Z = true) (ws : List Jvm.Cond) (a1 : Addr) (a3 : Addr) (zn : Int32) (ka : ClassId) (vs : List Value) (dv : Value) (clb : Cell) (c0 : Int32) (h0 : Heap) (n0 : Nat) (Z0 : n0 ≤ h0.size) (V : Arv Z h0 a1 ka .char zn vs dv) (hv0 : vs.getD 0 dv = .int c0) (B : Arr Z h0 a3 clb .byte) (Bs : clb.slots.size = zn.toNatClampNeg) (nab : a1 ≠ a3) (g_b : n0 ≤ a3) (hk : (0 : Int32) < zn) (gt : (255 : Int32) < c0) :
    MetFree l (⟨"java/lang/StringUTF16", "compress", "([CI[BII)I"⟩ : MethodName) (head1 (Jvm.Cond.code (⟨"java/lang/StringUTF16", "compress", "([CI[BII)I"⟩ : MethodName) jdk_52_method_21_code 7 (some .int) :: ws) ({ frames := 0, cells := 0, slots := 0, locals := 0 } : Room)) (fun a U => a = #[(.ref a1), (.int (0 : Int32)), (.ref a3), (.int (0 : Int32)), (.int zn)] ∧ Z.Warmed39 U.vm ∧ U.heap = h0) (fun _ _ _ _ _ => True) (fun _ U o U' => ∃ v L, o = .returned v ∧ Q8 Z a3 (0 : Int32) h0 n0 v U'.heap L ∧ FrameEnd U o U' L ({ frames := 0, cells := 0, slots := 0, locals := 0 } : Room).cells ({ frames := 0, cells := 0, slots := 0, locals := 0 } : Room).slots) := by
  refine MetFree.of_bodySF (plainFor_of_name pn_8) hisR ?_
  intro p e s m args below meth c s₁ Bd hml0 hP hK
  obtain ⟨rfl, hZ, hh⟩ := hP
  have hx := Bd.exec
  have hby := Bd.bytes
  have hml : c.maxLocals = 7 := hml0
  have hown : s.vm.findClass "java/lang/StringUTF16" = some m.cls := findClass_of_methodNamed Bd.named
  have hnm := (name_of_methodNamed Bd.named Bd.method).1
  have X0 : Stand p l e ({ frames := 0, cells := 0, slots := 0, locals := 0 } : Room) s m #[(.ref a1), (.int (0 : Int32)), (.ref a3), (.int (0 : Int32)), (.int zn)] below meth c s₁ [] 0 0 := Stand.of_body Bd
  have e0 : s₁.heap = h0 := by rw [← hh, Bd.state]; rfl
  have N0 := Fr.nil n0
  have pre0 : ∀ t, Steps p.tables e below (s₁.setTop (mkF m 0 #[.val (.ref a1), .val (.int (0 : Int32)), .val (.ref a3), .val (.int (0 : Int32)), .val (.int zn), .unset, .unset] [])) t → Steps p.tables e below (s₁.setTop (entryFrame m #[(.ref a1), (.int (0 : Int32)), (.ref a3), (.int (0 : Int32)), (.int zn)] 7)) t := fun t k => castTop (ef_8 m a1 (0 : Int32) a3 (0 : Int32) zn) k
  obtain ⟨clx, Arx, qx, Sx, Mx, Hx, Gx⟩ := V
  have hlx : (0 : Int32) < zn := own_lt hk (by decide)
  have hax : clx.slots[((0 : Int32)).toNatClampNeg]? = some (.int c0) := by have q := Hx 0 (by have z := inb_of Sx ⟨(by decide : ¬ ((0 : Int32) < 0)), hlx⟩; exact Nat.lt_of_not_le fun y => z (Or.inr y)); rw [hv0] at q; exact q
  obtain ⟨Tx, Xx, ex, stx⟩ := own_x8 a1 (0 : Int32) (.val (.ref a3)) (.val (.int (0 : Int32))) zn (0 : Int32) .unset c0 clx X0 hx hZ hw hby hml hown e0 Arx (inb_of Sx ⟨by decide, hlx⟩) hax One.u hlx gt
  obtain ⟨fs, hr, hrun, hended, hW, hsame⟩ := Xx.leave (v := some (.int (0 : Int32))) (fun h => by rw [Bd.returns] at h; cases h) (BodyLoose.notSynchronized Bd)
  refine ⟨_, _, pre0 _ ?_, hrun, hended, _, _, rfl, ⟨rfl, N0, (show Keep h0 Tx.heap [a3] from ex ▸ Keep.refl h0 [a3])⟩, ⟨_, rfl⟩, hW, hsame.mono (by decide) (by decide)⟩
  refine XS.iconst X0.here hx rfl (hb hby d8_0) ?_
  refine XS.istore X0.here hx rfl (hb hby d8_1) rfl (l' := #[.val (.ref a1), .val (.int (0 : Int32)), .val (.ref a3), .val (.int (0 : Int32)), .val (.int zn), .val (.int (0 : Int32)), .unset]) rfl ?_
  refine stx _ ?_
  show Steps p.tables e below (Tx.setTop (mkF m 23 #[.val (.ref a1), .val (.int (0 : Int32)), .val (.ref a3), .val (.int (0 : Int32)), .val (.int zn), .val (.int (0 : Int32)), .val (.int c0)] [])) _
  refine XS.iload Xx.here hx rfl (hb hby d8_23) rfl ?_
  show Steps p.tables e below (Tx.setTop (mkF m 25 #[.val (.ref a1), .val (.int (0 : Int32)), .val (.ref a3), .val (.int (0 : Int32)), .val (.int zn), .val (.int (0 : Int32)), .val (.int c0)] [(.int (0 : Int32))])) _
  exact retI Xx hx Bd.returns (hb hby d8_25) hr
set_option maxRecDepth 65536 in
set_option maxHeartbeats 40000000 in
theorem rm8_1 (l : Launch) (Z : State) (a0 : Array Value) (hw : ∀ d ∈ tables_1, d.before a0 Z = true) (ws : List Jvm.Cond) (a1 : Addr) (a3 : Addr) (zn : Int32) (ka : ClassId) (vs : List Value) (dv : Value) (clb : Cell) (c0 : Int32) (c1 : Int32) (h0 : Heap) (n0 : Nat) (Z0 : n0 ≤ h0.size) (V : Arv Z h0 a1 ka .char zn vs dv) (hv0 : vs.getD 0 dv = .int c0) (hv1 : vs.getD 1 dv = .int c1) (B : Arr Z h0 a3 clb .byte) (Bs : clb.slots.size = zn.toNatClampNeg) (nab : a1 ≠ a3) (g_b : n0 ≤ a3) (hk : (1 : Int32) < zn) (le0 : ¬ ((255 : Int32) < c0)) (gt : (255 : Int32) < c1) :
    MetFree l (⟨"java/lang/StringUTF16", "compress", "([CI[BII)I"⟩ : MethodName) (head1 (Jvm.Cond.code (⟨"java/lang/StringUTF16", "compress", "([CI[BII)I"⟩ : MethodName) jdk_52_method_21_code 7 (some .int) :: ws) ({ frames := 0, cells := 0, slots := 0, locals := 0 } : Room)) (fun a U => a = #[(.ref a1), (.int (0 : Int32)), (.ref a3), (.int (0 : Int32)), (.int zn)] ∧ Z.Warmed39 U.vm ∧ U.heap = h0) (fun _ _ _ _ _ => True) (fun _ U o U' => ∃ v L, o = .returned v ∧ Q8 Z a3 (1 : Int32) h0 n0 v U'.heap L ∧ FrameEnd U o U' L ({ frames := 0, cells := 0, slots := 0, locals := 0 } : Room).cells ({ frames := 0, cells := 0, slots := 0, locals := 0 } : Room).slots) := by
  refine MetFree.of_bodySF (plainFor_of_name pn_8) hisR ?_
  intro p e s m args below meth c s₁ Bd hml0 hP hK
  obtain ⟨rfl, hZ, hh⟩ := hP
  have hx := Bd.exec
  have hby := Bd.bytes
  have hml : c.maxLocals = 7 := hml0
  have hown : s.vm.findClass "java/lang/StringUTF16" = some m.cls := findClass_of_methodNamed Bd.named
  have hnm := (name_of_methodNamed Bd.named Bd.method).1
  have X0 : Stand p l e ({ frames := 0, cells := 0, slots := 0, locals := 0 } : Room) s m #[(.ref a1), (.int (0 : Int32)), (.ref a3), (.int (0 : Int32)), (.int zn)] below meth c s₁ [] 0 0 := Stand.of_body Bd
  have e0 : s₁.heap = h0 := by rw [← hh, Bd.state]; rfl
  have N0 := Fr.nil n0
  have pre0 : ∀ t, Steps p.tables e below (s₁.setTop (mkF m 0 #[.val (.ref a1), .val (.int (0 : Int32)), .val (.ref a3), .val (.int (0 : Int32)), .val (.int zn), .unset, .unset] [])) t → Steps p.tables e below (s₁.setTop (entryFrame m #[(.ref a1), (.int (0 : Int32)), (.ref a3), (.int (0 : Int32)), (.int zn)] 7)) t := fun t k => castTop (ef_8 m a1 (0 : Int32) a3 (0 : Int32) zn) k
  obtain ⟨cl0, Ar0, q0, S0, M0, H0, G0⟩ := V
  have hl0 : (0 : Int32) < zn := own_lt hk (by decide)
  have ha0 : cl0.slots[((0 : Int32)).toNatClampNeg]? = some (.int c0) := by have q := H0 0 (by have z := inb_of S0 ⟨(by decide : ¬ ((0 : Int32) < 0)), hl0⟩; exact Nat.lt_of_not_le fun y => z (Or.inr y)); rw [hv0] at q; exact q
  obtain ⟨T1, h1, locs1, X1, e1, N1, K1, ⟨clb1, B1, bs1⟩, st1⟩ := own_t8 a1 (0 : Int32) a3 (0 : Int32) zn (0 : Int32) .unset c0 cl0 clb X0 hx hZ hw hby hml hown e0 N0 Z0 One.u Ar0 (inb_of S0 ⟨by decide, hl0⟩) ha0 B (by rw [Bs]; exact (inb_of S0 ⟨by decide, hl0⟩ |> fun z => by rw [S0] at z; exact z)) g_b hl0 le0
  have V1 : Arv Z h1 a1 ka .char zn vs dv := (show Arv Z h0 a1 ka .char zn vs dv from ⟨cl0, Ar0, q0, S0, M0, H0, G0⟩).keep K1 (own_nin nab)
  have KK1 : Keep h0 h1 [a3] := K1
  have Bz1 : clb1.slots.size = zn.toNatClampNeg := by rw [bs1]; exact Bs
  obtain ⟨clx, Arx, qx, Sx, Mx, Hx, Gx⟩ := V1
  have hlx : ((0 : Int32) + (1 : Int32)) < zn := own_lt hk (by decide)
  have hax : clx.slots[(((0 : Int32) + (1 : Int32))).toNatClampNeg]? = some (.int c1) := by have q := Hx 1 (by have z := inb_of Sx ⟨(by decide : ¬ (((0 : Int32) + (1 : Int32)) < 0)), hlx⟩; exact Nat.lt_of_not_le fun y => z (Or.inr y)); rw [hv1] at q; exact q
  obtain ⟨Tx, Xx, ex, stx⟩ := own_x8 a1 ((0 : Int32) + (1 : Int32)) (.val (.ref a3)) (.val (.int ((0 : Int32) + (1 : Int32)))) zn ((0 : Int32) + (1 : Int32)) (.val (.int c0)) c1 clx X1 hx hZ hw hby hml hown e1 Arx (inb_of Sx ⟨by decide, hlx⟩) hax (One.val rfl) hlx gt
  obtain ⟨fs, hr, hrun, hended, hW, hsame⟩ := Xx.leave (v := some (.int (1 : Int32))) (fun h => by rw [Bd.returns] at h; cases h) (BodyLoose.notSynchronized Bd)
  refine ⟨_, _, pre0 _ ?_, hrun, hended, _, _, rfl, ⟨rfl, N1, ex ▸ KK1⟩, ⟨_, rfl⟩, hW, hsame.mono (by decide) (by decide)⟩
  refine XS.iconst X0.here hx rfl (hb hby d8_0) ?_
  refine XS.istore X0.here hx rfl (hb hby d8_1) rfl (l' := #[.val (.ref a1), .val (.int (0 : Int32)), .val (.ref a3), .val (.int (0 : Int32)), .val (.int zn), .val (.int (0 : Int32)), .unset]) rfl ?_
  refine st1 _ ?_
  refine stx _ ?_
  show Steps p.tables e below (Tx.setTop (mkF m 23 #[.val (.ref a1), .val (.int ((0 : Int32) + (1 : Int32))), .val (.ref a3), .val (.int ((0 : Int32) + (1 : Int32))), .val (.int zn), .val (.int ((0 : Int32) + (1 : Int32))), .val (.int c1)] [])) _
  refine XS.iload Xx.here hx rfl (hb hby d8_23) rfl ?_
  show Steps p.tables e below (Tx.setTop (mkF m 25 #[.val (.ref a1), .val (.int ((0 : Int32) + (1 : Int32))), .val (.ref a3), .val (.int ((0 : Int32) + (1 : Int32))), .val (.int zn), .val (.int ((0 : Int32) + (1 : Int32))), .val (.int c1)] [(.int (1 : Int32))])) _
  exact retI Xx hx Bd.returns (hb hby d8_25) hr
set_option maxRecDepth 65536 in
set_option maxHeartbeats 40000000 in
theorem rm8_2 (l : Launch) (Z : State) (a0 : Array Value) (hw : ∀ d ∈ tables_1, d.before a0 Z = true) (ws : List Jvm.Cond) (a1 : Addr) (a3 : Addr) (zn : Int32) (ka : ClassId) (vs : List Value) (dv : Value) (clb : Cell) (c0 : Int32) (c1 : Int32) (c2 : Int32) (h0 : Heap) (n0 : Nat) (Z0 : n0 ≤ h0.size) (V : Arv Z h0 a1 ka .char zn vs dv) (hv0 : vs.getD 0 dv = .int c0) (hv1 : vs.getD 1 dv = .int c1) (hv2 : vs.getD 2 dv = .int c2) (B : Arr Z h0 a3 clb .byte) (Bs : clb.slots.size = zn.toNatClampNeg) (nab : a1 ≠ a3) (g_b : n0 ≤ a3) (hk : (2 : Int32) < zn) (le0 : ¬ ((255 : Int32) < c0)) (le1 : ¬ ((255 : Int32) < c1)) (gt : (255 : Int32) < c2) :
    MetFree l (⟨"java/lang/StringUTF16", "compress", "([CI[BII)I"⟩ : MethodName) (head1 (Jvm.Cond.code (⟨"java/lang/StringUTF16", "compress", "([CI[BII)I"⟩ : MethodName) jdk_52_method_21_code 7 (some .int) :: ws) ({ frames := 0, cells := 0, slots := 0, locals := 0 } : Room)) (fun a U => a = #[(.ref a1), (.int (0 : Int32)), (.ref a3), (.int (0 : Int32)), (.int zn)] ∧ Z.Warmed39 U.vm ∧ U.heap = h0) (fun _ _ _ _ _ => True) (fun _ U o U' => ∃ v L, o = .returned v ∧ Q8 Z a3 (2 : Int32) h0 n0 v U'.heap L ∧ FrameEnd U o U' L ({ frames := 0, cells := 0, slots := 0, locals := 0 } : Room).cells ({ frames := 0, cells := 0, slots := 0, locals := 0 } : Room).slots) := by
  refine MetFree.of_bodySF (plainFor_of_name pn_8) hisR ?_
  intro p e s m args below meth c s₁ Bd hml0 hP hK
  obtain ⟨rfl, hZ, hh⟩ := hP
  have hx := Bd.exec
  have hby := Bd.bytes
  have hml : c.maxLocals = 7 := hml0
  have hown : s.vm.findClass "java/lang/StringUTF16" = some m.cls := findClass_of_methodNamed Bd.named
  have hnm := (name_of_methodNamed Bd.named Bd.method).1
  have X0 : Stand p l e ({ frames := 0, cells := 0, slots := 0, locals := 0 } : Room) s m #[(.ref a1), (.int (0 : Int32)), (.ref a3), (.int (0 : Int32)), (.int zn)] below meth c s₁ [] 0 0 := Stand.of_body Bd
  have e0 : s₁.heap = h0 := by rw [← hh, Bd.state]; rfl
  have N0 := Fr.nil n0
  have pre0 : ∀ t, Steps p.tables e below (s₁.setTop (mkF m 0 #[.val (.ref a1), .val (.int (0 : Int32)), .val (.ref a3), .val (.int (0 : Int32)), .val (.int zn), .unset, .unset] [])) t → Steps p.tables e below (s₁.setTop (entryFrame m #[(.ref a1), (.int (0 : Int32)), (.ref a3), (.int (0 : Int32)), (.int zn)] 7)) t := fun t k => castTop (ef_8 m a1 (0 : Int32) a3 (0 : Int32) zn) k
  obtain ⟨cl0, Ar0, q0, S0, M0, H0, G0⟩ := V
  have hl0 : (0 : Int32) < zn := own_lt hk (by decide)
  have ha0 : cl0.slots[((0 : Int32)).toNatClampNeg]? = some (.int c0) := by have q := H0 0 (by have z := inb_of S0 ⟨(by decide : ¬ ((0 : Int32) < 0)), hl0⟩; exact Nat.lt_of_not_le fun y => z (Or.inr y)); rw [hv0] at q; exact q
  obtain ⟨T1, h1, locs1, X1, e1, N1, K1, ⟨clb1, B1, bs1⟩, st1⟩ := own_t8 a1 (0 : Int32) a3 (0 : Int32) zn (0 : Int32) .unset c0 cl0 clb X0 hx hZ hw hby hml hown e0 N0 Z0 One.u Ar0 (inb_of S0 ⟨by decide, hl0⟩) ha0 B (by rw [Bs]; exact (inb_of S0 ⟨by decide, hl0⟩ |> fun z => by rw [S0] at z; exact z)) g_b hl0 le0
  have V1 : Arv Z h1 a1 ka .char zn vs dv := (show Arv Z h0 a1 ka .char zn vs dv from ⟨cl0, Ar0, q0, S0, M0, H0, G0⟩).keep K1 (own_nin nab)
  have KK1 : Keep h0 h1 [a3] := K1
  have Bz1 : clb1.slots.size = zn.toNatClampNeg := by rw [bs1]; exact Bs
  obtain ⟨cl1, Ar1, q1, S1, M1, H1, G1⟩ := V1
  have hl1 : ((0 : Int32) + (1 : Int32)) < zn := own_lt hk (by decide)
  have ha1 : cl1.slots[(((0 : Int32) + (1 : Int32))).toNatClampNeg]? = some (.int c1) := by have q := H1 1 (by have z := inb_of S1 ⟨(by decide : ¬ (((0 : Int32) + (1 : Int32)) < 0)), hl1⟩; exact Nat.lt_of_not_le fun y => z (Or.inr y)); rw [hv1] at q; exact q
  obtain ⟨T2, h2, locs2, X2, e2, N2, K2, ⟨clb2, B2, bs2⟩, st2⟩ := own_t8 a1 ((0 : Int32) + (1 : Int32)) a3 ((0 : Int32) + (1 : Int32)) zn ((0 : Int32) + (1 : Int32)) (.val (.int c0)) c1 cl1 clb1 X1 hx hZ hw hby hml hown e1 N1 (Nat.le_trans Z0 KK1.1) (One.val rfl) Ar1 (inb_of S1 ⟨by decide, hl1⟩) ha1 B1 (by rw [Bz1]; exact (inb_of S1 ⟨by decide, hl1⟩ |> fun z => by rw [S1] at z; exact z)) g_b hl1 le1
  have V2 : Arv Z h2 a1 ka .char zn vs dv := (show Arv Z h1 a1 ka .char zn vs dv from ⟨cl1, Ar1, q1, S1, M1, H1, G1⟩).keep K2 (own_nin nab)
  have KK2 : Keep h0 h2 [a3] := KK1.trans K2 own_wsIn
  have Bz2 : clb2.slots.size = zn.toNatClampNeg := by rw [bs2]; exact Bz1
  obtain ⟨clx, Arx, qx, Sx, Mx, Hx, Gx⟩ := V2
  have hlx : (((0 : Int32) + (1 : Int32)) + (1 : Int32)) < zn := own_lt hk (by decide)
  have hax : clx.slots[((((0 : Int32) + (1 : Int32)) + (1 : Int32))).toNatClampNeg]? = some (.int c2) := by have q := Hx 2 (by have z := inb_of Sx ⟨(by decide : ¬ ((((0 : Int32) + (1 : Int32)) + (1 : Int32)) < 0)), hlx⟩; exact Nat.lt_of_not_le fun y => z (Or.inr y)); rw [hv2] at q; exact q
  obtain ⟨Tx, Xx, ex, stx⟩ := own_x8 a1 (((0 : Int32) + (1 : Int32)) + (1 : Int32)) (.val (.ref a3)) (.val (.int (((0 : Int32) + (1 : Int32)) + (1 : Int32)))) zn (((0 : Int32) + (1 : Int32)) + (1 : Int32)) (.val (.int c1)) c2 clx X2 hx hZ hw hby hml hown e2 Arx (inb_of Sx ⟨by decide, hlx⟩) hax (One.val rfl) hlx gt
  obtain ⟨fs, hr, hrun, hended, hW, hsame⟩ := Xx.leave (v := some (.int (2 : Int32))) (fun h => by rw [Bd.returns] at h; cases h) (BodyLoose.notSynchronized Bd)
  refine ⟨_, _, pre0 _ ?_, hrun, hended, _, _, rfl, ⟨rfl, N2, ex ▸ KK2⟩, ⟨_, rfl⟩, hW, hsame.mono (by decide) (by decide)⟩
  refine XS.iconst X0.here hx rfl (hb hby d8_0) ?_
  refine XS.istore X0.here hx rfl (hb hby d8_1) rfl (l' := #[.val (.ref a1), .val (.int (0 : Int32)), .val (.ref a3), .val (.int (0 : Int32)), .val (.int zn), .val (.int (0 : Int32)), .unset]) rfl ?_
  refine st1 _ ?_
  refine st2 _ ?_
  refine stx _ ?_
  show Steps p.tables e below (Tx.setTop (mkF m 23 #[.val (.ref a1), .val (.int (((0 : Int32) + (1 : Int32)) + (1 : Int32))), .val (.ref a3), .val (.int (((0 : Int32) + (1 : Int32)) + (1 : Int32))), .val (.int zn), .val (.int (((0 : Int32) + (1 : Int32)) + (1 : Int32))), .val (.int c2)] [])) _
  refine XS.iload Xx.here hx rfl (hb hby d8_23) rfl ?_
  show Steps p.tables e below (Tx.setTop (mkF m 25 #[.val (.ref a1), .val (.int (((0 : Int32) + (1 : Int32)) + (1 : Int32))), .val (.ref a3), .val (.int (((0 : Int32) + (1 : Int32)) + (1 : Int32))), .val (.int zn), .val (.int (((0 : Int32) + (1 : Int32)) + (1 : Int32))), .val (.int c2)] [(.int (2 : Int32))])) _
  exact retI Xx hx Bd.returns (hb hby d8_25) hr
set_option maxRecDepth 65536 in
set_option maxHeartbeats 40000000 in
theorem rm8_3 (l : Launch) (Z : State) (a0 : Array Value) (hw : ∀ d ∈ tables_1, d.before a0 Z = true) (ws : List Jvm.Cond) (a1 : Addr) (a3 : Addr) (zn : Int32) (ka : ClassId) (vs : List Value) (dv : Value) (clb : Cell) (c0 : Int32) (c1 : Int32) (c2 : Int32) (c3 : Int32) (h0 : Heap) (n0 : Nat) (Z0 : n0 ≤ h0.size) (V : Arv Z h0 a1 ka .char zn vs dv) (hv0 : vs.getD 0 dv = .int c0) (hv1 : vs.getD 1 dv = .int c1) (hv2 : vs.getD 2 dv = .int c2) (hv3 : vs.getD 3 dv = .int c3) (B : Arr Z h0 a3 clb .byte) (Bs : clb.slots.size = zn.toNatClampNeg) (nab : a1 ≠ a3) (g_b : n0 ≤ a3) (hk : (3 : Int32) < zn) (le0 : ¬ ((255 : Int32) < c0)) (le1 : ¬ ((255 : Int32) < c1)) (le2 : ¬ ((255 : Int32) < c2)) (gt : (255 : Int32) < c3) :
    MetFree l (⟨"java/lang/StringUTF16", "compress", "([CI[BII)I"⟩ : MethodName) (head1 (Jvm.Cond.code (⟨"java/lang/StringUTF16", "compress", "([CI[BII)I"⟩ : MethodName) jdk_52_method_21_code 7 (some .int) :: ws) ({ frames := 0, cells := 0, slots := 0, locals := 0 } : Room)) (fun a U => a = #[(.ref a1), (.int (0 : Int32)), (.ref a3), (.int (0 : Int32)), (.int zn)] ∧ Z.Warmed39 U.vm ∧ U.heap = h0) (fun _ _ _ _ _ => True) (fun _ U o U' => ∃ v L, o = .returned v ∧ Q8 Z a3 (3 : Int32) h0 n0 v U'.heap L ∧ FrameEnd U o U' L ({ frames := 0, cells := 0, slots := 0, locals := 0 } : Room).cells ({ frames := 0, cells := 0, slots := 0, locals := 0 } : Room).slots) := by
  refine MetFree.of_bodySF (plainFor_of_name pn_8) hisR ?_
  intro p e s m args below meth c s₁ Bd hml0 hP hK
  obtain ⟨rfl, hZ, hh⟩ := hP
  have hx := Bd.exec
  have hby := Bd.bytes
  have hml : c.maxLocals = 7 := hml0
  have hown : s.vm.findClass "java/lang/StringUTF16" = some m.cls := findClass_of_methodNamed Bd.named
  have hnm := (name_of_methodNamed Bd.named Bd.method).1
  have X0 : Stand p l e ({ frames := 0, cells := 0, slots := 0, locals := 0 } : Room) s m #[(.ref a1), (.int (0 : Int32)), (.ref a3), (.int (0 : Int32)), (.int zn)] below meth c s₁ [] 0 0 := Stand.of_body Bd
  have e0 : s₁.heap = h0 := by rw [← hh, Bd.state]; rfl
  have N0 := Fr.nil n0
  have pre0 : ∀ t, Steps p.tables e below (s₁.setTop (mkF m 0 #[.val (.ref a1), .val (.int (0 : Int32)), .val (.ref a3), .val (.int (0 : Int32)), .val (.int zn), .unset, .unset] [])) t → Steps p.tables e below (s₁.setTop (entryFrame m #[(.ref a1), (.int (0 : Int32)), (.ref a3), (.int (0 : Int32)), (.int zn)] 7)) t := fun t k => castTop (ef_8 m a1 (0 : Int32) a3 (0 : Int32) zn) k
  obtain ⟨cl0, Ar0, q0, S0, M0, H0, G0⟩ := V
  have hl0 : (0 : Int32) < zn := own_lt hk (by decide)
  have ha0 : cl0.slots[((0 : Int32)).toNatClampNeg]? = some (.int c0) := by have q := H0 0 (by have z := inb_of S0 ⟨(by decide : ¬ ((0 : Int32) < 0)), hl0⟩; exact Nat.lt_of_not_le fun y => z (Or.inr y)); rw [hv0] at q; exact q
  obtain ⟨T1, h1, locs1, X1, e1, N1, K1, ⟨clb1, B1, bs1⟩, st1⟩ := own_t8 a1 (0 : Int32) a3 (0 : Int32) zn (0 : Int32) .unset c0 cl0 clb X0 hx hZ hw hby hml hown e0 N0 Z0 One.u Ar0 (inb_of S0 ⟨by decide, hl0⟩) ha0 B (by rw [Bs]; exact (inb_of S0 ⟨by decide, hl0⟩ |> fun z => by rw [S0] at z; exact z)) g_b hl0 le0
  have V1 : Arv Z h1 a1 ka .char zn vs dv := (show Arv Z h0 a1 ka .char zn vs dv from ⟨cl0, Ar0, q0, S0, M0, H0, G0⟩).keep K1 (own_nin nab)
  have KK1 : Keep h0 h1 [a3] := K1
  have Bz1 : clb1.slots.size = zn.toNatClampNeg := by rw [bs1]; exact Bs
  obtain ⟨cl1, Ar1, q1, S1, M1, H1, G1⟩ := V1
  have hl1 : ((0 : Int32) + (1 : Int32)) < zn := own_lt hk (by decide)
  have ha1 : cl1.slots[(((0 : Int32) + (1 : Int32))).toNatClampNeg]? = some (.int c1) := by have q := H1 1 (by have z := inb_of S1 ⟨(by decide : ¬ (((0 : Int32) + (1 : Int32)) < 0)), hl1⟩; exact Nat.lt_of_not_le fun y => z (Or.inr y)); rw [hv1] at q; exact q
  obtain ⟨T2, h2, locs2, X2, e2, N2, K2, ⟨clb2, B2, bs2⟩, st2⟩ := own_t8 a1 ((0 : Int32) + (1 : Int32)) a3 ((0 : Int32) + (1 : Int32)) zn ((0 : Int32) + (1 : Int32)) (.val (.int c0)) c1 cl1 clb1 X1 hx hZ hw hby hml hown e1 N1 (Nat.le_trans Z0 KK1.1) (One.val rfl) Ar1 (inb_of S1 ⟨by decide, hl1⟩) ha1 B1 (by rw [Bz1]; exact (inb_of S1 ⟨by decide, hl1⟩ |> fun z => by rw [S1] at z; exact z)) g_b hl1 le1
  have V2 : Arv Z h2 a1 ka .char zn vs dv := (show Arv Z h1 a1 ka .char zn vs dv from ⟨cl1, Ar1, q1, S1, M1, H1, G1⟩).keep K2 (own_nin nab)
  have KK2 : Keep h0 h2 [a3] := KK1.trans K2 own_wsIn
  have Bz2 : clb2.slots.size = zn.toNatClampNeg := by rw [bs2]; exact Bz1
  obtain ⟨cl2, Ar2, q2, S2, M2, H2, G2⟩ := V2
  have hl2 : (((0 : Int32) + (1 : Int32)) + (1 : Int32)) < zn := own_lt hk (by decide)
  have ha2 : cl2.slots[((((0 : Int32) + (1 : Int32)) + (1 : Int32))).toNatClampNeg]? = some (.int c2) := by have q := H2 2 (by have z := inb_of S2 ⟨(by decide : ¬ ((((0 : Int32) + (1 : Int32)) + (1 : Int32)) < 0)), hl2⟩; exact Nat.lt_of_not_le fun y => z (Or.inr y)); rw [hv2] at q; exact q
  obtain ⟨T3, h3, locs3, X3, e3, N3, K3, ⟨clb3, B3, bs3⟩, st3⟩ := own_t8 a1 (((0 : Int32) + (1 : Int32)) + (1 : Int32)) a3 (((0 : Int32) + (1 : Int32)) + (1 : Int32)) zn (((0 : Int32) + (1 : Int32)) + (1 : Int32)) (.val (.int c1)) c2 cl2 clb2 X2 hx hZ hw hby hml hown e2 N2 (Nat.le_trans Z0 KK2.1) (One.val rfl) Ar2 (inb_of S2 ⟨by decide, hl2⟩) ha2 B2 (by rw [Bz2]; exact (inb_of S2 ⟨by decide, hl2⟩ |> fun z => by rw [S2] at z; exact z)) g_b hl2 le2
  have V3 : Arv Z h3 a1 ka .char zn vs dv := (show Arv Z h2 a1 ka .char zn vs dv from ⟨cl2, Ar2, q2, S2, M2, H2, G2⟩).keep K3 (own_nin nab)
  have KK3 : Keep h0 h3 [a3] := KK2.trans K3 own_wsIn
  have Bz3 : clb3.slots.size = zn.toNatClampNeg := by rw [bs3]; exact Bz2
  obtain ⟨clx, Arx, qx, Sx, Mx, Hx, Gx⟩ := V3
  have hlx : ((((0 : Int32) + (1 : Int32)) + (1 : Int32)) + (1 : Int32)) < zn := own_lt hk (by decide)
  have hax : clx.slots[(((((0 : Int32) + (1 : Int32)) + (1 : Int32)) + (1 : Int32))).toNatClampNeg]? = some (.int c3) := by have q := Hx 3 (by have z := inb_of Sx ⟨(by decide : ¬ (((((0 : Int32) + (1 : Int32)) + (1 : Int32)) + (1 : Int32)) < 0)), hlx⟩; exact Nat.lt_of_not_le fun y => z (Or.inr y)); rw [hv3] at q; exact q
  obtain ⟨Tx, Xx, ex, stx⟩ := own_x8 a1 ((((0 : Int32) + (1 : Int32)) + (1 : Int32)) + (1 : Int32)) (.val (.ref a3)) (.val (.int ((((0 : Int32) + (1 : Int32)) + (1 : Int32)) + (1 : Int32)))) zn ((((0 : Int32) + (1 : Int32)) + (1 : Int32)) + (1 : Int32)) (.val (.int c2)) c3 clx X3 hx hZ hw hby hml hown e3 Arx (inb_of Sx ⟨by decide, hlx⟩) hax (One.val rfl) hlx gt
  obtain ⟨fs, hr, hrun, hended, hW, hsame⟩ := Xx.leave (v := some (.int (3 : Int32))) (fun h => by rw [Bd.returns] at h; cases h) (BodyLoose.notSynchronized Bd)
  refine ⟨_, _, pre0 _ ?_, hrun, hended, _, _, rfl, ⟨rfl, N3, ex ▸ KK3⟩, ⟨_, rfl⟩, hW, hsame.mono (by decide) (by decide)⟩
  refine XS.iconst X0.here hx rfl (hb hby d8_0) ?_
  refine XS.istore X0.here hx rfl (hb hby d8_1) rfl (l' := #[.val (.ref a1), .val (.int (0 : Int32)), .val (.ref a3), .val (.int (0 : Int32)), .val (.int zn), .val (.int (0 : Int32)), .unset]) rfl ?_
  refine st1 _ ?_
  refine st2 _ ?_
  refine st3 _ ?_
  refine stx _ ?_
  show Steps p.tables e below (Tx.setTop (mkF m 23 #[.val (.ref a1), .val (.int ((((0 : Int32) + (1 : Int32)) + (1 : Int32)) + (1 : Int32))), .val (.ref a3), .val (.int ((((0 : Int32) + (1 : Int32)) + (1 : Int32)) + (1 : Int32))), .val (.int zn), .val (.int ((((0 : Int32) + (1 : Int32)) + (1 : Int32)) + (1 : Int32))), .val (.int c3)] [])) _
  refine XS.iload Xx.here hx rfl (hb hby d8_23) rfl ?_
  show Steps p.tables e below (Tx.setTop (mkF m 25 #[.val (.ref a1), .val (.int ((((0 : Int32) + (1 : Int32)) + (1 : Int32)) + (1 : Int32))), .val (.ref a3), .val (.int ((((0 : Int32) + (1 : Int32)) + (1 : Int32)) + (1 : Int32))), .val (.int zn), .val (.int ((((0 : Int32) + (1 : Int32)) + (1 : Int32)) + (1 : Int32))), .val (.int c3)] [(.int (3 : Int32))])) _
  exact retI Xx hx Bd.returns (hb hby d8_25) hr
theorem own_ext {h0 h : Heap} (K : Keep h0 h []) : Ext h0 h := ⟨K.1, fun a c q => K.2.1 a c q (fun r => nomatch r)⟩
theorem d17_0 : decode jdk_52_method_14_code 0 = .ok (.iload_n 2, 1) := by decide +kernel
theorem d17_1 : decode jdk_52_method_14_code 1 = .ok (.invokestatic 107, 3) := by decide +kernel
theorem d17_4 : decode jdk_52_method_14_code 4 = .ok (.astore_n 3, 1) := by decide +kernel
theorem d17_5 : decode jdk_52_method_14_code 5 = .ok (.iconst 0, 1) := by decide +kernel
theorem d17_6 : decode jdk_52_method_14_code 6 = .ok (.istore 4, 2) := by decide +kernel
theorem d17_8 : decode jdk_52_method_14_code 8 = .ok (.iload 4, 2) := by decide +kernel
theorem d17_10 : decode jdk_52_method_14_code 10 = .ok (.iload_n 2, 1) := by decide +kernel
theorem d17_11 : decode jdk_52_method_14_code 11 = .ok (.if_icmp .ge 21, 3) := by decide +kernel
theorem d17_32 : decode jdk_52_method_14_code 32 = .ok (.aload_n 3, 1) := by decide +kernel
theorem d17_33 : decode jdk_52_method_14_code 33 = .ok (.areturn, 1) := by decide +kernel
theorem pn_17 : plainName "java/lang/StringUTF16" = true := by first | (simp [plainName, overriddenIn]; done) | decide +kernel
theorem pd_17_15 : parseMethodDescriptor "(I)[B" = some ⟨[.int], some (.array .byte)⟩ := by decide +kernel
theorem ef_17 (m : MethodId) (x0 : Addr) (x1 : Int32) (x2 : Int32) : entryFrame m #[(.ref x0), (.int x1), (.int x2)] 5 = mkF m 0 #[.val (.ref x0), .val (.int x1), .val (.int x2), .unset, .unset] [] := by first | (simp [entryFrame, mkF, argsToLocals, Value.category]; done) | rfl
set_option maxRecDepth 65536 in
set_option maxHeartbeats 40000000 in
theorem own_x17 {p : Program} {l : Launch} {e : Env} {R : Room} {s : State} {m : MethodId} {args : Array Value} {below : List Frame} {meth : Method} {c : Code} {T0 : State} {locs : List Loc} {cells slots : Nat} {Z : State} {a0 : Array Value} {h0 : Heap} (s0 : Slot) (s1 : Slot) (i2 : Int32) (s3 : Slot) (i4 : Int32)
    (X0 : Stand p l e R s m args below meth c T0 locs cells slots) (hx : p.tables.exec = Jvm.exec) (hZ : Z.Warmed39 s.vm) (hw : ∀ d ∈ tables_1, d.before a0 Z = true) (hby : c.code = jdk_52_method_14_code) (hml : c.maxLocals = 5) (hown : s.vm.findClass "java/lang/StringUTF16" = some m.cls) (e0 : T0.heap = h0) (hc11 : ¬ (i4 < i2)) :
    ∃ (T' : State), Stand p l e R s m args below meth c T' locs cells slots ∧ T'.heap = h0 ∧
      ∀ target, Steps p.tables e below (T'.setTop (mkF m 32 #[s0, s1, .val (.int i2), s3, .val (.int i4)] [])) target → Steps p.tables e below (T0.setTop (mkF m 8 #[s0, s1, .val (.int i2), s3, .val (.int i4)] [])) target := by

  refine ⟨T0, X0, e0, fun target kt => ?_⟩
  show Steps p.tables e below (T0.setTop (mkF m 8 #[s0, s1, .val (.int i2), s3, .val (.int i4)] [])) _
  refine XS.iload X0.here hx rfl (hb hby d17_8) rfl ?_
  refine XS.iloadN X0.here hx rfl (hb hby d17_10) rfl ?_
  refine XS.icmpYes X0.here hx rfl (pc0 := 11) (pc' := 32) rfl (hb hby d17_11) rfl (flt hc11).2.1 (by decide) (by decide) ?_
  exact kt
theorem os17_4 {s0 : Slot} {s1 : Slot} {z2 : Value} {s3 : Slot} {s4 : Slot} {v : Addr} (h : One s3) : storeLocals #[s0, s1, .val z2, s3, s4] 3 (.ref v) = some #[s0, s1, .val z2, .val (.ref v), s4] := by
  rcases h with rfl | ⟨w, rfl, hw⟩
  · rfl
  · cases w <;> first | rfl | (simp [Value.category] at hw)
theorem os17_6 {s0 : Slot} {s1 : Slot} {z2 : Value} {z3 : Value} {s4 : Slot} {v : Int32} (h : One s4) : storeLocals #[s0, s1, .val z2, .val z3, s4] 4 (.int v) = some #[s0, s1, .val z2, .val z3, .val (.int v)] := by
  rcases h with rfl | ⟨w, rfl, hw⟩
  · rfl
  · cases w <;> first | rfl | (simp [Value.category] at hw)
set_option maxRecDepth 65536 in
set_option maxHeartbeats 40000000 in
theorem own_i17_1 {p : Program} {l : Launch} {e : Env} {s : State} {m : MethodId} {args : Array Value} {below : List Frame} {meth : Method} {c : Code} {T0 : State} {locs : List Loc} {Z : State} {a0 : Array Value} {h0 : Heap} {n0 : Nat} (s0 : Slot) (s1 : Slot) (s3 : Slot) (s4 : Slot)
    (X0 : Stand p l e ({ frames := 2, cells := 1, slots := 2, locals := 24 } : Room) s m args below meth c T0 locs 0 0) (hx : p.tables.exec = Jvm.exec) (hZ : Z.Warmed39 s.vm) (hw : ∀ d ∈ tables_1, d.before a0 Z = true) (hby : c.code = jdk_52_method_14_code) (hml : c.maxLocals = 5) (hown : s.vm.findClass "java/lang/StringUTF16" = some m.cls) (e0 : T0.heap = h0) (N0 : Fr n0 locs) (Z0 : n0 ≤ h0.size) (hs3 : One s3) (hs4 : One s4) :
    ∃ (T' : State) (h' : Heap) (locs' : List Loc) (b : Addr) (kb : ClassId), Stand p l e ({ frames := 2, cells := 1, slots := 2, locals := 24 } : Room) s m args below meth c T' locs' 1 2 ∧ T'.heap = h' ∧ Fr n0 locs' ∧ b = h0.size ∧ Keep h0 h' [] ∧ Arv Z h' b kb .byte (2 : Int32) [Value.int (0 : Int32), Value.int (0 : Int32)] (.int (0 : Int32)) ∧ ∀ target, Steps p.tables e below (T'.setTop (mkF m 8 #[s0, s1, .val (.int (1 : Int32)), .val (.ref b), .val (.int (0 : Int32))] [])) target → Steps p.tables e below (T0.setTop (mkF m 0 #[s0, s1, .val (.int (1 : Int32)), s3, s4] [])) target := by
  obtain ⟨_, _, ⟨T4, L4, k4, n4⟩, -, X4, ⟨Lc4, hQ4, l4, y4, z4⟩, st4⟩ := Jvm.LawKit.callS X0 hx (y := (⟨"java/lang/StringUTF16", "newBytesFor", "(I)[B"⟩ : MethodName)) hown (mvT hZ (own_w hw 81 rfl)) (mvT hZ (own_w hw 82 rfl)) (mvT hZ (own_w hw 41 rfl)) (mvT hZ (own_w hw 83 rfl)) (by decide) (backOf (W := 0) (rm18_1 l Z a0 hw []   h0 n0 Z0) hZ (own_w hw 83 rfl) (own_w hw 41 rfl) (by decide) (by decide)) (g := (mkF m 1 #[s0, s1, .val (.int (1 : Int32)), s3, s4] [(.int (1 : Int32))])) rfl (by rw [hml]; rfl) (argsL := [(.int (1 : Int32))]) (rest := []) (lenOf pd_17_15 rfl) rfl (by show 2 * 0 + _ ≤ _; exact Nat.le_of_eq rfl) (hb hby d17_1) (fun _ _ => ⟨rfl, e0, (by decide : 0 + 0 + 1 ≤ _), (by decide : 0 + 0 + 2 ≤ _)⟩)
  dsimp only [Pt.U, Pt.locs, Pt.cells, Pt.slots] at X4 l4 y4 z4 st4 hQ4
  subst l4 y4 z4
  obtain ⟨rfl, N4q, K4q, ⟨kb, A4q⟩⟩ := hQ4
  have N4 := Fr.app N0 N4q
  have KH4 : Keep h0 T4.heap [] := (Keep.refl h0 []).trans K4q own_ws0
  obtain ⟨bx, gx⟩ : ∃ z, z = h0.size := ⟨_, rfl⟩
  rw [← gx] at st4 A4q
  refine ⟨T4, _, _, bx, kb, X4, rfl, N4, gx, K4q, A4q, fun target kt => ?_⟩
  show Steps p.tables e below (T0.setTop (mkF m 0 #[s0, s1, .val (.int (1 : Int32)), s3, s4] [])) _
  refine XS.iloadN X0.here hx rfl (hb hby d17_0) rfl ?_
  show Steps p.tables e below (T0.setTop (mkF m 1 #[s0, s1, .val (.int (1 : Int32)), s3, s4] [(.int (1 : Int32))])) _
  refine st4 _ ?_
  show Steps p.tables e below (T4.setTop (mkF m 4 #[s0, s1, .val (.int (1 : Int32)), s3, s4] [(.ref bx)])) _
  refine XS.astoreN X4.here hx rfl (hb hby d17_4) rfl rfl (l' := #[s0, s1, .val (.int (1 : Int32)), .val (.ref bx), s4]) (os17_4 hs3) ?_
  refine XS.iconst X4.here hx rfl (hb hby d17_5) ?_
  refine XS.istore X4.here hx rfl (hb hby d17_6) rfl (l' := #[s0, s1, .val (.int (1 : Int32)), .val (.ref bx), .val (.int (0 : Int32))]) (os17_6 hs4) ?_
  exact kt
theorem d17_14 : decode jdk_52_method_14_code 14 = .ok (.aload_n 3, 1) := by decide +kernel
theorem d17_15 : decode jdk_52_method_14_code 15 = .ok (.iload 4, 2) := by decide +kernel
theorem d17_17 : decode jdk_52_method_14_code 17 = .ok (.aload_n 0, 1) := by decide +kernel
theorem d17_18 : decode jdk_52_method_14_code 18 = .ok (.iload_n 1, 1) := by decide +kernel
theorem d17_19 : decode jdk_52_method_14_code 19 = .ok (.caload, 1) := by decide +kernel
theorem d17_20 : decode jdk_52_method_14_code 20 = .ok (.invokestatic 111, 3) := by decide +kernel
theorem d17_23 : decode jdk_52_method_14_code 23 = .ok (.iinc 1 1, 3) := by decide +kernel
theorem d17_26 : decode jdk_52_method_14_code 26 = .ok (.iinc 4 1, 3) := by decide +kernel
theorem d17_29 : decode jdk_52_method_14_code 29 = .ok (.goto (-21), 3) := by decide +kernel
theorem pd_17_17 : parseMethodDescriptor "([BII)V" = some ⟨[(.array .byte), .int, .int], none⟩ := by decide +kernel
set_option maxRecDepth 65536 in
set_option maxHeartbeats 40000000 in
theorem own_t17_1 {p : Program} {l : Launch} {e : Env} {s : State} {m : MethodId} {args : Array Value} {below : List Frame} {meth : Method} {c : Code} {T0 : State} {locs : List Loc} {Z : State} {a0 : Array Value} {h0 : Heap} {n0 : Nat} (o0 : Addr) (i1 : Int32) (i2 : Int32) (o3 : Addr) (i4 : Int32) (w4 : Int32) (cl_o0 : Cell) (kb : ClassId) (z : Int32) (us : List Value) (d : Value) (i0 : Nat)
    (X0 : Stand p l e ({ frames := 2, cells := 1, slots := 2, locals := 24 } : Room) s m args below meth c T0 locs 1 2) (hx : p.tables.exec = Jvm.exec) (hZ : Z.Warmed39 s.vm) (hw : ∀ d ∈ tables_1, d.before a0 Z = true) (hby : c.code = jdk_52_method_14_code) (hml : c.maxLocals = 5) (hown : s.vm.findClass "java/lang/StringUTF16" = some m.cls) (e0 : T0.heap = h0) (N0 : Fr n0 locs) (Z0 : n0 ≤ h0.size) (V : Arv Z h0 o3 kb .byte z us d) (hi0 : (i4 <<< ((1 : Int32) &&& 31)).toNatClampNeg = i0) (hi1 : ((i4 <<< ((1 : Int32) &&& 31)) + (1 : Int32)).toNatClampNeg = i0 + 1) (hn0 : ¬ ((i4 <<< ((1 : Int32) &&& 31)) < 0)) (hz0 : (i4 <<< ((1 : Int32) &&& 31)) < z) (hn1 : ¬ (((i4 <<< ((1 : Int32) &&& 31)) + (1 : Int32)) < 0)) (hz1 : ((i4 <<< ((1 : Int32) &&& 31)) + (1 : Int32)) < z) (hl0 : i0 < us.length) (hl1 : i0 + 1 < us.length) (g_o3 : n0 ≤ o3) (S__assertionsDisabled : Sta Z h0 "java/lang/StringUTF16" "$assertionsDisabled" "Z" (.int (1 : Int32))) (S_HI_BYTE_SHIFT : Sta Z h0 "java/lang/StringUTF16" "HI_BYTE_SHIFT" "I" (.int (0 : Int32))) (S_LO_BYTE_SHIFT : Sta Z h0 "java/lang/StringUTF16" "LO_BYTE_SHIFT" "I" (.int (8 : Int32))) (Ar_o0 : Arr Z h0 o0 cl_o0 .char) (hin19 : ¬ (i1 < 0 ∨ cl_o0.slots.size ≤ (i1).toNatClampNeg)) (hat19 : cl_o0.slots[(i1).toNatClampNeg]? = some (.int w4)) (hc11 : i4 < i2) :
    ∃ (T' : State) (h' : Heap) (locs' : List Loc) , Stand p l e ({ frames := 2, cells := 1, slots := 2, locals := 24 } : Room) s m args below meth c T' locs' 1 2 ∧ T'.heap = h' ∧ Fr n0 locs' ∧ Keep h0 h' [o3] ∧ Arv Z h' o3 kb .byte z ((us.set i0 (.int (own_lo w4))).set (i0 + 1) (.int (own_hi w4))) d ∧ ∀ target, Steps p.tables e below (T'.setTop (mkF m 8 #[.val (.ref o0), .val (.int (i1 + (1 : Int32))), .val (.int i2), .val (.ref o3), .val (.int (i4 + (1 : Int32)))] [])) target → Steps p.tables e below (T0.setTop (mkF m 8 #[.val (.ref o0), .val (.int i1), .val (.int i2), .val (.ref o3), .val (.int i4)] [])) target := by
  obtain ⟨_, _, ⟨T5, L5, k5, n5⟩, -, X5, ⟨Lc5, hQ5, l5, y5, z5⟩, st5⟩ := Jvm.LawKit.callS X0 hx (y := (⟨"java/lang/StringUTF16", "putChar", "([BII)V"⟩ : MethodName)) hown (mvT hZ (own_w hw 88 rfl)) (mvT hZ (own_w hw 89 rfl)) (mvT hZ (own_w hw 41 rfl)) (mvT hZ (own_w hw 90 rfl)) (by decide) (backOf (W := 0) (rm20 l Z a0 hw [] o3 i4 w4 kb z us d i0 h0 n0 Z0 V hi0 hi1 hn0 hz0 hn1 hz1 hl0 hl1 g_o3 S__assertionsDisabled S_HI_BYTE_SHIFT S_LO_BYTE_SHIFT) hZ (own_w hw 90 rfl) (own_w hw 41 rfl) (by decide) (by decide)) (g := (mkF m 20 #[.val (.ref o0), .val (.int i1), .val (.int i2), .val (.ref o3), .val (.int i4)] [(.int w4), (.int i4), (.ref o3)])) rfl (by rw [hml]; rfl) (argsL := [(.ref o3), (.int i4), (.int w4)]) (rest := []) (lenOf pd_17_17 rfl) rfl (by show 2 * 0 + _ ≤ _; exact Nat.le_of_eq rfl) (hb hby d17_20) (fun _ _ => ⟨rfl, e0, (by decide : 1 + 0 + 0 ≤ _), (by decide : 2 + 0 + 0 ≤ _)⟩)
  dsimp only [Pt.U, Pt.locs, Pt.cells, Pt.slots] at X5 l5 y5 z5 st5 hQ5
  subst l5 y5 z5
  obtain ⟨rfl, N5q, K5q, A5q⟩ := hQ5
  have N5 := Fr.app N0 N5q
  have KH5 : Keep h0 T5.heap [o3] := (Keep.refl h0 [o3]).trans K5q own_wsIn
  refine ⟨T5, _, _, X5, rfl, N5, K5q, A5q, fun target kt => ?_⟩
  show Steps p.tables e below (T0.setTop (mkF m 8 #[.val (.ref o0), .val (.int i1), .val (.int i2), .val (.ref o3), .val (.int i4)] [])) _
  refine XS.iload X0.here hx rfl (hb hby d17_8) rfl ?_
  refine XS.iloadN X0.here hx rfl (hb hby d17_10) rfl ?_
  refine XS.icmpNo X0.here hx rfl (hb hby d17_11) rfl (tlt hc11).2.1 ?_
  refine XS.aloadN X0.here hx rfl (hb hby d17_14) rfl rfl ?_
  refine XS.iload X0.here hx rfl (hb hby d17_15) rfl ?_
  refine XS.aloadN X0.here hx rfl (hb hby d17_17) rfl rfl ?_
  refine XS.iloadN X0.here hx rfl (hb hby d17_18) rfl ?_
  show Steps p.tables e below (T0.setTop (mkF m 19 #[.val (.ref o0), .val (.int i1), .val (.int i2), .val (.ref o3), .val (.int i4)] [(.int i1), (.ref o0), (.int i4), (.ref o3)])) _
  refine X0.caload hx (j := i1) (v := (.int w4)) (by rw [e0]; exact Ar_o0.1) (State.isArrayOf_alike hZ.alike Ar_o0.2.1) Ar_o0.2.2 hin19 hat19 (g := (mkF m 19 #[.val (.ref o0), .val (.int i1), .val (.int i2), .val (.ref o3), .val (.int i4)] [(.int i1), (.ref o0), (.int i4), (.ref o3)])) rfl rfl (hb hby d17_19) _ ?_
  show Steps p.tables e below (T0.setTop (mkF m 20 #[.val (.ref o0), .val (.int i1), .val (.int i2), .val (.ref o3), .val (.int i4)] [(.int w4), (.int i4), (.ref o3)])) _
  refine st5 _ ?_
  show Steps p.tables e below (T5.setTop (mkF m 23 #[.val (.ref o0), .val (.int i1), .val (.int i2), .val (.ref o3), .val (.int i4)] [])) _
  refine XS.iinc X5.here hx rfl (hb hby d17_23) rfl (l' := #[.val (.ref o0), .val (.int (i1 + (1 : Int32))), .val (.int i2), .val (.ref o3), .val (.int i4)]) rfl ?_
  refine XS.iinc X5.here hx rfl (hb hby d17_26) rfl (l' := #[.val (.ref o0), .val (.int (i1 + (1 : Int32))), .val (.int i2), .val (.ref o3), .val (.int (i4 + (1 : Int32)))]) rfl ?_
  refine XS.goto X5.here hx rfl (pc0 := 29) (pc' := 8) rfl (hb hby d17_29) (by decide) (by decide) ?_
  exact kt
def Q17_1 (Z : State) (c0 : Int32) (h0 : Heap) (n0 : Nat) (v : Option Value) (h : Heap) (L : List Loc) : Prop := ∃ (b : Addr) (kb : ClassId), v = some (.ref b) ∧ Fr n0 L ∧ Keep h0 h [] ∧ h0.size ≤ b ∧ Arv Z h b kb .byte (2 : Int32) [Value.int (own_lo c0), Value.int (own_hi c0)] (.int (0 : Int32))
set_option maxRecDepth 65536 in
set_option maxHeartbeats 40000000 in
theorem rm17_1 (l : Launch) (Z : State) (a0 : Array Value) (hw : ∀ d ∈ tables_1, d.before a0 Z = true) (ws : List Jvm.Cond) (a1 : Addr) (ka : ClassId) (vs : List Value) (dv : Value) (c0 : Int32) (h0 : Heap) (n0 : Nat) (Z0 : n0 ≤ h0.size) (V : Arv Z h0 a1 ka .char (1 : Int32) vs dv) (hv0 : vs.getD 0 dv = .int c0) (S__assertionsDisabled : Sta Z h0 "java/lang/StringUTF16" "$assertionsDisabled" "Z" (.int (1 : Int32))) (S_HI_BYTE_SHIFT : Sta Z h0 "java/lang/StringUTF16" "HI_BYTE_SHIFT" "I" (.int (0 : Int32))) (S_LO_BYTE_SHIFT : Sta Z h0 "java/lang/StringUTF16" "LO_BYTE_SHIFT" "I" (.int (8 : Int32))) :
    MetFree l (⟨"java/lang/StringUTF16", "toBytes", "([CII)[B"⟩ : MethodName) (head1 (Jvm.Cond.code (⟨"java/lang/StringUTF16", "toBytes", "([CII)[B"⟩ : MethodName) jdk_52_method_14_code 5 (some (.array .byte)) :: ws) ({ frames := 2, cells := 1, slots := 2, locals := 24 } : Room)) (fun a U => a = #[(.ref a1), (.int (0 : Int32)), (.int (1 : Int32))] ∧ Z.Warmed39 U.vm ∧ U.heap = h0) (fun _ _ _ _ _ => True) (fun _ U o U' => ∃ v L, o = .returned v ∧ Q17_1 Z c0 h0 n0 v U'.heap L ∧ FrameEnd U o U' L ({ frames := 2, cells := 1, slots := 2, locals := 24 } : Room).cells ({ frames := 2, cells := 1, slots := 2, locals := 24 } : Room).slots) := by
  refine MetFree.of_bodySF (plainFor_of_name pn_17) hisR ?_
  intro p e s m args below meth c s₁ Bd hml0 hP hK
  obtain ⟨rfl, hZ, hh⟩ := hP
  have hx := Bd.exec
  have hby := Bd.bytes
  have hml : c.maxLocals = 5 := hml0
  have hown : s.vm.findClass "java/lang/StringUTF16" = some m.cls := findClass_of_methodNamed Bd.named
  have hnm := (name_of_methodNamed Bd.named Bd.method).1
  have X0 : Stand p l e ({ frames := 2, cells := 1, slots := 2, locals := 24 } : Room) s m #[(.ref a1), (.int (0 : Int32)), (.int (1 : Int32))] below meth c s₁ [] 0 0 := Stand.of_body Bd
  have e0 : s₁.heap = h0 := by rw [← hh, Bd.state]; rfl
  have N0 := Fr.nil n0
  have pre0 : ∀ t, Steps p.tables e below (s₁.setTop (mkF m 0 #[.val (.ref a1), .val (.int (0 : Int32)), .val (.int (1 : Int32)), .unset, .unset] [])) t → Steps p.tables e below (s₁.setTop (entryFrame m #[(.ref a1), (.int (0 : Int32)), (.int (1 : Int32))] 5)) t := fun t k => castTop (ef_17 m a1 (0 : Int32) (1 : Int32)) k
  obtain ⟨T1, h1, locs1, b, kb, X1, e1, N1, gb, K1, A1, st1⟩ := own_i17_1 (.val (.ref a1)) (.val (.int (0 : Int32))) .unset .unset X0 hx hZ hw hby hml hown e0 N0 Z0 One.u One.u
  have g_b : n0 ≤ b := Nat.le_trans Z0 (Nat.le_of_eq gb.symm)
  have sz_b : h0.size ≤ b := Nat.le_of_eq gb.symm
  obtain ⟨cl0, Ar0, q0, S0, M0, H0, G0⟩ := V.keep K1 (by simp)
  have ha0 : cl0.slots[((0 : Int32)).toNatClampNeg]? = some (.int c0) := by have q := H0 0 (by rw [S0]; decide); rw [hv0] at q; exact q
  obtain ⟨T2, h2, locs2, X2, e2, N2, Kt2, At2, st2⟩ := own_t17_1 a1 (0 : Int32) (1 : Int32) b (0 : Int32) c0 cl0 kb (2 : Int32) _ (.int (0 : Int32)) 0 X1 hx hZ hw hby hml hown e1 N1 (Nat.le_trans Z0 K1.1) A1 (by decide) (by decide) (by decide) (by decide) (by decide) (by decide) (Nat.le_of_ble_eq_true rfl) (Nat.le_of_ble_eq_true rfl) g_b (S__assertionsDisabled.ext (own_ext K1)) (S_HI_BYTE_SHIFT.ext (own_ext K1)) (S_LO_BYTE_SHIFT.ext (own_ext K1)) Ar0 (inb_of S0 ⟨by decide, by decide⟩) ha0 (by decide)
  have A2 : Arv Z h2 b kb .byte (2 : Int32) [Value.int (own_lo c0), Value.int (own_hi c0)] (.int (0 : Int32)) := At2
  have K2 : Keep h0 h2 [] := K1.trans Kt2 (own_ws1 sz_b)
  obtain ⟨Tx, Xx, ex, stx⟩ := own_x17 (.val (.ref a1)) (.val (.int ((0 : Int32) + (1 : Int32)))) (1 : Int32) (.val (.ref b)) ((0 : Int32) + (1 : Int32)) X2 hx hZ hw hby hml hown e2 (by decide)
  obtain ⟨fs, hr, hrun, hended, hW, hsame⟩ := Xx.leave (v := some (.ref b)) (fun h => by rw [Bd.returns] at h; cases h) (BodyLoose.notSynchronized Bd)
  refine ⟨_, _, pre0 _ ?_, hrun, hended, _, _, rfl, ⟨b, kb, rfl, N2, (by show Keep h0 Tx.heap []; rw [ex]; exact K2), sz_b, (by show Arv Z Tx.heap b kb .byte _ _ _; rw [ex]; exact A2)⟩, ⟨_, rfl⟩, hW, hsame.mono (by decide) (by decide)⟩
  refine st1 _ ?_
  refine st2 _ ?_
  refine stx _ ?_
  show Steps p.tables e below (Tx.setTop (mkF m 32 #[.val (.ref a1), .val (.int ((0 : Int32) + (1 : Int32))), .val (.int (1 : Int32)), .val (.ref b), .val (.int ((0 : Int32) + (1 : Int32)))] [])) _
  refine XS.aloadN Xx.here hx rfl (hb hby d17_32) rfl rfl ?_
  show Steps p.tables e below (Tx.setTop (mkF m 33 #[.val (.ref a1), .val (.int ((0 : Int32) + (1 : Int32))), .val (.int (1 : Int32)), .val (.ref b), .val (.int ((0 : Int32) + (1 : Int32)))] [(.ref b)])) _
  jvm_step Xx.here [Xx.here.top, hx, (hb hby d17_33), Xx.method', Bd.returns, Value.isRef, FieldType.isReference]
  first | (intro acts; rw [hr _ acts rfl rfl rfl]) | rw [hr _ _ rfl rfl rfl]
  exact Steps.refl _
set_option maxRecDepth 65536 in
set_option maxHeartbeats 40000000 in
theorem own_i17_2 {p : Program} {l : Launch} {e : Env} {s : State} {m : MethodId} {args : Array Value} {below : List Frame} {meth : Method} {c : Code} {T0 : State} {locs : List Loc} {Z : State} {a0 : Array Value} {h0 : Heap} {n0 : Nat} (s0 : Slot) (s1 : Slot) (s3 : Slot) (s4 : Slot)
    (X0 : Stand p l e ({ frames := 2, cells := 1, slots := 4, locals := 24 } : Room) s m args below meth c T0 locs 0 0) (hx : p.tables.exec = Jvm.exec) (hZ : Z.Warmed39 s.vm) (hw : ∀ d ∈ tables_1, d.before a0 Z = true) (hby : c.code = jdk_52_method_14_code) (hml : c.maxLocals = 5) (hown : s.vm.findClass "java/lang/StringUTF16" = some m.cls) (e0 : T0.heap = h0) (N0 : Fr n0 locs) (Z0 : n0 ≤ h0.size) (hs3 : One s3) (hs4 : One s4) :
    ∃ (T' : State) (h' : Heap) (locs' : List Loc) (b : Addr) (kb : ClassId), Stand p l e ({ frames := 2, cells := 1, slots := 4, locals := 24 } : Room) s m args below meth c T' locs' 1 4 ∧ T'.heap = h' ∧ Fr n0 locs' ∧ b = h0.size ∧ Keep h0 h' [] ∧ Arv Z h' b kb .byte (4 : Int32) [Value.int (0 : Int32), Value.int (0 : Int32), Value.int (0 : Int32), Value.int (0 : Int32)] (.int (0 : Int32)) ∧ ∀ target, Steps p.tables e below (T'.setTop (mkF m 8 #[s0, s1, .val (.int (2 : Int32)), .val (.ref b), .val (.int (0 : Int32))] [])) target → Steps p.tables e below (T0.setTop (mkF m 0 #[s0, s1, .val (.int (2 : Int32)), s3, s4] [])) target := by
  obtain ⟨_, _, ⟨T4, L4, k4, n4⟩, -, X4, ⟨Lc4, hQ4, l4, y4, z4⟩, st4⟩ := Jvm.LawKit.callS X0 hx (y := (⟨"java/lang/StringUTF16", "newBytesFor", "(I)[B"⟩ : MethodName)) hown (mvT hZ (own_w hw 81 rfl)) (mvT hZ (own_w hw 82 rfl)) (mvT hZ (own_w hw 41 rfl)) (mvT hZ (own_w hw 83 rfl)) (by decide) (backOf (W := 0) (rm18_2 l Z a0 hw []   h0 n0 Z0) hZ (own_w hw 83 rfl) (own_w hw 41 rfl) (by decide) (by decide)) (g := (mkF m 1 #[s0, s1, .val (.int (2 : Int32)), s3, s4] [(.int (2 : Int32))])) rfl (by rw [hml]; rfl) (argsL := [(.int (2 : Int32))]) (rest := []) (lenOf pd_17_15 rfl) rfl (by show 2 * 0 + _ ≤ _; exact Nat.le_of_eq rfl) (hb hby d17_1) (fun _ _ => ⟨rfl, e0, (by decide : 0 + 0 + 1 ≤ _), (by decide : 0 + 0 + 4 ≤ _)⟩)
  dsimp only [Pt.U, Pt.locs, Pt.cells, Pt.slots] at X4 l4 y4 z4 st4 hQ4
  subst l4 y4 z4
  obtain ⟨rfl, N4q, K4q, ⟨kb, A4q⟩⟩ := hQ4
  have N4 := Fr.app N0 N4q
  have KH4 : Keep h0 T4.heap [] := (Keep.refl h0 []).trans K4q own_ws0
  obtain ⟨bx, gx⟩ : ∃ z, z = h0.size := ⟨_, rfl⟩
  rw [← gx] at st4 A4q
  refine ⟨T4, _, _, bx, kb, X4, rfl, N4, gx, K4q, A4q, fun target kt => ?_⟩
  show Steps p.tables e below (T0.setTop (mkF m 0 #[s0, s1, .val (.int (2 : Int32)), s3, s4] [])) _
  refine XS.iloadN X0.here hx rfl (hb hby d17_0) rfl ?_
  show Steps p.tables e below (T0.setTop (mkF m 1 #[s0, s1, .val (.int (2 : Int32)), s3, s4] [(.int (2 : Int32))])) _
  refine st4 _ ?_
  show Steps p.tables e below (T4.setTop (mkF m 4 #[s0, s1, .val (.int (2 : Int32)), s3, s4] [(.ref bx)])) _
  refine XS.astoreN X4.here hx rfl (hb hby d17_4) rfl rfl (l' := #[s0, s1, .val (.int (2 : Int32)), .val (.ref bx), s4]) (os17_4 hs3) ?_
  refine XS.iconst X4.here hx rfl (hb hby d17_5) ?_
  refine XS.istore X4.here hx rfl (hb hby d17_6) rfl (l' := #[s0, s1, .val (.int (2 : Int32)), .val (.ref bx), .val (.int (0 : Int32))]) (os17_6 hs4) ?_
  exact kt
set_option maxRecDepth 65536 in
set_option maxHeartbeats 40000000 in
theorem own_t17_2 {p : Program} {l : Launch} {e : Env} {s : State} {m : MethodId} {args : Array Value} {below : List Frame} {meth : Method} {c : Code} {T0 : State} {locs : List Loc} {Z : State} {a0 : Array Value} {h0 : Heap} {n0 : Nat} (o0 : Addr) (i1 : Int32) (i2 : Int32) (o3 : Addr) (i4 : Int32) (w4 : Int32) (cl_o0 : Cell) (kb : ClassId) (z : Int32) (us : List Value) (d : Value) (i0 : Nat)
    (X0 : Stand p l e ({ frames := 2, cells := 1, slots := 4, locals := 24 } : Room) s m args below meth c T0 locs 1 4) (hx : p.tables.exec = Jvm.exec) (hZ : Z.Warmed39 s.vm) (hw : ∀ d ∈ tables_1, d.before a0 Z = true) (hby : c.code = jdk_52_method_14_code) (hml : c.maxLocals = 5) (hown : s.vm.findClass "java/lang/StringUTF16" = some m.cls) (e0 : T0.heap = h0) (N0 : Fr n0 locs) (Z0 : n0 ≤ h0.size) (V : Arv Z h0 o3 kb .byte z us d) (hi0 : (i4 <<< ((1 : Int32) &&& 31)).toNatClampNeg = i0) (hi1 : ((i4 <<< ((1 : Int32) &&& 31)) + (1 : Int32)).toNatClampNeg = i0 + 1) (hn0 : ¬ ((i4 <<< ((1 : Int32) &&& 31)) < 0)) (hz0 : (i4 <<< ((1 : Int32) &&& 31)) < z) (hn1 : ¬ (((i4 <<< ((1 : Int32) &&& 31)) + (1 : Int32)) < 0)) (hz1 : ((i4 <<< ((1 : Int32) &&& 31)) + (1 : Int32)) < z) (hl0 : i0 < us.length) (hl1 : i0 + 1 < us.length) (g_o3 : n0 ≤ o3) (S__assertionsDisabled : Sta Z h0 "java/lang/StringUTF16" "$assertionsDisabled" "Z" (.int (1 : Int32))) (S_HI_BYTE_SHIFT : Sta Z h0 "java/lang/StringUTF16" "HI_BYTE_SHIFT" "I" (.int (0 : Int32))) (S_LO_BYTE_SHIFT : Sta Z h0 "java/lang/StringUTF16" "LO_BYTE_SHIFT" "I" (.int (8 : Int32))) (Ar_o0 : Arr Z h0 o0 cl_o0 .char) (hin19 : ¬ (i1 < 0 ∨ cl_o0.slots.size ≤ (i1).toNatClampNeg)) (hat19 : cl_o0.slots[(i1).toNatClampNeg]? = some (.int w4)) (hc11 : i4 < i2) :
    ∃ (T' : State) (h' : Heap) (locs' : List Loc) , Stand p l e ({ frames := 2, cells := 1, slots := 4, locals := 24 } : Room) s m args below meth c T' locs' 1 4 ∧ T'.heap = h' ∧ Fr n0 locs' ∧ Keep h0 h' [o3] ∧ Arv Z h' o3 kb .byte z ((us.set i0 (.int (own_lo w4))).set (i0 + 1) (.int (own_hi w4))) d ∧ ∀ target, Steps p.tables e below (T'.setTop (mkF m 8 #[.val (.ref o0), .val (.int (i1 + (1 : Int32))), .val (.int i2), .val (.ref o3), .val (.int (i4 + (1 : Int32)))] [])) target → Steps p.tables e below (T0.setTop (mkF m 8 #[.val (.ref o0), .val (.int i1), .val (.int i2), .val (.ref o3), .val (.int i4)] [])) target := by
  obtain ⟨_, _, ⟨T5, L5, k5, n5⟩, -, X5, ⟨Lc5, hQ5, l5, y5, z5⟩, st5⟩ := Jvm.LawKit.callS X0 hx (y := (⟨"java/lang/StringUTF16", "putChar", "([BII)V"⟩ : MethodName)) hown (mvT hZ (own_w hw 88 rfl)) (mvT hZ (own_w hw 89 rfl)) (mvT hZ (own_w hw 41 rfl)) (mvT hZ (own_w hw 90 rfl)) (by decide) (backOf (W := 0) (rm20 l Z a0 hw [] o3 i4 w4 kb z us d i0 h0 n0 Z0 V hi0 hi1 hn0 hz0 hn1 hz1 hl0 hl1 g_o3 S__assertionsDisabled S_HI_BYTE_SHIFT S_LO_BYTE_SHIFT) hZ (own_w hw 90 rfl) (own_w hw 41 rfl) (by decide) (by decide)) (g := (mkF m 20 #[.val (.ref o0), .val (.int i1), .val (.int i2), .val (.ref o3), .val (.int i4)] [(.int w4), (.int i4), (.ref o3)])) rfl (by rw [hml]; rfl) (argsL := [(.ref o3), (.int i4), (.int w4)]) (rest := []) (lenOf pd_17_17 rfl) rfl (by show 2 * 0 + _ ≤ _; exact Nat.le_of_eq rfl) (hb hby d17_20) (fun _ _ => ⟨rfl, e0, (by decide : 1 + 0 + 0 ≤ _), (by decide : 4 + 0 + 0 ≤ _)⟩)
  dsimp only [Pt.U, Pt.locs, Pt.cells, Pt.slots] at X5 l5 y5 z5 st5 hQ5
  subst l5 y5 z5
  obtain ⟨rfl, N5q, K5q, A5q⟩ := hQ5
  have N5 := Fr.app N0 N5q
  have KH5 : Keep h0 T5.heap [o3] := (Keep.refl h0 [o3]).trans K5q own_wsIn
  refine ⟨T5, _, _, X5, rfl, N5, K5q, A5q, fun target kt => ?_⟩
  show Steps p.tables e below (T0.setTop (mkF m 8 #[.val (.ref o0), .val (.int i1), .val (.int i2), .val (.ref o3), .val (.int i4)] [])) _
  refine XS.iload X0.here hx rfl (hb hby d17_8) rfl ?_
  refine XS.iloadN X0.here hx rfl (hb hby d17_10) rfl ?_
  refine XS.icmpNo X0.here hx rfl (hb hby d17_11) rfl (tlt hc11).2.1 ?_
  refine XS.aloadN X0.here hx rfl (hb hby d17_14) rfl rfl ?_
  refine XS.iload X0.here hx rfl (hb hby d17_15) rfl ?_
  refine XS.aloadN X0.here hx rfl (hb hby d17_17) rfl rfl ?_
  refine XS.iloadN X0.here hx rfl (hb hby d17_18) rfl ?_
  show Steps p.tables e below (T0.setTop (mkF m 19 #[.val (.ref o0), .val (.int i1), .val (.int i2), .val (.ref o3), .val (.int i4)] [(.int i1), (.ref o0), (.int i4), (.ref o3)])) _
  refine X0.caload hx (j := i1) (v := (.int w4)) (by rw [e0]; exact Ar_o0.1) (State.isArrayOf_alike hZ.alike Ar_o0.2.1) Ar_o0.2.2 hin19 hat19 (g := (mkF m 19 #[.val (.ref o0), .val (.int i1), .val (.int i2), .val (.ref o3), .val (.int i4)] [(.int i1), (.ref o0), (.int i4), (.ref o3)])) rfl rfl (hb hby d17_19) _ ?_
  show Steps p.tables e below (T0.setTop (mkF m 20 #[.val (.ref o0), .val (.int i1), .val (.int i2), .val (.ref o3), .val (.int i4)] [(.int w4), (.int i4), (.ref o3)])) _
  refine st5 _ ?_
  show Steps p.tables e below (T5.setTop (mkF m 23 #[.val (.ref o0), .val (.int i1), .val (.int i2), .val (.ref o3), .val (.int i4)] [])) _
  refine XS.iinc X5.here hx rfl (hb hby d17_23) rfl (l' := #[.val (.ref o0), .val (.int (i1 + (1 : Int32))), .val (.int i2), .val (.ref o3), .val (.int i4)]) rfl ?_
  refine XS.iinc X5.here hx rfl (hb hby d17_26) rfl (l' := #[.val (.ref o0), .val (.int (i1 + (1 : Int32))), .val (.int i2), .val (.ref o3), .val (.int (i4 + (1 : Int32)))]) rfl ?_
  refine XS.goto X5.here hx rfl (pc0 := 29) (pc' := 8) rfl (hb hby d17_29) (by decide) (by decide) ?_
  exact kt
def Q17_2 (Z : State) (c0 : Int32) (c1 : Int32) (h0 : Heap) (n0 : Nat) (v : Option Value) (h : Heap) (L : List Loc) : Prop := ∃ (b : Addr) (kb : ClassId), v = some (.ref b) ∧ Fr n0 L ∧ Keep h0 h [] ∧ h0.size ≤ b ∧ Arv Z h b kb .byte (4 : Int32) [Value.int (own_lo c0), Value.int (own_hi c0), Value.int (own_lo c1), Value.int (own_hi c1)] (.int (0 : Int32))
set_option maxRecDepth 65536 in
set_option maxHeartbeats 40000000 in
theorem rm17_2 (l : Launch) (Z : State) (a0 : Array Value) (hw : ∀ d ∈ tables_1, d.before a0 Z = true) (ws : List Jvm.Cond) (a1 : Addr) (ka : ClassId) (vs : List Value) (dv : Value) (c0 : Int32) (c1 : Int32) (h0 : Heap) (n0 : Nat) (Z0 : n0 ≤ h0.size) (V : Arv Z h0 a1 ka .char (2 : Int32) vs dv) (hv0 : vs.getD 0 dv = .int c0) (hv1 : vs.getD 1 dv = .int c1) (S__assertionsDisabled : Sta Z h0 "java/lang/StringUTF16" "$assertionsDisabled" "Z" (.int (1 : Int32))) (S_HI_BYTE_SHIFT : Sta Z h0 "java/lang/StringUTF16" "HI_BYTE_SHIFT" "I" (.int (0 : Int32))) (S_LO_BYTE_SHIFT : Sta Z h0 "java/lang/StringUTF16" "LO_BYTE_SHIFT" "I" (.int (8 : Int32))) :
    MetFree l (⟨"java/lang/StringUTF16", "toBytes", "([CII)[B"⟩ : MethodName) (head1 (Jvm.Cond.code (⟨"java/lang/StringUTF16", "toBytes", "([CII)[B"⟩ : MethodName) jdk_52_method_14_code 5 (some (.array .byte)) :: ws) ({ frames := 2, cells := 1, slots := 4, locals := 24 } : Room)) (fun a U => a = #[(.ref a1), (.int (0 : Int32)), (.int (2 : Int32))] ∧ Z.Warmed39 U.vm ∧ U.heap = h0) (fun _ _ _ _ _ => True) (fun _ U o U' => ∃ v L, o = .returned v ∧ Q17_2 Z c0 c1 h0 n0 v U'.heap L ∧ FrameEnd U o U' L ({ frames := 2, cells := 1, slots := 4, locals := 24 } : Room).cells ({ frames := 2, cells := 1, slots := 4, locals := 24 } : Room).slots) := by
  refine MetFree.of_bodySF (plainFor_of_name pn_17) hisR ?_
  intro p e s m args below meth c s₁ Bd hml0 hP hK
  obtain ⟨rfl, hZ, hh⟩ := hP
  have hx := Bd.exec
  have hby := Bd.bytes
  have hml : c.maxLocals = 5 := hml0
  have hown : s.vm.findClass "java/lang/StringUTF16" = some m.cls := findClass_of_methodNamed Bd.named
  have hnm := (name_of_methodNamed Bd.named Bd.method).1
  have X0 : Stand p l e ({ frames := 2, cells := 1, slots := 4, locals := 24 } : Room) s m #[(.ref a1), (.int (0 : Int32)), (.int (2 : Int32))] below meth c s₁ [] 0 0 := Stand.of_body Bd
  have e0 : s₁.heap = h0 := by rw [← hh, Bd.state]; rfl
  have N0 := Fr.nil n0
  have pre0 : ∀ t, Steps p.tables e below (s₁.setTop (mkF m 0 #[.val (.ref a1), .val (.int (0 : Int32)), .val (.int (2 : Int32)), .unset, .unset] [])) t → Steps p.tables e below (s₁.setTop (entryFrame m #[(.ref a1), (.int (0 : Int32)), (.int (2 : Int32))] 5)) t := fun t k => castTop (ef_17 m a1 (0 : Int32) (2 : Int32)) k
  obtain ⟨T1, h1, locs1, b, kb, X1, e1, N1, gb, K1, A1, st1⟩ := own_i17_2 (.val (.ref a1)) (.val (.int (0 : Int32))) .unset .unset X0 hx hZ hw hby hml hown e0 N0 Z0 One.u One.u
  have g_b : n0 ≤ b := Nat.le_trans Z0 (Nat.le_of_eq gb.symm)
  have sz_b : h0.size ≤ b := Nat.le_of_eq gb.symm
  obtain ⟨cl0, Ar0, q0, S0, M0, H0, G0⟩ := V.keep K1 (by simp)
  have ha0 : cl0.slots[((0 : Int32)).toNatClampNeg]? = some (.int c0) := by have q := H0 0 (by rw [S0]; decide); rw [hv0] at q; exact q
  obtain ⟨T2, h2, locs2, X2, e2, N2, Kt2, At2, st2⟩ := own_t17_2 a1 (0 : Int32) (2 : Int32) b (0 : Int32) c0 cl0 kb (4 : Int32) _ (.int (0 : Int32)) 0 X1 hx hZ hw hby hml hown e1 N1 (Nat.le_trans Z0 K1.1) A1 (by decide) (by decide) (by decide) (by decide) (by decide) (by decide) (Nat.le_of_ble_eq_true rfl) (Nat.le_of_ble_eq_true rfl) g_b (S__assertionsDisabled.ext (own_ext K1)) (S_HI_BYTE_SHIFT.ext (own_ext K1)) (S_LO_BYTE_SHIFT.ext (own_ext K1)) Ar0 (inb_of S0 ⟨by decide, by decide⟩) ha0 (by decide)
  have A2 : Arv Z h2 b kb .byte (4 : Int32) [Value.int (own_lo c0), Value.int (own_hi c0), Value.int (0 : Int32), Value.int (0 : Int32)] (.int (0 : Int32)) := At2
  have K2 : Keep h0 h2 [] := K1.trans Kt2 (own_ws1 sz_b)
  obtain ⟨cl1, Ar1, q1, S1, M1, H1, G1⟩ := V.keep K2 (by simp)
  have ha1 : cl1.slots[(((0 : Int32) + (1 : Int32))).toNatClampNeg]? = some (.int c1) := by have q := H1 1 (by rw [S1]; decide); rw [hv1] at q; exact q
  obtain ⟨T3, h3, locs3, X3, e3, N3, Kt3, At3, st3⟩ := own_t17_2 a1 ((0 : Int32) + (1 : Int32)) (2 : Int32) b ((0 : Int32) + (1 : Int32)) c1 cl1 kb (4 : Int32) _ (.int (0 : Int32)) 2 X2 hx hZ hw hby hml hown e2 N2 (Nat.le_trans Z0 K2.1) A2 (by decide) (by decide) (by decide) (by decide) (by decide) (by decide) (Nat.le_of_ble_eq_true rfl) (Nat.le_of_ble_eq_true rfl) g_b (S__assertionsDisabled.ext (own_ext K2)) (S_HI_BYTE_SHIFT.ext (own_ext K2)) (S_LO_BYTE_SHIFT.ext (own_ext K2)) Ar1 (inb_of S1 ⟨by decide, by decide⟩) ha1 (by decide)
  have A3 : Arv Z h3 b kb .byte (4 : Int32) [Value.int (own_lo c0), Value.int (own_hi c0), Value.int (own_lo c1), Value.int (own_hi c1)] (.int (0 : Int32)) := At3
  have K3 : Keep h0 h3 [] := K2.trans Kt3 (own_ws1 sz_b)
  obtain ⟨Tx, Xx, ex, stx⟩ := own_x17 (.val (.ref a1)) (.val (.int (((0 : Int32) + (1 : Int32)) + (1 : Int32)))) (2 : Int32) (.val (.ref b)) (((0 : Int32) + (1 : Int32)) + (1 : Int32)) X3 hx hZ hw hby hml hown e3 (by decide)
  obtain ⟨fs, hr, hrun, hended, hW, hsame⟩ := Xx.leave (v := some (.ref b)) (fun h => by rw [Bd.returns] at h; cases h) (BodyLoose.notSynchronized Bd)
  refine ⟨_, _, pre0 _ ?_, hrun, hended, _, _, rfl, ⟨b, kb, rfl, N3, (by show Keep h0 Tx.heap []; rw [ex]; exact K3), sz_b, (by show Arv Z Tx.heap b kb .byte _ _ _; rw [ex]; exact A3)⟩, ⟨_, rfl⟩, hW, hsame.mono (by decide) (by decide)⟩
  refine st1 _ ?_
  refine st2 _ ?_
  refine st3 _ ?_
  refine stx _ ?_
  show Steps p.tables e below (Tx.setTop (mkF m 32 #[.val (.ref a1), .val (.int (((0 : Int32) + (1 : Int32)) + (1 : Int32))), .val (.int (2 : Int32)), .val (.ref b), .val (.int (((0 : Int32) + (1 : Int32)) + (1 : Int32)))] [])) _
  refine XS.aloadN Xx.here hx rfl (hb hby d17_32) rfl rfl ?_
  show Steps p.tables e below (Tx.setTop (mkF m 33 #[.val (.ref a1), .val (.int (((0 : Int32) + (1 : Int32)) + (1 : Int32))), .val (.int (2 : Int32)), .val (.ref b), .val (.int (((0 : Int32) + (1 : Int32)) + (1 : Int32)))] [(.ref b)])) _
  jvm_step Xx.here [Xx.here.top, hx, (hb hby d17_33), Xx.method', Bd.returns, Value.isRef, FieldType.isReference]
  first | (intro acts; rw [hr _ acts rfl rfl rfl]) | rw [hr _ _ rfl rfl rfl]
  exact Steps.refl _
set_option maxRecDepth 65536 in
set_option maxHeartbeats 40000000 in
theorem own_i17_3 {p : Program} {l : Launch} {e : Env} {s : State} {m : MethodId} {args : Array Value} {below : List Frame} {meth : Method} {c : Code} {T0 : State} {locs : List Loc} {Z : State} {a0 : Array Value} {h0 : Heap} {n0 : Nat} (s0 : Slot) (s1 : Slot) (s3 : Slot) (s4 : Slot)
    (X0 : Stand p l e ({ frames := 2, cells := 1, slots := 6, locals := 24 } : Room) s m args below meth c T0 locs 0 0) (hx : p.tables.exec = Jvm.exec) (hZ : Z.Warmed39 s.vm) (hw : ∀ d ∈ tables_1, d.before a0 Z = true) (hby : c.code = jdk_52_method_14_code) (hml : c.maxLocals = 5) (hown : s.vm.findClass "java/lang/StringUTF16" = some m.cls) (e0 : T0.heap = h0) (N0 : Fr n0 locs) (Z0 : n0 ≤ h0.size) (hs3 : One s3) (hs4 : One s4) :
    ∃ (T' : State) (h' : Heap) (locs' : List Loc) (b : Addr) (kb : ClassId), Stand p l e ({ frames := 2, cells := 1, slots := 6, locals := 24 } : Room) s m args below meth c T' locs' 1 6 ∧ T'.heap = h' ∧ Fr n0 locs' ∧ b = h0.size ∧ Keep h0 h' [] ∧ Arv Z h' b kb .byte (6 : Int32) [Value.int (0 : Int32), Value.int (0 : Int32), Value.int (0 : Int32), Value.int (0 : Int32), Value.int (0 : Int32), Value.int (0 : Int32)] (.int (0 : Int32)) ∧ ∀ target, Steps p.tables e below (T'.setTop (mkF m 8 #[s0, s1, .val (.int (3 : Int32)), .val (.ref b), .val (.int (0 : Int32))] [])) target → Steps p.tables e below (T0.setTop (mkF m 0 #[s0, s1, .val (.int (3 : Int32)), s3, s4] [])) target := by
  obtain ⟨_, _, ⟨T4, L4, k4, n4⟩, -, X4, ⟨Lc4, hQ4, l4, y4, z4⟩, st4⟩ := Jvm.LawKit.callS X0 hx (y := (⟨"java/lang/StringUTF16", "newBytesFor", "(I)[B"⟩ : MethodName)) hown (mvT hZ (own_w hw 81 rfl)) (mvT hZ (own_w hw 82 rfl)) (mvT hZ (own_w hw 41 rfl)) (mvT hZ (own_w hw 83 rfl)) (by decide) (backOf (W := 0) (rm18_3 l Z a0 hw []   h0 n0 Z0) hZ (own_w hw 83 rfl) (own_w hw 41 rfl) (by decide) (by decide)) (g := (mkF m 1 #[s0, s1, .val (.int (3 : Int32)), s3, s4] [(.int (3 : Int32))])) rfl (by rw [hml]; rfl) (argsL := [(.int (3 : Int32))]) (rest := []) (lenOf pd_17_15 rfl) rfl (by show 2 * 0 + _ ≤ _; exact Nat.le_of_eq rfl) (hb hby d17_1) (fun _ _ => ⟨rfl, e0, (by decide : 0 + 0 + 1 ≤ _), (by decide : 0 + 0 + 6 ≤ _)⟩)
  dsimp only [Pt.U, Pt.locs, Pt.cells, Pt.slots] at X4 l4 y4 z4 st4 hQ4
  subst l4 y4 z4
  obtain ⟨rfl, N4q, K4q, ⟨kb, A4q⟩⟩ := hQ4
  have N4 := Fr.app N0 N4q
  have KH4 : Keep h0 T4.heap [] := (Keep.refl h0 []).trans K4q own_ws0
  obtain ⟨bx, gx⟩ : ∃ z, z = h0.size := ⟨_, rfl⟩
  rw [← gx] at st4 A4q
  refine ⟨T4, _, _, bx, kb, X4, rfl, N4, gx, K4q, A4q, fun target kt => ?_⟩
  show Steps p.tables e below (T0.setTop (mkF m 0 #[s0, s1, .val (.int (3 : Int32)), s3, s4] [])) _
  refine XS.iloadN X0.here hx rfl (hb hby d17_0) rfl ?_
  show Steps p.tables e below (T0.setTop (mkF m 1 #[s0, s1, .val (.int (3 : Int32)), s3, s4] [(.int (3 : Int32))])) _
  refine st4 _ ?_
  show Steps p.tables e below (T4.setTop (mkF m 4 #[s0, s1, .val (.int (3 : Int32)), s3, s4] [(.ref bx)])) _
  refine XS.astoreN X4.here hx rfl (hb hby d17_4) rfl rfl (l' := #[s0, s1, .val (.int (3 : Int32)), .val (.ref bx), s4]) (os17_4 hs3) ?_
  refine XS.iconst X4.here hx rfl (hb hby d17_5) ?_
  refine XS.istore X4.here hx rfl (hb hby d17_6) rfl (l' := #[s0, s1, .val (.int (3 : Int32)), .val (.ref bx), .val (.int (0 : Int32))]) (os17_6 hs4) ?_
  exact kt
set_option maxRecDepth 65536 in
set_option maxHeartbeats 40000000 in
theorem own_t17_3 {p : Program} {l : Launch} {e : Env} {s : State} {m : MethodId} {args : Array Value} {below : List Frame} {meth : Method} {c : Code} {T0 : State} {locs : List Loc} {Z : State} {a0 : Array Value} {h0 : Heap} {n0 : Nat} (o0 : Addr) (i1 : Int32) (i2 : Int32) (o3 : Addr) (i4 : Int32) (w4 : Int32) (cl_o0 : Cell) (kb : ClassId) (z : Int32) (us : List Value) (d : Value) (i0 : Nat)
    (X0 : Stand p l e ({ frames := 2, cells := 1, slots := 6, locals := 24 } : Room) s m args below meth c T0 locs 1 6) (hx : p.tables.exec = Jvm.exec) (hZ : Z.Warmed39 s.vm) (hw : ∀ d ∈ tables_1, d.before a0 Z = true) (hby : c.code = jdk_52_method_14_code) (hml : c.maxLocals = 5) (hown : s.vm.findClass "java/lang/StringUTF16" = some m.cls) (e0 : T0.heap = h0) (N0 : Fr n0 locs) (Z0 : n0 ≤ h0.size) (V : Arv Z h0 o3 kb .byte z us d) (hi0 : (i4 <<< ((1 : Int32) &&& 31)).toNatClampNeg = i0) (hi1 : ((i4 <<< ((1 : Int32) &&& 31)) + (1 : Int32)).toNatClampNeg = i0 + 1) (hn0 : ¬ ((i4 <<< ((1 : Int32) &&& 31)) < 0)) (hz0 : (i4 <<< ((1 : Int32) &&& 31)) < z) (hn1 : ¬ (((i4 <<< ((1 : Int32) &&& 31)) + (1 : Int32)) < 0)) (hz1 : ((i4 <<< ((1 : Int32) &&& 31)) + (1 : Int32)) < z) (hl0 : i0 < us.length) (hl1 : i0 + 1 < us.length) (g_o3 : n0 ≤ o3) (S__assertionsDisabled : Sta Z h0 "java/lang/StringUTF16" "$assertionsDisabled" "Z" (.int (1 : Int32))) (S_HI_BYTE_SHIFT : Sta Z h0 "java/lang/StringUTF16" "HI_BYTE_SHIFT" "I" (.int (0 : Int32))) (S_LO_BYTE_SHIFT : Sta Z h0 "java/lang/StringUTF16" "LO_BYTE_SHIFT" "I" (.int (8 : Int32))) (Ar_o0 : Arr Z h0 o0 cl_o0 .char) (hin19 : ¬ (i1 < 0 ∨ cl_o0.slots.size ≤ (i1).toNatClampNeg)) (hat19 : cl_o0.slots[(i1).toNatClampNeg]? = some (.int w4)) (hc11 : i4 < i2) :
    ∃ (T' : State) (h' : Heap) (locs' : List Loc) , Stand p l e ({ frames := 2, cells := 1, slots := 6, locals := 24 } : Room) s m args below meth c T' locs' 1 6 ∧ T'.heap = h' ∧ Fr n0 locs' ∧ Keep h0 h' [o3] ∧ Arv Z h' o3 kb .byte z ((us.set i0 (.int (own_lo w4))).set (i0 + 1) (.int (own_hi w4))) d ∧ ∀ target, Steps p.tables e below (T'.setTop (mkF m 8 #[.val (.ref o0), .val (.int (i1 + (1 : Int32))), .val (.int i2), .val (.ref o3), .val (.int (i4 + (1 : Int32)))] [])) target → Steps p.tables e below (T0.setTop (mkF m 8 #[.val (.ref o0), .val (.int i1), .val (.int i2), .val (.ref o3), .val (.int i4)] [])) target := by
  obtain ⟨_, _, ⟨T5, L5, k5, n5⟩, -, X5, ⟨Lc5, hQ5, l5, y5, z5⟩, st5⟩ := Jvm.LawKit.callS X0 hx (y := (⟨"java/lang/StringUTF16", "putChar", "([BII)V"⟩ : MethodName)) hown (mvT hZ (own_w hw 88 rfl)) (mvT hZ (own_w hw 89 rfl)) (mvT hZ (own_w hw 41 rfl)) (mvT hZ (own_w hw 90 rfl)) (by decide) (backOf (W := 0) (rm20 l Z a0 hw [] o3 i4 w4 kb z us d i0 h0 n0 Z0 V hi0 hi1 hn0 hz0 hn1 hz1 hl0 hl1 g_o3 S__assertionsDisabled S_HI_BYTE_SHIFT S_LO_BYTE_SHIFT) hZ (own_w hw 90 rfl) (own_w hw 41 rfl) (by decide) (by decide)) (g := (mkF m 20 #[.val (.ref o0), .val (.int i1), .val (.int i2), .val (.ref o3), .val (.int i4)] [(.int w4), (.int i4), (.ref o3)])) rfl (by rw [hml]; rfl) (argsL := [(.ref o3), (.int i4), (.int w4)]) (rest := []) (lenOf pd_17_17 rfl) rfl (by show 2 * 0 + _ ≤ _; exact Nat.le_of_eq rfl) (hb hby d17_20) (fun _ _ => ⟨rfl, e0, (by decide : 1 + 0 + 0 ≤ _), (by decide : 6 + 0 + 0 ≤ _)⟩)
  dsimp only [Pt.U, Pt.locs, Pt.cells, Pt.slots] at X5 l5 y5 z5 st5 hQ5
  subst l5 y5 z5
  obtain ⟨rfl, N5q, K5q, A5q⟩ := hQ5
  have N5 := Fr.app N0 N5q
  have KH5 : Keep h0 T5.heap [o3] := (Keep.refl h0 [o3]).trans K5q own_wsIn
  refine ⟨T5, _, _, X5, rfl, N5, K5q, A5q, fun target kt => ?_⟩
  show Steps p.tables e below (T0.setTop (mkF m 8 #[.val (.ref o0), .val (.int i1), .val (.int i2), .val (.ref o3), .val (.int i4)] [])) _
  refine XS.iload X0.here hx rfl (hb hby d17_8) rfl ?_
  refine XS.iloadN X0.here hx rfl (hb hby d17_10) rfl ?_
  refine XS.icmpNo X0.here hx rfl (hb hby d17_11) rfl (tlt hc11).2.1 ?_
  refine XS.aloadN X0.here hx rfl (hb hby d17_14) rfl rfl ?_
  refine XS.iload X0.here hx rfl (hb hby d17_15) rfl ?_
  refine XS.aloadN X0.here hx rfl (hb hby d17_17) rfl rfl ?_
  refine XS.iloadN X0.here hx rfl (hb hby d17_18) rfl ?_
  show Steps p.tables e below (T0.setTop (mkF m 19 #[.val (.ref o0), .val (.int i1), .val (.int i2), .val (.ref o3), .val (.int i4)] [(.int i1), (.ref o0), (.int i4), (.ref o3)])) _
  refine X0.caload hx (j := i1) (v := (.int w4)) (by rw [e0]; exact Ar_o0.1) (State.isArrayOf_alike hZ.alike Ar_o0.2.1) Ar_o0.2.2 hin19 hat19 (g := (mkF m 19 #[.val (.ref o0), .val (.int i1), .val (.int i2), .val (.ref o3), .val (.int i4)] [(.int i1), (.ref o0), (.int i4), (.ref o3)])) rfl rfl (hb hby d17_19) _ ?_
  show Steps p.tables e below (T0.setTop (mkF m 20 #[.val (.ref o0), .val (.int i1), .val (.int i2), .val (.ref o3), .val (.int i4)] [(.int w4), (.int i4), (.ref o3)])) _
  refine st5 _ ?_
  show Steps p.tables e below (T5.setTop (mkF m 23 #[.val (.ref o0), .val (.int i1), .val (.int i2), .val (.ref o3), .val (.int i4)] [])) _
  refine XS.iinc X5.here hx rfl (hb hby d17_23) rfl (l' := #[.val (.ref o0), .val (.int (i1 + (1 : Int32))), .val (.int i2), .val (.ref o3), .val (.int i4)]) rfl ?_
  refine XS.iinc X5.here hx rfl (hb hby d17_26) rfl (l' := #[.val (.ref o0), .val (.int (i1 + (1 : Int32))), .val (.int i2), .val (.ref o3), .val (.int (i4 + (1 : Int32)))]) rfl ?_
  refine XS.goto X5.here hx rfl (pc0 := 29) (pc' := 8) rfl (hb hby d17_29) (by decide) (by decide) ?_
  exact kt
def Q17_3 (Z : State) (c0 : Int32) (c1 : Int32) (c2 : Int32) (h0 : Heap) (n0 : Nat) (v : Option Value) (h : Heap) (L : List Loc) : Prop := ∃ (b : Addr) (kb : ClassId), v = some (.ref b) ∧ Fr n0 L ∧ Keep h0 h [] ∧ h0.size ≤ b ∧ Arv Z h b kb .byte (6 : Int32) [Value.int (own_lo c0), Value.int (own_hi c0), Value.int (own_lo c1), Value.int (own_hi c1), Value.int (own_lo c2), Value.int (own_hi c2)] (.int (0 : Int32))
set_option maxRecDepth 65536 in
set_option maxHeartbeats 40000000 in
theorem rm17_3 (l : Launch) (Z : State) (a0 : Array Value) (hw : ∀ d ∈ tables_1, d.before a0 Z = true) (ws : List Jvm.Cond) (a1 : Addr) (ka : ClassId) (vs : List Value) (dv : Value) (c0 : Int32) (c1 : Int32) (c2 : Int32) (h0 : Heap) (n0 : Nat) (Z0 : n0 ≤ h0.size) (V : Arv Z h0 a1 ka .char (3 : Int32) vs dv) (hv0 : vs.getD 0 dv = .int c0) (hv1 : vs.getD 1 dv = .int c1) (hv2 : vs.getD 2 dv = .int c2) (S__assertionsDisabled : Sta Z h0 "java/lang/StringUTF16" "$assertionsDisabled" "Z" (.int (1 : Int32))) (S_HI_BYTE_SHIFT : Sta Z h0 "java/lang/StringUTF16" "HI_BYTE_SHIFT" "I" (.int (0 : Int32))) (S_LO_BYTE_SHIFT : Sta Z h0 "java/lang/StringUTF16" "LO_BYTE_SHIFT" "I" (.int (8 : Int32))) :
    MetFree l (⟨"java/lang/StringUTF16", "toBytes", "([CII)[B"⟩ : MethodName) (head1 (Jvm.Cond.code (⟨"java/lang/StringUTF16", "toBytes", "([CII)[B"⟩ : MethodName) jdk_52_method_14_code 5 (some (.array .byte)) :: ws) ({ frames := 2, cells := 1, slots := 6, locals := 24 } : Room)) (fun a U => a = #[(.ref a1), (.int (0 : Int32)), (.int (3 : Int32))] ∧ Z.Warmed39 U.vm ∧ U.heap = h0) (fun _ _ _ _ _ => True) (fun _ U o U' => ∃ v L, o = .returned v ∧ Q17_3 Z c0 c1 c2 h0 n0 v U'.heap L ∧ FrameEnd U o U' L ({ frames := 2, cells := 1, slots := 6, locals := 24 } : Room).cells ({ frames := 2, cells := 1, slots := 6, locals := 24 } : Room).slots) := by
  refine MetFree.of_bodySF (plainFor_of_name pn_17) hisR ?_
  intro p e s m args below meth c s₁ Bd hml0 hP hK
  obtain ⟨rfl, hZ, hh⟩ := hP
  have hx := Bd.exec
  have hby := Bd.bytes
  have hml : c.maxLocals = 5 := hml0
  have hown : s.vm.findClass "java/lang/StringUTF16" = some m.cls := findClass_of_methodNamed Bd.named
  have hnm := (name_of_methodNamed Bd.named Bd.method).1
  have X0 : Stand p l e ({ frames := 2, cells := 1, slots := 6, locals := 24 } : Room) s m #[(.ref a1), (.int (0 : Int32)), (.int (3 : Int32))] below meth c s₁ [] 0 0 := Stand.of_body Bd
  have e0 : s₁.heap = h0 := by rw [← hh, Bd.state]; rfl
  have N0 := Fr.nil n0
  have pre0 : ∀ t, Steps p.tables e below (s₁.setTop (mkF m 0 #[.val (.ref a1), .val (.int (0 : Int32)), .val (.int (3 : Int32)), .unset, .unset] [])) t → Steps p.tables e below (s₁.setTop (entryFrame m #[(.ref a1), (.int (0 : Int32)), (.int (3 : Int32))] 5)) t := fun t k => castTop (ef_17 m a1 (0 : Int32) (3 : Int32)) k
  obtain ⟨T1, h1, locs1, b, kb, X1, e1, N1, gb, K1, A1, st1⟩ := own_i17_3 (.val (.ref a1)) (.val (.int (0 : Int32))) .unset .unset X0 hx hZ hw hby hml hown e0 N0 Z0 One.u One.u
  have g_b : n0 ≤ b := Nat.le_trans Z0 (Nat.le_of_eq gb.symm)
  have sz_b : h0.size ≤ b := Nat.le_of_eq gb.symm
  obtain ⟨cl0, Ar0, q0, S0, M0, H0, G0⟩ := V.keep K1 (by simp)
  have ha0 : cl0.slots[((0 : Int32)).toNatClampNeg]? = some (.int c0) := by have q := H0 0 (by rw [S0]; decide); rw [hv0] at q; exact q
  obtain ⟨T2, h2, locs2, X2, e2, N2, Kt2, At2, st2⟩ := own_t17_3 a1 (0 : Int32) (3 : Int32) b (0 : Int32) c0 cl0 kb (6 : Int32) _ (.int (0 : Int32)) 0 X1 hx hZ hw hby hml hown e1 N1 (Nat.le_trans Z0 K1.1) A1 (by decide) (by decide) (by decide) (by decide) (by decide) (by decide) (Nat.le_of_ble_eq_true rfl) (Nat.le_of_ble_eq_true rfl) g_b (S__assertionsDisabled.ext (own_ext K1)) (S_HI_BYTE_SHIFT.ext (own_ext K1)) (S_LO_BYTE_SHIFT.ext (own_ext K1)) Ar0 (inb_of S0 ⟨by decide, by decide⟩) ha0 (by decide)
  have A2 : Arv Z h2 b kb .byte (6 : Int32) [Value.int (own_lo c0), Value.int (own_hi c0), Value.int (0 : Int32), Value.int (0 : Int32), Value.int (0 : Int32), Value.int (0 : Int32)] (.int (0 : Int32)) := At2
  have K2 : Keep h0 h2 [] := K1.trans Kt2 (own_ws1 sz_b)
  obtain ⟨cl1, Ar1, q1, S1, M1, H1, G1⟩ := V.keep K2 (by simp)
  have ha1 : cl1.slots[(((0 : Int32) + (1 : Int32))).toNatClampNeg]? = some (.int c1) := by have q := H1 1 (by rw [S1]; decide); rw [hv1] at q; exact q
  obtain ⟨T3, h3, locs3, X3, e3, N3, Kt3, At3, st3⟩ := own_t17_3 a1 ((0 : Int32) + (1 : Int32)) (3 : Int32) b ((0 : Int32) + (1 : Int32)) c1 cl1 kb (6 : Int32) _ (.int (0 : Int32)) 2 X2 hx hZ hw hby hml hown e2 N2 (Nat.le_trans Z0 K2.1) A2 (by decide) (by decide) (by decide) (by decide) (by decide) (by decide) (Nat.le_of_ble_eq_true rfl) (Nat.le_of_ble_eq_true rfl) g_b (S__assertionsDisabled.ext (own_ext K2)) (S_HI_BYTE_SHIFT.ext (own_ext K2)) (S_LO_BYTE_SHIFT.ext (own_ext K2)) Ar1 (inb_of S1 ⟨by decide, by decide⟩) ha1 (by decide)
  have A3 : Arv Z h3 b kb .byte (6 : Int32) [Value.int (own_lo c0), Value.int (own_hi c0), Value.int (own_lo c1), Value.int (own_hi c1), Value.int (0 : Int32), Value.int (0 : Int32)] (.int (0 : Int32)) := At3
  have K3 : Keep h0 h3 [] := K2.trans Kt3 (own_ws1 sz_b)
  obtain ⟨cl2, Ar2, q2, S2, M2, H2, G2⟩ := V.keep K3 (by simp)
  have ha2 : cl2.slots[((((0 : Int32) + (1 : Int32)) + (1 : Int32))).toNatClampNeg]? = some (.int c2) := by have q := H2 2 (by rw [S2]; decide); rw [hv2] at q; exact q
  obtain ⟨T4, h4, locs4, X4, e4, N4, Kt4, At4, st4⟩ := own_t17_3 a1 (((0 : Int32) + (1 : Int32)) + (1 : Int32)) (3 : Int32) b (((0 : Int32) + (1 : Int32)) + (1 : Int32)) c2 cl2 kb (6 : Int32) _ (.int (0 : Int32)) 4 X3 hx hZ hw hby hml hown e3 N3 (Nat.le_trans Z0 K3.1) A3 (by decide) (by decide) (by decide) (by decide) (by decide) (by decide) (Nat.le_of_ble_eq_true rfl) (Nat.le_of_ble_eq_true rfl) g_b (S__assertionsDisabled.ext (own_ext K3)) (S_HI_BYTE_SHIFT.ext (own_ext K3)) (S_LO_BYTE_SHIFT.ext (own_ext K3)) Ar2 (inb_of S2 ⟨by decide, by decide⟩) ha2 (by decide)
  have A4 : Arv Z h4 b kb .byte (6 : Int32) [Value.int (own_lo c0), Value.int (own_hi c0), Value.int (own_lo c1), Value.int (own_hi c1), Value.int (own_lo c2), Value.int (own_hi c2)] (.int (0 : Int32)) := At4
  have K4 : Keep h0 h4 [] := K3.trans Kt4 (own_ws1 sz_b)
  obtain ⟨Tx, Xx, ex, stx⟩ := own_x17 (.val (.ref a1)) (.val (.int ((((0 : Int32) + (1 : Int32)) + (1 : Int32)) + (1 : Int32)))) (3 : Int32) (.val (.ref b)) ((((0 : Int32) + (1 : Int32)) + (1 : Int32)) + (1 : Int32)) X4 hx hZ hw hby hml hown e4 (by decide)
  obtain ⟨fs, hr, hrun, hended, hW, hsame⟩ := Xx.leave (v := some (.ref b)) (fun h => by rw [Bd.returns] at h; cases h) (BodyLoose.notSynchronized Bd)
  refine ⟨_, _, pre0 _ ?_, hrun, hended, _, _, rfl, ⟨b, kb, rfl, N4, (by show Keep h0 Tx.heap []; rw [ex]; exact K4), sz_b, (by show Arv Z Tx.heap b kb .byte _ _ _; rw [ex]; exact A4)⟩, ⟨_, rfl⟩, hW, hsame.mono (by decide) (by decide)⟩
  refine st1 _ ?_
  refine st2 _ ?_
  refine st3 _ ?_
  refine st4 _ ?_
  refine stx _ ?_
  show Steps p.tables e below (Tx.setTop (mkF m 32 #[.val (.ref a1), .val (.int ((((0 : Int32) + (1 : Int32)) + (1 : Int32)) + (1 : Int32))), .val (.int (3 : Int32)), .val (.ref b), .val (.int ((((0 : Int32) + (1 : Int32)) + (1 : Int32)) + (1 : Int32)))] [])) _
  refine XS.aloadN Xx.here hx rfl (hb hby d17_32) rfl rfl ?_
  show Steps p.tables e below (Tx.setTop (mkF m 33 #[.val (.ref a1), .val (.int ((((0 : Int32) + (1 : Int32)) + (1 : Int32)) + (1 : Int32))), .val (.int (3 : Int32)), .val (.ref b), .val (.int ((((0 : Int32) + (1 : Int32)) + (1 : Int32)) + (1 : Int32)))] [(.ref b)])) _
  jvm_step Xx.here [Xx.here.top, hx, (hb hby d17_33), Xx.method', Bd.returns, Value.isRef, FieldType.isReference]
  first | (intro acts; rw [hr _ acts rfl rfl rfl]) | rw [hr _ _ rfl rfl rfl]
  exact Steps.refl _
set_option maxRecDepth 65536 in
set_option maxHeartbeats 40000000 in
theorem own_i17_4 {p : Program} {l : Launch} {e : Env} {s : State} {m : MethodId} {args : Array Value} {below : List Frame} {meth : Method} {c : Code} {T0 : State} {locs : List Loc} {Z : State} {a0 : Array Value} {h0 : Heap} {n0 : Nat} (s0 : Slot) (s1 : Slot) (s3 : Slot) (s4 : Slot)
    (X0 : Stand p l e ({ frames := 2, cells := 1, slots := 8, locals := 24 } : Room) s m args below meth c T0 locs 0 0) (hx : p.tables.exec = Jvm.exec) (hZ : Z.Warmed39 s.vm) (hw : ∀ d ∈ tables_1, d.before a0 Z = true) (hby : c.code = jdk_52_method_14_code) (hml : c.maxLocals = 5) (hown : s.vm.findClass "java/lang/StringUTF16" = some m.cls) (e0 : T0.heap = h0) (N0 : Fr n0 locs) (Z0 : n0 ≤ h0.size) (hs3 : One s3) (hs4 : One s4) :
    ∃ (T' : State) (h' : Heap) (locs' : List Loc) (b : Addr) (kb : ClassId), Stand p l e ({ frames := 2, cells := 1, slots := 8, locals := 24 } : Room) s m args below meth c T' locs' 1 8 ∧ T'.heap = h' ∧ Fr n0 locs' ∧ b = h0.size ∧ Keep h0 h' [] ∧ Arv Z h' b kb .byte (8 : Int32) [Value.int (0 : Int32), Value.int (0 : Int32), Value.int (0 : Int32), Value.int (0 : Int32), Value.int (0 : Int32), Value.int (0 : Int32), Value.int (0 : Int32), Value.int (0 : Int32)] (.int (0 : Int32)) ∧ ∀ target, Steps p.tables e below (T'.setTop (mkF m 8 #[s0, s1, .val (.int (4 : Int32)), .val (.ref b), .val (.int (0 : Int32))] [])) target → Steps p.tables e below (T0.setTop (mkF m 0 #[s0, s1, .val (.int (4 : Int32)), s3, s4] [])) target := by
  obtain ⟨_, _, ⟨T4, L4, k4, n4⟩, -, X4, ⟨Lc4, hQ4, l4, y4, z4⟩, st4⟩ := Jvm.LawKit.callS X0 hx (y := (⟨"java/lang/StringUTF16", "newBytesFor", "(I)[B"⟩ : MethodName)) hown (mvT hZ (own_w hw 81 rfl)) (mvT hZ (own_w hw 82 rfl)) (mvT hZ (own_w hw 41 rfl)) (mvT hZ (own_w hw 83 rfl)) (by decide) (backOf (W := 0) (rm18_4 l Z a0 hw []   h0 n0 Z0) hZ (own_w hw 83 rfl) (own_w hw 41 rfl) (by decide) (by decide)) (g := (mkF m 1 #[s0, s1, .val (.int (4 : Int32)), s3, s4] [(.int (4 : Int32))])) rfl (by rw [hml]; rfl) (argsL := [(.int (4 : Int32))]) (rest := []) (lenOf pd_17_15 rfl) rfl (by show 2 * 0 + _ ≤ _; exact Nat.le_of_eq rfl) (hb hby d17_1) (fun _ _ => ⟨rfl, e0, (by decide : 0 + 0 + 1 ≤ _), (by decide : 0 + 0 + 8 ≤ _)⟩)
  dsimp only [Pt.U, Pt.locs, Pt.cells, Pt.slots] at X4 l4 y4 z4 st4 hQ4
  subst l4 y4 z4
  obtain ⟨rfl, N4q, K4q, ⟨kb, A4q⟩⟩ := hQ4
  have N4 := Fr.app N0 N4q
  have KH4 : Keep h0 T4.heap [] := (Keep.refl h0 []).trans K4q own_ws0
  obtain ⟨bx, gx⟩ : ∃ z, z = h0.size := ⟨_, rfl⟩
  rw [← gx] at st4 A4q
  refine ⟨T4, _, _, bx, kb, X4, rfl, N4, gx, K4q, A4q, fun target kt => ?_⟩
  show Steps p.tables e below (T0.setTop (mkF m 0 #[s0, s1, .val (.int (4 : Int32)), s3, s4] [])) _
  refine XS.iloadN X0.here hx rfl (hb hby d17_0) rfl ?_
  show Steps p.tables e below (T0.setTop (mkF m 1 #[s0, s1, .val (.int (4 : Int32)), s3, s4] [(.int (4 : Int32))])) _
  refine st4 _ ?_
  show Steps p.tables e below (T4.setTop (mkF m 4 #[s0, s1, .val (.int (4 : Int32)), s3, s4] [(.ref bx)])) _
  refine XS.astoreN X4.here hx rfl (hb hby d17_4) rfl rfl (l' := #[s0, s1, .val (.int (4 : Int32)), .val (.ref bx), s4]) (os17_4 hs3) ?_
  refine XS.iconst X4.here hx rfl (hb hby d17_5) ?_
  refine XS.istore X4.here hx rfl (hb hby d17_6) rfl (l' := #[s0, s1, .val (.int (4 : Int32)), .val (.ref bx), .val (.int (0 : Int32))]) (os17_6 hs4) ?_
  exact kt
set_option maxRecDepth 65536 in
set_option maxHeartbeats 40000000 in
theorem own_t17_4 {p : Program} {l : Launch} {e : Env} {s : State} {m : MethodId} {args : Array Value} {below : List Frame} {meth : Method} {c : Code} {T0 : State} {locs : List Loc} {Z : State} {a0 : Array Value} {h0 : Heap} {n0 : Nat} (o0 : Addr) (i1 : Int32) (i2 : Int32) (o3 : Addr) (i4 : Int32) (w4 : Int32) (cl_o0 : Cell) (kb : ClassId) (z : Int32) (us : List Value) (d : Value) (i0 : Nat)
    (X0 : Stand p l e ({ frames := 2, cells := 1, slots := 8, locals := 24 } : Room) s m args below meth c T0 locs 1 8) (hx : p.tables.exec = Jvm.exec) (hZ : Z.Warmed39 s.vm) (hw : ∀ d ∈ tables_1, d.before a0 Z = true) (hby : c.code = jdk_52_method_14_code) (hml : c.maxLocals = 5) (hown : s.vm.findClass "java/lang/StringUTF16" = some m.cls) (e0 : T0.heap = h0) (N0 : Fr n0 locs) (Z0 : n0 ≤ h0.size) (V : Arv Z h0 o3 kb .byte z us d) (hi0 : (i4 <<< ((1 : Int32) &&& 31)).toNatClampNeg = i0) (hi1 : ((i4 <<< ((1 : Int32) &&& 31)) + (1 : Int32)).toNatClampNeg = i0 + 1) (hn0 : ¬ ((i4 <<< ((1 : Int32) &&& 31)) < 0)) (hz0 : (i4 <<< ((1 : Int32) &&& 31)) < z) (hn1 : ¬ (((i4 <<< ((1 : Int32) &&& 31)) + (1 : Int32)) < 0)) (hz1 : ((i4 <<< ((1 : Int32) &&& 31)) + (1 : Int32)) < z) (hl0 : i0 < us.length) (hl1 : i0 + 1 < us.length) (g_o3 : n0 ≤ o3) (S__assertionsDisabled : Sta Z h0 "java/lang/StringUTF16" "$assertionsDisabled" "Z" (.int (1 : Int32))) (S_HI_BYTE_SHIFT : Sta Z h0 "java/lang/StringUTF16" "HI_BYTE_SHIFT" "I" (.int (0 : Int32))) (S_LO_BYTE_SHIFT : Sta Z h0 "java/lang/StringUTF16" "LO_BYTE_SHIFT" "I" (.int (8 : Int32))) (Ar_o0 : Arr Z h0 o0 cl_o0 .char) (hin19 : ¬ (i1 < 0 ∨ cl_o0.slots.size ≤ (i1).toNatClampNeg)) (hat19 : cl_o0.slots[(i1).toNatClampNeg]? = some (.int w4)) (hc11 : i4 < i2) :
    ∃ (T' : State) (h' : Heap) (locs' : List Loc) , Stand p l e ({ frames := 2, cells := 1, slots := 8, locals := 24 } : Room) s m args below meth c T' locs' 1 8 ∧ T'.heap = h' ∧ Fr n0 locs' ∧ Keep h0 h' [o3] ∧ Arv Z h' o3 kb .byte z ((us.set i0 (.int (own_lo w4))).set (i0 + 1) (.int (own_hi w4))) d ∧ ∀ target, Steps p.tables e below (T'.setTop (mkF m 8 #[.val (.ref o0), .val (.int (i1 + (1 : Int32))), .val (.int i2), .val (.ref o3), .val (.int (i4 + (1 : Int32)))] [])) target → Steps p.tables e below (T0.setTop (mkF m 8 #[.val (.ref o0), .val (.int i1), .val (.int i2), .val (.ref o3), .val (.int i4)] [])) target := by
  obtain ⟨_, _, ⟨T5, L5, k5, n5⟩, -, X5, ⟨Lc5, hQ5, l5, y5, z5⟩, st5⟩ := Jvm.LawKit.callS X0 hx (y := (⟨"java/lang/StringUTF16", "putChar", "([BII)V"⟩ : MethodName)) hown (mvT hZ (own_w hw 88 rfl)) (mvT hZ (own_w hw 89 rfl)) (mvT hZ (own_w hw 41 rfl)) (mvT hZ (own_w hw 90 rfl)) (by decide) (backOf (W := 0) (rm20 l Z a0 hw [] o3 i4 w4 kb z us d i0 h0 n0 Z0 V hi0 hi1 hn0 hz0 hn1 hz1 hl0 hl1 g_o3 S__assertionsDisabled S_HI_BYTE_SHIFT S_LO_BYTE_SHIFT) hZ (own_w hw 90 rfl) (own_w hw 41 rfl) (by decide) (by decide)) (g := (mkF m 20 #[.val (.ref o0), .val (.int i1), .val (.int i2), .val (.ref o3), .val (.int i4)] [(.int w4), (.int i4), (.ref o3)])) rfl (by rw [hml]; rfl) (argsL := [(.ref o3), (.int i4), (.int w4)]) (rest := []) (lenOf pd_17_17 rfl) rfl (by show 2 * 0 + _ ≤ _; exact Nat.le_of_eq rfl) (hb hby d17_20) (fun _ _ => ⟨rfl, e0, (by decide : 1 + 0 + 0 ≤ _), (by decide : 8 + 0 + 0 ≤ _)⟩)
  dsimp only [Pt.U, Pt.locs, Pt.cells, Pt.slots] at X5 l5 y5 z5 st5 hQ5
  subst l5 y5 z5
  obtain ⟨rfl, N5q, K5q, A5q⟩ := hQ5
  have N5 := Fr.app N0 N5q
  have KH5 : Keep h0 T5.heap [o3] := (Keep.refl h0 [o3]).trans K5q own_wsIn
  refine ⟨T5, _, _, X5, rfl, N5, K5q, A5q, fun target kt => ?_⟩
  show Steps p.tables e below (T0.setTop (mkF m 8 #[.val (.ref o0), .val (.int i1), .val (.int i2), .val (.ref o3), .val (.int i4)] [])) _
  refine XS.iload X0.here hx rfl (hb hby d17_8) rfl ?_
  refine XS.iloadN X0.here hx rfl (hb hby d17_10) rfl ?_
  refine XS.icmpNo X0.here hx rfl (hb hby d17_11) rfl (tlt hc11).2.1 ?_
  refine XS.aloadN X0.here hx rfl (hb hby d17_14) rfl rfl ?_
  refine XS.iload X0.here hx rfl (hb hby d17_15) rfl ?_
  refine XS.aloadN X0.here hx rfl (hb hby d17_17) rfl rfl ?_
  refine XS.iloadN X0.here hx rfl (hb hby d17_18) rfl ?_
  show Steps p.tables e below (T0.setTop (mkF m 19 #[.val (.ref o0), .val (.int i1), .val (.int i2), .val (.ref o3), .val (.int i4)] [(.int i1), (.ref o0), (.int i4), (.ref o3)])) _
  refine X0.caload hx (j := i1) (v := (.int w4)) (by rw [e0]; exact Ar_o0.1) (State.isArrayOf_alike hZ.alike Ar_o0.2.1) Ar_o0.2.2 hin19 hat19 (g := (mkF m 19 #[.val (.ref o0), .val (.int i1), .val (.int i2), .val (.ref o3), .val (.int i4)] [(.int i1), (.ref o0), (.int i4), (.ref o3)])) rfl rfl (hb hby d17_19) _ ?_
  show Steps p.tables e below (T0.setTop (mkF m 20 #[.val (.ref o0), .val (.int i1), .val (.int i2), .val (.ref o3), .val (.int i4)] [(.int w4), (.int i4), (.ref o3)])) _
  refine st5 _ ?_
  show Steps p.tables e below (T5.setTop (mkF m 23 #[.val (.ref o0), .val (.int i1), .val (.int i2), .val (.ref o3), .val (.int i4)] [])) _
  refine XS.iinc X5.here hx rfl (hb hby d17_23) rfl (l' := #[.val (.ref o0), .val (.int (i1 + (1 : Int32))), .val (.int i2), .val (.ref o3), .val (.int i4)]) rfl ?_
  refine XS.iinc X5.here hx rfl (hb hby d17_26) rfl (l' := #[.val (.ref o0), .val (.int (i1 + (1 : Int32))), .val (.int i2), .val (.ref o3), .val (.int (i4 + (1 : Int32)))]) rfl ?_
  refine XS.goto X5.here hx rfl (pc0 := 29) (pc' := 8) rfl (hb hby d17_29) (by decide) (by decide) ?_
  exact kt
def Q17_4 (Z : State) (c0 : Int32) (c1 : Int32) (c2 : Int32) (c3 : Int32) (h0 : Heap) (n0 : Nat) (v : Option Value) (h : Heap) (L : List Loc) : Prop := ∃ (b : Addr) (kb : ClassId), v = some (.ref b) ∧ Fr n0 L ∧ Keep h0 h [] ∧ h0.size ≤ b ∧ Arv Z h b kb .byte (8 : Int32) [Value.int (own_lo c0), Value.int (own_hi c0), Value.int (own_lo c1), Value.int (own_hi c1), Value.int (own_lo c2), Value.int (own_hi c2), Value.int (own_lo c3), Value.int (own_hi c3)] (.int (0 : Int32))
set_option maxRecDepth 65536 in
set_option maxHeartbeats 40000000 in
theorem rm17_4 (l : Launch) (Z : State) (a0 : Array Value) (hw : ∀ d ∈ tables_1, d.before a0 Z = true) (ws : List Jvm.Cond) (a1 : Addr) (ka : ClassId) (vs : List Value) (dv : Value) (c0 : Int32) (c1 : Int32) (c2 : Int32) (c3 : Int32) (h0 : Heap) (n0 : Nat) (Z0 : n0 ≤ h0.size) (V : Arv Z h0 a1 ka .char (4 : Int32) vs dv) (hv0 : vs.getD 0 dv = .int c0) (hv1 : vs.getD 1 dv = .int c1) (hv2 : vs.getD 2 dv = .int c2) (hv3 : vs.getD 3 dv = .int c3) (S__assertionsDisabled : Sta Z h0 "java/lang/StringUTF16" "$assertionsDisabled" "Z" (.int (1 : Int32))) (S_HI_BYTE_SHIFT : Sta Z h0 "java/lang/StringUTF16" "HI_BYTE_SHIFT" "I" (.int (0 : Int32))) (S_LO_BYTE_SHIFT : Sta Z h0 "java/lang/StringUTF16" "LO_BYTE_SHIFT" "I" (.int (8 : Int32))) :
    MetFree l (⟨"java/lang/StringUTF16", "toBytes", "([CII)[B"⟩ : MethodName) (head1 (Jvm.Cond.code (⟨"java/lang/StringUTF16", "toBytes", "([CII)[B"⟩ : MethodName) jdk_52_method_14_code 5 (some (.array .byte)) :: ws) ({ frames := 2, cells := 1, slots := 8, locals := 24 } : Room)) (fun a U => a = #[(.ref a1), (.int (0 : Int32)), (.int (4 : Int32))] ∧ Z.Warmed39 U.vm ∧ U.heap = h0) (fun _ _ _ _ _ => True) (fun _ U o U' => ∃ v L, o = .returned v ∧ Q17_4 Z c0 c1 c2 c3 h0 n0 v U'.heap L ∧ FrameEnd U o U' L ({ frames := 2, cells := 1, slots := 8, locals := 24 } : Room).cells ({ frames := 2, cells := 1, slots := 8, locals := 24 } : Room).slots) := by
  refine MetFree.of_bodySF (plainFor_of_name pn_17) hisR ?_
  intro p e s m args below meth c s₁ Bd hml0 hP hK
  obtain ⟨rfl, hZ, hh⟩ := hP
  have hx := Bd.exec
  have hby := Bd.bytes
  have hml : c.maxLocals = 5 := hml0
  have hown : s.vm.findClass "java/lang/StringUTF16" = some m.cls := findClass_of_methodNamed Bd.named
  have hnm := (name_of_methodNamed Bd.named Bd.method).1
  have X0 : Stand p l e ({ frames := 2, cells := 1, slots := 8, locals := 24 } : Room) s m #[(.ref a1), (.int (0 : Int32)), (.int (4 : Int32))] below meth c s₁ [] 0 0 := Stand.of_body Bd
  have e0 : s₁.heap = h0 := by rw [← hh, Bd.state]; rfl
  have N0 := Fr.nil n0
  have pre0 : ∀ t, Steps p.tables e below (s₁.setTop (mkF m 0 #[.val (.ref a1), .val (.int (0 : Int32)), .val (.int (4 : Int32)), .unset, .unset] [])) t → Steps p.tables e below (s₁.setTop (entryFrame m #[(.ref a1), (.int (0 : Int32)), (.int (4 : Int32))] 5)) t := fun t k => castTop (ef_17 m a1 (0 : Int32) (4 : Int32)) k
  obtain ⟨T1, h1, locs1, b, kb, X1, e1, N1, gb, K1, A1, st1⟩ := own_i17_4 (.val (.ref a1)) (.val (.int (0 : Int32))) .unset .unset X0 hx hZ hw hby hml hown e0 N0 Z0 One.u One.u
  have g_b : n0 ≤ b := Nat.le_trans Z0 (Nat.le_of_eq gb.symm)
  have sz_b : h0.size ≤ b := Nat.le_of_eq gb.symm
  obtain ⟨cl0, Ar0, q0, S0, M0, H0, G0⟩ := V.keep K1 (by simp)
  have ha0 : cl0.slots[((0 : Int32)).toNatClampNeg]? = some (.int c0) := by have q := H0 0 (by rw [S0]; decide); rw [hv0] at q; exact q
  obtain ⟨T2, h2, locs2, X2, e2, N2, Kt2, At2, st2⟩ := own_t17_4 a1 (0 : Int32) (4 : Int32) b (0 : Int32) c0 cl0 kb (8 : Int32) _ (.int (0 : Int32)) 0 X1 hx hZ hw hby hml hown e1 N1 (Nat.le_trans Z0 K1.1) A1 (by decide) (by decide) (by decide) (by decide) (by decide) (by decide) (Nat.le_of_ble_eq_true rfl) (Nat.le_of_ble_eq_true rfl) g_b (S__assertionsDisabled.ext (own_ext K1)) (S_HI_BYTE_SHIFT.ext (own_ext K1)) (S_LO_BYTE_SHIFT.ext (own_ext K1)) Ar0 (inb_of S0 ⟨by decide, by decide⟩) ha0 (by decide)
  have A2 : Arv Z h2 b kb .byte (8 : Int32) [Value.int (own_lo c0), Value.int (own_hi c0), Value.int (0 : Int32), Value.int (0 : Int32), Value.int (0 : Int32), Value.int (0 : Int32), Value.int (0 : Int32), Value.int (0 : Int32)] (.int (0 : Int32)) := At2
  have K2 : Keep h0 h2 [] := K1.trans Kt2 (own_ws1 sz_b)
  obtain ⟨cl1, Ar1, q1, S1, M1, H1, G1⟩ := V.keep K2 (by simp)
  have ha1 : cl1.slots[(((0 : Int32) + (1 : Int32))).toNatClampNeg]? = some (.int c1) := by have q := H1 1 (by rw [S1]; decide); rw [hv1] at q; exact q
  obtain ⟨T3, h3, locs3, X3, e3, N3, Kt3, At3, st3⟩ := own_t17_4 a1 ((0 : Int32) + (1 : Int32)) (4 : Int32) b ((0 : Int32) + (1 : Int32)) c1 cl1 kb (8 : Int32) _ (.int (0 : Int32)) 2 X2 hx hZ hw hby hml hown e2 N2 (Nat.le_trans Z0 K2.1) A2 (by decide) (by decide) (by decide) (by decide) (by decide) (by decide) (Nat.le_of_ble_eq_true rfl) (Nat.le_of_ble_eq_true rfl) g_b (S__assertionsDisabled.ext (own_ext K2)) (S_HI_BYTE_SHIFT.ext (own_ext K2)) (S_LO_BYTE_SHIFT.ext (own_ext K2)) Ar1 (inb_of S1 ⟨by decide, by decide⟩) ha1 (by decide)
  have A3 : Arv Z h3 b kb .byte (8 : Int32) [Value.int (own_lo c0), Value.int (own_hi c0), Value.int (own_lo c1), Value.int (own_hi c1), Value.int (0 : Int32), Value.int (0 : Int32), Value.int (0 : Int32), Value.int (0 : Int32)] (.int (0 : Int32)) := At3
  have K3 : Keep h0 h3 [] := K2.trans Kt3 (own_ws1 sz_b)
  obtain ⟨cl2, Ar2, q2, S2, M2, H2, G2⟩ := V.keep K3 (by simp)
  have ha2 : cl2.slots[((((0 : Int32) + (1 : Int32)) + (1 : Int32))).toNatClampNeg]? = some (.int c2) := by have q := H2 2 (by rw [S2]; decide); rw [hv2] at q; exact q
  obtain ⟨T4, h4, locs4, X4, e4, N4, Kt4, At4, st4⟩ := own_t17_4 a1 (((0 : Int32) + (1 : Int32)) + (1 : Int32)) (4 : Int32) b (((0 : Int32) + (1 : Int32)) + (1 : Int32)) c2 cl2 kb (8 : Int32) _ (.int (0 : Int32)) 4 X3 hx hZ hw hby hml hown e3 N3 (Nat.le_trans Z0 K3.1) A3 (by decide) (by decide) (by decide) (by decide) (by decide) (by decide) (Nat.le_of_ble_eq_true rfl) (Nat.le_of_ble_eq_true rfl) g_b (S__assertionsDisabled.ext (own_ext K3)) (S_HI_BYTE_SHIFT.ext (own_ext K3)) (S_LO_BYTE_SHIFT.ext (own_ext K3)) Ar2 (inb_of S2 ⟨by decide, by decide⟩) ha2 (by decide)
  have A4 : Arv Z h4 b kb .byte (8 : Int32) [Value.int (own_lo c0), Value.int (own_hi c0), Value.int (own_lo c1), Value.int (own_hi c1), Value.int (own_lo c2), Value.int (own_hi c2), Value.int (0 : Int32), Value.int (0 : Int32)] (.int (0 : Int32)) := At4
  have K4 : Keep h0 h4 [] := K3.trans Kt4 (own_ws1 sz_b)
  obtain ⟨cl3, Ar3, q3, S3, M3, H3, G3⟩ := V.keep K4 (by simp)
  have ha3 : cl3.slots[(((((0 : Int32) + (1 : Int32)) + (1 : Int32)) + (1 : Int32))).toNatClampNeg]? = some (.int c3) := by have q := H3 3 (by rw [S3]; decide); rw [hv3] at q; exact q
  obtain ⟨T5, h5, locs5, X5, e5, N5, Kt5, At5, st5⟩ := own_t17_4 a1 ((((0 : Int32) + (1 : Int32)) + (1 : Int32)) + (1 : Int32)) (4 : Int32) b ((((0 : Int32) + (1 : Int32)) + (1 : Int32)) + (1 : Int32)) c3 cl3 kb (8 : Int32) _ (.int (0 : Int32)) 6 X4 hx hZ hw hby hml hown e4 N4 (Nat.le_trans Z0 K4.1) A4 (by decide) (by decide) (by decide) (by decide) (by decide) (by decide) (Nat.le_of_ble_eq_true rfl) (Nat.le_of_ble_eq_true rfl) g_b (S__assertionsDisabled.ext (own_ext K4)) (S_HI_BYTE_SHIFT.ext (own_ext K4)) (S_LO_BYTE_SHIFT.ext (own_ext K4)) Ar3 (inb_of S3 ⟨by decide, by decide⟩) ha3 (by decide)
  have A5 : Arv Z h5 b kb .byte (8 : Int32) [Value.int (own_lo c0), Value.int (own_hi c0), Value.int (own_lo c1), Value.int (own_hi c1), Value.int (own_lo c2), Value.int (own_hi c2), Value.int (own_lo c3), Value.int (own_hi c3)] (.int (0 : Int32)) := At5
  have K5 : Keep h0 h5 [] := K4.trans Kt5 (own_ws1 sz_b)
  obtain ⟨Tx, Xx, ex, stx⟩ := own_x17 (.val (.ref a1)) (.val (.int (((((0 : Int32) + (1 : Int32)) + (1 : Int32)) + (1 : Int32)) + (1 : Int32)))) (4 : Int32) (.val (.ref b)) (((((0 : Int32) + (1 : Int32)) + (1 : Int32)) + (1 : Int32)) + (1 : Int32)) X5 hx hZ hw hby hml hown e5 (by decide)
  obtain ⟨fs, hr, hrun, hended, hW, hsame⟩ := Xx.leave (v := some (.ref b)) (fun h => by rw [Bd.returns] at h; cases h) (BodyLoose.notSynchronized Bd)
  refine ⟨_, _, pre0 _ ?_, hrun, hended, _, _, rfl, ⟨b, kb, rfl, N5, (by show Keep h0 Tx.heap []; rw [ex]; exact K5), sz_b, (by show Arv Z Tx.heap b kb .byte _ _ _; rw [ex]; exact A5)⟩, ⟨_, rfl⟩, hW, hsame.mono (by decide) (by decide)⟩
  refine st1 _ ?_
  refine st2 _ ?_
  refine st3 _ ?_
  refine st4 _ ?_
  refine st5 _ ?_
  refine stx _ ?_
  show Steps p.tables e below (Tx.setTop (mkF m 32 #[.val (.ref a1), .val (.int (((((0 : Int32) + (1 : Int32)) + (1 : Int32)) + (1 : Int32)) + (1 : Int32))), .val (.int (4 : Int32)), .val (.ref b), .val (.int (((((0 : Int32) + (1 : Int32)) + (1 : Int32)) + (1 : Int32)) + (1 : Int32)))] [])) _
  refine XS.aloadN Xx.here hx rfl (hb hby d17_32) rfl rfl ?_
  show Steps p.tables e below (Tx.setTop (mkF m 33 #[.val (.ref a1), .val (.int (((((0 : Int32) + (1 : Int32)) + (1 : Int32)) + (1 : Int32)) + (1 : Int32))), .val (.int (4 : Int32)), .val (.ref b), .val (.int (((((0 : Int32) + (1 : Int32)) + (1 : Int32)) + (1 : Int32)) + (1 : Int32)))] [(.ref b)])) _
  jvm_step Xx.here [Xx.here.top, hx, (hb hby d17_33), Xx.method', Bd.returns, Value.isRef, FieldType.isReference]
  first | (intro acts; rw [hr _ acts rfl rfl rfl]) | rw [hr _ _ rfl rfl rfl]
  exact Steps.refl _
theorem own_nar2 (x : Int32) : nar .char (nar .char x) = nar .char x := by
  apply Int32.toBitVec_inj.mp
  show (((x.toBitVec.setWidth 16).setWidth 32).setWidth 16).setWidth 32 = (x.toBitVec.setWidth 16).setWidth 32
  congr 1
  apply BitVec.eq_of_getLsbD_eq
  intro i hi
  simp [hi]
theorem own_gcU (c : Int32) (h : ¬ c < 0 ∧ ¬ (65535 : Int32) < c) : own_gc (own_lo c) (own_hi c) = c := by
  have q := own_cvU c h
  unfold own_gc at *
  rw [own_nar2, own_nar2] at q
  exact q
def Q7_1 (Z : State) (c0 : Int32) (h0 : Heap) (n0 : Nat) (v : Option Value) (h : Heap) (L : List Loc) : Prop := ∃ (t : Addr) (kb : ClassId), v = some (.ref t) ∧ Fr n0 L ∧ Keep h0 h [] ∧ h0.size ≤ t ∧ Arv Z h t kb .byte (2 : Int32) [Value.int (own_lo c0), Value.int (own_hi c0)] (.int (0 : Int32))
theorem d7_0 : decode jdk_52_method_16_code 0 = .ok (.iload_n 2, 1) := by decide +kernel
theorem d7_1 : decode jdk_52_method_16_code 1 = .ok (.newarray .byte, 2) := by decide +kernel
theorem d7_3 : decode jdk_52_method_16_code 3 = .ok (.astore_n 3, 1) := by decide +kernel
theorem d7_4 : decode jdk_52_method_16_code 4 = .ok (.aload_n 0, 1) := by decide +kernel
theorem d7_5 : decode jdk_52_method_16_code 5 = .ok (.iload_n 1, 1) := by decide +kernel
theorem d7_6 : decode jdk_52_method_16_code 6 = .ok (.aload_n 3, 1) := by decide +kernel
theorem d7_7 : decode jdk_52_method_16_code 7 = .ok (.iconst 0, 1) := by decide +kernel
theorem d7_8 : decode jdk_52_method_16_code 8 = .ok (.iload_n 2, 1) := by decide +kernel
theorem d7_9 : decode jdk_52_method_16_code 9 = .ok (.invokestatic 115, 3) := by decide +kernel
theorem d7_12 : decode jdk_52_method_16_code 12 = .ok (.istore 4, 2) := by decide +kernel
theorem d7_14 : decode jdk_52_method_16_code 14 = .ok (.iload 4, 2) := by decide +kernel
theorem d7_16 : decode jdk_52_method_16_code 16 = .ok (.iload_n 2, 1) := by decide +kernel
theorem d7_17 : decode jdk_52_method_16_code 17 = .ok (.if_icmp .eq 40, 3) := by decide +kernel
theorem d7_20 : decode jdk_52_method_16_code 20 = .ok (.aload_n 0, 1) := by decide +kernel
theorem d7_21 : decode jdk_52_method_16_code 21 = .ok (.iload_n 1, 1) := by decide +kernel
theorem d7_22 : decode jdk_52_method_16_code 22 = .ok (.iload_n 2, 1) := by decide +kernel
theorem d7_23 : decode jdk_52_method_16_code 23 = .ok (.invokestatic 119, 3) := by decide +kernel
theorem d7_26 : decode jdk_52_method_16_code 26 = .ok (.astore 5, 2) := by decide +kernel
theorem d7_28 : decode jdk_52_method_16_code 28 = .ok (.aload 5, 2) := by decide +kernel
theorem d7_30 : decode jdk_52_method_16_code 30 = .ok (.iload 4, 2) := by decide +kernel
theorem d7_32 : decode jdk_52_method_16_code 32 = .ok (.invokestatic 71, 3) := by decide +kernel
theorem d7_35 : decode jdk_52_method_16_code 35 = .ok (.sipush 255, 3) := by decide +kernel
theorem d7_38 : decode jdk_52_method_16_code 38 = .ok (.if_icmp .gt 16, 3) := by decide +kernel
theorem d7_54 : decode jdk_52_method_16_code 54 = .ok (.aload 5, 2) := by decide +kernel
theorem d7_56 : decode jdk_52_method_16_code 56 = .ok (.areturn, 1) := by decide +kernel
theorem pn_7 : plainName "java/lang/StringUTF16" = true := by first | (simp [plainName, overriddenIn]; done) | decide +kernel
theorem pd_7_7 : parseMethodDescriptor "([CI[BII)I" = some ⟨[(.array .char), .int, (.array .byte), .int, .int], some .int⟩ := by decide +kernel
theorem pd_7_6 : parseMethodDescriptor "([CII)[B" = some ⟨[(.array .char), .int, .int], some (.array .byte)⟩ := by decide +kernel
theorem pd_7_12 : parseMethodDescriptor "([BI)C" = some ⟨[(.array .byte), .int], some .char⟩ := by decide +kernel
theorem ef_7 (m : MethodId) (x0 : Addr) (x1 : Int32) (x2 : Int32) : entryFrame m #[(.ref x0), (.int x1), (.int x2)] 6 = mkF m 0 #[.val (.ref x0), .val (.int x1), .val (.int x2), .unset, .unset, .unset] [] := by first | (simp [entryFrame, mkF, argsToLocals, Value.category]; done) | rfl
set_option maxRecDepth 65536 in
set_option maxHeartbeats 40000000 in
theorem rm7_1_0 (l : Launch) (Z : State) (a0 : Array Value) (hw : ∀ d ∈ tables_1, d.before a0 Z = true) (ws : List Jvm.Cond) (a1 : Addr) (ka : ClassId) (vs : List Value) (dv : Value) (c0 : Int32) (h0 : Heap) (n0 : Nat) (Z0 : n0 ≤ h0.size) (V : Arv Z h0 a1 ka .char (1 : Int32) vs dv) (hv0 : vs.getD 0 dv = .int c0) (S__assertionsDisabled : Sta Z h0 "java/lang/StringUTF16" "$assertionsDisabled" "Z" (.int (1 : Int32))) (S_HI_BYTE_SHIFT : Sta Z h0 "java/lang/StringUTF16" "HI_BYTE_SHIFT" "I" (.int (0 : Int32))) (S_LO_BYTE_SHIFT : Sta Z h0 "java/lang/StringUTF16" "LO_BYTE_SHIFT" "I" (.int (8 : Int32))) (gt : (255 : Int32) < c0) (ht17 : ¬ ((0 : Int32) = (1 : Int32))) (ht38 : (255 : Int32) < (own_gc (own_lo c0) (own_hi c0))) :
    MetFree l (⟨"java/lang/StringUTF16", "compress", "([CII)[B"⟩ : MethodName) (head1 (Jvm.Cond.code (⟨"java/lang/StringUTF16", "compress", "([CII)[B"⟩ : MethodName) jdk_52_method_16_code 6 (some (.array .byte)) :: ws) ({ frames := 3, cells := 2, slots := 3, locals := 40 } : Room)) (fun a U => a = #[(.ref a1), (.int (0 : Int32)), (.int (1 : Int32))] ∧ Z.Warmed39 U.vm ∧ U.heap = h0) (fun _ _ _ _ _ => True) (fun _ U o U' => ∃ v L, o = .returned v ∧ Q7_1 Z c0 h0 n0 v U'.heap L ∧ FrameEnd U o U' L ({ frames := 3, cells := 2, slots := 3, locals := 40 } : Room).cells ({ frames := 3, cells := 2, slots := 3, locals := 40 } : Room).slots) := by
  refine MetFree.of_bodySF (plainFor_of_name pn_7) hisR ?_
  intro p e s m args below meth c s₁ Bd hml0 hP hK
  obtain ⟨rfl, hZ, hh⟩ := hP
  have hx := Bd.exec
  have hby := Bd.bytes
  have hml : c.maxLocals = 6 := hml0
  have hown : s.vm.findClass "java/lang/StringUTF16" = some m.cls := findClass_of_methodNamed Bd.named
  have hnm := (name_of_methodNamed Bd.named Bd.method).1
  have X0 : Stand p l e ({ frames := 3, cells := 2, slots := 3, locals := 40 } : Room) s m #[(.ref a1), (.int (0 : Int32)), (.int (1 : Int32))] below meth c s₁ [] 0 0 := Stand.of_body Bd
  have e0 : s₁.heap = h0 := by rw [← hh, Bd.state]; rfl
  have N0 := Fr.nil n0
  have pre0 : ∀ t, Steps p.tables e below (s₁.setTop (mkF m 0 #[.val (.ref a1), .val (.int (0 : Int32)), .val (.int (1 : Int32)), .unset, .unset, .unset] [])) t → Steps p.tables e below (s₁.setTop (entryFrame m #[(.ref a1), (.int (0 : Int32)), (.int (1 : Int32))] 6)) t := fun t k => castTop (ef_7 m a1 (0 : Int32) (1 : Int32)) k
  obtain ⟨T4, h4, k4, X4, e4, E4, A4, st4⟩ := newP X0 hx hZ (own_w hw 17 rfl) e0 (g := (mkF m 1 #[.val (.ref a1), .val (.int (0 : Int32)), .val (.int (1 : Int32)), .unset, .unset, .unset] [(.int (1 : Int32))])) rfl (hb hby d7_1) rfl (by decide) (cap := 1) (by decide) (by decide) (by decide) (by decide)
  obtain ⟨b4, g4⟩ : ∃ z, z = h0.size := ⟨_, rfl⟩
  rw [← g4] at A4 st4
  have V_b4 := Arv.new A4 (by decide)
  have g_b4 : n0 ≤ b4 := Nat.le_trans Z0 (Nat.le_of_eq g4.symm)
  have sz_b4 : h0.size ≤ b4 := (Nat.le_trans (Keep.refl h0 []).1 (Nat.le_of_eq g4.symm))
  have K4 : Keep h0 h4 [] := (Keep.refl h0 []).ext E4
  obtain ⟨_, _, ⟨T5, L5, k5, n5⟩, -, X5, ⟨Lc5, hQ5, l5, y5, z5⟩, st5⟩ := Jvm.LawKit.callS X4 hx (y := (⟨"java/lang/StringUTF16", "compress", "([CI[BII)I"⟩ : MethodName)) hown (mvT hZ (own_w hw 43 rfl)) (mvT hZ (own_w hw 44 rfl)) (mvT hZ (own_w hw 41 rfl)) (mvT hZ (own_w hw 45 rfl)) (by decide) (backOf (W := 0) (rm8_0 l Z a0 hw [] a1 b4 (1 : Int32) ka vs dv (newA k4 .byte (1 : Int32)) c0  h4 n0 (Nat.le_trans Z0 K4.1) (V.ext E4) hv0 A4 (sz_new _ _ _) (own_ne V.lt g4) g_b4 (by decide)  gt) hZ (own_w hw 45 rfl) (own_w hw 41 rfl) (by decide) (by decide)) (g := (mkF m 9 #[.val (.ref a1), .val (.int (0 : Int32)), .val (.int (1 : Int32)), .val (.ref b4), .unset, .unset] [(.int (1 : Int32)), (.int (0 : Int32)), (.ref b4), (.int (0 : Int32)), (.ref a1)])) rfl (by rw [hml]; rfl) (argsL := [(.ref a1), (.int (0 : Int32)), (.ref b4), (.int (0 : Int32)), (.int (1 : Int32))]) (rest := []) (lenOf pd_7_7 rfl) rfl (by show 2 * 0 + _ ≤ _; exact Nat.le_of_eq rfl) (hb hby d7_9) (fun _ _ => ⟨rfl, e4, (by decide : 1 + 0 ≤ _), (by decide : 1 + 0 ≤ _)⟩)
  dsimp only [Pt.U, Pt.locs, Pt.cells, Pt.slots] at X5 l5 y5 z5 st5 hQ5
  subst l5 y5 z5
  obtain ⟨rfl, N5q, K5q⟩ := hQ5
  have N5 := Fr.app N0 N5q
  have KH5 : Keep h0 T5.heap [] := K4.trans K5q (own_ws1 sz_b4)
  obtain ⟨_, _, ⟨T6, L6, k6, n6⟩, -, X6, ⟨Lc6, hQ6, l6, y6, z6⟩, st6⟩ := Jvm.LawKit.callS X5 hx (y := (⟨"java/lang/StringUTF16", "toBytes", "([CII)[B"⟩ : MethodName)) hown (mvT hZ (own_w hw 78 rfl)) (mvT hZ (own_w hw 79 rfl)) (mvT hZ (own_w hw 41 rfl)) (mvT hZ (own_w hw 80 rfl)) (by decide) (backOf (W := 0) (rm17_1 l Z a0 hw [] a1 ka vs dv c0  T5.heap n0 (Nat.le_trans Z0 KH5.1) (V.keep KH5 (by simp)) hv0 (S__assertionsDisabled.ext (own_ext KH5)) (S_HI_BYTE_SHIFT.ext (own_ext KH5)) (S_LO_BYTE_SHIFT.ext (own_ext KH5))) hZ (own_w hw 80 rfl) (own_w hw 41 rfl) (by decide) (by decide)) (g := (mkF m 23 #[.val (.ref a1), .val (.int (0 : Int32)), .val (.int (1 : Int32)), .val (.ref b4), .val (.int (0 : Int32)), .unset] [(.int (1 : Int32)), (.int (0 : Int32)), (.ref a1)])) rfl (by rw [hml]; rfl) (argsL := [(.ref a1), (.int (0 : Int32)), (.int (1 : Int32))]) (rest := []) (lenOf pd_7_6 rfl) rfl (by show 2 * 0 + _ ≤ _; exact Nat.le_of_eq rfl) (hb hby d7_23) (fun _ _ => ⟨rfl, rfl, (by decide : 1 + 1 ≤ _), (by decide : 1 + 2 ≤ _)⟩)
  dsimp only [Pt.U, Pt.locs, Pt.cells, Pt.slots] at X6 l6 y6 z6 st6 hQ6
  subst l6 y6 z6
  obtain ⟨t6, kb6, rfl, N6q, K6q, gt6, A6q⟩ := hQ6
  have N6 := Fr.app N5 N6q
  have KH6 : Keep h0 T6.heap [] := KH5.trans K6q own_ws0
  obtain ⟨clx, Arx, qx, Sx, Mx, Hx, Gx⟩ := id A6q
  obtain ⟨_, _, ⟨T7, L7, k7, n7⟩, -, X7, ⟨Lc7, hQ7, l7, y7, z7⟩, st7⟩ := Jvm.LawKit.callS X6 hx (y := (⟨"java/lang/StringUTF16", "getChar", "([BI)C"⟩ : MethodName)) hown (mvT hZ (own_w hw 94 rfl)) (mvT hZ (own_w hw 95 rfl)) (mvT hZ (own_w hw 41 rfl)) (mvT hZ (own_w hw 96 rfl)) (by decide) (backOf (W := 0) (rm21 l Z a0 hw [] t6 (0 : Int32) (own_lo c0) clx (own_hi c0) T6.heap n0 (Nat.le_trans Z0 KH6.1) (S__assertionsDisabled.ext (own_ext KH6)) Arx (inb_of Sx ⟨by decide, by decide⟩) (Hx 0 (by rw [Sx]; decide)) (S_HI_BYTE_SHIFT.ext (own_ext KH6)) (inb_of Sx ⟨by decide, by decide⟩) (Hx 1 (by rw [Sx]; decide)) (S_LO_BYTE_SHIFT.ext (own_ext KH6)) (by decide)) hZ (own_w hw 96 rfl) (own_w hw 41 rfl) (by decide) (by decide)) (g := (mkF m 32 #[.val (.ref a1), .val (.int (0 : Int32)), .val (.int (1 : Int32)), .val (.ref b4), .val (.int (0 : Int32)), .val (.ref t6)] [(.int (0 : Int32)), (.ref t6)])) rfl (by rw [hml]; rfl) (argsL := [(.ref t6), (.int (0 : Int32))]) (rest := []) (lenOf pd_7_12 rfl) rfl (by show 2 * 0 + _ ≤ _; exact Nat.le_of_eq rfl) (hb hby d7_32) (fun _ _ => ⟨rfl, rfl, (by decide : 2 + 0 ≤ _), (by decide : 3 + 0 ≤ _)⟩)
  dsimp only [Pt.U, Pt.locs, Pt.cells, Pt.slots] at X7 l7 y7 z7 st7 hQ7
  subst l7 y7 z7
  obtain ⟨rfl, N7q, e7q⟩ := hQ7
  have N7 := Fr.app N6 N7q
  have K7q : Keep T6.heap T7.heap [] := own_keep e7q
  have KH7 : Keep h0 T7.heap [] := KH6.trans K7q own_ws0
  obtain ⟨fs, hr, hrun, hended, hW, hsame⟩ := X7.leave (v := some (.ref t6)) (fun h => by rw [Bd.returns] at h; cases h) (BodyLoose.notSynchronized Bd)
  refine ⟨_, _, pre0 _ ?_, hrun, hended, _, _, rfl, ?_, ⟨_, rfl⟩, hW, hsame.mono (by decide) (by decide)⟩
  · show Steps p.tables e below (s₁.setTop (mkF m 0 #[.val (.ref a1), .val (.int (0 : Int32)), .val (.int (1 : Int32)), .unset, .unset, .unset] [])) _
    refine XS.iloadN X0.here hx rfl (hb hby d7_0) rfl ?_
    show Steps p.tables e below (s₁.setTop (mkF m 1 #[.val (.ref a1), .val (.int (0 : Int32)), .val (.int (1 : Int32)), .unset, .unset, .unset] [(.int (1 : Int32))])) _
    refine st4 _ ?_
    show Steps p.tables e below (T4.setTop (mkF m 3 #[.val (.ref a1), .val (.int (0 : Int32)), .val (.int (1 : Int32)), .unset, .unset, .unset] [(.ref b4)])) _
    refine XS.astoreN X4.here hx rfl (hb hby d7_3) rfl rfl (l' := #[.val (.ref a1), .val (.int (0 : Int32)), .val (.int (1 : Int32)), .val (.ref b4), .unset, .unset]) rfl ?_
    refine XS.aloadN X4.here hx rfl (hb hby d7_4) rfl rfl ?_
    refine XS.iloadN X4.here hx rfl (hb hby d7_5) rfl ?_
    refine XS.aloadN X4.here hx rfl (hb hby d7_6) rfl rfl ?_
    refine XS.iconst X4.here hx rfl (hb hby d7_7) ?_
    refine XS.iloadN X4.here hx rfl (hb hby d7_8) rfl ?_
    show Steps p.tables e below (T4.setTop (mkF m 9 #[.val (.ref a1), .val (.int (0 : Int32)), .val (.int (1 : Int32)), .val (.ref b4), .unset, .unset] [(.int (1 : Int32)), (.int (0 : Int32)), (.ref b4), (.int (0 : Int32)), (.ref a1)])) _
    refine st5 _ ?_
    show Steps p.tables e below (T5.setTop (mkF m 12 #[.val (.ref a1), .val (.int (0 : Int32)), .val (.int (1 : Int32)), .val (.ref b4), .unset, .unset] [(.int (0 : Int32))])) _
    refine XS.istore X5.here hx rfl (hb hby d7_12) rfl (l' := #[.val (.ref a1), .val (.int (0 : Int32)), .val (.int (1 : Int32)), .val (.ref b4), .val (.int (0 : Int32)), .unset]) rfl ?_
    refine XS.iload X5.here hx rfl (hb hby d7_14) rfl ?_
    refine XS.iloadN X5.here hx rfl (hb hby d7_16) rfl ?_
    refine XS.icmpNo X5.here hx rfl (hb hby d7_17) rfl (feq ht17).1 ?_
    refine XS.aloadN X5.here hx rfl (hb hby d7_20) rfl rfl ?_
    refine XS.iloadN X5.here hx rfl (hb hby d7_21) rfl ?_
    refine XS.iloadN X5.here hx rfl (hb hby d7_22) rfl ?_
    show Steps p.tables e below (T5.setTop (mkF m 23 #[.val (.ref a1), .val (.int (0 : Int32)), .val (.int (1 : Int32)), .val (.ref b4), .val (.int (0 : Int32)), .unset] [(.int (1 : Int32)), (.int (0 : Int32)), (.ref a1)])) _
    refine st6 _ ?_
    show Steps p.tables e below (T6.setTop (mkF m 26 #[.val (.ref a1), .val (.int (0 : Int32)), .val (.int (1 : Int32)), .val (.ref b4), .val (.int (0 : Int32)), .unset] [(.ref t6)])) _
    refine XS.astore X6.here hx rfl (hb hby d7_26) rfl rfl (l' := #[.val (.ref a1), .val (.int (0 : Int32)), .val (.int (1 : Int32)), .val (.ref b4), .val (.int (0 : Int32)), .val (.ref t6)]) rfl ?_
    refine XS.aload X6.here hx rfl (hb hby d7_28) rfl rfl ?_
    refine XS.iload X6.here hx rfl (hb hby d7_30) rfl ?_
    show Steps p.tables e below (T6.setTop (mkF m 32 #[.val (.ref a1), .val (.int (0 : Int32)), .val (.int (1 : Int32)), .val (.ref b4), .val (.int (0 : Int32)), .val (.ref t6)] [(.int (0 : Int32)), (.ref t6)])) _
    refine st7 _ ?_
    show Steps p.tables e below (T7.setTop (mkF m 35 #[.val (.ref a1), .val (.int (0 : Int32)), .val (.int (1 : Int32)), .val (.ref b4), .val (.int (0 : Int32)), .val (.ref t6)] [(.int (own_gc (own_lo c0) (own_hi c0)))])) _
    refine XS.sipush X7.here hx rfl (hb hby d7_35) ?_
    refine XS.icmpYes X7.here hx rfl (pc0 := 38) (pc' := 54) rfl (hb hby d7_38) rfl (tlt ht38).2.2.1 (by decide) (by decide) ?_
    refine XS.aload X7.here hx rfl (hb hby d7_54) rfl rfl ?_
    show Steps p.tables e below (T7.setTop (mkF m 56 #[.val (.ref a1), .val (.int (0 : Int32)), .val (.int (1 : Int32)), .val (.ref b4), .val (.int (0 : Int32)), .val (.ref t6)] [(.ref t6)])) _
    jvm_step X7.here [X7.here.top, hx, (hb hby d7_56), X7.method', Bd.returns, Value.isRef, FieldType.isReference]
    first | (intro acts; rw [hr _ acts rfl rfl rfl]) | rw [hr _ _ rfl rfl rfl]
    exact Steps.refl _
  · show Q7_1 Z c0 h0 n0 _ T7.heap _
    exact ⟨t6, kb6, rfl, N7, KH7, (Nat.le_trans KH5.1 gt6), (A6q.keep K7q (by simp))⟩
set_option maxRecDepth 65536 in
set_option maxHeartbeats 40000000 in
theorem rm7_1 (l : Launch) (Z : State) (a0 : Array Value) (hw : ∀ d ∈ tables_1, d.before a0 Z = true) (ws : List Jvm.Cond) (a1 : Addr) (ka : ClassId) (vs : List Value) (dv : Value) (c0 : Int32) (h0 : Heap) (n0 : Nat) (Z0 : n0 ≤ h0.size) (V : Arv Z h0 a1 ka .char (1 : Int32) vs dv) (hv0 : vs.getD 0 dv = .int c0) (S__assertionsDisabled : Sta Z h0 "java/lang/StringUTF16" "$assertionsDisabled" "Z" (.int (1 : Int32))) (S_HI_BYTE_SHIFT : Sta Z h0 "java/lang/StringUTF16" "HI_BYTE_SHIFT" "I" (.int (0 : Int32))) (S_LO_BYTE_SHIFT : Sta Z h0 "java/lang/StringUTF16" "LO_BYTE_SHIFT" "I" (.int (8 : Int32))) (f0 : ¬ c0 < 0 ∧ ¬ (65535 : Int32) < c0) (hbig : (255 : Int32) < c0) :
    MetFree l (⟨"java/lang/StringUTF16", "compress", "([CII)[B"⟩ : MethodName) (head1 (Jvm.Cond.code (⟨"java/lang/StringUTF16", "compress", "([CII)[B"⟩ : MethodName) jdk_52_method_16_code 6 (some (.array .byte)) :: ws) ({ frames := 3, cells := 2, slots := 3, locals := 40 } : Room)) (fun a U => a = #[(.ref a1), (.int (0 : Int32)), (.int (1 : Int32))] ∧ Z.Warmed39 U.vm ∧ U.heap = h0) (fun _ _ _ _ _ => True) (fun _ U o U' => ∃ v L, o = .returned v ∧ Q7_1 Z c0 h0 n0 v U'.heap L ∧ FrameEnd U o U' L ({ frames := 3, cells := 2, slots := 3, locals := 40 } : Room).cells ({ frames := 3, cells := 2, slots := 3, locals := 40 } : Room).slots) := by
  have b0 := hbig
  exact rm7_1_0 l Z a0 hw ws a1 ka vs dv c0 h0 n0 Z0 V hv0 S__assertionsDisabled S_HI_BYTE_SHIFT S_LO_BYTE_SHIFT  b0 (by decide) (by rw [own_gcU _ f0]; exact b0)
def Q2_1 (Z : State) (a1 : Addr) (c0 : Int32) (h0 : Heap) (n0 : Nat) (v : Option Value) (h : Heap) (L : List Loc) : Prop := v = none ∧ Fr n0 L ∧ Keep h0 h [a1] ∧ ∃ (t : Addr) (kb : ClassId), Exa Z h a1 "java/lang/String" ∧ Fld Z h a1 "java/lang/String" "value" "[B" (.ref t) ∧ Fld Z h a1 "java/lang/String" "coder" "B" (.int (1 : Int32)) ∧ Arv Z h t kb .byte (2 : Int32) [Value.int (own_lo c0), Value.int (own_hi c0)] (.int (0 : Int32))
def Q1_1 (Z : State) (a1 : Addr) (c0 : Int32) (h0 : Heap) (n0 : Nat) (v : Option Value) (h : Heap) (L : List Loc) : Prop := v = none ∧ Fr n0 L ∧ Keep h0 h [a1] ∧ ∃ (t : Addr) (kb : ClassId), Exa Z h a1 "java/lang/String" ∧ Fld Z h a1 "java/lang/String" "value" "[B" (.ref t) ∧ Fld Z h a1 "java/lang/String" "coder" "B" (.int (1 : Int32)) ∧ Arv Z h t kb .byte (2 : Int32) [Value.int (own_lo c0), Value.int (own_hi c0)] (.int (0 : Int32))
theorem d2_0 : decode jdk_42_method_149_code 0 = .ok (.aload_n 0, 1) := by decide +kernel
theorem d2_1 : decode jdk_42_method_149_code 1 = .ok (.invokespecial 1, 3) := by decide +kernel
theorem d2_4 : decode jdk_42_method_149_code 4 = .ok (.iload_n 3, 1) := by decide +kernel
theorem d2_5 : decode jdk_42_method_149_code 5 = .ok (.ifCond .ne 22, 3) := by decide +kernel
theorem d2_27 : decode jdk_42_method_149_code 27 = .ok (.getstatic 38, 3) := by decide +kernel
theorem d2_30 : decode jdk_42_method_149_code 30 = .ok (.ifCond .eq 28, 3) := by decide +kernel
theorem d2_33 : decode jdk_42_method_149_code 33 = .ok (.aload_n 1, 1) := by decide +kernel
theorem d2_34 : decode jdk_42_method_149_code 34 = .ok (.iload_n 2, 1) := by decide +kernel
theorem d2_35 : decode jdk_42_method_149_code 35 = .ok (.iload_n 3, 1) := by decide +kernel
theorem d2_36 : decode jdk_42_method_149_code 36 = .ok (.invokestatic 177, 3) := by decide +kernel
theorem d2_39 : decode jdk_42_method_149_code 39 = .ok (.astore 5, 2) := by decide +kernel
theorem d2_41 : decode jdk_42_method_149_code 41 = .ok (.aload_n 0, 1) := by decide +kernel
theorem d2_42 : decode jdk_42_method_149_code 42 = .ok (.aload 5, 2) := by decide +kernel
theorem d2_44 : decode jdk_42_method_149_code 44 = .ok (.iload_n 3, 1) := by decide +kernel
theorem d2_45 : decode jdk_42_method_149_code 45 = .ok (.invokestatic 47, 3) := by decide +kernel
theorem d2_48 : decode jdk_42_method_149_code 48 = .ok (.putfield 15, 3) := by decide +kernel
theorem d2_51 : decode jdk_42_method_149_code 51 = .ok (.aload_n 0, 1) := by decide +kernel
theorem d2_52 : decode jdk_42_method_149_code 52 = .ok (.aload 5, 2) := by decide +kernel
theorem d2_54 : decode jdk_42_method_149_code 54 = .ok (.putfield 9, 3) := by decide +kernel
theorem d2_57 : decode jdk_42_method_149_code 57 = .ok (.return_, 1) := by decide +kernel
theorem pn_2 : plainName "java/lang/String" = true := by first | (simp [plainName, overriddenIn]; done) | decide +kernel
theorem pd_2_6 : parseMethodDescriptor "([CII)[B" = some ⟨[(.array .char), .int, .int], some (.array .byte)⟩ := by decide +kernel
theorem pd_2_8 : parseMethodDescriptor "([BI)B" = some ⟨[(.array .byte), .int], some .byte⟩ := by decide +kernel
theorem ef_2 (m : MethodId) (x0 : Addr) (x1 : Addr) (x2 : Int32) (x3 : Int32) : entryFrame m #[(.ref x0), (.ref x1), (.int x2), (.int x3), .null] 6 = mkF m 0 #[.val (.ref x0), .val (.ref x1), .val (.int x2), .val (.int x3), .val .null, .unset] [] := by first | (simp [entryFrame, mkF, argsToLocals, Value.category]; done) | rfl
set_option maxRecDepth 65536 in
set_option maxHeartbeats 40000000 in
theorem rm2_1 (l : Launch) (Z : State) (a0 : Array Value) (hw : ∀ d ∈ tables_1, d.before a0 Z = true) (ws : List Jvm.Cond) (a1 : Addr) (a2 : Addr) (w_COMPACT_STRINGS : Int32) (u_coder_a1 : Value) (u_value_a1 : Value) (ka : ClassId) (vs : List Value) (dv : Value) (c0 : Int32) (h0 : Heap) (n0 : Nat) (Z0 : n0 ≤ h0.size) (S_COMPACT_STRINGS : Sta Z h0 "java/lang/String" "COMPACT_STRINGS" "Z" (.int w_COMPACT_STRINGS)) (E_a1 : Exa Z h0 a1 "java/lang/String") (F_coder_a1 : Fld Z h0 a1 "java/lang/String" "coder" "B" u_coder_a1) (g_a1 : n0 ≤ a1) (F_value_a1 : Fld Z h0 a1 "java/lang/String" "value" "[B" u_value_a1) (hc5 : ¬ ((1 : Int32) = (0 : Int32))) (hc30 : ¬ (w_COMPACT_STRINGS = (0 : Int32))) (V : Arv Z h0 a2 ka .char (1 : Int32) vs dv) (hv0 : vs.getD 0 dv = .int c0) (S__assertionsDisabled : Sta Z h0 "java/lang/StringUTF16" "$assertionsDisabled" "Z" (.int (1 : Int32))) (S_HI_BYTE_SHIFT : Sta Z h0 "java/lang/StringUTF16" "HI_BYTE_SHIFT" "I" (.int (0 : Int32))) (S_LO_BYTE_SHIFT : Sta Z h0 "java/lang/StringUTF16" "LO_BYTE_SHIFT" "I" (.int (8 : Int32))) (f0 : ¬ c0 < 0 ∧ ¬ (65535 : Int32) < c0) (hbig : (255 : Int32) < c0) :
    MetFree l (⟨"java/lang/String", "<init>", "([CIILjava/lang/Void;)V"⟩ : MethodName) (head1 (Jvm.Cond.code (⟨"java/lang/String", "<init>", "([CIILjava/lang/Void;)V"⟩ : MethodName) jdk_42_method_149_code 6 none :: ws) ({ frames := 4, cells := 2, slots := 3, locals := 57 } : Room)) (fun a U => a = #[(.ref a1), (.ref a2), (.int (0 : Int32)), (.int (1 : Int32)), .null] ∧ Z.Warmed39 U.vm ∧ U.heap = h0) (fun _ _ _ _ _ => True) (fun _ U o U' => ∃ v L, o = .returned v ∧ Q2_1 Z a1 c0 h0 n0 v U'.heap L ∧ FrameEnd U o U' L ({ frames := 4, cells := 2, slots := 3, locals := 57 } : Room).cells ({ frames := 4, cells := 2, slots := 3, locals := 57 } : Room).slots) := by
  refine MetFree.of_bodySF (plainFor_of_name pn_2) hisR ?_
  intro p e s m args below meth c s₁ Bd hml0 hP hK
  obtain ⟨rfl, hZ, hh⟩ := hP
  have hx := Bd.exec
  have hby := Bd.bytes
  have hml : c.maxLocals = 6 := hml0
  have hown : s.vm.findClass "java/lang/String" = some m.cls := findClass_of_methodNamed Bd.named
  have hnm := (name_of_methodNamed Bd.named Bd.method).1
  have X0 : Stand p l e ({ frames := 4, cells := 2, slots := 3, locals := 57 } : Room) s m #[(.ref a1), (.ref a2), (.int (0 : Int32)), (.int (1 : Int32)), .null] below meth c s₁ [] 0 0 := Stand.of_body Bd
  have e0 : s₁.heap = h0 := by rw [← hh, Bd.state]; rfl
  have N0 := Fr.nil n0
  have pre0 : ∀ t, Steps p.tables e below (s₁.setTop (mkF m 0 #[.val (.ref a1), .val (.ref a2), .val (.int (0 : Int32)), .val (.int (1 : Int32)), .val .null, .unset] [])) t → Steps p.tables e below (s₁.setTop (entryFrame m #[(.ref a1), (.ref a2), (.int (0 : Int32)), (.int (1 : Int32)), .null] 6)) t := fun t k => castTop (ef_2 m a1 a2 (0 : Int32) (1 : Int32)) k
  obtain ⟨T5, X5, e5, st5⟩ := initO X0 hx hZ hown (own_w hw 13 rfl) (own_w hw 14 rfl) (own_w hw 15 rfl) e0 (g := (mkF m 1 #[.val (.ref a1), .val (.ref a2), .val (.int (0 : Int32)), .val (.int (1 : Int32)), .val .null, .unset] [(.ref a1)])) rfl (by rw [hml]; rfl) rfl (hb hby d2_1) (by decide) (W := 0) (by show 2 * 0 + _ ≤ _; exact Nat.le_of_eq rfl) (by decide)
  obtain ⟨T7, X7, e7, st7⟩ := getS2 X5 hx hZ hown (host := "") (Or.inl (own_w hw 38 rfl)) Via.refl e5 S_COMPACT_STRINGS (g := (mkF m 27 #[.val (.ref a1), .val (.ref a2), .val (.int (0 : Int32)), .val (.int (1 : Int32)), .val .null, .unset] [])) rfl (hb hby d2_27)
  obtain ⟨_, _, ⟨T8, L8, k8, n8⟩, -, X8, ⟨Lc8, hQ8, l8, y8, z8⟩, st8⟩ := Jvm.LawKit.callS X7 hx (y := (⟨"java/lang/StringUTF16", "compress", "([CII)[B"⟩ : MethodName)) hown (mvT hZ (own_w hw 39 rfl)) (mvT hZ (own_w hw 40 rfl)) (mvT hZ (own_w hw 41 rfl)) (mvT hZ (own_w hw 42 rfl)) (by decide) (backOf (W := 0) (rm7_1 l Z a0 hw [] a2 ka vs dv c0  h0 n0 Z0 V hv0 S__assertionsDisabled S_HI_BYTE_SHIFT S_LO_BYTE_SHIFT f0 hbig) hZ (own_w hw 42 rfl) (own_w hw 41 rfl) (by decide) (by decide)) (g := (mkF m 36 #[.val (.ref a1), .val (.ref a2), .val (.int (0 : Int32)), .val (.int (1 : Int32)), .val .null, .unset] [(.int (1 : Int32)), (.int (0 : Int32)), (.ref a2)])) rfl (by rw [hml]; rfl) (argsL := [(.ref a2), (.int (0 : Int32)), (.int (1 : Int32))]) (rest := []) (lenOf pd_2_6 rfl) rfl (by show 2 * 0 + _ ≤ _; exact Nat.le_of_eq rfl) (hb hby d2_36) (fun _ _ => ⟨rfl, e7, (by decide : 0 + 2 ≤ _), (by decide : 0 + 3 ≤ _)⟩)
  dsimp only [Pt.U, Pt.locs, Pt.cells, Pt.slots] at X8 l8 y8 z8 st8 hQ8
  subst l8 y8 z8
  obtain ⟨t8, kb8, rfl, N8q, K8q, gt8, A8q⟩ := hQ8
  have N8 := Fr.app N0 N8q
  have KH8 : Keep h0 T8.heap [a1] := (Keep.refl h0 [a1]).trans K8q own_ws0
  obtain ⟨clx, Arx, qx, Sx, Mx, Hx, Gx⟩ := id A8q
  have ne8 : t8 ≠ a1 := Ne.symm (Nat.ne_of_lt (Nat.lt_of_lt_of_le E_a1.lt gt8))
  obtain ⟨_, _, ⟨T9, L9, k9, n9⟩, -, X9, ⟨Lc9, hQ9, l9, y9, z9⟩, st9⟩ := Jvm.LawKit.callS X8 hx (y := (⟨"java/lang/StringUTF16", "coderFromArrayLen", "([BI)B"⟩ : MethodName)) hown (mvT hZ (own_w hw 46 rfl)) (mvT hZ (own_w hw 47 rfl)) (mvT hZ (own_w hw 41 rfl)) (mvT hZ (own_w hw 48 rfl)) (by decide) (backOf (W := 1) (rm9 l Z a0 hw [] t8 (1 : Int32) clx (2 : Int32) T8.heap n0 (Nat.le_trans Z0 KH8.1) Arx Sx Mx) hZ (own_w hw 48 rfl) (own_w hw 41 rfl) (by decide) (by decide)) (g := (mkF m 45 #[.val (.ref a1), .val (.ref a2), .val (.int (0 : Int32)), .val (.int (1 : Int32)), .val .null, .val (.ref t8)] [(.int (1 : Int32)), (.ref t8), (.ref a1)])) rfl (by rw [hml]; rfl) (argsL := [(.ref t8), (.int (1 : Int32))]) (rest := [(.ref a1)]) (lenOf pd_2_8 rfl) rfl (by show 2 * 0 + _ ≤ _; exact Nat.le_of_eq rfl) (hb hby d2_45) (fun _ _ => ⟨rfl, rfl, (by decide : 2 + 0 ≤ _), (by decide : 3 + 0 ≤ _)⟩)
  dsimp only [Pt.U, Pt.locs, Pt.cells, Pt.slots] at X9 l9 y9 z9 st9 hQ9
  subst l9 y9 z9
  obtain ⟨rfl, N9q, e9q⟩ := hQ9
  have N9 := Fr.app N8 N9q
  have K9q : Keep T8.heap T9.heap [] := own_keep e9q
  have KH9 : Keep h0 T9.heap [a1] := KH8.trans K9q own_ws0
  obtain ⟨T10, h10, X10, e10, W10, st10⟩ := putFN X9 hx hZ hown (own_w hw 23 rfl) Via.refl rfl ((F_coder_a1.keep K8q (by simp)).keep K9q (by simp)) ((E_a1.keep K8q).keep K9q) (Or.inr ⟨(own_w hw 19 rfl), rfl, hnm⟩) (own_w hw 4 rfl) (ty := .byte) (v' := (.int (1 : Int32))) (by decide) (by decide) (by decide) (g := (mkF m 48 #[.val (.ref a1), .val (.ref a2), .val (.int (0 : Int32)), .val (.int (1 : Int32)), .val .null, .val (.ref t8)] [(.int (own_f9 (1 : Int32) (2 : Int32))), (.ref a1)])) rfl rfl (hb hby d2_48)
  have Fw10 := ((F_coder_a1.keep K8q (by simp)).keep K9q (by simp)).same W10
  have K10 : Keep h0 h10 [a1] := KH9.wr W10 (Or.inl (List.mem_of_getElem? (i := 0) rfl))
  have N10 := Fr.snoc X10 N9 g_a1
  obtain ⟨T11, h11, X11, e11, W11, st11⟩ := putF X10 hx hZ hown (host := "") (Or.inl (own_w hw 22 rfl)) Via.refl e10 (((F_value_a1.keep K8q (by simp)).keep K9q (by simp)).other W10 (Or.inr (slot_ne (Or.inr (own_w hw 18 rfl)) (Or.inr (own_w hw 19 rfl)) (by decide) (t := (.array .byte)) (t' := .byte) (by decide) (by decide)))) (((E_a1.keep K8q).keep K9q).wr W10) (Or.inr ⟨(own_w hw 18 rfl), rfl, hnm⟩) (own_w hw 4 rfl) (ty := (.array .byte)) (by decide) rfl rfl (g := (mkF m 54 #[.val (.ref a1), .val (.ref a2), .val (.int (0 : Int32)), .val (.int (1 : Int32)), .val .null, .val (.ref t8)] [(.ref t8), (.ref a1)])) rfl rfl (hb hby d2_54)
  have Fw11 := (((F_value_a1.keep K8q (by simp)).keep K9q (by simp)).other W10 (Or.inr (slot_ne (Or.inr (own_w hw 18 rfl)) (Or.inr (own_w hw 19 rfl)) (by decide) (t := (.array .byte)) (t' := .byte) (by decide) (by decide)))).same W11
  have K11 : Keep h0 h11 [a1] := K10.wr W11 (Or.inl (List.mem_of_getElem? (i := 0) rfl))
  have N11 := Fr.snoc X11 N10 g_a1
  obtain ⟨fs, hr, hrun, hended, hW, hsame⟩ := X11.leave (v := none) (fun _ => rfl) (BodyLoose.notSynchronized Bd)
  refine ⟨_, _, pre0 _ ?_, hrun, hended, _, _, rfl, ?_, ⟨_, rfl⟩, hW, hsame.mono (by decide) (by decide)⟩
  · show Steps p.tables e below (s₁.setTop (mkF m 0 #[.val (.ref a1), .val (.ref a2), .val (.int (0 : Int32)), .val (.int (1 : Int32)), .val .null, .unset] [])) _
    refine XS.aloadN X0.here hx rfl (hb hby d2_0) rfl rfl ?_
    show Steps p.tables e below (s₁.setTop (mkF m 1 #[.val (.ref a1), .val (.ref a2), .val (.int (0 : Int32)), .val (.int (1 : Int32)), .val .null, .unset] [(.ref a1)])) _
    refine st5 _ ?_
    show Steps p.tables e below (T5.setTop (mkF m 4 #[.val (.ref a1), .val (.ref a2), .val (.int (0 : Int32)), .val (.int (1 : Int32)), .val .null, .unset] [])) _
    refine XS.iloadN X5.here hx rfl (hb hby d2_4) rfl ?_
    refine XS.ifYes X5.here hx rfl (pc0 := 5) (pc' := 27) rfl (hb hby d2_5) rfl ((if0 _ _).trans (feq hc5).2) (by decide) (by decide) ?_
    show Steps p.tables e below (T5.setTop (mkF m 27 #[.val (.ref a1), .val (.ref a2), .val (.int (0 : Int32)), .val (.int (1 : Int32)), .val .null, .unset] [])) _
    refine st7 _ ?_
    show Steps p.tables e below (T7.setTop (mkF m 30 #[.val (.ref a1), .val (.ref a2), .val (.int (0 : Int32)), .val (.int (1 : Int32)), .val .null, .unset] [(.int w_COMPACT_STRINGS)])) _
    refine XS.ifNo X7.here hx rfl (hb hby d2_30) rfl ((if0 _ _).trans (feq hc30).1) ?_
    refine XS.aloadN X7.here hx rfl (hb hby d2_33) rfl rfl ?_
    refine XS.iloadN X7.here hx rfl (hb hby d2_34) rfl ?_
    refine XS.iloadN X7.here hx rfl (hb hby d2_35) rfl ?_
    show Steps p.tables e below (T7.setTop (mkF m 36 #[.val (.ref a1), .val (.ref a2), .val (.int (0 : Int32)), .val (.int (1 : Int32)), .val .null, .unset] [(.int (1 : Int32)), (.int (0 : Int32)), (.ref a2)])) _
    refine st8 _ ?_
    show Steps p.tables e below (T8.setTop (mkF m 39 #[.val (.ref a1), .val (.ref a2), .val (.int (0 : Int32)), .val (.int (1 : Int32)), .val .null, .unset] [(.ref t8)])) _
    refine XS.astore X8.here hx rfl (hb hby d2_39) rfl rfl (l' := #[.val (.ref a1), .val (.ref a2), .val (.int (0 : Int32)), .val (.int (1 : Int32)), .val .null, .val (.ref t8)]) rfl ?_
    refine XS.aloadN X8.here hx rfl (hb hby d2_41) rfl rfl ?_
    refine XS.aload X8.here hx rfl (hb hby d2_42) rfl rfl ?_
    refine XS.iloadN X8.here hx rfl (hb hby d2_44) rfl ?_
    show Steps p.tables e below (T8.setTop (mkF m 45 #[.val (.ref a1), .val (.ref a2), .val (.int (0 : Int32)), .val (.int (1 : Int32)), .val .null, .val (.ref t8)] [(.int (1 : Int32)), (.ref t8), (.ref a1)])) _
    refine st9 _ ?_
    show Steps p.tables e below (T9.setTop (mkF m 48 #[.val (.ref a1), .val (.ref a2), .val (.int (0 : Int32)), .val (.int (1 : Int32)), .val .null, .val (.ref t8)] [(.int (own_f9 (1 : Int32) (2 : Int32))), (.ref a1)])) _
    refine st10 _ ?_
    show Steps p.tables e below (T10.setTop (mkF m 51 #[.val (.ref a1), .val (.ref a2), .val (.int (0 : Int32)), .val (.int (1 : Int32)), .val .null, .val (.ref t8)] [])) _
    refine XS.aloadN X10.here hx rfl (hb hby d2_51) rfl rfl ?_
    refine XS.aload X10.here hx rfl (hb hby d2_52) rfl rfl ?_
    show Steps p.tables e below (T10.setTop (mkF m 54 #[.val (.ref a1), .val (.ref a2), .val (.int (0 : Int32)), .val (.int (1 : Int32)), .val .null, .val (.ref t8)] [(.ref t8), (.ref a1)])) _
    refine st11 _ ?_
    show Steps p.tables e below (T11.setTop (mkF m 57 #[.val (.ref a1), .val (.ref a2), .val (.int (0 : Int32)), .val (.int (1 : Int32)), .val .null, .val (.ref t8)] [])) _
    exact X11.returnOut hx Bd.returns (hb hby d2_57) hr
  · show Q2_1 Z a1 c0 h0 n0 _ T11.heap _
    rw [e11]
    exact ⟨rfl, N11, K11, t8, kb8, ((((E_a1.keep K8q).keep K9q).wr W10).wr W11), Fw11, (Fw10.other W11 (Or.inr (slot_ne (Or.inr (own_w hw 19 rfl)) (Or.inr (own_w hw 18 rfl)) (by decide) (t := .byte) (t' := (.array .byte)) (by decide) (by decide)))), (((A8q.keep K9q (by simp)).other W10 ne8).other W11 ne8)⟩
theorem d1_0 : decode jdk_42_method_3_code 0 = .ok (.aload_n 0, 1) := by decide +kernel
theorem d1_1 : decode jdk_42_method_3_code 1 = .ok (.aload_n 1, 1) := by decide +kernel
theorem d1_2 : decode jdk_42_method_3_code 2 = .ok (.iconst 0, 1) := by decide +kernel
theorem d1_3 : decode jdk_42_method_3_code 3 = .ok (.aload_n 1, 1) := by decide +kernel
theorem d1_4 : decode jdk_42_method_3_code 4 = .ok (.arraylength, 1) := by decide +kernel
theorem d1_5 : decode jdk_42_method_3_code 5 = .ok (.aconst_null, 1) := by decide +kernel
theorem d1_6 : decode jdk_42_method_3_code 6 = .ok (.invokespecial 27, 3) := by decide +kernel
theorem d1_9 : decode jdk_42_method_3_code 9 = .ok (.return_, 1) := by decide +kernel
theorem pn_1 : plainName "java/lang/String" = true := by first | (simp [plainName, overriddenIn]; done) | decide +kernel
theorem pd_1_1 : parseMethodDescriptor "([CIILjava/lang/Void;)V" = some ⟨[(.array .char), .int, .int, (.object "java/lang/Void")], none⟩ := by decide +kernel
theorem ef_1 (m : MethodId) (x0 : Addr) (x1 : Addr) : entryFrame m #[(.ref x0), (.ref x1)] 2 = mkF m 0 #[.val (.ref x0), .val (.ref x1)] [] := by first | (simp [entryFrame, mkF, argsToLocals, Value.category]; done) | rfl
set_option maxRecDepth 65536 in
set_option maxHeartbeats 40000000 in
theorem rm1_1 (l : Launch) (Z : State) (a0 : Array Value) (hw : ∀ d ∈ tables_1, d.before a0 Z = true) (ws : List Jvm.Cond) (a1 : Addr) (a2 : Addr) (G1 : Int32) (ka : ClassId) (vs : List Value) (dv : Value) (c0 : Int32) (h0 : Heap) (n0 : Nat) (Z0 : n0 ≤ h0.size) (V : Arv Z h0 a2 ka .char (1 : Int32) vs dv) (hv0 : vs.getD 0 dv = .int c0) (E_a1 : Exa Z h0 a1 "java/lang/String") (F_coder_a1 : Fld Z h0 a1 "java/lang/String" "coder" "B" (.int (0 : Int32))) (g_a1 : n0 ≤ a1) (F_value_a1 : Fld Z h0 a1 "java/lang/String" "value" "[B" .null) (S_CS : Sta Z h0 "java/lang/String" "COMPACT_STRINGS" "Z" (.int G1)) (P5 : ¬ (G1 = (0 : Int32))) (S__assertionsDisabled : Sta Z h0 "java/lang/StringUTF16" "$assertionsDisabled" "Z" (.int (1 : Int32))) (S_HI_BYTE_SHIFT : Sta Z h0 "java/lang/StringUTF16" "HI_BYTE_SHIFT" "I" (.int (0 : Int32))) (S_LO_BYTE_SHIFT : Sta Z h0 "java/lang/StringUTF16" "LO_BYTE_SHIFT" "I" (.int (8 : Int32))) (f0 : ¬ c0 < 0 ∧ ¬ (65535 : Int32) < c0) (hbig : (255 : Int32) < c0) :
    MetFree l (⟨"java/lang/String", "<init>", "([C)V"⟩ : MethodName) (head1 (Jvm.Cond.code (⟨"java/lang/String", "<init>", "([C)V"⟩ : MethodName) jdk_42_method_3_code 2 none :: ws) ({ frames := 5, cells := 2, slots := 3, locals := 74 } : Room)) (fun a U => a = #[(.ref a1), (.ref a2)] ∧ Z.Warmed39 U.vm ∧ U.heap = h0) (fun _ _ _ _ _ => True) (fun _ U o U' => ∃ v L, o = .returned v ∧ Q1_1 Z a1 c0 h0 n0 v U'.heap L ∧ FrameEnd U o U' L ({ frames := 5, cells := 2, slots := 3, locals := 74 } : Room).cells ({ frames := 5, cells := 2, slots := 3, locals := 74 } : Room).slots) := by
  refine MetFree.of_bodySF (plainFor_of_name pn_1) hisR ?_
  intro p e s m args below meth c s₁ Bd hml0 hP hK
  obtain ⟨rfl, hZ, hh⟩ := hP
  have hx := Bd.exec
  have hby := Bd.bytes
  have hml : c.maxLocals = 2 := hml0
  have hown : s.vm.findClass "java/lang/String" = some m.cls := findClass_of_methodNamed Bd.named
  have hnm := (name_of_methodNamed Bd.named Bd.method).1
  have X0 : Stand p l e ({ frames := 5, cells := 2, slots := 3, locals := 74 } : Room) s m #[(.ref a1), (.ref a2)] below meth c s₁ [] 0 0 := Stand.of_body Bd
  have e0 : s₁.heap = h0 := by rw [← hh, Bd.state]; rfl
  have N0 := Fr.nil n0
  obtain ⟨cl_a2, Ar_a2, q_a2, S_a2, N_a2, H_a2, G_a2⟩ := id V
  have pre0 : ∀ t, Steps p.tables e below (s₁.setTop (mkF m 0 #[.val (.ref a1), .val (.ref a2)] [])) t → Steps p.tables e below (s₁.setTop (entryFrame m #[(.ref a1), (.ref a2)] 2)) t := fun t k => castTop (ef_1 m a1 a2) k
  obtain ⟨_, _, ⟨T3, L3, k3, n3⟩, -, X3, ⟨Lc3, hQ3, l3, y3, z3⟩, st3⟩ := X0.specialBack hx (y := (⟨"java/lang/String", "<init>", "([CIILjava/lang/Void;)V"⟩ : MethodName)) rfl hown (mvT hZ (own_w hw 9 rfl)) (mvT hZ (own_w hw 10 rfl)) (mvT hZ (own_w hw 12 rfl)) (by decide) (backOf (W := 0) (rm2_1 l Z a0 hw [] a1 a2 G1 (.int (0 : Int32)) .null ka vs dv c0 h0 n0 Z0 S_CS E_a1 F_coder_a1 g_a1 F_value_a1 (by decide) P5 V hv0 S__assertionsDisabled S_HI_BYTE_SHIFT S_LO_BYTE_SHIFT f0 hbig) hZ (own_w hw 12 rfl) (own_w hw 5 rfl) (by decide) (by decide)) (g := (mkF m 6 #[.val (.ref a1), .val (.ref a2)] [.null, (.int (1 : Int32)), (.int (0 : Int32)), (.ref a2), (.ref a1)])) rfl (by rw [hml]; rfl) (Steps.refl _) (a := a1) (argsL := [(.ref a2), (.int (0 : Int32)), (.int (1 : Int32)), .null]) (rest := []) (lenOf pd_1_1 rfl) rfl (by show 2 * 0 + _ ≤ _; exact Nat.le_of_eq rfl) (hb hby d1_6) (fun _ _ => ⟨rfl, e0, (by decide : 0 + 2 ≤ _), (by decide : 0 + 3 ≤ _)⟩)
  dsimp only [Pt.U, Pt.locs, Pt.cells, Pt.slots] at X3 l3 y3 z3 st3 hQ3
  subst l3 y3 z3
  obtain ⟨rfl, N3q, K3q, t3, kb3, E3q, Fv3, Fc3, A3q⟩ := hQ3
  have N3 := Fr.app N0 N3q
  have KH3 : Keep h0 T3.heap [a1] := (Keep.refl h0 [a1]).trans K3q own_wsIn
  obtain ⟨fs, hr, hrun, hended, hW, hsame⟩ := X3.leave (v := none) (fun _ => rfl) (BodyLoose.notSynchronized Bd)
  refine ⟨_, _, pre0 _ ?_, hrun, hended, _, _, rfl, ?_, ⟨_, rfl⟩, hW, hsame.mono (by decide) (by decide)⟩
  · show Steps p.tables e below (s₁.setTop (mkF m 0 #[.val (.ref a1), .val (.ref a2)] [])) _
    refine XS.aloadN X0.here hx rfl (hb hby d1_0) rfl rfl ?_
    refine XS.aloadN X0.here hx rfl (hb hby d1_1) rfl rfl ?_
    refine XS.iconst X0.here hx rfl (hb hby d1_2) ?_
    refine XS.aloadN X0.here hx rfl (hb hby d1_3) rfl rfl ?_
    show Steps p.tables e below (s₁.setTop (mkF m 4 #[.val (.ref a1), .val (.ref a2)] [(.ref a2), (.int (0 : Int32)), (.ref a2), (.ref a1)])) _
    refine X0.arraylength hx (by rw [e0]; exact Ar_a2.1) (State.isArrayOf_alike hZ.alike Ar_a2.2.1) (g := (mkF m 4 #[.val (.ref a1), .val (.ref a2)] [(.ref a2), (.int (0 : Int32)), (.ref a2), (.ref a1)])) rfl rfl (hb hby d1_4) _ ?_
    rw [len_of S_a2 N_a2]
    show Steps p.tables e below (s₁.setTop (mkF m 5 #[.val (.ref a1), .val (.ref a2)] [(.int (1 : Int32)), (.int (0 : Int32)), (.ref a2), (.ref a1)])) _
    refine XS.aconstNull X0.here hx rfl (hb hby d1_5) ?_
    show Steps p.tables e below (s₁.setTop (mkF m 6 #[.val (.ref a1), .val (.ref a2)] [.null, (.int (1 : Int32)), (.int (0 : Int32)), (.ref a2), (.ref a1)])) _
    refine st3.trans ?_
    show Steps p.tables e below (T3.setTop (mkF m 9 #[.val (.ref a1), .val (.ref a2)] [])) _
    exact X3.returnOut hx Bd.returns (hb hby d1_9) hr
  · show Q1_1 Z a1 c0 h0 n0 _ T3.heap _
    exact ⟨rfl, N3, K3q, t3, kb3, E3q, Fv3, Fc3, A3q⟩
def Q7_2 (Z : State) (c0 : Int32) (c1 : Int32) (h0 : Heap) (n0 : Nat) (v : Option Value) (h : Heap) (L : List Loc) : Prop := ∃ (t : Addr) (kb : ClassId), v = some (.ref t) ∧ Fr n0 L ∧ Keep h0 h [] ∧ h0.size ≤ t ∧ Arv Z h t kb .byte (4 : Int32) [Value.int (own_lo c0), Value.int (own_hi c0), Value.int (own_lo c1), Value.int (own_hi c1)] (.int (0 : Int32))
set_option maxRecDepth 65536 in
set_option maxHeartbeats 40000000 in
theorem rm7_2_0 (l : Launch) (Z : State) (a0 : Array Value) (hw : ∀ d ∈ tables_1, d.before a0 Z = true) (ws : List Jvm.Cond) (a1 : Addr) (ka : ClassId) (vs : List Value) (dv : Value) (c0 : Int32) (c1 : Int32) (h0 : Heap) (n0 : Nat) (Z0 : n0 ≤ h0.size) (V : Arv Z h0 a1 ka .char (2 : Int32) vs dv) (hv0 : vs.getD 0 dv = .int c0) (hv1 : vs.getD 1 dv = .int c1) (S__assertionsDisabled : Sta Z h0 "java/lang/StringUTF16" "$assertionsDisabled" "Z" (.int (1 : Int32))) (S_HI_BYTE_SHIFT : Sta Z h0 "java/lang/StringUTF16" "HI_BYTE_SHIFT" "I" (.int (0 : Int32))) (S_LO_BYTE_SHIFT : Sta Z h0 "java/lang/StringUTF16" "LO_BYTE_SHIFT" "I" (.int (8 : Int32))) (gt : (255 : Int32) < c0) (ht17 : ¬ ((0 : Int32) = (2 : Int32))) (ht38 : (255 : Int32) < (own_gc (own_lo c0) (own_hi c0))) :
    MetFree l (⟨"java/lang/StringUTF16", "compress", "([CII)[B"⟩ : MethodName) (head1 (Jvm.Cond.code (⟨"java/lang/StringUTF16", "compress", "([CII)[B"⟩ : MethodName) jdk_52_method_16_code 6 (some (.array .byte)) :: ws) ({ frames := 3, cells := 2, slots := 6, locals := 40 } : Room)) (fun a U => a = #[(.ref a1), (.int (0 : Int32)), (.int (2 : Int32))] ∧ Z.Warmed39 U.vm ∧ U.heap = h0) (fun _ _ _ _ _ => True) (fun _ U o U' => ∃ v L, o = .returned v ∧ Q7_2 Z c0 c1 h0 n0 v U'.heap L ∧ FrameEnd U o U' L ({ frames := 3, cells := 2, slots := 6, locals := 40 } : Room).cells ({ frames := 3, cells := 2, slots := 6, locals := 40 } : Room).slots) := by
  refine MetFree.of_bodySF (plainFor_of_name pn_7) hisR ?_
  intro p e s m args below meth c s₁ Bd hml0 hP hK
  obtain ⟨rfl, hZ, hh⟩ := hP
  have hx := Bd.exec
  have hby := Bd.bytes
  have hml : c.maxLocals = 6 := hml0
  have hown : s.vm.findClass "java/lang/StringUTF16" = some m.cls := findClass_of_methodNamed Bd.named
  have hnm := (name_of_methodNamed Bd.named Bd.method).1
  have X0 : Stand p l e ({ frames := 3, cells := 2, slots := 6, locals := 40 } : Room) s m #[(.ref a1), (.int (0 : Int32)), (.int (2 : Int32))] below meth c s₁ [] 0 0 := Stand.of_body Bd
  have e0 : s₁.heap = h0 := by rw [← hh, Bd.state]; rfl
  have N0 := Fr.nil n0
  have pre0 : ∀ t, Steps p.tables e below (s₁.setTop (mkF m 0 #[.val (.ref a1), .val (.int (0 : Int32)), .val (.int (2 : Int32)), .unset, .unset, .unset] [])) t → Steps p.tables e below (s₁.setTop (entryFrame m #[(.ref a1), (.int (0 : Int32)), (.int (2 : Int32))] 6)) t := fun t k => castTop (ef_7 m a1 (0 : Int32) (2 : Int32)) k
  obtain ⟨T4, h4, k4, X4, e4, E4, A4, st4⟩ := newP X0 hx hZ (own_w hw 17 rfl) e0 (g := (mkF m 1 #[.val (.ref a1), .val (.int (0 : Int32)), .val (.int (2 : Int32)), .unset, .unset, .unset] [(.int (2 : Int32))])) rfl (hb hby d7_1) rfl (by decide) (cap := 2) (by decide) (by decide) (by decide) (by decide)
  obtain ⟨b4, g4⟩ : ∃ z, z = h0.size := ⟨_, rfl⟩
  rw [← g4] at A4 st4
  have V_b4 := Arv.new A4 (by decide)
  have g_b4 : n0 ≤ b4 := Nat.le_trans Z0 (Nat.le_of_eq g4.symm)
  have sz_b4 : h0.size ≤ b4 := (Nat.le_trans (Keep.refl h0 []).1 (Nat.le_of_eq g4.symm))
  have K4 : Keep h0 h4 [] := (Keep.refl h0 []).ext E4
  obtain ⟨_, _, ⟨T5, L5, k5, n5⟩, -, X5, ⟨Lc5, hQ5, l5, y5, z5⟩, st5⟩ := Jvm.LawKit.callS X4 hx (y := (⟨"java/lang/StringUTF16", "compress", "([CI[BII)I"⟩ : MethodName)) hown (mvT hZ (own_w hw 43 rfl)) (mvT hZ (own_w hw 44 rfl)) (mvT hZ (own_w hw 41 rfl)) (mvT hZ (own_w hw 45 rfl)) (by decide) (backOf (W := 0) (rm8_0 l Z a0 hw [] a1 b4 (2 : Int32) ka vs dv (newA k4 .byte (2 : Int32)) c0  h4 n0 (Nat.le_trans Z0 K4.1) (V.ext E4) hv0 A4 (sz_new _ _ _) (own_ne V.lt g4) g_b4 (by decide)  gt) hZ (own_w hw 45 rfl) (own_w hw 41 rfl) (by decide) (by decide)) (g := (mkF m 9 #[.val (.ref a1), .val (.int (0 : Int32)), .val (.int (2 : Int32)), .val (.ref b4), .unset, .unset] [(.int (2 : Int32)), (.int (0 : Int32)), (.ref b4), (.int (0 : Int32)), (.ref a1)])) rfl (by rw [hml]; rfl) (argsL := [(.ref a1), (.int (0 : Int32)), (.ref b4), (.int (0 : Int32)), (.int (2 : Int32))]) (rest := []) (lenOf pd_7_7 rfl) rfl (by show 2 * 0 + _ ≤ _; exact Nat.le_of_eq rfl) (hb hby d7_9) (fun _ _ => ⟨rfl, e4, (by decide : 1 + 0 ≤ _), (by decide : 2 + 0 ≤ _)⟩)
  dsimp only [Pt.U, Pt.locs, Pt.cells, Pt.slots] at X5 l5 y5 z5 st5 hQ5
  subst l5 y5 z5
  obtain ⟨rfl, N5q, K5q⟩ := hQ5
  have N5 := Fr.app N0 N5q
  have KH5 : Keep h0 T5.heap [] := K4.trans K5q (own_ws1 sz_b4)
  obtain ⟨_, _, ⟨T6, L6, k6, n6⟩, -, X6, ⟨Lc6, hQ6, l6, y6, z6⟩, st6⟩ := Jvm.LawKit.callS X5 hx (y := (⟨"java/lang/StringUTF16", "toBytes", "([CII)[B"⟩ : MethodName)) hown (mvT hZ (own_w hw 78 rfl)) (mvT hZ (own_w hw 79 rfl)) (mvT hZ (own_w hw 41 rfl)) (mvT hZ (own_w hw 80 rfl)) (by decide) (backOf (W := 0) (rm17_2 l Z a0 hw [] a1 ka vs dv c0 c1  T5.heap n0 (Nat.le_trans Z0 KH5.1) (V.keep KH5 (by simp)) hv0 hv1 (S__assertionsDisabled.ext (own_ext KH5)) (S_HI_BYTE_SHIFT.ext (own_ext KH5)) (S_LO_BYTE_SHIFT.ext (own_ext KH5))) hZ (own_w hw 80 rfl) (own_w hw 41 rfl) (by decide) (by decide)) (g := (mkF m 23 #[.val (.ref a1), .val (.int (0 : Int32)), .val (.int (2 : Int32)), .val (.ref b4), .val (.int (0 : Int32)), .unset] [(.int (2 : Int32)), (.int (0 : Int32)), (.ref a1)])) rfl (by rw [hml]; rfl) (argsL := [(.ref a1), (.int (0 : Int32)), (.int (2 : Int32))]) (rest := []) (lenOf pd_7_6 rfl) rfl (by show 2 * 0 + _ ≤ _; exact Nat.le_of_eq rfl) (hb hby d7_23) (fun _ _ => ⟨rfl, rfl, (by decide : 1 + 1 ≤ _), (by decide : 2 + 4 ≤ _)⟩)
  dsimp only [Pt.U, Pt.locs, Pt.cells, Pt.slots] at X6 l6 y6 z6 st6 hQ6
  subst l6 y6 z6
  obtain ⟨t6, kb6, rfl, N6q, K6q, gt6, A6q⟩ := hQ6
  have N6 := Fr.app N5 N6q
  have KH6 : Keep h0 T6.heap [] := KH5.trans K6q own_ws0
  obtain ⟨clx, Arx, qx, Sx, Mx, Hx, Gx⟩ := id A6q
  obtain ⟨_, _, ⟨T7, L7, k7, n7⟩, -, X7, ⟨Lc7, hQ7, l7, y7, z7⟩, st7⟩ := Jvm.LawKit.callS X6 hx (y := (⟨"java/lang/StringUTF16", "getChar", "([BI)C"⟩ : MethodName)) hown (mvT hZ (own_w hw 94 rfl)) (mvT hZ (own_w hw 95 rfl)) (mvT hZ (own_w hw 41 rfl)) (mvT hZ (own_w hw 96 rfl)) (by decide) (backOf (W := 0) (rm21 l Z a0 hw [] t6 (0 : Int32) (own_lo c0) clx (own_hi c0) T6.heap n0 (Nat.le_trans Z0 KH6.1) (S__assertionsDisabled.ext (own_ext KH6)) Arx (inb_of Sx ⟨by decide, by decide⟩) (Hx 0 (by rw [Sx]; decide)) (S_HI_BYTE_SHIFT.ext (own_ext KH6)) (inb_of Sx ⟨by decide, by decide⟩) (Hx 1 (by rw [Sx]; decide)) (S_LO_BYTE_SHIFT.ext (own_ext KH6)) (by decide)) hZ (own_w hw 96 rfl) (own_w hw 41 rfl) (by decide) (by decide)) (g := (mkF m 32 #[.val (.ref a1), .val (.int (0 : Int32)), .val (.int (2 : Int32)), .val (.ref b4), .val (.int (0 : Int32)), .val (.ref t6)] [(.int (0 : Int32)), (.ref t6)])) rfl (by rw [hml]; rfl) (argsL := [(.ref t6), (.int (0 : Int32))]) (rest := []) (lenOf pd_7_12 rfl) rfl (by show 2 * 0 + _ ≤ _; exact Nat.le_of_eq rfl) (hb hby d7_32) (fun _ _ => ⟨rfl, rfl, (by decide : 2 + 0 ≤ _), (by decide : 6 + 0 ≤ _)⟩)
  dsimp only [Pt.U, Pt.locs, Pt.cells, Pt.slots] at X7 l7 y7 z7 st7 hQ7
  subst l7 y7 z7
  obtain ⟨rfl, N7q, e7q⟩ := hQ7
  have N7 := Fr.app N6 N7q
  have K7q : Keep T6.heap T7.heap [] := own_keep e7q
  have KH7 : Keep h0 T7.heap [] := KH6.trans K7q own_ws0
  obtain ⟨fs, hr, hrun, hended, hW, hsame⟩ := X7.leave (v := some (.ref t6)) (fun h => by rw [Bd.returns] at h; cases h) (BodyLoose.notSynchronized Bd)
  refine ⟨_, _, pre0 _ ?_, hrun, hended, _, _, rfl, ?_, ⟨_, rfl⟩, hW, hsame.mono (by decide) (by decide)⟩
  · show Steps p.tables e below (s₁.setTop (mkF m 0 #[.val (.ref a1), .val (.int (0 : Int32)), .val (.int (2 : Int32)), .unset, .unset, .unset] [])) _
    refine XS.iloadN X0.here hx rfl (hb hby d7_0) rfl ?_
    show Steps p.tables e below (s₁.setTop (mkF m 1 #[.val (.ref a1), .val (.int (0 : Int32)), .val (.int (2 : Int32)), .unset, .unset, .unset] [(.int (2 : Int32))])) _
    refine st4 _ ?_
    show Steps p.tables e below (T4.setTop (mkF m 3 #[.val (.ref a1), .val (.int (0 : Int32)), .val (.int (2 : Int32)), .unset, .unset, .unset] [(.ref b4)])) _
    refine XS.astoreN X4.here hx rfl (hb hby d7_3) rfl rfl (l' := #[.val (.ref a1), .val (.int (0 : Int32)), .val (.int (2 : Int32)), .val (.ref b4), .unset, .unset]) rfl ?_
    refine XS.aloadN X4.here hx rfl (hb hby d7_4) rfl rfl ?_
    refine XS.iloadN X4.here hx rfl (hb hby d7_5) rfl ?_
    refine XS.aloadN X4.here hx rfl (hb hby d7_6) rfl rfl ?_
    refine XS.iconst X4.here hx rfl (hb hby d7_7) ?_
    refine XS.iloadN X4.here hx rfl (hb hby d7_8) rfl ?_
    show Steps p.tables e below (T4.setTop (mkF m 9 #[.val (.ref a1), .val (.int (0 : Int32)), .val (.int (2 : Int32)), .val (.ref b4), .unset, .unset] [(.int (2 : Int32)), (.int (0 : Int32)), (.ref b4), (.int (0 : Int32)), (.ref a1)])) _
    refine st5 _ ?_
    show Steps p.tables e below (T5.setTop (mkF m 12 #[.val (.ref a1), .val (.int (0 : Int32)), .val (.int (2 : Int32)), .val (.ref b4), .unset, .unset] [(.int (0 : Int32))])) _
    refine XS.istore X5.here hx rfl (hb hby d7_12) rfl (l' := #[.val (.ref a1), .val (.int (0 : Int32)), .val (.int (2 : Int32)), .val (.ref b4), .val (.int (0 : Int32)), .unset]) rfl ?_
    refine XS.iload X5.here hx rfl (hb hby d7_14) rfl ?_
    refine XS.iloadN X5.here hx rfl (hb hby d7_16) rfl ?_
    refine XS.icmpNo X5.here hx rfl (hb hby d7_17) rfl (feq ht17).1 ?_
    refine XS.aloadN X5.here hx rfl (hb hby d7_20) rfl rfl ?_
    refine XS.iloadN X5.here hx rfl (hb hby d7_21) rfl ?_
    refine XS.iloadN X5.here hx rfl (hb hby d7_22) rfl ?_
    show Steps p.tables e below (T5.setTop (mkF m 23 #[.val (.ref a1), .val (.int (0 : Int32)), .val (.int (2 : Int32)), .val (.ref b4), .val (.int (0 : Int32)), .unset] [(.int (2 : Int32)), (.int (0 : Int32)), (.ref a1)])) _
    refine st6 _ ?_
    show Steps p.tables e below (T6.setTop (mkF m 26 #[.val (.ref a1), .val (.int (0 : Int32)), .val (.int (2 : Int32)), .val (.ref b4), .val (.int (0 : Int32)), .unset] [(.ref t6)])) _
    refine XS.astore X6.here hx rfl (hb hby d7_26) rfl rfl (l' := #[.val (.ref a1), .val (.int (0 : Int32)), .val (.int (2 : Int32)), .val (.ref b4), .val (.int (0 : Int32)), .val (.ref t6)]) rfl ?_
    refine XS.aload X6.here hx rfl (hb hby d7_28) rfl rfl ?_
    refine XS.iload X6.here hx rfl (hb hby d7_30) rfl ?_
    show Steps p.tables e below (T6.setTop (mkF m 32 #[.val (.ref a1), .val (.int (0 : Int32)), .val (.int (2 : Int32)), .val (.ref b4), .val (.int (0 : Int32)), .val (.ref t6)] [(.int (0 : Int32)), (.ref t6)])) _
    refine st7 _ ?_
    show Steps p.tables e below (T7.setTop (mkF m 35 #[.val (.ref a1), .val (.int (0 : Int32)), .val (.int (2 : Int32)), .val (.ref b4), .val (.int (0 : Int32)), .val (.ref t6)] [(.int (own_gc (own_lo c0) (own_hi c0)))])) _
    refine XS.sipush X7.here hx rfl (hb hby d7_35) ?_
    refine XS.icmpYes X7.here hx rfl (pc0 := 38) (pc' := 54) rfl (hb hby d7_38) rfl (tlt ht38).2.2.1 (by decide) (by decide) ?_
    refine XS.aload X7.here hx rfl (hb hby d7_54) rfl rfl ?_
    show Steps p.tables e below (T7.setTop (mkF m 56 #[.val (.ref a1), .val (.int (0 : Int32)), .val (.int (2 : Int32)), .val (.ref b4), .val (.int (0 : Int32)), .val (.ref t6)] [(.ref t6)])) _
    jvm_step X7.here [X7.here.top, hx, (hb hby d7_56), X7.method', Bd.returns, Value.isRef, FieldType.isReference]
    first | (intro acts; rw [hr _ acts rfl rfl rfl]) | rw [hr _ _ rfl rfl rfl]
    exact Steps.refl _
  · show Q7_2 Z c0 c1 h0 n0 _ T7.heap _
    exact ⟨t6, kb6, rfl, N7, KH7, (Nat.le_trans KH5.1 gt6), (A6q.keep K7q (by simp))⟩
set_option maxRecDepth 65536 in
set_option maxHeartbeats 40000000 in
theorem rm7_2_1 (l : Launch) (Z : State) (a0 : Array Value) (hw : ∀ d ∈ tables_1, d.before a0 Z = true) (ws : List Jvm.Cond) (a1 : Addr) (ka : ClassId) (vs : List Value) (dv : Value) (c0 : Int32) (c1 : Int32) (h0 : Heap) (n0 : Nat) (Z0 : n0 ≤ h0.size) (V : Arv Z h0 a1 ka .char (2 : Int32) vs dv) (hv0 : vs.getD 0 dv = .int c0) (hv1 : vs.getD 1 dv = .int c1) (S__assertionsDisabled : Sta Z h0 "java/lang/StringUTF16" "$assertionsDisabled" "Z" (.int (1 : Int32))) (S_HI_BYTE_SHIFT : Sta Z h0 "java/lang/StringUTF16" "HI_BYTE_SHIFT" "I" (.int (0 : Int32))) (S_LO_BYTE_SHIFT : Sta Z h0 "java/lang/StringUTF16" "LO_BYTE_SHIFT" "I" (.int (8 : Int32))) (le0 : ¬ ((255 : Int32) < c0)) (gt : (255 : Int32) < c1) (ht17 : ¬ ((1 : Int32) = (2 : Int32))) (ht38 : (255 : Int32) < (own_gc (own_lo c1) (own_hi c1))) :
    MetFree l (⟨"java/lang/StringUTF16", "compress", "([CII)[B"⟩ : MethodName) (head1 (Jvm.Cond.code (⟨"java/lang/StringUTF16", "compress", "([CII)[B"⟩ : MethodName) jdk_52_method_16_code 6 (some (.array .byte)) :: ws) ({ frames := 3, cells := 2, slots := 6, locals := 40 } : Room)) (fun a U => a = #[(.ref a1), (.int (0 : Int32)), (.int (2 : Int32))] ∧ Z.Warmed39 U.vm ∧ U.heap = h0) (fun _ _ _ _ _ => True) (fun _ U o U' => ∃ v L, o = .returned v ∧ Q7_2 Z c0 c1 h0 n0 v U'.heap L ∧ FrameEnd U o U' L ({ frames := 3, cells := 2, slots := 6, locals := 40 } : Room).cells ({ frames := 3, cells := 2, slots := 6, locals := 40 } : Room).slots) := by
  refine MetFree.of_bodySF (plainFor_of_name pn_7) hisR ?_
  intro p e s m args below meth c s₁ Bd hml0 hP hK
  obtain ⟨rfl, hZ, hh⟩ := hP
  have hx := Bd.exec
  have hby := Bd.bytes
  have hml : c.maxLocals = 6 := hml0
  have hown : s.vm.findClass "java/lang/StringUTF16" = some m.cls := findClass_of_methodNamed Bd.named
  have hnm := (name_of_methodNamed Bd.named Bd.method).1
  have X0 : Stand p l e ({ frames := 3, cells := 2, slots := 6, locals := 40 } : Room) s m #[(.ref a1), (.int (0 : Int32)), (.int (2 : Int32))] below meth c s₁ [] 0 0 := Stand.of_body Bd
  have e0 : s₁.heap = h0 := by rw [← hh, Bd.state]; rfl
  have N0 := Fr.nil n0
  have pre0 : ∀ t, Steps p.tables e below (s₁.setTop (mkF m 0 #[.val (.ref a1), .val (.int (0 : Int32)), .val (.int (2 : Int32)), .unset, .unset, .unset] [])) t → Steps p.tables e below (s₁.setTop (entryFrame m #[(.ref a1), (.int (0 : Int32)), (.int (2 : Int32))] 6)) t := fun t k => castTop (ef_7 m a1 (0 : Int32) (2 : Int32)) k
  obtain ⟨T4, h4, k4, X4, e4, E4, A4, st4⟩ := newP X0 hx hZ (own_w hw 17 rfl) e0 (g := (mkF m 1 #[.val (.ref a1), .val (.int (0 : Int32)), .val (.int (2 : Int32)), .unset, .unset, .unset] [(.int (2 : Int32))])) rfl (hb hby d7_1) rfl (by decide) (cap := 2) (by decide) (by decide) (by decide) (by decide)
  obtain ⟨b4, g4⟩ : ∃ z, z = h0.size := ⟨_, rfl⟩
  rw [← g4] at A4 st4
  have V_b4 := Arv.new A4 (by decide)
  have g_b4 : n0 ≤ b4 := Nat.le_trans Z0 (Nat.le_of_eq g4.symm)
  have sz_b4 : h0.size ≤ b4 := (Nat.le_trans (Keep.refl h0 []).1 (Nat.le_of_eq g4.symm))
  have K4 : Keep h0 h4 [] := (Keep.refl h0 []).ext E4
  obtain ⟨_, _, ⟨T5, L5, k5, n5⟩, -, X5, ⟨Lc5, hQ5, l5, y5, z5⟩, st5⟩ := Jvm.LawKit.callS X4 hx (y := (⟨"java/lang/StringUTF16", "compress", "([CI[BII)I"⟩ : MethodName)) hown (mvT hZ (own_w hw 43 rfl)) (mvT hZ (own_w hw 44 rfl)) (mvT hZ (own_w hw 41 rfl)) (mvT hZ (own_w hw 45 rfl)) (by decide) (backOf (W := 0) (rm8_1 l Z a0 hw [] a1 b4 (2 : Int32) ka vs dv (newA k4 .byte (2 : Int32)) c0 c1  h4 n0 (Nat.le_trans Z0 K4.1) (V.ext E4) hv0 hv1 A4 (sz_new _ _ _) (own_ne V.lt g4) g_b4 (by decide) le0 gt) hZ (own_w hw 45 rfl) (own_w hw 41 rfl) (by decide) (by decide)) (g := (mkF m 9 #[.val (.ref a1), .val (.int (0 : Int32)), .val (.int (2 : Int32)), .val (.ref b4), .unset, .unset] [(.int (2 : Int32)), (.int (0 : Int32)), (.ref b4), (.int (0 : Int32)), (.ref a1)])) rfl (by rw [hml]; rfl) (argsL := [(.ref a1), (.int (0 : Int32)), (.ref b4), (.int (0 : Int32)), (.int (2 : Int32))]) (rest := []) (lenOf pd_7_7 rfl) rfl (by show 2 * 0 + _ ≤ _; exact Nat.le_of_eq rfl) (hb hby d7_9) (fun _ _ => ⟨rfl, e4, (by decide : 1 + 0 ≤ _), (by decide : 2 + 0 ≤ _)⟩)
  dsimp only [Pt.U, Pt.locs, Pt.cells, Pt.slots] at X5 l5 y5 z5 st5 hQ5
  subst l5 y5 z5
  obtain ⟨rfl, N5q, K5q⟩ := hQ5
  have N5 := Fr.app N0 N5q
  have KH5 : Keep h0 T5.heap [] := K4.trans K5q (own_ws1 sz_b4)
  obtain ⟨_, _, ⟨T6, L6, k6, n6⟩, -, X6, ⟨Lc6, hQ6, l6, y6, z6⟩, st6⟩ := Jvm.LawKit.callS X5 hx (y := (⟨"java/lang/StringUTF16", "toBytes", "([CII)[B"⟩ : MethodName)) hown (mvT hZ (own_w hw 78 rfl)) (mvT hZ (own_w hw 79 rfl)) (mvT hZ (own_w hw 41 rfl)) (mvT hZ (own_w hw 80 rfl)) (by decide) (backOf (W := 0) (rm17_2 l Z a0 hw [] a1 ka vs dv c0 c1  T5.heap n0 (Nat.le_trans Z0 KH5.1) (V.keep KH5 (by simp)) hv0 hv1 (S__assertionsDisabled.ext (own_ext KH5)) (S_HI_BYTE_SHIFT.ext (own_ext KH5)) (S_LO_BYTE_SHIFT.ext (own_ext KH5))) hZ (own_w hw 80 rfl) (own_w hw 41 rfl) (by decide) (by decide)) (g := (mkF m 23 #[.val (.ref a1), .val (.int (0 : Int32)), .val (.int (2 : Int32)), .val (.ref b4), .val (.int (1 : Int32)), .unset] [(.int (2 : Int32)), (.int (0 : Int32)), (.ref a1)])) rfl (by rw [hml]; rfl) (argsL := [(.ref a1), (.int (0 : Int32)), (.int (2 : Int32))]) (rest := []) (lenOf pd_7_6 rfl) rfl (by show 2 * 0 + _ ≤ _; exact Nat.le_of_eq rfl) (hb hby d7_23) (fun _ _ => ⟨rfl, rfl, (by decide : 1 + 1 ≤ _), (by decide : 2 + 4 ≤ _)⟩)
  dsimp only [Pt.U, Pt.locs, Pt.cells, Pt.slots] at X6 l6 y6 z6 st6 hQ6
  subst l6 y6 z6
  obtain ⟨t6, kb6, rfl, N6q, K6q, gt6, A6q⟩ := hQ6
  have N6 := Fr.app N5 N6q
  have KH6 : Keep h0 T6.heap [] := KH5.trans K6q own_ws0
  obtain ⟨clx, Arx, qx, Sx, Mx, Hx, Gx⟩ := id A6q
  obtain ⟨_, _, ⟨T7, L7, k7, n7⟩, -, X7, ⟨Lc7, hQ7, l7, y7, z7⟩, st7⟩ := Jvm.LawKit.callS X6 hx (y := (⟨"java/lang/StringUTF16", "getChar", "([BI)C"⟩ : MethodName)) hown (mvT hZ (own_w hw 94 rfl)) (mvT hZ (own_w hw 95 rfl)) (mvT hZ (own_w hw 41 rfl)) (mvT hZ (own_w hw 96 rfl)) (by decide) (backOf (W := 0) (rm21 l Z a0 hw [] t6 (1 : Int32) (own_lo c1) clx (own_hi c1) T6.heap n0 (Nat.le_trans Z0 KH6.1) (S__assertionsDisabled.ext (own_ext KH6)) Arx (inb_of Sx ⟨by decide, by decide⟩) (Hx 2 (by rw [Sx]; decide)) (S_HI_BYTE_SHIFT.ext (own_ext KH6)) (inb_of Sx ⟨by decide, by decide⟩) (Hx 3 (by rw [Sx]; decide)) (S_LO_BYTE_SHIFT.ext (own_ext KH6)) (by decide)) hZ (own_w hw 96 rfl) (own_w hw 41 rfl) (by decide) (by decide)) (g := (mkF m 32 #[.val (.ref a1), .val (.int (0 : Int32)), .val (.int (2 : Int32)), .val (.ref b4), .val (.int (1 : Int32)), .val (.ref t6)] [(.int (1 : Int32)), (.ref t6)])) rfl (by rw [hml]; rfl) (argsL := [(.ref t6), (.int (1 : Int32))]) (rest := []) (lenOf pd_7_12 rfl) rfl (by show 2 * 0 + _ ≤ _; exact Nat.le_of_eq rfl) (hb hby d7_32) (fun _ _ => ⟨rfl, rfl, (by decide : 2 + 0 ≤ _), (by decide : 6 + 0 ≤ _)⟩)
  dsimp only [Pt.U, Pt.locs, Pt.cells, Pt.slots] at X7 l7 y7 z7 st7 hQ7
  subst l7 y7 z7
  obtain ⟨rfl, N7q, e7q⟩ := hQ7
  have N7 := Fr.app N6 N7q
  have K7q : Keep T6.heap T7.heap [] := own_keep e7q
  have KH7 : Keep h0 T7.heap [] := KH6.trans K7q own_ws0
  obtain ⟨fs, hr, hrun, hended, hW, hsame⟩ := X7.leave (v := some (.ref t6)) (fun h => by rw [Bd.returns] at h; cases h) (BodyLoose.notSynchronized Bd)
  refine ⟨_, _, pre0 _ ?_, hrun, hended, _, _, rfl, ?_, ⟨_, rfl⟩, hW, hsame.mono (by decide) (by decide)⟩
  · show Steps p.tables e below (s₁.setTop (mkF m 0 #[.val (.ref a1), .val (.int (0 : Int32)), .val (.int (2 : Int32)), .unset, .unset, .unset] [])) _
    refine XS.iloadN X0.here hx rfl (hb hby d7_0) rfl ?_
    show Steps p.tables e below (s₁.setTop (mkF m 1 #[.val (.ref a1), .val (.int (0 : Int32)), .val (.int (2 : Int32)), .unset, .unset, .unset] [(.int (2 : Int32))])) _
    refine st4 _ ?_
    show Steps p.tables e below (T4.setTop (mkF m 3 #[.val (.ref a1), .val (.int (0 : Int32)), .val (.int (2 : Int32)), .unset, .unset, .unset] [(.ref b4)])) _
    refine XS.astoreN X4.here hx rfl (hb hby d7_3) rfl rfl (l' := #[.val (.ref a1), .val (.int (0 : Int32)), .val (.int (2 : Int32)), .val (.ref b4), .unset, .unset]) rfl ?_
    refine XS.aloadN X4.here hx rfl (hb hby d7_4) rfl rfl ?_
    refine XS.iloadN X4.here hx rfl (hb hby d7_5) rfl ?_
    refine XS.aloadN X4.here hx rfl (hb hby d7_6) rfl rfl ?_
    refine XS.iconst X4.here hx rfl (hb hby d7_7) ?_
    refine XS.iloadN X4.here hx rfl (hb hby d7_8) rfl ?_
    show Steps p.tables e below (T4.setTop (mkF m 9 #[.val (.ref a1), .val (.int (0 : Int32)), .val (.int (2 : Int32)), .val (.ref b4), .unset, .unset] [(.int (2 : Int32)), (.int (0 : Int32)), (.ref b4), (.int (0 : Int32)), (.ref a1)])) _
    refine st5 _ ?_
    show Steps p.tables e below (T5.setTop (mkF m 12 #[.val (.ref a1), .val (.int (0 : Int32)), .val (.int (2 : Int32)), .val (.ref b4), .unset, .unset] [(.int (1 : Int32))])) _
    refine XS.istore X5.here hx rfl (hb hby d7_12) rfl (l' := #[.val (.ref a1), .val (.int (0 : Int32)), .val (.int (2 : Int32)), .val (.ref b4), .val (.int (1 : Int32)), .unset]) rfl ?_
    refine XS.iload X5.here hx rfl (hb hby d7_14) rfl ?_
    refine XS.iloadN X5.here hx rfl (hb hby d7_16) rfl ?_
    refine XS.icmpNo X5.here hx rfl (hb hby d7_17) rfl (feq ht17).1 ?_
    refine XS.aloadN X5.here hx rfl (hb hby d7_20) rfl rfl ?_
    refine XS.iloadN X5.here hx rfl (hb hby d7_21) rfl ?_
    refine XS.iloadN X5.here hx rfl (hb hby d7_22) rfl ?_
    show Steps p.tables e below (T5.setTop (mkF m 23 #[.val (.ref a1), .val (.int (0 : Int32)), .val (.int (2 : Int32)), .val (.ref b4), .val (.int (1 : Int32)), .unset] [(.int (2 : Int32)), (.int (0 : Int32)), (.ref a1)])) _
    refine st6 _ ?_
    show Steps p.tables e below (T6.setTop (mkF m 26 #[.val (.ref a1), .val (.int (0 : Int32)), .val (.int (2 : Int32)), .val (.ref b4), .val (.int (1 : Int32)), .unset] [(.ref t6)])) _
    refine XS.astore X6.here hx rfl (hb hby d7_26) rfl rfl (l' := #[.val (.ref a1), .val (.int (0 : Int32)), .val (.int (2 : Int32)), .val (.ref b4), .val (.int (1 : Int32)), .val (.ref t6)]) rfl ?_
    refine XS.aload X6.here hx rfl (hb hby d7_28) rfl rfl ?_
    refine XS.iload X6.here hx rfl (hb hby d7_30) rfl ?_
    show Steps p.tables e below (T6.setTop (mkF m 32 #[.val (.ref a1), .val (.int (0 : Int32)), .val (.int (2 : Int32)), .val (.ref b4), .val (.int (1 : Int32)), .val (.ref t6)] [(.int (1 : Int32)), (.ref t6)])) _
    refine st7 _ ?_
    show Steps p.tables e below (T7.setTop (mkF m 35 #[.val (.ref a1), .val (.int (0 : Int32)), .val (.int (2 : Int32)), .val (.ref b4), .val (.int (1 : Int32)), .val (.ref t6)] [(.int (own_gc (own_lo c1) (own_hi c1)))])) _
    refine XS.sipush X7.here hx rfl (hb hby d7_35) ?_
    refine XS.icmpYes X7.here hx rfl (pc0 := 38) (pc' := 54) rfl (hb hby d7_38) rfl (tlt ht38).2.2.1 (by decide) (by decide) ?_
    refine XS.aload X7.here hx rfl (hb hby d7_54) rfl rfl ?_
    show Steps p.tables e below (T7.setTop (mkF m 56 #[.val (.ref a1), .val (.int (0 : Int32)), .val (.int (2 : Int32)), .val (.ref b4), .val (.int (1 : Int32)), .val (.ref t6)] [(.ref t6)])) _
    jvm_step X7.here [X7.here.top, hx, (hb hby d7_56), X7.method', Bd.returns, Value.isRef, FieldType.isReference]
    first | (intro acts; rw [hr _ acts rfl rfl rfl]) | rw [hr _ _ rfl rfl rfl]
    exact Steps.refl _
  · show Q7_2 Z c0 c1 h0 n0 _ T7.heap _
    exact ⟨t6, kb6, rfl, N7, KH7, (Nat.le_trans KH5.1 gt6), (A6q.keep K7q (by simp))⟩
set_option maxRecDepth 65536 in
set_option maxHeartbeats 40000000 in
theorem rm7_2 (l : Launch) (Z : State) (a0 : Array Value) (hw : ∀ d ∈ tables_1, d.before a0 Z = true) (ws : List Jvm.Cond) (a1 : Addr) (ka : ClassId) (vs : List Value) (dv : Value) (c0 : Int32) (c1 : Int32) (h0 : Heap) (n0 : Nat) (Z0 : n0 ≤ h0.size) (V : Arv Z h0 a1 ka .char (2 : Int32) vs dv) (hv0 : vs.getD 0 dv = .int c0) (hv1 : vs.getD 1 dv = .int c1) (S__assertionsDisabled : Sta Z h0 "java/lang/StringUTF16" "$assertionsDisabled" "Z" (.int (1 : Int32))) (S_HI_BYTE_SHIFT : Sta Z h0 "java/lang/StringUTF16" "HI_BYTE_SHIFT" "I" (.int (0 : Int32))) (S_LO_BYTE_SHIFT : Sta Z h0 "java/lang/StringUTF16" "LO_BYTE_SHIFT" "I" (.int (8 : Int32))) (f0 : ¬ c0 < 0 ∧ ¬ (65535 : Int32) < c0) (f1 : ¬ c1 < 0 ∧ ¬ (65535 : Int32) < c1) (hbig : (255 : Int32) < c0 ∨ (255 : Int32) < c1) :
    MetFree l (⟨"java/lang/StringUTF16", "compress", "([CII)[B"⟩ : MethodName) (head1 (Jvm.Cond.code (⟨"java/lang/StringUTF16", "compress", "([CII)[B"⟩ : MethodName) jdk_52_method_16_code 6 (some (.array .byte)) :: ws) ({ frames := 3, cells := 2, slots := 6, locals := 40 } : Room)) (fun a U => a = #[(.ref a1), (.int (0 : Int32)), (.int (2 : Int32))] ∧ Z.Warmed39 U.vm ∧ U.heap = h0) (fun _ _ _ _ _ => True) (fun _ U o U' => ∃ v L, o = .returned v ∧ Q7_2 Z c0 c1 h0 n0 v U'.heap L ∧ FrameEnd U o U' L ({ frames := 3, cells := 2, slots := 6, locals := 40 } : Room).cells ({ frames := 3, cells := 2, slots := 6, locals := 40 } : Room).slots) := by
  by_cases b0 : (255 : Int32) < c0
  · exact rm7_2_0 l Z a0 hw ws a1 ka vs dv c0 c1 h0 n0 Z0 V hv0 hv1 S__assertionsDisabled S_HI_BYTE_SHIFT S_LO_BYTE_SHIFT  b0 (by decide) (by rw [own_gcU _ f0]; exact b0)
  · skip
    have b1 : (255 : Int32) < c1 := by rcases hbig with q | q <;> first | assumption | contradiction
    exact rm7_2_1 l Z a0 hw ws a1 ka vs dv c0 c1 h0 n0 Z0 V hv0 hv1 S__assertionsDisabled S_HI_BYTE_SHIFT S_LO_BYTE_SHIFT b0 b1 (by decide) (by rw [own_gcU _ f1]; exact b1)
def Q2_2 (Z : State) (a1 : Addr) (c0 : Int32) (c1 : Int32) (h0 : Heap) (n0 : Nat) (v : Option Value) (h : Heap) (L : List Loc) : Prop := v = none ∧ Fr n0 L ∧ Keep h0 h [a1] ∧ ∃ (t : Addr) (kb : ClassId), Exa Z h a1 "java/lang/String" ∧ Fld Z h a1 "java/lang/String" "value" "[B" (.ref t) ∧ Fld Z h a1 "java/lang/String" "coder" "B" (.int (1 : Int32)) ∧ Arv Z h t kb .byte (4 : Int32) [Value.int (own_lo c0), Value.int (own_hi c0), Value.int (own_lo c1), Value.int (own_hi c1)] (.int (0 : Int32))
def Q1_2 (Z : State) (a1 : Addr) (c0 : Int32) (c1 : Int32) (h0 : Heap) (n0 : Nat) (v : Option Value) (h : Heap) (L : List Loc) : Prop := v = none ∧ Fr n0 L ∧ Keep h0 h [a1] ∧ ∃ (t : Addr) (kb : ClassId), Exa Z h a1 "java/lang/String" ∧ Fld Z h a1 "java/lang/String" "value" "[B" (.ref t) ∧ Fld Z h a1 "java/lang/String" "coder" "B" (.int (1 : Int32)) ∧ Arv Z h t kb .byte (4 : Int32) [Value.int (own_lo c0), Value.int (own_hi c0), Value.int (own_lo c1), Value.int (own_hi c1)] (.int (0 : Int32))
set_option maxRecDepth 65536 in
set_option maxHeartbeats 40000000 in
theorem rm2_2 (l : Launch) (Z : State) (a0 : Array Value) (hw : ∀ d ∈ tables_1, d.before a0 Z = true) (ws : List Jvm.Cond) (a1 : Addr) (a2 : Addr) (w_COMPACT_STRINGS : Int32) (u_coder_a1 : Value) (u_value_a1 : Value) (ka : ClassId) (vs : List Value) (dv : Value) (c0 : Int32) (c1 : Int32) (h0 : Heap) (n0 : Nat) (Z0 : n0 ≤ h0.size) (S_COMPACT_STRINGS : Sta Z h0 "java/lang/String" "COMPACT_STRINGS" "Z" (.int w_COMPACT_STRINGS)) (E_a1 : Exa Z h0 a1 "java/lang/String") (F_coder_a1 : Fld Z h0 a1 "java/lang/String" "coder" "B" u_coder_a1) (g_a1 : n0 ≤ a1) (F_value_a1 : Fld Z h0 a1 "java/lang/String" "value" "[B" u_value_a1) (hc5 : ¬ ((2 : Int32) = (0 : Int32))) (hc30 : ¬ (w_COMPACT_STRINGS = (0 : Int32))) (V : Arv Z h0 a2 ka .char (2 : Int32) vs dv) (hv0 : vs.getD 0 dv = .int c0) (hv1 : vs.getD 1 dv = .int c1) (S__assertionsDisabled : Sta Z h0 "java/lang/StringUTF16" "$assertionsDisabled" "Z" (.int (1 : Int32))) (S_HI_BYTE_SHIFT : Sta Z h0 "java/lang/StringUTF16" "HI_BYTE_SHIFT" "I" (.int (0 : Int32))) (S_LO_BYTE_SHIFT : Sta Z h0 "java/lang/StringUTF16" "LO_BYTE_SHIFT" "I" (.int (8 : Int32))) (f0 : ¬ c0 < 0 ∧ ¬ (65535 : Int32) < c0) (f1 : ¬ c1 < 0 ∧ ¬ (65535 : Int32) < c1) (hbig : (255 : Int32) < c0 ∨ (255 : Int32) < c1) :
    MetFree l (⟨"java/lang/String", "<init>", "([CIILjava/lang/Void;)V"⟩ : MethodName) (head1 (Jvm.Cond.code (⟨"java/lang/String", "<init>", "([CIILjava/lang/Void;)V"⟩ : MethodName) jdk_42_method_149_code 6 none :: ws) ({ frames := 4, cells := 2, slots := 6, locals := 57 } : Room)) (fun a U => a = #[(.ref a1), (.ref a2), (.int (0 : Int32)), (.int (2 : Int32)), .null] ∧ Z.Warmed39 U.vm ∧ U.heap = h0) (fun _ _ _ _ _ => True) (fun _ U o U' => ∃ v L, o = .returned v ∧ Q2_2 Z a1 c0 c1 h0 n0 v U'.heap L ∧ FrameEnd U o U' L ({ frames := 4, cells := 2, slots := 6, locals := 57 } : Room).cells ({ frames := 4, cells := 2, slots := 6, locals := 57 } : Room).slots) := by
  refine MetFree.of_bodySF (plainFor_of_name pn_2) hisR ?_
  intro p e s m args below meth c s₁ Bd hml0 hP hK
  obtain ⟨rfl, hZ, hh⟩ := hP
  have hx := Bd.exec
  have hby := Bd.bytes
  have hml : c.maxLocals = 6 := hml0
  have hown : s.vm.findClass "java/lang/String" = some m.cls := findClass_of_methodNamed Bd.named
  have hnm := (name_of_methodNamed Bd.named Bd.method).1
  have X0 : Stand p l e ({ frames := 4, cells := 2, slots := 6, locals := 57 } : Room) s m #[(.ref a1), (.ref a2), (.int (0 : Int32)), (.int (2 : Int32)), .null] below meth c s₁ [] 0 0 := Stand.of_body Bd
  have e0 : s₁.heap = h0 := by rw [← hh, Bd.state]; rfl
  have N0 := Fr.nil n0
  have pre0 : ∀ t, Steps p.tables e below (s₁.setTop (mkF m 0 #[.val (.ref a1), .val (.ref a2), .val (.int (0 : Int32)), .val (.int (2 : Int32)), .val .null, .unset] [])) t → Steps p.tables e below (s₁.setTop (entryFrame m #[(.ref a1), (.ref a2), (.int (0 : Int32)), (.int (2 : Int32)), .null] 6)) t := fun t k => castTop (ef_2 m a1 a2 (0 : Int32) (2 : Int32)) k
  obtain ⟨T5, X5, e5, st5⟩ := initO X0 hx hZ hown (own_w hw 13 rfl) (own_w hw 14 rfl) (own_w hw 15 rfl) e0 (g := (mkF m 1 #[.val (.ref a1), .val (.ref a2), .val (.int (0 : Int32)), .val (.int (2 : Int32)), .val .null, .unset] [(.ref a1)])) rfl (by rw [hml]; rfl) rfl (hb hby d2_1) (by decide) (W := 0) (by show 2 * 0 + _ ≤ _; exact Nat.le_of_eq rfl) (by decide)
  obtain ⟨T7, X7, e7, st7⟩ := getS2 X5 hx hZ hown (host := "") (Or.inl (own_w hw 38 rfl)) Via.refl e5 S_COMPACT_STRINGS (g := (mkF m 27 #[.val (.ref a1), .val (.ref a2), .val (.int (0 : Int32)), .val (.int (2 : Int32)), .val .null, .unset] [])) rfl (hb hby d2_27)
  obtain ⟨_, _, ⟨T8, L8, k8, n8⟩, -, X8, ⟨Lc8, hQ8, l8, y8, z8⟩, st8⟩ := Jvm.LawKit.callS X7 hx (y := (⟨"java/lang/StringUTF16", "compress", "([CII)[B"⟩ : MethodName)) hown (mvT hZ (own_w hw 39 rfl)) (mvT hZ (own_w hw 40 rfl)) (mvT hZ (own_w hw 41 rfl)) (mvT hZ (own_w hw 42 rfl)) (by decide) (backOf (W := 0) (rm7_2 l Z a0 hw [] a2 ka vs dv c0 c1  h0 n0 Z0 V hv0 hv1 S__assertionsDisabled S_HI_BYTE_SHIFT S_LO_BYTE_SHIFT f0 f1 hbig) hZ (own_w hw 42 rfl) (own_w hw 41 rfl) (by decide) (by decide)) (g := (mkF m 36 #[.val (.ref a1), .val (.ref a2), .val (.int (0 : Int32)), .val (.int (2 : Int32)), .val .null, .unset] [(.int (2 : Int32)), (.int (0 : Int32)), (.ref a2)])) rfl (by rw [hml]; rfl) (argsL := [(.ref a2), (.int (0 : Int32)), (.int (2 : Int32))]) (rest := []) (lenOf pd_2_6 rfl) rfl (by show 2 * 0 + _ ≤ _; exact Nat.le_of_eq rfl) (hb hby d2_36) (fun _ _ => ⟨rfl, e7, (by decide : 0 + 2 ≤ _), (by decide : 0 + 6 ≤ _)⟩)
  dsimp only [Pt.U, Pt.locs, Pt.cells, Pt.slots] at X8 l8 y8 z8 st8 hQ8
  subst l8 y8 z8
  obtain ⟨t8, kb8, rfl, N8q, K8q, gt8, A8q⟩ := hQ8
  have N8 := Fr.app N0 N8q
  have KH8 : Keep h0 T8.heap [a1] := (Keep.refl h0 [a1]).trans K8q own_ws0
  obtain ⟨clx, Arx, qx, Sx, Mx, Hx, Gx⟩ := id A8q
  have ne8 : t8 ≠ a1 := Ne.symm (Nat.ne_of_lt (Nat.lt_of_lt_of_le E_a1.lt gt8))
  obtain ⟨_, _, ⟨T9, L9, k9, n9⟩, -, X9, ⟨Lc9, hQ9, l9, y9, z9⟩, st9⟩ := Jvm.LawKit.callS X8 hx (y := (⟨"java/lang/StringUTF16", "coderFromArrayLen", "([BI)B"⟩ : MethodName)) hown (mvT hZ (own_w hw 46 rfl)) (mvT hZ (own_w hw 47 rfl)) (mvT hZ (own_w hw 41 rfl)) (mvT hZ (own_w hw 48 rfl)) (by decide) (backOf (W := 1) (rm9 l Z a0 hw [] t8 (2 : Int32) clx (4 : Int32) T8.heap n0 (Nat.le_trans Z0 KH8.1) Arx Sx Mx) hZ (own_w hw 48 rfl) (own_w hw 41 rfl) (by decide) (by decide)) (g := (mkF m 45 #[.val (.ref a1), .val (.ref a2), .val (.int (0 : Int32)), .val (.int (2 : Int32)), .val .null, .val (.ref t8)] [(.int (2 : Int32)), (.ref t8), (.ref a1)])) rfl (by rw [hml]; rfl) (argsL := [(.ref t8), (.int (2 : Int32))]) (rest := [(.ref a1)]) (lenOf pd_2_8 rfl) rfl (by show 2 * 0 + _ ≤ _; exact Nat.le_of_eq rfl) (hb hby d2_45) (fun _ _ => ⟨rfl, rfl, (by decide : 2 + 0 ≤ _), (by decide : 6 + 0 ≤ _)⟩)
  dsimp only [Pt.U, Pt.locs, Pt.cells, Pt.slots] at X9 l9 y9 z9 st9 hQ9
  subst l9 y9 z9
  obtain ⟨rfl, N9q, e9q⟩ := hQ9
  have N9 := Fr.app N8 N9q
  have K9q : Keep T8.heap T9.heap [] := own_keep e9q
  have KH9 : Keep h0 T9.heap [a1] := KH8.trans K9q own_ws0
  obtain ⟨T10, h10, X10, e10, W10, st10⟩ := putFN X9 hx hZ hown (own_w hw 23 rfl) Via.refl rfl ((F_coder_a1.keep K8q (by simp)).keep K9q (by simp)) ((E_a1.keep K8q).keep K9q) (Or.inr ⟨(own_w hw 19 rfl), rfl, hnm⟩) (own_w hw 4 rfl) (ty := .byte) (v' := (.int (1 : Int32))) (by decide) (by decide) (by decide) (g := (mkF m 48 #[.val (.ref a1), .val (.ref a2), .val (.int (0 : Int32)), .val (.int (2 : Int32)), .val .null, .val (.ref t8)] [(.int (own_f9 (2 : Int32) (4 : Int32))), (.ref a1)])) rfl rfl (hb hby d2_48)
  have Fw10 := ((F_coder_a1.keep K8q (by simp)).keep K9q (by simp)).same W10
  have K10 : Keep h0 h10 [a1] := KH9.wr W10 (Or.inl (List.mem_of_getElem? (i := 0) rfl))
  have N10 := Fr.snoc X10 N9 g_a1
  obtain ⟨T11, h11, X11, e11, W11, st11⟩ := putF X10 hx hZ hown (host := "") (Or.inl (own_w hw 22 rfl)) Via.refl e10 (((F_value_a1.keep K8q (by simp)).keep K9q (by simp)).other W10 (Or.inr (slot_ne (Or.inr (own_w hw 18 rfl)) (Or.inr (own_w hw 19 rfl)) (by decide) (t := (.array .byte)) (t' := .byte) (by decide) (by decide)))) (((E_a1.keep K8q).keep K9q).wr W10) (Or.inr ⟨(own_w hw 18 rfl), rfl, hnm⟩) (own_w hw 4 rfl) (ty := (.array .byte)) (by decide) rfl rfl (g := (mkF m 54 #[.val (.ref a1), .val (.ref a2), .val (.int (0 : Int32)), .val (.int (2 : Int32)), .val .null, .val (.ref t8)] [(.ref t8), (.ref a1)])) rfl rfl (hb hby d2_54)
  have Fw11 := (((F_value_a1.keep K8q (by simp)).keep K9q (by simp)).other W10 (Or.inr (slot_ne (Or.inr (own_w hw 18 rfl)) (Or.inr (own_w hw 19 rfl)) (by decide) (t := (.array .byte)) (t' := .byte) (by decide) (by decide)))).same W11
  have K11 : Keep h0 h11 [a1] := K10.wr W11 (Or.inl (List.mem_of_getElem? (i := 0) rfl))
  have N11 := Fr.snoc X11 N10 g_a1
  obtain ⟨fs, hr, hrun, hended, hW, hsame⟩ := X11.leave (v := none) (fun _ => rfl) (BodyLoose.notSynchronized Bd)
  refine ⟨_, _, pre0 _ ?_, hrun, hended, _, _, rfl, ?_, ⟨_, rfl⟩, hW, hsame.mono (by decide) (by decide)⟩
  · show Steps p.tables e below (s₁.setTop (mkF m 0 #[.val (.ref a1), .val (.ref a2), .val (.int (0 : Int32)), .val (.int (2 : Int32)), .val .null, .unset] [])) _
    refine XS.aloadN X0.here hx rfl (hb hby d2_0) rfl rfl ?_
    show Steps p.tables e below (s₁.setTop (mkF m 1 #[.val (.ref a1), .val (.ref a2), .val (.int (0 : Int32)), .val (.int (2 : Int32)), .val .null, .unset] [(.ref a1)])) _
    refine st5 _ ?_
    show Steps p.tables e below (T5.setTop (mkF m 4 #[.val (.ref a1), .val (.ref a2), .val (.int (0 : Int32)), .val (.int (2 : Int32)), .val .null, .unset] [])) _
    refine XS.iloadN X5.here hx rfl (hb hby d2_4) rfl ?_
    refine XS.ifYes X5.here hx rfl (pc0 := 5) (pc' := 27) rfl (hb hby d2_5) rfl ((if0 _ _).trans (feq hc5).2) (by decide) (by decide) ?_
    show Steps p.tables e below (T5.setTop (mkF m 27 #[.val (.ref a1), .val (.ref a2), .val (.int (0 : Int32)), .val (.int (2 : Int32)), .val .null, .unset] [])) _
    refine st7 _ ?_
    show Steps p.tables e below (T7.setTop (mkF m 30 #[.val (.ref a1), .val (.ref a2), .val (.int (0 : Int32)), .val (.int (2 : Int32)), .val .null, .unset] [(.int w_COMPACT_STRINGS)])) _
    refine XS.ifNo X7.here hx rfl (hb hby d2_30) rfl ((if0 _ _).trans (feq hc30).1) ?_
    refine XS.aloadN X7.here hx rfl (hb hby d2_33) rfl rfl ?_
    refine XS.iloadN X7.here hx rfl (hb hby d2_34) rfl ?_
    refine XS.iloadN X7.here hx rfl (hb hby d2_35) rfl ?_
    show Steps p.tables e below (T7.setTop (mkF m 36 #[.val (.ref a1), .val (.ref a2), .val (.int (0 : Int32)), .val (.int (2 : Int32)), .val .null, .unset] [(.int (2 : Int32)), (.int (0 : Int32)), (.ref a2)])) _
    refine st8 _ ?_
    show Steps p.tables e below (T8.setTop (mkF m 39 #[.val (.ref a1), .val (.ref a2), .val (.int (0 : Int32)), .val (.int (2 : Int32)), .val .null, .unset] [(.ref t8)])) _
    refine XS.astore X8.here hx rfl (hb hby d2_39) rfl rfl (l' := #[.val (.ref a1), .val (.ref a2), .val (.int (0 : Int32)), .val (.int (2 : Int32)), .val .null, .val (.ref t8)]) rfl ?_
    refine XS.aloadN X8.here hx rfl (hb hby d2_41) rfl rfl ?_
    refine XS.aload X8.here hx rfl (hb hby d2_42) rfl rfl ?_
    refine XS.iloadN X8.here hx rfl (hb hby d2_44) rfl ?_
    show Steps p.tables e below (T8.setTop (mkF m 45 #[.val (.ref a1), .val (.ref a2), .val (.int (0 : Int32)), .val (.int (2 : Int32)), .val .null, .val (.ref t8)] [(.int (2 : Int32)), (.ref t8), (.ref a1)])) _
    refine st9 _ ?_
    show Steps p.tables e below (T9.setTop (mkF m 48 #[.val (.ref a1), .val (.ref a2), .val (.int (0 : Int32)), .val (.int (2 : Int32)), .val .null, .val (.ref t8)] [(.int (own_f9 (2 : Int32) (4 : Int32))), (.ref a1)])) _
    refine st10 _ ?_
    show Steps p.tables e below (T10.setTop (mkF m 51 #[.val (.ref a1), .val (.ref a2), .val (.int (0 : Int32)), .val (.int (2 : Int32)), .val .null, .val (.ref t8)] [])) _
    refine XS.aloadN X10.here hx rfl (hb hby d2_51) rfl rfl ?_
    refine XS.aload X10.here hx rfl (hb hby d2_52) rfl rfl ?_
    show Steps p.tables e below (T10.setTop (mkF m 54 #[.val (.ref a1), .val (.ref a2), .val (.int (0 : Int32)), .val (.int (2 : Int32)), .val .null, .val (.ref t8)] [(.ref t8), (.ref a1)])) _
    refine st11 _ ?_
    show Steps p.tables e below (T11.setTop (mkF m 57 #[.val (.ref a1), .val (.ref a2), .val (.int (0 : Int32)), .val (.int (2 : Int32)), .val .null, .val (.ref t8)] [])) _
    exact X11.returnOut hx Bd.returns (hb hby d2_57) hr
  · show Q2_2 Z a1 c0 c1 h0 n0 _ T11.heap _
    rw [e11]
    exact ⟨rfl, N11, K11, t8, kb8, ((((E_a1.keep K8q).keep K9q).wr W10).wr W11), Fw11, (Fw10.other W11 (Or.inr (slot_ne (Or.inr (own_w hw 19 rfl)) (Or.inr (own_w hw 18 rfl)) (by decide) (t := .byte) (t' := (.array .byte)) (by decide) (by decide)))), (((A8q.keep K9q (by simp)).other W10 ne8).other W11 ne8)⟩
set_option maxRecDepth 65536 in
set_option maxHeartbeats 40000000 in
theorem rm1_2 (l : Launch) (Z : State) (a0 : Array Value) (hw : ∀ d ∈ tables_1, d.before a0 Z = true) (ws : List Jvm.Cond) (a1 : Addr) (a2 : Addr) (G1 : Int32) (ka : ClassId) (vs : List Value) (dv : Value) (c0 : Int32) (c1 : Int32) (h0 : Heap) (n0 : Nat) (Z0 : n0 ≤ h0.size) (V : Arv Z h0 a2 ka .char (2 : Int32) vs dv) (hv0 : vs.getD 0 dv = .int c0) (hv1 : vs.getD 1 dv = .int c1) (E_a1 : Exa Z h0 a1 "java/lang/String") (F_coder_a1 : Fld Z h0 a1 "java/lang/String" "coder" "B" (.int (0 : Int32))) (g_a1 : n0 ≤ a1) (F_value_a1 : Fld Z h0 a1 "java/lang/String" "value" "[B" .null) (S_CS : Sta Z h0 "java/lang/String" "COMPACT_STRINGS" "Z" (.int G1)) (P5 : ¬ (G1 = (0 : Int32))) (S__assertionsDisabled : Sta Z h0 "java/lang/StringUTF16" "$assertionsDisabled" "Z" (.int (1 : Int32))) (S_HI_BYTE_SHIFT : Sta Z h0 "java/lang/StringUTF16" "HI_BYTE_SHIFT" "I" (.int (0 : Int32))) (S_LO_BYTE_SHIFT : Sta Z h0 "java/lang/StringUTF16" "LO_BYTE_SHIFT" "I" (.int (8 : Int32))) (f0 : ¬ c0 < 0 ∧ ¬ (65535 : Int32) < c0) (f1 : ¬ c1 < 0 ∧ ¬ (65535 : Int32) < c1) (hbig : (255 : Int32) < c0 ∨ (255 : Int32) < c1) :
    MetFree l (⟨"java/lang/String", "<init>", "([C)V"⟩ : MethodName) (head1 (Jvm.Cond.code (⟨"java/lang/String", "<init>", "([C)V"⟩ : MethodName) jdk_42_method_3_code 2 none :: ws) ({ frames := 5, cells := 2, slots := 6, locals := 74 } : Room)) (fun a U => a = #[(.ref a1), (.ref a2)] ∧ Z.Warmed39 U.vm ∧ U.heap = h0) (fun _ _ _ _ _ => True) (fun _ U o U' => ∃ v L, o = .returned v ∧ Q1_2 Z a1 c0 c1 h0 n0 v U'.heap L ∧ FrameEnd U o U' L ({ frames := 5, cells := 2, slots := 6, locals := 74 } : Room).cells ({ frames := 5, cells := 2, slots := 6, locals := 74 } : Room).slots) := by
  refine MetFree.of_bodySF (plainFor_of_name pn_1) hisR ?_
  intro p e s m args below meth c s₁ Bd hml0 hP hK
  obtain ⟨rfl, hZ, hh⟩ := hP
  have hx := Bd.exec
  have hby := Bd.bytes
  have hml : c.maxLocals = 2 := hml0
  have hown : s.vm.findClass "java/lang/String" = some m.cls := findClass_of_methodNamed Bd.named
  have hnm := (name_of_methodNamed Bd.named Bd.method).1
  have X0 : Stand p l e ({ frames := 5, cells := 2, slots := 6, locals := 74 } : Room) s m #[(.ref a1), (.ref a2)] below meth c s₁ [] 0 0 := Stand.of_body Bd
  have e0 : s₁.heap = h0 := by rw [← hh, Bd.state]; rfl
  have N0 := Fr.nil n0
  obtain ⟨cl_a2, Ar_a2, q_a2, S_a2, N_a2, H_a2, G_a2⟩ := id V
  have pre0 : ∀ t, Steps p.tables e below (s₁.setTop (mkF m 0 #[.val (.ref a1), .val (.ref a2)] [])) t → Steps p.tables e below (s₁.setTop (entryFrame m #[(.ref a1), (.ref a2)] 2)) t := fun t k => castTop (ef_1 m a1 a2) k
  obtain ⟨_, _, ⟨T3, L3, k3, n3⟩, -, X3, ⟨Lc3, hQ3, l3, y3, z3⟩, st3⟩ := X0.specialBack hx (y := (⟨"java/lang/String", "<init>", "([CIILjava/lang/Void;)V"⟩ : MethodName)) rfl hown (mvT hZ (own_w hw 9 rfl)) (mvT hZ (own_w hw 10 rfl)) (mvT hZ (own_w hw 12 rfl)) (by decide) (backOf (W := 0) (rm2_2 l Z a0 hw [] a1 a2 G1 (.int (0 : Int32)) .null ka vs dv c0 c1 h0 n0 Z0 S_CS E_a1 F_coder_a1 g_a1 F_value_a1 (by decide) P5 V hv0 hv1 S__assertionsDisabled S_HI_BYTE_SHIFT S_LO_BYTE_SHIFT f0 f1 hbig) hZ (own_w hw 12 rfl) (own_w hw 5 rfl) (by decide) (by decide)) (g := (mkF m 6 #[.val (.ref a1), .val (.ref a2)] [.null, (.int (2 : Int32)), (.int (0 : Int32)), (.ref a2), (.ref a1)])) rfl (by rw [hml]; rfl) (Steps.refl _) (a := a1) (argsL := [(.ref a2), (.int (0 : Int32)), (.int (2 : Int32)), .null]) (rest := []) (lenOf pd_1_1 rfl) rfl (by show 2 * 0 + _ ≤ _; exact Nat.le_of_eq rfl) (hb hby d1_6) (fun _ _ => ⟨rfl, e0, (by decide : 0 + 2 ≤ _), (by decide : 0 + 6 ≤ _)⟩)
  dsimp only [Pt.U, Pt.locs, Pt.cells, Pt.slots] at X3 l3 y3 z3 st3 hQ3
  subst l3 y3 z3
  obtain ⟨rfl, N3q, K3q, t3, kb3, E3q, Fv3, Fc3, A3q⟩ := hQ3
  have N3 := Fr.app N0 N3q
  have KH3 : Keep h0 T3.heap [a1] := (Keep.refl h0 [a1]).trans K3q own_wsIn
  obtain ⟨fs, hr, hrun, hended, hW, hsame⟩ := X3.leave (v := none) (fun _ => rfl) (BodyLoose.notSynchronized Bd)
  refine ⟨_, _, pre0 _ ?_, hrun, hended, _, _, rfl, ?_, ⟨_, rfl⟩, hW, hsame.mono (by decide) (by decide)⟩
  · show Steps p.tables e below (s₁.setTop (mkF m 0 #[.val (.ref a1), .val (.ref a2)] [])) _
    refine XS.aloadN X0.here hx rfl (hb hby d1_0) rfl rfl ?_
    refine XS.aloadN X0.here hx rfl (hb hby d1_1) rfl rfl ?_
    refine XS.iconst X0.here hx rfl (hb hby d1_2) ?_
    refine XS.aloadN X0.here hx rfl (hb hby d1_3) rfl rfl ?_
    show Steps p.tables e below (s₁.setTop (mkF m 4 #[.val (.ref a1), .val (.ref a2)] [(.ref a2), (.int (0 : Int32)), (.ref a2), (.ref a1)])) _
    refine X0.arraylength hx (by rw [e0]; exact Ar_a2.1) (State.isArrayOf_alike hZ.alike Ar_a2.2.1) (g := (mkF m 4 #[.val (.ref a1), .val (.ref a2)] [(.ref a2), (.int (0 : Int32)), (.ref a2), (.ref a1)])) rfl rfl (hb hby d1_4) _ ?_
    rw [len_of S_a2 N_a2]
    show Steps p.tables e below (s₁.setTop (mkF m 5 #[.val (.ref a1), .val (.ref a2)] [(.int (2 : Int32)), (.int (0 : Int32)), (.ref a2), (.ref a1)])) _
    refine XS.aconstNull X0.here hx rfl (hb hby d1_5) ?_
    show Steps p.tables e below (s₁.setTop (mkF m 6 #[.val (.ref a1), .val (.ref a2)] [.null, (.int (2 : Int32)), (.int (0 : Int32)), (.ref a2), (.ref a1)])) _
    refine st3.trans ?_
    show Steps p.tables e below (T3.setTop (mkF m 9 #[.val (.ref a1), .val (.ref a2)] [])) _
    exact X3.returnOut hx Bd.returns (hb hby d1_9) hr
  · show Q1_2 Z a1 c0 c1 h0 n0 _ T3.heap _
    exact ⟨rfl, N3, K3q, t3, kb3, E3q, Fv3, Fc3, A3q⟩
def Q7_3 (Z : State) (c0 : Int32) (c1 : Int32) (c2 : Int32) (h0 : Heap) (n0 : Nat) (v : Option Value) (h : Heap) (L : List Loc) : Prop := ∃ (t : Addr) (kb : ClassId), v = some (.ref t) ∧ Fr n0 L ∧ Keep h0 h [] ∧ h0.size ≤ t ∧ Arv Z h t kb .byte (6 : Int32) [Value.int (own_lo c0), Value.int (own_hi c0), Value.int (own_lo c1), Value.int (own_hi c1), Value.int (own_lo c2), Value.int (own_hi c2)] (.int (0 : Int32))
set_option maxRecDepth 65536 in
set_option maxHeartbeats 40000000 in
theorem rm7_3_0 (l : Launch) (Z : State) (a0 : Array Value) (hw : ∀ d ∈ tables_1, d.before a0 Z = true) (ws : List Jvm.Cond) (a1 : Addr) (ka : ClassId) (vs : List Value) (dv : Value) (c0 : Int32) (c1 : Int32) (c2 : Int32) (h0 : Heap) (n0 : Nat) (Z0 : n0 ≤ h0.size) (V : Arv Z h0 a1 ka .char (3 : Int32) vs dv) (hv0 : vs.getD 0 dv = .int c0) (hv1 : vs.getD 1 dv = .int c1) (hv2 : vs.getD 2 dv = .int c2) (S__assertionsDisabled : Sta Z h0 "java/lang/StringUTF16" "$assertionsDisabled" "Z" (.int (1 : Int32))) (S_HI_BYTE_SHIFT : Sta Z h0 "java/lang/StringUTF16" "HI_BYTE_SHIFT" "I" (.int (0 : Int32))) (S_LO_BYTE_SHIFT : Sta Z h0 "java/lang/StringUTF16" "LO_BYTE_SHIFT" "I" (.int (8 : Int32))) (gt : (255 : Int32) < c0) (ht17 : ¬ ((0 : Int32) = (3 : Int32))) (ht38 : (255 : Int32) < (own_gc (own_lo c0) (own_hi c0))) :
    MetFree l (⟨"java/lang/StringUTF16", "compress", "([CII)[B"⟩ : MethodName) (head1 (Jvm.Cond.code (⟨"java/lang/StringUTF16", "compress", "([CII)[B"⟩ : MethodName) jdk_52_method_16_code 6 (some (.array .byte)) :: ws) ({ frames := 3, cells := 2, slots := 9, locals := 40 } : Room)) (fun a U => a = #[(.ref a1), (.int (0 : Int32)), (.int (3 : Int32))] ∧ Z.Warmed39 U.vm ∧ U.heap = h0) (fun _ _ _ _ _ => True) (fun _ U o U' => ∃ v L, o = .returned v ∧ Q7_3 Z c0 c1 c2 h0 n0 v U'.heap L ∧ FrameEnd U o U' L ({ frames := 3, cells := 2, slots := 9, locals := 40 } : Room).cells ({ frames := 3, cells := 2, slots := 9, locals := 40 } : Room).slots) := by
  refine MetFree.of_bodySF (plainFor_of_name pn_7) hisR ?_
  intro p e s m args below meth c s₁ Bd hml0 hP hK
  obtain ⟨rfl, hZ, hh⟩ := hP
  have hx := Bd.exec
  have hby := Bd.bytes
  have hml : c.maxLocals = 6 := hml0
  have hown : s.vm.findClass "java/lang/StringUTF16" = some m.cls := findClass_of_methodNamed Bd.named
  have hnm := (name_of_methodNamed Bd.named Bd.method).1
  have X0 : Stand p l e ({ frames := 3, cells := 2, slots := 9, locals := 40 } : Room) s m #[(.ref a1), (.int (0 : Int32)), (.int (3 : Int32))] below meth c s₁ [] 0 0 := Stand.of_body Bd
  have e0 : s₁.heap = h0 := by rw [← hh, Bd.state]; rfl
  have N0 := Fr.nil n0
  have pre0 : ∀ t, Steps p.tables e below (s₁.setTop (mkF m 0 #[.val (.ref a1), .val (.int (0 : Int32)), .val (.int (3 : Int32)), .unset, .unset, .unset] [])) t → Steps p.tables e below (s₁.setTop (entryFrame m #[(.ref a1), (.int (0 : Int32)), (.int (3 : Int32))] 6)) t := fun t k => castTop (ef_7 m a1 (0 : Int32) (3 : Int32)) k
  obtain ⟨T4, h4, k4, X4, e4, E4, A4, st4⟩ := newP X0 hx hZ (own_w hw 17 rfl) e0 (g := (mkF m 1 #[.val (.ref a1), .val (.int (0 : Int32)), .val (.int (3 : Int32)), .unset, .unset, .unset] [(.int (3 : Int32))])) rfl (hb hby d7_1) rfl (by decide) (cap := 3) (by decide) (by decide) (by decide) (by decide)
  obtain ⟨b4, g4⟩ : ∃ z, z = h0.size := ⟨_, rfl⟩
  rw [← g4] at A4 st4
  have V_b4 := Arv.new A4 (by decide)
  have g_b4 : n0 ≤ b4 := Nat.le_trans Z0 (Nat.le_of_eq g4.symm)
  have sz_b4 : h0.size ≤ b4 := (Nat.le_trans (Keep.refl h0 []).1 (Nat.le_of_eq g4.symm))
  have K4 : Keep h0 h4 [] := (Keep.refl h0 []).ext E4
  obtain ⟨_, _, ⟨T5, L5, k5, n5⟩, -, X5, ⟨Lc5, hQ5, l5, y5, z5⟩, st5⟩ := Jvm.LawKit.callS X4 hx (y := (⟨"java/lang/StringUTF16", "compress", "([CI[BII)I"⟩ : MethodName)) hown (mvT hZ (own_w hw 43 rfl)) (mvT hZ (own_w hw 44 rfl)) (mvT hZ (own_w hw 41 rfl)) (mvT hZ (own_w hw 45 rfl)) (by decide) (backOf (W := 0) (rm8_0 l Z a0 hw [] a1 b4 (3 : Int32) ka vs dv (newA k4 .byte (3 : Int32)) c0  h4 n0 (Nat.le_trans Z0 K4.1) (V.ext E4) hv0 A4 (sz_new _ _ _) (own_ne V.lt g4) g_b4 (by decide)  gt) hZ (own_w hw 45 rfl) (own_w hw 41 rfl) (by decide) (by decide)) (g := (mkF m 9 #[.val (.ref a1), .val (.int (0 : Int32)), .val (.int (3 : Int32)), .val (.ref b4), .unset, .unset] [(.int (3 : Int32)), (.int (0 : Int32)), (.ref b4), (.int (0 : Int32)), (.ref a1)])) rfl (by rw [hml]; rfl) (argsL := [(.ref a1), (.int (0 : Int32)), (.ref b4), (.int (0 : Int32)), (.int (3 : Int32))]) (rest := []) (lenOf pd_7_7 rfl) rfl (by show 2 * 0 + _ ≤ _; exact Nat.le_of_eq rfl) (hb hby d7_9) (fun _ _ => ⟨rfl, e4, (by decide : 1 + 0 ≤ _), (by decide : 3 + 0 ≤ _)⟩)
  dsimp only [Pt.U, Pt.locs, Pt.cells, Pt.slots] at X5 l5 y5 z5 st5 hQ5
  subst l5 y5 z5
  obtain ⟨rfl, N5q, K5q⟩ := hQ5
  have N5 := Fr.app N0 N5q
  have KH5 : Keep h0 T5.heap [] := K4.trans K5q (own_ws1 sz_b4)
  obtain ⟨_, _, ⟨T6, L6, k6, n6⟩, -, X6, ⟨Lc6, hQ6, l6, y6, z6⟩, st6⟩ := Jvm.LawKit.callS X5 hx (y := (⟨"java/lang/StringUTF16", "toBytes", "([CII)[B"⟩ : MethodName)) hown (mvT hZ (own_w hw 78 rfl)) (mvT hZ (own_w hw 79 rfl)) (mvT hZ (own_w hw 41 rfl)) (mvT hZ (own_w hw 80 rfl)) (by decide) (backOf (W := 0) (rm17_3 l Z a0 hw [] a1 ka vs dv c0 c1 c2  T5.heap n0 (Nat.le_trans Z0 KH5.1) (V.keep KH5 (by simp)) hv0 hv1 hv2 (S__assertionsDisabled.ext (own_ext KH5)) (S_HI_BYTE_SHIFT.ext (own_ext KH5)) (S_LO_BYTE_SHIFT.ext (own_ext KH5))) hZ (own_w hw 80 rfl) (own_w hw 41 rfl) (by decide) (by decide)) (g := (mkF m 23 #[.val (.ref a1), .val (.int (0 : Int32)), .val (.int (3 : Int32)), .val (.ref b4), .val (.int (0 : Int32)), .unset] [(.int (3 : Int32)), (.int (0 : Int32)), (.ref a1)])) rfl (by rw [hml]; rfl) (argsL := [(.ref a1), (.int (0 : Int32)), (.int (3 : Int32))]) (rest := []) (lenOf pd_7_6 rfl) rfl (by show 2 * 0 + _ ≤ _; exact Nat.le_of_eq rfl) (hb hby d7_23) (fun _ _ => ⟨rfl, rfl, (by decide : 1 + 1 ≤ _), (by decide : 3 + 6 ≤ _)⟩)
  dsimp only [Pt.U, Pt.locs, Pt.cells, Pt.slots] at X6 l6 y6 z6 st6 hQ6
  subst l6 y6 z6
  obtain ⟨t6, kb6, rfl, N6q, K6q, gt6, A6q⟩ := hQ6
  have N6 := Fr.app N5 N6q
  have KH6 : Keep h0 T6.heap [] := KH5.trans K6q own_ws0
  obtain ⟨clx, Arx, qx, Sx, Mx, Hx, Gx⟩ := id A6q
  obtain ⟨_, _, ⟨T7, L7, k7, n7⟩, -, X7, ⟨Lc7, hQ7, l7, y7, z7⟩, st7⟩ := Jvm.LawKit.callS X6 hx (y := (⟨"java/lang/StringUTF16", "getChar", "([BI)C"⟩ : MethodName)) hown (mvT hZ (own_w hw 94 rfl)) (mvT hZ (own_w hw 95 rfl)) (mvT hZ (own_w hw 41 rfl)) (mvT hZ (own_w hw 96 rfl)) (by decide) (backOf (W := 0) (rm21 l Z a0 hw [] t6 (0 : Int32) (own_lo c0) clx (own_hi c0) T6.heap n0 (Nat.le_trans Z0 KH6.1) (S__assertionsDisabled.ext (own_ext KH6)) Arx (inb_of Sx ⟨by decide, by decide⟩) (Hx 0 (by rw [Sx]; decide)) (S_HI_BYTE_SHIFT.ext (own_ext KH6)) (inb_of Sx ⟨by decide, by decide⟩) (Hx 1 (by rw [Sx]; decide)) (S_LO_BYTE_SHIFT.ext (own_ext KH6)) (by decide)) hZ (own_w hw 96 rfl) (own_w hw 41 rfl) (by decide) (by decide)) (g := (mkF m 32 #[.val (.ref a1), .val (.int (0 : Int32)), .val (.int (3 : Int32)), .val (.ref b4), .val (.int (0 : Int32)), .val (.ref t6)] [(.int (0 : Int32)), (.ref t6)])) rfl (by rw [hml]; rfl) (argsL := [(.ref t6), (.int (0 : Int32))]) (rest := []) (lenOf pd_7_12 rfl) rfl (by show 2 * 0 + _ ≤ _; exact Nat.le_of_eq rfl) (hb hby d7_32) (fun _ _ => ⟨rfl, rfl, (by decide : 2 + 0 ≤ _), (by decide : 9 + 0 ≤ _)⟩)
  dsimp only [Pt.U, Pt.locs, Pt.cells, Pt.slots] at X7 l7 y7 z7 st7 hQ7
  subst l7 y7 z7
  obtain ⟨rfl, N7q, e7q⟩ := hQ7
  have N7 := Fr.app N6 N7q
  have K7q : Keep T6.heap T7.heap [] := own_keep e7q
  have KH7 : Keep h0 T7.heap [] := KH6.trans K7q own_ws0
  obtain ⟨fs, hr, hrun, hended, hW, hsame⟩ := X7.leave (v := some (.ref t6)) (fun h => by rw [Bd.returns] at h; cases h) (BodyLoose.notSynchronized Bd)
  refine ⟨_, _, pre0 _ ?_, hrun, hended, _, _, rfl, ?_, ⟨_, rfl⟩, hW, hsame.mono (by decide) (by decide)⟩
  · show Steps p.tables e below (s₁.setTop (mkF m 0 #[.val (.ref a1), .val (.int (0 : Int32)), .val (.int (3 : Int32)), .unset, .unset, .unset] [])) _
    refine XS.iloadN X0.here hx rfl (hb hby d7_0) rfl ?_
    show Steps p.tables e below (s₁.setTop (mkF m 1 #[.val (.ref a1), .val (.int (0 : Int32)), .val (.int (3 : Int32)), .unset, .unset, .unset] [(.int (3 : Int32))])) _
    refine st4 _ ?_
    show Steps p.tables e below (T4.setTop (mkF m 3 #[.val (.ref a1), .val (.int (0 : Int32)), .val (.int (3 : Int32)), .unset, .unset, .unset] [(.ref b4)])) _
    refine XS.astoreN X4.here hx rfl (hb hby d7_3) rfl rfl (l' := #[.val (.ref a1), .val (.int (0 : Int32)), .val (.int (3 : Int32)), .val (.ref b4), .unset, .unset]) rfl ?_
    refine XS.aloadN X4.here hx rfl (hb hby d7_4) rfl rfl ?_
    refine XS.iloadN X4.here hx rfl (hb hby d7_5) rfl ?_
    refine XS.aloadN X4.here hx rfl (hb hby d7_6) rfl rfl ?_
    refine XS.iconst X4.here hx rfl (hb hby d7_7) ?_
    refine XS.iloadN X4.here hx rfl (hb hby d7_8) rfl ?_
    show Steps p.tables e below (T4.setTop (mkF m 9 #[.val (.ref a1), .val (.int (0 : Int32)), .val (.int (3 : Int32)), .val (.ref b4), .unset, .unset] [(.int (3 : Int32)), (.int (0 : Int32)), (.ref b4), (.int (0 : Int32)), (.ref a1)])) _
    refine st5 _ ?_
    show Steps p.tables e below (T5.setTop (mkF m 12 #[.val (.ref a1), .val (.int (0 : Int32)), .val (.int (3 : Int32)), .val (.ref b4), .unset, .unset] [(.int (0 : Int32))])) _
    refine XS.istore X5.here hx rfl (hb hby d7_12) rfl (l' := #[.val (.ref a1), .val (.int (0 : Int32)), .val (.int (3 : Int32)), .val (.ref b4), .val (.int (0 : Int32)), .unset]) rfl ?_
    refine XS.iload X5.here hx rfl (hb hby d7_14) rfl ?_
    refine XS.iloadN X5.here hx rfl (hb hby d7_16) rfl ?_
    refine XS.icmpNo X5.here hx rfl (hb hby d7_17) rfl (feq ht17).1 ?_
    refine XS.aloadN X5.here hx rfl (hb hby d7_20) rfl rfl ?_
    refine XS.iloadN X5.here hx rfl (hb hby d7_21) rfl ?_
    refine XS.iloadN X5.here hx rfl (hb hby d7_22) rfl ?_
    show Steps p.tables e below (T5.setTop (mkF m 23 #[.val (.ref a1), .val (.int (0 : Int32)), .val (.int (3 : Int32)), .val (.ref b4), .val (.int (0 : Int32)), .unset] [(.int (3 : Int32)), (.int (0 : Int32)), (.ref a1)])) _
    refine st6 _ ?_
    show Steps p.tables e below (T6.setTop (mkF m 26 #[.val (.ref a1), .val (.int (0 : Int32)), .val (.int (3 : Int32)), .val (.ref b4), .val (.int (0 : Int32)), .unset] [(.ref t6)])) _
    refine XS.astore X6.here hx rfl (hb hby d7_26) rfl rfl (l' := #[.val (.ref a1), .val (.int (0 : Int32)), .val (.int (3 : Int32)), .val (.ref b4), .val (.int (0 : Int32)), .val (.ref t6)]) rfl ?_
    refine XS.aload X6.here hx rfl (hb hby d7_28) rfl rfl ?_
    refine XS.iload X6.here hx rfl (hb hby d7_30) rfl ?_
    show Steps p.tables e below (T6.setTop (mkF m 32 #[.val (.ref a1), .val (.int (0 : Int32)), .val (.int (3 : Int32)), .val (.ref b4), .val (.int (0 : Int32)), .val (.ref t6)] [(.int (0 : Int32)), (.ref t6)])) _
    refine st7 _ ?_
    show Steps p.tables e below (T7.setTop (mkF m 35 #[.val (.ref a1), .val (.int (0 : Int32)), .val (.int (3 : Int32)), .val (.ref b4), .val (.int (0 : Int32)), .val (.ref t6)] [(.int (own_gc (own_lo c0) (own_hi c0)))])) _
    refine XS.sipush X7.here hx rfl (hb hby d7_35) ?_
    refine XS.icmpYes X7.here hx rfl (pc0 := 38) (pc' := 54) rfl (hb hby d7_38) rfl (tlt ht38).2.2.1 (by decide) (by decide) ?_
    refine XS.aload X7.here hx rfl (hb hby d7_54) rfl rfl ?_
    show Steps p.tables e below (T7.setTop (mkF m 56 #[.val (.ref a1), .val (.int (0 : Int32)), .val (.int (3 : Int32)), .val (.ref b4), .val (.int (0 : Int32)), .val (.ref t6)] [(.ref t6)])) _
    jvm_step X7.here [X7.here.top, hx, (hb hby d7_56), X7.method', Bd.returns, Value.isRef, FieldType.isReference]
    first | (intro acts; rw [hr _ acts rfl rfl rfl]) | rw [hr _ _ rfl rfl rfl]
    exact Steps.refl _
  · show Q7_3 Z c0 c1 c2 h0 n0 _ T7.heap _
    exact ⟨t6, kb6, rfl, N7, KH7, (Nat.le_trans KH5.1 gt6), (A6q.keep K7q (by simp))⟩
set_option maxRecDepth 65536 in
set_option maxHeartbeats 40000000 in
theorem rm7_3_1 (l : Launch) (Z : State) (a0 : Array Value) (hw : ∀ d ∈ tables_1, d.before a0 Z = true) (ws : List Jvm.Cond) (a1 : Addr) (ka : ClassId) (vs : List Value) (dv : Value) (c0 : Int32) (c1 : Int32) (c2 : Int32) (h0 : Heap) (n0 : Nat) (Z0 : n0 ≤ h0.size) (V : Arv Z h0 a1 ka .char (3 : Int32) vs dv) (hv0 : vs.getD 0 dv = .int c0) (hv1 : vs.getD 1 dv = .int c1) (hv2 : vs.getD 2 dv = .int c2) (S__assertionsDisabled : Sta Z h0 "java/lang/StringUTF16" "$assertionsDisabled" "Z" (.int (1 : Int32))) (S_HI_BYTE_SHIFT : Sta Z h0 "java/lang/StringUTF16" "HI_BYTE_SHIFT" "I" (.int (0 : Int32))) (S_LO_BYTE_SHIFT : Sta Z h0 "java/lang/StringUTF16" "LO_BYTE_SHIFT" "I" (.int (8 : Int32))) (le0 : ¬ ((255 : Int32) < c0)) (gt : (255 : Int32) < c1) (ht17 : ¬ ((1 : Int32) = (3 : Int32))) (ht38 : (255 : Int32) < (own_gc (own_lo c1) (own_hi c1))) :
    MetFree l (⟨"java/lang/StringUTF16", "compress", "([CII)[B"⟩ : MethodName) (head1 (Jvm.Cond.code (⟨"java/lang/StringUTF16", "compress", "([CII)[B"⟩ : MethodName) jdk_52_method_16_code 6 (some (.array .byte)) :: ws) ({ frames := 3, cells := 2, slots := 9, locals := 40 } : Room)) (fun a U => a = #[(.ref a1), (.int (0 : Int32)), (.int (3 : Int32))] ∧ Z.Warmed39 U.vm ∧ U.heap = h0) (fun _ _ _ _ _ => True) (fun _ U o U' => ∃ v L, o = .returned v ∧ Q7_3 Z c0 c1 c2 h0 n0 v U'.heap L ∧ FrameEnd U o U' L ({ frames := 3, cells := 2, slots := 9, locals := 40 } : Room).cells ({ frames := 3, cells := 2, slots := 9, locals := 40 } : Room).slots) := by
  refine MetFree.of_bodySF (plainFor_of_name pn_7) hisR ?_
  intro p e s m args below meth c s₁ Bd hml0 hP hK
  obtain ⟨rfl, hZ, hh⟩ := hP
  have hx := Bd.exec
  have hby := Bd.bytes
  have hml : c.maxLocals = 6 := hml0
  have hown : s.vm.findClass "java/lang/StringUTF16" = some m.cls := findClass_of_methodNamed Bd.named
  have hnm := (name_of_methodNamed Bd.named Bd.method).1
  have X0 : Stand p l e ({ frames := 3, cells := 2, slots := 9, locals := 40 } : Room) s m #[(.ref a1), (.int (0 : Int32)), (.int (3 : Int32))] below meth c s₁ [] 0 0 := Stand.of_body Bd
  have e0 : s₁.heap = h0 := by rw [← hh, Bd.state]; rfl
  have N0 := Fr.nil n0
  have pre0 : ∀ t, Steps p.tables e below (s₁.setTop (mkF m 0 #[.val (.ref a1), .val (.int (0 : Int32)), .val (.int (3 : Int32)), .unset, .unset, .unset] [])) t → Steps p.tables e below (s₁.setTop (entryFrame m #[(.ref a1), (.int (0 : Int32)), (.int (3 : Int32))] 6)) t := fun t k => castTop (ef_7 m a1 (0 : Int32) (3 : Int32)) k
  obtain ⟨T4, h4, k4, X4, e4, E4, A4, st4⟩ := newP X0 hx hZ (own_w hw 17 rfl) e0 (g := (mkF m 1 #[.val (.ref a1), .val (.int (0 : Int32)), .val (.int (3 : Int32)), .unset, .unset, .unset] [(.int (3 : Int32))])) rfl (hb hby d7_1) rfl (by decide) (cap := 3) (by decide) (by decide) (by decide) (by decide)
  obtain ⟨b4, g4⟩ : ∃ z, z = h0.size := ⟨_, rfl⟩
  rw [← g4] at A4 st4
  have V_b4 := Arv.new A4 (by decide)
  have g_b4 : n0 ≤ b4 := Nat.le_trans Z0 (Nat.le_of_eq g4.symm)
  have sz_b4 : h0.size ≤ b4 := (Nat.le_trans (Keep.refl h0 []).1 (Nat.le_of_eq g4.symm))
  have K4 : Keep h0 h4 [] := (Keep.refl h0 []).ext E4
  obtain ⟨_, _, ⟨T5, L5, k5, n5⟩, -, X5, ⟨Lc5, hQ5, l5, y5, z5⟩, st5⟩ := Jvm.LawKit.callS X4 hx (y := (⟨"java/lang/StringUTF16", "compress", "([CI[BII)I"⟩ : MethodName)) hown (mvT hZ (own_w hw 43 rfl)) (mvT hZ (own_w hw 44 rfl)) (mvT hZ (own_w hw 41 rfl)) (mvT hZ (own_w hw 45 rfl)) (by decide) (backOf (W := 0) (rm8_1 l Z a0 hw [] a1 b4 (3 : Int32) ka vs dv (newA k4 .byte (3 : Int32)) c0 c1  h4 n0 (Nat.le_trans Z0 K4.1) (V.ext E4) hv0 hv1 A4 (sz_new _ _ _) (own_ne V.lt g4) g_b4 (by decide) le0 gt) hZ (own_w hw 45 rfl) (own_w hw 41 rfl) (by decide) (by decide)) (g := (mkF m 9 #[.val (.ref a1), .val (.int (0 : Int32)), .val (.int (3 : Int32)), .val (.ref b4), .unset, .unset] [(.int (3 : Int32)), (.int (0 : Int32)), (.ref b4), (.int (0 : Int32)), (.ref a1)])) rfl (by rw [hml]; rfl) (argsL := [(.ref a1), (.int (0 : Int32)), (.ref b4), (.int (0 : Int32)), (.int (3 : Int32))]) (rest := []) (lenOf pd_7_7 rfl) rfl (by show 2 * 0 + _ ≤ _; exact Nat.le_of_eq rfl) (hb hby d7_9) (fun _ _ => ⟨rfl, e4, (by decide : 1 + 0 ≤ _), (by decide : 3 + 0 ≤ _)⟩)
  dsimp only [Pt.U, Pt.locs, Pt.cells, Pt.slots] at X5 l5 y5 z5 st5 hQ5
  subst l5 y5 z5
  obtain ⟨rfl, N5q, K5q⟩ := hQ5
  have N5 := Fr.app N0 N5q
  have KH5 : Keep h0 T5.heap [] := K4.trans K5q (own_ws1 sz_b4)
  obtain ⟨_, _, ⟨T6, L6, k6, n6⟩, -, X6, ⟨Lc6, hQ6, l6, y6, z6⟩, st6⟩ := Jvm.LawKit.callS X5 hx (y := (⟨"java/lang/StringUTF16", "toBytes", "([CII)[B"⟩ : MethodName)) hown (mvT hZ (own_w hw 78 rfl)) (mvT hZ (own_w hw 79 rfl)) (mvT hZ (own_w hw 41 rfl)) (mvT hZ (own_w hw 80 rfl)) (by decide) (backOf (W := 0) (rm17_3 l Z a0 hw [] a1 ka vs dv c0 c1 c2  T5.heap n0 (Nat.le_trans Z0 KH5.1) (V.keep KH5 (by simp)) hv0 hv1 hv2 (S__assertionsDisabled.ext (own_ext KH5)) (S_HI_BYTE_SHIFT.ext (own_ext KH5)) (S_LO_BYTE_SHIFT.ext (own_ext KH5))) hZ (own_w hw 80 rfl) (own_w hw 41 rfl) (by decide) (by decide)) (g := (mkF m 23 #[.val (.ref a1), .val (.int (0 : Int32)), .val (.int (3 : Int32)), .val (.ref b4), .val (.int (1 : Int32)), .unset] [(.int (3 : Int32)), (.int (0 : Int32)), (.ref a1)])) rfl (by rw [hml]; rfl) (argsL := [(.ref a1), (.int (0 : Int32)), (.int (3 : Int32))]) (rest := []) (lenOf pd_7_6 rfl) rfl (by show 2 * 0 + _ ≤ _; exact Nat.le_of_eq rfl) (hb hby d7_23) (fun _ _ => ⟨rfl, rfl, (by decide : 1 + 1 ≤ _), (by decide : 3 + 6 ≤ _)⟩)
  dsimp only [Pt.U, Pt.locs, Pt.cells, Pt.slots] at X6 l6 y6 z6 st6 hQ6
  subst l6 y6 z6
  obtain ⟨t6, kb6, rfl, N6q, K6q, gt6, A6q⟩ := hQ6
  have N6 := Fr.app N5 N6q
  have KH6 : Keep h0 T6.heap [] := KH5.trans K6q own_ws0
  obtain ⟨clx, Arx, qx, Sx, Mx, Hx, Gx⟩ := id A6q
  obtain ⟨_, _, ⟨T7, L7, k7, n7⟩, -, X7, ⟨Lc7, hQ7, l7, y7, z7⟩, st7⟩ := Jvm.LawKit.callS X6 hx (y := (⟨"java/lang/StringUTF16", "getChar", "([BI)C"⟩ : MethodName)) hown (mvT hZ (own_w hw 94 rfl)) (mvT hZ (own_w hw 95 rfl)) (mvT hZ (own_w hw 41 rfl)) (mvT hZ (own_w hw 96 rfl)) (by decide) (backOf (W := 0) (rm21 l Z a0 hw [] t6 (1 : Int32) (own_lo c1) clx (own_hi c1) T6.heap n0 (Nat.le_trans Z0 KH6.1) (S__assertionsDisabled.ext (own_ext KH6)) Arx (inb_of Sx ⟨by decide, by decide⟩) (Hx 2 (by rw [Sx]; decide)) (S_HI_BYTE_SHIFT.ext (own_ext KH6)) (inb_of Sx ⟨by decide, by decide⟩) (Hx 3 (by rw [Sx]; decide)) (S_LO_BYTE_SHIFT.ext (own_ext KH6)) (by decide)) hZ (own_w hw 96 rfl) (own_w hw 41 rfl) (by decide) (by decide)) (g := (mkF m 32 #[.val (.ref a1), .val (.int (0 : Int32)), .val (.int (3 : Int32)), .val (.ref b4), .val (.int (1 : Int32)), .val (.ref t6)] [(.int (1 : Int32)), (.ref t6)])) rfl (by rw [hml]; rfl) (argsL := [(.ref t6), (.int (1 : Int32))]) (rest := []) (lenOf pd_7_12 rfl) rfl (by show 2 * 0 + _ ≤ _; exact Nat.le_of_eq rfl) (hb hby d7_32) (fun _ _ => ⟨rfl, rfl, (by decide : 2 + 0 ≤ _), (by decide : 9 + 0 ≤ _)⟩)
  dsimp only [Pt.U, Pt.locs, Pt.cells, Pt.slots] at X7 l7 y7 z7 st7 hQ7
  subst l7 y7 z7
  obtain ⟨rfl, N7q, e7q⟩ := hQ7
  have N7 := Fr.app N6 N7q
  have K7q : Keep T6.heap T7.heap [] := own_keep e7q
  have KH7 : Keep h0 T7.heap [] := KH6.trans K7q own_ws0
  obtain ⟨fs, hr, hrun, hended, hW, hsame⟩ := X7.leave (v := some (.ref t6)) (fun h => by rw [Bd.returns] at h; cases h) (BodyLoose.notSynchronized Bd)
  refine ⟨_, _, pre0 _ ?_, hrun, hended, _, _, rfl, ?_, ⟨_, rfl⟩, hW, hsame.mono (by decide) (by decide)⟩
  · show Steps p.tables e below (s₁.setTop (mkF m 0 #[.val (.ref a1), .val (.int (0 : Int32)), .val (.int (3 : Int32)), .unset, .unset, .unset] [])) _
    refine XS.iloadN X0.here hx rfl (hb hby d7_0) rfl ?_
    show Steps p.tables e below (s₁.setTop (mkF m 1 #[.val (.ref a1), .val (.int (0 : Int32)), .val (.int (3 : Int32)), .unset, .unset, .unset] [(.int (3 : Int32))])) _
    refine st4 _ ?_
    show Steps p.tables e below (T4.setTop (mkF m 3 #[.val (.ref a1), .val (.int (0 : Int32)), .val (.int (3 : Int32)), .unset, .unset, .unset] [(.ref b4)])) _
    refine XS.astoreN X4.here hx rfl (hb hby d7_3) rfl rfl (l' := #[.val (.ref a1), .val (.int (0 : Int32)), .val (.int (3 : Int32)), .val (.ref b4), .unset, .unset]) rfl ?_
    refine XS.aloadN X4.here hx rfl (hb hby d7_4) rfl rfl ?_
    refine XS.iloadN X4.here hx rfl (hb hby d7_5) rfl ?_
    refine XS.aloadN X4.here hx rfl (hb hby d7_6) rfl rfl ?_
    refine XS.iconst X4.here hx rfl (hb hby d7_7) ?_
    refine XS.iloadN X4.here hx rfl (hb hby d7_8) rfl ?_
    show Steps p.tables e below (T4.setTop (mkF m 9 #[.val (.ref a1), .val (.int (0 : Int32)), .val (.int (3 : Int32)), .val (.ref b4), .unset, .unset] [(.int (3 : Int32)), (.int (0 : Int32)), (.ref b4), (.int (0 : Int32)), (.ref a1)])) _
    refine st5 _ ?_
    show Steps p.tables e below (T5.setTop (mkF m 12 #[.val (.ref a1), .val (.int (0 : Int32)), .val (.int (3 : Int32)), .val (.ref b4), .unset, .unset] [(.int (1 : Int32))])) _
    refine XS.istore X5.here hx rfl (hb hby d7_12) rfl (l' := #[.val (.ref a1), .val (.int (0 : Int32)), .val (.int (3 : Int32)), .val (.ref b4), .val (.int (1 : Int32)), .unset]) rfl ?_
    refine XS.iload X5.here hx rfl (hb hby d7_14) rfl ?_
    refine XS.iloadN X5.here hx rfl (hb hby d7_16) rfl ?_
    refine XS.icmpNo X5.here hx rfl (hb hby d7_17) rfl (feq ht17).1 ?_
    refine XS.aloadN X5.here hx rfl (hb hby d7_20) rfl rfl ?_
    refine XS.iloadN X5.here hx rfl (hb hby d7_21) rfl ?_
    refine XS.iloadN X5.here hx rfl (hb hby d7_22) rfl ?_
    show Steps p.tables e below (T5.setTop (mkF m 23 #[.val (.ref a1), .val (.int (0 : Int32)), .val (.int (3 : Int32)), .val (.ref b4), .val (.int (1 : Int32)), .unset] [(.int (3 : Int32)), (.int (0 : Int32)), (.ref a1)])) _
    refine st6 _ ?_
    show Steps p.tables e below (T6.setTop (mkF m 26 #[.val (.ref a1), .val (.int (0 : Int32)), .val (.int (3 : Int32)), .val (.ref b4), .val (.int (1 : Int32)), .unset] [(.ref t6)])) _
    refine XS.astore X6.here hx rfl (hb hby d7_26) rfl rfl (l' := #[.val (.ref a1), .val (.int (0 : Int32)), .val (.int (3 : Int32)), .val (.ref b4), .val (.int (1 : Int32)), .val (.ref t6)]) rfl ?_
    refine XS.aload X6.here hx rfl (hb hby d7_28) rfl rfl ?_
    refine XS.iload X6.here hx rfl (hb hby d7_30) rfl ?_
    show Steps p.tables e below (T6.setTop (mkF m 32 #[.val (.ref a1), .val (.int (0 : Int32)), .val (.int (3 : Int32)), .val (.ref b4), .val (.int (1 : Int32)), .val (.ref t6)] [(.int (1 : Int32)), (.ref t6)])) _
    refine st7 _ ?_
    show Steps p.tables e below (T7.setTop (mkF m 35 #[.val (.ref a1), .val (.int (0 : Int32)), .val (.int (3 : Int32)), .val (.ref b4), .val (.int (1 : Int32)), .val (.ref t6)] [(.int (own_gc (own_lo c1) (own_hi c1)))])) _
    refine XS.sipush X7.here hx rfl (hb hby d7_35) ?_
    refine XS.icmpYes X7.here hx rfl (pc0 := 38) (pc' := 54) rfl (hb hby d7_38) rfl (tlt ht38).2.2.1 (by decide) (by decide) ?_
    refine XS.aload X7.here hx rfl (hb hby d7_54) rfl rfl ?_
    show Steps p.tables e below (T7.setTop (mkF m 56 #[.val (.ref a1), .val (.int (0 : Int32)), .val (.int (3 : Int32)), .val (.ref b4), .val (.int (1 : Int32)), .val (.ref t6)] [(.ref t6)])) _
    jvm_step X7.here [X7.here.top, hx, (hb hby d7_56), X7.method', Bd.returns, Value.isRef, FieldType.isReference]
    first | (intro acts; rw [hr _ acts rfl rfl rfl]) | rw [hr _ _ rfl rfl rfl]
    exact Steps.refl _
  · show Q7_3 Z c0 c1 c2 h0 n0 _ T7.heap _
    exact ⟨t6, kb6, rfl, N7, KH7, (Nat.le_trans KH5.1 gt6), (A6q.keep K7q (by simp))⟩
set_option maxRecDepth 65536 in
set_option maxHeartbeats 40000000 in
theorem rm7_3_2 (l : Launch) (Z : State) (a0 : Array Value) (hw : ∀ d ∈ tables_1, d.before a0 Z = true) (ws : List Jvm.Cond) (a1 : Addr) (ka : ClassId) (vs : List Value) (dv : Value) (c0 : Int32) (c1 : Int32) (c2 : Int32) (h0 : Heap) (n0 : Nat) (Z0 : n0 ≤ h0.size) (V : Arv Z h0 a1 ka .char (3 : Int32) vs dv) (hv0 : vs.getD 0 dv = .int c0) (hv1 : vs.getD 1 dv = .int c1) (hv2 : vs.getD 2 dv = .int c2) (S__assertionsDisabled : Sta Z h0 "java/lang/StringUTF16" "$assertionsDisabled" "Z" (.int (1 : Int32))) (S_HI_BYTE_SHIFT : Sta Z h0 "java/lang/StringUTF16" "HI_BYTE_SHIFT" "I" (.int (0 : Int32))) (S_LO_BYTE_SHIFT : Sta Z h0 "java/lang/StringUTF16" "LO_BYTE_SHIFT" "I" (.int (8 : Int32))) (le0 : ¬ ((255 : Int32) < c0)) (le1 : ¬ ((255 : Int32) < c1)) (gt : (255 : Int32) < c2) (ht17 : ¬ ((2 : Int32) = (3 : Int32))) (ht38 : (255 : Int32) < (own_gc (own_lo c2) (own_hi c2))) :
    MetFree l (⟨"java/lang/StringUTF16", "compress", "([CII)[B"⟩ : MethodName) (head1 (Jvm.Cond.code (⟨"java/lang/StringUTF16", "compress", "([CII)[B"⟩ : MethodName) jdk_52_method_16_code 6 (some (.array .byte)) :: ws) ({ frames := 3, cells := 2, slots := 9, locals := 40 } : Room)) (fun a U => a = #[(.ref a1), (.int (0 : Int32)), (.int (3 : Int32))] ∧ Z.Warmed39 U.vm ∧ U.heap = h0) (fun _ _ _ _ _ => True) (fun _ U o U' => ∃ v L, o = .returned v ∧ Q7_3 Z c0 c1 c2 h0 n0 v U'.heap L ∧ FrameEnd U o U' L ({ frames := 3, cells := 2, slots := 9, locals := 40 } : Room).cells ({ frames := 3, cells := 2, slots := 9, locals := 40 } : Room).slots) := by
  refine MetFree.of_bodySF (plainFor_of_name pn_7) hisR ?_
  intro p e s m args below meth c s₁ Bd hml0 hP hK
  obtain ⟨rfl, hZ, hh⟩ := hP
  have hx := Bd.exec
  have hby := Bd.bytes
  have hml : c.maxLocals = 6 := hml0
  have hown : s.vm.findClass "java/lang/StringUTF16" = some m.cls := findClass_of_methodNamed Bd.named
  have hnm := (name_of_methodNamed Bd.named Bd.method).1
  have X0 : Stand p l e ({ frames := 3, cells := 2, slots := 9, locals := 40 } : Room) s m #[(.ref a1), (.int (0 : Int32)), (.int (3 : Int32))] below meth c s₁ [] 0 0 := Stand.of_body Bd
  have e0 : s₁.heap = h0 := by rw [← hh, Bd.state]; rfl
  have N0 := Fr.nil n0
  have pre0 : ∀ t, Steps p.tables e below (s₁.setTop (mkF m 0 #[.val (.ref a1), .val (.int (0 : Int32)), .val (.int (3 : Int32)), .unset, .unset, .unset] [])) t → Steps p.tables e below (s₁.setTop (entryFrame m #[(.ref a1), (.int (0 : Int32)), (.int (3 : Int32))] 6)) t := fun t k => castTop (ef_7 m a1 (0 : Int32) (3 : Int32)) k
  obtain ⟨T4, h4, k4, X4, e4, E4, A4, st4⟩ := newP X0 hx hZ (own_w hw 17 rfl) e0 (g := (mkF m 1 #[.val (.ref a1), .val (.int (0 : Int32)), .val (.int (3 : Int32)), .unset, .unset, .unset] [(.int (3 : Int32))])) rfl (hb hby d7_1) rfl (by decide) (cap := 3) (by decide) (by decide) (by decide) (by decide)
  obtain ⟨b4, g4⟩ : ∃ z, z = h0.size := ⟨_, rfl⟩
  rw [← g4] at A4 st4
  have V_b4 := Arv.new A4 (by decide)
  have g_b4 : n0 ≤ b4 := Nat.le_trans Z0 (Nat.le_of_eq g4.symm)
  have sz_b4 : h0.size ≤ b4 := (Nat.le_trans (Keep.refl h0 []).1 (Nat.le_of_eq g4.symm))
  have K4 : Keep h0 h4 [] := (Keep.refl h0 []).ext E4
  obtain ⟨_, _, ⟨T5, L5, k5, n5⟩, -, X5, ⟨Lc5, hQ5, l5, y5, z5⟩, st5⟩ := Jvm.LawKit.callS X4 hx (y := (⟨"java/lang/StringUTF16", "compress", "([CI[BII)I"⟩ : MethodName)) hown (mvT hZ (own_w hw 43 rfl)) (mvT hZ (own_w hw 44 rfl)) (mvT hZ (own_w hw 41 rfl)) (mvT hZ (own_w hw 45 rfl)) (by decide) (backOf (W := 0) (rm8_2 l Z a0 hw [] a1 b4 (3 : Int32) ka vs dv (newA k4 .byte (3 : Int32)) c0 c1 c2  h4 n0 (Nat.le_trans Z0 K4.1) (V.ext E4) hv0 hv1 hv2 A4 (sz_new _ _ _) (own_ne V.lt g4) g_b4 (by decide) le0 le1 gt) hZ (own_w hw 45 rfl) (own_w hw 41 rfl) (by decide) (by decide)) (g := (mkF m 9 #[.val (.ref a1), .val (.int (0 : Int32)), .val (.int (3 : Int32)), .val (.ref b4), .unset, .unset] [(.int (3 : Int32)), (.int (0 : Int32)), (.ref b4), (.int (0 : Int32)), (.ref a1)])) rfl (by rw [hml]; rfl) (argsL := [(.ref a1), (.int (0 : Int32)), (.ref b4), (.int (0 : Int32)), (.int (3 : Int32))]) (rest := []) (lenOf pd_7_7 rfl) rfl (by show 2 * 0 + _ ≤ _; exact Nat.le_of_eq rfl) (hb hby d7_9) (fun _ _ => ⟨rfl, e4, (by decide : 1 + 0 ≤ _), (by decide : 3 + 0 ≤ _)⟩)
  dsimp only [Pt.U, Pt.locs, Pt.cells, Pt.slots] at X5 l5 y5 z5 st5 hQ5
  subst l5 y5 z5
  obtain ⟨rfl, N5q, K5q⟩ := hQ5
  have N5 := Fr.app N0 N5q
  have KH5 : Keep h0 T5.heap [] := K4.trans K5q (own_ws1 sz_b4)
  obtain ⟨_, _, ⟨T6, L6, k6, n6⟩, -, X6, ⟨Lc6, hQ6, l6, y6, z6⟩, st6⟩ := Jvm.LawKit.callS X5 hx (y := (⟨"java/lang/StringUTF16", "toBytes", "([CII)[B"⟩ : MethodName)) hown (mvT hZ (own_w hw 78 rfl)) (mvT hZ (own_w hw 79 rfl)) (mvT hZ (own_w hw 41 rfl)) (mvT hZ (own_w hw 80 rfl)) (by decide) (backOf (W := 0) (rm17_3 l Z a0 hw [] a1 ka vs dv c0 c1 c2  T5.heap n0 (Nat.le_trans Z0 KH5.1) (V.keep KH5 (by simp)) hv0 hv1 hv2 (S__assertionsDisabled.ext (own_ext KH5)) (S_HI_BYTE_SHIFT.ext (own_ext KH5)) (S_LO_BYTE_SHIFT.ext (own_ext KH5))) hZ (own_w hw 80 rfl) (own_w hw 41 rfl) (by decide) (by decide)) (g := (mkF m 23 #[.val (.ref a1), .val (.int (0 : Int32)), .val (.int (3 : Int32)), .val (.ref b4), .val (.int (2 : Int32)), .unset] [(.int (3 : Int32)), (.int (0 : Int32)), (.ref a1)])) rfl (by rw [hml]; rfl) (argsL := [(.ref a1), (.int (0 : Int32)), (.int (3 : Int32))]) (rest := []) (lenOf pd_7_6 rfl) rfl (by show 2 * 0 + _ ≤ _; exact Nat.le_of_eq rfl) (hb hby d7_23) (fun _ _ => ⟨rfl, rfl, (by decide : 1 + 1 ≤ _), (by decide : 3 + 6 ≤ _)⟩)
  dsimp only [Pt.U, Pt.locs, Pt.cells, Pt.slots] at X6 l6 y6 z6 st6 hQ6
  subst l6 y6 z6
  obtain ⟨t6, kb6, rfl, N6q, K6q, gt6, A6q⟩ := hQ6
  have N6 := Fr.app N5 N6q
  have KH6 : Keep h0 T6.heap [] := KH5.trans K6q own_ws0
  obtain ⟨clx, Arx, qx, Sx, Mx, Hx, Gx⟩ := id A6q
  obtain ⟨_, _, ⟨T7, L7, k7, n7⟩, -, X7, ⟨Lc7, hQ7, l7, y7, z7⟩, st7⟩ := Jvm.LawKit.callS X6 hx (y := (⟨"java/lang/StringUTF16", "getChar", "([BI)C"⟩ : MethodName)) hown (mvT hZ (own_w hw 94 rfl)) (mvT hZ (own_w hw 95 rfl)) (mvT hZ (own_w hw 41 rfl)) (mvT hZ (own_w hw 96 rfl)) (by decide) (backOf (W := 0) (rm21 l Z a0 hw [] t6 (2 : Int32) (own_lo c2) clx (own_hi c2) T6.heap n0 (Nat.le_trans Z0 KH6.1) (S__assertionsDisabled.ext (own_ext KH6)) Arx (inb_of Sx ⟨by decide, by decide⟩) (Hx 4 (by rw [Sx]; decide)) (S_HI_BYTE_SHIFT.ext (own_ext KH6)) (inb_of Sx ⟨by decide, by decide⟩) (Hx 5 (by rw [Sx]; decide)) (S_LO_BYTE_SHIFT.ext (own_ext KH6)) (by decide)) hZ (own_w hw 96 rfl) (own_w hw 41 rfl) (by decide) (by decide)) (g := (mkF m 32 #[.val (.ref a1), .val (.int (0 : Int32)), .val (.int (3 : Int32)), .val (.ref b4), .val (.int (2 : Int32)), .val (.ref t6)] [(.int (2 : Int32)), (.ref t6)])) rfl (by rw [hml]; rfl) (argsL := [(.ref t6), (.int (2 : Int32))]) (rest := []) (lenOf pd_7_12 rfl) rfl (by show 2 * 0 + _ ≤ _; exact Nat.le_of_eq rfl) (hb hby d7_32) (fun _ _ => ⟨rfl, rfl, (by decide : 2 + 0 ≤ _), (by decide : 9 + 0 ≤ _)⟩)
  dsimp only [Pt.U, Pt.locs, Pt.cells, Pt.slots] at X7 l7 y7 z7 st7 hQ7
  subst l7 y7 z7
  obtain ⟨rfl, N7q, e7q⟩ := hQ7
  have N7 := Fr.app N6 N7q
  have K7q : Keep T6.heap T7.heap [] := own_keep e7q
  have KH7 : Keep h0 T7.heap [] := KH6.trans K7q own_ws0
  obtain ⟨fs, hr, hrun, hended, hW, hsame⟩ := X7.leave (v := some (.ref t6)) (fun h => by rw [Bd.returns] at h; cases h) (BodyLoose.notSynchronized Bd)
  refine ⟨_, _, pre0 _ ?_, hrun, hended, _, _, rfl, ?_, ⟨_, rfl⟩, hW, hsame.mono (by decide) (by decide)⟩
  · show Steps p.tables e below (s₁.setTop (mkF m 0 #[.val (.ref a1), .val (.int (0 : Int32)), .val (.int (3 : Int32)), .unset, .unset, .unset] [])) _
    refine XS.iloadN X0.here hx rfl (hb hby d7_0) rfl ?_
    show Steps p.tables e below (s₁.setTop (mkF m 1 #[.val (.ref a1), .val (.int (0 : Int32)), .val (.int (3 : Int32)), .unset, .unset, .unset] [(.int (3 : Int32))])) _
    refine st4 _ ?_
    show Steps p.tables e below (T4.setTop (mkF m 3 #[.val (.ref a1), .val (.int (0 : Int32)), .val (.int (3 : Int32)), .unset, .unset, .unset] [(.ref b4)])) _
    refine XS.astoreN X4.here hx rfl (hb hby d7_3) rfl rfl (l' := #[.val (.ref a1), .val (.int (0 : Int32)), .val (.int (3 : Int32)), .val (.ref b4), .unset, .unset]) rfl ?_
    refine XS.aloadN X4.here hx rfl (hb hby d7_4) rfl rfl ?_
    refine XS.iloadN X4.here hx rfl (hb hby d7_5) rfl ?_
    refine XS.aloadN X4.here hx rfl (hb hby d7_6) rfl rfl ?_
    refine XS.iconst X4.here hx rfl (hb hby d7_7) ?_
    refine XS.iloadN X4.here hx rfl (hb hby d7_8) rfl ?_
    show Steps p.tables e below (T4.setTop (mkF m 9 #[.val (.ref a1), .val (.int (0 : Int32)), .val (.int (3 : Int32)), .val (.ref b4), .unset, .unset] [(.int (3 : Int32)), (.int (0 : Int32)), (.ref b4), (.int (0 : Int32)), (.ref a1)])) _
    refine st5 _ ?_
    show Steps p.tables e below (T5.setTop (mkF m 12 #[.val (.ref a1), .val (.int (0 : Int32)), .val (.int (3 : Int32)), .val (.ref b4), .unset, .unset] [(.int (2 : Int32))])) _
    refine XS.istore X5.here hx rfl (hb hby d7_12) rfl (l' := #[.val (.ref a1), .val (.int (0 : Int32)), .val (.int (3 : Int32)), .val (.ref b4), .val (.int (2 : Int32)), .unset]) rfl ?_
    refine XS.iload X5.here hx rfl (hb hby d7_14) rfl ?_
    refine XS.iloadN X5.here hx rfl (hb hby d7_16) rfl ?_
    refine XS.icmpNo X5.here hx rfl (hb hby d7_17) rfl (feq ht17).1 ?_
    refine XS.aloadN X5.here hx rfl (hb hby d7_20) rfl rfl ?_
    refine XS.iloadN X5.here hx rfl (hb hby d7_21) rfl ?_
    refine XS.iloadN X5.here hx rfl (hb hby d7_22) rfl ?_
    show Steps p.tables e below (T5.setTop (mkF m 23 #[.val (.ref a1), .val (.int (0 : Int32)), .val (.int (3 : Int32)), .val (.ref b4), .val (.int (2 : Int32)), .unset] [(.int (3 : Int32)), (.int (0 : Int32)), (.ref a1)])) _
    refine st6 _ ?_
    show Steps p.tables e below (T6.setTop (mkF m 26 #[.val (.ref a1), .val (.int (0 : Int32)), .val (.int (3 : Int32)), .val (.ref b4), .val (.int (2 : Int32)), .unset] [(.ref t6)])) _
    refine XS.astore X6.here hx rfl (hb hby d7_26) rfl rfl (l' := #[.val (.ref a1), .val (.int (0 : Int32)), .val (.int (3 : Int32)), .val (.ref b4), .val (.int (2 : Int32)), .val (.ref t6)]) rfl ?_
    refine XS.aload X6.here hx rfl (hb hby d7_28) rfl rfl ?_
    refine XS.iload X6.here hx rfl (hb hby d7_30) rfl ?_
    show Steps p.tables e below (T6.setTop (mkF m 32 #[.val (.ref a1), .val (.int (0 : Int32)), .val (.int (3 : Int32)), .val (.ref b4), .val (.int (2 : Int32)), .val (.ref t6)] [(.int (2 : Int32)), (.ref t6)])) _
    refine st7 _ ?_
    show Steps p.tables e below (T7.setTop (mkF m 35 #[.val (.ref a1), .val (.int (0 : Int32)), .val (.int (3 : Int32)), .val (.ref b4), .val (.int (2 : Int32)), .val (.ref t6)] [(.int (own_gc (own_lo c2) (own_hi c2)))])) _
    refine XS.sipush X7.here hx rfl (hb hby d7_35) ?_
    refine XS.icmpYes X7.here hx rfl (pc0 := 38) (pc' := 54) rfl (hb hby d7_38) rfl (tlt ht38).2.2.1 (by decide) (by decide) ?_
    refine XS.aload X7.here hx rfl (hb hby d7_54) rfl rfl ?_
    show Steps p.tables e below (T7.setTop (mkF m 56 #[.val (.ref a1), .val (.int (0 : Int32)), .val (.int (3 : Int32)), .val (.ref b4), .val (.int (2 : Int32)), .val (.ref t6)] [(.ref t6)])) _
    jvm_step X7.here [X7.here.top, hx, (hb hby d7_56), X7.method', Bd.returns, Value.isRef, FieldType.isReference]
    first | (intro acts; rw [hr _ acts rfl rfl rfl]) | rw [hr _ _ rfl rfl rfl]
    exact Steps.refl _
  · show Q7_3 Z c0 c1 c2 h0 n0 _ T7.heap _
    exact ⟨t6, kb6, rfl, N7, KH7, (Nat.le_trans KH5.1 gt6), (A6q.keep K7q (by simp))⟩
set_option maxRecDepth 65536 in
set_option maxHeartbeats 40000000 in
theorem rm7_3 (l : Launch) (Z : State) (a0 : Array Value) (hw : ∀ d ∈ tables_1, d.before a0 Z = true) (ws : List Jvm.Cond) (a1 : Addr) (ka : ClassId) (vs : List Value) (dv : Value) (c0 : Int32) (c1 : Int32) (c2 : Int32) (h0 : Heap) (n0 : Nat) (Z0 : n0 ≤ h0.size) (V : Arv Z h0 a1 ka .char (3 : Int32) vs dv) (hv0 : vs.getD 0 dv = .int c0) (hv1 : vs.getD 1 dv = .int c1) (hv2 : vs.getD 2 dv = .int c2) (S__assertionsDisabled : Sta Z h0 "java/lang/StringUTF16" "$assertionsDisabled" "Z" (.int (1 : Int32))) (S_HI_BYTE_SHIFT : Sta Z h0 "java/lang/StringUTF16" "HI_BYTE_SHIFT" "I" (.int (0 : Int32))) (S_LO_BYTE_SHIFT : Sta Z h0 "java/lang/StringUTF16" "LO_BYTE_SHIFT" "I" (.int (8 : Int32))) (f0 : ¬ c0 < 0 ∧ ¬ (65535 : Int32) < c0) (f1 : ¬ c1 < 0 ∧ ¬ (65535 : Int32) < c1) (f2 : ¬ c2 < 0 ∧ ¬ (65535 : Int32) < c2) (hbig : (255 : Int32) < c0 ∨ (255 : Int32) < c1 ∨ (255 : Int32) < c2) :
    MetFree l (⟨"java/lang/StringUTF16", "compress", "([CII)[B"⟩ : MethodName) (head1 (Jvm.Cond.code (⟨"java/lang/StringUTF16", "compress", "([CII)[B"⟩ : MethodName) jdk_52_method_16_code 6 (some (.array .byte)) :: ws) ({ frames := 3, cells := 2, slots := 9, locals := 40 } : Room)) (fun a U => a = #[(.ref a1), (.int (0 : Int32)), (.int (3 : Int32))] ∧ Z.Warmed39 U.vm ∧ U.heap = h0) (fun _ _ _ _ _ => True) (fun _ U o U' => ∃ v L, o = .returned v ∧ Q7_3 Z c0 c1 c2 h0 n0 v U'.heap L ∧ FrameEnd U o U' L ({ frames := 3, cells := 2, slots := 9, locals := 40 } : Room).cells ({ frames := 3, cells := 2, slots := 9, locals := 40 } : Room).slots) := by
  by_cases b0 : (255 : Int32) < c0
  · exact rm7_3_0 l Z a0 hw ws a1 ka vs dv c0 c1 c2 h0 n0 Z0 V hv0 hv1 hv2 S__assertionsDisabled S_HI_BYTE_SHIFT S_LO_BYTE_SHIFT  b0 (by decide) (by rw [own_gcU _ f0]; exact b0)
  · skip
    by_cases b1 : (255 : Int32) < c1
    · exact rm7_3_1 l Z a0 hw ws a1 ka vs dv c0 c1 c2 h0 n0 Z0 V hv0 hv1 hv2 S__assertionsDisabled S_HI_BYTE_SHIFT S_LO_BYTE_SHIFT b0 b1 (by decide) (by rw [own_gcU _ f1]; exact b1)
    · skip
      have b2 : (255 : Int32) < c2 := by rcases hbig with q | q | q <;> first | assumption | contradiction
      exact rm7_3_2 l Z a0 hw ws a1 ka vs dv c0 c1 c2 h0 n0 Z0 V hv0 hv1 hv2 S__assertionsDisabled S_HI_BYTE_SHIFT S_LO_BYTE_SHIFT b0 b1 b2 (by decide) (by rw [own_gcU _ f2]; exact b2)
def Q2_3 (Z : State) (a1 : Addr) (c0 : Int32) (c1 : Int32) (c2 : Int32) (h0 : Heap) (n0 : Nat) (v : Option Value) (h : Heap) (L : List Loc) : Prop := v = none ∧ Fr n0 L ∧ Keep h0 h [a1] ∧ ∃ (t : Addr) (kb : ClassId), Exa Z h a1 "java/lang/String" ∧ Fld Z h a1 "java/lang/String" "value" "[B" (.ref t) ∧ Fld Z h a1 "java/lang/String" "coder" "B" (.int (1 : Int32)) ∧ Arv Z h t kb .byte (6 : Int32) [Value.int (own_lo c0), Value.int (own_hi c0), Value.int (own_lo c1), Value.int (own_hi c1), Value.int (own_lo c2), Value.int (own_hi c2)] (.int (0 : Int32))
def Q1_3 (Z : State) (a1 : Addr) (c0 : Int32) (c1 : Int32) (c2 : Int32) (h0 : Heap) (n0 : Nat) (v : Option Value) (h : Heap) (L : List Loc) : Prop := v = none ∧ Fr n0 L ∧ Keep h0 h [a1] ∧ ∃ (t : Addr) (kb : ClassId), Exa Z h a1 "java/lang/String" ∧ Fld Z h a1 "java/lang/String" "value" "[B" (.ref t) ∧ Fld Z h a1 "java/lang/String" "coder" "B" (.int (1 : Int32)) ∧ Arv Z h t kb .byte (6 : Int32) [Value.int (own_lo c0), Value.int (own_hi c0), Value.int (own_lo c1), Value.int (own_hi c1), Value.int (own_lo c2), Value.int (own_hi c2)] (.int (0 : Int32))
set_option maxRecDepth 65536 in
set_option maxHeartbeats 40000000 in
theorem rm2_3 (l : Launch) (Z : State) (a0 : Array Value) (hw : ∀ d ∈ tables_1, d.before a0 Z = true) (ws : List Jvm.Cond) (a1 : Addr) (a2 : Addr) (w_COMPACT_STRINGS : Int32) (u_coder_a1 : Value) (u_value_a1 : Value) (ka : ClassId) (vs : List Value) (dv : Value) (c0 : Int32) (c1 : Int32) (c2 : Int32) (h0 : Heap) (n0 : Nat) (Z0 : n0 ≤ h0.size) (S_COMPACT_STRINGS : Sta Z h0 "java/lang/String" "COMPACT_STRINGS" "Z" (.int w_COMPACT_STRINGS)) (E_a1 : Exa Z h0 a1 "java/lang/String") (F_coder_a1 : Fld Z h0 a1 "java/lang/String" "coder" "B" u_coder_a1) (g_a1 : n0 ≤ a1) (F_value_a1 : Fld Z h0 a1 "java/lang/String" "value" "[B" u_value_a1) (hc5 : ¬ ((3 : Int32) = (0 : Int32))) (hc30 : ¬ (w_COMPACT_STRINGS = (0 : Int32))) (V : Arv Z h0 a2 ka .char (3 : Int32) vs dv) (hv0 : vs.getD 0 dv = .int c0) (hv1 : vs.getD 1 dv = .int c1) (hv2 : vs.getD 2 dv = .int c2) (S__assertionsDisabled : Sta Z h0 "java/lang/StringUTF16" "$assertionsDisabled" "Z" (.int (1 : Int32))) (S_HI_BYTE_SHIFT : Sta Z h0 "java/lang/StringUTF16" "HI_BYTE_SHIFT" "I" (.int (0 : Int32))) (S_LO_BYTE_SHIFT : Sta Z h0 "java/lang/StringUTF16" "LO_BYTE_SHIFT" "I" (.int (8 : Int32))) (f0 : ¬ c0 < 0 ∧ ¬ (65535 : Int32) < c0) (f1 : ¬ c1 < 0 ∧ ¬ (65535 : Int32) < c1) (f2 : ¬ c2 < 0 ∧ ¬ (65535 : Int32) < c2) (hbig : (255 : Int32) < c0 ∨ (255 : Int32) < c1 ∨ (255 : Int32) < c2) :
    MetFree l (⟨"java/lang/String", "<init>", "([CIILjava/lang/Void;)V"⟩ : MethodName) (head1 (Jvm.Cond.code (⟨"java/lang/String", "<init>", "([CIILjava/lang/Void;)V"⟩ : MethodName) jdk_42_method_149_code 6 none :: ws) ({ frames := 4, cells := 2, slots := 9, locals := 57 } : Room)) (fun a U => a = #[(.ref a1), (.ref a2), (.int (0 : Int32)), (.int (3 : Int32)), .null] ∧ Z.Warmed39 U.vm ∧ U.heap = h0) (fun _ _ _ _ _ => True) (fun _ U o U' => ∃ v L, o = .returned v ∧ Q2_3 Z a1 c0 c1 c2 h0 n0 v U'.heap L ∧ FrameEnd U o U' L ({ frames := 4, cells := 2, slots := 9, locals := 57 } : Room).cells ({ frames := 4, cells := 2, slots := 9, locals := 57 } : Room).slots) := by
  refine MetFree.of_bodySF (plainFor_of_name pn_2) hisR ?_
  intro p e s m args below meth c s₁ Bd hml0 hP hK
  obtain ⟨rfl, hZ, hh⟩ := hP
  have hx := Bd.exec
  have hby := Bd.bytes
  have hml : c.maxLocals = 6 := hml0
  have hown : s.vm.findClass "java/lang/String" = some m.cls := findClass_of_methodNamed Bd.named
  have hnm := (name_of_methodNamed Bd.named Bd.method).1
  have X0 : Stand p l e ({ frames := 4, cells := 2, slots := 9, locals := 57 } : Room) s m #[(.ref a1), (.ref a2), (.int (0 : Int32)), (.int (3 : Int32)), .null] below meth c s₁ [] 0 0 := Stand.of_body Bd
  have e0 : s₁.heap = h0 := by rw [← hh, Bd.state]; rfl
  have N0 := Fr.nil n0
  have pre0 : ∀ t, Steps p.tables e below (s₁.setTop (mkF m 0 #[.val (.ref a1), .val (.ref a2), .val (.int (0 : Int32)), .val (.int (3 : Int32)), .val .null, .unset] [])) t → Steps p.tables e below (s₁.setTop (entryFrame m #[(.ref a1), (.ref a2), (.int (0 : Int32)), (.int (3 : Int32)), .null] 6)) t := fun t k => castTop (ef_2 m a1 a2 (0 : Int32) (3 : Int32)) k
  obtain ⟨T5, X5, e5, st5⟩ := initO X0 hx hZ hown (own_w hw 13 rfl) (own_w hw 14 rfl) (own_w hw 15 rfl) e0 (g := (mkF m 1 #[.val (.ref a1), .val (.ref a2), .val (.int (0 : Int32)), .val (.int (3 : Int32)), .val .null, .unset] [(.ref a1)])) rfl (by rw [hml]; rfl) rfl (hb hby d2_1) (by decide) (W := 0) (by show 2 * 0 + _ ≤ _; exact Nat.le_of_eq rfl) (by decide)
  obtain ⟨T7, X7, e7, st7⟩ := getS2 X5 hx hZ hown (host := "") (Or.inl (own_w hw 38 rfl)) Via.refl e5 S_COMPACT_STRINGS (g := (mkF m 27 #[.val (.ref a1), .val (.ref a2), .val (.int (0 : Int32)), .val (.int (3 : Int32)), .val .null, .unset] [])) rfl (hb hby d2_27)
  obtain ⟨_, _, ⟨T8, L8, k8, n8⟩, -, X8, ⟨Lc8, hQ8, l8, y8, z8⟩, st8⟩ := Jvm.LawKit.callS X7 hx (y := (⟨"java/lang/StringUTF16", "compress", "([CII)[B"⟩ : MethodName)) hown (mvT hZ (own_w hw 39 rfl)) (mvT hZ (own_w hw 40 rfl)) (mvT hZ (own_w hw 41 rfl)) (mvT hZ (own_w hw 42 rfl)) (by decide) (backOf (W := 0) (rm7_3 l Z a0 hw [] a2 ka vs dv c0 c1 c2  h0 n0 Z0 V hv0 hv1 hv2 S__assertionsDisabled S_HI_BYTE_SHIFT S_LO_BYTE_SHIFT f0 f1 f2 hbig) hZ (own_w hw 42 rfl) (own_w hw 41 rfl) (by decide) (by decide)) (g := (mkF m 36 #[.val (.ref a1), .val (.ref a2), .val (.int (0 : Int32)), .val (.int (3 : Int32)), .val .null, .unset] [(.int (3 : Int32)), (.int (0 : Int32)), (.ref a2)])) rfl (by rw [hml]; rfl) (argsL := [(.ref a2), (.int (0 : Int32)), (.int (3 : Int32))]) (rest := []) (lenOf pd_2_6 rfl) rfl (by show 2 * 0 + _ ≤ _; exact Nat.le_of_eq rfl) (hb hby d2_36) (fun _ _ => ⟨rfl, e7, (by decide : 0 + 2 ≤ _), (by decide : 0 + 9 ≤ _)⟩)
  dsimp only [Pt.U, Pt.locs, Pt.cells, Pt.slots] at X8 l8 y8 z8 st8 hQ8
  subst l8 y8 z8
  obtain ⟨t8, kb8, rfl, N8q, K8q, gt8, A8q⟩ := hQ8
  have N8 := Fr.app N0 N8q
  have KH8 : Keep h0 T8.heap [a1] := (Keep.refl h0 [a1]).trans K8q own_ws0
  obtain ⟨clx, Arx, qx, Sx, Mx, Hx, Gx⟩ := id A8q
  have ne8 : t8 ≠ a1 := Ne.symm (Nat.ne_of_lt (Nat.lt_of_lt_of_le E_a1.lt gt8))
  obtain ⟨_, _, ⟨T9, L9, k9, n9⟩, -, X9, ⟨Lc9, hQ9, l9, y9, z9⟩, st9⟩ := Jvm.LawKit.callS X8 hx (y := (⟨"java/lang/StringUTF16", "coderFromArrayLen", "([BI)B"⟩ : MethodName)) hown (mvT hZ (own_w hw 46 rfl)) (mvT hZ (own_w hw 47 rfl)) (mvT hZ (own_w hw 41 rfl)) (mvT hZ (own_w hw 48 rfl)) (by decide) (backOf (W := 1) (rm9 l Z a0 hw [] t8 (3 : Int32) clx (6 : Int32) T8.heap n0 (Nat.le_trans Z0 KH8.1) Arx Sx Mx) hZ (own_w hw 48 rfl) (own_w hw 41 rfl) (by decide) (by decide)) (g := (mkF m 45 #[.val (.ref a1), .val (.ref a2), .val (.int (0 : Int32)), .val (.int (3 : Int32)), .val .null, .val (.ref t8)] [(.int (3 : Int32)), (.ref t8), (.ref a1)])) rfl (by rw [hml]; rfl) (argsL := [(.ref t8), (.int (3 : Int32))]) (rest := [(.ref a1)]) (lenOf pd_2_8 rfl) rfl (by show 2 * 0 + _ ≤ _; exact Nat.le_of_eq rfl) (hb hby d2_45) (fun _ _ => ⟨rfl, rfl, (by decide : 2 + 0 ≤ _), (by decide : 9 + 0 ≤ _)⟩)
  dsimp only [Pt.U, Pt.locs, Pt.cells, Pt.slots] at X9 l9 y9 z9 st9 hQ9
  subst l9 y9 z9
  obtain ⟨rfl, N9q, e9q⟩ := hQ9
  have N9 := Fr.app N8 N9q
  have K9q : Keep T8.heap T9.heap [] := own_keep e9q
  have KH9 : Keep h0 T9.heap [a1] := KH8.trans K9q own_ws0
  obtain ⟨T10, h10, X10, e10, W10, st10⟩ := putFN X9 hx hZ hown (own_w hw 23 rfl) Via.refl rfl ((F_coder_a1.keep K8q (by simp)).keep K9q (by simp)) ((E_a1.keep K8q).keep K9q) (Or.inr ⟨(own_w hw 19 rfl), rfl, hnm⟩) (own_w hw 4 rfl) (ty := .byte) (v' := (.int (1 : Int32))) (by decide) (by decide) (by decide) (g := (mkF m 48 #[.val (.ref a1), .val (.ref a2), .val (.int (0 : Int32)), .val (.int (3 : Int32)), .val .null, .val (.ref t8)] [(.int (own_f9 (3 : Int32) (6 : Int32))), (.ref a1)])) rfl rfl (hb hby d2_48)
  have Fw10 := ((F_coder_a1.keep K8q (by simp)).keep K9q (by simp)).same W10
  have K10 : Keep h0 h10 [a1] := KH9.wr W10 (Or.inl (List.mem_of_getElem? (i := 0) rfl))
  have N10 := Fr.snoc X10 N9 g_a1
  obtain ⟨T11, h11, X11, e11, W11, st11⟩ := putF X10 hx hZ hown (host := "") (Or.inl (own_w hw 22 rfl)) Via.refl e10 (((F_value_a1.keep K8q (by simp)).keep K9q (by simp)).other W10 (Or.inr (slot_ne (Or.inr (own_w hw 18 rfl)) (Or.inr (own_w hw 19 rfl)) (by decide) (t := (.array .byte)) (t' := .byte) (by decide) (by decide)))) (((E_a1.keep K8q).keep K9q).wr W10) (Or.inr ⟨(own_w hw 18 rfl), rfl, hnm⟩) (own_w hw 4 rfl) (ty := (.array .byte)) (by decide) rfl rfl (g := (mkF m 54 #[.val (.ref a1), .val (.ref a2), .val (.int (0 : Int32)), .val (.int (3 : Int32)), .val .null, .val (.ref t8)] [(.ref t8), (.ref a1)])) rfl rfl (hb hby d2_54)
  have Fw11 := (((F_value_a1.keep K8q (by simp)).keep K9q (by simp)).other W10 (Or.inr (slot_ne (Or.inr (own_w hw 18 rfl)) (Or.inr (own_w hw 19 rfl)) (by decide) (t := (.array .byte)) (t' := .byte) (by decide) (by decide)))).same W11
  have K11 : Keep h0 h11 [a1] := K10.wr W11 (Or.inl (List.mem_of_getElem? (i := 0) rfl))
  have N11 := Fr.snoc X11 N10 g_a1
  obtain ⟨fs, hr, hrun, hended, hW, hsame⟩ := X11.leave (v := none) (fun _ => rfl) (BodyLoose.notSynchronized Bd)
  refine ⟨_, _, pre0 _ ?_, hrun, hended, _, _, rfl, ?_, ⟨_, rfl⟩, hW, hsame.mono (by decide) (by decide)⟩
  · show Steps p.tables e below (s₁.setTop (mkF m 0 #[.val (.ref a1), .val (.ref a2), .val (.int (0 : Int32)), .val (.int (3 : Int32)), .val .null, .unset] [])) _
    refine XS.aloadN X0.here hx rfl (hb hby d2_0) rfl rfl ?_
    show Steps p.tables e below (s₁.setTop (mkF m 1 #[.val (.ref a1), .val (.ref a2), .val (.int (0 : Int32)), .val (.int (3 : Int32)), .val .null, .unset] [(.ref a1)])) _
    refine st5 _ ?_
    show Steps p.tables e below (T5.setTop (mkF m 4 #[.val (.ref a1), .val (.ref a2), .val (.int (0 : Int32)), .val (.int (3 : Int32)), .val .null, .unset] [])) _
    refine XS.iloadN X5.here hx rfl (hb hby d2_4) rfl ?_
    refine XS.ifYes X5.here hx rfl (pc0 := 5) (pc' := 27) rfl (hb hby d2_5) rfl ((if0 _ _).trans (feq hc5).2) (by decide) (by decide) ?_
    show Steps p.tables e below (T5.setTop (mkF m 27 #[.val (.ref a1), .val (.ref a2), .val (.int (0 : Int32)), .val (.int (3 : Int32)), .val .null, .unset] [])) _
    refine st7 _ ?_
    show Steps p.tables e below (T7.setTop (mkF m 30 #[.val (.ref a1), .val (.ref a2), .val (.int (0 : Int32)), .val (.int (3 : Int32)), .val .null, .unset] [(.int w_COMPACT_STRINGS)])) _
    refine XS.ifNo X7.here hx rfl (hb hby d2_30) rfl ((if0 _ _).trans (feq hc30).1) ?_
    refine XS.aloadN X7.here hx rfl (hb hby d2_33) rfl rfl ?_
    refine XS.iloadN X7.here hx rfl (hb hby d2_34) rfl ?_
    refine XS.iloadN X7.here hx rfl (hb hby d2_35) rfl ?_
    show Steps p.tables e below (T7.setTop (mkF m 36 #[.val (.ref a1), .val (.ref a2), .val (.int (0 : Int32)), .val (.int (3 : Int32)), .val .null, .unset] [(.int (3 : Int32)), (.int (0 : Int32)), (.ref a2)])) _
    refine st8 _ ?_
    show Steps p.tables e below (T8.setTop (mkF m 39 #[.val (.ref a1), .val (.ref a2), .val (.int (0 : Int32)), .val (.int (3 : Int32)), .val .null, .unset] [(.ref t8)])) _
    refine XS.astore X8.here hx rfl (hb hby d2_39) rfl rfl (l' := #[.val (.ref a1), .val (.ref a2), .val (.int (0 : Int32)), .val (.int (3 : Int32)), .val .null, .val (.ref t8)]) rfl ?_
    refine XS.aloadN X8.here hx rfl (hb hby d2_41) rfl rfl ?_
    refine XS.aload X8.here hx rfl (hb hby d2_42) rfl rfl ?_
    refine XS.iloadN X8.here hx rfl (hb hby d2_44) rfl ?_
    show Steps p.tables e below (T8.setTop (mkF m 45 #[.val (.ref a1), .val (.ref a2), .val (.int (0 : Int32)), .val (.int (3 : Int32)), .val .null, .val (.ref t8)] [(.int (3 : Int32)), (.ref t8), (.ref a1)])) _
    refine st9 _ ?_
    show Steps p.tables e below (T9.setTop (mkF m 48 #[.val (.ref a1), .val (.ref a2), .val (.int (0 : Int32)), .val (.int (3 : Int32)), .val .null, .val (.ref t8)] [(.int (own_f9 (3 : Int32) (6 : Int32))), (.ref a1)])) _
    refine st10 _ ?_
    show Steps p.tables e below (T10.setTop (mkF m 51 #[.val (.ref a1), .val (.ref a2), .val (.int (0 : Int32)), .val (.int (3 : Int32)), .val .null, .val (.ref t8)] [])) _
    refine XS.aloadN X10.here hx rfl (hb hby d2_51) rfl rfl ?_
    refine XS.aload X10.here hx rfl (hb hby d2_52) rfl rfl ?_
    show Steps p.tables e below (T10.setTop (mkF m 54 #[.val (.ref a1), .val (.ref a2), .val (.int (0 : Int32)), .val (.int (3 : Int32)), .val .null, .val (.ref t8)] [(.ref t8), (.ref a1)])) _
    refine st11 _ ?_
    show Steps p.tables e below (T11.setTop (mkF m 57 #[.val (.ref a1), .val (.ref a2), .val (.int (0 : Int32)), .val (.int (3 : Int32)), .val .null, .val (.ref t8)] [])) _
    exact X11.returnOut hx Bd.returns (hb hby d2_57) hr
  · show Q2_3 Z a1 c0 c1 c2 h0 n0 _ T11.heap _
    rw [e11]
    exact ⟨rfl, N11, K11, t8, kb8, ((((E_a1.keep K8q).keep K9q).wr W10).wr W11), Fw11, (Fw10.other W11 (Or.inr (slot_ne (Or.inr (own_w hw 19 rfl)) (Or.inr (own_w hw 18 rfl)) (by decide) (t := .byte) (t' := (.array .byte)) (by decide) (by decide)))), (((A8q.keep K9q (by simp)).other W10 ne8).other W11 ne8)⟩
set_option maxRecDepth 65536 in
set_option maxHeartbeats 40000000 in
theorem rm1_3 (l : Launch) (Z : State) (a0 : Array Value) (hw : ∀ d ∈ tables_1, d.before a0 Z = true) (ws : List Jvm.Cond) (a1 : Addr) (a2 : Addr) (G1 : Int32) (ka : ClassId) (vs : List Value) (dv : Value) (c0 : Int32) (c1 : Int32) (c2 : Int32) (h0 : Heap) (n0 : Nat) (Z0 : n0 ≤ h0.size) (V : Arv Z h0 a2 ka .char (3 : Int32) vs dv) (hv0 : vs.getD 0 dv = .int c0) (hv1 : vs.getD 1 dv = .int c1) (hv2 : vs.getD 2 dv = .int c2) (E_a1 : Exa Z h0 a1 "java/lang/String") (F_coder_a1 : Fld Z h0 a1 "java/lang/String" "coder" "B" (.int (0 : Int32))) (g_a1 : n0 ≤ a1) (F_value_a1 : Fld Z h0 a1 "java/lang/String" "value" "[B" .null) (S_CS : Sta Z h0 "java/lang/String" "COMPACT_STRINGS" "Z" (.int G1)) (P5 : ¬ (G1 = (0 : Int32))) (S__assertionsDisabled : Sta Z h0 "java/lang/StringUTF16" "$assertionsDisabled" "Z" (.int (1 : Int32))) (S_HI_BYTE_SHIFT : Sta Z h0 "java/lang/StringUTF16" "HI_BYTE_SHIFT" "I" (.int (0 : Int32))) (S_LO_BYTE_SHIFT : Sta Z h0 "java/lang/StringUTF16" "LO_BYTE_SHIFT" "I" (.int (8 : Int32))) (f0 : ¬ c0 < 0 ∧ ¬ (65535 : Int32) < c0) (f1 : ¬ c1 < 0 ∧ ¬ (65535 : Int32) < c1) (f2 : ¬ c2 < 0 ∧ ¬ (65535 : Int32) < c2) (hbig : (255 : Int32) < c0 ∨ (255 : Int32) < c1 ∨ (255 : Int32) < c2) :
    MetFree l (⟨"java/lang/String", "<init>", "([C)V"⟩ : MethodName) (head1 (Jvm.Cond.code (⟨"java/lang/String", "<init>", "([C)V"⟩ : MethodName) jdk_42_method_3_code 2 none :: ws) ({ frames := 5, cells := 2, slots := 9, locals := 74 } : Room)) (fun a U => a = #[(.ref a1), (.ref a2)] ∧ Z.Warmed39 U.vm ∧ U.heap = h0) (fun _ _ _ _ _ => True) (fun _ U o U' => ∃ v L, o = .returned v ∧ Q1_3 Z a1 c0 c1 c2 h0 n0 v U'.heap L ∧ FrameEnd U o U' L ({ frames := 5, cells := 2, slots := 9, locals := 74 } : Room).cells ({ frames := 5, cells := 2, slots := 9, locals := 74 } : Room).slots) := by
  refine MetFree.of_bodySF (plainFor_of_name pn_1) hisR ?_
  intro p e s m args below meth c s₁ Bd hml0 hP hK
  obtain ⟨rfl, hZ, hh⟩ := hP
  have hx := Bd.exec
  have hby := Bd.bytes
  have hml : c.maxLocals = 2 := hml0
  have hown : s.vm.findClass "java/lang/String" = some m.cls := findClass_of_methodNamed Bd.named
  have hnm := (name_of_methodNamed Bd.named Bd.method).1
  have X0 : Stand p l e ({ frames := 5, cells := 2, slots := 9, locals := 74 } : Room) s m #[(.ref a1), (.ref a2)] below meth c s₁ [] 0 0 := Stand.of_body Bd
  have e0 : s₁.heap = h0 := by rw [← hh, Bd.state]; rfl
  have N0 := Fr.nil n0
  obtain ⟨cl_a2, Ar_a2, q_a2, S_a2, N_a2, H_a2, G_a2⟩ := id V
  have pre0 : ∀ t, Steps p.tables e below (s₁.setTop (mkF m 0 #[.val (.ref a1), .val (.ref a2)] [])) t → Steps p.tables e below (s₁.setTop (entryFrame m #[(.ref a1), (.ref a2)] 2)) t := fun t k => castTop (ef_1 m a1 a2) k
  obtain ⟨_, _, ⟨T3, L3, k3, n3⟩, -, X3, ⟨Lc3, hQ3, l3, y3, z3⟩, st3⟩ := X0.specialBack hx (y := (⟨"java/lang/String", "<init>", "([CIILjava/lang/Void;)V"⟩ : MethodName)) rfl hown (mvT hZ (own_w hw 9 rfl)) (mvT hZ (own_w hw 10 rfl)) (mvT hZ (own_w hw 12 rfl)) (by decide) (backOf (W := 0) (rm2_3 l Z a0 hw [] a1 a2 G1 (.int (0 : Int32)) .null ka vs dv c0 c1 c2 h0 n0 Z0 S_CS E_a1 F_coder_a1 g_a1 F_value_a1 (by decide) P5 V hv0 hv1 hv2 S__assertionsDisabled S_HI_BYTE_SHIFT S_LO_BYTE_SHIFT f0 f1 f2 hbig) hZ (own_w hw 12 rfl) (own_w hw 5 rfl) (by decide) (by decide)) (g := (mkF m 6 #[.val (.ref a1), .val (.ref a2)] [.null, (.int (3 : Int32)), (.int (0 : Int32)), (.ref a2), (.ref a1)])) rfl (by rw [hml]; rfl) (Steps.refl _) (a := a1) (argsL := [(.ref a2), (.int (0 : Int32)), (.int (3 : Int32)), .null]) (rest := []) (lenOf pd_1_1 rfl) rfl (by show 2 * 0 + _ ≤ _; exact Nat.le_of_eq rfl) (hb hby d1_6) (fun _ _ => ⟨rfl, e0, (by decide : 0 + 2 ≤ _), (by decide : 0 + 9 ≤ _)⟩)
  dsimp only [Pt.U, Pt.locs, Pt.cells, Pt.slots] at X3 l3 y3 z3 st3 hQ3
  subst l3 y3 z3
  obtain ⟨rfl, N3q, K3q, t3, kb3, E3q, Fv3, Fc3, A3q⟩ := hQ3
  have N3 := Fr.app N0 N3q
  have KH3 : Keep h0 T3.heap [a1] := (Keep.refl h0 [a1]).trans K3q own_wsIn
  obtain ⟨fs, hr, hrun, hended, hW, hsame⟩ := X3.leave (v := none) (fun _ => rfl) (BodyLoose.notSynchronized Bd)
  refine ⟨_, _, pre0 _ ?_, hrun, hended, _, _, rfl, ?_, ⟨_, rfl⟩, hW, hsame.mono (by decide) (by decide)⟩
  · show Steps p.tables e below (s₁.setTop (mkF m 0 #[.val (.ref a1), .val (.ref a2)] [])) _
    refine XS.aloadN X0.here hx rfl (hb hby d1_0) rfl rfl ?_
    refine XS.aloadN X0.here hx rfl (hb hby d1_1) rfl rfl ?_
    refine XS.iconst X0.here hx rfl (hb hby d1_2) ?_
    refine XS.aloadN X0.here hx rfl (hb hby d1_3) rfl rfl ?_
    show Steps p.tables e below (s₁.setTop (mkF m 4 #[.val (.ref a1), .val (.ref a2)] [(.ref a2), (.int (0 : Int32)), (.ref a2), (.ref a1)])) _
    refine X0.arraylength hx (by rw [e0]; exact Ar_a2.1) (State.isArrayOf_alike hZ.alike Ar_a2.2.1) (g := (mkF m 4 #[.val (.ref a1), .val (.ref a2)] [(.ref a2), (.int (0 : Int32)), (.ref a2), (.ref a1)])) rfl rfl (hb hby d1_4) _ ?_
    rw [len_of S_a2 N_a2]
    show Steps p.tables e below (s₁.setTop (mkF m 5 #[.val (.ref a1), .val (.ref a2)] [(.int (3 : Int32)), (.int (0 : Int32)), (.ref a2), (.ref a1)])) _
    refine XS.aconstNull X0.here hx rfl (hb hby d1_5) ?_
    show Steps p.tables e below (s₁.setTop (mkF m 6 #[.val (.ref a1), .val (.ref a2)] [.null, (.int (3 : Int32)), (.int (0 : Int32)), (.ref a2), (.ref a1)])) _
    refine st3.trans ?_
    show Steps p.tables e below (T3.setTop (mkF m 9 #[.val (.ref a1), .val (.ref a2)] [])) _
    exact X3.returnOut hx Bd.returns (hb hby d1_9) hr
  · show Q1_3 Z a1 c0 c1 c2 h0 n0 _ T3.heap _
    exact ⟨rfl, N3, K3q, t3, kb3, E3q, Fv3, Fc3, A3q⟩
def Q7_4 (Z : State) (c0 : Int32) (c1 : Int32) (c2 : Int32) (c3 : Int32) (h0 : Heap) (n0 : Nat) (v : Option Value) (h : Heap) (L : List Loc) : Prop := ∃ (t : Addr) (kb : ClassId), v = some (.ref t) ∧ Fr n0 L ∧ Keep h0 h [] ∧ h0.size ≤ t ∧ Arv Z h t kb .byte (8 : Int32) [Value.int (own_lo c0), Value.int (own_hi c0), Value.int (own_lo c1), Value.int (own_hi c1), Value.int (own_lo c2), Value.int (own_hi c2), Value.int (own_lo c3), Value.int (own_hi c3)] (.int (0 : Int32))
set_option maxRecDepth 65536 in
set_option maxHeartbeats 40000000 in
theorem rm7_4_0 (l : Launch) (Z : State) (a0 : Array Value) (hw : ∀ d ∈ tables_1, d.before a0 Z = true) (ws : List Jvm.Cond) (a1 : Addr) (ka : ClassId) (vs : List Value) (dv : Value) (c0 : Int32) (c1 : Int32) (c2 : Int32) (c3 : Int32) (h0 : Heap) (n0 : Nat) (Z0 : n0 ≤ h0.size) (V : Arv Z h0 a1 ka .char (4 : Int32) vs dv) (hv0 : vs.getD 0 dv = .int c0) (hv1 : vs.getD 1 dv = .int c1) (hv2 : vs.getD 2 dv = .int c2) (hv3 : vs.getD 3 dv = .int c3) (S__assertionsDisabled : Sta Z h0 "java/lang/StringUTF16" "$assertionsDisabled" "Z" (.int (1 : Int32))) (S_HI_BYTE_SHIFT : Sta Z h0 "java/lang/StringUTF16" "HI_BYTE_SHIFT" "I" (.int (0 : Int32))) (S_LO_BYTE_SHIFT : Sta Z h0 "java/lang/StringUTF16" "LO_BYTE_SHIFT" "I" (.int (8 : Int32))) (gt : (255 : Int32) < c0) (ht17 : ¬ ((0 : Int32) = (4 : Int32))) (ht38 : (255 : Int32) < (own_gc (own_lo c0) (own_hi c0))) :
    MetFree l (⟨"java/lang/StringUTF16", "compress", "([CII)[B"⟩ : MethodName) (head1 (Jvm.Cond.code (⟨"java/lang/StringUTF16", "compress", "([CII)[B"⟩ : MethodName) jdk_52_method_16_code 6 (some (.array .byte)) :: ws) ({ frames := 3, cells := 2, slots := 12, locals := 40 } : Room)) (fun a U => a = #[(.ref a1), (.int (0 : Int32)), (.int (4 : Int32))] ∧ Z.Warmed39 U.vm ∧ U.heap = h0) (fun _ _ _ _ _ => True) (fun _ U o U' => ∃ v L, o = .returned v ∧ Q7_4 Z c0 c1 c2 c3 h0 n0 v U'.heap L ∧ FrameEnd U o U' L ({ frames := 3, cells := 2, slots := 12, locals := 40 } : Room).cells ({ frames := 3, cells := 2, slots := 12, locals := 40 } : Room).slots) := by
  refine MetFree.of_bodySF (plainFor_of_name pn_7) hisR ?_
  intro p e s m args below meth c s₁ Bd hml0 hP hK
  obtain ⟨rfl, hZ, hh⟩ := hP
  have hx := Bd.exec
  have hby := Bd.bytes
  have hml : c.maxLocals = 6 := hml0
  have hown : s.vm.findClass "java/lang/StringUTF16" = some m.cls := findClass_of_methodNamed Bd.named
  have hnm := (name_of_methodNamed Bd.named Bd.method).1
  have X0 : Stand p l e ({ frames := 3, cells := 2, slots := 12, locals := 40 } : Room) s m #[(.ref a1), (.int (0 : Int32)), (.int (4 : Int32))] below meth c s₁ [] 0 0 := Stand.of_body Bd
  have e0 : s₁.heap = h0 := by rw [← hh, Bd.state]; rfl
  have N0 := Fr.nil n0
  have pre0 : ∀ t, Steps p.tables e below (s₁.setTop (mkF m 0 #[.val (.ref a1), .val (.int (0 : Int32)), .val (.int (4 : Int32)), .unset, .unset, .unset] [])) t → Steps p.tables e below (s₁.setTop (entryFrame m #[(.ref a1), (.int (0 : Int32)), (.int (4 : Int32))] 6)) t := fun t k => castTop (ef_7 m a1 (0 : Int32) (4 : Int32)) k
  obtain ⟨T4, h4, k4, X4, e4, E4, A4, st4⟩ := newP X0 hx hZ (own_w hw 17 rfl) e0 (g := (mkF m 1 #[.val (.ref a1), .val (.int (0 : Int32)), .val (.int (4 : Int32)), .unset, .unset, .unset] [(.int (4 : Int32))])) rfl (hb hby d7_1) rfl (by decide) (cap := 4) (by decide) (by decide) (by decide) (by decide)
  obtain ⟨b4, g4⟩ : ∃ z, z = h0.size := ⟨_, rfl⟩
  rw [← g4] at A4 st4
  have V_b4 := Arv.new A4 (by decide)
  have g_b4 : n0 ≤ b4 := Nat.le_trans Z0 (Nat.le_of_eq g4.symm)
  have sz_b4 : h0.size ≤ b4 := (Nat.le_trans (Keep.refl h0 []).1 (Nat.le_of_eq g4.symm))
  have K4 : Keep h0 h4 [] := (Keep.refl h0 []).ext E4
  obtain ⟨_, _, ⟨T5, L5, k5, n5⟩, -, X5, ⟨Lc5, hQ5, l5, y5, z5⟩, st5⟩ := Jvm.LawKit.callS X4 hx (y := (⟨"java/lang/StringUTF16", "compress", "([CI[BII)I"⟩ : MethodName)) hown (mvT hZ (own_w hw 43 rfl)) (mvT hZ (own_w hw 44 rfl)) (mvT hZ (own_w hw 41 rfl)) (mvT hZ (own_w hw 45 rfl)) (by decide) (backOf (W := 0) (rm8_0 l Z a0 hw [] a1 b4 (4 : Int32) ka vs dv (newA k4 .byte (4 : Int32)) c0  h4 n0 (Nat.le_trans Z0 K4.1) (V.ext E4) hv0 A4 (sz_new _ _ _) (own_ne V.lt g4) g_b4 (by decide)  gt) hZ (own_w hw 45 rfl) (own_w hw 41 rfl) (by decide) (by decide)) (g := (mkF m 9 #[.val (.ref a1), .val (.int (0 : Int32)), .val (.int (4 : Int32)), .val (.ref b4), .unset, .unset] [(.int (4 : Int32)), (.int (0 : Int32)), (.ref b4), (.int (0 : Int32)), (.ref a1)])) rfl (by rw [hml]; rfl) (argsL := [(.ref a1), (.int (0 : Int32)), (.ref b4), (.int (0 : Int32)), (.int (4 : Int32))]) (rest := []) (lenOf pd_7_7 rfl) rfl (by show 2 * 0 + _ ≤ _; exact Nat.le_of_eq rfl) (hb hby d7_9) (fun _ _ => ⟨rfl, e4, (by decide : 1 + 0 ≤ _), (by decide : 4 + 0 ≤ _)⟩)
  dsimp only [Pt.U, Pt.locs, Pt.cells, Pt.slots] at X5 l5 y5 z5 st5 hQ5
  subst l5 y5 z5
  obtain ⟨rfl, N5q, K5q⟩ := hQ5
  have N5 := Fr.app N0 N5q
  have KH5 : Keep h0 T5.heap [] := K4.trans K5q (own_ws1 sz_b4)
  obtain ⟨_, _, ⟨T6, L6, k6, n6⟩, -, X6, ⟨Lc6, hQ6, l6, y6, z6⟩, st6⟩ := Jvm.LawKit.callS X5 hx (y := (⟨"java/lang/StringUTF16", "toBytes", "([CII)[B"⟩ : MethodName)) hown (mvT hZ (own_w hw 78 rfl)) (mvT hZ (own_w hw 79 rfl)) (mvT hZ (own_w hw 41 rfl)) (mvT hZ (own_w hw 80 rfl)) (by decide) (backOf (W := 0) (rm17_4 l Z a0 hw [] a1 ka vs dv c0 c1 c2 c3  T5.heap n0 (Nat.le_trans Z0 KH5.1) (V.keep KH5 (by simp)) hv0 hv1 hv2 hv3 (S__assertionsDisabled.ext (own_ext KH5)) (S_HI_BYTE_SHIFT.ext (own_ext KH5)) (S_LO_BYTE_SHIFT.ext (own_ext KH5))) hZ (own_w hw 80 rfl) (own_w hw 41 rfl) (by decide) (by decide)) (g := (mkF m 23 #[.val (.ref a1), .val (.int (0 : Int32)), .val (.int (4 : Int32)), .val (.ref b4), .val (.int (0 : Int32)), .unset] [(.int (4 : Int32)), (.int (0 : Int32)), (.ref a1)])) rfl (by rw [hml]; rfl) (argsL := [(.ref a1), (.int (0 : Int32)), (.int (4 : Int32))]) (rest := []) (lenOf pd_7_6 rfl) rfl (by show 2 * 0 + _ ≤ _; exact Nat.le_of_eq rfl) (hb hby d7_23) (fun _ _ => ⟨rfl, rfl, (by decide : 1 + 1 ≤ _), (by decide : 4 + 8 ≤ _)⟩)
  dsimp only [Pt.U, Pt.locs, Pt.cells, Pt.slots] at X6 l6 y6 z6 st6 hQ6
  subst l6 y6 z6
  obtain ⟨t6, kb6, rfl, N6q, K6q, gt6, A6q⟩ := hQ6
  have N6 := Fr.app N5 N6q
  have KH6 : Keep h0 T6.heap [] := KH5.trans K6q own_ws0
  obtain ⟨clx, Arx, qx, Sx, Mx, Hx, Gx⟩ := id A6q
  obtain ⟨_, _, ⟨T7, L7, k7, n7⟩, -, X7, ⟨Lc7, hQ7, l7, y7, z7⟩, st7⟩ := Jvm.LawKit.callS X6 hx (y := (⟨"java/lang/StringUTF16", "getChar", "([BI)C"⟩ : MethodName)) hown (mvT hZ (own_w hw 94 rfl)) (mvT hZ (own_w hw 95 rfl)) (mvT hZ (own_w hw 41 rfl)) (mvT hZ (own_w hw 96 rfl)) (by decide) (backOf (W := 0) (rm21 l Z a0 hw [] t6 (0 : Int32) (own_lo c0) clx (own_hi c0) T6.heap n0 (Nat.le_trans Z0 KH6.1) (S__assertionsDisabled.ext (own_ext KH6)) Arx (inb_of Sx ⟨by decide, by decide⟩) (Hx 0 (by rw [Sx]; decide)) (S_HI_BYTE_SHIFT.ext (own_ext KH6)) (inb_of Sx ⟨by decide, by decide⟩) (Hx 1 (by rw [Sx]; decide)) (S_LO_BYTE_SHIFT.ext (own_ext KH6)) (by decide)) hZ (own_w hw 96 rfl) (own_w hw 41 rfl) (by decide) (by decide)) (g := (mkF m 32 #[.val (.ref a1), .val (.int (0 : Int32)), .val (.int (4 : Int32)), .val (.ref b4), .val (.int (0 : Int32)), .val (.ref t6)] [(.int (0 : Int32)), (.ref t6)])) rfl (by rw [hml]; rfl) (argsL := [(.ref t6), (.int (0 : Int32))]) (rest := []) (lenOf pd_7_12 rfl) rfl (by show 2 * 0 + _ ≤ _; exact Nat.le_of_eq rfl) (hb hby d7_32) (fun _ _ => ⟨rfl, rfl, (by decide : 2 + 0 ≤ _), (by decide : 12 + 0 ≤ _)⟩)
  dsimp only [Pt.U, Pt.locs, Pt.cells, Pt.slots] at X7 l7 y7 z7 st7 hQ7
  subst l7 y7 z7
  obtain ⟨rfl, N7q, e7q⟩ := hQ7
  have N7 := Fr.app N6 N7q
  have K7q : Keep T6.heap T7.heap [] := own_keep e7q
  have KH7 : Keep h0 T7.heap [] := KH6.trans K7q own_ws0
  obtain ⟨fs, hr, hrun, hended, hW, hsame⟩ := X7.leave (v := some (.ref t6)) (fun h => by rw [Bd.returns] at h; cases h) (BodyLoose.notSynchronized Bd)
  refine ⟨_, _, pre0 _ ?_, hrun, hended, _, _, rfl, ?_, ⟨_, rfl⟩, hW, hsame.mono (by decide) (by decide)⟩
  · show Steps p.tables e below (s₁.setTop (mkF m 0 #[.val (.ref a1), .val (.int (0 : Int32)), .val (.int (4 : Int32)), .unset, .unset, .unset] [])) _
    refine XS.iloadN X0.here hx rfl (hb hby d7_0) rfl ?_
    show Steps p.tables e below (s₁.setTop (mkF m 1 #[.val (.ref a1), .val (.int (0 : Int32)), .val (.int (4 : Int32)), .unset, .unset, .unset] [(.int (4 : Int32))])) _
    refine st4 _ ?_
    show Steps p.tables e below (T4.setTop (mkF m 3 #[.val (.ref a1), .val (.int (0 : Int32)), .val (.int (4 : Int32)), .unset, .unset, .unset] [(.ref b4)])) _
    refine XS.astoreN X4.here hx rfl (hb hby d7_3) rfl rfl (l' := #[.val (.ref a1), .val (.int (0 : Int32)), .val (.int (4 : Int32)), .val (.ref b4), .unset, .unset]) rfl ?_
    refine XS.aloadN X4.here hx rfl (hb hby d7_4) rfl rfl ?_
    refine XS.iloadN X4.here hx rfl (hb hby d7_5) rfl ?_
    refine XS.aloadN X4.here hx rfl (hb hby d7_6) rfl rfl ?_
    refine XS.iconst X4.here hx rfl (hb hby d7_7) ?_
    refine XS.iloadN X4.here hx rfl (hb hby d7_8) rfl ?_
    show Steps p.tables e below (T4.setTop (mkF m 9 #[.val (.ref a1), .val (.int (0 : Int32)), .val (.int (4 : Int32)), .val (.ref b4), .unset, .unset] [(.int (4 : Int32)), (.int (0 : Int32)), (.ref b4), (.int (0 : Int32)), (.ref a1)])) _
    refine st5 _ ?_
    show Steps p.tables e below (T5.setTop (mkF m 12 #[.val (.ref a1), .val (.int (0 : Int32)), .val (.int (4 : Int32)), .val (.ref b4), .unset, .unset] [(.int (0 : Int32))])) _
    refine XS.istore X5.here hx rfl (hb hby d7_12) rfl (l' := #[.val (.ref a1), .val (.int (0 : Int32)), .val (.int (4 : Int32)), .val (.ref b4), .val (.int (0 : Int32)), .unset]) rfl ?_
    refine XS.iload X5.here hx rfl (hb hby d7_14) rfl ?_
    refine XS.iloadN X5.here hx rfl (hb hby d7_16) rfl ?_
    refine XS.icmpNo X5.here hx rfl (hb hby d7_17) rfl (feq ht17).1 ?_
    refine XS.aloadN X5.here hx rfl (hb hby d7_20) rfl rfl ?_
    refine XS.iloadN X5.here hx rfl (hb hby d7_21) rfl ?_
    refine XS.iloadN X5.here hx rfl (hb hby d7_22) rfl ?_
    show Steps p.tables e below (T5.setTop (mkF m 23 #[.val (.ref a1), .val (.int (0 : Int32)), .val (.int (4 : Int32)), .val (.ref b4), .val (.int (0 : Int32)), .unset] [(.int (4 : Int32)), (.int (0 : Int32)), (.ref a1)])) _
    refine st6 _ ?_
    show Steps p.tables e below (T6.setTop (mkF m 26 #[.val (.ref a1), .val (.int (0 : Int32)), .val (.int (4 : Int32)), .val (.ref b4), .val (.int (0 : Int32)), .unset] [(.ref t6)])) _
    refine XS.astore X6.here hx rfl (hb hby d7_26) rfl rfl (l' := #[.val (.ref a1), .val (.int (0 : Int32)), .val (.int (4 : Int32)), .val (.ref b4), .val (.int (0 : Int32)), .val (.ref t6)]) rfl ?_
    refine XS.aload X6.here hx rfl (hb hby d7_28) rfl rfl ?_
    refine XS.iload X6.here hx rfl (hb hby d7_30) rfl ?_
    show Steps p.tables e below (T6.setTop (mkF m 32 #[.val (.ref a1), .val (.int (0 : Int32)), .val (.int (4 : Int32)), .val (.ref b4), .val (.int (0 : Int32)), .val (.ref t6)] [(.int (0 : Int32)), (.ref t6)])) _
    refine st7 _ ?_
    show Steps p.tables e below (T7.setTop (mkF m 35 #[.val (.ref a1), .val (.int (0 : Int32)), .val (.int (4 : Int32)), .val (.ref b4), .val (.int (0 : Int32)), .val (.ref t6)] [(.int (own_gc (own_lo c0) (own_hi c0)))])) _
    refine XS.sipush X7.here hx rfl (hb hby d7_35) ?_
    refine XS.icmpYes X7.here hx rfl (pc0 := 38) (pc' := 54) rfl (hb hby d7_38) rfl (tlt ht38).2.2.1 (by decide) (by decide) ?_
    refine XS.aload X7.here hx rfl (hb hby d7_54) rfl rfl ?_
    show Steps p.tables e below (T7.setTop (mkF m 56 #[.val (.ref a1), .val (.int (0 : Int32)), .val (.int (4 : Int32)), .val (.ref b4), .val (.int (0 : Int32)), .val (.ref t6)] [(.ref t6)])) _
    jvm_step X7.here [X7.here.top, hx, (hb hby d7_56), X7.method', Bd.returns, Value.isRef, FieldType.isReference]
    first | (intro acts; rw [hr _ acts rfl rfl rfl]) | rw [hr _ _ rfl rfl rfl]
    exact Steps.refl _
  · show Q7_4 Z c0 c1 c2 c3 h0 n0 _ T7.heap _
    exact ⟨t6, kb6, rfl, N7, KH7, (Nat.le_trans KH5.1 gt6), (A6q.keep K7q (by simp))⟩
set_option maxRecDepth 65536 in
set_option maxHeartbeats 40000000 in
theorem rm7_4_1 (l : Launch) (Z : State) (a0 : Array Value) (hw : ∀ d ∈ tables_1, d.before a0 Z = true) (ws : List Jvm.Cond) (a1 : Addr) (ka : ClassId) (vs : List Value) (dv : Value) (c0 : Int32) (c1 : Int32) (c2 : Int32) (c3 : Int32) (h0 : Heap) (n0 : Nat) (Z0 : n0 ≤ h0.size) (V : Arv Z h0 a1 ka .char (4 : Int32) vs dv) (hv0 : vs.getD 0 dv = .int c0) (hv1 : vs.getD 1 dv = .int c1) (hv2 : vs.getD 2 dv = .int c2) (hv3 : vs.getD 3 dv = .int c3) (S__assertionsDisabled : Sta Z h0 "java/lang/StringUTF16" "$assertionsDisabled" "Z" (.int (1 : Int32))) (S_HI_BYTE_SHIFT : Sta Z h0 "java/lang/StringUTF16" "HI_BYTE_SHIFT" "I" (.int (0 : Int32))) (S_LO_BYTE_SHIFT : Sta Z h0 "java/lang/StringUTF16" "LO_BYTE_SHIFT" "I" (.int (8 : Int32))) (le0 : ¬ ((255 : Int32) < c0)) (gt : (255 : Int32) < c1) (ht17 : ¬ ((1 : Int32) = (4 : Int32))) (ht38 : (255 : Int32) < (own_gc (own_lo c1) (own_hi c1))) :
    MetFree l (⟨"java/lang/StringUTF16", "compress", "([CII)[B"⟩ : MethodName) (head1 (Jvm.Cond.code (⟨"java/lang/StringUTF16", "compress", "([CII)[B"⟩ : MethodName) jdk_52_method_16_code 6 (some (.array .byte)) :: ws) ({ frames := 3, cells := 2, slots := 12, locals := 40 } : Room)) (fun a U => a = #[(.ref a1), (.int (0 : Int32)), (.int (4 : Int32))] ∧ Z.Warmed39 U.vm ∧ U.heap = h0) (fun _ _ _ _ _ => True) (fun _ U o U' => ∃ v L, o = .returned v ∧ Q7_4 Z c0 c1 c2 c3 h0 n0 v U'.heap L ∧ FrameEnd U o U' L ({ frames := 3, cells := 2, slots := 12, locals := 40 } : Room).cells ({ frames := 3, cells := 2, slots := 12, locals := 40 } : Room).slots) := by
  refine MetFree.of_bodySF (plainFor_of_name pn_7) hisR ?_
  intro p e s m args below meth c s₁ Bd hml0 hP hK
  obtain ⟨rfl, hZ, hh⟩ := hP
  have hx := Bd.exec
  have hby := Bd.bytes
  have hml : c.maxLocals = 6 := hml0
  have hown : s.vm.findClass "java/lang/StringUTF16" = some m.cls := findClass_of_methodNamed Bd.named
  have hnm := (name_of_methodNamed Bd.named Bd.method).1
  have X0 : Stand p l e ({ frames := 3, cells := 2, slots := 12, locals := 40 } : Room) s m #[(.ref a1), (.int (0 : Int32)), (.int (4 : Int32))] below meth c s₁ [] 0 0 := Stand.of_body Bd
  have e0 : s₁.heap = h0 := by rw [← hh, Bd.state]; rfl
  have N0 := Fr.nil n0
  have pre0 : ∀ t, Steps p.tables e below (s₁.setTop (mkF m 0 #[.val (.ref a1), .val (.int (0 : Int32)), .val (.int (4 : Int32)), .unset, .unset, .unset] [])) t → Steps p.tables e below (s₁.setTop (entryFrame m #[(.ref a1), (.int (0 : Int32)), (.int (4 : Int32))] 6)) t := fun t k => castTop (ef_7 m a1 (0 : Int32) (4 : Int32)) k
  obtain ⟨T4, h4, k4, X4, e4, E4, A4, st4⟩ := newP X0 hx hZ (own_w hw 17 rfl) e0 (g := (mkF m 1 #[.val (.ref a1), .val (.int (0 : Int32)), .val (.int (4 : Int32)), .unset, .unset, .unset] [(.int (4 : Int32))])) rfl (hb hby d7_1) rfl (by decide) (cap := 4) (by decide) (by decide) (by decide) (by decide)
  obtain ⟨b4, g4⟩ : ∃ z, z = h0.size := ⟨_, rfl⟩
  rw [← g4] at A4 st4
  have V_b4 := Arv.new A4 (by decide)
  have g_b4 : n0 ≤ b4 := Nat.le_trans Z0 (Nat.le_of_eq g4.symm)
  have sz_b4 : h0.size ≤ b4 := (Nat.le_trans (Keep.refl h0 []).1 (Nat.le_of_eq g4.symm))
  have K4 : Keep h0 h4 [] := (Keep.refl h0 []).ext E4
  obtain ⟨_, _, ⟨T5, L5, k5, n5⟩, -, X5, ⟨Lc5, hQ5, l5, y5, z5⟩, st5⟩ := Jvm.LawKit.callS X4 hx (y := (⟨"java/lang/StringUTF16", "compress", "([CI[BII)I"⟩ : MethodName)) hown (mvT hZ (own_w hw 43 rfl)) (mvT hZ (own_w hw 44 rfl)) (mvT hZ (own_w hw 41 rfl)) (mvT hZ (own_w hw 45 rfl)) (by decide) (backOf (W := 0) (rm8_1 l Z a0 hw [] a1 b4 (4 : Int32) ka vs dv (newA k4 .byte (4 : Int32)) c0 c1  h4 n0 (Nat.le_trans Z0 K4.1) (V.ext E4) hv0 hv1 A4 (sz_new _ _ _) (own_ne V.lt g4) g_b4 (by decide) le0 gt) hZ (own_w hw 45 rfl) (own_w hw 41 rfl) (by decide) (by decide)) (g := (mkF m 9 #[.val (.ref a1), .val (.int (0 : Int32)), .val (.int (4 : Int32)), .val (.ref b4), .unset, .unset] [(.int (4 : Int32)), (.int (0 : Int32)), (.ref b4), (.int (0 : Int32)), (.ref a1)])) rfl (by rw [hml]; rfl) (argsL := [(.ref a1), (.int (0 : Int32)), (.ref b4), (.int (0 : Int32)), (.int (4 : Int32))]) (rest := []) (lenOf pd_7_7 rfl) rfl (by show 2 * 0 + _ ≤ _; exact Nat.le_of_eq rfl) (hb hby d7_9) (fun _ _ => ⟨rfl, e4, (by decide : 1 + 0 ≤ _), (by decide : 4 + 0 ≤ _)⟩)
  dsimp only [Pt.U, Pt.locs, Pt.cells, Pt.slots] at X5 l5 y5 z5 st5 hQ5
  subst l5 y5 z5
  obtain ⟨rfl, N5q, K5q⟩ := hQ5
  have N5 := Fr.app N0 N5q
  have KH5 : Keep h0 T5.heap [] := K4.trans K5q (own_ws1 sz_b4)
  obtain ⟨_, _, ⟨T6, L6, k6, n6⟩, -, X6, ⟨Lc6, hQ6, l6, y6, z6⟩, st6⟩ := Jvm.LawKit.callS X5 hx (y := (⟨"java/lang/StringUTF16", "toBytes", "([CII)[B"⟩ : MethodName)) hown (mvT hZ (own_w hw 78 rfl)) (mvT hZ (own_w hw 79 rfl)) (mvT hZ (own_w hw 41 rfl)) (mvT hZ (own_w hw 80 rfl)) (by decide) (backOf (W := 0) (rm17_4 l Z a0 hw [] a1 ka vs dv c0 c1 c2 c3  T5.heap n0 (Nat.le_trans Z0 KH5.1) (V.keep KH5 (by simp)) hv0 hv1 hv2 hv3 (S__assertionsDisabled.ext (own_ext KH5)) (S_HI_BYTE_SHIFT.ext (own_ext KH5)) (S_LO_BYTE_SHIFT.ext (own_ext KH5))) hZ (own_w hw 80 rfl) (own_w hw 41 rfl) (by decide) (by decide)) (g := (mkF m 23 #[.val (.ref a1), .val (.int (0 : Int32)), .val (.int (4 : Int32)), .val (.ref b4), .val (.int (1 : Int32)), .unset] [(.int (4 : Int32)), (.int (0 : Int32)), (.ref a1)])) rfl (by rw [hml]; rfl) (argsL := [(.ref a1), (.int (0 : Int32)), (.int (4 : Int32))]) (rest := []) (lenOf pd_7_6 rfl) rfl (by show 2 * 0 + _ ≤ _; exact Nat.le_of_eq rfl) (hb hby d7_23) (fun _ _ => ⟨rfl, rfl, (by decide : 1 + 1 ≤ _), (by decide : 4 + 8 ≤ _)⟩)
  dsimp only [Pt.U, Pt.locs, Pt.cells, Pt.slots] at X6 l6 y6 z6 st6 hQ6
  subst l6 y6 z6
  obtain ⟨t6, kb6, rfl, N6q, K6q, gt6, A6q⟩ := hQ6
  have N6 := Fr.app N5 N6q
  have KH6 : Keep h0 T6.heap [] := KH5.trans K6q own_ws0
  obtain ⟨clx, Arx, qx, Sx, Mx, Hx, Gx⟩ := id A6q
  obtain ⟨_, _, ⟨T7, L7, k7, n7⟩, -, X7, ⟨Lc7, hQ7, l7, y7, z7⟩, st7⟩ := Jvm.LawKit.callS X6 hx (y := (⟨"java/lang/StringUTF16", "getChar", "([BI)C"⟩ : MethodName)) hown (mvT hZ (own_w hw 94 rfl)) (mvT hZ (own_w hw 95 rfl)) (mvT hZ (own_w hw 41 rfl)) (mvT hZ (own_w hw 96 rfl)) (by decide) (backOf (W := 0) (rm21 l Z a0 hw [] t6 (1 : Int32) (own_lo c1) clx (own_hi c1) T6.heap n0 (Nat.le_trans Z0 KH6.1) (S__assertionsDisabled.ext (own_ext KH6)) Arx (inb_of Sx ⟨by decide, by decide⟩) (Hx 2 (by rw [Sx]; decide)) (S_HI_BYTE_SHIFT.ext (own_ext KH6)) (inb_of Sx ⟨by decide, by decide⟩) (Hx 3 (by rw [Sx]; decide)) (S_LO_BYTE_SHIFT.ext (own_ext KH6)) (by decide)) hZ (own_w hw 96 rfl) (own_w hw 41 rfl) (by decide) (by decide)) (g := (mkF m 32 #[.val (.ref a1), .val (.int (0 : Int32)), .val (.int (4 : Int32)), .val (.ref b4), .val (.int (1 : Int32)), .val (.ref t6)] [(.int (1 : Int32)), (.ref t6)])) rfl (by rw [hml]; rfl) (argsL := [(.ref t6), (.int (1 : Int32))]) (rest := []) (lenOf pd_7_12 rfl) rfl (by show 2 * 0 + _ ≤ _; exact Nat.le_of_eq rfl) (hb hby d7_32) (fun _ _ => ⟨rfl, rfl, (by decide : 2 + 0 ≤ _), (by decide : 12 + 0 ≤ _)⟩)
  dsimp only [Pt.U, Pt.locs, Pt.cells, Pt.slots] at X7 l7 y7 z7 st7 hQ7
  subst l7 y7 z7
  obtain ⟨rfl, N7q, e7q⟩ := hQ7
  have N7 := Fr.app N6 N7q
  have K7q : Keep T6.heap T7.heap [] := own_keep e7q
  have KH7 : Keep h0 T7.heap [] := KH6.trans K7q own_ws0
  obtain ⟨fs, hr, hrun, hended, hW, hsame⟩ := X7.leave (v := some (.ref t6)) (fun h => by rw [Bd.returns] at h; cases h) (BodyLoose.notSynchronized Bd)
  refine ⟨_, _, pre0 _ ?_, hrun, hended, _, _, rfl, ?_, ⟨_, rfl⟩, hW, hsame.mono (by decide) (by decide)⟩
  · show Steps p.tables e below (s₁.setTop (mkF m 0 #[.val (.ref a1), .val (.int (0 : Int32)), .val (.int (4 : Int32)), .unset, .unset, .unset] [])) _
    refine XS.iloadN X0.here hx rfl (hb hby d7_0) rfl ?_
    show Steps p.tables e below (s₁.setTop (mkF m 1 #[.val (.ref a1), .val (.int (0 : Int32)), .val (.int (4 : Int32)), .unset, .unset, .unset] [(.int (4 : Int32))])) _
    refine st4 _ ?_
    show Steps p.tables e below (T4.setTop (mkF m 3 #[.val (.ref a1), .val (.int (0 : Int32)), .val (.int (4 : Int32)), .unset, .unset, .unset] [(.ref b4)])) _
    refine XS.astoreN X4.here hx rfl (hb hby d7_3) rfl rfl (l' := #[.val (.ref a1), .val (.int (0 : Int32)), .val (.int (4 : Int32)), .val (.ref b4), .unset, .unset]) rfl ?_
    refine XS.aloadN X4.here hx rfl (hb hby d7_4) rfl rfl ?_
    refine XS.iloadN X4.here hx rfl (hb hby d7_5) rfl ?_
    refine XS.aloadN X4.here hx rfl (hb hby d7_6) rfl rfl ?_
    refine XS.iconst X4.here hx rfl (hb hby d7_7) ?_
    refine XS.iloadN X4.here hx rfl (hb hby d7_8) rfl ?_
    show Steps p.tables e below (T4.setTop (mkF m 9 #[.val (.ref a1), .val (.int (0 : Int32)), .val (.int (4 : Int32)), .val (.ref b4), .unset, .unset] [(.int (4 : Int32)), (.int (0 : Int32)), (.ref b4), (.int (0 : Int32)), (.ref a1)])) _
    refine st5 _ ?_
    show Steps p.tables e below (T5.setTop (mkF m 12 #[.val (.ref a1), .val (.int (0 : Int32)), .val (.int (4 : Int32)), .val (.ref b4), .unset, .unset] [(.int (1 : Int32))])) _
    refine XS.istore X5.here hx rfl (hb hby d7_12) rfl (l' := #[.val (.ref a1), .val (.int (0 : Int32)), .val (.int (4 : Int32)), .val (.ref b4), .val (.int (1 : Int32)), .unset]) rfl ?_
    refine XS.iload X5.here hx rfl (hb hby d7_14) rfl ?_
    refine XS.iloadN X5.here hx rfl (hb hby d7_16) rfl ?_
    refine XS.icmpNo X5.here hx rfl (hb hby d7_17) rfl (feq ht17).1 ?_
    refine XS.aloadN X5.here hx rfl (hb hby d7_20) rfl rfl ?_
    refine XS.iloadN X5.here hx rfl (hb hby d7_21) rfl ?_
    refine XS.iloadN X5.here hx rfl (hb hby d7_22) rfl ?_
    show Steps p.tables e below (T5.setTop (mkF m 23 #[.val (.ref a1), .val (.int (0 : Int32)), .val (.int (4 : Int32)), .val (.ref b4), .val (.int (1 : Int32)), .unset] [(.int (4 : Int32)), (.int (0 : Int32)), (.ref a1)])) _
    refine st6 _ ?_
    show Steps p.tables e below (T6.setTop (mkF m 26 #[.val (.ref a1), .val (.int (0 : Int32)), .val (.int (4 : Int32)), .val (.ref b4), .val (.int (1 : Int32)), .unset] [(.ref t6)])) _
    refine XS.astore X6.here hx rfl (hb hby d7_26) rfl rfl (l' := #[.val (.ref a1), .val (.int (0 : Int32)), .val (.int (4 : Int32)), .val (.ref b4), .val (.int (1 : Int32)), .val (.ref t6)]) rfl ?_
    refine XS.aload X6.here hx rfl (hb hby d7_28) rfl rfl ?_
    refine XS.iload X6.here hx rfl (hb hby d7_30) rfl ?_
    show Steps p.tables e below (T6.setTop (mkF m 32 #[.val (.ref a1), .val (.int (0 : Int32)), .val (.int (4 : Int32)), .val (.ref b4), .val (.int (1 : Int32)), .val (.ref t6)] [(.int (1 : Int32)), (.ref t6)])) _
    refine st7 _ ?_
    show Steps p.tables e below (T7.setTop (mkF m 35 #[.val (.ref a1), .val (.int (0 : Int32)), .val (.int (4 : Int32)), .val (.ref b4), .val (.int (1 : Int32)), .val (.ref t6)] [(.int (own_gc (own_lo c1) (own_hi c1)))])) _
    refine XS.sipush X7.here hx rfl (hb hby d7_35) ?_
    refine XS.icmpYes X7.here hx rfl (pc0 := 38) (pc' := 54) rfl (hb hby d7_38) rfl (tlt ht38).2.2.1 (by decide) (by decide) ?_
    refine XS.aload X7.here hx rfl (hb hby d7_54) rfl rfl ?_
    show Steps p.tables e below (T7.setTop (mkF m 56 #[.val (.ref a1), .val (.int (0 : Int32)), .val (.int (4 : Int32)), .val (.ref b4), .val (.int (1 : Int32)), .val (.ref t6)] [(.ref t6)])) _
    jvm_step X7.here [X7.here.top, hx, (hb hby d7_56), X7.method', Bd.returns, Value.isRef, FieldType.isReference]
    first | (intro acts; rw [hr _ acts rfl rfl rfl]) | rw [hr _ _ rfl rfl rfl]
    exact Steps.refl _
  · show Q7_4 Z c0 c1 c2 c3 h0 n0 _ T7.heap _
    exact ⟨t6, kb6, rfl, N7, KH7, (Nat.le_trans KH5.1 gt6), (A6q.keep K7q (by simp))⟩
set_option maxRecDepth 65536 in
set_option maxHeartbeats 40000000 in
theorem rm7_4_2 (l : Launch) (Z : State) (a0 : Array Value) (hw : ∀ d ∈ tables_1, d.before a0 Z = true) (ws : List Jvm.Cond) (a1 : Addr) (ka : ClassId) (vs : List Value) (dv : Value) (c0 : Int32) (c1 : Int32) (c2 : Int32) (c3 : Int32) (h0 : Heap) (n0 : Nat) (Z0 : n0 ≤ h0.size) (V : Arv Z h0 a1 ka .char (4 : Int32) vs dv) (hv0 : vs.getD 0 dv = .int c0) (hv1 : vs.getD 1 dv = .int c1) (hv2 : vs.getD 2 dv = .int c2) (hv3 : vs.getD 3 dv = .int c3) (S__assertionsDisabled : Sta Z h0 "java/lang/StringUTF16" "$assertionsDisabled" "Z" (.int (1 : Int32))) (S_HI_BYTE_SHIFT : Sta Z h0 "java/lang/StringUTF16" "HI_BYTE_SHIFT" "I" (.int (0 : Int32))) (S_LO_BYTE_SHIFT : Sta Z h0 "java/lang/StringUTF16" "LO_BYTE_SHIFT" "I" (.int (8 : Int32))) (le0 : ¬ ((255 : Int32) < c0)) (le1 : ¬ ((255 : Int32) < c1)) (gt : (255 : Int32) < c2) (ht17 : ¬ ((2 : Int32) = (4 : Int32))) (ht38 : (255 : Int32) < (own_gc (own_lo c2) (own_hi c2))) :
    MetFree l (⟨"java/lang/StringUTF16", "compress", "([CII)[B"⟩ : MethodName) (head1 (Jvm.Cond.code (⟨"java/lang/StringUTF16", "compress", "([CII)[B"⟩ : MethodName) jdk_52_method_16_code 6 (some (.array .byte)) :: ws) ({ frames := 3, cells := 2, slots := 12, locals := 40 } : Room)) (fun a U => a = #[(.ref a1), (.int (0 : Int32)), (.int (4 : Int32))] ∧ Z.Warmed39 U.vm ∧ U.heap = h0) (fun _ _ _ _ _ => True) (fun _ U o U' => ∃ v L, o = .returned v ∧ Q7_4 Z c0 c1 c2 c3 h0 n0 v U'.heap L ∧ FrameEnd U o U' L ({ frames := 3, cells := 2, slots := 12, locals := 40 } : Room).cells ({ frames := 3, cells := 2, slots := 12, locals := 40 } : Room).slots) := by
  refine MetFree.of_bodySF (plainFor_of_name pn_7) hisR ?_
  intro p e s m args below meth c s₁ Bd hml0 hP hK
  obtain ⟨rfl, hZ, hh⟩ := hP
  have hx := Bd.exec
  have hby := Bd.bytes
  have hml : c.maxLocals = 6 := hml0
  have hown : s.vm.findClass "java/lang/StringUTF16" = some m.cls := findClass_of_methodNamed Bd.named
  have hnm := (name_of_methodNamed Bd.named Bd.method).1
  have X0 : Stand p l e ({ frames := 3, cells := 2, slots := 12, locals := 40 } : Room) s m #[(.ref a1), (.int (0 : Int32)), (.int (4 : Int32))] below meth c s₁ [] 0 0 := Stand.of_body Bd
  have e0 : s₁.heap = h0 := by rw [← hh, Bd.state]; rfl
  have N0 := Fr.nil n0
  have pre0 : ∀ t, Steps p.tables e below (s₁.setTop (mkF m 0 #[.val (.ref a1), .val (.int (0 : Int32)), .val (.int (4 : Int32)), .unset, .unset, .unset] [])) t → Steps p.tables e below (s₁.setTop (entryFrame m #[(.ref a1), (.int (0 : Int32)), (.int (4 : Int32))] 6)) t := fun t k => castTop (ef_7 m a1 (0 : Int32) (4 : Int32)) k
  obtain ⟨T4, h4, k4, X4, e4, E4, A4, st4⟩ := newP X0 hx hZ (own_w hw 17 rfl) e0 (g := (mkF m 1 #[.val (.ref a1), .val (.int (0 : Int32)), .val (.int (4 : Int32)), .unset, .unset, .unset] [(.int (4 : Int32))])) rfl (hb hby d7_1) rfl (by decide) (cap := 4) (by decide) (by decide) (by decide) (by decide)
  obtain ⟨b4, g4⟩ : ∃ z, z = h0.size := ⟨_, rfl⟩
  rw [← g4] at A4 st4
  have V_b4 := Arv.new A4 (by decide)
  have g_b4 : n0 ≤ b4 := Nat.le_trans Z0 (Nat.le_of_eq g4.symm)
  have sz_b4 : h0.size ≤ b4 := (Nat.le_trans (Keep.refl h0 []).1 (Nat.le_of_eq g4.symm))
  have K4 : Keep h0 h4 [] := (Keep.refl h0 []).ext E4
  obtain ⟨_, _, ⟨T5, L5, k5, n5⟩, -, X5, ⟨Lc5, hQ5, l5, y5, z5⟩, st5⟩ := Jvm.LawKit.callS X4 hx (y := (⟨"java/lang/StringUTF16", "compress", "([CI[BII)I"⟩ : MethodName)) hown (mvT hZ (own_w hw 43 rfl)) (mvT hZ (own_w hw 44 rfl)) (mvT hZ (own_w hw 41 rfl)) (mvT hZ (own_w hw 45 rfl)) (by decide) (backOf (W := 0) (rm8_2 l Z a0 hw [] a1 b4 (4 : Int32) ka vs dv (newA k4 .byte (4 : Int32)) c0 c1 c2  h4 n0 (Nat.le_trans Z0 K4.1) (V.ext E4) hv0 hv1 hv2 A4 (sz_new _ _ _) (own_ne V.lt g4) g_b4 (by decide) le0 le1 gt) hZ (own_w hw 45 rfl) (own_w hw 41 rfl) (by decide) (by decide)) (g := (mkF m 9 #[.val (.ref a1), .val (.int (0 : Int32)), .val (.int (4 : Int32)), .val (.ref b4), .unset, .unset] [(.int (4 : Int32)), (.int (0 : Int32)), (.ref b4), (.int (0 : Int32)), (.ref a1)])) rfl (by rw [hml]; rfl) (argsL := [(.ref a1), (.int (0 : Int32)), (.ref b4), (.int (0 : Int32)), (.int (4 : Int32))]) (rest := []) (lenOf pd_7_7 rfl) rfl (by show 2 * 0 + _ ≤ _; exact Nat.le_of_eq rfl) (hb hby d7_9) (fun _ _ => ⟨rfl, e4, (by decide : 1 + 0 ≤ _), (by decide : 4 + 0 ≤ _)⟩)
  dsimp only [Pt.U, Pt.locs, Pt.cells, Pt.slots] at X5 l5 y5 z5 st5 hQ5
  subst l5 y5 z5
  obtain ⟨rfl, N5q, K5q⟩ := hQ5
  have N5 := Fr.app N0 N5q
  have KH5 : Keep h0 T5.heap [] := K4.trans K5q (own_ws1 sz_b4)
  obtain ⟨_, _, ⟨T6, L6, k6, n6⟩, -, X6, ⟨Lc6, hQ6, l6, y6, z6⟩, st6⟩ := Jvm.LawKit.callS X5 hx (y := (⟨"java/lang/StringUTF16", "toBytes", "([CII)[B"⟩ : MethodName)) hown (mvT hZ (own_w hw 78 rfl)) (mvT hZ (own_w hw 79 rfl)) (mvT hZ (own_w hw 41 rfl)) (mvT hZ (own_w hw 80 rfl)) (by decide) (backOf (W := 0) (rm17_4 l Z a0 hw [] a1 ka vs dv c0 c1 c2 c3  T5.heap n0 (Nat.le_trans Z0 KH5.1) (V.keep KH5 (by simp)) hv0 hv1 hv2 hv3 (S__assertionsDisabled.ext (own_ext KH5)) (S_HI_BYTE_SHIFT.ext (own_ext KH5)) (S_LO_BYTE_SHIFT.ext (own_ext KH5))) hZ (own_w hw 80 rfl) (own_w hw 41 rfl) (by decide) (by decide)) (g := (mkF m 23 #[.val (.ref a1), .val (.int (0 : Int32)), .val (.int (4 : Int32)), .val (.ref b4), .val (.int (2 : Int32)), .unset] [(.int (4 : Int32)), (.int (0 : Int32)), (.ref a1)])) rfl (by rw [hml]; rfl) (argsL := [(.ref a1), (.int (0 : Int32)), (.int (4 : Int32))]) (rest := []) (lenOf pd_7_6 rfl) rfl (by show 2 * 0 + _ ≤ _; exact Nat.le_of_eq rfl) (hb hby d7_23) (fun _ _ => ⟨rfl, rfl, (by decide : 1 + 1 ≤ _), (by decide : 4 + 8 ≤ _)⟩)
  dsimp only [Pt.U, Pt.locs, Pt.cells, Pt.slots] at X6 l6 y6 z6 st6 hQ6
  subst l6 y6 z6
  obtain ⟨t6, kb6, rfl, N6q, K6q, gt6, A6q⟩ := hQ6
  have N6 := Fr.app N5 N6q
  have KH6 : Keep h0 T6.heap [] := KH5.trans K6q own_ws0
  obtain ⟨clx, Arx, qx, Sx, Mx, Hx, Gx⟩ := id A6q
  obtain ⟨_, _, ⟨T7, L7, k7, n7⟩, -, X7, ⟨Lc7, hQ7, l7, y7, z7⟩, st7⟩ := Jvm.LawKit.callS X6 hx (y := (⟨"java/lang/StringUTF16", "getChar", "([BI)C"⟩ : MethodName)) hown (mvT hZ (own_w hw 94 rfl)) (mvT hZ (own_w hw 95 rfl)) (mvT hZ (own_w hw 41 rfl)) (mvT hZ (own_w hw 96 rfl)) (by decide) (backOf (W := 0) (rm21 l Z a0 hw [] t6 (2 : Int32) (own_lo c2) clx (own_hi c2) T6.heap n0 (Nat.le_trans Z0 KH6.1) (S__assertionsDisabled.ext (own_ext KH6)) Arx (inb_of Sx ⟨by decide, by decide⟩) (Hx 4 (by rw [Sx]; decide)) (S_HI_BYTE_SHIFT.ext (own_ext KH6)) (inb_of Sx ⟨by decide, by decide⟩) (Hx 5 (by rw [Sx]; decide)) (S_LO_BYTE_SHIFT.ext (own_ext KH6)) (by decide)) hZ (own_w hw 96 rfl) (own_w hw 41 rfl) (by decide) (by decide)) (g := (mkF m 32 #[.val (.ref a1), .val (.int (0 : Int32)), .val (.int (4 : Int32)), .val (.ref b4), .val (.int (2 : Int32)), .val (.ref t6)] [(.int (2 : Int32)), (.ref t6)])) rfl (by rw [hml]; rfl) (argsL := [(.ref t6), (.int (2 : Int32))]) (rest := []) (lenOf pd_7_12 rfl) rfl (by show 2 * 0 + _ ≤ _; exact Nat.le_of_eq rfl) (hb hby d7_32) (fun _ _ => ⟨rfl, rfl, (by decide : 2 + 0 ≤ _), (by decide : 12 + 0 ≤ _)⟩)
  dsimp only [Pt.U, Pt.locs, Pt.cells, Pt.slots] at X7 l7 y7 z7 st7 hQ7
  subst l7 y7 z7
  obtain ⟨rfl, N7q, e7q⟩ := hQ7
  have N7 := Fr.app N6 N7q
  have K7q : Keep T6.heap T7.heap [] := own_keep e7q
  have KH7 : Keep h0 T7.heap [] := KH6.trans K7q own_ws0
  obtain ⟨fs, hr, hrun, hended, hW, hsame⟩ := X7.leave (v := some (.ref t6)) (fun h => by rw [Bd.returns] at h; cases h) (BodyLoose.notSynchronized Bd)
  refine ⟨_, _, pre0 _ ?_, hrun, hended, _, _, rfl, ?_, ⟨_, rfl⟩, hW, hsame.mono (by decide) (by decide)⟩
  · show Steps p.tables e below (s₁.setTop (mkF m 0 #[.val (.ref a1), .val (.int (0 : Int32)), .val (.int (4 : Int32)), .unset, .unset, .unset] [])) _
    refine XS.iloadN X0.here hx rfl (hb hby d7_0) rfl ?_
    show Steps p.tables e below (s₁.setTop (mkF m 1 #[.val (.ref a1), .val (.int (0 : Int32)), .val (.int (4 : Int32)), .unset, .unset, .unset] [(.int (4 : Int32))])) _
    refine st4 _ ?_
    show Steps p.tables e below (T4.setTop (mkF m 3 #[.val (.ref a1), .val (.int (0 : Int32)), .val (.int (4 : Int32)), .unset, .unset, .unset] [(.ref b4)])) _
    refine XS.astoreN X4.here hx rfl (hb hby d7_3) rfl rfl (l' := #[.val (.ref a1), .val (.int (0 : Int32)), .val (.int (4 : Int32)), .val (.ref b4), .unset, .unset]) rfl ?_
    refine XS.aloadN X4.here hx rfl (hb hby d7_4) rfl rfl ?_
    refine XS.iloadN X4.here hx rfl (hb hby d7_5) rfl ?_
    refine XS.aloadN X4.here hx rfl (hb hby d7_6) rfl rfl ?_
    refine XS.iconst X4.here hx rfl (hb hby d7_7) ?_
    refine XS.iloadN X4.here hx rfl (hb hby d7_8) rfl ?_
    show Steps p.tables e below (T4.setTop (mkF m 9 #[.val (.ref a1), .val (.int (0 : Int32)), .val (.int (4 : Int32)), .val (.ref b4), .unset, .unset] [(.int (4 : Int32)), (.int (0 : Int32)), (.ref b4), (.int (0 : Int32)), (.ref a1)])) _
    refine st5 _ ?_
    show Steps p.tables e below (T5.setTop (mkF m 12 #[.val (.ref a1), .val (.int (0 : Int32)), .val (.int (4 : Int32)), .val (.ref b4), .unset, .unset] [(.int (2 : Int32))])) _
    refine XS.istore X5.here hx rfl (hb hby d7_12) rfl (l' := #[.val (.ref a1), .val (.int (0 : Int32)), .val (.int (4 : Int32)), .val (.ref b4), .val (.int (2 : Int32)), .unset]) rfl ?_
    refine XS.iload X5.here hx rfl (hb hby d7_14) rfl ?_
    refine XS.iloadN X5.here hx rfl (hb hby d7_16) rfl ?_
    refine XS.icmpNo X5.here hx rfl (hb hby d7_17) rfl (feq ht17).1 ?_
    refine XS.aloadN X5.here hx rfl (hb hby d7_20) rfl rfl ?_
    refine XS.iloadN X5.here hx rfl (hb hby d7_21) rfl ?_
    refine XS.iloadN X5.here hx rfl (hb hby d7_22) rfl ?_
    show Steps p.tables e below (T5.setTop (mkF m 23 #[.val (.ref a1), .val (.int (0 : Int32)), .val (.int (4 : Int32)), .val (.ref b4), .val (.int (2 : Int32)), .unset] [(.int (4 : Int32)), (.int (0 : Int32)), (.ref a1)])) _
    refine st6 _ ?_
    show Steps p.tables e below (T6.setTop (mkF m 26 #[.val (.ref a1), .val (.int (0 : Int32)), .val (.int (4 : Int32)), .val (.ref b4), .val (.int (2 : Int32)), .unset] [(.ref t6)])) _
    refine XS.astore X6.here hx rfl (hb hby d7_26) rfl rfl (l' := #[.val (.ref a1), .val (.int (0 : Int32)), .val (.int (4 : Int32)), .val (.ref b4), .val (.int (2 : Int32)), .val (.ref t6)]) rfl ?_
    refine XS.aload X6.here hx rfl (hb hby d7_28) rfl rfl ?_
    refine XS.iload X6.here hx rfl (hb hby d7_30) rfl ?_
    show Steps p.tables e below (T6.setTop (mkF m 32 #[.val (.ref a1), .val (.int (0 : Int32)), .val (.int (4 : Int32)), .val (.ref b4), .val (.int (2 : Int32)), .val (.ref t6)] [(.int (2 : Int32)), (.ref t6)])) _
    refine st7 _ ?_
    show Steps p.tables e below (T7.setTop (mkF m 35 #[.val (.ref a1), .val (.int (0 : Int32)), .val (.int (4 : Int32)), .val (.ref b4), .val (.int (2 : Int32)), .val (.ref t6)] [(.int (own_gc (own_lo c2) (own_hi c2)))])) _
    refine XS.sipush X7.here hx rfl (hb hby d7_35) ?_
    refine XS.icmpYes X7.here hx rfl (pc0 := 38) (pc' := 54) rfl (hb hby d7_38) rfl (tlt ht38).2.2.1 (by decide) (by decide) ?_
    refine XS.aload X7.here hx rfl (hb hby d7_54) rfl rfl ?_
    show Steps p.tables e below (T7.setTop (mkF m 56 #[.val (.ref a1), .val (.int (0 : Int32)), .val (.int (4 : Int32)), .val (.ref b4), .val (.int (2 : Int32)), .val (.ref t6)] [(.ref t6)])) _
    jvm_step X7.here [X7.here.top, hx, (hb hby d7_56), X7.method', Bd.returns, Value.isRef, FieldType.isReference]
    first | (intro acts; rw [hr _ acts rfl rfl rfl]) | rw [hr _ _ rfl rfl rfl]
    exact Steps.refl _
  · show Q7_4 Z c0 c1 c2 c3 h0 n0 _ T7.heap _
    exact ⟨t6, kb6, rfl, N7, KH7, (Nat.le_trans KH5.1 gt6), (A6q.keep K7q (by simp))⟩
set_option maxRecDepth 65536 in
set_option maxHeartbeats 40000000 in
theorem rm7_4_3 (l : Launch) (Z : State) (a0 : Array Value) (hw : ∀ d ∈ tables_1, d.before a0 Z = true) (ws : List Jvm.Cond) (a1 : Addr) (ka : ClassId) (vs : List Value) (dv : Value) (c0 : Int32) (c1 : Int32) (c2 : Int32) (c3 : Int32) (h0 : Heap) (n0 : Nat) (Z0 : n0 ≤ h0.size) (V : Arv Z h0 a1 ka .char (4 : Int32) vs dv) (hv0 : vs.getD 0 dv = .int c0) (hv1 : vs.getD 1 dv = .int c1) (hv2 : vs.getD 2 dv = .int c2) (hv3 : vs.getD 3 dv = .int c3) (S__assertionsDisabled : Sta Z h0 "java/lang/StringUTF16" "$assertionsDisabled" "Z" (.int (1 : Int32))) (S_HI_BYTE_SHIFT : Sta Z h0 "java/lang/StringUTF16" "HI_BYTE_SHIFT" "I" (.int (0 : Int32))) (S_LO_BYTE_SHIFT : Sta Z h0 "java/lang/StringUTF16" "LO_BYTE_SHIFT" "I" (.int (8 : Int32))) (le0 : ¬ ((255 : Int32) < c0)) (le1 : ¬ ((255 : Int32) < c1)) (le2 : ¬ ((255 : Int32) < c2)) (gt : (255 : Int32) < c3) (ht17 : ¬ ((3 : Int32) = (4 : Int32))) (ht38 : (255 : Int32) < (own_gc (own_lo c3) (own_hi c3))) :
    MetFree l (⟨"java/lang/StringUTF16", "compress", "([CII)[B"⟩ : MethodName) (head1 (Jvm.Cond.code (⟨"java/lang/StringUTF16", "compress", "([CII)[B"⟩ : MethodName) jdk_52_method_16_code 6 (some (.array .byte)) :: ws) ({ frames := 3, cells := 2, slots := 12, locals := 40 } : Room)) (fun a U => a = #[(.ref a1), (.int (0 : Int32)), (.int (4 : Int32))] ∧ Z.Warmed39 U.vm ∧ U.heap = h0) (fun _ _ _ _ _ => True) (fun _ U o U' => ∃ v L, o = .returned v ∧ Q7_4 Z c0 c1 c2 c3 h0 n0 v U'.heap L ∧ FrameEnd U o U' L ({ frames := 3, cells := 2, slots := 12, locals := 40 } : Room).cells ({ frames := 3, cells := 2, slots := 12, locals := 40 } : Room).slots) := by
  refine MetFree.of_bodySF (plainFor_of_name pn_7) hisR ?_
  intro p e s m args below meth c s₁ Bd hml0 hP hK
  obtain ⟨rfl, hZ, hh⟩ := hP
  have hx := Bd.exec
  have hby := Bd.bytes
  have hml : c.maxLocals = 6 := hml0
  have hown : s.vm.findClass "java/lang/StringUTF16" = some m.cls := findClass_of_methodNamed Bd.named
  have hnm := (name_of_methodNamed Bd.named Bd.method).1
  have X0 : Stand p l e ({ frames := 3, cells := 2, slots := 12, locals := 40 } : Room) s m #[(.ref a1), (.int (0 : Int32)), (.int (4 : Int32))] below meth c s₁ [] 0 0 := Stand.of_body Bd
  have e0 : s₁.heap = h0 := by rw [← hh, Bd.state]; rfl
  have N0 := Fr.nil n0
  have pre0 : ∀ t, Steps p.tables e below (s₁.setTop (mkF m 0 #[.val (.ref a1), .val (.int (0 : Int32)), .val (.int (4 : Int32)), .unset, .unset, .unset] [])) t → Steps p.tables e below (s₁.setTop (entryFrame m #[(.ref a1), (.int (0 : Int32)), (.int (4 : Int32))] 6)) t := fun t k => castTop (ef_7 m a1 (0 : Int32) (4 : Int32)) k
  obtain ⟨T4, h4, k4, X4, e4, E4, A4, st4⟩ := newP X0 hx hZ (own_w hw 17 rfl) e0 (g := (mkF m 1 #[.val (.ref a1), .val (.int (0 : Int32)), .val (.int (4 : Int32)), .unset, .unset, .unset] [(.int (4 : Int32))])) rfl (hb hby d7_1) rfl (by decide) (cap := 4) (by decide) (by decide) (by decide) (by decide)
  obtain ⟨b4, g4⟩ : ∃ z, z = h0.size := ⟨_, rfl⟩
  rw [← g4] at A4 st4
  have V_b4 := Arv.new A4 (by decide)
  have g_b4 : n0 ≤ b4 := Nat.le_trans Z0 (Nat.le_of_eq g4.symm)
  have sz_b4 : h0.size ≤ b4 := (Nat.le_trans (Keep.refl h0 []).1 (Nat.le_of_eq g4.symm))
  have K4 : Keep h0 h4 [] := (Keep.refl h0 []).ext E4
  obtain ⟨_, _, ⟨T5, L5, k5, n5⟩, -, X5, ⟨Lc5, hQ5, l5, y5, z5⟩, st5⟩ := Jvm.LawKit.callS X4 hx (y := (⟨"java/lang/StringUTF16", "compress", "([CI[BII)I"⟩ : MethodName)) hown (mvT hZ (own_w hw 43 rfl)) (mvT hZ (own_w hw 44 rfl)) (mvT hZ (own_w hw 41 rfl)) (mvT hZ (own_w hw 45 rfl)) (by decide) (backOf (W := 0) (rm8_3 l Z a0 hw [] a1 b4 (4 : Int32) ka vs dv (newA k4 .byte (4 : Int32)) c0 c1 c2 c3  h4 n0 (Nat.le_trans Z0 K4.1) (V.ext E4) hv0 hv1 hv2 hv3 A4 (sz_new _ _ _) (own_ne V.lt g4) g_b4 (by decide) le0 le1 le2 gt) hZ (own_w hw 45 rfl) (own_w hw 41 rfl) (by decide) (by decide)) (g := (mkF m 9 #[.val (.ref a1), .val (.int (0 : Int32)), .val (.int (4 : Int32)), .val (.ref b4), .unset, .unset] [(.int (4 : Int32)), (.int (0 : Int32)), (.ref b4), (.int (0 : Int32)), (.ref a1)])) rfl (by rw [hml]; rfl) (argsL := [(.ref a1), (.int (0 : Int32)), (.ref b4), (.int (0 : Int32)), (.int (4 : Int32))]) (rest := []) (lenOf pd_7_7 rfl) rfl (by show 2 * 0 + _ ≤ _; exact Nat.le_of_eq rfl) (hb hby d7_9) (fun _ _ => ⟨rfl, e4, (by decide : 1 + 0 ≤ _), (by decide : 4 + 0 ≤ _)⟩)
  dsimp only [Pt.U, Pt.locs, Pt.cells, Pt.slots] at X5 l5 y5 z5 st5 hQ5
  subst l5 y5 z5
  obtain ⟨rfl, N5q, K5q⟩ := hQ5
  have N5 := Fr.app N0 N5q
  have KH5 : Keep h0 T5.heap [] := K4.trans K5q (own_ws1 sz_b4)
  obtain ⟨_, _, ⟨T6, L6, k6, n6⟩, -, X6, ⟨Lc6, hQ6, l6, y6, z6⟩, st6⟩ := Jvm.LawKit.callS X5 hx (y := (⟨"java/lang/StringUTF16", "toBytes", "([CII)[B"⟩ : MethodName)) hown (mvT hZ (own_w hw 78 rfl)) (mvT hZ (own_w hw 79 rfl)) (mvT hZ (own_w hw 41 rfl)) (mvT hZ (own_w hw 80 rfl)) (by decide) (backOf (W := 0) (rm17_4 l Z a0 hw [] a1 ka vs dv c0 c1 c2 c3  T5.heap n0 (Nat.le_trans Z0 KH5.1) (V.keep KH5 (by simp)) hv0 hv1 hv2 hv3 (S__assertionsDisabled.ext (own_ext KH5)) (S_HI_BYTE_SHIFT.ext (own_ext KH5)) (S_LO_BYTE_SHIFT.ext (own_ext KH5))) hZ (own_w hw 80 rfl) (own_w hw 41 rfl) (by decide) (by decide)) (g := (mkF m 23 #[.val (.ref a1), .val (.int (0 : Int32)), .val (.int (4 : Int32)), .val (.ref b4), .val (.int (3 : Int32)), .unset] [(.int (4 : Int32)), (.int (0 : Int32)), (.ref a1)])) rfl (by rw [hml]; rfl) (argsL := [(.ref a1), (.int (0 : Int32)), (.int (4 : Int32))]) (rest := []) (lenOf pd_7_6 rfl) rfl (by show 2 * 0 + _ ≤ _; exact Nat.le_of_eq rfl) (hb hby d7_23) (fun _ _ => ⟨rfl, rfl, (by decide : 1 + 1 ≤ _), (by decide : 4 + 8 ≤ _)⟩)
  dsimp only [Pt.U, Pt.locs, Pt.cells, Pt.slots] at X6 l6 y6 z6 st6 hQ6
  subst l6 y6 z6
  obtain ⟨t6, kb6, rfl, N6q, K6q, gt6, A6q⟩ := hQ6
  have N6 := Fr.app N5 N6q
  have KH6 : Keep h0 T6.heap [] := KH5.trans K6q own_ws0
  obtain ⟨clx, Arx, qx, Sx, Mx, Hx, Gx⟩ := id A6q
  obtain ⟨_, _, ⟨T7, L7, k7, n7⟩, -, X7, ⟨Lc7, hQ7, l7, y7, z7⟩, st7⟩ := Jvm.LawKit.callS X6 hx (y := (⟨"java/lang/StringUTF16", "getChar", "([BI)C"⟩ : MethodName)) hown (mvT hZ (own_w hw 94 rfl)) (mvT hZ (own_w hw 95 rfl)) (mvT hZ (own_w hw 41 rfl)) (mvT hZ (own_w hw 96 rfl)) (by decide) (backOf (W := 0) (rm21 l Z a0 hw [] t6 (3 : Int32) (own_lo c3) clx (own_hi c3) T6.heap n0 (Nat.le_trans Z0 KH6.1) (S__assertionsDisabled.ext (own_ext KH6)) Arx (inb_of Sx ⟨by decide, by decide⟩) (Hx 6 (by rw [Sx]; decide)) (S_HI_BYTE_SHIFT.ext (own_ext KH6)) (inb_of Sx ⟨by decide, by decide⟩) (Hx 7 (by rw [Sx]; decide)) (S_LO_BYTE_SHIFT.ext (own_ext KH6)) (by decide)) hZ (own_w hw 96 rfl) (own_w hw 41 rfl) (by decide) (by decide)) (g := (mkF m 32 #[.val (.ref a1), .val (.int (0 : Int32)), .val (.int (4 : Int32)), .val (.ref b4), .val (.int (3 : Int32)), .val (.ref t6)] [(.int (3 : Int32)), (.ref t6)])) rfl (by rw [hml]; rfl) (argsL := [(.ref t6), (.int (3 : Int32))]) (rest := []) (lenOf pd_7_12 rfl) rfl (by show 2 * 0 + _ ≤ _; exact Nat.le_of_eq rfl) (hb hby d7_32) (fun _ _ => ⟨rfl, rfl, (by decide : 2 + 0 ≤ _), (by decide : 12 + 0 ≤ _)⟩)
  dsimp only [Pt.U, Pt.locs, Pt.cells, Pt.slots] at X7 l7 y7 z7 st7 hQ7
  subst l7 y7 z7
  obtain ⟨rfl, N7q, e7q⟩ := hQ7
  have N7 := Fr.app N6 N7q
  have K7q : Keep T6.heap T7.heap [] := own_keep e7q
  have KH7 : Keep h0 T7.heap [] := KH6.trans K7q own_ws0
  obtain ⟨fs, hr, hrun, hended, hW, hsame⟩ := X7.leave (v := some (.ref t6)) (fun h => by rw [Bd.returns] at h; cases h) (BodyLoose.notSynchronized Bd)
  refine ⟨_, _, pre0 _ ?_, hrun, hended, _, _, rfl, ?_, ⟨_, rfl⟩, hW, hsame.mono (by decide) (by decide)⟩
  · show Steps p.tables e below (s₁.setTop (mkF m 0 #[.val (.ref a1), .val (.int (0 : Int32)), .val (.int (4 : Int32)), .unset, .unset, .unset] [])) _
    refine XS.iloadN X0.here hx rfl (hb hby d7_0) rfl ?_
    show Steps p.tables e below (s₁.setTop (mkF m 1 #[.val (.ref a1), .val (.int (0 : Int32)), .val (.int (4 : Int32)), .unset, .unset, .unset] [(.int (4 : Int32))])) _
    refine st4 _ ?_
    show Steps p.tables e below (T4.setTop (mkF m 3 #[.val (.ref a1), .val (.int (0 : Int32)), .val (.int (4 : Int32)), .unset, .unset, .unset] [(.ref b4)])) _
    refine XS.astoreN X4.here hx rfl (hb hby d7_3) rfl rfl (l' := #[.val (.ref a1), .val (.int (0 : Int32)), .val (.int (4 : Int32)), .val (.ref b4), .unset, .unset]) rfl ?_
    refine XS.aloadN X4.here hx rfl (hb hby d7_4) rfl rfl ?_
    refine XS.iloadN X4.here hx rfl (hb hby d7_5) rfl ?_
    refine XS.aloadN X4.here hx rfl (hb hby d7_6) rfl rfl ?_
    refine XS.iconst X4.here hx rfl (hb hby d7_7) ?_
    refine XS.iloadN X4.here hx rfl (hb hby d7_8) rfl ?_
    show Steps p.tables e below (T4.setTop (mkF m 9 #[.val (.ref a1), .val (.int (0 : Int32)), .val (.int (4 : Int32)), .val (.ref b4), .unset, .unset] [(.int (4 : Int32)), (.int (0 : Int32)), (.ref b4), (.int (0 : Int32)), (.ref a1)])) _
    refine st5 _ ?_
    show Steps p.tables e below (T5.setTop (mkF m 12 #[.val (.ref a1), .val (.int (0 : Int32)), .val (.int (4 : Int32)), .val (.ref b4), .unset, .unset] [(.int (3 : Int32))])) _
    refine XS.istore X5.here hx rfl (hb hby d7_12) rfl (l' := #[.val (.ref a1), .val (.int (0 : Int32)), .val (.int (4 : Int32)), .val (.ref b4), .val (.int (3 : Int32)), .unset]) rfl ?_
    refine XS.iload X5.here hx rfl (hb hby d7_14) rfl ?_
    refine XS.iloadN X5.here hx rfl (hb hby d7_16) rfl ?_
    refine XS.icmpNo X5.here hx rfl (hb hby d7_17) rfl (feq ht17).1 ?_
    refine XS.aloadN X5.here hx rfl (hb hby d7_20) rfl rfl ?_
    refine XS.iloadN X5.here hx rfl (hb hby d7_21) rfl ?_
    refine XS.iloadN X5.here hx rfl (hb hby d7_22) rfl ?_
    show Steps p.tables e below (T5.setTop (mkF m 23 #[.val (.ref a1), .val (.int (0 : Int32)), .val (.int (4 : Int32)), .val (.ref b4), .val (.int (3 : Int32)), .unset] [(.int (4 : Int32)), (.int (0 : Int32)), (.ref a1)])) _
    refine st6 _ ?_
    show Steps p.tables e below (T6.setTop (mkF m 26 #[.val (.ref a1), .val (.int (0 : Int32)), .val (.int (4 : Int32)), .val (.ref b4), .val (.int (3 : Int32)), .unset] [(.ref t6)])) _
    refine XS.astore X6.here hx rfl (hb hby d7_26) rfl rfl (l' := #[.val (.ref a1), .val (.int (0 : Int32)), .val (.int (4 : Int32)), .val (.ref b4), .val (.int (3 : Int32)), .val (.ref t6)]) rfl ?_
    refine XS.aload X6.here hx rfl (hb hby d7_28) rfl rfl ?_
    refine XS.iload X6.here hx rfl (hb hby d7_30) rfl ?_
    show Steps p.tables e below (T6.setTop (mkF m 32 #[.val (.ref a1), .val (.int (0 : Int32)), .val (.int (4 : Int32)), .val (.ref b4), .val (.int (3 : Int32)), .val (.ref t6)] [(.int (3 : Int32)), (.ref t6)])) _
    refine st7 _ ?_
    show Steps p.tables e below (T7.setTop (mkF m 35 #[.val (.ref a1), .val (.int (0 : Int32)), .val (.int (4 : Int32)), .val (.ref b4), .val (.int (3 : Int32)), .val (.ref t6)] [(.int (own_gc (own_lo c3) (own_hi c3)))])) _
    refine XS.sipush X7.here hx rfl (hb hby d7_35) ?_
    refine XS.icmpYes X7.here hx rfl (pc0 := 38) (pc' := 54) rfl (hb hby d7_38) rfl (tlt ht38).2.2.1 (by decide) (by decide) ?_
    refine XS.aload X7.here hx rfl (hb hby d7_54) rfl rfl ?_
    show Steps p.tables e below (T7.setTop (mkF m 56 #[.val (.ref a1), .val (.int (0 : Int32)), .val (.int (4 : Int32)), .val (.ref b4), .val (.int (3 : Int32)), .val (.ref t6)] [(.ref t6)])) _
    jvm_step X7.here [X7.here.top, hx, (hb hby d7_56), X7.method', Bd.returns, Value.isRef, FieldType.isReference]
    first | (intro acts; rw [hr _ acts rfl rfl rfl]) | rw [hr _ _ rfl rfl rfl]
    exact Steps.refl _
  · show Q7_4 Z c0 c1 c2 c3 h0 n0 _ T7.heap _
    exact ⟨t6, kb6, rfl, N7, KH7, (Nat.le_trans KH5.1 gt6), (A6q.keep K7q (by simp))⟩
set_option maxRecDepth 65536 in
set_option maxHeartbeats 40000000 in
theorem rm7_4 (l : Launch) (Z : State) (a0 : Array Value) (hw : ∀ d ∈ tables_1, d.before a0 Z = true) (ws : List Jvm.Cond) (a1 : Addr) (ka : ClassId) (vs : List Value) (dv : Value) (c0 : Int32) (c1 : Int32) (c2 : Int32) (c3 : Int32) (h0 : Heap) (n0 : Nat) (Z0 : n0 ≤ h0.size) (V : Arv Z h0 a1 ka .char (4 : Int32) vs dv) (hv0 : vs.getD 0 dv = .int c0) (hv1 : vs.getD 1 dv = .int c1) (hv2 : vs.getD 2 dv = .int c2) (hv3 : vs.getD 3 dv = .int c3) (S__assertionsDisabled : Sta Z h0 "java/lang/StringUTF16" "$assertionsDisabled" "Z" (.int (1 : Int32))) (S_HI_BYTE_SHIFT : Sta Z h0 "java/lang/StringUTF16" "HI_BYTE_SHIFT" "I" (.int (0 : Int32))) (S_LO_BYTE_SHIFT : Sta Z h0 "java/lang/StringUTF16" "LO_BYTE_SHIFT" "I" (.int (8 : Int32))) (f0 : ¬ c0 < 0 ∧ ¬ (65535 : Int32) < c0) (f1 : ¬ c1 < 0 ∧ ¬ (65535 : Int32) < c1) (f2 : ¬ c2 < 0 ∧ ¬ (65535 : Int32) < c2) (f3 : ¬ c3 < 0 ∧ ¬ (65535 : Int32) < c3) (hbig : (255 : Int32) < c0 ∨ (255 : Int32) < c1 ∨ (255 : Int32) < c2 ∨ (255 : Int32) < c3) :
    MetFree l (⟨"java/lang/StringUTF16", "compress", "([CII)[B"⟩ : MethodName) (head1 (Jvm.Cond.code (⟨"java/lang/StringUTF16", "compress", "([CII)[B"⟩ : MethodName) jdk_52_method_16_code 6 (some (.array .byte)) :: ws) ({ frames := 3, cells := 2, slots := 12, locals := 40 } : Room)) (fun a U => a = #[(.ref a1), (.int (0 : Int32)), (.int (4 : Int32))] ∧ Z.Warmed39 U.vm ∧ U.heap = h0) (fun _ _ _ _ _ => True) (fun _ U o U' => ∃ v L, o = .returned v ∧ Q7_4 Z c0 c1 c2 c3 h0 n0 v U'.heap L ∧ FrameEnd U o U' L ({ frames := 3, cells := 2, slots := 12, locals := 40 } : Room).cells ({ frames := 3, cells := 2, slots := 12, locals := 40 } : Room).slots) := by
  by_cases b0 : (255 : Int32) < c0
  · exact rm7_4_0 l Z a0 hw ws a1 ka vs dv c0 c1 c2 c3 h0 n0 Z0 V hv0 hv1 hv2 hv3 S__assertionsDisabled S_HI_BYTE_SHIFT S_LO_BYTE_SHIFT  b0 (by decide) (by rw [own_gcU _ f0]; exact b0)
  · skip
    by_cases b1 : (255 : Int32) < c1
    · exact rm7_4_1 l Z a0 hw ws a1 ka vs dv c0 c1 c2 c3 h0 n0 Z0 V hv0 hv1 hv2 hv3 S__assertionsDisabled S_HI_BYTE_SHIFT S_LO_BYTE_SHIFT b0 b1 (by decide) (by rw [own_gcU _ f1]; exact b1)
    · skip
      by_cases b2 : (255 : Int32) < c2
      · exact rm7_4_2 l Z a0 hw ws a1 ka vs dv c0 c1 c2 c3 h0 n0 Z0 V hv0 hv1 hv2 hv3 S__assertionsDisabled S_HI_BYTE_SHIFT S_LO_BYTE_SHIFT b0 b1 b2 (by decide) (by rw [own_gcU _ f2]; exact b2)
      · skip
        have b3 : (255 : Int32) < c3 := by rcases hbig with q | q | q | q <;> first | assumption | contradiction
        exact rm7_4_3 l Z a0 hw ws a1 ka vs dv c0 c1 c2 c3 h0 n0 Z0 V hv0 hv1 hv2 hv3 S__assertionsDisabled S_HI_BYTE_SHIFT S_LO_BYTE_SHIFT b0 b1 b2 b3 (by decide) (by rw [own_gcU _ f3]; exact b3)
def Q2_4 (Z : State) (a1 : Addr) (c0 : Int32) (c1 : Int32) (c2 : Int32) (c3 : Int32) (h0 : Heap) (n0 : Nat) (v : Option Value) (h : Heap) (L : List Loc) : Prop := v = none ∧ Fr n0 L ∧ Keep h0 h [a1] ∧ ∃ (t : Addr) (kb : ClassId), Exa Z h a1 "java/lang/String" ∧ Fld Z h a1 "java/lang/String" "value" "[B" (.ref t) ∧ Fld Z h a1 "java/lang/String" "coder" "B" (.int (1 : Int32)) ∧ Arv Z h t kb .byte (8 : Int32) [Value.int (own_lo c0), Value.int (own_hi c0), Value.int (own_lo c1), Value.int (own_hi c1), Value.int (own_lo c2), Value.int (own_hi c2), Value.int (own_lo c3), Value.int (own_hi c3)] (.int (0 : Int32))
def Q1_4 (Z : State) (a1 : Addr) (c0 : Int32) (c1 : Int32) (c2 : Int32) (c3 : Int32) (h0 : Heap) (n0 : Nat) (v : Option Value) (h : Heap) (L : List Loc) : Prop := v = none ∧ Fr n0 L ∧ Keep h0 h [a1] ∧ ∃ (t : Addr) (kb : ClassId), Exa Z h a1 "java/lang/String" ∧ Fld Z h a1 "java/lang/String" "value" "[B" (.ref t) ∧ Fld Z h a1 "java/lang/String" "coder" "B" (.int (1 : Int32)) ∧ Arv Z h t kb .byte (8 : Int32) [Value.int (own_lo c0), Value.int (own_hi c0), Value.int (own_lo c1), Value.int (own_hi c1), Value.int (own_lo c2), Value.int (own_hi c2), Value.int (own_lo c3), Value.int (own_hi c3)] (.int (0 : Int32))
set_option maxRecDepth 65536 in
set_option maxHeartbeats 40000000 in
theorem rm2_4 (l : Launch) (Z : State) (a0 : Array Value) (hw : ∀ d ∈ tables_1, d.before a0 Z = true) (ws : List Jvm.Cond) (a1 : Addr) (a2 : Addr) (w_COMPACT_STRINGS : Int32) (u_coder_a1 : Value) (u_value_a1 : Value) (ka : ClassId) (vs : List Value) (dv : Value) (c0 : Int32) (c1 : Int32) (c2 : Int32) (c3 : Int32) (h0 : Heap) (n0 : Nat) (Z0 : n0 ≤ h0.size) (S_COMPACT_STRINGS : Sta Z h0 "java/lang/String" "COMPACT_STRINGS" "Z" (.int w_COMPACT_STRINGS)) (E_a1 : Exa Z h0 a1 "java/lang/String") (F_coder_a1 : Fld Z h0 a1 "java/lang/String" "coder" "B" u_coder_a1) (g_a1 : n0 ≤ a1) (F_value_a1 : Fld Z h0 a1 "java/lang/String" "value" "[B" u_value_a1) (hc5 : ¬ ((4 : Int32) = (0 : Int32))) (hc30 : ¬ (w_COMPACT_STRINGS = (0 : Int32))) (V : Arv Z h0 a2 ka .char (4 : Int32) vs dv) (hv0 : vs.getD 0 dv = .int c0) (hv1 : vs.getD 1 dv = .int c1) (hv2 : vs.getD 2 dv = .int c2) (hv3 : vs.getD 3 dv = .int c3) (S__assertionsDisabled : Sta Z h0 "java/lang/StringUTF16" "$assertionsDisabled" "Z" (.int (1 : Int32))) (S_HI_BYTE_SHIFT : Sta Z h0 "java/lang/StringUTF16" "HI_BYTE_SHIFT" "I" (.int (0 : Int32))) (S_LO_BYTE_SHIFT : Sta Z h0 "java/lang/StringUTF16" "LO_BYTE_SHIFT" "I" (.int (8 : Int32))) (f0 : ¬ c0 < 0 ∧ ¬ (65535 : Int32) < c0) (f1 : ¬ c1 < 0 ∧ ¬ (65535 : Int32) < c1) (f2 : ¬ c2 < 0 ∧ ¬ (65535 : Int32) < c2) (f3 : ¬ c3 < 0 ∧ ¬ (65535 : Int32) < c3) (hbig : (255 : Int32) < c0 ∨ (255 : Int32) < c1 ∨ (255 : Int32) < c2 ∨ (255 : Int32) < c3) :
    MetFree l (⟨"java/lang/String", "<init>", "([CIILjava/lang/Void;)V"⟩ : MethodName) (head1 (Jvm.Cond.code (⟨"java/lang/String", "<init>", "([CIILjava/lang/Void;)V"⟩ : MethodName) jdk_42_method_149_code 6 none :: ws) ({ frames := 4, cells := 2, slots := 12, locals := 57 } : Room)) (fun a U => a = #[(.ref a1), (.ref a2), (.int (0 : Int32)), (.int (4 : Int32)), .null] ∧ Z.Warmed39 U.vm ∧ U.heap = h0) (fun _ _ _ _ _ => True) (fun _ U o U' => ∃ v L, o = .returned v ∧ Q2_4 Z a1 c0 c1 c2 c3 h0 n0 v U'.heap L ∧ FrameEnd U o U' L ({ frames := 4, cells := 2, slots := 12, locals := 57 } : Room).cells ({ frames := 4, cells := 2, slots := 12, locals := 57 } : Room).slots) := by
  refine MetFree.of_bodySF (plainFor_of_name pn_2) hisR ?_
  intro p e s m args below meth c s₁ Bd hml0 hP hK
  obtain ⟨rfl, hZ, hh⟩ := hP
  have hx := Bd.exec
  have hby := Bd.bytes
  have hml : c.maxLocals = 6 := hml0
  have hown : s.vm.findClass "java/lang/String" = some m.cls := findClass_of_methodNamed Bd.named
  have hnm := (name_of_methodNamed Bd.named Bd.method).1
  have X0 : Stand p l e ({ frames := 4, cells := 2, slots := 12, locals := 57 } : Room) s m #[(.ref a1), (.ref a2), (.int (0 : Int32)), (.int (4 : Int32)), .null] below meth c s₁ [] 0 0 := Stand.of_body Bd
  have e0 : s₁.heap = h0 := by rw [← hh, Bd.state]; rfl
  have N0 := Fr.nil n0
  have pre0 : ∀ t, Steps p.tables e below (s₁.setTop (mkF m 0 #[.val (.ref a1), .val (.ref a2), .val (.int (0 : Int32)), .val (.int (4 : Int32)), .val .null, .unset] [])) t → Steps p.tables e below (s₁.setTop (entryFrame m #[(.ref a1), (.ref a2), (.int (0 : Int32)), (.int (4 : Int32)), .null] 6)) t := fun t k => castTop (ef_2 m a1 a2 (0 : Int32) (4 : Int32)) k
  obtain ⟨T5, X5, e5, st5⟩ := initO X0 hx hZ hown (own_w hw 13 rfl) (own_w hw 14 rfl) (own_w hw 15 rfl) e0 (g := (mkF m 1 #[.val (.ref a1), .val (.ref a2), .val (.int (0 : Int32)), .val (.int (4 : Int32)), .val .null, .unset] [(.ref a1)])) rfl (by rw [hml]; rfl) rfl (hb hby d2_1) (by decide) (W := 0) (by show 2 * 0 + _ ≤ _; exact Nat.le_of_eq rfl) (by decide)
  obtain ⟨T7, X7, e7, st7⟩ := getS2 X5 hx hZ hown (host := "") (Or.inl (own_w hw 38 rfl)) Via.refl e5 S_COMPACT_STRINGS (g := (mkF m 27 #[.val (.ref a1), .val (.ref a2), .val (.int (0 : Int32)), .val (.int (4 : Int32)), .val .null, .unset] [])) rfl (hb hby d2_27)
  obtain ⟨_, _, ⟨T8, L8, k8, n8⟩, -, X8, ⟨Lc8, hQ8, l8, y8, z8⟩, st8⟩ := Jvm.LawKit.callS X7 hx (y := (⟨"java/lang/StringUTF16", "compress", "([CII)[B"⟩ : MethodName)) hown (mvT hZ (own_w hw 39 rfl)) (mvT hZ (own_w hw 40 rfl)) (mvT hZ (own_w hw 41 rfl)) (mvT hZ (own_w hw 42 rfl)) (by decide) (backOf (W := 0) (rm7_4 l Z a0 hw [] a2 ka vs dv c0 c1 c2 c3  h0 n0 Z0 V hv0 hv1 hv2 hv3 S__assertionsDisabled S_HI_BYTE_SHIFT S_LO_BYTE_SHIFT f0 f1 f2 f3 hbig) hZ (own_w hw 42 rfl) (own_w hw 41 rfl) (by decide) (by decide)) (g := (mkF m 36 #[.val (.ref a1), .val (.ref a2), .val (.int (0 : Int32)), .val (.int (4 : Int32)), .val .null, .unset] [(.int (4 : Int32)), (.int (0 : Int32)), (.ref a2)])) rfl (by rw [hml]; rfl) (argsL := [(.ref a2), (.int (0 : Int32)), (.int (4 : Int32))]) (rest := []) (lenOf pd_2_6 rfl) rfl (by show 2 * 0 + _ ≤ _; exact Nat.le_of_eq rfl) (hb hby d2_36) (fun _ _ => ⟨rfl, e7, (by decide : 0 + 2 ≤ _), (by decide : 0 + 12 ≤ _)⟩)
  dsimp only [Pt.U, Pt.locs, Pt.cells, Pt.slots] at X8 l8 y8 z8 st8 hQ8
  subst l8 y8 z8
  obtain ⟨t8, kb8, rfl, N8q, K8q, gt8, A8q⟩ := hQ8
  have N8 := Fr.app N0 N8q
  have KH8 : Keep h0 T8.heap [a1] := (Keep.refl h0 [a1]).trans K8q own_ws0
  obtain ⟨clx, Arx, qx, Sx, Mx, Hx, Gx⟩ := id A8q
  have ne8 : t8 ≠ a1 := Ne.symm (Nat.ne_of_lt (Nat.lt_of_lt_of_le E_a1.lt gt8))
  obtain ⟨_, _, ⟨T9, L9, k9, n9⟩, -, X9, ⟨Lc9, hQ9, l9, y9, z9⟩, st9⟩ := Jvm.LawKit.callS X8 hx (y := (⟨"java/lang/StringUTF16", "coderFromArrayLen", "([BI)B"⟩ : MethodName)) hown (mvT hZ (own_w hw 46 rfl)) (mvT hZ (own_w hw 47 rfl)) (mvT hZ (own_w hw 41 rfl)) (mvT hZ (own_w hw 48 rfl)) (by decide) (backOf (W := 1) (rm9 l Z a0 hw [] t8 (4 : Int32) clx (8 : Int32) T8.heap n0 (Nat.le_trans Z0 KH8.1) Arx Sx Mx) hZ (own_w hw 48 rfl) (own_w hw 41 rfl) (by decide) (by decide)) (g := (mkF m 45 #[.val (.ref a1), .val (.ref a2), .val (.int (0 : Int32)), .val (.int (4 : Int32)), .val .null, .val (.ref t8)] [(.int (4 : Int32)), (.ref t8), (.ref a1)])) rfl (by rw [hml]; rfl) (argsL := [(.ref t8), (.int (4 : Int32))]) (rest := [(.ref a1)]) (lenOf pd_2_8 rfl) rfl (by show 2 * 0 + _ ≤ _; exact Nat.le_of_eq rfl) (hb hby d2_45) (fun _ _ => ⟨rfl, rfl, (by decide : 2 + 0 ≤ _), (by decide : 12 + 0 ≤ _)⟩)
  dsimp only [Pt.U, Pt.locs, Pt.cells, Pt.slots] at X9 l9 y9 z9 st9 hQ9
  subst l9 y9 z9
  obtain ⟨rfl, N9q, e9q⟩ := hQ9
  have N9 := Fr.app N8 N9q
  have K9q : Keep T8.heap T9.heap [] := own_keep e9q
  have KH9 : Keep h0 T9.heap [a1] := KH8.trans K9q own_ws0
  obtain ⟨T10, h10, X10, e10, W10, st10⟩ := putFN X9 hx hZ hown (own_w hw 23 rfl) Via.refl rfl ((F_coder_a1.keep K8q (by simp)).keep K9q (by simp)) ((E_a1.keep K8q).keep K9q) (Or.inr ⟨(own_w hw 19 rfl), rfl, hnm⟩) (own_w hw 4 rfl) (ty := .byte) (v' := (.int (1 : Int32))) (by decide) (by decide) (by decide) (g := (mkF m 48 #[.val (.ref a1), .val (.ref a2), .val (.int (0 : Int32)), .val (.int (4 : Int32)), .val .null, .val (.ref t8)] [(.int (own_f9 (4 : Int32) (8 : Int32))), (.ref a1)])) rfl rfl (hb hby d2_48)
  have Fw10 := ((F_coder_a1.keep K8q (by simp)).keep K9q (by simp)).same W10
  have K10 : Keep h0 h10 [a1] := KH9.wr W10 (Or.inl (List.mem_of_getElem? (i := 0) rfl))
  have N10 := Fr.snoc X10 N9 g_a1
  obtain ⟨T11, h11, X11, e11, W11, st11⟩ := putF X10 hx hZ hown (host := "") (Or.inl (own_w hw 22 rfl)) Via.refl e10 (((F_value_a1.keep K8q (by simp)).keep K9q (by simp)).other W10 (Or.inr (slot_ne (Or.inr (own_w hw 18 rfl)) (Or.inr (own_w hw 19 rfl)) (by decide) (t := (.array .byte)) (t' := .byte) (by decide) (by decide)))) (((E_a1.keep K8q).keep K9q).wr W10) (Or.inr ⟨(own_w hw 18 rfl), rfl, hnm⟩) (own_w hw 4 rfl) (ty := (.array .byte)) (by decide) rfl rfl (g := (mkF m 54 #[.val (.ref a1), .val (.ref a2), .val (.int (0 : Int32)), .val (.int (4 : Int32)), .val .null, .val (.ref t8)] [(.ref t8), (.ref a1)])) rfl rfl (hb hby d2_54)
  have Fw11 := (((F_value_a1.keep K8q (by simp)).keep K9q (by simp)).other W10 (Or.inr (slot_ne (Or.inr (own_w hw 18 rfl)) (Or.inr (own_w hw 19 rfl)) (by decide) (t := (.array .byte)) (t' := .byte) (by decide) (by decide)))).same W11
  have K11 : Keep h0 h11 [a1] := K10.wr W11 (Or.inl (List.mem_of_getElem? (i := 0) rfl))
  have N11 := Fr.snoc X11 N10 g_a1
  obtain ⟨fs, hr, hrun, hended, hW, hsame⟩ := X11.leave (v := none) (fun _ => rfl) (BodyLoose.notSynchronized Bd)
  refine ⟨_, _, pre0 _ ?_, hrun, hended, _, _, rfl, ?_, ⟨_, rfl⟩, hW, hsame.mono (by decide) (by decide)⟩
  · show Steps p.tables e below (s₁.setTop (mkF m 0 #[.val (.ref a1), .val (.ref a2), .val (.int (0 : Int32)), .val (.int (4 : Int32)), .val .null, .unset] [])) _
    refine XS.aloadN X0.here hx rfl (hb hby d2_0) rfl rfl ?_
    show Steps p.tables e below (s₁.setTop (mkF m 1 #[.val (.ref a1), .val (.ref a2), .val (.int (0 : Int32)), .val (.int (4 : Int32)), .val .null, .unset] [(.ref a1)])) _
    refine st5 _ ?_
    show Steps p.tables e below (T5.setTop (mkF m 4 #[.val (.ref a1), .val (.ref a2), .val (.int (0 : Int32)), .val (.int (4 : Int32)), .val .null, .unset] [])) _
    refine XS.iloadN X5.here hx rfl (hb hby d2_4) rfl ?_
    refine XS.ifYes X5.here hx rfl (pc0 := 5) (pc' := 27) rfl (hb hby d2_5) rfl ((if0 _ _).trans (feq hc5).2) (by decide) (by decide) ?_
    show Steps p.tables e below (T5.setTop (mkF m 27 #[.val (.ref a1), .val (.ref a2), .val (.int (0 : Int32)), .val (.int (4 : Int32)), .val .null, .unset] [])) _
    refine st7 _ ?_
    show Steps p.tables e below (T7.setTop (mkF m 30 #[.val (.ref a1), .val (.ref a2), .val (.int (0 : Int32)), .val (.int (4 : Int32)), .val .null, .unset] [(.int w_COMPACT_STRINGS)])) _
    refine XS.ifNo X7.here hx rfl (hb hby d2_30) rfl ((if0 _ _).trans (feq hc30).1) ?_
    refine XS.aloadN X7.here hx rfl (hb hby d2_33) rfl rfl ?_
    refine XS.iloadN X7.here hx rfl (hb hby d2_34) rfl ?_
    refine XS.iloadN X7.here hx rfl (hb hby d2_35) rfl ?_
    show Steps p.tables e below (T7.setTop (mkF m 36 #[.val (.ref a1), .val (.ref a2), .val (.int (0 : Int32)), .val (.int (4 : Int32)), .val .null, .unset] [(.int (4 : Int32)), (.int (0 : Int32)), (.ref a2)])) _
    refine st8 _ ?_
    show Steps p.tables e below (T8.setTop (mkF m 39 #[.val (.ref a1), .val (.ref a2), .val (.int (0 : Int32)), .val (.int (4 : Int32)), .val .null, .unset] [(.ref t8)])) _
    refine XS.astore X8.here hx rfl (hb hby d2_39) rfl rfl (l' := #[.val (.ref a1), .val (.ref a2), .val (.int (0 : Int32)), .val (.int (4 : Int32)), .val .null, .val (.ref t8)]) rfl ?_
    refine XS.aloadN X8.here hx rfl (hb hby d2_41) rfl rfl ?_
    refine XS.aload X8.here hx rfl (hb hby d2_42) rfl rfl ?_
    refine XS.iloadN X8.here hx rfl (hb hby d2_44) rfl ?_
    show Steps p.tables e below (T8.setTop (mkF m 45 #[.val (.ref a1), .val (.ref a2), .val (.int (0 : Int32)), .val (.int (4 : Int32)), .val .null, .val (.ref t8)] [(.int (4 : Int32)), (.ref t8), (.ref a1)])) _
    refine st9 _ ?_
    show Steps p.tables e below (T9.setTop (mkF m 48 #[.val (.ref a1), .val (.ref a2), .val (.int (0 : Int32)), .val (.int (4 : Int32)), .val .null, .val (.ref t8)] [(.int (own_f9 (4 : Int32) (8 : Int32))), (.ref a1)])) _
    refine st10 _ ?_
    show Steps p.tables e below (T10.setTop (mkF m 51 #[.val (.ref a1), .val (.ref a2), .val (.int (0 : Int32)), .val (.int (4 : Int32)), .val .null, .val (.ref t8)] [])) _
    refine XS.aloadN X10.here hx rfl (hb hby d2_51) rfl rfl ?_
    refine XS.aload X10.here hx rfl (hb hby d2_52) rfl rfl ?_
    show Steps p.tables e below (T10.setTop (mkF m 54 #[.val (.ref a1), .val (.ref a2), .val (.int (0 : Int32)), .val (.int (4 : Int32)), .val .null, .val (.ref t8)] [(.ref t8), (.ref a1)])) _
    refine st11 _ ?_
    show Steps p.tables e below (T11.setTop (mkF m 57 #[.val (.ref a1), .val (.ref a2), .val (.int (0 : Int32)), .val (.int (4 : Int32)), .val .null, .val (.ref t8)] [])) _
    exact X11.returnOut hx Bd.returns (hb hby d2_57) hr
  · show Q2_4 Z a1 c0 c1 c2 c3 h0 n0 _ T11.heap _
    rw [e11]
    exact ⟨rfl, N11, K11, t8, kb8, ((((E_a1.keep K8q).keep K9q).wr W10).wr W11), Fw11, (Fw10.other W11 (Or.inr (slot_ne (Or.inr (own_w hw 19 rfl)) (Or.inr (own_w hw 18 rfl)) (by decide) (t := .byte) (t' := (.array .byte)) (by decide) (by decide)))), (((A8q.keep K9q (by simp)).other W10 ne8).other W11 ne8)⟩
set_option maxRecDepth 65536 in
set_option maxHeartbeats 40000000 in
theorem rm1_4 (l : Launch) (Z : State) (a0 : Array Value) (hw : ∀ d ∈ tables_1, d.before a0 Z = true) (ws : List Jvm.Cond) (a1 : Addr) (a2 : Addr) (G1 : Int32) (ka : ClassId) (vs : List Value) (dv : Value) (c0 : Int32) (c1 : Int32) (c2 : Int32) (c3 : Int32) (h0 : Heap) (n0 : Nat) (Z0 : n0 ≤ h0.size) (V : Arv Z h0 a2 ka .char (4 : Int32) vs dv) (hv0 : vs.getD 0 dv = .int c0) (hv1 : vs.getD 1 dv = .int c1) (hv2 : vs.getD 2 dv = .int c2) (hv3 : vs.getD 3 dv = .int c3) (E_a1 : Exa Z h0 a1 "java/lang/String") (F_coder_a1 : Fld Z h0 a1 "java/lang/String" "coder" "B" (.int (0 : Int32))) (g_a1 : n0 ≤ a1) (F_value_a1 : Fld Z h0 a1 "java/lang/String" "value" "[B" .null) (S_CS : Sta Z h0 "java/lang/String" "COMPACT_STRINGS" "Z" (.int G1)) (P5 : ¬ (G1 = (0 : Int32))) (S__assertionsDisabled : Sta Z h0 "java/lang/StringUTF16" "$assertionsDisabled" "Z" (.int (1 : Int32))) (S_HI_BYTE_SHIFT : Sta Z h0 "java/lang/StringUTF16" "HI_BYTE_SHIFT" "I" (.int (0 : Int32))) (S_LO_BYTE_SHIFT : Sta Z h0 "java/lang/StringUTF16" "LO_BYTE_SHIFT" "I" (.int (8 : Int32))) (f0 : ¬ c0 < 0 ∧ ¬ (65535 : Int32) < c0) (f1 : ¬ c1 < 0 ∧ ¬ (65535 : Int32) < c1) (f2 : ¬ c2 < 0 ∧ ¬ (65535 : Int32) < c2) (f3 : ¬ c3 < 0 ∧ ¬ (65535 : Int32) < c3) (hbig : (255 : Int32) < c0 ∨ (255 : Int32) < c1 ∨ (255 : Int32) < c2 ∨ (255 : Int32) < c3) :
    MetFree l (⟨"java/lang/String", "<init>", "([C)V"⟩ : MethodName) (head1 (Jvm.Cond.code (⟨"java/lang/String", "<init>", "([C)V"⟩ : MethodName) jdk_42_method_3_code 2 none :: ws) ({ frames := 5, cells := 2, slots := 12, locals := 74 } : Room)) (fun a U => a = #[(.ref a1), (.ref a2)] ∧ Z.Warmed39 U.vm ∧ U.heap = h0) (fun _ _ _ _ _ => True) (fun _ U o U' => ∃ v L, o = .returned v ∧ Q1_4 Z a1 c0 c1 c2 c3 h0 n0 v U'.heap L ∧ FrameEnd U o U' L ({ frames := 5, cells := 2, slots := 12, locals := 74 } : Room).cells ({ frames := 5, cells := 2, slots := 12, locals := 74 } : Room).slots) := by
  refine MetFree.of_bodySF (plainFor_of_name pn_1) hisR ?_
  intro p e s m args below meth c s₁ Bd hml0 hP hK
  obtain ⟨rfl, hZ, hh⟩ := hP
  have hx := Bd.exec
  have hby := Bd.bytes
  have hml : c.maxLocals = 2 := hml0
  have hown : s.vm.findClass "java/lang/String" = some m.cls := findClass_of_methodNamed Bd.named
  have hnm := (name_of_methodNamed Bd.named Bd.method).1
  have X0 : Stand p l e ({ frames := 5, cells := 2, slots := 12, locals := 74 } : Room) s m #[(.ref a1), (.ref a2)] below meth c s₁ [] 0 0 := Stand.of_body Bd
  have e0 : s₁.heap = h0 := by rw [← hh, Bd.state]; rfl
  have N0 := Fr.nil n0
  obtain ⟨cl_a2, Ar_a2, q_a2, S_a2, N_a2, H_a2, G_a2⟩ := id V
  have pre0 : ∀ t, Steps p.tables e below (s₁.setTop (mkF m 0 #[.val (.ref a1), .val (.ref a2)] [])) t → Steps p.tables e below (s₁.setTop (entryFrame m #[(.ref a1), (.ref a2)] 2)) t := fun t k => castTop (ef_1 m a1 a2) k
  obtain ⟨_, _, ⟨T3, L3, k3, n3⟩, -, X3, ⟨Lc3, hQ3, l3, y3, z3⟩, st3⟩ := X0.specialBack hx (y := (⟨"java/lang/String", "<init>", "([CIILjava/lang/Void;)V"⟩ : MethodName)) rfl hown (mvT hZ (own_w hw 9 rfl)) (mvT hZ (own_w hw 10 rfl)) (mvT hZ (own_w hw 12 rfl)) (by decide) (backOf (W := 0) (rm2_4 l Z a0 hw [] a1 a2 G1 (.int (0 : Int32)) .null ka vs dv c0 c1 c2 c3 h0 n0 Z0 S_CS E_a1 F_coder_a1 g_a1 F_value_a1 (by decide) P5 V hv0 hv1 hv2 hv3 S__assertionsDisabled S_HI_BYTE_SHIFT S_LO_BYTE_SHIFT f0 f1 f2 f3 hbig) hZ (own_w hw 12 rfl) (own_w hw 5 rfl) (by decide) (by decide)) (g := (mkF m 6 #[.val (.ref a1), .val (.ref a2)] [.null, (.int (4 : Int32)), (.int (0 : Int32)), (.ref a2), (.ref a1)])) rfl (by rw [hml]; rfl) (Steps.refl _) (a := a1) (argsL := [(.ref a2), (.int (0 : Int32)), (.int (4 : Int32)), .null]) (rest := []) (lenOf pd_1_1 rfl) rfl (by show 2 * 0 + _ ≤ _; exact Nat.le_of_eq rfl) (hb hby d1_6) (fun _ _ => ⟨rfl, e0, (by decide : 0 + 2 ≤ _), (by decide : 0 + 12 ≤ _)⟩)
  dsimp only [Pt.U, Pt.locs, Pt.cells, Pt.slots] at X3 l3 y3 z3 st3 hQ3
  subst l3 y3 z3
  obtain ⟨rfl, N3q, K3q, t3, kb3, E3q, Fv3, Fc3, A3q⟩ := hQ3
  have N3 := Fr.app N0 N3q
  have KH3 : Keep h0 T3.heap [a1] := (Keep.refl h0 [a1]).trans K3q own_wsIn
  obtain ⟨fs, hr, hrun, hended, hW, hsame⟩ := X3.leave (v := none) (fun _ => rfl) (BodyLoose.notSynchronized Bd)
  refine ⟨_, _, pre0 _ ?_, hrun, hended, _, _, rfl, ?_, ⟨_, rfl⟩, hW, hsame.mono (by decide) (by decide)⟩
  · show Steps p.tables e below (s₁.setTop (mkF m 0 #[.val (.ref a1), .val (.ref a2)] [])) _
    refine XS.aloadN X0.here hx rfl (hb hby d1_0) rfl rfl ?_
    refine XS.aloadN X0.here hx rfl (hb hby d1_1) rfl rfl ?_
    refine XS.iconst X0.here hx rfl (hb hby d1_2) ?_
    refine XS.aloadN X0.here hx rfl (hb hby d1_3) rfl rfl ?_
    show Steps p.tables e below (s₁.setTop (mkF m 4 #[.val (.ref a1), .val (.ref a2)] [(.ref a2), (.int (0 : Int32)), (.ref a2), (.ref a1)])) _
    refine X0.arraylength hx (by rw [e0]; exact Ar_a2.1) (State.isArrayOf_alike hZ.alike Ar_a2.2.1) (g := (mkF m 4 #[.val (.ref a1), .val (.ref a2)] [(.ref a2), (.int (0 : Int32)), (.ref a2), (.ref a1)])) rfl rfl (hb hby d1_4) _ ?_
    rw [len_of S_a2 N_a2]
    show Steps p.tables e below (s₁.setTop (mkF m 5 #[.val (.ref a1), .val (.ref a2)] [(.int (4 : Int32)), (.int (0 : Int32)), (.ref a2), (.ref a1)])) _
    refine XS.aconstNull X0.here hx rfl (hb hby d1_5) ?_
    show Steps p.tables e below (s₁.setTop (mkF m 6 #[.val (.ref a1), .val (.ref a2)] [.null, (.int (4 : Int32)), (.int (0 : Int32)), (.ref a2), (.ref a1)])) _
    refine st3.trans ?_
    show Steps p.tables e below (T3.setTop (mkF m 9 #[.val (.ref a1), .val (.ref a2)] [])) _
    exact X3.returnOut hx Bd.returns (hb hby d1_9) hr
  · show Q1_4 Z a1 c0 c1 c2 c3 h0 n0 _ T3.heap _
    exact ⟨rfl, N3, K3q, t3, kb3, E3q, Fv3, Fc3, A3q⟩
theorem os0_6 {z0 : Value} {z1 : Value} {z2 : Value} {z3 : Value} {z4 : Value} {s5 : Slot} {s6 : Slot} {s7 : Slot} {s8 : Slot} {s9 : Slot} {s10 : Slot} {s11 : Slot} {s12 : Slot} {s13 : Slot} {v : Int32} (h : One s5) : storeLocals #[.val z0, .val z1, .val z2, .val z3, .val z4, s5, s6, s7, s8, s9, s10, s11, s12, s13] 5 (.int v) = some #[.val z0, .val z1, .val z2, .val z3, .val z4, .val (.int v), s6, s7, s8, s9, s10, s11, s12, s13] := by
  rcases h with rfl | ⟨w, rfl, hw⟩
  · rfl
  · cases w <;> first | rfl | (simp [Value.category] at hw)
theorem os0_13 {z0 : Value} {z1 : Value} {z2 : Value} {z3 : Value} {z4 : Value} {z5 : Value} {s6 : Slot} {s7 : Slot} {s8 : Slot} {s9 : Slot} {s10 : Slot} {s11 : Slot} {s12 : Slot} {s13 : Slot} {v : Int32} (h : One s6) : storeLocals #[.val z0, .val z1, .val z2, .val z3, .val z4, .val z5, s6, s7, s8, s9, s10, s11, s12, s13] 6 (.int v) = some #[.val z0, .val z1, .val z2, .val z3, .val z4, .val z5, .val (.int v), s7, s8, s9, s10, s11, s12, s13] := by
  rcases h with rfl | ⟨w, rfl, hw⟩
  · rfl
  · cases w <;> first | rfl | (simp [Value.category] at hw)
theorem os0_20 {z0 : Value} {z1 : Value} {z2 : Value} {z3 : Value} {z4 : Value} {z5 : Value} {z6 : Value} {s7 : Slot} {s8 : Slot} {s9 : Slot} {s10 : Slot} {s11 : Slot} {s12 : Slot} {s13 : Slot} {v : Int32} (h : One s7) : storeLocals #[.val z0, .val z1, .val z2, .val z3, .val z4, .val z5, .val z6, s7, s8, s9, s10, s11, s12, s13] 7 (.int v) = some #[.val z0, .val z1, .val z2, .val z3, .val z4, .val z5, .val z6, .val (.int v), s8, s9, s10, s11, s12, s13] := by
  rcases h with rfl | ⟨w, rfl, hw⟩
  · rfl
  · cases w <;> first | rfl | (simp [Value.category] at hw)
theorem os0_27 {z0 : Value} {z1 : Value} {z2 : Value} {z3 : Value} {z4 : Value} {z5 : Value} {z6 : Value} {z7 : Value} {s8 : Slot} {s9 : Slot} {s10 : Slot} {s11 : Slot} {s12 : Slot} {s13 : Slot} {v : Int32} (h : One s8) : storeLocals #[.val z0, .val z1, .val z2, .val z3, .val z4, .val z5, .val z6, .val z7, s8, s9, s10, s11, s12, s13] 8 (.int v) = some #[.val z0, .val z1, .val z2, .val z3, .val z4, .val z5, .val z6, .val z7, .val (.int v), s9, s10, s11, s12, s13] := by
  rcases h with rfl | ⟨w, rfl, hw⟩
  · rfl
  · cases w <;> first | rfl | (simp [Value.category] at hw)
theorem os0_35 {z0 : Value} {z1 : Value} {z2 : Value} {z3 : Value} {z4 : Value} {z5 : Value} {z6 : Value} {z7 : Value} {z8 : Value} {s9 : Slot} {s10 : Slot} {s11 : Slot} {s12 : Slot} {s13 : Slot} {v : Int32} (h : One s9) : storeLocals #[.val z0, .val z1, .val z2, .val z3, .val z4, .val z5, .val z6, .val z7, .val z8, s9, s10, s11, s12, s13] 9 (.int v) = some #[.val z0, .val z1, .val z2, .val z3, .val z4, .val z5, .val z6, .val z7, .val z8, .val (.int v), s10, s11, s12, s13] := by
  rcases h with rfl | ⟨w, rfl, hw⟩
  · rfl
  · cases w <;> first | rfl | (simp [Value.category] at hw)
set_option maxRecDepth 65536 in
set_option maxHeartbeats 40000000 in
theorem own_law0 {p : Program} {l : Launch} {e : Env} {R : Room} {s : State} {m : MethodId} {args : Array Value} {below : List Frame} {meth : Method} {c : Code} {T0 : State} {locs : List Loc} {cells slots : Nat} {Z : State} {a0 : Array Value} {h0 : Heap} (i0 : Int32) (i1 : Int32) (i2 : Int32) (i3 : Int32) (i4 : Int32) (s5 : Slot) (s6 : Slot) (s7 : Slot) (s8 : Slot) (s9 : Slot) (s10 : Slot) (s11 : Slot) (s12 : Slot) (s13 : Slot)
    (X0 : Stand p l e R s m args below meth c T0 locs cells slots) (hx : p.tables.exec = Jvm.exec) (hZ : Z.Warmed39 s.vm) (hw : ∀ d ∈ tables_1, d.before a0 Z = true) (hby : c.code = code) (hml : c.maxLocals = 14) (hown : s.vm.findClass "com/example/marcwerk/marcwerk/marc/MarcTextIsTagPinLaw" = some m.cls) (e0 : T0.heap = h0) (hs5 : One s5) (hs6 : One s6) (hs7 : One s7) (hs8 : One s8) (hs9 : One s9) :
    ∃ (T' : State), Stand p l e R s m args below meth c T' locs cells slots ∧ T'.heap = h0 ∧
      ∀ target, Steps p.tables e below (T'.setTop (mkF m 37 #[.val (.int i0), .val (.int i1), .val (.int i2), .val (.int i3), .val (.int i4), .val (.int ((i0 &&& (2147483647 : Int32)) % (5 : Int32))), .val (.int ((i1 &&& (65535 : Int32)).toUInt32.toUInt16.toUInt32.toInt32)), .val (.int ((i2 &&& (65535 : Int32)).toUInt32.toUInt16.toUInt32.toInt32)), .val (.int ((i3 &&& (65535 : Int32)).toUInt32.toUInt16.toUInt32.toInt32)), .val (.int ((i4 &&& (65535 : Int32)).toUInt32.toUInt16.toUInt32.toInt32)), s10, s11, s12, s13] [])) target → Steps p.tables e below (T0.setTop (mkF m 0 #[.val (.int i0), .val (.int i1), .val (.int i2), .val (.int i3), .val (.int i4), s5, s6, s7, s8, s9, s10, s11, s12, s13] [])) target := by

  refine ⟨T0, X0, e0, fun target kt => ?_⟩
  show Steps p.tables e below (T0.setTop (mkF m 0 #[.val (.int i0), .val (.int i1), .val (.int i2), .val (.int i3), .val (.int i4), s5, s6, s7, s8, s9, s10, s11, s12, s13] [])) _
  refine XS.iloadN X0.here hx rfl (hb hby at_0) rfl ?_
  show Steps p.tables e below (T0.setTop (mkF m 1 #[.val (.int i0), .val (.int i1), .val (.int i2), .val (.int i3), .val (.int i4), s5, s6, s7, s8, s9, s10, s11, s12, s13] [(.int i0)])) _
  refine X0.ldcInt hx hown (mvT hZ (own_w hw 0 rfl)) (g := (mkF m 1 #[.val (.int i0), .val (.int i1), .val (.int i2), .val (.int i3), .val (.int i4), s5, s6, s7, s8, s9, s10, s11, s12, s13] [(.int i0)])) rfl (hb hby at_1) _ ?_
  show Steps p.tables e below (T0.setTop (mkF m 3 #[.val (.int i0), .val (.int i1), .val (.int i2), .val (.int i3), .val (.int i4), s5, s6, s7, s8, s9, s10, s11, s12, s13] [(.int (2147483647 : Int32)), (.int i0)])) _
  refine XS.iand X0.here hx rfl (hb hby at_3) rfl ?_
  refine XS.iconst X0.here hx rfl (hb hby at_4) ?_
  show Steps p.tables e below (T0.setTop (mkF m 5 #[.val (.int i0), .val (.int i1), .val (.int i2), .val (.int i3), .val (.int i4), s5, s6, s7, s8, s9, s10, s11, s12, s13] [(.int (5 : Int32)), (.int (i0 &&& (2147483647 : Int32)))])) _
  refine Jvm.RoadKit.iremM X0 hx rfl (hb hby at_5) rfl (by decide) ?_
  refine XS.istore X0.here hx rfl (hb hby at_6) rfl (l' := #[.val (.int i0), .val (.int i1), .val (.int i2), .val (.int i3), .val (.int i4), .val (.int ((i0 &&& (2147483647 : Int32)) % (5 : Int32))), s6, s7, s8, s9, s10, s11, s12, s13]) (os0_6 hs5) ?_
  refine XS.iloadN X0.here hx rfl (hb hby at_8) rfl ?_
  show Steps p.tables e below (T0.setTop (mkF m 9 #[.val (.int i0), .val (.int i1), .val (.int i2), .val (.int i3), .val (.int i4), .val (.int ((i0 &&& (2147483647 : Int32)) % (5 : Int32))), s6, s7, s8, s9, s10, s11, s12, s13] [(.int i1)])) _
  refine X0.ldcInt hx hown (mvT hZ (own_w hw 1 rfl)) (g := (mkF m 9 #[.val (.int i0), .val (.int i1), .val (.int i2), .val (.int i3), .val (.int i4), .val (.int ((i0 &&& (2147483647 : Int32)) % (5 : Int32))), s6, s7, s8, s9, s10, s11, s12, s13] [(.int i1)])) rfl (hb hby at_9) _ ?_
  show Steps p.tables e below (T0.setTop (mkF m 11 #[.val (.int i0), .val (.int i1), .val (.int i2), .val (.int i3), .val (.int i4), .val (.int ((i0 &&& (2147483647 : Int32)) % (5 : Int32))), s6, s7, s8, s9, s10, s11, s12, s13] [(.int (65535 : Int32)), (.int i1)])) _
  refine XS.iand X0.here hx rfl (hb hby at_11) rfl ?_
  refine XS.i2c X0.here hx rfl (hb hby at_12) rfl ?_
  refine XS.istore X0.here hx rfl (hb hby at_13) rfl (l' := #[.val (.int i0), .val (.int i1), .val (.int i2), .val (.int i3), .val (.int i4), .val (.int ((i0 &&& (2147483647 : Int32)) % (5 : Int32))), .val (.int ((i1 &&& (65535 : Int32)).toUInt32.toUInt16.toUInt32.toInt32)), s7, s8, s9, s10, s11, s12, s13]) (os0_13 hs6) ?_
  refine XS.iloadN X0.here hx rfl (hb hby at_15) rfl ?_
  show Steps p.tables e below (T0.setTop (mkF m 16 #[.val (.int i0), .val (.int i1), .val (.int i2), .val (.int i3), .val (.int i4), .val (.int ((i0 &&& (2147483647 : Int32)) % (5 : Int32))), .val (.int ((i1 &&& (65535 : Int32)).toUInt32.toUInt16.toUInt32.toInt32)), s7, s8, s9, s10, s11, s12, s13] [(.int i2)])) _
  refine X0.ldcInt hx hown (mvT hZ (own_w hw 1 rfl)) (g := (mkF m 16 #[.val (.int i0), .val (.int i1), .val (.int i2), .val (.int i3), .val (.int i4), .val (.int ((i0 &&& (2147483647 : Int32)) % (5 : Int32))), .val (.int ((i1 &&& (65535 : Int32)).toUInt32.toUInt16.toUInt32.toInt32)), s7, s8, s9, s10, s11, s12, s13] [(.int i2)])) rfl (hb hby at_16) _ ?_
  show Steps p.tables e below (T0.setTop (mkF m 18 #[.val (.int i0), .val (.int i1), .val (.int i2), .val (.int i3), .val (.int i4), .val (.int ((i0 &&& (2147483647 : Int32)) % (5 : Int32))), .val (.int ((i1 &&& (65535 : Int32)).toUInt32.toUInt16.toUInt32.toInt32)), s7, s8, s9, s10, s11, s12, s13] [(.int (65535 : Int32)), (.int i2)])) _
  refine XS.iand X0.here hx rfl (hb hby at_18) rfl ?_
  refine XS.i2c X0.here hx rfl (hb hby at_19) rfl ?_
  refine XS.istore X0.here hx rfl (hb hby at_20) rfl (l' := #[.val (.int i0), .val (.int i1), .val (.int i2), .val (.int i3), .val (.int i4), .val (.int ((i0 &&& (2147483647 : Int32)) % (5 : Int32))), .val (.int ((i1 &&& (65535 : Int32)).toUInt32.toUInt16.toUInt32.toInt32)), .val (.int ((i2 &&& (65535 : Int32)).toUInt32.toUInt16.toUInt32.toInt32)), s8, s9, s10, s11, s12, s13]) (os0_20 hs7) ?_
  refine XS.iloadN X0.here hx rfl (hb hby at_22) rfl ?_
  show Steps p.tables e below (T0.setTop (mkF m 23 #[.val (.int i0), .val (.int i1), .val (.int i2), .val (.int i3), .val (.int i4), .val (.int ((i0 &&& (2147483647 : Int32)) % (5 : Int32))), .val (.int ((i1 &&& (65535 : Int32)).toUInt32.toUInt16.toUInt32.toInt32)), .val (.int ((i2 &&& (65535 : Int32)).toUInt32.toUInt16.toUInt32.toInt32)), s8, s9, s10, s11, s12, s13] [(.int i3)])) _
  refine X0.ldcInt hx hown (mvT hZ (own_w hw 1 rfl)) (g := (mkF m 23 #[.val (.int i0), .val (.int i1), .val (.int i2), .val (.int i3), .val (.int i4), .val (.int ((i0 &&& (2147483647 : Int32)) % (5 : Int32))), .val (.int ((i1 &&& (65535 : Int32)).toUInt32.toUInt16.toUInt32.toInt32)), .val (.int ((i2 &&& (65535 : Int32)).toUInt32.toUInt16.toUInt32.toInt32)), s8, s9, s10, s11, s12, s13] [(.int i3)])) rfl (hb hby at_23) _ ?_
  show Steps p.tables e below (T0.setTop (mkF m 25 #[.val (.int i0), .val (.int i1), .val (.int i2), .val (.int i3), .val (.int i4), .val (.int ((i0 &&& (2147483647 : Int32)) % (5 : Int32))), .val (.int ((i1 &&& (65535 : Int32)).toUInt32.toUInt16.toUInt32.toInt32)), .val (.int ((i2 &&& (65535 : Int32)).toUInt32.toUInt16.toUInt32.toInt32)), s8, s9, s10, s11, s12, s13] [(.int (65535 : Int32)), (.int i3)])) _
  refine XS.iand X0.here hx rfl (hb hby at_25) rfl ?_
  refine XS.i2c X0.here hx rfl (hb hby at_26) rfl ?_
  refine XS.istore X0.here hx rfl (hb hby at_27) rfl (l' := #[.val (.int i0), .val (.int i1), .val (.int i2), .val (.int i3), .val (.int i4), .val (.int ((i0 &&& (2147483647 : Int32)) % (5 : Int32))), .val (.int ((i1 &&& (65535 : Int32)).toUInt32.toUInt16.toUInt32.toInt32)), .val (.int ((i2 &&& (65535 : Int32)).toUInt32.toUInt16.toUInt32.toInt32)), .val (.int ((i3 &&& (65535 : Int32)).toUInt32.toUInt16.toUInt32.toInt32)), s9, s10, s11, s12, s13]) (os0_27 hs8) ?_
  refine XS.iload X0.here hx rfl (hb hby at_29) rfl ?_
  show Steps p.tables e below (T0.setTop (mkF m 31 #[.val (.int i0), .val (.int i1), .val (.int i2), .val (.int i3), .val (.int i4), .val (.int ((i0 &&& (2147483647 : Int32)) % (5 : Int32))), .val (.int ((i1 &&& (65535 : Int32)).toUInt32.toUInt16.toUInt32.toInt32)), .val (.int ((i2 &&& (65535 : Int32)).toUInt32.toUInt16.toUInt32.toInt32)), .val (.int ((i3 &&& (65535 : Int32)).toUInt32.toUInt16.toUInt32.toInt32)), s9, s10, s11, s12, s13] [(.int i4)])) _
  refine X0.ldcInt hx hown (mvT hZ (own_w hw 1 rfl)) (g := (mkF m 31 #[.val (.int i0), .val (.int i1), .val (.int i2), .val (.int i3), .val (.int i4), .val (.int ((i0 &&& (2147483647 : Int32)) % (5 : Int32))), .val (.int ((i1 &&& (65535 : Int32)).toUInt32.toUInt16.toUInt32.toInt32)), .val (.int ((i2 &&& (65535 : Int32)).toUInt32.toUInt16.toUInt32.toInt32)), .val (.int ((i3 &&& (65535 : Int32)).toUInt32.toUInt16.toUInt32.toInt32)), s9, s10, s11, s12, s13] [(.int i4)])) rfl (hb hby at_31) _ ?_
  show Steps p.tables e below (T0.setTop (mkF m 33 #[.val (.int i0), .val (.int i1), .val (.int i2), .val (.int i3), .val (.int i4), .val (.int ((i0 &&& (2147483647 : Int32)) % (5 : Int32))), .val (.int ((i1 &&& (65535 : Int32)).toUInt32.toUInt16.toUInt32.toInt32)), .val (.int ((i2 &&& (65535 : Int32)).toUInt32.toUInt16.toUInt32.toInt32)), .val (.int ((i3 &&& (65535 : Int32)).toUInt32.toUInt16.toUInt32.toInt32)), s9, s10, s11, s12, s13] [(.int (65535 : Int32)), (.int i4)])) _
  refine XS.iand X0.here hx rfl (hb hby at_33) rfl ?_
  refine XS.i2c X0.here hx rfl (hb hby at_34) rfl ?_
  refine XS.istore X0.here hx rfl (hb hby at_35) rfl (l' := #[.val (.int i0), .val (.int i1), .val (.int i2), .val (.int i3), .val (.int i4), .val (.int ((i0 &&& (2147483647 : Int32)) % (5 : Int32))), .val (.int ((i1 &&& (65535 : Int32)).toUInt32.toUInt16.toUInt32.toInt32)), .val (.int ((i2 &&& (65535 : Int32)).toUInt32.toUInt16.toUInt32.toInt32)), .val (.int ((i3 &&& (65535 : Int32)).toUInt32.toUInt16.toUInt32.toInt32)), .val (.int ((i4 &&& (65535 : Int32)).toUInt32.toUInt16.toUInt32.toInt32)), s10, s11, s12, s13]) (os0_35 hs9) ?_
  exact kt
theorem os0_64 {s0 : Slot} {s1 : Slot} {s2 : Slot} {s3 : Slot} {s4 : Slot} {z5 : Value} {z6 : Value} {s7 : Slot} {s8 : Slot} {s9 : Slot} {s10 : Slot} {s11 : Slot} {s12 : Slot} {s13 : Slot} {v : Addr} (h : One s10) : storeLocals #[s0, s1, s2, s3, s4, .val z5, .val z6, s7, s8, s9, s10, s11, s12, s13] 10 (.ref v) = some #[s0, s1, s2, s3, s4, .val z5, .val z6, s7, s8, s9, .val (.ref v), s11, s12, s13] := by
  rcases h with rfl | ⟨w, rfl, hw⟩
  · rfl
  · cases w <;> first | rfl | (simp [Value.category] at hw)
set_option maxRecDepth 65536 in
set_option maxHeartbeats 40000000 in
theorem own_a1 {p : Program} {l : Launch} {e : Env} {s : State} {m : MethodId} {args : Array Value} {below : List Frame} {meth : Method} {c : Code} {T0 : State} {locs : List Loc} {Z : State} {a0 : Array Value} {h0 : Heap} {n0 : Nat} (s0 : Slot) (s1 : Slot) (s2 : Slot) (s3 : Slot) (s4 : Slot) (i5 : Int32) (i6 : Int32) (s7 : Slot) (s8 : Slot) (s9 : Slot) (s10 : Slot) (s11 : Slot) (s12 : Slot) (s13 : Slot)
    (X0 : Stand p l e room_1 s m args below meth c T0 locs 0 0) (hx : p.tables.exec = Jvm.exec) (hZ : Z.Warmed39 s.vm) (hw : ∀ d ∈ tables_1, d.before a0 Z = true) (hby : c.code = code) (hml : c.maxLocals = 14) (hown : s.vm.findClass "com/example/marcwerk/marcwerk/marc/MarcTextIsTagPinLaw" = some m.cls) (e0 : T0.heap = h0) (N0 : Fr n0 locs) (Z0 : n0 ≤ h0.size) (hn6 : nar .char i6 = i6) (hs10 : One s10) (hc39 : ¬ (i5 = (0 : Int32))) (hc53 : i5 = (1 : Int32)) :
    ∃ (T' : State) (h' : Heap) (locs' : List Loc) (o10 : Addr) (ka : ClassId), Stand p l e room_1 s m args below meth c T' locs' 1 1 ∧ T'.heap = h' ∧ Fr n0 locs' ∧ Keep h0 h' [] ∧ Arv Z h' o10 ka .char (1 : Int32) [Value.int i6] (.int (0 : Int32)) ∧ ∀ target, Steps p.tables e below (T'.setTop (mkF m 147 #[s0, s1, s2, s3, s4, .val (.int i5), .val (.int i6), s7, s8, s9, .val (.ref o10), s11, s12, s13] [])) target → Steps p.tables e below (T0.setTop (mkF m 37 #[s0, s1, s2, s3, s4, .val (.int i5), .val (.int i6), s7, s8, s9, s10, s11, s12, s13] [])) target := by
  obtain ⟨T6, h6, k6, X6, e6, E6, A6, st6⟩ := newP X0 hx hZ (own_w hw 2 rfl) e0 (g := (mkF m 57 #[s0, s1, s2, s3, s4, .val (.int i5), .val (.int i6), s7, s8, s9, s10, s11, s12, s13] [(.int (1 : Int32))])) rfl (hb hby at_57) rfl (by decide) (cap := 1) (by decide) (by decide) (by decide) (by decide)
  obtain ⟨b6, g6⟩ : ∃ z, z = h0.size := ⟨_, rfl⟩
  rw [← g6] at A6 st6
  have V_b6 : Arv Z h6 b6 k6 .char (1 : Int32) [(.int (0 : Int32))] (.int (0 : Int32)) := (Arv.new A6 (by decide)).pad (pad_rep [] (.int (0 : Int32)) 1)
  have g_b6 : n0 ≤ b6 := Nat.le_trans Z0 (Nat.le_of_eq g6.symm)
  have sz_b6 : h0.size ≤ b6 := (Nat.le_trans (Keep.refl h0 []).1 (Nat.le_of_eq g6.symm))
  have K6 : Keep h0 h6 [] := (Keep.refl h0 []).ext E6
  obtain ⟨cl_b6_63, Ar_b6, q_b6, S_b6, N_b6, H_b6, G_b6⟩ := V_b6
  have hin63 : ¬ ((0 : Int32) < 0 ∨ cl_b6_63.slots.size ≤ ((0 : Int32)).toNatClampNeg) := inb_of S_b6 ⟨by decide, by decide⟩
  obtain ⟨T7, h7, X7, e7, W7, st7⟩ := stC X6 hx hZ e6 Ar_b6 (j := (0 : Int32)) hin63 (g := (mkF m 63 #[s0, s1, s2, s3, s4, .val (.int i5), .val (.int i6), s7, s8, s9, s10, s11, s12, s13] [(.int i6), (.int (0 : Int32)), (.ref b6), (.ref b6)])) rfl rfl (hb hby at_63)
  have V_b6_7 := Arv.set Ar_b6 q_b6 S_b6 N_b6 H_b6 G_b6 (fits_nar_char _) W7 0 rfl (Nat.le_of_ble_eq_true rfl)
  have K7 : Keep h0 h7 [] := K6.wr W7 (Or.inr sz_b6)
  have N7 := Fr.snoc X7 N0 g_b6
  refine ⟨T7, _, _, b6, k6, X7, e7, N7, K7, (by have q := V_b6_7; rw [hn6] at q; exact q), fun target kt => ?_⟩
  show Steps p.tables e below (T0.setTop (mkF m 37 #[s0, s1, s2, s3, s4, .val (.int i5), .val (.int i6), s7, s8, s9, s10, s11, s12, s13] [])) _
  refine XS.iload X0.here hx rfl (hb hby at_37) rfl ?_
  refine XS.ifYes X0.here hx rfl (pc0 := 39) (pc' := 50) rfl (hb hby at_39) rfl ((if0 _ _).trans (feq hc39).2) (by decide) (by decide) ?_
  refine XS.iload X0.here hx rfl (hb hby at_50) rfl ?_
  refine XS.iconst X0.here hx rfl (hb hby at_52) ?_
  refine XS.icmpNo X0.here hx rfl (hb hby at_53) rfl (teq hc53).2 ?_
  refine XS.iconst X0.here hx rfl (hb hby at_56) ?_
  show Steps p.tables e below (T0.setTop (mkF m 57 #[s0, s1, s2, s3, s4, .val (.int i5), .val (.int i6), s7, s8, s9, s10, s11, s12, s13] [(.int (1 : Int32))])) _
  refine st6 _ ?_
  show Steps p.tables e below (T6.setTop (mkF m 59 #[s0, s1, s2, s3, s4, .val (.int i5), .val (.int i6), s7, s8, s9, s10, s11, s12, s13] [(.ref b6)])) _
  refine XS.dup X6.here hx rfl (hb hby at_59) rfl rfl ?_
  refine XS.iconst X6.here hx rfl (hb hby at_60) ?_
  refine XS.iload X6.here hx rfl (hb hby at_61) rfl ?_
  show Steps p.tables e below (T6.setTop (mkF m 63 #[s0, s1, s2, s3, s4, .val (.int i5), .val (.int i6), s7, s8, s9, s10, s11, s12, s13] [(.int i6), (.int (0 : Int32)), (.ref b6), (.ref b6)])) _
  refine st7 _ ?_
  show Steps p.tables e below (T7.setTop (mkF m 64 #[s0, s1, s2, s3, s4, .val (.int i5), .val (.int i6), s7, s8, s9, s10, s11, s12, s13] [(.ref b6)])) _
  refine XS.astore X7.here hx rfl (hb hby at_64) rfl rfl (l' := #[s0, s1, s2, s3, s4, .val (.int i5), .val (.int i6), s7, s8, s9, .val (.ref b6), s11, s12, s13]) (os0_64 hs10) ?_
  refine XS.goto X7.here hx rfl (pc0 := 66) (pc' := 147) rfl (hb hby at_66) (by decide) (by decide) ?_
  exact kt
theorem os0_88 {s0 : Slot} {s1 : Slot} {s2 : Slot} {s3 : Slot} {s4 : Slot} {z5 : Value} {z6 : Value} {z7 : Value} {s8 : Slot} {s9 : Slot} {s10 : Slot} {s11 : Slot} {s12 : Slot} {s13 : Slot} {v : Addr} (h : One s10) : storeLocals #[s0, s1, s2, s3, s4, .val z5, .val z6, .val z7, s8, s9, s10, s11, s12, s13] 10 (.ref v) = some #[s0, s1, s2, s3, s4, .val z5, .val z6, .val z7, s8, s9, .val (.ref v), s11, s12, s13] := by
  rcases h with rfl | ⟨w, rfl, hw⟩
  · rfl
  · cases w <;> first | rfl | (simp [Value.category] at hw)
set_option maxRecDepth 65536 in
set_option maxHeartbeats 40000000 in
theorem own_a2 {p : Program} {l : Launch} {e : Env} {s : State} {m : MethodId} {args : Array Value} {below : List Frame} {meth : Method} {c : Code} {T0 : State} {locs : List Loc} {Z : State} {a0 : Array Value} {h0 : Heap} {n0 : Nat} (s0 : Slot) (s1 : Slot) (s2 : Slot) (s3 : Slot) (s4 : Slot) (i5 : Int32) (i6 : Int32) (i7 : Int32) (s8 : Slot) (s9 : Slot) (s10 : Slot) (s11 : Slot) (s12 : Slot) (s13 : Slot)
    (X0 : Stand p l e room_1 s m args below meth c T0 locs 0 0) (hx : p.tables.exec = Jvm.exec) (hZ : Z.Warmed39 s.vm) (hw : ∀ d ∈ tables_1, d.before a0 Z = true) (hby : c.code = code) (hml : c.maxLocals = 14) (hown : s.vm.findClass "com/example/marcwerk/marcwerk/marc/MarcTextIsTagPinLaw" = some m.cls) (e0 : T0.heap = h0) (N0 : Fr n0 locs) (Z0 : n0 ≤ h0.size) (hn6 : nar .char i6 = i6) (hn7 : nar .char i7 = i7) (hs10 : One s10) (hc39 : ¬ (i5 = (0 : Int32))) (hc53 : ¬ (i5 = (1 : Int32))) (hc72 : i5 = (2 : Int32)) :
    ∃ (T' : State) (h' : Heap) (locs' : List Loc) (o10 : Addr) (ka : ClassId), Stand p l e room_1 s m args below meth c T' locs' 1 2 ∧ T'.heap = h' ∧ Fr n0 locs' ∧ Keep h0 h' [] ∧ Arv Z h' o10 ka .char (2 : Int32) [Value.int i6, Value.int i7] (.int (0 : Int32)) ∧ ∀ target, Steps p.tables e below (T'.setTop (mkF m 147 #[s0, s1, s2, s3, s4, .val (.int i5), .val (.int i6), .val (.int i7), s8, s9, .val (.ref o10), s11, s12, s13] [])) target → Steps p.tables e below (T0.setTop (mkF m 37 #[s0, s1, s2, s3, s4, .val (.int i5), .val (.int i6), .val (.int i7), s8, s9, s10, s11, s12, s13] [])) target := by
  obtain ⟨T6, h6, k6, X6, e6, E6, A6, st6⟩ := newP X0 hx hZ (own_w hw 2 rfl) e0 (g := (mkF m 76 #[s0, s1, s2, s3, s4, .val (.int i5), .val (.int i6), .val (.int i7), s8, s9, s10, s11, s12, s13] [(.int (2 : Int32))])) rfl (hb hby at_76) rfl (by decide) (cap := 2) (by decide) (by decide) (by decide) (by decide)
  obtain ⟨b6, g6⟩ : ∃ z, z = h0.size := ⟨_, rfl⟩
  rw [← g6] at A6 st6
  have V_b6 : Arv Z h6 b6 k6 .char (2 : Int32) [(.int (0 : Int32)), (.int (0 : Int32))] (.int (0 : Int32)) := (Arv.new A6 (by decide)).pad (pad_rep [] (.int (0 : Int32)) 2)
  have g_b6 : n0 ≤ b6 := Nat.le_trans Z0 (Nat.le_of_eq g6.symm)
  have sz_b6 : h0.size ≤ b6 := (Nat.le_trans (Keep.refl h0 []).1 (Nat.le_of_eq g6.symm))
  have K6 : Keep h0 h6 [] := (Keep.refl h0 []).ext E6
  obtain ⟨cl_b6_82, Ar_b6, q_b6, S_b6, N_b6, H_b6, G_b6⟩ := V_b6
  have hin82 : ¬ ((0 : Int32) < 0 ∨ cl_b6_82.slots.size ≤ ((0 : Int32)).toNatClampNeg) := inb_of S_b6 ⟨by decide, by decide⟩
  obtain ⟨T7, h7, X7, e7, W7, st7⟩ := stC X6 hx hZ e6 Ar_b6 (j := (0 : Int32)) hin82 (g := (mkF m 82 #[s0, s1, s2, s3, s4, .val (.int i5), .val (.int i6), .val (.int i7), s8, s9, s10, s11, s12, s13] [(.int i6), (.int (0 : Int32)), (.ref b6), (.ref b6)])) rfl rfl (hb hby at_82)
  have V_b6_7 := Arv.set Ar_b6 q_b6 S_b6 N_b6 H_b6 G_b6 (fits_nar_char _) W7 0 rfl (Nat.le_of_ble_eq_true rfl)
  have K7 : Keep h0 h7 [] := K6.wr W7 (Or.inr sz_b6)
  have N7 := Fr.snoc X7 N0 g_b6
  obtain ⟨cl_b6_87, Ar_b6, q_b6, S_b6, N_b6, H_b6, G_b6⟩ := V_b6_7
  have hin87 : ¬ ((1 : Int32) < 0 ∨ cl_b6_87.slots.size ≤ ((1 : Int32)).toNatClampNeg) := inb_of S_b6 ⟨by decide, by decide⟩
  obtain ⟨T8, h8, X8, e8, W8, st8⟩ := stC X7 hx hZ e7 Ar_b6 (j := (1 : Int32)) hin87 (g := (mkF m 87 #[s0, s1, s2, s3, s4, .val (.int i5), .val (.int i6), .val (.int i7), s8, s9, s10, s11, s12, s13] [(.int i7), (.int (1 : Int32)), (.ref b6), (.ref b6)])) rfl rfl (hb hby at_87)
  have V_b6_8 := Arv.set Ar_b6 q_b6 S_b6 N_b6 H_b6 G_b6 (fits_nar_char _) W8 1 rfl (Nat.le_of_ble_eq_true rfl)
  have K8 : Keep h0 h8 [] := K7.wr W8 (Or.inr sz_b6)
  have N8 := Fr.snoc X8 N7 g_b6
  refine ⟨T8, _, _, b6, k6, X8, e8, N8, K8, (by have q := V_b6_8; rw [hn6, hn7] at q; exact q), fun target kt => ?_⟩
  show Steps p.tables e below (T0.setTop (mkF m 37 #[s0, s1, s2, s3, s4, .val (.int i5), .val (.int i6), .val (.int i7), s8, s9, s10, s11, s12, s13] [])) _
  refine XS.iload X0.here hx rfl (hb hby at_37) rfl ?_
  refine XS.ifYes X0.here hx rfl (pc0 := 39) (pc' := 50) rfl (hb hby at_39) rfl ((if0 _ _).trans (feq hc39).2) (by decide) (by decide) ?_
  refine XS.iload X0.here hx rfl (hb hby at_50) rfl ?_
  refine XS.iconst X0.here hx rfl (hb hby at_52) ?_
  refine XS.icmpYes X0.here hx rfl (pc0 := 53) (pc' := 69) rfl (hb hby at_53) rfl (feq hc53).2 (by decide) (by decide) ?_
  refine XS.iload X0.here hx rfl (hb hby at_69) rfl ?_
  refine XS.iconst X0.here hx rfl (hb hby at_71) ?_
  refine XS.icmpNo X0.here hx rfl (hb hby at_72) rfl (teq hc72).2 ?_
  refine XS.iconst X0.here hx rfl (hb hby at_75) ?_
  show Steps p.tables e below (T0.setTop (mkF m 76 #[s0, s1, s2, s3, s4, .val (.int i5), .val (.int i6), .val (.int i7), s8, s9, s10, s11, s12, s13] [(.int (2 : Int32))])) _
  refine st6 _ ?_
  show Steps p.tables e below (T6.setTop (mkF m 78 #[s0, s1, s2, s3, s4, .val (.int i5), .val (.int i6), .val (.int i7), s8, s9, s10, s11, s12, s13] [(.ref b6)])) _
  refine XS.dup X6.here hx rfl (hb hby at_78) rfl rfl ?_
  refine XS.iconst X6.here hx rfl (hb hby at_79) ?_
  refine XS.iload X6.here hx rfl (hb hby at_80) rfl ?_
  show Steps p.tables e below (T6.setTop (mkF m 82 #[s0, s1, s2, s3, s4, .val (.int i5), .val (.int i6), .val (.int i7), s8, s9, s10, s11, s12, s13] [(.int i6), (.int (0 : Int32)), (.ref b6), (.ref b6)])) _
  refine st7 _ ?_
  show Steps p.tables e below (T7.setTop (mkF m 83 #[s0, s1, s2, s3, s4, .val (.int i5), .val (.int i6), .val (.int i7), s8, s9, s10, s11, s12, s13] [(.ref b6)])) _
  refine XS.dup X7.here hx rfl (hb hby at_83) rfl rfl ?_
  refine XS.iconst X7.here hx rfl (hb hby at_84) ?_
  refine XS.iload X7.here hx rfl (hb hby at_85) rfl ?_
  show Steps p.tables e below (T7.setTop (mkF m 87 #[s0, s1, s2, s3, s4, .val (.int i5), .val (.int i6), .val (.int i7), s8, s9, s10, s11, s12, s13] [(.int i7), (.int (1 : Int32)), (.ref b6), (.ref b6)])) _
  refine st8 _ ?_
  show Steps p.tables e below (T8.setTop (mkF m 88 #[s0, s1, s2, s3, s4, .val (.int i5), .val (.int i6), .val (.int i7), s8, s9, s10, s11, s12, s13] [(.ref b6)])) _
  refine XS.astore X8.here hx rfl (hb hby at_88) rfl rfl (l' := #[s0, s1, s2, s3, s4, .val (.int i5), .val (.int i6), .val (.int i7), s8, s9, .val (.ref b6), s11, s12, s13]) (os0_88 hs10) ?_
  refine XS.goto X8.here hx rfl (pc0 := 90) (pc' := 147) rfl (hb hby at_90) (by decide) (by decide) ?_
  exact kt
theorem os0_117 {s0 : Slot} {s1 : Slot} {s2 : Slot} {s3 : Slot} {s4 : Slot} {z5 : Value} {z6 : Value} {z7 : Value} {z8 : Value} {s9 : Slot} {s10 : Slot} {s11 : Slot} {s12 : Slot} {s13 : Slot} {v : Addr} (h : One s10) : storeLocals #[s0, s1, s2, s3, s4, .val z5, .val z6, .val z7, .val z8, s9, s10, s11, s12, s13] 10 (.ref v) = some #[s0, s1, s2, s3, s4, .val z5, .val z6, .val z7, .val z8, s9, .val (.ref v), s11, s12, s13] := by
  rcases h with rfl | ⟨w, rfl, hw⟩
  · rfl
  · cases w <;> first | rfl | (simp [Value.category] at hw)
set_option maxRecDepth 65536 in
set_option maxHeartbeats 40000000 in
theorem own_a3 {p : Program} {l : Launch} {e : Env} {s : State} {m : MethodId} {args : Array Value} {below : List Frame} {meth : Method} {c : Code} {T0 : State} {locs : List Loc} {Z : State} {a0 : Array Value} {h0 : Heap} {n0 : Nat} (s0 : Slot) (s1 : Slot) (s2 : Slot) (s3 : Slot) (s4 : Slot) (i5 : Int32) (i6 : Int32) (i7 : Int32) (i8 : Int32) (s9 : Slot) (s10 : Slot) (s11 : Slot) (s12 : Slot) (s13 : Slot)
    (X0 : Stand p l e room_1 s m args below meth c T0 locs 0 0) (hx : p.tables.exec = Jvm.exec) (hZ : Z.Warmed39 s.vm) (hw : ∀ d ∈ tables_1, d.before a0 Z = true) (hby : c.code = code) (hml : c.maxLocals = 14) (hown : s.vm.findClass "com/example/marcwerk/marcwerk/marc/MarcTextIsTagPinLaw" = some m.cls) (e0 : T0.heap = h0) (N0 : Fr n0 locs) (Z0 : n0 ≤ h0.size) (hn6 : nar .char i6 = i6) (hn7 : nar .char i7 = i7) (hn8 : nar .char i8 = i8) (hs10 : One s10) (hc39 : ¬ (i5 = (0 : Int32))) (hc53 : ¬ (i5 = (1 : Int32))) (hc72 : ¬ (i5 = (2 : Int32))) (hc96 : i5 = (3 : Int32)) :
    ∃ (T' : State) (h' : Heap) (locs' : List Loc) (o10 : Addr) (ka : ClassId), Stand p l e room_1 s m args below meth c T' locs' 1 3 ∧ T'.heap = h' ∧ Fr n0 locs' ∧ Keep h0 h' [] ∧ Arv Z h' o10 ka .char (3 : Int32) [Value.int i6, Value.int i7, Value.int i8] (.int (0 : Int32)) ∧ ∀ target, Steps p.tables e below (T'.setTop (mkF m 147 #[s0, s1, s2, s3, s4, .val (.int i5), .val (.int i6), .val (.int i7), .val (.int i8), s9, .val (.ref o10), s11, s12, s13] [])) target → Steps p.tables e below (T0.setTop (mkF m 37 #[s0, s1, s2, s3, s4, .val (.int i5), .val (.int i6), .val (.int i7), .val (.int i8), s9, s10, s11, s12, s13] [])) target := by
  obtain ⟨T6, h6, k6, X6, e6, E6, A6, st6⟩ := newP X0 hx hZ (own_w hw 2 rfl) e0 (g := (mkF m 100 #[s0, s1, s2, s3, s4, .val (.int i5), .val (.int i6), .val (.int i7), .val (.int i8), s9, s10, s11, s12, s13] [(.int (3 : Int32))])) rfl (hb hby at_100) rfl (by decide) (cap := 3) (by decide) (by decide) (by decide) (by decide)
  obtain ⟨b6, g6⟩ : ∃ z, z = h0.size := ⟨_, rfl⟩
  rw [← g6] at A6 st6
  have V_b6 : Arv Z h6 b6 k6 .char (3 : Int32) [(.int (0 : Int32)), (.int (0 : Int32)), (.int (0 : Int32))] (.int (0 : Int32)) := (Arv.new A6 (by decide)).pad (pad_rep [] (.int (0 : Int32)) 3)
  have g_b6 : n0 ≤ b6 := Nat.le_trans Z0 (Nat.le_of_eq g6.symm)
  have sz_b6 : h0.size ≤ b6 := (Nat.le_trans (Keep.refl h0 []).1 (Nat.le_of_eq g6.symm))
  have K6 : Keep h0 h6 [] := (Keep.refl h0 []).ext E6
  obtain ⟨cl_b6_106, Ar_b6, q_b6, S_b6, N_b6, H_b6, G_b6⟩ := V_b6
  have hin106 : ¬ ((0 : Int32) < 0 ∨ cl_b6_106.slots.size ≤ ((0 : Int32)).toNatClampNeg) := inb_of S_b6 ⟨by decide, by decide⟩
  obtain ⟨T7, h7, X7, e7, W7, st7⟩ := stC X6 hx hZ e6 Ar_b6 (j := (0 : Int32)) hin106 (g := (mkF m 106 #[s0, s1, s2, s3, s4, .val (.int i5), .val (.int i6), .val (.int i7), .val (.int i8), s9, s10, s11, s12, s13] [(.int i6), (.int (0 : Int32)), (.ref b6), (.ref b6)])) rfl rfl (hb hby at_106)
  have V_b6_7 := Arv.set Ar_b6 q_b6 S_b6 N_b6 H_b6 G_b6 (fits_nar_char _) W7 0 rfl (Nat.le_of_ble_eq_true rfl)
  have K7 : Keep h0 h7 [] := K6.wr W7 (Or.inr sz_b6)
  have N7 := Fr.snoc X7 N0 g_b6
  obtain ⟨cl_b6_111, Ar_b6, q_b6, S_b6, N_b6, H_b6, G_b6⟩ := V_b6_7
  have hin111 : ¬ ((1 : Int32) < 0 ∨ cl_b6_111.slots.size ≤ ((1 : Int32)).toNatClampNeg) := inb_of S_b6 ⟨by decide, by decide⟩
  obtain ⟨T8, h8, X8, e8, W8, st8⟩ := stC X7 hx hZ e7 Ar_b6 (j := (1 : Int32)) hin111 (g := (mkF m 111 #[s0, s1, s2, s3, s4, .val (.int i5), .val (.int i6), .val (.int i7), .val (.int i8), s9, s10, s11, s12, s13] [(.int i7), (.int (1 : Int32)), (.ref b6), (.ref b6)])) rfl rfl (hb hby at_111)
  have V_b6_8 := Arv.set Ar_b6 q_b6 S_b6 N_b6 H_b6 G_b6 (fits_nar_char _) W8 1 rfl (Nat.le_of_ble_eq_true rfl)
  have K8 : Keep h0 h8 [] := K7.wr W8 (Or.inr sz_b6)
  have N8 := Fr.snoc X8 N7 g_b6
  obtain ⟨cl_b6_116, Ar_b6, q_b6, S_b6, N_b6, H_b6, G_b6⟩ := V_b6_8
  have hin116 : ¬ ((2 : Int32) < 0 ∨ cl_b6_116.slots.size ≤ ((2 : Int32)).toNatClampNeg) := inb_of S_b6 ⟨by decide, by decide⟩
  obtain ⟨T9, h9, X9, e9, W9, st9⟩ := stC X8 hx hZ e8 Ar_b6 (j := (2 : Int32)) hin116 (g := (mkF m 116 #[s0, s1, s2, s3, s4, .val (.int i5), .val (.int i6), .val (.int i7), .val (.int i8), s9, s10, s11, s12, s13] [(.int i8), (.int (2 : Int32)), (.ref b6), (.ref b6)])) rfl rfl (hb hby at_116)
  have V_b6_9 := Arv.set Ar_b6 q_b6 S_b6 N_b6 H_b6 G_b6 (fits_nar_char _) W9 2 rfl (Nat.le_of_ble_eq_true rfl)
  have K9 : Keep h0 h9 [] := K8.wr W9 (Or.inr sz_b6)
  have N9 := Fr.snoc X9 N8 g_b6
  refine ⟨T9, _, _, b6, k6, X9, e9, N9, K9, (by have q := V_b6_9; rw [hn6, hn7, hn8] at q; exact q), fun target kt => ?_⟩
  show Steps p.tables e below (T0.setTop (mkF m 37 #[s0, s1, s2, s3, s4, .val (.int i5), .val (.int i6), .val (.int i7), .val (.int i8), s9, s10, s11, s12, s13] [])) _
  refine XS.iload X0.here hx rfl (hb hby at_37) rfl ?_
  refine XS.ifYes X0.here hx rfl (pc0 := 39) (pc' := 50) rfl (hb hby at_39) rfl ((if0 _ _).trans (feq hc39).2) (by decide) (by decide) ?_
  refine XS.iload X0.here hx rfl (hb hby at_50) rfl ?_
  refine XS.iconst X0.here hx rfl (hb hby at_52) ?_
  refine XS.icmpYes X0.here hx rfl (pc0 := 53) (pc' := 69) rfl (hb hby at_53) rfl (feq hc53).2 (by decide) (by decide) ?_
  refine XS.iload X0.here hx rfl (hb hby at_69) rfl ?_
  refine XS.iconst X0.here hx rfl (hb hby at_71) ?_
  refine XS.icmpYes X0.here hx rfl (pc0 := 72) (pc' := 93) rfl (hb hby at_72) rfl (feq hc72).2 (by decide) (by decide) ?_
  refine XS.iload X0.here hx rfl (hb hby at_93) rfl ?_
  refine XS.iconst X0.here hx rfl (hb hby at_95) ?_
  refine XS.icmpNo X0.here hx rfl (hb hby at_96) rfl (teq hc96).2 ?_
  refine XS.iconst X0.here hx rfl (hb hby at_99) ?_
  show Steps p.tables e below (T0.setTop (mkF m 100 #[s0, s1, s2, s3, s4, .val (.int i5), .val (.int i6), .val (.int i7), .val (.int i8), s9, s10, s11, s12, s13] [(.int (3 : Int32))])) _
  refine st6 _ ?_
  show Steps p.tables e below (T6.setTop (mkF m 102 #[s0, s1, s2, s3, s4, .val (.int i5), .val (.int i6), .val (.int i7), .val (.int i8), s9, s10, s11, s12, s13] [(.ref b6)])) _
  refine XS.dup X6.here hx rfl (hb hby at_102) rfl rfl ?_
  refine XS.iconst X6.here hx rfl (hb hby at_103) ?_
  refine XS.iload X6.here hx rfl (hb hby at_104) rfl ?_
  show Steps p.tables e below (T6.setTop (mkF m 106 #[s0, s1, s2, s3, s4, .val (.int i5), .val (.int i6), .val (.int i7), .val (.int i8), s9, s10, s11, s12, s13] [(.int i6), (.int (0 : Int32)), (.ref b6), (.ref b6)])) _
  refine st7 _ ?_
  show Steps p.tables e below (T7.setTop (mkF m 107 #[s0, s1, s2, s3, s4, .val (.int i5), .val (.int i6), .val (.int i7), .val (.int i8), s9, s10, s11, s12, s13] [(.ref b6)])) _
  refine XS.dup X7.here hx rfl (hb hby at_107) rfl rfl ?_
  refine XS.iconst X7.here hx rfl (hb hby at_108) ?_
  refine XS.iload X7.here hx rfl (hb hby at_109) rfl ?_
  show Steps p.tables e below (T7.setTop (mkF m 111 #[s0, s1, s2, s3, s4, .val (.int i5), .val (.int i6), .val (.int i7), .val (.int i8), s9, s10, s11, s12, s13] [(.int i7), (.int (1 : Int32)), (.ref b6), (.ref b6)])) _
  refine st8 _ ?_
  show Steps p.tables e below (T8.setTop (mkF m 112 #[s0, s1, s2, s3, s4, .val (.int i5), .val (.int i6), .val (.int i7), .val (.int i8), s9, s10, s11, s12, s13] [(.ref b6)])) _
  refine XS.dup X8.here hx rfl (hb hby at_112) rfl rfl ?_
  refine XS.iconst X8.here hx rfl (hb hby at_113) ?_
  refine XS.iload X8.here hx rfl (hb hby at_114) rfl ?_
  show Steps p.tables e below (T8.setTop (mkF m 116 #[s0, s1, s2, s3, s4, .val (.int i5), .val (.int i6), .val (.int i7), .val (.int i8), s9, s10, s11, s12, s13] [(.int i8), (.int (2 : Int32)), (.ref b6), (.ref b6)])) _
  refine st9 _ ?_
  show Steps p.tables e below (T9.setTop (mkF m 117 #[s0, s1, s2, s3, s4, .val (.int i5), .val (.int i6), .val (.int i7), .val (.int i8), s9, s10, s11, s12, s13] [(.ref b6)])) _
  refine XS.astore X9.here hx rfl (hb hby at_117) rfl rfl (l' := #[s0, s1, s2, s3, s4, .val (.int i5), .val (.int i6), .val (.int i7), .val (.int i8), s9, .val (.ref b6), s11, s12, s13]) (os0_117 hs10) ?_
  refine XS.goto X9.here hx rfl (pc0 := 119) (pc' := 147) rfl (hb hby at_119) (by decide) (by decide) ?_
  exact kt
theorem os0_145 {s0 : Slot} {s1 : Slot} {s2 : Slot} {s3 : Slot} {s4 : Slot} {z5 : Value} {z6 : Value} {z7 : Value} {z8 : Value} {z9 : Value} {s10 : Slot} {s11 : Slot} {s12 : Slot} {s13 : Slot} {v : Addr} (h : One s10) : storeLocals #[s0, s1, s2, s3, s4, .val z5, .val z6, .val z7, .val z8, .val z9, s10, s11, s12, s13] 10 (.ref v) = some #[s0, s1, s2, s3, s4, .val z5, .val z6, .val z7, .val z8, .val z9, .val (.ref v), s11, s12, s13] := by
  rcases h with rfl | ⟨w, rfl, hw⟩
  · rfl
  · cases w <;> first | rfl | (simp [Value.category] at hw)
set_option maxRecDepth 65536 in
set_option maxHeartbeats 40000000 in
theorem own_a4 {p : Program} {l : Launch} {e : Env} {s : State} {m : MethodId} {args : Array Value} {below : List Frame} {meth : Method} {c : Code} {T0 : State} {locs : List Loc} {Z : State} {a0 : Array Value} {h0 : Heap} {n0 : Nat} (s0 : Slot) (s1 : Slot) (s2 : Slot) (s3 : Slot) (s4 : Slot) (i5 : Int32) (i6 : Int32) (i7 : Int32) (i8 : Int32) (i9 : Int32) (s10 : Slot) (s11 : Slot) (s12 : Slot) (s13 : Slot)
    (X0 : Stand p l e room_1 s m args below meth c T0 locs 0 0) (hx : p.tables.exec = Jvm.exec) (hZ : Z.Warmed39 s.vm) (hw : ∀ d ∈ tables_1, d.before a0 Z = true) (hby : c.code = code) (hml : c.maxLocals = 14) (hown : s.vm.findClass "com/example/marcwerk/marcwerk/marc/MarcTextIsTagPinLaw" = some m.cls) (e0 : T0.heap = h0) (N0 : Fr n0 locs) (Z0 : n0 ≤ h0.size) (hn6 : nar .char i6 = i6) (hn7 : nar .char i7 = i7) (hn8 : nar .char i8 = i8) (hn9 : nar .char i9 = i9) (hs10 : One s10) (hc39 : ¬ (i5 = (0 : Int32))) (hc53 : ¬ (i5 = (1 : Int32))) (hc72 : ¬ (i5 = (2 : Int32))) (hc96 : ¬ (i5 = (3 : Int32))) :
    ∃ (T' : State) (h' : Heap) (locs' : List Loc) (o10 : Addr) (ka : ClassId), Stand p l e room_1 s m args below meth c T' locs' 1 4 ∧ T'.heap = h' ∧ Fr n0 locs' ∧ Keep h0 h' [] ∧ Arv Z h' o10 ka .char (4 : Int32) [Value.int i6, Value.int i7, Value.int i8, Value.int i9] (.int (0 : Int32)) ∧ ∀ target, Steps p.tables e below (T'.setTop (mkF m 147 #[s0, s1, s2, s3, s4, .val (.int i5), .val (.int i6), .val (.int i7), .val (.int i8), .val (.int i9), .val (.ref o10), s11, s12, s13] [])) target → Steps p.tables e below (T0.setTop (mkF m 37 #[s0, s1, s2, s3, s4, .val (.int i5), .val (.int i6), .val (.int i7), .val (.int i8), .val (.int i9), s10, s11, s12, s13] [])) target := by
  obtain ⟨T6, h6, k6, X6, e6, E6, A6, st6⟩ := newP X0 hx hZ (own_w hw 2 rfl) e0 (g := (mkF m 123 #[s0, s1, s2, s3, s4, .val (.int i5), .val (.int i6), .val (.int i7), .val (.int i8), .val (.int i9), s10, s11, s12, s13] [(.int (4 : Int32))])) rfl (hb hby at_123) rfl (by decide) (cap := 4) (by decide) (by decide) (by decide) (by decide)
  obtain ⟨b6, g6⟩ : ∃ z, z = h0.size := ⟨_, rfl⟩
  rw [← g6] at A6 st6
  have V_b6 : Arv Z h6 b6 k6 .char (4 : Int32) [(.int (0 : Int32)), (.int (0 : Int32)), (.int (0 : Int32)), (.int (0 : Int32))] (.int (0 : Int32)) := (Arv.new A6 (by decide)).pad (pad_rep [] (.int (0 : Int32)) 4)
  have g_b6 : n0 ≤ b6 := Nat.le_trans Z0 (Nat.le_of_eq g6.symm)
  have sz_b6 : h0.size ≤ b6 := (Nat.le_trans (Keep.refl h0 []).1 (Nat.le_of_eq g6.symm))
  have K6 : Keep h0 h6 [] := (Keep.refl h0 []).ext E6
  obtain ⟨cl_b6_129, Ar_b6, q_b6, S_b6, N_b6, H_b6, G_b6⟩ := V_b6
  have hin129 : ¬ ((0 : Int32) < 0 ∨ cl_b6_129.slots.size ≤ ((0 : Int32)).toNatClampNeg) := inb_of S_b6 ⟨by decide, by decide⟩
  obtain ⟨T7, h7, X7, e7, W7, st7⟩ := stC X6 hx hZ e6 Ar_b6 (j := (0 : Int32)) hin129 (g := (mkF m 129 #[s0, s1, s2, s3, s4, .val (.int i5), .val (.int i6), .val (.int i7), .val (.int i8), .val (.int i9), s10, s11, s12, s13] [(.int i6), (.int (0 : Int32)), (.ref b6), (.ref b6)])) rfl rfl (hb hby at_129)
  have V_b6_7 := Arv.set Ar_b6 q_b6 S_b6 N_b6 H_b6 G_b6 (fits_nar_char _) W7 0 rfl (Nat.le_of_ble_eq_true rfl)
  have K7 : Keep h0 h7 [] := K6.wr W7 (Or.inr sz_b6)
  have N7 := Fr.snoc X7 N0 g_b6
  obtain ⟨cl_b6_134, Ar_b6, q_b6, S_b6, N_b6, H_b6, G_b6⟩ := V_b6_7
  have hin134 : ¬ ((1 : Int32) < 0 ∨ cl_b6_134.slots.size ≤ ((1 : Int32)).toNatClampNeg) := inb_of S_b6 ⟨by decide, by decide⟩
  obtain ⟨T8, h8, X8, e8, W8, st8⟩ := stC X7 hx hZ e7 Ar_b6 (j := (1 : Int32)) hin134 (g := (mkF m 134 #[s0, s1, s2, s3, s4, .val (.int i5), .val (.int i6), .val (.int i7), .val (.int i8), .val (.int i9), s10, s11, s12, s13] [(.int i7), (.int (1 : Int32)), (.ref b6), (.ref b6)])) rfl rfl (hb hby at_134)
  have V_b6_8 := Arv.set Ar_b6 q_b6 S_b6 N_b6 H_b6 G_b6 (fits_nar_char _) W8 1 rfl (Nat.le_of_ble_eq_true rfl)
  have K8 : Keep h0 h8 [] := K7.wr W8 (Or.inr sz_b6)
  have N8 := Fr.snoc X8 N7 g_b6
  obtain ⟨cl_b6_139, Ar_b6, q_b6, S_b6, N_b6, H_b6, G_b6⟩ := V_b6_8
  have hin139 : ¬ ((2 : Int32) < 0 ∨ cl_b6_139.slots.size ≤ ((2 : Int32)).toNatClampNeg) := inb_of S_b6 ⟨by decide, by decide⟩
  obtain ⟨T9, h9, X9, e9, W9, st9⟩ := stC X8 hx hZ e8 Ar_b6 (j := (2 : Int32)) hin139 (g := (mkF m 139 #[s0, s1, s2, s3, s4, .val (.int i5), .val (.int i6), .val (.int i7), .val (.int i8), .val (.int i9), s10, s11, s12, s13] [(.int i8), (.int (2 : Int32)), (.ref b6), (.ref b6)])) rfl rfl (hb hby at_139)
  have V_b6_9 := Arv.set Ar_b6 q_b6 S_b6 N_b6 H_b6 G_b6 (fits_nar_char _) W9 2 rfl (Nat.le_of_ble_eq_true rfl)
  have K9 : Keep h0 h9 [] := K8.wr W9 (Or.inr sz_b6)
  have N9 := Fr.snoc X9 N8 g_b6
  obtain ⟨cl_b6_144, Ar_b6, q_b6, S_b6, N_b6, H_b6, G_b6⟩ := V_b6_9
  have hin144 : ¬ ((3 : Int32) < 0 ∨ cl_b6_144.slots.size ≤ ((3 : Int32)).toNatClampNeg) := inb_of S_b6 ⟨by decide, by decide⟩
  obtain ⟨T10, h10, X10, e10, W10, st10⟩ := stC X9 hx hZ e9 Ar_b6 (j := (3 : Int32)) hin144 (g := (mkF m 144 #[s0, s1, s2, s3, s4, .val (.int i5), .val (.int i6), .val (.int i7), .val (.int i8), .val (.int i9), s10, s11, s12, s13] [(.int i9), (.int (3 : Int32)), (.ref b6), (.ref b6)])) rfl rfl (hb hby at_144)
  have V_b6_10 := Arv.set Ar_b6 q_b6 S_b6 N_b6 H_b6 G_b6 (fits_nar_char _) W10 3 rfl (Nat.le_of_ble_eq_true rfl)
  have K10 : Keep h0 h10 [] := K9.wr W10 (Or.inr sz_b6)
  have N10 := Fr.snoc X10 N9 g_b6
  refine ⟨T10, _, _, b6, k6, X10, e10, N10, K10, (by have q := V_b6_10; rw [hn6, hn7, hn8, hn9] at q; exact q), fun target kt => ?_⟩
  show Steps p.tables e below (T0.setTop (mkF m 37 #[s0, s1, s2, s3, s4, .val (.int i5), .val (.int i6), .val (.int i7), .val (.int i8), .val (.int i9), s10, s11, s12, s13] [])) _
  refine XS.iload X0.here hx rfl (hb hby at_37) rfl ?_
  refine XS.ifYes X0.here hx rfl (pc0 := 39) (pc' := 50) rfl (hb hby at_39) rfl ((if0 _ _).trans (feq hc39).2) (by decide) (by decide) ?_
  refine XS.iload X0.here hx rfl (hb hby at_50) rfl ?_
  refine XS.iconst X0.here hx rfl (hb hby at_52) ?_
  refine XS.icmpYes X0.here hx rfl (pc0 := 53) (pc' := 69) rfl (hb hby at_53) rfl (feq hc53).2 (by decide) (by decide) ?_
  refine XS.iload X0.here hx rfl (hb hby at_69) rfl ?_
  refine XS.iconst X0.here hx rfl (hb hby at_71) ?_
  refine XS.icmpYes X0.here hx rfl (pc0 := 72) (pc' := 93) rfl (hb hby at_72) rfl (feq hc72).2 (by decide) (by decide) ?_
  refine XS.iload X0.here hx rfl (hb hby at_93) rfl ?_
  refine XS.iconst X0.here hx rfl (hb hby at_95) ?_
  refine XS.icmpYes X0.here hx rfl (pc0 := 96) (pc' := 122) rfl (hb hby at_96) rfl (feq hc96).2 (by decide) (by decide) ?_
  refine XS.iconst X0.here hx rfl (hb hby at_122) ?_
  show Steps p.tables e below (T0.setTop (mkF m 123 #[s0, s1, s2, s3, s4, .val (.int i5), .val (.int i6), .val (.int i7), .val (.int i8), .val (.int i9), s10, s11, s12, s13] [(.int (4 : Int32))])) _
  refine st6 _ ?_
  show Steps p.tables e below (T6.setTop (mkF m 125 #[s0, s1, s2, s3, s4, .val (.int i5), .val (.int i6), .val (.int i7), .val (.int i8), .val (.int i9), s10, s11, s12, s13] [(.ref b6)])) _
  refine XS.dup X6.here hx rfl (hb hby at_125) rfl rfl ?_
  refine XS.iconst X6.here hx rfl (hb hby at_126) ?_
  refine XS.iload X6.here hx rfl (hb hby at_127) rfl ?_
  show Steps p.tables e below (T6.setTop (mkF m 129 #[s0, s1, s2, s3, s4, .val (.int i5), .val (.int i6), .val (.int i7), .val (.int i8), .val (.int i9), s10, s11, s12, s13] [(.int i6), (.int (0 : Int32)), (.ref b6), (.ref b6)])) _
  refine st7 _ ?_
  show Steps p.tables e below (T7.setTop (mkF m 130 #[s0, s1, s2, s3, s4, .val (.int i5), .val (.int i6), .val (.int i7), .val (.int i8), .val (.int i9), s10, s11, s12, s13] [(.ref b6)])) _
  refine XS.dup X7.here hx rfl (hb hby at_130) rfl rfl ?_
  refine XS.iconst X7.here hx rfl (hb hby at_131) ?_
  refine XS.iload X7.here hx rfl (hb hby at_132) rfl ?_
  show Steps p.tables e below (T7.setTop (mkF m 134 #[s0, s1, s2, s3, s4, .val (.int i5), .val (.int i6), .val (.int i7), .val (.int i8), .val (.int i9), s10, s11, s12, s13] [(.int i7), (.int (1 : Int32)), (.ref b6), (.ref b6)])) _
  refine st8 _ ?_
  show Steps p.tables e below (T8.setTop (mkF m 135 #[s0, s1, s2, s3, s4, .val (.int i5), .val (.int i6), .val (.int i7), .val (.int i8), .val (.int i9), s10, s11, s12, s13] [(.ref b6)])) _
  refine XS.dup X8.here hx rfl (hb hby at_135) rfl rfl ?_
  refine XS.iconst X8.here hx rfl (hb hby at_136) ?_
  refine XS.iload X8.here hx rfl (hb hby at_137) rfl ?_
  show Steps p.tables e below (T8.setTop (mkF m 139 #[s0, s1, s2, s3, s4, .val (.int i5), .val (.int i6), .val (.int i7), .val (.int i8), .val (.int i9), s10, s11, s12, s13] [(.int i8), (.int (2 : Int32)), (.ref b6), (.ref b6)])) _
  refine st9 _ ?_
  show Steps p.tables e below (T9.setTop (mkF m 140 #[s0, s1, s2, s3, s4, .val (.int i5), .val (.int i6), .val (.int i7), .val (.int i8), .val (.int i9), s10, s11, s12, s13] [(.ref b6)])) _
  refine XS.dup X9.here hx rfl (hb hby at_140) rfl rfl ?_
  refine XS.iconst X9.here hx rfl (hb hby at_141) ?_
  refine XS.iload X9.here hx rfl (hb hby at_142) rfl ?_
  show Steps p.tables e below (T9.setTop (mkF m 144 #[s0, s1, s2, s3, s4, .val (.int i5), .val (.int i6), .val (.int i7), .val (.int i8), .val (.int i9), s10, s11, s12, s13] [(.int i9), (.int (3 : Int32)), (.ref b6), (.ref b6)])) _
  refine st10 _ ?_
  show Steps p.tables e below (T10.setTop (mkF m 145 #[s0, s1, s2, s3, s4, .val (.int i5), .val (.int i6), .val (.int i7), .val (.int i8), .val (.int i9), s10, s11, s12, s13] [(.ref b6)])) _
  refine XS.astore X10.here hx rfl (hb hby at_145) rfl rfl (l' := #[s0, s1, s2, s3, s4, .val (.int i5), .val (.int i6), .val (.int i7), .val (.int i8), .val (.int i9), .val (.ref b6), s11, s12, s13]) (os0_145 hs10) ?_
  exact kt
theorem own_mono {p : Program} {l : Launch} {e : Env} {R : Room} {s : State} {m : MethodId} {args : Array Value} {below : List Frame} {meth : Method} {c : Code} {T : State} {locs : List Loc} {cells slots c2 s2 : Nat} (X : Stand p l e R s m args below meth c T locs cells slots) (h1 : cells ≤ c2) (h2 : slots ≤ s2) : Stand p l e R s m args below meth c T locs c2 s2 := { X with same := X.same.mono h1 h2 }
theorem pd_0_0 : parseMethodDescriptor "([C)V" = some ⟨[(.array .char)], none⟩ := by decide +kernel
theorem os0_156 {s0 : Slot} {s1 : Slot} {s2 : Slot} {s3 : Slot} {s4 : Slot} {s5 : Slot} {s6 : Slot} {s7 : Slot} {s8 : Slot} {s9 : Slot} {z10 : Value} {s11 : Slot} {s12 : Slot} {s13 : Slot} {v : Addr} (h : One s11) : storeLocals #[s0, s1, s2, s3, s4, s5, s6, s7, s8, s9, .val z10, s11, s12, s13] 11 (.ref v) = some #[s0, s1, s2, s3, s4, s5, s6, s7, s8, s9, .val z10, .val (.ref v), s12, s13] := by
  rcases h with rfl | ⟨w, rfl, hw⟩
  · rfl
  · cases w <;> first | rfl | (simp [Value.category] at hw)
set_option maxRecDepth 65536 in
set_option maxHeartbeats 40000000 in
theorem own_b1L {p : Program} {l : Launch} {e : Env} {s : State} {m : MethodId} {args : Array Value} {below : List Frame} {meth : Method} {c : Code} {T0 : State} {locs : List Loc} {Z : State} {a0 : Array Value} {h0 : Heap} {n0 : Nat} (s0 : Slot) (s1 : Slot) (s2 : Slot) (s3 : Slot) (s4 : Slot) (s5 : Slot) (s6 : Slot) (s7 : Slot) (s8 : Slot) (s9 : Slot) (o10 : Addr) (s11 : Slot) (s12 : Slot) (s13 : Slot) (G1 : Int32) (ka : ClassId) (c0 : Int32)
    (X0 : Stand p l e room_1 s m args below meth c T0 locs 1 1) (hx : p.tables.exec = Jvm.exec) (hZ : Z.Warmed39 s.vm) (hw : ∀ d ∈ tables_1, d.before a0 Z = true) (hby : c.code = code) (hml : c.maxLocals = 14) (hown : s.vm.findClass "com/example/marcwerk/marcwerk/marc/MarcTextIsTagPinLaw" = some m.cls) (e0 : T0.heap = h0) (N0 : Fr n0 locs) (Z0 : n0 ≤ h0.size) (Va : Arv Z h0 o10 ka .char (1 : Int32) [Value.int c0] (.int (0 : Int32))) (S_CS : Sta Z h0 "java/lang/String" "COMPACT_STRINGS" "Z" (.int G1)) (P5 : ¬ (G1 = (0 : Int32))) (hp : ∀ c ∈ ([c0] : List Int32), ¬ c < 0 ∧ ¬ (255 : Int32) < c) (hs11 : One s11) :
    ∃ (T' : State) (h' : Heap) (locs' : List Loc) (o11 : Addr), Stand p l e room_1 s m args below meth c T' locs' 3 6 ∧ T'.heap = h' ∧ Fr n0 locs' ∧ Keep h0 h' [] ∧ own_SL Z h' o11 (1 : Int32) ∧ ∀ target, Steps p.tables e below (T'.setTop (mkF m 158 #[s0, s1, s2, s3, s4, s5, s6, s7, s8, s9, .val (.ref o10), .val (.ref o11), s12, s13] [])) target → Steps p.tables e below (T0.setTop (mkF m 147 #[s0, s1, s2, s3, s4, s5, s6, s7, s8, s9, .val (.ref o10), s11, s12, s13] [])) target := by
  obtain ⟨T6, h6, X6, e6, E6, A6, D6, -, st6⟩ := newO X0 hx hZ hown (own_w hw 3 rfl) (own_w hw 4 rfl) (own_w hw 5 rfl) e0 (g := (mkF m 147 #[s0, s1, s2, s3, s4, s5, s6, s7, s8, s9, .val (.ref o10), s11, s12, s13] [])) rfl (hb hby at_147) (by decide) (by decide)
  obtain ⟨b6, g6⟩ : ∃ z, z = h0.size := ⟨_, rfl⟩
  rw [← g6] at A6 D6 st6
  have F_value_b6 : Fld Z h6 b6 "java/lang/String" "value" "[B" .null := D6 (Or.inr (own_w hw 18 rfl)) (ty := (.array .byte)) (by decide)
  have F_coder_b6 : Fld Z h6 b6 "java/lang/String" "coder" "B" (.int (0 : Int32)) := D6 (Or.inr (own_w hw 19 rfl)) (ty := .byte) (by decide)
  have E_b6 := A6
  have g_b6 : n0 ≤ b6 := Nat.le_trans Z0 (Nat.le_of_eq g6.symm)
  have sz_b6 : h0.size ≤ b6 := (Nat.le_trans (Keep.refl h0 []).1 (Nat.le_of_eq g6.symm))
  have K6 : Keep h0 h6 [] := (Keep.refl h0 []).ext E6
  have hws : ∀ d ∈ StrChars.Road.words, d.before a0 Z = true := fun d hd => hw d ((by decide +kernel : ∀ d ∈ StrChars.Road.words, d ∈ tables_1) d hd)
  obtain ⟨_, _, ⟨T7, L7, k7, n7⟩, -, X7, ⟨Lc7, hQ7, l7, y7, z7⟩, st7⟩ := X6.specialBack hx (y := (⟨"java/lang/String", "<init>", "([C)V"⟩ : MethodName)) rfl hown (mvT hZ (own_w hw 6 rfl)) (mvT hZ (own_w hw 7 rfl)) (mvT hZ (own_w hw 8 rfl)) (by decide) (StrChars.Road.backV (W := 1) hZ hws (kI := 4) (own_w hw 4 rfl) (cs := ([c0] : List Int32)) (bs := (([c0] : List Int32)).map (fun c => c.toInt8.toInt32)) (n := 1) g_b6 (Nat.le_trans Z0 K6.1) E_b6 F_value_b6 F_coder_b6 (Va.ext E6) (S_CS.ext (own_ext K6)) P5 rfl rfl (by decide) (by decide) hp rfl (by decide) (by decide)) (g := (mkF m 153 #[s0, s1, s2, s3, s4, s5, s6, s7, s8, s9, .val (.ref o10), s11, s12, s13] [(.ref o10), (.ref b6), (.ref b6)])) rfl (by rw [hml]; rfl) (Steps.refl _) (a := b6) (argsL := [(.ref o10)]) (rest := [(.ref b6)]) (lenOf pd_0_0 rfl) rfl (by show 2 * 0 + _ ≤ _; exact Nat.le_of_eq rfl) (hb hby at_153) (fun _ _ => ⟨rfl, e6, (by decide : 1 + 1 + 1 ≤ _), (by decide : 1 + 4 + 1 ≤ _)⟩)
  dsimp only [Pt.U, Pt.locs, Pt.cells, Pt.slots] at X7 l7 y7 z7 st7 hQ7
  subst l7 y7 z7
  obtain ⟨rfl, N7q, K7q, E7q, C7q, t7, kb7, _, _, _, V7q, A7q⟩ := hQ7
  have N7 := Fr.app N0 N7q
  have KH7 : Keep h0 T7.heap [] := K6.trans K7q (own_ws1 sz_b6)
  obtain ⟨clx, Arx, qx, Sx, Mx, Hx, Gx⟩ := id A7q
  refine ⟨T7, _, _, b6, X7, rfl, N7, KH7, ⟨E7q, t7, clx, (0 : Int32), (1 : Int32), V7q, C7q, Arx, Sx, Mx, by decide⟩, fun target kt => ?_⟩
  show Steps p.tables e below (T0.setTop (mkF m 147 #[s0, s1, s2, s3, s4, s5, s6, s7, s8, s9, .val (.ref o10), s11, s12, s13] [])) _
  refine st6 _ ?_
  show Steps p.tables e below (T6.setTop (mkF m 150 #[s0, s1, s2, s3, s4, s5, s6, s7, s8, s9, .val (.ref o10), s11, s12, s13] [(.ref b6)])) _
  refine XS.dup X6.here hx rfl (hb hby at_150) rfl rfl ?_
  refine XS.aload X6.here hx rfl (hb hby at_151) rfl rfl ?_
  show Steps p.tables e below (T6.setTop (mkF m 153 #[s0, s1, s2, s3, s4, s5, s6, s7, s8, s9, .val (.ref o10), s11, s12, s13] [(.ref o10), (.ref b6), (.ref b6)])) _
  refine st7.trans ?_
  show Steps p.tables e below (T7.setTop (mkF m 156 #[s0, s1, s2, s3, s4, s5, s6, s7, s8, s9, .val (.ref o10), s11, s12, s13] [(.ref b6)])) _
  refine XS.astore X7.here hx rfl (hb hby at_156) rfl rfl (l' := #[s0, s1, s2, s3, s4, s5, s6, s7, s8, s9, .val (.ref o10), .val (.ref b6), s12, s13]) (os0_156 hs11) ?_
  exact kt
set_option maxRecDepth 65536 in
set_option maxHeartbeats 40000000 in
theorem own_b1U {p : Program} {l : Launch} {e : Env} {s : State} {m : MethodId} {args : Array Value} {below : List Frame} {meth : Method} {c : Code} {T0 : State} {locs : List Loc} {Z : State} {a0 : Array Value} {h0 : Heap} {n0 : Nat} (s0 : Slot) (s1 : Slot) (s2 : Slot) (s3 : Slot) (s4 : Slot) (s5 : Slot) (s6 : Slot) (s7 : Slot) (s8 : Slot) (s9 : Slot) (o10 : Addr) (s11 : Slot) (s12 : Slot) (s13 : Slot) (G1 : Int32) (ka : ClassId) (c0 : Int32)
    (X0 : Stand p l e room_1 s m args below meth c T0 locs 1 1) (hx : p.tables.exec = Jvm.exec) (hZ : Z.Warmed39 s.vm) (hw : ∀ d ∈ tables_1, d.before a0 Z = true) (hby : c.code = code) (hml : c.maxLocals = 14) (hown : s.vm.findClass "com/example/marcwerk/marcwerk/marc/MarcTextIsTagPinLaw" = some m.cls) (e0 : T0.heap = h0) (N0 : Fr n0 locs) (Z0 : n0 ≤ h0.size) (Va : Arv Z h0 o10 ka .char (1 : Int32) [Value.int c0] (.int (0 : Int32))) (S_CS : Sta Z h0 "java/lang/String" "COMPACT_STRINGS" "Z" (.int G1)) (P5 : ¬ (G1 = (0 : Int32))) (S__assertionsDisabled : Sta Z h0 "java/lang/StringUTF16" "$assertionsDisabled" "Z" (.int (1 : Int32))) (S_HI_BYTE_SHIFT : Sta Z h0 "java/lang/StringUTF16" "HI_BYTE_SHIFT" "I" (.int (0 : Int32))) (S_LO_BYTE_SHIFT : Sta Z h0 "java/lang/StringUTF16" "LO_BYTE_SHIFT" "I" (.int (8 : Int32))) (f0 : ¬ c0 < 0 ∧ ¬ (65535 : Int32) < c0) (hbig : (255 : Int32) < c0) (hs11 : One s11) :
    ∃ (T' : State) (h' : Heap) (locs' : List Loc) (o11 : Addr), Stand p l e room_1 s m args below meth c T' locs' 4 8 ∧ T'.heap = h' ∧ Fr n0 locs' ∧ Keep h0 h' [] ∧ own_SL Z h' o11 (1 : Int32) ∧ ∀ target, Steps p.tables e below (T'.setTop (mkF m 158 #[s0, s1, s2, s3, s4, s5, s6, s7, s8, s9, .val (.ref o10), .val (.ref o11), s12, s13] [])) target → Steps p.tables e below (T0.setTop (mkF m 147 #[s0, s1, s2, s3, s4, s5, s6, s7, s8, s9, .val (.ref o10), s11, s12, s13] [])) target := by
  obtain ⟨T6, h6, X6, e6, E6, A6, D6, -, st6⟩ := newO X0 hx hZ hown (own_w hw 3 rfl) (own_w hw 4 rfl) (own_w hw 5 rfl) e0 (g := (mkF m 147 #[s0, s1, s2, s3, s4, s5, s6, s7, s8, s9, .val (.ref o10), s11, s12, s13] [])) rfl (hb hby at_147) (by decide) (by decide)
  obtain ⟨b6, g6⟩ : ∃ z, z = h0.size := ⟨_, rfl⟩
  rw [← g6] at A6 D6 st6
  have F_value_b6 : Fld Z h6 b6 "java/lang/String" "value" "[B" .null := D6 (Or.inr (own_w hw 18 rfl)) (ty := (.array .byte)) (by decide)
  have F_coder_b6 : Fld Z h6 b6 "java/lang/String" "coder" "B" (.int (0 : Int32)) := D6 (Or.inr (own_w hw 19 rfl)) (ty := .byte) (by decide)
  have E_b6 := A6
  have g_b6 : n0 ≤ b6 := Nat.le_trans Z0 (Nat.le_of_eq g6.symm)
  have sz_b6 : h0.size ≤ b6 := (Nat.le_trans (Keep.refl h0 []).1 (Nat.le_of_eq g6.symm))
  have K6 : Keep h0 h6 [] := (Keep.refl h0 []).ext E6
  obtain ⟨_, _, ⟨T7, L7, k7, n7⟩, -, X7, ⟨Lc7, hQ7, l7, y7, z7⟩, st7⟩ := X6.specialBack hx (y := (⟨"java/lang/String", "<init>", "([C)V"⟩ : MethodName)) rfl hown (mvT hZ (own_w hw 6 rfl)) (mvT hZ (own_w hw 7 rfl)) (mvT hZ (own_w hw 8 rfl)) (by decide) (backOf (W := 1) (rm1_1 l Z a0 hw [] b6 o10 G1 ka _ _ c0 h6 n0 (Nat.le_trans Z0 K6.1) (Va.ext E6) rfl E_b6 F_coder_b6 g_b6 F_value_b6 (S_CS.ext (own_ext K6)) P5 (S__assertionsDisabled.ext (own_ext K6)) (S_HI_BYTE_SHIFT.ext (own_ext K6)) (S_LO_BYTE_SHIFT.ext (own_ext K6)) f0 hbig) hZ (own_w hw 8 rfl) (own_w hw 5 rfl) (by decide) (by decide)) (g := (mkF m 153 #[s0, s1, s2, s3, s4, s5, s6, s7, s8, s9, .val (.ref o10), s11, s12, s13] [(.ref o10), (.ref b6), (.ref b6)])) rfl (by rw [hml]; rfl) (Steps.refl _) (a := b6) (argsL := [(.ref o10)]) (rest := [(.ref b6)]) (lenOf pd_0_0 rfl) rfl (by show 2 * 0 + _ ≤ _; exact Nat.le_of_eq rfl) (hb hby at_153) (fun _ _ => ⟨rfl, e6, (by decide : 1 + 1 + 2 ≤ _), (by decide : 1 + 4 + 3 ≤ _)⟩)
  dsimp only [Pt.U, Pt.locs, Pt.cells, Pt.slots] at X7 l7 y7 z7 st7 hQ7
  subst l7 y7 z7
  obtain ⟨rfl, N7q, K7q, t7, kb7, E7q, V7q, C7q, A7q⟩ := hQ7
  have N7 := Fr.app N0 N7q
  have KH7 : Keep h0 T7.heap [] := K6.trans K7q (own_ws1 sz_b6)
  obtain ⟨clx, Arx, qx, Sx, Mx, Hx, Gx⟩ := id A7q
  refine ⟨T7, _, _, b6, X7, rfl, N7, KH7, ⟨E7q, t7, clx, (1 : Int32), (2 : Int32), V7q, C7q, Arx, Sx, Mx, by decide⟩, fun target kt => ?_⟩
  show Steps p.tables e below (T0.setTop (mkF m 147 #[s0, s1, s2, s3, s4, s5, s6, s7, s8, s9, .val (.ref o10), s11, s12, s13] [])) _
  refine st6 _ ?_
  show Steps p.tables e below (T6.setTop (mkF m 150 #[s0, s1, s2, s3, s4, s5, s6, s7, s8, s9, .val (.ref o10), s11, s12, s13] [(.ref b6)])) _
  refine XS.dup X6.here hx rfl (hb hby at_150) rfl rfl ?_
  refine XS.aload X6.here hx rfl (hb hby at_151) rfl rfl ?_
  show Steps p.tables e below (T6.setTop (mkF m 153 #[s0, s1, s2, s3, s4, s5, s6, s7, s8, s9, .val (.ref o10), s11, s12, s13] [(.ref o10), (.ref b6), (.ref b6)])) _
  refine st7.trans ?_
  show Steps p.tables e below (T7.setTop (mkF m 156 #[s0, s1, s2, s3, s4, s5, s6, s7, s8, s9, .val (.ref o10), s11, s12, s13] [(.ref b6)])) _
  refine XS.astore X7.here hx rfl (hb hby at_156) rfl rfl (l' := #[s0, s1, s2, s3, s4, s5, s6, s7, s8, s9, .val (.ref o10), .val (.ref b6), s12, s13]) (os0_156 hs11) ?_
  exact kt
set_option maxRecDepth 65536 in
set_option maxHeartbeats 40000000 in
theorem own_b1 {p : Program} {l : Launch} {e : Env} {s : State} {m : MethodId} {args : Array Value} {below : List Frame} {meth : Method} {c : Code} {T0 : State} {locs : List Loc} {Z : State} {a0 : Array Value} {h0 : Heap} {n0 : Nat} (s0 : Slot) (s1 : Slot) (s2 : Slot) (s3 : Slot) (s4 : Slot) (s5 : Slot) (s6 : Slot) (s7 : Slot) (s8 : Slot) (s9 : Slot) (o10 : Addr) (s11 : Slot) (s12 : Slot) (s13 : Slot) (G1 : Int32) (ka : ClassId) (c0 : Int32)
    (X0 : Stand p l e room_1 s m args below meth c T0 locs 1 1) (hx : p.tables.exec = Jvm.exec) (hZ : Z.Warmed39 s.vm) (hw : ∀ d ∈ tables_1, d.before a0 Z = true) (hby : c.code = code) (hml : c.maxLocals = 14) (hown : s.vm.findClass "com/example/marcwerk/marcwerk/marc/MarcTextIsTagPinLaw" = some m.cls) (e0 : T0.heap = h0) (N0 : Fr n0 locs) (Z0 : n0 ≤ h0.size) (Va : Arv Z h0 o10 ka .char (1 : Int32) [Value.int c0] (.int (0 : Int32))) (S_CS : Sta Z h0 "java/lang/String" "COMPACT_STRINGS" "Z" (.int G1)) (P5 : ¬ (G1 = (0 : Int32))) (S__assertionsDisabled : Sta Z h0 "java/lang/StringUTF16" "$assertionsDisabled" "Z" (.int (1 : Int32))) (S_HI_BYTE_SHIFT : Sta Z h0 "java/lang/StringUTF16" "HI_BYTE_SHIFT" "I" (.int (0 : Int32))) (S_LO_BYTE_SHIFT : Sta Z h0 "java/lang/StringUTF16" "LO_BYTE_SHIFT" "I" (.int (8 : Int32))) (f0 : ¬ c0 < 0 ∧ ¬ (65535 : Int32) < c0) (hs11 : One s11) :
    ∃ (T' : State) (h' : Heap) (locs' : List Loc) (o11 : Addr), Stand p l e room_1 s m args below meth c T' locs' 4 20 ∧ T'.heap = h' ∧ Fr n0 locs' ∧ Keep h0 h' [] ∧ own_SL Z h' o11 (1 : Int32) ∧ ∀ target, Steps p.tables e below (T'.setTop (mkF m 158 #[s0, s1, s2, s3, s4, s5, s6, s7, s8, s9, .val (.ref o10), .val (.ref o11), s12, s13] [])) target → Steps p.tables e below (T0.setTop (mkF m 147 #[s0, s1, s2, s3, s4, s5, s6, s7, s8, s9, .val (.ref o10), s11, s12, s13] [])) target := by
  by_cases hb : (255 : Int32) < c0
  · obtain ⟨T', h', locs', o11, X', e', N', K', W', st'⟩ := own_b1U s0 s1 s2 s3 s4 s5 s6 s7 s8 s9 o10 s11 s12 s13 G1 ka c0 X0 hx hZ hw hby hml hown e0 N0 Z0 Va S_CS P5 S__assertionsDisabled S_HI_BYTE_SHIFT S_LO_BYTE_SHIFT f0 hb hs11
    exact ⟨T', h', locs', o11, own_mono X' (by decide) (by decide), e', N', K', W', st'⟩
  · have hp : ∀ c ∈ ([c0] : List Int32), ¬ c < 0 ∧ ¬ (255 : Int32) < c := by
      intro c hc
      simp only [List.mem_cons, List.not_mem_nil, or_false] at hc
      rcases hc with rfl
      · exact ⟨f0.1, fun q => hb (q)⟩
    obtain ⟨T', h', locs', o11, X', e', N', K', W', st'⟩ := own_b1L s0 s1 s2 s3 s4 s5 s6 s7 s8 s9 o10 s11 s12 s13 G1 ka c0 X0 hx hZ hw hby hml hown e0 N0 Z0 Va S_CS P5 hp hs11
    exact ⟨T', h', locs', o11, own_mono X' (by decide) (by decide), e', N', K', W', st'⟩
set_option maxRecDepth 65536 in
set_option maxHeartbeats 40000000 in
theorem own_b2L {p : Program} {l : Launch} {e : Env} {s : State} {m : MethodId} {args : Array Value} {below : List Frame} {meth : Method} {c : Code} {T0 : State} {locs : List Loc} {Z : State} {a0 : Array Value} {h0 : Heap} {n0 : Nat} (s0 : Slot) (s1 : Slot) (s2 : Slot) (s3 : Slot) (s4 : Slot) (s5 : Slot) (s6 : Slot) (s7 : Slot) (s8 : Slot) (s9 : Slot) (o10 : Addr) (s11 : Slot) (s12 : Slot) (s13 : Slot) (G1 : Int32) (ka : ClassId) (c0 : Int32) (c1 : Int32)
    (X0 : Stand p l e room_1 s m args below meth c T0 locs 1 2) (hx : p.tables.exec = Jvm.exec) (hZ : Z.Warmed39 s.vm) (hw : ∀ d ∈ tables_1, d.before a0 Z = true) (hby : c.code = code) (hml : c.maxLocals = 14) (hown : s.vm.findClass "com/example/marcwerk/marcwerk/marc/MarcTextIsTagPinLaw" = some m.cls) (e0 : T0.heap = h0) (N0 : Fr n0 locs) (Z0 : n0 ≤ h0.size) (Va : Arv Z h0 o10 ka .char (2 : Int32) [Value.int c0, Value.int c1] (.int (0 : Int32))) (S_CS : Sta Z h0 "java/lang/String" "COMPACT_STRINGS" "Z" (.int G1)) (P5 : ¬ (G1 = (0 : Int32))) (hp : ∀ c ∈ ([c0, c1] : List Int32), ¬ c < 0 ∧ ¬ (255 : Int32) < c) (hs11 : One s11) :
    ∃ (T' : State) (h' : Heap) (locs' : List Loc) (o11 : Addr), Stand p l e room_1 s m args below meth c T' locs' 3 8 ∧ T'.heap = h' ∧ Fr n0 locs' ∧ Keep h0 h' [] ∧ own_SL Z h' o11 (2 : Int32) ∧ ∀ target, Steps p.tables e below (T'.setTop (mkF m 158 #[s0, s1, s2, s3, s4, s5, s6, s7, s8, s9, .val (.ref o10), .val (.ref o11), s12, s13] [])) target → Steps p.tables e below (T0.setTop (mkF m 147 #[s0, s1, s2, s3, s4, s5, s6, s7, s8, s9, .val (.ref o10), s11, s12, s13] [])) target := by
  obtain ⟨T6, h6, X6, e6, E6, A6, D6, -, st6⟩ := newO X0 hx hZ hown (own_w hw 3 rfl) (own_w hw 4 rfl) (own_w hw 5 rfl) e0 (g := (mkF m 147 #[s0, s1, s2, s3, s4, s5, s6, s7, s8, s9, .val (.ref o10), s11, s12, s13] [])) rfl (hb hby at_147) (by decide) (by decide)
  obtain ⟨b6, g6⟩ : ∃ z, z = h0.size := ⟨_, rfl⟩
  rw [← g6] at A6 D6 st6
  have F_value_b6 : Fld Z h6 b6 "java/lang/String" "value" "[B" .null := D6 (Or.inr (own_w hw 18 rfl)) (ty := (.array .byte)) (by decide)
  have F_coder_b6 : Fld Z h6 b6 "java/lang/String" "coder" "B" (.int (0 : Int32)) := D6 (Or.inr (own_w hw 19 rfl)) (ty := .byte) (by decide)
  have E_b6 := A6
  have g_b6 : n0 ≤ b6 := Nat.le_trans Z0 (Nat.le_of_eq g6.symm)
  have sz_b6 : h0.size ≤ b6 := (Nat.le_trans (Keep.refl h0 []).1 (Nat.le_of_eq g6.symm))
  have K6 : Keep h0 h6 [] := (Keep.refl h0 []).ext E6
  have hws : ∀ d ∈ StrChars.Road.words, d.before a0 Z = true := fun d hd => hw d ((by decide +kernel : ∀ d ∈ StrChars.Road.words, d ∈ tables_1) d hd)
  obtain ⟨_, _, ⟨T7, L7, k7, n7⟩, -, X7, ⟨Lc7, hQ7, l7, y7, z7⟩, st7⟩ := X6.specialBack hx (y := (⟨"java/lang/String", "<init>", "([C)V"⟩ : MethodName)) rfl hown (mvT hZ (own_w hw 6 rfl)) (mvT hZ (own_w hw 7 rfl)) (mvT hZ (own_w hw 8 rfl)) (by decide) (StrChars.Road.backV (W := 1) hZ hws (kI := 4) (own_w hw 4 rfl) (cs := ([c0, c1] : List Int32)) (bs := (([c0, c1] : List Int32)).map (fun c => c.toInt8.toInt32)) (n := 2) g_b6 (Nat.le_trans Z0 K6.1) E_b6 F_value_b6 F_coder_b6 (Va.ext E6) (S_CS.ext (own_ext K6)) P5 rfl rfl (by decide) (by decide) hp rfl (by decide) (by decide)) (g := (mkF m 153 #[s0, s1, s2, s3, s4, s5, s6, s7, s8, s9, .val (.ref o10), s11, s12, s13] [(.ref o10), (.ref b6), (.ref b6)])) rfl (by rw [hml]; rfl) (Steps.refl _) (a := b6) (argsL := [(.ref o10)]) (rest := [(.ref b6)]) (lenOf pd_0_0 rfl) rfl (by show 2 * 0 + _ ≤ _; exact Nat.le_of_eq rfl) (hb hby at_153) (fun _ _ => ⟨rfl, e6, (by decide : 1 + 1 + 1 ≤ _), (by decide : 2 + 4 + 2 ≤ _)⟩)
  dsimp only [Pt.U, Pt.locs, Pt.cells, Pt.slots] at X7 l7 y7 z7 st7 hQ7
  subst l7 y7 z7
  obtain ⟨rfl, N7q, K7q, E7q, C7q, t7, kb7, _, _, _, V7q, A7q⟩ := hQ7
  have N7 := Fr.app N0 N7q
  have KH7 : Keep h0 T7.heap [] := K6.trans K7q (own_ws1 sz_b6)
  obtain ⟨clx, Arx, qx, Sx, Mx, Hx, Gx⟩ := id A7q
  refine ⟨T7, _, _, b6, X7, rfl, N7, KH7, ⟨E7q, t7, clx, (0 : Int32), (2 : Int32), V7q, C7q, Arx, Sx, Mx, by decide⟩, fun target kt => ?_⟩
  show Steps p.tables e below (T0.setTop (mkF m 147 #[s0, s1, s2, s3, s4, s5, s6, s7, s8, s9, .val (.ref o10), s11, s12, s13] [])) _
  refine st6 _ ?_
  show Steps p.tables e below (T6.setTop (mkF m 150 #[s0, s1, s2, s3, s4, s5, s6, s7, s8, s9, .val (.ref o10), s11, s12, s13] [(.ref b6)])) _
  refine XS.dup X6.here hx rfl (hb hby at_150) rfl rfl ?_
  refine XS.aload X6.here hx rfl (hb hby at_151) rfl rfl ?_
  show Steps p.tables e below (T6.setTop (mkF m 153 #[s0, s1, s2, s3, s4, s5, s6, s7, s8, s9, .val (.ref o10), s11, s12, s13] [(.ref o10), (.ref b6), (.ref b6)])) _
  refine st7.trans ?_
  show Steps p.tables e below (T7.setTop (mkF m 156 #[s0, s1, s2, s3, s4, s5, s6, s7, s8, s9, .val (.ref o10), s11, s12, s13] [(.ref b6)])) _
  refine XS.astore X7.here hx rfl (hb hby at_156) rfl rfl (l' := #[s0, s1, s2, s3, s4, s5, s6, s7, s8, s9, .val (.ref o10), .val (.ref b6), s12, s13]) (os0_156 hs11) ?_
  exact kt
set_option maxRecDepth 65536 in
set_option maxHeartbeats 40000000 in
theorem own_b2U {p : Program} {l : Launch} {e : Env} {s : State} {m : MethodId} {args : Array Value} {below : List Frame} {meth : Method} {c : Code} {T0 : State} {locs : List Loc} {Z : State} {a0 : Array Value} {h0 : Heap} {n0 : Nat} (s0 : Slot) (s1 : Slot) (s2 : Slot) (s3 : Slot) (s4 : Slot) (s5 : Slot) (s6 : Slot) (s7 : Slot) (s8 : Slot) (s9 : Slot) (o10 : Addr) (s11 : Slot) (s12 : Slot) (s13 : Slot) (G1 : Int32) (ka : ClassId) (c0 : Int32) (c1 : Int32)
    (X0 : Stand p l e room_1 s m args below meth c T0 locs 1 2) (hx : p.tables.exec = Jvm.exec) (hZ : Z.Warmed39 s.vm) (hw : ∀ d ∈ tables_1, d.before a0 Z = true) (hby : c.code = code) (hml : c.maxLocals = 14) (hown : s.vm.findClass "com/example/marcwerk/marcwerk/marc/MarcTextIsTagPinLaw" = some m.cls) (e0 : T0.heap = h0) (N0 : Fr n0 locs) (Z0 : n0 ≤ h0.size) (Va : Arv Z h0 o10 ka .char (2 : Int32) [Value.int c0, Value.int c1] (.int (0 : Int32))) (S_CS : Sta Z h0 "java/lang/String" "COMPACT_STRINGS" "Z" (.int G1)) (P5 : ¬ (G1 = (0 : Int32))) (S__assertionsDisabled : Sta Z h0 "java/lang/StringUTF16" "$assertionsDisabled" "Z" (.int (1 : Int32))) (S_HI_BYTE_SHIFT : Sta Z h0 "java/lang/StringUTF16" "HI_BYTE_SHIFT" "I" (.int (0 : Int32))) (S_LO_BYTE_SHIFT : Sta Z h0 "java/lang/StringUTF16" "LO_BYTE_SHIFT" "I" (.int (8 : Int32))) (f0 : ¬ c0 < 0 ∧ ¬ (65535 : Int32) < c0) (f1 : ¬ c1 < 0 ∧ ¬ (65535 : Int32) < c1) (hbig : (255 : Int32) < c0 ∨ (255 : Int32) < c1) (hs11 : One s11) :
    ∃ (T' : State) (h' : Heap) (locs' : List Loc) (o11 : Addr), Stand p l e room_1 s m args below meth c T' locs' 4 12 ∧ T'.heap = h' ∧ Fr n0 locs' ∧ Keep h0 h' [] ∧ own_SL Z h' o11 (2 : Int32) ∧ ∀ target, Steps p.tables e below (T'.setTop (mkF m 158 #[s0, s1, s2, s3, s4, s5, s6, s7, s8, s9, .val (.ref o10), .val (.ref o11), s12, s13] [])) target → Steps p.tables e below (T0.setTop (mkF m 147 #[s0, s1, s2, s3, s4, s5, s6, s7, s8, s9, .val (.ref o10), s11, s12, s13] [])) target := by
  obtain ⟨T6, h6, X6, e6, E6, A6, D6, -, st6⟩ := newO X0 hx hZ hown (own_w hw 3 rfl) (own_w hw 4 rfl) (own_w hw 5 rfl) e0 (g := (mkF m 147 #[s0, s1, s2, s3, s4, s5, s6, s7, s8, s9, .val (.ref o10), s11, s12, s13] [])) rfl (hb hby at_147) (by decide) (by decide)
  obtain ⟨b6, g6⟩ : ∃ z, z = h0.size := ⟨_, rfl⟩
  rw [← g6] at A6 D6 st6
  have F_value_b6 : Fld Z h6 b6 "java/lang/String" "value" "[B" .null := D6 (Or.inr (own_w hw 18 rfl)) (ty := (.array .byte)) (by decide)
  have F_coder_b6 : Fld Z h6 b6 "java/lang/String" "coder" "B" (.int (0 : Int32)) := D6 (Or.inr (own_w hw 19 rfl)) (ty := .byte) (by decide)
  have E_b6 := A6
  have g_b6 : n0 ≤ b6 := Nat.le_trans Z0 (Nat.le_of_eq g6.symm)
  have sz_b6 : h0.size ≤ b6 := (Nat.le_trans (Keep.refl h0 []).1 (Nat.le_of_eq g6.symm))
  have K6 : Keep h0 h6 [] := (Keep.refl h0 []).ext E6
  obtain ⟨_, _, ⟨T7, L7, k7, n7⟩, -, X7, ⟨Lc7, hQ7, l7, y7, z7⟩, st7⟩ := X6.specialBack hx (y := (⟨"java/lang/String", "<init>", "([C)V"⟩ : MethodName)) rfl hown (mvT hZ (own_w hw 6 rfl)) (mvT hZ (own_w hw 7 rfl)) (mvT hZ (own_w hw 8 rfl)) (by decide) (backOf (W := 1) (rm1_2 l Z a0 hw [] b6 o10 G1 ka _ _ c0 c1 h6 n0 (Nat.le_trans Z0 K6.1) (Va.ext E6) rfl rfl E_b6 F_coder_b6 g_b6 F_value_b6 (S_CS.ext (own_ext K6)) P5 (S__assertionsDisabled.ext (own_ext K6)) (S_HI_BYTE_SHIFT.ext (own_ext K6)) (S_LO_BYTE_SHIFT.ext (own_ext K6)) f0 f1 hbig) hZ (own_w hw 8 rfl) (own_w hw 5 rfl) (by decide) (by decide)) (g := (mkF m 153 #[s0, s1, s2, s3, s4, s5, s6, s7, s8, s9, .val (.ref o10), s11, s12, s13] [(.ref o10), (.ref b6), (.ref b6)])) rfl (by rw [hml]; rfl) (Steps.refl _) (a := b6) (argsL := [(.ref o10)]) (rest := [(.ref b6)]) (lenOf pd_0_0 rfl) rfl (by show 2 * 0 + _ ≤ _; exact Nat.le_of_eq rfl) (hb hby at_153) (fun _ _ => ⟨rfl, e6, (by decide : 1 + 1 + 2 ≤ _), (by decide : 2 + 4 + 6 ≤ _)⟩)
  dsimp only [Pt.U, Pt.locs, Pt.cells, Pt.slots] at X7 l7 y7 z7 st7 hQ7
  subst l7 y7 z7
  obtain ⟨rfl, N7q, K7q, t7, kb7, E7q, V7q, C7q, A7q⟩ := hQ7
  have N7 := Fr.app N0 N7q
  have KH7 : Keep h0 T7.heap [] := K6.trans K7q (own_ws1 sz_b6)
  obtain ⟨clx, Arx, qx, Sx, Mx, Hx, Gx⟩ := id A7q
  refine ⟨T7, _, _, b6, X7, rfl, N7, KH7, ⟨E7q, t7, clx, (1 : Int32), (4 : Int32), V7q, C7q, Arx, Sx, Mx, by decide⟩, fun target kt => ?_⟩
  show Steps p.tables e below (T0.setTop (mkF m 147 #[s0, s1, s2, s3, s4, s5, s6, s7, s8, s9, .val (.ref o10), s11, s12, s13] [])) _
  refine st6 _ ?_
  show Steps p.tables e below (T6.setTop (mkF m 150 #[s0, s1, s2, s3, s4, s5, s6, s7, s8, s9, .val (.ref o10), s11, s12, s13] [(.ref b6)])) _
  refine XS.dup X6.here hx rfl (hb hby at_150) rfl rfl ?_
  refine XS.aload X6.here hx rfl (hb hby at_151) rfl rfl ?_
  show Steps p.tables e below (T6.setTop (mkF m 153 #[s0, s1, s2, s3, s4, s5, s6, s7, s8, s9, .val (.ref o10), s11, s12, s13] [(.ref o10), (.ref b6), (.ref b6)])) _
  refine st7.trans ?_
  show Steps p.tables e below (T7.setTop (mkF m 156 #[s0, s1, s2, s3, s4, s5, s6, s7, s8, s9, .val (.ref o10), s11, s12, s13] [(.ref b6)])) _
  refine XS.astore X7.here hx rfl (hb hby at_156) rfl rfl (l' := #[s0, s1, s2, s3, s4, s5, s6, s7, s8, s9, .val (.ref o10), .val (.ref b6), s12, s13]) (os0_156 hs11) ?_
  exact kt
set_option maxRecDepth 65536 in
set_option maxHeartbeats 40000000 in
theorem own_b2 {p : Program} {l : Launch} {e : Env} {s : State} {m : MethodId} {args : Array Value} {below : List Frame} {meth : Method} {c : Code} {T0 : State} {locs : List Loc} {Z : State} {a0 : Array Value} {h0 : Heap} {n0 : Nat} (s0 : Slot) (s1 : Slot) (s2 : Slot) (s3 : Slot) (s4 : Slot) (s5 : Slot) (s6 : Slot) (s7 : Slot) (s8 : Slot) (s9 : Slot) (o10 : Addr) (s11 : Slot) (s12 : Slot) (s13 : Slot) (G1 : Int32) (ka : ClassId) (c0 : Int32) (c1 : Int32)
    (X0 : Stand p l e room_1 s m args below meth c T0 locs 1 2) (hx : p.tables.exec = Jvm.exec) (hZ : Z.Warmed39 s.vm) (hw : ∀ d ∈ tables_1, d.before a0 Z = true) (hby : c.code = code) (hml : c.maxLocals = 14) (hown : s.vm.findClass "com/example/marcwerk/marcwerk/marc/MarcTextIsTagPinLaw" = some m.cls) (e0 : T0.heap = h0) (N0 : Fr n0 locs) (Z0 : n0 ≤ h0.size) (Va : Arv Z h0 o10 ka .char (2 : Int32) [Value.int c0, Value.int c1] (.int (0 : Int32))) (S_CS : Sta Z h0 "java/lang/String" "COMPACT_STRINGS" "Z" (.int G1)) (P5 : ¬ (G1 = (0 : Int32))) (S__assertionsDisabled : Sta Z h0 "java/lang/StringUTF16" "$assertionsDisabled" "Z" (.int (1 : Int32))) (S_HI_BYTE_SHIFT : Sta Z h0 "java/lang/StringUTF16" "HI_BYTE_SHIFT" "I" (.int (0 : Int32))) (S_LO_BYTE_SHIFT : Sta Z h0 "java/lang/StringUTF16" "LO_BYTE_SHIFT" "I" (.int (8 : Int32))) (f0 : ¬ c0 < 0 ∧ ¬ (65535 : Int32) < c0) (f1 : ¬ c1 < 0 ∧ ¬ (65535 : Int32) < c1) (hs11 : One s11) :
    ∃ (T' : State) (h' : Heap) (locs' : List Loc) (o11 : Addr), Stand p l e room_1 s m args below meth c T' locs' 4 20 ∧ T'.heap = h' ∧ Fr n0 locs' ∧ Keep h0 h' [] ∧ own_SL Z h' o11 (2 : Int32) ∧ ∀ target, Steps p.tables e below (T'.setTop (mkF m 158 #[s0, s1, s2, s3, s4, s5, s6, s7, s8, s9, .val (.ref o10), .val (.ref o11), s12, s13] [])) target → Steps p.tables e below (T0.setTop (mkF m 147 #[s0, s1, s2, s3, s4, s5, s6, s7, s8, s9, .val (.ref o10), s11, s12, s13] [])) target := by
  by_cases hb : (255 : Int32) < c0 ∨ (255 : Int32) < c1
  · obtain ⟨T', h', locs', o11, X', e', N', K', W', st'⟩ := own_b2U s0 s1 s2 s3 s4 s5 s6 s7 s8 s9 o10 s11 s12 s13 G1 ka c0 c1 X0 hx hZ hw hby hml hown e0 N0 Z0 Va S_CS P5 S__assertionsDisabled S_HI_BYTE_SHIFT S_LO_BYTE_SHIFT f0 f1 hb hs11
    exact ⟨T', h', locs', o11, own_mono X' (by decide) (by decide), e', N', K', W', st'⟩
  · have hp : ∀ c ∈ ([c0, c1] : List Int32), ¬ c < 0 ∧ ¬ (255 : Int32) < c := by
      intro c hc
      simp only [List.mem_cons, List.not_mem_nil, or_false] at hc
      rcases hc with rfl | rfl
      · exact ⟨f0.1, fun q => hb (Or.inl q)⟩
      · exact ⟨f1.1, fun q => hb (Or.inr (q))⟩
    obtain ⟨T', h', locs', o11, X', e', N', K', W', st'⟩ := own_b2L s0 s1 s2 s3 s4 s5 s6 s7 s8 s9 o10 s11 s12 s13 G1 ka c0 c1 X0 hx hZ hw hby hml hown e0 N0 Z0 Va S_CS P5 hp hs11
    exact ⟨T', h', locs', o11, own_mono X' (by decide) (by decide), e', N', K', W', st'⟩
set_option maxRecDepth 65536 in
set_option maxHeartbeats 40000000 in
theorem own_b3L {p : Program} {l : Launch} {e : Env} {s : State} {m : MethodId} {args : Array Value} {below : List Frame} {meth : Method} {c : Code} {T0 : State} {locs : List Loc} {Z : State} {a0 : Array Value} {h0 : Heap} {n0 : Nat} (s0 : Slot) (s1 : Slot) (s2 : Slot) (s3 : Slot) (s4 : Slot) (s5 : Slot) (s6 : Slot) (s7 : Slot) (s8 : Slot) (s9 : Slot) (o10 : Addr) (s11 : Slot) (s12 : Slot) (s13 : Slot) (G1 : Int32) (ka : ClassId) (c0 : Int32) (c1 : Int32) (c2 : Int32)
    (X0 : Stand p l e room_1 s m args below meth c T0 locs 1 3) (hx : p.tables.exec = Jvm.exec) (hZ : Z.Warmed39 s.vm) (hw : ∀ d ∈ tables_1, d.before a0 Z = true) (hby : c.code = code) (hml : c.maxLocals = 14) (hown : s.vm.findClass "com/example/marcwerk/marcwerk/marc/MarcTextIsTagPinLaw" = some m.cls) (e0 : T0.heap = h0) (N0 : Fr n0 locs) (Z0 : n0 ≤ h0.size) (Va : Arv Z h0 o10 ka .char (3 : Int32) [Value.int c0, Value.int c1, Value.int c2] (.int (0 : Int32))) (S_CS : Sta Z h0 "java/lang/String" "COMPACT_STRINGS" "Z" (.int G1)) (P5 : ¬ (G1 = (0 : Int32))) (hp : ∀ c ∈ ([c0, c1, c2] : List Int32), ¬ c < 0 ∧ ¬ (255 : Int32) < c) (hs11 : One s11) :
    ∃ (T' : State) (h' : Heap) (locs' : List Loc) (o11 : Addr), Stand p l e room_1 s m args below meth c T' locs' 3 10 ∧ T'.heap = h' ∧ Fr n0 locs' ∧ Keep h0 h' [] ∧ own_SL Z h' o11 (3 : Int32) ∧ own_S3 Z h' o11 c0 c1 c2 ∧ ∀ target, Steps p.tables e below (T'.setTop (mkF m 158 #[s0, s1, s2, s3, s4, s5, s6, s7, s8, s9, .val (.ref o10), .val (.ref o11), s12, s13] [])) target → Steps p.tables e below (T0.setTop (mkF m 147 #[s0, s1, s2, s3, s4, s5, s6, s7, s8, s9, .val (.ref o10), s11, s12, s13] [])) target := by
  obtain ⟨T6, h6, X6, e6, E6, A6, D6, -, st6⟩ := newO X0 hx hZ hown (own_w hw 3 rfl) (own_w hw 4 rfl) (own_w hw 5 rfl) e0 (g := (mkF m 147 #[s0, s1, s2, s3, s4, s5, s6, s7, s8, s9, .val (.ref o10), s11, s12, s13] [])) rfl (hb hby at_147) (by decide) (by decide)
  obtain ⟨b6, g6⟩ : ∃ z, z = h0.size := ⟨_, rfl⟩
  rw [← g6] at A6 D6 st6
  have F_value_b6 : Fld Z h6 b6 "java/lang/String" "value" "[B" .null := D6 (Or.inr (own_w hw 18 rfl)) (ty := (.array .byte)) (by decide)
  have F_coder_b6 : Fld Z h6 b6 "java/lang/String" "coder" "B" (.int (0 : Int32)) := D6 (Or.inr (own_w hw 19 rfl)) (ty := .byte) (by decide)
  have E_b6 := A6
  have g_b6 : n0 ≤ b6 := Nat.le_trans Z0 (Nat.le_of_eq g6.symm)
  have sz_b6 : h0.size ≤ b6 := (Nat.le_trans (Keep.refl h0 []).1 (Nat.le_of_eq g6.symm))
  have K6 : Keep h0 h6 [] := (Keep.refl h0 []).ext E6
  have hws : ∀ d ∈ StrChars.Road.words, d.before a0 Z = true := fun d hd => hw d ((by decide +kernel : ∀ d ∈ StrChars.Road.words, d ∈ tables_1) d hd)
  obtain ⟨_, _, ⟨T7, L7, k7, n7⟩, -, X7, ⟨Lc7, hQ7, l7, y7, z7⟩, st7⟩ := X6.specialBack hx (y := (⟨"java/lang/String", "<init>", "([C)V"⟩ : MethodName)) rfl hown (mvT hZ (own_w hw 6 rfl)) (mvT hZ (own_w hw 7 rfl)) (mvT hZ (own_w hw 8 rfl)) (by decide) (StrChars.Road.backV (W := 1) hZ hws (kI := 4) (own_w hw 4 rfl) (cs := ([c0, c1, c2] : List Int32)) (bs := (([c0, c1, c2] : List Int32)).map (fun c => c.toInt8.toInt32)) (n := 3) g_b6 (Nat.le_trans Z0 K6.1) E_b6 F_value_b6 F_coder_b6 (Va.ext E6) (S_CS.ext (own_ext K6)) P5 rfl rfl (by decide) (by decide) hp rfl (by decide) (by decide)) (g := (mkF m 153 #[s0, s1, s2, s3, s4, s5, s6, s7, s8, s9, .val (.ref o10), s11, s12, s13] [(.ref o10), (.ref b6), (.ref b6)])) rfl (by rw [hml]; rfl) (Steps.refl _) (a := b6) (argsL := [(.ref o10)]) (rest := [(.ref b6)]) (lenOf pd_0_0 rfl) rfl (by show 2 * 0 + _ ≤ _; exact Nat.le_of_eq rfl) (hb hby at_153) (fun _ _ => ⟨rfl, e6, (by decide : 1 + 1 + 1 ≤ _), (by decide : 3 + 4 + 3 ≤ _)⟩)
  dsimp only [Pt.U, Pt.locs, Pt.cells, Pt.slots] at X7 l7 y7 z7 st7 hQ7
  subst l7 y7 z7
  obtain ⟨rfl, N7q, K7q, E7q, C7q, t7, kb7, _, _, _, V7q, A7q⟩ := hQ7
  have N7 := Fr.app N0 N7q
  have KH7 : Keep h0 T7.heap [] := K6.trans K7q (own_ws1 sz_b6)
  obtain ⟨clx, Arx, qx, Sx, Mx, Hx, Gx⟩ := id A7q
  refine ⟨T7, _, _, b6, X7, rfl, N7, KH7, ⟨E7q, t7, clx, (0 : Int32), (3 : Int32), V7q, C7q, Arx, Sx, Mx, by decide⟩, ⟨E7q, t7, kb7, _, V7q, Or.inl ⟨C7q, A7q, hp⟩⟩, fun target kt => ?_⟩
  show Steps p.tables e below (T0.setTop (mkF m 147 #[s0, s1, s2, s3, s4, s5, s6, s7, s8, s9, .val (.ref o10), s11, s12, s13] [])) _
  refine st6 _ ?_
  show Steps p.tables e below (T6.setTop (mkF m 150 #[s0, s1, s2, s3, s4, s5, s6, s7, s8, s9, .val (.ref o10), s11, s12, s13] [(.ref b6)])) _
  refine XS.dup X6.here hx rfl (hb hby at_150) rfl rfl ?_
  refine XS.aload X6.here hx rfl (hb hby at_151) rfl rfl ?_
  show Steps p.tables e below (T6.setTop (mkF m 153 #[s0, s1, s2, s3, s4, s5, s6, s7, s8, s9, .val (.ref o10), s11, s12, s13] [(.ref o10), (.ref b6), (.ref b6)])) _
  refine st7.trans ?_
  show Steps p.tables e below (T7.setTop (mkF m 156 #[s0, s1, s2, s3, s4, s5, s6, s7, s8, s9, .val (.ref o10), s11, s12, s13] [(.ref b6)])) _
  refine XS.astore X7.here hx rfl (hb hby at_156) rfl rfl (l' := #[s0, s1, s2, s3, s4, s5, s6, s7, s8, s9, .val (.ref o10), .val (.ref b6), s12, s13]) (os0_156 hs11) ?_
  exact kt
set_option maxRecDepth 65536 in
set_option maxHeartbeats 40000000 in
theorem own_b3U {p : Program} {l : Launch} {e : Env} {s : State} {m : MethodId} {args : Array Value} {below : List Frame} {meth : Method} {c : Code} {T0 : State} {locs : List Loc} {Z : State} {a0 : Array Value} {h0 : Heap} {n0 : Nat} (s0 : Slot) (s1 : Slot) (s2 : Slot) (s3 : Slot) (s4 : Slot) (s5 : Slot) (s6 : Slot) (s7 : Slot) (s8 : Slot) (s9 : Slot) (o10 : Addr) (s11 : Slot) (s12 : Slot) (s13 : Slot) (G1 : Int32) (ka : ClassId) (c0 : Int32) (c1 : Int32) (c2 : Int32)
    (X0 : Stand p l e room_1 s m args below meth c T0 locs 1 3) (hx : p.tables.exec = Jvm.exec) (hZ : Z.Warmed39 s.vm) (hw : ∀ d ∈ tables_1, d.before a0 Z = true) (hby : c.code = code) (hml : c.maxLocals = 14) (hown : s.vm.findClass "com/example/marcwerk/marcwerk/marc/MarcTextIsTagPinLaw" = some m.cls) (e0 : T0.heap = h0) (N0 : Fr n0 locs) (Z0 : n0 ≤ h0.size) (Va : Arv Z h0 o10 ka .char (3 : Int32) [Value.int c0, Value.int c1, Value.int c2] (.int (0 : Int32))) (S_CS : Sta Z h0 "java/lang/String" "COMPACT_STRINGS" "Z" (.int G1)) (P5 : ¬ (G1 = (0 : Int32))) (S__assertionsDisabled : Sta Z h0 "java/lang/StringUTF16" "$assertionsDisabled" "Z" (.int (1 : Int32))) (S_HI_BYTE_SHIFT : Sta Z h0 "java/lang/StringUTF16" "HI_BYTE_SHIFT" "I" (.int (0 : Int32))) (S_LO_BYTE_SHIFT : Sta Z h0 "java/lang/StringUTF16" "LO_BYTE_SHIFT" "I" (.int (8 : Int32))) (f0 : ¬ c0 < 0 ∧ ¬ (65535 : Int32) < c0) (f1 : ¬ c1 < 0 ∧ ¬ (65535 : Int32) < c1) (f2 : ¬ c2 < 0 ∧ ¬ (65535 : Int32) < c2) (hbig : (255 : Int32) < c0 ∨ (255 : Int32) < c1 ∨ (255 : Int32) < c2) (hf : ∀ c ∈ [c0, c1, c2], ¬ c < 0 ∧ ¬ (65535 : Int32) < c) (hs11 : One s11) :
    ∃ (T' : State) (h' : Heap) (locs' : List Loc) (o11 : Addr), Stand p l e room_1 s m args below meth c T' locs' 4 16 ∧ T'.heap = h' ∧ Fr n0 locs' ∧ Keep h0 h' [] ∧ own_SL Z h' o11 (3 : Int32) ∧ own_S3 Z h' o11 c0 c1 c2 ∧ ∀ target, Steps p.tables e below (T'.setTop (mkF m 158 #[s0, s1, s2, s3, s4, s5, s6, s7, s8, s9, .val (.ref o10), .val (.ref o11), s12, s13] [])) target → Steps p.tables e below (T0.setTop (mkF m 147 #[s0, s1, s2, s3, s4, s5, s6, s7, s8, s9, .val (.ref o10), s11, s12, s13] [])) target := by
  obtain ⟨T6, h6, X6, e6, E6, A6, D6, -, st6⟩ := newO X0 hx hZ hown (own_w hw 3 rfl) (own_w hw 4 rfl) (own_w hw 5 rfl) e0 (g := (mkF m 147 #[s0, s1, s2, s3, s4, s5, s6, s7, s8, s9, .val (.ref o10), s11, s12, s13] [])) rfl (hb hby at_147) (by decide) (by decide)
  obtain ⟨b6, g6⟩ : ∃ z, z = h0.size := ⟨_, rfl⟩
  rw [← g6] at A6 D6 st6
  have F_value_b6 : Fld Z h6 b6 "java/lang/String" "value" "[B" .null := D6 (Or.inr (own_w hw 18 rfl)) (ty := (.array .byte)) (by decide)
  have F_coder_b6 : Fld Z h6 b6 "java/lang/String" "coder" "B" (.int (0 : Int32)) := D6 (Or.inr (own_w hw 19 rfl)) (ty := .byte) (by decide)
  have E_b6 := A6
  have g_b6 : n0 ≤ b6 := Nat.le_trans Z0 (Nat.le_of_eq g6.symm)
  have sz_b6 : h0.size ≤ b6 := (Nat.le_trans (Keep.refl h0 []).1 (Nat.le_of_eq g6.symm))
  have K6 : Keep h0 h6 [] := (Keep.refl h0 []).ext E6
  obtain ⟨_, _, ⟨T7, L7, k7, n7⟩, -, X7, ⟨Lc7, hQ7, l7, y7, z7⟩, st7⟩ := X6.specialBack hx (y := (⟨"java/lang/String", "<init>", "([C)V"⟩ : MethodName)) rfl hown (mvT hZ (own_w hw 6 rfl)) (mvT hZ (own_w hw 7 rfl)) (mvT hZ (own_w hw 8 rfl)) (by decide) (backOf (W := 1) (rm1_3 l Z a0 hw [] b6 o10 G1 ka _ _ c0 c1 c2 h6 n0 (Nat.le_trans Z0 K6.1) (Va.ext E6) rfl rfl rfl E_b6 F_coder_b6 g_b6 F_value_b6 (S_CS.ext (own_ext K6)) P5 (S__assertionsDisabled.ext (own_ext K6)) (S_HI_BYTE_SHIFT.ext (own_ext K6)) (S_LO_BYTE_SHIFT.ext (own_ext K6)) f0 f1 f2 hbig) hZ (own_w hw 8 rfl) (own_w hw 5 rfl) (by decide) (by decide)) (g := (mkF m 153 #[s0, s1, s2, s3, s4, s5, s6, s7, s8, s9, .val (.ref o10), s11, s12, s13] [(.ref o10), (.ref b6), (.ref b6)])) rfl (by rw [hml]; rfl) (Steps.refl _) (a := b6) (argsL := [(.ref o10)]) (rest := [(.ref b6)]) (lenOf pd_0_0 rfl) rfl (by show 2 * 0 + _ ≤ _; exact Nat.le_of_eq rfl) (hb hby at_153) (fun _ _ => ⟨rfl, e6, (by decide : 1 + 1 + 2 ≤ _), (by decide : 3 + 4 + 9 ≤ _)⟩)
  dsimp only [Pt.U, Pt.locs, Pt.cells, Pt.slots] at X7 l7 y7 z7 st7 hQ7
  subst l7 y7 z7
  obtain ⟨rfl, N7q, K7q, t7, kb7, E7q, V7q, C7q, A7q⟩ := hQ7
  have N7 := Fr.app N0 N7q
  have KH7 : Keep h0 T7.heap [] := K6.trans K7q (own_ws1 sz_b6)
  obtain ⟨clx, Arx, qx, Sx, Mx, Hx, Gx⟩ := id A7q
  refine ⟨T7, _, _, b6, X7, rfl, N7, KH7, ⟨E7q, t7, clx, (1 : Int32), (6 : Int32), V7q, C7q, Arx, Sx, Mx, by decide⟩, ⟨E7q, t7, kb7, _, V7q, Or.inr ⟨C7q, A7q, hf⟩⟩, fun target kt => ?_⟩
  show Steps p.tables e below (T0.setTop (mkF m 147 #[s0, s1, s2, s3, s4, s5, s6, s7, s8, s9, .val (.ref o10), s11, s12, s13] [])) _
  refine st6 _ ?_
  show Steps p.tables e below (T6.setTop (mkF m 150 #[s0, s1, s2, s3, s4, s5, s6, s7, s8, s9, .val (.ref o10), s11, s12, s13] [(.ref b6)])) _
  refine XS.dup X6.here hx rfl (hb hby at_150) rfl rfl ?_
  refine XS.aload X6.here hx rfl (hb hby at_151) rfl rfl ?_
  show Steps p.tables e below (T6.setTop (mkF m 153 #[s0, s1, s2, s3, s4, s5, s6, s7, s8, s9, .val (.ref o10), s11, s12, s13] [(.ref o10), (.ref b6), (.ref b6)])) _
  refine st7.trans ?_
  show Steps p.tables e below (T7.setTop (mkF m 156 #[s0, s1, s2, s3, s4, s5, s6, s7, s8, s9, .val (.ref o10), s11, s12, s13] [(.ref b6)])) _
  refine XS.astore X7.here hx rfl (hb hby at_156) rfl rfl (l' := #[s0, s1, s2, s3, s4, s5, s6, s7, s8, s9, .val (.ref o10), .val (.ref b6), s12, s13]) (os0_156 hs11) ?_
  exact kt
set_option maxRecDepth 65536 in
set_option maxHeartbeats 40000000 in
theorem own_b3 {p : Program} {l : Launch} {e : Env} {s : State} {m : MethodId} {args : Array Value} {below : List Frame} {meth : Method} {c : Code} {T0 : State} {locs : List Loc} {Z : State} {a0 : Array Value} {h0 : Heap} {n0 : Nat} (s0 : Slot) (s1 : Slot) (s2 : Slot) (s3 : Slot) (s4 : Slot) (s5 : Slot) (s6 : Slot) (s7 : Slot) (s8 : Slot) (s9 : Slot) (o10 : Addr) (s11 : Slot) (s12 : Slot) (s13 : Slot) (G1 : Int32) (ka : ClassId) (c0 : Int32) (c1 : Int32) (c2 : Int32)
    (X0 : Stand p l e room_1 s m args below meth c T0 locs 1 3) (hx : p.tables.exec = Jvm.exec) (hZ : Z.Warmed39 s.vm) (hw : ∀ d ∈ tables_1, d.before a0 Z = true) (hby : c.code = code) (hml : c.maxLocals = 14) (hown : s.vm.findClass "com/example/marcwerk/marcwerk/marc/MarcTextIsTagPinLaw" = some m.cls) (e0 : T0.heap = h0) (N0 : Fr n0 locs) (Z0 : n0 ≤ h0.size) (Va : Arv Z h0 o10 ka .char (3 : Int32) [Value.int c0, Value.int c1, Value.int c2] (.int (0 : Int32))) (S_CS : Sta Z h0 "java/lang/String" "COMPACT_STRINGS" "Z" (.int G1)) (P5 : ¬ (G1 = (0 : Int32))) (S__assertionsDisabled : Sta Z h0 "java/lang/StringUTF16" "$assertionsDisabled" "Z" (.int (1 : Int32))) (S_HI_BYTE_SHIFT : Sta Z h0 "java/lang/StringUTF16" "HI_BYTE_SHIFT" "I" (.int (0 : Int32))) (S_LO_BYTE_SHIFT : Sta Z h0 "java/lang/StringUTF16" "LO_BYTE_SHIFT" "I" (.int (8 : Int32))) (f0 : ¬ c0 < 0 ∧ ¬ (65535 : Int32) < c0) (f1 : ¬ c1 < 0 ∧ ¬ (65535 : Int32) < c1) (f2 : ¬ c2 < 0 ∧ ¬ (65535 : Int32) < c2) (hs11 : One s11) :
    ∃ (T' : State) (h' : Heap) (locs' : List Loc) (o11 : Addr), Stand p l e room_1 s m args below meth c T' locs' 4 20 ∧ T'.heap = h' ∧ Fr n0 locs' ∧ Keep h0 h' [] ∧ own_SL Z h' o11 (3 : Int32) ∧ own_S3 Z h' o11 c0 c1 c2 ∧ ∀ target, Steps p.tables e below (T'.setTop (mkF m 158 #[s0, s1, s2, s3, s4, s5, s6, s7, s8, s9, .val (.ref o10), .val (.ref o11), s12, s13] [])) target → Steps p.tables e below (T0.setTop (mkF m 147 #[s0, s1, s2, s3, s4, s5, s6, s7, s8, s9, .val (.ref o10), s11, s12, s13] [])) target := by
  by_cases hb : (255 : Int32) < c0 ∨ (255 : Int32) < c1 ∨ (255 : Int32) < c2
  · obtain ⟨T', h', locs', o11, X', e', N', K', W', W2', st'⟩ := own_b3U s0 s1 s2 s3 s4 s5 s6 s7 s8 s9 o10 s11 s12 s13 G1 ka c0 c1 c2 X0 hx hZ hw hby hml hown e0 N0 Z0 Va S_CS P5 S__assertionsDisabled S_HI_BYTE_SHIFT S_LO_BYTE_SHIFT f0 f1 f2 hb (by intro c hc; simp only [List.mem_cons, List.not_mem_nil, or_false] at hc; rcases hc with rfl | rfl | rfl <;> assumption) hs11
    exact ⟨T', h', locs', o11, own_mono X' (by decide) (by decide), e', N', K', W', W2', st'⟩
  · have hp : ∀ c ∈ ([c0, c1, c2] : List Int32), ¬ c < 0 ∧ ¬ (255 : Int32) < c := by
      intro c hc
      simp only [List.mem_cons, List.not_mem_nil, or_false] at hc
      rcases hc with rfl | rfl | rfl
      · exact ⟨f0.1, fun q => hb (Or.inl q)⟩
      · exact ⟨f1.1, fun q => hb (Or.inr (Or.inl q))⟩
      · exact ⟨f2.1, fun q => hb (Or.inr (Or.inr (q)))⟩
    obtain ⟨T', h', locs', o11, X', e', N', K', W', W2', st'⟩ := own_b3L s0 s1 s2 s3 s4 s5 s6 s7 s8 s9 o10 s11 s12 s13 G1 ka c0 c1 c2 X0 hx hZ hw hby hml hown e0 N0 Z0 Va S_CS P5 hp hs11
    exact ⟨T', h', locs', o11, own_mono X' (by decide) (by decide), e', N', K', W', W2', st'⟩
set_option maxRecDepth 65536 in
set_option maxHeartbeats 40000000 in
theorem own_b4L {p : Program} {l : Launch} {e : Env} {s : State} {m : MethodId} {args : Array Value} {below : List Frame} {meth : Method} {c : Code} {T0 : State} {locs : List Loc} {Z : State} {a0 : Array Value} {h0 : Heap} {n0 : Nat} (s0 : Slot) (s1 : Slot) (s2 : Slot) (s3 : Slot) (s4 : Slot) (s5 : Slot) (s6 : Slot) (s7 : Slot) (s8 : Slot) (s9 : Slot) (o10 : Addr) (s11 : Slot) (s12 : Slot) (s13 : Slot) (G1 : Int32) (ka : ClassId) (c0 : Int32) (c1 : Int32) (c2 : Int32) (c3 : Int32)
    (X0 : Stand p l e room_1 s m args below meth c T0 locs 1 4) (hx : p.tables.exec = Jvm.exec) (hZ : Z.Warmed39 s.vm) (hw : ∀ d ∈ tables_1, d.before a0 Z = true) (hby : c.code = code) (hml : c.maxLocals = 14) (hown : s.vm.findClass "com/example/marcwerk/marcwerk/marc/MarcTextIsTagPinLaw" = some m.cls) (e0 : T0.heap = h0) (N0 : Fr n0 locs) (Z0 : n0 ≤ h0.size) (Va : Arv Z h0 o10 ka .char (4 : Int32) [Value.int c0, Value.int c1, Value.int c2, Value.int c3] (.int (0 : Int32))) (S_CS : Sta Z h0 "java/lang/String" "COMPACT_STRINGS" "Z" (.int G1)) (P5 : ¬ (G1 = (0 : Int32))) (hp : ∀ c ∈ ([c0, c1, c2, c3] : List Int32), ¬ c < 0 ∧ ¬ (255 : Int32) < c) (hs11 : One s11) :
    ∃ (T' : State) (h' : Heap) (locs' : List Loc) (o11 : Addr), Stand p l e room_1 s m args below meth c T' locs' 3 12 ∧ T'.heap = h' ∧ Fr n0 locs' ∧ Keep h0 h' [] ∧ own_SL Z h' o11 (4 : Int32) ∧ ∀ target, Steps p.tables e below (T'.setTop (mkF m 158 #[s0, s1, s2, s3, s4, s5, s6, s7, s8, s9, .val (.ref o10), .val (.ref o11), s12, s13] [])) target → Steps p.tables e below (T0.setTop (mkF m 147 #[s0, s1, s2, s3, s4, s5, s6, s7, s8, s9, .val (.ref o10), s11, s12, s13] [])) target := by
  obtain ⟨T6, h6, X6, e6, E6, A6, D6, -, st6⟩ := newO X0 hx hZ hown (own_w hw 3 rfl) (own_w hw 4 rfl) (own_w hw 5 rfl) e0 (g := (mkF m 147 #[s0, s1, s2, s3, s4, s5, s6, s7, s8, s9, .val (.ref o10), s11, s12, s13] [])) rfl (hb hby at_147) (by decide) (by decide)
  obtain ⟨b6, g6⟩ : ∃ z, z = h0.size := ⟨_, rfl⟩
  rw [← g6] at A6 D6 st6
  have F_value_b6 : Fld Z h6 b6 "java/lang/String" "value" "[B" .null := D6 (Or.inr (own_w hw 18 rfl)) (ty := (.array .byte)) (by decide)
  have F_coder_b6 : Fld Z h6 b6 "java/lang/String" "coder" "B" (.int (0 : Int32)) := D6 (Or.inr (own_w hw 19 rfl)) (ty := .byte) (by decide)
  have E_b6 := A6
  have g_b6 : n0 ≤ b6 := Nat.le_trans Z0 (Nat.le_of_eq g6.symm)
  have sz_b6 : h0.size ≤ b6 := (Nat.le_trans (Keep.refl h0 []).1 (Nat.le_of_eq g6.symm))
  have K6 : Keep h0 h6 [] := (Keep.refl h0 []).ext E6
  have hws : ∀ d ∈ StrChars.Road.words, d.before a0 Z = true := fun d hd => hw d ((by decide +kernel : ∀ d ∈ StrChars.Road.words, d ∈ tables_1) d hd)
  obtain ⟨_, _, ⟨T7, L7, k7, n7⟩, -, X7, ⟨Lc7, hQ7, l7, y7, z7⟩, st7⟩ := X6.specialBack hx (y := (⟨"java/lang/String", "<init>", "([C)V"⟩ : MethodName)) rfl hown (mvT hZ (own_w hw 6 rfl)) (mvT hZ (own_w hw 7 rfl)) (mvT hZ (own_w hw 8 rfl)) (by decide) (StrChars.Road.backV (W := 1) hZ hws (kI := 4) (own_w hw 4 rfl) (cs := ([c0, c1, c2, c3] : List Int32)) (bs := (([c0, c1, c2, c3] : List Int32)).map (fun c => c.toInt8.toInt32)) (n := 4) g_b6 (Nat.le_trans Z0 K6.1) E_b6 F_value_b6 F_coder_b6 (Va.ext E6) (S_CS.ext (own_ext K6)) P5 rfl rfl (by decide) (by decide) hp rfl (by decide) (by decide)) (g := (mkF m 153 #[s0, s1, s2, s3, s4, s5, s6, s7, s8, s9, .val (.ref o10), s11, s12, s13] [(.ref o10), (.ref b6), (.ref b6)])) rfl (by rw [hml]; rfl) (Steps.refl _) (a := b6) (argsL := [(.ref o10)]) (rest := [(.ref b6)]) (lenOf pd_0_0 rfl) rfl (by show 2 * 0 + _ ≤ _; exact Nat.le_of_eq rfl) (hb hby at_153) (fun _ _ => ⟨rfl, e6, (by decide : 1 + 1 + 1 ≤ _), (by decide : 4 + 4 + 4 ≤ _)⟩)
  dsimp only [Pt.U, Pt.locs, Pt.cells, Pt.slots] at X7 l7 y7 z7 st7 hQ7
  subst l7 y7 z7
  obtain ⟨rfl, N7q, K7q, E7q, C7q, t7, kb7, _, _, _, V7q, A7q⟩ := hQ7
  have N7 := Fr.app N0 N7q
  have KH7 : Keep h0 T7.heap [] := K6.trans K7q (own_ws1 sz_b6)
  obtain ⟨clx, Arx, qx, Sx, Mx, Hx, Gx⟩ := id A7q
  refine ⟨T7, _, _, b6, X7, rfl, N7, KH7, ⟨E7q, t7, clx, (0 : Int32), (4 : Int32), V7q, C7q, Arx, Sx, Mx, by decide⟩, fun target kt => ?_⟩
  show Steps p.tables e below (T0.setTop (mkF m 147 #[s0, s1, s2, s3, s4, s5, s6, s7, s8, s9, .val (.ref o10), s11, s12, s13] [])) _
  refine st6 _ ?_
  show Steps p.tables e below (T6.setTop (mkF m 150 #[s0, s1, s2, s3, s4, s5, s6, s7, s8, s9, .val (.ref o10), s11, s12, s13] [(.ref b6)])) _
  refine XS.dup X6.here hx rfl (hb hby at_150) rfl rfl ?_
  refine XS.aload X6.here hx rfl (hb hby at_151) rfl rfl ?_
  show Steps p.tables e below (T6.setTop (mkF m 153 #[s0, s1, s2, s3, s4, s5, s6, s7, s8, s9, .val (.ref o10), s11, s12, s13] [(.ref o10), (.ref b6), (.ref b6)])) _
  refine st7.trans ?_
  show Steps p.tables e below (T7.setTop (mkF m 156 #[s0, s1, s2, s3, s4, s5, s6, s7, s8, s9, .val (.ref o10), s11, s12, s13] [(.ref b6)])) _
  refine XS.astore X7.here hx rfl (hb hby at_156) rfl rfl (l' := #[s0, s1, s2, s3, s4, s5, s6, s7, s8, s9, .val (.ref o10), .val (.ref b6), s12, s13]) (os0_156 hs11) ?_
  exact kt
set_option maxRecDepth 65536 in
set_option maxHeartbeats 40000000 in
theorem own_b4U {p : Program} {l : Launch} {e : Env} {s : State} {m : MethodId} {args : Array Value} {below : List Frame} {meth : Method} {c : Code} {T0 : State} {locs : List Loc} {Z : State} {a0 : Array Value} {h0 : Heap} {n0 : Nat} (s0 : Slot) (s1 : Slot) (s2 : Slot) (s3 : Slot) (s4 : Slot) (s5 : Slot) (s6 : Slot) (s7 : Slot) (s8 : Slot) (s9 : Slot) (o10 : Addr) (s11 : Slot) (s12 : Slot) (s13 : Slot) (G1 : Int32) (ka : ClassId) (c0 : Int32) (c1 : Int32) (c2 : Int32) (c3 : Int32)
    (X0 : Stand p l e room_1 s m args below meth c T0 locs 1 4) (hx : p.tables.exec = Jvm.exec) (hZ : Z.Warmed39 s.vm) (hw : ∀ d ∈ tables_1, d.before a0 Z = true) (hby : c.code = code) (hml : c.maxLocals = 14) (hown : s.vm.findClass "com/example/marcwerk/marcwerk/marc/MarcTextIsTagPinLaw" = some m.cls) (e0 : T0.heap = h0) (N0 : Fr n0 locs) (Z0 : n0 ≤ h0.size) (Va : Arv Z h0 o10 ka .char (4 : Int32) [Value.int c0, Value.int c1, Value.int c2, Value.int c3] (.int (0 : Int32))) (S_CS : Sta Z h0 "java/lang/String" "COMPACT_STRINGS" "Z" (.int G1)) (P5 : ¬ (G1 = (0 : Int32))) (S__assertionsDisabled : Sta Z h0 "java/lang/StringUTF16" "$assertionsDisabled" "Z" (.int (1 : Int32))) (S_HI_BYTE_SHIFT : Sta Z h0 "java/lang/StringUTF16" "HI_BYTE_SHIFT" "I" (.int (0 : Int32))) (S_LO_BYTE_SHIFT : Sta Z h0 "java/lang/StringUTF16" "LO_BYTE_SHIFT" "I" (.int (8 : Int32))) (f0 : ¬ c0 < 0 ∧ ¬ (65535 : Int32) < c0) (f1 : ¬ c1 < 0 ∧ ¬ (65535 : Int32) < c1) (f2 : ¬ c2 < 0 ∧ ¬ (65535 : Int32) < c2) (f3 : ¬ c3 < 0 ∧ ¬ (65535 : Int32) < c3) (hbig : (255 : Int32) < c0 ∨ (255 : Int32) < c1 ∨ (255 : Int32) < c2 ∨ (255 : Int32) < c3) (hs11 : One s11) :
    ∃ (T' : State) (h' : Heap) (locs' : List Loc) (o11 : Addr), Stand p l e room_1 s m args below meth c T' locs' 4 20 ∧ T'.heap = h' ∧ Fr n0 locs' ∧ Keep h0 h' [] ∧ own_SL Z h' o11 (4 : Int32) ∧ ∀ target, Steps p.tables e below (T'.setTop (mkF m 158 #[s0, s1, s2, s3, s4, s5, s6, s7, s8, s9, .val (.ref o10), .val (.ref o11), s12, s13] [])) target → Steps p.tables e below (T0.setTop (mkF m 147 #[s0, s1, s2, s3, s4, s5, s6, s7, s8, s9, .val (.ref o10), s11, s12, s13] [])) target := by
  obtain ⟨T6, h6, X6, e6, E6, A6, D6, -, st6⟩ := newO X0 hx hZ hown (own_w hw 3 rfl) (own_w hw 4 rfl) (own_w hw 5 rfl) e0 (g := (mkF m 147 #[s0, s1, s2, s3, s4, s5, s6, s7, s8, s9, .val (.ref o10), s11, s12, s13] [])) rfl (hb hby at_147) (by decide) (by decide)
  obtain ⟨b6, g6⟩ : ∃ z, z = h0.size := ⟨_, rfl⟩
  rw [← g6] at A6 D6 st6
  have F_value_b6 : Fld Z h6 b6 "java/lang/String" "value" "[B" .null := D6 (Or.inr (own_w hw 18 rfl)) (ty := (.array .byte)) (by decide)
  have F_coder_b6 : Fld Z h6 b6 "java/lang/String" "coder" "B" (.int (0 : Int32)) := D6 (Or.inr (own_w hw 19 rfl)) (ty := .byte) (by decide)
  have E_b6 := A6
  have g_b6 : n0 ≤ b6 := Nat.le_trans Z0 (Nat.le_of_eq g6.symm)
  have sz_b6 : h0.size ≤ b6 := (Nat.le_trans (Keep.refl h0 []).1 (Nat.le_of_eq g6.symm))
  have K6 : Keep h0 h6 [] := (Keep.refl h0 []).ext E6
  obtain ⟨_, _, ⟨T7, L7, k7, n7⟩, -, X7, ⟨Lc7, hQ7, l7, y7, z7⟩, st7⟩ := X6.specialBack hx (y := (⟨"java/lang/String", "<init>", "([C)V"⟩ : MethodName)) rfl hown (mvT hZ (own_w hw 6 rfl)) (mvT hZ (own_w hw 7 rfl)) (mvT hZ (own_w hw 8 rfl)) (by decide) (backOf (W := 1) (rm1_4 l Z a0 hw [] b6 o10 G1 ka _ _ c0 c1 c2 c3 h6 n0 (Nat.le_trans Z0 K6.1) (Va.ext E6) rfl rfl rfl rfl E_b6 F_coder_b6 g_b6 F_value_b6 (S_CS.ext (own_ext K6)) P5 (S__assertionsDisabled.ext (own_ext K6)) (S_HI_BYTE_SHIFT.ext (own_ext K6)) (S_LO_BYTE_SHIFT.ext (own_ext K6)) f0 f1 f2 f3 hbig) hZ (own_w hw 8 rfl) (own_w hw 5 rfl) (by decide) (by decide)) (g := (mkF m 153 #[s0, s1, s2, s3, s4, s5, s6, s7, s8, s9, .val (.ref o10), s11, s12, s13] [(.ref o10), (.ref b6), (.ref b6)])) rfl (by rw [hml]; rfl) (Steps.refl _) (a := b6) (argsL := [(.ref o10)]) (rest := [(.ref b6)]) (lenOf pd_0_0 rfl) rfl (by show 2 * 0 + _ ≤ _; exact Nat.le_of_eq rfl) (hb hby at_153) (fun _ _ => ⟨rfl, e6, (by decide : 1 + 1 + 2 ≤ _), (by decide : 4 + 4 + 12 ≤ _)⟩)
  dsimp only [Pt.U, Pt.locs, Pt.cells, Pt.slots] at X7 l7 y7 z7 st7 hQ7
  subst l7 y7 z7
  obtain ⟨rfl, N7q, K7q, t7, kb7, E7q, V7q, C7q, A7q⟩ := hQ7
  have N7 := Fr.app N0 N7q
  have KH7 : Keep h0 T7.heap [] := K6.trans K7q (own_ws1 sz_b6)
  obtain ⟨clx, Arx, qx, Sx, Mx, Hx, Gx⟩ := id A7q
  refine ⟨T7, _, _, b6, X7, rfl, N7, KH7, ⟨E7q, t7, clx, (1 : Int32), (8 : Int32), V7q, C7q, Arx, Sx, Mx, by decide⟩, fun target kt => ?_⟩
  show Steps p.tables e below (T0.setTop (mkF m 147 #[s0, s1, s2, s3, s4, s5, s6, s7, s8, s9, .val (.ref o10), s11, s12, s13] [])) _
  refine st6 _ ?_
  show Steps p.tables e below (T6.setTop (mkF m 150 #[s0, s1, s2, s3, s4, s5, s6, s7, s8, s9, .val (.ref o10), s11, s12, s13] [(.ref b6)])) _
  refine XS.dup X6.here hx rfl (hb hby at_150) rfl rfl ?_
  refine XS.aload X6.here hx rfl (hb hby at_151) rfl rfl ?_
  show Steps p.tables e below (T6.setTop (mkF m 153 #[s0, s1, s2, s3, s4, s5, s6, s7, s8, s9, .val (.ref o10), s11, s12, s13] [(.ref o10), (.ref b6), (.ref b6)])) _
  refine st7.trans ?_
  show Steps p.tables e below (T7.setTop (mkF m 156 #[s0, s1, s2, s3, s4, s5, s6, s7, s8, s9, .val (.ref o10), s11, s12, s13] [(.ref b6)])) _
  refine XS.astore X7.here hx rfl (hb hby at_156) rfl rfl (l' := #[s0, s1, s2, s3, s4, s5, s6, s7, s8, s9, .val (.ref o10), .val (.ref b6), s12, s13]) (os0_156 hs11) ?_
  exact kt
set_option maxRecDepth 65536 in
set_option maxHeartbeats 40000000 in
theorem own_b4 {p : Program} {l : Launch} {e : Env} {s : State} {m : MethodId} {args : Array Value} {below : List Frame} {meth : Method} {c : Code} {T0 : State} {locs : List Loc} {Z : State} {a0 : Array Value} {h0 : Heap} {n0 : Nat} (s0 : Slot) (s1 : Slot) (s2 : Slot) (s3 : Slot) (s4 : Slot) (s5 : Slot) (s6 : Slot) (s7 : Slot) (s8 : Slot) (s9 : Slot) (o10 : Addr) (s11 : Slot) (s12 : Slot) (s13 : Slot) (G1 : Int32) (ka : ClassId) (c0 : Int32) (c1 : Int32) (c2 : Int32) (c3 : Int32)
    (X0 : Stand p l e room_1 s m args below meth c T0 locs 1 4) (hx : p.tables.exec = Jvm.exec) (hZ : Z.Warmed39 s.vm) (hw : ∀ d ∈ tables_1, d.before a0 Z = true) (hby : c.code = code) (hml : c.maxLocals = 14) (hown : s.vm.findClass "com/example/marcwerk/marcwerk/marc/MarcTextIsTagPinLaw" = some m.cls) (e0 : T0.heap = h0) (N0 : Fr n0 locs) (Z0 : n0 ≤ h0.size) (Va : Arv Z h0 o10 ka .char (4 : Int32) [Value.int c0, Value.int c1, Value.int c2, Value.int c3] (.int (0 : Int32))) (S_CS : Sta Z h0 "java/lang/String" "COMPACT_STRINGS" "Z" (.int G1)) (P5 : ¬ (G1 = (0 : Int32))) (S__assertionsDisabled : Sta Z h0 "java/lang/StringUTF16" "$assertionsDisabled" "Z" (.int (1 : Int32))) (S_HI_BYTE_SHIFT : Sta Z h0 "java/lang/StringUTF16" "HI_BYTE_SHIFT" "I" (.int (0 : Int32))) (S_LO_BYTE_SHIFT : Sta Z h0 "java/lang/StringUTF16" "LO_BYTE_SHIFT" "I" (.int (8 : Int32))) (f0 : ¬ c0 < 0 ∧ ¬ (65535 : Int32) < c0) (f1 : ¬ c1 < 0 ∧ ¬ (65535 : Int32) < c1) (f2 : ¬ c2 < 0 ∧ ¬ (65535 : Int32) < c2) (f3 : ¬ c3 < 0 ∧ ¬ (65535 : Int32) < c3) (hs11 : One s11) :
    ∃ (T' : State) (h' : Heap) (locs' : List Loc) (o11 : Addr), Stand p l e room_1 s m args below meth c T' locs' 4 20 ∧ T'.heap = h' ∧ Fr n0 locs' ∧ Keep h0 h' [] ∧ own_SL Z h' o11 (4 : Int32) ∧ ∀ target, Steps p.tables e below (T'.setTop (mkF m 158 #[s0, s1, s2, s3, s4, s5, s6, s7, s8, s9, .val (.ref o10), .val (.ref o11), s12, s13] [])) target → Steps p.tables e below (T0.setTop (mkF m 147 #[s0, s1, s2, s3, s4, s5, s6, s7, s8, s9, .val (.ref o10), s11, s12, s13] [])) target := by
  by_cases hb : (255 : Int32) < c0 ∨ (255 : Int32) < c1 ∨ (255 : Int32) < c2 ∨ (255 : Int32) < c3
  · obtain ⟨T', h', locs', o11, X', e', N', K', W', st'⟩ := own_b4U s0 s1 s2 s3 s4 s5 s6 s7 s8 s9 o10 s11 s12 s13 G1 ka c0 c1 c2 c3 X0 hx hZ hw hby hml hown e0 N0 Z0 Va S_CS P5 S__assertionsDisabled S_HI_BYTE_SHIFT S_LO_BYTE_SHIFT f0 f1 f2 f3 hb hs11
    exact ⟨T', h', locs', o11, own_mono X' (by decide) (by decide), e', N', K', W', st'⟩
  · have hp : ∀ c ∈ ([c0, c1, c2, c3] : List Int32), ¬ c < 0 ∧ ¬ (255 : Int32) < c := by
      intro c hc
      simp only [List.mem_cons, List.not_mem_nil, or_false] at hc
      rcases hc with rfl | rfl | rfl | rfl
      · exact ⟨f0.1, fun q => hb (Or.inl q)⟩
      · exact ⟨f1.1, fun q => hb (Or.inr (Or.inl q))⟩
      · exact ⟨f2.1, fun q => hb (Or.inr (Or.inr (Or.inl q)))⟩
      · exact ⟨f3.1, fun q => hb (Or.inr (Or.inr (Or.inr (q))))⟩
    obtain ⟨T', h', locs', o11, X', e', N', K', W', st'⟩ := own_b4L s0 s1 s2 s3 s4 s5 s6 s7 s8 s9 o10 s11 s12 s13 G1 ka c0 c1 c2 c3 X0 hx hZ hw hby hml hown e0 N0 Z0 Va S_CS P5 hp hs11
    exact ⟨T', h', locs', o11, own_mono X' (by decide) (by decide), e', N', K', W', st'⟩
theorem pd_0_3 : parseMethodDescriptor "(Ljava/lang/String;)Z" = some ⟨[(.object "java/lang/String")], some .boolean⟩ := by decide +kernel
theorem os0_193 {s0 : Slot} {s1 : Slot} {s2 : Slot} {s3 : Slot} {s4 : Slot} {z5 : Value} {s6 : Slot} {s7 : Slot} {s8 : Slot} {s9 : Slot} {s10 : Slot} {z11 : Value} {s12 : Slot} {s13 : Slot} {v : Int32} (h : One s12) : storeLocals #[s0, s1, s2, s3, s4, .val z5, s6, s7, s8, s9, s10, .val z11, s12, s13] 12 (.int v) = some #[s0, s1, s2, s3, s4, .val z5, s6, s7, s8, s9, s10, .val z11, .val (.int v), s13] := by
  rcases h with rfl | ⟨w, rfl, hw⟩
  · rfl
  · cases w <;> first | rfl | (simp [Value.category] at hw)
theorem os0_200 {s0 : Slot} {s1 : Slot} {s2 : Slot} {s3 : Slot} {s4 : Slot} {z5 : Value} {s6 : Slot} {s7 : Slot} {s8 : Slot} {s9 : Slot} {s10 : Slot} {z11 : Value} {z12 : Value} {s13 : Slot} {v : Int32} (h : One s13) : storeLocals #[s0, s1, s2, s3, s4, .val z5, s6, s7, s8, s9, s10, .val z11, .val z12, s13] 13 (.int v) = some #[s0, s1, s2, s3, s4, .val z5, s6, s7, s8, s9, s10, .val z11, .val z12, .val (.int v)] := by
  rcases h with rfl | ⟨w, rfl, hw⟩
  · rfl
  · cases w <;> first | rfl | (simp [Value.category] at hw)
set_option maxRecDepth 65536 in
set_option maxHeartbeats 40000000 in
theorem own_c {p : Program} {l : Launch} {e : Env} {s : State} {m : MethodId} {args : Array Value} {below : List Frame} {meth : Method} {c : Code} {T0 : State} {locs : List Loc} {Z : State} {a0 : Array Value} {h0 : Heap} {n0 : Nat} (s0 : Slot) (s1 : Slot) (s2 : Slot) (s3 : Slot) (s4 : Slot) (i5 : Int32) (s6 : Slot) (s7 : Slot) (s8 : Slot) (s9 : Slot) (s10 : Slot) (o11 : Addr) (s12 : Slot) (s13 : Slot) (nn : Int32) (G1 : Int32)
    (X0 : Stand p l e room_1 s m args below meth c T0 locs 4 20) (hx : p.tables.exec = Jvm.exec) (hZ : Z.Warmed39 s.vm) (hw : ∀ d ∈ tables_1, d.before a0 Z = true) (hby : c.code = code) (hml : c.maxLocals = 14) (hown : s.vm.findClass "com/example/marcwerk/marcwerk/marc/MarcTextIsTagPinLaw" = some m.cls) (e0 : T0.heap = h0) (N0 : Fr n0 locs) (Z0 : n0 ≤ h0.size) (HL : own_SL Z h0 o11 nn) (S_CS : Sta Z h0 "java/lang/String" "COMPACT_STRINGS" "Z" (.int G1)) (P5 : ¬ (G1 = (0 : Int32))) (hne : ¬ (nn = (3 : Int32))) (hs12 : One s12) (hs13 : One s13) (hc161 : ¬ (i5 = (3 : Int32))) (ht206 : (0 : Int32) = (0 : Int32)) :
    ∃ (T' : State) (h' : Heap) (locs' : List Loc) , Stand p l e room_1 s m args below meth c T' locs' 4 20 ∧ T'.heap = h' ∧ Fr n0 locs' ∧ Keep h0 h' [] ∧ ∀ target, Steps p.tables e below (T'.setTop (mkF m 209 #[s0, s1, s2, s3, s4, .val (.int i5), s6, s7, s8, s9, s10, .val (.ref o11), .val (.int (0 : Int32)), .val (.int (0 : Int32))] [])) target → Steps p.tables e below (T0.setTop (mkF m 158 #[s0, s1, s2, s3, s4, .val (.int i5), s6, s7, s8, s9, s10, .val (.ref o11), s12, s13] [])) target := by
  obtain ⟨_, _, ⟨T6, L6, k6, n6⟩, -, X6, ⟨Lc6, hQ6, l6, y6, z6⟩, st6⟩ := Jvm.LawKit.callS X0 hx (y := (⟨"com/example/marcwerk/marcwerk/marc/MarcText", "isTag", "(Ljava/lang/String;)Z"⟩ : MethodName)) hown (mvT hZ (own_w hw 24 rfl)) (mvT hZ (own_w hw 25 rfl)) (mvT hZ (own_w hw 26 rfl)) (mvT hZ (own_w hw 27 rfl)) (by decide) (backOf (W := 0) (rm4_ne l Z a0 hw [] o11 nn G1 h0 n0 Z0 HL S_CS P5 hne) hZ (own_w hw 27 rfl) (own_w hw 26 rfl) (by decide) (by decide)) (g := (mkF m 197 #[s0, s1, s2, s3, s4, .val (.int i5), s6, s7, s8, s9, s10, .val (.ref o11), .val (.int (0 : Int32)), s13] [(.ref o11)])) rfl (by rw [hml]; rfl) (argsL := [(.ref o11)]) (rest := []) (lenOf pd_0_3 rfl) rfl (by show 2 * 0 + _ ≤ _; exact Nat.le_of_eq rfl) (hb hby at_197) (fun _ _ => ⟨rfl, e0, (by decide : 4 + 0 + 0 ≤ _), (by decide : 20 + 0 + 0 ≤ _)⟩)
  dsimp only [Pt.U, Pt.locs, Pt.cells, Pt.slots] at X6 l6 y6 z6 st6 hQ6
  subst l6 y6 z6
  obtain ⟨rfl, N6q, e6q⟩ := hQ6
  have N6 := Fr.app N0 N6q
  have K6q : Keep h0 T6.heap [] := own_keep e6q
  have KH6 : Keep h0 T6.heap [] := (Keep.refl h0 []).trans K6q own_ws0
  have eh6 : T6.heap = h0 := by rw [e6q]
  refine ⟨T6, _, _, X6, rfl, N6, KH6, fun target kt => ?_⟩
  show Steps p.tables e below (T0.setTop (mkF m 158 #[s0, s1, s2, s3, s4, .val (.int i5), s6, s7, s8, s9, s10, .val (.ref o11), s12, s13] [])) _
  refine XS.iload X0.here hx rfl (hb hby at_158) rfl ?_
  refine XS.iconst X0.here hx rfl (hb hby at_160) ?_
  refine XS.icmpYes X0.here hx rfl (pc0 := 161) (pc' := 192) rfl (hb hby at_161) rfl (feq hc161).2 (by decide) (by decide) ?_
  refine XS.iconst X0.here hx rfl (hb hby at_192) ?_
  refine XS.istore X0.here hx rfl (hb hby at_193) rfl (l' := #[s0, s1, s2, s3, s4, .val (.int i5), s6, s7, s8, s9, s10, .val (.ref o11), .val (.int (0 : Int32)), s13]) (os0_193 hs12) ?_
  refine XS.aload X0.here hx rfl (hb hby at_195) rfl rfl ?_
  show Steps p.tables e below (T0.setTop (mkF m 197 #[s0, s1, s2, s3, s4, .val (.int i5), s6, s7, s8, s9, s10, .val (.ref o11), .val (.int (0 : Int32)), s13] [(.ref o11)])) _
  refine st6 _ ?_
  show Steps p.tables e below (T6.setTop (mkF m 200 #[s0, s1, s2, s3, s4, .val (.int i5), s6, s7, s8, s9, s10, .val (.ref o11), .val (.int (0 : Int32)), s13] [(.int (0 : Int32))])) _
  refine XS.istore X6.here hx rfl (hb hby at_200) rfl (l' := #[s0, s1, s2, s3, s4, .val (.int i5), s6, s7, s8, s9, s10, .val (.ref o11), .val (.int (0 : Int32)), .val (.int (0 : Int32))]) (os0_200 hs13) ?_
  refine XS.iload X6.here hx rfl (hb hby at_202) rfl ?_
  refine XS.iload X6.here hx rfl (hb hby at_204) rfl ?_
  refine XS.icmpNo X6.here hx rfl (hb hby at_206) rfl (teq ht206).2 ?_
  exact kt
theorem pd_0_9 : parseMethodDescriptor "(C)Z" = some ⟨[.char], some .boolean⟩ := by decide +kernel
theorem os0_193_own_dft {s0 : Slot} {s1 : Slot} {s2 : Slot} {s3 : Slot} {s4 : Slot} {z5 : Value} {z6 : Value} {s7 : Slot} {s8 : Slot} {s9 : Slot} {s10 : Slot} {z11 : Value} {s12 : Slot} {s13 : Slot} {v : Int32} (h : One s12) : storeLocals #[s0, s1, s2, s3, s4, .val z5, .val z6, s7, s8, s9, s10, .val z11, s12, s13] 12 (.int v) = some #[s0, s1, s2, s3, s4, .val z5, .val z6, s7, s8, s9, s10, .val z11, .val (.int v), s13] := by
  rcases h with rfl | ⟨w, rfl, hw⟩
  · rfl
  · cases w <;> first | rfl | (simp [Value.category] at hw)
theorem os0_200_own_dft {s0 : Slot} {s1 : Slot} {s2 : Slot} {s3 : Slot} {s4 : Slot} {z5 : Value} {z6 : Value} {s7 : Slot} {s8 : Slot} {s9 : Slot} {s10 : Slot} {z11 : Value} {z12 : Value} {s13 : Slot} {v : Int32} (h : One s13) : storeLocals #[s0, s1, s2, s3, s4, .val z5, .val z6, s7, s8, s9, s10, .val z11, .val z12, s13] 13 (.int v) = some #[s0, s1, s2, s3, s4, .val z5, .val z6, s7, s8, s9, s10, .val z11, .val z12, .val (.int v)] := by
  rcases h with rfl | ⟨w, rfl, hw⟩
  · rfl
  · cases w <;> first | rfl | (simp [Value.category] at hw)
set_option maxRecDepth 65536 in
set_option maxHeartbeats 40000000 in
theorem own_dft {p : Program} {l : Launch} {e : Env} {s : State} {m : MethodId} {args : Array Value} {below : List Frame} {meth : Method} {c : Code} {T0 : State} {locs : List Loc} {Z : State} {a0 : Array Value} {h0 : Heap} {n0 : Nat} (s0 : Slot) (s1 : Slot) (s2 : Slot) (s3 : Slot) (s4 : Slot) (i5 : Int32) (i6 : Int32) (s7 : Slot) (s8 : Slot) (s9 : Slot) (s10 : Slot) (o11 : Addr) (s12 : Slot) (s13 : Slot) (c1 : Int32) (c2 : Int32) (G1 : Int32) (G3 : Value)
    (X0 : Stand p l e room_1 s m args below meth c T0 locs 4 20) (hx : p.tables.exec = Jvm.exec) (hZ : Z.Warmed39 s.vm) (hw : ∀ d ∈ tables_1, d.before a0 Z = true) (hby : c.code = code) (hml : c.maxLocals = 14) (hown : s.vm.findClass "com/example/marcwerk/marcwerk/marc/MarcTextIsTagPinLaw" = some m.cls) (e0 : T0.heap = h0) (N0 : Fr n0 locs) (Z0 : n0 ≤ h0.size) (H3 : own_S3 Z h0 o11 i6 c1 c2) (S_CS : Sta Z h0 "java/lang/String" "COMPACT_STRINGS" "Z" (.int G1)) (P5 : ¬ (G1 = (0 : Int32))) (O4 : Sta Z h0 "jdk/internal/util/Preconditions" "SIOOBE_FORMATTER" "Ljava/util/function/BiFunction;" G3) (rG3 : G3.isRef = true) (S__assertionsDisabled : Sta Z h0 "java/lang/StringUTF16" "$assertionsDisabled" "Z" (.int (1 : Int32))) (S_HI_BYTE_SHIFT : Sta Z h0 "java/lang/StringUTF16" "HI_BYTE_SHIFT" "I" (.int (0 : Int32))) (S_LO_BYTE_SHIFT : Sta Z h0 "java/lang/StringUTF16" "LO_BYTE_SHIFT" "I" (.int (8 : Int32))) (hs12 : One s12) (hs13 : One s13) (hc161 : i5 = (3 : Int32)) (ht169 : (own_f10 i6) = (0 : Int32)) (ht206 : (own_tag i6 c1 c2) = (0 : Int32)) :
    ∃ (T' : State) (h' : Heap) (locs' : List Loc) (x12 x13 : Int32), Stand p l e room_1 s m args below meth c T' locs' 4 20 ∧ T'.heap = h' ∧ Fr n0 locs' ∧ True ∧ ∀ target, Steps p.tables e below (T'.setTop (mkF m 209 #[s0, s1, s2, s3, s4, .val (.int i5), .val (.int i6), s7, s8, s9, s10, .val (.ref o11), .val (.int x12), .val (.int x13)] [])) target → Steps p.tables e below (T0.setTop (mkF m 158 #[s0, s1, s2, s3, s4, .val (.int i5), .val (.int i6), s7, s8, s9, s10, .val (.ref o11), s12, s13] [])) target := by
  obtain ⟨_, _, ⟨T6, L6, k6, n6⟩, -, X6, ⟨Lc6, hQ6, l6, y6, z6⟩, st6⟩ := Jvm.LawKit.callS X0 hx (y := (⟨"com/example/marcwerk/marcwerk/marc/MarcTextIsTagPinLaw", "refTagChar", "(C)Z"⟩ : MethodName)) hown (mvT hZ (own_w hw 49 rfl)) (mvT hZ (own_w hw 50 rfl)) (mvT hZ (own_w hw 51 rfl)) (mvT hZ (own_w hw 52 rfl)) (by decide) (backOf (W := 0) (rm10 l Z a0 hw [] i6  h0 n0 Z0) hZ (own_w hw 52 rfl) (own_w hw 51 rfl) (by decide) (by decide)) (g := (mkF m 166 #[s0, s1, s2, s3, s4, .val (.int i5), .val (.int i6), s7, s8, s9, s10, .val (.ref o11), s12, s13] [(.int i6)])) rfl (by rw [hml]; rfl) (argsL := [(.int i6)]) (rest := []) (lenOf pd_0_9 rfl) rfl (by show 2 * 0 + _ ≤ _; exact Nat.le_of_eq rfl) (hb hby at_166) (fun _ _ => ⟨rfl, e0, (by decide : 4 + 0 + 0 ≤ _), (by decide : 20 + 0 + 0 ≤ _)⟩)
  dsimp only [Pt.U, Pt.locs, Pt.cells, Pt.slots] at X6 l6 y6 z6 st6 hQ6
  subst l6 y6 z6
  obtain ⟨rfl, N6q, e6q⟩ := hQ6
  have N6 := Fr.app N0 N6q
  have K6q : Keep h0 T6.heap [] := own_keep e6q
  have KH6 : Keep h0 T6.heap [] := (Keep.refl h0 []).trans K6q own_ws0
  have eh6 : T6.heap = h0 := by rw [e6q]
  obtain ⟨_, _, ⟨T7, L7, k7, n7⟩, -, X7, ⟨Lc7, hQ7, l7, y7, z7⟩, st7⟩ := Jvm.LawKit.callS X6 hx (y := (⟨"com/example/marcwerk/marcwerk/marc/MarcText", "isTag", "(Ljava/lang/String;)Z"⟩ : MethodName)) hown (mvT hZ (own_w hw 24 rfl)) (mvT hZ (own_w hw 25 rfl)) (mvT hZ (own_w hw 26 rfl)) (mvT hZ (own_w hw 27 rfl)) (by decide) (backOf (W := 0) (rm4_3 l Z a0 hw [] o11 i6 c1 c2 G1 G3 T6.heap n0 (Nat.le_trans Z0 KH6.1) (by rw [eh6]; exact H3) (by rw [eh6]; exact S_CS) P5 (by rw [eh6]; exact O4) rG3 (by rw [eh6]; exact S__assertionsDisabled) (by rw [eh6]; exact S_HI_BYTE_SHIFT) (by rw [eh6]; exact S_LO_BYTE_SHIFT)) hZ (own_w hw 27 rfl) (own_w hw 26 rfl) (by decide) (by decide)) (g := (mkF m 197 #[s0, s1, s2, s3, s4, .val (.int i5), .val (.int i6), s7, s8, s9, s10, .val (.ref o11), .val (.int (0 : Int32)), s13] [(.ref o11)])) rfl (by rw [hml]; rfl) (argsL := [(.ref o11)]) (rest := []) (lenOf pd_0_3 rfl) rfl (by show 2 * 0 + _ ≤ _; exact Nat.le_of_eq rfl) (hb hby at_197) (fun _ _ => ⟨rfl, rfl, (by decide : 4 + 0 + 0 ≤ _), (by decide : 20 + 0 + 0 ≤ _)⟩)
  dsimp only [Pt.U, Pt.locs, Pt.cells, Pt.slots] at X7 l7 y7 z7 st7 hQ7
  subst l7 y7 z7
  obtain ⟨rfl, N7q, e7q⟩ := hQ7
  have N7 := Fr.app N6 N7q
  have K7q : Keep T6.heap T7.heap [] := own_keep e7q
  have KH7 : Keep h0 T7.heap [] := KH6.trans K7q own_ws0
  have eh7 : T7.heap = h0 := by rw [e7q]; exact eh6
  refine ⟨T7, _, _, (0 : Int32), (own_tag i6 c1 c2), X7, rfl, N7, trivial, fun target kt => ?_⟩
  show Steps p.tables e below (T0.setTop (mkF m 158 #[s0, s1, s2, s3, s4, .val (.int i5), .val (.int i6), s7, s8, s9, s10, .val (.ref o11), s12, s13] [])) _
  refine XS.iload X0.here hx rfl (hb hby at_158) rfl ?_
  refine XS.iconst X0.here hx rfl (hb hby at_160) ?_
  refine XS.icmpNo X0.here hx rfl (hb hby at_161) rfl (teq hc161).2 ?_
  refine XS.iload X0.here hx rfl (hb hby at_164) rfl ?_
  show Steps p.tables e below (T0.setTop (mkF m 166 #[s0, s1, s2, s3, s4, .val (.int i5), .val (.int i6), s7, s8, s9, s10, .val (.ref o11), s12, s13] [(.int i6)])) _
  refine st6 _ ?_
  show Steps p.tables e below (T6.setTop (mkF m 169 #[s0, s1, s2, s3, s4, .val (.int i5), .val (.int i6), s7, s8, s9, s10, .val (.ref o11), s12, s13] [(.int (own_f10 i6))])) _
  refine XS.ifYes X6.here hx rfl (pc0 := 169) (pc' := 192) rfl (hb hby at_169) rfl ((if0 _ _).trans (teq ht169).1) (by decide) (by decide) ?_
  refine XS.iconst X6.here hx rfl (hb hby at_192) ?_
  refine XS.istore X6.here hx rfl (hb hby at_193) rfl (l' := #[s0, s1, s2, s3, s4, .val (.int i5), .val (.int i6), s7, s8, s9, s10, .val (.ref o11), .val (.int (0 : Int32)), s13]) (os0_193_own_dft hs12) ?_
  refine XS.aload X6.here hx rfl (hb hby at_195) rfl rfl ?_
  show Steps p.tables e below (T6.setTop (mkF m 197 #[s0, s1, s2, s3, s4, .val (.int i5), .val (.int i6), s7, s8, s9, s10, .val (.ref o11), .val (.int (0 : Int32)), s13] [(.ref o11)])) _
  refine st7 _ ?_
  show Steps p.tables e below (T7.setTop (mkF m 200 #[s0, s1, s2, s3, s4, .val (.int i5), .val (.int i6), s7, s8, s9, s10, .val (.ref o11), .val (.int (0 : Int32)), s13] [(.int (own_tag i6 c1 c2))])) _
  refine XS.istore X7.here hx rfl (hb hby at_200) rfl (l' := #[s0, s1, s2, s3, s4, .val (.int i5), .val (.int i6), s7, s8, s9, s10, .val (.ref o11), .val (.int (0 : Int32)), .val (.int (own_tag i6 c1 c2))]) (os0_200_own_dft hs13) ?_
  refine XS.iload X7.here hx rfl (hb hby at_202) rfl ?_
  refine XS.iload X7.here hx rfl (hb hby at_204) rfl ?_
  refine XS.icmpNo X7.here hx rfl (hb hby at_206) rfl (teq ht206).2 ?_
  exact kt
theorem os0_193_own_dfft {s0 : Slot} {s1 : Slot} {s2 : Slot} {s3 : Slot} {s4 : Slot} {z5 : Value} {z6 : Value} {z7 : Value} {s8 : Slot} {s9 : Slot} {s10 : Slot} {z11 : Value} {s12 : Slot} {s13 : Slot} {v : Int32} (h : One s12) : storeLocals #[s0, s1, s2, s3, s4, .val z5, .val z6, .val z7, s8, s9, s10, .val z11, s12, s13] 12 (.int v) = some #[s0, s1, s2, s3, s4, .val z5, .val z6, .val z7, s8, s9, s10, .val z11, .val (.int v), s13] := by
  rcases h with rfl | ⟨w, rfl, hw⟩
  · rfl
  · cases w <;> first | rfl | (simp [Value.category] at hw)
theorem os0_200_own_dfft {s0 : Slot} {s1 : Slot} {s2 : Slot} {s3 : Slot} {s4 : Slot} {z5 : Value} {z6 : Value} {z7 : Value} {s8 : Slot} {s9 : Slot} {s10 : Slot} {z11 : Value} {z12 : Value} {s13 : Slot} {v : Int32} (h : One s13) : storeLocals #[s0, s1, s2, s3, s4, .val z5, .val z6, .val z7, s8, s9, s10, .val z11, .val z12, s13] 13 (.int v) = some #[s0, s1, s2, s3, s4, .val z5, .val z6, .val z7, s8, s9, s10, .val z11, .val z12, .val (.int v)] := by
  rcases h with rfl | ⟨w, rfl, hw⟩
  · rfl
  · cases w <;> first | rfl | (simp [Value.category] at hw)
set_option maxRecDepth 65536 in
set_option maxHeartbeats 40000000 in
theorem own_dfft {p : Program} {l : Launch} {e : Env} {s : State} {m : MethodId} {args : Array Value} {below : List Frame} {meth : Method} {c : Code} {T0 : State} {locs : List Loc} {Z : State} {a0 : Array Value} {h0 : Heap} {n0 : Nat} (s0 : Slot) (s1 : Slot) (s2 : Slot) (s3 : Slot) (s4 : Slot) (i5 : Int32) (i6 : Int32) (i7 : Int32) (s8 : Slot) (s9 : Slot) (s10 : Slot) (o11 : Addr) (s12 : Slot) (s13 : Slot) (c2 : Int32) (G1 : Int32) (G3 : Value)
    (X0 : Stand p l e room_1 s m args below meth c T0 locs 4 20) (hx : p.tables.exec = Jvm.exec) (hZ : Z.Warmed39 s.vm) (hw : ∀ d ∈ tables_1, d.before a0 Z = true) (hby : c.code = code) (hml : c.maxLocals = 14) (hown : s.vm.findClass "com/example/marcwerk/marcwerk/marc/MarcTextIsTagPinLaw" = some m.cls) (e0 : T0.heap = h0) (N0 : Fr n0 locs) (Z0 : n0 ≤ h0.size) (H3 : own_S3 Z h0 o11 i6 i7 c2) (S_CS : Sta Z h0 "java/lang/String" "COMPACT_STRINGS" "Z" (.int G1)) (P5 : ¬ (G1 = (0 : Int32))) (O4 : Sta Z h0 "jdk/internal/util/Preconditions" "SIOOBE_FORMATTER" "Ljava/util/function/BiFunction;" G3) (rG3 : G3.isRef = true) (S__assertionsDisabled : Sta Z h0 "java/lang/StringUTF16" "$assertionsDisabled" "Z" (.int (1 : Int32))) (S_HI_BYTE_SHIFT : Sta Z h0 "java/lang/StringUTF16" "HI_BYTE_SHIFT" "I" (.int (0 : Int32))) (S_LO_BYTE_SHIFT : Sta Z h0 "java/lang/StringUTF16" "LO_BYTE_SHIFT" "I" (.int (8 : Int32))) (hs12 : One s12) (hs13 : One s13) (hc161 : i5 = (3 : Int32)) (ht169 : ¬ ((own_f10 i6) = (0 : Int32))) (ht177 : (own_f10 i7) = (0 : Int32)) (ht206 : (own_tag i6 i7 c2) = (0 : Int32)) :
    ∃ (T' : State) (h' : Heap) (locs' : List Loc) (x12 x13 : Int32), Stand p l e room_1 s m args below meth c T' locs' 4 20 ∧ T'.heap = h' ∧ Fr n0 locs' ∧ True ∧ ∀ target, Steps p.tables e below (T'.setTop (mkF m 209 #[s0, s1, s2, s3, s4, .val (.int i5), .val (.int i6), .val (.int i7), s8, s9, s10, .val (.ref o11), .val (.int x12), .val (.int x13)] [])) target → Steps p.tables e below (T0.setTop (mkF m 158 #[s0, s1, s2, s3, s4, .val (.int i5), .val (.int i6), .val (.int i7), s8, s9, s10, .val (.ref o11), s12, s13] [])) target := by
  obtain ⟨_, _, ⟨T6, L6, k6, n6⟩, -, X6, ⟨Lc6, hQ6, l6, y6, z6⟩, st6⟩ := Jvm.LawKit.callS X0 hx (y := (⟨"com/example/marcwerk/marcwerk/marc/MarcTextIsTagPinLaw", "refTagChar", "(C)Z"⟩ : MethodName)) hown (mvT hZ (own_w hw 49 rfl)) (mvT hZ (own_w hw 50 rfl)) (mvT hZ (own_w hw 51 rfl)) (mvT hZ (own_w hw 52 rfl)) (by decide) (backOf (W := 0) (rm10 l Z a0 hw [] i6  h0 n0 Z0) hZ (own_w hw 52 rfl) (own_w hw 51 rfl) (by decide) (by decide)) (g := (mkF m 166 #[s0, s1, s2, s3, s4, .val (.int i5), .val (.int i6), .val (.int i7), s8, s9, s10, .val (.ref o11), s12, s13] [(.int i6)])) rfl (by rw [hml]; rfl) (argsL := [(.int i6)]) (rest := []) (lenOf pd_0_9 rfl) rfl (by show 2 * 0 + _ ≤ _; exact Nat.le_of_eq rfl) (hb hby at_166) (fun _ _ => ⟨rfl, e0, (by decide : 4 + 0 + 0 ≤ _), (by decide : 20 + 0 + 0 ≤ _)⟩)
  dsimp only [Pt.U, Pt.locs, Pt.cells, Pt.slots] at X6 l6 y6 z6 st6 hQ6
  subst l6 y6 z6
  obtain ⟨rfl, N6q, e6q⟩ := hQ6
  have N6 := Fr.app N0 N6q
  have K6q : Keep h0 T6.heap [] := own_keep e6q
  have KH6 : Keep h0 T6.heap [] := (Keep.refl h0 []).trans K6q own_ws0
  have eh6 : T6.heap = h0 := by rw [e6q]
  obtain ⟨_, _, ⟨T7, L7, k7, n7⟩, -, X7, ⟨Lc7, hQ7, l7, y7, z7⟩, st7⟩ := Jvm.LawKit.callS X6 hx (y := (⟨"com/example/marcwerk/marcwerk/marc/MarcTextIsTagPinLaw", "refTagChar", "(C)Z"⟩ : MethodName)) hown (mvT hZ (own_w hw 49 rfl)) (mvT hZ (own_w hw 50 rfl)) (mvT hZ (own_w hw 51 rfl)) (mvT hZ (own_w hw 52 rfl)) (by decide) (backOf (W := 0) (rm10 l Z a0 hw [] i7  T6.heap n0 (Nat.le_trans Z0 KH6.1)) hZ (own_w hw 52 rfl) (own_w hw 51 rfl) (by decide) (by decide)) (g := (mkF m 174 #[s0, s1, s2, s3, s4, .val (.int i5), .val (.int i6), .val (.int i7), s8, s9, s10, .val (.ref o11), s12, s13] [(.int i7)])) rfl (by rw [hml]; rfl) (argsL := [(.int i7)]) (rest := []) (lenOf pd_0_9 rfl) rfl (by show 2 * 0 + _ ≤ _; exact Nat.le_of_eq rfl) (hb hby at_174) (fun _ _ => ⟨rfl, rfl, (by decide : 4 + 0 + 0 ≤ _), (by decide : 20 + 0 + 0 ≤ _)⟩)
  dsimp only [Pt.U, Pt.locs, Pt.cells, Pt.slots] at X7 l7 y7 z7 st7 hQ7
  subst l7 y7 z7
  obtain ⟨rfl, N7q, e7q⟩ := hQ7
  have N7 := Fr.app N6 N7q
  have K7q : Keep T6.heap T7.heap [] := own_keep e7q
  have KH7 : Keep h0 T7.heap [] := KH6.trans K7q own_ws0
  have eh7 : T7.heap = h0 := by rw [e7q]; exact eh6
  obtain ⟨_, _, ⟨T8, L8, k8, n8⟩, -, X8, ⟨Lc8, hQ8, l8, y8, z8⟩, st8⟩ := Jvm.LawKit.callS X7 hx (y := (⟨"com/example/marcwerk/marcwerk/marc/MarcText", "isTag", "(Ljava/lang/String;)Z"⟩ : MethodName)) hown (mvT hZ (own_w hw 24 rfl)) (mvT hZ (own_w hw 25 rfl)) (mvT hZ (own_w hw 26 rfl)) (mvT hZ (own_w hw 27 rfl)) (by decide) (backOf (W := 0) (rm4_3 l Z a0 hw [] o11 i6 i7 c2 G1 G3 T7.heap n0 (Nat.le_trans Z0 KH7.1) (by rw [eh7]; exact H3) (by rw [eh7]; exact S_CS) P5 (by rw [eh7]; exact O4) rG3 (by rw [eh7]; exact S__assertionsDisabled) (by rw [eh7]; exact S_HI_BYTE_SHIFT) (by rw [eh7]; exact S_LO_BYTE_SHIFT)) hZ (own_w hw 27 rfl) (own_w hw 26 rfl) (by decide) (by decide)) (g := (mkF m 197 #[s0, s1, s2, s3, s4, .val (.int i5), .val (.int i6), .val (.int i7), s8, s9, s10, .val (.ref o11), .val (.int (0 : Int32)), s13] [(.ref o11)])) rfl (by rw [hml]; rfl) (argsL := [(.ref o11)]) (rest := []) (lenOf pd_0_3 rfl) rfl (by show 2 * 0 + _ ≤ _; exact Nat.le_of_eq rfl) (hb hby at_197) (fun _ _ => ⟨rfl, rfl, (by decide : 4 + 0 + 0 ≤ _), (by decide : 20 + 0 + 0 ≤ _)⟩)
  dsimp only [Pt.U, Pt.locs, Pt.cells, Pt.slots] at X8 l8 y8 z8 st8 hQ8
  subst l8 y8 z8
  obtain ⟨rfl, N8q, e8q⟩ := hQ8
  have N8 := Fr.app N7 N8q
  have K8q : Keep T7.heap T8.heap [] := own_keep e8q
  have KH8 : Keep h0 T8.heap [] := KH7.trans K8q own_ws0
  have eh8 : T8.heap = h0 := by rw [e8q]; exact eh7
  refine ⟨T8, _, _, (0 : Int32), (own_tag i6 i7 c2), X8, rfl, N8, trivial, fun target kt => ?_⟩
  show Steps p.tables e below (T0.setTop (mkF m 158 #[s0, s1, s2, s3, s4, .val (.int i5), .val (.int i6), .val (.int i7), s8, s9, s10, .val (.ref o11), s12, s13] [])) _
  refine XS.iload X0.here hx rfl (hb hby at_158) rfl ?_
  refine XS.iconst X0.here hx rfl (hb hby at_160) ?_
  refine XS.icmpNo X0.here hx rfl (hb hby at_161) rfl (teq hc161).2 ?_
  refine XS.iload X0.here hx rfl (hb hby at_164) rfl ?_
  show Steps p.tables e below (T0.setTop (mkF m 166 #[s0, s1, s2, s3, s4, .val (.int i5), .val (.int i6), .val (.int i7), s8, s9, s10, .val (.ref o11), s12, s13] [(.int i6)])) _
  refine st6 _ ?_
  show Steps p.tables e below (T6.setTop (mkF m 169 #[s0, s1, s2, s3, s4, .val (.int i5), .val (.int i6), .val (.int i7), s8, s9, s10, .val (.ref o11), s12, s13] [(.int (own_f10 i6))])) _
  refine XS.ifNo X6.here hx rfl (hb hby at_169) rfl ((if0 _ _).trans (feq ht169).1) ?_
  refine XS.iload X6.here hx rfl (hb hby at_172) rfl ?_
  show Steps p.tables e below (T6.setTop (mkF m 174 #[s0, s1, s2, s3, s4, .val (.int i5), .val (.int i6), .val (.int i7), s8, s9, s10, .val (.ref o11), s12, s13] [(.int i7)])) _
  refine st7 _ ?_
  show Steps p.tables e below (T7.setTop (mkF m 177 #[s0, s1, s2, s3, s4, .val (.int i5), .val (.int i6), .val (.int i7), s8, s9, s10, .val (.ref o11), s12, s13] [(.int (own_f10 i7))])) _
  refine XS.ifYes X7.here hx rfl (pc0 := 177) (pc' := 192) rfl (hb hby at_177) rfl ((if0 _ _).trans (teq ht177).1) (by decide) (by decide) ?_
  refine XS.iconst X7.here hx rfl (hb hby at_192) ?_
  refine XS.istore X7.here hx rfl (hb hby at_193) rfl (l' := #[s0, s1, s2, s3, s4, .val (.int i5), .val (.int i6), .val (.int i7), s8, s9, s10, .val (.ref o11), .val (.int (0 : Int32)), s13]) (os0_193_own_dfft hs12) ?_
  refine XS.aload X7.here hx rfl (hb hby at_195) rfl rfl ?_
  show Steps p.tables e below (T7.setTop (mkF m 197 #[s0, s1, s2, s3, s4, .val (.int i5), .val (.int i6), .val (.int i7), s8, s9, s10, .val (.ref o11), .val (.int (0 : Int32)), s13] [(.ref o11)])) _
  refine st8 _ ?_
  show Steps p.tables e below (T8.setTop (mkF m 200 #[s0, s1, s2, s3, s4, .val (.int i5), .val (.int i6), .val (.int i7), s8, s9, s10, .val (.ref o11), .val (.int (0 : Int32)), s13] [(.int (own_tag i6 i7 c2))])) _
  refine XS.istore X8.here hx rfl (hb hby at_200) rfl (l' := #[s0, s1, s2, s3, s4, .val (.int i5), .val (.int i6), .val (.int i7), s8, s9, s10, .val (.ref o11), .val (.int (0 : Int32)), .val (.int (own_tag i6 i7 c2))]) (os0_200_own_dfft hs13) ?_
  refine XS.iload X8.here hx rfl (hb hby at_202) rfl ?_
  refine XS.iload X8.here hx rfl (hb hby at_204) rfl ?_
  refine XS.icmpNo X8.here hx rfl (hb hby at_206) rfl (teq ht206).2 ?_
  exact kt
theorem os0_193_own_dffft {s0 : Slot} {s1 : Slot} {s2 : Slot} {s3 : Slot} {s4 : Slot} {z5 : Value} {z6 : Value} {z7 : Value} {z8 : Value} {s9 : Slot} {s10 : Slot} {z11 : Value} {s12 : Slot} {s13 : Slot} {v : Int32} (h : One s12) : storeLocals #[s0, s1, s2, s3, s4, .val z5, .val z6, .val z7, .val z8, s9, s10, .val z11, s12, s13] 12 (.int v) = some #[s0, s1, s2, s3, s4, .val z5, .val z6, .val z7, .val z8, s9, s10, .val z11, .val (.int v), s13] := by
  rcases h with rfl | ⟨w, rfl, hw⟩
  · rfl
  · cases w <;> first | rfl | (simp [Value.category] at hw)
theorem os0_200_own_dffft {s0 : Slot} {s1 : Slot} {s2 : Slot} {s3 : Slot} {s4 : Slot} {z5 : Value} {z6 : Value} {z7 : Value} {z8 : Value} {s9 : Slot} {s10 : Slot} {z11 : Value} {z12 : Value} {s13 : Slot} {v : Int32} (h : One s13) : storeLocals #[s0, s1, s2, s3, s4, .val z5, .val z6, .val z7, .val z8, s9, s10, .val z11, .val z12, s13] 13 (.int v) = some #[s0, s1, s2, s3, s4, .val z5, .val z6, .val z7, .val z8, s9, s10, .val z11, .val z12, .val (.int v)] := by
  rcases h with rfl | ⟨w, rfl, hw⟩
  · rfl
  · cases w <;> first | rfl | (simp [Value.category] at hw)
set_option maxRecDepth 65536 in
set_option maxHeartbeats 40000000 in
theorem own_dffft {p : Program} {l : Launch} {e : Env} {s : State} {m : MethodId} {args : Array Value} {below : List Frame} {meth : Method} {c : Code} {T0 : State} {locs : List Loc} {Z : State} {a0 : Array Value} {h0 : Heap} {n0 : Nat} (s0 : Slot) (s1 : Slot) (s2 : Slot) (s3 : Slot) (s4 : Slot) (i5 : Int32) (i6 : Int32) (i7 : Int32) (i8 : Int32) (s9 : Slot) (s10 : Slot) (o11 : Addr) (s12 : Slot) (s13 : Slot) (G1 : Int32) (G3 : Value)
    (X0 : Stand p l e room_1 s m args below meth c T0 locs 4 20) (hx : p.tables.exec = Jvm.exec) (hZ : Z.Warmed39 s.vm) (hw : ∀ d ∈ tables_1, d.before a0 Z = true) (hby : c.code = code) (hml : c.maxLocals = 14) (hown : s.vm.findClass "com/example/marcwerk/marcwerk/marc/MarcTextIsTagPinLaw" = some m.cls) (e0 : T0.heap = h0) (N0 : Fr n0 locs) (Z0 : n0 ≤ h0.size) (H3 : own_S3 Z h0 o11 i6 i7 i8) (S_CS : Sta Z h0 "java/lang/String" "COMPACT_STRINGS" "Z" (.int G1)) (P5 : ¬ (G1 = (0 : Int32))) (O4 : Sta Z h0 "jdk/internal/util/Preconditions" "SIOOBE_FORMATTER" "Ljava/util/function/BiFunction;" G3) (rG3 : G3.isRef = true) (S__assertionsDisabled : Sta Z h0 "java/lang/StringUTF16" "$assertionsDisabled" "Z" (.int (1 : Int32))) (S_HI_BYTE_SHIFT : Sta Z h0 "java/lang/StringUTF16" "HI_BYTE_SHIFT" "I" (.int (0 : Int32))) (S_LO_BYTE_SHIFT : Sta Z h0 "java/lang/StringUTF16" "LO_BYTE_SHIFT" "I" (.int (8 : Int32))) (hs12 : One s12) (hs13 : One s13) (hc161 : i5 = (3 : Int32)) (ht169 : ¬ ((own_f10 i6) = (0 : Int32))) (ht177 : ¬ ((own_f10 i7) = (0 : Int32))) (ht185 : (own_f10 i8) = (0 : Int32)) (ht206 : (own_tag i6 i7 i8) = (0 : Int32)) :
    ∃ (T' : State) (h' : Heap) (locs' : List Loc) (x12 x13 : Int32), Stand p l e room_1 s m args below meth c T' locs' 4 20 ∧ T'.heap = h' ∧ Fr n0 locs' ∧ True ∧ ∀ target, Steps p.tables e below (T'.setTop (mkF m 209 #[s0, s1, s2, s3, s4, .val (.int i5), .val (.int i6), .val (.int i7), .val (.int i8), s9, s10, .val (.ref o11), .val (.int x12), .val (.int x13)] [])) target → Steps p.tables e below (T0.setTop (mkF m 158 #[s0, s1, s2, s3, s4, .val (.int i5), .val (.int i6), .val (.int i7), .val (.int i8), s9, s10, .val (.ref o11), s12, s13] [])) target := by
  obtain ⟨_, _, ⟨T6, L6, k6, n6⟩, -, X6, ⟨Lc6, hQ6, l6, y6, z6⟩, st6⟩ := Jvm.LawKit.callS X0 hx (y := (⟨"com/example/marcwerk/marcwerk/marc/MarcTextIsTagPinLaw", "refTagChar", "(C)Z"⟩ : MethodName)) hown (mvT hZ (own_w hw 49 rfl)) (mvT hZ (own_w hw 50 rfl)) (mvT hZ (own_w hw 51 rfl)) (mvT hZ (own_w hw 52 rfl)) (by decide) (backOf (W := 0) (rm10 l Z a0 hw [] i6  h0 n0 Z0) hZ (own_w hw 52 rfl) (own_w hw 51 rfl) (by decide) (by decide)) (g := (mkF m 166 #[s0, s1, s2, s3, s4, .val (.int i5), .val (.int i6), .val (.int i7), .val (.int i8), s9, s10, .val (.ref o11), s12, s13] [(.int i6)])) rfl (by rw [hml]; rfl) (argsL := [(.int i6)]) (rest := []) (lenOf pd_0_9 rfl) rfl (by show 2 * 0 + _ ≤ _; exact Nat.le_of_eq rfl) (hb hby at_166) (fun _ _ => ⟨rfl, e0, (by decide : 4 + 0 + 0 ≤ _), (by decide : 20 + 0 + 0 ≤ _)⟩)
  dsimp only [Pt.U, Pt.locs, Pt.cells, Pt.slots] at X6 l6 y6 z6 st6 hQ6
  subst l6 y6 z6
  obtain ⟨rfl, N6q, e6q⟩ := hQ6
  have N6 := Fr.app N0 N6q
  have K6q : Keep h0 T6.heap [] := own_keep e6q
  have KH6 : Keep h0 T6.heap [] := (Keep.refl h0 []).trans K6q own_ws0
  have eh6 : T6.heap = h0 := by rw [e6q]
  obtain ⟨_, _, ⟨T7, L7, k7, n7⟩, -, X7, ⟨Lc7, hQ7, l7, y7, z7⟩, st7⟩ := Jvm.LawKit.callS X6 hx (y := (⟨"com/example/marcwerk/marcwerk/marc/MarcTextIsTagPinLaw", "refTagChar", "(C)Z"⟩ : MethodName)) hown (mvT hZ (own_w hw 49 rfl)) (mvT hZ (own_w hw 50 rfl)) (mvT hZ (own_w hw 51 rfl)) (mvT hZ (own_w hw 52 rfl)) (by decide) (backOf (W := 0) (rm10 l Z a0 hw [] i7  T6.heap n0 (Nat.le_trans Z0 KH6.1)) hZ (own_w hw 52 rfl) (own_w hw 51 rfl) (by decide) (by decide)) (g := (mkF m 174 #[s0, s1, s2, s3, s4, .val (.int i5), .val (.int i6), .val (.int i7), .val (.int i8), s9, s10, .val (.ref o11), s12, s13] [(.int i7)])) rfl (by rw [hml]; rfl) (argsL := [(.int i7)]) (rest := []) (lenOf pd_0_9 rfl) rfl (by show 2 * 0 + _ ≤ _; exact Nat.le_of_eq rfl) (hb hby at_174) (fun _ _ => ⟨rfl, rfl, (by decide : 4 + 0 + 0 ≤ _), (by decide : 20 + 0 + 0 ≤ _)⟩)
  dsimp only [Pt.U, Pt.locs, Pt.cells, Pt.slots] at X7 l7 y7 z7 st7 hQ7
  subst l7 y7 z7
  obtain ⟨rfl, N7q, e7q⟩ := hQ7
  have N7 := Fr.app N6 N7q
  have K7q : Keep T6.heap T7.heap [] := own_keep e7q
  have KH7 : Keep h0 T7.heap [] := KH6.trans K7q own_ws0
  have eh7 : T7.heap = h0 := by rw [e7q]; exact eh6
  obtain ⟨_, _, ⟨T8, L8, k8, n8⟩, -, X8, ⟨Lc8, hQ8, l8, y8, z8⟩, st8⟩ := Jvm.LawKit.callS X7 hx (y := (⟨"com/example/marcwerk/marcwerk/marc/MarcTextIsTagPinLaw", "refTagChar", "(C)Z"⟩ : MethodName)) hown (mvT hZ (own_w hw 49 rfl)) (mvT hZ (own_w hw 50 rfl)) (mvT hZ (own_w hw 51 rfl)) (mvT hZ (own_w hw 52 rfl)) (by decide) (backOf (W := 0) (rm10 l Z a0 hw [] i8  T7.heap n0 (Nat.le_trans Z0 KH7.1)) hZ (own_w hw 52 rfl) (own_w hw 51 rfl) (by decide) (by decide)) (g := (mkF m 182 #[s0, s1, s2, s3, s4, .val (.int i5), .val (.int i6), .val (.int i7), .val (.int i8), s9, s10, .val (.ref o11), s12, s13] [(.int i8)])) rfl (by rw [hml]; rfl) (argsL := [(.int i8)]) (rest := []) (lenOf pd_0_9 rfl) rfl (by show 2 * 0 + _ ≤ _; exact Nat.le_of_eq rfl) (hb hby at_182) (fun _ _ => ⟨rfl, rfl, (by decide : 4 + 0 + 0 ≤ _), (by decide : 20 + 0 + 0 ≤ _)⟩)
  dsimp only [Pt.U, Pt.locs, Pt.cells, Pt.slots] at X8 l8 y8 z8 st8 hQ8
  subst l8 y8 z8
  obtain ⟨rfl, N8q, e8q⟩ := hQ8
  have N8 := Fr.app N7 N8q
  have K8q : Keep T7.heap T8.heap [] := own_keep e8q
  have KH8 : Keep h0 T8.heap [] := KH7.trans K8q own_ws0
  have eh8 : T8.heap = h0 := by rw [e8q]; exact eh7
  obtain ⟨_, _, ⟨T9, L9, k9, n9⟩, -, X9, ⟨Lc9, hQ9, l9, y9, z9⟩, st9⟩ := Jvm.LawKit.callS X8 hx (y := (⟨"com/example/marcwerk/marcwerk/marc/MarcText", "isTag", "(Ljava/lang/String;)Z"⟩ : MethodName)) hown (mvT hZ (own_w hw 24 rfl)) (mvT hZ (own_w hw 25 rfl)) (mvT hZ (own_w hw 26 rfl)) (mvT hZ (own_w hw 27 rfl)) (by decide) (backOf (W := 0) (rm4_3 l Z a0 hw [] o11 i6 i7 i8 G1 G3 T8.heap n0 (Nat.le_trans Z0 KH8.1) (by rw [eh8]; exact H3) (by rw [eh8]; exact S_CS) P5 (by rw [eh8]; exact O4) rG3 (by rw [eh8]; exact S__assertionsDisabled) (by rw [eh8]; exact S_HI_BYTE_SHIFT) (by rw [eh8]; exact S_LO_BYTE_SHIFT)) hZ (own_w hw 27 rfl) (own_w hw 26 rfl) (by decide) (by decide)) (g := (mkF m 197 #[s0, s1, s2, s3, s4, .val (.int i5), .val (.int i6), .val (.int i7), .val (.int i8), s9, s10, .val (.ref o11), .val (.int (0 : Int32)), s13] [(.ref o11)])) rfl (by rw [hml]; rfl) (argsL := [(.ref o11)]) (rest := []) (lenOf pd_0_3 rfl) rfl (by show 2 * 0 + _ ≤ _; exact Nat.le_of_eq rfl) (hb hby at_197) (fun _ _ => ⟨rfl, rfl, (by decide : 4 + 0 + 0 ≤ _), (by decide : 20 + 0 + 0 ≤ _)⟩)
  dsimp only [Pt.U, Pt.locs, Pt.cells, Pt.slots] at X9 l9 y9 z9 st9 hQ9
  subst l9 y9 z9
  obtain ⟨rfl, N9q, e9q⟩ := hQ9
  have N9 := Fr.app N8 N9q
  have K9q : Keep T8.heap T9.heap [] := own_keep e9q
  have KH9 : Keep h0 T9.heap [] := KH8.trans K9q own_ws0
  have eh9 : T9.heap = h0 := by rw [e9q]; exact eh8
  refine ⟨T9, _, _, (0 : Int32), (own_tag i6 i7 i8), X9, rfl, N9, trivial, fun target kt => ?_⟩
  show Steps p.tables e below (T0.setTop (mkF m 158 #[s0, s1, s2, s3, s4, .val (.int i5), .val (.int i6), .val (.int i7), .val (.int i8), s9, s10, .val (.ref o11), s12, s13] [])) _
  refine XS.iload X0.here hx rfl (hb hby at_158) rfl ?_
  refine XS.iconst X0.here hx rfl (hb hby at_160) ?_
  refine XS.icmpNo X0.here hx rfl (hb hby at_161) rfl (teq hc161).2 ?_
  refine XS.iload X0.here hx rfl (hb hby at_164) rfl ?_
  show Steps p.tables e below (T0.setTop (mkF m 166 #[s0, s1, s2, s3, s4, .val (.int i5), .val (.int i6), .val (.int i7), .val (.int i8), s9, s10, .val (.ref o11), s12, s13] [(.int i6)])) _
  refine st6 _ ?_
  show Steps p.tables e below (T6.setTop (mkF m 169 #[s0, s1, s2, s3, s4, .val (.int i5), .val (.int i6), .val (.int i7), .val (.int i8), s9, s10, .val (.ref o11), s12, s13] [(.int (own_f10 i6))])) _
  refine XS.ifNo X6.here hx rfl (hb hby at_169) rfl ((if0 _ _).trans (feq ht169).1) ?_
  refine XS.iload X6.here hx rfl (hb hby at_172) rfl ?_
  show Steps p.tables e below (T6.setTop (mkF m 174 #[s0, s1, s2, s3, s4, .val (.int i5), .val (.int i6), .val (.int i7), .val (.int i8), s9, s10, .val (.ref o11), s12, s13] [(.int i7)])) _
  refine st7 _ ?_
  show Steps p.tables e below (T7.setTop (mkF m 177 #[s0, s1, s2, s3, s4, .val (.int i5), .val (.int i6), .val (.int i7), .val (.int i8), s9, s10, .val (.ref o11), s12, s13] [(.int (own_f10 i7))])) _
  refine XS.ifNo X7.here hx rfl (hb hby at_177) rfl ((if0 _ _).trans (feq ht177).1) ?_
  refine XS.iload X7.here hx rfl (hb hby at_180) rfl ?_
  show Steps p.tables e below (T7.setTop (mkF m 182 #[s0, s1, s2, s3, s4, .val (.int i5), .val (.int i6), .val (.int i7), .val (.int i8), s9, s10, .val (.ref o11), s12, s13] [(.int i8)])) _
  refine st8 _ ?_
  show Steps p.tables e below (T8.setTop (mkF m 185 #[s0, s1, s2, s3, s4, .val (.int i5), .val (.int i6), .val (.int i7), .val (.int i8), s9, s10, .val (.ref o11), s12, s13] [(.int (own_f10 i8))])) _
  refine XS.ifYes X8.here hx rfl (pc0 := 185) (pc' := 192) rfl (hb hby at_185) rfl ((if0 _ _).trans (teq ht185).1) (by decide) (by decide) ?_
  refine XS.iconst X8.here hx rfl (hb hby at_192) ?_
  refine XS.istore X8.here hx rfl (hb hby at_193) rfl (l' := #[s0, s1, s2, s3, s4, .val (.int i5), .val (.int i6), .val (.int i7), .val (.int i8), s9, s10, .val (.ref o11), .val (.int (0 : Int32)), s13]) (os0_193_own_dffft hs12) ?_
  refine XS.aload X8.here hx rfl (hb hby at_195) rfl rfl ?_
  show Steps p.tables e below (T8.setTop (mkF m 197 #[s0, s1, s2, s3, s4, .val (.int i5), .val (.int i6), .val (.int i7), .val (.int i8), s9, s10, .val (.ref o11), .val (.int (0 : Int32)), s13] [(.ref o11)])) _
  refine st9 _ ?_
  show Steps p.tables e below (T9.setTop (mkF m 200 #[s0, s1, s2, s3, s4, .val (.int i5), .val (.int i6), .val (.int i7), .val (.int i8), s9, s10, .val (.ref o11), .val (.int (0 : Int32)), s13] [(.int (own_tag i6 i7 i8))])) _
  refine XS.istore X9.here hx rfl (hb hby at_200) rfl (l' := #[s0, s1, s2, s3, s4, .val (.int i5), .val (.int i6), .val (.int i7), .val (.int i8), s9, s10, .val (.ref o11), .val (.int (0 : Int32)), .val (.int (own_tag i6 i7 i8))]) (os0_200_own_dffft hs13) ?_
  refine XS.iload X9.here hx rfl (hb hby at_202) rfl ?_
  refine XS.iload X9.here hx rfl (hb hby at_204) rfl ?_
  refine XS.icmpNo X9.here hx rfl (hb hby at_206) rfl (teq ht206).2 ?_
  exact kt
theorem os0_193_own_dffff {s0 : Slot} {s1 : Slot} {s2 : Slot} {s3 : Slot} {s4 : Slot} {z5 : Value} {z6 : Value} {z7 : Value} {z8 : Value} {s9 : Slot} {s10 : Slot} {z11 : Value} {s12 : Slot} {s13 : Slot} {v : Int32} (h : One s12) : storeLocals #[s0, s1, s2, s3, s4, .val z5, .val z6, .val z7, .val z8, s9, s10, .val z11, s12, s13] 12 (.int v) = some #[s0, s1, s2, s3, s4, .val z5, .val z6, .val z7, .val z8, s9, s10, .val z11, .val (.int v), s13] := by
  rcases h with rfl | ⟨w, rfl, hw⟩
  · rfl
  · cases w <;> first | rfl | (simp [Value.category] at hw)
theorem os0_200_own_dffff {s0 : Slot} {s1 : Slot} {s2 : Slot} {s3 : Slot} {s4 : Slot} {z5 : Value} {z6 : Value} {z7 : Value} {z8 : Value} {s9 : Slot} {s10 : Slot} {z11 : Value} {z12 : Value} {s13 : Slot} {v : Int32} (h : One s13) : storeLocals #[s0, s1, s2, s3, s4, .val z5, .val z6, .val z7, .val z8, s9, s10, .val z11, .val z12, s13] 13 (.int v) = some #[s0, s1, s2, s3, s4, .val z5, .val z6, .val z7, .val z8, s9, s10, .val z11, .val z12, .val (.int v)] := by
  rcases h with rfl | ⟨w, rfl, hw⟩
  · rfl
  · cases w <;> first | rfl | (simp [Value.category] at hw)
set_option maxRecDepth 65536 in
set_option maxHeartbeats 40000000 in
theorem own_dffff {p : Program} {l : Launch} {e : Env} {s : State} {m : MethodId} {args : Array Value} {below : List Frame} {meth : Method} {c : Code} {T0 : State} {locs : List Loc} {Z : State} {a0 : Array Value} {h0 : Heap} {n0 : Nat} (s0 : Slot) (s1 : Slot) (s2 : Slot) (s3 : Slot) (s4 : Slot) (i5 : Int32) (i6 : Int32) (i7 : Int32) (i8 : Int32) (s9 : Slot) (s10 : Slot) (o11 : Addr) (s12 : Slot) (s13 : Slot) (G1 : Int32) (G3 : Value)
    (X0 : Stand p l e room_1 s m args below meth c T0 locs 4 20) (hx : p.tables.exec = Jvm.exec) (hZ : Z.Warmed39 s.vm) (hw : ∀ d ∈ tables_1, d.before a0 Z = true) (hby : c.code = code) (hml : c.maxLocals = 14) (hown : s.vm.findClass "com/example/marcwerk/marcwerk/marc/MarcTextIsTagPinLaw" = some m.cls) (e0 : T0.heap = h0) (N0 : Fr n0 locs) (Z0 : n0 ≤ h0.size) (H3 : own_S3 Z h0 o11 i6 i7 i8) (S_CS : Sta Z h0 "java/lang/String" "COMPACT_STRINGS" "Z" (.int G1)) (P5 : ¬ (G1 = (0 : Int32))) (O4 : Sta Z h0 "jdk/internal/util/Preconditions" "SIOOBE_FORMATTER" "Ljava/util/function/BiFunction;" G3) (rG3 : G3.isRef = true) (S__assertionsDisabled : Sta Z h0 "java/lang/StringUTF16" "$assertionsDisabled" "Z" (.int (1 : Int32))) (S_HI_BYTE_SHIFT : Sta Z h0 "java/lang/StringUTF16" "HI_BYTE_SHIFT" "I" (.int (0 : Int32))) (S_LO_BYTE_SHIFT : Sta Z h0 "java/lang/StringUTF16" "LO_BYTE_SHIFT" "I" (.int (8 : Int32))) (hs12 : One s12) (hs13 : One s13) (hc161 : i5 = (3 : Int32)) (ht169 : ¬ ((own_f10 i6) = (0 : Int32))) (ht177 : ¬ ((own_f10 i7) = (0 : Int32))) (ht185 : ¬ ((own_f10 i8) = (0 : Int32))) (ht206 : (own_tag i6 i7 i8) = (1 : Int32)) :
    ∃ (T' : State) (h' : Heap) (locs' : List Loc) (x12 x13 : Int32), Stand p l e room_1 s m args below meth c T' locs' 4 20 ∧ T'.heap = h' ∧ Fr n0 locs' ∧ True ∧ ∀ target, Steps p.tables e below (T'.setTop (mkF m 209 #[s0, s1, s2, s3, s4, .val (.int i5), .val (.int i6), .val (.int i7), .val (.int i8), s9, s10, .val (.ref o11), .val (.int x12), .val (.int x13)] [])) target → Steps p.tables e below (T0.setTop (mkF m 158 #[s0, s1, s2, s3, s4, .val (.int i5), .val (.int i6), .val (.int i7), .val (.int i8), s9, s10, .val (.ref o11), s12, s13] [])) target := by
  obtain ⟨_, _, ⟨T6, L6, k6, n6⟩, -, X6, ⟨Lc6, hQ6, l6, y6, z6⟩, st6⟩ := Jvm.LawKit.callS X0 hx (y := (⟨"com/example/marcwerk/marcwerk/marc/MarcTextIsTagPinLaw", "refTagChar", "(C)Z"⟩ : MethodName)) hown (mvT hZ (own_w hw 49 rfl)) (mvT hZ (own_w hw 50 rfl)) (mvT hZ (own_w hw 51 rfl)) (mvT hZ (own_w hw 52 rfl)) (by decide) (backOf (W := 0) (rm10 l Z a0 hw [] i6  h0 n0 Z0) hZ (own_w hw 52 rfl) (own_w hw 51 rfl) (by decide) (by decide)) (g := (mkF m 166 #[s0, s1, s2, s3, s4, .val (.int i5), .val (.int i6), .val (.int i7), .val (.int i8), s9, s10, .val (.ref o11), s12, s13] [(.int i6)])) rfl (by rw [hml]; rfl) (argsL := [(.int i6)]) (rest := []) (lenOf pd_0_9 rfl) rfl (by show 2 * 0 + _ ≤ _; exact Nat.le_of_eq rfl) (hb hby at_166) (fun _ _ => ⟨rfl, e0, (by decide : 4 + 0 + 0 ≤ _), (by decide : 20 + 0 + 0 ≤ _)⟩)
  dsimp only [Pt.U, Pt.locs, Pt.cells, Pt.slots] at X6 l6 y6 z6 st6 hQ6
  subst l6 y6 z6
  obtain ⟨rfl, N6q, e6q⟩ := hQ6
  have N6 := Fr.app N0 N6q
  have K6q : Keep h0 T6.heap [] := own_keep e6q
  have KH6 : Keep h0 T6.heap [] := (Keep.refl h0 []).trans K6q own_ws0
  have eh6 : T6.heap = h0 := by rw [e6q]
  obtain ⟨_, _, ⟨T7, L7, k7, n7⟩, -, X7, ⟨Lc7, hQ7, l7, y7, z7⟩, st7⟩ := Jvm.LawKit.callS X6 hx (y := (⟨"com/example/marcwerk/marcwerk/marc/MarcTextIsTagPinLaw", "refTagChar", "(C)Z"⟩ : MethodName)) hown (mvT hZ (own_w hw 49 rfl)) (mvT hZ (own_w hw 50 rfl)) (mvT hZ (own_w hw 51 rfl)) (mvT hZ (own_w hw 52 rfl)) (by decide) (backOf (W := 0) (rm10 l Z a0 hw [] i7  T6.heap n0 (Nat.le_trans Z0 KH6.1)) hZ (own_w hw 52 rfl) (own_w hw 51 rfl) (by decide) (by decide)) (g := (mkF m 174 #[s0, s1, s2, s3, s4, .val (.int i5), .val (.int i6), .val (.int i7), .val (.int i8), s9, s10, .val (.ref o11), s12, s13] [(.int i7)])) rfl (by rw [hml]; rfl) (argsL := [(.int i7)]) (rest := []) (lenOf pd_0_9 rfl) rfl (by show 2 * 0 + _ ≤ _; exact Nat.le_of_eq rfl) (hb hby at_174) (fun _ _ => ⟨rfl, rfl, (by decide : 4 + 0 + 0 ≤ _), (by decide : 20 + 0 + 0 ≤ _)⟩)
  dsimp only [Pt.U, Pt.locs, Pt.cells, Pt.slots] at X7 l7 y7 z7 st7 hQ7
  subst l7 y7 z7
  obtain ⟨rfl, N7q, e7q⟩ := hQ7
  have N7 := Fr.app N6 N7q
  have K7q : Keep T6.heap T7.heap [] := own_keep e7q
  have KH7 : Keep h0 T7.heap [] := KH6.trans K7q own_ws0
  have eh7 : T7.heap = h0 := by rw [e7q]; exact eh6
  obtain ⟨_, _, ⟨T8, L8, k8, n8⟩, -, X8, ⟨Lc8, hQ8, l8, y8, z8⟩, st8⟩ := Jvm.LawKit.callS X7 hx (y := (⟨"com/example/marcwerk/marcwerk/marc/MarcTextIsTagPinLaw", "refTagChar", "(C)Z"⟩ : MethodName)) hown (mvT hZ (own_w hw 49 rfl)) (mvT hZ (own_w hw 50 rfl)) (mvT hZ (own_w hw 51 rfl)) (mvT hZ (own_w hw 52 rfl)) (by decide) (backOf (W := 0) (rm10 l Z a0 hw [] i8  T7.heap n0 (Nat.le_trans Z0 KH7.1)) hZ (own_w hw 52 rfl) (own_w hw 51 rfl) (by decide) (by decide)) (g := (mkF m 182 #[s0, s1, s2, s3, s4, .val (.int i5), .val (.int i6), .val (.int i7), .val (.int i8), s9, s10, .val (.ref o11), s12, s13] [(.int i8)])) rfl (by rw [hml]; rfl) (argsL := [(.int i8)]) (rest := []) (lenOf pd_0_9 rfl) rfl (by show 2 * 0 + _ ≤ _; exact Nat.le_of_eq rfl) (hb hby at_182) (fun _ _ => ⟨rfl, rfl, (by decide : 4 + 0 + 0 ≤ _), (by decide : 20 + 0 + 0 ≤ _)⟩)
  dsimp only [Pt.U, Pt.locs, Pt.cells, Pt.slots] at X8 l8 y8 z8 st8 hQ8
  subst l8 y8 z8
  obtain ⟨rfl, N8q, e8q⟩ := hQ8
  have N8 := Fr.app N7 N8q
  have K8q : Keep T7.heap T8.heap [] := own_keep e8q
  have KH8 : Keep h0 T8.heap [] := KH7.trans K8q own_ws0
  have eh8 : T8.heap = h0 := by rw [e8q]; exact eh7
  obtain ⟨_, _, ⟨T9, L9, k9, n9⟩, -, X9, ⟨Lc9, hQ9, l9, y9, z9⟩, st9⟩ := Jvm.LawKit.callS X8 hx (y := (⟨"com/example/marcwerk/marcwerk/marc/MarcText", "isTag", "(Ljava/lang/String;)Z"⟩ : MethodName)) hown (mvT hZ (own_w hw 24 rfl)) (mvT hZ (own_w hw 25 rfl)) (mvT hZ (own_w hw 26 rfl)) (mvT hZ (own_w hw 27 rfl)) (by decide) (backOf (W := 0) (rm4_3 l Z a0 hw [] o11 i6 i7 i8 G1 G3 T8.heap n0 (Nat.le_trans Z0 KH8.1) (by rw [eh8]; exact H3) (by rw [eh8]; exact S_CS) P5 (by rw [eh8]; exact O4) rG3 (by rw [eh8]; exact S__assertionsDisabled) (by rw [eh8]; exact S_HI_BYTE_SHIFT) (by rw [eh8]; exact S_LO_BYTE_SHIFT)) hZ (own_w hw 27 rfl) (own_w hw 26 rfl) (by decide) (by decide)) (g := (mkF m 197 #[s0, s1, s2, s3, s4, .val (.int i5), .val (.int i6), .val (.int i7), .val (.int i8), s9, s10, .val (.ref o11), .val (.int (1 : Int32)), s13] [(.ref o11)])) rfl (by rw [hml]; rfl) (argsL := [(.ref o11)]) (rest := []) (lenOf pd_0_3 rfl) rfl (by show 2 * 0 + _ ≤ _; exact Nat.le_of_eq rfl) (hb hby at_197) (fun _ _ => ⟨rfl, rfl, (by decide : 4 + 0 + 0 ≤ _), (by decide : 20 + 0 + 0 ≤ _)⟩)
  dsimp only [Pt.U, Pt.locs, Pt.cells, Pt.slots] at X9 l9 y9 z9 st9 hQ9
  subst l9 y9 z9
  obtain ⟨rfl, N9q, e9q⟩ := hQ9
  have N9 := Fr.app N8 N9q
  have K9q : Keep T8.heap T9.heap [] := own_keep e9q
  have KH9 : Keep h0 T9.heap [] := KH8.trans K9q own_ws0
  have eh9 : T9.heap = h0 := by rw [e9q]; exact eh8
  refine ⟨T9, _, _, (1 : Int32), (own_tag i6 i7 i8), X9, rfl, N9, trivial, fun target kt => ?_⟩
  show Steps p.tables e below (T0.setTop (mkF m 158 #[s0, s1, s2, s3, s4, .val (.int i5), .val (.int i6), .val (.int i7), .val (.int i8), s9, s10, .val (.ref o11), s12, s13] [])) _
  refine XS.iload X0.here hx rfl (hb hby at_158) rfl ?_
  refine XS.iconst X0.here hx rfl (hb hby at_160) ?_
  refine XS.icmpNo X0.here hx rfl (hb hby at_161) rfl (teq hc161).2 ?_
  refine XS.iload X0.here hx rfl (hb hby at_164) rfl ?_
  show Steps p.tables e below (T0.setTop (mkF m 166 #[s0, s1, s2, s3, s4, .val (.int i5), .val (.int i6), .val (.int i7), .val (.int i8), s9, s10, .val (.ref o11), s12, s13] [(.int i6)])) _
  refine st6 _ ?_
  show Steps p.tables e below (T6.setTop (mkF m 169 #[s0, s1, s2, s3, s4, .val (.int i5), .val (.int i6), .val (.int i7), .val (.int i8), s9, s10, .val (.ref o11), s12, s13] [(.int (own_f10 i6))])) _
  refine XS.ifNo X6.here hx rfl (hb hby at_169) rfl ((if0 _ _).trans (feq ht169).1) ?_
  refine XS.iload X6.here hx rfl (hb hby at_172) rfl ?_
  show Steps p.tables e below (T6.setTop (mkF m 174 #[s0, s1, s2, s3, s4, .val (.int i5), .val (.int i6), .val (.int i7), .val (.int i8), s9, s10, .val (.ref o11), s12, s13] [(.int i7)])) _
  refine st7 _ ?_
  show Steps p.tables e below (T7.setTop (mkF m 177 #[s0, s1, s2, s3, s4, .val (.int i5), .val (.int i6), .val (.int i7), .val (.int i8), s9, s10, .val (.ref o11), s12, s13] [(.int (own_f10 i7))])) _
  refine XS.ifNo X7.here hx rfl (hb hby at_177) rfl ((if0 _ _).trans (feq ht177).1) ?_
  refine XS.iload X7.here hx rfl (hb hby at_180) rfl ?_
  show Steps p.tables e below (T7.setTop (mkF m 182 #[s0, s1, s2, s3, s4, .val (.int i5), .val (.int i6), .val (.int i7), .val (.int i8), s9, s10, .val (.ref o11), s12, s13] [(.int i8)])) _
  refine st8 _ ?_
  show Steps p.tables e below (T8.setTop (mkF m 185 #[s0, s1, s2, s3, s4, .val (.int i5), .val (.int i6), .val (.int i7), .val (.int i8), s9, s10, .val (.ref o11), s12, s13] [(.int (own_f10 i8))])) _
  refine XS.ifNo X8.here hx rfl (hb hby at_185) rfl ((if0 _ _).trans (feq ht185).1) ?_
  refine XS.iconst X8.here hx rfl (hb hby at_188) ?_
  refine XS.goto X8.here hx rfl (pc0 := 189) (pc' := 193) rfl (hb hby at_189) (by decide) (by decide) ?_
  refine XS.istore X8.here hx rfl (hb hby at_193) rfl (l' := #[s0, s1, s2, s3, s4, .val (.int i5), .val (.int i6), .val (.int i7), .val (.int i8), s9, s10, .val (.ref o11), .val (.int (1 : Int32)), s13]) (os0_193_own_dffff hs12) ?_
  refine XS.aload X8.here hx rfl (hb hby at_195) rfl rfl ?_
  show Steps p.tables e below (T8.setTop (mkF m 197 #[s0, s1, s2, s3, s4, .val (.int i5), .val (.int i6), .val (.int i7), .val (.int i8), s9, s10, .val (.ref o11), .val (.int (1 : Int32)), s13] [(.ref o11)])) _
  refine st9 _ ?_
  show Steps p.tables e below (T9.setTop (mkF m 200 #[s0, s1, s2, s3, s4, .val (.int i5), .val (.int i6), .val (.int i7), .val (.int i8), s9, s10, .val (.ref o11), .val (.int (1 : Int32)), s13] [(.int (own_tag i6 i7 i8))])) _
  refine XS.istore X9.here hx rfl (hb hby at_200) rfl (l' := #[s0, s1, s2, s3, s4, .val (.int i5), .val (.int i6), .val (.int i7), .val (.int i8), s9, s10, .val (.ref o11), .val (.int (1 : Int32)), .val (.int (own_tag i6 i7 i8))]) (os0_200_own_dffff hs13) ?_
  refine XS.iload X9.here hx rfl (hb hby at_202) rfl ?_
  refine XS.iload X9.here hx rfl (hb hby at_204) rfl ?_
  refine XS.icmpNo X9.here hx rfl (hb hby at_206) rfl (teq ht206).2 ?_
  exact kt
theorem own_fld_ne {Z : State} {h : Heap} {a b : Addr} {C n d : String} {v w : Value} (F : Fld Z h a C n d v) (G : Fld Z h b C n d w) (hv : v ≠ w) : a ≠ b := fun e => by
  subst e
  obtain ⟨c1, cf1, k1, i1, f1, h1, h2, -, -, -, -, h3⟩ := F
  obtain ⟨c2, cf2, k2, i2, f2, g1, g2, -, -, -, -, g3⟩ := G
  rw [h1] at g1
  cases g1
  rw [h2] at g2
  cases g2
  rw [h3] at g3
  exact hv (Option.some.inj g3)
theorem own_backS {p : Program} {l : Launch} {e : Env} {R : Room} {s : State} {args : Array Value} {below : List Frame} {Z : State} {a0 : Array Value} {h : Heap} {y : MethodName} {bytes : ByteArray} {maxL : Nat} {ret : Option FieldType} {rm : Room} {len W : Nat} {as' : Array Value} {Q : Option Value → Heap → List Loc → Prop}
    (hM : MetFree l y (head1 [Cond.code y bytes maxL ret] rm) (fun a U => a = as' ∧ Z.Warmed39 U.vm ∧ U.heap = h ∧ U.vm.interned = Z.vm.interned) (fun _ _ _ _ _ => True) (fun _ U o U' => ∃ v L, o = .returned v ∧ Q v U'.heap L ∧ ReturnedEndW U o U' L rm.cells rm.slots))
    (hI : s.vm.interned = Z.vm.interned) (hZ : Z.Warmed39 s.vm) (wc : (Cond.code y bytes maxL ret).before a0 Z = true) (wz : (Cond.initialized y.cls).before a0 Z = true) (hf : rm.frames + 1 ≤ R.frames) (hl : W + (maxL + 11) + rm.locals ≤ R.locals) :
    BackS l R p e below s args y len W (fun A a => a = as' ∧ A.U.heap = h ∧ A.cells + rm.cells ≤ R.cells ∧ A.slots + rm.slots ≤ R.slots)
      (fun A _ v B => ∃ L, Q v B.U.heap L ∧ B.locs = A.locs ++ L ∧ B.cells = A.cells + rm.cells ∧ B.slots = A.slots + rm.slots) :=
  BackS.of_freeW (bytes := bytes) (maxL := maxL) (ret := ret) (E := fun _ _ o t L k n => k = rm.cells ∧ n = rm.slots ∧ ∃ v, o = .returned v ∧ Q v t.heap L) hM hf hl
    (fun m meth c A a Y hp => have hU : Z.Warmed39 A.U.vm := wtrans hZ Y.warmed
      ⟨by show (Cond.and _ .tt).before a A.U = true; rw [Cond.before_and, mv hU wc]; rfl, mv hU wc, mv hU wz, hp.2.2.1, hp.2.2.2⟩)
    (fun m meth c A a g mk Y hp => ⟨hp.1, wtrans hZ Y.warmed, hp.2.1, Y.warmed.interned_eq.trans hI⟩) (fun _ _ _ _ _ _ _ _ _ => trivial)
    (fun _ _ _ _ ⟨v, L, h1, h2, h3⟩ => ⟨L, _, _, h3, rfl, rfl, v, h1, h2⟩)
    (fun m meth c A a g mk v t L k n Y hp _ _ ⟨e1, e2, v', e3, e4⟩ => by cases e3; subst e1 e2; exact ⟨L, e4, rfl, rfl, rfl⟩)
theorem d2_8 : decode jdk_42_method_149_code 8 = .ok (.aload_n 0, 1) := by decide +kernel
theorem d2_9 : decode jdk_42_method_149_code 9 = .ok (.ldc 7, 2) := by decide +kernel
theorem d2_11 : decode jdk_42_method_149_code 11 = .ok (.getfield 9, 3) := by decide +kernel
theorem d2_14 : decode jdk_42_method_149_code 14 = .ok (.putfield 9, 3) := by decide +kernel
theorem d2_17 : decode jdk_42_method_149_code 17 = .ok (.aload_n 0, 1) := by decide +kernel
theorem d2_18 : decode jdk_42_method_149_code 18 = .ok (.ldc 7, 2) := by decide +kernel
theorem d2_20 : decode jdk_42_method_149_code 20 = .ok (.getfield 15, 3) := by decide +kernel
theorem d2_23 : decode jdk_42_method_149_code 23 = .ok (.putfield 15, 3) := by decide +kernel
theorem d2_26 : decode jdk_42_method_149_code 26 = .ok (.return_, 1) := by decide +kernel
def Q2z (Z : State) (a1 : Addr) (h0 : Heap) (n0 : Nat) (v : Option Value) (h : Heap) (L : List Loc) : Prop := v = none ∧ Fr n0 L ∧ Keep h0 h [a1] ∧ own_SL Z h a1 (0 : Int32)
set_option maxRecDepth 65536 in
set_option maxHeartbeats 40000000 in
theorem rm2_0 (l : Launch) (Z : State) (a0 : Array Value) (hw : ∀ d ∈ tables_1, d.before a0 Z = true) (ws : List Jvm.Cond) (a1 : Addr) (a2 : Addr) (h0 : Heap) (n0 : Nat) (Z0 : n0 ≤ h0.size) (E_a1 : Exa Z h0 a1 "java/lang/String") (F_coder_a1 : Fld Z h0 a1 "java/lang/String" "coder" "B" (.int (0 : Int32))) (g_a1 : n0 ≤ a1) (F_value_a1 : Fld Z h0 a1 "java/lang/String" "value" "[B" .null) (hkp : ∀ (b : Addr) (cl : Cell), Z.heap[b]? = some cl → h0[b]? = some cl) (hh : Jvm.Lit.constHeld Z "java/lang/String" 7) (hcw : Jvm.Lit.compactW.before a0 Z = true) :
    MetFree l (⟨"java/lang/String", "<init>", "([CIILjava/lang/Void;)V"⟩ : MethodName) (head1 (Jvm.Cond.code (⟨"java/lang/String", "<init>", "([CIILjava/lang/Void;)V"⟩ : MethodName) jdk_42_method_149_code 6 none :: ws) ({ frames := 1, cells := 2, slots := 4, locals := 12 } : Room)) (fun a U => a = #[(.ref a1), (.ref a2), (.int (0 : Int32)), (.int (0 : Int32)), .null] ∧ Z.Warmed39 U.vm ∧ U.heap = h0 ∧ U.vm.interned = Z.vm.interned) (fun _ _ _ _ _ => True) (fun _ U o U' => ∃ v L, o = .returned v ∧ Q2z Z a1 h0 n0 v U'.heap L ∧ ReturnedEndW U o U' L ({ frames := 1, cells := 2, slots := 4, locals := 12 } : Room).cells ({ frames := 1, cells := 2, slots := 4, locals := 12 } : Room).slots) := by
  refine MetFree.of_bodySF (plainFor_of_name pn_2) hisR ?_
  intro p e s m args below meth c s₁ Bd hml0 hP hK
  obtain ⟨rfl, hZ, hh0, hI⟩ := hP
  have hx := Bd.exec
  have hby := Bd.bytes
  have hml : c.maxLocals = 6 := hml0
  have hown : s.vm.findClass "java/lang/String" = some m.cls := findClass_of_methodNamed Bd.named
  have hnm := (name_of_methodNamed Bd.named Bd.method).1
  have X0 : Stand p l e ({ frames := 1, cells := 2, slots := 4, locals := 12 } : Room) s m #[(.ref a1), (.ref a2), (.int (0 : Int32)), (.int (0 : Int32)), .null] below meth c s₁ [] 0 0 := Stand.of_body Bd
  have e0 : s₁.heap = h0 := by rw [← hh0, Bd.state]; rfl
  have N0 := Fr.nil n0
  have pre0 : ∀ t, Steps p.tables e below (s₁.setTop (mkF m 0 #[.val (.ref a1), .val (.ref a2), .val (.int (0 : Int32)), .val (.int (0 : Int32)), .val .null, .unset] [])) t → Steps p.tables e below (s₁.setTop (entryFrame m #[(.ref a1), (.ref a2), (.int (0 : Int32)), (.int (0 : Int32)), .null] 6)) t := fun t k => castTop (ef_2 m a1 a2 (0 : Int32) (0 : Int32)) k
  obtain ⟨T5, X5, e5, st5⟩ := initO X0 hx hZ hown (own_w hw 13 rfl) (own_w hw 14 rfl) (own_w hw 15 rfl) e0 (g := (mkF m 1 #[.val (.ref a1), .val (.ref a2), .val (.int (0 : Int32)), .val (.int (0 : Int32)), .val .null, .unset] [(.ref a1)])) rfl (by rw [hml]; rfl) rfl (hb hby d2_1) (by decide) (W := 0) (by show 2 * 0 + _ ≤ _; exact Nat.le_of_eq rfl) (by decide)
  have wS : ∀ a ∈ Bundle.stringAtoms, a.before a0 Z = true := fun d hd => hw d ((by decide +kernel : ∀ d ∈ Bundle.stringAtoms, d ∈ tables_1) d hd)
  obtain ⟨a, T6, h6, k6, b, kb, X6, e6, E6, hS6, hk6, hZ6, hown6, Ea, Ca, Va, Ab, la, lb, I6, L6, st6⟩ := ldcSVL (s := s) (vm0 := s.vm) X5 hx hZ hown (own_w hw 16 rfl) wS e5 (k0 := 0) ((State.WarmedH.refl s).since 0) (Nat.zero_le _) (Fr.nil _) (fun b cl q => by rw [hh0]; exact hkp b cl q) (Ts := []) ⟨#[], by simp [hI], fun q hq => by simp at hq⟩ (by simp) hh hcw (vs := []) (z := (0 : Int32)) ⟨by decide, rfl⟩ (by decide) (by decide) (g := (mkF m 9 #[.val (.ref a1), .val (.ref a2), .val (.int (0 : Int32)), .val (.int (0 : Int32)), .val .null, .unset] [(.ref a1)])) rfl (hb hby d2_9) (n := 0) (by decide) (by decide) (by decide) (by decide)
  obtain ⟨T7, X7, e7, st7⟩ := getF X6 hx hZ6 hown6 (host := "") (Or.inl (own_w hw 22 rfl)) Via.refl e6 Va (g := (mkF m 11 #[.val (.ref a1), .val (.ref a2), .val (.int (0 : Int32)), .val (.int (0 : Int32)), .val .null, .unset] [(.ref a), (.ref a1)])) rfl rfl (hb hby d2_11)
  have Fv6 := F_value_a1.ext E6
  have Ex6 := E_a1.ext E6
  have Fc6 := F_coder_a1.ext E6
  have nea : a ≠ a1 := own_fld_ne Va Fv6 (by simp)
  have neb : a1 ≠ b := Exa.neArv Ex6 Ab (own_w hw 4 rfl)
  obtain ⟨T8, h8, X8, e8, W8, st8⟩ := putF X7 hx hZ6 hown6 (host := "") (Or.inl (own_w hw 22 rfl)) Via.refl e7 Fv6 Ex6 (Or.inr ⟨(own_w hw 18 rfl), rfl, hnm⟩) (own_w hw 4 rfl) (ty := (.array .byte)) (by decide) rfl rfl (g := (mkF m 14 #[.val (.ref a1), .val (.ref a2), .val (.int (0 : Int32)), .val (.int (0 : Int32)), .val .null, .unset] [(.ref b), (.ref a1)])) rfl rfl (hb hby d2_14)
  have Fw8 := Fv6.same W8
  have st9 := ldcAgain X8 hx hZ6 hown6 (own_w hw 16 rfl) L6 (g := (mkF m 18 #[.val (.ref a1), .val (.ref a2), .val (.int (0 : Int32)), .val (.int (0 : Int32)), .val .null, .unset] [(.ref a1)])) rfl (hb hby d2_18)
  have Ca8 := Ca.other W8 (Or.inl nea)
  obtain ⟨T10, X10, e10, st10⟩ := getF X8 hx hZ6 hown6 (host := "") (Or.inl (own_w hw 23 rfl)) Via.refl e8 Ca8 (g := (mkF m 20 #[.val (.ref a1), .val (.ref a2), .val (.int (0 : Int32)), .val (.int (0 : Int32)), .val .null, .unset] [(.ref a), (.ref a1)])) rfl rfl (hb hby d2_20)
  have Fc8 := Fc6.other W8 (Or.inr (slot_ne (Or.inr (own_w hw 19 rfl)) (Or.inr (own_w hw 18 rfl)) (by decide) (t := .byte) (t' := (.array .byte)) (by decide) (by decide)))
  obtain ⟨T11, h11, X11, e11, W11, st11⟩ := putFN X10 hx hZ6 hown6 (own_w hw 23 rfl) Via.refl e10 Fc8 (Ex6.wr W8) (Or.inr ⟨(own_w hw 19 rfl), rfl, hnm⟩) (own_w hw 4 rfl) (ty := .byte) (v' := (.int (0 : Int32))) (by decide) (by decide) (by decide) (g := (mkF m 23 #[.val (.ref a1), .val (.ref a2), .val (.int (0 : Int32)), .val (.int (0 : Int32)), .val .null, .unset] [(.int (0 : Int32)), (.ref a1)])) rfl rfl (hb hby d2_23)
  have Fw11 := Fc8.same W11
  have K6 : Keep h0 h6 [a1] := (Keep.refl h0 [a1]).ext E6
  have K8 : Keep h0 h8 [a1] := K6.wr W8 (Or.inl (by simp))
  have K11 : Keep h0 h11 [a1] := K8.wr W11 (Or.inl (by simp))
  have N8 := Fr.snoc X8 N0 g_a1
  have N11 := Fr.snoc X11 N8 g_a1
  have hsz : k6 ≤ T11.heap.size := by rw [e11, W11.size, W8.size]; exact hk6
  obtain ⟨cl, Ar, q, S, N, Hh, G⟩ := (Ab.other W8 (Ne.symm neb)).other W11 (Ne.symm neb)
  have SL : own_SL Z h11 a1 (0 : Int32) := ⟨(Ex6.wr W8).wr W11, b, cl, (0 : Int32), (0 : Int32), Fw8.other W11 (Or.inr (slot_ne (Or.inr (own_w hw 18 rfl)) (Or.inr (own_w hw 19 rfl)) (by decide) (t := (.array .byte)) (t' := .byte) (by decide) (by decide))), Fw11, Ar, S, N, by decide⟩
  obtain ⟨fs, hr, hrun, hended, hRE⟩ := X11.leaveW hS6 hsz (v := none) (fun _ => rfl) (BodyLoose.notSynchronized Bd)
  refine ⟨_, _, pre0 _ ?_, hrun, hended, _, _, rfl, ⟨rfl, N11, (by show Keep h0 T11.heap [a1]; rw [e11]; exact K11), (by show own_SL Z T11.heap a1 0; rw [e11]; exact SL)⟩, hRE⟩
  show Steps p.tables e below (s₁.setTop (mkF m 0 #[.val (.ref a1), .val (.ref a2), .val (.int (0 : Int32)), .val (.int (0 : Int32)), .val .null, .unset] [])) _
  refine XS.aloadN X0.here hx rfl (hb hby d2_0) rfl rfl ?_
  show Steps p.tables e below (s₁.setTop (mkF m 1 #[.val (.ref a1), .val (.ref a2), .val (.int (0 : Int32)), .val (.int (0 : Int32)), .val .null, .unset] [(.ref a1)])) _
  refine st5 _ ?_
  show Steps p.tables e below (T5.setTop (mkF m 4 #[.val (.ref a1), .val (.ref a2), .val (.int (0 : Int32)), .val (.int (0 : Int32)), .val .null, .unset] [])) _
  refine XS.iloadN X5.here hx rfl (hb hby d2_4) rfl ?_
  refine XS.ifNo X5.here hx rfl (hb hby d2_5) rfl ((if0 _ _).trans (teq (rfl : (0 : Int32) = (0 : Int32))).2) ?_
  refine XS.aloadN X5.here hx rfl (hb hby d2_8) rfl rfl ?_
  show Steps p.tables e below (T5.setTop (mkF m 9 #[.val (.ref a1), .val (.ref a2), .val (.int (0 : Int32)), .val (.int (0 : Int32)), .val .null, .unset] [(.ref a1)])) _
  refine st6 _ ?_
  refine st7 _ ?_
  refine st8 _ ?_
  show Steps p.tables e below (T8.setTop (mkF m 17 #[.val (.ref a1), .val (.ref a2), .val (.int (0 : Int32)), .val (.int (0 : Int32)), .val .null, .unset] [])) _
  refine XS.aloadN X8.here hx rfl (hb hby d2_17) rfl rfl ?_
  show Steps p.tables e below (T8.setTop (mkF m 18 #[.val (.ref a1), .val (.ref a2), .val (.int (0 : Int32)), .val (.int (0 : Int32)), .val .null, .unset] [(.ref a1)])) _
  refine st9 _ ?_
  refine st10 _ ?_
  refine st11 _ ?_
  show Steps p.tables e below (T11.setTop (mkF m 26 #[.val (.ref a1), .val (.ref a2), .val (.int (0 : Int32)), .val (.int (0 : Int32)), .val .null, .unset] [])) _
  exact X11.returnOut hx Bd.returns (hb hby d2_26) hr
set_option maxRecDepth 65536 in
set_option maxHeartbeats 40000000 in
theorem rm1_0 (l : Launch) (Z : State) (a0 : Array Value) (hw : ∀ d ∈ tables_1, d.before a0 Z = true) (ws : List Jvm.Cond) (a1 : Addr) (a2 : Addr) (ka : ClassId) (vs : List Value) (dv : Value) (h0 : Heap) (n0 : Nat) (Z0 : n0 ≤ h0.size) (V : Arv Z h0 a2 ka .char (0 : Int32) vs dv) (E_a1 : Exa Z h0 a1 "java/lang/String") (F_coder_a1 : Fld Z h0 a1 "java/lang/String" "coder" "B" (.int (0 : Int32))) (g_a1 : n0 ≤ a1) (F_value_a1 : Fld Z h0 a1 "java/lang/String" "value" "[B" .null) (hkp : ∀ (b : Addr) (cl : Cell), Z.heap[b]? = some cl → h0[b]? = some cl) (hh : Jvm.Lit.constHeld Z "java/lang/String" 7) (hcw : Jvm.Lit.compactW.before a0 Z = true) :
    MetFree l (⟨"java/lang/String", "<init>", "([C)V"⟩ : MethodName) (head1 (Jvm.Cond.code (⟨"java/lang/String", "<init>", "([C)V"⟩ : MethodName) jdk_42_method_3_code 2 none :: ws) ({ frames := 2, cells := 2, slots := 4, locals := 29 } : Room)) (fun a U => a = #[(.ref a1), (.ref a2)] ∧ Z.Warmed39 U.vm ∧ U.heap = h0 ∧ U.vm.interned = Z.vm.interned) (fun _ _ _ _ _ => True) (fun _ U o U' => ∃ v L, o = .returned v ∧ Q2z Z a1 h0 n0 v U'.heap L ∧ ReturnedEndW U o U' L ({ frames := 2, cells := 2, slots := 4, locals := 29 } : Room).cells ({ frames := 2, cells := 2, slots := 4, locals := 29 } : Room).slots) := by
  refine MetFree.of_bodySF (plainFor_of_name pn_1) hisR ?_
  intro p e s m args below meth c s₁ Bd hml0 hP hK
  obtain ⟨rfl, hZ, hh0, hI⟩ := hP
  have hx := Bd.exec
  have hby := Bd.bytes
  have hml : c.maxLocals = 2 := hml0
  have hown : s.vm.findClass "java/lang/String" = some m.cls := findClass_of_methodNamed Bd.named
  have hnm := (name_of_methodNamed Bd.named Bd.method).1
  have X0 : Stand p l e ({ frames := 2, cells := 2, slots := 4, locals := 29 } : Room) s m #[(.ref a1), (.ref a2)] below meth c s₁ [] 0 0 := Stand.of_body Bd
  have e0 : s₁.heap = h0 := by rw [← hh0, Bd.state]; rfl
  have N0 := Fr.nil n0
  obtain ⟨cl_a2, Ar_a2, q_a2, S_a2, N_a2, H_a2, G_a2⟩ := id V
  have pre0 : ∀ t, Steps p.tables e below (s₁.setTop (mkF m 0 #[.val (.ref a1), .val (.ref a2)] [])) t → Steps p.tables e below (s₁.setTop (entryFrame m #[(.ref a1), (.ref a2)] 2)) t := fun t k => castTop (ef_1 m a1 a2) k
  obtain ⟨_, _, ⟨T3, L3, k3, n3⟩, -, X3, hS3, hg3, ⟨Lc3, hQ3, l3, y3, z3⟩, st3⟩ := X0.specialBackS hx (y := (⟨"java/lang/String", "<init>", "([CIILjava/lang/Void;)V"⟩ : MethodName)) rfl hown (mvT hZ (own_w hw 9 rfl)) (mvT hZ (own_w hw 10 rfl)) (mvT hZ (own_w hw 12 rfl)) (by decide) (own_backS (W := 0) (rm2_0 l Z a0 hw [] a1 a2 h0 n0 Z0 E_a1 F_coder_a1 g_a1 F_value_a1 hkp hh hcw) hI hZ (own_w hw 12 rfl) (own_w hw 5 rfl) (by decide) (by decide)) (g := (mkF m 6 #[.val (.ref a1), .val (.ref a2)] [.null, (.int (0 : Int32)), (.int (0 : Int32)), (.ref a2), (.ref a1)])) rfl (by rw [hml]; rfl) (Steps.refl _) (a := a1) (argsL := [(.ref a2), (.int (0 : Int32)), (.int (0 : Int32)), .null]) (rest := []) (lenOf pd_1_1 rfl) rfl (by show 2 * 0 + _ ≤ _; exact Nat.le_of_eq rfl) (hb hby d1_6) (fun _ _ => ⟨rfl, e0, (by decide : 0 + 2 ≤ _), (by decide : 0 + 4 ≤ _)⟩)
  dsimp only [Pt.U, Pt.locs, Pt.cells, Pt.slots] at X3 hS3 hg3 l3 y3 z3 st3 hQ3
  subst l3 y3 z3
  obtain ⟨rfl, N3q, K3q, SL3⟩ := hQ3
  have N3 := Fr.app N0 N3q
  obtain ⟨fs, hr, hrun, hended, hRE⟩ := X3.leaveW hS3 (Nat.le_refl _) (v := none) (fun _ => rfl) (BodyLoose.notSynchronized Bd)
  refine ⟨_, _, pre0 _ ?_, hrun, hended, _, _, rfl, ?_, hRE⟩
  · show Steps p.tables e below (s₁.setTop (mkF m 0 #[.val (.ref a1), .val (.ref a2)] [])) _
    refine XS.aloadN X0.here hx rfl (hb hby d1_0) rfl rfl ?_
    refine XS.aloadN X0.here hx rfl (hb hby d1_1) rfl rfl ?_
    refine XS.iconst X0.here hx rfl (hb hby d1_2) ?_
    refine XS.aloadN X0.here hx rfl (hb hby d1_3) rfl rfl ?_
    show Steps p.tables e below (s₁.setTop (mkF m 4 #[.val (.ref a1), .val (.ref a2)] [(.ref a2), (.int (0 : Int32)), (.ref a2), (.ref a1)])) _
    refine X0.arraylength hx (by rw [e0]; exact Ar_a2.1) (State.isArrayOf_alike hZ.alike Ar_a2.2.1) (g := (mkF m 4 #[.val (.ref a1), .val (.ref a2)] [(.ref a2), (.int (0 : Int32)), (.ref a2), (.ref a1)])) rfl rfl (hb hby d1_4) _ ?_
    rw [len_of S_a2 N_a2]
    show Steps p.tables e below (s₁.setTop (mkF m 5 #[.val (.ref a1), .val (.ref a2)] [(.int (0 : Int32)), (.int (0 : Int32)), (.ref a2), (.ref a1)])) _
    refine XS.aconstNull X0.here hx rfl (hb hby d1_5) ?_
    show Steps p.tables e below (s₁.setTop (mkF m 6 #[.val (.ref a1), .val (.ref a2)] [.null, (.int (0 : Int32)), (.int (0 : Int32)), (.ref a2), (.ref a1)])) _
    refine st3.trans ?_
    show Steps p.tables e below (T3.setTop (mkF m 9 #[.val (.ref a1), .val (.ref a2)] [])) _
    exact X3.returnOut hx Bd.returns (hb hby d1_9) hr
  · show Q2z Z a1 h0 n0 _ T3.heap _
    exact ⟨rfl, N3, K3q, SL3⟩
theorem os0_45 {s0 : Slot} {s1 : Slot} {s2 : Slot} {s3 : Slot} {s4 : Slot} {z5 : Value} {s6 : Slot} {s7 : Slot} {s8 : Slot} {s9 : Slot} {s10 : Slot} {s11 : Slot} {s12 : Slot} {s13 : Slot} {v : Addr} (h : One s10) : storeLocals #[s0, s1, s2, s3, s4, .val z5, s6, s7, s8, s9, s10, s11, s12, s13] 10 (.ref v) = some #[s0, s1, s2, s3, s4, .val z5, s6, s7, s8, s9, .val (.ref v), s11, s12, s13] := by
  rcases h with rfl | ⟨w, rfl, hw⟩
  · rfl
  · cases w <;> first | rfl | (simp [Value.category] at hw)
set_option maxRecDepth 65536 in
set_option maxHeartbeats 40000000 in
theorem own_a0 {p : Program} {l : Launch} {e : Env} {s : State} {m : MethodId} {args : Array Value} {below : List Frame} {meth : Method} {c : Code} {T0 : State} {locs : List Loc} {Z : State} {a0 : Array Value} {h0 : Heap} {n0 : Nat} (s0 : Slot) (s1 : Slot) (s2 : Slot) (s3 : Slot) (s4 : Slot) (i5 : Int32) (s6 : Slot) (s7 : Slot) (s8 : Slot) (s9 : Slot) (s10 : Slot) (s11 : Slot) (s12 : Slot) (s13 : Slot)
    (X0 : Stand p l e room_1 s m args below meth c T0 locs 0 0) (hx : p.tables.exec = Jvm.exec) (hZ : Z.Warmed39 s.vm) (hw : ∀ d ∈ tables_1, d.before a0 Z = true) (hby : c.code = code) (hml : c.maxLocals = 14) (hown : s.vm.findClass "com/example/marcwerk/marcwerk/marc/MarcTextIsTagPinLaw" = some m.cls) (e0 : T0.heap = h0) (N0 : Fr n0 locs) (Z0 : n0 ≤ h0.size) (hs10 : One s10) (hc39 : i5 = (0 : Int32)) :
    ∃ (T' : State) (h' : Heap) (locs' : List Loc) (o10 : Addr) (ka : ClassId), Stand p l e room_1 s m args below meth c T' locs' 1 0 ∧ T'.heap = h' ∧ Fr n0 locs' ∧ Keep h0 h' [] ∧ Arv Z h' o10 ka .char (0 : Int32) [] (.int (0 : Int32)) ∧ ∀ target, Steps p.tables e below (T'.setTop (mkF m 147 #[s0, s1, s2, s3, s4, .val (.int i5), s6, s7, s8, s9, .val (.ref o10), s11, s12, s13] [])) target → Steps p.tables e below (T0.setTop (mkF m 37 #[s0, s1, s2, s3, s4, .val (.int i5), s6, s7, s8, s9, s10, s11, s12, s13] [])) target := by
  obtain ⟨T6, h6, k6, X6, e6, E6, A6, st6⟩ := newP X0 hx hZ (own_w hw 2 rfl) e0 (g := (mkF m 43 #[s0, s1, s2, s3, s4, .val (.int i5), s6, s7, s8, s9, s10, s11, s12, s13] [(.int (0 : Int32))])) rfl (hb hby at_43) rfl (by decide) (cap := 0) (by decide) (by decide) (by decide) (by decide)
  obtain ⟨b6, g6⟩ : ∃ z, z = h0.size := ⟨_, rfl⟩
  rw [← g6] at A6 st6
  have V_b6 := Arv.new A6 (by decide)
  have g_b6 : n0 ≤ b6 := Nat.le_trans Z0 (Nat.le_of_eq g6.symm)
  have sz_b6 : h0.size ≤ b6 := (Nat.le_trans (Keep.refl h0 []).1 (Nat.le_of_eq g6.symm))
  have K6 : Keep h0 h6 [] := (Keep.refl h0 []).ext E6
  refine ⟨T6, _, _, b6, k6, X6, e6, N0, K6, V_b6, fun target kt => ?_⟩
  show Steps p.tables e below (T0.setTop (mkF m 37 #[s0, s1, s2, s3, s4, .val (.int i5), s6, s7, s8, s9, s10, s11, s12, s13] [])) _
  refine XS.iload X0.here hx rfl (hb hby at_37) rfl ?_
  refine XS.ifNo X0.here hx rfl (hb hby at_39) rfl ((if0 _ _).trans (teq hc39).2) ?_
  refine XS.iconst X0.here hx rfl (hb hby at_42) ?_
  show Steps p.tables e below (T0.setTop (mkF m 43 #[s0, s1, s2, s3, s4, .val (.int i5), s6, s7, s8, s9, s10, s11, s12, s13] [(.int (0 : Int32))])) _
  refine st6 _ ?_
  show Steps p.tables e below (T6.setTop (mkF m 45 #[s0, s1, s2, s3, s4, .val (.int i5), s6, s7, s8, s9, s10, s11, s12, s13] [(.ref b6)])) _
  refine XS.astore X6.here hx rfl (hb hby at_45) rfl rfl (l' := #[s0, s1, s2, s3, s4, .val (.int i5), s6, s7, s8, s9, .val (.ref b6), s11, s12, s13]) (os0_45 hs10) ?_
  refine XS.goto X6.here hx rfl (pc0 := 47) (pc' := 147) rfl (hb hby at_47) (by decide) (by decide) ?_
  exact kt
set_option maxRecDepth 65536 in
set_option maxHeartbeats 40000000 in
theorem own_b0 {p : Program} {l : Launch} {e : Env} {s : State} {m : MethodId} {args : Array Value} {below : List Frame} {meth : Method} {c : Code} {T0 : State} {locs : List Loc} {Z : State} {a0 : Array Value} {h0 : Heap} {n0 : Nat} (s0 : Slot) (s1 : Slot) (s2 : Slot) (s3 : Slot) (s4 : Slot) (s5 : Slot) (s6 : Slot) (s7 : Slot) (s8 : Slot) (s9 : Slot) (o10 : Addr) (s11 : Slot) (s12 : Slot) (s13 : Slot) (ka : ClassId)
    (X0 : Stand p l e room_1 s m args below meth c T0 locs 1 0) (hx : p.tables.exec = Jvm.exec) (hZ : Z.Warmed39 s.vm) (hw : ∀ d ∈ tables_1, d.before a0 Z = true) (hby : c.code = code) (hml : c.maxLocals = 14) (hown : s.vm.findClass "com/example/marcwerk/marcwerk/marc/MarcTextIsTagPinLaw" = some m.cls) (e0 : T0.heap = h0) (N0 : Fr n0 locs) (Z0 : n0 ≤ h0.size) (Va : Arv Z h0 o10 ka .char (0 : Int32) [] (.int (0 : Int32))) (hI : s.vm.interned = Z.vm.interned) (hkp : ∀ (b : Addr) (cl : Cell), Z.heap[b]? = some cl → h0[b]? = some cl) (hh : Jvm.Lit.constHeld Z "java/lang/String" 7) (hcw : Jvm.Lit.compactW.before a0 Z = true) (hs11 : One s11) :
    ∃ (T' : State) (h' : Heap) (locs' : List Loc) (o11 : Addr), Stand p l e room_1 (s.setVm T'.vm) m args below meth c T' locs' 4 20 ∧ T'.heap = h' ∧ Fr n0 locs' ∧ Keep h0 h' [] ∧ own_SL Z h' o11 (0 : Int32) ∧ s.Since T'.vm T'.heap.size ∧ Z.Warmed39 (s.setVm T'.vm).vm ∧ (s.setVm T'.vm).vm.findClass "com/example/marcwerk/marcwerk/marc/MarcTextIsTagPinLaw" = some m.cls ∧ ∀ target, Steps p.tables e below (T'.setTop (mkF m 158 #[s0, s1, s2, s3, s4, s5, s6, s7, s8, s9, .val (.ref o10), .val (.ref o11), s12, s13] [])) target → Steps p.tables e below (T0.setTop (mkF m 147 #[s0, s1, s2, s3, s4, s5, s6, s7, s8, s9, .val (.ref o10), s11, s12, s13] [])) target := by
  obtain ⟨T6, h6, X6, e6, E6, A6, D6, -, st6⟩ := newO X0 hx hZ hown (own_w hw 3 rfl) (own_w hw 4 rfl) (own_w hw 5 rfl) e0 (g := (mkF m 147 #[s0, s1, s2, s3, s4, s5, s6, s7, s8, s9, .val (.ref o10), s11, s12, s13] [])) rfl (hb hby at_147) (by decide) (by decide)
  obtain ⟨b6, g6⟩ : ∃ z, z = h0.size := ⟨_, rfl⟩
  rw [← g6] at A6 D6 st6
  have F_value_b6 : Fld Z h6 b6 "java/lang/String" "value" "[B" .null := D6 (Or.inr (own_w hw 18 rfl)) (ty := (.array .byte)) (by decide)
  have F_coder_b6 : Fld Z h6 b6 "java/lang/String" "coder" "B" (.int (0 : Int32)) := D6 (Or.inr (own_w hw 19 rfl)) (ty := .byte) (by decide)
  have E_b6 := A6
  have g_b6 : n0 ≤ b6 := Nat.le_trans Z0 (Nat.le_of_eq g6.symm)
  have sz_b6 : h0.size ≤ b6 := (Nat.le_trans (Keep.refl h0 []).1 (Nat.le_of_eq g6.symm))
  have K6 : Keep h0 h6 [] := (Keep.refl h0 []).ext E6
  obtain ⟨_, _, ⟨T7, L7, k7, n7⟩, -, X7, hS7, hg7, ⟨Lc7, hQ7, l7, y7, z7⟩, st7⟩ := X6.specialBackS hx (y := (⟨"java/lang/String", "<init>", "([C)V"⟩ : MethodName)) rfl hown (mvT hZ (own_w hw 6 rfl)) (mvT hZ (own_w hw 7 rfl)) (mvT hZ (own_w hw 8 rfl)) (by decide) (own_backS (W := 1) (rm1_0 l Z a0 hw [] b6 o10 ka _ _ h6 n0 (Nat.le_trans Z0 K6.1) (Va.ext E6) E_b6 F_coder_b6 g_b6 F_value_b6 (fun b cl q => K6.2.1 b cl (hkp b cl q) (fun r => nomatch r)) hh hcw) hI hZ (own_w hw 8 rfl) (own_w hw 5 rfl) (by decide) (by decide)) (g := (mkF m 153 #[s0, s1, s2, s3, s4, s5, s6, s7, s8, s9, .val (.ref o10), s11, s12, s13] [(.ref o10), (.ref b6), (.ref b6)])) rfl (by rw [hml]; rfl) (Steps.refl _) (a := b6) (argsL := [(.ref o10)]) (rest := [(.ref b6)]) (lenOf pd_0_0 rfl) rfl (by show 2 * 0 + _ ≤ _; exact Nat.le_of_eq rfl) (hb hby at_153) (fun _ _ => ⟨rfl, e6, (by decide : 1 + 1 + 2 ≤ _), (by decide : 0 + 4 + 4 ≤ _)⟩)
  dsimp only [Pt.U, Pt.locs, Pt.cells, Pt.slots] at X7 hS7 hg7 l7 y7 z7 st7 hQ7
  subst l7 y7 z7
  obtain ⟨rfl, N7q, K7q, SL7⟩ := hQ7
  have N7 := Fr.app N0 N7q
  have KH7 : Keep h0 T7.heap [] := K6.trans K7q (own_ws1 sz_b6)
  refine ⟨T7, _, _, b6, own_mono X7 (by decide) (by decide), rfl, N7, KH7, SL7, hS7, State.Warmed39.trans hZ hS7.1, (hS7.1.alike.findClass _ _).trans hown, fun target kt => ?_⟩
  show Steps p.tables e below (T0.setTop (mkF m 147 #[s0, s1, s2, s3, s4, s5, s6, s7, s8, s9, .val (.ref o10), s11, s12, s13] [])) _
  refine st6 _ ?_
  show Steps p.tables e below (T6.setTop (mkF m 150 #[s0, s1, s2, s3, s4, s5, s6, s7, s8, s9, .val (.ref o10), s11, s12, s13] [(.ref b6)])) _
  refine XS.dup X6.here hx rfl (hb hby at_150) rfl rfl ?_
  refine XS.aload X6.here hx rfl (hb hby at_151) rfl rfl ?_
  show Steps p.tables e below (T6.setTop (mkF m 153 #[s0, s1, s2, s3, s4, s5, s6, s7, s8, s9, .val (.ref o10), s11, s12, s13] [(.ref o10), (.ref b6), (.ref b6)])) _
  refine st7.trans ?_
  show Steps p.tables e below (T7.setTop (mkF m 156 #[s0, s1, s2, s3, s4, s5, s6, s7, s8, s9, .val (.ref o10), s11, s12, s13] [(.ref b6)])) _
  refine XS.astore X7.here hx rfl (hb hby at_156) rfl rfl (l' := #[s0, s1, s2, s3, s4, s5, s6, s7, s8, s9, .val (.ref o10), .val (.ref b6), s12, s13]) (os0_156 hs11) ?_
  exact kt
theorem own_nc (x : Int32) : nar .char (x.toUInt32.toUInt16.toUInt32.toInt32) = x.toUInt32.toUInt16.toUInt32.toInt32 := own_nar2 x
theorem own_rng (x : Int32) : 0 ≤ (x.toUInt32.toUInt16.toUInt32.toInt32).toInt ∧ (x.toUInt32.toUInt16.toUInt32.toInt32).toInt < 65536 := by
  have e : (x.toUInt32.toUInt16.toUInt32.toInt32).toInt = ((x.toBitVec.setWidth 16).setWidth 32).toInt := rfl
  have h1 : ((x.toBitVec.setWidth 16).setWidth 32).toNat < 65536 := by
    rw [BitVec.toNat_setWidth]
    exact Nat.lt_of_le_of_lt (Nat.mod_le _ _) (x.toBitVec.setWidth 16).isLt
  rw [e, BitVec.toInt_eq_toNat_cond]
  split <;> omega
theorem own_fit (x : Int32) : ¬ (x.toUInt32.toUInt16.toUInt32.toInt32) < 0 ∧ ¬ (65535 : Int32) < (x.toUInt32.toUInt16.toUInt32.toInt32) := by
  have h := own_rng x
  have e0 : (0 : Int32).toInt = 0 := by decide
  have e1 : (65535 : Int32).toInt = 65535 := by decide
  rw [Int32.lt_iff_toInt_lt, Int32.lt_iff_toInt_lt, e0, e1]
  omega
theorem own_or32 (c : Int32) (h1 : 128 ≤ c.toInt) (h2 : c.toInt < 65536) : 128 ≤ (c ||| (32 : Int32)).toInt ∧ (c ||| (32 : Int32)).toInt < 65536 := by
  have e1 : c.toInt = c.toBitVec.toInt := rfl
  have e2 : (c ||| (32 : Int32)).toInt = (c.toBitVec ||| 32#32).toInt := rfl
  rw [BitVec.toInt_eq_toNat_cond] at e1
  have hl := c.toBitVec.isLt
  have hn : c.toBitVec.toNat < 2 ^ 16 ∧ 128 ≤ c.toBitVec.toNat := by split at e1 <;> omega
  have h3 : (c.toBitVec ||| 32#32).toNat = c.toBitVec.toNat ||| 32 := by rw [BitVec.toNat_or]; rfl
  have h4 : c.toBitVec.toNat ≤ c.toBitVec.toNat ||| 32 := Nat.left_le_or
  have h5 : c.toBitVec.toNat ||| 32 < 2 ^ 16 := Nat.or_lt_two_pow hn.1 (by decide)
  rw [e2, BitVec.toInt_eq_toNat_cond, h3]
  split <;> omega
theorem own_same (c : Int32) (h1 : 0 ≤ c.toInt) (h2 : c.toInt < 65536) : own_f10 c = own_f16 c := by
  by_cases q : c.toInt < 128
  · have t : ∀ k : Fin 128, own_f10 (Int32.ofNat k.val) = own_f16 (Int32.ofNat k.val) := by decide +kernel
    have e2 : c = Int32.ofNat c.toInt.toNat := by
      apply Int32.toInt_inj.mp
      rw [Int32.toInt_ofNat_small (by omega)]; omega
    rw [e2]; exact t ⟨c.toInt.toNat, by omega⟩
  · obtain ⟨a1, a2⟩ := own_or32 c (by omega) h2
    generalize (c ||| (32 : Int32)) = d at a1 a2
    have E : own_f10 c = 0 ∧ own_f16 c = 0 := by
      have f48 : (48 : Int32).toInt = 48 := by decide
      have f97 : (97 : Int32).toInt = 97 := by decide
      have f0 : (0 : Int32).toInt = 0 := by decide
      have f10 : (10 : Int32).toInt = 10 := by decide
      have f26 : (26 : Int32).toInt = 26 := by decide
      have f57 : (57 : Int32).toInt = 57 := by decide
      have f65 : (65 : Int32).toInt = 65 := by decide
      have f90 : (90 : Int32).toInt = 90 := by decide
      have f122 : (122 : Int32).toInt = 122 := by decide
      have s1 : (c - (48 : Int32)).toInt = c.toInt - 48 := by rw [Jvm.Kit.i32_sub (by omega) (by omega), f48]
      obtain ⟨b1, b2⟩ := own_or32 c (by omega) h2
      have s2 : ((c ||| (32 : Int32)) - (97 : Int32)).toInt = (c ||| (32 : Int32)).toInt - 97 := by rw [Jvm.Kit.i32_sub (by omega) (by omega), f97]
      unfold own_f10 own_f16
      simp only [Int32.lt_iff_toInt_lt, s1, s2, f48, f97, f0, f10, f26, f57, f65, f90, f122]
      constructor <;> (repeat' split) <;> first | rfl | (exfalso; omega)
    rw [E.1, E.2]
theorem own_rem5 (p : Int32) : ((p &&& (2147483647 : Int32)) % (5 : Int32)) = 0 ∨ ((p &&& (2147483647 : Int32)) % (5 : Int32)) = 1 ∨ ((p &&& (2147483647 : Int32)) % (5 : Int32)) = 2 ∨ ((p &&& (2147483647 : Int32)) % (5 : Int32)) = 3 ∨ ((p &&& (2147483647 : Int32)) % (5 : Int32)) = 4 := by
  have e1 : (p &&& (2147483647 : Int32)).toInt = p.toInt % 2 ^ 31 := Jvm.Kit.i32_mask p 2147483647 (k := 31) (by decide) (by decide)
  have e2 : ((p &&& (2147483647 : Int32)) % (5 : Int32)).toInt = (p &&& (2147483647 : Int32)).toInt % (5 : Int32).toInt := Jvm.Kit.i32_rem_nonneg (by omega)
  have e3 : (5 : Int32).toInt = 5 := by decide
  rw [e3] at e2
  generalize (p &&& (2147483647 : Int32)) % (5 : Int32) = k at e2 ⊢
  have f0 : (0 : Int32).toInt = 0 := by decide
  have f1 : (1 : Int32).toInt = 1 := by decide
  have f2 : (2 : Int32).toInt = 2 := by decide
  have f3 : (3 : Int32).toInt = 3 := by decide
  have f4 : (4 : Int32).toInt = 4 := by decide
  simp only [← Int32.toInt_inj, f0, f1, f2, f3, f4]
  omega
def Q0 (Z : State) (h0 : Heap) (n0 : Nat) (v : Option Value) (h : Heap) (L : List Loc) : Prop := v = some (.int (1 : Int32)) ∧ Fr n0 L
theorem pn_0 : plainName "com/example/marcwerk/marcwerk/marc/MarcTextIsTagPinLaw" = true := by first | (simp [plainName, overriddenIn]; done) | decide +kernel
theorem ef_0 (m : MethodId) (x0 : Int32) (x1 : Int32) (x2 : Int32) (x3 : Int32) (x4 : Int32) : entryFrame m #[(.int x0), (.int x1), (.int x2), (.int x3), (.int x4)] maxLocals = mkF m 0 #[.val (.int x0), .val (.int x1), .val (.int x2), .val (.int x3), .val (.int x4), .unset, .unset, .unset, .unset, .unset, .unset, .unset, .unset, .unset] [] := by first | (simp [entryFrame, mkF, argsToLocals, Value.category, maxLocals]; done) | rfl
set_option maxRecDepth 65536 in
set_option maxHeartbeats 40000000 in
theorem rm0 (l : Launch) (Z : State) (a0 : Array Value) (hw : ∀ d ∈ tables_1, d.before a0 Z = true) (ws : List Jvm.Cond) (p1 : Int32) (p2 : Int32) (p3 : Int32) (p4 : Int32) (p5 : Int32) (G1 : Int32) (G3 : Value) (h0 : Heap) (n0 : Nat) (Z0 : n0 ≤ h0.size) (S_CS : Sta Z h0 "java/lang/String" "COMPACT_STRINGS" "Z" (.int G1)) (P5 : ¬ (G1 = (0 : Int32))) (O4 : Sta Z h0 "jdk/internal/util/Preconditions" "SIOOBE_FORMATTER" "Ljava/util/function/BiFunction;" G3) (rG3 : G3.isRef = true) (S__assertionsDisabled : Sta Z h0 "java/lang/StringUTF16" "$assertionsDisabled" "Z" (.int (1 : Int32))) (S_HI_BYTE_SHIFT : Sta Z h0 "java/lang/StringUTF16" "HI_BYTE_SHIFT" "I" (.int (0 : Int32))) (S_LO_BYTE_SHIFT : Sta Z h0 "java/lang/StringUTF16" "LO_BYTE_SHIFT" "I" (.int (8 : Int32))) (hkp : ∀ (b : Addr) (cl : Cell), Z.heap[b]? = some cl → h0[b]? = some cl) (hh : Jvm.Lit.constHeld Z "java/lang/String" 7) (hcw : Jvm.Lit.compactW.before a0 Z = true) :
    MetFree l x (head1 (Jvm.Cond.code x code maxLocals ret :: ws) room_1) (fun a U => a = #[(.int p1), (.int p2), (.int p3), (.int p4), (.int p5)] ∧ Z.Warmed39 U.vm ∧ U.heap = h0 ∧ U.vm.interned = Z.vm.interned) (fun _ _ _ _ _ => True) (fun _ U o U' => ∃ v L, o = .returned v ∧ Q0 Z h0 n0 v U'.heap L ∧ ReturnedEndW U o U' L room_1.cells room_1.slots) := by
  refine MetFree.of_bodySF (plainFor_of_name pn_0) hisR ?_
  intro p e s m args below meth c s₁ Bd hml0 hP hK
  obtain ⟨rfl, hZ, hh0, hI⟩ := hP
  have hx := Bd.exec
  have hby := Bd.bytes
  have hml : c.maxLocals = 14 := hml0
  have hown : s.vm.findClass "com/example/marcwerk/marcwerk/marc/MarcTextIsTagPinLaw" = some m.cls := findClass_of_methodNamed Bd.named
  have hnm := (name_of_methodNamed Bd.named Bd.method).1
  have X0 : Stand p l e room_1 s m #[(.int p1), (.int p2), (.int p3), (.int p4), (.int p5)] below meth c s₁ [] 0 0 := Stand.of_body Bd
  have e0 : s₁.heap = h0 := by rw [← hh0, Bd.state]; rfl
  have N0 := Fr.nil n0
  have pre0 : ∀ t, Steps p.tables e below (s₁.setTop (mkF m 0 #[.val (.int p1), .val (.int p2), .val (.int p3), .val (.int p4), .val (.int p5), .unset, .unset, .unset, .unset, .unset, .unset, .unset, .unset, .unset] [])) t → Steps p.tables e below (s₁.setTop (entryFrame m #[(.int p1), (.int p2), (.int p3), (.int p4), (.int p5)] maxLocals)) t := fun t k => castTop (ef_0 m p1 p2 p3 p4 p5) k
  obtain ⟨T1, X1, e1, st1⟩ := own_law0 p1 p2 p3 p4 p5 .unset .unset .unset .unset .unset .unset .unset .unset .unset  X0 hx hZ hw hby hml hown e0 One.u One.u One.u One.u One.u
  have q0 := own_nc (p2 &&& (65535 : Int32))
  have f0 := own_fit (p2 &&& (65535 : Int32))
  have r0 := own_rng (p2 &&& (65535 : Int32))
  have q1 := own_nc (p3 &&& (65535 : Int32))
  have f1 := own_fit (p3 &&& (65535 : Int32))
  have r1 := own_rng (p3 &&& (65535 : Int32))
  have q2 := own_nc (p4 &&& (65535 : Int32))
  have f2 := own_fit (p4 &&& (65535 : Int32))
  have r2 := own_rng (p4 &&& (65535 : Int32))
  have q3 := own_nc (p5 &&& (65535 : Int32))
  have f3 := own_fit (p5 &&& (65535 : Int32))
  have r3 := own_rng (p5 &&& (65535 : Int32))
  have hk := own_rem5 p1
  generalize ((p2 &&& (65535 : Int32)).toUInt32.toUInt16.toUInt32.toInt32) = d0 at st1 q0 f0 r0
  generalize ((p3 &&& (65535 : Int32)).toUInt32.toUInt16.toUInt32.toInt32) = d1 at st1 q1 f1 r1
  generalize ((p4 &&& (65535 : Int32)).toUInt32.toUInt16.toUInt32.toInt32) = d2 at st1 q2 f2 r2
  generalize ((p5 &&& (65535 : Int32)).toUInt32.toUInt16.toUInt32.toInt32) = d3 at st1 q3 f3 r3
  generalize ((p1 &&& (2147483647 : Int32)) % (5 : Int32)) = nn at st1 hk
  rcases hk with hk | hk | hk | hk | hk
  · obtain ⟨T2, h2, locs2, o10, ka, X2, e2, N2, K2, V2, st2⟩ := own_a0 (.val (.int p1)) (.val (.int p2)) (.val (.int p3)) (.val (.int p4)) (.val (.int p5)) nn (.val (.int d0)) (.val (.int d1)) (.val (.int d2)) (.val (.int d3)) .unset .unset .unset .unset X1 hx hZ hw hby hml hown e1 N0 Z0 One.u hk
    have Z2 := Nat.le_trans Z0 K2.1
    obtain ⟨T3, h3, locs3, o11, X3, e3, N3, K3, SL3, hS3, hZ3, hown3, st3⟩ := own_b0 (.val (.int p1)) (.val (.int p2)) (.val (.int p3)) (.val (.int p4)) (.val (.int p5)) (.val (.int nn)) (.val (.int d0)) (.val (.int d1)) (.val (.int d2)) (.val (.int d3)) o10 .unset .unset .unset ka X2 hx hZ hw hby hml hown e2 N2 Z2 V2 hI (fun b cl q => K2.2.1 b cl (hkp b cl q) (fun r => nomatch r)) hh hcw One.u
    have Z3 := Nat.le_trans Z2 K3.1
    obtain ⟨T4, h4, locs4, X4, e4, N4, K4, st4⟩ := own_c (.val (.int p1)) (.val (.int p2)) (.val (.int p3)) (.val (.int p4)) (.val (.int p5)) nn (.val (.int d0)) (.val (.int d1)) (.val (.int d2)) (.val (.int d3)) (.val (.ref o10)) o11 .unset .unset (0 : Int32) G1 X3 hx hZ3 hw hby hml hown3 e3 N3 Z3 SL3 ((S_CS.ext (own_ext K2)).ext (own_ext K3)) P5 (by decide) One.u One.u (by rw [hk]; decide) rfl
    have hsz : T3.heap.size ≤ T4.heap.size := by rw [e3, e4]; exact K4.1
    obtain ⟨fs, hr, hrun, hended, hRE⟩ := X4.leaveW hS3 hsz (v := some (.int (1 : Int32))) (fun h => by rw [Bd.returns] at h; cases h) (BodyLoose.notSynchronized Bd)
    refine ⟨_, _, pre0 _ ?_, hrun, hended, _, _, rfl, ⟨rfl, N4⟩, ⟨hRE.1, hRE.2.1, hRE.2.2.1, hRE.2.2.2.mono (by decide) (by decide)⟩⟩
    refine st1 _ ?_
    refine st2 _ ?_
    refine st3 _ ?_
    refine st4 _ ?_
    refine XS.iconst X4.here hx rfl (hb hby at_209) ?_
    refine XS.goto X4.here hx rfl (pc0 := 210) (pc' := 214) rfl (hb hby at_210) (by decide) (by decide) ?_
    show Steps p.tables e below (T4.setTop (mkF m 214 _ [(.int (1 : Int32))])) _
    exact retN X4 hx (t := .boolean) Bd.returns (by simp) (hb hby at_214) hr
  · obtain ⟨T2, h2, locs2, o10, ka, X2, e2, N2, K2, V2, st2⟩ := own_a1 (.val (.int p1)) (.val (.int p2)) (.val (.int p3)) (.val (.int p4)) (.val (.int p5)) nn d0 (.val (.int d1)) (.val (.int d2)) (.val (.int d3)) .unset .unset .unset .unset X1 hx hZ hw hby hml hown e1 N0 Z0 q0 One.u (by rw [hk]; decide) hk
    have Z2 := Nat.le_trans Z0 K2.1
    obtain ⟨T3, h3, locs3, o11, X3, e3, N3, K3, SL3, st3⟩ := own_b1 (.val (.int p1)) (.val (.int p2)) (.val (.int p3)) (.val (.int p4)) (.val (.int p5)) (.val (.int nn)) (.val (.int d0)) (.val (.int d1)) (.val (.int d2)) (.val (.int d3)) o10 .unset .unset .unset G1 ka d0 X2 hx hZ hw hby hml hown e2 N2 Z2 V2 (S_CS.ext (own_ext K2)) P5 (S__assertionsDisabled.ext (own_ext K2)) (S_HI_BYTE_SHIFT.ext (own_ext K2)) (S_LO_BYTE_SHIFT.ext (own_ext K2)) f0 One.u
    have Z3 := Nat.le_trans Z2 K3.1
    obtain ⟨T4, h4, locs4, X4, e4, N4, K4, st4⟩ := own_c (.val (.int p1)) (.val (.int p2)) (.val (.int p3)) (.val (.int p4)) (.val (.int p5)) nn (.val (.int d0)) (.val (.int d1)) (.val (.int d2)) (.val (.int d3)) (.val (.ref o10)) o11 .unset .unset (1 : Int32) G1 X3 hx hZ hw hby hml hown e3 N3 Z3 SL3 ((S_CS.ext (own_ext K2)).ext (own_ext K3)) P5 (by decide) One.u One.u (by rw [hk]; decide) rfl
    obtain ⟨fs, hr, hrun, hended, hW, hsame⟩ := X4.leave (v := some (.int (1 : Int32))) (fun h => by rw [Bd.returns] at h; cases h) (BodyLoose.notSynchronized Bd)
    refine ⟨_, _, pre0 _ ?_, hrun, hended, _, _, rfl, ⟨rfl, N4⟩, ReturnedEndW.of_narrow ⟨_, rfl⟩ hW (hsame.mono (by decide) (by decide))⟩
    refine st1 _ ?_
    refine st2 _ ?_
    refine st3 _ ?_
    refine st4 _ ?_
    refine XS.iconst X4.here hx rfl (hb hby at_209) ?_
    refine XS.goto X4.here hx rfl (pc0 := 210) (pc' := 214) rfl (hb hby at_210) (by decide) (by decide) ?_
    show Steps p.tables e below (T4.setTop (mkF m 214 _ [(.int (1 : Int32))])) _
    exact retN X4 hx (t := .boolean) Bd.returns (by simp) (hb hby at_214) hr
  · obtain ⟨T2, h2, locs2, o10, ka, X2, e2, N2, K2, V2, st2⟩ := own_a2 (.val (.int p1)) (.val (.int p2)) (.val (.int p3)) (.val (.int p4)) (.val (.int p5)) nn d0 d1 (.val (.int d2)) (.val (.int d3)) .unset .unset .unset .unset X1 hx hZ hw hby hml hown e1 N0 Z0 q0 q1 One.u (by rw [hk]; decide) (by rw [hk]; decide) hk
    have Z2 := Nat.le_trans Z0 K2.1
    obtain ⟨T3, h3, locs3, o11, X3, e3, N3, K3, SL3, st3⟩ := own_b2 (.val (.int p1)) (.val (.int p2)) (.val (.int p3)) (.val (.int p4)) (.val (.int p5)) (.val (.int nn)) (.val (.int d0)) (.val (.int d1)) (.val (.int d2)) (.val (.int d3)) o10 .unset .unset .unset G1 ka d0 d1 X2 hx hZ hw hby hml hown e2 N2 Z2 V2 (S_CS.ext (own_ext K2)) P5 (S__assertionsDisabled.ext (own_ext K2)) (S_HI_BYTE_SHIFT.ext (own_ext K2)) (S_LO_BYTE_SHIFT.ext (own_ext K2)) f0 f1 One.u
    have Z3 := Nat.le_trans Z2 K3.1
    obtain ⟨T4, h4, locs4, X4, e4, N4, K4, st4⟩ := own_c (.val (.int p1)) (.val (.int p2)) (.val (.int p3)) (.val (.int p4)) (.val (.int p5)) nn (.val (.int d0)) (.val (.int d1)) (.val (.int d2)) (.val (.int d3)) (.val (.ref o10)) o11 .unset .unset (2 : Int32) G1 X3 hx hZ hw hby hml hown e3 N3 Z3 SL3 ((S_CS.ext (own_ext K2)).ext (own_ext K3)) P5 (by decide) One.u One.u (by rw [hk]; decide) rfl
    obtain ⟨fs, hr, hrun, hended, hW, hsame⟩ := X4.leave (v := some (.int (1 : Int32))) (fun h => by rw [Bd.returns] at h; cases h) (BodyLoose.notSynchronized Bd)
    refine ⟨_, _, pre0 _ ?_, hrun, hended, _, _, rfl, ⟨rfl, N4⟩, ReturnedEndW.of_narrow ⟨_, rfl⟩ hW (hsame.mono (by decide) (by decide))⟩
    refine st1 _ ?_
    refine st2 _ ?_
    refine st3 _ ?_
    refine st4 _ ?_
    refine XS.iconst X4.here hx rfl (hb hby at_209) ?_
    refine XS.goto X4.here hx rfl (pc0 := 210) (pc' := 214) rfl (hb hby at_210) (by decide) (by decide) ?_
    show Steps p.tables e below (T4.setTop (mkF m 214 _ [(.int (1 : Int32))])) _
    exact retN X4 hx (t := .boolean) Bd.returns (by simp) (hb hby at_214) hr
  · obtain ⟨T2, h2, locs2, o10, ka, X2, e2, N2, K2, V2, st2⟩ := own_a3 (.val (.int p1)) (.val (.int p2)) (.val (.int p3)) (.val (.int p4)) (.val (.int p5)) nn d0 d1 d2 (.val (.int d3)) .unset .unset .unset .unset X1 hx hZ hw hby hml hown e1 N0 Z0 q0 q1 q2 One.u (by rw [hk]; decide) (by rw [hk]; decide) (by rw [hk]; decide) hk
    have Z2 := Nat.le_trans Z0 K2.1
    obtain ⟨T3, h3, locs3, o11, X3, e3, N3, K3, SL3, S33, st3⟩ := own_b3 (.val (.int p1)) (.val (.int p2)) (.val (.int p3)) (.val (.int p4)) (.val (.int p5)) (.val (.int nn)) (.val (.int d0)) (.val (.int d1)) (.val (.int d2)) (.val (.int d3)) o10 .unset .unset .unset G1 ka d0 d1 d2 X2 hx hZ hw hby hml hown e2 N2 Z2 V2 (S_CS.ext (own_ext K2)) P5 (S__assertionsDisabled.ext (own_ext K2)) (S_HI_BYTE_SHIFT.ext (own_ext K2)) (S_LO_BYTE_SHIFT.ext (own_ext K2)) f0 f1 f2 One.u
    have Z3 := Nat.le_trans Z2 K3.1
    have g0 := own_same d0 r0.1 r0.2
    have g1 := own_same d1 r1.1 r1.2
    have g2 := own_same d2 r2.1 r2.2
    by_cases w0 : own_f10 d0 = 0
    · obtain ⟨T4, h4, locs4, x12, x13, X4, e4, N4, -, st4⟩ := own_dft (.val (.int p1)) (.val (.int p2)) (.val (.int p3)) (.val (.int p4)) (.val (.int p5)) nn d0 (.val (.int d1)) (.val (.int d2)) (.val (.int d3)) (.val (.ref o10)) o11 .unset .unset d1 d2 G1 G3 X3 hx hZ hw hby hml hown e3 N3 Z3 S33 ((S_CS.ext (own_ext K2)).ext (own_ext K3)) P5 ((O4.ext (own_ext K2)).ext (own_ext K3)) rG3 ((S__assertionsDisabled.ext (own_ext K2)).ext (own_ext K3)) ((S_HI_BYTE_SHIFT.ext (own_ext K2)).ext (own_ext K3)) ((S_LO_BYTE_SHIFT.ext (own_ext K2)).ext (own_ext K3)) One.u One.u hk w0 (by unfold own_tag; rw [← g0, if_pos w0])
      obtain ⟨fs, hr, hrun, hended, hW, hsame⟩ := X4.leave (v := some (.int (1 : Int32))) (fun h => by rw [Bd.returns] at h; cases h) (BodyLoose.notSynchronized Bd)
      refine ⟨_, _, pre0 _ ?_, hrun, hended, _, _, rfl, ⟨rfl, N4⟩, ReturnedEndW.of_narrow ⟨_, rfl⟩ hW (hsame.mono (by decide) (by decide))⟩
      refine st1 _ ?_
      refine st2 _ ?_
      refine st3 _ ?_
      refine st4 _ ?_
      refine XS.iconst X4.here hx rfl (hb hby at_209) ?_
      refine XS.goto X4.here hx rfl (pc0 := 210) (pc' := 214) rfl (hb hby at_210) (by decide) (by decide) ?_
      show Steps p.tables e below (T4.setTop (mkF m 214 _ [(.int (1 : Int32))])) _
      exact retN X4 hx (t := .boolean) Bd.returns (by simp) (hb hby at_214) hr
    · by_cases w1 : own_f10 d1 = 0
      · obtain ⟨T4, h4, locs4, x12, x13, X4, e4, N4, -, st4⟩ := own_dfft (.val (.int p1)) (.val (.int p2)) (.val (.int p3)) (.val (.int p4)) (.val (.int p5)) nn d0 d1 (.val (.int d2)) (.val (.int d3)) (.val (.ref o10)) o11 .unset .unset d2 G1 G3 X3 hx hZ hw hby hml hown e3 N3 Z3 S33 ((S_CS.ext (own_ext K2)).ext (own_ext K3)) P5 ((O4.ext (own_ext K2)).ext (own_ext K3)) rG3 ((S__assertionsDisabled.ext (own_ext K2)).ext (own_ext K3)) ((S_HI_BYTE_SHIFT.ext (own_ext K2)).ext (own_ext K3)) ((S_LO_BYTE_SHIFT.ext (own_ext K2)).ext (own_ext K3)) One.u One.u hk w0 w1 (by unfold own_tag; rw [← g0, ← g1, if_neg w0, if_pos w1])
        obtain ⟨fs, hr, hrun, hended, hW, hsame⟩ := X4.leave (v := some (.int (1 : Int32))) (fun h => by rw [Bd.returns] at h; cases h) (BodyLoose.notSynchronized Bd)
        refine ⟨_, _, pre0 _ ?_, hrun, hended, _, _, rfl, ⟨rfl, N4⟩, ReturnedEndW.of_narrow ⟨_, rfl⟩ hW (hsame.mono (by decide) (by decide))⟩
        refine st1 _ ?_
        refine st2 _ ?_
        refine st3 _ ?_
        refine st4 _ ?_
        refine XS.iconst X4.here hx rfl (hb hby at_209) ?_
        refine XS.goto X4.here hx rfl (pc0 := 210) (pc' := 214) rfl (hb hby at_210) (by decide) (by decide) ?_
        show Steps p.tables e below (T4.setTop (mkF m 214 _ [(.int (1 : Int32))])) _
        exact retN X4 hx (t := .boolean) Bd.returns (by simp) (hb hby at_214) hr
      · by_cases w2 : own_f10 d2 = 0
        · obtain ⟨T4, h4, locs4, x12, x13, X4, e4, N4, -, st4⟩ := own_dffft (.val (.int p1)) (.val (.int p2)) (.val (.int p3)) (.val (.int p4)) (.val (.int p5)) nn d0 d1 d2 (.val (.int d3)) (.val (.ref o10)) o11 .unset .unset G1 G3 X3 hx hZ hw hby hml hown e3 N3 Z3 S33 ((S_CS.ext (own_ext K2)).ext (own_ext K3)) P5 ((O4.ext (own_ext K2)).ext (own_ext K3)) rG3 ((S__assertionsDisabled.ext (own_ext K2)).ext (own_ext K3)) ((S_HI_BYTE_SHIFT.ext (own_ext K2)).ext (own_ext K3)) ((S_LO_BYTE_SHIFT.ext (own_ext K2)).ext (own_ext K3)) One.u One.u hk w0 w1 w2 (by unfold own_tag; rw [← g0, ← g1, ← g2, if_neg w0, if_neg w1, if_pos w2])
          obtain ⟨fs, hr, hrun, hended, hW, hsame⟩ := X4.leave (v := some (.int (1 : Int32))) (fun h => by rw [Bd.returns] at h; cases h) (BodyLoose.notSynchronized Bd)
          refine ⟨_, _, pre0 _ ?_, hrun, hended, _, _, rfl, ⟨rfl, N4⟩, ReturnedEndW.of_narrow ⟨_, rfl⟩ hW (hsame.mono (by decide) (by decide))⟩
          refine st1 _ ?_
          refine st2 _ ?_
          refine st3 _ ?_
          refine st4 _ ?_
          refine XS.iconst X4.here hx rfl (hb hby at_209) ?_
          refine XS.goto X4.here hx rfl (pc0 := 210) (pc' := 214) rfl (hb hby at_210) (by decide) (by decide) ?_
          show Steps p.tables e below (T4.setTop (mkF m 214 _ [(.int (1 : Int32))])) _
          exact retN X4 hx (t := .boolean) Bd.returns (by simp) (hb hby at_214) hr
        · obtain ⟨T4, h4, locs4, x12, x13, X4, e4, N4, -, st4⟩ := own_dffff (.val (.int p1)) (.val (.int p2)) (.val (.int p3)) (.val (.int p4)) (.val (.int p5)) nn d0 d1 d2 (.val (.int d3)) (.val (.ref o10)) o11 .unset .unset G1 G3 X3 hx hZ hw hby hml hown e3 N3 Z3 S33 ((S_CS.ext (own_ext K2)).ext (own_ext K3)) P5 ((O4.ext (own_ext K2)).ext (own_ext K3)) rG3 ((S__assertionsDisabled.ext (own_ext K2)).ext (own_ext K3)) ((S_HI_BYTE_SHIFT.ext (own_ext K2)).ext (own_ext K3)) ((S_LO_BYTE_SHIFT.ext (own_ext K2)).ext (own_ext K3)) One.u One.u hk w0 w1 w2 (by unfold own_tag; rw [← g0, ← g1, ← g2, if_neg w0, if_neg w1, if_neg w2])
          obtain ⟨fs, hr, hrun, hended, hW, hsame⟩ := X4.leave (v := some (.int (1 : Int32))) (fun h => by rw [Bd.returns] at h; cases h) (BodyLoose.notSynchronized Bd)
          refine ⟨_, _, pre0 _ ?_, hrun, hended, _, _, rfl, ⟨rfl, N4⟩, ReturnedEndW.of_narrow ⟨_, rfl⟩ hW (hsame.mono (by decide) (by decide))⟩
          refine st1 _ ?_
          refine st2 _ ?_
          refine st3 _ ?_
          refine st4 _ ?_
          refine XS.iconst X4.here hx rfl (hb hby at_209) ?_
          refine XS.goto X4.here hx rfl (pc0 := 210) (pc' := 214) rfl (hb hby at_210) (by decide) (by decide) ?_
          show Steps p.tables e below (T4.setTop (mkF m 214 _ [(.int (1 : Int32))])) _
          exact retN X4 hx (t := .boolean) Bd.returns (by simp) (hb hby at_214) hr
  · obtain ⟨T2, h2, locs2, o10, ka, X2, e2, N2, K2, V2, st2⟩ := own_a4 (.val (.int p1)) (.val (.int p2)) (.val (.int p3)) (.val (.int p4)) (.val (.int p5)) nn d0 d1 d2 d3 .unset .unset .unset .unset X1 hx hZ hw hby hml hown e1 N0 Z0 q0 q1 q2 q3 One.u (by rw [hk]; decide) (by rw [hk]; decide) (by rw [hk]; decide) (by rw [hk]; decide)
    have Z2 := Nat.le_trans Z0 K2.1
    obtain ⟨T3, h3, locs3, o11, X3, e3, N3, K3, SL3, st3⟩ := own_b4 (.val (.int p1)) (.val (.int p2)) (.val (.int p3)) (.val (.int p4)) (.val (.int p5)) (.val (.int nn)) (.val (.int d0)) (.val (.int d1)) (.val (.int d2)) (.val (.int d3)) o10 .unset .unset .unset G1 ka d0 d1 d2 d3 X2 hx hZ hw hby hml hown e2 N2 Z2 V2 (S_CS.ext (own_ext K2)) P5 (S__assertionsDisabled.ext (own_ext K2)) (S_HI_BYTE_SHIFT.ext (own_ext K2)) (S_LO_BYTE_SHIFT.ext (own_ext K2)) f0 f1 f2 f3 One.u
    have Z3 := Nat.le_trans Z2 K3.1
    obtain ⟨T4, h4, locs4, X4, e4, N4, K4, st4⟩ := own_c (.val (.int p1)) (.val (.int p2)) (.val (.int p3)) (.val (.int p4)) (.val (.int p5)) nn (.val (.int d0)) (.val (.int d1)) (.val (.int d2)) (.val (.int d3)) (.val (.ref o10)) o11 .unset .unset (4 : Int32) G1 X3 hx hZ hw hby hml hown e3 N3 Z3 SL3 ((S_CS.ext (own_ext K2)).ext (own_ext K3)) P5 (by decide) One.u One.u (by rw [hk]; decide) rfl
    obtain ⟨fs, hr, hrun, hended, hW, hsame⟩ := X4.leave (v := some (.int (1 : Int32))) (fun h => by rw [Bd.returns] at h; cases h) (BodyLoose.notSynchronized Bd)
    refine ⟨_, _, pre0 _ ?_, hrun, hended, _, _, rfl, ⟨rfl, N4⟩, ReturnedEndW.of_narrow ⟨_, rfl⟩ hW (hsame.mono (by decide) (by decide))⟩
    refine st1 _ ?_
    refine st2 _ ?_
    refine st3 _ ?_
    refine st4 _ ?_
    refine XS.iconst X4.here hx rfl (hb hby at_209) ?_
    refine XS.goto X4.here hx rfl (pc0 := 210) (pc' := 214) rfl (hb hby at_210) (by decide) (by decide) ?_
    show Steps p.tables e below (T4.setTop (mkF m 214 _ [(.int (1 : Int32))])) _
    exact retN X4 hx (t := .boolean) Bd.returns (by simp) (hb hby at_214) hr
theorem own_eqint {args : Array Value} {s : State} {a : Term} {idx : List Nat} {y : Int32} (h : (Cond.eq a (.int y)).value args s none s idx = some true) : a.eval args s none idx s = some (.int y) := by
  have hu : (Term.int y).eval args s none idx s = some (.int y) := rfl
  cases hv : a.eval args s none idx s with
  | none => simp [Cond.value, hv] at h
  | some v => cases v <;> simp [Cond.value, hv, hu] at h ⊢ <;> first | exact h | (subst h; rfl)
set_option maxRecDepth 65536 in
set_option maxHeartbeats 40000000 in
theorem comes_1 {Post : Tables → Env → Array Value → State → Outcome → State → Prop} (hpost : ∀ tb e args s v u, (limb_1_1.after args s (.returned v) u = true ∧ limb_1_2.after args s (.returned v) u = true ∧ True) → ReturnedEndW s (.returned v) u (Jvm.fieldLocs frame_1_writes args s ++ Jvm.arrayLocs frame_1_arrays args s ++ Jvm.staticLocs frame_1_statics s) 24 1152 → Post tb e args s (.returned v) u) :
    ArmFor flags0 classFile x code maxLocals ret World_1 tables_1 room_1 Calls_1 rest_1 Pre_1 Post := by
  intro l hfl _ _ p e ha hc hk s m args below hf hA hF happ hP
  obtain ⟨hcalls, hrest, hpre⟩ := hP
  obtain ⟨-, -, -, hnamed, -, -, -, hat⟩ := (Spec.applies_iff hf).mp happ
  obtain ⟨hg, hn⟩ := and_e (Cond.before_iff.mp (show (Jvm.Cond.and given_1 narrow_1).before args s = true from hpre))
  obtain ⟨g10, g11⟩ := and_e hg
  obtain ⟨g12, g13⟩ := and_e g11
  obtain ⟨g14, g15⟩ := and_e g13
  obtain ⟨g16, g17⟩ := and_e g15
  obtain ⟨g18, g19⟩ := and_e g17
  obtain ⟨w0, w1, w2, w3, w4, rfl⟩ : ∃ w0 w1 w2 w3 w4 : Value, args = #[w0, w1, w2, w3, w4] := by
    have hs : args.size = 5 := by simpa [Cond.value, given_1] using g10
    obtain ⟨L⟩ := args
    match L, hs with
    | [w0, w1, w2, w3, w4], _ => exact ⟨w0, w1, w2, w3, w4, rfl⟩
  have hw := fun d (hd : d ∈ tables_1) => atoms_spec (ws := Jvm.Cond.code x code maxLocals ret :: tables_1) hat d (List.mem_cons_of_mem _ hd)
  have hfit : Fit s := fun {y c} hc i hi => by
    obtain ⟨ha, rfl⟩ := Array.getElem?_eq_some_iff.mp hc
    have q := List.all_eq_true.mp ((Array.all_eq_true_iff_forall_mem.mp hF) _ (Array.getElem_mem ha)) i (List.mem_range.mpr hi)
    simpa [Array.getElem?_eq_getElem hi] using q
  obtain ⟨hsets, hown0⟩ := atoms_of _ (rest_1_c_eq ▸ (show rest_1_c.before _ s = true from hrest))
  have hr0 := Cond.before_iff.mp hown0
  obtain ⟨i0, ei0⟩ := is_v g12
  obtain rfl : w0 = (.int i0) := Option.some.inj ei0
  obtain ⟨i1, ei1⟩ := is_v g14
  obtain rfl : w1 = (.int i1) := Option.some.inj ei1
  obtain ⟨i2, ei2⟩ := is_v g16
  obtain rfl : w2 = (.int i2) := Option.some.inj ei2
  obtain ⟨i3, ei3⟩ := is_v g18
  obtain rfl : w3 = (.int i3) := Option.some.inj ei3
  obtain ⟨i4, ei4⟩ := is_v g19
  obtain rfl : w4 = (.int i4) := Option.some.inj ei4
  have n3 := not_v (Cond.before_iff.mp (hsets _ (List.mem_of_getElem? (i := 2) rfl)))
  obtain ⟨G1, eG⟩ := is_v (Cond.before_iff.mp (hsets _ (List.mem_of_getElem? (i := 1) rfl)))
  have S_CS := Sta.start eG (Or.inl (hsets _ (List.mem_of_getElem? (i := 0) rfl)))
  have P5 : ¬ (G1 = (0 : Int32)) := gotF (Cond.eq_ints eG (Term.int_eval (0))) n3
  obtain ⟨G3, e3G, rG3⟩ := isR_v (Cond.before_iff.mp (hsets _ (List.mem_of_getElem? (i := 8) rfl)))
  have O4 := Sta.start e3G (Or.inl (hsets _ (List.mem_of_getElem? (i := 7) rfl)))
  have S__assertionsDisabled := Sta.start (own_eqint (Cond.before_iff.mp (hsets _ (List.mem_of_getElem? (i := 12) rfl)))) (Or.inl (hsets _ (List.mem_of_getElem? (i := 11) rfl)))
  have S_HI_BYTE_SHIFT := Sta.start (own_eqint (Cond.before_iff.mp (hsets _ (List.mem_of_getElem? (i := 15) rfl)))) (Or.inl (hsets _ (List.mem_of_getElem? (i := 14) rfl)))
  have S_LO_BYTE_SHIFT := Sta.start (own_eqint (Cond.before_iff.mp (hsets _ (List.mem_of_getElem? (i := 18) rfl)))) (Or.inl (hsets _ (List.mem_of_getElem? (i := 17) rfl)))
  have hh : Jvm.Lit.constHeld s "java/lang/String" 7 := hcalls.1 ("java/lang/String", 7) (by simp [consts_1])
  have hcw : Jvm.Lit.compactW.before _ s = true := hsets _ (List.mem_of_getElem? (i := 2) rfl)
  obtain ⟨n, o, h1, h2, h3, _, L, rfl, ⟨rfl, N⟩, hq⟩ := rm0 l s _ hw tables_1 i0 i1 i2 i3 i4 G1 G3 s.heap s.heap.size (Nat.le_refl _) S_CS P5 O4 rG3 S__assertionsDisabled S_HI_BYTE_SHIFT S_LO_BYTE_SHIFT (fun b cl q => q) hh hcw p e ha hc hk s m _ below hf ((Spec.applies_iff_loose hf).mp happ).1 ⟨rfl, State.Warmed39.refl s, rfl, rfl⟩ trivial
  refine ⟨n, _, h1, h2, h3, hpost _ _ _ _ _ _ ⟨Cond.after_iff.mpr rfl, Cond.after_iff.mpr (eq_i res_at (Term.int_eval (1)) rfl), trivial⟩ ⟨hq.1, hq.2.1, hq.2.2.1, (hq.2.2.2.sift fun y hy => Or.inr (N y hy)).mono (by decide) (by decide)⟩⟩
theorem main_1_1 : Claimed_1_1 := comes_1 fun _ _ _ _ _ _ h hF => ⟨h.1, hF⟩
theorem main_1_2 : Claimed_1_2 := comes_1 fun _ _ _ _ _ _ h hF => ⟨h.2.1, hF⟩
end Jvm.Pilot.@@N@@
namespace Jvm.Pilot.@@N@@
open Jvm Jvm.ClassFile Sem Op Lib Jvm.Free Jvm.Stand Jvm.Pilot.@@N@@.Jvm.D
/-! MADE BY PROGRAM (witnessworld.py) out of the Statement's table words and the real class files: 20 classes; the members and pool entries that the words name. The judged class is class 1, her method 2. -/
namespace start1
open Jvm.ClassFile
def u (s : String) : CpInfo := .utf8 (stringToUtf16 s)
/-- a pool by its gaps: so many unusable entries, then the entry; so many at the end -/
def gap : Nat → List CpInfo → List CpInfo
  | 0, r => r
  | n + 1, r => .unusable :: gap n r
def poolList (es : List (Nat × CpInfo)) (last : Nat) : List CpInfo := es.foldr (fun e r => gap e.1 (e.2 :: r)) (gap last [])
def pool (es : List (Nat × CpInfo)) (last : Nat) : Array CpInfo := ⟨poolList es last⟩
def fileOf (pool : Array CpInfo) (this : Nat) (attrs : Array Attribute := #[]) (ms : Array MethodInfo := #[]) (fl : Nat := 33) (sup : Nat := 0) (ifs : Array Nat := #[]) (fds : Array FieldInfo := #[]) : ClassFile where
  minorVersion := 0
  majorVersion := 65
  constantPool := pool
  accessFlags := fl
  thisClass := this
  superClass := sup
  interfaces := ifs
  fields := fds
  methods := ms
  attributes := attrs
def plain (name : String) (sup : Option ClassId) : Class where
  name := name
  kind := .ordinary
  loader := none
  accessFlags := 33
  super := sup
  interfaces := #[]
  cf := none
  fields := #[]
  methods := #[]
  instanceTypes := #[]
  staticTypes := #[]
  resolved := #[]
  callSites := []
  init := .initialized
  statics := none
  mirror := none

def pool0 : Array CpInfo := pool [(5, u "<init>"), (0, u "()V"), (1, .class_ 10), (1, u "java/lang/Object")] 113

def k0c0 : Code := { maxStack := 0, maxLocals := 1, code := object_method_1_code, exceptionTable := #[], attributes := #[] }
def k0m0 : Method := { name := "<init>", desc := "()V", sig := { parameters := [], returnType := none }, accessFlags := 1, code := some k0c0 }
/-- java/lang/Object -/
def k0 : Class := { plain "java/lang/Object" none with
  accessFlags := 33
  interfaces := #[]
  cf := some (fileOf pool0 8 #[] #[{ accessFlags := 1, nameIndex := 5, descriptorIndex := 6, attributes := #[] }] 33 0 #[] #[])
  fields := #[]
  methods := #[k0m0]
  instanceTypes := #[]
  staticTypes := #[]
  resolved := Array.replicate 124 none
  statics := none }

def pool1 : Array CpInfo := pool [(2, .class_ 4), (1, u "java/lang/Object"), (0, u "<init>"), (0, u "()V"), (0, .integer 2147483647), (0, .integer 65535), (0, .class_ 10), (0, u "java/lang/String"), (0, .methodref 9 12), (0, .nameAndType 5 13), (0, u "([C)V"), (0, .methodref 15 16), (0, .class_ 17), (0, .nameAndType 18 19), (0, u "com/example/marcwerk/marcwerk/marc/MarcTextIsTagPinLaw"), (0, u "refTagChar"), (0, u "(C)Z"), (0, .methodref 21 22), (0, .class_ 23), (0, .nameAndType 24 25), (0, u "com/example/marcwerk/marcwerk/marc/MarcText"), (0, u "isTag"), (0, u "(Ljava/lang/String;)Z"), (3, u "law"), (0, u "(IIIII)Z")] 4

def k1m0 : Method := { name := "<init>", desc := "()V", sig := { parameters := [], returnType := none }, accessFlags := 2, code := none }
def k1c1 : Code := { maxStack := 2, maxLocals := 3, code := method_2_code, exceptionTable := #[], attributes := #[] }
def k1m1 : Method := { name := "refTagChar", desc := "(C)Z", sig := { parameters := [.char], returnType := some .boolean }, accessFlags := 10, code := some k1c1 }
def k1c2 : Code := { maxStack := 4, maxLocals := 14, code := code, exceptionTable := #[], attributes := #[] }
def k1m2 : Method := { name := "law", desc := "(IIIII)Z", sig := { parameters := [.int, .int, .int, .int, .int], returnType := some .boolean }, accessFlags := 9, code := some k1c2 }
/-- com/example/marcwerk/marcwerk/marc/MarcTextIsTagPinLaw -/
def k1 : Class := { plain "com/example/marcwerk/marcwerk/marc/MarcTextIsTagPinLaw" (some 0) with
  accessFlags := 49
  interfaces := #[]
  cf := some (fileOf pool1 15 #[] #[{ accessFlags := 2, nameIndex := 5, descriptorIndex := 6, attributes := #[] }, { accessFlags := 10, nameIndex := 18, descriptorIndex := 19, attributes := #[] }, { accessFlags := 9, nameIndex := 29, descriptorIndex := 30, attributes := #[] }] 49 2 #[] #[])
  fields := #[]
  methods := #[k1m0, k1m1, k1m2]
  instanceTypes := #[]
  staticTypes := #[]
  resolved := Array.replicate 35 none
  statics := none }

def pool2 : Array CpInfo := pool [(1, .class_ 2), (0, u "java/io/Serializable"), (0, .class_ 4), (0, u "java/lang/Object")] 2

/-- java/io/Serializable -/
def k2 : Class := { plain "java/io/Serializable" (some 0) with
  accessFlags := 1537
  interfaces := #[]
  cf := some (fileOf pool2 1 #[] #[] 1537 3 #[] #[])
  fields := #[]
  methods := #[]
  instanceTypes := #[]
  staticTypes := #[]
  resolved := Array.replicate 7 none
  statics := none }

def pool3 : Array CpInfo := pool [(1, .class_ 2), (0, u "java/lang/Comparable"), (0, .class_ 4), (0, u "java/lang/Object")] 7

/-- java/lang/Comparable -/
def k3 : Class := { plain "java/lang/Comparable" (some 0) with
  accessFlags := 1537
  interfaces := #[]
  cf := some (fileOf pool3 1 #[] #[] 1537 3 #[] #[])
  fields := #[]
  methods := #[]
  instanceTypes := #[]
  staticTypes := #[]
  resolved := Array.replicate 12 none
  statics := none }

def pool4 : Array CpInfo := pool [(2, .class_ 4), (1, u "java/lang/CharSequence"), (42, .class_ 48), (0, u "java/lang/CharSequence$1CodePointIterator"), (10, .class_ 60), (0, u "java/lang/CharSequence$1CharIterator"), (5, .class_ 67), (0, u "java/lang/Object")] 63

/-- java/lang/CharSequence -/
def k4 : Class := { plain "java/lang/CharSequence" (some 0) with
  accessFlags := 1537
  interfaces := #[]
  cf := some (fileOf pool4 2 #[.nestMembers #[47, 59]] #[] 1537 66 #[] #[])
  fields := #[]
  methods := #[]
  instanceTypes := #[]
  staticTypes := #[]
  resolved := Array.replicate 131 none
  statics := none }

def pool5 : Array CpInfo := pool [(1, .class_ 2), (0, u "java/lang/constant/Constable"), (0, .class_ 4), (0, u "java/lang/Object")] 6

/-- java/lang/constant/Constable -/
def k5 : Class := { plain "java/lang/constant/Constable" (some 0) with
  accessFlags := 1537
  interfaces := #[]
  cf := some (fileOf pool5 1 #[] #[] 1537 3 #[] #[])
  fields := #[]
  methods := #[]
  instanceTypes := #[]
  staticTypes := #[]
  resolved := Array.replicate 11 none
  statics := none }

def pool6 : Array CpInfo := pool [(1, .class_ 2), (0, u "java/lang/constant/ConstantDesc"), (0, .class_ 4), (0, u "java/lang/Object")] 32

/-- java/lang/constant/ConstantDesc -/
def k6 : Class := { plain "java/lang/constant/ConstantDesc" (some 0) with
  accessFlags := 1537
  interfaces := #[]
  cf := some (fileOf pool6 1 #[] #[] 1537 3 #[] #[])
  fields := #[]
  methods := #[]
  instanceTypes := #[]
  staticTypes := #[]
  resolved := Array.replicate 37 none
  statics := none }

def pool7 : Array CpInfo := pool [(1, .methodref 2 3), (0, .class_ 4), (0, .nameAndType 5 6), (0, u "java/lang/Object"), (0, u "<init>"), (0, u "()V"), (0, .string 8), (0, u ""), (0, .fieldref 10 11), (0, .class_ 12), (0, .nameAndType 13 14), (0, u "java/lang/String"), (0, u "value"), (0, u "[B"), (0, .fieldref 10 16), (0, .nameAndType 17 18), (0, u "coder"), (0, u "B"), (2, u "hash"), (0, u "I"), (2, u "hashIsZero"), (0, u "Z"), (0, .methodref 10 28), (0, .nameAndType 5 29), (0, u "([CIILjava/lang/Void;)V"), (8, .fieldref 10 39), (0, .nameAndType 40 26), (0, u "COMPACT_STRINGS"), (1, .class_ 44), (1, u "java/lang/StringUTF16"), (0, u "compress"), (1, .methodref 42 48), (0, .nameAndType 49 50), (0, u "coderFromArrayLen"), (0, u "([BI)B"), (56, .class_ 109), (1, u "java/lang/StringLatin1"), (32, u "()Z"), (34, .methodref 42 178), (0, .nameAndType 45 179), (0, u "([CII)[B"), (154, u "()I"), (0, .methodref 10 336), (0, .nameAndType 17 337), (0, u "()B"), (25, u "([BI)C"), (27, u "(II)V"), (35, u "(I)C"), (64, .methodref 10 493), (0, .nameAndType 494 142), (0, u "isLatin1"), (0, .methodref 107 496), (0, .nameAndType 497 363), (0, u "charAt"), (0, .methodref 42 496), (2, u "checkIndex"), (5, u "length"), (67, .class_ 576), (0, u "java/lang/CharSequence"), (22, u "CASE_INSENSITIVE_ORDER"), (0, u "Ljava/util/Comparator;"), (409, u "([C)V"), (42, .fieldref 1054 1055), (0, .class_ 1056), (0, .nameAndType 1057 1058), (0, u "jdk/internal/util/Preconditions"), (0, u "SIOOBE_FORMATTER"), (0, u "Ljava/util/function/BiFunction;"), (0, .methodref 1054 1060), (0, .nameAndType 501 1061), (0, u "(IILjava/util/function/BiFunction;)I"), (39, u "serialPersistentFields"), (0, u "[Ljava/io/ObjectStreamField;"), (0, .class_ 1104), (0, u "java/lang/String$CaseInsensitiveComparator"), (1, .class_ 1107), (0, u "java/io/Serializable"), (0, .class_ 1109), (0, u "java/lang/Comparable"), (0, .class_ 1111), (0, u "java/lang/constant/Constable"), (0, .class_ 1113), (0, u "java/lang/constant/ConstantDesc"), (2, u "serialVersionUID"), (0, u "J"), (3, u "REPL"), (0, u "C"), (2, u "LATIN1"), (1, u "UTF16")] 323

def k7m0 : Method := { name := "<init>", desc := "()V", sig := { parameters := [], returnType := none }, accessFlags := 1, code := none }
def k7c1 : Code := { maxStack := 5, maxLocals := 2, code := jdk_42_method_3_code, exceptionTable := #[], attributes := #[] }
def k7m1 : Method := { name := "<init>", desc := "([C)V", sig := { parameters := [(.array .char)], returnType := none }, accessFlags := 1, code := some k7c1 }
def k7c2 : Code := { maxStack := 2, maxLocals := 1, code := jdk_42_method_54_code, exceptionTable := #[], attributes := #[] }
def k7m2 : Method := { name := "length", desc := "()I", sig := { parameters := [], returnType := some .int }, accessFlags := 1, code := some k7c2 }
def k7c3 : Code := { maxStack := 2, maxLocals := 2, code := jdk_42_method_56_code, exceptionTable := #[], attributes := #[] }
def k7m3 : Method := { name := "charAt", desc := "(I)C", sig := { parameters := [.int], returnType := some .char }, accessFlags := 1, code := some k7c3 }
def k7c4 : Code := { maxStack := 4, maxLocals := 6, code := jdk_42_method_149_code, exceptionTable := #[], attributes := #[] }
def k7m4 : Method := { name := "<init>", desc := "([CIILjava/lang/Void;)V", sig := { parameters := [(.array .char), .int, .int, (.object "java/lang/Void")], returnType := none }, accessFlags := 2, code := some k7c4 }
def k7c5 : Code := { maxStack := 1, maxLocals := 1, code := jdk_42_method_152_code, exceptionTable := #[], attributes := #[] }
def k7m5 : Method := { name := "coder", desc := "()B", sig := { parameters := [], returnType := some .byte }, accessFlags := 0, code := some k7c5 }
def k7c6 : Code := { maxStack := 1, maxLocals := 1, code := jdk_42_method_154_code, exceptionTable := #[], attributes := #[] }
def k7m6 : Method := { name := "isLatin1", desc := "()Z", sig := { parameters := [], returnType := some .boolean }, accessFlags := 0, code := some k7c6 }
def k7c7 : Code := { maxStack := 3, maxLocals := 2, code := jdk_42_method_155_code, exceptionTable := #[], attributes := #[] }
def k7m7 : Method := { name := "checkIndex", desc := "(II)V", sig := { parameters := [.int, .int], returnType := none }, accessFlags := 8, code := some k7c7 }
/-- java/lang/String -/
def k7 : Class := { plain "java/lang/String" (some 0) with
  accessFlags := 49
  interfaces := #[2, 3, 4, 5, 6]
  cf := some (fileOf pool7 10 #[.nestMembers #[1103]] #[{ accessFlags := 1, nameIndex := 5, descriptorIndex := 6, attributes := #[] }, { accessFlags := 1, nameIndex := 5, descriptorIndex := 1010, attributes := #[] }, { accessFlags := 1, nameIndex := 507, descriptorIndex := 334, attributes := #[] }, { accessFlags := 1, nameIndex := 497, descriptorIndex := 427, attributes := #[] }, { accessFlags := 2, nameIndex := 5, descriptorIndex := 29, attributes := #[] }, { accessFlags := 0, nameIndex := 17, descriptorIndex := 337, attributes := #[] }, { accessFlags := 0, nameIndex := 494, descriptorIndex := 142, attributes := #[] }, { accessFlags := 8, nameIndex := 501, descriptorIndex := 391, attributes := #[] }] 49 2 #[1106, 1108, 575, 1110, 1112] #[{ accessFlags := 18, nameIndex := 13, descriptorIndex := 14, attributes := #[] }, { accessFlags := 18, nameIndex := 17, descriptorIndex := 18, attributes := #[] }, { accessFlags := 2, nameIndex := 21, descriptorIndex := 22, attributes := #[] }, { accessFlags := 2, nameIndex := 25, descriptorIndex := 26, attributes := #[] }, { accessFlags := 26, nameIndex := 1116, descriptorIndex := 1117, attributes := #[] }, { accessFlags := 24, nameIndex := 40, descriptorIndex := 26, attributes := #[] }, { accessFlags := 26, nameIndex := 1101, descriptorIndex := 1102, attributes := #[] }, { accessFlags := 26, nameIndex := 1121, descriptorIndex := 1122, attributes := #[] }, { accessFlags := 25, nameIndex := 599, descriptorIndex := 600, attributes := #[] }, { accessFlags := 24, nameIndex := 1125, descriptorIndex := 18, attributes := #[] }, { accessFlags := 24, nameIndex := 1127, descriptorIndex := 18, attributes := #[] }])
  fields := #[{ name := "value", type := (.array .byte), accessFlags := 18, slot := 0, constantValue := 0 }, { name := "coder", type := .byte, accessFlags := 18, slot := 1, constantValue := 0 }, { name := "hash", type := .int, accessFlags := 2, slot := 2, constantValue := 0 }, { name := "hashIsZero", type := .boolean, accessFlags := 2, slot := 3, constantValue := 0 }, { name := "serialVersionUID", type := .long, accessFlags := 26, slot := 0, constantValue := 0 }, { name := "COMPACT_STRINGS", type := .boolean, accessFlags := 24, slot := 1, constantValue := 0 }, { name := "serialPersistentFields", type := (.array (.object "java/io/ObjectStreamField")), accessFlags := 26, slot := 2, constantValue := 0 }, { name := "REPL", type := .char, accessFlags := 26, slot := 3, constantValue := 0 }, { name := "CASE_INSENSITIVE_ORDER", type := (.object "java/util/Comparator"), accessFlags := 25, slot := 4, constantValue := 0 }, { name := "LATIN1", type := .byte, accessFlags := 24, slot := 5, constantValue := 0 }, { name := "UTF16", type := .byte, accessFlags := 24, slot := 6, constantValue := 0 }]
  methods := #[k7m0, k7m1, k7m2, k7m3, k7m4, k7m5, k7m6, k7m7]
  instanceTypes := #[(.array .byte), .byte, .int, .boolean]
  staticTypes := #[.long, .boolean, (.array (.object "java/io/ObjectStreamField")), .char, (.object "java/util/Comparator"), .byte, .byte]
  resolved := Array.replicate 1451 none
  statics := some 0 }

def pool8 : Array CpInfo := pool [(2, .class_ 4), (1, u "java/lang/Object"), (0, u "<init>"), (0, u "()V"), (0, .methodref 8 9), (0, .class_ 10), (0, .nameAndType 11 12), (0, u "java/lang/String"), (0, u "length"), (0, u "()I"), (0, .methodref 8 14), (0, .nameAndType 15 16), (0, u "charAt"), (0, u "(I)C"), (0, .methodref 18 19), (0, .class_ 20), (0, .nameAndType 21 22), (0, u "com/example/marcwerk/marcwerk/marc/MarcText"), (0, u "isTagCharacter"), (0, u "(C)Z"), (44, u "isTag"), (0, u "(Ljava/lang/String;)Z")] 8

def k8m0 : Method := { name := "<init>", desc := "()V", sig := { parameters := [], returnType := none }, accessFlags := 2, code := none }
def k8c1 : Code := { maxStack := 2, maxLocals := 1, code := prog_21_method_3_code, exceptionTable := #[], attributes := #[] }
def k8m1 : Method := { name := "isTag", desc := "(Ljava/lang/String;)Z", sig := { parameters := [(.object "java/lang/String")], returnType := some .boolean }, accessFlags := 8, code := some k8c1 }
def k8c2 : Code := { maxStack := 2, maxLocals := 1, code := prog_21_method_4_code, exceptionTable := #[], attributes := #[] }
def k8m2 : Method := { name := "isTagCharacter", desc := "(C)Z", sig := { parameters := [.char], returnType := some .boolean }, accessFlags := 10, code := some k8c2 }
/-- com/example/marcwerk/marcwerk/marc/MarcText -/
def k8 : Class := { plain "com/example/marcwerk/marcwerk/marc/MarcText" (some 0) with
  accessFlags := 48
  interfaces := #[]
  cf := some (fileOf pool8 18 #[] #[{ accessFlags := 2, nameIndex := 5, descriptorIndex := 6, attributes := #[] }, { accessFlags := 8, nameIndex := 67, descriptorIndex := 68, attributes := #[] }, { accessFlags := 10, nameIndex := 21, descriptorIndex := 22, attributes := #[] }] 48 2 #[] #[])
  fields := #[]
  methods := #[k8m0, k8m1, k8m2]
  instanceTypes := #[]
  staticTypes := #[]
  resolved := Array.replicate 77 none
  statics := none }

def pool9 : Array CpInfo := pool [(3, .class_ 4), (0, u "java/lang/String"), (1, .class_ 8), (1, u "java/lang/Object"), (0, u "<init>"), (0, u "()V"), (0, .methodref 12 13), (0, .class_ 14), (0, .nameAndType 15 16), (0, u "java/lang/StringUTF16"), (0, u "newBytesLength"), (0, u "(I)I"), (3, .integer 1073741823), (23, .fieldref 12 45), (0, .nameAndType 46 47), (0, u "$assertionsDisabled"), (0, u "Z"), (0, .methodref 12 49), (0, .nameAndType 50 51), (0, u "length"), (0, u "([B)I"), (7, .fieldref 12 60), (0, .nameAndType 61 62), (0, u "HI_BYTE_SHIFT"), (0, u "I"), (0, .fieldref 12 64), (0, .nameAndType 65 62), (0, u "LO_BYTE_SHIFT"), (1, .methodref 12 68), (0, .nameAndType 69 70), (0, u "checkIndex"), (0, u "(I[B)V"), (0, .methodref 12 72), (0, .nameAndType 73 74), (0, u "getChar"), (0, u "([BI)C"), (32, .methodref 12 108), (0, .nameAndType 109 110), (0, u "newBytesFor"), (0, u "(I)[B"), (0, .methodref 12 112), (0, .nameAndType 113 114), (0, u "putChar"), (0, u "([BII)V"), (0, .methodref 12 116), (0, .nameAndType 117 118), (0, u "compress"), (0, u "([CI[BII)I"), (0, .methodref 12 120), (0, .nameAndType 121 122), (0, u "toBytes"), (0, u "([CII)[B"), (138, u "coderFromArrayLen"), (0, u "([BI)B"), (106, .class_ 371), (1, u "java/lang/StringUTF16$LinesSpliterator"), (20, u "charAt"), (21, .methodref 3 415), (0, .nameAndType 69 416), (0, u "(II)V"), (13, u "MAX_LENGTH"), (196, .class_ 628), (0, u "java/lang/StringUTF16$CodePointsSpliterator"), (0, .class_ 630), (0, u "java/lang/StringUTF16$CharsSpliterator")] 4

def k9m0 : Method := { name := "<init>", desc := "()V", sig := { parameters := [], returnType := none }, accessFlags := 0, code := none }
def k9c1 : Code := { maxStack := 1, maxLocals := 1, code := jdk_52_method_2_code, exceptionTable := #[], attributes := #[] }
def k9m1 : Method := { name := "newBytesFor", desc := "(I)[B", sig := { parameters := [.int], returnType := some (.array .byte) }, accessFlags := 9, code := some k9c1 }
def k9c2 : Code := { maxStack := 4, maxLocals := 1, code := jdk_52_method_3_code, exceptionTable := #[], attributes := #[] }
def k9m2 : Method := { name := "newBytesLength", desc := "(I)I", sig := { parameters := [.int], returnType := some .int }, accessFlags := 9, code := some k9c2 }
def k9c3 : Code := { maxStack := 4, maxLocals := 3, code := jdk_52_method_4_code, exceptionTable := #[], attributes := #[] }
def k9m3 : Method := { name := "putChar", desc := "([BII)V", sig := { parameters := [(.array .byte), .int, .int], returnType := none }, accessFlags := 8, code := some k9c3 }
def k9c4 : Code := { maxStack := 3, maxLocals := 2, code := jdk_52_method_5_code, exceptionTable := #[], attributes := #[] }
def k9m4 : Method := { name := "getChar", desc := "([BI)C", sig := { parameters := [(.array .byte), .int], returnType := some .char }, accessFlags := 8, code := some k9c4 }
def k9c5 : Code := { maxStack := 2, maxLocals := 1, code := jdk_52_method_6_code, exceptionTable := #[], attributes := #[] }
def k9m5 : Method := { name := "length", desc := "([B)I", sig := { parameters := [(.array .byte)], returnType := some .int }, accessFlags := 9, code := some k9c5 }
def k9c6 : Code := { maxStack := 4, maxLocals := 5, code := jdk_52_method_14_code, exceptionTable := #[], attributes := #[] }
def k9m6 : Method := { name := "toBytes", desc := "([CII)[B", sig := { parameters := [(.array .char), .int, .int], returnType := some (.array .byte) }, accessFlags := 9, code := some k9c6 }
def k9c7 : Code := { maxStack := 2, maxLocals := 2, code := jdk_52_method_15_code, exceptionTable := #[], attributes := #[] }
def k9m7 : Method := { name := "coderFromArrayLen", desc := "([BI)B", sig := { parameters := [(.array .byte), .int], returnType := some .byte }, accessFlags := 8, code := some k9c7 }
def k9c8 : Code := { maxStack := 5, maxLocals := 6, code := jdk_52_method_16_code, exceptionTable := #[], attributes := #[] }
def k9m8 : Method := { name := "compress", desc := "([CII)[B", sig := { parameters := [(.array .char), .int, .int], returnType := some (.array .byte) }, accessFlags := 9, code := some k9c8 }
def k9c9 : Code := { maxStack := 3, maxLocals := 7, code := jdk_52_method_21_code, exceptionTable := #[], attributes := #[] }
def k9m9 : Method := { name := "compress", desc := "([CI[BII)I", sig := { parameters := [(.array .char), .int, (.array .byte), .int, .int], returnType := some .int }, accessFlags := 9, code := some k9c9 }
def k9c10 : Code := { maxStack := 2, maxLocals := 2, code := jdk_52_method_83_code, exceptionTable := #[], attributes := #[] }
def k9m10 : Method := { name := "charAt", desc := "([BI)C", sig := { parameters := [(.array .byte), .int], returnType := some .char }, accessFlags := 9, code := some k9c10 }
def k9c11 : Code := { maxStack := 2, maxLocals := 2, code := jdk_52_method_91_code, exceptionTable := #[], attributes := #[] }
def k9m11 : Method := { name := "checkIndex", desc := "(I[B)V", sig := { parameters := [.int, (.array .byte)], returnType := none }, accessFlags := 9, code := some k9c11 }
/-- java/lang/StringUTF16 -/
def k9 : Class := { plain "java/lang/StringUTF16" (some 0) with
  accessFlags := 48
  interfaces := #[]
  cf := some (fileOf pool9 12 #[.nestMembers #[627, 629, 369]] #[{ accessFlags := 0, nameIndex := 9, descriptorIndex := 10, attributes := #[] }, { accessFlags := 9, nameIndex := 109, descriptorIndex := 110, attributes := #[] }, { accessFlags := 9, nameIndex := 15, descriptorIndex := 16, attributes := #[] }, { accessFlags := 8, nameIndex := 113, descriptorIndex := 114, attributes := #[] }, { accessFlags := 8, nameIndex := 73, descriptorIndex := 74, attributes := #[] }, { accessFlags := 9, nameIndex := 50, descriptorIndex := 51, attributes := #[] }, { accessFlags := 9, nameIndex := 121, descriptorIndex := 122, attributes := #[] }, { accessFlags := 8, nameIndex := 261, descriptorIndex := 262, attributes := #[] }, { accessFlags := 9, nameIndex := 117, descriptorIndex := 122, attributes := #[] }, { accessFlags := 9, nameIndex := 117, descriptorIndex := 118, attributes := #[] }, { accessFlags := 9, nameIndex := 392, descriptorIndex := 74, attributes := #[] }, { accessFlags := 9, nameIndex := 69, descriptorIndex := 70, attributes := #[] }] 48 6 #[] #[{ accessFlags := 26, nameIndex := 61, descriptorIndex := 62, attributes := #[] }, { accessFlags := 26, nameIndex := 65, descriptorIndex := 62, attributes := #[] }, { accessFlags := 24, nameIndex := 430, descriptorIndex := 62, attributes := #[] }, { accessFlags := 4120, nameIndex := 46, descriptorIndex := 47, attributes := #[] }])
  fields := #[{ name := "HI_BYTE_SHIFT", type := .int, accessFlags := 26, slot := 0, constantValue := 0 }, { name := "LO_BYTE_SHIFT", type := .int, accessFlags := 26, slot := 1, constantValue := 0 }, { name := "MAX_LENGTH", type := .int, accessFlags := 24, slot := 2, constantValue := 0 }, { name := "$assertionsDisabled", type := .boolean, accessFlags := 4120, slot := 3, constantValue := 0 }]
  methods := #[k9m0, k9m1, k9m2, k9m3, k9m4, k9m5, k9m6, k9m7, k9m8, k9m9, k9m10, k9m11]
  instanceTypes := #[]
  staticTypes := #[.int, .int, .int, .boolean]
  resolved := Array.replicate 635 none
  statics := some 1 }

def pool10 : Array CpInfo := pool [(1, .class_ 2), (0, u "java/lang/String"), (1, .class_ 6), (1, u "java/lang/Object"), (0, u "<init>"), (0, u "()V"), (0, .methodref 1 10), (0, .nameAndType 11 12), (0, u "checkIndex"), (0, u "(II)V"), (1, .class_ 16), (1, u "java/lang/StringLatin1"), (36, u "([BI)C"), (67, u "$assertionsDisabled"), (0, u "Z"), (98, .class_ 223), (1, u "java/lang/StringLatin1$LinesSpliterator"), (28, u "charAt"), (137, .class_ 391), (0, u "java/lang/StringLatin1$CharsSpliterator")] 3

def k10m0 : Method := { name := "<init>", desc := "()V", sig := { parameters := [], returnType := none }, accessFlags := 0, code := none }
def k10c1 : Code := { maxStack := 2, maxLocals := 2, code := jdk_43_method_2_code, exceptionTable := #[], attributes := #[] }
def k10m1 : Method := { name := "charAt", desc := "([BI)C", sig := { parameters := [(.array .byte), .int], returnType := some .char }, accessFlags := 9, code := some k10c1 }
/-- java/lang/StringLatin1 -/
def k10 : Class := { plain "java/lang/StringLatin1" (some 0) with
  accessFlags := 48
  interfaces := #[]
  cf := some (fileOf pool10 14 #[.nestMembers #[390, 221]] #[{ accessFlags := 0, nameIndex := 7, descriptorIndex := 8, attributes := #[] }, { accessFlags := 9, nameIndex := 252, descriptorIndex := 53, attributes := #[] }] 48 4 #[] #[{ accessFlags := 4120, nameIndex := 121, descriptorIndex := 122, attributes := #[] }])
  fields := #[{ name := "$assertionsDisabled", type := .boolean, accessFlags := 4120, slot := 0, constantValue := 0 }]
  methods := #[k10m0, k10m1]
  instanceTypes := #[]
  staticTypes := #[.boolean]
  resolved := Array.replicate 395 none
  statics := none }

def pool11 : Array CpInfo := pool [(2, .class_ 4), (1, u "java/lang/Object"), (0, u "<init>"), (0, u "()V"), (17, .class_ 26), (1, u "jdk/internal/util/Preconditions"), (6, u "checkIndex"), (21, .class_ 56), (0, u "jdk/internal/util/Preconditions$4"), (57, .class_ 115), (0, u "jdk/internal/util/Preconditions$1"), (7, u "SIOOBE_FORMATTER"), (0, u "Ljava/util/function/BiFunction;"), (0, .class_ 126), (0, u "jdk/internal/util/Preconditions$2"), (3, u "AIOOBE_FORMATTER"), (0, .class_ 132), (0, u "jdk/internal/util/Preconditions$3"), (3, u "IOOBE_FORMATTER"), (41, u "(IILjava/util/function/BiFunction;)I")] 15

def k11m0 : Method := { name := "<init>", desc := "()V", sig := { parameters := [], returnType := none }, accessFlags := 1, code := none }
def k11c1 : Code := { maxStack := 3, maxLocals := 3, code := jdk_41_method_11_code, exceptionTable := #[], attributes := #[] }
def k11m1 : Method := { name := "checkIndex", desc := "(IILjava/util/function/BiFunction;)I", sig := { parameters := [.int, .int, (.object "java/util/function/BiFunction")], returnType := some .int }, accessFlags := 9, code := some k11c1 }
/-- jdk/internal/util/Preconditions -/
def k11 : Class := { plain "jdk/internal/util/Preconditions" (some 0) with
  accessFlags := 33
  interfaces := #[]
  cf := some (fileOf pool11 24 #[.nestMembers #[55, 131, 125, 114]] #[{ accessFlags := 1, nameIndex := 5, descriptorIndex := 6, attributes := #[] }, { accessFlags := 9, nameIndex := 33, descriptorIndex := 178, attributes := #[] }] 33 2 #[] #[{ accessFlags := 25, nameIndex := 123, descriptorIndex := 124, attributes := #[] }, { accessFlags := 25, nameIndex := 130, descriptorIndex := 124, attributes := #[] }, { accessFlags := 25, nameIndex := 136, descriptorIndex := 124, attributes := #[] }])
  fields := #[{ name := "SIOOBE_FORMATTER", type := (.object "java/util/function/BiFunction"), accessFlags := 25, slot := 0, constantValue := 0 }, { name := "AIOOBE_FORMATTER", type := (.object "java/util/function/BiFunction"), accessFlags := 25, slot := 1, constantValue := 0 }, { name := "IOOBE_FORMATTER", type := (.object "java/util/function/BiFunction"), accessFlags := 25, slot := 2, constantValue := 0 }]
  methods := #[k11m0, k11m1]
  instanceTypes := #[]
  staticTypes := #[(.object "java/util/function/BiFunction"), (.object "java/util/function/BiFunction"), (.object "java/util/function/BiFunction")]
  resolved := Array.replicate 194 none
  statics := some 2 }

def pool12 : Array CpInfo := pool [(9, u "<init>"), (6, .class_ 18), (1, u "java/lang/Object"), (0, u "()V"), (1, .class_ 23), (1, u "jdk/internal/util/ArraysSupport"), (0, u "LOG2_ARRAY_LONG_INDEX_SCALE"), (0, u "I"), (2, u "U"), (0, u "Ljdk/internal/misc/Unsafe;"), (8, u "BIG_ENDIAN"), (0, u "Z"), (8, u "LOG2_BYTE_BIT_SIZE"), (4, u "LOG2_ARRAY_INT_INDEX_SCALE"), (54, u "JLA"), (0, u "Ljdk/internal/access/JavaLangAccess;"), (11, u "LOG2_ARRAY_BOOLEAN_INDEX_SCALE"), (9, u "LOG2_ARRAY_BYTE_INDEX_SCALE"), (5, u "LOG2_ARRAY_CHAR_INDEX_SCALE"), (5, u "LOG2_ARRAY_SHORT_INDEX_SCALE"), (18, u "LOG2_ARRAY_FLOAT_INDEX_SCALE"), (24, u "LOG2_ARRAY_DOUBLE_INDEX_SCALE"), (89, u "T_BOOLEAN"), (2, u "T_CHAR"), (1, u "T_FLOAT"), (1, u "T_DOUBLE"), (1, u "T_BYTE"), (1, u "T_SHORT"), (1, u "T_INT"), (1, u "T_LONG"), (1, u "SOFT_MAX_ARRAY_LENGTH")] 83

def k12m0 : Method := { name := "<init>", desc := "()V", sig := { parameters := [], returnType := none }, accessFlags := 2, code := none }
/-- jdk/internal/util/ArraysSupport -/
def k12 : Class := { plain "jdk/internal/util/ArraysSupport" (some 0) with
  accessFlags := 33
  interfaces := #[]
  cf := some (fileOf pool12 21 #[] #[{ accessFlags := 2, nameIndex := 9, descriptorIndex := 19, attributes := #[] }] 33 16 #[] #[{ accessFlags := 24, nameIndex := 28, descriptorIndex := 29, attributes := #[] }, { accessFlags := 26, nameIndex := 38, descriptorIndex := 39, attributes := #[] }, { accessFlags := 25, nameIndex := 121, descriptorIndex := 25, attributes := #[] }, { accessFlags := 25, nameIndex := 131, descriptorIndex := 25, attributes := #[] }, { accessFlags := 25, nameIndex := 137, descriptorIndex := 25, attributes := #[] }, { accessFlags := 25, nameIndex := 143, descriptorIndex := 25, attributes := #[] }, { accessFlags := 25, nameIndex := 53, descriptorIndex := 25, attributes := #[] }, { accessFlags := 25, nameIndex := 24, descriptorIndex := 25, attributes := #[] }, { accessFlags := 25, nameIndex := 162, descriptorIndex := 25, attributes := #[] }, { accessFlags := 25, nameIndex := 187, descriptorIndex := 25, attributes := #[] }, { accessFlags := 26, nameIndex := 48, descriptorIndex := 25, attributes := #[] }, { accessFlags := 25, nameIndex := 277, descriptorIndex := 25, attributes := #[] }, { accessFlags := 25, nameIndex := 280, descriptorIndex := 25, attributes := #[] }, { accessFlags := 25, nameIndex := 282, descriptorIndex := 25, attributes := #[] }, { accessFlags := 25, nameIndex := 284, descriptorIndex := 25, attributes := #[] }, { accessFlags := 25, nameIndex := 286, descriptorIndex := 25, attributes := #[] }, { accessFlags := 25, nameIndex := 288, descriptorIndex := 25, attributes := #[] }, { accessFlags := 25, nameIndex := 290, descriptorIndex := 25, attributes := #[] }, { accessFlags := 25, nameIndex := 292, descriptorIndex := 25, attributes := #[] }, { accessFlags := 26, nameIndex := 108, descriptorIndex := 109, attributes := #[] }, { accessFlags := 25, nameIndex := 294, descriptorIndex := 25, attributes := #[] }])
  fields := #[{ name := "U", type := (.object "jdk/internal/misc/Unsafe"), accessFlags := 24, slot := 0, constantValue := 0 }, { name := "BIG_ENDIAN", type := .boolean, accessFlags := 26, slot := 1, constantValue := 0 }, { name := "LOG2_ARRAY_BOOLEAN_INDEX_SCALE", type := .int, accessFlags := 25, slot := 2, constantValue := 0 }, { name := "LOG2_ARRAY_BYTE_INDEX_SCALE", type := .int, accessFlags := 25, slot := 3, constantValue := 0 }, { name := "LOG2_ARRAY_CHAR_INDEX_SCALE", type := .int, accessFlags := 25, slot := 4, constantValue := 0 }, { name := "LOG2_ARRAY_SHORT_INDEX_SCALE", type := .int, accessFlags := 25, slot := 5, constantValue := 0 }, { name := "LOG2_ARRAY_INT_INDEX_SCALE", type := .int, accessFlags := 25, slot := 6, constantValue := 0 }, { name := "LOG2_ARRAY_LONG_INDEX_SCALE", type := .int, accessFlags := 25, slot := 7, constantValue := 0 }, { name := "LOG2_ARRAY_FLOAT_INDEX_SCALE", type := .int, accessFlags := 25, slot := 8, constantValue := 0 }, { name := "LOG2_ARRAY_DOUBLE_INDEX_SCALE", type := .int, accessFlags := 25, slot := 9, constantValue := 0 }, { name := "LOG2_BYTE_BIT_SIZE", type := .int, accessFlags := 26, slot := 10, constantValue := 0 }, { name := "T_BOOLEAN", type := .int, accessFlags := 25, slot := 11, constantValue := 0 }, { name := "T_CHAR", type := .int, accessFlags := 25, slot := 12, constantValue := 0 }, { name := "T_FLOAT", type := .int, accessFlags := 25, slot := 13, constantValue := 0 }, { name := "T_DOUBLE", type := .int, accessFlags := 25, slot := 14, constantValue := 0 }, { name := "T_BYTE", type := .int, accessFlags := 25, slot := 15, constantValue := 0 }, { name := "T_SHORT", type := .int, accessFlags := 25, slot := 16, constantValue := 0 }, { name := "T_INT", type := .int, accessFlags := 25, slot := 17, constantValue := 0 }, { name := "T_LONG", type := .int, accessFlags := 25, slot := 18, constantValue := 0 }, { name := "JLA", type := (.object "jdk/internal/access/JavaLangAccess"), accessFlags := 26, slot := 19, constantValue := 0 }, { name := "SOFT_MAX_ARRAY_LENGTH", type := .int, accessFlags := 25, slot := 20, constantValue := 0 }]
  methods := #[k12m0]
  instanceTypes := #[]
  staticTypes := #[(.object "jdk/internal/misc/Unsafe"), .boolean, .int, .int, .int, .int, .int, .int, .int, .int, .int, .int, .int, .int, .int, .int, .int, .int, .int, (.object "jdk/internal/access/JavaLangAccess"), .int]
  resolved := Array.replicate 378 none
  statics := none }

def pool13 : Array CpInfo := pool [(1, u "java/lang/Cloneable"), (0, .class_ 1), (0, u "java/lang/Object"), (0, .class_ 3)] 3

/-- java/lang/Cloneable -/
def k13 : Class := { plain "java/lang/Cloneable" (some 0) with
  accessFlags := 1537
  interfaces := #[]
  cf := some (fileOf pool13 2 #[] #[] 1537 4 #[] #[])
  fields := #[]
  methods := #[]
  instanceTypes := #[]
  staticTypes := #[]
  resolved := Array.replicate 8 none
  statics := none }

/-- the primitive byte -/
def k14 : Class := { plain "byte" none with kind := .primitive 'B', accessFlags := 0x411 }
/-- [B -/
def k15 : Class := { plain "[B" (some 0) with kind := .array 14 .byte, interfaces := #[13, 2], accessFlags := 1041 }

/-- the primitive char -/
def k16 : Class := { plain "char" none with kind := .primitive 'C', accessFlags := 0x411 }
/-- [C -/
def k17 : Class := { plain "[C" (some 0) with kind := .array 16 .char, interfaces := #[13, 2], accessFlags := 1041 }

/-- the primitive int -/
def k18 : Class := { plain "int" none with kind := .primitive 'I', accessFlags := 0x411 }
/-- [I -/
def k19 : Class := { plain "[I" (some 0) with kind := .array 18 .int, interfaces := #[13, 2], accessFlags := 1041 }

def heap : Heap := #[{ cls := 7, slots := #[.long 0, .int 1, .null, .int 0, .null, .int 0, .int 0], vm := .statics 7 },
  { cls := 9, slots := #[.int 0, .int 8, .int 0, .int 1], vm := .statics 9 },
  { cls := 11, slots := #[.null, .null, .null], vm := .statics 11 }]
def classes : Array Class := #[k0, k1, k2, k3, k4, k5, k6, k7, k8, k9, k10, k11, k12, k13, k14, k15, k16, k17, k18, k19]
def interned : List (Array UInt16 × Addr) := []
def slotsUsed : Nat := 14
def theMethod : MethodId := ⟨1, 2⟩
def args0 : Array Value := #[.int 5, .int 65, .int 66, .int 67, .int 68]
def aboutOver (below : List Frame) : State where
  vm := { classes := classes, interned := interned.toArray }
  heap := heap
  slotsUsed := slotsUsed
  threads := #[{ frames := .invoking theMethod args0 :: below }]
def below0 : List Frame := [.native { method := ⟨0, 0⟩, args := #[] }]
def about1 : State := aboutOver below0
def p0 : Program := .bare "" "" ""
def e0 : Env := launch0.env 0 0 0
theorem w_frames : about1.frames = Frame.invoking theMethod args0 :: below0 := rfl
set_option maxRecDepth 65536 in
theorem w_args : argsFit about1.vm theMethod args0 = true := by decide +kernel
set_option maxRecDepth 65536 in
theorem w_heap : heapFits about1 = true := by decide +kernel
set_option maxRecDepth 65536 in
theorem w_runnable : about1.curStatus? = some .runnable := by decide +kernel
set_option maxRecDepth 65536 in
theorem w_alone : about1.alone = true := by decide +kernel
set_option maxRecDepth 65536 in
theorem w_named : about1.methodNamed? x = some theMethod := by decide +kernel
set_option maxRecDepth 65536 in
theorem w_hears : about1.hears theMethod below0 = true := by decide +kernel
set_option maxRecDepth 65536 in
theorem w_ripe : about1.ripe theMethod args0 below0 = true := by decide +kernel
theorem w_running : about1.status = .running := rfl
set_option maxRecDepth 65536 in
theorem w_room : about1.hasRoom e0.platform room_1 = true :=
  launch0.hasRoom_least _ room_1 (by decide +kernel) (by decide +kernel) (by decide +kernel) (by decide +kernel) (by decide +kernel) (by decide +kernel)
theorem allAtoms_all (ts : List Jvm.Cond) (a : Array Jvm.Value) (st : Jvm.State) : (allAtoms ts).before a st = ts.all (fun c => c.before a st) := by
  induction ts with
  | nil => rfl
  | cons c t ih =>
    show (Jvm.Cond.and c (allAtoms t)).before a st = _
    rw [Jvm.Cond.before_and, ih, List.all_cons]
def words1 : List Jvm.Cond := Jvm.Cond.code x code maxLocals ret :: tables_1
/-- a 'code' word, met by the world's own term for the bytes: nothing is compared byte by byte -/
theorem code_word {y : MethodName} {bytes : ByteArray} {mx : Nat} {rt : Option FieldType} {a : Array Value} {s : State} {m : MethodId} {meth : Method} {c : Code} (h1 : s.methodNamed? y = some m) (h2 : s.vm.method? m = some meth) (h3 : meth.code = some c) (h4 : c.code = bytes)
    (h5 : (c.maxLocals == mx && c.exceptionTable.isEmpty && decide (c.maxStack ≤ mostOperands) && decide (meth.sig.returnType = rt) && !meth.locks && decide (parseMethodDescriptor y.desc = some meth.sig)) = true) : (Jvm.Cond.code y bytes mx rt).before a s = true := by
  simp only [Bool.and_eq_true, beq_iff_eq, Bool.not_eq_true', decide_eq_true_eq] at h5
  obtain ⟨⟨⟨⟨⟨g1, g2⟩, g3⟩, g4⟩, g5⟩, g6⟩ := h5
  simp [Cond.before, Cond.holds, Cond.value, h1, h2, h3, h4, g1, g2, g3, g4, g5, g6]
def isCode : Jvm.Cond → Bool
  | .code _ _ _ _ => true
  | _ => false
theorem all_split {L : List Jvm.Cond} {P : Jvm.Cond → Bool} (h1 : L.all (fun c => isCode c || P c) = true) (h2 : ∀ c ∈ L.filter isCode, P c = true) : L.all P = true := by
  refine List.all_eq_true.mpr fun c hc => ?_
  have h := List.all_eq_true.mp h1 c hc
  rcases Bool.eq_false_or_eq_true (isCode c) with hi | hi
  · exact h2 c (List.mem_filter.mpr ⟨hc, hi⟩)
  · simpa [hi] using h
set_option maxRecDepth 65536 in
theorem w_c0 : (Jvm.Cond.code x code maxLocals ret).before args0 about1 = true := code_word (m := ⟨1, 2⟩) (meth := k1m2) (c := k1c2) (by decide +kernel) rfl rfl rfl (by decide +kernel)
set_option maxRecDepth 65536 in
theorem w_c1 : (Jvm.Cond.code ({ cls := "java/lang/String", name := "<init>", desc := "([C)V" } : Jvm.MethodName) jdk_42_method_3_code (2 : Nat) (Option.none : Option Jvm.ClassFile.FieldType)).before args0 about1 = true := code_word (m := ⟨7, 1⟩) (meth := k7m1) (c := k7c1) (by decide +kernel) rfl rfl rfl (by decide +kernel)
set_option maxRecDepth 65536 in
theorem w_c2 : (Jvm.Cond.code ({ cls := "java/lang/String", name := "<init>", desc := "([CIILjava/lang/Void;)V" } : Jvm.MethodName) jdk_42_method_149_code (6 : Nat) (Option.none : Option Jvm.ClassFile.FieldType)).before args0 about1 = true := code_word (m := ⟨7, 4⟩) (meth := k7m4) (c := k7c4) (by decide +kernel) rfl rfl rfl (by decide +kernel)
set_option maxRecDepth 65536 in
theorem w_c3 : (Jvm.Cond.code ({ cls := "java/lang/Object", name := "<init>", desc := "()V" } : Jvm.MethodName) object_method_1_code (1 : Nat) (Option.none : Option Jvm.ClassFile.FieldType)).before args0 about1 = true := code_word (m := ⟨0, 0⟩) (meth := k0m0) (c := k0c0) (by decide +kernel) rfl rfl rfl (by decide +kernel)
set_option maxRecDepth 65536 in
theorem w_c4 : (Jvm.Cond.code ({ cls := "com/example/marcwerk/marcwerk/marc/MarcText", name := "isTag", desc := "(Ljava/lang/String;)Z" } : Jvm.MethodName) prog_21_method_3_code (1 : Nat) (Option.some Jvm.ClassFile.FieldType.boolean)).before args0 about1 = true := code_word (m := ⟨8, 1⟩) (meth := k8m1) (c := k8c1) (by decide +kernel) rfl rfl rfl (by decide +kernel)
set_option maxRecDepth 65536 in
theorem w_c5 : (Jvm.Cond.code ({ cls := "java/lang/String", name := "length", desc := "()I" } : Jvm.MethodName) jdk_42_method_54_code (1 : Nat) (Option.some Jvm.ClassFile.FieldType.int)).before args0 about1 = true := code_word (m := ⟨7, 2⟩) (meth := k7m2) (c := k7c2) (by decide +kernel) rfl rfl rfl (by decide +kernel)
set_option maxRecDepth 65536 in
theorem w_c6 : (Jvm.Cond.code ({ cls := "java/lang/String", name := "coder", desc := "()B" } : Jvm.MethodName) jdk_42_method_152_code (1 : Nat) (Option.some Jvm.ClassFile.FieldType.byte)).before args0 about1 = true := code_word (m := ⟨7, 5⟩) (meth := k7m5) (c := k7c5) (by decide +kernel) rfl rfl rfl (by decide +kernel)
set_option maxRecDepth 65536 in
theorem w_c7 : (Jvm.Cond.code ({ cls := "java/lang/StringUTF16", name := "compress", desc := "([CII)[B" } : Jvm.MethodName) jdk_52_method_16_code (6 : Nat) (Option.some (Jvm.ClassFile.FieldType.array Jvm.ClassFile.FieldType.byte))).before args0 about1 = true := code_word (m := ⟨9, 8⟩) (meth := k9m8) (c := k9c8) (by decide +kernel) rfl rfl rfl (by decide +kernel)
set_option maxRecDepth 65536 in
theorem w_c8 : (Jvm.Cond.code ({ cls := "java/lang/StringUTF16", name := "compress", desc := "([CI[BII)I" } : Jvm.MethodName) jdk_52_method_21_code (7 : Nat) (Option.some Jvm.ClassFile.FieldType.int)).before args0 about1 = true := code_word (m := ⟨9, 9⟩) (meth := k9m9) (c := k9c9) (by decide +kernel) rfl rfl rfl (by decide +kernel)
set_option maxRecDepth 65536 in
theorem w_c9 : (Jvm.Cond.code ({ cls := "java/lang/StringUTF16", name := "coderFromArrayLen", desc := "([BI)B" } : Jvm.MethodName) jdk_52_method_15_code (2 : Nat) (Option.some Jvm.ClassFile.FieldType.byte)).before args0 about1 = true := code_word (m := ⟨9, 7⟩) (meth := k9m7) (c := k9c7) (by decide +kernel) rfl rfl rfl (by decide +kernel)
set_option maxRecDepth 65536 in
theorem w_c10 : (Jvm.Cond.code ({ cls := "com/example/marcwerk/marcwerk/marc/MarcTextIsTagPinLaw", name := "refTagChar", desc := "(C)Z" } : Jvm.MethodName) method_2_code (3 : Nat) (Option.some Jvm.ClassFile.FieldType.boolean)).before args0 about1 = true := code_word (m := ⟨1, 1⟩) (meth := k1m1) (c := k1c1) (by decide +kernel) rfl rfl rfl (by decide +kernel)
set_option maxRecDepth 65536 in
theorem w_c11 : (Jvm.Cond.code ({ cls := "java/lang/String", name := "charAt", desc := "(I)C" } : Jvm.MethodName) jdk_42_method_56_code (2 : Nat) (Option.some Jvm.ClassFile.FieldType.char)).before args0 about1 = true := code_word (m := ⟨7, 3⟩) (meth := k7m3) (c := k7c3) (by decide +kernel) rfl rfl rfl (by decide +kernel)
set_option maxRecDepth 65536 in
theorem w_c12 : (Jvm.Cond.code ({ cls := "java/lang/String", name := "isLatin1", desc := "()Z" } : Jvm.MethodName) jdk_42_method_154_code (1 : Nat) (Option.some Jvm.ClassFile.FieldType.boolean)).before args0 about1 = true := code_word (m := ⟨7, 6⟩) (meth := k7m6) (c := k7c6) (by decide +kernel) rfl rfl rfl (by decide +kernel)
set_option maxRecDepth 65536 in
theorem w_c13 : (Jvm.Cond.code ({ cls := "java/lang/StringLatin1", name := "charAt", desc := "([BI)C" } : Jvm.MethodName) jdk_43_method_2_code (2 : Nat) (Option.some Jvm.ClassFile.FieldType.char)).before args0 about1 = true := code_word (m := ⟨10, 1⟩) (meth := k10m1) (c := k10c1) (by decide +kernel) rfl rfl rfl (by decide +kernel)
set_option maxRecDepth 65536 in
theorem w_c14 : (Jvm.Cond.code ({ cls := "java/lang/String", name := "checkIndex", desc := "(II)V" } : Jvm.MethodName) jdk_42_method_155_code (2 : Nat) (Option.none : Option Jvm.ClassFile.FieldType)).before args0 about1 = true := code_word (m := ⟨7, 7⟩) (meth := k7m7) (c := k7c7) (by decide +kernel) rfl rfl rfl (by decide +kernel)
set_option maxRecDepth 65536 in
theorem w_c15 : (Jvm.Cond.code ({ cls := "jdk/internal/util/Preconditions", name := "checkIndex", desc := "(IILjava/util/function/BiFunction;)I" } : Jvm.MethodName) jdk_41_method_11_code (3 : Nat) (Option.some Jvm.ClassFile.FieldType.int)).before args0 about1 = true := code_word (m := ⟨11, 1⟩) (meth := k11m1) (c := k11c1) (by decide +kernel) rfl rfl rfl (by decide +kernel)
set_option maxRecDepth 65536 in
theorem w_c16 : (Jvm.Cond.code ({ cls := "com/example/marcwerk/marcwerk/marc/MarcText", name := "isTagCharacter", desc := "(C)Z" } : Jvm.MethodName) prog_21_method_4_code (1 : Nat) (Option.some Jvm.ClassFile.FieldType.boolean)).before args0 about1 = true := code_word (m := ⟨8, 2⟩) (meth := k8m2) (c := k8c2) (by decide +kernel) rfl rfl rfl (by decide +kernel)
set_option maxRecDepth 65536 in
theorem w_c17 : (Jvm.Cond.code ({ cls := "java/lang/StringUTF16", name := "toBytes", desc := "([CII)[B" } : Jvm.MethodName) jdk_52_method_14_code (5 : Nat) (Option.some (Jvm.ClassFile.FieldType.array Jvm.ClassFile.FieldType.byte))).before args0 about1 = true := code_word (m := ⟨9, 6⟩) (meth := k9m6) (c := k9c6) (by decide +kernel) rfl rfl rfl (by decide +kernel)
set_option maxRecDepth 65536 in
theorem w_c18 : (Jvm.Cond.code ({ cls := "java/lang/StringUTF16", name := "newBytesFor", desc := "(I)[B" } : Jvm.MethodName) jdk_52_method_2_code (1 : Nat) (Option.some (Jvm.ClassFile.FieldType.array Jvm.ClassFile.FieldType.byte))).before args0 about1 = true := code_word (m := ⟨9, 1⟩) (meth := k9m1) (c := k9c1) (by decide +kernel) rfl rfl rfl (by decide +kernel)
set_option maxRecDepth 65536 in
theorem w_c19 : (Jvm.Cond.code ({ cls := "java/lang/StringUTF16", name := "newBytesLength", desc := "(I)I" } : Jvm.MethodName) jdk_52_method_3_code (1 : Nat) (Option.some Jvm.ClassFile.FieldType.int)).before args0 about1 = true := code_word (m := ⟨9, 2⟩) (meth := k9m2) (c := k9c2) (by decide +kernel) rfl rfl rfl (by decide +kernel)
set_option maxRecDepth 65536 in
theorem w_c20 : (Jvm.Cond.code ({ cls := "java/lang/StringUTF16", name := "putChar", desc := "([BII)V" } : Jvm.MethodName) jdk_52_method_4_code (3 : Nat) (Option.none : Option Jvm.ClassFile.FieldType)).before args0 about1 = true := code_word (m := ⟨9, 3⟩) (meth := k9m3) (c := k9c3) (by decide +kernel) rfl rfl rfl (by decide +kernel)
set_option maxRecDepth 65536 in
theorem w_c21 : (Jvm.Cond.code ({ cls := "java/lang/StringUTF16", name := "getChar", desc := "([BI)C" } : Jvm.MethodName) jdk_52_method_5_code (2 : Nat) (Option.some Jvm.ClassFile.FieldType.char)).before args0 about1 = true := code_word (m := ⟨9, 4⟩) (meth := k9m4) (c := k9c4) (by decide +kernel) rfl rfl rfl (by decide +kernel)
set_option maxRecDepth 65536 in
theorem w_c22 : (Jvm.Cond.code ({ cls := "java/lang/StringUTF16", name := "charAt", desc := "([BI)C" } : Jvm.MethodName) jdk_52_method_83_code (2 : Nat) (Option.some Jvm.ClassFile.FieldType.char)).before args0 about1 = true := code_word (m := ⟨9, 10⟩) (meth := k9m10) (c := k9c10) (by decide +kernel) rfl rfl rfl (by decide +kernel)
set_option maxRecDepth 65536 in
theorem w_c23 : (Jvm.Cond.code ({ cls := "java/lang/StringUTF16", name := "checkIndex", desc := "(I[B)V" } : Jvm.MethodName) jdk_52_method_91_code (2 : Nat) (Option.none : Option Jvm.ClassFile.FieldType)).before args0 about1 = true := code_word (m := ⟨9, 11⟩) (meth := k9m11) (c := k9c11) (by decide +kernel) rfl rfl rfl (by decide +kernel)
set_option maxRecDepth 65536 in
theorem w_c24 : (Jvm.Cond.code ({ cls := "java/lang/StringUTF16", name := "length", desc := "([B)I" } : Jvm.MethodName) jdk_52_method_6_code (1 : Nat) (Option.some Jvm.ClassFile.FieldType.int)).before args0 about1 = true := code_word (m := ⟨9, 5⟩) (meth := k9m5) (c := k9c5) (by decide +kernel) rfl rfl rfl (by decide +kernel)
def codes1 : List Jvm.Cond := [Jvm.Cond.code x code maxLocals ret, Jvm.Cond.code ({ cls := "java/lang/String", name := "<init>", desc := "([C)V" } : Jvm.MethodName) jdk_42_method_3_code (2 : Nat) (Option.none : Option Jvm.ClassFile.FieldType), Jvm.Cond.code ({ cls := "java/lang/String", name := "<init>", desc := "([CIILjava/lang/Void;)V" } : Jvm.MethodName) jdk_42_method_149_code (6 : Nat) (Option.none : Option Jvm.ClassFile.FieldType), Jvm.Cond.code ({ cls := "java/lang/Object", name := "<init>", desc := "()V" } : Jvm.MethodName) object_method_1_code (1 : Nat) (Option.none : Option Jvm.ClassFile.FieldType), Jvm.Cond.code ({ cls := "com/example/marcwerk/marcwerk/marc/MarcText", name := "isTag", desc := "(Ljava/lang/String;)Z" } : Jvm.MethodName) prog_21_method_3_code (1 : Nat) (Option.some Jvm.ClassFile.FieldType.boolean), Jvm.Cond.code ({ cls := "java/lang/String", name := "length", desc := "()I" } : Jvm.MethodName) jdk_42_method_54_code (1 : Nat) (Option.some Jvm.ClassFile.FieldType.int), Jvm.Cond.code ({ cls := "java/lang/String", name := "coder", desc := "()B" } : Jvm.MethodName) jdk_42_method_152_code (1 : Nat) (Option.some Jvm.ClassFile.FieldType.byte), Jvm.Cond.code ({ cls := "java/lang/StringUTF16", name := "compress", desc := "([CII)[B" } : Jvm.MethodName) jdk_52_method_16_code (6 : Nat) (Option.some (Jvm.ClassFile.FieldType.array Jvm.ClassFile.FieldType.byte)), Jvm.Cond.code ({ cls := "java/lang/StringUTF16", name := "compress", desc := "([CI[BII)I" } : Jvm.MethodName) jdk_52_method_21_code (7 : Nat) (Option.some Jvm.ClassFile.FieldType.int), Jvm.Cond.code ({ cls := "java/lang/StringUTF16", name := "coderFromArrayLen", desc := "([BI)B" } : Jvm.MethodName) jdk_52_method_15_code (2 : Nat) (Option.some Jvm.ClassFile.FieldType.byte), Jvm.Cond.code ({ cls := "com/example/marcwerk/marcwerk/marc/MarcTextIsTagPinLaw", name := "refTagChar", desc := "(C)Z" } : Jvm.MethodName) method_2_code (3 : Nat) (Option.some Jvm.ClassFile.FieldType.boolean), Jvm.Cond.code ({ cls := "java/lang/String", name := "charAt", desc := "(I)C" } : Jvm.MethodName) jdk_42_method_56_code (2 : Nat) (Option.some Jvm.ClassFile.FieldType.char), Jvm.Cond.code ({ cls := "java/lang/String", name := "isLatin1", desc := "()Z" } : Jvm.MethodName) jdk_42_method_154_code (1 : Nat) (Option.some Jvm.ClassFile.FieldType.boolean), Jvm.Cond.code ({ cls := "java/lang/StringLatin1", name := "charAt", desc := "([BI)C" } : Jvm.MethodName) jdk_43_method_2_code (2 : Nat) (Option.some Jvm.ClassFile.FieldType.char), Jvm.Cond.code ({ cls := "java/lang/String", name := "checkIndex", desc := "(II)V" } : Jvm.MethodName) jdk_42_method_155_code (2 : Nat) (Option.none : Option Jvm.ClassFile.FieldType), Jvm.Cond.code ({ cls := "jdk/internal/util/Preconditions", name := "checkIndex", desc := "(IILjava/util/function/BiFunction;)I" } : Jvm.MethodName) jdk_41_method_11_code (3 : Nat) (Option.some Jvm.ClassFile.FieldType.int), Jvm.Cond.code ({ cls := "com/example/marcwerk/marcwerk/marc/MarcText", name := "isTagCharacter", desc := "(C)Z" } : Jvm.MethodName) prog_21_method_4_code (1 : Nat) (Option.some Jvm.ClassFile.FieldType.boolean), Jvm.Cond.code ({ cls := "java/lang/StringUTF16", name := "toBytes", desc := "([CII)[B" } : Jvm.MethodName) jdk_52_method_14_code (5 : Nat) (Option.some (Jvm.ClassFile.FieldType.array Jvm.ClassFile.FieldType.byte)), Jvm.Cond.code ({ cls := "java/lang/StringUTF16", name := "newBytesFor", desc := "(I)[B" } : Jvm.MethodName) jdk_52_method_2_code (1 : Nat) (Option.some (Jvm.ClassFile.FieldType.array Jvm.ClassFile.FieldType.byte)), Jvm.Cond.code ({ cls := "java/lang/StringUTF16", name := "newBytesLength", desc := "(I)I" } : Jvm.MethodName) jdk_52_method_3_code (1 : Nat) (Option.some Jvm.ClassFile.FieldType.int), Jvm.Cond.code ({ cls := "java/lang/StringUTF16", name := "putChar", desc := "([BII)V" } : Jvm.MethodName) jdk_52_method_4_code (3 : Nat) (Option.none : Option Jvm.ClassFile.FieldType), Jvm.Cond.code ({ cls := "java/lang/StringUTF16", name := "getChar", desc := "([BI)C" } : Jvm.MethodName) jdk_52_method_5_code (2 : Nat) (Option.some Jvm.ClassFile.FieldType.char), Jvm.Cond.code ({ cls := "java/lang/StringUTF16", name := "charAt", desc := "([BI)C" } : Jvm.MethodName) jdk_52_method_83_code (2 : Nat) (Option.some Jvm.ClassFile.FieldType.char), Jvm.Cond.code ({ cls := "java/lang/StringUTF16", name := "checkIndex", desc := "(I[B)V" } : Jvm.MethodName) jdk_52_method_91_code (2 : Nat) (Option.none : Option Jvm.ClassFile.FieldType), Jvm.Cond.code ({ cls := "java/lang/StringUTF16", name := "length", desc := "([B)I" } : Jvm.MethodName) jdk_52_method_6_code (1 : Nat) (Option.some Jvm.ClassFile.FieldType.int)]
set_option maxRecDepth 65536 in
theorem codes_eq : words1.filter isCode = codes1 := rfl
theorem w_codes : ∀ c ∈ words1.filter isCode, c.before args0 about1 = true := by
  rw [codes_eq]
  intro c hc
  simp only [codes1, List.mem_cons, List.not_mem_nil, or_false] at hc
  rcases hc with rfl | rfl | rfl | rfl | rfl | rfl | rfl | rfl | rfl | rfl | rfl | rfl | rfl | rfl | rfl | rfl | rfl | rfl | rfl | rfl | rfl | rfl | rfl | rfl | rfl
  · exact w_c0
  · exact w_c1
  · exact w_c2
  · exact w_c3
  · exact w_c4
  · exact w_c5
  · exact w_c6
  · exact w_c7
  · exact w_c8
  · exact w_c9
  · exact w_c10
  · exact w_c11
  · exact w_c12
  · exact w_c13
  · exact w_c14
  · exact w_c15
  · exact w_c16
  · exact w_c17
  · exact w_c18
  · exact w_c19
  · exact w_c20
  · exact w_c21
  · exact w_c22
  · exact w_c23
  · exact w_c24
set_option maxRecDepth 65536 in
theorem w_t1 : (words1.take 24).all (fun c => isCode c || c.before args0 about1) = true := by decide +kernel
set_option maxRecDepth 65536 in
theorem w_t2 : ((words1.drop 24).take 24).all (fun c => isCode c || c.before args0 about1) = true := by decide +kernel
set_option maxRecDepth 65536 in
theorem w_t3 : (((words1.drop 24).drop 24).take 24).all (fun c => isCode c || c.before args0 about1) = true := by decide +kernel
set_option maxRecDepth 65536 in
theorem w_t4 : ((((words1.drop 24).drop 24).drop 24).take 24).all (fun c => isCode c || c.before args0 about1) = true := by decide +kernel
set_option maxRecDepth 65536 in
theorem w_t5 : ((((words1.drop 24).drop 24).drop 24).drop 24).all (fun c => isCode c || c.before args0 about1) = true := by decide +kernel
theorem w_tables : (allAtoms (Jvm.Cond.code x code maxLocals ret :: tables_1)).before args0 about1 = true := by
  rw [allAtoms_all]
  show words1.all (fun c => c.before args0 about1) = true
  refine all_split ?_ w_codes
  rw [← List.take_append_drop 24 words1, List.all_append, w_t1, ← List.take_append_drop 24 (words1.drop 24), List.all_append, w_t2, ← List.take_append_drop 24 ((words1.drop 24).drop 24), List.all_append, w_t3, ← List.take_append_drop 24 (((words1.drop 24).drop 24).drop 24), List.all_append, w_t4, w_t5]
  rfl
set_option maxRecDepth 65536 in
theorem w_rest : rest_1_c.before args0 about1 = true := by decide +kernel
set_option maxRecDepth 65536 in
theorem w_case : (Jvm.Cond.and given_1 narrow_1).before args0 about1 = true := by decide +kernel
set_option maxRecDepth 65536 in
theorem w_consts : constsHeld consts_1 about1 := Jvm.Lit.constsHeldB_iff.mp (by decide +kernel)
theorem w_applies : (headSpec (Jvm.Cond.code x code maxLocals ret :: tables_1) room_1).applies x e0.platform about1 = true :=
  (Spec.applies_iff w_frames).mpr ⟨w_running, w_runnable, w_alone, w_named, w_hears, w_ripe, w_room, w_tables⟩
theorem atStart : AtStart classFile x code maxLocals ret World_1 tables_1 room_1 Calls_1 rest_1 Pre_1 launch0 p0 e0 about1 theMethod args0 below0 :=
  ⟨lists_1, trivial, launch0.admits_env _ _ _, launch0.least_env, fairChoices_fair.cas, fairChoices_fair.clock, w_frames, w_args, w_heap, w_applies, ⟨w_consts, trivial⟩, w_rest, w_case⟩
end start1
theorem witness_1 : WitnessClaimed_1 := ⟨start1.p0, start1.e0, start1.about1, start1.theMethod, start1.args0, start1.below0, start1.atStart⟩
end Jvm.Pilot.@@N@@
