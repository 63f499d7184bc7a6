import JvmDerived
import JvmDerived.Pilot.@@N@@Statement
import JvmDerived.Pilot.@@N@@Code
set_option linter.unusedVariables false
set_option linter.unusedSimpArgs false
@@BLOCK:NumsL.lean.txt@@
namespace Jvm.RoadKit
open Sem ClassFile Op Lib Jvm.Stand Jvm.Free Jvm.LawKit
section New
variable {p : Program} {l : Launch} {e : Env} {R : Room} {s : State} {m : MethodId} {args : Array Value} {below : List Frame} {meth : Method} {c : Code} {T : State} {locs : List Loc} {cells slots : Nat}
theorem retI (X : Stand p l e R s m args below meth c T locs cells slots) (hx : p.tables.exec = Jvm.exec) {pc : Nat} {Ls : Array Slot} {z : Int32} {rest : List Value} (hret : meth.sig.returnType = some .int) (hd : decode c.code pc = .ok (.ireturn, 1)) {fs : List Frame}
    (hl : ∀ (f : JFrame) (acts : List Action), f.method = m → f.locked = none → f.entered = [] → (doReturn e (T.setTop f) acts (some (.int z))).1 = T.setFrames fs) : Steps p.tables e below (T.setTop (mkF m pc Ls (.int z :: rest))) (T.setFrames fs) := by
  have hm' : T.vm.method? m = some meth := X.method'
  have hn : narrow .int (.int z) = .int z := rfl
  show Steps p.tables e below (T.setTop { method := m, pc := pc, locals := Ls, stack := _ :: rest, locked := none }) _
  jvm_step X.here [X.here.top, hx, hd, hm', hret, hn]
  first | (intro acts; rw [hl _ acts rfl rfl rfl]) | rw [hl _ _ rfl rfl rfl]
  exact Steps.refl _
end New
end Jvm.RoadKit
/- laws to paste: Road.backV (cut by pick.py; bodies as the Statement names them) -/
namespace Jvm.Pilot.@@N@@
namespace StrChars
open Jvm Sem ClassFile Op Lib Jvm.Stand Jvm.Free.XT Jvm.Free.ALB Jvm.Free.JM Jvm.Free
open Jvm.Lib.Cold (StaticIs)
/-- a char array whose places are chars -/
def Ch (a : Addr) (A : Cell) (U : State) : Prop := Arr .char a A U ∧ Typed .char A
theorem Ch.mv {a : Addr} {A : Cell} {U U' : State} (h : Ch a A U) (hal : U.vm.Alike U'.vm) (hh : U'.heap = U.heap) : Ch a A U' := ⟨h.1.mv hal hh, h.2⟩
theorem Ch.keep {a : Addr} {A : Cell} {U U' : State} (h : Ch a A U) (hal : U.vm.Alike U'.vm) (hk : U'.heap[a]? = some A) : Ch a A U' := ⟨h.1.keep hal hk, h.2⟩
/-- what place i of a char[]'s cell holds -/
def cv (A : Cell) (i : Nat) : Int32 := match A.slots[i]? with | some (.int x) => x | _ => 0
theorem Ch.get {a : Addr} {A : Cell} {U : State} (h : Ch a A U) {i : Nat} (hi : i < A.slots.size) : A.slots[i]? = some (.int (cv A i)) := by
  have e := Array.getElem?_eq_getElem hi
  have f := h.2 i _ e
  unfold cv; rw [e]
  generalize A.slots[i] = v at f
  cases v <;> simp [fits] at f ⊢
/-- the byte that i2b leaves of a char -/
def lo8 (x : Int32) : Int32 := x.toInt8.toInt32
theorem fits_lo8 (y : Int32) : fits .byte (.int (lo8 y)) = true := by
  have h1 := y.toInt8.le_toInt
  have h2 := y.toInt8.toInt_lt
  simp only [lo8, fits, Bool.and_eq_true, decide_eq_true_eq, Int32.le_iff_toInt_le, Int8.toInt_toInt32, show (-128 : Int32).toInt = -128 from by decide, show (127 : Int32).toInt = 127 from by decide]
  omega
/-- A' is A but that each place j of lo .. hi - 1 holds f j -/
def Laid (A A' : Cell) (lo hi : Nat) (f : Nat → Value) : Prop := A'.cls = A.cls ∧ A'.vm = A.vm ∧ A'.slots.size = A.slots.size ∧ ∀ i, A'.slots[i]? = if lo ≤ i ∧ i < hi then some (f i) else A.slots[i]?
theorem Laid.zero (A : Cell) (lo : Nat) (f : Nat → Value) : Laid A A lo (lo + 0) f := ⟨rfl, rfl, rfl, fun i => by rw [if_neg (by omega)]⟩
theorem Laid.step {A Ak : Cell} {lo k : Nat} {f : Nat → Value} {v : Value} (h : Laid A Ak lo k f) (hlo : lo ≤ k) (hk : k < Ak.slots.size) (hv : v = f k) : Laid A (Ak.setSlot k v) lo (k + 1) f := by
  refine ⟨h.1, h.2.1, by simpa [Cell.setSlot] using h.2.2.1, fun i => ?_⟩
  by_cases e : k = i
  · subst e; rw [Cell.slots_setSlot_self v hk, if_pos (by omega), hv]
  · rw [Cell.slots_setSlot_ne v e, h.2.2.2 i]
    by_cases q : lo ≤ i ∧ i < k
    · rw [if_pos q, if_pos (by omega)]
    · rw [if_neg q, if_neg (by omega)]
def U16 : String := "java/lang/StringUTF16"
namespace Cmp5
def yN : MethodName := ⟨"java/lang/StringUTF16", "compress", "([CI[BII)I"⟩
abbrev yB : ByteArray := jdk_52_method_21_code
theorem d0 : decode yB 0 = .ok (.iconst 0, 1) := by decide +kernel
theorem d1 : decode yB 1 = .ok (.istore 5, 2) := by decide +kernel
theorem d3 : decode yB 3 = .ok (.iload 5, 2) := by decide +kernel
theorem d5 : decode yB 5 = .ok (.iload 4, 2) := by decide +kernel
theorem d7 : decode yB 7 = .ok (.if_icmp (.ge) 37, 3) := by decide +kernel
theorem d10 : decode yB 10 = .ok (.aload_n 0, 1) := by decide +kernel
theorem d11 : decode yB 11 = .ok (.iload_n 1, 1) := by decide +kernel
theorem d12 : decode yB 12 = .ok (.caload, 1) := by decide +kernel
theorem d13 : decode yB 13 = .ok (.istore 6, 2) := by decide +kernel
theorem d15 : decode yB 15 = .ok (.iload 6, 2) := by decide +kernel
theorem d17 : decode yB 17 = .ok (.sipush 255, 3) := by decide +kernel
theorem d20 : decode yB 20 = .ok (.if_icmp (.le) 6, 3) := by decide +kernel
theorem d26 : decode yB 26 = .ok (.aload_n 2, 1) := by decide +kernel
theorem d27 : decode yB 27 = .ok (.iload_n 3, 1) := by decide +kernel
theorem d28 : decode yB 28 = .ok (.iload 6, 2) := by decide +kernel
theorem d30 : decode yB 30 = .ok (.i2b, 1) := by decide +kernel
theorem d31 : decode yB 31 = .ok (.bastore, 1) := by decide +kernel
theorem d32 : decode yB 32 = .ok (.iinc 1 1, 3) := by decide +kernel
theorem d35 : decode yB 35 = .ok (.iinc 3 1, 3) := by decide +kernel
theorem d38 : decode yB 38 = .ok (.iinc 5 1, 3) := by decide +kernel
theorem d41 : decode yB 41 = .ok (.goto (-38), 3) := by decide +kernel
theorem d44 : decode yB 44 = .ok (.iload 4, 2) := by decide +kernel
theorem d46 : decode yB 46 = .ok (.ireturn, 1) := by decide +kernel
def site : List Cond := []
def tab : Cond := tabOf yN yB 7 (some .int) site
def P (b : Addr) (A : Cell) (d : Addr) (B : Cell) (o q len : Nat) (args : Array Value) (s : State) : Prop := args = #[.ref b, .int (Int32.ofNat o), .ref d, .int (Int32.ofNat q), .int (Int32.ofNat len)] ∧ Ch b A s ∧ Arr .byte d B s ∧ b ≠ d ∧ o + len ≤ A.slots.size ∧ q + len ≤ B.slots.size ∧ ∀ i, i < len → ¬ 255 < cv A (o + i)
def E (b : Addr) (A : Cell) (d : Addr) (B : Cell) (o q len : Nat) (r : Option Value) (s u : State) : Prop := r = some (.int (Int32.ofNat len)) ∧ ∃ B', Put d B' s u ∧ Laid B B' q (q + len) (fun j => Value.int (lo8 (cv A (o + (j - q)))))
/-- no char of the range above 255: len; the places written hold each char's low byte -/
theorem law (l : Launch) (b : Addr) (A : Cell) (d : Addr) (B : Cell) (o q len : Nat) : Law l yN 5 5 0 0 yB 7 (some .int) site (P b A d B o q len) (E b A d B o q len) (copyLocs d q len) 0 0 := by
  refine Law.of_walk (plainFor_of_name (by decide +kernel)) (by decide +kernel) (by decide +kernel) (by decide) (fun _ _ h => by rw [h.1]; rfl) (fun _ U U' hal hh h => ⟨h.1, h.2.1.mv hal hh, h.2.2.1.mv hal hh, h.2.2.2⟩) (fun r U U' V V' h1 hal h2 h => ⟨h.1, h.2.elim fun B' q => ⟨B', q.1.mv h1 h2, q.2⟩⟩) ?_
  intro p e s m args below meth c s₁ X0 hexec hbytes hml hret hlk hnm hown hh0 W hP
  obtain ⟨rfl, hA, hB, hne, l1, l2, hp⟩ := hP
  have c1 : Steps p.tables e below (s₁.setTop (entryFrame m #[.ref b, .int (Int32.ofNat o), .ref d, .int (Int32.ofNat q), .int (Int32.ofNat len)] 7)) (s₁.setTop (mkF m 0 #[.val (.ref b), .val (.int (Int32.ofNat o)), .val (.ref d), .val (.int (Int32.ofNat q)), .val (.int (Int32.ofNat len)), .unset, .unset] [])) := entry rfl
  have hA0 := hA.1.mv X0.warmed.alike hh0
  have hB0 := hB.mv X0.warmed.alike hh0
  have a31 := hA.1.2.2.2
  have c2 : Steps p.tables e below (s₁.setTop (entryFrame m #[.ref b, .int (Int32.ofNat o), .ref d, .int (Int32.ofNat q), .int (Int32.ofNat len)] 7)) (s₁.setTop (mkF m 3 #[.val (.ref b), .val (.int (Int32.ofNat o)), .val (.ref d), .val (.int (Int32.ofNat q)), .val (.int (Int32.ofNat len)), .val (.int 0), .unset] [])) := c1.trans (by
    refine iconstV X0.here hexec rfl 0 (hb hbytes d0) (by decide) ?_
    refine XS.istore X0.here hexec rfl (hb hbytes d1) rfl rfl ?_
    exact Steps.refl _)
  have loop : ∀ (r i : Nat), i + r = len → ∀ (z : Slot), (z = .unset ∨ ∃ w, z = .val w ∧ w.category = 1) → ∀ (Tl : State) (Bk : Cell), Stand p l e { frames := 0, locals := 0, cells := 0, slots := 0 } s m #[.ref b, .int (Int32.ofNat o), .ref d, .int (Int32.ofNat q), .int (Int32.ofNat len)] below meth c Tl ([] ++ copyLocs d q i) 0 0 → Put d Bk s₁ Tl → Laid B Bk q (q + i) (fun j => Value.int (lo8 (cv A (o + (j - q))))) →
      Steps p.tables e below (s₁.setTop (entryFrame m #[.ref b, .int (Int32.ofNat o), .ref d, .int (Int32.ofNat q), .int (Int32.ofNat len)] 7)) (Tl.setTop (mkF m 3 #[.val (.ref b), .val (.int (Int32.ofNat (o + i))), .val (.ref d), .val (.int (Int32.ofNat (q + i))), .val (.int (Int32.ofNat len)), .val (.int (Int32.ofNat i)), z] [])) → ∃ (T' : State) (B' : Cell) (z' : Slot), Stand p l e { frames := 0, locals := 0, cells := 0, slots := 0 } s m #[.ref b, .int (Int32.ofNat o), .ref d, .int (Int32.ofNat q), .int (Int32.ofNat len)] below meth c T' ([] ++ copyLocs d q len) 0 0 ∧ Put d B' s₁ T' ∧ Laid B B' q (q + len) (fun j => Value.int (lo8 (cv A (o + (j - q))))) ∧
      Steps p.tables e below (s₁.setTop (entryFrame m #[.ref b, .int (Int32.ofNat o), .ref d, .int (Int32.ofNat q), .int (Int32.ofNat len)] 7)) (T'.setTop (mkF m 3 #[.val (.ref b), .val (.int (Int32.ofNat (o + len))), .val (.ref d), .val (.int (Int32.ofNat (q + len))), .val (.int (Int32.ofNat len)), .val (.int (Int32.ofNat len)), z'] [])) := by
    intro r
    induction r with
    | zero =>
      intro i hi z hz Tl Bk Xl pl fl cl
      have hil : i = len := by omega
      rw [hil] at Xl fl cl
      exact ⟨Tl, Bk, z, Xl, pl, fl, cl⟩
    | succ r ih =>
      intro i hi z hz Tl Bk Xl pl fl cl
      have all := X0.warmed.alike.symm.trans Xl.warmed.alike
      have hAl := hA0.keep all (pl.other hne hA0.1)
      have hBk := hB0.like all pl.1 fl.1 fl.2.1 fl.2.2.1
      have hlt : q + i < Bk.slots.size := by rw [fl.2.2.1]; omega
      have c3 : Steps p.tables e below (s₁.setTop (entryFrame m #[.ref b, .int (Int32.ofNat o), .ref d, .int (Int32.ofNat q), .int (Int32.ofNat len)] 7)) (Tl.setTop (mkF m 12 #[.val (.ref b), .val (.int (Int32.ofNat (o + i))), .val (.ref d), .val (.int (Int32.ofNat (q + i))), .val (.int (Int32.ofNat len)), .val (.int (Int32.ofNat i)), z] [.int (Int32.ofNat (o + i)), .ref b])) := cl.trans (by
        refine XS.iload Xl.here hexec rfl (hb hbytes d3) rfl ?_
        refine XS.iload Xl.here hexec rfl (hb hbytes d5) rfl ?_
        refine XS.icmpNo Xl.here hexec rfl (hb hbytes d7) rfl (ii_ge_f (lt32 (by omega) (by omega))) ?_
        refine XS.aloadN Xl.here hexec rfl (hb hbytes d10) rfl rfl ?_
        refine XS.iloadN Xl.here hexec rfl (hb hbytes d11) rfl ?_
        exact Steps.refl _)
      have c4 : Steps p.tables e below (s₁.setTop (entryFrame m #[.ref b, .int (Int32.ofNat o), .ref d, .int (Int32.ofNat q), .int (Int32.ofNat len)] 7)) (Tl.setTop (mkF m 13 #[.val (.ref b), .val (.int (Int32.ofNat (o + i))), .val (.ref d), .val (.int (Int32.ofNat (q + i))), .val (.int (Int32.ofNat len)), .val (.int (Int32.ofNat i)), z] [.int (cv A (o + i))])) := c3.trans (by
        refine Xl.aget hexec hAl rfl (hA.get (i := o + i) (by omega)) rfl rfl (hb hbytes d12) ?_
        exact Steps.refl _)
      have c5 : Steps p.tables e below (s₁.setTop (entryFrame m #[.ref b, .int (Int32.ofNat o), .ref d, .int (Int32.ofNat q), .int (Int32.ofNat len)] 7)) (Tl.setTop (mkF m 15 #[.val (.ref b), .val (.int (Int32.ofNat (o + i))), .val (.ref d), .val (.int (Int32.ofNat (q + i))), .val (.int (Int32.ofNat len)), .val (.int (Int32.ofNat i)), .val (.int (cv A (o + i)))] [])) := c4.trans (by
        refine XS.istoreS Xl.here hexec rfl (hb hbytes d13) rfl rfl hz ?_
        exact Steps.refl _)
      have c6 : Steps p.tables e below (s₁.setTop (entryFrame m #[.ref b, .int (Int32.ofNat o), .ref d, .int (Int32.ofNat q), .int (Int32.ofNat len)] 7)) (Tl.setTop (mkF m 31 #[.val (.ref b), .val (.int (Int32.ofNat (o + i))), .val (.ref d), .val (.int (Int32.ofNat (q + i))), .val (.int (Int32.ofNat len)), .val (.int (Int32.ofNat i)), .val (.int (cv A (o + i)))] [.int (lo8 (cv A (o + i))), .int (Int32.ofNat (q + i)), .ref d])) := c5.trans (by
        refine XS.iload Xl.here hexec rfl (hb hbytes d15) rfl ?_
        refine sipushV Xl.here hexec rfl 255 (hb hbytes d17) (by decide) ?_
        refine XS.icmpYes Xl.here hexec rfl (pc0 := 20) rfl (hb hbytes d20) rfl (ii_le_t (hp i (by omega))) (by decide) rfl ?_
        refine XS.aloadN Xl.here hexec rfl (hb hbytes d26) rfl rfl ?_
        refine XS.iloadN Xl.here hexec rfl (hb hbytes d27) rfl ?_
        refine XS.iload Xl.here hexec rfl (hb hbytes d28) rfl ?_
        refine i2b Xl.here hexec rfl (hb hbytes d30) rfl ?_
        exact Steps.refl _)
      obtain ⟨T7, X7, p7, st7⟩ := Xl.aput hexec hBk rfl hlt rfl (fits_lo8 (cv A (o + i))) (g := (mkF m 31 #[.val (.ref b), .val (.int (Int32.ofNat (o + i))), .val (.ref d), .val (.int (Int32.ofNat (q + i))), .val (.int (Int32.ofNat len)), .val (.int (Int32.ofNat i)), .val (.int (cv A (o + i)))] [.int (lo8 (cv A (o + i))), .int (Int32.ofNat (q + i)), .ref d])) rfl (rest := []) rfl (hb hbytes d31)
      have c8 : Steps p.tables e below (s₁.setTop (entryFrame m #[.ref b, .int (Int32.ofNat o), .ref d, .int (Int32.ofNat q), .int (Int32.ofNat len)] 7)) (T7.setTop (mkF m 32 #[.val (.ref b), .val (.int (Int32.ofNat (o + i))), .val (.ref d), .val (.int (Int32.ofNat (q + i))), .val (.int (Int32.ofNat len)), .val (.int (Int32.ofNat i)), .val (.int (cv A (o + i)))] [])) := c6.trans (st7 _ (Steps.refl _))
      have c9 : Steps p.tables e below (s₁.setTop (entryFrame m #[.ref b, .int (Int32.ofNat o), .ref d, .int (Int32.ofNat q), .int (Int32.ofNat len)] 7)) (T7.setTop (mkF m 3 #[.val (.ref b), .val (.int (Int32.ofNat (o + i) + 1)), .val (.ref d), .val (.int (Int32.ofNat (q + i) + 1)), .val (.int (Int32.ofNat len)), .val (.int (Int32.ofNat i + 1)), .val (.int (cv A (o + i)))] [])) := c8.trans (by
        refine iincV X7.here hexec rfl 1 (hb hbytes d32) (by decide) rfl rfl ?_
        refine iincV X7.here hexec rfl 1 (hb hbytes d35) (by decide) rfl rfl ?_
        refine iincV X7.here hexec rfl 1 (hb hbytes d38) (by decide) rfl rfl ?_
        refine XS.goto X7.here hexec rfl (pc0 := 41) rfl (hb hbytes d41) (by decide) rfl ?_
        exact Steps.refl _)
      have c10 : Steps p.tables e below (s₁.setTop (entryFrame m #[.ref b, .int (Int32.ofNat o), .ref d, .int (Int32.ofNat q), .int (Int32.ofNat len)] 7)) (T7.setTop (mkF m 3 #[.val (.ref b), .val (.int (Int32.ofNat (o + (i + 1)))), .val (.ref d), .val (.int (Int32.ofNat (q + (i + 1)))), .val (.int (Int32.ofNat len)), .val (.int (Int32.ofNat (i + 1))), .val (.int (cv A (o + i)))] [])) := by
        have := c9
        rw [succ32, succ32, succ32] at this
        exact this
      exact ih (i + 1) (by omega) _ (Or.inr ⟨_, rfl, rfl⟩) T7 _ (by rw [copyLocs_step, ← List.append_assoc]; exact X7) (pl.trans p7) (fl.step (by omega) hlt (by simp)) c10
  obtain ⟨T9, B9, z9, X9, p9, f9, g9⟩ := loop len 0 (by omega) .unset (Or.inl rfl) s₁ B (by simpa [copyLocs] using X0) ⟨hB0.1, fun _ _ => rfl, rfl⟩ (Laid.zero _ _ _) c2
  have c11 : Steps p.tables e below (s₁.setTop (entryFrame m #[.ref b, .int (Int32.ofNat o), .ref d, .int (Int32.ofNat q), .int (Int32.ofNat len)] 7)) (T9.setTop (mkF m 46 #[.val (.ref b), .val (.int (Int32.ofNat (o + len))), .val (.ref d), .val (.int (Int32.ofNat (q + len))), .val (.int (Int32.ofNat len)), .val (.int (Int32.ofNat len)), z9] [.int (Int32.ofNat len)])) := g9.trans (by
    refine XS.iload X9.here hexec rfl (hb hbytes d3) rfl ?_
    refine XS.iload X9.here hexec rfl (hb hbytes d5) rfl ?_
    refine XS.icmpYes X9.here hexec rfl (pc0 := 7) rfl (hb hbytes d7) rfl (ii_ge_t (nlt32 (by omega) (Nat.le_refl _))) (by decide) rfl ?_
    refine XS.iload X9.here hexec rfl (hb hbytes d44) rfl ?_
    exact Steps.refl _)
  exact ⟨T9, some (.int (Int32.ofNat len)), _, _, _, X9, by simp, rfl, rfl, (fun h => by cases h), ⟨rfl, B9, p9.from hh0, f9⟩, fun fs hl => c11.trans (X9.ireturnOut hexec hret rfl (Or.inl rfl) (hb hbytes d46) hl)⟩
end Cmp5
namespace Cmp3
def yN : MethodName := ⟨"java/lang/StringUTF16", "compress", "([CII)[B"⟩
abbrev yB : ByteArray := jdk_52_method_16_code
theorem d0 : decode yB 0 = .ok (.iload_n 2, 1) := by decide +kernel
theorem d1 : decode yB 1 = .ok (.newarray .byte, 2) := by decide +kernel
theorem d3 : decode yB 3 = .ok (.astore_n 3, 1) := by decide +kernel
theorem d4 : decode yB 4 = .ok (.aload_n 0, 1) := by decide +kernel
theorem d5 : decode yB 5 = .ok (.iload_n 1, 1) := by decide +kernel
theorem d6 : decode yB 6 = .ok (.aload_n 3, 1) := by decide +kernel
theorem d7 : decode yB 7 = .ok (.iconst 0, 1) := by decide +kernel
theorem d8 : decode yB 8 = .ok (.iload_n 2, 1) := by decide +kernel
theorem d9 : decode yB 9 = .ok (.invokestatic 115, 3) := by decide +kernel
theorem d12 : decode yB 12 = .ok (.istore 4, 2) := by decide +kernel
theorem d14 : decode yB 14 = .ok (.iload 4, 2) := by decide +kernel
theorem d16 : decode yB 16 = .ok (.iload_n 2, 1) := by decide +kernel
theorem d17 : decode yB 17 = .ok (.if_icmp (.eq) 40, 3) := by decide +kernel
theorem d57 : decode yB 57 = .ok (.aload_n 3, 1) := by decide +kernel
theorem d58 : decode yB 58 = .ok (.areturn, 1) := by decide +kernel
def site : List Cond := [.arrayClass .byte, Cmp5.tab] ++ staticW U16 115 Cmp5.yN
def tab : Cond := tabOf yN yB 6 (some (.array .byte)) site
def P (b : Addr) (A : Cell) (o len : Nat) (args : Array Value) (s : State) : Prop := args = #[.ref b, .int (Int32.ofNat o), .int (Int32.ofNat len)] ∧ Ch b A s ∧ o + len ≤ A.slots.size ∧ len ≤ 536870912 ∧ ∀ i, i < len → ¬ 255 < cv A (o + i)
def E (b : Addr) (A : Cell) (o len : Nat) (r : Option Value) (s u : State) : Prop := NewArr .byte "[B" len (fun j => .int (lo8 (cv A (o + j)))) r s u ∧ u.heap.size = s.heap.size + 1
/-- no char of the range above 255: a new byte[] of their low bytes -/
theorem law (l : Launch) (b : Addr) (A : Cell) (o len : Nat) : Law l yN 3 3 1 18 yB 6 (some (.array .byte)) site (P b A o len) (E b A o len) [] 1 len := by
  refine Law.of_walk (plainFor_of_name (by decide +kernel)) (by decide +kernel) (by decide +kernel) (by decide) (fun _ _ h => by rw [h.1]; rfl) (fun _ U U' hal hh h => ⟨h.1, h.2.1.mv hal hh, h.2.2⟩) (fun r U U' V V' h1 hal h2 h => ⟨NewArr.mv r U U' V V' h1 hal h2 h.1, by rw [h1, h2]; exact h.2⟩) ?_
  intro p e s m args below meth c s₁ X0 hexec hbytes hml hret hlk hnm hown hh0 W hP
  obtain ⟨rfl, hA, l1, l2, hp⟩ := hP
  have a31 := hA.1.2.2.2
  have c1 : Steps p.tables e below (s₁.setTop (entryFrame m #[.ref b, .int (Int32.ofNat o), .int (Int32.ofNat len)] 6)) (s₁.setTop (mkF m 0 #[.val (.ref b), .val (.int (Int32.ofNat o)), .val (.int (Int32.ofNat len)), .unset, .unset, .unset] [])) := entry rfl
  have c2 : Steps p.tables e below (s₁.setTop (entryFrame m #[.ref b, .int (Int32.ofNat o), .int (Int32.ofNat len)] 6)) (s₁.setTop (mkF m 1 #[.val (.ref b), .val (.int (Int32.ofNat o)), .val (.int (Int32.ofNat len)), .unset, .unset, .unset] [.int (Int32.ofNat len)])) := c1.trans (by
    refine XS.iloadN X0.here hexec rfl (hb hbytes d0) rfl ?_
    exact Steps.refl _)
  obtain ⟨T3, B3, X3, ba3, bs3, bv3, bh3, bf3, st3⟩ := X0.anew hexec (atype := .byte) (wk W (.arrayClass .byte)) rfl (by show len * 1 ≤ _; omega) (by omega) (g := (mkF m 1 #[.val (.ref b), .val (.int (Int32.ofNat o)), .val (.int (Int32.ofNat len)), .unset, .unset, .unset] [.int (Int32.ofNat len)])) rfl (hb hbytes d1) (rest := []) rfl (Nat.le_refl _) (by show 0 + len ≤ len; omega)
  rw [hh0] at ba3 st3
  have kp3 : XT.Kept s T3 := (XT.Kept.of_eq hh0).push bh3
  have hA3 := hA.keep X3.warmed.alike (kp3 _ _ hA.1.1)
  have hne : b ≠ s.heap.size := hA.1.ne
  have c4 : Steps p.tables e below (s₁.setTop (entryFrame m #[.ref b, .int (Int32.ofNat o), .int (Int32.ofNat len)] 6)) (T3.setTop (mkF m 3 #[.val (.ref b), .val (.int (Int32.ofNat o)), .val (.int (Int32.ofNat len)), .unset, .unset, .unset] [.ref s.heap.size])) := c2.trans (st3 _ (Steps.refl _))
  have c5 : Steps p.tables e below (s₁.setTop (entryFrame m #[.ref b, .int (Int32.ofNat o), .int (Int32.ofNat len)] 6)) (T3.setTop (mkF m 9 #[.val (.ref b), .val (.int (Int32.ofNat o)), .val (.int (Int32.ofNat len)), .val (.ref s.heap.size), .unset, .unset] [.int (Int32.ofNat len), .int 0, .ref s.heap.size, .int (Int32.ofNat o), .ref b])) := c4.trans (by
    refine XS.astoreN X3.here hexec rfl (hb hbytes d3) rfl rfl rfl ?_
    refine XS.aloadN X3.here hexec rfl (hb hbytes d4) rfl rfl ?_
    refine XS.iloadN X3.here hexec rfl (hb hbytes d5) rfl ?_
    refine XS.aloadN X3.here hexec rfl (hb hbytes d6) rfl rfl ?_
    refine iconstV X3.here hexec rfl 0 (hb hbytes d7) (by decide) ?_
    refine XS.iloadN X3.here hexec rfl (hb hbytes d8) rfl ?_
    exact Steps.refl _)
  obtain ⟨v6, T6, X6, E6, g6⟩ := X3.callS hexec (Cmp5.law l b A s.heap.size B3 o 0 len) hown (wks W (staticW U16 115 Cmp5.yN)) (wk W Cmp5.tab) (W := 0) (Nat.le_of_ble_eq_true rfl) (Nat.le_of_ble_eq_true rfl) (Nat.le_refl _) (by show 0 + len + 0 ≤ len; omega) (g := (mkF m 9 #[.val (.ref b), .val (.int (Int32.ofNat o)), .val (.int (Int32.ofNat len)), .val (.ref s.heap.size), .unset, .unset] [.int (Int32.ofNat len), .int (Int32.ofNat 0), .ref s.heap.size, .int (Int32.ofNat o), .ref b])) rfl (by rw [hml]; rfl) c5 (argsL := [.ref b, .int (Int32.ofNat o), .ref s.heap.size, .int (Int32.ofNat 0), .int (Int32.ofNat len)]) (rest := []) rfl rfl (by show 2 * 0 + 0 ≤ _; decide) (hb hbytes d9) (⟨rfl, hA3, ba3, hne, l1, by rw [bs3]; simp, hp⟩)
  obtain ⟨rfl, B6, p6, f6⟩ := E6
  have c7 : Steps p.tables e below (s₁.setTop (entryFrame m #[.ref b, .int (Int32.ofNat o), .int (Int32.ofNat len)] 6)) (T6.setTop (mkF m 12 #[.val (.ref b), .val (.int (Int32.ofNat o)), .val (.int (Int32.ofNat len)), .val (.ref s.heap.size), .unset, .unset] [.int (Int32.ofNat len)])) := g6
  have c8 : Steps p.tables e below (s₁.setTop (entryFrame m #[.ref b, .int (Int32.ofNat o), .int (Int32.ofNat len)] 6)) (T6.setTop (mkF m 58 #[.val (.ref b), .val (.int (Int32.ofNat o)), .val (.int (Int32.ofNat len)), .val (.ref s.heap.size), .val (.int (Int32.ofNat len)), .unset] [.ref s.heap.size])) := c7.trans (by
    refine XS.istore X6.here hexec rfl (hb hbytes d12) rfl rfl ?_
    refine XS.iload X6.here hexec rfl (hb hbytes d14) rfl ?_
    refine XS.iloadN X6.here hexec rfl (hb hbytes d16) rfl ?_
    refine XS.icmpYes X6.here hexec rfl (pc0 := 17) rfl (hb hbytes d17) rfl (ii_eq_t rfl) (by decide) rfl ?_
    refine XS.aloadN X6.here hexec rfl (hb hbytes d57) rfl rfl ?_
    exact Steps.refl _)
  have X8 := X6.wide (L' := []) (cells' := 1) (slots' := len) (fun x hx hlt => by
    simp only [List.nil_append, copyLocs, List.mem_map, List.mem_range] at hx
    obtain ⟨i, -, rfl⟩ := hx
    exact absurd hlt (Nat.lt_irrefl _)) (Nat.le_refl _) (by omega)
  exact ⟨T6, some (.ref s.heap.size), _, _, _, X8, rfl, rfl, rfl, (fun h => by cases h), ⟨⟨rfl, B6, ba3.like (X3.warmed.alike.symm.trans X6.warmed.alike) p6.1 f6.1 f6.2.1 f6.2.2.1, f6.2.1.trans bv3, by rw [X6.warmed.alike.findClass, f6.1]; exact bf3, by rw [f6.2.2.1, bs3]; simp, fun j hj => by rw [f6.2.2.2 j, if_pos (by omega)]; rfl, kp3.put p6 (Nat.le_refl _)⟩, by rw [p6.2.2, bh3, hh0]; simp⟩, fun fs hl => c8.trans (X8.areturnOut hexec rfl hret rfl (hb hbytes d58) hl)⟩
end Cmp3
namespace CodL
def yN : MethodName := ⟨"java/lang/StringUTF16", "coderFromArrayLen", "([BI)B"⟩
abbrev yB : ByteArray := jdk_52_method_15_code
theorem d0 : decode yB 0 = .ok (.iload_n 1, 1) := by decide +kernel
theorem d1 : decode yB 1 = .ok (.aload_n 0, 1) := by decide +kernel
theorem d2 : decode yB 2 = .ok (.arraylength, 1) := by decide +kernel
theorem d3 : decode yB 3 = .ok (.isub, 1) := by decide +kernel
theorem d4 : decode yB 4 = .ok (.bipush 31, 2) := by decide +kernel
theorem d6 : decode yB 6 = .ok (.iushr, 1) := by decide +kernel
theorem d7 : decode yB 7 = .ok (.i2b, 1) := by decide +kernel
theorem d8 : decode yB 8 = .ok (.ireturn, 1) := by decide +kernel
def site : List Cond := []
def tab : Cond := tabOf yN yB 2 (some .byte) site
def P (d : Addr) (B : Cell) (args : Array Value) (s : State) : Prop := args = #[.ref d, .int (Int32.ofNat B.slots.size)] ∧ Arr .byte d B s
def E (r : Option Value) (s u : State) : Prop := XT.PureE (some (.int 0)) r s u
/-- an array as long as the number of chars: LATIN1 -/
theorem law (l : Launch) (d : Addr) (B : Cell) : Law l yN 2 2 0 0 yB 2 (some .byte) site (P d B) E [] 0 0 := by
  refine Law.of_walk (plainFor_of_name (by decide +kernel)) (by decide +kernel) (by decide +kernel) (by decide) (fun _ _ h => by rw [h.1]; rfl) (fun _ U U' hal hh h => ⟨h.1, h.2.mv hal hh⟩) (fun r U U' V V' h1 hal h2 h => XT.PureE.mv r U U' V V' h1 hal h2 h) ?_
  intro p e s m args below meth c s₁ X0 hexec hbytes hml hret hlk hnm hown hh0 W hP
  obtain ⟨rfl, hB⟩ := hP
  have hB0 := hB.mv X0.warmed.alike hh0
  have c1 : Steps p.tables e below (s₁.setTop (entryFrame m #[.ref d, .int (Int32.ofNat B.slots.size)] 2)) (s₁.setTop (mkF m 0 #[.val (.ref d), .val (.int (Int32.ofNat B.slots.size))] [])) := entry rfl
  have c2 : Steps p.tables e below (s₁.setTop (entryFrame m #[.ref d, .int (Int32.ofNat B.slots.size)] 2)) (s₁.setTop (mkF m 2 #[.val (.ref d), .val (.int (Int32.ofNat B.slots.size))] [.ref d, .int (Int32.ofNat B.slots.size)])) := c1.trans (by
    refine XS.iloadN X0.here hexec rfl (hb hbytes d0) rfl ?_
    refine XS.aloadN X0.here hexec rfl (hb hbytes d1) rfl rfl ?_
    exact Steps.refl _)
  have c3 : Steps p.tables e below (s₁.setTop (entryFrame m #[.ref d, .int (Int32.ofNat B.slots.size)] 2)) (s₁.setTop (mkF m 8 #[.val (.ref d), .val (.int (Int32.ofNat B.slots.size))] [.int (lo8 (ushr (Int32.ofNat B.slots.size - Int32.ofNat B.slots.size) 31))])) := c2.trans (by
    refine X0.alen hexec hB0 rfl rfl (hb hbytes d2) ?_
    refine XS.isub X0.here hexec rfl (hb hbytes d3) rfl ?_
    refine bipushV X0.here hexec rfl 31 (hb hbytes d4) (by decide) ?_
    refine iushr X0.here hexec rfl (hb hbytes d6) rfl ?_
    refine i2b X0.here hexec rfl (hb hbytes d7) rfl ?_
    exact Steps.refl _)
  have e0 : lo8 (ushr (Int32.ofNat B.slots.size - Int32.ofNat B.slots.size) 31) = 0 := by rw [Int32.sub_self]; decide
  rw [e0] at c3
  exact ⟨s₁, some (.int 0), _, _, _, X0, rfl, rfl, rfl, (fun h => by cases h), ⟨rfl, hh0⟩, fun fs hl => c3.trans (X0.ireturnOut hexec hret rfl (Or.inr (Or.inr (Or.inl rfl))) (hb hbytes d8) hl)⟩
end CodL
/-- the String at a is Latin-1 over a new byte[] (the heap's one new cell): the low bytes of the len chars of A from o on; every cell but a is kept -/
def Got (a : Addr) (D : Cell) (fV fC : Field) (A : Cell) (o len : Nat) (r : Option Value) (s u : State) : Prop := r = none ∧ ∃ D' V : Cell, Blank "java/lang/String" a D' u ∧ Same D D' [fV.slot, fC.slot] ∧ D'.slots[fV.slot]? = some (.ref s.heap.size) ∧ D'.slots[fC.slot]? = some (.int 0) ∧ Arr .byte s.heap.size V u ∧ V.vm = .none ∧ u.vm.findClass "[B" = some V.cls ∧ V.slots.size = len ∧ (∀ j, j < len → V.slots[j]? = some (.int (lo8 (cv A (o + j))))) ∧ (∀ (y : Addr) (c : Cell), y ≠ a → s.heap[y]? = some c → u.heap[y]? = some c) ∧ u.heap.size = s.heap.size + 1
theorem Got.mv {a : Addr} {D A : Cell} {fV fC : Field} {o len : Nat} : ∀ r (U U' V V' : State), U'.heap = U.heap → V.vm.Alike V'.vm → V'.heap = V.heap → Got a D fV fC A o len r U V → Got a D fV fC A o len r U' V' :=
  fun r U U' V V' h1 hal h2 ⟨e0, D', X, a1, a2, a3, a4, a5, a6, a7, a8, a9, a10, a11⟩ => ⟨e0, D', X, a1.mv hal h2, a2, by rw [h1]; exact a3, a4, by rw [h1]; exact a5.mv hal h2, a6, by rw [hal.findClass]; exact a7, a8, a9, by rw [h1, h2]; exact a10, by rw [h1, h2]; exact a11⟩
namespace New4
def yN : MethodName := ⟨"java/lang/String", "<init>", "([CIILjava/lang/Void;)V"⟩
abbrev yB : ByteArray := jdk_42_method_149_code
theorem d0 : decode yB 0 = .ok (.aload_n 0, 1) := by decide +kernel
theorem d1 : decode yB 1 = .ok (.invokespecial 1, 3) := by decide +kernel
theorem d4 : decode yB 4 = .ok (.iload_n 3, 1) := by decide +kernel
theorem d5 : decode yB 5 = .ok (.ifCond (.ne) 22, 3) := by decide +kernel
theorem d27 : decode yB 27 = .ok (.getstatic 38, 3) := by decide +kernel
theorem d30 : decode yB 30 = .ok (.ifCond (.eq) 28, 3) := by decide +kernel
theorem d33 : decode yB 33 = .ok (.aload_n 1, 1) := by decide +kernel
theorem d34 : decode yB 34 = .ok (.iload_n 2, 1) := by decide +kernel
theorem d35 : decode yB 35 = .ok (.iload_n 3, 1) := by decide +kernel
theorem d36 : decode yB 36 = .ok (.invokestatic 177, 3) := by decide +kernel
theorem d39 : decode yB 39 = .ok (.astore 5, 2) := by decide +kernel
theorem d41 : decode yB 41 = .ok (.aload_n 0, 1) := by decide +kernel
theorem d42 : decode yB 42 = .ok (.aload 5, 2) := by decide +kernel
theorem d44 : decode yB 44 = .ok (.iload_n 3, 1) := by decide +kernel
theorem d45 : decode yB 45 = .ok (.invokestatic 47, 3) := by decide +kernel
theorem d48 : decode yB 48 = .ok (.putfield 15, 3) := by decide +kernel
theorem d51 : decode yB 51 = .ok (.aload_n 0, 1) := by decide +kernel
theorem d52 : decode yB 52 = .ok (.aload 5, 2) := by decide +kernel
theorem d54 : decode yB 54 = .ok (.putfield 9, 3) := by decide +kernel
theorem d57 : decode yB 57 = .ok (.return_, 1) := by decide +kernel
def site : List Cond := [.fieldLink "java/lang/String" 38 "java/lang/String" "COMPACT_STRINGS" "Z", Cmp3.tab, CodL.tab, .laysFinal "java/lang/String" "java/lang/String" "value" "[B", .fieldLink "java/lang/String" 9 "java/lang/String" "value" "[B", .laysFinal "java/lang/String" "java/lang/String" "coder" "B", .fieldLink "java/lang/String" 15 "java/lang/String" "coder" "B"] ++ objW "java/lang/String" 1 ++ staticW "java/lang/String" 177 Cmp3.yN ++ staticW "java/lang/String" 47 CodL.yN
def tab : Cond := tabOf yN yB 6 none site
def P (a : Addr) (D : Cell) (fV fC : Field) (b : Addr) (A : Cell) (z : Int32) (o len : Nat) (args : Array Value) (s : State) : Prop := args = #[.ref a, .ref b, .int (Int32.ofNat o), .int (Int32.ofNat len), .null] ∧ Blank "java/lang/String" a D s ∧ Found "java/lang/String" "value" "[B" fV s ∧ Found "java/lang/String" "coder" "B" fC s ∧ Ch b A s ∧ StaticIs s "java/lang/String" "COMPACT_STRINGS" "Z" (.int z) ∧ ¬ z = 0 ∧ 0 < len ∧ o + len ≤ A.slots.size ∧ len ≤ 536870912 ∧ ∀ i, i < len → ¬ 255 < cv A (o + i)
def E (a : Addr) (D : Cell) (fV fC : Field) (A : Cell) (o len : Nat) (r : Option Value) (s u : State) : Prop := Got a D fV fC A o len r s u
/-- len > 0, no char of the range above 255: a Latin-1 String of their low bytes -/
theorem law (l : Launch) (a : Addr) (D : Cell) (fV fC : Field) (b : Addr) (A : Cell) (z : Int32) (o len : Nat) : Law l yN 5 4 2 35 yB 6 none site (P a D fV fC b A z o len) (E a D fV fC A o len) [⟨a, fC.slot⟩, ⟨a, fV.slot⟩] 1 len := by
  refine Law.of_walk (plainFor_of_name (by decide +kernel)) (by decide +kernel) (by decide +kernel) (by decide) (fun _ _ h => by rw [h.1]; rfl) (fun _ U U' hal hh h => ⟨h.1, h.2.1.mv hal hh, h.2.2.1.al hal, h.2.2.2.1.al hal, h.2.2.2.2.1.mv hal hh, h.2.2.2.2.2.1.there hal hh, h.2.2.2.2.2.2⟩) (fun r U U' V V' h1 hal h2 h => Got.mv r U U' V V' h1 hal h2 h) ?_
  intro p e s m args below meth c s₁ X0 hexec hbytes hml hret hlk hnm hown hh0 W hP
  obtain ⟨rfl, hB, f1, f2, hA, s1, hz, l0, l1, l2, hp⟩ := hP
  have a31 := hA.1.2.2.2
  have c1 : Steps p.tables e below (s₁.setTop (entryFrame m #[.ref a, .ref b, .int (Int32.ofNat o), .int (Int32.ofNat len), .null] 6)) (s₁.setTop (mkF m 0 #[.val (.ref a), .val (.ref b), .val (.int (Int32.ofNat o)), .val (.int (Int32.ofNat len)), .val .null, .unset] [])) := entry rfl
  have c2 : Steps p.tables e below (s₁.setTop (entryFrame m #[.ref a, .ref b, .int (Int32.ofNat o), .int (Int32.ofNat len), .null] 6)) (s₁.setTop (mkF m 1 #[.val (.ref a), .val (.ref b), .val (.int (Int32.ofNat o)), .val (.int (Int32.ofNat len)), .val .null, .unset] [.ref a])) := c1.trans (by
    refine XS.aloadN X0.here hexec rfl (hb hbytes d0) rfl rfl ?_
    exact Steps.refl _)
  obtain ⟨T3, X3, q3, st3⟩ := X0.oinit hexec hown (wks W (objW "java/lang/String" 1)) (g := (mkF m 1 #[.val (.ref a), .val (.ref b), .val (.int (Int32.ofNat o)), .val (.int (Int32.ofNat len)), .val .null, .unset] [.ref a])) rfl (by rw [hml]; rfl) (rest := []) rfl (hb hbytes d1) (W := 0) (by show 2 * 0 + 0 ≤ _; decide) (Nat.le_of_ble_eq_true rfl) (Nat.le_of_ble_eq_true rfl)
  have hh3 := q3.trans hh0
  have c4 : Steps p.tables e below (s₁.setTop (entryFrame m #[.ref a, .ref b, .int (Int32.ofNat o), .int (Int32.ofNat len), .null] 6)) (T3.setTop (mkF m 27 #[.val (.ref a), .val (.ref b), .val (.int (Int32.ofNat o)), .val (.int (Int32.ofNat len)), .val .null, .unset] [])) := (c2.trans (st3 _ (Steps.refl _))).trans (by
    refine XS.iloadN X3.here hexec rfl (hb hbytes d4) rfl ?_
    refine XS.ifYes X3.here hexec rfl (pc0 := 5) rfl (hb hbytes d5) rfl (i0_ne_t (nz32 (by omega) l0)) (by decide) rfl ?_
    exact Steps.refl _)
  obtain ⟨T5, X5, q5, st5⟩ := X3.sget hexec hown (wk W (.fieldLink "java/lang/String" 38 "java/lang/String" "COMPACT_STRINGS" "Z")) s1 (fun _ _ h => by rw [hh3]; exact h) (g := (mkF m 27 #[.val (.ref a), .val (.ref b), .val (.int (Int32.ofNat o)), .val (.int (Int32.ofNat len)), .val .null, .unset] [])) rfl (hb hbytes d27)
  have hh5 := q5.trans hh3
  have c6 : Steps p.tables e below (s₁.setTop (entryFrame m #[.ref a, .ref b, .int (Int32.ofNat o), .int (Int32.ofNat len), .null] 6)) (T5.setTop (mkF m 30 #[.val (.ref a), .val (.ref b), .val (.int (Int32.ofNat o)), .val (.int (Int32.ofNat len)), .val .null, .unset] [.int z])) := c4.trans (st5 _ (Steps.refl _))
  have c7 : Steps p.tables e below (s₁.setTop (entryFrame m #[.ref a, .ref b, .int (Int32.ofNat o), .int (Int32.ofNat len), .null] 6)) (T5.setTop (mkF m 36 #[.val (.ref a), .val (.ref b), .val (.int (Int32.ofNat o)), .val (.int (Int32.ofNat len)), .val .null, .unset] [.int (Int32.ofNat len), .int (Int32.ofNat o), .ref b])) := c6.trans (by
    refine XS.ifNo X5.here hexec rfl (hb hbytes d30) rfl (i0_eq_f hz) ?_
    refine XS.aloadN X5.here hexec rfl (hb hbytes d33) rfl rfl ?_
    refine XS.iloadN X5.here hexec rfl (hb hbytes d34) rfl ?_
    refine XS.iloadN X5.here hexec rfl (hb hbytes d35) rfl ?_
    exact Steps.refl _)
  obtain ⟨v8, T8, X8, E8, g8⟩ := X5.callS hexec (Cmp3.law l b A o len) hown (wks W (staticW "java/lang/String" 177 Cmp3.yN)) (wk W Cmp3.tab) (W := 0) (Nat.le_of_ble_eq_true rfl) (Nat.le_of_ble_eq_true rfl) (Nat.le_refl _) (by show 0 + len ≤ len; omega) (g := (mkF m 36 #[.val (.ref a), .val (.ref b), .val (.int (Int32.ofNat o)), .val (.int (Int32.ofNat len)), .val .null, .unset] [.int (Int32.ofNat len), .int (Int32.ofNat o), .ref b])) rfl (by rw [hml]; rfl) c7 (argsL := [.ref b, .int (Int32.ofNat o), .int (Int32.ofNat len)]) (rest := []) rfl rfl (by show 2 * 0 + 0 ≤ _; decide) (hb hbytes d36) (⟨rfl, hA.mv X5.warmed.alike hh5, l1, l2, hp⟩)
  obtain ⟨e8, z8⟩ := E8
  obtain ⟨rfl, N, n1, n2, n3, n4, n5, n6⟩ := NewArr.mv _ T5 s _ _ hh5.symm (Vm.Alike.refl _) rfl e8
  rw [hh5] at z8
  have hB1 := hB.keep X8.warmed.alike (n6 _ _ hB.1)
  have hne : s.heap.size ≠ a := (Nat.ne_of_lt (Array.getElem?_eq_some_iff.mp hB.1).1).symm
  have c9 : Steps p.tables e below (s₁.setTop (entryFrame m #[.ref a, .ref b, .int (Int32.ofNat o), .int (Int32.ofNat len), .null] 6)) (T8.setTop (mkF m 39 #[.val (.ref a), .val (.ref b), .val (.int (Int32.ofNat o)), .val (.int (Int32.ofNat len)), .val .null, .unset] [.ref s.heap.size])) := g8
  have c10 : Steps p.tables e below (s₁.setTop (entryFrame m #[.ref a, .ref b, .int (Int32.ofNat o), .int (Int32.ofNat len), .null] 6)) (T8.setTop (mkF m 45 #[.val (.ref a), .val (.ref b), .val (.int (Int32.ofNat o)), .val (.int (Int32.ofNat len)), .val .null, .val (.ref s.heap.size)] [.int (Int32.ofNat N.slots.size), .ref s.heap.size, .ref a])) := by
    have hc : Steps p.tables e below (s₁.setTop (entryFrame m #[.ref a, .ref b, .int (Int32.ofNat o), .int (Int32.ofNat len), .null] 6)) (T8.setTop (mkF m 45 #[.val (.ref a), .val (.ref b), .val (.int (Int32.ofNat o)), .val (.int (Int32.ofNat len)), .val .null, .val (.ref s.heap.size)] [.int (Int32.ofNat len), .ref s.heap.size, .ref a])) := c9.trans (by
      refine XS.astore X8.here hexec rfl (hb hbytes d39) rfl rfl rfl ?_
      refine XS.aloadN X8.here hexec rfl (hb hbytes d41) rfl rfl ?_
      refine XS.aload X8.here hexec rfl (hb hbytes d42) rfl rfl ?_
      refine XS.iloadN X8.here hexec rfl (hb hbytes d44) rfl ?_
      exact Steps.refl _)
    rw [n4]; exact hc
  obtain ⟨v11, T11, X11, E11, g11⟩ := X8.callS hexec (CodL.law l s.heap.size N) hown (wks W (staticW "java/lang/String" 47 CodL.yN)) (wk W CodL.tab) (W := 1) (Nat.le_of_ble_eq_true rfl) (Nat.le_of_ble_eq_true rfl) (Nat.le_refl _) (by show 0 + len + 0 ≤ len; omega) (g := (mkF m 45 #[.val (.ref a), .val (.ref b), .val (.int (Int32.ofNat o)), .val (.int (Int32.ofNat len)), .val .null, .val (.ref s.heap.size)] [.int (Int32.ofNat N.slots.size), .ref s.heap.size, .ref a])) rfl (by rw [hml]; rfl) c10 (argsL := [.ref s.heap.size, .int (Int32.ofNat N.slots.size)]) (rest := [.ref a]) rfl rfl (by show 2 * 0 + (1 + 0) ≤ _; decide) (hb hbytes d45) (⟨rfl, n1⟩)
  obtain ⟨rfl, q11⟩ := E11
  have hB11 := hB1.mv (X8.warmed.alike.symm.trans X11.warmed.alike) q11
  have c12 : Steps p.tables e below (s₁.setTop (entryFrame m #[.ref a, .ref b, .int (Int32.ofNat o), .int (Int32.ofNat len), .null] 6)) (T11.setTop (mkF m 48 #[.val (.ref a), .val (.ref b), .val (.int (Int32.ofNat o)), .val (.int (Int32.ofNat len)), .val .null, .val (.ref s.heap.size)] [.int 0, .ref a])) := g11
  obtain ⟨T13, X13, p13, bl13, sl13, st13⟩ := X11.finit hexec hown (wk W (.fieldLink "java/lang/String" 15 "java/lang/String" "coder" "B")) (Or.inr ⟨_, (wk W (.laysFinal "java/lang/String" "java/lang/String" "coder" "B"))⟩) (Or.inl ⟨rfl, hnm⟩) f2 (Or.inl rfl) hB11 (t := .byte) (by decide +kernel) rfl (g := (mkF m 48 #[.val (.ref a), .val (.ref b), .val (.int (Int32.ofNat o)), .val (.int (Int32.ofNat len)), .val .null, .val (.ref s.heap.size)] [.int 0, .ref a])) rfl (rest := []) rfl (hb hbytes d48)
  have c14 : Steps p.tables e below (s₁.setTop (entryFrame m #[.ref a, .ref b, .int (Int32.ofNat o), .int (Int32.ofNat len), .null] 6)) (T13.setTop (mkF m 54 #[.val (.ref a), .val (.ref b), .val (.int (Int32.ofNat o)), .val (.int (Int32.ofNat len)), .val .null, .val (.ref s.heap.size)] [.ref s.heap.size, .ref a])) := (c12.trans (st13 _ (Steps.refl _))).trans (by
    refine XS.aloadN X13.here hexec rfl (hb hbytes d51) rfl rfl ?_
    refine XS.aload X13.here hexec rfl (hb hbytes d52) rfl rfl ?_
    exact Steps.refl _)
  obtain ⟨T15, X15, p15, bl15, sl15, st15⟩ := X13.finit hexec hown (wk W (.fieldLink "java/lang/String" 9 "java/lang/String" "value" "[B")) (Or.inr ⟨_, (wk W (.laysFinal "java/lang/String" "java/lang/String" "value" "[B"))⟩) (Or.inl ⟨rfl, hnm⟩) f1 (Or.inl rfl) bl13 (t := (.array .byte)) (by decide +kernel) rfl (g := (mkF m 54 #[.val (.ref a), .val (.ref b), .val (.int (Int32.ofNat o)), .val (.int (Int32.ofNat len)), .val .null, .val (.ref s.heap.size)] [.ref s.heap.size, .ref a])) rfl (rest := []) rfl (hb hbytes d54)
  have c16 : Steps p.tables e below (s₁.setTop (entryFrame m #[.ref a, .ref b, .int (Int32.ofNat o), .int (Int32.ofNat len), .null] 6)) (T15.setTop (mkF m 57 #[.val (.ref a), .val (.ref b), .val (.int (Int32.ofNat o)), .val (.int (Int32.ofNat len)), .val .null, .val (.ref s.heap.size)] [])) := c14.trans (st15 _ (Steps.refl _))
  have ap := apart (Or.inr ⟨_, (wk W (.laysFinal "java/lang/String" "java/lang/String" "value" "[B"))⟩) (Or.inr ⟨_, (wk W (.laysFinal "java/lang/String" "java/lang/String" "coder" "B"))⟩) f1 f2 (t₁ := .array .byte) (t₂ := .byte) (by decide +kernel) (by decide +kernel) (by decide)
  have al := X8.warmed.alike.symm.trans X15.warmed.alike
  have n7 : T11.heap[s.heap.size]? = some N := by rw [q11]; exact n1.1
  exact ⟨T15, none, _, _, _, X15, by simp, rfl, by omega, (fun _ => rfl), ⟨rfl, _, N, bl15, ((Same.refl D _).set _ (by simp)).set _ (by simp), sl15, (Cell.slots_setSlot_ne _ ap).trans sl13, n1.keep al (p15.other hne (p13.other hne n7)), n2, by rw [al.findClass]; exact n3, n4, n5, fun y c h1 h2 => p15.other h1 (p13.other h1 (by rw [q11]; exact n6 y c h2)), by rw [p15.2.2, p13.2.2, q11]; exact z8⟩, fun fs hl => c16.trans (X15.returnOut hexec hret (hb hbytes d57) hl)⟩
end New4
namespace New1
def yN : MethodName := ⟨"java/lang/String", "<init>", "([C)V"⟩
abbrev yB : ByteArray := jdk_42_method_3_code
theorem d0 : decode yB 0 = .ok (.aload_n 0, 1) := by decide +kernel
theorem d1 : decode yB 1 = .ok (.aload_n 1, 1) := by decide +kernel
theorem d2 : decode yB 2 = .ok (.iconst 0, 1) := by decide +kernel
theorem d3 : decode yB 3 = .ok (.aload_n 1, 1) := by decide +kernel
theorem d4 : decode yB 4 = .ok (.arraylength, 1) := by decide +kernel
theorem d5 : decode yB 5 = .ok (.aconst_null, 1) := by decide +kernel
theorem d6 : decode yB 6 = .ok (.invokespecial 27, 3) := by decide +kernel
theorem d9 : decode yB 9 = .ok (.return_, 1) := by decide +kernel
def site : List Cond := [New4.tab] ++ initW "java/lang/String" 27 New4.yN
def tab : Cond := tabOf yN yB 2 none site
def P (a : Addr) (D : Cell) (fV fC : Field) (b : Addr) (A : Cell) (z : Int32) (args : Array Value) (s : State) : Prop := args = #[.ref a, .ref b] ∧ Blank "java/lang/String" a D s ∧ Found "java/lang/String" "value" "[B" fV s ∧ Found "java/lang/String" "coder" "B" fC s ∧ Ch b A s ∧ StaticIs s "java/lang/String" "COMPACT_STRINGS" "Z" (.int z) ∧ ¬ z = 0 ∧ 0 < A.slots.size ∧ A.slots.size ≤ 536870912 ∧ ∀ i, i < A.slots.size → ¬ 255 < cv A i
def E (a : Addr) (D : Cell) (fV fC : Field) (A : Cell) (r : Option Value) (s u : State) : Prop := Got a D fV fC A 0 A.slots.size r s u
/-- new String(chars), not empty, no char above 255: a Latin-1 String of their low bytes -/
theorem law (l : Launch) (a : Addr) (D : Cell) (fV fC : Field) (b : Addr) (A : Cell) (z : Int32) : Law l yN 2 1 3 52 yB 2 none site (P a D fV fC b A z) (E a D fV fC A) [⟨a, fC.slot⟩, ⟨a, fV.slot⟩] 1 A.slots.size := by
  refine Law.of_walk (plainFor_of_name (by decide +kernel)) (by decide +kernel) (by decide +kernel) (by decide) (fun _ _ h => by rw [h.1]; rfl) (fun _ U U' hal hh h => ⟨h.1, h.2.1.mv hal hh, h.2.2.1.al hal, h.2.2.2.1.al hal, h.2.2.2.2.1.mv hal hh, h.2.2.2.2.2.1.there hal hh, h.2.2.2.2.2.2⟩) (fun r U U' V V' h1 hal h2 h => Got.mv r U U' V V' h1 hal h2 h) ?_
  intro p e s m args below meth c s₁ X0 hexec hbytes hml hret hlk hnm hown hh0 W hP
  obtain ⟨rfl, hB, f1, f2, hA, s1, hz, l0, l2, hp⟩ := hP
  have c1 : Steps p.tables e below (s₁.setTop (entryFrame m #[.ref a, .ref b] 2)) (s₁.setTop (mkF m 0 #[.val (.ref a), .val (.ref b)] [])) := entry rfl
  have c2 : Steps p.tables e below (s₁.setTop (entryFrame m #[.ref a, .ref b] 2)) (s₁.setTop (mkF m 6 #[.val (.ref a), .val (.ref b)] [.null, .int (Int32.ofNat A.slots.size), .int 0, .ref b, .ref a])) := c1.trans (by
    refine XS.aloadN X0.here hexec rfl (hb hbytes d0) rfl rfl ?_
    refine XS.aloadN X0.here hexec rfl (hb hbytes d1) rfl rfl ?_
    refine iconstV X0.here hexec rfl 0 (hb hbytes d2) (by decide) ?_
    refine XS.aloadN X0.here hexec rfl (hb hbytes d3) rfl rfl ?_
    refine X0.alen hexec (hA.1.mv X0.warmed.alike hh0) rfl rfl (hb hbytes d4) ?_
    refine XS.aconstNull X0.here hexec rfl (hb hbytes d5) ?_
    exact Steps.refl _)
  obtain ⟨v3, T3, X3, E3, g3⟩ := X0.callN hexec (New4.law l a D fV fC b A z 0 A.slots.size) rfl hown (wks W (initW "java/lang/String" 27 New4.yN)) (W New4.tab (by simp only [site, List.mem_cons, List.mem_append, true_or, or_true])) (W := 0) (Nat.le_of_ble_eq_true rfl) (Nat.le_of_ble_eq_true rfl) (Nat.le_refl _) (by show 0 + A.slots.size ≤ A.slots.size; omega) (g := (mkF m 6 #[.val (.ref a), .val (.ref b)] [.null, .int (Int32.ofNat A.slots.size), .int (Int32.ofNat 0), .ref b, .ref a])) rfl (by rw [hml]; rfl) c2 (argsL := [.ref b, .int (Int32.ofNat 0), .int (Int32.ofNat A.slots.size), .null]) (rest := []) rfl rfl (by show 2 * 0 + 0 ≤ _; decide) (hb hbytes d6) (⟨rfl, hB.mv X0.warmed.alike hh0, f1.al X0.warmed.alike, f2.al X0.warmed.alike, hA.mv X0.warmed.alike hh0, s1.there X0.warmed.alike hh0, hz, l0, by omega, l2, fun i hi => by rw [Nat.zero_add]; exact hp i hi⟩)
  have e0 := Got.mv _ s₁ s _ _ hh0.symm (Vm.Alike.refl _) rfl E3
  obtain rfl := e0.1
  have c4 : Steps p.tables e below (s₁.setTop (entryFrame m #[.ref a, .ref b] 2)) (T3.setTop (mkF m 9 #[.val (.ref a), .val (.ref b)] [])) := g3
  exact ⟨T3, none, _, _, _, X3, by simp, rfl, by omega, (fun _ => rfl), e0, fun fs hl => c4.trans (X3.returnOut hexec hret (hb hbytes d9) hl)⟩
theorem pays {l : Launch} {R : Room} {p : Program} {e : Env} {below : List Frame} {s : State} {sargs : Array Value} {len W : Nat} (a : Addr) (D : Cell) (fV fC : Field) (b : Addr) (A : Cell) (z : Int32) (htab : tab.before sargs s = true) (hfr : 4 ≤ R.frames) (hlo : W + 65 ≤ R.locals) :
    Back l R p e below s sargs yN len W (fun A₁ a₁ => A₁.cells + 1 ≤ R.cells ∧ A₁.slots + A.slots.size ≤ R.slots ∧ P a D fV fC b A z a₁ A₁.U) (fun A₁ _ v₁ B₁ => E a D fV fC A v₁ A₁.U B₁.U ∧ B₁.locs = A₁.locs ++ [⟨a, fC.slot⟩, ⟨a, fV.slot⟩] ∧ B₁.cells = A₁.cells + 1 ∧ B₁.slots = A₁.slots + A.slots.size) :=
  (law l a D fV fC b A z).pays htab hfr (by omega)
end New1
end StrChars
namespace StrChars.Road
open Jvm Sem ClassFile Op Lib Jvm.Stand Jvm.Free Jvm.Free.XT
open Jvm.Lib.Cold (StaticIs)
abbrev ST : String := "java/lang/String"
/-- every table word that New1's law asks, flat -/
abbrev words : List Jvm.Cond := [.code New1.yN New1.yB 2 none, .initialized ST, .methodLink ST 27 New4.yN, .instanceMethod New4.yN,
  .code New4.yN New4.yB 6 none, .fieldLink ST 38 ST "COMPACT_STRINGS" "Z", .laysFinal ST ST "value" "[B", .fieldLink ST 9 ST "value" "[B", .laysFinal ST ST "coder" "B", .fieldLink ST 15 ST "coder" "B",
  .methodLink ST 1 Lib.objectInit, .instanceMethod Lib.objectInit, .code Lib.objectInit ⟨#[0xb1]⟩ 1 none, .methodLink ST 177 Cmp3.yN, .static Cmp3.yN, .methodLink ST 47 CodL.yN, .static CodL.yN,
  .code Cmp3.yN Cmp3.yB 6 (some (.array .byte)), .initialized U16, .arrayClass .byte, .methodLink U16 115 Cmp5.yN, .static Cmp5.yN, .code Cmp5.yN Cmp5.yB 7 (some .int), .code CodL.yN CodL.yB 2 (some .byte)]
theorem tab_of {a : Array Value} {s : State} (h : ∀ w ∈ words, w.before a s = true) : New1.tab.before a s = true := by
  have h5 : Cmp5.tab.before a s = true := unparts (wk h (.code Cmp5.yN Cmp5.yB 7 (some .int))) (wks h (.initialized Cmp5.yN.cls :: Cmp5.site))
  have hc : CodL.tab.before a s = true := unparts (wk h (.code CodL.yN CodL.yB 2 (some .byte))) (wks h (.initialized CodL.yN.cls :: CodL.site))
  have q5 : ∀ w ∈ Cmp5.tab :: words, w.before a s = true := fun w hw => (List.mem_cons.mp hw).elim (fun e => e ▸ h5) (h w)
  have h3 : Cmp3.tab.before a s = true := unparts (wk q5 (.code Cmp3.yN Cmp3.yB 6 (some (.array .byte)))) (wks q5 (.initialized Cmp3.yN.cls :: Cmp3.site))
  have q3 : ∀ w ∈ Cmp3.tab :: CodL.tab :: words, w.before a s = true := fun w hw => (List.mem_cons.mp hw).elim (fun e => e ▸ h3) fun hw => (List.mem_cons.mp hw).elim (fun e => e ▸ hc) (h w)
  have h4 : New4.tab.before a s = true := unparts (wk q3 (.code New4.yN New4.yB 6 none)) (wks q3 (.initialized New4.yN.cls :: New4.site))
  have q4 : ∀ w ∈ New4.tab :: words, w.before a s = true := fun w hw => (List.mem_cons.mp hw).elim (fun e => e ▸ h4) (h w)
  exact unparts (wk q4 (.code New1.yN New1.yB 2 none)) (wks q4 (.initialized New1.yN.cls :: New1.site))
/-- the words ride from the start Z to the walk's own state -/
theorem moved {Z s : State} {a0 args : Array Value} (hZ : Z.Warmed39 s.vm) (hw : ∀ d ∈ words, d.before a0 Z = true) : ∀ d ∈ words, d.before args s = true := fun d hd => by
  have q := hw d hd
  have t : ∀ d ∈ words, d = .arrayClass .byte ∨ (d.onTables && d.keepsFace) = true := by decide +kernel
  rcases t d hd with rfl | t
  · exact RoadKit.mvA hZ q
  · exact RoadKit.mv hZ q t
/-- WHAT COMES BACK, over the tables of the start Z: h the heap at the call, h' behind it -/
def Q (Z : State) (x : Addr) (A : Cell) (h : Heap) (v : Option Value) (h' : Heap) (L : List Loc) : Prop := v = none ∧ (∀ y ∈ L, y.base = x) ∧ RoadKit.Keep h h' [x] ∧ h'.size = h.size + 1 ∧ RoadKit.Exa Z h' x ST ∧ RoadKit.Fld Z h' x ST "value" "[B" (.ref h.size) ∧ RoadKit.Fld Z h' x ST "coder" "B" (.int 0) ∧
  (∃ V : Cell, RoadKit.Arr Z h' h.size V .byte ∧ V.vm = .none ∧ Z.vm.findClass "[B" = some V.cls ∧ V.slots.size = A.slots.size ∧ ∀ j, j < A.slots.size → V.slots[j]? = some (.int (lo8 (cv A j)))) ∧
  ∀ (O n d : String) (w : Value), RoadKit.Fld Z h x O n d w → RoadKit.slotOf Z O n d ≠ RoadKit.slotOf Z ST "value" "[B" → RoadKit.slotOf Z O n d ≠ RoadKit.slotOf Z ST "coder" "B" → RoadKit.Fld Z h' x O n d w
/-- **new String(chars) AT A CALL, IN THE ROAD'S FORM**: for specialBack behind newO: x the fresh String, b the char[] with the cell A -/
theorem back {p : Program} {l : Launch} {e : Env} {R : Room} {s : State} {args : Array Value} {below : List Frame} {len W : Nat} {Z : State} {a0 : Array Value} {h : Heap} (hZ : Z.Warmed39 s.vm) (hw : ∀ d ∈ words, d.before a0 Z = true) {kI : Nat} (wi : (Jvm.Cond.instantiable ST kI).before a0 Z = true)
    {x b : Addr} {A : Cell} {z : Int32} {v0 c0 : Value} (E : RoadKit.Exa Z h x ST) (V : RoadKit.Fld Z h x ST "value" "[B" v0) (C : RoadKit.Fld Z h x ST "coder" "B" c0) (K : RoadKit.Arr Z h b A .char) (hty : Typed .char A) (S : RoadKit.Sta Z h ST "COMPACT_STRINGS" "Z" (.int z)) (hz : ¬ z = 0)
    (l0 : 0 < A.slots.size) (l2 : A.slots.size ≤ 536870912) (hp : ∀ i, i < A.slots.size → ¬ 255 < cv A i) (hfr : 4 ≤ R.frames) (hlo : W + 65 ≤ R.locals) :
    Back l R p e below s args New1.yN len W (fun P a => a = #[.ref x, .ref b] ∧ P.U.heap = h ∧ P.cells + 1 ≤ R.cells ∧ P.slots + A.slots.size ≤ R.slots)
      (fun P _ v B => ∃ L, Q Z x A h v B.U.heap L ∧ B.locs = P.locs ++ L ∧ B.cells = P.cells + 1 ∧ B.slots = P.slots + A.slots.size) := by
  intro m meth c P g ig mk a X hg hsize hdg hW hn hp'
  obtain ⟨rfl, rfl, r1, r2⟩ := hp'
  have al : Z.vm.Alike P.U.vm := hZ.alike.trans X.warmed.alike
  obtain ⟨D, cfV, kV, iV, fV, hD, gV, stV, knV, obV, asV, slV⟩ := id V
  obtain ⟨D', cfC, kC, iC, fC, hD', gC, stC, -, -, asC, slC⟩ := id C
  cases hD.symm.trans hD'
  obtain ⟨D2, kD, e1, e2, e3, e4, e5⟩ := id E
  cases hD.symm.trans e1
  obtain ⟨c2, k2, i1, i2, i3, -⟩ := Cond.instantiable_spec wi
  cases e2.symm.trans i1
  cases e3.symm.trans i2
  obtain ⟨kU, u1, u2⟩ := al.2.2 _ _ e3
  have hB : Blank ST x D P.U := ⟨hD, ⟨knV, fun q hq => by rw [hq] at obV; cases obV⟩, by rw [al.findClass]; exact e2, kU, u1, by rw [u2]; exact i3, by rw [u2]; exact e5 i3⟩
  have F1 : Found ST "value" "[B" fV P.U := ⟨SBG.found_only al ⟨cfV, kV, iV, gV⟩, stV⟩
  have F2 : Found ST "coder" "B" fC P.U := ⟨SBG.found_only al ⟨cfC, kC, iC, gC⟩, stC⟩
  have hA : Ch b A P.U := ⟨⟨K.1, State.isArrayOf_alike al K.2.1, K.2.2, by omega⟩, hty⟩
  have hS : StaticIs P.U ST "COMPACT_STRINGS" "Z" (.int z) := by
    obtain ⟨cfS, iS, kS, fS, st, cS, t1, t2, t3, t4, t5, t6, t7⟩ := S
    exact StaticIs.there (s := { Z with heap := P.U.heap }) ⟨cfS, iS, kS, fS, st, cS, t1, t2, t3, t4, t5, (fun q => by rw [q] at t6; cases t6), t7⟩ al rfl
  obtain ⟨v, B, X', ⟨⟨hv, E', V', q1, q2, q3, q4, q5, q6, q7, q8, q9, q10, q11⟩, hl, hc, hs⟩, st⟩ := New1.pays x D fV fC b A z (tab_of (moved hZ hw)) hfr hlo m meth c P g ig mk _ X hg hsize hdg hW hn ⟨r1, r2, rfl, hB, F1, F2, hA, hS, hz, l0, l2, hp⟩
  have al' : Z.vm.Alike B.U.vm := hZ.alike.trans X'.warmed.alike
  have hsz : E'.slots.size = D.slots.size := by
    obtain ⟨-, -, -, kB, w1, w2, w3⟩ := q1
    obtain ⟨kB', y1, y2⟩ := al'.2.2 _ _ e3
    rw [q2.2.1] at w1
    cases w1.symm.trans y1
    rw [w3, e5 i3, y2]
  refine ⟨v, B, X', ⟨_, ⟨hv, ?_, ⟨by omega, fun y cy hy hn' => q10 y cy (by simpa using hn') hy, fun y cy hy => ?_⟩, q11, ⟨E', _, q1.1, by rw [q2.2.1]; exact e2, by rw [q2.2.1]; exact e3, by rw [q2.1]; exact obV, fun _ => by rw [hsz]; exact e5 i3⟩,
    ⟨E', cfV, kV, iV, fV, q1.1, gV, stV, by rw [q2.1]; exact knV, by rw [q2.1]; exact obV, by rw [q2.2.1]; exact asV, q3⟩, ⟨E', cfC, kC, iC, fC, q1.1, gC, stC, by rw [q2.1]; exact knV, by rw [q2.1]; exact obV, by rw [q2.2.1]; exact asC, q4⟩,
    ⟨V', ⟨q5.1, State.isArrayOf_alike al'.symm q5.2.1, q5.2.2.1⟩, q6, by rw [← al'.findClass]; exact q7, q8, fun j hj => by have := q9 j hj; rwa [Nat.zero_add] at this⟩, fun O n d w F n1 n2 => ?_⟩, hl, hc, hs⟩, st⟩
  · intro y hy
    simp only [List.mem_cons, List.not_mem_nil, or_false] at hy
    rcases hy with rfl | rfl <;> rfl
  · by_cases q : y = x
    · subst q
      cases hD.symm.trans hy
      exact ⟨E', q1.1, q2.2.1, q2.1, hsz⟩
    · exact ⟨cy, q10 y cy q hy, rfl, rfl, rfl⟩
  · obtain ⟨D3, cf, k, i, f, g1, g2, g3, g4, g5, g6, g7⟩ := F
    cases hD.symm.trans g1
    simp only [RoadKit.slotOf, g2, gV, gC, Option.map_some, Option.getD_some] at n1 n2
    exact ⟨E', cf, k, i, f, q1.1, g2, g3, by rw [q2.1]; exact g4, by rw [q2.1]; exact g5, by rw [q2.2.1]; exact g6, by rw [q2.2.2 f.slot (by simp [n1, n2])]; exact g7⟩
end StrChars.Road
namespace StrChars.Road
open Jvm Sem ClassFile Op Lib Jvm.Stand Jvm.Free Jvm.Free.XT
/-- WHAT COMES BACK, the byte[] as a list of values -/
def QA (Z : State) (x : Addr) (zn : Int32) (cs : List Int32) (h : Heap) (v : Option Value) (h' : Heap) (L : List Loc) : Prop := v = none ∧ (∀ y ∈ L, y.base = x) ∧ RoadKit.Keep h h' [x] ∧ h'.size = h.size + 1 ∧ RoadKit.Exa Z h' x ST ∧ RoadKit.Fld Z h' x ST "value" "[B" (.ref h.size) ∧ RoadKit.Fld Z h' x ST "coder" "B" (.int 0) ∧
  (∃ kb, Z.vm.findClass "[B" = some kb ∧ RoadKit.Arv Z h' h.size kb .byte zn (cs.map fun c => .int (lo8 c)) (.int 0)) ∧
  ∀ (O n d : String) (w : Value), RoadKit.Fld Z h x O n d w → RoadKit.slotOf Z O n d ≠ RoadKit.slotOf Z ST "value" "[B" → RoadKit.slotOf Z O n d ≠ RoadKit.slotOf Z ST "coder" "B" → RoadKit.Fld Z h' x O n d w
/-- **new String(chars) AT A CALL, THE ARRAYS AS LISTS**: the char[] at b holds cs, not empty, no char above 255 -/
theorem backArv {p : Program} {l : Launch} {e : Env} {R : Room} {s : State} {args : Array Value} {below : List Frame} {len W : Nat} {Z : State} {a0 : Array Value} {h : Heap} (hZ : Z.Warmed39 s.vm) (hw : ∀ d ∈ words, d.before a0 Z = true) {kI : Nat} (wi : (Jvm.Cond.instantiable ST kI).before a0 Z = true)
    {x b : Addr} {k : ClassId} {zn z : Int32} {cs : List Int32} {dv v0 c0 : Value} (E : RoadKit.Exa Z h x ST) (V : RoadKit.Fld Z h x ST "value" "[B" v0) (C : RoadKit.Fld Z h x ST "coder" "B" c0) (K : RoadKit.Arv Z h b k .char zn (cs.map Value.int) dv) (S : RoadKit.Sta Z h ST "COMPACT_STRINGS" "Z" (.int z)) (hz : ¬ z = 0)
    (hlen : zn.toNatClampNeg = cs.length) (h0 : 0 < cs.length) (hbig : cs.length ≤ 536870912) (hall : ∀ c ∈ cs, ¬ 255 < c) (hfr : 4 ≤ R.frames) (hlo : W + 65 ≤ R.locals) :
    Back l R p e below s args New1.yN len W (fun P a => a = #[.ref x, .ref b] ∧ P.U.heap = h ∧ P.cells + 1 ≤ R.cells ∧ P.slots + cs.length ≤ R.slots)
      (fun P _ v B => ∃ L, QA Z x zn cs h v B.U.heap L ∧ B.locs = P.locs ++ L ∧ B.cells = P.cells + 1 ∧ B.slots = P.slots + cs.length) := by
  obtain ⟨A, K1, K2, K3, K4, K5, K6⟩ := K
  have e : A.slots.size = cs.length := K3.trans hlen
  have hat : ∀ (i : Nat) (hi : i < cs.length), A.slots[i]? = some (.int cs[i]) := fun i hi => by rw [K5 i (by omega)]; simp [List.getD_eq_getElem?_getD, hi]
  have hcv : ∀ (i : Nat) (hi : i < cs.length), cv A i = cs[i] := fun i hi => by unfold cv; rw [hat i hi]
  have hty : Typed .char A := fun i v hv => by
    have hi : i < A.slots.size := (Array.getElem?_eq_some_iff.mp hv).1
    have q := K5 i hi
    rw [hv] at q
    rw [Option.some.inj q]
    exact K6 i hi
  refine Back.mono (back hZ hw wi E V C K1 hty S hz (by omega) (by omega) (fun i hi => by rw [hcv i (by omega)]; exact hall _ (List.getElem_mem _)) hfr hlo) (fun P a hp => ⟨hp.1, hp.2.1, hp.2.2.1, by rw [e]; exact hp.2.2.2⟩) (fun P a v B hp hq => ?_)
  obtain ⟨L, ⟨q1, q2, q3, q4, q5, q6, q7, ⟨V', v1, v2, v3, v4, v5⟩, q9⟩, hl, hc, hs⟩ := hq
  refine ⟨L, ⟨q1, q2, q3, q4, q5, q6, q7, ⟨V'.cls, v3, V', v1, rfl, by rw [v4, e, hlen], K4, fun i hi => ?_, fun i hi => ?_⟩, q9⟩, hl, hc, by rw [hs, e]⟩
  · have hi' : i < cs.length := by omega
    rw [v5 i (by omega), hcv i hi']; simp [List.getD_eq_getElem?_getD, hi']
  · have hi' : i < cs.length := by omega
    simp only [List.getD_eq_getElem?_getD, List.getElem?_map, List.getElem?_eq_getElem hi', Option.map_some, Option.getD_some]
    exact fits_lo8 _
end StrChars.Road
namespace StrChars.Road
open Jvm Sem ClassFile Op Lib Jvm.Stand Jvm.Free Jvm.Free.XT
/-- WHAT COMES BACK, in the writer's own shape -/
def QV (Z : State) (x : Addr) (N : Int32) (bs : List Int32) (h : Heap) (n0 : Nat) (v : Option Value) (h' : Heap) (L : List Loc) : Prop := v = none ∧ RoadKit.Fr n0 L ∧ RoadKit.Keep h h' [x] ∧ RoadKit.Exa Z h' x ST ∧ RoadKit.Fld Z h' x ST "coder" "B" (.int 0) ∧
  ∃ (t : Addr) (kb : ClassId), n0 ≤ t ∧ h.size ≤ t ∧ ¬ t = x ∧ RoadKit.Fld Z h' x ST "value" "[B" (.ref t) ∧ RoadKit.Arv Z h' t kb .byte N (bs.map Value.int) (.int 0)
/-- **new String(chars) AT A CALL, FOR THE WRITER**: a char[] of n known ints, each 0 to 255 -/
theorem backV {p : Program} {l : Launch} {e : Env} {R : Room} {s : State} {args : Array Value} {below : List Frame} {len W : Nat} {Z : State} {a0 : Array Value} {h : Heap} (hZ : Z.Warmed39 s.vm) (hw : ∀ d ∈ words, d.before a0 Z = true) {kI : Nat} (wi : (Jvm.Cond.instantiable ST kI).before a0 Z = true)
    {x b : Addr} {kC : ClassId} {cs bs : List Int32} {d v0 c0 : Value} {z N : Int32} {n n0 : Nat} (hx0 : n0 ≤ x) (hh0 : n0 ≤ h.size) (E : RoadKit.Exa Z h x ST) (V : RoadKit.Fld Z h x ST "value" "[B" v0) (C : RoadKit.Fld Z h x ST "coder" "B" c0) (K : RoadKit.Arv Z h b kC .char N (cs.map Value.int) d) (S : RoadKit.Sta Z h ST "COMPACT_STRINGS" "Z" (.int z)) (hz : ¬ z = 0)
    (hn : cs.length = n) (hN : N = Int32.ofNat n) (l0 : 0 < n) (l2 : n ≤ 4000) (hp : ∀ c ∈ cs, ¬ c < 0 ∧ ¬ (255 : Int32) < c) (hb : bs = cs.map (fun c => c.toInt8.toInt32)) (hfr : 4 ≤ R.frames) (hlo : W + 65 ≤ R.locals) :
    Back l R p e below s args (⟨"java/lang/String", "<init>", "([C)V"⟩ : MethodName) len W (fun P a => a = #[.ref x, .ref b] ∧ P.U.heap = h ∧ P.cells + 1 ≤ R.cells ∧ P.slots + n ≤ R.slots)
      (fun P _ v B => ∃ L, QV Z x N bs h n0 v B.U.heap L ∧ B.locs = P.locs ++ L ∧ B.cells = P.cells + 1 ∧ B.slots = P.slots + n) := by
  subst hn hN hb
  refine Back.mono (backArv hZ hw wi E V C K S hz (n32 (by omega)) l0 (by omega) (fun c hc => (hp c hc).2) hfr hlo) (fun P a hp => hp) (fun P a v B hp hq => ?_)
  obtain ⟨L, ⟨q1, q2, q3, q4, q5, q6, q7, ⟨kb, v1, v2⟩, q9⟩, hl, hc, hs⟩ := hq
  exact ⟨L, ⟨q1, fun y hy => by rw [q2 y hy]; exact hx0, q3, q5, q7, h.size, kb, hh0, Nat.le_refl _, Nat.ne_of_gt E.lt, q6, by rw [List.map_map]; exact v2⟩, hl, hc, hs⟩
end StrChars.Road
end Jvm.Pilot.@@N@@
namespace Jvm.Pilot.@@N@@
open Jvm Jvm.ClassFile Sem Op Lib Jvm.Free Jvm.Stand Jvm.LawKit Jvm.RoadKit Bundle Jvm.Pilot.@@N@@.Jvm.D
theorem own_keep {h h' : Heap} (e : h' = h) : Keep h h' [] := e ▸ Keep.refl _ _
theorem own_ws0 {h0 : Heap} {ws : List Addr} : ∀ x ∈ ([] : List Addr), x ∈ ws ∨ h0.size ≤ x := fun _ q => nomatch q
theorem own_ws1 {h0 : Heap} {ws : List Addr} {a : Addr} (q : h0.size ≤ a) : ∀ x ∈ [a], x ∈ ws ∨ h0.size ≤ x := fun x hx => by cases List.mem_singleton.mp hx; exact Or.inr q
theorem own_wsIn {h0 : Heap} {a : Addr} : ∀ x ∈ [a], x ∈ [a] ∨ h0.size ≤ x := fun x hx => Or.inl hx
theorem own_nin {a b : Addr} (h : a ≠ b) : a ∉ [b] := fun q => h (List.mem_singleton.mp q)
theorem own_ne {a b n : Nat} (h : a < n) (e : b = n) : a ≠ b := by omega
theorem d8_0 : decode jdk_30_method_1_code 0 = .ok (.aload_n 0, 1) := by decide +kernel
theorem d8_1 : decode jdk_30_method_1_code 1 = .ok (.invokespecial 1, 3) := by decide +kernel
theorem d8_4 : decode jdk_30_method_1_code 4 = .ok (.return_, 1) := by decide +kernel
theorem pn_8 : plainName "java/lang/Record" = true := by first | (simp [plainName, overriddenIn]; done) | decide +kernel
theorem ef_8 (m : MethodId) (x0 : Addr) : entryFrame m #[(.ref x0)] 1 = mkF m 0 #[.val (.ref x0)] [] := by first | (simp [entryFrame, mkF, argsToLocals, Value.category]; done) | rfl
def Q8 (Z : State) (a1 : Addr) (h0 : Heap) (n0 : Nat) (v : Option Value) (h : Heap) (L : List Loc) : Prop := v = none ∧ Fr n0 L ∧ h = h0
set_option maxRecDepth 65536 in
set_option maxHeartbeats 40000000 in
theorem rm8 (l : Launch) (Z : State) (a0 : Array Value) (hw : ∀ d ∈ tables_1, d.before a0 Z = true) (ws : List Jvm.Cond) (a1 : Addr) (h0 : Heap) (n0 : Nat) (Z0 : n0 ≤ h0.size)  :
    MetFree l (⟨"java/lang/Record", "<init>", "()V"⟩ : MethodName) (head1 (Jvm.Cond.code (⟨"java/lang/Record", "<init>", "()V"⟩ : MethodName) jdk_30_method_1_code 1 none :: ws) ({ frames := 1, cells := 0, slots := 0, locals := 12 } : Room)) (fun a U => a = #[(.ref a1)] ∧ Z.Warmed39 U.vm ∧ U.heap = h0) (fun _ _ _ _ _ => True) (fun _ U o U' => ∃ v L, o = .returned v ∧ Q8 Z a1 h0 n0 v U'.heap L ∧ FrameEnd U o U' L ({ frames := 1, cells := 0, slots := 0, locals := 12 } : Room).cells ({ frames := 1, cells := 0, slots := 0, locals := 12 } : Room).slots) := by
  refine MetFree.of_bodySF (plainFor_of_name pn_8) hisR ?_
  intro p e s m args below meth c s₁ Bd hml0 hP hK
  obtain ⟨rfl, hZ, hh⟩ := hP
  have hx := Bd.exec
  have hby := Bd.bytes
  have hml : c.maxLocals = 1 := hml0
  have hown : s.vm.findClass "java/lang/Record" = some m.cls := findClass_of_methodNamed Bd.named
  have hnm := (name_of_methodNamed Bd.named Bd.method).1
  have X0 : Stand p l e ({ frames := 1, cells := 0, slots := 0, locals := 12 } : Room) s m #[(.ref a1)] below meth c s₁ [] 0 0 := Stand.of_body Bd
  have e0 : s₁.heap = h0 := by rw [← hh, Bd.state]; rfl
  have N0 := Fr.nil n0
  have pre0 : ∀ t, Steps p.tables e below (s₁.setTop (mkF m 0 #[.val (.ref a1)] [])) t → Steps p.tables e below (s₁.setTop (entryFrame m #[(.ref a1)] 1)) t := fun t k => castTop (ef_8 m a1) k
  -- 3. LAWS
  obtain ⟨T2, X2, e2, st2⟩ := initO X0 hx hZ hown (hw _ (List.mem_of_getElem? (i := 44) rfl)) (hw _ (List.mem_of_getElem? (i := 12) rfl)) (hw _ (List.mem_of_getElem? (i := 13) rfl)) e0 (g := (mkF m 1 #[.val (.ref a1)] [(.ref a1)])) rfl (by rw [hml]; rfl) rfl (hb hby d8_1) (by decide) (W := 0) (by show 2 * 0 + _ ≤ _; exact Nat.le_of_eq rfl) (by decide)
  obtain ⟨fs, hr, hrun, hended, hW, hsame⟩ := X2.leave (v := none) (fun _ => rfl) (BodyLoose.notSynchronized Bd)
  refine ⟨_, _, pre0 _ ?_, hrun, hended, _, _, rfl, ?_, ⟨_, rfl⟩, hW, hsame.mono (by decide) (by decide)⟩
  -- 4. STEPS
  · show Steps p.tables e below (s₁.setTop (mkF m 0 #[.val (.ref a1)] [])) _
    refine XS.aloadN X0.here hx rfl (hb hby d8_0) rfl rfl ?_
    show Steps p.tables e below (s₁.setTop (mkF m 1 #[.val (.ref a1)] [(.ref a1)])) _
    refine st2 _ ?_
    show Steps p.tables e below (T2.setTop (mkF m 4 #[.val (.ref a1)] [])) _
    exact X2.returnOut hx Bd.returns (hb hby d8_4) hr
  · show Q8 Z a1 h0 n0 _ T2.heap _
    rw [e2]
    exact ⟨rfl, N0, rfl⟩
theorem d7_0 : decode prog_63_method_1_code 0 = .ok (.aload_n 0, 1) := by decide +kernel
theorem d7_1 : decode prog_63_method_1_code 1 = .ok (.invokespecial 1, 3) := by decide +kernel
theorem d7_4 : decode prog_63_method_1_code 4 = .ok (.aload_n 0, 1) := by decide +kernel
theorem d7_5 : decode prog_63_method_1_code 5 = .ok (.aload_n 1, 1) := by decide +kernel
theorem d7_6 : decode prog_63_method_1_code 6 = .ok (.putfield 7, 3) := by decide +kernel
theorem d7_9 : decode prog_63_method_1_code 9 = .ok (.aload_n 0, 1) := by decide +kernel
theorem d7_10 : decode prog_63_method_1_code 10 = .ok (.aload_n 2, 1) := by decide +kernel
theorem d7_11 : decode prog_63_method_1_code 11 = .ok (.putfield 13, 3) := by decide +kernel
theorem d7_14 : decode prog_63_method_1_code 14 = .ok (.aload_n 0, 1) := by decide +kernel
theorem d7_15 : decode prog_63_method_1_code 15 = .ok (.aload_n 3, 1) := by decide +kernel
theorem d7_16 : decode prog_63_method_1_code 16 = .ok (.putfield 16, 3) := by decide +kernel
theorem d7_19 : decode prog_63_method_1_code 19 = .ok (.aload_n 0, 1) := by decide +kernel
theorem d7_20 : decode prog_63_method_1_code 20 = .ok (.lload 4, 2) := by decide +kernel
theorem d7_22 : decode prog_63_method_1_code 22 = .ok (.putfield 20, 3) := by decide +kernel
theorem d7_25 : decode prog_63_method_1_code 25 = .ok (.aload_n 0, 1) := by decide +kernel
theorem d7_26 : decode prog_63_method_1_code 26 = .ok (.lload 6, 2) := by decide +kernel
theorem d7_28 : decode prog_63_method_1_code 28 = .ok (.putfield 24, 3) := by decide +kernel
theorem d7_31 : decode prog_63_method_1_code 31 = .ok (.return_, 1) := by decide +kernel
theorem pn_7 : plainName "com/example/shardgate/shardgate/subscriptions/Subscription" = true := by first | (simp [plainName, overriddenIn]; done) | decide +kernel
theorem pd_7_2 : parseMethodDescriptor "()V" = some ⟨[], none⟩ := by decide +kernel
theorem ef_7 (m : MethodId) (x0 : Addr) (x1 : Addr) (x2 : Addr) (x3 : Addr) (x4 : Int64) (x5 : Int64) : entryFrame m #[(.ref x0), (.ref x1), (.ref x2), (.ref x3), (.long x4), (.long x5)] 8 = mkF m 0 #[.val (.ref x0), .val (.ref x1), .val (.ref x2), .val (.ref x3), .val (.long x4), .second, .val (.long x5), .second] [] := by first | (simp [entryFrame, mkF, argsToLocals, Value.category]; done) | rfl
def Q7 (Z : State) (a1 : Addr) (a2 : Addr) (a3 : Addr) (a4 : Addr) (q5 : Int64) (q6 : Int64) (u_id_a1 : Value) (u_comment_a1 : Value) (u_state_a1 : Value) (u_createTime_a1 : Value) (u_lastModifyTime_a1 : Value) (h0 : Heap) (n0 : Nat) (v : Option Value) (h : Heap) (L : List Loc) : Prop := v = none ∧ Fr n0 L ∧ Keep h0 h [a1] ∧ Exa Z h a1 "com/example/shardgate/shardgate/subscriptions/Subscription" ∧ Fld Z h a1 "com/example/shardgate/shardgate/subscriptions/Subscription" "id" "Ljava/lang/String;" (.ref a2) ∧ Fld Z h a1 "com/example/shardgate/shardgate/subscriptions/Subscription" "comment" "Ljava/lang/String;" (.ref a3) ∧ Fld Z h a1 "com/example/shardgate/shardgate/subscriptions/Subscription" "state" "Lcom/example/shardgate/shardgate/subscriptions/Subscription$State;" (.ref a4) ∧ Fld Z h a1 "com/example/shardgate/shardgate/subscriptions/Subscription" "createTime" "J" (.long q5) ∧ Fld Z h a1 "com/example/shardgate/shardgate/subscriptions/Subscription" "lastModifyTime" "J" (.long q6)
set_option maxRecDepth 65536 in
set_option maxHeartbeats 40000000 in
theorem rm7 (l : Launch) (Z : State) (a0 : Array Value) (hw : ∀ d ∈ tables_1, d.before a0 Z = true) (ws : List Jvm.Cond) (a1 : Addr) (a2 : Addr) (a3 : Addr) (a4 : Addr) (q5 : Int64) (q6 : Int64) (u_id_a1 : Value) (u_comment_a1 : Value) (u_state_a1 : Value) (u_createTime_a1 : Value) (u_lastModifyTime_a1 : Value) (h0 : Heap) (n0 : Nat) (Z0 : n0 ≤ h0.size) (E_a1 : Exa Z h0 a1 "com/example/shardgate/shardgate/subscriptions/Subscription") (F_id_a1 : Fld Z h0 a1 "com/example/shardgate/shardgate/subscriptions/Subscription" "id" "Ljava/lang/String;" u_id_a1) (g_a1 : n0 ≤ a1) (F_comment_a1 : Fld Z h0 a1 "com/example/shardgate/shardgate/subscriptions/Subscription" "comment" "Ljava/lang/String;" u_comment_a1) (F_state_a1 : Fld Z h0 a1 "com/example/shardgate/shardgate/subscriptions/Subscription" "state" "Lcom/example/shardgate/shardgate/subscriptions/Subscription$State;" u_state_a1) (F_createTime_a1 : Fld Z h0 a1 "com/example/shardgate/shardgate/subscriptions/Subscription" "createTime" "J" u_createTime_a1) (F_lastModifyTime_a1 : Fld Z h0 a1 "com/example/shardgate/shardgate/subscriptions/Subscription" "lastModifyTime" "J" u_lastModifyTime_a1) :
    MetFree l (⟨"com/example/shardgate/shardgate/subscriptions/Subscription", "<init>", "(Ljava/lang/String;Ljava/lang/String;Lcom/example/shardgate/shardgate/subscriptions/Subscription$State;JJ)V"⟩ : MethodName) (head1 (Jvm.Cond.code (⟨"com/example/shardgate/shardgate/subscriptions/Subscription", "<init>", "(Ljava/lang/String;Ljava/lang/String;Lcom/example/shardgate/shardgate/subscriptions/Subscription$State;JJ)V"⟩ : MethodName) prog_63_method_1_code 8 none :: ws) ({ frames := 2, cells := 0, slots := 0, locals := 24 } : Room)) (fun a U => a = #[(.ref a1), (.ref a2), (.ref a3), (.ref a4), (.long q5), (.long q6)] ∧ Z.Warmed39 U.vm ∧ U.heap = h0) (fun _ _ _ _ _ => True) (fun _ U o U' => ∃ v L, o = .returned v ∧ Q7 Z a1 a2 a3 a4 q5 q6 u_id_a1 u_comment_a1 u_state_a1 u_createTime_a1 u_lastModifyTime_a1 h0 n0 v U'.heap L ∧ FrameEnd U o U' L ({ frames := 2, cells := 0, slots := 0, locals := 24 } : Room).cells ({ frames := 2, cells := 0, slots := 0, locals := 24 } : Room).slots) := by
  refine MetFree.of_bodySF (plainFor_of_name pn_7) hisR ?_
  intro p e s m args below meth c s₁ Bd hml0 hP hK
  obtain ⟨rfl, hZ, hh⟩ := hP
  have hx := Bd.exec
  have hby := Bd.bytes
  have hml : c.maxLocals = 8 := hml0
  have hown : s.vm.findClass "com/example/shardgate/shardgate/subscriptions/Subscription" = some m.cls := findClass_of_methodNamed Bd.named
  have hnm := (name_of_methodNamed Bd.named Bd.method).1
  have X0 : Stand p l e ({ frames := 2, cells := 0, slots := 0, locals := 24 } : Room) s m #[(.ref a1), (.ref a2), (.ref a3), (.ref a4), (.long q5), (.long q6)] below meth c s₁ [] 0 0 := Stand.of_body Bd
  have e0 : s₁.heap = h0 := by rw [← hh, Bd.state]; rfl
  have N0 := Fr.nil n0
  have pre0 : ∀ t, Steps p.tables e below (s₁.setTop (mkF m 0 #[.val (.ref a1), .val (.ref a2), .val (.ref a3), .val (.ref a4), .val (.long q5), .second, .val (.long q6), .second] [])) t → Steps p.tables e below (s₁.setTop (entryFrame m #[(.ref a1), (.ref a2), (.ref a3), (.ref a4), (.long q5), (.long q6)] 8)) t := fun t k => castTop (ef_7 m a1 a2 a3 a4 q5 q6) k
  -- 3. LAWS
  -- pc 1: the constructor of java/lang/Record by its contract rm8
  obtain ⟨_, _, ⟨T7, L7, k7, n7⟩, -, X7, ⟨Lc7, hQ7, l7, y7, z7⟩, st7⟩ := X0.specialBack hx (y := (⟨"java/lang/Record", "<init>", "()V"⟩ : MethodName)) rfl hown (mvT hZ (hw _ (List.mem_of_getElem? (i := 39) rfl))) (mvT hZ (hw _ (List.mem_of_getElem? (i := 40) rfl))) (mvT hZ (hw _ (List.mem_of_getElem? (i := 43) rfl))) (by decide) (backOf (W := 0) (rm8 l Z a0 hw [] a1  h0 n0 Z0) hZ (hw _ (List.mem_of_getElem? (i := 43) rfl)) (hw _ (List.mem_of_getElem? (i := 42) rfl)) (by decide) (by decide)) (g := (mkF m 1 #[.val (.ref a1), .val (.ref a2), .val (.ref a3), .val (.ref a4), .val (.long q5), .second, .val (.long q6), .second] [(.ref a1)])) rfl (by rw [hml]; rfl) (Steps.refl _) (a := a1) (argsL := []) (rest := []) (lenOf pd_7_2 rfl) rfl (by show 2 * 0 + _ ≤ _; exact Nat.le_of_eq rfl) (hb hby d7_1) (fun _ _ => ⟨rfl, e0, (by decide : 0 + 0 ≤ _), (by decide : 0 + 0 ≤ _)⟩)
  dsimp only [Pt.U, Pt.locs, Pt.cells, Pt.slots] at X7 l7 y7 z7 st7 hQ7
  subst l7 y7 z7
  obtain ⟨rfl, N7q, e7q⟩ := hQ7
  have N7 := Fr.app N0 N7q
  have K7q : Keep h0 T7.heap [] := own_keep e7q
  have KH7 : Keep h0 T7.heap [a1] := (Keep.refl h0 [a1]).trans K7q own_ws0
  have eh7 : T7.heap = h0 := by rw [e7q]
  obtain ⟨T8, h8, X8, e8, W8, st8⟩ := putF X7 hx hZ hown (host := "") (Or.inl (hw _ (List.mem_of_getElem? (i := 45) rfl))) Via.refl rfl (F_id_a1.keep K7q (by simp)) (E_a1.keep K7q) (Or.inr ⟨(hw _ (List.mem_of_getElem? (i := 46) rfl)), rfl, hnm⟩) (hw _ (List.mem_of_getElem? (i := 34) rfl)) (ty := (.object "java/lang/String")) (by decide) rfl rfl (g := (mkF m 6 #[.val (.ref a1), .val (.ref a2), .val (.ref a3), .val (.ref a4), .val (.long q5), .second, .val (.long q6), .second] [(.ref a2), (.ref a1)])) rfl rfl (hb hby d7_6)
  have Fw8 := (F_id_a1.keep K7q (by simp)).same W8      -- the field now holds (.ref a2)
  have K8 : Keep h0 h8 [a1] := KH7.wr W8 (Or.inl (List.mem_of_getElem? (i := 0) rfl))
  have N8 := Fr.snoc X8 N7 g_a1
  obtain ⟨T9, h9, X9, e9, W9, st9⟩ := putF X8 hx hZ hown (host := "") (Or.inl (hw _ (List.mem_of_getElem? (i := 47) rfl))) Via.refl e8 ((F_comment_a1.keep K7q (by simp)).other W8 (Or.inr (slot_ne (Or.inr (hw _ (List.mem_of_getElem? (i := 48) rfl))) (Or.inr (hw _ (List.mem_of_getElem? (i := 46) rfl))) (by decide) (t := (.object "java/lang/String")) (t' := (.object "java/lang/String")) (by decide) (by decide)))) ((E_a1.keep K7q).wr W8) (Or.inr ⟨(hw _ (List.mem_of_getElem? (i := 48) rfl)), rfl, hnm⟩) (hw _ (List.mem_of_getElem? (i := 34) rfl)) (ty := (.object "java/lang/String")) (by decide) rfl rfl (g := (mkF m 11 #[.val (.ref a1), .val (.ref a2), .val (.ref a3), .val (.ref a4), .val (.long q5), .second, .val (.long q6), .second] [(.ref a3), (.ref a1)])) rfl rfl (hb hby d7_11)
  have Fw9 := ((F_comment_a1.keep K7q (by simp)).other W8 (Or.inr (slot_ne (Or.inr (hw _ (List.mem_of_getElem? (i := 48) rfl))) (Or.inr (hw _ (List.mem_of_getElem? (i := 46) rfl))) (by decide) (t := (.object "java/lang/String")) (t' := (.object "java/lang/String")) (by decide) (by decide)))).same W9      -- the field now holds (.ref a3)
  have K9 : Keep h0 h9 [a1] := K8.wr W9 (Or.inl (List.mem_of_getElem? (i := 0) rfl))
  have N9 := Fr.snoc X9 N8 g_a1
  obtain ⟨T10, h10, X10, e10, W10, st10⟩ := putF X9 hx hZ hown (host := "") (Or.inl (hw _ (List.mem_of_getElem? (i := 49) rfl))) Via.refl e9 (((F_state_a1.keep K7q (by simp)).other W8 (Or.inr (slot_ne (Or.inr (hw _ (List.mem_of_getElem? (i := 50) rfl))) (Or.inr (hw _ (List.mem_of_getElem? (i := 46) rfl))) (by decide) (t := (.object "com/example/shardgate/shardgate/subscriptions/Subscription$State")) (t' := (.object "java/lang/String")) (by decide) (by decide)))).other W9 (Or.inr (slot_ne (Or.inr (hw _ (List.mem_of_getElem? (i := 50) rfl))) (Or.inr (hw _ (List.mem_of_getElem? (i := 48) rfl))) (by decide) (t := (.object "com/example/shardgate/shardgate/subscriptions/Subscription$State")) (t' := (.object "java/lang/String")) (by decide) (by decide)))) (((E_a1.keep K7q).wr W8).wr W9) (Or.inr ⟨(hw _ (List.mem_of_getElem? (i := 50) rfl)), rfl, hnm⟩) (hw _ (List.mem_of_getElem? (i := 34) rfl)) (ty := (.object "com/example/shardgate/shardgate/subscriptions/Subscription$State")) (by decide) rfl rfl (g := (mkF m 16 #[.val (.ref a1), .val (.ref a2), .val (.ref a3), .val (.ref a4), .val (.long q5), .second, .val (.long q6), .second] [(.ref a4), (.ref a1)])) rfl rfl (hb hby d7_16)
  have Fw10 := (((F_state_a1.keep K7q (by simp)).other W8 (Or.inr (slot_ne (Or.inr (hw _ (List.mem_of_getElem? (i := 50) rfl))) (Or.inr (hw _ (List.mem_of_getElem? (i := 46) rfl))) (by decide) (t := (.object "com/example/shardgate/shardgate/subscriptions/Subscription$State")) (t' := (.object "java/lang/String")) (by decide) (by decide)))).other W9 (Or.inr (slot_ne (Or.inr (hw _ (List.mem_of_getElem? (i := 50) rfl))) (Or.inr (hw _ (List.mem_of_getElem? (i := 48) rfl))) (by decide) (t := (.object "com/example/shardgate/shardgate/subscriptions/Subscription$State")) (t' := (.object "java/lang/String")) (by decide) (by decide)))).same W10      -- the field now holds (.ref a4)
  have K10 : Keep h0 h10 [a1] := K9.wr W10 (Or.inl (List.mem_of_getElem? (i := 0) rfl))
  have N10 := Fr.snoc X10 N9 g_a1
  obtain ⟨T11, h11, X11, e11, W11, st11⟩ := putF X10 hx hZ hown (host := "") (Or.inl (hw _ (List.mem_of_getElem? (i := 51) rfl))) Via.refl e10 ((((F_createTime_a1.keep K7q (by simp)).other W8 (Or.inr (slot_ne (Or.inr (hw _ (List.mem_of_getElem? (i := 52) rfl))) (Or.inr (hw _ (List.mem_of_getElem? (i := 46) rfl))) (by decide) (t := .long) (t' := (.object "java/lang/String")) (by decide) (by decide)))).other W9 (Or.inr (slot_ne (Or.inr (hw _ (List.mem_of_getElem? (i := 52) rfl))) (Or.inr (hw _ (List.mem_of_getElem? (i := 48) rfl))) (by decide) (t := .long) (t' := (.object "java/lang/String")) (by decide) (by decide)))).other W10 (Or.inr (slot_ne (Or.inr (hw _ (List.mem_of_getElem? (i := 52) rfl))) (Or.inr (hw _ (List.mem_of_getElem? (i := 50) rfl))) (by decide) (t := .long) (t' := (.object "com/example/shardgate/shardgate/subscriptions/Subscription$State")) (by decide) (by decide)))) ((((E_a1.keep K7q).wr W8).wr W9).wr W10) (Or.inr ⟨(hw _ (List.mem_of_getElem? (i := 52) rfl)), rfl, hnm⟩) (hw _ (List.mem_of_getElem? (i := 34) rfl)) (ty := .long) (by decide) rfl rfl (g := (mkF m 22 #[.val (.ref a1), .val (.ref a2), .val (.ref a3), .val (.ref a4), .val (.long q5), .second, .val (.long q6), .second] [(.long q5), (.ref a1)])) rfl rfl (hb hby d7_22)
  have Fw11 := ((((F_createTime_a1.keep K7q (by simp)).other W8 (Or.inr (slot_ne (Or.inr (hw _ (List.mem_of_getElem? (i := 52) rfl))) (Or.inr (hw _ (List.mem_of_getElem? (i := 46) rfl))) (by decide) (t := .long) (t' := (.object "java/lang/String")) (by decide) (by decide)))).other W9 (Or.inr (slot_ne (Or.inr (hw _ (List.mem_of_getElem? (i := 52) rfl))) (Or.inr (hw _ (List.mem_of_getElem? (i := 48) rfl))) (by decide) (t := .long) (t' := (.object "java/lang/String")) (by decide) (by decide)))).other W10 (Or.inr (slot_ne (Or.inr (hw _ (List.mem_of_getElem? (i := 52) rfl))) (Or.inr (hw _ (List.mem_of_getElem? (i := 50) rfl))) (by decide) (t := .long) (t' := (.object "com/example/shardgate/shardgate/subscriptions/Subscription$State")) (by decide) (by decide)))).same W11      -- the field now holds (.long q5)
  have K11 : Keep h0 h11 [a1] := K10.wr W11 (Or.inl (List.mem_of_getElem? (i := 0) rfl))
  have N11 := Fr.snoc X11 N10 g_a1
  obtain ⟨T12, h12, X12, e12, W12, st12⟩ := putF X11 hx hZ hown (host := "") (Or.inl (hw _ (List.mem_of_getElem? (i := 53) rfl))) Via.refl e11 (((((F_lastModifyTime_a1.keep K7q (by simp)).other W8 (Or.inr (slot_ne (Or.inr (hw _ (List.mem_of_getElem? (i := 54) rfl))) (Or.inr (hw _ (List.mem_of_getElem? (i := 46) rfl))) (by decide) (t := .long) (t' := (.object "java/lang/String")) (by decide) (by decide)))).other W9 (Or.inr (slot_ne (Or.inr (hw _ (List.mem_of_getElem? (i := 54) rfl))) (Or.inr (hw _ (List.mem_of_getElem? (i := 48) rfl))) (by decide) (t := .long) (t' := (.object "java/lang/String")) (by decide) (by decide)))).other W10 (Or.inr (slot_ne (Or.inr (hw _ (List.mem_of_getElem? (i := 54) rfl))) (Or.inr (hw _ (List.mem_of_getElem? (i := 50) rfl))) (by decide) (t := .long) (t' := (.object "com/example/shardgate/shardgate/subscriptions/Subscription$State")) (by decide) (by decide)))).other W11 (Or.inr (slot_ne (Or.inr (hw _ (List.mem_of_getElem? (i := 54) rfl))) (Or.inr (hw _ (List.mem_of_getElem? (i := 52) rfl))) (by decide) (t := .long) (t' := .long) (by decide) (by decide)))) (((((E_a1.keep K7q).wr W8).wr W9).wr W10).wr W11) (Or.inr ⟨(hw _ (List.mem_of_getElem? (i := 54) rfl)), rfl, hnm⟩) (hw _ (List.mem_of_getElem? (i := 34) rfl)) (ty := .long) (by decide) rfl rfl (g := (mkF m 28 #[.val (.ref a1), .val (.ref a2), .val (.ref a3), .val (.ref a4), .val (.long q5), .second, .val (.long q6), .second] [(.long q6), (.ref a1)])) rfl rfl (hb hby d7_28)
  have Fw12 := (((((F_lastModifyTime_a1.keep K7q (by simp)).other W8 (Or.inr (slot_ne (Or.inr (hw _ (List.mem_of_getElem? (i := 54) rfl))) (Or.inr (hw _ (List.mem_of_getElem? (i := 46) rfl))) (by decide) (t := .long) (t' := (.object "java/lang/String")) (by decide) (by decide)))).other W9 (Or.inr (slot_ne (Or.inr (hw _ (List.mem_of_getElem? (i := 54) rfl))) (Or.inr (hw _ (List.mem_of_getElem? (i := 48) rfl))) (by decide) (t := .long) (t' := (.object "java/lang/String")) (by decide) (by decide)))).other W10 (Or.inr (slot_ne (Or.inr (hw _ (List.mem_of_getElem? (i := 54) rfl))) (Or.inr (hw _ (List.mem_of_getElem? (i := 50) rfl))) (by decide) (t := .long) (t' := (.object "com/example/shardgate/shardgate/subscriptions/Subscription$State")) (by decide) (by decide)))).other W11 (Or.inr (slot_ne (Or.inr (hw _ (List.mem_of_getElem? (i := 54) rfl))) (Or.inr (hw _ (List.mem_of_getElem? (i := 52) rfl))) (by decide) (t := .long) (t' := .long) (by decide) (by decide)))).same W12      -- the field now holds (.long q6)
  have K12 : Keep h0 h12 [a1] := K11.wr W12 (Or.inl (List.mem_of_getElem? (i := 0) rfl))
  have N12 := Fr.snoc X12 N11 g_a1
  obtain ⟨fs, hr, hrun, hended, hW, hsame⟩ := X12.leave (v := none) (fun _ => rfl) (BodyLoose.notSynchronized Bd)
  refine ⟨_, _, pre0 _ ?_, hrun, hended, _, _, rfl, ?_, ⟨_, rfl⟩, hW, hsame.mono (by decide) (by decide)⟩
  -- 4. STEPS
  · show Steps p.tables e below (s₁.setTop (mkF m 0 #[.val (.ref a1), .val (.ref a2), .val (.ref a3), .val (.ref a4), .val (.long q5), .second, .val (.long q6), .second] [])) _
    refine XS.aloadN X0.here hx rfl (hb hby d7_0) rfl rfl ?_
    show Steps p.tables e below (s₁.setTop (mkF m 1 #[.val (.ref a1), .val (.ref a2), .val (.ref a3), .val (.ref a4), .val (.long q5), .second, .val (.long q6), .second] [(.ref a1)])) _
    refine st7.trans ?_
    show Steps p.tables e below (T7.setTop (mkF m 4 #[.val (.ref a1), .val (.ref a2), .val (.ref a3), .val (.ref a4), .val (.long q5), .second, .val (.long q6), .second] [])) _
    refine XS.aloadN X7.here hx rfl (hb hby d7_4) rfl rfl ?_
    show Steps p.tables e below (T7.setTop (mkF m 5 #[.val (.ref a1), .val (.ref a2), .val (.ref a3), .val (.ref a4), .val (.long q5), .second, .val (.long q6), .second] [(.ref a1)])) _
    refine XS.aloadN X7.here hx rfl (hb hby d7_5) rfl rfl ?_
    show Steps p.tables e below (T7.setTop (mkF m 6 #[.val (.ref a1), .val (.ref a2), .val (.ref a3), .val (.ref a4), .val (.long q5), .second, .val (.long q6), .second] [(.ref a2), (.ref a1)])) _
    refine st8 _ ?_
    show Steps p.tables e below (T8.setTop (mkF m 9 #[.val (.ref a1), .val (.ref a2), .val (.ref a3), .val (.ref a4), .val (.long q5), .second, .val (.long q6), .second] [])) _
    refine XS.aloadN X8.here hx rfl (hb hby d7_9) rfl rfl ?_
    show Steps p.tables e below (T8.setTop (mkF m 10 #[.val (.ref a1), .val (.ref a2), .val (.ref a3), .val (.ref a4), .val (.long q5), .second, .val (.long q6), .second] [(.ref a1)])) _
    refine XS.aloadN X8.here hx rfl (hb hby d7_10) rfl rfl ?_
    show Steps p.tables e below (T8.setTop (mkF m 11 #[.val (.ref a1), .val (.ref a2), .val (.ref a3), .val (.ref a4), .val (.long q5), .second, .val (.long q6), .second] [(.ref a3), (.ref a1)])) _
    refine st9 _ ?_
    show Steps p.tables e below (T9.setTop (mkF m 14 #[.val (.ref a1), .val (.ref a2), .val (.ref a3), .val (.ref a4), .val (.long q5), .second, .val (.long q6), .second] [])) _
    refine XS.aloadN X9.here hx rfl (hb hby d7_14) rfl rfl ?_
    show Steps p.tables e below (T9.setTop (mkF m 15 #[.val (.ref a1), .val (.ref a2), .val (.ref a3), .val (.ref a4), .val (.long q5), .second, .val (.long q6), .second] [(.ref a1)])) _
    refine XS.aloadN X9.here hx rfl (hb hby d7_15) rfl rfl ?_
    show Steps p.tables e below (T9.setTop (mkF m 16 #[.val (.ref a1), .val (.ref a2), .val (.ref a3), .val (.ref a4), .val (.long q5), .second, .val (.long q6), .second] [(.ref a4), (.ref a1)])) _
    refine st10 _ ?_
    show Steps p.tables e below (T10.setTop (mkF m 19 #[.val (.ref a1), .val (.ref a2), .val (.ref a3), .val (.ref a4), .val (.long q5), .second, .val (.long q6), .second] [])) _
    refine XS.aloadN X10.here hx rfl (hb hby d7_19) rfl rfl ?_
    show Steps p.tables e below (T10.setTop (mkF m 20 #[.val (.ref a1), .val (.ref a2), .val (.ref a3), .val (.ref a4), .val (.long q5), .second, .val (.long q6), .second] [(.ref a1)])) _
    refine XS.lload X10.here hx rfl (hb hby d7_20) rfl ?_
    show Steps p.tables e below (T10.setTop (mkF m 22 #[.val (.ref a1), .val (.ref a2), .val (.ref a3), .val (.ref a4), .val (.long q5), .second, .val (.long q6), .second] [(.long q5), (.ref a1)])) _
    refine st11 _ ?_
    show Steps p.tables e below (T11.setTop (mkF m 25 #[.val (.ref a1), .val (.ref a2), .val (.ref a3), .val (.ref a4), .val (.long q5), .second, .val (.long q6), .second] [])) _
    refine XS.aloadN X11.here hx rfl (hb hby d7_25) rfl rfl ?_
    show Steps p.tables e below (T11.setTop (mkF m 26 #[.val (.ref a1), .val (.ref a2), .val (.ref a3), .val (.ref a4), .val (.long q5), .second, .val (.long q6), .second] [(.ref a1)])) _
    refine XS.lload X11.here hx rfl (hb hby d7_26) rfl ?_
    show Steps p.tables e below (T11.setTop (mkF m 28 #[.val (.ref a1), .val (.ref a2), .val (.ref a3), .val (.ref a4), .val (.long q5), .second, .val (.long q6), .second] [(.long q6), (.ref a1)])) _
    refine st12 _ ?_
    show Steps p.tables e below (T12.setTop (mkF m 31 #[.val (.ref a1), .val (.ref a2), .val (.ref a3), .val (.ref a4), .val (.long q5), .second, .val (.long q6), .second] [])) _
    exact X12.returnOut hx Bd.returns (hb hby d7_31) hr
  · show Q7 Z a1 a2 a3 a4 q5 q6 u_id_a1 u_comment_a1 u_state_a1 u_createTime_a1 u_lastModifyTime_a1 h0 n0 _ T12.heap _
    rw [e12]
    exact ⟨rfl, N12, K12, ((((((E_a1.keep K7q).wr W8).wr W9).wr W10).wr W11).wr W12), ((((Fw8.other W9 (Or.inr (slot_ne (Or.inr (hw _ (List.mem_of_getElem? (i := 46) rfl))) (Or.inr (hw _ (List.mem_of_getElem? (i := 48) rfl))) (by decide) (t := (.object "java/lang/String")) (t' := (.object "java/lang/String")) (by decide) (by decide)))).other W10 (Or.inr (slot_ne (Or.inr (hw _ (List.mem_of_getElem? (i := 46) rfl))) (Or.inr (hw _ (List.mem_of_getElem? (i := 50) rfl))) (by decide) (t := (.object "java/lang/String")) (t' := (.object "com/example/shardgate/shardgate/subscriptions/Subscription$State")) (by decide) (by decide)))).other W11 (Or.inr (slot_ne (Or.inr (hw _ (List.mem_of_getElem? (i := 46) rfl))) (Or.inr (hw _ (List.mem_of_getElem? (i := 52) rfl))) (by decide) (t := (.object "java/lang/String")) (t' := .long) (by decide) (by decide)))).other W12 (Or.inr (slot_ne (Or.inr (hw _ (List.mem_of_getElem? (i := 46) rfl))) (Or.inr (hw _ (List.mem_of_getElem? (i := 54) rfl))) (by decide) (t := (.object "java/lang/String")) (t' := .long) (by decide) (by decide)))), (((Fw9.other W10 (Or.inr (slot_ne (Or.inr (hw _ (List.mem_of_getElem? (i := 48) rfl))) (Or.inr (hw _ (List.mem_of_getElem? (i := 50) rfl))) (by decide) (t := (.object "java/lang/String")) (t' := (.object "com/example/shardgate/shardgate/subscriptions/Subscription$State")) (by decide) (by decide)))).other W11 (Or.inr (slot_ne (Or.inr (hw _ (List.mem_of_getElem? (i := 48) rfl))) (Or.inr (hw _ (List.mem_of_getElem? (i := 52) rfl))) (by decide) (t := (.object "java/lang/String")) (t' := .long) (by decide) (by decide)))).other W12 (Or.inr (slot_ne (Or.inr (hw _ (List.mem_of_getElem? (i := 48) rfl))) (Or.inr (hw _ (List.mem_of_getElem? (i := 54) rfl))) (by decide) (t := (.object "java/lang/String")) (t' := .long) (by decide) (by decide)))), ((Fw10.other W11 (Or.inr (slot_ne (Or.inr (hw _ (List.mem_of_getElem? (i := 50) rfl))) (Or.inr (hw _ (List.mem_of_getElem? (i := 52) rfl))) (by decide) (t := (.object "com/example/shardgate/shardgate/subscriptions/Subscription$State")) (t' := .long) (by decide) (by decide)))).other W12 (Or.inr (slot_ne (Or.inr (hw _ (List.mem_of_getElem? (i := 50) rfl))) (Or.inr (hw _ (List.mem_of_getElem? (i := 54) rfl))) (by decide) (t := (.object "com/example/shardgate/shardgate/subscriptions/Subscription$State")) (t' := .long) (by decide) (by decide)))), (Fw11.other W12 (Or.inr (slot_ne (Or.inr (hw _ (List.mem_of_getElem? (i := 52) rfl))) (Or.inr (hw _ (List.mem_of_getElem? (i := 54) rfl))) (by decide) (t := .long) (t' := .long) (by decide) (by decide)))), Fw12⟩
theorem ef_7n (m : MethodId) (x0 : Addr) (x1 : Addr) (x3 : Addr) (x4 : Int64) (x5 : Int64) : entryFrame m #[(.ref x0), (.ref x1), .null, (.ref x3), (.long x4), (.long x5)] 8 = mkF m 0 #[.val (.ref x0), .val (.ref x1), .val .null, .val (.ref x3), .val (.long x4), .second, .val (.long x5), .second] [] := by first | (simp [entryFrame, mkF, argsToLocals, Value.category]; done) | rfl
def Q7n (Z : State) (a1 : Addr) (a2 : Addr) (a3 : Addr) (q4 : Int64) (q5 : Int64) (u_id_a1 : Value) (u_comment_a1 : Value) (u_state_a1 : Value) (u_createTime_a1 : Value) (u_lastModifyTime_a1 : Value) (h0 : Heap) (n0 : Nat) (v : Option Value) (h : Heap) (L : List Loc) : Prop := v = none ∧ Fr n0 L ∧ Keep h0 h [a1] ∧ Exa Z h a1 "com/example/shardgate/shardgate/subscriptions/Subscription" ∧ Fld Z h a1 "com/example/shardgate/shardgate/subscriptions/Subscription" "id" "Ljava/lang/String;" (.ref a2) ∧ Fld Z h a1 "com/example/shardgate/shardgate/subscriptions/Subscription" "comment" "Ljava/lang/String;" .null ∧ Fld Z h a1 "com/example/shardgate/shardgate/subscriptions/Subscription" "state" "Lcom/example/shardgate/shardgate/subscriptions/Subscription$State;" (.ref a3) ∧ Fld Z h a1 "com/example/shardgate/shardgate/subscriptions/Subscription" "createTime" "J" (.long q4) ∧ Fld Z h a1 "com/example/shardgate/shardgate/subscriptions/Subscription" "lastModifyTime" "J" (.long q5)
set_option maxRecDepth 65536 in
set_option maxHeartbeats 40000000 in
theorem rm7n (l : Launch) (Z : State) (a0 : Array Value) (hw : ∀ d ∈ tables_1, d.before a0 Z = true) (ws : List Jvm.Cond) (a1 : Addr) (a2 : Addr) (a3 : Addr) (q4 : Int64) (q5 : Int64) (u_id_a1 : Value) (u_comment_a1 : Value) (u_state_a1 : Value) (u_createTime_a1 : Value) (u_lastModifyTime_a1 : Value) (h0 : Heap) (n0 : Nat) (Z0 : n0 ≤ h0.size) (E_a1 : Exa Z h0 a1 "com/example/shardgate/shardgate/subscriptions/Subscription") (F_id_a1 : Fld Z h0 a1 "com/example/shardgate/shardgate/subscriptions/Subscription" "id" "Ljava/lang/String;" u_id_a1) (g_a1 : n0 ≤ a1) (F_comment_a1 : Fld Z h0 a1 "com/example/shardgate/shardgate/subscriptions/Subscription" "comment" "Ljava/lang/String;" u_comment_a1) (F_state_a1 : Fld Z h0 a1 "com/example/shardgate/shardgate/subscriptions/Subscription" "state" "Lcom/example/shardgate/shardgate/subscriptions/Subscription$State;" u_state_a1) (F_createTime_a1 : Fld Z h0 a1 "com/example/shardgate/shardgate/subscriptions/Subscription" "createTime" "J" u_createTime_a1) (F_lastModifyTime_a1 : Fld Z h0 a1 "com/example/shardgate/shardgate/subscriptions/Subscription" "lastModifyTime" "J" u_lastModifyTime_a1) :
    MetFree l (⟨"com/example/shardgate/shardgate/subscriptions/Subscription", "<init>", "(Ljava/lang/String;Ljava/lang/String;Lcom/example/shardgate/shardgate/subscriptions/Subscription$State;JJ)V"⟩ : MethodName) (head1 (Jvm.Cond.code (⟨"com/example/shardgate/shardgate/subscriptions/Subscription", "<init>", "(Ljava/lang/String;Ljava/lang/String;Lcom/example/shardgate/shardgate/subscriptions/Subscription$State;JJ)V"⟩ : MethodName) prog_63_method_1_code 8 none :: ws) ({ frames := 2, cells := 0, slots := 0, locals := 24 } : Room)) (fun a U => a = #[(.ref a1), (.ref a2), .null, (.ref a3), (.long q4), (.long q5)] ∧ Z.Warmed39 U.vm ∧ U.heap = h0) (fun _ _ _ _ _ => True) (fun _ U o U' => ∃ v L, o = .returned v ∧ Q7n Z a1 a2 a3 q4 q5 u_id_a1 u_comment_a1 u_state_a1 u_createTime_a1 u_lastModifyTime_a1 h0 n0 v U'.heap L ∧ FrameEnd U o U' L ({ frames := 2, cells := 0, slots := 0, locals := 24 } : Room).cells ({ frames := 2, cells := 0, slots := 0, locals := 24 } : Room).slots) := by
  refine MetFree.of_bodySF (plainFor_of_name pn_7) hisR ?_
  intro p e s m args below meth c s₁ Bd hml0 hP hK
  obtain ⟨rfl, hZ, hh⟩ := hP
  have hx := Bd.exec
  have hby := Bd.bytes
  have hml : c.maxLocals = 8 := hml0
  have hown : s.vm.findClass "com/example/shardgate/shardgate/subscriptions/Subscription" = some m.cls := findClass_of_methodNamed Bd.named
  have hnm := (name_of_methodNamed Bd.named Bd.method).1
  have X0 : Stand p l e ({ frames := 2, cells := 0, slots := 0, locals := 24 } : Room) s m #[(.ref a1), (.ref a2), .null, (.ref a3), (.long q4), (.long q5)] below meth c s₁ [] 0 0 := Stand.of_body Bd
  have e0 : s₁.heap = h0 := by rw [← hh, Bd.state]; rfl
  have N0 := Fr.nil n0
  have pre0 : ∀ t, Steps p.tables e below (s₁.setTop (mkF m 0 #[.val (.ref a1), .val (.ref a2), .val .null, .val (.ref a3), .val (.long q4), .second, .val (.long q5), .second] [])) t → Steps p.tables e below (s₁.setTop (entryFrame m #[(.ref a1), (.ref a2), .null, (.ref a3), (.long q4), (.long q5)] 8)) t := fun t k => castTop (ef_7n m a1 a2 a3 q4 q5) k
  -- 3. LAWS
  -- pc 1: the constructor of java/lang/Record by its contract rm8
  obtain ⟨_, _, ⟨T6, L6, k6, n6⟩, -, X6, ⟨Lc6, hQ6, l6, y6, z6⟩, st6⟩ := X0.specialBack hx (y := (⟨"java/lang/Record", "<init>", "()V"⟩ : MethodName)) rfl hown (mvT hZ (hw _ (List.mem_of_getElem? (i := 39) rfl))) (mvT hZ (hw _ (List.mem_of_getElem? (i := 40) rfl))) (mvT hZ (hw _ (List.mem_of_getElem? (i := 43) rfl))) (by decide) (backOf (W := 0) (rm8 l Z a0 hw [] a1  h0 n0 Z0) hZ (hw _ (List.mem_of_getElem? (i := 43) rfl)) (hw _ (List.mem_of_getElem? (i := 42) rfl)) (by decide) (by decide)) (g := (mkF m 1 #[.val (.ref a1), .val (.ref a2), .val .null, .val (.ref a3), .val (.long q4), .second, .val (.long q5), .second] [(.ref a1)])) rfl (by rw [hml]; rfl) (Steps.refl _) (a := a1) (argsL := []) (rest := []) (lenOf pd_7_2 rfl) rfl (by show 2 * 0 + _ ≤ _; exact Nat.le_of_eq rfl) (hb hby d7_1) (fun _ _ => ⟨rfl, e0, (by decide : 0 + 0 ≤ _), (by decide : 0 + 0 ≤ _)⟩)
  dsimp only [Pt.U, Pt.locs, Pt.cells, Pt.slots] at X6 l6 y6 z6 st6 hQ6
  subst l6 y6 z6
  obtain ⟨rfl, N6q, e6q⟩ := hQ6
  have N6 := Fr.app N0 N6q
  have K6q : Keep h0 T6.heap [] := own_keep e6q
  have KH6 : Keep h0 T6.heap [a1] := (Keep.refl h0 [a1]).trans K6q own_ws0
  have eh6 : T6.heap = h0 := by rw [e6q]
  obtain ⟨T7, h7, X7, e7, W7, st7⟩ := putF X6 hx hZ hown (host := "") (Or.inl (hw _ (List.mem_of_getElem? (i := 45) rfl))) Via.refl rfl (F_id_a1.keep K6q (by simp)) (E_a1.keep K6q) (Or.inr ⟨(hw _ (List.mem_of_getElem? (i := 46) rfl)), rfl, hnm⟩) (hw _ (List.mem_of_getElem? (i := 34) rfl)) (ty := (.object "java/lang/String")) (by decide) rfl rfl (g := (mkF m 6 #[.val (.ref a1), .val (.ref a2), .val .null, .val (.ref a3), .val (.long q4), .second, .val (.long q5), .second] [(.ref a2), (.ref a1)])) rfl rfl (hb hby d7_6)
  have Fw7 := (F_id_a1.keep K6q (by simp)).same W7      -- the field now holds (.ref a2)
  have K7 : Keep h0 h7 [a1] := KH6.wr W7 (Or.inl (List.mem_of_getElem? (i := 0) rfl))
  have N7 := Fr.snoc X7 N6 g_a1
  obtain ⟨T8, h8, X8, e8, W8, st8⟩ := putF X7 hx hZ hown (host := "") (Or.inl (hw _ (List.mem_of_getElem? (i := 47) rfl))) Via.refl e7 ((F_comment_a1.keep K6q (by simp)).other W7 (Or.inr (slot_ne (Or.inr (hw _ (List.mem_of_getElem? (i := 48) rfl))) (Or.inr (hw _ (List.mem_of_getElem? (i := 46) rfl))) (by decide) (t := (.object "java/lang/String")) (t' := (.object "java/lang/String")) (by decide) (by decide)))) ((E_a1.keep K6q).wr W7) (Or.inr ⟨(hw _ (List.mem_of_getElem? (i := 48) rfl)), rfl, hnm⟩) (hw _ (List.mem_of_getElem? (i := 34) rfl)) (ty := (.object "java/lang/String")) (by decide) rfl rfl (g := (mkF m 11 #[.val (.ref a1), .val (.ref a2), .val .null, .val (.ref a3), .val (.long q4), .second, .val (.long q5), .second] [.null, (.ref a1)])) rfl rfl (hb hby d7_11)
  have Fw8 := ((F_comment_a1.keep K6q (by simp)).other W7 (Or.inr (slot_ne (Or.inr (hw _ (List.mem_of_getElem? (i := 48) rfl))) (Or.inr (hw _ (List.mem_of_getElem? (i := 46) rfl))) (by decide) (t := (.object "java/lang/String")) (t' := (.object "java/lang/String")) (by decide) (by decide)))).same W8      -- the field now holds .null
  have K8 : Keep h0 h8 [a1] := K7.wr W8 (Or.inl (List.mem_of_getElem? (i := 0) rfl))
  have N8 := Fr.snoc X8 N7 g_a1
  obtain ⟨T9, h9, X9, e9, W9, st9⟩ := putF X8 hx hZ hown (host := "") (Or.inl (hw _ (List.mem_of_getElem? (i := 49) rfl))) Via.refl e8 (((F_state_a1.keep K6q (by simp)).other W7 (Or.inr (slot_ne (Or.inr (hw _ (List.mem_of_getElem? (i := 50) rfl))) (Or.inr (hw _ (List.mem_of_getElem? (i := 46) rfl))) (by decide) (t := (.object "com/example/shardgate/shardgate/subscriptions/Subscription$State")) (t' := (.object "java/lang/String")) (by decide) (by decide)))).other W8 (Or.inr (slot_ne (Or.inr (hw _ (List.mem_of_getElem? (i := 50) rfl))) (Or.inr (hw _ (List.mem_of_getElem? (i := 48) rfl))) (by decide) (t := (.object "com/example/shardgate/shardgate/subscriptions/Subscription$State")) (t' := (.object "java/lang/String")) (by decide) (by decide)))) (((E_a1.keep K6q).wr W7).wr W8) (Or.inr ⟨(hw _ (List.mem_of_getElem? (i := 50) rfl)), rfl, hnm⟩) (hw _ (List.mem_of_getElem? (i := 34) rfl)) (ty := (.object "com/example/shardgate/shardgate/subscriptions/Subscription$State")) (by decide) rfl rfl (g := (mkF m 16 #[.val (.ref a1), .val (.ref a2), .val .null, .val (.ref a3), .val (.long q4), .second, .val (.long q5), .second] [(.ref a3), (.ref a1)])) rfl rfl (hb hby d7_16)
  have Fw9 := (((F_state_a1.keep K6q (by simp)).other W7 (Or.inr (slot_ne (Or.inr (hw _ (List.mem_of_getElem? (i := 50) rfl))) (Or.inr (hw _ (List.mem_of_getElem? (i := 46) rfl))) (by decide) (t := (.object "com/example/shardgate/shardgate/subscriptions/Subscription$State")) (t' := (.object "java/lang/String")) (by decide) (by decide)))).other W8 (Or.inr (slot_ne (Or.inr (hw _ (List.mem_of_getElem? (i := 50) rfl))) (Or.inr (hw _ (List.mem_of_getElem? (i := 48) rfl))) (by decide) (t := (.object "com/example/shardgate/shardgate/subscriptions/Subscription$State")) (t' := (.object "java/lang/String")) (by decide) (by decide)))).same W9      -- the field now holds (.ref a3)
  have K9 : Keep h0 h9 [a1] := K8.wr W9 (Or.inl (List.mem_of_getElem? (i := 0) rfl))
  have N9 := Fr.snoc X9 N8 g_a1
  obtain ⟨T10, h10, X10, e10, W10, st10⟩ := putF X9 hx hZ hown (host := "") (Or.inl (hw _ (List.mem_of_getElem? (i := 51) rfl))) Via.refl e9 ((((F_createTime_a1.keep K6q (by simp)).other W7 (Or.inr (slot_ne (Or.inr (hw _ (List.mem_of_getElem? (i := 52) rfl))) (Or.inr (hw _ (List.mem_of_getElem? (i := 46) rfl))) (by decide) (t := .long) (t' := (.object "java/lang/String")) (by decide) (by decide)))).other W8 (Or.inr (slot_ne (Or.inr (hw _ (List.mem_of_getElem? (i := 52) rfl))) (Or.inr (hw _ (List.mem_of_getElem? (i := 48) rfl))) (by decide) (t := .long) (t' := (.object "java/lang/String")) (by decide) (by decide)))).other W9 (Or.inr (slot_ne (Or.inr (hw _ (List.mem_of_getElem? (i := 52) rfl))) (Or.inr (hw _ (List.mem_of_getElem? (i := 50) rfl))) (by decide) (t := .long) (t' := (.object "com/example/shardgate/shardgate/subscriptions/Subscription$State")) (by decide) (by decide)))) ((((E_a1.keep K6q).wr W7).wr W8).wr W9) (Or.inr ⟨(hw _ (List.mem_of_getElem? (i := 52) rfl)), rfl, hnm⟩) (hw _ (List.mem_of_getElem? (i := 34) rfl)) (ty := .long) (by decide) rfl rfl (g := (mkF m 22 #[.val (.ref a1), .val (.ref a2), .val .null, .val (.ref a3), .val (.long q4), .second, .val (.long q5), .second] [(.long q4), (.ref a1)])) rfl rfl (hb hby d7_22)
  have Fw10 := ((((F_createTime_a1.keep K6q (by simp)).other W7 (Or.inr (slot_ne (Or.inr (hw _ (List.mem_of_getElem? (i := 52) rfl))) (Or.inr (hw _ (List.mem_of_getElem? (i := 46) rfl))) (by decide) (t := .long) (t' := (.object "java/lang/String")) (by decide) (by decide)))).other W8 (Or.inr (slot_ne (Or.inr (hw _ (List.mem_of_getElem? (i := 52) rfl))) (Or.inr (hw _ (List.mem_of_getElem? (i := 48) rfl))) (by decide) (t := .long) (t' := (.object "java/lang/String")) (by decide) (by decide)))).other W9 (Or.inr (slot_ne (Or.inr (hw _ (List.mem_of_getElem? (i := 52) rfl))) (Or.inr (hw _ (List.mem_of_getElem? (i := 50) rfl))) (by decide) (t := .long) (t' := (.object "com/example/shardgate/shardgate/subscriptions/Subscription$State")) (by decide) (by decide)))).same W10      -- the field now holds (.long q4)
  have K10 : Keep h0 h10 [a1] := K9.wr W10 (Or.inl (List.mem_of_getElem? (i := 0) rfl))
  have N10 := Fr.snoc X10 N9 g_a1
  obtain ⟨T11, h11, X11, e11, W11, st11⟩ := putF X10 hx hZ hown (host := "") (Or.inl (hw _ (List.mem_of_getElem? (i := 53) rfl))) Via.refl e10 (((((F_lastModifyTime_a1.keep K6q (by simp)).other W7 (Or.inr (slot_ne (Or.inr (hw _ (List.mem_of_getElem? (i := 54) rfl))) (Or.inr (hw _ (List.mem_of_getElem? (i := 46) rfl))) (by decide) (t := .long) (t' := (.object "java/lang/String")) (by decide) (by decide)))).other W8 (Or.inr (slot_ne (Or.inr (hw _ (List.mem_of_getElem? (i := 54) rfl))) (Or.inr (hw _ (List.mem_of_getElem? (i := 48) rfl))) (by decide) (t := .long) (t' := (.object "java/lang/String")) (by decide) (by decide)))).other W9 (Or.inr (slot_ne (Or.inr (hw _ (List.mem_of_getElem? (i := 54) rfl))) (Or.inr (hw _ (List.mem_of_getElem? (i := 50) rfl))) (by decide) (t := .long) (t' := (.object "com/example/shardgate/shardgate/subscriptions/Subscription$State")) (by decide) (by decide)))).other W10 (Or.inr (slot_ne (Or.inr (hw _ (List.mem_of_getElem? (i := 54) rfl))) (Or.inr (hw _ (List.mem_of_getElem? (i := 52) rfl))) (by decide) (t := .long) (t' := .long) (by decide) (by decide)))) (((((E_a1.keep K6q).wr W7).wr W8).wr W9).wr W10) (Or.inr ⟨(hw _ (List.mem_of_getElem? (i := 54) rfl)), rfl, hnm⟩) (hw _ (List.mem_of_getElem? (i := 34) rfl)) (ty := .long) (by decide) rfl rfl (g := (mkF m 28 #[.val (.ref a1), .val (.ref a2), .val .null, .val (.ref a3), .val (.long q4), .second, .val (.long q5), .second] [(.long q5), (.ref a1)])) rfl rfl (hb hby d7_28)
  have Fw11 := (((((F_lastModifyTime_a1.keep K6q (by simp)).other W7 (Or.inr (slot_ne (Or.inr (hw _ (List.mem_of_getElem? (i := 54) rfl))) (Or.inr (hw _ (List.mem_of_getElem? (i := 46) rfl))) (by decide) (t := .long) (t' := (.object "java/lang/String")) (by decide) (by decide)))).other W8 (Or.inr (slot_ne (Or.inr (hw _ (List.mem_of_getElem? (i := 54) rfl))) (Or.inr (hw _ (List.mem_of_getElem? (i := 48) rfl))) (by decide) (t := .long) (t' := (.object "java/lang/String")) (by decide) (by decide)))).other W9 (Or.inr (slot_ne (Or.inr (hw _ (List.mem_of_getElem? (i := 54) rfl))) (Or.inr (hw _ (List.mem_of_getElem? (i := 50) rfl))) (by decide) (t := .long) (t' := (.object "com/example/shardgate/shardgate/subscriptions/Subscription$State")) (by decide) (by decide)))).other W10 (Or.inr (slot_ne (Or.inr (hw _ (List.mem_of_getElem? (i := 54) rfl))) (Or.inr (hw _ (List.mem_of_getElem? (i := 52) rfl))) (by decide) (t := .long) (t' := .long) (by decide) (by decide)))).same W11      -- the field now holds (.long q5)
  have K11 : Keep h0 h11 [a1] := K10.wr W11 (Or.inl (List.mem_of_getElem? (i := 0) rfl))
  have N11 := Fr.snoc X11 N10 g_a1
  obtain ⟨fs, hr, hrun, hended, hW, hsame⟩ := X11.leave (v := none) (fun _ => rfl) (BodyLoose.notSynchronized Bd)
  refine ⟨_, _, pre0 _ ?_, hrun, hended, _, _, rfl, ?_, ⟨_, rfl⟩, hW, hsame.mono (by decide) (by decide)⟩
  -- 4. STEPS
  · show Steps p.tables e below (s₁.setTop (mkF m 0 #[.val (.ref a1), .val (.ref a2), .val .null, .val (.ref a3), .val (.long q4), .second, .val (.long q5), .second] [])) _
    refine XS.aloadN X0.here hx rfl (hb hby d7_0) rfl rfl ?_
    show Steps p.tables e below (s₁.setTop (mkF m 1 #[.val (.ref a1), .val (.ref a2), .val .null, .val (.ref a3), .val (.long q4), .second, .val (.long q5), .second] [(.ref a1)])) _
    refine st6.trans ?_
    show Steps p.tables e below (T6.setTop (mkF m 4 #[.val (.ref a1), .val (.ref a2), .val .null, .val (.ref a3), .val (.long q4), .second, .val (.long q5), .second] [])) _
    refine XS.aloadN X6.here hx rfl (hb hby d7_4) rfl rfl ?_
    show Steps p.tables e below (T6.setTop (mkF m 5 #[.val (.ref a1), .val (.ref a2), .val .null, .val (.ref a3), .val (.long q4), .second, .val (.long q5), .second] [(.ref a1)])) _
    refine XS.aloadN X6.here hx rfl (hb hby d7_5) rfl rfl ?_
    show Steps p.tables e below (T6.setTop (mkF m 6 #[.val (.ref a1), .val (.ref a2), .val .null, .val (.ref a3), .val (.long q4), .second, .val (.long q5), .second] [(.ref a2), (.ref a1)])) _
    refine st7 _ ?_
    show Steps p.tables e below (T7.setTop (mkF m 9 #[.val (.ref a1), .val (.ref a2), .val .null, .val (.ref a3), .val (.long q4), .second, .val (.long q5), .second] [])) _
    refine XS.aloadN X7.here hx rfl (hb hby d7_9) rfl rfl ?_
    show Steps p.tables e below (T7.setTop (mkF m 10 #[.val (.ref a1), .val (.ref a2), .val .null, .val (.ref a3), .val (.long q4), .second, .val (.long q5), .second] [(.ref a1)])) _
    refine XS.aloadN X7.here hx rfl (hb hby d7_10) rfl rfl ?_
    show Steps p.tables e below (T7.setTop (mkF m 11 #[.val (.ref a1), .val (.ref a2), .val .null, .val (.ref a3), .val (.long q4), .second, .val (.long q5), .second] [.null, (.ref a1)])) _
    refine st8 _ ?_
    show Steps p.tables e below (T8.setTop (mkF m 14 #[.val (.ref a1), .val (.ref a2), .val .null, .val (.ref a3), .val (.long q4), .second, .val (.long q5), .second] [])) _
    refine XS.aloadN X8.here hx rfl (hb hby d7_14) rfl rfl ?_
    show Steps p.tables e below (T8.setTop (mkF m 15 #[.val (.ref a1), .val (.ref a2), .val .null, .val (.ref a3), .val (.long q4), .second, .val (.long q5), .second] [(.ref a1)])) _
    refine XS.aloadN X8.here hx rfl (hb hby d7_15) rfl rfl ?_
    show Steps p.tables e below (T8.setTop (mkF m 16 #[.val (.ref a1), .val (.ref a2), .val .null, .val (.ref a3), .val (.long q4), .second, .val (.long q5), .second] [(.ref a3), (.ref a1)])) _
    refine st9 _ ?_
    show Steps p.tables e below (T9.setTop (mkF m 19 #[.val (.ref a1), .val (.ref a2), .val .null, .val (.ref a3), .val (.long q4), .second, .val (.long q5), .second] [])) _
    refine XS.aloadN X9.here hx rfl (hb hby d7_19) rfl rfl ?_
    show Steps p.tables e below (T9.setTop (mkF m 20 #[.val (.ref a1), .val (.ref a2), .val .null, .val (.ref a3), .val (.long q4), .second, .val (.long q5), .second] [(.ref a1)])) _
    refine XS.lload X9.here hx rfl (hb hby d7_20) rfl ?_
    show Steps p.tables e below (T9.setTop (mkF m 22 #[.val (.ref a1), .val (.ref a2), .val .null, .val (.ref a3), .val (.long q4), .second, .val (.long q5), .second] [(.long q4), (.ref a1)])) _
    refine st10 _ ?_
    show Steps p.tables e below (T10.setTop (mkF m 25 #[.val (.ref a1), .val (.ref a2), .val .null, .val (.ref a3), .val (.long q4), .second, .val (.long q5), .second] [])) _
    refine XS.aloadN X10.here hx rfl (hb hby d7_25) rfl rfl ?_
    show Steps p.tables e below (T10.setTop (mkF m 26 #[.val (.ref a1), .val (.ref a2), .val .null, .val (.ref a3), .val (.long q4), .second, .val (.long q5), .second] [(.ref a1)])) _
    refine XS.lload X10.here hx rfl (hb hby d7_26) rfl ?_
    show Steps p.tables e below (T10.setTop (mkF m 28 #[.val (.ref a1), .val (.ref a2), .val .null, .val (.ref a3), .val (.long q4), .second, .val (.long q5), .second] [(.long q5), (.ref a1)])) _
    refine st11 _ ?_
    show Steps p.tables e below (T11.setTop (mkF m 31 #[.val (.ref a1), .val (.ref a2), .val .null, .val (.ref a3), .val (.long q4), .second, .val (.long q5), .second] [])) _
    exact X11.returnOut hx Bd.returns (hb hby d7_31) hr
  · show Q7n Z a1 a2 a3 q4 q5 u_id_a1 u_comment_a1 u_state_a1 u_createTime_a1 u_lastModifyTime_a1 h0 n0 _ T11.heap _
    rw [e11]
    exact ⟨rfl, N11, K11, ((((((E_a1.keep K6q).wr W7).wr W8).wr W9).wr W10).wr W11), ((((Fw7.other W8 (Or.inr (slot_ne (Or.inr (hw _ (List.mem_of_getElem? (i := 46) rfl))) (Or.inr (hw _ (List.mem_of_getElem? (i := 48) rfl))) (by decide) (t := (.object "java/lang/String")) (t' := (.object "java/lang/String")) (by decide) (by decide)))).other W9 (Or.inr (slot_ne (Or.inr (hw _ (List.mem_of_getElem? (i := 46) rfl))) (Or.inr (hw _ (List.mem_of_getElem? (i := 50) rfl))) (by decide) (t := (.object "java/lang/String")) (t' := (.object "com/example/shardgate/shardgate/subscriptions/Subscription$State")) (by decide) (by decide)))).other W10 (Or.inr (slot_ne (Or.inr (hw _ (List.mem_of_getElem? (i := 46) rfl))) (Or.inr (hw _ (List.mem_of_getElem? (i := 52) rfl))) (by decide) (t := (.object "java/lang/String")) (t' := .long) (by decide) (by decide)))).other W11 (Or.inr (slot_ne (Or.inr (hw _ (List.mem_of_getElem? (i := 46) rfl))) (Or.inr (hw _ (List.mem_of_getElem? (i := 54) rfl))) (by decide) (t := (.object "java/lang/String")) (t' := .long) (by decide) (by decide)))), (((Fw8.other W9 (Or.inr (slot_ne (Or.inr (hw _ (List.mem_of_getElem? (i := 48) rfl))) (Or.inr (hw _ (List.mem_of_getElem? (i := 50) rfl))) (by decide) (t := (.object "java/lang/String")) (t' := (.object "com/example/shardgate/shardgate/subscriptions/Subscription$State")) (by decide) (by decide)))).other W10 (Or.inr (slot_ne (Or.inr (hw _ (List.mem_of_getElem? (i := 48) rfl))) (Or.inr (hw _ (List.mem_of_getElem? (i := 52) rfl))) (by decide) (t := (.object "java/lang/String")) (t' := .long) (by decide) (by decide)))).other W11 (Or.inr (slot_ne (Or.inr (hw _ (List.mem_of_getElem? (i := 48) rfl))) (Or.inr (hw _ (List.mem_of_getElem? (i := 54) rfl))) (by decide) (t := (.object "java/lang/String")) (t' := .long) (by decide) (by decide)))), ((Fw9.other W10 (Or.inr (slot_ne (Or.inr (hw _ (List.mem_of_getElem? (i := 50) rfl))) (Or.inr (hw _ (List.mem_of_getElem? (i := 52) rfl))) (by decide) (t := (.object "com/example/shardgate/shardgate/subscriptions/Subscription$State")) (t' := .long) (by decide) (by decide)))).other W11 (Or.inr (slot_ne (Or.inr (hw _ (List.mem_of_getElem? (i := 50) rfl))) (Or.inr (hw _ (List.mem_of_getElem? (i := 54) rfl))) (by decide) (t := (.object "com/example/shardgate/shardgate/subscriptions/Subscription$State")) (t' := .long) (by decide) (by decide)))), (Fw10.other W11 (Or.inr (slot_ne (Or.inr (hw _ (List.mem_of_getElem? (i := 52) rfl))) (Or.inr (hw _ (List.mem_of_getElem? (i := 54) rfl))) (by decide) (t := .long) (t' := .long) (by decide) (by decide)))), Fw11⟩
theorem d9_0 : decode prog_63_method_2_code 0 = .ok (.new 8, 3) := by decide +kernel
theorem d9_3 : decode prog_63_method_2_code 3 = .ok (.dup, 1) := by decide +kernel
theorem d9_4 : decode prog_63_method_2_code 4 = .ok (.aload_n 0, 1) := by decide +kernel
theorem d9_5 : decode prog_63_method_2_code 5 = .ok (.getfield 7, 3) := by decide +kernel
theorem d9_8 : decode prog_63_method_2_code 8 = .ok (.aload_n 0, 1) := by decide +kernel
theorem d9_9 : decode prog_63_method_2_code 9 = .ok (.getfield 13, 3) := by decide +kernel
theorem d9_12 : decode prog_63_method_2_code 12 = .ok (.aload_n 1, 1) := by decide +kernel
theorem d9_13 : decode prog_63_method_2_code 13 = .ok (.aload_n 0, 1) := by decide +kernel
theorem d9_14 : decode prog_63_method_2_code 14 = .ok (.getfield 20, 3) := by decide +kernel
theorem d9_17 : decode prog_63_method_2_code 17 = .ok (.lload_n 2, 1) := by decide +kernel
theorem d9_18 : decode prog_63_method_2_code 18 = .ok (.invokespecial 27, 3) := by decide +kernel
theorem d9_21 : decode prog_63_method_2_code 21 = .ok (.areturn, 1) := by decide +kernel
theorem pn_9 : plainName "com/example/shardgate/shardgate/subscriptions/Subscription" = true := by first | (simp [plainName, overriddenIn]; done) | decide +kernel
theorem pd_9_6 : parseMethodDescriptor "(Ljava/lang/String;Ljava/lang/String;Lcom/example/shardgate/shardgate/subscriptions/Subscription$State;JJ)V" = some ⟨[(.object "java/lang/String"), (.object "java/lang/String"), (.object "com/example/shardgate/shardgate/subscriptions/Subscription$State"), .long, .long], none⟩ := by decide +kernel
theorem ef_9 (m : MethodId) (x0 : Addr) (x1 : Addr) (x2 : Int64) : entryFrame m #[(.ref x0), (.ref x1), (.long x2)] 4 = mkF m 0 #[.val (.ref x0), .val (.ref x1), .val (.long x2), .second] [] := by first | (simp [entryFrame, mkF, argsToLocals, Value.category]; done) | rfl
def Q9 (Z : State) (a1 : Addr) (a2 : Addr) (q3 : Int64) (w_id_a1 : Addr) (w_comment_a1 : Addr) (w_createTime_a1 : Int64) (h0 : Heap) (n0 : Nat) (v : Option Value) (h : Heap) (L : List Loc) : Prop := v = some (.ref h0.size) ∧ Fr n0 L ∧ Keep h0 h [] ∧ Exa Z h h0.size "com/example/shardgate/shardgate/subscriptions/Subscription" ∧ Fld Z h h0.size "com/example/shardgate/shardgate/subscriptions/Subscription" "id" "Ljava/lang/String;" (.ref w_id_a1) ∧ Fld Z h h0.size "com/example/shardgate/shardgate/subscriptions/Subscription" "comment" "Ljava/lang/String;" (.ref w_comment_a1) ∧ Fld Z h h0.size "com/example/shardgate/shardgate/subscriptions/Subscription" "state" "Lcom/example/shardgate/shardgate/subscriptions/Subscription$State;" (.ref a2) ∧ Fld Z h h0.size "com/example/shardgate/shardgate/subscriptions/Subscription" "createTime" "J" (.long w_createTime_a1) ∧ Fld Z h h0.size "com/example/shardgate/shardgate/subscriptions/Subscription" "lastModifyTime" "J" (.long q3)
set_option maxRecDepth 65536 in
set_option maxHeartbeats 40000000 in
theorem rm9 (l : Launch) (Z : State) (a0 : Array Value) (hw : ∀ d ∈ tables_1, d.before a0 Z = true) (ws : List Jvm.Cond) (a1 : Addr) (a2 : Addr) (q3 : Int64) (w_id_a1 : Addr) (w_comment_a1 : Addr) (w_createTime_a1 : Int64) (h0 : Heap) (n0 : Nat) (Z0 : n0 ≤ h0.size) (F_id_a1 : Fld Z h0 a1 "com/example/shardgate/shardgate/subscriptions/Subscription" "id" "Ljava/lang/String;" (.ref w_id_a1)) (F_comment_a1 : Fld Z h0 a1 "com/example/shardgate/shardgate/subscriptions/Subscription" "comment" "Ljava/lang/String;" (.ref w_comment_a1)) (F_createTime_a1 : Fld Z h0 a1 "com/example/shardgate/shardgate/subscriptions/Subscription" "createTime" "J" (.long w_createTime_a1)) :
    MetFree l (⟨"com/example/shardgate/shardgate/subscriptions/Subscription", "in", "(Lcom/example/shardgate/shardgate/subscriptions/Subscription$State;J)Lcom/example/shardgate/shardgate/subscriptions/Subscription;"⟩ : MethodName) (head1 (Jvm.Cond.code (⟨"com/example/shardgate/shardgate/subscriptions/Subscription", "in", "(Lcom/example/shardgate/shardgate/subscriptions/Subscription$State;J)Lcom/example/shardgate/shardgate/subscriptions/Subscription;"⟩ : MethodName) prog_63_method_2_code 4 (some (.object "com/example/shardgate/shardgate/subscriptions/Subscription")) :: ws) ({ frames := 3, cells := 1, slots := 5, locals := 48 } : Room)) (fun a U => a = #[(.ref a1), (.ref a2), (.long q3)] ∧ Z.Warmed39 U.vm ∧ U.heap = h0) (fun _ _ _ _ _ => True) (fun _ U o U' => ∃ v L, o = .returned v ∧ Q9 Z a1 a2 q3 w_id_a1 w_comment_a1 w_createTime_a1 h0 n0 v U'.heap L ∧ FrameEnd U o U' L ({ frames := 3, cells := 1, slots := 5, locals := 48 } : Room).cells ({ frames := 3, cells := 1, slots := 5, locals := 48 } : Room).slots) := by
  refine MetFree.of_bodySF (plainFor_of_name pn_9) hisR ?_
  intro p e s m args below meth c s₁ Bd hml0 hP hK
  obtain ⟨rfl, hZ, hh⟩ := hP
  have hx := Bd.exec
  have hby := Bd.bytes
  have hml : c.maxLocals = 4 := hml0
  have hown : s.vm.findClass "com/example/shardgate/shardgate/subscriptions/Subscription" = some m.cls := findClass_of_methodNamed Bd.named
  have hnm := (name_of_methodNamed Bd.named Bd.method).1
  have X0 : Stand p l e ({ frames := 3, cells := 1, slots := 5, locals := 48 } : Room) s m #[(.ref a1), (.ref a2), (.long q3)] below meth c s₁ [] 0 0 := Stand.of_body Bd
  have e0 : s₁.heap = h0 := by rw [← hh, Bd.state]; rfl
  have N0 := Fr.nil n0
  have pre0 : ∀ t, Steps p.tables e below (s₁.setTop (mkF m 0 #[.val (.ref a1), .val (.ref a2), .val (.long q3), .second] [])) t → Steps p.tables e below (s₁.setTop (entryFrame m #[(.ref a1), (.ref a2), (.long q3)] 4)) t := fun t k => castTop (ef_9 m a1 a2 q3) k
  -- 3. LAWS
  obtain ⟨T4, h4, X4, e4, E4, A4, D4, -, st4⟩ := newO X0 hx hZ hown (hw _ (List.mem_of_getElem? (i := 60) rfl)) (hw _ (List.mem_of_getElem? (i := 34) rfl)) (hw _ (List.mem_of_getElem? (i := 35) rfl)) e0 (g := (mkF m 0 #[.val (.ref a1), .val (.ref a2), .val (.long q3), .second] [])) rfl (hb hby d9_0) (by decide) (by decide)
  obtain ⟨b4, g4⟩ : ∃ z, z = h0.size := ⟨_, rfl⟩      -- the fresh object's address
  rw [← g4] at A4 D4 st4      -- A4 : Exa Z h4 b4 "com/example/shardgate/shardgate/subscriptions/Subscription"; E4 : Ext h0 h4 (carries every older fact: .ext E4)
  have F_id_b4 : Fld Z h4 b4 "com/example/shardgate/shardgate/subscriptions/Subscription" "id" "Ljava/lang/String;" .null := D4 (Or.inr (hw _ (List.mem_of_getElem? (i := 46) rfl))) (ty := (.object "java/lang/String")) (by decide)
  have F_comment_b4 : Fld Z h4 b4 "com/example/shardgate/shardgate/subscriptions/Subscription" "comment" "Ljava/lang/String;" .null := D4 (Or.inr (hw _ (List.mem_of_getElem? (i := 48) rfl))) (ty := (.object "java/lang/String")) (by decide)
  have F_state_b4 : Fld Z h4 b4 "com/example/shardgate/shardgate/subscriptions/Subscription" "state" "Lcom/example/shardgate/shardgate/subscriptions/Subscription$State;" .null := D4 (Or.inr (hw _ (List.mem_of_getElem? (i := 50) rfl))) (ty := (.object "com/example/shardgate/shardgate/subscriptions/Subscription$State")) (by decide)
  have F_createTime_b4 : Fld Z h4 b4 "com/example/shardgate/shardgate/subscriptions/Subscription" "createTime" "J" (.long (0 : Int64)) := D4 (Or.inr (hw _ (List.mem_of_getElem? (i := 52) rfl))) (ty := .long) (by decide)
  have F_lastModifyTime_b4 : Fld Z h4 b4 "com/example/shardgate/shardgate/subscriptions/Subscription" "lastModifyTime" "J" (.long (0 : Int64)) := D4 (Or.inr (hw _ (List.mem_of_getElem? (i := 54) rfl))) (ty := .long) (by decide)
  have E_b4 := A4
  have g_b4 : n0 ≤ b4 := Nat.le_trans Z0 (Nat.le_of_eq g4.symm)
  have sz_b4 : h0.size ≤ b4 := (Nat.le_trans (Keep.refl h0 []).1 (Nat.le_of_eq g4.symm))
  have K4 : Keep h0 h4 [] := (Keep.refl h0 []).ext E4
  obtain ⟨T6, X6, e6, st6⟩ := getF X4 hx hZ hown (host := "") (Or.inl (hw _ (List.mem_of_getElem? (i := 45) rfl))) Via.refl e4 (F_id_a1.ext E4) (g := (mkF m 5 #[.val (.ref a1), .val (.ref a2), .val (.long q3), .second] [(.ref a1), (.ref b4), (.ref b4)])) rfl rfl (hb hby d9_5)
  obtain ⟨T8, X8, e8, st8⟩ := getF X6 hx hZ hown (host := "") (Or.inl (hw _ (List.mem_of_getElem? (i := 47) rfl))) Via.refl e6 (F_comment_a1.ext E4) (g := (mkF m 9 #[.val (.ref a1), .val (.ref a2), .val (.long q3), .second] [(.ref a1), (.ref w_id_a1), (.ref b4), (.ref b4)])) rfl rfl (hb hby d9_9)
  obtain ⟨T10, X10, e10, st10⟩ := getF X8 hx hZ hown (host := "") (Or.inl (hw _ (List.mem_of_getElem? (i := 51) rfl))) Via.refl e8 (F_createTime_a1.ext E4) (g := (mkF m 14 #[.val (.ref a1), .val (.ref a2), .val (.long q3), .second] [(.ref a1), (.ref a2), (.ref w_comment_a1), (.ref w_id_a1), (.ref b4), (.ref b4)])) rfl rfl (hb hby d9_14)
  -- pc 18: the constructor of com/example/shardgate/shardgate/subscriptions/Subscription by its contract rm7
  obtain ⟨_, _, ⟨T11, L11, k11, n11⟩, -, X11, ⟨Lc11, hQ11, l11, y11, z11⟩, st11⟩ := X10.specialBack hx (y := (⟨"com/example/shardgate/shardgate/subscriptions/Subscription", "<init>", "(Ljava/lang/String;Ljava/lang/String;Lcom/example/shardgate/shardgate/subscriptions/Subscription$State;JJ)V"⟩ : MethodName)) rfl hown (mvT hZ (hw _ (List.mem_of_getElem? (i := 61) rfl))) (mvT hZ (hw _ (List.mem_of_getElem? (i := 37) rfl))) (mvT hZ (hw _ (List.mem_of_getElem? (i := 38) rfl))) (by decide) (backOf (W := 1) (rm7 l Z a0 hw [] b4 w_id_a1 w_comment_a1 a2 w_createTime_a1 q3 .null .null .null (.long 0) (.long 0) h4 n0 (Nat.le_trans Z0 K4.1) E_b4 F_id_b4 g_b4 F_comment_b4 F_state_b4 F_createTime_b4 F_lastModifyTime_b4) hZ (hw _ (List.mem_of_getElem? (i := 38) rfl)) (hw _ (List.mem_of_getElem? (i := 35) rfl)) (by decide) (by decide)) (g := (mkF m 18 #[.val (.ref a1), .val (.ref a2), .val (.long q3), .second] [(.long q3), (.long w_createTime_a1), (.ref a2), (.ref w_comment_a1), (.ref w_id_a1), (.ref b4), (.ref b4)])) rfl (by rw [hml]; rfl) (Steps.refl _) (a := b4) (argsL := [(.ref w_id_a1), (.ref w_comment_a1), (.ref a2), (.long w_createTime_a1), (.long q3)]) (rest := [(.ref b4)]) (lenOf pd_9_6 rfl) rfl (by show 2 * 0 + _ ≤ _; exact Nat.le_of_eq rfl) (hb hby d9_18) (fun _ _ => ⟨rfl, e10, (by decide : 1 + 0 ≤ _), (by decide : 5 + 0 ≤ _)⟩)
  dsimp only [Pt.U, Pt.locs, Pt.cells, Pt.slots] at X11 l11 y11 z11 st11 hQ11
  subst l11 y11 z11
  obtain ⟨rfl, N11q, K11q, E11q, Fi, Fc, Fs, Ft, Fl⟩ := hQ11
  have N11 := Fr.app N0 N11q
  have KH11 : Keep h0 T11.heap [] := K4.trans K11q (own_ws1 sz_b4)
  obtain ⟨fs, hr, hrun, hended, hW, hsame⟩ := X11.leave (v := some (.ref b4)) (fun h => by rw [Bd.returns] at h; cases h) (BodyLoose.notSynchronized Bd)
  refine ⟨_, _, pre0 _ ?_, hrun, hended, _, _, rfl, ?_, ⟨_, rfl⟩, hW, hsame.mono (by decide) (by decide)⟩
  -- 4. STEPS
  · show Steps p.tables e below (s₁.setTop (mkF m 0 #[.val (.ref a1), .val (.ref a2), .val (.long q3), .second] [])) _
    refine st4 _ ?_
    show Steps p.tables e below (T4.setTop (mkF m 3 #[.val (.ref a1), .val (.ref a2), .val (.long q3), .second] [(.ref b4)])) _
    refine XS.dup X4.here hx rfl (hb hby d9_3) rfl rfl ?_
    show Steps p.tables e below (T4.setTop (mkF m 4 #[.val (.ref a1), .val (.ref a2), .val (.long q3), .second] [(.ref b4), (.ref b4)])) _
    refine XS.aloadN X4.here hx rfl (hb hby d9_4) rfl rfl ?_
    show Steps p.tables e below (T4.setTop (mkF m 5 #[.val (.ref a1), .val (.ref a2), .val (.long q3), .second] [(.ref a1), (.ref b4), (.ref b4)])) _
    refine st6 _ ?_
    show Steps p.tables e below (T6.setTop (mkF m 8 #[.val (.ref a1), .val (.ref a2), .val (.long q3), .second] [(.ref w_id_a1), (.ref b4), (.ref b4)])) _
    refine XS.aloadN X6.here hx rfl (hb hby d9_8) rfl rfl ?_
    show Steps p.tables e below (T6.setTop (mkF m 9 #[.val (.ref a1), .val (.ref a2), .val (.long q3), .second] [(.ref a1), (.ref w_id_a1), (.ref b4), (.ref b4)])) _
    refine st8 _ ?_
    show Steps p.tables e below (T8.setTop (mkF m 12 #[.val (.ref a1), .val (.ref a2), .val (.long q3), .second] [(.ref w_comment_a1), (.ref w_id_a1), (.ref b4), (.ref b4)])) _
    refine XS.aloadN X8.here hx rfl (hb hby d9_12) rfl rfl ?_
    show Steps p.tables e below (T8.setTop (mkF m 13 #[.val (.ref a1), .val (.ref a2), .val (.long q3), .second] [(.ref a2), (.ref w_comment_a1), (.ref w_id_a1), (.ref b4), (.ref b4)])) _
    refine XS.aloadN X8.here hx rfl (hb hby d9_13) rfl rfl ?_
    show Steps p.tables e below (T8.setTop (mkF m 14 #[.val (.ref a1), .val (.ref a2), .val (.long q3), .second] [(.ref a1), (.ref a2), (.ref w_comment_a1), (.ref w_id_a1), (.ref b4), (.ref b4)])) _
    refine st10 _ ?_
    show Steps p.tables e below (T10.setTop (mkF m 17 #[.val (.ref a1), .val (.ref a2), .val (.long q3), .second] [(.long w_createTime_a1), (.ref a2), (.ref w_comment_a1), (.ref w_id_a1), (.ref b4), (.ref b4)])) _
    refine XS.lloadN X10.here hx rfl (hb hby d9_17) rfl ?_
    show Steps p.tables e below (T10.setTop (mkF m 18 #[.val (.ref a1), .val (.ref a2), .val (.long q3), .second] [(.long q3), (.long w_createTime_a1), (.ref a2), (.ref w_comment_a1), (.ref w_id_a1), (.ref b4), (.ref b4)])) _
    refine st11.trans ?_
    show Steps p.tables e below (T11.setTop (mkF m 21 #[.val (.ref a1), .val (.ref a2), .val (.long q3), .second] [(.ref b4)])) _
    jvm_step X11.here [X11.here.top, hx, (hb hby d9_21), X11.method', Bd.returns, Value.isRef, FieldType.isReference]
    first | (intro acts; rw [hr _ acts rfl rfl rfl]) | rw [hr _ _ rfl rfl rfl]
    exact Steps.refl _
  · show Q9 Z a1 a2 q3 w_id_a1 w_comment_a1 w_createTime_a1 h0 n0 _ T11.heap _
    exact ⟨(by rw [g4]), N11, KH11, (g4 ▸ E11q), (g4 ▸ Fi), (g4 ▸ Fc), (g4 ▸ Fs), (g4 ▸ Ft), (g4 ▸ Fl)⟩
theorem ef_9n (m : MethodId) (x0 : Addr) (x1 : Addr) (x2 : Int64) : entryFrame m #[(.ref x0), (.ref x1), (.long x2)] 4 = mkF m 0 #[.val (.ref x0), .val (.ref x1), .val (.long x2), .second] [] := by first | (simp [entryFrame, mkF, argsToLocals, Value.category]; done) | rfl
def Q9n (Z : State) (a1 : Addr) (a2 : Addr) (q3 : Int64) (w_id_a1 : Addr) (w_createTime_a1 : Int64) (h0 : Heap) (n0 : Nat) (v : Option Value) (h : Heap) (L : List Loc) : Prop := v = some (.ref h0.size) ∧ Fr n0 L ∧ Keep h0 h [] ∧ Exa Z h h0.size "com/example/shardgate/shardgate/subscriptions/Subscription" ∧ Fld Z h h0.size "com/example/shardgate/shardgate/subscriptions/Subscription" "id" "Ljava/lang/String;" (.ref w_id_a1) ∧ Fld Z h h0.size "com/example/shardgate/shardgate/subscriptions/Subscription" "comment" "Ljava/lang/String;" .null ∧ Fld Z h h0.size "com/example/shardgate/shardgate/subscriptions/Subscription" "state" "Lcom/example/shardgate/shardgate/subscriptions/Subscription$State;" (.ref a2) ∧ Fld Z h h0.size "com/example/shardgate/shardgate/subscriptions/Subscription" "createTime" "J" (.long w_createTime_a1) ∧ Fld Z h h0.size "com/example/shardgate/shardgate/subscriptions/Subscription" "lastModifyTime" "J" (.long q3)
set_option maxRecDepth 65536 in
set_option maxHeartbeats 40000000 in
theorem rm9n (l : Launch) (Z : State) (a0 : Array Value) (hw : ∀ d ∈ tables_1, d.before a0 Z = true) (ws : List Jvm.Cond) (a1 : Addr) (a2 : Addr) (q3 : Int64) (w_id_a1 : Addr) (w_createTime_a1 : Int64) (h0 : Heap) (n0 : Nat) (Z0 : n0 ≤ h0.size) (F_id_a1 : Fld Z h0 a1 "com/example/shardgate/shardgate/subscriptions/Subscription" "id" "Ljava/lang/String;" (.ref w_id_a1)) (F_comment_a1 : Fld Z h0 a1 "com/example/shardgate/shardgate/subscriptions/Subscription" "comment" "Ljava/lang/String;" .null) (F_createTime_a1 : Fld Z h0 a1 "com/example/shardgate/shardgate/subscriptions/Subscription" "createTime" "J" (.long w_createTime_a1)) :
    MetFree l (⟨"com/example/shardgate/shardgate/subscriptions/Subscription", "in", "(Lcom/example/shardgate/shardgate/subscriptions/Subscription$State;J)Lcom/example/shardgate/shardgate/subscriptions/Subscription;"⟩ : MethodName) (head1 (Jvm.Cond.code (⟨"com/example/shardgate/shardgate/subscriptions/Subscription", "in", "(Lcom/example/shardgate/shardgate/subscriptions/Subscription$State;J)Lcom/example/shardgate/shardgate/subscriptions/Subscription;"⟩ : MethodName) prog_63_method_2_code 4 (some (.object "com/example/shardgate/shardgate/subscriptions/Subscription")) :: ws) ({ frames := 3, cells := 1, slots := 5, locals := 48 } : Room)) (fun a U => a = #[(.ref a1), (.ref a2), (.long q3)] ∧ Z.Warmed39 U.vm ∧ U.heap = h0) (fun _ _ _ _ _ => True) (fun _ U o U' => ∃ v L, o = .returned v ∧ Q9n Z a1 a2 q3 w_id_a1 w_createTime_a1 h0 n0 v U'.heap L ∧ FrameEnd U o U' L ({ frames := 3, cells := 1, slots := 5, locals := 48 } : Room).cells ({ frames := 3, cells := 1, slots := 5, locals := 48 } : Room).slots) := by
  refine MetFree.of_bodySF (plainFor_of_name pn_9) hisR ?_
  intro p e s m args below meth c s₁ Bd hml0 hP hK
  obtain ⟨rfl, hZ, hh⟩ := hP
  have hx := Bd.exec
  have hby := Bd.bytes
  have hml : c.maxLocals = 4 := hml0
  have hown : s.vm.findClass "com/example/shardgate/shardgate/subscriptions/Subscription" = some m.cls := findClass_of_methodNamed Bd.named
  have hnm := (name_of_methodNamed Bd.named Bd.method).1
  have X0 : Stand p l e ({ frames := 3, cells := 1, slots := 5, locals := 48 } : Room) s m #[(.ref a1), (.ref a2), (.long q3)] below meth c s₁ [] 0 0 := Stand.of_body Bd
  have e0 : s₁.heap = h0 := by rw [← hh, Bd.state]; rfl
  have N0 := Fr.nil n0
  have pre0 : ∀ t, Steps p.tables e below (s₁.setTop (mkF m 0 #[.val (.ref a1), .val (.ref a2), .val (.long q3), .second] [])) t → Steps p.tables e below (s₁.setTop (entryFrame m #[(.ref a1), (.ref a2), (.long q3)] 4)) t := fun t k => castTop (ef_9n m a1 a2 q3) k
  -- 3. LAWS
  obtain ⟨T4, h4, X4, e4, E4, A4, D4, -, st4⟩ := newO X0 hx hZ hown (hw _ (List.mem_of_getElem? (i := 60) rfl)) (hw _ (List.mem_of_getElem? (i := 34) rfl)) (hw _ (List.mem_of_getElem? (i := 35) rfl)) e0 (g := (mkF m 0 #[.val (.ref a1), .val (.ref a2), .val (.long q3), .second] [])) rfl (hb hby d9_0) (by decide) (by decide)
  obtain ⟨b4, g4⟩ : ∃ z, z = h0.size := ⟨_, rfl⟩      -- the fresh object's address
  rw [← g4] at A4 D4 st4      -- A4 : Exa Z h4 b4 "com/example/shardgate/shardgate/subscriptions/Subscription"; E4 : Ext h0 h4 (carries every older fact: .ext E4)
  have F_id_b4 : Fld Z h4 b4 "com/example/shardgate/shardgate/subscriptions/Subscription" "id" "Ljava/lang/String;" .null := D4 (Or.inr (hw _ (List.mem_of_getElem? (i := 46) rfl))) (ty := (.object "java/lang/String")) (by decide)
  have F_comment_b4 : Fld Z h4 b4 "com/example/shardgate/shardgate/subscriptions/Subscription" "comment" "Ljava/lang/String;" .null := D4 (Or.inr (hw _ (List.mem_of_getElem? (i := 48) rfl))) (ty := (.object "java/lang/String")) (by decide)
  have F_state_b4 : Fld Z h4 b4 "com/example/shardgate/shardgate/subscriptions/Subscription" "state" "Lcom/example/shardgate/shardgate/subscriptions/Subscription$State;" .null := D4 (Or.inr (hw _ (List.mem_of_getElem? (i := 50) rfl))) (ty := (.object "com/example/shardgate/shardgate/subscriptions/Subscription$State")) (by decide)
  have F_createTime_b4 : Fld Z h4 b4 "com/example/shardgate/shardgate/subscriptions/Subscription" "createTime" "J" (.long (0 : Int64)) := D4 (Or.inr (hw _ (List.mem_of_getElem? (i := 52) rfl))) (ty := .long) (by decide)
  have F_lastModifyTime_b4 : Fld Z h4 b4 "com/example/shardgate/shardgate/subscriptions/Subscription" "lastModifyTime" "J" (.long (0 : Int64)) := D4 (Or.inr (hw _ (List.mem_of_getElem? (i := 54) rfl))) (ty := .long) (by decide)
  have E_b4 := A4
  have g_b4 : n0 ≤ b4 := Nat.le_trans Z0 (Nat.le_of_eq g4.symm)
  have sz_b4 : h0.size ≤ b4 := (Nat.le_trans (Keep.refl h0 []).1 (Nat.le_of_eq g4.symm))
  have K4 : Keep h0 h4 [] := (Keep.refl h0 []).ext E4
  obtain ⟨T6, X6, e6, st6⟩ := getF X4 hx hZ hown (host := "") (Or.inl (hw _ (List.mem_of_getElem? (i := 45) rfl))) Via.refl e4 (F_id_a1.ext E4) (g := (mkF m 5 #[.val (.ref a1), .val (.ref a2), .val (.long q3), .second] [(.ref a1), (.ref b4), (.ref b4)])) rfl rfl (hb hby d9_5)
  obtain ⟨T7, X7, e7, st7⟩ := getF X6 hx hZ hown (host := "") (Or.inl (hw _ (List.mem_of_getElem? (i := 47) rfl))) Via.refl e6 (F_comment_a1.ext E4) (g := (mkF m 9 #[.val (.ref a1), .val (.ref a2), .val (.long q3), .second] [(.ref a1), (.ref w_id_a1), (.ref b4), (.ref b4)])) rfl rfl (hb hby d9_9)
  obtain ⟨T9, X9, e9, st9⟩ := getF X7 hx hZ hown (host := "") (Or.inl (hw _ (List.mem_of_getElem? (i := 51) rfl))) Via.refl e7 (F_createTime_a1.ext E4) (g := (mkF m 14 #[.val (.ref a1), .val (.ref a2), .val (.long q3), .second] [(.ref a1), (.ref a2), .null, (.ref w_id_a1), (.ref b4), (.ref b4)])) rfl rfl (hb hby d9_14)
  -- pc 18: the constructor of com/example/shardgate/shardgate/subscriptions/Subscription by its contract rm7
  obtain ⟨_, _, ⟨T10, L10, k10, n10⟩, -, X10, ⟨Lc10, hQ10, l10, y10, z10⟩, st10⟩ := X9.specialBack hx (y := (⟨"com/example/shardgate/shardgate/subscriptions/Subscription", "<init>", "(Ljava/lang/String;Ljava/lang/String;Lcom/example/shardgate/shardgate/subscriptions/Subscription$State;JJ)V"⟩ : MethodName)) rfl hown (mvT hZ (hw _ (List.mem_of_getElem? (i := 61) rfl))) (mvT hZ (hw _ (List.mem_of_getElem? (i := 37) rfl))) (mvT hZ (hw _ (List.mem_of_getElem? (i := 38) rfl))) (by decide) (backOf (W := 1) (rm7n l Z a0 hw [] b4 w_id_a1 a2 w_createTime_a1 q3 .null .null .null (.long 0) (.long 0) h4 n0 (Nat.le_trans Z0 K4.1) E_b4 F_id_b4 g_b4 F_comment_b4 F_state_b4 F_createTime_b4 F_lastModifyTime_b4) hZ (hw _ (List.mem_of_getElem? (i := 38) rfl)) (hw _ (List.mem_of_getElem? (i := 35) rfl)) (by decide) (by decide)) (g := (mkF m 18 #[.val (.ref a1), .val (.ref a2), .val (.long q3), .second] [(.long q3), (.long w_createTime_a1), (.ref a2), .null, (.ref w_id_a1), (.ref b4), (.ref b4)])) rfl (by rw [hml]; rfl) (Steps.refl _) (a := b4) (argsL := [(.ref w_id_a1), .null, (.ref a2), (.long w_createTime_a1), (.long q3)]) (rest := [(.ref b4)]) (lenOf pd_9_6 rfl) rfl (by show 2 * 0 + _ ≤ _; exact Nat.le_of_eq rfl) (hb hby d9_18) (fun _ _ => ⟨rfl, e9, (by decide : 1 + 0 ≤ _), (by decide : 5 + 0 ≤ _)⟩)
  dsimp only [Pt.U, Pt.locs, Pt.cells, Pt.slots] at X10 l10 y10 z10 st10 hQ10
  subst l10 y10 z10
  obtain ⟨rfl, N10q, K10q, E10q, Fi, Fc, Fs, Ft, Fl⟩ := hQ10
  have N10 := Fr.app N0 N10q
  have KH10 : Keep h0 T10.heap [] := K4.trans K10q (own_ws1 sz_b4)
  obtain ⟨fs, hr, hrun, hended, hW, hsame⟩ := X10.leave (v := some (.ref b4)) (fun h => by rw [Bd.returns] at h; cases h) (BodyLoose.notSynchronized Bd)
  refine ⟨_, _, pre0 _ ?_, hrun, hended, _, _, rfl, ?_, ⟨_, rfl⟩, hW, hsame.mono (by decide) (by decide)⟩
  -- 4. STEPS
  · show Steps p.tables e below (s₁.setTop (mkF m 0 #[.val (.ref a1), .val (.ref a2), .val (.long q3), .second] [])) _
    refine st4 _ ?_
    show Steps p.tables e below (T4.setTop (mkF m 3 #[.val (.ref a1), .val (.ref a2), .val (.long q3), .second] [(.ref b4)])) _
    refine XS.dup X4.here hx rfl (hb hby d9_3) rfl rfl ?_
    show Steps p.tables e below (T4.setTop (mkF m 4 #[.val (.ref a1), .val (.ref a2), .val (.long q3), .second] [(.ref b4), (.ref b4)])) _
    refine XS.aloadN X4.here hx rfl (hb hby d9_4) rfl rfl ?_
    show Steps p.tables e below (T4.setTop (mkF m 5 #[.val (.ref a1), .val (.ref a2), .val (.long q3), .second] [(.ref a1), (.ref b4), (.ref b4)])) _
    refine st6 _ ?_
    show Steps p.tables e below (T6.setTop (mkF m 8 #[.val (.ref a1), .val (.ref a2), .val (.long q3), .second] [(.ref w_id_a1), (.ref b4), (.ref b4)])) _
    refine XS.aloadN X6.here hx rfl (hb hby d9_8) rfl rfl ?_
    show Steps p.tables e below (T6.setTop (mkF m 9 #[.val (.ref a1), .val (.ref a2), .val (.long q3), .second] [(.ref a1), (.ref w_id_a1), (.ref b4), (.ref b4)])) _
    refine st7 _ ?_
    show Steps p.tables e below (T7.setTop (mkF m 12 #[.val (.ref a1), .val (.ref a2), .val (.long q3), .second] [.null, (.ref w_id_a1), (.ref b4), (.ref b4)])) _
    refine XS.aloadN X7.here hx rfl (hb hby d9_12) rfl rfl ?_
    show Steps p.tables e below (T7.setTop (mkF m 13 #[.val (.ref a1), .val (.ref a2), .val (.long q3), .second] [(.ref a2), .null, (.ref w_id_a1), (.ref b4), (.ref b4)])) _
    refine XS.aloadN X7.here hx rfl (hb hby d9_13) rfl rfl ?_
    show Steps p.tables e below (T7.setTop (mkF m 14 #[.val (.ref a1), .val (.ref a2), .val (.long q3), .second] [(.ref a1), (.ref a2), .null, (.ref w_id_a1), (.ref b4), (.ref b4)])) _
    refine st9 _ ?_
    show Steps p.tables e below (T9.setTop (mkF m 17 #[.val (.ref a1), .val (.ref a2), .val (.long q3), .second] [(.long w_createTime_a1), (.ref a2), .null, (.ref w_id_a1), (.ref b4), (.ref b4)])) _
    refine XS.lloadN X9.here hx rfl (hb hby d9_17) rfl ?_
    show Steps p.tables e below (T9.setTop (mkF m 18 #[.val (.ref a1), .val (.ref a2), .val (.long q3), .second] [(.long q3), (.long w_createTime_a1), (.ref a2), .null, (.ref w_id_a1), (.ref b4), (.ref b4)])) _
    refine st10.trans ?_
    show Steps p.tables e below (T10.setTop (mkF m 21 #[.val (.ref a1), .val (.ref a2), .val (.long q3), .second] [(.ref b4)])) _
    jvm_step X10.here [X10.here.top, hx, (hb hby d9_21), X10.method', Bd.returns, Value.isRef, FieldType.isReference]
    first | (intro acts; rw [hr _ acts rfl rfl rfl]) | rw [hr _ _ rfl rfl rfl]
    exact Steps.refl _
  · show Q9n Z a1 a2 q3 w_id_a1 w_createTime_a1 h0 n0 _ T10.heap _
    exact ⟨(by rw [g4]), N10, KH10, (g4 ▸ E10q), (g4 ▸ Fi), (g4 ▸ Fc), (g4 ▸ Fs), (g4 ▸ Ft), (g4 ▸ Fl)⟩
theorem d10_0 : decode prog_63_method_7_code 0 = .ok (.aload_n 0, 1) := by decide +kernel
theorem d10_1 : decode prog_63_method_7_code 1 = .ok (.getfield 13, 3) := by decide +kernel
theorem d10_4 : decode prog_63_method_7_code 4 = .ok (.areturn, 1) := by decide +kernel
theorem pn_10 : plainName "com/example/shardgate/shardgate/subscriptions/Subscription" = true := by first | (simp [plainName, overriddenIn]; done) | decide +kernel
theorem ef_10 (m : MethodId) (x0 : Addr) : entryFrame m #[(.ref x0)] 1 = mkF m 0 #[.val (.ref x0)] [] := by first | (simp [entryFrame, mkF, argsToLocals, Value.category]; done) | rfl
def own_f10 (w_comment_a1 : Addr) : Addr := w_comment_a1
def Q10 (Z : State) (a1 : Addr) (w_comment_a1 : Addr) (h0 : Heap) (n0 : Nat) (v : Option Value) (h : Heap) (L : List Loc) : Prop := v = some (.ref (own_f10 w_comment_a1)) ∧ Fr n0 L ∧ h = h0
set_option maxRecDepth 65536 in
set_option maxHeartbeats 40000000 in
theorem rm10_x (l : Launch) (Z : State) (a0 : Array Value) (hw : ∀ d ∈ tables_1, d.before a0 Z = true) (ws : List Jvm.Cond) (a1 : Addr) (w_comment_a1 : Addr) (h0 : Heap) (n0 : Nat) (Z0 : n0 ≤ h0.size) (F_comment_a1 : Fld Z h0 a1 "com/example/shardgate/shardgate/subscriptions/Subscription" "comment" "Ljava/lang/String;" (.ref w_comment_a1)) :
    MetFree l (⟨"com/example/shardgate/shardgate/subscriptions/Subscription", "comment", "()Ljava/lang/String;"⟩ : MethodName) (head1 (Jvm.Cond.code (⟨"com/example/shardgate/shardgate/subscriptions/Subscription", "comment", "()Ljava/lang/String;"⟩ : MethodName) prog_63_method_7_code 1 (some (.object "java/lang/String")) :: ws) ({ frames := 0, cells := 0, slots := 0, locals := 0 } : Room)) (fun a U => a = #[(.ref a1)] ∧ Z.Warmed39 U.vm ∧ U.heap = h0) (fun _ _ _ _ _ => True) (fun _ U o U' => ∃ v L, o = .returned v ∧ Q10 Z a1 w_comment_a1 h0 n0 v U'.heap L ∧ FrameEnd U o U' L ({ frames := 0, cells := 0, slots := 0, locals := 0 } : Room).cells ({ frames := 0, cells := 0, slots := 0, locals := 0 } : Room).slots) := by
  refine MetFree.of_bodySF (plainFor_of_name pn_10) hisR ?_
  intro p e s m args below meth c s₁ Bd hml0 hP hK
  obtain ⟨rfl, hZ, hh⟩ := hP
  have hx := Bd.exec
  have hby := Bd.bytes
  have hml : c.maxLocals = 1 := hml0
  have hown : s.vm.findClass "com/example/shardgate/shardgate/subscriptions/Subscription" = some m.cls := findClass_of_methodNamed Bd.named
  have hnm := (name_of_methodNamed Bd.named Bd.method).1
  have X0 : Stand p l e ({ frames := 0, cells := 0, slots := 0, locals := 0 } : Room) s m #[(.ref a1)] below meth c s₁ [] 0 0 := Stand.of_body Bd
  have e0 : s₁.heap = h0 := by rw [← hh, Bd.state]; rfl
  have N0 := Fr.nil n0
  have pre0 : ∀ t, Steps p.tables e below (s₁.setTop (mkF m 0 #[.val (.ref a1)] [])) t → Steps p.tables e below (s₁.setTop (entryFrame m #[(.ref a1)] 1)) t := fun t k => castTop (ef_10 m a1) k
  -- 3. LAWS
  obtain ⟨T3, X3, e3, st3⟩ := getF X0 hx hZ hown (host := "") (Or.inl (hw _ (List.mem_of_getElem? (i := 47) rfl))) Via.refl e0 F_comment_a1 (g := (mkF m 1 #[.val (.ref a1)] [(.ref a1)])) rfl rfl (hb hby d10_1)
  obtain ⟨fs, hr, hrun, hended, hW, hsame⟩ := X3.leave (v := some (.ref w_comment_a1)) (fun h => by rw [Bd.returns] at h; cases h) (BodyLoose.notSynchronized Bd)
  refine ⟨_, _, pre0 _ ?_, hrun, hended, _, _, rfl, ?_, ⟨_, rfl⟩, hW, hsame.mono (by decide) (by decide)⟩
  -- 4. STEPS
  · show Steps p.tables e below (s₁.setTop (mkF m 0 #[.val (.ref a1)] [])) _
    refine XS.aloadN X0.here hx rfl (hb hby d10_0) rfl rfl ?_
    show Steps p.tables e below (s₁.setTop (mkF m 1 #[.val (.ref a1)] [(.ref a1)])) _
    refine st3 _ ?_
    show Steps p.tables e below (T3.setTop (mkF m 4 #[.val (.ref a1)] [(.ref w_comment_a1)])) _
    jvm_step X3.here [X3.here.top, hx, (hb hby d10_4), X3.method', Bd.returns, Value.isRef, FieldType.isReference]
    first | (intro acts; rw [hr _ acts rfl rfl rfl]) | rw [hr _ _ rfl rfl rfl]
    exact Steps.refl _
  · show Q10 Z a1 w_comment_a1 h0 n0 _ T3.heap _
    rw [e3]
    exact ⟨rfl, N0, rfl⟩
set_option maxRecDepth 65536 in
set_option maxHeartbeats 40000000 in
theorem rm10 (l : Launch) (Z : State) (a0 : Array Value) (hw : ∀ d ∈ tables_1, d.before a0 Z = true) (ws : List Jvm.Cond) (a1 : Addr) (w_comment_a1 : Addr) (h0 : Heap) (n0 : Nat) (Z0 : n0 ≤ h0.size) (F_comment_a1 : Fld Z h0 a1 "com/example/shardgate/shardgate/subscriptions/Subscription" "comment" "Ljava/lang/String;" (.ref w_comment_a1)) :
    MetFree l (⟨"com/example/shardgate/shardgate/subscriptions/Subscription", "comment", "()Ljava/lang/String;"⟩ : MethodName) (head1 (Jvm.Cond.code (⟨"com/example/shardgate/shardgate/subscriptions/Subscription", "comment", "()Ljava/lang/String;"⟩ : MethodName) prog_63_method_7_code 1 (some (.object "java/lang/String")) :: ws) ({ frames := 0, cells := 0, slots := 0, locals := 0 } : Room)) (fun a U => a = #[(.ref a1)] ∧ Z.Warmed39 U.vm ∧ U.heap = h0) (fun _ _ _ _ _ => True) (fun _ U o U' => ∃ v L, o = .returned v ∧ Q10 Z a1 w_comment_a1 h0 n0 v U'.heap L ∧ FrameEnd U o U' L ({ frames := 0, cells := 0, slots := 0, locals := 0 } : Room).cells ({ frames := 0, cells := 0, slots := 0, locals := 0 } : Room).slots) := by
  exact rm10_x l Z a0 hw ws a1 w_comment_a1 h0 n0 Z0 F_comment_a1
theorem ef_10n (m : MethodId) (x0 : Addr) : entryFrame m #[(.ref x0)] 1 = mkF m 0 #[.val (.ref x0)] [] := by first | (simp [entryFrame, mkF, argsToLocals, Value.category]; done) | rfl
def Q10n (Z : State) (a1 : Addr) (h0 : Heap) (n0 : Nat) (v : Option Value) (h : Heap) (L : List Loc) : Prop := v = some .null ∧ Fr n0 L ∧ h = h0
set_option maxRecDepth 65536 in
set_option maxHeartbeats 40000000 in
theorem rm10n (l : Launch) (Z : State) (a0 : Array Value) (hw : ∀ d ∈ tables_1, d.before a0 Z = true) (ws : List Jvm.Cond) (a1 : Addr) (h0 : Heap) (n0 : Nat) (Z0 : n0 ≤ h0.size) (F_comment_a1 : Fld Z h0 a1 "com/example/shardgate/shardgate/subscriptions/Subscription" "comment" "Ljava/lang/String;" .null) :
    MetFree l (⟨"com/example/shardgate/shardgate/subscriptions/Subscription", "comment", "()Ljava/lang/String;"⟩ : MethodName) (head1 (Jvm.Cond.code (⟨"com/example/shardgate/shardgate/subscriptions/Subscription", "comment", "()Ljava/lang/String;"⟩ : MethodName) prog_63_method_7_code 1 (some (.object "java/lang/String")) :: ws) ({ frames := 0, cells := 0, slots := 0, locals := 0 } : Room)) (fun a U => a = #[(.ref a1)] ∧ Z.Warmed39 U.vm ∧ U.heap = h0) (fun _ _ _ _ _ => True) (fun _ U o U' => ∃ v L, o = .returned v ∧ Q10n Z a1 h0 n0 v U'.heap L ∧ FrameEnd U o U' L ({ frames := 0, cells := 0, slots := 0, locals := 0 } : Room).cells ({ frames := 0, cells := 0, slots := 0, locals := 0 } : Room).slots) := by
  refine MetFree.of_bodySF (plainFor_of_name pn_10) hisR ?_
  intro p e s m args below meth c s₁ Bd hml0 hP hK
  obtain ⟨rfl, hZ, hh⟩ := hP
  have hx := Bd.exec
  have hby := Bd.bytes
  have hml : c.maxLocals = 1 := hml0
  have hown : s.vm.findClass "com/example/shardgate/shardgate/subscriptions/Subscription" = some m.cls := findClass_of_methodNamed Bd.named
  have hnm := (name_of_methodNamed Bd.named Bd.method).1
  have X0 : Stand p l e ({ frames := 0, cells := 0, slots := 0, locals := 0 } : Room) s m #[(.ref a1)] below meth c s₁ [] 0 0 := Stand.of_body Bd
  have e0 : s₁.heap = h0 := by rw [← hh, Bd.state]; rfl
  have N0 := Fr.nil n0
  have pre0 : ∀ t, Steps p.tables e below (s₁.setTop (mkF m 0 #[.val (.ref a1)] [])) t → Steps p.tables e below (s₁.setTop (entryFrame m #[(.ref a1)] 1)) t := fun t k => castTop (ef_10n m a1) k
  -- 3. LAWS
  obtain ⟨T2, X2, e2, st2⟩ := getF X0 hx hZ hown (host := "") (Or.inl (hw _ (List.mem_of_getElem? (i := 47) rfl))) Via.refl e0 F_comment_a1 (g := (mkF m 1 #[.val (.ref a1)] [(.ref a1)])) rfl rfl (hb hby d10_1)
  obtain ⟨fs, hr, hrun, hended, hW, hsame⟩ := X2.leave (v := some .null) (fun h => by rw [Bd.returns] at h; cases h) (BodyLoose.notSynchronized Bd)
  refine ⟨_, _, pre0 _ ?_, hrun, hended, _, _, rfl, ?_, ⟨_, rfl⟩, hW, hsame.mono (by decide) (by decide)⟩
  -- 4. STEPS
  · show Steps p.tables e below (s₁.setTop (mkF m 0 #[.val (.ref a1)] [])) _
    refine XS.aloadN X0.here hx rfl (hb hby d10_0) rfl rfl ?_
    show Steps p.tables e below (s₁.setTop (mkF m 1 #[.val (.ref a1)] [(.ref a1)])) _
    refine st2 _ ?_
    show Steps p.tables e below (T2.setTop (mkF m 4 #[.val (.ref a1)] [.null])) _
    jvm_step X2.here [X2.here.top, hx, (hb hby d10_4), X2.method', Bd.returns, Value.isRef, FieldType.isReference]
    first | (intro acts; rw [hr _ acts rfl rfl rfl]) | rw [hr _ _ rfl rfl rfl]
    exact Steps.refl _
  · show Q10n Z a1 h0 n0 _ T2.heap _
    rw [e2]
    exact ⟨rfl, N0, rfl⟩
theorem d12_0 : decode prog_63_method_6_code 0 = .ok (.aload_n 0, 1) := by decide +kernel
theorem d12_1 : decode prog_63_method_6_code 1 = .ok (.getfield 7, 3) := by decide +kernel
theorem d12_4 : decode prog_63_method_6_code 4 = .ok (.areturn, 1) := by decide +kernel
theorem pn_12 : plainName "com/example/shardgate/shardgate/subscriptions/Subscription" = true := by first | (simp [plainName, overriddenIn]; done) | decide +kernel
theorem ef_12 (m : MethodId) (x0 : Addr) : entryFrame m #[(.ref x0)] 1 = mkF m 0 #[.val (.ref x0)] [] := by first | (simp [entryFrame, mkF, argsToLocals, Value.category]; done) | rfl
def own_f12 (w_id_a1 : Addr) : Addr := w_id_a1
def Q12 (Z : State) (a1 : Addr) (w_id_a1 : Addr) (h0 : Heap) (n0 : Nat) (v : Option Value) (h : Heap) (L : List Loc) : Prop := v = some (.ref (own_f12 w_id_a1)) ∧ Fr n0 L ∧ h = h0
set_option maxRecDepth 65536 in
set_option maxHeartbeats 40000000 in
theorem rm12_x (l : Launch) (Z : State) (a0 : Array Value) (hw : ∀ d ∈ tables_1, d.before a0 Z = true) (ws : List Jvm.Cond) (a1 : Addr) (w_id_a1 : Addr) (h0 : Heap) (n0 : Nat) (Z0 : n0 ≤ h0.size) (F_id_a1 : Fld Z h0 a1 "com/example/shardgate/shardgate/subscriptions/Subscription" "id" "Ljava/lang/String;" (.ref w_id_a1)) :
    MetFree l (⟨"com/example/shardgate/shardgate/subscriptions/Subscription", "id", "()Ljava/lang/String;"⟩ : MethodName) (head1 (Jvm.Cond.code (⟨"com/example/shardgate/shardgate/subscriptions/Subscription", "id", "()Ljava/lang/String;"⟩ : MethodName) prog_63_method_6_code 1 (some (.object "java/lang/String")) :: ws) ({ frames := 0, cells := 0, slots := 0, locals := 0 } : Room)) (fun a U => a = #[(.ref a1)] ∧ Z.Warmed39 U.vm ∧ U.heap = h0) (fun _ _ _ _ _ => True) (fun _ U o U' => ∃ v L, o = .returned v ∧ Q12 Z a1 w_id_a1 h0 n0 v U'.heap L ∧ FrameEnd U o U' L ({ frames := 0, cells := 0, slots := 0, locals := 0 } : Room).cells ({ frames := 0, cells := 0, slots := 0, locals := 0 } : Room).slots) := by
  refine MetFree.of_bodySF (plainFor_of_name pn_12) hisR ?_
  intro p e s m args below meth c s₁ Bd hml0 hP hK
  obtain ⟨rfl, hZ, hh⟩ := hP
  have hx := Bd.exec
  have hby := Bd.bytes
  have hml : c.maxLocals = 1 := hml0
  have hown : s.vm.findClass "com/example/shardgate/shardgate/subscriptions/Subscription" = some m.cls := findClass_of_methodNamed Bd.named
  have hnm := (name_of_methodNamed Bd.named Bd.method).1
  have X0 : Stand p l e ({ frames := 0, cells := 0, slots := 0, locals := 0 } : Room) s m #[(.ref a1)] below meth c s₁ [] 0 0 := Stand.of_body Bd
  have e0 : s₁.heap = h0 := by rw [← hh, Bd.state]; rfl
  have N0 := Fr.nil n0
  have pre0 : ∀ t, Steps p.tables e below (s₁.setTop (mkF m 0 #[.val (.ref a1)] [])) t → Steps p.tables e below (s₁.setTop (entryFrame m #[(.ref a1)] 1)) t := fun t k => castTop (ef_12 m a1) k
  -- 3. LAWS
  obtain ⟨T3, X3, e3, st3⟩ := getF X0 hx hZ hown (host := "") (Or.inl (hw _ (List.mem_of_getElem? (i := 45) rfl))) Via.refl e0 F_id_a1 (g := (mkF m 1 #[.val (.ref a1)] [(.ref a1)])) rfl rfl (hb hby d12_1)
  obtain ⟨fs, hr, hrun, hended, hW, hsame⟩ := X3.leave (v := some (.ref w_id_a1)) (fun h => by rw [Bd.returns] at h; cases h) (BodyLoose.notSynchronized Bd)
  refine ⟨_, _, pre0 _ ?_, hrun, hended, _, _, rfl, ?_, ⟨_, rfl⟩, hW, hsame.mono (by decide) (by decide)⟩
  -- 4. STEPS
  · show Steps p.tables e below (s₁.setTop (mkF m 0 #[.val (.ref a1)] [])) _
    refine XS.aloadN X0.here hx rfl (hb hby d12_0) rfl rfl ?_
    show Steps p.tables e below (s₁.setTop (mkF m 1 #[.val (.ref a1)] [(.ref a1)])) _
    refine st3 _ ?_
    show Steps p.tables e below (T3.setTop (mkF m 4 #[.val (.ref a1)] [(.ref w_id_a1)])) _
    jvm_step X3.here [X3.here.top, hx, (hb hby d12_4), X3.method', Bd.returns, Value.isRef, FieldType.isReference]
    first | (intro acts; rw [hr _ acts rfl rfl rfl]) | rw [hr _ _ rfl rfl rfl]
    exact Steps.refl _
  · show Q12 Z a1 w_id_a1 h0 n0 _ T3.heap _
    rw [e3]
    exact ⟨rfl, N0, rfl⟩
set_option maxRecDepth 65536 in
set_option maxHeartbeats 40000000 in
theorem rm12 (l : Launch) (Z : State) (a0 : Array Value) (hw : ∀ d ∈ tables_1, d.before a0 Z = true) (ws : List Jvm.Cond) (a1 : Addr) (w_id_a1 : Addr) (h0 : Heap) (n0 : Nat) (Z0 : n0 ≤ h0.size) (F_id_a1 : Fld Z h0 a1 "com/example/shardgate/shardgate/subscriptions/Subscription" "id" "Ljava/lang/String;" (.ref w_id_a1)) :
    MetFree l (⟨"com/example/shardgate/shardgate/subscriptions/Subscription", "id", "()Ljava/lang/String;"⟩ : MethodName) (head1 (Jvm.Cond.code (⟨"com/example/shardgate/shardgate/subscriptions/Subscription", "id", "()Ljava/lang/String;"⟩ : MethodName) prog_63_method_6_code 1 (some (.object "java/lang/String")) :: ws) ({ frames := 0, cells := 0, slots := 0, locals := 0 } : Room)) (fun a U => a = #[(.ref a1)] ∧ Z.Warmed39 U.vm ∧ U.heap = h0) (fun _ _ _ _ _ => True) (fun _ U o U' => ∃ v L, o = .returned v ∧ Q12 Z a1 w_id_a1 h0 n0 v U'.heap L ∧ FrameEnd U o U' L ({ frames := 0, cells := 0, slots := 0, locals := 0 } : Room).cells ({ frames := 0, cells := 0, slots := 0, locals := 0 } : Room).slots) := by
  exact rm12_x l Z a0 hw ws a1 w_id_a1 h0 n0 Z0 F_id_a1
theorem d13_0 : decode prog_63_method_8_code 0 = .ok (.aload_n 0, 1) := by decide +kernel
theorem d13_1 : decode prog_63_method_8_code 1 = .ok (.getfield 16, 3) := by decide +kernel
theorem d13_4 : decode prog_63_method_8_code 4 = .ok (.areturn, 1) := by decide +kernel
theorem pn_13 : plainName "com/example/shardgate/shardgate/subscriptions/Subscription" = true := by first | (simp [plainName, overriddenIn]; done) | decide +kernel
theorem ef_13 (m : MethodId) (x0 : Addr) : entryFrame m #[(.ref x0)] 1 = mkF m 0 #[.val (.ref x0)] [] := by first | (simp [entryFrame, mkF, argsToLocals, Value.category]; done) | rfl
def own_f13 (w_state_a1 : Addr) : Addr := w_state_a1
def Q13 (Z : State) (a1 : Addr) (w_state_a1 : Addr) (h0 : Heap) (n0 : Nat) (v : Option Value) (h : Heap) (L : List Loc) : Prop := v = some (.ref (own_f13 w_state_a1)) ∧ Fr n0 L ∧ h = h0
set_option maxRecDepth 65536 in
set_option maxHeartbeats 40000000 in
theorem rm13_x (l : Launch) (Z : State) (a0 : Array Value) (hw : ∀ d ∈ tables_1, d.before a0 Z = true) (ws : List Jvm.Cond) (a1 : Addr) (w_state_a1 : Addr) (h0 : Heap) (n0 : Nat) (Z0 : n0 ≤ h0.size) (F_state_a1 : Fld Z h0 a1 "com/example/shardgate/shardgate/subscriptions/Subscription" "state" "Lcom/example/shardgate/shardgate/subscriptions/Subscription$State;" (.ref w_state_a1)) :
    MetFree l (⟨"com/example/shardgate/shardgate/subscriptions/Subscription", "state", "()Lcom/example/shardgate/shardgate/subscriptions/Subscription$State;"⟩ : MethodName) (head1 (Jvm.Cond.code (⟨"com/example/shardgate/shardgate/subscriptions/Subscription", "state", "()Lcom/example/shardgate/shardgate/subscriptions/Subscription$State;"⟩ : MethodName) prog_63_method_8_code 1 (some (.object "com/example/shardgate/shardgate/subscriptions/Subscription$State")) :: ws) ({ frames := 0, cells := 0, slots := 0, locals := 0 } : Room)) (fun a U => a = #[(.ref a1)] ∧ Z.Warmed39 U.vm ∧ U.heap = h0) (fun _ _ _ _ _ => True) (fun _ U o U' => ∃ v L, o = .returned v ∧ Q13 Z a1 w_state_a1 h0 n0 v U'.heap L ∧ FrameEnd U o U' L ({ frames := 0, cells := 0, slots := 0, locals := 0 } : Room).cells ({ frames := 0, cells := 0, slots := 0, locals := 0 } : Room).slots) := by
  refine MetFree.of_bodySF (plainFor_of_name pn_13) hisR ?_
  intro p e s m args below meth c s₁ Bd hml0 hP hK
  obtain ⟨rfl, hZ, hh⟩ := hP
  have hx := Bd.exec
  have hby := Bd.bytes
  have hml : c.maxLocals = 1 := hml0
  have hown : s.vm.findClass "com/example/shardgate/shardgate/subscriptions/Subscription" = some m.cls := findClass_of_methodNamed Bd.named
  have hnm := (name_of_methodNamed Bd.named Bd.method).1
  have X0 : Stand p l e ({ frames := 0, cells := 0, slots := 0, locals := 0 } : Room) s m #[(.ref a1)] below meth c s₁ [] 0 0 := Stand.of_body Bd
  have e0 : s₁.heap = h0 := by rw [← hh, Bd.state]; rfl
  have N0 := Fr.nil n0
  have pre0 : ∀ t, Steps p.tables e below (s₁.setTop (mkF m 0 #[.val (.ref a1)] [])) t → Steps p.tables e below (s₁.setTop (entryFrame m #[(.ref a1)] 1)) t := fun t k => castTop (ef_13 m a1) k
  -- 3. LAWS
  obtain ⟨T3, X3, e3, st3⟩ := getF X0 hx hZ hown (host := "") (Or.inl (hw _ (List.mem_of_getElem? (i := 49) rfl))) Via.refl e0 F_state_a1 (g := (mkF m 1 #[.val (.ref a1)] [(.ref a1)])) rfl rfl (hb hby d13_1)
  obtain ⟨fs, hr, hrun, hended, hW, hsame⟩ := X3.leave (v := some (.ref w_state_a1)) (fun h => by rw [Bd.returns] at h; cases h) (BodyLoose.notSynchronized Bd)
  refine ⟨_, _, pre0 _ ?_, hrun, hended, _, _, rfl, ?_, ⟨_, rfl⟩, hW, hsame.mono (by decide) (by decide)⟩
  -- 4. STEPS
  · show Steps p.tables e below (s₁.setTop (mkF m 0 #[.val (.ref a1)] [])) _
    refine XS.aloadN X0.here hx rfl (hb hby d13_0) rfl rfl ?_
    show Steps p.tables e below (s₁.setTop (mkF m 1 #[.val (.ref a1)] [(.ref a1)])) _
    refine st3 _ ?_
    show Steps p.tables e below (T3.setTop (mkF m 4 #[.val (.ref a1)] [(.ref w_state_a1)])) _
    jvm_step X3.here [X3.here.top, hx, (hb hby d13_4), X3.method', Bd.returns, Value.isRef, FieldType.isReference]
    first | (intro acts; rw [hr _ acts rfl rfl rfl]) | rw [hr _ _ rfl rfl rfl]
    exact Steps.refl _
  · show Q13 Z a1 w_state_a1 h0 n0 _ T3.heap _
    rw [e3]
    exact ⟨rfl, N0, rfl⟩
set_option maxRecDepth 65536 in
set_option maxHeartbeats 40000000 in
theorem rm13 (l : Launch) (Z : State) (a0 : Array Value) (hw : ∀ d ∈ tables_1, d.before a0 Z = true) (ws : List Jvm.Cond) (a1 : Addr) (w_state_a1 : Addr) (h0 : Heap) (n0 : Nat) (Z0 : n0 ≤ h0.size) (F_state_a1 : Fld Z h0 a1 "com/example/shardgate/shardgate/subscriptions/Subscription" "state" "Lcom/example/shardgate/shardgate/subscriptions/Subscription$State;" (.ref w_state_a1)) :
    MetFree l (⟨"com/example/shardgate/shardgate/subscriptions/Subscription", "state", "()Lcom/example/shardgate/shardgate/subscriptions/Subscription$State;"⟩ : MethodName) (head1 (Jvm.Cond.code (⟨"com/example/shardgate/shardgate/subscriptions/Subscription", "state", "()Lcom/example/shardgate/shardgate/subscriptions/Subscription$State;"⟩ : MethodName) prog_63_method_8_code 1 (some (.object "com/example/shardgate/shardgate/subscriptions/Subscription$State")) :: ws) ({ frames := 0, cells := 0, slots := 0, locals := 0 } : Room)) (fun a U => a = #[(.ref a1)] ∧ Z.Warmed39 U.vm ∧ U.heap = h0) (fun _ _ _ _ _ => True) (fun _ U o U' => ∃ v L, o = .returned v ∧ Q13 Z a1 w_state_a1 h0 n0 v U'.heap L ∧ FrameEnd U o U' L ({ frames := 0, cells := 0, slots := 0, locals := 0 } : Room).cells ({ frames := 0, cells := 0, slots := 0, locals := 0 } : Room).slots) := by
  exact rm13_x l Z a0 hw ws a1 w_state_a1 h0 n0 Z0 F_state_a1
theorem d14_0 : decode prog_63_method_9_code 0 = .ok (.aload_n 0, 1) := by decide +kernel
theorem d14_1 : decode prog_63_method_9_code 1 = .ok (.getfield 20, 3) := by decide +kernel
theorem d14_4 : decode prog_63_method_9_code 4 = .ok (.lreturn, 1) := by decide +kernel
theorem pn_14 : plainName "com/example/shardgate/shardgate/subscriptions/Subscription" = true := by first | (simp [plainName, overriddenIn]; done) | decide +kernel
theorem ef_14 (m : MethodId) (x0 : Addr) : entryFrame m #[(.ref x0)] 1 = mkF m 0 #[.val (.ref x0)] [] := by first | (simp [entryFrame, mkF, argsToLocals, Value.category]; done) | rfl
def own_f14 (w_createTime_a1 : Int64) : Int64 := w_createTime_a1
def Q14 (Z : State) (a1 : Addr) (w_createTime_a1 : Int64) (h0 : Heap) (n0 : Nat) (v : Option Value) (h : Heap) (L : List Loc) : Prop := v = some (.long (own_f14 w_createTime_a1)) ∧ Fr n0 L ∧ h = h0
set_option maxRecDepth 65536 in
set_option maxHeartbeats 40000000 in
theorem rm14_x (l : Launch) (Z : State) (a0 : Array Value) (hw : ∀ d ∈ tables_1, d.before a0 Z = true) (ws : List Jvm.Cond) (a1 : Addr) (w_createTime_a1 : Int64) (h0 : Heap) (n0 : Nat) (Z0 : n0 ≤ h0.size) (F_createTime_a1 : Fld Z h0 a1 "com/example/shardgate/shardgate/subscriptions/Subscription" "createTime" "J" (.long w_createTime_a1)) :
    MetFree l (⟨"com/example/shardgate/shardgate/subscriptions/Subscription", "createTime", "()J"⟩ : MethodName) (head1 (Jvm.Cond.code (⟨"com/example/shardgate/shardgate/subscriptions/Subscription", "createTime", "()J"⟩ : MethodName) prog_63_method_9_code 1 (some .long) :: ws) ({ frames := 0, cells := 0, slots := 0, locals := 0 } : Room)) (fun a U => a = #[(.ref a1)] ∧ Z.Warmed39 U.vm ∧ U.heap = h0) (fun _ _ _ _ _ => True) (fun _ U o U' => ∃ v L, o = .returned v ∧ Q14 Z a1 w_createTime_a1 h0 n0 v U'.heap L ∧ FrameEnd U o U' L ({ frames := 0, cells := 0, slots := 0, locals := 0 } : Room).cells ({ frames := 0, cells := 0, slots := 0, locals := 0 } : Room).slots) := by
  refine MetFree.of_bodySF (plainFor_of_name pn_14) hisR ?_
  intro p e s m args below meth c s₁ Bd hml0 hP hK
  obtain ⟨rfl, hZ, hh⟩ := hP
  have hx := Bd.exec
  have hby := Bd.bytes
  have hml : c.maxLocals = 1 := hml0
  have hown : s.vm.findClass "com/example/shardgate/shardgate/subscriptions/Subscription" = some m.cls := findClass_of_methodNamed Bd.named
  have hnm := (name_of_methodNamed Bd.named Bd.method).1
  have X0 : Stand p l e ({ frames := 0, cells := 0, slots := 0, locals := 0 } : Room) s m #[(.ref a1)] below meth c s₁ [] 0 0 := Stand.of_body Bd
  have e0 : s₁.heap = h0 := by rw [← hh, Bd.state]; rfl
  have N0 := Fr.nil n0
  have pre0 : ∀ t, Steps p.tables e below (s₁.setTop (mkF m 0 #[.val (.ref a1)] [])) t → Steps p.tables e below (s₁.setTop (entryFrame m #[(.ref a1)] 1)) t := fun t k => castTop (ef_14 m a1) k
  -- 3. LAWS
  obtain ⟨T3, X3, e3, st3⟩ := getF X0 hx hZ hown (host := "") (Or.inl (hw _ (List.mem_of_getElem? (i := 51) rfl))) Via.refl e0 F_createTime_a1 (g := (mkF m 1 #[.val (.ref a1)] [(.ref a1)])) rfl rfl (hb hby d14_1)
  obtain ⟨fs, hr, hrun, hended, hW, hsame⟩ := X3.leave (v := some (.long w_createTime_a1)) (fun h => by rw [Bd.returns] at h; cases h) (BodyLoose.notSynchronized Bd)
  refine ⟨_, _, pre0 _ ?_, hrun, hended, _, _, rfl, ?_, ⟨_, rfl⟩, hW, hsame.mono (by decide) (by decide)⟩
  -- 4. STEPS
  · show Steps p.tables e below (s₁.setTop (mkF m 0 #[.val (.ref a1)] [])) _
    refine XS.aloadN X0.here hx rfl (hb hby d14_0) rfl rfl ?_
    show Steps p.tables e below (s₁.setTop (mkF m 1 #[.val (.ref a1)] [(.ref a1)])) _
    refine st3 _ ?_
    show Steps p.tables e below (T3.setTop (mkF m 4 #[.val (.ref a1)] [(.long w_createTime_a1)])) _
    exact X3.lreturnOut hx Bd.returns (hb hby d14_4) hr
  · show Q14 Z a1 w_createTime_a1 h0 n0 _ T3.heap _
    rw [e3]
    exact ⟨rfl, N0, rfl⟩
set_option maxRecDepth 65536 in
set_option maxHeartbeats 40000000 in
theorem rm14 (l : Launch) (Z : State) (a0 : Array Value) (hw : ∀ d ∈ tables_1, d.before a0 Z = true) (ws : List Jvm.Cond) (a1 : Addr) (w_createTime_a1 : Int64) (h0 : Heap) (n0 : Nat) (Z0 : n0 ≤ h0.size) (F_createTime_a1 : Fld Z h0 a1 "com/example/shardgate/shardgate/subscriptions/Subscription" "createTime" "J" (.long w_createTime_a1)) :
    MetFree l (⟨"com/example/shardgate/shardgate/subscriptions/Subscription", "createTime", "()J"⟩ : MethodName) (head1 (Jvm.Cond.code (⟨"com/example/shardgate/shardgate/subscriptions/Subscription", "createTime", "()J"⟩ : MethodName) prog_63_method_9_code 1 (some .long) :: ws) ({ frames := 0, cells := 0, slots := 0, locals := 0 } : Room)) (fun a U => a = #[(.ref a1)] ∧ Z.Warmed39 U.vm ∧ U.heap = h0) (fun _ _ _ _ _ => True) (fun _ U o U' => ∃ v L, o = .returned v ∧ Q14 Z a1 w_createTime_a1 h0 n0 v U'.heap L ∧ FrameEnd U o U' L ({ frames := 0, cells := 0, slots := 0, locals := 0 } : Room).cells ({ frames := 0, cells := 0, slots := 0, locals := 0 } : Room).slots) := by
  exact rm14_x l Z a0 hw ws a1 w_createTime_a1 h0 n0 Z0 F_createTime_a1
theorem d15_0 : decode prog_63_method_10_code 0 = .ok (.aload_n 0, 1) := by decide +kernel
theorem d15_1 : decode prog_63_method_10_code 1 = .ok (.getfield 24, 3) := by decide +kernel
theorem d15_4 : decode prog_63_method_10_code 4 = .ok (.lreturn, 1) := by decide +kernel
theorem pn_15 : plainName "com/example/shardgate/shardgate/subscriptions/Subscription" = true := by first | (simp [plainName, overriddenIn]; done) | decide +kernel
theorem ef_15 (m : MethodId) (x0 : Addr) : entryFrame m #[(.ref x0)] 1 = mkF m 0 #[.val (.ref x0)] [] := by first | (simp [entryFrame, mkF, argsToLocals, Value.category]; done) | rfl
def own_f15 (w_lastModifyTime_a1 : Int64) : Int64 := w_lastModifyTime_a1
def Q15 (Z : State) (a1 : Addr) (w_lastModifyTime_a1 : Int64) (h0 : Heap) (n0 : Nat) (v : Option Value) (h : Heap) (L : List Loc) : Prop := v = some (.long (own_f15 w_lastModifyTime_a1)) ∧ Fr n0 L ∧ h = h0
set_option maxRecDepth 65536 in
set_option maxHeartbeats 40000000 in
theorem rm15_x (l : Launch) (Z : State) (a0 : Array Value) (hw : ∀ d ∈ tables_1, d.before a0 Z = true) (ws : List Jvm.Cond) (a1 : Addr) (w_lastModifyTime_a1 : Int64) (h0 : Heap) (n0 : Nat) (Z0 : n0 ≤ h0.size) (F_lastModifyTime_a1 : Fld Z h0 a1 "com/example/shardgate/shardgate/subscriptions/Subscription" "lastModifyTime" "J" (.long w_lastModifyTime_a1)) :
    MetFree l (⟨"com/example/shardgate/shardgate/subscriptions/Subscription", "lastModifyTime", "()J"⟩ : MethodName) (head1 (Jvm.Cond.code (⟨"com/example/shardgate/shardgate/subscriptions/Subscription", "lastModifyTime", "()J"⟩ : MethodName) prog_63_method_10_code 1 (some .long) :: ws) ({ frames := 0, cells := 0, slots := 0, locals := 0 } : Room)) (fun a U => a = #[(.ref a1)] ∧ Z.Warmed39 U.vm ∧ U.heap = h0) (fun _ _ _ _ _ => True) (fun _ U o U' => ∃ v L, o = .returned v ∧ Q15 Z a1 w_lastModifyTime_a1 h0 n0 v U'.heap L ∧ FrameEnd U o U' L ({ frames := 0, cells := 0, slots := 0, locals := 0 } : Room).cells ({ frames := 0, cells := 0, slots := 0, locals := 0 } : Room).slots) := by
  refine MetFree.of_bodySF (plainFor_of_name pn_15) hisR ?_
  intro p e s m args below meth c s₁ Bd hml0 hP hK
  obtain ⟨rfl, hZ, hh⟩ := hP
  have hx := Bd.exec
  have hby := Bd.bytes
  have hml : c.maxLocals = 1 := hml0
  have hown : s.vm.findClass "com/example/shardgate/shardgate/subscriptions/Subscription" = some m.cls := findClass_of_methodNamed Bd.named
  have hnm := (name_of_methodNamed Bd.named Bd.method).1
  have X0 : Stand p l e ({ frames := 0, cells := 0, slots := 0, locals := 0 } : Room) s m #[(.ref a1)] below meth c s₁ [] 0 0 := Stand.of_body Bd
  have e0 : s₁.heap = h0 := by rw [← hh, Bd.state]; rfl
  have N0 := Fr.nil n0
  have pre0 : ∀ t, Steps p.tables e below (s₁.setTop (mkF m 0 #[.val (.ref a1)] [])) t → Steps p.tables e below (s₁.setTop (entryFrame m #[(.ref a1)] 1)) t := fun t k => castTop (ef_15 m a1) k
  -- 3. LAWS
  obtain ⟨T3, X3, e3, st3⟩ := getF X0 hx hZ hown (host := "") (Or.inl (hw _ (List.mem_of_getElem? (i := 53) rfl))) Via.refl e0 F_lastModifyTime_a1 (g := (mkF m 1 #[.val (.ref a1)] [(.ref a1)])) rfl rfl (hb hby d15_1)
  obtain ⟨fs, hr, hrun, hended, hW, hsame⟩ := X3.leave (v := some (.long w_lastModifyTime_a1)) (fun h => by rw [Bd.returns] at h; cases h) (BodyLoose.notSynchronized Bd)
  refine ⟨_, _, pre0 _ ?_, hrun, hended, _, _, rfl, ?_, ⟨_, rfl⟩, hW, hsame.mono (by decide) (by decide)⟩
  -- 4. STEPS
  · show Steps p.tables e below (s₁.setTop (mkF m 0 #[.val (.ref a1)] [])) _
    refine XS.aloadN X0.here hx rfl (hb hby d15_0) rfl rfl ?_
    show Steps p.tables e below (s₁.setTop (mkF m 1 #[.val (.ref a1)] [(.ref a1)])) _
    refine st3 _ ?_
    show Steps p.tables e below (T3.setTop (mkF m 4 #[.val (.ref a1)] [(.long w_lastModifyTime_a1)])) _
    exact X3.lreturnOut hx Bd.returns (hb hby d15_4) hr
  · show Q15 Z a1 w_lastModifyTime_a1 h0 n0 _ T3.heap _
    rw [e3]
    exact ⟨rfl, N0, rfl⟩
set_option maxRecDepth 65536 in
set_option maxHeartbeats 40000000 in
theorem rm15 (l : Launch) (Z : State) (a0 : Array Value) (hw : ∀ d ∈ tables_1, d.before a0 Z = true) (ws : List Jvm.Cond) (a1 : Addr) (w_lastModifyTime_a1 : Int64) (h0 : Heap) (n0 : Nat) (Z0 : n0 ≤ h0.size) (F_lastModifyTime_a1 : Fld Z h0 a1 "com/example/shardgate/shardgate/subscriptions/Subscription" "lastModifyTime" "J" (.long w_lastModifyTime_a1)) :
    MetFree l (⟨"com/example/shardgate/shardgate/subscriptions/Subscription", "lastModifyTime", "()J"⟩ : MethodName) (head1 (Jvm.Cond.code (⟨"com/example/shardgate/shardgate/subscriptions/Subscription", "lastModifyTime", "()J"⟩ : MethodName) prog_63_method_10_code 1 (some .long) :: ws) ({ frames := 0, cells := 0, slots := 0, locals := 0 } : Room)) (fun a U => a = #[(.ref a1)] ∧ Z.Warmed39 U.vm ∧ U.heap = h0) (fun _ _ _ _ _ => True) (fun _ U o U' => ∃ v L, o = .returned v ∧ Q15 Z a1 w_lastModifyTime_a1 h0 n0 v U'.heap L ∧ FrameEnd U o U' L ({ frames := 0, cells := 0, slots := 0, locals := 0 } : Room).cells ({ frames := 0, cells := 0, slots := 0, locals := 0 } : Room).slots) := by
  exact rm15_x l Z a0 hw ws a1 w_lastModifyTime_a1 h0 n0 Z0 F_lastModifyTime_a1
theorem d11_0 : decode jdk_42_method_66_code 0 = .ok (.aload_n 0, 1) := by decide +kernel
theorem d11_1 : decode jdk_42_method_66_code 1 = .ok (.aload_n 1, 1) := by decide +kernel
theorem d11_2 : decode jdk_42_method_66_code 2 = .ok (.if_acmp .ne 5, 3) := by decide +kernel
theorem d11_5 : decode jdk_42_method_66_code 5 = .ok (.iconst 1, 1) := by decide +kernel
theorem d11_6 : decode jdk_42_method_66_code 6 = .ok (.ireturn, 1) := by decide +kernel
theorem pn_11 : plainName "java/lang/String" = true := by first | (simp [plainName, overriddenIn]; done) | decide +kernel
theorem ef_11 (m : MethodId) (x0 : Addr) (x1 : Addr) : entryFrame m #[(.ref x0), (.ref x1)] 3 = mkF m 0 #[.val (.ref x0), .val (.ref x1), .unset] [] := by first | (simp [entryFrame, mkF, argsToLocals, Value.category]; done) | rfl
def Q11 (Z : State) (a1 : Addr) (a2 : Addr) (h0 : Heap) (n0 : Nat) (v : Option Value) (h : Heap) (L : List Loc) : Prop := v = some (.int (1 : Int32)) ∧ Fr n0 L ∧ h = h0
set_option maxRecDepth 65536 in
set_option maxHeartbeats 40000000 in
theorem rm11 (l : Launch) (Z : State) (a0 : Array Value) (hw : ∀ d ∈ tables_1, d.before a0 Z = true) (ws : List Jvm.Cond) (a1 : Addr) (a2 : Addr) (h0 : Heap) (n0 : Nat) (Z0 : n0 ≤ h0.size) (ha2 : a1 = a2) :
    MetFree l (⟨"java/lang/String", "equals", "(Ljava/lang/Object;)Z"⟩ : MethodName) (head1 (Jvm.Cond.code (⟨"java/lang/String", "equals", "(Ljava/lang/Object;)Z"⟩ : MethodName) jdk_42_method_66_code 3 (some .boolean) :: ws) ({ frames := 0, cells := 0, slots := 0, locals := 0 } : Room)) (fun a U => a = #[(.ref a1), (.ref a2)] ∧ Z.Warmed39 U.vm ∧ U.heap = h0) (fun _ _ _ _ _ => True) (fun _ U o U' => ∃ v L, o = .returned v ∧ Q11 Z a1 a2 h0 n0 v U'.heap L ∧ FrameEnd U o U' L ({ frames := 0, cells := 0, slots := 0, locals := 0 } : Room).cells ({ frames := 0, cells := 0, slots := 0, locals := 0 } : Room).slots) := by
  refine MetFree.of_bodySF (plainFor_of_name pn_11) hisR ?_
  intro p e s m args below meth c s₁ Bd hml0 hP hK
  obtain ⟨rfl, hZ, hh⟩ := hP
  have hx := Bd.exec
  have hby := Bd.bytes
  have hml : c.maxLocals = 3 := hml0
  have hown : s.vm.findClass "java/lang/String" = some m.cls := findClass_of_methodNamed Bd.named
  have hnm := (name_of_methodNamed Bd.named Bd.method).1
  have X0 : Stand p l e ({ frames := 0, cells := 0, slots := 0, locals := 0 } : Room) s m #[(.ref a1), (.ref a2)] below meth c s₁ [] 0 0 := Stand.of_body Bd
  have e0 : s₁.heap = h0 := by rw [← hh, Bd.state]; rfl
  have N0 := Fr.nil n0
  have pre0 : ∀ t, Steps p.tables e below (s₁.setTop (mkF m 0 #[.val (.ref a1), .val (.ref a2), .unset] [])) t → Steps p.tables e below (s₁.setTop (entryFrame m #[(.ref a1), (.ref a2)] 3)) t := fun t k => castTop (ef_11 m a1 a2) k
  -- 3. LAWS

  obtain ⟨fs, hr, hrun, hended, hW, hsame⟩ := X0.leave (v := some (.int (1 : Int32))) (fun h => by rw [Bd.returns] at h; cases h) (BodyLoose.notSynchronized Bd)
  refine ⟨_, _, pre0 _ ?_, hrun, hended, _, _, rfl, ?_, ⟨_, rfl⟩, hW, hsame.mono (by decide) (by decide)⟩
  -- 4. STEPS
  · show Steps p.tables e below (s₁.setTop (mkF m 0 #[.val (.ref a1), .val (.ref a2), .unset] [])) _
    refine XS.aloadN X0.here hx rfl (hb hby d11_0) rfl rfl ?_
    show Steps p.tables e below (s₁.setTop (mkF m 1 #[.val (.ref a1), .val (.ref a2), .unset] [(.ref a1)])) _
    refine XS.aloadN X0.here hx rfl (hb hby d11_1) rfl rfl ?_
    show Steps p.tables e below (s₁.setTop (mkF m 2 #[.val (.ref a1), .val (.ref a2), .unset] [(.ref a2), (.ref a1)])) _
    refine Jvm.RoadKit.acmp (g := (mkF m 2 #[.val (.ref a1), .val (.ref a2), .unset] [(.ref a2), (.ref a1)])) X0 hx rfl rfl rfl (pc0 := 2) (pc' := 5) (same := true) rfl (hb hby d11_2) rfl (decide_eq_true (congrArg Value.ref ha2)) (by decide) (by decide) ?_
    show Steps p.tables e below (s₁.setTop (mkF m 5 #[.val (.ref a1), .val (.ref a2), .unset] [])) _
    refine XS.iconst X0.here hx rfl (hb hby d11_5) ?_
    show Steps p.tables e below (s₁.setTop (mkF m 6 #[.val (.ref a1), .val (.ref a2), .unset] [(.int (1 : Int32))])) _
    exact retN X0 hx (t := .boolean) Bd.returns (by simp) (hb hby d11_6) hr
  · show Q11 Z a1 a2 h0 n0 _ s₁.heap _
    rw [e0]
    exact ⟨rfl, N0, rfl⟩
theorem own_ext {h0 h : Heap} (K : Keep h0 h []) : Ext h0 h := ⟨K.1, fun a c q => K.2.1 a c q (fun r => nomatch r)⟩
theorem own_255 (x : Int32) : ¬ nar .char ((x &&& (255 : Int32)).toUInt32.toUInt16.toUInt32.toInt32) < 0 ∧ ¬ (255 : Int32) < nar .char ((x &&& (255 : Int32)).toUInt32.toUInt16.toUInt32.toInt32) := by
  have t : ∀ k : Fin 256, ¬ nar .char ((Int32.ofNat k.val).toUInt32.toUInt16.toUInt32.toInt32) < 0 ∧ ¬ (255 : Int32) < nar .char ((Int32.ofNat k.val).toUInt32.toUInt16.toUInt32.toInt32) := by decide +kernel
  have e1 : (x &&& (255 : Int32)).toInt = x.toInt % 2 ^ 8 := Jvm.Kit.i32_mask x 255 (k := 8) (by decide) (by decide)
  generalize (x &&& (255 : Int32)) = n at e1
  have e2 : n = Int32.ofNat n.toInt.toNat := by
    apply Int32.toInt_inj.mp
    rw [Int32.toInt_ofNat_small (by omega)]; omega
  rw [e2]; exact t ⟨n.toInt.toNat, by omega⟩
theorem pd_0_0 : parseMethodDescriptor "([C)V" = some ⟨[(.array .char)], none⟩ := by decide +kernel
theorem os0_3 {z0 : Value} {s1 : Slot} {s2 : Slot} {s3 : Slot} {s4 : Slot} {s5 : Slot} {s6 : Slot} {s7 : Slot} {s8 : Slot} {s9 : Slot} {s10 : Slot} {s11 : Slot} {s12 : Slot} {s13 : Slot} {s14 : Slot} {s15 : Slot} {s16 : Slot} {s17 : Slot} {v : Addr} (h : One s8) : storeLocals #[.val z0, s1, s2, s3, s4, s5, s6, s7, s8, s9, s10, s11, s12, s13, s14, s15, s16, s17] 8 (.ref v) = some #[.val z0, s1, s2, s3, s4, s5, s6, s7, .val (.ref v), s9, s10, s11, s12, s13, s14, s15, s16, s17] := by
  rcases h with rfl | ⟨w, rfl, hw⟩
  · rfl
  · cases w <;> first | rfl | (simp [Value.category] at hw)
theorem os0_31 {z0 : Value} {s1 : Slot} {s2 : Slot} {s3 : Slot} {s4 : Slot} {s5 : Slot} {s6 : Slot} {s7 : Slot} {z8 : Value} {s9 : Slot} {s10 : Slot} {s11 : Slot} {s12 : Slot} {s13 : Slot} {s14 : Slot} {s15 : Slot} {s16 : Slot} {s17 : Slot} {v : Addr} (h : One s9) : storeLocals #[.val z0, s1, s2, s3, s4, s5, s6, s7, .val z8, s9, s10, s11, s12, s13, s14, s15, s16, s17] 9 (.ref v) = some #[.val z0, s1, s2, s3, s4, s5, s6, s7, .val z8, .val (.ref v), s10, s11, s12, s13, s14, s15, s16, s17] := by
  rcases h with rfl | ⟨w, rfl, hw⟩
  · rfl
  · cases w <;> first | rfl | (simp [Value.category] at hw)
theorem os0_68 {z0 : Value} {s1 : Slot} {s2 : Slot} {s3 : Slot} {s4 : Slot} {s5 : Slot} {s6 : Slot} {s7 : Slot} {z8 : Value} {z9 : Value} {s10 : Slot} {s11 : Slot} {s12 : Slot} {s13 : Slot} {s14 : Slot} {s15 : Slot} {s16 : Slot} {s17 : Slot} {v : Addr} (h : One s10) : storeLocals #[.val z0, s1, s2, s3, s4, s5, s6, s7, .val z8, .val z9, s10, s11, s12, s13, s14, s15, s16, s17] 10 (.ref v) = some #[.val z0, s1, s2, s3, s4, s5, s6, s7, .val z8, .val z9, .val (.ref v), s11, s12, s13, s14, s15, s16, s17] := by
  rcases h with rfl | ⟨w, rfl, hw⟩
  · rfl
  · cases w <;> first | rfl | (simp [Value.category] at hw)
set_option maxRecDepth 65536 in
set_option maxHeartbeats 40000000 in
theorem own_p0 {p : Program} {l : Launch} {e : Env} {s : State} {m : MethodId} {args : Array Value} {below : List Frame} {meth : Method} {c : Code} {T0 : State} {locs : List Loc} {Z : State} {a0 : Array Value} {h0 : Heap} {n0 : Nat} (i0 : Int32) (s1 : Slot) (s2 : Slot) (s3 : Slot) (s4 : Slot) (s5 : Slot) (s6 : Slot) (s7 : Slot) (s8 : Slot) (s9 : Slot) (s10 : Slot) (s11 : Slot) (s12 : Slot) (s13 : Slot) (s14 : Slot) (s15 : Slot) (s16 : Slot) (s17 : Slot) (G1 : Int32)
    (X0 : Stand p l e room_1 s m args below meth c T0 locs 0 0) (hx : p.tables.exec = Jvm.exec) (hZ : Z.Warmed39 s.vm) (hw : ∀ d ∈ tables_1, d.before a0 Z = true) (hby : c.code = code) (hml : c.maxLocals = 18) (hown : s.vm.findClass "com/example/shardgate/shardgate/subscriptions/SubscriptionInPinLaw" = some m.cls) (e0 : T0.heap = h0) (N0 : Fr n0 locs) (Z0 : n0 ≤ h0.size) (S_CS : Sta Z h0 "java/lang/String" "COMPACT_STRINGS" "Z" (.int G1)) (P5 : ¬ (G1 = (0 : Int32))) (hs8 : One s8) (hs9 : One s9) (hs10 : One s10) :
    ∃ (T' : State) (h' : Heap) (locs' : List Loc) (o8 o9 o10 : Addr) (k9 : ClassId), Stand p l e room_1 s m args below meth c T' locs' 4 10 ∧ T'.heap = h' ∧ Fr n0 locs' ∧ Keep h0 h' [] ∧ Exa Z h' o10 "java/lang/String" ∧ Arv Z h' o9 k9 .char (2 : Int32) ((([(nar .char ((((i0.toUInt32 >>> ((16 : Int32) &&& 31).toUInt32).toInt32) &&& (255 : Int32)).toUInt32.toUInt16.toUInt32.toInt32)), (nar .char ((((i0.toUInt32 >>> ((24 : Int32) &&& 31).toUInt32).toInt32) &&& (255 : Int32)).toUInt32.toUInt16.toUInt32.toInt32))] : List Int32)).map Value.int) (.int (0 : Int32)) ∧ ∀ target, Steps p.tables e below (T'.setTop (mkF m 70 #[.val (.int i0), s1, s2, s3, s4, s5, s6, s7, .val (.ref o8), .val (.ref o9), .val (.ref o10), s11, s12, s13, s14, s15, s16, s17] [])) target → Steps p.tables e below (T0.setTop (mkF m 0 #[.val (.int i0), s1, s2, s3, s4, s5, s6, s7, s8, s9, s10, s11, s12, s13, s14, s15, s16, s17] [])) target := by
  -- 3. LAWS
  obtain ⟨T6, h6, k6, X6, e6, E6, A6, st6⟩ := newP X0 hx hZ (hw _ (List.mem_of_getElem? (i := 0) rfl)) e0 (g := (mkF m 1 #[.val (.int i0), s1, s2, s3, s4, s5, s6, s7, s8, s9, s10, s11, s12, s13, s14, s15, s16, s17] [(.int (2 : Int32))])) rfl (hb hby at_1) rfl (by decide) (cap := 2) (by decide) (by decide) (by decide) (by decide)
  obtain ⟨b6, g6⟩ : ∃ z, z = h0.size := ⟨_, rfl⟩      -- the fresh array's address
  rw [← g6] at A6 st6
  have V_b6 : Arv Z h6 b6 k6 .char (2 : Int32) [(.int (0 : Int32)), (.int (0 : Int32))] (.int (0 : Int32)) := (Arv.new A6 (by decide)).pad (pad_rep [] (.int (0 : Int32)) 2)
  have g_b6 : n0 ≤ b6 := Nat.le_trans Z0 (Nat.le_of_eq g6.symm)
  have sz_b6 : h0.size ≤ b6 := (Nat.le_trans (Keep.refl h0 []).1 (Nat.le_of_eq g6.symm))
  have K6 : Keep h0 h6 [] := (Keep.refl h0 []).ext E6
  obtain ⟨cl_b6_14, Ar_b6, q_b6, S_b6, N_b6, H_b6, G_b6⟩ := V_b6      -- open the array's fact as it stands now (its cell, kind, length, elements)
  have hin14 : ¬ ((0 : Int32) < 0 ∨ cl_b6_14.slots.size ≤ ((0 : Int32)).toNatClampNeg) := inb_of S_b6 ⟨by decide, by decide⟩
  obtain ⟨T7, h7, X7, e7, W7, st7⟩ := stC X6 hx hZ e6 Ar_b6 (j := (0 : Int32)) hin14 (g := (mkF m 14 #[.val (.int i0), s1, s2, s3, s4, s5, s6, s7, .val (.ref b6), s9, s10, s11, s12, s13, s14, s15, s16, s17] [(.int ((i0 &&& (255 : Int32)).toUInt32.toUInt16.toUInt32.toInt32)), (.int (0 : Int32)), (.ref b6)])) rfl rfl (hb hby at_14)
  have V_b6_7 := Arv.set Ar_b6 q_b6 S_b6 N_b6 H_b6 G_b6 (fits_nar_char _) W7 0 rfl (Nat.le_of_ble_eq_true rfl)      -- the array as it stands now (the place must lie among its first values: Arv.pad with pad_rep lengthens them)
  have K7 : Keep h0 h7 [] := K6.wr W7 (Or.inr sz_b6)
  have N7 := Fr.snoc X7 N0 g_b6
  obtain ⟨cl_b6_27, Ar_b6, q_b6, S_b6, N_b6, H_b6, G_b6⟩ := V_b6_7      -- open the array's fact as it stands now (its cell, kind, length, elements)
  have hin27 : ¬ ((1 : Int32) < 0 ∨ cl_b6_27.slots.size ≤ ((1 : Int32)).toNatClampNeg) := inb_of S_b6 ⟨by decide, by decide⟩
  obtain ⟨T8, h8, X8, e8, W8, st8⟩ := stC X7 hx hZ e7 Ar_b6 (j := (1 : Int32)) hin27 (g := (mkF m 27 #[.val (.int i0), s1, s2, s3, s4, s5, s6, s7, .val (.ref b6), s9, s10, s11, s12, s13, s14, s15, s16, s17] [(.int ((((i0.toUInt32 >>> ((8 : Int32) &&& 31).toUInt32).toInt32) &&& (255 : Int32)).toUInt32.toUInt16.toUInt32.toInt32)), (.int (1 : Int32)), (.ref b6)])) rfl rfl (hb hby at_27)
  have V_b6_8 := Arv.set Ar_b6 q_b6 S_b6 N_b6 H_b6 G_b6 (fits_nar_char _) W8 1 rfl (Nat.le_of_ble_eq_true rfl)      -- the array as it stands now (the place must lie among its first values: Arv.pad with pad_rep lengthens them)
  have K8 : Keep h0 h8 [] := K7.wr W8 (Or.inr sz_b6)
  have N8 := Fr.snoc X8 N7 g_b6
  obtain ⟨T9, h9, k9, X9, e9, E9, A9, st9⟩ := newP X8 hx hZ (hw _ (List.mem_of_getElem? (i := 0) rfl)) e8 (g := (mkF m 29 #[.val (.int i0), s1, s2, s3, s4, s5, s6, s7, .val (.ref b6), s9, s10, s11, s12, s13, s14, s15, s16, s17] [(.int (2 : Int32))])) rfl (hb hby at_29) rfl (by decide) (cap := 2) (by decide) (by decide) (by decide) (by decide)
  obtain ⟨b9, g9⟩ : ∃ z, z = h8.size := ⟨_, rfl⟩      -- the fresh array's address
  rw [← g9] at A9 st9
  have V_b9 : Arv Z h9 b9 k9 .char (2 : Int32) [(.int (0 : Int32)), (.int (0 : Int32))] (.int (0 : Int32)) := (Arv.new A9 (by decide)).pad (pad_rep [] (.int (0 : Int32)) 2)
  have g_b9 : n0 ≤ b9 := Nat.le_trans (Nat.le_trans (Nat.le_trans (Nat.le_trans Z0 E6.1) (Keep.of_wr W7).1) (Keep.of_wr W8).1) (Nat.le_of_eq g9.symm)
  have sz_b9 : h0.size ≤ b9 := (Nat.le_trans K8.1 (Nat.le_of_eq g9.symm))
  have K9 : Keep h0 h9 [] := K8.ext E9
  obtain ⟨cl_b9_45, Ar_b9, q_b9, S_b9, N_b9, H_b9, G_b9⟩ := V_b9      -- open the array's fact as it stands now (its cell, kind, length, elements)
  have hin45 : ¬ ((0 : Int32) < 0 ∨ cl_b9_45.slots.size ≤ ((0 : Int32)).toNatClampNeg) := inb_of S_b9 ⟨by decide, by decide⟩
  obtain ⟨T10, h10, X10, e10, W10, st10⟩ := stC X9 hx hZ e9 Ar_b9 (j := (0 : Int32)) hin45 (g := (mkF m 45 #[.val (.int i0), s1, s2, s3, s4, s5, s6, s7, .val (.ref b6), .val (.ref b9), s10, s11, s12, s13, s14, s15, s16, s17] [(.int ((((i0.toUInt32 >>> ((16 : Int32) &&& 31).toUInt32).toInt32) &&& (255 : Int32)).toUInt32.toUInt16.toUInt32.toInt32)), (.int (0 : Int32)), (.ref b9)])) rfl rfl (hb hby at_45)
  have V_b9_10 := Arv.set Ar_b9 q_b9 S_b9 N_b9 H_b9 G_b9 (fits_nar_char _) W10 0 rfl (Nat.le_of_ble_eq_true rfl)      -- the array as it stands now (the place must lie among its first values: Arv.pad with pad_rep lengthens them)
  have K10 : Keep h0 h10 [] := K9.wr W10 (Or.inr sz_b9)
  have N10 := Fr.snoc X10 N8 g_b9
  obtain ⟨cl_b9_58, Ar_b9, q_b9, S_b9, N_b9, H_b9, G_b9⟩ := V_b9_10      -- open the array's fact as it stands now (its cell, kind, length, elements)
  have hin58 : ¬ ((1 : Int32) < 0 ∨ cl_b9_58.slots.size ≤ ((1 : Int32)).toNatClampNeg) := inb_of S_b9 ⟨by decide, by decide⟩
  obtain ⟨T11, h11, X11, e11, W11, st11⟩ := stC X10 hx hZ e10 Ar_b9 (j := (1 : Int32)) hin58 (g := (mkF m 58 #[.val (.int i0), s1, s2, s3, s4, s5, s6, s7, .val (.ref b6), .val (.ref b9), s10, s11, s12, s13, s14, s15, s16, s17] [(.int ((((i0.toUInt32 >>> ((24 : Int32) &&& 31).toUInt32).toInt32) &&& (255 : Int32)).toUInt32.toUInt16.toUInt32.toInt32)), (.int (1 : Int32)), (.ref b9)])) rfl rfl (hb hby at_58)
  have V_b9_11 := Arv.set Ar_b9 q_b9 S_b9 N_b9 H_b9 G_b9 (fits_nar_char _) W11 1 rfl (Nat.le_of_ble_eq_true rfl)      -- the array as it stands now (the place must lie among its first values: Arv.pad with pad_rep lengthens them)
  have K11 : Keep h0 h11 [] := K10.wr W11 (Or.inr sz_b9)
  have N11 := Fr.snoc X11 N10 g_b9
  obtain ⟨T12, h12, X12, e12, E12, A12, D12, -, st12⟩ := newO X11 hx hZ hown (hw _ (List.mem_of_getElem? (i := 1) rfl)) (hw _ (List.mem_of_getElem? (i := 2) rfl)) (hw _ (List.mem_of_getElem? (i := 3) rfl)) e11 (g := (mkF m 59 #[.val (.int i0), s1, s2, s3, s4, s5, s6, s7, .val (.ref b6), .val (.ref b9), s10, s11, s12, s13, s14, s15, s16, s17] [])) rfl (hb hby at_59) (by decide) (by decide)
  obtain ⟨b12, g12⟩ : ∃ z, z = h11.size := ⟨_, rfl⟩      -- the fresh object's address
  rw [← g12] at A12 D12 st12      -- A12 : Exa Z h12 b12 "java/lang/String"; E12 : Ext h11 h12 (carries every older fact: .ext E12)
  have F_coder_b12 : Fld Z h12 b12 "java/lang/String" "coder" "B" (.int (0 : Int32)) := D12 (Or.inr (hw _ (List.mem_of_getElem? (i := 27) rfl))) (ty := .byte) (by decide)
  have F_value_b12 : Fld Z h12 b12 "java/lang/String" "value" "[B" .null := D12 (Or.inr (hw _ (List.mem_of_getElem? (i := 29) rfl))) (ty := (.array .byte)) (by decide)
  have E_b12 := A12
  have g_b12 : n0 ≤ b12 := Nat.le_trans (Nat.le_trans (Nat.le_trans (Nat.le_trans (Nat.le_trans (Nat.le_trans (Nat.le_trans Z0 E6.1) (Keep.of_wr W7).1) (Keep.of_wr W8).1) E9.1) (Keep.of_wr W10).1) (Keep.of_wr W11).1) (Nat.le_of_eq g12.symm)
  have sz_b12 : h0.size ≤ b12 := (Nat.le_trans K11.1 (Nat.le_of_eq g12.symm))
  have K12 : Keep h0 h12 [] := K11.ext E12
  -- pc 65: the constructor of java/lang/String by its contract rm1
  -- JDK: don't walk it: StrChars.Road.backV (pack/laws/STRINGS.README.md): its own row in place of the next one (the 'backOf (W ..)' becomes what that law's P asks)
  have ne1 : b6 ≠ b9 := own_ne V_b6_8.lt g9
  have ne2 : b9 ≠ b12 := own_ne V_b9_11.lt g12
  have Vic := (((V_b6_8.ext E9).other W10 ne1).other W11 ne1).ext E12
  have hp : ∀ c ∈ ([(nar .char ((i0 &&& (255 : Int32)).toUInt32.toUInt16.toUInt32.toInt32)), (nar .char ((((i0.toUInt32 >>> ((8 : Int32) &&& 31).toUInt32).toInt32) &&& (255 : Int32)).toUInt32.toUInt16.toUInt32.toInt32))] : List Int32), ¬ c < 0 ∧ ¬ (255 : Int32) < c := by
    intro c hc
    simp only [List.mem_cons, List.not_mem_nil, or_false] at hc
    rcases hc with rfl | rfl
    · exact own_255 i0
    · exact own_255 ((i0.toUInt32 >>> ((8 : Int32) &&& 31).toUInt32).toInt32)
  have hws : ∀ d ∈ StrChars.Road.words, d.before a0 Z = true := fun d hd => hw d ((by decide +kernel : ∀ d ∈ StrChars.Road.words, d ∈ tables_1) d hd)
  obtain ⟨_, _, ⟨T13, L13, k13, n13⟩, -, X13, ⟨Lc13, hQ13, l13, y13, z13⟩, st13⟩ := X12.specialBack hx (y := (⟨"java/lang/String", "<init>", "([C)V"⟩ : MethodName)) rfl hown (mvT hZ (hw _ (List.mem_of_getElem? (i := 4) rfl))) (mvT hZ (hw _ (List.mem_of_getElem? (i := 5) rfl))) (mvT hZ (hw _ (List.mem_of_getElem? (i := 6) rfl))) (by decide) (StrChars.Road.backV (W := 1) hZ hws (kI := 4) (hw _ (List.mem_of_getElem? (i := 2) rfl)) (cs := ([(nar .char ((i0 &&& (255 : Int32)).toUInt32.toUInt16.toUInt32.toInt32)), (nar .char ((((i0.toUInt32 >>> ((8 : Int32) &&& 31).toUInt32).toInt32) &&& (255 : Int32)).toUInt32.toUInt16.toUInt32.toInt32))] : List Int32)) (bs := (([(nar .char ((i0 &&& (255 : Int32)).toUInt32.toUInt16.toUInt32.toInt32)), (nar .char ((((i0.toUInt32 >>> ((8 : Int32) &&& 31).toUInt32).toInt32) &&& (255 : Int32)).toUInt32.toUInt16.toUInt32.toInt32))] : List Int32)).map (fun c => c.toInt8.toInt32)) (n := 2) g_b12 (Nat.le_trans Z0 K12.1) E_b12 F_value_b12 F_coder_b12 Vic (S_CS.ext (own_ext K12)) P5 rfl rfl (by decide) (by decide) hp rfl (by decide) (by decide)) (g := (mkF m 65 #[.val (.int i0), s1, s2, s3, s4, s5, s6, s7, .val (.ref b6), .val (.ref b9), s10, s11, s12, s13, s14, s15, s16, s17] [(.ref b6), (.ref b12), (.ref b12)])) rfl (by rw [hml]; rfl) (Steps.refl _) (a := b12) (argsL := [(.ref b6)]) (rest := [(.ref b12)]) (lenOf pd_0_0 rfl) rfl (by show 2 * 0 + _ ≤ _; exact Nat.le_of_eq rfl) (hb hby at_65) (fun _ _ => ⟨rfl, e12, (by decide : 0 + 3 + 1 ≤ _), (by decide : 0 + 8 + 2 ≤ _)⟩)
  dsimp only [Pt.U, Pt.locs, Pt.cells, Pt.slots] at X13 l13 y13 z13 st13 hQ13
  subst l13 y13 z13
  obtain ⟨rfl, N13q, K13q, E13q, C13q, t13, kb13, _, _, _, V13q, A13q⟩ := hQ13
  have N13 := Fr.app N11 N13q
  have KH13 : Keep h0 T13.heap [] := K12.trans K13q (own_ws1 sz_b12)
  refine ⟨T13, _, _, b6, b9, b12, k9, X13, rfl, N13, KH13, E13q, ((V_b9_11.ext E12).keep K13q (own_nin ne2)), fun target kt => ?_⟩
  -- 4. STEPS
  show Steps p.tables e below (T0.setTop (mkF m 0 #[.val (.int i0), s1, s2, s3, s4, s5, s6, s7, s8, s9, s10, s11, s12, s13, s14, s15, s16, s17] [])) _
  refine XS.iconst X0.here hx rfl (hb hby at_0) ?_
  show Steps p.tables e below (T0.setTop (mkF m 1 #[.val (.int i0), s1, s2, s3, s4, s5, s6, s7, s8, s9, s10, s11, s12, s13, s14, s15, s16, s17] [(.int (2 : Int32))])) _
  refine st6 _ ?_
  show Steps p.tables e below (T6.setTop (mkF m 3 #[.val (.int i0), s1, s2, s3, s4, s5, s6, s7, s8, s9, s10, s11, s12, s13, s14, s15, s16, s17] [(.ref b6)])) _
  refine XS.astore X6.here hx rfl (hb hby at_3) rfl rfl (l' := #[.val (.int i0), s1, s2, s3, s4, s5, s6, s7, .val (.ref b6), s9, s10, s11, s12, s13, s14, s15, s16, s17]) (os0_3 hs8) ?_
  show Steps p.tables e below (T6.setTop (mkF m 5 #[.val (.int i0), s1, s2, s3, s4, s5, s6, s7, .val (.ref b6), s9, s10, s11, s12, s13, s14, s15, s16, s17] [])) _
  refine XS.aload X6.here hx rfl (hb hby at_5) rfl rfl ?_
  show Steps p.tables e below (T6.setTop (mkF m 7 #[.val (.int i0), s1, s2, s3, s4, s5, s6, s7, .val (.ref b6), s9, s10, s11, s12, s13, s14, s15, s16, s17] [(.ref b6)])) _
  refine XS.iconst X6.here hx rfl (hb hby at_7) ?_
  show Steps p.tables e below (T6.setTop (mkF m 8 #[.val (.int i0), s1, s2, s3, s4, s5, s6, s7, .val (.ref b6), s9, s10, s11, s12, s13, s14, s15, s16, s17] [(.int (0 : Int32)), (.ref b6)])) _
  refine XS.iloadN X6.here hx rfl (hb hby at_8) rfl ?_
  show Steps p.tables e below (T6.setTop (mkF m 9 #[.val (.int i0), s1, s2, s3, s4, s5, s6, s7, .val (.ref b6), s9, s10, s11, s12, s13, s14, s15, s16, s17] [(.int i0), (.int (0 : Int32)), (.ref b6)])) _
  refine XS.sipush X6.here hx rfl (hb hby at_9) ?_
  show Steps p.tables e below (T6.setTop (mkF m 12 #[.val (.int i0), s1, s2, s3, s4, s5, s6, s7, .val (.ref b6), s9, s10, s11, s12, s13, s14, s15, s16, s17] [(.int (255 : Int32)), (.int i0), (.int (0 : Int32)), (.ref b6)])) _
  refine XS.iand X6.here hx rfl (hb hby at_12) rfl ?_
  show Steps p.tables e below (T6.setTop (mkF m 13 #[.val (.int i0), s1, s2, s3, s4, s5, s6, s7, .val (.ref b6), s9, s10, s11, s12, s13, s14, s15, s16, s17] [(.int (i0 &&& (255 : Int32))), (.int (0 : Int32)), (.ref b6)])) _
  refine XS.i2c X6.here hx rfl (hb hby at_13) rfl ?_
  show Steps p.tables e below (T6.setTop (mkF m 14 #[.val (.int i0), s1, s2, s3, s4, s5, s6, s7, .val (.ref b6), s9, s10, s11, s12, s13, s14, s15, s16, s17] [(.int ((i0 &&& (255 : Int32)).toUInt32.toUInt16.toUInt32.toInt32)), (.int (0 : Int32)), (.ref b6)])) _
  refine st7 _ ?_
  show Steps p.tables e below (T7.setTop (mkF m 15 #[.val (.int i0), s1, s2, s3, s4, s5, s6, s7, .val (.ref b6), s9, s10, s11, s12, s13, s14, s15, s16, s17] [])) _
  refine XS.aload X7.here hx rfl (hb hby at_15) rfl rfl ?_
  show Steps p.tables e below (T7.setTop (mkF m 17 #[.val (.int i0), s1, s2, s3, s4, s5, s6, s7, .val (.ref b6), s9, s10, s11, s12, s13, s14, s15, s16, s17] [(.ref b6)])) _
  refine XS.iconst X7.here hx rfl (hb hby at_17) ?_
  show Steps p.tables e below (T7.setTop (mkF m 18 #[.val (.int i0), s1, s2, s3, s4, s5, s6, s7, .val (.ref b6), s9, s10, s11, s12, s13, s14, s15, s16, s17] [(.int (1 : Int32)), (.ref b6)])) _
  refine XS.iloadN X7.here hx rfl (hb hby at_18) rfl ?_
  show Steps p.tables e below (T7.setTop (mkF m 19 #[.val (.int i0), s1, s2, s3, s4, s5, s6, s7, .val (.ref b6), s9, s10, s11, s12, s13, s14, s15, s16, s17] [(.int i0), (.int (1 : Int32)), (.ref b6)])) _
  refine XS.bipush X7.here hx rfl (hb hby at_19) ?_
  show Steps p.tables e below (T7.setTop (mkF m 21 #[.val (.int i0), s1, s2, s3, s4, s5, s6, s7, .val (.ref b6), s9, s10, s11, s12, s13, s14, s15, s16, s17] [(.int (8 : Int32)), (.int i0), (.int (1 : Int32)), (.ref b6)])) _
  refine XS.iushr X7.here hx rfl (hb hby at_21) rfl ?_
  show Steps p.tables e below (T7.setTop (mkF m 22 #[.val (.int i0), s1, s2, s3, s4, s5, s6, s7, .val (.ref b6), s9, s10, s11, s12, s13, s14, s15, s16, s17] [(.int ((i0.toUInt32 >>> ((8 : Int32) &&& 31).toUInt32).toInt32)), (.int (1 : Int32)), (.ref b6)])) _
  refine XS.sipush X7.here hx rfl (hb hby at_22) ?_
  show Steps p.tables e below (T7.setTop (mkF m 25 #[.val (.int i0), s1, s2, s3, s4, s5, s6, s7, .val (.ref b6), s9, s10, s11, s12, s13, s14, s15, s16, s17] [(.int (255 : Int32)), (.int ((i0.toUInt32 >>> ((8 : Int32) &&& 31).toUInt32).toInt32)), (.int (1 : Int32)), (.ref b6)])) _
  refine XS.iand X7.here hx rfl (hb hby at_25) rfl ?_
  show Steps p.tables e below (T7.setTop (mkF m 26 #[.val (.int i0), s1, s2, s3, s4, s5, s6, s7, .val (.ref b6), s9, s10, s11, s12, s13, s14, s15, s16, s17] [(.int (((i0.toUInt32 >>> ((8 : Int32) &&& 31).toUInt32).toInt32) &&& (255 : Int32))), (.int (1 : Int32)), (.ref b6)])) _
  refine XS.i2c X7.here hx rfl (hb hby at_26) rfl ?_
  show Steps p.tables e below (T7.setTop (mkF m 27 #[.val (.int i0), s1, s2, s3, s4, s5, s6, s7, .val (.ref b6), s9, s10, s11, s12, s13, s14, s15, s16, s17] [(.int ((((i0.toUInt32 >>> ((8 : Int32) &&& 31).toUInt32).toInt32) &&& (255 : Int32)).toUInt32.toUInt16.toUInt32.toInt32)), (.int (1 : Int32)), (.ref b6)])) _
  refine st8 _ ?_
  show Steps p.tables e below (T8.setTop (mkF m 28 #[.val (.int i0), s1, s2, s3, s4, s5, s6, s7, .val (.ref b6), s9, s10, s11, s12, s13, s14, s15, s16, s17] [])) _
  refine XS.iconst X8.here hx rfl (hb hby at_28) ?_
  show Steps p.tables e below (T8.setTop (mkF m 29 #[.val (.int i0), s1, s2, s3, s4, s5, s6, s7, .val (.ref b6), s9, s10, s11, s12, s13, s14, s15, s16, s17] [(.int (2 : Int32))])) _
  refine st9 _ ?_
  show Steps p.tables e below (T9.setTop (mkF m 31 #[.val (.int i0), s1, s2, s3, s4, s5, s6, s7, .val (.ref b6), s9, s10, s11, s12, s13, s14, s15, s16, s17] [(.ref b9)])) _
  refine XS.astore X9.here hx rfl (hb hby at_31) rfl rfl (l' := #[.val (.int i0), s1, s2, s3, s4, s5, s6, s7, .val (.ref b6), .val (.ref b9), s10, s11, s12, s13, s14, s15, s16, s17]) (os0_31 hs9) ?_
  show Steps p.tables e below (T9.setTop (mkF m 33 #[.val (.int i0), s1, s2, s3, s4, s5, s6, s7, .val (.ref b6), .val (.ref b9), s10, s11, s12, s13, s14, s15, s16, s17] [])) _
  refine XS.aload X9.here hx rfl (hb hby at_33) rfl rfl ?_
  show Steps p.tables e below (T9.setTop (mkF m 35 #[.val (.int i0), s1, s2, s3, s4, s5, s6, s7, .val (.ref b6), .val (.ref b9), s10, s11, s12, s13, s14, s15, s16, s17] [(.ref b9)])) _
  refine XS.iconst X9.here hx rfl (hb hby at_35) ?_
  show Steps p.tables e below (T9.setTop (mkF m 36 #[.val (.int i0), s1, s2, s3, s4, s5, s6, s7, .val (.ref b6), .val (.ref b9), s10, s11, s12, s13, s14, s15, s16, s17] [(.int (0 : Int32)), (.ref b9)])) _
  refine XS.iloadN X9.here hx rfl (hb hby at_36) rfl ?_
  show Steps p.tables e below (T9.setTop (mkF m 37 #[.val (.int i0), s1, s2, s3, s4, s5, s6, s7, .val (.ref b6), .val (.ref b9), s10, s11, s12, s13, s14, s15, s16, s17] [(.int i0), (.int (0 : Int32)), (.ref b9)])) _
  refine XS.bipush X9.here hx rfl (hb hby at_37) ?_
  show Steps p.tables e below (T9.setTop (mkF m 39 #[.val (.int i0), s1, s2, s3, s4, s5, s6, s7, .val (.ref b6), .val (.ref b9), s10, s11, s12, s13, s14, s15, s16, s17] [(.int (16 : Int32)), (.int i0), (.int (0 : Int32)), (.ref b9)])) _
  refine XS.iushr X9.here hx rfl (hb hby at_39) rfl ?_
  show Steps p.tables e below (T9.setTop (mkF m 40 #[.val (.int i0), s1, s2, s3, s4, s5, s6, s7, .val (.ref b6), .val (.ref b9), s10, s11, s12, s13, s14, s15, s16, s17] [(.int ((i0.toUInt32 >>> ((16 : Int32) &&& 31).toUInt32).toInt32)), (.int (0 : Int32)), (.ref b9)])) _
  refine XS.sipush X9.here hx rfl (hb hby at_40) ?_
  show Steps p.tables e below (T9.setTop (mkF m 43 #[.val (.int i0), s1, s2, s3, s4, s5, s6, s7, .val (.ref b6), .val (.ref b9), s10, s11, s12, s13, s14, s15, s16, s17] [(.int (255 : Int32)), (.int ((i0.toUInt32 >>> ((16 : Int32) &&& 31).toUInt32).toInt32)), (.int (0 : Int32)), (.ref b9)])) _
  refine XS.iand X9.here hx rfl (hb hby at_43) rfl ?_
  show Steps p.tables e below (T9.setTop (mkF m 44 #[.val (.int i0), s1, s2, s3, s4, s5, s6, s7, .val (.ref b6), .val (.ref b9), s10, s11, s12, s13, s14, s15, s16, s17] [(.int (((i0.toUInt32 >>> ((16 : Int32) &&& 31).toUInt32).toInt32) &&& (255 : Int32))), (.int (0 : Int32)), (.ref b9)])) _
  refine XS.i2c X9.here hx rfl (hb hby at_44) rfl ?_
  show Steps p.tables e below (T9.setTop (mkF m 45 #[.val (.int i0), s1, s2, s3, s4, s5, s6, s7, .val (.ref b6), .val (.ref b9), s10, s11, s12, s13, s14, s15, s16, s17] [(.int ((((i0.toUInt32 >>> ((16 : Int32) &&& 31).toUInt32).toInt32) &&& (255 : Int32)).toUInt32.toUInt16.toUInt32.toInt32)), (.int (0 : Int32)), (.ref b9)])) _
  refine st10 _ ?_
  show Steps p.tables e below (T10.setTop (mkF m 46 #[.val (.int i0), s1, s2, s3, s4, s5, s6, s7, .val (.ref b6), .val (.ref b9), s10, s11, s12, s13, s14, s15, s16, s17] [])) _
  refine XS.aload X10.here hx rfl (hb hby at_46) rfl rfl ?_
  show Steps p.tables e below (T10.setTop (mkF m 48 #[.val (.int i0), s1, s2, s3, s4, s5, s6, s7, .val (.ref b6), .val (.ref b9), s10, s11, s12, s13, s14, s15, s16, s17] [(.ref b9)])) _
  refine XS.iconst X10.here hx rfl (hb hby at_48) ?_
  show Steps p.tables e below (T10.setTop (mkF m 49 #[.val (.int i0), s1, s2, s3, s4, s5, s6, s7, .val (.ref b6), .val (.ref b9), s10, s11, s12, s13, s14, s15, s16, s17] [(.int (1 : Int32)), (.ref b9)])) _
  refine XS.iloadN X10.here hx rfl (hb hby at_49) rfl ?_
  show Steps p.tables e below (T10.setTop (mkF m 50 #[.val (.int i0), s1, s2, s3, s4, s5, s6, s7, .val (.ref b6), .val (.ref b9), s10, s11, s12, s13, s14, s15, s16, s17] [(.int i0), (.int (1 : Int32)), (.ref b9)])) _
  refine XS.bipush X10.here hx rfl (hb hby at_50) ?_
  show Steps p.tables e below (T10.setTop (mkF m 52 #[.val (.int i0), s1, s2, s3, s4, s5, s6, s7, .val (.ref b6), .val (.ref b9), s10, s11, s12, s13, s14, s15, s16, s17] [(.int (24 : Int32)), (.int i0), (.int (1 : Int32)), (.ref b9)])) _
  refine XS.iushr X10.here hx rfl (hb hby at_52) rfl ?_
  show Steps p.tables e below (T10.setTop (mkF m 53 #[.val (.int i0), s1, s2, s3, s4, s5, s6, s7, .val (.ref b6), .val (.ref b9), s10, s11, s12, s13, s14, s15, s16, s17] [(.int ((i0.toUInt32 >>> ((24 : Int32) &&& 31).toUInt32).toInt32)), (.int (1 : Int32)), (.ref b9)])) _
  refine XS.sipush X10.here hx rfl (hb hby at_53) ?_
  show Steps p.tables e below (T10.setTop (mkF m 56 #[.val (.int i0), s1, s2, s3, s4, s5, s6, s7, .val (.ref b6), .val (.ref b9), s10, s11, s12, s13, s14, s15, s16, s17] [(.int (255 : Int32)), (.int ((i0.toUInt32 >>> ((24 : Int32) &&& 31).toUInt32).toInt32)), (.int (1 : Int32)), (.ref b9)])) _
  refine XS.iand X10.here hx rfl (hb hby at_56) rfl ?_
  show Steps p.tables e below (T10.setTop (mkF m 57 #[.val (.int i0), s1, s2, s3, s4, s5, s6, s7, .val (.ref b6), .val (.ref b9), s10, s11, s12, s13, s14, s15, s16, s17] [(.int (((i0.toUInt32 >>> ((24 : Int32) &&& 31).toUInt32).toInt32) &&& (255 : Int32))), (.int (1 : Int32)), (.ref b9)])) _
  refine XS.i2c X10.here hx rfl (hb hby at_57) rfl ?_
  show Steps p.tables e below (T10.setTop (mkF m 58 #[.val (.int i0), s1, s2, s3, s4, s5, s6, s7, .val (.ref b6), .val (.ref b9), s10, s11, s12, s13, s14, s15, s16, s17] [(.int ((((i0.toUInt32 >>> ((24 : Int32) &&& 31).toUInt32).toInt32) &&& (255 : Int32)).toUInt32.toUInt16.toUInt32.toInt32)), (.int (1 : Int32)), (.ref b9)])) _
  refine st11 _ ?_
  show Steps p.tables e below (T11.setTop (mkF m 59 #[.val (.int i0), s1, s2, s3, s4, s5, s6, s7, .val (.ref b6), .val (.ref b9), s10, s11, s12, s13, s14, s15, s16, s17] [])) _
  refine st12 _ ?_
  show Steps p.tables e below (T12.setTop (mkF m 62 #[.val (.int i0), s1, s2, s3, s4, s5, s6, s7, .val (.ref b6), .val (.ref b9), s10, s11, s12, s13, s14, s15, s16, s17] [(.ref b12)])) _
  refine XS.dup X12.here hx rfl (hb hby at_62) rfl rfl ?_
  show Steps p.tables e below (T12.setTop (mkF m 63 #[.val (.int i0), s1, s2, s3, s4, s5, s6, s7, .val (.ref b6), .val (.ref b9), s10, s11, s12, s13, s14, s15, s16, s17] [(.ref b12), (.ref b12)])) _
  refine XS.aload X12.here hx rfl (hb hby at_63) rfl rfl ?_
  show Steps p.tables e below (T12.setTop (mkF m 65 #[.val (.int i0), s1, s2, s3, s4, s5, s6, s7, .val (.ref b6), .val (.ref b9), s10, s11, s12, s13, s14, s15, s16, s17] [(.ref b6), (.ref b12), (.ref b12)])) _
  refine st13.trans ?_
  show Steps p.tables e below (T13.setTop (mkF m 68 #[.val (.int i0), s1, s2, s3, s4, s5, s6, s7, .val (.ref b6), .val (.ref b9), s10, s11, s12, s13, s14, s15, s16, s17] [(.ref b12)])) _
  refine XS.astore X13.here hx rfl (hb hby at_68) rfl rfl (l' := #[.val (.int i0), s1, s2, s3, s4, s5, s6, s7, .val (.ref b6), .val (.ref b9), .val (.ref b12), s11, s12, s13, s14, s15, s16, s17]) (os0_68 hs10) ?_
  exact kt
theorem os0_89 {s0 : Slot} {z1 : Value} {s2 : Slot} {s3 : Slot} {s4 : Slot} {s5 : Slot} {s6 : Slot} {s7 : Slot} {s8 : Slot} {z9 : Value} {s10 : Slot} {s11 : Slot} {s12 : Slot} {s13 : Slot} {s14 : Slot} {s15 : Slot} {s16 : Slot} {s17 : Slot} {v : Addr} (h : One s11) : storeLocals #[s0, .val z1, s2, s3, s4, s5, s6, s7, s8, .val z9, s10, s11, s12, s13, s14, s15, s16, s17] 11 (.ref v) = some #[s0, .val z1, s2, s3, s4, s5, s6, s7, s8, .val z9, s10, .val (.ref v), s12, s13, s14, s15, s16, s17] := by
  rcases h with rfl | ⟨w, rfl, hw⟩
  · rfl
  · cases w <;> first | rfl | (simp [Value.category] at hw)
set_option maxRecDepth 65536 in
set_option maxHeartbeats 40000000 in
theorem own_p1t {p : Program} {l : Launch} {e : Env} {s : State} {m : MethodId} {args : Array Value} {below : List Frame} {meth : Method} {c : Code} {T0 : State} {locs : List Loc} {Z : State} {a0 : Array Value} {h0 : Heap} {n0 : Nat} (s0 : Slot) (i1 : Int32) (s2 : Slot) (s3 : Slot) (s4 : Slot) (s5 : Slot) (s6 : Slot) (s7 : Slot) (s8 : Slot) (o9 : Addr) (s10 : Slot) (s11 : Slot) (s12 : Slot) (s13 : Slot) (s14 : Slot) (s15 : Slot) (s16 : Slot) (s17 : Slot) (G1 : Int32) (cs : List Int32) (k9 : ClassId)
    (X0 : Stand p l e room_1 s m args below meth c T0 locs 4 10) (hx : p.tables.exec = Jvm.exec) (hZ : Z.Warmed39 s.vm) (hw : ∀ d ∈ tables_1, d.before a0 Z = true) (hby : c.code = code) (hml : c.maxLocals = 18) (hown : s.vm.findClass "com/example/shardgate/shardgate/subscriptions/SubscriptionInPinLaw" = some m.cls) (e0 : T0.heap = h0) (N0 : Fr n0 locs) (Z0 : n0 ≤ h0.size) (S_CS : Sta Z h0 "java/lang/String" "COMPACT_STRINGS" "Z" (.int G1)) (P5 : ¬ (G1 = (0 : Int32))) (Vcc : Arv Z h0 o9 k9 .char (2 : Int32) (cs.map Value.int) (.int (0 : Int32))) (hl : cs.length = 2) (hp : ∀ c ∈ cs, ¬ c < 0 ∧ ¬ (255 : Int32) < c) (hs11 : One s11) (hc73 : (i1 &&& (4 : Int32)) = (0 : Int32)) :
    ∃ (T' : State) (h' : Heap) (locs' : List Loc) (o11 : Addr), Stand p l e room_1 s m args below meth c T' locs' 6 16 ∧ T'.heap = h' ∧ Fr n0 locs' ∧ Keep h0 h' [] ∧ Exa Z h' o11 "java/lang/String" ∧ ∀ target, Steps p.tables e below (T'.setTop (mkF m 91 #[s0, .val (.int i1), s2, s3, s4, s5, s6, s7, s8, .val (.ref o9), s10, .val (.ref o11), s12, s13, s14, s15, s16, s17] [])) target → Steps p.tables e below (T0.setTop (mkF m 70 #[s0, .val (.int i1), s2, s3, s4, s5, s6, s7, s8, .val (.ref o9), s10, s11, s12, s13, s14, s15, s16, s17] [])) target := by
  -- 3. LAWS
  obtain ⟨T6, h6, X6, e6, E6, A6, D6, -, st6⟩ := newO X0 hx hZ hown (hw _ (List.mem_of_getElem? (i := 1) rfl)) (hw _ (List.mem_of_getElem? (i := 2) rfl)) (hw _ (List.mem_of_getElem? (i := 3) rfl)) e0 (g := (mkF m 80 #[s0, .val (.int i1), s2, s3, s4, s5, s6, s7, s8, .val (.ref o9), s10, s11, s12, s13, s14, s15, s16, s17] [])) rfl (hb hby at_80) (by decide) (by decide)
  obtain ⟨b6, g6⟩ : ∃ z, z = h0.size := ⟨_, rfl⟩      -- the fresh object's address
  rw [← g6] at A6 D6 st6      -- A6 : Exa Z h6 b6 "java/lang/String"; E6 : Ext h0 h6 (carries every older fact: .ext E6)
  have F_coder_b6 : Fld Z h6 b6 "java/lang/String" "coder" "B" (.int (0 : Int32)) := D6 (Or.inr (hw _ (List.mem_of_getElem? (i := 27) rfl))) (ty := .byte) (by decide)
  have F_value_b6 : Fld Z h6 b6 "java/lang/String" "value" "[B" .null := D6 (Or.inr (hw _ (List.mem_of_getElem? (i := 29) rfl))) (ty := (.array .byte)) (by decide)
  have E_b6 := A6
  have g_b6 : n0 ≤ b6 := Nat.le_trans Z0 (Nat.le_of_eq g6.symm)
  have sz_b6 : h0.size ≤ b6 := (Nat.le_trans (Keep.refl h0 []).1 (Nat.le_of_eq g6.symm))
  have K6 : Keep h0 h6 [] := (Keep.refl h0 []).ext E6
  -- pc 86: the constructor of java/lang/String by its contract rm1
  -- JDK: don't walk it: StrChars.Road.backV (pack/laws/STRINGS.README.md): its own row in place of the next one (the 'backOf (W ..)' becomes what that law's P asks)
  have hws : ∀ d ∈ StrChars.Road.words, d.before a0 Z = true := fun d hd => hw d ((by decide +kernel : ∀ d ∈ StrChars.Road.words, d ∈ tables_1) d hd)
  obtain ⟨_, _, ⟨T7, L7, k7, n7⟩, -, X7, ⟨Lc7, hQ7, l7, y7, z7⟩, st7⟩ := X6.specialBack hx (y := (⟨"java/lang/String", "<init>", "([C)V"⟩ : MethodName)) rfl hown (mvT hZ (hw _ (List.mem_of_getElem? (i := 4) rfl))) (mvT hZ (hw _ (List.mem_of_getElem? (i := 5) rfl))) (mvT hZ (hw _ (List.mem_of_getElem? (i := 6) rfl))) (by decide) (StrChars.Road.backV (W := 1) hZ hws (kI := 4) (hw _ (List.mem_of_getElem? (i := 2) rfl)) (cs := cs) (bs := (cs).map (fun c => c.toInt8.toInt32)) (n := 2) g_b6 (Nat.le_trans Z0 K6.1) E_b6 F_value_b6 F_coder_b6 (Vcc.ext E6) (S_CS.ext (own_ext K6)) P5 hl rfl (by decide) (by decide) hp rfl (by decide) (by decide)) (g := (mkF m 86 #[s0, .val (.int i1), s2, s3, s4, s5, s6, s7, s8, .val (.ref o9), s10, s11, s12, s13, s14, s15, s16, s17] [(.ref o9), (.ref b6), (.ref b6)])) rfl (by rw [hml]; rfl) (Steps.refl _) (a := b6) (argsL := [(.ref o9)]) (rest := [(.ref b6)]) (lenOf pd_0_0 rfl) rfl (by show 2 * 0 + _ ≤ _; exact Nat.le_of_eq rfl) (hb hby at_86) (fun _ _ => ⟨rfl, e6, (by decide : 4 + 1 + 1 ≤ _), (by decide : 10 + 4 + 2 ≤ _)⟩)
  dsimp only [Pt.U, Pt.locs, Pt.cells, Pt.slots] at X7 l7 y7 z7 st7 hQ7
  subst l7 y7 z7
  obtain ⟨rfl, N7q, K7q, E7q, C7q, t7, kb7, _, _, _, V7q, A7q⟩ := hQ7
  have N7 := Fr.app N0 N7q
  have KH7 : Keep h0 T7.heap [] := K6.trans K7q (own_ws1 sz_b6)
  refine ⟨T7, _, _, b6, X7, rfl, N7, KH7, E7q, fun target kt => ?_⟩
  -- 4. STEPS
  show Steps p.tables e below (T0.setTop (mkF m 70 #[s0, .val (.int i1), s2, s3, s4, s5, s6, s7, s8, .val (.ref o9), s10, s11, s12, s13, s14, s15, s16, s17] [])) _
  refine XS.iloadN X0.here hx rfl (hb hby at_70) rfl ?_
  show Steps p.tables e below (T0.setTop (mkF m 71 #[s0, .val (.int i1), s2, s3, s4, s5, s6, s7, s8, .val (.ref o9), s10, s11, s12, s13, s14, s15, s16, s17] [(.int i1)])) _
  refine XS.iconst X0.here hx rfl (hb hby at_71) ?_
  show Steps p.tables e below (T0.setTop (mkF m 72 #[s0, .val (.int i1), s2, s3, s4, s5, s6, s7, s8, .val (.ref o9), s10, s11, s12, s13, s14, s15, s16, s17] [(.int (4 : Int32)), (.int i1)])) _
  refine XS.iand X0.here hx rfl (hb hby at_72) rfl ?_
  show Steps p.tables e below (T0.setTop (mkF m 73 #[s0, .val (.int i1), s2, s3, s4, s5, s6, s7, s8, .val (.ref o9), s10, s11, s12, s13, s14, s15, s16, s17] [(.int (i1 &&& (4 : Int32)))])) _
  refine XS.ifYes X0.here hx rfl (pc0 := 73) (pc' := 80) rfl (hb hby at_73) rfl ((if0 _ _).trans (teq hc73).1) (by decide) (by decide) ?_
  show Steps p.tables e below (T0.setTop (mkF m 80 #[s0, .val (.int i1), s2, s3, s4, s5, s6, s7, s8, .val (.ref o9), s10, s11, s12, s13, s14, s15, s16, s17] [])) _
  refine st6 _ ?_
  show Steps p.tables e below (T6.setTop (mkF m 83 #[s0, .val (.int i1), s2, s3, s4, s5, s6, s7, s8, .val (.ref o9), s10, s11, s12, s13, s14, s15, s16, s17] [(.ref b6)])) _
  refine XS.dup X6.here hx rfl (hb hby at_83) rfl rfl ?_
  show Steps p.tables e below (T6.setTop (mkF m 84 #[s0, .val (.int i1), s2, s3, s4, s5, s6, s7, s8, .val (.ref o9), s10, s11, s12, s13, s14, s15, s16, s17] [(.ref b6), (.ref b6)])) _
  refine XS.aload X6.here hx rfl (hb hby at_84) rfl rfl ?_
  show Steps p.tables e below (T6.setTop (mkF m 86 #[s0, .val (.int i1), s2, s3, s4, s5, s6, s7, s8, .val (.ref o9), s10, s11, s12, s13, s14, s15, s16, s17] [(.ref o9), (.ref b6), (.ref b6)])) _
  refine st7.trans ?_
  show Steps p.tables e below (T7.setTop (mkF m 89 #[s0, .val (.int i1), s2, s3, s4, s5, s6, s7, s8, .val (.ref o9), s10, s11, s12, s13, s14, s15, s16, s17] [(.ref b6)])) _
  refine XS.astore X7.here hx rfl (hb hby at_89) rfl rfl (l' := #[s0, .val (.int i1), s2, s3, s4, s5, s6, s7, s8, .val (.ref o9), s10, .val (.ref b6), s12, s13, s14, s15, s16, s17]) (os0_89 hs11) ?_
  exact kt
theorem os0_89_own_p1f {s0 : Slot} {z1 : Value} {s2 : Slot} {s3 : Slot} {s4 : Slot} {s5 : Slot} {s6 : Slot} {s7 : Slot} {s8 : Slot} {s9 : Slot} {s10 : Slot} {s11 : Slot} {s12 : Slot} {s13 : Slot} {s14 : Slot} {s15 : Slot} {s16 : Slot} {s17 : Slot} (h : One s11) : storeLocals #[s0, .val z1, s2, s3, s4, s5, s6, s7, s8, s9, s10, s11, s12, s13, s14, s15, s16, s17] 11 .null = some #[s0, .val z1, s2, s3, s4, s5, s6, s7, s8, s9, s10, .val .null, s12, s13, s14, s15, s16, s17] := by
  rcases h with rfl | ⟨w, rfl, hw⟩
  · rfl
  · cases w <;> first | rfl | (simp [Value.category] at hw)
set_option maxRecDepth 65536 in
set_option maxHeartbeats 40000000 in
theorem own_p1f {p : Program} {l : Launch} {e : Env} {R : Room} {s : State} {m : MethodId} {args : Array Value} {below : List Frame} {meth : Method} {c : Code} {T0 : State} {locs : List Loc} {cells slots : Nat} {Z : State} {a0 : Array Value} {h0 : Heap} (s0 : Slot) (i1 : Int32) (s2 : Slot) (s3 : Slot) (s4 : Slot) (s5 : Slot) (s6 : Slot) (s7 : Slot) (s8 : Slot) (s9 : Slot) (s10 : Slot) (s11 : Slot) (s12 : Slot) (s13 : Slot) (s14 : Slot) (s15 : Slot) (s16 : Slot) (s17 : Slot)
    (X0 : Stand p l e R s m args below meth c T0 locs cells slots) (hx : p.tables.exec = Jvm.exec) (hZ : Z.Warmed39 s.vm) (hw : ∀ d ∈ tables_1, d.before a0 Z = true) (hby : c.code = code) (hml : c.maxLocals = 18) (hown : s.vm.findClass "com/example/shardgate/shardgate/subscriptions/SubscriptionInPinLaw" = some m.cls) (e0 : T0.heap = h0) (hs11 : One s11) (hc73 : ¬ ((i1 &&& (4 : Int32)) = (0 : Int32))) :
    ∃ (T' : State), Stand p l e R s m args below meth c T' locs cells slots ∧ T'.heap = h0 ∧
      ∀ target, Steps p.tables e below (T'.setTop (mkF m 91 #[s0, .val (.int i1), s2, s3, s4, s5, s6, s7, s8, s9, s10, .val .null, s12, s13, s14, s15, s16, s17] [])) target → Steps p.tables e below (T0.setTop (mkF m 70 #[s0, .val (.int i1), s2, s3, s4, s5, s6, s7, s8, s9, s10, s11, s12, s13, s14, s15, s16, s17] [])) target := by
  -- 3. LAWS

  refine ⟨T0, X0, e0, fun target kt => ?_⟩
  -- 4. STEPS
  show Steps p.tables e below (T0.setTop (mkF m 70 #[s0, .val (.int i1), s2, s3, s4, s5, s6, s7, s8, s9, s10, s11, s12, s13, s14, s15, s16, s17] [])) _
  refine XS.iloadN X0.here hx rfl (hb hby at_70) rfl ?_
  show Steps p.tables e below (T0.setTop (mkF m 71 #[s0, .val (.int i1), s2, s3, s4, s5, s6, s7, s8, s9, s10, s11, s12, s13, s14, s15, s16, s17] [(.int i1)])) _
  refine XS.iconst X0.here hx rfl (hb hby at_71) ?_
  show Steps p.tables e below (T0.setTop (mkF m 72 #[s0, .val (.int i1), s2, s3, s4, s5, s6, s7, s8, s9, s10, s11, s12, s13, s14, s15, s16, s17] [(.int (4 : Int32)), (.int i1)])) _
  refine XS.iand X0.here hx rfl (hb hby at_72) rfl ?_
  show Steps p.tables e below (T0.setTop (mkF m 73 #[s0, .val (.int i1), s2, s3, s4, s5, s6, s7, s8, s9, s10, s11, s12, s13, s14, s15, s16, s17] [(.int (i1 &&& (4 : Int32)))])) _
  refine XS.ifNo X0.here hx rfl (hb hby at_73) rfl ((if0 _ _).trans (feq hc73).1) ?_
  show Steps p.tables e below (T0.setTop (mkF m 76 #[s0, .val (.int i1), s2, s3, s4, s5, s6, s7, s8, s9, s10, s11, s12, s13, s14, s15, s16, s17] [])) _
  refine XS.aconstNull X0.here hx rfl (hb hby at_76) ?_
  show Steps p.tables e below (T0.setTop (mkF m 77 #[s0, .val (.int i1), s2, s3, s4, s5, s6, s7, s8, s9, s10, s11, s12, s13, s14, s15, s16, s17] [.null])) _
  refine XS.goto X0.here hx rfl (pc0 := 77) (pc' := 89) rfl (hb hby at_77) (by decide) (by decide) ?_
  show Steps p.tables e below (T0.setTop (mkF m 89 #[s0, .val (.int i1), s2, s3, s4, s5, s6, s7, s8, s9, s10, s11, s12, s13, s14, s15, s16, s17] [.null])) _
  refine XS.astore X0.here hx rfl (hb hby at_89) rfl rfl (l' := #[s0, .val (.int i1), s2, s3, s4, s5, s6, s7, s8, s9, s10, .val .null, s12, s13, s14, s15, s16, s17]) (os0_89_own_p1f hs11) ?_
  exact kt
theorem os0_106 {s0 : Slot} {z1 : Value} {s2 : Slot} {s3 : Slot} {s4 : Slot} {s5 : Slot} {s6 : Slot} {s7 : Slot} {s8 : Slot} {s9 : Slot} {s10 : Slot} {s11 : Slot} {s12 : Slot} {s13 : Slot} {s14 : Slot} {s15 : Slot} {s16 : Slot} {s17 : Slot} {v : Addr} (h : One s12) : storeLocals #[s0, .val z1, s2, s3, s4, s5, s6, s7, s8, s9, s10, s11, s12, s13, s14, s15, s16, s17] 12 (.ref v) = some #[s0, .val z1, s2, s3, s4, s5, s6, s7, s8, s9, s10, s11, .val (.ref v), s13, s14, s15, s16, s17] := by
  rcases h with rfl | ⟨w, rfl, hw⟩
  · rfl
  · cases w <;> first | rfl | (simp [Value.category] at hw)
set_option maxRecDepth 65536 in
set_option maxHeartbeats 40000000 in
theorem own_p2t {p : Program} {l : Launch} {e : Env} {R : Room} {s : State} {m : MethodId} {args : Array Value} {below : List Frame} {meth : Method} {c : Code} {T0 : State} {locs : List Loc} {cells slots : Nat} {Z : State} {a0 : Array Value} {h0 : Heap} (s0 : Slot) (i1 : Int32) (s2 : Slot) (s3 : Slot) (s4 : Slot) (s5 : Slot) (s6 : Slot) (s7 : Slot) (s8 : Slot) (s9 : Slot) (s10 : Slot) (s11 : Slot) (s12 : Slot) (s13 : Slot) (s14 : Slot) (s15 : Slot) (s16 : Slot) (s17 : Slot) (w6 : Addr)
    (X0 : Stand p l e R s m args below meth c T0 locs cells slots) (hx : p.tables.exec = Jvm.exec) (hZ : Z.Warmed39 s.vm) (hw : ∀ d ∈ tables_1, d.before a0 Z = true) (hby : c.code = code) (hml : c.maxLocals = 18) (hown : s.vm.findClass "com/example/shardgate/shardgate/subscriptions/SubscriptionInPinLaw" = some m.cls) (e0 : T0.heap = h0) (S_ONLINE : Sta Z h0 "com/example/shardgate/shardgate/subscriptions/Subscription$State" "ONLINE" "Lcom/example/shardgate/shardgate/subscriptions/Subscription$State;" (.ref w6)) (hs12 : One s12) (hc94 : (i1 &&& (1 : Int32)) = (0 : Int32)) :
    ∃ (T' : State), Stand p l e R s m args below meth c T' locs cells slots ∧ T'.heap = h0 ∧
      ∀ target, Steps p.tables e below (T'.setTop (mkF m 108 #[s0, .val (.int i1), s2, s3, s4, s5, s6, s7, s8, s9, s10, s11, .val (.ref w6), s13, s14, s15, s16, s17] [])) target → Steps p.tables e below (T0.setTop (mkF m 91 #[s0, .val (.int i1), s2, s3, s4, s5, s6, s7, s8, s9, s10, s11, s12, s13, s14, s15, s16, s17] [])) target := by
  -- 3. LAWS
  obtain ⟨T7, X7, e7, st7⟩ := getS2 X0 hx hZ hown (host := "") (Or.inl (hw _ (List.mem_of_getElem? (i := 92) rfl))) Via.refl e0 S_ONLINE (g := (mkF m 103 #[s0, .val (.int i1), s2, s3, s4, s5, s6, s7, s8, s9, s10, s11, s12, s13, s14, s15, s16, s17] [])) rfl (hb hby at_103)
  refine ⟨T7, X7, e7, fun target kt => ?_⟩
  -- 4. STEPS
  show Steps p.tables e below (T0.setTop (mkF m 91 #[s0, .val (.int i1), s2, s3, s4, s5, s6, s7, s8, s9, s10, s11, s12, s13, s14, s15, s16, s17] [])) _
  refine XS.iloadN X0.here hx rfl (hb hby at_91) rfl ?_
  show Steps p.tables e below (T0.setTop (mkF m 92 #[s0, .val (.int i1), s2, s3, s4, s5, s6, s7, s8, s9, s10, s11, s12, s13, s14, s15, s16, s17] [(.int i1)])) _
  refine XS.iconst X0.here hx rfl (hb hby at_92) ?_
  show Steps p.tables e below (T0.setTop (mkF m 93 #[s0, .val (.int i1), s2, s3, s4, s5, s6, s7, s8, s9, s10, s11, s12, s13, s14, s15, s16, s17] [(.int (1 : Int32)), (.int i1)])) _
  refine XS.iand X0.here hx rfl (hb hby at_93) rfl ?_
  show Steps p.tables e below (T0.setTop (mkF m 94 #[s0, .val (.int i1), s2, s3, s4, s5, s6, s7, s8, s9, s10, s11, s12, s13, s14, s15, s16, s17] [(.int (i1 &&& (1 : Int32)))])) _
  refine XS.ifYes X0.here hx rfl (pc0 := 94) (pc' := 103) rfl (hb hby at_94) rfl ((if0 _ _).trans (teq hc94).1) (by decide) (by decide) ?_
  show Steps p.tables e below (T0.setTop (mkF m 103 #[s0, .val (.int i1), s2, s3, s4, s5, s6, s7, s8, s9, s10, s11, s12, s13, s14, s15, s16, s17] [])) _
  refine st7 _ ?_
  show Steps p.tables e below (T7.setTop (mkF m 106 #[s0, .val (.int i1), s2, s3, s4, s5, s6, s7, s8, s9, s10, s11, s12, s13, s14, s15, s16, s17] [(.ref w6)])) _
  refine XS.astore X7.here hx rfl (hb hby at_106) rfl rfl (l' := #[s0, .val (.int i1), s2, s3, s4, s5, s6, s7, s8, s9, s10, s11, .val (.ref w6), s13, s14, s15, s16, s17]) (os0_106 hs12) ?_
  exact kt
set_option maxRecDepth 65536 in
set_option maxHeartbeats 40000000 in
theorem own_p2f {p : Program} {l : Launch} {e : Env} {R : Room} {s : State} {m : MethodId} {args : Array Value} {below : List Frame} {meth : Method} {c : Code} {T0 : State} {locs : List Loc} {cells slots : Nat} {Z : State} {a0 : Array Value} {h0 : Heap} (s0 : Slot) (i1 : Int32) (s2 : Slot) (s3 : Slot) (s4 : Slot) (s5 : Slot) (s6 : Slot) (s7 : Slot) (s8 : Slot) (s9 : Slot) (s10 : Slot) (s11 : Slot) (s12 : Slot) (s13 : Slot) (s14 : Slot) (s15 : Slot) (s16 : Slot) (s17 : Slot) (w6 : Addr)
    (X0 : Stand p l e R s m args below meth c T0 locs cells slots) (hx : p.tables.exec = Jvm.exec) (hZ : Z.Warmed39 s.vm) (hw : ∀ d ∈ tables_1, d.before a0 Z = true) (hby : c.code = code) (hml : c.maxLocals = 18) (hown : s.vm.findClass "com/example/shardgate/shardgate/subscriptions/SubscriptionInPinLaw" = some m.cls) (e0 : T0.heap = h0) (S_OFFLINE : Sta Z h0 "com/example/shardgate/shardgate/subscriptions/Subscription$State" "OFFLINE" "Lcom/example/shardgate/shardgate/subscriptions/Subscription$State;" (.ref w6)) (hs12 : One s12) (hc94 : ¬ ((i1 &&& (1 : Int32)) = (0 : Int32))) :
    ∃ (T' : State), Stand p l e R s m args below meth c T' locs cells slots ∧ T'.heap = h0 ∧
      ∀ target, Steps p.tables e below (T'.setTop (mkF m 108 #[s0, .val (.int i1), s2, s3, s4, s5, s6, s7, s8, s9, s10, s11, .val (.ref w6), s13, s14, s15, s16, s17] [])) target → Steps p.tables e below (T0.setTop (mkF m 91 #[s0, .val (.int i1), s2, s3, s4, s5, s6, s7, s8, s9, s10, s11, s12, s13, s14, s15, s16, s17] [])) target := by
  -- 3. LAWS
  obtain ⟨T7, X7, e7, st7⟩ := getS2 X0 hx hZ hown (host := "") (Or.inl (hw _ (List.mem_of_getElem? (i := 30) rfl))) Via.refl e0 S_OFFLINE (g := (mkF m 97 #[s0, .val (.int i1), s2, s3, s4, s5, s6, s7, s8, s9, s10, s11, s12, s13, s14, s15, s16, s17] [])) rfl (hb hby at_97)
  refine ⟨T7, X7, e7, fun target kt => ?_⟩
  -- 4. STEPS
  show Steps p.tables e below (T0.setTop (mkF m 91 #[s0, .val (.int i1), s2, s3, s4, s5, s6, s7, s8, s9, s10, s11, s12, s13, s14, s15, s16, s17] [])) _
  refine XS.iloadN X0.here hx rfl (hb hby at_91) rfl ?_
  show Steps p.tables e below (T0.setTop (mkF m 92 #[s0, .val (.int i1), s2, s3, s4, s5, s6, s7, s8, s9, s10, s11, s12, s13, s14, s15, s16, s17] [(.int i1)])) _
  refine XS.iconst X0.here hx rfl (hb hby at_92) ?_
  show Steps p.tables e below (T0.setTop (mkF m 93 #[s0, .val (.int i1), s2, s3, s4, s5, s6, s7, s8, s9, s10, s11, s12, s13, s14, s15, s16, s17] [(.int (1 : Int32)), (.int i1)])) _
  refine XS.iand X0.here hx rfl (hb hby at_93) rfl ?_
  show Steps p.tables e below (T0.setTop (mkF m 94 #[s0, .val (.int i1), s2, s3, s4, s5, s6, s7, s8, s9, s10, s11, s12, s13, s14, s15, s16, s17] [(.int (i1 &&& (1 : Int32)))])) _
  refine XS.ifNo X0.here hx rfl (hb hby at_94) rfl ((if0 _ _).trans (feq hc94).1) ?_
  show Steps p.tables e below (T0.setTop (mkF m 97 #[s0, .val (.int i1), s2, s3, s4, s5, s6, s7, s8, s9, s10, s11, s12, s13, s14, s15, s16, s17] [])) _
  refine st7 _ ?_
  show Steps p.tables e below (T7.setTop (mkF m 100 #[s0, .val (.int i1), s2, s3, s4, s5, s6, s7, s8, s9, s10, s11, s12, s13, s14, s15, s16, s17] [(.ref w6)])) _
  refine XS.goto X7.here hx rfl (pc0 := 100) (pc' := 106) rfl (hb hby at_100) (by decide) (by decide) ?_
  show Steps p.tables e below (T7.setTop (mkF m 106 #[s0, .val (.int i1), s2, s3, s4, s5, s6, s7, s8, s9, s10, s11, s12, s13, s14, s15, s16, s17] [(.ref w6)])) _
  refine XS.astore X7.here hx rfl (hb hby at_106) rfl rfl (l' := #[s0, .val (.int i1), s2, s3, s4, s5, s6, s7, s8, s9, s10, s11, .val (.ref w6), s13, s14, s15, s16, s17]) (os0_106 hs12) ?_
  exact kt
theorem os0_123 {s0 : Slot} {z1 : Value} {s2 : Slot} {s3 : Slot} {s4 : Slot} {s5 : Slot} {s6 : Slot} {s7 : Slot} {s8 : Slot} {s9 : Slot} {s10 : Slot} {s11 : Slot} {s12 : Slot} {s13 : Slot} {s14 : Slot} {s15 : Slot} {s16 : Slot} {s17 : Slot} {v : Addr} (h : One s13) : storeLocals #[s0, .val z1, s2, s3, s4, s5, s6, s7, s8, s9, s10, s11, s12, s13, s14, s15, s16, s17] 13 (.ref v) = some #[s0, .val z1, s2, s3, s4, s5, s6, s7, s8, s9, s10, s11, s12, .val (.ref v), s14, s15, s16, s17] := by
  rcases h with rfl | ⟨w, rfl, hw⟩
  · rfl
  · cases w <;> first | rfl | (simp [Value.category] at hw)
set_option maxRecDepth 65536 in
set_option maxHeartbeats 40000000 in
theorem own_p3t {p : Program} {l : Launch} {e : Env} {R : Room} {s : State} {m : MethodId} {args : Array Value} {below : List Frame} {meth : Method} {c : Code} {T0 : State} {locs : List Loc} {cells slots : Nat} {Z : State} {a0 : Array Value} {h0 : Heap} (s0 : Slot) (i1 : Int32) (s2 : Slot) (s3 : Slot) (s4 : Slot) (s5 : Slot) (s6 : Slot) (s7 : Slot) (s8 : Slot) (s9 : Slot) (s10 : Slot) (s11 : Slot) (s12 : Slot) (s13 : Slot) (s14 : Slot) (s15 : Slot) (s16 : Slot) (s17 : Slot) (w6 : Addr)
    (X0 : Stand p l e R s m args below meth c T0 locs cells slots) (hx : p.tables.exec = Jvm.exec) (hZ : Z.Warmed39 s.vm) (hw : ∀ d ∈ tables_1, d.before a0 Z = true) (hby : c.code = code) (hml : c.maxLocals = 18) (hown : s.vm.findClass "com/example/shardgate/shardgate/subscriptions/SubscriptionInPinLaw" = some m.cls) (e0 : T0.heap = h0) (S_ONLINE : Sta Z h0 "com/example/shardgate/shardgate/subscriptions/Subscription$State" "ONLINE" "Lcom/example/shardgate/shardgate/subscriptions/Subscription$State;" (.ref w6)) (hs13 : One s13) (hc111 : (i1 &&& (2 : Int32)) = (0 : Int32)) :
    ∃ (T' : State), Stand p l e R s m args below meth c T' locs cells slots ∧ T'.heap = h0 ∧
      ∀ target, Steps p.tables e below (T'.setTop (mkF m 125 #[s0, .val (.int i1), s2, s3, s4, s5, s6, s7, s8, s9, s10, s11, s12, .val (.ref w6), s14, s15, s16, s17] [])) target → Steps p.tables e below (T0.setTop (mkF m 108 #[s0, .val (.int i1), s2, s3, s4, s5, s6, s7, s8, s9, s10, s11, s12, s13, s14, s15, s16, s17] [])) target := by
  -- 3. LAWS
  obtain ⟨T7, X7, e7, st7⟩ := getS2 X0 hx hZ hown (host := "") (Or.inl (hw _ (List.mem_of_getElem? (i := 92) rfl))) Via.refl e0 S_ONLINE (g := (mkF m 120 #[s0, .val (.int i1), s2, s3, s4, s5, s6, s7, s8, s9, s10, s11, s12, s13, s14, s15, s16, s17] [])) rfl (hb hby at_120)
  refine ⟨T7, X7, e7, fun target kt => ?_⟩
  -- 4. STEPS
  show Steps p.tables e below (T0.setTop (mkF m 108 #[s0, .val (.int i1), s2, s3, s4, s5, s6, s7, s8, s9, s10, s11, s12, s13, s14, s15, s16, s17] [])) _
  refine XS.iloadN X0.here hx rfl (hb hby at_108) rfl ?_
  show Steps p.tables e below (T0.setTop (mkF m 109 #[s0, .val (.int i1), s2, s3, s4, s5, s6, s7, s8, s9, s10, s11, s12, s13, s14, s15, s16, s17] [(.int i1)])) _
  refine XS.iconst X0.here hx rfl (hb hby at_109) ?_
  show Steps p.tables e below (T0.setTop (mkF m 110 #[s0, .val (.int i1), s2, s3, s4, s5, s6, s7, s8, s9, s10, s11, s12, s13, s14, s15, s16, s17] [(.int (2 : Int32)), (.int i1)])) _
  refine XS.iand X0.here hx rfl (hb hby at_110) rfl ?_
  show Steps p.tables e below (T0.setTop (mkF m 111 #[s0, .val (.int i1), s2, s3, s4, s5, s6, s7, s8, s9, s10, s11, s12, s13, s14, s15, s16, s17] [(.int (i1 &&& (2 : Int32)))])) _
  refine XS.ifYes X0.here hx rfl (pc0 := 111) (pc' := 120) rfl (hb hby at_111) rfl ((if0 _ _).trans (teq hc111).1) (by decide) (by decide) ?_
  show Steps p.tables e below (T0.setTop (mkF m 120 #[s0, .val (.int i1), s2, s3, s4, s5, s6, s7, s8, s9, s10, s11, s12, s13, s14, s15, s16, s17] [])) _
  refine st7 _ ?_
  show Steps p.tables e below (T7.setTop (mkF m 123 #[s0, .val (.int i1), s2, s3, s4, s5, s6, s7, s8, s9, s10, s11, s12, s13, s14, s15, s16, s17] [(.ref w6)])) _
  refine XS.astore X7.here hx rfl (hb hby at_123) rfl rfl (l' := #[s0, .val (.int i1), s2, s3, s4, s5, s6, s7, s8, s9, s10, s11, s12, .val (.ref w6), s14, s15, s16, s17]) (os0_123 hs13) ?_
  exact kt
set_option maxRecDepth 65536 in
set_option maxHeartbeats 40000000 in
theorem own_p3f {p : Program} {l : Launch} {e : Env} {R : Room} {s : State} {m : MethodId} {args : Array Value} {below : List Frame} {meth : Method} {c : Code} {T0 : State} {locs : List Loc} {cells slots : Nat} {Z : State} {a0 : Array Value} {h0 : Heap} (s0 : Slot) (i1 : Int32) (s2 : Slot) (s3 : Slot) (s4 : Slot) (s5 : Slot) (s6 : Slot) (s7 : Slot) (s8 : Slot) (s9 : Slot) (s10 : Slot) (s11 : Slot) (s12 : Slot) (s13 : Slot) (s14 : Slot) (s15 : Slot) (s16 : Slot) (s17 : Slot) (w6 : Addr)
    (X0 : Stand p l e R s m args below meth c T0 locs cells slots) (hx : p.tables.exec = Jvm.exec) (hZ : Z.Warmed39 s.vm) (hw : ∀ d ∈ tables_1, d.before a0 Z = true) (hby : c.code = code) (hml : c.maxLocals = 18) (hown : s.vm.findClass "com/example/shardgate/shardgate/subscriptions/SubscriptionInPinLaw" = some m.cls) (e0 : T0.heap = h0) (S_OFFLINE : Sta Z h0 "com/example/shardgate/shardgate/subscriptions/Subscription$State" "OFFLINE" "Lcom/example/shardgate/shardgate/subscriptions/Subscription$State;" (.ref w6)) (hs13 : One s13) (hc111 : ¬ ((i1 &&& (2 : Int32)) = (0 : Int32))) :
    ∃ (T' : State), Stand p l e R s m args below meth c T' locs cells slots ∧ T'.heap = h0 ∧
      ∀ target, Steps p.tables e below (T'.setTop (mkF m 125 #[s0, .val (.int i1), s2, s3, s4, s5, s6, s7, s8, s9, s10, s11, s12, .val (.ref w6), s14, s15, s16, s17] [])) target → Steps p.tables e below (T0.setTop (mkF m 108 #[s0, .val (.int i1), s2, s3, s4, s5, s6, s7, s8, s9, s10, s11, s12, s13, s14, s15, s16, s17] [])) target := by
  -- 3. LAWS
  obtain ⟨T7, X7, e7, st7⟩ := getS2 X0 hx hZ hown (host := "") (Or.inl (hw _ (List.mem_of_getElem? (i := 30) rfl))) Via.refl e0 S_OFFLINE (g := (mkF m 114 #[s0, .val (.int i1), s2, s3, s4, s5, s6, s7, s8, s9, s10, s11, s12, s13, s14, s15, s16, s17] [])) rfl (hb hby at_114)
  refine ⟨T7, X7, e7, fun target kt => ?_⟩
  -- 4. STEPS
  show Steps p.tables e below (T0.setTop (mkF m 108 #[s0, .val (.int i1), s2, s3, s4, s5, s6, s7, s8, s9, s10, s11, s12, s13, s14, s15, s16, s17] [])) _
  refine XS.iloadN X0.here hx rfl (hb hby at_108) rfl ?_
  show Steps p.tables e below (T0.setTop (mkF m 109 #[s0, .val (.int i1), s2, s3, s4, s5, s6, s7, s8, s9, s10, s11, s12, s13, s14, s15, s16, s17] [(.int i1)])) _
  refine XS.iconst X0.here hx rfl (hb hby at_109) ?_
  show Steps p.tables e below (T0.setTop (mkF m 110 #[s0, .val (.int i1), s2, s3, s4, s5, s6, s7, s8, s9, s10, s11, s12, s13, s14, s15, s16, s17] [(.int (2 : Int32)), (.int i1)])) _
  refine XS.iand X0.here hx rfl (hb hby at_110) rfl ?_
  show Steps p.tables e below (T0.setTop (mkF m 111 #[s0, .val (.int i1), s2, s3, s4, s5, s6, s7, s8, s9, s10, s11, s12, s13, s14, s15, s16, s17] [(.int (i1 &&& (2 : Int32)))])) _
  refine XS.ifNo X0.here hx rfl (hb hby at_111) rfl ((if0 _ _).trans (feq hc111).1) ?_
  show Steps p.tables e below (T0.setTop (mkF m 114 #[s0, .val (.int i1), s2, s3, s4, s5, s6, s7, s8, s9, s10, s11, s12, s13, s14, s15, s16, s17] [])) _
  refine st7 _ ?_
  show Steps p.tables e below (T7.setTop (mkF m 117 #[s0, .val (.int i1), s2, s3, s4, s5, s6, s7, s8, s9, s10, s11, s12, s13, s14, s15, s16, s17] [(.ref w6)])) _
  refine XS.goto X7.here hx rfl (pc0 := 117) (pc' := 123) rfl (hb hby at_117) (by decide) (by decide) ?_
  show Steps p.tables e below (T7.setTop (mkF m 123 #[s0, .val (.int i1), s2, s3, s4, s5, s6, s7, s8, s9, s10, s11, s12, s13, s14, s15, s16, s17] [(.ref w6)])) _
  refine XS.astore X7.here hx rfl (hb hby at_123) rfl rfl (l' := #[s0, .val (.int i1), s2, s3, s4, s5, s6, s7, s8, s9, s10, s11, s12, .val (.ref w6), s14, s15, s16, s17]) (os0_123 hs13) ?_
  exact kt
theorem pd_0_6 : parseMethodDescriptor "(Ljava/lang/String;Ljava/lang/String;Lcom/example/shardgate/shardgate/subscriptions/Subscription$State;JJ)V" = some ⟨[(.object "java/lang/String"), (.object "java/lang/String"), (.object "com/example/shardgate/shardgate/subscriptions/Subscription$State"), .long, .long], none⟩ := by decide +kernel
theorem pd_0_7 : parseMethodDescriptor "(Lcom/example/shardgate/shardgate/subscriptions/Subscription$State;J)Lcom/example/shardgate/shardgate/subscriptions/Subscription;" = some ⟨[(.object "com/example/shardgate/shardgate/subscriptions/Subscription$State"), .long], some (.object "com/example/shardgate/shardgate/subscriptions/Subscription")⟩ := by decide +kernel
theorem pd_0_8 : parseMethodDescriptor "()Ljava/lang/String;" = some ⟨[], some (.object "java/lang/String")⟩ := by decide +kernel
theorem pd_0_9 : parseMethodDescriptor "(Ljava/lang/Object;)Z" = some ⟨[(.object "java/lang/Object")], some .boolean⟩ := by decide +kernel
theorem pd_0_10 : parseMethodDescriptor "()Lcom/example/shardgate/shardgate/subscriptions/Subscription$State;" = some ⟨[], some (.object "com/example/shardgate/shardgate/subscriptions/Subscription$State")⟩ := by decide +kernel
theorem pd_0_11 : parseMethodDescriptor "()J" = some ⟨[], some .long⟩ := by decide +kernel
theorem os0_141 {s0 : Slot} {s1 : Slot} {z2 : Value} {z4 : Value} {z6 : Value} {s8 : Slot} {s9 : Slot} {z10 : Value} {z11 : Value} {z12 : Value} {z13 : Value} {s14 : Slot} {s15 : Slot} {s16 : Slot} {s17 : Slot} {v : Addr} (h : One s14) : storeLocals #[s0, s1, .val z2, .second, .val z4, .second, .val z6, .second, s8, s9, .val z10, .val z11, .val z12, .val z13, s14, s15, s16, s17] 14 (.ref v) = some #[s0, s1, .val z2, .second, .val z4, .second, .val z6, .second, s8, s9, .val z10, .val z11, .val z12, .val z13, .val (.ref v), s15, s16, s17] := by
  rcases h with rfl | ⟨w, rfl, hw⟩
  · rfl
  · cases w <;> first | rfl | (simp [Value.category] at hw)
theorem os0_152 {s0 : Slot} {s1 : Slot} {z2 : Value} {z4 : Value} {z6 : Value} {s8 : Slot} {s9 : Slot} {z10 : Value} {z11 : Value} {z12 : Value} {z13 : Value} {z14 : Value} {s15 : Slot} {s16 : Slot} {s17 : Slot} {v : Addr} (h : One s15) : storeLocals #[s0, s1, .val z2, .second, .val z4, .second, .val z6, .second, s8, s9, .val z10, .val z11, .val z12, .val z13, .val z14, s15, s16, s17] 15 (.ref v) = some #[s0, s1, .val z2, .second, .val z4, .second, .val z6, .second, s8, s9, .val z10, .val z11, .val z12, .val z13, .val z14, .val (.ref v), s16, s17] := by
  rcases h with rfl | ⟨w, rfl, hw⟩
  · rfl
  · cases w <;> first | rfl | (simp [Value.category] at hw)
theorem os0_166 {s0 : Slot} {s1 : Slot} {z2 : Value} {z4 : Value} {z6 : Value} {s8 : Slot} {s9 : Slot} {z10 : Value} {z11 : Value} {z12 : Value} {z13 : Value} {z14 : Value} {z15 : Value} {s16 : Slot} {s17 : Slot} {v : Addr} (h : One s16) : storeLocals #[s0, s1, .val z2, .second, .val z4, .second, .val z6, .second, s8, s9, .val z10, .val z11, .val z12, .val z13, .val z14, .val z15, s16, s17] 16 (.ref v) = some #[s0, s1, .val z2, .second, .val z4, .second, .val z6, .second, s8, s9, .val z10, .val z11, .val z12, .val z13, .val z14, .val z15, .val (.ref v), s17] := by
  rcases h with rfl | ⟨w, rfl, hw⟩
  · rfl
  · cases w <;> first | rfl | (simp [Value.category] at hw)
theorem os0_193 {s0 : Slot} {s1 : Slot} {z2 : Value} {z4 : Value} {z6 : Value} {s8 : Slot} {s9 : Slot} {z10 : Value} {z11 : Value} {z12 : Value} {z13 : Value} {z14 : Value} {z15 : Value} {z16 : Value} {s17 : Slot} {v : Int32} (h : One s17) : storeLocals #[s0, s1, .val z2, .second, .val z4, .second, .val z6, .second, s8, s9, .val z10, .val z11, .val z12, .val z13, .val z14, .val z15, .val z16, s17] 17 (.int v) = some #[s0, s1, .val z2, .second, .val z4, .second, .val z6, .second, s8, s9, .val z10, .val z11, .val z12, .val z13, .val z14, .val z15, .val z16, .val (.int v)] := by
  rcases h with rfl | ⟨w, rfl, hw⟩
  · rfl
  · cases w <;> first | rfl | (simp [Value.category] at hw)
set_option maxRecDepth 65536 in
set_option maxHeartbeats 40000000 in
theorem own_p4 {p : Program} {l : Launch} {e : Env} {s : State} {m : MethodId} {args : Array Value} {below : List Frame} {meth : Method} {c : Code} {T0 : State} {locs : List Loc} {Z : State} {a0 : Array Value} {h0 : Heap} {n0 : Nat} (s0 : Slot) (s1 : Slot) (j2 : Int64) (j4 : Int64) (j6 : Int64) (s8 : Slot) (s9 : Slot) (o10 : Addr) (o11 : Addr) (o12 : Addr) (o13 : Addr) (s14 : Slot) (s15 : Slot) (s16 : Slot) (s17 : Slot)
    (X0 : Stand p l e room_1 s m args below meth c T0 locs 6 16) (hx : p.tables.exec = Jvm.exec) (hZ : Z.Warmed39 s.vm) (hw : ∀ d ∈ tables_1, d.before a0 Z = true) (hby : c.code = code) (hml : c.maxLocals = 18) (hown : s.vm.findClass "com/example/shardgate/shardgate/subscriptions/SubscriptionInPinLaw" = some m.cls) (e0 : T0.heap = h0) (N0 : Fr n0 locs) (Z0 : n0 ≤ h0.size) (hs14 : One s14) (hs15 : One s15) (hs16 : One s16) (hs17 : One s17) (E_o11 : Exa Z h0 o11 "java/lang/String") (E_o10 : Exa Z h0 o10 "java/lang/String") (ht205 : ¬ ((1 : Int32) = (0 : Int32))) (ht210 : ¬ ((1 : Int32) = (0 : Int32))) (ha220 : o13 = o13) (ht230 : (lcmpW j2 j2) = (0 : Int32)) (ht241 : (lcmpW j6 j6) = (0 : Int32)) (ha251 : o12 = o12) (ht262 : (lcmpW j4 j4) = (0 : Int32)) :
    ∃ (T' : State) (h' : Heap) (locs' : List Loc) (x14 x15 : Addr), Stand p l e room_1 s m args below meth c T' locs' 8 26 ∧ T'.heap = h' ∧ Fr n0 locs' ∧ True ∧ ∀ target, Steps p.tables e below (T'.setTop (mkF m 265 #[s0, s1, .val (.long j2), .second, .val (.long j4), .second, .val (.long j6), .second, s8, s9, .val (.ref o10), .val (.ref o11), .val (.ref o12), .val (.ref o13), .val (.ref x14), .val (.ref x15), .val (.ref o11), .val (.int (1 : Int32))] [])) target → Steps p.tables e below (T0.setTop (mkF m 125 #[s0, s1, .val (.long j2), .second, .val (.long j4), .second, .val (.long j6), .second, s8, s9, .val (.ref o10), .val (.ref o11), .val (.ref o12), .val (.ref o13), s14, s15, s16, s17] [])) target := by
  -- 3. LAWS
  obtain ⟨T6, h6, X6, e6, E6, A6, D6, -, st6⟩ := newO X0 hx hZ hown (hw _ (List.mem_of_getElem? (i := 33) rfl)) (hw _ (List.mem_of_getElem? (i := 34) rfl)) (hw _ (List.mem_of_getElem? (i := 35) rfl)) e0 (g := (mkF m 125 #[s0, s1, .val (.long j2), .second, .val (.long j4), .second, .val (.long j6), .second, s8, s9, .val (.ref o10), .val (.ref o11), .val (.ref o12), .val (.ref o13), s14, s15, s16, s17] [])) rfl (hb hby at_125) (by decide) (by decide)
  obtain ⟨b6, g6⟩ : ∃ z, z = h0.size := ⟨_, rfl⟩      -- the fresh object's address
  rw [← g6] at A6 D6 st6      -- A6 : Exa Z h6 b6 "com/example/shardgate/shardgate/subscriptions/Subscription"; E6 : Ext h0 h6 (carries every older fact: .ext E6)
  have F_id_b6 : Fld Z h6 b6 "com/example/shardgate/shardgate/subscriptions/Subscription" "id" "Ljava/lang/String;" .null := D6 (Or.inr (hw _ (List.mem_of_getElem? (i := 46) rfl))) (ty := (.object "java/lang/String")) (by decide)
  have F_comment_b6 : Fld Z h6 b6 "com/example/shardgate/shardgate/subscriptions/Subscription" "comment" "Ljava/lang/String;" .null := D6 (Or.inr (hw _ (List.mem_of_getElem? (i := 48) rfl))) (ty := (.object "java/lang/String")) (by decide)
  have F_state_b6 : Fld Z h6 b6 "com/example/shardgate/shardgate/subscriptions/Subscription" "state" "Lcom/example/shardgate/shardgate/subscriptions/Subscription$State;" .null := D6 (Or.inr (hw _ (List.mem_of_getElem? (i := 50) rfl))) (ty := (.object "com/example/shardgate/shardgate/subscriptions/Subscription$State")) (by decide)
  have F_createTime_b6 : Fld Z h6 b6 "com/example/shardgate/shardgate/subscriptions/Subscription" "createTime" "J" (.long (0 : Int64)) := D6 (Or.inr (hw _ (List.mem_of_getElem? (i := 52) rfl))) (ty := .long) (by decide)
  have F_lastModifyTime_b6 : Fld Z h6 b6 "com/example/shardgate/shardgate/subscriptions/Subscription" "lastModifyTime" "J" (.long (0 : Int64)) := D6 (Or.inr (hw _ (List.mem_of_getElem? (i := 54) rfl))) (ty := .long) (by decide)
  have E_b6 := A6
  have g_b6 : n0 ≤ b6 := Nat.le_trans Z0 (Nat.le_of_eq g6.symm)
  have sz_b6 : h0.size ≤ b6 := (Nat.le_trans (Keep.refl h0 []).1 (Nat.le_of_eq g6.symm))
  have K6 : Keep h0 h6 [] := (Keep.refl h0 []).ext E6
  -- pc 138: the constructor of com/example/shardgate/shardgate/subscriptions/Subscription by its contract rm7
  obtain ⟨_, _, ⟨T7, L7, k7, n7⟩, -, X7, ⟨Lc7, hQ7, l7, y7, z7⟩, st7⟩ := X6.specialBack hx (y := (⟨"com/example/shardgate/shardgate/subscriptions/Subscription", "<init>", "(Ljava/lang/String;Ljava/lang/String;Lcom/example/shardgate/shardgate/subscriptions/Subscription$State;JJ)V"⟩ : MethodName)) rfl hown (mvT hZ (hw _ (List.mem_of_getElem? (i := 36) rfl))) (mvT hZ (hw _ (List.mem_of_getElem? (i := 37) rfl))) (mvT hZ (hw _ (List.mem_of_getElem? (i := 38) rfl))) (by decide) (backOf (W := 1) (rm7 l Z a0 hw [] b6 o10 o11 o12 j2 j4 .null .null .null (.long 0) (.long 0) h6 n0 (Nat.le_trans Z0 K6.1) E_b6 F_id_b6 g_b6 F_comment_b6 F_state_b6 F_createTime_b6 F_lastModifyTime_b6) hZ (hw _ (List.mem_of_getElem? (i := 38) rfl)) (hw _ (List.mem_of_getElem? (i := 35) rfl)) (by decide) (by decide)) (g := (mkF m 138 #[s0, s1, .val (.long j2), .second, .val (.long j4), .second, .val (.long j6), .second, s8, s9, .val (.ref o10), .val (.ref o11), .val (.ref o12), .val (.ref o13), s14, s15, s16, s17] [(.long j4), (.long j2), (.ref o12), (.ref o11), (.ref o10), (.ref b6), (.ref b6)])) rfl (by rw [hml]; rfl) (Steps.refl _) (a := b6) (argsL := [(.ref o10), (.ref o11), (.ref o12), (.long j2), (.long j4)]) (rest := [(.ref b6)]) (lenOf pd_0_6 rfl) rfl (by show 2 * 0 + _ ≤ _; exact Nat.le_of_eq rfl) (hb hby at_138) (fun _ _ => ⟨rfl, e6, (by decide : 6 + 1 + 0 ≤ _), (by decide : 16 + 5 + 0 ≤ _)⟩)
  dsimp only [Pt.U, Pt.locs, Pt.cells, Pt.slots] at X7 l7 y7 z7 st7 hQ7
  subst l7 y7 z7
  obtain ⟨rfl, N7q, K7q, E7q, Ai, Ac, As, At, Al⟩ := hQ7
  have N7 := Fr.app N0 N7q
  have KH7 : Keep h0 T7.heap [] := K6.trans K7q (own_ws1 sz_b6)
  -- pc 149: com/example/shardgate/shardgate/subscriptions/Subscription.in by the contract of the body that the receiver's class selects, rm9
  obtain ⟨cq8, kq8, q8a, q8b, q8c⟩ := isOf hZ rfl (E_b6.keep K7q)
  obtain ⟨_, _, ⟨T8, L8, k8, n8⟩, -, X8, ⟨Lc8, hQ8, l8, y8, z8⟩, st8⟩ := X7.virtualBack hx (y := (⟨"com/example/shardgate/shardgate/subscriptions/Subscription", "in", "(Lcom/example/shardgate/shardgate/subscriptions/Subscription$State;J)Lcom/example/shardgate/shardgate/subscriptions/Subscription;"⟩ : MethodName)) (z := (⟨"com/example/shardgate/shardgate/subscriptions/Subscription", "in", "(Lcom/example/shardgate/shardgate/subscriptions/Subscription$State;J)Lcom/example/shardgate/shardgate/subscriptions/Subscription;"⟩ : MethodName)) hown (mvT hZ (hw _ (List.mem_of_getElem? (i := 55) rfl))) (mvT hZ (hw _ (List.mem_of_getElem? (i := 56) rfl))) (notFace_of_selects (args := #[]) (mvT hZ (hw _ (List.mem_of_getElem? (i := 58) rfl)))) (mvT hZ (hw _ (List.mem_of_getElem? (i := 58) rfl))) (mvT hZ (hw _ (List.mem_of_getElem? (i := 57) rfl))) (by decide) (backOf (W := 0) (rm9 l Z a0 hw [] b6 o13 j6 o10 o11 j2 T7.heap n0 (Nat.le_trans Z0 KH7.1) Ai Ac At) hZ (hw _ (List.mem_of_getElem? (i := 59) rfl)) (hw _ (List.mem_of_getElem? (i := 35) rfl)) (by decide) (by decide)) q8a q8c (g := (mkF m 149 #[s0, s1, .val (.long j2), .second, .val (.long j4), .second, .val (.long j6), .second, s8, s9, .val (.ref o10), .val (.ref o11), .val (.ref o12), .val (.ref o13), .val (.ref b6), s15, s16, s17] [(.long j6), (.ref o13), (.ref b6)])) rfl (by rw [hml]; rfl) (Steps.refl _) (argsL := [(.ref o13), (.long j6)]) (rest := []) (lenOf pd_0_7 rfl) rfl (by show 2 * 0 + _ ≤ _; exact Nat.le_of_eq rfl) (hb hby at_149) (fun _ _ => ⟨rfl, rfl, (by decide : 6 + 1 + 1 ≤ _), (by decide : 16 + 5 + 5 ≤ _)⟩)
  dsimp only [Pt.U, Pt.locs, Pt.cells, Pt.slots] at X8 l8 y8 z8 st8 hQ8
  subst l8 y8 z8
  obtain ⟨rfl, N8q, K8q, Er, Bi, Bc, Bs, Bt, Bl⟩ := hQ8
  have N8 := Fr.app N7 N8q
  have KH8 : Keep h0 T8.heap [] := KH7.trans K8q own_ws0
  obtain ⟨br, gr⟩ : ∃ z, z = T7.heap.size := ⟨_, rfl⟩
  rw [← gr] at st8 Er Bi Bc Bs Bt Bl
  have Ai := Ai.keep K8q (by simp)
  have Ac := Ac.keep K8q (by simp)
  have As := As.keep K8q (by simp)
  have At := At.keep K8q (by simp)
  have Al := Al.keep K8q (by simp)
  -- pc 163: com/example/shardgate/shardgate/subscriptions/Subscription.comment by the contract of the body that the receiver's class selects, rm10
  -- ✋ yours, out of the call's Q: E_br : Exa Z h0 br "com/example/shardgate/shardgate/subscriptions/Subscription"
  obtain ⟨cq9, kq9, q9a, q9b, q9c⟩ := isOf hZ rfl ((Er))
  obtain ⟨_, _, ⟨T9, L9, k9, n9⟩, -, X9, ⟨Lc9, hQ9, l9, y9, z9⟩, st9⟩ := X8.virtualBack hx (y := (⟨"com/example/shardgate/shardgate/subscriptions/Subscription", "comment", "()Ljava/lang/String;"⟩ : MethodName)) (z := (⟨"com/example/shardgate/shardgate/subscriptions/Subscription", "comment", "()Ljava/lang/String;"⟩ : MethodName)) hown (mvT hZ (hw _ (List.mem_of_getElem? (i := 62) rfl))) (mvT hZ (hw _ (List.mem_of_getElem? (i := 63) rfl))) (notFace_of_selects (args := #[]) (mvT hZ (hw _ (List.mem_of_getElem? (i := 65) rfl)))) (mvT hZ (hw _ (List.mem_of_getElem? (i := 65) rfl))) (mvT hZ (hw _ (List.mem_of_getElem? (i := 64) rfl))) (by decide) (backOf (W := 0) (rm10 l Z a0 hw [] br o11 T8.heap n0 (Nat.le_trans Z0 KH8.1) Bc) hZ (hw _ (List.mem_of_getElem? (i := 66) rfl)) (hw _ (List.mem_of_getElem? (i := 35) rfl)) (by decide) (by decide)) q9a q9c (g := (mkF m 163 #[s0, s1, .val (.long j2), .second, .val (.long j4), .second, .val (.long j6), .second, s8, s9, .val (.ref o10), .val (.ref o11), .val (.ref o12), .val (.ref o13), .val (.ref b6), .val (.ref br), s16, s17] [(.ref br)])) rfl (by rw [hml]; rfl) (Steps.refl _) (argsL := []) (rest := []) (lenOf pd_0_8 rfl) rfl (by show 2 * 0 + _ ≤ _; exact Nat.le_of_eq rfl) (hb hby at_163) (fun _ _ => ⟨rfl, rfl, (by decide : 6 + 2 + 0 ≤ _), (by decide : 16 + 10 + 0 ≤ _)⟩)
  dsimp only [Pt.U, Pt.locs, Pt.cells, Pt.slots] at X9 l9 y9 z9 st9 hQ9
  subst l9 y9 z9
  obtain ⟨rfl, N9q, e9q⟩ := hQ9
  have N9 := Fr.app N8 N9q
  have K9q : Keep T8.heap T9.heap [] := own_keep e9q
  have KH9 : Keep h0 T9.heap [] := KH8.trans K9q own_ws0
  have Ai := Ai.keep K9q (by simp)
  have Ac := Ac.keep K9q (by simp)
  have As := As.keep K9q (by simp)
  have At := At.keep K9q (by simp)
  have Al := Al.keep K9q (by simp)
  have Bi := Bi.keep K9q (by simp)
  have Bc := Bc.keep K9q (by simp)
  have Bs := Bs.keep K9q (by simp)
  have Bt := Bt.keep K9q (by simp)
  have Bl := Bl.keep K9q (by simp)
  -- pc 190: java/lang/String.equals by the contract of the body that the receiver's class selects, rm11
  obtain ⟨cq10, kq10, q10a, q10b, q10c⟩ := isOf hZ rfl ((((E_o11.ext E6).keep K7q).keep K8q).keep K9q)
  -- JDK: don't walk it: StrChars.Road.eqW (pack/laws/STRINGS.README.md): its own row in place of the next one (the 'backOf (W ..)' becomes what that law's P asks)
  obtain ⟨_, _, ⟨T10, L10, k10, n10⟩, -, X10, ⟨Lc10, hQ10, l10, y10, z10⟩, st10⟩ := X9.virtualBack hx (y := (⟨"java/lang/String", "equals", "(Ljava/lang/Object;)Z"⟩ : MethodName)) (z := (⟨"java/lang/String", "equals", "(Ljava/lang/Object;)Z"⟩ : MethodName)) hown (mvT hZ (hw _ (List.mem_of_getElem? (i := 67) rfl))) (mvT hZ (hw _ (List.mem_of_getElem? (i := 68) rfl))) (notFace_of_selects (args := #[]) (mvT hZ (hw _ (List.mem_of_getElem? (i := 70) rfl)))) (mvT hZ (hw _ (List.mem_of_getElem? (i := 70) rfl))) (mvT hZ (hw _ (List.mem_of_getElem? (i := 69) rfl))) (by decide) (backOf (W := 0) (rm11 l Z a0 hw [] o11 o11 T9.heap n0 (Nat.le_trans Z0 KH9.1) rfl) hZ (hw _ (List.mem_of_getElem? (i := 71) rfl)) (hw _ (List.mem_of_getElem? (i := 3) rfl)) (by decide) (by decide)) q10a q10c (g := (mkF m 190 #[s0, s1, .val (.long j2), .second, .val (.long j4), .second, .val (.long j6), .second, s8, s9, .val (.ref o10), .val (.ref o11), .val (.ref o12), .val (.ref o13), .val (.ref b6), .val (.ref br), .val (.ref o11), s17] [(.ref o11), (.ref o11)])) rfl (by rw [hml]; rfl) (Steps.refl _) (argsL := [(.ref o11)]) (rest := []) (lenOf pd_0_9 rfl) rfl (by show 2 * 0 + _ ≤ _; exact Nat.le_of_eq rfl) (hb hby at_190) (fun _ _ => ⟨rfl, rfl, (by decide : 6 + 2 + 0 ≤ _), (by decide : 16 + 10 + 0 ≤ _)⟩)
  dsimp only [Pt.U, Pt.locs, Pt.cells, Pt.slots] at X10 l10 y10 z10 st10 hQ10
  subst l10 y10 z10
  obtain ⟨rfl, N10q, e10q⟩ := hQ10
  have N10 := Fr.app N9 N10q
  have K10q : Keep T9.heap T10.heap [] := own_keep e10q
  have KH10 : Keep h0 T10.heap [] := KH9.trans K10q own_ws0
  have Ai := Ai.keep K10q (by simp)
  have Ac := Ac.keep K10q (by simp)
  have As := As.keep K10q (by simp)
  have At := At.keep K10q (by simp)
  have Al := Al.keep K10q (by simp)
  have Bi := Bi.keep K10q (by simp)
  have Bc := Bc.keep K10q (by simp)
  have Bs := Bs.keep K10q (by simp)
  have Bt := Bt.keep K10q (by simp)
  have Bl := Bl.keep K10q (by simp)
  -- pc 199: com/example/shardgate/shardgate/subscriptions/Subscription.id by the contract of the body that the receiver's class selects, rm12
  obtain ⟨cq11, kq11, q11a, q11b, q11c⟩ := isOf hZ rfl ((((Er)).keep K9q).keep K10q)
  obtain ⟨_, _, ⟨T11, L11, k11, n11⟩, -, X11, ⟨Lc11, hQ11, l11, y11, z11⟩, st11⟩ := X10.virtualBack hx (y := (⟨"com/example/shardgate/shardgate/subscriptions/Subscription", "id", "()Ljava/lang/String;"⟩ : MethodName)) (z := (⟨"com/example/shardgate/shardgate/subscriptions/Subscription", "id", "()Ljava/lang/String;"⟩ : MethodName)) hown (mvT hZ (hw _ (List.mem_of_getElem? (i := 72) rfl))) (mvT hZ (hw _ (List.mem_of_getElem? (i := 73) rfl))) (notFace_of_selects (args := #[]) (mvT hZ (hw _ (List.mem_of_getElem? (i := 75) rfl)))) (mvT hZ (hw _ (List.mem_of_getElem? (i := 75) rfl))) (mvT hZ (hw _ (List.mem_of_getElem? (i := 74) rfl))) (by decide) (backOf (W := 1) (rm12 l Z a0 hw [] br o10 T10.heap n0 (Nat.le_trans Z0 KH10.1) Bi) hZ (hw _ (List.mem_of_getElem? (i := 76) rfl)) (hw _ (List.mem_of_getElem? (i := 35) rfl)) (by decide) (by decide)) q11a q11c (g := (mkF m 199 #[s0, s1, .val (.long j2), .second, .val (.long j4), .second, .val (.long j6), .second, s8, s9, .val (.ref o10), .val (.ref o11), .val (.ref o12), .val (.ref o13), .val (.ref b6), .val (.ref br), .val (.ref o11), .val (.int (1 : Int32))] [(.ref br), (.ref o10)])) rfl (by rw [hml]; rfl) (Steps.refl _) (argsL := []) (rest := [(.ref o10)]) (lenOf pd_0_8 rfl) rfl (by show 2 * 0 + _ ≤ _; exact Nat.le_of_eq rfl) (hb hby at_199) (fun _ _ => ⟨rfl, rfl, (by decide : 6 + 2 + 0 ≤ _), (by decide : 16 + 10 + 0 ≤ _)⟩)
  dsimp only [Pt.U, Pt.locs, Pt.cells, Pt.slots] at X11 l11 y11 z11 st11 hQ11
  subst l11 y11 z11
  obtain ⟨rfl, N11q, e11q⟩ := hQ11
  have N11 := Fr.app N10 N11q
  have K11q : Keep T10.heap T11.heap [] := own_keep e11q
  have KH11 : Keep h0 T11.heap [] := KH10.trans K11q own_ws0
  have Ai := Ai.keep K11q (by simp)
  have Ac := Ac.keep K11q (by simp)
  have As := As.keep K11q (by simp)
  have At := At.keep K11q (by simp)
  have Al := Al.keep K11q (by simp)
  have Bi := Bi.keep K11q (by simp)
  have Bc := Bc.keep K11q (by simp)
  have Bs := Bs.keep K11q (by simp)
  have Bt := Bt.keep K11q (by simp)
  have Bl := Bl.keep K11q (by simp)
  -- pc 202: java/lang/String.equals by the contract of the body that the receiver's class selects, rm11
  obtain ⟨cq12, kq12, q12a, q12b, q12c⟩ := isOf hZ rfl ((((((E_o10.ext E6).keep K7q).keep K8q).keep K9q).keep K10q).keep K11q)
  -- JDK: don't walk it: StrChars.Road.eqW (pack/laws/STRINGS.README.md): its own row in place of the next one (the 'backOf (W ..)' becomes what that law's P asks)
  obtain ⟨_, _, ⟨T12, L12, k12, n12⟩, -, X12, ⟨Lc12, hQ12, l12, y12, z12⟩, st12⟩ := X11.virtualBack hx (y := (⟨"java/lang/String", "equals", "(Ljava/lang/Object;)Z"⟩ : MethodName)) (z := (⟨"java/lang/String", "equals", "(Ljava/lang/Object;)Z"⟩ : MethodName)) hown (mvT hZ (hw _ (List.mem_of_getElem? (i := 67) rfl))) (mvT hZ (hw _ (List.mem_of_getElem? (i := 68) rfl))) (notFace_of_selects (args := #[]) (mvT hZ (hw _ (List.mem_of_getElem? (i := 70) rfl)))) (mvT hZ (hw _ (List.mem_of_getElem? (i := 70) rfl))) (mvT hZ (hw _ (List.mem_of_getElem? (i := 69) rfl))) (by decide) (backOf (W := 0) (rm11 l Z a0 hw [] o10 o10 T11.heap n0 (Nat.le_trans Z0 KH11.1) rfl) hZ (hw _ (List.mem_of_getElem? (i := 71) rfl)) (hw _ (List.mem_of_getElem? (i := 3) rfl)) (by decide) (by decide)) q12a q12c (g := (mkF m 202 #[s0, s1, .val (.long j2), .second, .val (.long j4), .second, .val (.long j6), .second, s8, s9, .val (.ref o10), .val (.ref o11), .val (.ref o12), .val (.ref o13), .val (.ref b6), .val (.ref br), .val (.ref o11), .val (.int (1 : Int32))] [(.ref o10), (.ref o10)])) rfl (by rw [hml]; rfl) (Steps.refl _) (argsL := [(.ref o10)]) (rest := []) (lenOf pd_0_9 rfl) rfl (by show 2 * 0 + _ ≤ _; exact Nat.le_of_eq rfl) (hb hby at_202) (fun _ _ => ⟨rfl, rfl, (by decide : 6 + 2 + 0 ≤ _), (by decide : 16 + 10 + 0 ≤ _)⟩)
  dsimp only [Pt.U, Pt.locs, Pt.cells, Pt.slots] at X12 l12 y12 z12 st12 hQ12
  subst l12 y12 z12
  obtain ⟨rfl, N12q, e12q⟩ := hQ12
  have N12 := Fr.app N11 N12q
  have K12q : Keep T11.heap T12.heap [] := own_keep e12q
  have KH12 : Keep h0 T12.heap [] := KH11.trans K12q own_ws0
  have Ai := Ai.keep K12q (by simp)
  have Ac := Ac.keep K12q (by simp)
  have As := As.keep K12q (by simp)
  have At := At.keep K12q (by simp)
  have Al := Al.keep K12q (by simp)
  have Bi := Bi.keep K12q (by simp)
  have Bc := Bc.keep K12q (by simp)
  have Bs := Bs.keep K12q (by simp)
  have Bt := Bt.keep K12q (by simp)
  have Bl := Bl.keep K12q (by simp)
  -- pc 215: com/example/shardgate/shardgate/subscriptions/Subscription.state by the contract of the body that the receiver's class selects, rm13
  obtain ⟨cq13, kq13, q13a, q13b, q13c⟩ := isOf hZ rfl ((((((Er)).keep K9q).keep K10q).keep K11q).keep K12q)
  obtain ⟨_, _, ⟨T13, L13, k13, n13⟩, -, X13, ⟨Lc13, hQ13, l13, y13, z13⟩, st13⟩ := X12.virtualBack hx (y := (⟨"com/example/shardgate/shardgate/subscriptions/Subscription", "state", "()Lcom/example/shardgate/shardgate/subscriptions/Subscription$State;"⟩ : MethodName)) (z := (⟨"com/example/shardgate/shardgate/subscriptions/Subscription", "state", "()Lcom/example/shardgate/shardgate/subscriptions/Subscription$State;"⟩ : MethodName)) hown (mvT hZ (hw _ (List.mem_of_getElem? (i := 77) rfl))) (mvT hZ (hw _ (List.mem_of_getElem? (i := 78) rfl))) (notFace_of_selects (args := #[]) (mvT hZ (hw _ (List.mem_of_getElem? (i := 80) rfl)))) (mvT hZ (hw _ (List.mem_of_getElem? (i := 80) rfl))) (mvT hZ (hw _ (List.mem_of_getElem? (i := 79) rfl))) (by decide) (backOf (W := 0) (rm13 l Z a0 hw [] br o13 T12.heap n0 (Nat.le_trans Z0 KH12.1) Bs) hZ (hw _ (List.mem_of_getElem? (i := 81) rfl)) (hw _ (List.mem_of_getElem? (i := 35) rfl)) (by decide) (by decide)) q13a q13c (g := (mkF m 215 #[s0, s1, .val (.long j2), .second, .val (.long j4), .second, .val (.long j6), .second, s8, s9, .val (.ref o10), .val (.ref o11), .val (.ref o12), .val (.ref o13), .val (.ref b6), .val (.ref br), .val (.ref o11), .val (.int (1 : Int32))] [(.ref br)])) rfl (by rw [hml]; rfl) (Steps.refl _) (argsL := []) (rest := []) (lenOf pd_0_10 rfl) rfl (by show 2 * 0 + _ ≤ _; exact Nat.le_of_eq rfl) (hb hby at_215) (fun _ _ => ⟨rfl, rfl, (by decide : 6 + 2 + 0 ≤ _), (by decide : 16 + 10 + 0 ≤ _)⟩)
  dsimp only [Pt.U, Pt.locs, Pt.cells, Pt.slots] at X13 l13 y13 z13 st13 hQ13
  subst l13 y13 z13
  obtain ⟨rfl, N13q, e13q⟩ := hQ13
  have N13 := Fr.app N12 N13q
  have K13q : Keep T12.heap T13.heap [] := own_keep e13q
  have KH13 : Keep h0 T13.heap [] := KH12.trans K13q own_ws0
  have Ai := Ai.keep K13q (by simp)
  have Ac := Ac.keep K13q (by simp)
  have As := As.keep K13q (by simp)
  have At := At.keep K13q (by simp)
  have Al := Al.keep K13q (by simp)
  have Bi := Bi.keep K13q (by simp)
  have Bc := Bc.keep K13q (by simp)
  have Bs := Bs.keep K13q (by simp)
  have Bt := Bt.keep K13q (by simp)
  have Bl := Bl.keep K13q (by simp)
  -- pc 225: com/example/shardgate/shardgate/subscriptions/Subscription.createTime by the contract of the body that the receiver's class selects, rm14
  obtain ⟨cq14, kq14, q14a, q14b, q14c⟩ := isOf hZ rfl (((((((Er)).keep K9q).keep K10q).keep K11q).keep K12q).keep K13q)
  obtain ⟨_, _, ⟨T14, L14, k14, n14⟩, -, X14, ⟨Lc14, hQ14, l14, y14, z14⟩, st14⟩ := X13.virtualBack hx (y := (⟨"com/example/shardgate/shardgate/subscriptions/Subscription", "createTime", "()J"⟩ : MethodName)) (z := (⟨"com/example/shardgate/shardgate/subscriptions/Subscription", "createTime", "()J"⟩ : MethodName)) hown (mvT hZ (hw _ (List.mem_of_getElem? (i := 82) rfl))) (mvT hZ (hw _ (List.mem_of_getElem? (i := 83) rfl))) (notFace_of_selects (args := #[]) (mvT hZ (hw _ (List.mem_of_getElem? (i := 85) rfl)))) (mvT hZ (hw _ (List.mem_of_getElem? (i := 85) rfl))) (mvT hZ (hw _ (List.mem_of_getElem? (i := 84) rfl))) (by decide) (backOf (W := 0) (rm14 l Z a0 hw [] br j2 T13.heap n0 (Nat.le_trans Z0 KH13.1) Bt) hZ (hw _ (List.mem_of_getElem? (i := 86) rfl)) (hw _ (List.mem_of_getElem? (i := 35) rfl)) (by decide) (by decide)) q14a q14c (g := (mkF m 225 #[s0, s1, .val (.long j2), .second, .val (.long j4), .second, .val (.long j6), .second, s8, s9, .val (.ref o10), .val (.ref o11), .val (.ref o12), .val (.ref o13), .val (.ref b6), .val (.ref br), .val (.ref o11), .val (.int (1 : Int32))] [(.ref br)])) rfl (by rw [hml]; rfl) (Steps.refl _) (argsL := []) (rest := []) (lenOf pd_0_11 rfl) rfl (by show 2 * 0 + _ ≤ _; exact Nat.le_of_eq rfl) (hb hby at_225) (fun _ _ => ⟨rfl, rfl, (by decide : 6 + 2 + 0 ≤ _), (by decide : 16 + 10 + 0 ≤ _)⟩)
  dsimp only [Pt.U, Pt.locs, Pt.cells, Pt.slots] at X14 l14 y14 z14 st14 hQ14
  subst l14 y14 z14
  obtain ⟨rfl, N14q, e14q⟩ := hQ14
  have N14 := Fr.app N13 N14q
  have K14q : Keep T13.heap T14.heap [] := own_keep e14q
  have KH14 : Keep h0 T14.heap [] := KH13.trans K14q own_ws0
  have Ai := Ai.keep K14q (by simp)
  have Ac := Ac.keep K14q (by simp)
  have As := As.keep K14q (by simp)
  have At := At.keep K14q (by simp)
  have Al := Al.keep K14q (by simp)
  have Bi := Bi.keep K14q (by simp)
  have Bc := Bc.keep K14q (by simp)
  have Bs := Bs.keep K14q (by simp)
  have Bt := Bt.keep K14q (by simp)
  have Bl := Bl.keep K14q (by simp)
  -- pc 235: com/example/shardgate/shardgate/subscriptions/Subscription.lastModifyTime by the contract of the body that the receiver's class selects, rm15
  obtain ⟨cq15, kq15, q15a, q15b, q15c⟩ := isOf hZ rfl ((((((((Er)).keep K9q).keep K10q).keep K11q).keep K12q).keep K13q).keep K14q)
  obtain ⟨_, _, ⟨T15, L15, k15, n15⟩, -, X15, ⟨Lc15, hQ15, l15, y15, z15⟩, st15⟩ := X14.virtualBack hx (y := (⟨"com/example/shardgate/shardgate/subscriptions/Subscription", "lastModifyTime", "()J"⟩ : MethodName)) (z := (⟨"com/example/shardgate/shardgate/subscriptions/Subscription", "lastModifyTime", "()J"⟩ : MethodName)) hown (mvT hZ (hw _ (List.mem_of_getElem? (i := 87) rfl))) (mvT hZ (hw _ (List.mem_of_getElem? (i := 88) rfl))) (notFace_of_selects (args := #[]) (mvT hZ (hw _ (List.mem_of_getElem? (i := 90) rfl)))) (mvT hZ (hw _ (List.mem_of_getElem? (i := 90) rfl))) (mvT hZ (hw _ (List.mem_of_getElem? (i := 89) rfl))) (by decide) (backOf (W := 0) (rm15 l Z a0 hw [] br j6 T14.heap n0 (Nat.le_trans Z0 KH14.1) Bl) hZ (hw _ (List.mem_of_getElem? (i := 91) rfl)) (hw _ (List.mem_of_getElem? (i := 35) rfl)) (by decide) (by decide)) q15a q15c (g := (mkF m 235 #[s0, s1, .val (.long j2), .second, .val (.long j4), .second, .val (.long j6), .second, s8, s9, .val (.ref o10), .val (.ref o11), .val (.ref o12), .val (.ref o13), .val (.ref b6), .val (.ref br), .val (.ref o11), .val (.int (1 : Int32))] [(.ref br)])) rfl (by rw [hml]; rfl) (Steps.refl _) (argsL := []) (rest := []) (lenOf pd_0_11 rfl) rfl (by show 2 * 0 + _ ≤ _; exact Nat.le_of_eq rfl) (hb hby at_235) (fun _ _ => ⟨rfl, rfl, (by decide : 6 + 2 + 0 ≤ _), (by decide : 16 + 10 + 0 ≤ _)⟩)
  dsimp only [Pt.U, Pt.locs, Pt.cells, Pt.slots] at X15 l15 y15 z15 st15 hQ15
  subst l15 y15 z15
  obtain ⟨rfl, N15q, e15q⟩ := hQ15
  have N15 := Fr.app N14 N15q
  have K15q : Keep T14.heap T15.heap [] := own_keep e15q
  have KH15 : Keep h0 T15.heap [] := KH14.trans K15q own_ws0
  have Ai := Ai.keep K15q (by simp)
  have Ac := Ac.keep K15q (by simp)
  have As := As.keep K15q (by simp)
  have At := At.keep K15q (by simp)
  have Al := Al.keep K15q (by simp)
  have Bi := Bi.keep K15q (by simp)
  have Bc := Bc.keep K15q (by simp)
  have Bs := Bs.keep K15q (by simp)
  have Bt := Bt.keep K15q (by simp)
  have Bl := Bl.keep K15q (by simp)
  -- pc 246: com/example/shardgate/shardgate/subscriptions/Subscription.state by the contract of the body that the receiver's class selects, rm13
  obtain ⟨cq16, kq16, q16a, q16b, q16c⟩ := isOf hZ rfl (((((((((E_b6.keep K7q).keep K8q).keep K9q).keep K10q).keep K11q).keep K12q).keep K13q).keep K14q).keep K15q)
  obtain ⟨_, _, ⟨T16, L16, k16, n16⟩, -, X16, ⟨Lc16, hQ16, l16, y16, z16⟩, st16⟩ := X15.virtualBack hx (y := (⟨"com/example/shardgate/shardgate/subscriptions/Subscription", "state", "()Lcom/example/shardgate/shardgate/subscriptions/Subscription$State;"⟩ : MethodName)) (z := (⟨"com/example/shardgate/shardgate/subscriptions/Subscription", "state", "()Lcom/example/shardgate/shardgate/subscriptions/Subscription$State;"⟩ : MethodName)) hown (mvT hZ (hw _ (List.mem_of_getElem? (i := 77) rfl))) (mvT hZ (hw _ (List.mem_of_getElem? (i := 78) rfl))) (notFace_of_selects (args := #[]) (mvT hZ (hw _ (List.mem_of_getElem? (i := 80) rfl)))) (mvT hZ (hw _ (List.mem_of_getElem? (i := 80) rfl))) (mvT hZ (hw _ (List.mem_of_getElem? (i := 79) rfl))) (by decide) (backOf (W := 0) (rm13 l Z a0 hw [] b6 o12 T15.heap n0 (Nat.le_trans Z0 KH15.1) As) hZ (hw _ (List.mem_of_getElem? (i := 81) rfl)) (hw _ (List.mem_of_getElem? (i := 35) rfl)) (by decide) (by decide)) q16a q16c (g := (mkF m 246 #[s0, s1, .val (.long j2), .second, .val (.long j4), .second, .val (.long j6), .second, s8, s9, .val (.ref o10), .val (.ref o11), .val (.ref o12), .val (.ref o13), .val (.ref b6), .val (.ref br), .val (.ref o11), .val (.int (1 : Int32))] [(.ref b6)])) rfl (by rw [hml]; rfl) (Steps.refl _) (argsL := []) (rest := []) (lenOf pd_0_10 rfl) rfl (by show 2 * 0 + _ ≤ _; exact Nat.le_of_eq rfl) (hb hby at_246) (fun _ _ => ⟨rfl, rfl, (by decide : 6 + 2 + 0 ≤ _), (by decide : 16 + 10 + 0 ≤ _)⟩)
  dsimp only [Pt.U, Pt.locs, Pt.cells, Pt.slots] at X16 l16 y16 z16 st16 hQ16
  subst l16 y16 z16
  obtain ⟨rfl, N16q, e16q⟩ := hQ16
  have N16 := Fr.app N15 N16q
  have K16q : Keep T15.heap T16.heap [] := own_keep e16q
  have KH16 : Keep h0 T16.heap [] := KH15.trans K16q own_ws0
  have Ai := Ai.keep K16q (by simp)
  have Ac := Ac.keep K16q (by simp)
  have As := As.keep K16q (by simp)
  have At := At.keep K16q (by simp)
  have Al := Al.keep K16q (by simp)
  have Bi := Bi.keep K16q (by simp)
  have Bc := Bc.keep K16q (by simp)
  have Bs := Bs.keep K16q (by simp)
  have Bt := Bt.keep K16q (by simp)
  have Bl := Bl.keep K16q (by simp)
  -- pc 256: com/example/shardgate/shardgate/subscriptions/Subscription.lastModifyTime by the contract of the body that the receiver's class selects, rm15
  obtain ⟨cq17, kq17, q17a, q17b, q17c⟩ := isOf hZ rfl ((((((((((E_b6.keep K7q).keep K8q).keep K9q).keep K10q).keep K11q).keep K12q).keep K13q).keep K14q).keep K15q).keep K16q)
  obtain ⟨_, _, ⟨T17, L17, k17, n17⟩, -, X17, ⟨Lc17, hQ17, l17, y17, z17⟩, st17⟩ := X16.virtualBack hx (y := (⟨"com/example/shardgate/shardgate/subscriptions/Subscription", "lastModifyTime", "()J"⟩ : MethodName)) (z := (⟨"com/example/shardgate/shardgate/subscriptions/Subscription", "lastModifyTime", "()J"⟩ : MethodName)) hown (mvT hZ (hw _ (List.mem_of_getElem? (i := 87) rfl))) (mvT hZ (hw _ (List.mem_of_getElem? (i := 88) rfl))) (notFace_of_selects (args := #[]) (mvT hZ (hw _ (List.mem_of_getElem? (i := 90) rfl)))) (mvT hZ (hw _ (List.mem_of_getElem? (i := 90) rfl))) (mvT hZ (hw _ (List.mem_of_getElem? (i := 89) rfl))) (by decide) (backOf (W := 0) (rm15 l Z a0 hw [] b6 j4 T16.heap n0 (Nat.le_trans Z0 KH16.1) Al) hZ (hw _ (List.mem_of_getElem? (i := 91) rfl)) (hw _ (List.mem_of_getElem? (i := 35) rfl)) (by decide) (by decide)) q17a q17c (g := (mkF m 256 #[s0, s1, .val (.long j2), .second, .val (.long j4), .second, .val (.long j6), .second, s8, s9, .val (.ref o10), .val (.ref o11), .val (.ref o12), .val (.ref o13), .val (.ref b6), .val (.ref br), .val (.ref o11), .val (.int (1 : Int32))] [(.ref b6)])) rfl (by rw [hml]; rfl) (Steps.refl _) (argsL := []) (rest := []) (lenOf pd_0_11 rfl) rfl (by show 2 * 0 + _ ≤ _; exact Nat.le_of_eq rfl) (hb hby at_256) (fun _ _ => ⟨rfl, rfl, (by decide : 6 + 2 + 0 ≤ _), (by decide : 16 + 10 + 0 ≤ _)⟩)
  dsimp only [Pt.U, Pt.locs, Pt.cells, Pt.slots] at X17 l17 y17 z17 st17 hQ17
  subst l17 y17 z17
  obtain ⟨rfl, N17q, e17q⟩ := hQ17
  have N17 := Fr.app N16 N17q
  have K17q : Keep T16.heap T17.heap [] := own_keep e17q
  have KH17 : Keep h0 T17.heap [] := KH16.trans K17q own_ws0
  have Ai := Ai.keep K17q (by simp)
  have Ac := Ac.keep K17q (by simp)
  have As := As.keep K17q (by simp)
  have At := At.keep K17q (by simp)
  have Al := Al.keep K17q (by simp)
  have Bi := Bi.keep K17q (by simp)
  have Bc := Bc.keep K17q (by simp)
  have Bs := Bs.keep K17q (by simp)
  have Bt := Bt.keep K17q (by simp)
  have Bl := Bl.keep K17q (by simp)
  refine ⟨T17, _, _, b6, br, X17, rfl, N17, trivial, fun target kt => ?_⟩
  -- 4. STEPS
  show Steps p.tables e below (T0.setTop (mkF m 125 #[s0, s1, .val (.long j2), .second, .val (.long j4), .second, .val (.long j6), .second, s8, s9, .val (.ref o10), .val (.ref o11), .val (.ref o12), .val (.ref o13), s14, s15, s16, s17] [])) _
  refine st6 _ ?_
  show Steps p.tables e below (T6.setTop (mkF m 128 #[s0, s1, .val (.long j2), .second, .val (.long j4), .second, .val (.long j6), .second, s8, s9, .val (.ref o10), .val (.ref o11), .val (.ref o12), .val (.ref o13), s14, s15, s16, s17] [(.ref b6)])) _
  refine XS.dup X6.here hx rfl (hb hby at_128) rfl rfl ?_
  show Steps p.tables e below (T6.setTop (mkF m 129 #[s0, s1, .val (.long j2), .second, .val (.long j4), .second, .val (.long j6), .second, s8, s9, .val (.ref o10), .val (.ref o11), .val (.ref o12), .val (.ref o13), s14, s15, s16, s17] [(.ref b6), (.ref b6)])) _
  refine XS.aload X6.here hx rfl (hb hby at_129) rfl rfl ?_
  show Steps p.tables e below (T6.setTop (mkF m 131 #[s0, s1, .val (.long j2), .second, .val (.long j4), .second, .val (.long j6), .second, s8, s9, .val (.ref o10), .val (.ref o11), .val (.ref o12), .val (.ref o13), s14, s15, s16, s17] [(.ref o10), (.ref b6), (.ref b6)])) _
  refine XS.aload X6.here hx rfl (hb hby at_131) rfl rfl ?_
  show Steps p.tables e below (T6.setTop (mkF m 133 #[s0, s1, .val (.long j2), .second, .val (.long j4), .second, .val (.long j6), .second, s8, s9, .val (.ref o10), .val (.ref o11), .val (.ref o12), .val (.ref o13), s14, s15, s16, s17] [(.ref o11), (.ref o10), (.ref b6), (.ref b6)])) _
  refine XS.aload X6.here hx rfl (hb hby at_133) rfl rfl ?_
  show Steps p.tables e below (T6.setTop (mkF m 135 #[s0, s1, .val (.long j2), .second, .val (.long j4), .second, .val (.long j6), .second, s8, s9, .val (.ref o10), .val (.ref o11), .val (.ref o12), .val (.ref o13), s14, s15, s16, s17] [(.ref o12), (.ref o11), (.ref o10), (.ref b6), (.ref b6)])) _
  refine XS.lloadN X6.here hx rfl (hb hby at_135) rfl ?_
  show Steps p.tables e below (T6.setTop (mkF m 136 #[s0, s1, .val (.long j2), .second, .val (.long j4), .second, .val (.long j6), .second, s8, s9, .val (.ref o10), .val (.ref o11), .val (.ref o12), .val (.ref o13), s14, s15, s16, s17] [(.long j2), (.ref o12), (.ref o11), (.ref o10), (.ref b6), (.ref b6)])) _
  refine XS.lload X6.here hx rfl (hb hby at_136) rfl ?_
  show Steps p.tables e below (T6.setTop (mkF m 138 #[s0, s1, .val (.long j2), .second, .val (.long j4), .second, .val (.long j6), .second, s8, s9, .val (.ref o10), .val (.ref o11), .val (.ref o12), .val (.ref o13), s14, s15, s16, s17] [(.long j4), (.long j2), (.ref o12), (.ref o11), (.ref o10), (.ref b6), (.ref b6)])) _
  refine st7.trans ?_
  show Steps p.tables e below (T7.setTop (mkF m 141 #[s0, s1, .val (.long j2), .second, .val (.long j4), .second, .val (.long j6), .second, s8, s9, .val (.ref o10), .val (.ref o11), .val (.ref o12), .val (.ref o13), s14, s15, s16, s17] [(.ref b6)])) _
  refine XS.astore X7.here hx rfl (hb hby at_141) rfl rfl (l' := #[s0, s1, .val (.long j2), .second, .val (.long j4), .second, .val (.long j6), .second, s8, s9, .val (.ref o10), .val (.ref o11), .val (.ref o12), .val (.ref o13), .val (.ref b6), s15, s16, s17]) (os0_141 hs14) ?_
  show Steps p.tables e below (T7.setTop (mkF m 143 #[s0, s1, .val (.long j2), .second, .val (.long j4), .second, .val (.long j6), .second, s8, s9, .val (.ref o10), .val (.ref o11), .val (.ref o12), .val (.ref o13), .val (.ref b6), s15, s16, s17] [])) _
  refine XS.aload X7.here hx rfl (hb hby at_143) rfl rfl ?_
  show Steps p.tables e below (T7.setTop (mkF m 145 #[s0, s1, .val (.long j2), .second, .val (.long j4), .second, .val (.long j6), .second, s8, s9, .val (.ref o10), .val (.ref o11), .val (.ref o12), .val (.ref o13), .val (.ref b6), s15, s16, s17] [(.ref b6)])) _
  refine XS.aload X7.here hx rfl (hb hby at_145) rfl rfl ?_
  show Steps p.tables e below (T7.setTop (mkF m 147 #[s0, s1, .val (.long j2), .second, .val (.long j4), .second, .val (.long j6), .second, s8, s9, .val (.ref o10), .val (.ref o11), .val (.ref o12), .val (.ref o13), .val (.ref b6), s15, s16, s17] [(.ref o13), (.ref b6)])) _
  refine XS.lload X7.here hx rfl (hb hby at_147) rfl ?_
  show Steps p.tables e below (T7.setTop (mkF m 149 #[s0, s1, .val (.long j2), .second, .val (.long j4), .second, .val (.long j6), .second, s8, s9, .val (.ref o10), .val (.ref o11), .val (.ref o12), .val (.ref o13), .val (.ref b6), s15, s16, s17] [(.long j6), (.ref o13), (.ref b6)])) _
  refine st8.trans ?_
  show Steps p.tables e below (T8.setTop (mkF m 152 #[s0, s1, .val (.long j2), .second, .val (.long j4), .second, .val (.long j6), .second, s8, s9, .val (.ref o10), .val (.ref o11), .val (.ref o12), .val (.ref o13), .val (.ref b6), s15, s16, s17] [(.ref br)])) _
  refine XS.astore X8.here hx rfl (hb hby at_152) rfl rfl (l' := #[s0, s1, .val (.long j2), .second, .val (.long j4), .second, .val (.long j6), .second, s8, s9, .val (.ref o10), .val (.ref o11), .val (.ref o12), .val (.ref o13), .val (.ref b6), .val (.ref br), s16, s17]) (os0_152 hs15) ?_
  show Steps p.tables e below (T8.setTop (mkF m 154 #[s0, s1, .val (.long j2), .second, .val (.long j4), .second, .val (.long j6), .second, s8, s9, .val (.ref o10), .val (.ref o11), .val (.ref o12), .val (.ref o13), .val (.ref b6), .val (.ref br), s16, s17] [])) _
  refine XS.aload X8.here hx rfl (hb hby at_154) rfl rfl ?_
  show Steps p.tables e below (T8.setTop (mkF m 156 #[s0, s1, .val (.long j2), .second, .val (.long j4), .second, .val (.long j6), .second, s8, s9, .val (.ref o10), .val (.ref o11), .val (.ref o12), .val (.ref o13), .val (.ref b6), .val (.ref br), s16, s17] [(.ref br)])) _
  refine XS.ifnonnullYes X8.here hx rfl (pc0 := 156) (pc' := 161) rfl (hb hby at_156) rfl (by decide) (by decide) ?_
  show Steps p.tables e below (T8.setTop (mkF m 161 #[s0, s1, .val (.long j2), .second, .val (.long j4), .second, .val (.long j6), .second, s8, s9, .val (.ref o10), .val (.ref o11), .val (.ref o12), .val (.ref o13), .val (.ref b6), .val (.ref br), s16, s17] [])) _
  refine XS.aload X8.here hx rfl (hb hby at_161) rfl rfl ?_
  show Steps p.tables e below (T8.setTop (mkF m 163 #[s0, s1, .val (.long j2), .second, .val (.long j4), .second, .val (.long j6), .second, s8, s9, .val (.ref o10), .val (.ref o11), .val (.ref o12), .val (.ref o13), .val (.ref b6), .val (.ref br), s16, s17] [(.ref br)])) _
  refine st9.trans ?_
  show Steps p.tables e below (T9.setTop (mkF m 166 #[s0, s1, .val (.long j2), .second, .val (.long j4), .second, .val (.long j6), .second, s8, s9, .val (.ref o10), .val (.ref o11), .val (.ref o12), .val (.ref o13), .val (.ref b6), .val (.ref br), s16, s17] [(.ref o11)])) _
  refine XS.astore X9.here hx rfl (hb hby at_166) rfl rfl (l' := #[s0, s1, .val (.long j2), .second, .val (.long j4), .second, .val (.long j6), .second, s8, s9, .val (.ref o10), .val (.ref o11), .val (.ref o12), .val (.ref o13), .val (.ref b6), .val (.ref br), .val (.ref o11), s17]) (os0_166 hs16) ?_
  show Steps p.tables e below (T9.setTop (mkF m 168 #[s0, s1, .val (.long j2), .second, .val (.long j4), .second, .val (.long j6), .second, s8, s9, .val (.ref o10), .val (.ref o11), .val (.ref o12), .val (.ref o13), .val (.ref b6), .val (.ref br), .val (.ref o11), s17] [])) _
  refine XS.aload X9.here hx rfl (hb hby at_168) rfl rfl ?_
  show Steps p.tables e below (T9.setTop (mkF m 170 #[s0, s1, .val (.long j2), .second, .val (.long j4), .second, .val (.long j6), .second, s8, s9, .val (.ref o10), .val (.ref o11), .val (.ref o12), .val (.ref o13), .val (.ref b6), .val (.ref br), .val (.ref o11), s17] [(.ref o11)])) _
  refine XS.ifnonnullYes X9.here hx rfl (pc0 := 170) (pc' := 186) rfl (hb hby at_170) rfl (by decide) (by decide) ?_
  show Steps p.tables e below (T9.setTop (mkF m 186 #[s0, s1, .val (.long j2), .second, .val (.long j4), .second, .val (.long j6), .second, s8, s9, .val (.ref o10), .val (.ref o11), .val (.ref o12), .val (.ref o13), .val (.ref b6), .val (.ref br), .val (.ref o11), s17] [])) _
  refine XS.aload X9.here hx rfl (hb hby at_186) rfl rfl ?_
  show Steps p.tables e below (T9.setTop (mkF m 188 #[s0, s1, .val (.long j2), .second, .val (.long j4), .second, .val (.long j6), .second, s8, s9, .val (.ref o10), .val (.ref o11), .val (.ref o12), .val (.ref o13), .val (.ref b6), .val (.ref br), .val (.ref o11), s17] [(.ref o11)])) _
  refine XS.aload X9.here hx rfl (hb hby at_188) rfl rfl ?_
  show Steps p.tables e below (T9.setTop (mkF m 190 #[s0, s1, .val (.long j2), .second, .val (.long j4), .second, .val (.long j6), .second, s8, s9, .val (.ref o10), .val (.ref o11), .val (.ref o12), .val (.ref o13), .val (.ref b6), .val (.ref br), .val (.ref o11), s17] [(.ref o11), (.ref o11)])) _
  refine st10.trans ?_
  show Steps p.tables e below (T10.setTop (mkF m 193 #[s0, s1, .val (.long j2), .second, .val (.long j4), .second, .val (.long j6), .second, s8, s9, .val (.ref o10), .val (.ref o11), .val (.ref o12), .val (.ref o13), .val (.ref b6), .val (.ref br), .val (.ref o11), s17] [(.int (1 : Int32))])) _
  refine XS.istore X10.here hx rfl (hb hby at_193) rfl (l' := #[s0, s1, .val (.long j2), .second, .val (.long j4), .second, .val (.long j6), .second, s8, s9, .val (.ref o10), .val (.ref o11), .val (.ref o12), .val (.ref o13), .val (.ref b6), .val (.ref br), .val (.ref o11), .val (.int (1 : Int32))]) (os0_193 hs17) ?_
  show Steps p.tables e below (T10.setTop (mkF m 195 #[s0, s1, .val (.long j2), .second, .val (.long j4), .second, .val (.long j6), .second, s8, s9, .val (.ref o10), .val (.ref o11), .val (.ref o12), .val (.ref o13), .val (.ref b6), .val (.ref br), .val (.ref o11), .val (.int (1 : Int32))] [])) _
  refine XS.aload X10.here hx rfl (hb hby at_195) rfl rfl ?_
  show Steps p.tables e below (T10.setTop (mkF m 197 #[s0, s1, .val (.long j2), .second, .val (.long j4), .second, .val (.long j6), .second, s8, s9, .val (.ref o10), .val (.ref o11), .val (.ref o12), .val (.ref o13), .val (.ref b6), .val (.ref br), .val (.ref o11), .val (.int (1 : Int32))] [(.ref o10)])) _
  refine XS.aload X10.here hx rfl (hb hby at_197) rfl rfl ?_
  show Steps p.tables e below (T10.setTop (mkF m 199 #[s0, s1, .val (.long j2), .second, .val (.long j4), .second, .val (.long j6), .second, s8, s9, .val (.ref o10), .val (.ref o11), .val (.ref o12), .val (.ref o13), .val (.ref b6), .val (.ref br), .val (.ref o11), .val (.int (1 : Int32))] [(.ref br), (.ref o10)])) _
  refine st11.trans ?_
  show Steps p.tables e below (T11.setTop (mkF m 202 #[s0, s1, .val (.long j2), .second, .val (.long j4), .second, .val (.long j6), .second, s8, s9, .val (.ref o10), .val (.ref o11), .val (.ref o12), .val (.ref o13), .val (.ref b6), .val (.ref br), .val (.ref o11), .val (.int (1 : Int32))] [(.ref o10), (.ref o10)])) _
  refine st12.trans ?_
  show Steps p.tables e below (T12.setTop (mkF m 205 #[s0, s1, .val (.long j2), .second, .val (.long j4), .second, .val (.long j6), .second, s8, s9, .val (.ref o10), .val (.ref o11), .val (.ref o12), .val (.ref o13), .val (.ref b6), .val (.ref br), .val (.ref o11), .val (.int (1 : Int32))] [(.int (1 : Int32))])) _
  refine XS.ifNo X12.here hx rfl (hb hby at_205) rfl ((if0 _ _).trans (feq ht205).1) ?_
  show Steps p.tables e below (T12.setTop (mkF m 208 #[s0, s1, .val (.long j2), .second, .val (.long j4), .second, .val (.long j6), .second, s8, s9, .val (.ref o10), .val (.ref o11), .val (.ref o12), .val (.ref o13), .val (.ref b6), .val (.ref br), .val (.ref o11), .val (.int (1 : Int32))] [])) _
  refine XS.iload X12.here hx rfl (hb hby at_208) rfl ?_
  show Steps p.tables e below (T12.setTop (mkF m 210 #[s0, s1, .val (.long j2), .second, .val (.long j4), .second, .val (.long j6), .second, s8, s9, .val (.ref o10), .val (.ref o11), .val (.ref o12), .val (.ref o13), .val (.ref b6), .val (.ref br), .val (.ref o11), .val (.int (1 : Int32))] [(.int (1 : Int32))])) _
  refine XS.ifNo X12.here hx rfl (hb hby at_210) rfl ((if0 _ _).trans (feq ht210).1) ?_
  show Steps p.tables e below (T12.setTop (mkF m 213 #[s0, s1, .val (.long j2), .second, .val (.long j4), .second, .val (.long j6), .second, s8, s9, .val (.ref o10), .val (.ref o11), .val (.ref o12), .val (.ref o13), .val (.ref b6), .val (.ref br), .val (.ref o11), .val (.int (1 : Int32))] [])) _
  refine XS.aload X12.here hx rfl (hb hby at_213) rfl rfl ?_
  show Steps p.tables e below (T12.setTop (mkF m 215 #[s0, s1, .val (.long j2), .second, .val (.long j4), .second, .val (.long j6), .second, s8, s9, .val (.ref o10), .val (.ref o11), .val (.ref o12), .val (.ref o13), .val (.ref b6), .val (.ref br), .val (.ref o11), .val (.int (1 : Int32))] [(.ref br)])) _
  refine st13.trans ?_
  show Steps p.tables e below (T13.setTop (mkF m 218 #[s0, s1, .val (.long j2), .second, .val (.long j4), .second, .val (.long j6), .second, s8, s9, .val (.ref o10), .val (.ref o11), .val (.ref o12), .val (.ref o13), .val (.ref b6), .val (.ref br), .val (.ref o11), .val (.int (1 : Int32))] [(.ref o13)])) _
  refine XS.aload X13.here hx rfl (hb hby at_218) rfl rfl ?_
  show Steps p.tables e below (T13.setTop (mkF m 220 #[s0, s1, .val (.long j2), .second, .val (.long j4), .second, .val (.long j6), .second, s8, s9, .val (.ref o10), .val (.ref o11), .val (.ref o12), .val (.ref o13), .val (.ref b6), .val (.ref br), .val (.ref o11), .val (.int (1 : Int32))] [(.ref o13), (.ref o13)])) _
  refine Jvm.RoadKit.acmp (g := (mkF m 220 #[s0, s1, .val (.long j2), .second, .val (.long j4), .second, .val (.long j6), .second, s8, s9, .val (.ref o10), .val (.ref o11), .val (.ref o12), .val (.ref o13), .val (.ref b6), .val (.ref br), .val (.ref o11), .val (.int (1 : Int32))] [(.ref o13), (.ref o13)])) X13 hx rfl rfl rfl (pc0 := 220) (pc' := 223) (same := true) rfl (hb hby at_220) rfl (decide_eq_true (congrArg Value.ref ha220)) (by decide) (by decide) ?_
  show Steps p.tables e below (T13.setTop (mkF m 223 #[s0, s1, .val (.long j2), .second, .val (.long j4), .second, .val (.long j6), .second, s8, s9, .val (.ref o10), .val (.ref o11), .val (.ref o12), .val (.ref o13), .val (.ref b6), .val (.ref br), .val (.ref o11), .val (.int (1 : Int32))] [])) _
  refine XS.aload X13.here hx rfl (hb hby at_223) rfl rfl ?_
  show Steps p.tables e below (T13.setTop (mkF m 225 #[s0, s1, .val (.long j2), .second, .val (.long j4), .second, .val (.long j6), .second, s8, s9, .val (.ref o10), .val (.ref o11), .val (.ref o12), .val (.ref o13), .val (.ref b6), .val (.ref br), .val (.ref o11), .val (.int (1 : Int32))] [(.ref br)])) _
  refine st14.trans ?_
  show Steps p.tables e below (T14.setTop (mkF m 228 #[s0, s1, .val (.long j2), .second, .val (.long j4), .second, .val (.long j6), .second, s8, s9, .val (.ref o10), .val (.ref o11), .val (.ref o12), .val (.ref o13), .val (.ref b6), .val (.ref br), .val (.ref o11), .val (.int (1 : Int32))] [(.long j2)])) _
  refine XS.lloadN X14.here hx rfl (hb hby at_228) rfl ?_
  show Steps p.tables e below (T14.setTop (mkF m 229 #[s0, s1, .val (.long j2), .second, .val (.long j4), .second, .val (.long j6), .second, s8, s9, .val (.ref o10), .val (.ref o11), .val (.ref o12), .val (.ref o13), .val (.ref b6), .val (.ref br), .val (.ref o11), .val (.int (1 : Int32))] [(.long j2), (.long j2)])) _
  refine XS.lcmp X14.here hx rfl (hb hby at_229) rfl ?_
  show Steps p.tables e below (T14.setTop (mkF m 230 #[s0, s1, .val (.long j2), .second, .val (.long j4), .second, .val (.long j6), .second, s8, s9, .val (.ref o10), .val (.ref o11), .val (.ref o12), .val (.ref o13), .val (.ref b6), .val (.ref br), .val (.ref o11), .val (.int (1 : Int32))] [(.int (lcmpW j2 j2))])) _
  refine XS.ifNo X14.here hx rfl (hb hby at_230) rfl ((if0 _ _).trans (teq ht230).2) ?_
  show Steps p.tables e below (T14.setTop (mkF m 233 #[s0, s1, .val (.long j2), .second, .val (.long j4), .second, .val (.long j6), .second, s8, s9, .val (.ref o10), .val (.ref o11), .val (.ref o12), .val (.ref o13), .val (.ref b6), .val (.ref br), .val (.ref o11), .val (.int (1 : Int32))] [])) _
  refine XS.aload X14.here hx rfl (hb hby at_233) rfl rfl ?_
  show Steps p.tables e below (T14.setTop (mkF m 235 #[s0, s1, .val (.long j2), .second, .val (.long j4), .second, .val (.long j6), .second, s8, s9, .val (.ref o10), .val (.ref o11), .val (.ref o12), .val (.ref o13), .val (.ref b6), .val (.ref br), .val (.ref o11), .val (.int (1 : Int32))] [(.ref br)])) _
  refine st15.trans ?_
  show Steps p.tables e below (T15.setTop (mkF m 238 #[s0, s1, .val (.long j2), .second, .val (.long j4), .second, .val (.long j6), .second, s8, s9, .val (.ref o10), .val (.ref o11), .val (.ref o12), .val (.ref o13), .val (.ref b6), .val (.ref br), .val (.ref o11), .val (.int (1 : Int32))] [(.long j6)])) _
  refine XS.lload X15.here hx rfl (hb hby at_238) rfl ?_
  show Steps p.tables e below (T15.setTop (mkF m 240 #[s0, s1, .val (.long j2), .second, .val (.long j4), .second, .val (.long j6), .second, s8, s9, .val (.ref o10), .val (.ref o11), .val (.ref o12), .val (.ref o13), .val (.ref b6), .val (.ref br), .val (.ref o11), .val (.int (1 : Int32))] [(.long j6), (.long j6)])) _
  refine XS.lcmp X15.here hx rfl (hb hby at_240) rfl ?_
  show Steps p.tables e below (T15.setTop (mkF m 241 #[s0, s1, .val (.long j2), .second, .val (.long j4), .second, .val (.long j6), .second, s8, s9, .val (.ref o10), .val (.ref o11), .val (.ref o12), .val (.ref o13), .val (.ref b6), .val (.ref br), .val (.ref o11), .val (.int (1 : Int32))] [(.int (lcmpW j6 j6))])) _
  refine XS.ifNo X15.here hx rfl (hb hby at_241) rfl ((if0 _ _).trans (teq ht241).2) ?_
  show Steps p.tables e below (T15.setTop (mkF m 244 #[s0, s1, .val (.long j2), .second, .val (.long j4), .second, .val (.long j6), .second, s8, s9, .val (.ref o10), .val (.ref o11), .val (.ref o12), .val (.ref o13), .val (.ref b6), .val (.ref br), .val (.ref o11), .val (.int (1 : Int32))] [])) _
  refine XS.aload X15.here hx rfl (hb hby at_244) rfl rfl ?_
  show Steps p.tables e below (T15.setTop (mkF m 246 #[s0, s1, .val (.long j2), .second, .val (.long j4), .second, .val (.long j6), .second, s8, s9, .val (.ref o10), .val (.ref o11), .val (.ref o12), .val (.ref o13), .val (.ref b6), .val (.ref br), .val (.ref o11), .val (.int (1 : Int32))] [(.ref b6)])) _
  refine st16.trans ?_
  show Steps p.tables e below (T16.setTop (mkF m 249 #[s0, s1, .val (.long j2), .second, .val (.long j4), .second, .val (.long j6), .second, s8, s9, .val (.ref o10), .val (.ref o11), .val (.ref o12), .val (.ref o13), .val (.ref b6), .val (.ref br), .val (.ref o11), .val (.int (1 : Int32))] [(.ref o12)])) _
  refine XS.aload X16.here hx rfl (hb hby at_249) rfl rfl ?_
  show Steps p.tables e below (T16.setTop (mkF m 251 #[s0, s1, .val (.long j2), .second, .val (.long j4), .second, .val (.long j6), .second, s8, s9, .val (.ref o10), .val (.ref o11), .val (.ref o12), .val (.ref o13), .val (.ref b6), .val (.ref br), .val (.ref o11), .val (.int (1 : Int32))] [(.ref o12), (.ref o12)])) _
  refine Jvm.RoadKit.acmp (g := (mkF m 251 #[s0, s1, .val (.long j2), .second, .val (.long j4), .second, .val (.long j6), .second, s8, s9, .val (.ref o10), .val (.ref o11), .val (.ref o12), .val (.ref o13), .val (.ref b6), .val (.ref br), .val (.ref o11), .val (.int (1 : Int32))] [(.ref o12), (.ref o12)])) X16 hx rfl rfl rfl (pc0 := 251) (pc' := 254) (same := true) rfl (hb hby at_251) rfl (decide_eq_true (congrArg Value.ref ha251)) (by decide) (by decide) ?_
  show Steps p.tables e below (T16.setTop (mkF m 254 #[s0, s1, .val (.long j2), .second, .val (.long j4), .second, .val (.long j6), .second, s8, s9, .val (.ref o10), .val (.ref o11), .val (.ref o12), .val (.ref o13), .val (.ref b6), .val (.ref br), .val (.ref o11), .val (.int (1 : Int32))] [])) _
  refine XS.aload X16.here hx rfl (hb hby at_254) rfl rfl ?_
  show Steps p.tables e below (T16.setTop (mkF m 256 #[s0, s1, .val (.long j2), .second, .val (.long j4), .second, .val (.long j6), .second, s8, s9, .val (.ref o10), .val (.ref o11), .val (.ref o12), .val (.ref o13), .val (.ref b6), .val (.ref br), .val (.ref o11), .val (.int (1 : Int32))] [(.ref b6)])) _
  refine st17.trans ?_
  show Steps p.tables e below (T17.setTop (mkF m 259 #[s0, s1, .val (.long j2), .second, .val (.long j4), .second, .val (.long j6), .second, s8, s9, .val (.ref o10), .val (.ref o11), .val (.ref o12), .val (.ref o13), .val (.ref b6), .val (.ref br), .val (.ref o11), .val (.int (1 : Int32))] [(.long j4)])) _
  refine XS.lload X17.here hx rfl (hb hby at_259) rfl ?_
  show Steps p.tables e below (T17.setTop (mkF m 261 #[s0, s1, .val (.long j2), .second, .val (.long j4), .second, .val (.long j6), .second, s8, s9, .val (.ref o10), .val (.ref o11), .val (.ref o12), .val (.ref o13), .val (.ref b6), .val (.ref br), .val (.ref o11), .val (.int (1 : Int32))] [(.long j4), (.long j4)])) _
  refine XS.lcmp X17.here hx rfl (hb hby at_261) rfl ?_
  show Steps p.tables e below (T17.setTop (mkF m 262 #[s0, s1, .val (.long j2), .second, .val (.long j4), .second, .val (.long j6), .second, s8, s9, .val (.ref o10), .val (.ref o11), .val (.ref o12), .val (.ref o13), .val (.ref b6), .val (.ref br), .val (.ref o11), .val (.int (1 : Int32))] [(.int (lcmpW j4 j4))])) _
  refine XS.ifNo X17.here hx rfl (hb hby at_262) rfl ((if0 _ _).trans (teq ht262).2) ?_
  exact kt
theorem os0_166_own_p4n {s0 : Slot} {s1 : Slot} {z2 : Value} {z4 : Value} {z6 : Value} {s8 : Slot} {s9 : Slot} {z10 : Value} {z11 : Value} {z12 : Value} {z13 : Value} {z14 : Value} {z15 : Value} {s16 : Slot} {s17 : Slot} (h : One s16) : storeLocals #[s0, s1, .val z2, .second, .val z4, .second, .val z6, .second, s8, s9, .val z10, .val z11, .val z12, .val z13, .val z14, .val z15, s16, s17] 16 .null = some #[s0, s1, .val z2, .second, .val z4, .second, .val z6, .second, s8, s9, .val z10, .val z11, .val z12, .val z13, .val z14, .val z15, .val .null, s17] := by
  rcases h with rfl | ⟨w, rfl, hw⟩
  · rfl
  · cases w <;> first | rfl | (simp [Value.category] at hw)
set_option maxRecDepth 65536 in
set_option maxHeartbeats 40000000 in
theorem own_p4n {p : Program} {l : Launch} {e : Env} {s : State} {m : MethodId} {args : Array Value} {below : List Frame} {meth : Method} {c : Code} {T0 : State} {locs : List Loc} {Z : State} {a0 : Array Value} {h0 : Heap} {n0 : Nat} (s0 : Slot) (s1 : Slot) (j2 : Int64) (j4 : Int64) (j6 : Int64) (s8 : Slot) (s9 : Slot) (o10 : Addr) (o12 : Addr) (o13 : Addr) (s14 : Slot) (s15 : Slot) (s16 : Slot) (s17 : Slot)
    (X0 : Stand p l e room_1 s m args below meth c T0 locs 4 10) (hx : p.tables.exec = Jvm.exec) (hZ : Z.Warmed39 s.vm) (hw : ∀ d ∈ tables_1, d.before a0 Z = true) (hby : c.code = code) (hml : c.maxLocals = 18) (hown : s.vm.findClass "com/example/shardgate/shardgate/subscriptions/SubscriptionInPinLaw" = some m.cls) (e0 : T0.heap = h0) (N0 : Fr n0 locs) (Z0 : n0 ≤ h0.size) (hs14 : One s14) (hs15 : One s15) (hs16 : One s16) (hs17 : One s17) (E_o10 : Exa Z h0 o10 "java/lang/String") (ht205 : ¬ ((1 : Int32) = (0 : Int32))) (hc210 : ¬ ((1 : Int32) = (0 : Int32))) (ha220 : o13 = o13) (ht230 : (lcmpW j2 j2) = (0 : Int32)) (ht241 : (lcmpW j6 j6) = (0 : Int32)) (ha251 : o12 = o12) (ht262 : (lcmpW j4 j4) = (0 : Int32)) :
    ∃ (T' : State) (h' : Heap) (locs' : List Loc) (x14 x15 : Addr), Stand p l e room_1 s m args below meth c T' locs' 6 20 ∧ T'.heap = h' ∧ Fr n0 locs' ∧ True ∧ ∀ target, Steps p.tables e below (T'.setTop (mkF m 265 #[s0, s1, .val (.long j2), .second, .val (.long j4), .second, .val (.long j6), .second, s8, s9, .val (.ref o10), .val .null, .val (.ref o12), .val (.ref o13), .val (.ref x14), .val (.ref x15), .val .null, .val (.int (1 : Int32))] [])) target → Steps p.tables e below (T0.setTop (mkF m 125 #[s0, s1, .val (.long j2), .second, .val (.long j4), .second, .val (.long j6), .second, s8, s9, .val (.ref o10), .val .null, .val (.ref o12), .val (.ref o13), s14, s15, s16, s17] [])) target := by
  -- 3. LAWS
  obtain ⟨T6, h6, X6, e6, E6, A6, D6, -, st6⟩ := newO X0 hx hZ hown (hw _ (List.mem_of_getElem? (i := 33) rfl)) (hw _ (List.mem_of_getElem? (i := 34) rfl)) (hw _ (List.mem_of_getElem? (i := 35) rfl)) e0 (g := (mkF m 125 #[s0, s1, .val (.long j2), .second, .val (.long j4), .second, .val (.long j6), .second, s8, s9, .val (.ref o10), .val .null, .val (.ref o12), .val (.ref o13), s14, s15, s16, s17] [])) rfl (hb hby at_125) (by decide) (by decide)
  obtain ⟨b6, g6⟩ : ∃ z, z = h0.size := ⟨_, rfl⟩      -- the fresh object's address
  rw [← g6] at A6 D6 st6      -- A6 : Exa Z h6 b6 "com/example/shardgate/shardgate/subscriptions/Subscription"; E6 : Ext h0 h6 (carries every older fact: .ext E6)
  have F_id_b6 : Fld Z h6 b6 "com/example/shardgate/shardgate/subscriptions/Subscription" "id" "Ljava/lang/String;" .null := D6 (Or.inr (hw _ (List.mem_of_getElem? (i := 46) rfl))) (ty := (.object "java/lang/String")) (by decide)
  have F_comment_b6 : Fld Z h6 b6 "com/example/shardgate/shardgate/subscriptions/Subscription" "comment" "Ljava/lang/String;" .null := D6 (Or.inr (hw _ (List.mem_of_getElem? (i := 48) rfl))) (ty := (.object "java/lang/String")) (by decide)
  have F_state_b6 : Fld Z h6 b6 "com/example/shardgate/shardgate/subscriptions/Subscription" "state" "Lcom/example/shardgate/shardgate/subscriptions/Subscription$State;" .null := D6 (Or.inr (hw _ (List.mem_of_getElem? (i := 50) rfl))) (ty := (.object "com/example/shardgate/shardgate/subscriptions/Subscription$State")) (by decide)
  have F_createTime_b6 : Fld Z h6 b6 "com/example/shardgate/shardgate/subscriptions/Subscription" "createTime" "J" (.long (0 : Int64)) := D6 (Or.inr (hw _ (List.mem_of_getElem? (i := 52) rfl))) (ty := .long) (by decide)
  have F_lastModifyTime_b6 : Fld Z h6 b6 "com/example/shardgate/shardgate/subscriptions/Subscription" "lastModifyTime" "J" (.long (0 : Int64)) := D6 (Or.inr (hw _ (List.mem_of_getElem? (i := 54) rfl))) (ty := .long) (by decide)
  have E_b6 := A6
  have g_b6 : n0 ≤ b6 := Nat.le_trans Z0 (Nat.le_of_eq g6.symm)
  have sz_b6 : h0.size ≤ b6 := (Nat.le_trans (Keep.refl h0 []).1 (Nat.le_of_eq g6.symm))
  have K6 : Keep h0 h6 [] := (Keep.refl h0 []).ext E6
  -- pc 138: the constructor of com/example/shardgate/shardgate/subscriptions/Subscription by its contract rm7
  obtain ⟨_, _, ⟨T7, L7, k7, n7⟩, -, X7, ⟨Lc7, hQ7, l7, y7, z7⟩, st7⟩ := X6.specialBack hx (y := (⟨"com/example/shardgate/shardgate/subscriptions/Subscription", "<init>", "(Ljava/lang/String;Ljava/lang/String;Lcom/example/shardgate/shardgate/subscriptions/Subscription$State;JJ)V"⟩ : MethodName)) rfl hown (mvT hZ (hw _ (List.mem_of_getElem? (i := 36) rfl))) (mvT hZ (hw _ (List.mem_of_getElem? (i := 37) rfl))) (mvT hZ (hw _ (List.mem_of_getElem? (i := 38) rfl))) (by decide) (backOf (W := 1) (rm7n l Z a0 hw [] b6 o10 o12 j2 j4 .null .null .null (.long 0) (.long 0) h6 n0 (Nat.le_trans Z0 K6.1) E_b6 F_id_b6 g_b6 F_comment_b6 F_state_b6 F_createTime_b6 F_lastModifyTime_b6) hZ (hw _ (List.mem_of_getElem? (i := 38) rfl)) (hw _ (List.mem_of_getElem? (i := 35) rfl)) (by decide) (by decide)) (g := (mkF m 138 #[s0, s1, .val (.long j2), .second, .val (.long j4), .second, .val (.long j6), .second, s8, s9, .val (.ref o10), .val .null, .val (.ref o12), .val (.ref o13), s14, s15, s16, s17] [(.long j4), (.long j2), (.ref o12), .null, (.ref o10), (.ref b6), (.ref b6)])) rfl (by rw [hml]; rfl) (Steps.refl _) (a := b6) (argsL := [(.ref o10), .null, (.ref o12), (.long j2), (.long j4)]) (rest := [(.ref b6)]) (lenOf pd_0_6 rfl) rfl (by show 2 * 0 + _ ≤ _; exact Nat.le_of_eq rfl) (hb hby at_138) (fun _ _ => ⟨rfl, e6, (by decide : 4 + 1 + 0 ≤ _), (by decide : 10 + 5 + 0 ≤ _)⟩)
  dsimp only [Pt.U, Pt.locs, Pt.cells, Pt.slots] at X7 l7 y7 z7 st7 hQ7
  subst l7 y7 z7
  obtain ⟨rfl, N7q, K7q, E7q, Ai, Ac, As, At, Al⟩ := hQ7
  have N7 := Fr.app N0 N7q
  have KH7 : Keep h0 T7.heap [] := K6.trans K7q (own_ws1 sz_b6)
  -- pc 149: com/example/shardgate/shardgate/subscriptions/Subscription.in by the contract of the body that the receiver's class selects, rm9
  obtain ⟨cq8, kq8, q8a, q8b, q8c⟩ := isOf hZ rfl (E_b6.keep K7q)
  obtain ⟨_, _, ⟨T8, L8, k8, n8⟩, -, X8, ⟨Lc8, hQ8, l8, y8, z8⟩, st8⟩ := X7.virtualBack hx (y := (⟨"com/example/shardgate/shardgate/subscriptions/Subscription", "in", "(Lcom/example/shardgate/shardgate/subscriptions/Subscription$State;J)Lcom/example/shardgate/shardgate/subscriptions/Subscription;"⟩ : MethodName)) (z := (⟨"com/example/shardgate/shardgate/subscriptions/Subscription", "in", "(Lcom/example/shardgate/shardgate/subscriptions/Subscription$State;J)Lcom/example/shardgate/shardgate/subscriptions/Subscription;"⟩ : MethodName)) hown (mvT hZ (hw _ (List.mem_of_getElem? (i := 55) rfl))) (mvT hZ (hw _ (List.mem_of_getElem? (i := 56) rfl))) (notFace_of_selects (args := #[]) (mvT hZ (hw _ (List.mem_of_getElem? (i := 58) rfl)))) (mvT hZ (hw _ (List.mem_of_getElem? (i := 58) rfl))) (mvT hZ (hw _ (List.mem_of_getElem? (i := 57) rfl))) (by decide) (backOf (W := 0) (rm9n l Z a0 hw [] b6 o13 j6 o10 j2 T7.heap n0 (Nat.le_trans Z0 KH7.1) Ai Ac At) hZ (hw _ (List.mem_of_getElem? (i := 59) rfl)) (hw _ (List.mem_of_getElem? (i := 35) rfl)) (by decide) (by decide)) q8a q8c (g := (mkF m 149 #[s0, s1, .val (.long j2), .second, .val (.long j4), .second, .val (.long j6), .second, s8, s9, .val (.ref o10), .val .null, .val (.ref o12), .val (.ref o13), .val (.ref b6), s15, s16, s17] [(.long j6), (.ref o13), (.ref b6)])) rfl (by rw [hml]; rfl) (Steps.refl _) (argsL := [(.ref o13), (.long j6)]) (rest := []) (lenOf pd_0_7 rfl) rfl (by show 2 * 0 + _ ≤ _; exact Nat.le_of_eq rfl) (hb hby at_149) (fun _ _ => ⟨rfl, rfl, (by decide : 4 + 1 + 1 ≤ _), (by decide : 10 + 5 + 5 ≤ _)⟩)
  dsimp only [Pt.U, Pt.locs, Pt.cells, Pt.slots] at X8 l8 y8 z8 st8 hQ8
  subst l8 y8 z8
  obtain ⟨rfl, N8q, K8q, Er, Bi, Bc, Bs, Bt, Bl⟩ := hQ8
  have N8 := Fr.app N7 N8q
  have KH8 : Keep h0 T8.heap [] := KH7.trans K8q own_ws0
  obtain ⟨br, gr⟩ : ∃ z, z = T7.heap.size := ⟨_, rfl⟩
  rw [← gr] at st8 Er Bi Bc Bs Bt Bl
  have Ai := Ai.keep K8q (by simp)
  have Ac := Ac.keep K8q (by simp)
  have As := As.keep K8q (by simp)
  have At := At.keep K8q (by simp)
  have Al := Al.keep K8q (by simp)
  -- pc 163: com/example/shardgate/shardgate/subscriptions/Subscription.comment by the contract of the body that the receiver's class selects, rm10
  -- ✋ yours, out of the call's Q: E_br : Exa Z h0 br "com/example/shardgate/shardgate/subscriptions/Subscription"
  obtain ⟨cq9, kq9, q9a, q9b, q9c⟩ := isOf hZ rfl ((Er))
  obtain ⟨_, _, ⟨T9, L9, k9, n9⟩, -, X9, ⟨Lc9, hQ9, l9, y9, z9⟩, st9⟩ := X8.virtualBack hx (y := (⟨"com/example/shardgate/shardgate/subscriptions/Subscription", "comment", "()Ljava/lang/String;"⟩ : MethodName)) (z := (⟨"com/example/shardgate/shardgate/subscriptions/Subscription", "comment", "()Ljava/lang/String;"⟩ : MethodName)) hown (mvT hZ (hw _ (List.mem_of_getElem? (i := 62) rfl))) (mvT hZ (hw _ (List.mem_of_getElem? (i := 63) rfl))) (notFace_of_selects (args := #[]) (mvT hZ (hw _ (List.mem_of_getElem? (i := 65) rfl)))) (mvT hZ (hw _ (List.mem_of_getElem? (i := 65) rfl))) (mvT hZ (hw _ (List.mem_of_getElem? (i := 64) rfl))) (by decide) (backOf (W := 0) (rm10n l Z a0 hw [] br  T8.heap n0 (Nat.le_trans Z0 KH8.1) Bc) hZ (hw _ (List.mem_of_getElem? (i := 66) rfl)) (hw _ (List.mem_of_getElem? (i := 35) rfl)) (by decide) (by decide)) q9a q9c (g := (mkF m 163 #[s0, s1, .val (.long j2), .second, .val (.long j4), .second, .val (.long j6), .second, s8, s9, .val (.ref o10), .val .null, .val (.ref o12), .val (.ref o13), .val (.ref b6), .val (.ref br), s16, s17] [(.ref br)])) rfl (by rw [hml]; rfl) (Steps.refl _) (argsL := []) (rest := []) (lenOf pd_0_8 rfl) rfl (by show 2 * 0 + _ ≤ _; exact Nat.le_of_eq rfl) (hb hby at_163) (fun _ _ => ⟨rfl, rfl, (by decide : 4 + 2 + 0 ≤ _), (by decide : 10 + 10 + 0 ≤ _)⟩)
  dsimp only [Pt.U, Pt.locs, Pt.cells, Pt.slots] at X9 l9 y9 z9 st9 hQ9
  subst l9 y9 z9
  obtain ⟨rfl, N9q, e9q⟩ := hQ9
  have N9 := Fr.app N8 N9q
  have K9q : Keep T8.heap T9.heap [] := own_keep e9q
  have KH9 : Keep h0 T9.heap [] := KH8.trans K9q own_ws0
  have Ai := Ai.keep K9q (by simp)
  have Ac := Ac.keep K9q (by simp)
  have As := As.keep K9q (by simp)
  have At := At.keep K9q (by simp)
  have Al := Al.keep K9q (by simp)
  have Bi := Bi.keep K9q (by simp)
  have Bc := Bc.keep K9q (by simp)
  have Bs := Bs.keep K9q (by simp)
  have Bt := Bt.keep K9q (by simp)
  have Bl := Bl.keep K9q (by simp)
  -- pc 199: com/example/shardgate/shardgate/subscriptions/Subscription.id by the contract of the body that the receiver's class selects, rm12
  obtain ⟨cq10, kq10, q10a, q10b, q10c⟩ := isOf hZ rfl (((Er)).keep K9q)
  obtain ⟨_, _, ⟨T10, L10, k10, n10⟩, -, X10, ⟨Lc10, hQ10, l10, y10, z10⟩, st10⟩ := X9.virtualBack hx (y := (⟨"com/example/shardgate/shardgate/subscriptions/Subscription", "id", "()Ljava/lang/String;"⟩ : MethodName)) (z := (⟨"com/example/shardgate/shardgate/subscriptions/Subscription", "id", "()Ljava/lang/String;"⟩ : MethodName)) hown (mvT hZ (hw _ (List.mem_of_getElem? (i := 72) rfl))) (mvT hZ (hw _ (List.mem_of_getElem? (i := 73) rfl))) (notFace_of_selects (args := #[]) (mvT hZ (hw _ (List.mem_of_getElem? (i := 75) rfl)))) (mvT hZ (hw _ (List.mem_of_getElem? (i := 75) rfl))) (mvT hZ (hw _ (List.mem_of_getElem? (i := 74) rfl))) (by decide) (backOf (W := 1) (rm12 l Z a0 hw [] br o10 T9.heap n0 (Nat.le_trans Z0 KH9.1) Bi) hZ (hw _ (List.mem_of_getElem? (i := 76) rfl)) (hw _ (List.mem_of_getElem? (i := 35) rfl)) (by decide) (by decide)) q10a q10c (g := (mkF m 199 #[s0, s1, .val (.long j2), .second, .val (.long j4), .second, .val (.long j6), .second, s8, s9, .val (.ref o10), .val .null, .val (.ref o12), .val (.ref o13), .val (.ref b6), .val (.ref br), .val .null, .val (.int (1 : Int32))] [(.ref br), (.ref o10)])) rfl (by rw [hml]; rfl) (Steps.refl _) (argsL := []) (rest := [(.ref o10)]) (lenOf pd_0_8 rfl) rfl (by show 2 * 0 + _ ≤ _; exact Nat.le_of_eq rfl) (hb hby at_199) (fun _ _ => ⟨rfl, rfl, (by decide : 4 + 2 + 0 ≤ _), (by decide : 10 + 10 + 0 ≤ _)⟩)
  dsimp only [Pt.U, Pt.locs, Pt.cells, Pt.slots] at X10 l10 y10 z10 st10 hQ10
  subst l10 y10 z10
  obtain ⟨rfl, N10q, e10q⟩ := hQ10
  have N10 := Fr.app N9 N10q
  have K10q : Keep T9.heap T10.heap [] := own_keep e10q
  have KH10 : Keep h0 T10.heap [] := KH9.trans K10q own_ws0
  have Ai := Ai.keep K10q (by simp)
  have Ac := Ac.keep K10q (by simp)
  have As := As.keep K10q (by simp)
  have At := At.keep K10q (by simp)
  have Al := Al.keep K10q (by simp)
  have Bi := Bi.keep K10q (by simp)
  have Bc := Bc.keep K10q (by simp)
  have Bs := Bs.keep K10q (by simp)
  have Bt := Bt.keep K10q (by simp)
  have Bl := Bl.keep K10q (by simp)
  -- pc 202: java/lang/String.equals by the contract of the body that the receiver's class selects, rm11
  obtain ⟨cq11, kq11, q11a, q11b, q11c⟩ := isOf hZ rfl (((((E_o10.ext E6).keep K7q).keep K8q).keep K9q).keep K10q)
  -- JDK: don't walk it: StrChars.Road.eqW (pack/laws/STRINGS.README.md): its own row in place of the next one (the 'backOf (W ..)' becomes what that law's P asks)
  obtain ⟨_, _, ⟨T11, L11, k11, n11⟩, -, X11, ⟨Lc11, hQ11, l11, y11, z11⟩, st11⟩ := X10.virtualBack hx (y := (⟨"java/lang/String", "equals", "(Ljava/lang/Object;)Z"⟩ : MethodName)) (z := (⟨"java/lang/String", "equals", "(Ljava/lang/Object;)Z"⟩ : MethodName)) hown (mvT hZ (hw _ (List.mem_of_getElem? (i := 67) rfl))) (mvT hZ (hw _ (List.mem_of_getElem? (i := 68) rfl))) (notFace_of_selects (args := #[]) (mvT hZ (hw _ (List.mem_of_getElem? (i := 70) rfl)))) (mvT hZ (hw _ (List.mem_of_getElem? (i := 70) rfl))) (mvT hZ (hw _ (List.mem_of_getElem? (i := 69) rfl))) (by decide) (backOf (W := 0) (rm11 l Z a0 hw [] o10 o10 T10.heap n0 (Nat.le_trans Z0 KH10.1) rfl) hZ (hw _ (List.mem_of_getElem? (i := 71) rfl)) (hw _ (List.mem_of_getElem? (i := 3) rfl)) (by decide) (by decide)) q11a q11c (g := (mkF m 202 #[s0, s1, .val (.long j2), .second, .val (.long j4), .second, .val (.long j6), .second, s8, s9, .val (.ref o10), .val .null, .val (.ref o12), .val (.ref o13), .val (.ref b6), .val (.ref br), .val .null, .val (.int (1 : Int32))] [(.ref o10), (.ref o10)])) rfl (by rw [hml]; rfl) (Steps.refl _) (argsL := [(.ref o10)]) (rest := []) (lenOf pd_0_9 rfl) rfl (by show 2 * 0 + _ ≤ _; exact Nat.le_of_eq rfl) (hb hby at_202) (fun _ _ => ⟨rfl, rfl, (by decide : 4 + 2 + 0 ≤ _), (by decide : 10 + 10 + 0 ≤ _)⟩)
  dsimp only [Pt.U, Pt.locs, Pt.cells, Pt.slots] at X11 l11 y11 z11 st11 hQ11
  subst l11 y11 z11
  obtain ⟨rfl, N11q, e11q⟩ := hQ11
  have N11 := Fr.app N10 N11q
  have K11q : Keep T10.heap T11.heap [] := own_keep e11q
  have KH11 : Keep h0 T11.heap [] := KH10.trans K11q own_ws0
  have Ai := Ai.keep K11q (by simp)
  have Ac := Ac.keep K11q (by simp)
  have As := As.keep K11q (by simp)
  have At := At.keep K11q (by simp)
  have Al := Al.keep K11q (by simp)
  have Bi := Bi.keep K11q (by simp)
  have Bc := Bc.keep K11q (by simp)
  have Bs := Bs.keep K11q (by simp)
  have Bt := Bt.keep K11q (by simp)
  have Bl := Bl.keep K11q (by simp)
  -- pc 215: com/example/shardgate/shardgate/subscriptions/Subscription.state by the contract of the body that the receiver's class selects, rm13
  obtain ⟨cq12, kq12, q12a, q12b, q12c⟩ := isOf hZ rfl (((((Er)).keep K9q).keep K10q).keep K11q)
  obtain ⟨_, _, ⟨T12, L12, k12, n12⟩, -, X12, ⟨Lc12, hQ12, l12, y12, z12⟩, st12⟩ := X11.virtualBack hx (y := (⟨"com/example/shardgate/shardgate/subscriptions/Subscription", "state", "()Lcom/example/shardgate/shardgate/subscriptions/Subscription$State;"⟩ : MethodName)) (z := (⟨"com/example/shardgate/shardgate/subscriptions/Subscription", "state", "()Lcom/example/shardgate/shardgate/subscriptions/Subscription$State;"⟩ : MethodName)) hown (mvT hZ (hw _ (List.mem_of_getElem? (i := 77) rfl))) (mvT hZ (hw _ (List.mem_of_getElem? (i := 78) rfl))) (notFace_of_selects (args := #[]) (mvT hZ (hw _ (List.mem_of_getElem? (i := 80) rfl)))) (mvT hZ (hw _ (List.mem_of_getElem? (i := 80) rfl))) (mvT hZ (hw _ (List.mem_of_getElem? (i := 79) rfl))) (by decide) (backOf (W := 0) (rm13 l Z a0 hw [] br o13 T11.heap n0 (Nat.le_trans Z0 KH11.1) Bs) hZ (hw _ (List.mem_of_getElem? (i := 81) rfl)) (hw _ (List.mem_of_getElem? (i := 35) rfl)) (by decide) (by decide)) q12a q12c (g := (mkF m 215 #[s0, s1, .val (.long j2), .second, .val (.long j4), .second, .val (.long j6), .second, s8, s9, .val (.ref o10), .val .null, .val (.ref o12), .val (.ref o13), .val (.ref b6), .val (.ref br), .val .null, .val (.int (1 : Int32))] [(.ref br)])) rfl (by rw [hml]; rfl) (Steps.refl _) (argsL := []) (rest := []) (lenOf pd_0_10 rfl) rfl (by show 2 * 0 + _ ≤ _; exact Nat.le_of_eq rfl) (hb hby at_215) (fun _ _ => ⟨rfl, rfl, (by decide : 4 + 2 + 0 ≤ _), (by decide : 10 + 10 + 0 ≤ _)⟩)
  dsimp only [Pt.U, Pt.locs, Pt.cells, Pt.slots] at X12 l12 y12 z12 st12 hQ12
  subst l12 y12 z12
  obtain ⟨rfl, N12q, e12q⟩ := hQ12
  have N12 := Fr.app N11 N12q
  have K12q : Keep T11.heap T12.heap [] := own_keep e12q
  have KH12 : Keep h0 T12.heap [] := KH11.trans K12q own_ws0
  have Ai := Ai.keep K12q (by simp)
  have Ac := Ac.keep K12q (by simp)
  have As := As.keep K12q (by simp)
  have At := At.keep K12q (by simp)
  have Al := Al.keep K12q (by simp)
  have Bi := Bi.keep K12q (by simp)
  have Bc := Bc.keep K12q (by simp)
  have Bs := Bs.keep K12q (by simp)
  have Bt := Bt.keep K12q (by simp)
  have Bl := Bl.keep K12q (by simp)
  -- pc 225: com/example/shardgate/shardgate/subscriptions/Subscription.createTime by the contract of the body that the receiver's class selects, rm14
  obtain ⟨cq13, kq13, q13a, q13b, q13c⟩ := isOf hZ rfl ((((((Er)).keep K9q).keep K10q).keep K11q).keep K12q)
  obtain ⟨_, _, ⟨T13, L13, k13, n13⟩, -, X13, ⟨Lc13, hQ13, l13, y13, z13⟩, st13⟩ := X12.virtualBack hx (y := (⟨"com/example/shardgate/shardgate/subscriptions/Subscription", "createTime", "()J"⟩ : MethodName)) (z := (⟨"com/example/shardgate/shardgate/subscriptions/Subscription", "createTime", "()J"⟩ : MethodName)) hown (mvT hZ (hw _ (List.mem_of_getElem? (i := 82) rfl))) (mvT hZ (hw _ (List.mem_of_getElem? (i := 83) rfl))) (notFace_of_selects (args := #[]) (mvT hZ (hw _ (List.mem_of_getElem? (i := 85) rfl)))) (mvT hZ (hw _ (List.mem_of_getElem? (i := 85) rfl))) (mvT hZ (hw _ (List.mem_of_getElem? (i := 84) rfl))) (by decide) (backOf (W := 0) (rm14 l Z a0 hw [] br j2 T12.heap n0 (Nat.le_trans Z0 KH12.1) Bt) hZ (hw _ (List.mem_of_getElem? (i := 86) rfl)) (hw _ (List.mem_of_getElem? (i := 35) rfl)) (by decide) (by decide)) q13a q13c (g := (mkF m 225 #[s0, s1, .val (.long j2), .second, .val (.long j4), .second, .val (.long j6), .second, s8, s9, .val (.ref o10), .val .null, .val (.ref o12), .val (.ref o13), .val (.ref b6), .val (.ref br), .val .null, .val (.int (1 : Int32))] [(.ref br)])) rfl (by rw [hml]; rfl) (Steps.refl _) (argsL := []) (rest := []) (lenOf pd_0_11 rfl) rfl (by show 2 * 0 + _ ≤ _; exact Nat.le_of_eq rfl) (hb hby at_225) (fun _ _ => ⟨rfl, rfl, (by decide : 4 + 2 + 0 ≤ _), (by decide : 10 + 10 + 0 ≤ _)⟩)
  dsimp only [Pt.U, Pt.locs, Pt.cells, Pt.slots] at X13 l13 y13 z13 st13 hQ13
  subst l13 y13 z13
  obtain ⟨rfl, N13q, e13q⟩ := hQ13
  have N13 := Fr.app N12 N13q
  have K13q : Keep T12.heap T13.heap [] := own_keep e13q
  have KH13 : Keep h0 T13.heap [] := KH12.trans K13q own_ws0
  have Ai := Ai.keep K13q (by simp)
  have Ac := Ac.keep K13q (by simp)
  have As := As.keep K13q (by simp)
  have At := At.keep K13q (by simp)
  have Al := Al.keep K13q (by simp)
  have Bi := Bi.keep K13q (by simp)
  have Bc := Bc.keep K13q (by simp)
  have Bs := Bs.keep K13q (by simp)
  have Bt := Bt.keep K13q (by simp)
  have Bl := Bl.keep K13q (by simp)
  -- pc 235: com/example/shardgate/shardgate/subscriptions/Subscription.lastModifyTime by the contract of the body that the receiver's class selects, rm15
  obtain ⟨cq14, kq14, q14a, q14b, q14c⟩ := isOf hZ rfl (((((((Er)).keep K9q).keep K10q).keep K11q).keep K12q).keep K13q)
  obtain ⟨_, _, ⟨T14, L14, k14, n14⟩, -, X14, ⟨Lc14, hQ14, l14, y14, z14⟩, st14⟩ := X13.virtualBack hx (y := (⟨"com/example/shardgate/shardgate/subscriptions/Subscription", "lastModifyTime", "()J"⟩ : MethodName)) (z := (⟨"com/example/shardgate/shardgate/subscriptions/Subscription", "lastModifyTime", "()J"⟩ : MethodName)) hown (mvT hZ (hw _ (List.mem_of_getElem? (i := 87) rfl))) (mvT hZ (hw _ (List.mem_of_getElem? (i := 88) rfl))) (notFace_of_selects (args := #[]) (mvT hZ (hw _ (List.mem_of_getElem? (i := 90) rfl)))) (mvT hZ (hw _ (List.mem_of_getElem? (i := 90) rfl))) (mvT hZ (hw _ (List.mem_of_getElem? (i := 89) rfl))) (by decide) (backOf (W := 0) (rm15 l Z a0 hw [] br j6 T13.heap n0 (Nat.le_trans Z0 KH13.1) Bl) hZ (hw _ (List.mem_of_getElem? (i := 91) rfl)) (hw _ (List.mem_of_getElem? (i := 35) rfl)) (by decide) (by decide)) q14a q14c (g := (mkF m 235 #[s0, s1, .val (.long j2), .second, .val (.long j4), .second, .val (.long j6), .second, s8, s9, .val (.ref o10), .val .null, .val (.ref o12), .val (.ref o13), .val (.ref b6), .val (.ref br), .val .null, .val (.int (1 : Int32))] [(.ref br)])) rfl (by rw [hml]; rfl) (Steps.refl _) (argsL := []) (rest := []) (lenOf pd_0_11 rfl) rfl (by show 2 * 0 + _ ≤ _; exact Nat.le_of_eq rfl) (hb hby at_235) (fun _ _ => ⟨rfl, rfl, (by decide : 4 + 2 + 0 ≤ _), (by decide : 10 + 10 + 0 ≤ _)⟩)
  dsimp only [Pt.U, Pt.locs, Pt.cells, Pt.slots] at X14 l14 y14 z14 st14 hQ14
  subst l14 y14 z14
  obtain ⟨rfl, N14q, e14q⟩ := hQ14
  have N14 := Fr.app N13 N14q
  have K14q : Keep T13.heap T14.heap [] := own_keep e14q
  have KH14 : Keep h0 T14.heap [] := KH13.trans K14q own_ws0
  have Ai := Ai.keep K14q (by simp)
  have Ac := Ac.keep K14q (by simp)
  have As := As.keep K14q (by simp)
  have At := At.keep K14q (by simp)
  have Al := Al.keep K14q (by simp)
  have Bi := Bi.keep K14q (by simp)
  have Bc := Bc.keep K14q (by simp)
  have Bs := Bs.keep K14q (by simp)
  have Bt := Bt.keep K14q (by simp)
  have Bl := Bl.keep K14q (by simp)
  -- pc 246: com/example/shardgate/shardgate/subscriptions/Subscription.state by the contract of the body that the receiver's class selects, rm13
  obtain ⟨cq15, kq15, q15a, q15b, q15c⟩ := isOf hZ rfl ((((((((E_b6.keep K7q).keep K8q).keep K9q).keep K10q).keep K11q).keep K12q).keep K13q).keep K14q)
  obtain ⟨_, _, ⟨T15, L15, k15, n15⟩, -, X15, ⟨Lc15, hQ15, l15, y15, z15⟩, st15⟩ := X14.virtualBack hx (y := (⟨"com/example/shardgate/shardgate/subscriptions/Subscription", "state", "()Lcom/example/shardgate/shardgate/subscriptions/Subscription$State;"⟩ : MethodName)) (z := (⟨"com/example/shardgate/shardgate/subscriptions/Subscription", "state", "()Lcom/example/shardgate/shardgate/subscriptions/Subscription$State;"⟩ : MethodName)) hown (mvT hZ (hw _ (List.mem_of_getElem? (i := 77) rfl))) (mvT hZ (hw _ (List.mem_of_getElem? (i := 78) rfl))) (notFace_of_selects (args := #[]) (mvT hZ (hw _ (List.mem_of_getElem? (i := 80) rfl)))) (mvT hZ (hw _ (List.mem_of_getElem? (i := 80) rfl))) (mvT hZ (hw _ (List.mem_of_getElem? (i := 79) rfl))) (by decide) (backOf (W := 0) (rm13 l Z a0 hw [] b6 o12 T14.heap n0 (Nat.le_trans Z0 KH14.1) As) hZ (hw _ (List.mem_of_getElem? (i := 81) rfl)) (hw _ (List.mem_of_getElem? (i := 35) rfl)) (by decide) (by decide)) q15a q15c (g := (mkF m 246 #[s0, s1, .val (.long j2), .second, .val (.long j4), .second, .val (.long j6), .second, s8, s9, .val (.ref o10), .val .null, .val (.ref o12), .val (.ref o13), .val (.ref b6), .val (.ref br), .val .null, .val (.int (1 : Int32))] [(.ref b6)])) rfl (by rw [hml]; rfl) (Steps.refl _) (argsL := []) (rest := []) (lenOf pd_0_10 rfl) rfl (by show 2 * 0 + _ ≤ _; exact Nat.le_of_eq rfl) (hb hby at_246) (fun _ _ => ⟨rfl, rfl, (by decide : 4 + 2 + 0 ≤ _), (by decide : 10 + 10 + 0 ≤ _)⟩)
  dsimp only [Pt.U, Pt.locs, Pt.cells, Pt.slots] at X15 l15 y15 z15 st15 hQ15
  subst l15 y15 z15
  obtain ⟨rfl, N15q, e15q⟩ := hQ15
  have N15 := Fr.app N14 N15q
  have K15q : Keep T14.heap T15.heap [] := own_keep e15q
  have KH15 : Keep h0 T15.heap [] := KH14.trans K15q own_ws0
  have Ai := Ai.keep K15q (by simp)
  have Ac := Ac.keep K15q (by simp)
  have As := As.keep K15q (by simp)
  have At := At.keep K15q (by simp)
  have Al := Al.keep K15q (by simp)
  have Bi := Bi.keep K15q (by simp)
  have Bc := Bc.keep K15q (by simp)
  have Bs := Bs.keep K15q (by simp)
  have Bt := Bt.keep K15q (by simp)
  have Bl := Bl.keep K15q (by simp)
  -- pc 256: com/example/shardgate/shardgate/subscriptions/Subscription.lastModifyTime by the contract of the body that the receiver's class selects, rm15
  obtain ⟨cq16, kq16, q16a, q16b, q16c⟩ := isOf hZ rfl (((((((((E_b6.keep K7q).keep K8q).keep K9q).keep K10q).keep K11q).keep K12q).keep K13q).keep K14q).keep K15q)
  obtain ⟨_, _, ⟨T16, L16, k16, n16⟩, -, X16, ⟨Lc16, hQ16, l16, y16, z16⟩, st16⟩ := X15.virtualBack hx (y := (⟨"com/example/shardgate/shardgate/subscriptions/Subscription", "lastModifyTime", "()J"⟩ : MethodName)) (z := (⟨"com/example/shardgate/shardgate/subscriptions/Subscription", "lastModifyTime", "()J"⟩ : MethodName)) hown (mvT hZ (hw _ (List.mem_of_getElem? (i := 87) rfl))) (mvT hZ (hw _ (List.mem_of_getElem? (i := 88) rfl))) (notFace_of_selects (args := #[]) (mvT hZ (hw _ (List.mem_of_getElem? (i := 90) rfl)))) (mvT hZ (hw _ (List.mem_of_getElem? (i := 90) rfl))) (mvT hZ (hw _ (List.mem_of_getElem? (i := 89) rfl))) (by decide) (backOf (W := 0) (rm15 l Z a0 hw [] b6 j4 T15.heap n0 (Nat.le_trans Z0 KH15.1) Al) hZ (hw _ (List.mem_of_getElem? (i := 91) rfl)) (hw _ (List.mem_of_getElem? (i := 35) rfl)) (by decide) (by decide)) q16a q16c (g := (mkF m 256 #[s0, s1, .val (.long j2), .second, .val (.long j4), .second, .val (.long j6), .second, s8, s9, .val (.ref o10), .val .null, .val (.ref o12), .val (.ref o13), .val (.ref b6), .val (.ref br), .val .null, .val (.int (1 : Int32))] [(.ref b6)])) rfl (by rw [hml]; rfl) (Steps.refl _) (argsL := []) (rest := []) (lenOf pd_0_11 rfl) rfl (by show 2 * 0 + _ ≤ _; exact Nat.le_of_eq rfl) (hb hby at_256) (fun _ _ => ⟨rfl, rfl, (by decide : 4 + 2 + 0 ≤ _), (by decide : 10 + 10 + 0 ≤ _)⟩)
  dsimp only [Pt.U, Pt.locs, Pt.cells, Pt.slots] at X16 l16 y16 z16 st16 hQ16
  subst l16 y16 z16
  obtain ⟨rfl, N16q, e16q⟩ := hQ16
  have N16 := Fr.app N15 N16q
  have K16q : Keep T15.heap T16.heap [] := own_keep e16q
  have KH16 : Keep h0 T16.heap [] := KH15.trans K16q own_ws0
  have Ai := Ai.keep K16q (by simp)
  have Ac := Ac.keep K16q (by simp)
  have As := As.keep K16q (by simp)
  have At := At.keep K16q (by simp)
  have Al := Al.keep K16q (by simp)
  have Bi := Bi.keep K16q (by simp)
  have Bc := Bc.keep K16q (by simp)
  have Bs := Bs.keep K16q (by simp)
  have Bt := Bt.keep K16q (by simp)
  have Bl := Bl.keep K16q (by simp)
  refine ⟨T16, _, _, b6, br, X16, rfl, N16, trivial, fun target kt => ?_⟩
  -- 4. STEPS
  show Steps p.tables e below (T0.setTop (mkF m 125 #[s0, s1, .val (.long j2), .second, .val (.long j4), .second, .val (.long j6), .second, s8, s9, .val (.ref o10), .val .null, .val (.ref o12), .val (.ref o13), s14, s15, s16, s17] [])) _
  refine st6 _ ?_
  show Steps p.tables e below (T6.setTop (mkF m 128 #[s0, s1, .val (.long j2), .second, .val (.long j4), .second, .val (.long j6), .second, s8, s9, .val (.ref o10), .val .null, .val (.ref o12), .val (.ref o13), s14, s15, s16, s17] [(.ref b6)])) _
  refine XS.dup X6.here hx rfl (hb hby at_128) rfl rfl ?_
  show Steps p.tables e below (T6.setTop (mkF m 129 #[s0, s1, .val (.long j2), .second, .val (.long j4), .second, .val (.long j6), .second, s8, s9, .val (.ref o10), .val .null, .val (.ref o12), .val (.ref o13), s14, s15, s16, s17] [(.ref b6), (.ref b6)])) _
  refine XS.aload X6.here hx rfl (hb hby at_129) rfl rfl ?_
  show Steps p.tables e below (T6.setTop (mkF m 131 #[s0, s1, .val (.long j2), .second, .val (.long j4), .second, .val (.long j6), .second, s8, s9, .val (.ref o10), .val .null, .val (.ref o12), .val (.ref o13), s14, s15, s16, s17] [(.ref o10), (.ref b6), (.ref b6)])) _
  refine XS.aload X6.here hx rfl (hb hby at_131) rfl rfl ?_
  show Steps p.tables e below (T6.setTop (mkF m 133 #[s0, s1, .val (.long j2), .second, .val (.long j4), .second, .val (.long j6), .second, s8, s9, .val (.ref o10), .val .null, .val (.ref o12), .val (.ref o13), s14, s15, s16, s17] [.null, (.ref o10), (.ref b6), (.ref b6)])) _
  refine XS.aload X6.here hx rfl (hb hby at_133) rfl rfl ?_
  show Steps p.tables e below (T6.setTop (mkF m 135 #[s0, s1, .val (.long j2), .second, .val (.long j4), .second, .val (.long j6), .second, s8, s9, .val (.ref o10), .val .null, .val (.ref o12), .val (.ref o13), s14, s15, s16, s17] [(.ref o12), .null, (.ref o10), (.ref b6), (.ref b6)])) _
  refine XS.lloadN X6.here hx rfl (hb hby at_135) rfl ?_
  show Steps p.tables e below (T6.setTop (mkF m 136 #[s0, s1, .val (.long j2), .second, .val (.long j4), .second, .val (.long j6), .second, s8, s9, .val (.ref o10), .val .null, .val (.ref o12), .val (.ref o13), s14, s15, s16, s17] [(.long j2), (.ref o12), .null, (.ref o10), (.ref b6), (.ref b6)])) _
  refine XS.lload X6.here hx rfl (hb hby at_136) rfl ?_
  show Steps p.tables e below (T6.setTop (mkF m 138 #[s0, s1, .val (.long j2), .second, .val (.long j4), .second, .val (.long j6), .second, s8, s9, .val (.ref o10), .val .null, .val (.ref o12), .val (.ref o13), s14, s15, s16, s17] [(.long j4), (.long j2), (.ref o12), .null, (.ref o10), (.ref b6), (.ref b6)])) _
  refine st7.trans ?_
  show Steps p.tables e below (T7.setTop (mkF m 141 #[s0, s1, .val (.long j2), .second, .val (.long j4), .second, .val (.long j6), .second, s8, s9, .val (.ref o10), .val .null, .val (.ref o12), .val (.ref o13), s14, s15, s16, s17] [(.ref b6)])) _
  refine XS.astore X7.here hx rfl (hb hby at_141) rfl rfl (l' := #[s0, s1, .val (.long j2), .second, .val (.long j4), .second, .val (.long j6), .second, s8, s9, .val (.ref o10), .val .null, .val (.ref o12), .val (.ref o13), .val (.ref b6), s15, s16, s17]) (os0_141 hs14) ?_
  show Steps p.tables e below (T7.setTop (mkF m 143 #[s0, s1, .val (.long j2), .second, .val (.long j4), .second, .val (.long j6), .second, s8, s9, .val (.ref o10), .val .null, .val (.ref o12), .val (.ref o13), .val (.ref b6), s15, s16, s17] [])) _
  refine XS.aload X7.here hx rfl (hb hby at_143) rfl rfl ?_
  show Steps p.tables e below (T7.setTop (mkF m 145 #[s0, s1, .val (.long j2), .second, .val (.long j4), .second, .val (.long j6), .second, s8, s9, .val (.ref o10), .val .null, .val (.ref o12), .val (.ref o13), .val (.ref b6), s15, s16, s17] [(.ref b6)])) _
  refine XS.aload X7.here hx rfl (hb hby at_145) rfl rfl ?_
  show Steps p.tables e below (T7.setTop (mkF m 147 #[s0, s1, .val (.long j2), .second, .val (.long j4), .second, .val (.long j6), .second, s8, s9, .val (.ref o10), .val .null, .val (.ref o12), .val (.ref o13), .val (.ref b6), s15, s16, s17] [(.ref o13), (.ref b6)])) _
  refine XS.lload X7.here hx rfl (hb hby at_147) rfl ?_
  show Steps p.tables e below (T7.setTop (mkF m 149 #[s0, s1, .val (.long j2), .second, .val (.long j4), .second, .val (.long j6), .second, s8, s9, .val (.ref o10), .val .null, .val (.ref o12), .val (.ref o13), .val (.ref b6), s15, s16, s17] [(.long j6), (.ref o13), (.ref b6)])) _
  refine st8.trans ?_
  show Steps p.tables e below (T8.setTop (mkF m 152 #[s0, s1, .val (.long j2), .second, .val (.long j4), .second, .val (.long j6), .second, s8, s9, .val (.ref o10), .val .null, .val (.ref o12), .val (.ref o13), .val (.ref b6), s15, s16, s17] [(.ref br)])) _
  refine XS.astore X8.here hx rfl (hb hby at_152) rfl rfl (l' := #[s0, s1, .val (.long j2), .second, .val (.long j4), .second, .val (.long j6), .second, s8, s9, .val (.ref o10), .val .null, .val (.ref o12), .val (.ref o13), .val (.ref b6), .val (.ref br), s16, s17]) (os0_152 hs15) ?_
  show Steps p.tables e below (T8.setTop (mkF m 154 #[s0, s1, .val (.long j2), .second, .val (.long j4), .second, .val (.long j6), .second, s8, s9, .val (.ref o10), .val .null, .val (.ref o12), .val (.ref o13), .val (.ref b6), .val (.ref br), s16, s17] [])) _
  refine XS.aload X8.here hx rfl (hb hby at_154) rfl rfl ?_
  show Steps p.tables e below (T8.setTop (mkF m 156 #[s0, s1, .val (.long j2), .second, .val (.long j4), .second, .val (.long j6), .second, s8, s9, .val (.ref o10), .val .null, .val (.ref o12), .val (.ref o13), .val (.ref b6), .val (.ref br), s16, s17] [(.ref br)])) _
  refine XS.ifnonnullYes X8.here hx rfl (pc0 := 156) (pc' := 161) rfl (hb hby at_156) rfl (by decide) (by decide) ?_
  show Steps p.tables e below (T8.setTop (mkF m 161 #[s0, s1, .val (.long j2), .second, .val (.long j4), .second, .val (.long j6), .second, s8, s9, .val (.ref o10), .val .null, .val (.ref o12), .val (.ref o13), .val (.ref b6), .val (.ref br), s16, s17] [])) _
  refine XS.aload X8.here hx rfl (hb hby at_161) rfl rfl ?_
  show Steps p.tables e below (T8.setTop (mkF m 163 #[s0, s1, .val (.long j2), .second, .val (.long j4), .second, .val (.long j6), .second, s8, s9, .val (.ref o10), .val .null, .val (.ref o12), .val (.ref o13), .val (.ref b6), .val (.ref br), s16, s17] [(.ref br)])) _
  refine st9.trans ?_
  show Steps p.tables e below (T9.setTop (mkF m 166 #[s0, s1, .val (.long j2), .second, .val (.long j4), .second, .val (.long j6), .second, s8, s9, .val (.ref o10), .val .null, .val (.ref o12), .val (.ref o13), .val (.ref b6), .val (.ref br), s16, s17] [.null])) _
  refine XS.astore X9.here hx rfl (hb hby at_166) rfl rfl (l' := #[s0, s1, .val (.long j2), .second, .val (.long j4), .second, .val (.long j6), .second, s8, s9, .val (.ref o10), .val .null, .val (.ref o12), .val (.ref o13), .val (.ref b6), .val (.ref br), .val .null, s17]) (os0_166_own_p4n hs16) ?_
  show Steps p.tables e below (T9.setTop (mkF m 168 #[s0, s1, .val (.long j2), .second, .val (.long j4), .second, .val (.long j6), .second, s8, s9, .val (.ref o10), .val .null, .val (.ref o12), .val (.ref o13), .val (.ref b6), .val (.ref br), .val .null, s17] [])) _
  refine XS.aload X9.here hx rfl (hb hby at_168) rfl rfl ?_
  show Steps p.tables e below (T9.setTop (mkF m 170 #[s0, s1, .val (.long j2), .second, .val (.long j4), .second, .val (.long j6), .second, s8, s9, .val (.ref o10), .val .null, .val (.ref o12), .val (.ref o13), .val (.ref b6), .val (.ref br), .val .null, s17] [.null])) _
  refine XS.ifnonnullNo X9.here hx rfl (hb hby at_170) rfl ?_
  show Steps p.tables e below (T9.setTop (mkF m 173 #[s0, s1, .val (.long j2), .second, .val (.long j4), .second, .val (.long j6), .second, s8, s9, .val (.ref o10), .val .null, .val (.ref o12), .val (.ref o13), .val (.ref b6), .val (.ref br), .val .null, s17] [])) _
  refine XS.aload X9.here hx rfl (hb hby at_173) rfl rfl ?_
  show Steps p.tables e below (T9.setTop (mkF m 175 #[s0, s1, .val (.long j2), .second, .val (.long j4), .second, .val (.long j6), .second, s8, s9, .val (.ref o10), .val .null, .val (.ref o12), .val (.ref o13), .val (.ref b6), .val (.ref br), .val .null, s17] [.null])) _
  refine XS.ifnonnullNo X9.here hx rfl (hb hby at_175) rfl ?_
  show Steps p.tables e below (T9.setTop (mkF m 178 #[s0, s1, .val (.long j2), .second, .val (.long j4), .second, .val (.long j6), .second, s8, s9, .val (.ref o10), .val .null, .val (.ref o12), .val (.ref o13), .val (.ref b6), .val (.ref br), .val .null, s17] [])) _
  refine XS.iconst X9.here hx rfl (hb hby at_178) ?_
  show Steps p.tables e below (T9.setTop (mkF m 179 #[s0, s1, .val (.long j2), .second, .val (.long j4), .second, .val (.long j6), .second, s8, s9, .val (.ref o10), .val .null, .val (.ref o12), .val (.ref o13), .val (.ref b6), .val (.ref br), .val .null, s17] [(.int (1 : Int32))])) _
  refine XS.goto X9.here hx rfl (pc0 := 179) (pc' := 193) rfl (hb hby at_179) (by decide) (by decide) ?_
  show Steps p.tables e below (T9.setTop (mkF m 193 #[s0, s1, .val (.long j2), .second, .val (.long j4), .second, .val (.long j6), .second, s8, s9, .val (.ref o10), .val .null, .val (.ref o12), .val (.ref o13), .val (.ref b6), .val (.ref br), .val .null, s17] [(.int (1 : Int32))])) _
  refine XS.istore X9.here hx rfl (hb hby at_193) rfl (l' := #[s0, s1, .val (.long j2), .second, .val (.long j4), .second, .val (.long j6), .second, s8, s9, .val (.ref o10), .val .null, .val (.ref o12), .val (.ref o13), .val (.ref b6), .val (.ref br), .val .null, .val (.int (1 : Int32))]) (os0_193 hs17) ?_
  show Steps p.tables e below (T9.setTop (mkF m 195 #[s0, s1, .val (.long j2), .second, .val (.long j4), .second, .val (.long j6), .second, s8, s9, .val (.ref o10), .val .null, .val (.ref o12), .val (.ref o13), .val (.ref b6), .val (.ref br), .val .null, .val (.int (1 : Int32))] [])) _
  refine XS.aload X9.here hx rfl (hb hby at_195) rfl rfl ?_
  show Steps p.tables e below (T9.setTop (mkF m 197 #[s0, s1, .val (.long j2), .second, .val (.long j4), .second, .val (.long j6), .second, s8, s9, .val (.ref o10), .val .null, .val (.ref o12), .val (.ref o13), .val (.ref b6), .val (.ref br), .val .null, .val (.int (1 : Int32))] [(.ref o10)])) _
  refine XS.aload X9.here hx rfl (hb hby at_197) rfl rfl ?_
  show Steps p.tables e below (T9.setTop (mkF m 199 #[s0, s1, .val (.long j2), .second, .val (.long j4), .second, .val (.long j6), .second, s8, s9, .val (.ref o10), .val .null, .val (.ref o12), .val (.ref o13), .val (.ref b6), .val (.ref br), .val .null, .val (.int (1 : Int32))] [(.ref br), (.ref o10)])) _
  refine st10.trans ?_
  show Steps p.tables e below (T10.setTop (mkF m 202 #[s0, s1, .val (.long j2), .second, .val (.long j4), .second, .val (.long j6), .second, s8, s9, .val (.ref o10), .val .null, .val (.ref o12), .val (.ref o13), .val (.ref b6), .val (.ref br), .val .null, .val (.int (1 : Int32))] [(.ref o10), (.ref o10)])) _
  refine st11.trans ?_
  show Steps p.tables e below (T11.setTop (mkF m 205 #[s0, s1, .val (.long j2), .second, .val (.long j4), .second, .val (.long j6), .second, s8, s9, .val (.ref o10), .val .null, .val (.ref o12), .val (.ref o13), .val (.ref b6), .val (.ref br), .val .null, .val (.int (1 : Int32))] [(.int (1 : Int32))])) _
  refine XS.ifNo X11.here hx rfl (hb hby at_205) rfl ((if0 _ _).trans (feq ht205).1) ?_
  show Steps p.tables e below (T11.setTop (mkF m 208 #[s0, s1, .val (.long j2), .second, .val (.long j4), .second, .val (.long j6), .second, s8, s9, .val (.ref o10), .val .null, .val (.ref o12), .val (.ref o13), .val (.ref b6), .val (.ref br), .val .null, .val (.int (1 : Int32))] [])) _
  refine XS.iload X11.here hx rfl (hb hby at_208) rfl ?_
  show Steps p.tables e below (T11.setTop (mkF m 210 #[s0, s1, .val (.long j2), .second, .val (.long j4), .second, .val (.long j6), .second, s8, s9, .val (.ref o10), .val .null, .val (.ref o12), .val (.ref o13), .val (.ref b6), .val (.ref br), .val .null, .val (.int (1 : Int32))] [(.int (1 : Int32))])) _
  refine XS.ifNo X11.here hx rfl (hb hby at_210) rfl ((if0 _ _).trans (feq hc210).1) ?_
  show Steps p.tables e below (T11.setTop (mkF m 213 #[s0, s1, .val (.long j2), .second, .val (.long j4), .second, .val (.long j6), .second, s8, s9, .val (.ref o10), .val .null, .val (.ref o12), .val (.ref o13), .val (.ref b6), .val (.ref br), .val .null, .val (.int (1 : Int32))] [])) _
  refine XS.aload X11.here hx rfl (hb hby at_213) rfl rfl ?_
  show Steps p.tables e below (T11.setTop (mkF m 215 #[s0, s1, .val (.long j2), .second, .val (.long j4), .second, .val (.long j6), .second, s8, s9, .val (.ref o10), .val .null, .val (.ref o12), .val (.ref o13), .val (.ref b6), .val (.ref br), .val .null, .val (.int (1 : Int32))] [(.ref br)])) _
  refine st12.trans ?_
  show Steps p.tables e below (T12.setTop (mkF m 218 #[s0, s1, .val (.long j2), .second, .val (.long j4), .second, .val (.long j6), .second, s8, s9, .val (.ref o10), .val .null, .val (.ref o12), .val (.ref o13), .val (.ref b6), .val (.ref br), .val .null, .val (.int (1 : Int32))] [(.ref o13)])) _
  refine XS.aload X12.here hx rfl (hb hby at_218) rfl rfl ?_
  show Steps p.tables e below (T12.setTop (mkF m 220 #[s0, s1, .val (.long j2), .second, .val (.long j4), .second, .val (.long j6), .second, s8, s9, .val (.ref o10), .val .null, .val (.ref o12), .val (.ref o13), .val (.ref b6), .val (.ref br), .val .null, .val (.int (1 : Int32))] [(.ref o13), (.ref o13)])) _
  refine Jvm.RoadKit.acmp (g := (mkF m 220 #[s0, s1, .val (.long j2), .second, .val (.long j4), .second, .val (.long j6), .second, s8, s9, .val (.ref o10), .val .null, .val (.ref o12), .val (.ref o13), .val (.ref b6), .val (.ref br), .val .null, .val (.int (1 : Int32))] [(.ref o13), (.ref o13)])) X12 hx rfl rfl rfl (pc0 := 220) (pc' := 223) (same := true) rfl (hb hby at_220) rfl (decide_eq_true (congrArg Value.ref ha220)) (by decide) (by decide) ?_
  show Steps p.tables e below (T12.setTop (mkF m 223 #[s0, s1, .val (.long j2), .second, .val (.long j4), .second, .val (.long j6), .second, s8, s9, .val (.ref o10), .val .null, .val (.ref o12), .val (.ref o13), .val (.ref b6), .val (.ref br), .val .null, .val (.int (1 : Int32))] [])) _
  refine XS.aload X12.here hx rfl (hb hby at_223) rfl rfl ?_
  show Steps p.tables e below (T12.setTop (mkF m 225 #[s0, s1, .val (.long j2), .second, .val (.long j4), .second, .val (.long j6), .second, s8, s9, .val (.ref o10), .val .null, .val (.ref o12), .val (.ref o13), .val (.ref b6), .val (.ref br), .val .null, .val (.int (1 : Int32))] [(.ref br)])) _
  refine st13.trans ?_
  show Steps p.tables e below (T13.setTop (mkF m 228 #[s0, s1, .val (.long j2), .second, .val (.long j4), .second, .val (.long j6), .second, s8, s9, .val (.ref o10), .val .null, .val (.ref o12), .val (.ref o13), .val (.ref b6), .val (.ref br), .val .null, .val (.int (1 : Int32))] [(.long j2)])) _
  refine XS.lloadN X13.here hx rfl (hb hby at_228) rfl ?_
  show Steps p.tables e below (T13.setTop (mkF m 229 #[s0, s1, .val (.long j2), .second, .val (.long j4), .second, .val (.long j6), .second, s8, s9, .val (.ref o10), .val .null, .val (.ref o12), .val (.ref o13), .val (.ref b6), .val (.ref br), .val .null, .val (.int (1 : Int32))] [(.long j2), (.long j2)])) _
  refine XS.lcmp X13.here hx rfl (hb hby at_229) rfl ?_
  show Steps p.tables e below (T13.setTop (mkF m 230 #[s0, s1, .val (.long j2), .second, .val (.long j4), .second, .val (.long j6), .second, s8, s9, .val (.ref o10), .val .null, .val (.ref o12), .val (.ref o13), .val (.ref b6), .val (.ref br), .val .null, .val (.int (1 : Int32))] [(.int (lcmpW j2 j2))])) _
  refine XS.ifNo X13.here hx rfl (hb hby at_230) rfl ((if0 _ _).trans (teq ht230).2) ?_
  show Steps p.tables e below (T13.setTop (mkF m 233 #[s0, s1, .val (.long j2), .second, .val (.long j4), .second, .val (.long j6), .second, s8, s9, .val (.ref o10), .val .null, .val (.ref o12), .val (.ref o13), .val (.ref b6), .val (.ref br), .val .null, .val (.int (1 : Int32))] [])) _
  refine XS.aload X13.here hx rfl (hb hby at_233) rfl rfl ?_
  show Steps p.tables e below (T13.setTop (mkF m 235 #[s0, s1, .val (.long j2), .second, .val (.long j4), .second, .val (.long j6), .second, s8, s9, .val (.ref o10), .val .null, .val (.ref o12), .val (.ref o13), .val (.ref b6), .val (.ref br), .val .null, .val (.int (1 : Int32))] [(.ref br)])) _
  refine st14.trans ?_
  show Steps p.tables e below (T14.setTop (mkF m 238 #[s0, s1, .val (.long j2), .second, .val (.long j4), .second, .val (.long j6), .second, s8, s9, .val (.ref o10), .val .null, .val (.ref o12), .val (.ref o13), .val (.ref b6), .val (.ref br), .val .null, .val (.int (1 : Int32))] [(.long j6)])) _
  refine XS.lload X14.here hx rfl (hb hby at_238) rfl ?_
  show Steps p.tables e below (T14.setTop (mkF m 240 #[s0, s1, .val (.long j2), .second, .val (.long j4), .second, .val (.long j6), .second, s8, s9, .val (.ref o10), .val .null, .val (.ref o12), .val (.ref o13), .val (.ref b6), .val (.ref br), .val .null, .val (.int (1 : Int32))] [(.long j6), (.long j6)])) _
  refine XS.lcmp X14.here hx rfl (hb hby at_240) rfl ?_
  show Steps p.tables e below (T14.setTop (mkF m 241 #[s0, s1, .val (.long j2), .second, .val (.long j4), .second, .val (.long j6), .second, s8, s9, .val (.ref o10), .val .null, .val (.ref o12), .val (.ref o13), .val (.ref b6), .val (.ref br), .val .null, .val (.int (1 : Int32))] [(.int (lcmpW j6 j6))])) _
  refine XS.ifNo X14.here hx rfl (hb hby at_241) rfl ((if0 _ _).trans (teq ht241).2) ?_
  show Steps p.tables e below (T14.setTop (mkF m 244 #[s0, s1, .val (.long j2), .second, .val (.long j4), .second, .val (.long j6), .second, s8, s9, .val (.ref o10), .val .null, .val (.ref o12), .val (.ref o13), .val (.ref b6), .val (.ref br), .val .null, .val (.int (1 : Int32))] [])) _
  refine XS.aload X14.here hx rfl (hb hby at_244) rfl rfl ?_
  show Steps p.tables e below (T14.setTop (mkF m 246 #[s0, s1, .val (.long j2), .second, .val (.long j4), .second, .val (.long j6), .second, s8, s9, .val (.ref o10), .val .null, .val (.ref o12), .val (.ref o13), .val (.ref b6), .val (.ref br), .val .null, .val (.int (1 : Int32))] [(.ref b6)])) _
  refine st15.trans ?_
  show Steps p.tables e below (T15.setTop (mkF m 249 #[s0, s1, .val (.long j2), .second, .val (.long j4), .second, .val (.long j6), .second, s8, s9, .val (.ref o10), .val .null, .val (.ref o12), .val (.ref o13), .val (.ref b6), .val (.ref br), .val .null, .val (.int (1 : Int32))] [(.ref o12)])) _
  refine XS.aload X15.here hx rfl (hb hby at_249) rfl rfl ?_
  show Steps p.tables e below (T15.setTop (mkF m 251 #[s0, s1, .val (.long j2), .second, .val (.long j4), .second, .val (.long j6), .second, s8, s9, .val (.ref o10), .val .null, .val (.ref o12), .val (.ref o13), .val (.ref b6), .val (.ref br), .val .null, .val (.int (1 : Int32))] [(.ref o12), (.ref o12)])) _
  refine Jvm.RoadKit.acmp (g := (mkF m 251 #[s0, s1, .val (.long j2), .second, .val (.long j4), .second, .val (.long j6), .second, s8, s9, .val (.ref o10), .val .null, .val (.ref o12), .val (.ref o13), .val (.ref b6), .val (.ref br), .val .null, .val (.int (1 : Int32))] [(.ref o12), (.ref o12)])) X15 hx rfl rfl rfl (pc0 := 251) (pc' := 254) (same := true) rfl (hb hby at_251) rfl (decide_eq_true (congrArg Value.ref ha251)) (by decide) (by decide) ?_
  show Steps p.tables e below (T15.setTop (mkF m 254 #[s0, s1, .val (.long j2), .second, .val (.long j4), .second, .val (.long j6), .second, s8, s9, .val (.ref o10), .val .null, .val (.ref o12), .val (.ref o13), .val (.ref b6), .val (.ref br), .val .null, .val (.int (1 : Int32))] [])) _
  refine XS.aload X15.here hx rfl (hb hby at_254) rfl rfl ?_
  show Steps p.tables e below (T15.setTop (mkF m 256 #[s0, s1, .val (.long j2), .second, .val (.long j4), .second, .val (.long j6), .second, s8, s9, .val (.ref o10), .val .null, .val (.ref o12), .val (.ref o13), .val (.ref b6), .val (.ref br), .val .null, .val (.int (1 : Int32))] [(.ref b6)])) _
  refine st16.trans ?_
  show Steps p.tables e below (T16.setTop (mkF m 259 #[s0, s1, .val (.long j2), .second, .val (.long j4), .second, .val (.long j6), .second, s8, s9, .val (.ref o10), .val .null, .val (.ref o12), .val (.ref o13), .val (.ref b6), .val (.ref br), .val .null, .val (.int (1 : Int32))] [(.long j4)])) _
  refine XS.lload X16.here hx rfl (hb hby at_259) rfl ?_
  show Steps p.tables e below (T16.setTop (mkF m 261 #[s0, s1, .val (.long j2), .second, .val (.long j4), .second, .val (.long j6), .second, s8, s9, .val (.ref o10), .val .null, .val (.ref o12), .val (.ref o13), .val (.ref b6), .val (.ref br), .val .null, .val (.int (1 : Int32))] [(.long j4), (.long j4)])) _
  refine XS.lcmp X16.here hx rfl (hb hby at_261) rfl ?_
  show Steps p.tables e below (T16.setTop (mkF m 262 #[s0, s1, .val (.long j2), .second, .val (.long j4), .second, .val (.long j6), .second, s8, s9, .val (.ref o10), .val .null, .val (.ref o12), .val (.ref o13), .val (.ref b6), .val (.ref br), .val .null, .val (.int (1 : Int32))] [(.int (lcmpW j4 j4))])) _
  refine XS.ifNo X16.here hx rfl (hb hby at_262) rfl ((if0 _ _).trans (teq ht262).2) ?_
  exact kt
set_option maxRecDepth 65536 in
set_option maxHeartbeats 40000000 in
theorem own_p2 {p : Program} {l : Launch} {e : Env} {R : Room} {s : State} {m : MethodId} {args : Array Value} {below : List Frame} {meth : Method} {c : Code} {T0 : State} {locs : List Loc} {cells slots : Nat} {Z : State} {a0 : Array Value} {h0 : Heap} (s0 : Slot) (i1 : Int32) (s2 : Slot) (s3 : Slot) (s4 : Slot) (s5 : Slot) (s6 : Slot) (s7 : Slot) (s8 : Slot) (s9 : Slot) (s10 : Slot) (s11 : Slot) (s12 : Slot) (s13 : Slot) (s14 : Slot) (s15 : Slot) (s16 : Slot) (s17 : Slot) (wON wOFF : Addr)
    (X0 : Stand p l e R s m args below meth c T0 locs cells slots) (hx : p.tables.exec = Jvm.exec) (hZ : Z.Warmed39 s.vm) (hw : ∀ d ∈ tables_1, d.before a0 Z = true) (hby : c.code = code) (hml : c.maxLocals = 18) (hown : s.vm.findClass "com/example/shardgate/shardgate/subscriptions/SubscriptionInPinLaw" = some m.cls) (e0 : T0.heap = h0) (S_ONLINE : Sta Z h0 "com/example/shardgate/shardgate/subscriptions/Subscription$State" "ONLINE" "Lcom/example/shardgate/shardgate/subscriptions/Subscription$State;" (.ref wON)) (S_OFFLINE : Sta Z h0 "com/example/shardgate/shardgate/subscriptions/Subscription$State" "OFFLINE" "Lcom/example/shardgate/shardgate/subscriptions/Subscription$State;" (.ref wOFF)) (hs12 : One s12) :
    ∃ (T' : State) (ox : Addr), Stand p l e R s m args below meth c T' locs cells slots ∧ T'.heap = h0 ∧
      ∀ target, Steps p.tables e below (T'.setTop (mkF m 108 #[s0, .val (.int i1), s2, s3, s4, s5, s6, s7, s8, s9, s10, s11, .val (.ref ox), s13, s14, s15, s16, s17] [])) target → Steps p.tables e below (T0.setTop (mkF m 91 #[s0, .val (.int i1), s2, s3, s4, s5, s6, s7, s8, s9, s10, s11, s12, s13, s14, s15, s16, s17] [])) target := by
  by_cases hq : (i1 &&& (1 : Int32)) = (0 : Int32)
  · obtain ⟨T', X', e', st'⟩ := own_p2t s0 i1 s2 s3 s4 s5 s6 s7 s8 s9 s10 s11 s12 s13 s14 s15 s16 s17 wON X0 hx hZ hw hby hml hown e0 S_ONLINE hs12 hq; exact ⟨T', _, X', e', st'⟩
  · obtain ⟨T', X', e', st'⟩ := own_p2f s0 i1 s2 s3 s4 s5 s6 s7 s8 s9 s10 s11 s12 s13 s14 s15 s16 s17 wOFF X0 hx hZ hw hby hml hown e0 S_OFFLINE hs12 hq; exact ⟨T', _, X', e', st'⟩
set_option maxRecDepth 65536 in
set_option maxHeartbeats 40000000 in
theorem own_p3 {p : Program} {l : Launch} {e : Env} {R : Room} {s : State} {m : MethodId} {args : Array Value} {below : List Frame} {meth : Method} {c : Code} {T0 : State} {locs : List Loc} {cells slots : Nat} {Z : State} {a0 : Array Value} {h0 : Heap} (s0 : Slot) (i1 : Int32) (s2 : Slot) (s3 : Slot) (s4 : Slot) (s5 : Slot) (s6 : Slot) (s7 : Slot) (s8 : Slot) (s9 : Slot) (s10 : Slot) (s11 : Slot) (s12 : Slot) (s13 : Slot) (s14 : Slot) (s15 : Slot) (s16 : Slot) (s17 : Slot) (wON wOFF : Addr)
    (X0 : Stand p l e R s m args below meth c T0 locs cells slots) (hx : p.tables.exec = Jvm.exec) (hZ : Z.Warmed39 s.vm) (hw : ∀ d ∈ tables_1, d.before a0 Z = true) (hby : c.code = code) (hml : c.maxLocals = 18) (hown : s.vm.findClass "com/example/shardgate/shardgate/subscriptions/SubscriptionInPinLaw" = some m.cls) (e0 : T0.heap = h0) (S_ONLINE : Sta Z h0 "com/example/shardgate/shardgate/subscriptions/Subscription$State" "ONLINE" "Lcom/example/shardgate/shardgate/subscriptions/Subscription$State;" (.ref wON)) (S_OFFLINE : Sta Z h0 "com/example/shardgate/shardgate/subscriptions/Subscription$State" "OFFLINE" "Lcom/example/shardgate/shardgate/subscriptions/Subscription$State;" (.ref wOFF)) (hs13 : One s13) :
    ∃ (T' : State) (ox : Addr), Stand p l e R s m args below meth c T' locs cells slots ∧ T'.heap = h0 ∧
      ∀ target, Steps p.tables e below (T'.setTop (mkF m 125 #[s0, .val (.int i1), s2, s3, s4, s5, s6, s7, s8, s9, s10, s11, s12, .val (.ref ox), s14, s15, s16, s17] [])) target → Steps p.tables e below (T0.setTop (mkF m 108 #[s0, .val (.int i1), s2, s3, s4, s5, s6, s7, s8, s9, s10, s11, s12, s13, s14, s15, s16, s17] [])) target := by
  by_cases hq : (i1 &&& (2 : Int32)) = (0 : Int32)
  · obtain ⟨T', X', e', st'⟩ := own_p3t s0 i1 s2 s3 s4 s5 s6 s7 s8 s9 s10 s11 s12 s13 s14 s15 s16 s17 wON X0 hx hZ hw hby hml hown e0 S_ONLINE hs13 hq; exact ⟨T', _, X', e', st'⟩
  · obtain ⟨T', X', e', st'⟩ := own_p3f s0 i1 s2 s3 s4 s5 s6 s7 s8 s9 s10 s11 s12 s13 s14 s15 s16 s17 wOFF X0 hx hZ hw hby hml hown e0 S_OFFLINE hs13 hq; exact ⟨T', _, X', e', st'⟩
theorem pn_0 : plainName "com/example/shardgate/shardgate/subscriptions/SubscriptionInPinLaw" = true := by first | (simp [plainName, overriddenIn]; done) | decide +kernel
theorem ef_0 (m : MethodId) (x0 : Int32) (x1 : Int32) (x2 : Int64) (x3 : Int64) (x4 : Int64) : entryFrame m #[(.int x0), (.int x1), (.long x2), (.long x3), (.long x4)] maxLocals = mkF m 0 #[.val (.int x0), .val (.int x1), .val (.long x2), .second, .val (.long x3), .second, .val (.long x4), .second, .unset, .unset, .unset, .unset, .unset, .unset, .unset, .unset, .unset, .unset] [] := by first | (simp [entryFrame, mkF, argsToLocals, Value.category, maxLocals]; done) | rfl
def Q0 (Z : State) (h0 : Heap) (n0 : Nat) (v : Option Value) (h : Heap) (L : List Loc) : Prop := v = some (.int (1 : Int32)) ∧ Fr n0 L
theorem own_lc (x : Int64) : lcmpW x x = 0 := by rw [lcW]; exact (lc_eq _ _).mpr rfl
set_option maxRecDepth 65536 in
set_option maxHeartbeats 40000000 in
theorem rm0 (l : Launch) (Z : State) (a0 : Array Value) (hw : ∀ d ∈ tables_1, d.before a0 Z = true) (ws : List Jvm.Cond) (p1 : Int32) (p2 : Int32) (q3 : Int64) (q4 : Int64) (q5 : Int64) (G1 : Int32) (wON : Addr) (wOFF : Addr) (h0 : Heap) (n0 : Nat) (Z0 : n0 ≤ h0.size) (S_CS : Sta Z h0 "java/lang/String" "COMPACT_STRINGS" "Z" (.int G1)) (P5 : ¬ (G1 = (0 : Int32))) (S_ONLINE : Sta Z h0 "com/example/shardgate/shardgate/subscriptions/Subscription$State" "ONLINE" "Lcom/example/shardgate/shardgate/subscriptions/Subscription$State;" (.ref wON)) (S_OFFLINE : Sta Z h0 "com/example/shardgate/shardgate/subscriptions/Subscription$State" "OFFLINE" "Lcom/example/shardgate/shardgate/subscriptions/Subscription$State;" (.ref wOFF)) :
    MetFree l x (head1 (Jvm.Cond.code x code maxLocals ret :: ws) room_1) (fun a U => a = #[(.int p1), (.int p2), (.long q3), (.long q4), (.long q5)] ∧ Z.Warmed39 U.vm ∧ U.heap = h0) (fun _ _ _ _ _ => True) (fun _ U o U' => ∃ v L, o = .returned v ∧ Q0 Z h0 n0 v U'.heap L ∧ FrameEnd U o U' L room_1.cells room_1.slots) := by
  refine MetFree.of_bodySF (plainFor_of_name pn_0) hisR ?_
  intro p e s m args below meth c s₁ Bd hml0 hP hK
  obtain ⟨rfl, hZ, hh⟩ := hP
  have hx := Bd.exec
  have hby := Bd.bytes
  have hml : c.maxLocals = 18 := hml0
  have hown : s.vm.findClass "com/example/shardgate/shardgate/subscriptions/SubscriptionInPinLaw" = some m.cls := findClass_of_methodNamed Bd.named
  have hnm := (name_of_methodNamed Bd.named Bd.method).1
  have X0 : Stand p l e room_1 s m #[(.int p1), (.int p2), (.long q3), (.long q4), (.long q5)] below meth c s₁ [] 0 0 := Stand.of_body Bd
  have e0 : s₁.heap = h0 := by rw [← hh, Bd.state]; rfl
  have N0 := Fr.nil n0
  have pre0 : ∀ t, Steps p.tables e below (s₁.setTop (mkF m 0 #[.val (.int p1), .val (.int p2), .val (.long q3), .second, .val (.long q4), .second, .val (.long q5), .second, .unset, .unset, .unset, .unset, .unset, .unset, .unset, .unset, .unset, .unset] [])) t → Steps p.tables e below (s₁.setTop (entryFrame m #[(.int p1), (.int p2), (.long q3), (.long q4), (.long q5)] maxLocals)) t := fun t k => castTop (ef_0 m p1 p2 q3 q4 q5) k
  obtain ⟨T1, h1, locs1, o8, o9, o10, k9, X1, e1, N1, K1, E1, V1, st1⟩ := own_p0 p1 (.val (.int p2)) (.val (.long q3)) .second (.val (.long q4)) .second (.val (.long q5)) .second .unset .unset .unset .unset .unset .unset .unset .unset .unset .unset G1 X0 hx hZ hw hby hml hown e0 N0 Z0 S_CS P5 One.u One.u One.u
  have Z1 := Nat.le_trans Z0 K1.1
  have S1 := S_CS.ext (own_ext K1)
  have ON1 := S_ONLINE.ext (own_ext K1)
  have OF1 := S_OFFLINE.ext (own_ext K1)
  have hp : ∀ c ∈ ([(nar .char ((((p1.toUInt32 >>> ((16 : Int32) &&& 31).toUInt32).toInt32) &&& (255 : Int32)).toUInt32.toUInt16.toUInt32.toInt32)), (nar .char ((((p1.toUInt32 >>> ((24 : Int32) &&& 31).toUInt32).toInt32) &&& (255 : Int32)).toUInt32.toUInt16.toUInt32.toInt32))] : List Int32), ¬ c < 0 ∧ ¬ (255 : Int32) < c := by
    intro c hc
    simp only [List.mem_cons, List.not_mem_nil, or_false] at hc
    rcases hc with rfl | rfl
    · exact own_255 ((p1.toUInt32 >>> ((16 : Int32) &&& 31).toUInt32).toInt32)
    · exact own_255 ((p1.toUInt32 >>> ((24 : Int32) &&& 31).toUInt32).toInt32)
  by_cases hq : (p2 &&& (4 : Int32)) = (0 : Int32)
  · obtain ⟨T2, h2, locs2, o11, X2, e2, N2, K2, E2, st2⟩ := own_p1t (.val (.int p1)) p2 (.val (.long q3)) .second (.val (.long q4)) .second (.val (.long q5)) .second (.val (.ref o8)) o9 (.val (.ref o10)) .unset .unset .unset .unset .unset .unset .unset G1 _ k9 X1 hx hZ hw hby hml hown e1 N1 Z1 S1 P5 V1 rfl hp One.u hq
    have Z2 := Nat.le_trans Z1 K2.1
    have E10 := E1.keep K2
    have ON2 := ON1.ext (own_ext K2)
    have OF2 := OF1.ext (own_ext K2)
    obtain ⟨T3, o12, X3, e3, st3⟩ := own_p2 (.val (.int p1)) p2 (.val (.long q3)) .second (.val (.long q4)) .second (.val (.long q5)) .second (.val (.ref o8)) (.val (.ref o9)) (.val (.ref o10)) (.val (.ref o11)) .unset .unset .unset .unset .unset .unset wON wOFF X2 hx hZ hw hby hml hown e2 ON2 OF2 One.u
    obtain ⟨T4, o13, X4, e4, st4⟩ := own_p3 (.val (.int p1)) p2 (.val (.long q3)) .second (.val (.long q4)) .second (.val (.long q5)) .second (.val (.ref o8)) (.val (.ref o9)) (.val (.ref o10)) (.val (.ref o11)) (.val (.ref o12)) .unset .unset .unset .unset .unset wON wOFF X3 hx hZ hw hby hml hown e3 ON2 OF2 One.u
    obtain ⟨T5, h5, locs5, x14, x15, X5, e5, N5, -, st5⟩ := own_p4 (.val (.int p1)) (.val (.int p2)) q3 q4 q5 (.val (.ref o8)) (.val (.ref o9)) o10 o11 o12 o13 .unset .unset .unset .unset X4 hx hZ hw hby hml hown e4 N2 Z2 One.u One.u One.u One.u E2 E10 (by decide) (by decide) rfl (own_lc _) (own_lc _) rfl (own_lc _)
    obtain ⟨fs, hr, hrun, hended, hW, hsame⟩ := X5.leave (v := some (.int (1 : Int32))) (fun h => by rw [Bd.returns] at h; cases h) (BodyLoose.notSynchronized Bd)
    refine ⟨_, _, pre0 _ ?_, hrun, hended, _, _, rfl, ⟨rfl, N5⟩, ⟨_, rfl⟩, hW, hsame.mono (by decide) (by decide)⟩
    refine st1 _ ?_
    refine st2 _ ?_
    refine st3 _ ?_
    refine st4 _ ?_
    refine st5 _ ?_
    refine XS.iconst X5.here hx rfl (hb hby at_265) ?_
    show Steps p.tables e below (T5.setTop (mkF m 266 _ [(.int (1 : Int32))])) _
    refine XS.goto X5.here hx rfl (pc0 := 266) (pc' := 270) rfl (hb hby at_266) (by decide) (by decide) ?_
    show Steps p.tables e below (T5.setTop (mkF m 270 _ [(.int (1 : Int32))])) _
    exact retN X5 hx (t := .boolean) Bd.returns (by simp) (hb hby at_270) hr
  · obtain ⟨T2, X2, e2, st2⟩ := own_p1f (.val (.int p1)) p2 (.val (.long q3)) .second (.val (.long q4)) .second (.val (.long q5)) .second (.val (.ref o8)) (.val (.ref o9)) (.val (.ref o10)) .unset .unset .unset .unset .unset .unset .unset X1 hx hZ hw hby hml hown e1 One.u hq
    have Z2 := Z1
    have N2 := N1
    have E10 := E1
    have ON2 := ON1
    have OF2 := OF1
    obtain ⟨T3, o12, X3, e3, st3⟩ := own_p2 (.val (.int p1)) p2 (.val (.long q3)) .second (.val (.long q4)) .second (.val (.long q5)) .second (.val (.ref o8)) (.val (.ref o9)) (.val (.ref o10)) (.val .null) .unset .unset .unset .unset .unset .unset wON wOFF X2 hx hZ hw hby hml hown e2 ON2 OF2 One.u
    obtain ⟨T4, o13, X4, e4, st4⟩ := own_p3 (.val (.int p1)) p2 (.val (.long q3)) .second (.val (.long q4)) .second (.val (.long q5)) .second (.val (.ref o8)) (.val (.ref o9)) (.val (.ref o10)) (.val .null) (.val (.ref o12)) .unset .unset .unset .unset .unset wON wOFF X3 hx hZ hw hby hml hown e3 ON2 OF2 One.u
    obtain ⟨T5, h5, locs5, x14, x15, X5, e5, N5, -, st5⟩ := own_p4n (.val (.int p1)) (.val (.int p2)) q3 q4 q5 (.val (.ref o8)) (.val (.ref o9)) o10 o12 o13 .unset .unset .unset .unset X4 hx hZ hw hby hml hown e4 N2 Z2 One.u One.u One.u One.u E10 (by decide) (by decide) rfl (own_lc _) (own_lc _) rfl (own_lc _)
    obtain ⟨fs, hr, hrun, hended, hW, hsame⟩ := X5.leave (v := some (.int (1 : Int32))) (fun h => by rw [Bd.returns] at h; cases h) (BodyLoose.notSynchronized Bd)
    refine ⟨_, _, pre0 _ ?_, hrun, hended, _, _, rfl, ⟨rfl, N5⟩, ⟨_, rfl⟩, hW, hsame.mono (by decide) (by decide)⟩
    refine st1 _ ?_
    refine st2 _ ?_
    refine st3 _ ?_
    refine st4 _ ?_
    refine st5 _ ?_
    refine XS.iconst X5.here hx rfl (hb hby at_265) ?_
    show Steps p.tables e below (T5.setTop (mkF m 266 _ [(.int (1 : Int32))])) _
    refine XS.goto X5.here hx rfl (pc0 := 266) (pc' := 270) rfl (hb hby at_266) (by decide) (by decide) ?_
    show Steps p.tables e below (T5.setTop (mkF m 270 _ [(.int (1 : Int32))])) _
    exact retN X5 hx (t := .boolean) Bd.returns (by simp) (hb hby at_270) hr
set_option maxRecDepth 65536 in
set_option maxHeartbeats 40000000 in
theorem comes_1 {Post : Tables → Env → Array Value → State → Outcome → State → Prop} (hpost : ∀ tb e args s v u, (limb_1_1.after args s (.returned v) u = true ∧ limb_1_2.after args s (.returned v) u = true ∧ True) → FrameEnd s (.returned v) u (Jvm.fieldLocs frame_1_writes args s ++ Jvm.arrayLocs frame_1_arrays args s ++ Jvm.staticLocs frame_1_statics s) 24 128 → Post tb e args s (.returned v) u) :
    ArmFor flags0 classFile x code maxLocals ret World_1 tables_1 room_1 Calls_1 rest_1 Pre_1 Post := by
  intro l hfl _ _ p e ha hc hk s m args below hf hA hF happ hP
  obtain ⟨hcalls, hrest, hpre⟩ := hP
  obtain ⟨-, -, -, hnamed, -, -, -, hat⟩ := (Spec.applies_iff hf).mp happ
  obtain ⟨hg, hn⟩ := and_e (Cond.before_iff.mp (show (Jvm.Cond.and given_1 narrow_1).before args s = true from hpre))
  obtain ⟨g31, g32⟩ := and_e hg
  obtain ⟨g33, g34⟩ := and_e g32
  obtain ⟨g35, g36⟩ := and_e g34
  obtain ⟨g37, g38⟩ := and_e g36
  obtain ⟨g39, g40⟩ := and_e g38
  obtain ⟨w0, w1, w2, w3, w4, rfl⟩ : ∃ w0 w1 w2 w3 w4 : Value, args = #[w0, w1, w2, w3, w4] := by
    have hs : args.size = 5 := by simpa [Cond.value, given_1] using g31
    obtain ⟨L⟩ := args
    match L, hs with
    | [w0, w1, w2, w3, w4], _ => exact ⟨w0, w1, w2, w3, w4, rfl⟩
  have hw := fun d (hd : d ∈ tables_1) => atoms_spec (ws := Jvm.Cond.code x code maxLocals ret :: tables_1) hat d (List.mem_cons_of_mem _ hd)
  have hfit : Fit s := fun {y c} hc i hi => by
    obtain ⟨ha, rfl⟩ := Array.getElem?_eq_some_iff.mp hc
    have q := List.all_eq_true.mp ((Array.all_eq_true_iff_forall_mem.mp hF) _ (Array.getElem_mem ha)) i (List.mem_range.mpr hi)
    simpa [Array.getElem?_eq_getElem hi] using q
  -- the named sets: hsets indexes jdkStatics_1 (Statement.lean): (hsets _ (List.mem_of_getElem? (i := n) rfl)) is its n-th word, before the call
  obtain ⟨hsets, hown0⟩ := atoms_of _ (rest_1_c_eq ▸ (show rest_1_c.before _ s = true from hrest))
  have hr0 := Cond.before_iff.mp hown0
  obtain ⟨i0, ei0⟩ := is_v g33
  obtain rfl : w0 = (.int i0) := Option.some.inj ei0
  obtain ⟨i1, ei1⟩ := is_v g35
  obtain rfl : w1 = (.int i1) := Option.some.inj ei1
  obtain ⟨i2, ei2⟩ := isL_v g37
  obtain rfl : w2 = (.long i2) := Option.some.inj ei2
  obtain ⟨i3, ei3⟩ := isL_v g39
  obtain rfl : w3 = (.long i3) := Option.some.inj ei3
  obtain ⟨i4, ei4⟩ := isL_v g40
  obtain rfl : w4 = (.long i4) := Option.some.inj ei4
  obtain ⟨hsets, hown0⟩ := atoms_of _ (rest_1_c_eq ▸ (show rest_1_c.before _ s = true from hrest))
  have n3 := not_v (Cond.before_iff.mp (hsets _ (List.mem_of_getElem? (i := 2) rfl)))
  obtain ⟨G1, eG⟩ := is_v (Cond.before_iff.mp (hsets _ (List.mem_of_getElem? (i := 1) rfl)))
  have S_CS := Sta.start eG (Or.inl (hsets _ (List.mem_of_getElem? (i := 0) rfl)))
  have P5 : ¬ (G1 = (0 : Int32)) := gotF (Cond.eq_ints eG (Term.int_eval (0))) n3
  obtain ⟨nn0, mm0⟩ := and_e hn
  obtain ⟨w_OFFLINE, ev_OFFLINE⟩ := exa_v nn0
  have S_OFFLINE := Sta.start ev_OFFLINE (Or.inr ⟨(hw _ (List.mem_of_getElem? (i := 31) rfl)), (hw _ (List.mem_of_getElem? (i := 32) rfl))⟩)
  have E_OFFLINE := Exa.start ev_OFFLINE nn0
  obtain ⟨w_ONLINE, ev_ONLINE⟩ := exa_v mm0
  have S_ONLINE := Sta.start ev_ONLINE (Or.inr ⟨(hw _ (List.mem_of_getElem? (i := 31) rfl)), (hw _ (List.mem_of_getElem? (i := 93) rfl))⟩)
  have E_ONLINE := Exa.start ev_ONLINE mm0
  obtain ⟨n, o, h1, h2, h3, _, L, rfl, ⟨rfl, N⟩, hq⟩ := rm0 l s _ hw tables_1 i0 i1 i2 i3 i4 G1 w_ONLINE w_OFFLINE s.heap s.heap.size (Nat.le_refl _) S_CS P5 S_ONLINE S_OFFLINE p e ha hc hk s m _ below hf ((Spec.applies_iff_loose hf).mp happ).1 ⟨rfl, State.Warmed39.refl s, rfl⟩ trivial
  refine ⟨n, _, h1, h2, h3, hpost _ _ _ _ _ _ ⟨Cond.after_iff.mpr rfl, Cond.after_iff.mpr (eq_i res_at (Term.int_eval (1)) rfl), trivial⟩ ⟨hq.1, hq.2.1, (hq.2.2.sift fun y hy => Or.inr (N y hy)).mono (by decide) (by decide)⟩⟩
theorem main_1_1 : Claimed_1_1 := comes_1 fun _ _ _ _ _ _ h hF => ⟨h.1, hF⟩
theorem main_1_2 : Claimed_1_2 := comes_1 fun _ _ _ _ _ _ h hF => ⟨h.2.1, hF⟩
end Jvm.Pilot.@@N@@
namespace Jvm.Pilot.@@N@@
open Jvm Jvm.ClassFile Sem Op Lib Jvm.Free Jvm.Stand Jvm.Pilot.@@N@@.Jvm.D
/-! MADE BY PROGRAM (witnessworld.py) out of the Statement's table words and the real class files: 23 classes; the members and pool entries that the words name. The judged class is class 1, her method 1. -/
namespace start1
open Jvm.ClassFile
def u (s : String) : CpInfo := .utf8 (stringToUtf16 s)
/-- a pool by its gaps: so many unusable entries, then the entry; so many at the end -/
def gap : Nat → List CpInfo → List CpInfo
  | 0, r => r
  | n + 1, r => .unusable :: gap n r
def poolList (es : List (Nat × CpInfo)) (last : Nat) : List CpInfo := es.foldr (fun e r => gap e.1 (e.2 :: r)) (gap last [])
def pool (es : List (Nat × CpInfo)) (last : Nat) : Array CpInfo := ⟨poolList es last⟩
def fileOf (pool : Array CpInfo) (this : Nat) (attrs : Array Attribute := #[]) (ms : Array MethodInfo := #[]) (fl : Nat := 33) (sup : Nat := 0) (ifs : Array Nat := #[]) (fds : Array FieldInfo := #[]) : ClassFile where
  minorVersion := 0
  majorVersion := 65
  constantPool := pool
  accessFlags := fl
  thisClass := this
  superClass := sup
  interfaces := ifs
  fields := fds
  methods := ms
  attributes := attrs
def plain (name : String) (sup : Option ClassId) : Class where
  name := name
  kind := .ordinary
  loader := none
  accessFlags := 33
  super := sup
  interfaces := #[]
  cf := none
  fields := #[]
  methods := #[]
  instanceTypes := #[]
  staticTypes := #[]
  resolved := #[]
  callSites := []
  init := .initialized
  statics := none
  mirror := none

def pool0 : Array CpInfo := pool [(5, u "<init>"), (0, u "()V"), (1, .class_ 10), (1, u "java/lang/Object")] 113

def k0c0 : Code := { maxStack := 0, maxLocals := 1, code := object_method_1_code, exceptionTable := #[], attributes := #[] }
def k0m0 : Method := { name := "<init>", desc := "()V", sig := { parameters := [], returnType := none }, accessFlags := 1, code := some k0c0 }
/-- java/lang/Object -/
def k0 : Class := { plain "java/lang/Object" none with
  accessFlags := 33
  interfaces := #[]
  cf := some (fileOf pool0 8 #[] #[{ accessFlags := 1, nameIndex := 5, descriptorIndex := 6, attributes := #[] }] 33 0 #[] #[])
  fields := #[]
  methods := #[k0m0]
  instanceTypes := #[]
  staticTypes := #[]
  resolved := Array.replicate 124 none
  statics := none }

def pool1 : Array CpInfo := pool [(2, .class_ 4), (1, u "java/lang/Object"), (0, u "<init>"), (0, u "()V"), (0, .class_ 8), (0, u "java/lang/String"), (0, .methodref 7 10), (0, .nameAndType 5 11), (0, u "([C)V"), (0, .fieldref 13 14), (0, .class_ 15), (0, .nameAndType 16 17), (0, u "com/example/shardgate/shardgate/subscriptions/Subscription$State"), (0, u "OFFLINE"), (0, u "Lcom/example/shardgate/shardgate/subscriptions/Subscription$State;"), (0, .fieldref 13 19), (0, .nameAndType 20 17), (0, u "ONLINE"), (0, .class_ 22), (0, u "com/example/shardgate/shardgate/subscriptions/Subscription"), (0, .methodref 21 24), (0, .nameAndType 5 25), (0, u "(Ljava/lang/String;Ljava/lang/String;Lcom/example/shardgate/shardgate/subscriptions/Subscription$State;JJ)V"), (0, .methodref 21 27), (0, .nameAndType 28 29), (0, u "in"), (0, u "(Lcom/example/shardgate/shardgate/subscriptions/Subscription$State;J)Lcom/example/shardgate/shardgate/subscriptions/Subscription;"), (0, .methodref 21 31), (0, .nameAndType 32 33), (0, u "comment"), (0, u "()Ljava/lang/String;"), (0, .methodref 7 35), (0, .nameAndType 36 37), (0, u "equals"), (0, u "(Ljava/lang/Object;)Z"), (0, .methodref 21 39), (0, .nameAndType 40 33), (0, u "id"), (0, .methodref 21 42), (0, .nameAndType 43 44), (0, u "state"), (0, u "()Lcom/example/shardgate/shardgate/subscriptions/Subscription$State;"), (0, .methodref 21 46), (0, .nameAndType 47 48), (0, u "createTime"), (0, u "()J"), (0, .methodref 21 50), (0, .nameAndType 51 48), (0, u "lastModifyTime"), (0, .class_ 53), (0, u "com/example/shardgate/shardgate/subscriptions/SubscriptionInPinLaw"), (2, u "law"), (0, u "(IIJJJ)Z")] 7

def k1m0 : Method := { name := "<init>", desc := "()V", sig := { parameters := [], returnType := none }, accessFlags := 1, code := none }
def k1c1 : Code := { maxStack := 9, maxLocals := 18, code := code, exceptionTable := #[], attributes := #[] }
def k1m1 : Method := { name := "law", desc := "(IIJJJ)Z", sig := { parameters := [.int, .int, .long, .long, .long], returnType := some .boolean }, accessFlags := 9, code := some k1c1 }
/-- com/example/shardgate/shardgate/subscriptions/SubscriptionInPinLaw -/
def k1 : Class := { plain "com/example/shardgate/shardgate/subscriptions/SubscriptionInPinLaw" (some 0) with
  accessFlags := 49
  interfaces := #[]
  cf := some (fileOf pool1 52 #[] #[{ accessFlags := 1, nameIndex := 5, descriptorIndex := 6, attributes := #[] }, { accessFlags := 9, nameIndex := 56, descriptorIndex := 57, attributes := #[] }] 49 2 #[] #[])
  fields := #[]
  methods := #[k1m0, k1m1]
  instanceTypes := #[]
  staticTypes := #[]
  resolved := Array.replicate 65 none
  statics := none }

def pool2 : Array CpInfo := pool [(1, .class_ 2), (0, u "java/io/Serializable"), (0, .class_ 4), (0, u "java/lang/Object")] 2

/-- java/io/Serializable -/
def k2 : Class := { plain "java/io/Serializable" (some 0) with
  accessFlags := 1537
  interfaces := #[]
  cf := some (fileOf pool2 1 #[] #[] 1537 3 #[] #[])
  fields := #[]
  methods := #[]
  instanceTypes := #[]
  staticTypes := #[]
  resolved := Array.replicate 7 none
  statics := none }

def pool3 : Array CpInfo := pool [(1, .class_ 2), (0, u "java/lang/Comparable"), (0, .class_ 4), (0, u "java/lang/Object")] 7

/-- java/lang/Comparable -/
def k3 : Class := { plain "java/lang/Comparable" (some 0) with
  accessFlags := 1537
  interfaces := #[]
  cf := some (fileOf pool3 1 #[] #[] 1537 3 #[] #[])
  fields := #[]
  methods := #[]
  instanceTypes := #[]
  staticTypes := #[]
  resolved := Array.replicate 12 none
  statics := none }

def pool4 : Array CpInfo := pool [(2, .class_ 4), (1, u "java/lang/CharSequence"), (42, .class_ 48), (0, u "java/lang/CharSequence$1CodePointIterator"), (10, .class_ 60), (0, u "java/lang/CharSequence$1CharIterator"), (5, .class_ 67), (0, u "java/lang/Object")] 63

/-- java/lang/CharSequence -/
def k4 : Class := { plain "java/lang/CharSequence" (some 0) with
  accessFlags := 1537
  interfaces := #[]
  cf := some (fileOf pool4 2 #[.nestMembers #[47, 59]] #[] 1537 66 #[] #[])
  fields := #[]
  methods := #[]
  instanceTypes := #[]
  staticTypes := #[]
  resolved := Array.replicate 131 none
  statics := none }

def pool5 : Array CpInfo := pool [(1, .class_ 2), (0, u "java/lang/constant/Constable"), (0, .class_ 4), (0, u "java/lang/Object")] 6

/-- java/lang/constant/Constable -/
def k5 : Class := { plain "java/lang/constant/Constable" (some 0) with
  accessFlags := 1537
  interfaces := #[]
  cf := some (fileOf pool5 1 #[] #[] 1537 3 #[] #[])
  fields := #[]
  methods := #[]
  instanceTypes := #[]
  staticTypes := #[]
  resolved := Array.replicate 11 none
  statics := none }

def pool6 : Array CpInfo := pool [(1, .class_ 2), (0, u "java/lang/constant/ConstantDesc"), (0, .class_ 4), (0, u "java/lang/Object")] 32

/-- java/lang/constant/ConstantDesc -/
def k6 : Class := { plain "java/lang/constant/ConstantDesc" (some 0) with
  accessFlags := 1537
  interfaces := #[]
  cf := some (fileOf pool6 1 #[] #[] 1537 3 #[] #[])
  fields := #[]
  methods := #[]
  instanceTypes := #[]
  staticTypes := #[]
  resolved := Array.replicate 37 none
  statics := none }

def pool7 : Array CpInfo := pool [(1, .methodref 2 3), (0, .class_ 4), (0, .nameAndType 5 6), (0, u "java/lang/Object"), (0, u "<init>"), (0, u "()V"), (2, .fieldref 10 11), (0, .class_ 12), (0, .nameAndType 13 14), (0, u "java/lang/String"), (0, u "value"), (0, u "[B"), (0, .fieldref 10 16), (0, .nameAndType 17 18), (0, u "coder"), (0, u "B"), (2, u "hash"), (0, u "I"), (2, u "hashIsZero"), (0, u "Z"), (0, .methodref 10 28), (0, .nameAndType 5 29), (0, u "([CIILjava/lang/Void;)V"), (8, .fieldref 10 39), (0, .nameAndType 40 26), (0, u "COMPACT_STRINGS"), (1, .class_ 44), (1, u "java/lang/StringUTF16"), (0, u "compress"), (1, .methodref 42 48), (0, .nameAndType 49 50), (0, u "coderFromArrayLen"), (0, u "([BI)B"), (126, .methodref 42 178), (0, .nameAndType 45 179), (0, u "([CII)[B"), (363, u "equals"), (29, u "(Ljava/lang/Object;)Z"), (1, .class_ 576), (0, u "java/lang/CharSequence"), (22, u "CASE_INSENSITIVE_ORDER"), (0, u "Ljava/util/Comparator;"), (409, u "([C)V"), (90, u "serialPersistentFields"), (0, u "[Ljava/io/ObjectStreamField;"), (0, .class_ 1104), (0, u "java/lang/String$CaseInsensitiveComparator"), (1, .class_ 1107), (0, u "java/io/Serializable"), (0, .class_ 1109), (0, u "java/lang/Comparable"), (0, .class_ 1111), (0, u "java/lang/constant/Constable"), (0, .class_ 1113), (0, u "java/lang/constant/ConstantDesc"), (2, u "serialVersionUID"), (0, u "J"), (3, u "REPL"), (0, u "C"), (2, u "LATIN1"), (1, u "UTF16")] 323

def k7m0 : Method := { name := "<init>", desc := "()V", sig := { parameters := [], returnType := none }, accessFlags := 1, code := none }
def k7c1 : Code := { maxStack := 5, maxLocals := 2, code := jdk_42_method_3_code, exceptionTable := #[], attributes := #[] }
def k7m1 : Method := { name := "<init>", desc := "([C)V", sig := { parameters := [(.array .char)], returnType := none }, accessFlags := 1, code := some k7c1 }
def k7c2 : Code := { maxStack := 2, maxLocals := 3, code := jdk_42_method_66_code, exceptionTable := #[], attributes := #[] }
def k7m2 : Method := { name := "equals", desc := "(Ljava/lang/Object;)Z", sig := { parameters := [(.object "java/lang/Object")], returnType := some .boolean }, accessFlags := 1, code := some k7c2 }
def k7c3 : Code := { maxStack := 4, maxLocals := 6, code := jdk_42_method_149_code, exceptionTable := #[], attributes := #[] }
def k7m3 : Method := { name := "<init>", desc := "([CIILjava/lang/Void;)V", sig := { parameters := [(.array .char), .int, .int, (.object "java/lang/Void")], returnType := none }, accessFlags := 2, code := some k7c3 }
/-- java/lang/String -/
def k7 : Class := { plain "java/lang/String" (some 0) with
  accessFlags := 49
  interfaces := #[2, 3, 4, 5, 6]
  cf := some (fileOf pool7 10 #[.nestMembers #[1103]] #[{ accessFlags := 1, nameIndex := 5, descriptorIndex := 6, attributes := #[] }, { accessFlags := 1, nameIndex := 5, descriptorIndex := 1010, attributes := #[] }, { accessFlags := 1, nameIndex := 543, descriptorIndex := 573, attributes := #[] }, { accessFlags := 2, nameIndex := 5, descriptorIndex := 29, attributes := #[] }] 49 2 #[1106, 1108, 575, 1110, 1112] #[{ accessFlags := 18, nameIndex := 13, descriptorIndex := 14, attributes := #[] }, { accessFlags := 18, nameIndex := 17, descriptorIndex := 18, attributes := #[] }, { accessFlags := 2, nameIndex := 21, descriptorIndex := 22, attributes := #[] }, { accessFlags := 2, nameIndex := 25, descriptorIndex := 26, attributes := #[] }, { accessFlags := 26, nameIndex := 1116, descriptorIndex := 1117, attributes := #[] }, { accessFlags := 24, nameIndex := 40, descriptorIndex := 26, attributes := #[] }, { accessFlags := 26, nameIndex := 1101, descriptorIndex := 1102, attributes := #[] }, { accessFlags := 26, nameIndex := 1121, descriptorIndex := 1122, attributes := #[] }, { accessFlags := 25, nameIndex := 599, descriptorIndex := 600, attributes := #[] }, { accessFlags := 24, nameIndex := 1125, descriptorIndex := 18, attributes := #[] }, { accessFlags := 24, nameIndex := 1127, descriptorIndex := 18, attributes := #[] }])
  fields := #[{ name := "value", type := (.array .byte), accessFlags := 18, slot := 0, constantValue := 0 }, { name := "coder", type := .byte, accessFlags := 18, slot := 1, constantValue := 0 }, { name := "hash", type := .int, accessFlags := 2, slot := 2, constantValue := 0 }, { name := "hashIsZero", type := .boolean, accessFlags := 2, slot := 3, constantValue := 0 }, { name := "serialVersionUID", type := .long, accessFlags := 26, slot := 0, constantValue := 0 }, { name := "COMPACT_STRINGS", type := .boolean, accessFlags := 24, slot := 1, constantValue := 0 }, { name := "serialPersistentFields", type := (.array (.object "java/io/ObjectStreamField")), accessFlags := 26, slot := 2, constantValue := 0 }, { name := "REPL", type := .char, accessFlags := 26, slot := 3, constantValue := 0 }, { name := "CASE_INSENSITIVE_ORDER", type := (.object "java/util/Comparator"), accessFlags := 25, slot := 4, constantValue := 0 }, { name := "LATIN1", type := .byte, accessFlags := 24, slot := 5, constantValue := 0 }, { name := "UTF16", type := .byte, accessFlags := 24, slot := 6, constantValue := 0 }]
  methods := #[k7m0, k7m1, k7m2, k7m3]
  instanceTypes := #[(.array .byte), .byte, .int, .boolean]
  staticTypes := #[.long, .boolean, (.array (.object "java/io/ObjectStreamField")), .char, (.object "java/util/Comparator"), .byte, .byte]
  resolved := Array.replicate 1451 none
  statics := some 0 }

def pool8 : Array CpInfo := pool [(6, .class_ 8), (1, u "java/lang/Object"), (0, u "<init>"), (0, u "()V"), (1, .class_ 14), (1, u "java/lang/StringUTF16"), (31, u "$assertionsDisabled"), (0, u "Z"), (13, u "HI_BYTE_SHIFT"), (0, u "I"), (2, u "LO_BYTE_SHIFT"), (49, .methodref 12 116), (0, .nameAndType 117 118), (0, u "compress"), (0, u "([CI[BII)I"), (3, u "([CII)[B"), (138, u "coderFromArrayLen"), (0, u "([BI)B"), (106, .class_ 371), (1, u "java/lang/StringUTF16$LinesSpliterator"), (58, u "MAX_LENGTH"), (196, .class_ 628), (0, u "java/lang/StringUTF16$CodePointsSpliterator"), (0, .class_ 630), (0, u "java/lang/StringUTF16$CharsSpliterator")] 4

def k8m0 : Method := { name := "<init>", desc := "()V", sig := { parameters := [], returnType := none }, accessFlags := 0, code := none }
def k8c1 : Code := { maxStack := 2, maxLocals := 2, code := jdk_52_method_15_code, exceptionTable := #[], attributes := #[] }
def k8m1 : Method := { name := "coderFromArrayLen", desc := "([BI)B", sig := { parameters := [(.array .byte), .int], returnType := some .byte }, accessFlags := 8, code := some k8c1 }
def k8c2 : Code := { maxStack := 5, maxLocals := 6, code := jdk_52_method_16_code, exceptionTable := #[], attributes := #[] }
def k8m2 : Method := { name := "compress", desc := "([CII)[B", sig := { parameters := [(.array .char), .int, .int], returnType := some (.array .byte) }, accessFlags := 9, code := some k8c2 }
def k8c3 : Code := { maxStack := 3, maxLocals := 7, code := jdk_52_method_21_code, exceptionTable := #[], attributes := #[] }
def k8m3 : Method := { name := "compress", desc := "([CI[BII)I", sig := { parameters := [(.array .char), .int, (.array .byte), .int, .int], returnType := some .int }, accessFlags := 9, code := some k8c3 }
/-- java/lang/StringUTF16 -/
def k8 : Class := { plain "java/lang/StringUTF16" (some 0) with
  accessFlags := 48
  interfaces := #[]
  cf := some (fileOf pool8 12 #[.nestMembers #[627, 629, 369]] #[{ accessFlags := 0, nameIndex := 9, descriptorIndex := 10, attributes := #[] }, { accessFlags := 8, nameIndex := 261, descriptorIndex := 262, attributes := #[] }, { accessFlags := 9, nameIndex := 117, descriptorIndex := 122, attributes := #[] }, { accessFlags := 9, nameIndex := 117, descriptorIndex := 118, attributes := #[] }] 48 6 #[] #[{ accessFlags := 26, nameIndex := 61, descriptorIndex := 62, attributes := #[] }, { accessFlags := 26, nameIndex := 65, descriptorIndex := 62, attributes := #[] }, { accessFlags := 24, nameIndex := 430, descriptorIndex := 62, attributes := #[] }, { accessFlags := 4120, nameIndex := 46, descriptorIndex := 47, attributes := #[] }])
  fields := #[{ name := "HI_BYTE_SHIFT", type := .int, accessFlags := 26, slot := 0, constantValue := 0 }, { name := "LO_BYTE_SHIFT", type := .int, accessFlags := 26, slot := 1, constantValue := 0 }, { name := "MAX_LENGTH", type := .int, accessFlags := 24, slot := 2, constantValue := 0 }, { name := "$assertionsDisabled", type := .boolean, accessFlags := 4120, slot := 3, constantValue := 0 }]
  methods := #[k8m0, k8m1, k8m2, k8m3]
  instanceTypes := #[]
  staticTypes := #[.int, .int, .int, .boolean]
  resolved := Array.replicate 635 none
  statics := none }

def pool9 : Array CpInfo := pool [(2, .class_ 4), (1, u "java/lang/Enum"), (0, u "name"), (0, u "Ljava/lang/String;"), (2, u "ordinal"), (0, u "I"), (1, .class_ 14), (1, u "java/lang/Object"), (4, u "hash"), (86, .class_ 108), (1, u "java/lang/Enum$EnumDesc"), (2, .class_ 112), (0, u "java/lang/constant/Constable"), (0, .class_ 114), (0, u "java/lang/Comparable"), (0, .class_ 116), (0, u "java/io/Serializable")] 87

/-- java/lang/Enum -/
def k9 : Class := { plain "java/lang/Enum" (some 0) with
  accessFlags := 1057
  interfaces := #[5, 3, 2]
  cf := some (fileOf pool9 2 #[.nestMembers #[106]] #[] 1057 12 #[111, 113, 115] #[{ accessFlags := 18, nameIndex := 5, descriptorIndex := 6, attributes := #[] }, { accessFlags := 18, nameIndex := 9, descriptorIndex := 10, attributes := #[] }, { accessFlags := 2, nameIndex := 19, descriptorIndex := 10, attributes := #[] }])
  fields := #[{ name := "name", type := (.object "java/lang/String"), accessFlags := 18, slot := 0, constantValue := 0 }, { name := "ordinal", type := .int, accessFlags := 18, slot := 1, constantValue := 0 }, { name := "hash", type := .int, accessFlags := 2, slot := 2, constantValue := 0 }]
  methods := #[]
  instanceTypes := #[(.object "java/lang/String"), .int, .int]
  staticTypes := #[]
  resolved := Array.replicate 204 none
  statics := none }

def pool10 : Array CpInfo := pool [(1, .class_ 2), (0, u "com/example/shardgate/shardgate/subscriptions/Subscription$State"), (2, u "ONLINE"), (0, u "Lcom/example/shardgate/shardgate/subscriptions/Subscription$State;"), (2, u "OFFLINE"), (2, u "$VALUES"), (0, u "[Lcom/example/shardgate/shardgate/subscriptions/Subscription$State;"), (6, .class_ 22), (1, u "java/lang/Enum"), (25, .class_ 49), (0, u "com/example/shardgate/shardgate/subscriptions/Subscription")] 2

/-- com/example/shardgate/shardgate/subscriptions/Subscription$State -/
def k10 : Class := { plain "com/example/shardgate/shardgate/subscriptions/Subscription$State" (some 9) with
  accessFlags := 16433
  interfaces := #[]
  cf := some (fileOf pool10 1 #[.nestHost 48] #[] 16433 20 #[] #[{ accessFlags := 16409, nameIndex := 5, descriptorIndex := 6, attributes := #[] }, { accessFlags := 16409, nameIndex := 9, descriptorIndex := 6, attributes := #[] }, { accessFlags := 4122, nameIndex := 12, descriptorIndex := 13, attributes := #[] }])
  fields := #[{ name := "ONLINE", type := (.object "com/example/shardgate/shardgate/subscriptions/Subscription$State"), accessFlags := 16409, slot := 0, constantValue := 0 }, { name := "OFFLINE", type := (.object "com/example/shardgate/shardgate/subscriptions/Subscription$State"), accessFlags := 16409, slot := 1, constantValue := 0 }, { name := "$VALUES", type := (.array (.object "com/example/shardgate/shardgate/subscriptions/Subscription$State")), accessFlags := 4122, slot := 2, constantValue := 0 }]
  methods := #[]
  instanceTypes := #[(.object "java/lang/String"), .int, .int]
  staticTypes := #[(.object "com/example/shardgate/shardgate/subscriptions/Subscription$State"), (.object "com/example/shardgate/shardgate/subscriptions/Subscription$State"), (.array (.object "com/example/shardgate/shardgate/subscriptions/Subscription$State"))]
  resolved := Array.replicate 52 none
  statics := some 1 }

def pool11 : Array CpInfo := pool [(1, .methodref 2 3), (0, .class_ 4), (0, .nameAndType 5 6), (0, u "java/lang/Object"), (0, u "<init>"), (0, u "()V"), (0, .class_ 8), (0, u "java/lang/Record")] 13

def k11c0 : Code := { maxStack := 1, maxLocals := 1, code := jdk_30_method_1_code, exceptionTable := #[], attributes := #[] }
def k11m0 : Method := { name := "<init>", desc := "()V", sig := { parameters := [], returnType := none }, accessFlags := 4, code := some k11c0 }
/-- java/lang/Record -/
def k11 : Class := { plain "java/lang/Record" (some 0) with
  accessFlags := 1057
  interfaces := #[]
  cf := some (fileOf pool11 7 #[] #[{ accessFlags := 4, nameIndex := 5, descriptorIndex := 6, attributes := #[] }] 1057 2 #[] #[])
  fields := #[]
  methods := #[k11m0]
  instanceTypes := #[]
  staticTypes := #[]
  resolved := Array.replicate 22 none
  statics := none }

def pool12 : Array CpInfo := pool [(1, .methodref 2 3), (0, .class_ 4), (0, .nameAndType 5 6), (0, u "java/lang/Record"), (0, u "<init>"), (0, u "()V"), (0, .fieldref 8 9), (0, .class_ 10), (0, .nameAndType 11 12), (0, u "com/example/shardgate/shardgate/subscriptions/Subscription"), (0, u "id"), (0, u "Ljava/lang/String;"), (0, .fieldref 8 14), (0, .nameAndType 15 12), (0, u "comment"), (0, .fieldref 8 17), (0, .nameAndType 18 19), (0, u "state"), (0, u "Lcom/example/shardgate/shardgate/subscriptions/Subscription$State;"), (0, .fieldref 8 21), (0, .nameAndType 22 23), (0, u "createTime"), (0, u "J"), (0, .fieldref 8 25), (0, .nameAndType 26 23), (0, u "lastModifyTime"), (0, .methodref 8 28), (0, .nameAndType 5 29), (0, u "(Ljava/lang/String;Ljava/lang/String;Lcom/example/shardgate/shardgate/subscriptions/Subscription$State;JJ)V"), (15, u "in"), (0, u "(Lcom/example/shardgate/shardgate/subscriptions/Subscription$State;J)Lcom/example/shardgate/shardgate/subscriptions/Subscription;"), (0, u "()Ljava/lang/String;"), (2, u "()Lcom/example/shardgate/shardgate/subscriptions/Subscription$State;"), (0, u "()J"), (3, .class_ 56), (0, u "com/example/shardgate/shardgate/subscriptions/Subscription$State")] 23

def k12c0 : Code := { maxStack := 3, maxLocals := 8, code := prog_63_method_1_code, exceptionTable := #[], attributes := #[] }
def k12m0 : Method := { name := "<init>", desc := "(Ljava/lang/String;Ljava/lang/String;Lcom/example/shardgate/shardgate/subscriptions/Subscription$State;JJ)V", sig := { parameters := [(.object "java/lang/String"), (.object "java/lang/String"), (.object "com/example/shardgate/shardgate/subscriptions/Subscription$State"), .long, .long], returnType := none }, accessFlags := 1, code := some k12c0 }
def k12c1 : Code := { maxStack := 9, maxLocals := 4, code := prog_63_method_2_code, exceptionTable := #[], attributes := #[] }
def k12m1 : Method := { name := "in", desc := "(Lcom/example/shardgate/shardgate/subscriptions/Subscription$State;J)Lcom/example/shardgate/shardgate/subscriptions/Subscription;", sig := { parameters := [(.object "com/example/shardgate/shardgate/subscriptions/Subscription$State"), .long], returnType := some (.object "com/example/shardgate/shardgate/subscriptions/Subscription") }, accessFlags := 0, code := some k12c1 }
def k12c2 : Code := { maxStack := 1, maxLocals := 1, code := prog_63_method_6_code, exceptionTable := #[], attributes := #[] }
def k12m2 : Method := { name := "id", desc := "()Ljava/lang/String;", sig := { parameters := [], returnType := some (.object "java/lang/String") }, accessFlags := 1, code := some k12c2 }
def k12c3 : Code := { maxStack := 1, maxLocals := 1, code := prog_63_method_7_code, exceptionTable := #[], attributes := #[] }
def k12m3 : Method := { name := "comment", desc := "()Ljava/lang/String;", sig := { parameters := [], returnType := some (.object "java/lang/String") }, accessFlags := 1, code := some k12c3 }
def k12c4 : Code := { maxStack := 1, maxLocals := 1, code := prog_63_method_8_code, exceptionTable := #[], attributes := #[] }
def k12m4 : Method := { name := "state", desc := "()Lcom/example/shardgate/shardgate/subscriptions/Subscription$State;", sig := { parameters := [], returnType := some (.object "com/example/shardgate/shardgate/subscriptions/Subscription$State") }, accessFlags := 1, code := some k12c4 }
def k12c5 : Code := { maxStack := 2, maxLocals := 1, code := prog_63_method_9_code, exceptionTable := #[], attributes := #[] }
def k12m5 : Method := { name := "createTime", desc := "()J", sig := { parameters := [], returnType := some .long }, accessFlags := 1, code := some k12c5 }
def k12c6 : Code := { maxStack := 2, maxLocals := 1, code := prog_63_method_10_code, exceptionTable := #[], attributes := #[] }
def k12m6 : Method := { name := "lastModifyTime", desc := "()J", sig := { parameters := [], returnType := some .long }, accessFlags := 1, code := some k12c6 }
/-- com/example/shardgate/shardgate/subscriptions/Subscription -/
def k12 : Class := { plain "com/example/shardgate/shardgate/subscriptions/Subscription" (some 11) with
  accessFlags := 49
  interfaces := #[]
  cf := some (fileOf pool12 8 #[.nestMembers #[55]] #[{ accessFlags := 1, nameIndex := 5, descriptorIndex := 29, attributes := #[] }, { accessFlags := 0, nameIndex := 45, descriptorIndex := 46, attributes := #[] }, { accessFlags := 1, nameIndex := 11, descriptorIndex := 47, attributes := #[] }, { accessFlags := 1, nameIndex := 15, descriptorIndex := 47, attributes := #[] }, { accessFlags := 1, nameIndex := 18, descriptorIndex := 50, attributes := #[] }, { accessFlags := 1, nameIndex := 22, descriptorIndex := 51, attributes := #[] }, { accessFlags := 1, nameIndex := 26, descriptorIndex := 51, attributes := #[] }] 49 2 #[] #[{ accessFlags := 18, nameIndex := 11, descriptorIndex := 12, attributes := #[] }, { accessFlags := 18, nameIndex := 15, descriptorIndex := 12, attributes := #[] }, { accessFlags := 18, nameIndex := 18, descriptorIndex := 19, attributes := #[] }, { accessFlags := 18, nameIndex := 22, descriptorIndex := 23, attributes := #[] }, { accessFlags := 18, nameIndex := 26, descriptorIndex := 23, attributes := #[] }])
  fields := #[{ name := "id", type := (.object "java/lang/String"), accessFlags := 18, slot := 0, constantValue := 0 }, { name := "comment", type := (.object "java/lang/String"), accessFlags := 18, slot := 1, constantValue := 0 }, { name := "state", type := (.object "com/example/shardgate/shardgate/subscriptions/Subscription$State"), accessFlags := 18, slot := 2, constantValue := 0 }, { name := "createTime", type := .long, accessFlags := 18, slot := 3, constantValue := 0 }, { name := "lastModifyTime", type := .long, accessFlags := 18, slot := 4, constantValue := 0 }]
  methods := #[k12m0, k12m1, k12m2, k12m3, k12m4, k12m5, k12m6]
  instanceTypes := #[(.object "java/lang/String"), (.object "java/lang/String"), (.object "com/example/shardgate/shardgate/subscriptions/Subscription$State"), .long, .long]
  staticTypes := #[]
  resolved := Array.replicate 80 none
  statics := none }

def pool13 : Array CpInfo := pool [(4, .class_ 6), (1, u "java/lang/Object"), (0, u "<init>"), (0, u "()V"), (5, .class_ 16), (1, u "java/lang/StringLatin1"), (104, u "$assertionsDisabled"), (0, u "Z"), (98, .class_ 223), (1, u "java/lang/StringLatin1$LinesSpliterator"), (166, .class_ 391), (0, u "java/lang/StringLatin1$CharsSpliterator")] 3

def k13m0 : Method := { name := "<init>", desc := "()V", sig := { parameters := [], returnType := none }, accessFlags := 0, code := none }
/-- java/lang/StringLatin1 -/
def k13 : Class := { plain "java/lang/StringLatin1" (some 0) with
  accessFlags := 48
  interfaces := #[]
  cf := some (fileOf pool13 14 #[.nestMembers #[390, 221]] #[{ accessFlags := 0, nameIndex := 7, descriptorIndex := 8, attributes := #[] }] 48 4 #[] #[{ accessFlags := 4120, nameIndex := 121, descriptorIndex := 122, attributes := #[] }])
  fields := #[{ name := "$assertionsDisabled", type := .boolean, accessFlags := 4120, slot := 0, constantValue := 0 }]
  methods := #[k13m0]
  instanceTypes := #[]
  staticTypes := #[.boolean]
  resolved := Array.replicate 395 none
  statics := none }

def pool14 : Array CpInfo := pool [(2, .class_ 4), (1, u "java/lang/Object"), (0, u "<init>"), (0, u "()V"), (17, .class_ 26), (1, u "jdk/internal/util/Preconditions"), (28, .class_ 56), (0, u "jdk/internal/util/Preconditions$4"), (57, .class_ 115), (0, u "jdk/internal/util/Preconditions$1"), (7, u "SIOOBE_FORMATTER"), (0, u "Ljava/util/function/BiFunction;"), (0, .class_ 126), (0, u "jdk/internal/util/Preconditions$2"), (3, u "AIOOBE_FORMATTER"), (0, .class_ 132), (0, u "jdk/internal/util/Preconditions$3"), (3, u "IOOBE_FORMATTER")] 57

def k14m0 : Method := { name := "<init>", desc := "()V", sig := { parameters := [], returnType := none }, accessFlags := 1, code := none }
/-- jdk/internal/util/Preconditions -/
def k14 : Class := { plain "jdk/internal/util/Preconditions" (some 0) with
  accessFlags := 33
  interfaces := #[]
  cf := some (fileOf pool14 24 #[.nestMembers #[55, 131, 125, 114]] #[{ accessFlags := 1, nameIndex := 5, descriptorIndex := 6, attributes := #[] }] 33 2 #[] #[{ accessFlags := 25, nameIndex := 123, descriptorIndex := 124, attributes := #[] }, { accessFlags := 25, nameIndex := 130, descriptorIndex := 124, attributes := #[] }, { accessFlags := 25, nameIndex := 136, descriptorIndex := 124, attributes := #[] }])
  fields := #[{ name := "SIOOBE_FORMATTER", type := (.object "java/util/function/BiFunction"), accessFlags := 25, slot := 0, constantValue := 0 }, { name := "AIOOBE_FORMATTER", type := (.object "java/util/function/BiFunction"), accessFlags := 25, slot := 1, constantValue := 0 }, { name := "IOOBE_FORMATTER", type := (.object "java/util/function/BiFunction"), accessFlags := 25, slot := 2, constantValue := 0 }]
  methods := #[k14m0]
  instanceTypes := #[]
  staticTypes := #[(.object "java/util/function/BiFunction"), (.object "java/util/function/BiFunction"), (.object "java/util/function/BiFunction")]
  resolved := Array.replicate 194 none
  statics := some 2 }

def pool15 : Array CpInfo := pool [(9, u "<init>"), (6, .class_ 18), (1, u "java/lang/Object"), (0, u "()V"), (1, .class_ 23), (1, u "jdk/internal/util/ArraysSupport"), (0, u "LOG2_ARRAY_LONG_INDEX_SCALE"), (0, u "I"), (2, u "U"), (0, u "Ljdk/internal/misc/Unsafe;"), (8, u "BIG_ENDIAN"), (0, u "Z"), (8, u "LOG2_BYTE_BIT_SIZE"), (4, u "LOG2_ARRAY_INT_INDEX_SCALE"), (54, u "JLA"), (0, u "Ljdk/internal/access/JavaLangAccess;"), (11, u "LOG2_ARRAY_BOOLEAN_INDEX_SCALE"), (9, u "LOG2_ARRAY_BYTE_INDEX_SCALE"), (5, u "LOG2_ARRAY_CHAR_INDEX_SCALE"), (5, u "LOG2_ARRAY_SHORT_INDEX_SCALE"), (18, u "LOG2_ARRAY_FLOAT_INDEX_SCALE"), (24, u "LOG2_ARRAY_DOUBLE_INDEX_SCALE"), (89, u "T_BOOLEAN"), (2, u "T_CHAR"), (1, u "T_FLOAT"), (1, u "T_DOUBLE"), (1, u "T_BYTE"), (1, u "T_SHORT"), (1, u "T_INT"), (1, u "T_LONG"), (1, u "SOFT_MAX_ARRAY_LENGTH")] 83

def k15m0 : Method := { name := "<init>", desc := "()V", sig := { parameters := [], returnType := none }, accessFlags := 2, code := none }
/-- jdk/internal/util/ArraysSupport -/
def k15 : Class := { plain "jdk/internal/util/ArraysSupport" (some 0) with
  accessFlags := 33
  interfaces := #[]
  cf := some (fileOf pool15 21 #[] #[{ accessFlags := 2, nameIndex := 9, descriptorIndex := 19, attributes := #[] }] 33 16 #[] #[{ accessFlags := 24, nameIndex := 28, descriptorIndex := 29, attributes := #[] }, { accessFlags := 26, nameIndex := 38, descriptorIndex := 39, attributes := #[] }, { accessFlags := 25, nameIndex := 121, descriptorIndex := 25, attributes := #[] }, { accessFlags := 25, nameIndex := 131, descriptorIndex := 25, attributes := #[] }, { accessFlags := 25, nameIndex := 137, descriptorIndex := 25, attributes := #[] }, { accessFlags := 25, nameIndex := 143, descriptorIndex := 25, attributes := #[] }, { accessFlags := 25, nameIndex := 53, descriptorIndex := 25, attributes := #[] }, { accessFlags := 25, nameIndex := 24, descriptorIndex := 25, attributes := #[] }, { accessFlags := 25, nameIndex := 162, descriptorIndex := 25, attributes := #[] }, { accessFlags := 25, nameIndex := 187, descriptorIndex := 25, attributes := #[] }, { accessFlags := 26, nameIndex := 48, descriptorIndex := 25, attributes := #[] }, { accessFlags := 25, nameIndex := 277, descriptorIndex := 25, attributes := #[] }, { accessFlags := 25, nameIndex := 280, descriptorIndex := 25, attributes := #[] }, { accessFlags := 25, nameIndex := 282, descriptorIndex := 25, attributes := #[] }, { accessFlags := 25, nameIndex := 284, descriptorIndex := 25, attributes := #[] }, { accessFlags := 25, nameIndex := 286, descriptorIndex := 25, attributes := #[] }, { accessFlags := 25, nameIndex := 288, descriptorIndex := 25, attributes := #[] }, { accessFlags := 25, nameIndex := 290, descriptorIndex := 25, attributes := #[] }, { accessFlags := 25, nameIndex := 292, descriptorIndex := 25, attributes := #[] }, { accessFlags := 26, nameIndex := 108, descriptorIndex := 109, attributes := #[] }, { accessFlags := 25, nameIndex := 294, descriptorIndex := 25, attributes := #[] }])
  fields := #[{ name := "U", type := (.object "jdk/internal/misc/Unsafe"), accessFlags := 24, slot := 0, constantValue := 0 }, { name := "BIG_ENDIAN", type := .boolean, accessFlags := 26, slot := 1, constantValue := 0 }, { name := "LOG2_ARRAY_BOOLEAN_INDEX_SCALE", type := .int, accessFlags := 25, slot := 2, constantValue := 0 }, { name := "LOG2_ARRAY_BYTE_INDEX_SCALE", type := .int, accessFlags := 25, slot := 3, constantValue := 0 }, { name := "LOG2_ARRAY_CHAR_INDEX_SCALE", type := .int, accessFlags := 25, slot := 4, constantValue := 0 }, { name := "LOG2_ARRAY_SHORT_INDEX_SCALE", type := .int, accessFlags := 25, slot := 5, constantValue := 0 }, { name := "LOG2_ARRAY_INT_INDEX_SCALE", type := .int, accessFlags := 25, slot := 6, constantValue := 0 }, { name := "LOG2_ARRAY_LONG_INDEX_SCALE", type := .int, accessFlags := 25, slot := 7, constantValue := 0 }, { name := "LOG2_ARRAY_FLOAT_INDEX_SCALE", type := .int, accessFlags := 25, slot := 8, constantValue := 0 }, { name := "LOG2_ARRAY_DOUBLE_INDEX_SCALE", type := .int, accessFlags := 25, slot := 9, constantValue := 0 }, { name := "LOG2_BYTE_BIT_SIZE", type := .int, accessFlags := 26, slot := 10, constantValue := 0 }, { name := "T_BOOLEAN", type := .int, accessFlags := 25, slot := 11, constantValue := 0 }, { name := "T_CHAR", type := .int, accessFlags := 25, slot := 12, constantValue := 0 }, { name := "T_FLOAT", type := .int, accessFlags := 25, slot := 13, constantValue := 0 }, { name := "T_DOUBLE", type := .int, accessFlags := 25, slot := 14, constantValue := 0 }, { name := "T_BYTE", type := .int, accessFlags := 25, slot := 15, constantValue := 0 }, { name := "T_SHORT", type := .int, accessFlags := 25, slot := 16, constantValue := 0 }, { name := "T_INT", type := .int, accessFlags := 25, slot := 17, constantValue := 0 }, { name := "T_LONG", type := .int, accessFlags := 25, slot := 18, constantValue := 0 }, { name := "JLA", type := (.object "jdk/internal/access/JavaLangAccess"), accessFlags := 26, slot := 19, constantValue := 0 }, { name := "SOFT_MAX_ARRAY_LENGTH", type := .int, accessFlags := 25, slot := 20, constantValue := 0 }]
  methods := #[k15m0]
  instanceTypes := #[]
  staticTypes := #[(.object "jdk/internal/misc/Unsafe"), .boolean, .int, .int, .int, .int, .int, .int, .int, .int, .int, .int, .int, .int, .int, .int, .int, .int, .int, (.object "jdk/internal/access/JavaLangAccess"), .int]
  resolved := Array.replicate 378 none
  statics := none }

def pool16 : Array CpInfo := pool [(1, u "java/lang/Cloneable"), (0, .class_ 1), (0, u "java/lang/Object"), (0, .class_ 3)] 3

/-- java/lang/Cloneable -/
def k16 : Class := { plain "java/lang/Cloneable" (some 0) with
  accessFlags := 1537
  interfaces := #[]
  cf := some (fileOf pool16 2 #[] #[] 1537 4 #[] #[])
  fields := #[]
  methods := #[]
  instanceTypes := #[]
  staticTypes := #[]
  resolved := Array.replicate 8 none
  statics := none }

/-- the primitive byte -/
def k17 : Class := { plain "byte" none with kind := .primitive 'B', accessFlags := 0x411 }
/-- [B -/
def k18 : Class := { plain "[B" (some 0) with kind := .array 17 .byte, interfaces := #[16, 2], accessFlags := 1041 }

/-- the primitive char -/
def k19 : Class := { plain "char" none with kind := .primitive 'C', accessFlags := 0x411 }
/-- [C -/
def k20 : Class := { plain "[C" (some 0) with kind := .array 19 .char, interfaces := #[16, 2], accessFlags := 1041 }

/-- the primitive int -/
def k21 : Class := { plain "int" none with kind := .primitive 'I', accessFlags := 0x411 }
/-- [I -/
def k22 : Class := { plain "[I" (some 0) with kind := .array 21 .int, interfaces := #[16, 2], accessFlags := 1041 }

def heap : Heap := #[{ cls := 7, slots := #[.long 0, .int 1, .null, .int 0, .null, .int 0, .int 0], vm := .statics 7 },
  { cls := 10, slots := #[.ref 3, .ref 4, .null], vm := .statics 10 },
  { cls := 14, slots := #[.null, .null, .null], vm := .statics 14 },
  { cls := 10, slots := #[.null, .int 0, .int 0], vm := .none },
  { cls := 10, slots := #[.null, .int 1, .int 0], vm := .none }]
def classes : Array Class := #[k0, k1, k2, k3, k4, k5, k6, k7, k8, k9, k10, k11, k12, k13, k14, k15, k16, k17, k18, k19, k20, k21, k22]
def interned : List (Array UInt16 × Addr) := []
def slotsUsed : Nat := 19
def theMethod : MethodId := ⟨1, 1⟩
def args0 : Array Value := #[.int 5, .int 1, .long 1, .long 2, .long 3]
def aboutOver (below : List Frame) : State where
  vm := { classes := classes, interned := interned.toArray }
  heap := heap
  slotsUsed := slotsUsed
  threads := #[{ frames := .invoking theMethod args0 :: below }]
def below0 : List Frame := [.native { method := ⟨0, 0⟩, args := #[] }]
def about1 : State := aboutOver below0
def p0 : Program := .bare "" "" ""
def e0 : Env := launch0.env 0 0 0
theorem w_frames : about1.frames = Frame.invoking theMethod args0 :: below0 := rfl
set_option maxRecDepth 65536 in
theorem w_args : argsFit about1.vm theMethod args0 = true := by decide +kernel
set_option maxRecDepth 65536 in
theorem w_heap : heapFits about1 = true := by decide +kernel
set_option maxRecDepth 65536 in
theorem w_runnable : about1.curStatus? = some .runnable := by decide +kernel
set_option maxRecDepth 65536 in
theorem w_alone : about1.alone = true := by decide +kernel
set_option maxRecDepth 65536 in
theorem w_named : about1.methodNamed? x = some theMethod := by decide +kernel
set_option maxRecDepth 65536 in
theorem w_hears : about1.hears theMethod below0 = true := by decide +kernel
set_option maxRecDepth 65536 in
theorem w_ripe : about1.ripe theMethod args0 below0 = true := by decide +kernel
theorem w_running : about1.status = .running := rfl
set_option maxRecDepth 65536 in
theorem w_room : about1.hasRoom e0.platform room_1 = true :=
  launch0.hasRoom_least _ room_1 (by decide +kernel) (by decide +kernel) (by decide +kernel) (by decide +kernel) (by decide +kernel) (by decide +kernel)
theorem allAtoms_all (ts : List Jvm.Cond) (a : Array Jvm.Value) (st : Jvm.State) : (allAtoms ts).before a st = ts.all (fun c => c.before a st) := by
  induction ts with
  | nil => rfl
  | cons c t ih =>
    show (Jvm.Cond.and c (allAtoms t)).before a st = _
    rw [Jvm.Cond.before_and, ih, List.all_cons]
def words1 : List Jvm.Cond := Jvm.Cond.code x code maxLocals ret :: tables_1
/-- a 'code' word, met by the world's own term for the bytes: nothing is compared byte by byte -/
theorem code_word {y : MethodName} {bytes : ByteArray} {mx : Nat} {rt : Option FieldType} {a : Array Value} {s : State} {m : MethodId} {meth : Method} {c : Code} (h1 : s.methodNamed? y = some m) (h2 : s.vm.method? m = some meth) (h3 : meth.code = some c) (h4 : c.code = bytes)
    (h5 : (c.maxLocals == mx && c.exceptionTable.isEmpty && decide (c.maxStack ≤ mostOperands) && decide (meth.sig.returnType = rt) && !meth.locks && decide (parseMethodDescriptor y.desc = some meth.sig)) = true) : (Jvm.Cond.code y bytes mx rt).before a s = true := by
  simp only [Bool.and_eq_true, beq_iff_eq, Bool.not_eq_true', decide_eq_true_eq] at h5
  obtain ⟨⟨⟨⟨⟨g1, g2⟩, g3⟩, g4⟩, g5⟩, g6⟩ := h5
  simp [Cond.before, Cond.holds, Cond.value, h1, h2, h3, h4, g1, g2, g3, g4, g5, g6]
def isCode : Jvm.Cond → Bool
  | .code _ _ _ _ => true
  | _ => false
theorem all_split {L : List Jvm.Cond} {P : Jvm.Cond → Bool} (h1 : L.all (fun c => isCode c || P c) = true) (h2 : ∀ c ∈ L.filter isCode, P c = true) : L.all P = true := by
  refine List.all_eq_true.mpr fun c hc => ?_
  have h := List.all_eq_true.mp h1 c hc
  rcases Bool.eq_false_or_eq_true (isCode c) with hi | hi
  · exact h2 c (List.mem_filter.mpr ⟨hc, hi⟩)
  · simpa [hi] using h
set_option maxRecDepth 65536 in
theorem w_c0 : (Jvm.Cond.code x code maxLocals ret).before args0 about1 = true := code_word (m := ⟨1, 1⟩) (meth := k1m1) (c := k1c1) (by decide +kernel) rfl rfl rfl (by decide +kernel)
set_option maxRecDepth 65536 in
theorem w_c1 : (Jvm.Cond.code ({ cls := "java/lang/String", name := "<init>", desc := "([C)V" } : Jvm.MethodName) jdk_42_method_3_code (2 : Nat) (Option.none : Option Jvm.ClassFile.FieldType)).before args0 about1 = true := code_word (m := ⟨7, 1⟩) (meth := k7m1) (c := k7c1) (by decide +kernel) rfl rfl rfl (by decide +kernel)
set_option maxRecDepth 65536 in
theorem w_c2 : (Jvm.Cond.code ({ cls := "java/lang/String", name := "<init>", desc := "([CIILjava/lang/Void;)V" } : Jvm.MethodName) jdk_42_method_149_code (6 : Nat) (Option.none : Option Jvm.ClassFile.FieldType)).before args0 about1 = true := code_word (m := ⟨7, 3⟩) (meth := k7m3) (c := k7c3) (by decide +kernel) rfl rfl rfl (by decide +kernel)
set_option maxRecDepth 65536 in
theorem w_c3 : (Jvm.Cond.code ({ cls := "java/lang/Object", name := "<init>", desc := "()V" } : Jvm.MethodName) object_method_1_code (1 : Nat) (Option.none : Option Jvm.ClassFile.FieldType)).before args0 about1 = true := code_word (m := ⟨0, 0⟩) (meth := k0m0) (c := k0c0) (by decide +kernel) rfl rfl rfl (by decide +kernel)
set_option maxRecDepth 65536 in
theorem w_c4 : (Jvm.Cond.code ({ cls := "java/lang/StringUTF16", name := "compress", desc := "([CII)[B" } : Jvm.MethodName) jdk_52_method_16_code (6 : Nat) (Option.some (Jvm.ClassFile.FieldType.array Jvm.ClassFile.FieldType.byte))).before args0 about1 = true := code_word (m := ⟨8, 2⟩) (meth := k8m2) (c := k8c2) (by decide +kernel) rfl rfl rfl (by decide +kernel)
set_option maxRecDepth 65536 in
theorem w_c5 : (Jvm.Cond.code ({ cls := "java/lang/StringUTF16", name := "compress", desc := "([CI[BII)I" } : Jvm.MethodName) jdk_52_method_21_code (7 : Nat) (Option.some Jvm.ClassFile.FieldType.int)).before args0 about1 = true := code_word (m := ⟨8, 3⟩) (meth := k8m3) (c := k8c3) (by decide +kernel) rfl rfl rfl (by decide +kernel)
set_option maxRecDepth 65536 in
theorem w_c6 : (Jvm.Cond.code ({ cls := "java/lang/StringUTF16", name := "coderFromArrayLen", desc := "([BI)B" } : Jvm.MethodName) jdk_52_method_15_code (2 : Nat) (Option.some Jvm.ClassFile.FieldType.byte)).before args0 about1 = true := code_word (m := ⟨8, 1⟩) (meth := k8m1) (c := k8c1) (by decide +kernel) rfl rfl rfl (by decide +kernel)
set_option maxRecDepth 65536 in
theorem w_c7 : (Jvm.Cond.code ({ cls := "com/example/shardgate/shardgate/subscriptions/Subscription", name := "<init>", desc := "(Ljava/lang/String;Ljava/lang/String;Lcom/example/shardgate/shardgate/subscriptions/Subscription$State;JJ)V" } : Jvm.MethodName) prog_63_method_1_code (8 : Nat) (Option.none : Option Jvm.ClassFile.FieldType)).before args0 about1 = true := code_word (m := ⟨12, 0⟩) (meth := k12m0) (c := k12c0) (by decide +kernel) rfl rfl rfl (by decide +kernel)
set_option maxRecDepth 65536 in
theorem w_c8 : (Jvm.Cond.code ({ cls := "java/lang/Record", name := "<init>", desc := "()V" } : Jvm.MethodName) jdk_30_method_1_code (1 : Nat) (Option.none : Option Jvm.ClassFile.FieldType)).before args0 about1 = true := code_word (m := ⟨11, 0⟩) (meth := k11m0) (c := k11c0) (by decide +kernel) rfl rfl rfl (by decide +kernel)
set_option maxRecDepth 65536 in
theorem w_c9 : (Jvm.Cond.code ({ cls := "com/example/shardgate/shardgate/subscriptions/Subscription", name := "in", desc := "(Lcom/example/shardgate/shardgate/subscriptions/Subscription$State;J)Lcom/example/shardgate/shardgate/subscriptions/Subscription;" } : Jvm.MethodName) prog_63_method_2_code (4 : Nat) (Option.some (Jvm.ClassFile.FieldType.object "com/example/shardgate/shardgate/subscriptions/Subscription"))).before args0 about1 = true := code_word (m := ⟨12, 1⟩) (meth := k12m1) (c := k12c1) (by decide +kernel) rfl rfl rfl (by decide +kernel)
set_option maxRecDepth 65536 in
theorem w_c10 : (Jvm.Cond.code ({ cls := "com/example/shardgate/shardgate/subscriptions/Subscription", name := "comment", desc := "()Ljava/lang/String;" } : Jvm.MethodName) prog_63_method_7_code (1 : Nat) (Option.some (Jvm.ClassFile.FieldType.object "java/lang/String"))).before args0 about1 = true := code_word (m := ⟨12, 3⟩) (meth := k12m3) (c := k12c3) (by decide +kernel) rfl rfl rfl (by decide +kernel)
set_option maxRecDepth 65536 in
theorem w_c11 : (Jvm.Cond.code ({ cls := "java/lang/String", name := "equals", desc := "(Ljava/lang/Object;)Z" } : Jvm.MethodName) jdk_42_method_66_code (3 : Nat) (Option.some Jvm.ClassFile.FieldType.boolean)).before args0 about1 = true := code_word (m := ⟨7, 2⟩) (meth := k7m2) (c := k7c2) (by decide +kernel) rfl rfl rfl (by decide +kernel)
set_option maxRecDepth 65536 in
theorem w_c12 : (Jvm.Cond.code ({ cls := "com/example/shardgate/shardgate/subscriptions/Subscription", name := "id", desc := "()Ljava/lang/String;" } : Jvm.MethodName) prog_63_method_6_code (1 : Nat) (Option.some (Jvm.ClassFile.FieldType.object "java/lang/String"))).before args0 about1 = true := code_word (m := ⟨12, 2⟩) (meth := k12m2) (c := k12c2) (by decide +kernel) rfl rfl rfl (by decide +kernel)
set_option maxRecDepth 65536 in
theorem w_c13 : (Jvm.Cond.code ({ cls := "com/example/shardgate/shardgate/subscriptions/Subscription", name := "state", desc := "()Lcom/example/shardgate/shardgate/subscriptions/Subscription$State;" } : Jvm.MethodName) prog_63_method_8_code (1 : Nat) (Option.some (Jvm.ClassFile.FieldType.object "com/example/shardgate/shardgate/subscriptions/Subscription$State"))).before args0 about1 = true := code_word (m := ⟨12, 4⟩) (meth := k12m4) (c := k12c4) (by decide +kernel) rfl rfl rfl (by decide +kernel)
set_option maxRecDepth 65536 in
theorem w_c14 : (Jvm.Cond.code ({ cls := "com/example/shardgate/shardgate/subscriptions/Subscription", name := "createTime", desc := "()J" } : Jvm.MethodName) prog_63_method_9_code (1 : Nat) (Option.some Jvm.ClassFile.FieldType.long)).before args0 about1 = true := code_word (m := ⟨12, 5⟩) (meth := k12m5) (c := k12c5) (by decide +kernel) rfl rfl rfl (by decide +kernel)
set_option maxRecDepth 65536 in
theorem w_c15 : (Jvm.Cond.code ({ cls := "com/example/shardgate/shardgate/subscriptions/Subscription", name := "lastModifyTime", desc := "()J" } : Jvm.MethodName) prog_63_method_10_code (1 : Nat) (Option.some Jvm.ClassFile.FieldType.long)).before args0 about1 = true := code_word (m := ⟨12, 6⟩) (meth := k12m6) (c := k12c6) (by decide +kernel) rfl rfl rfl (by decide +kernel)
def codes1 : List Jvm.Cond := [Jvm.Cond.code x code maxLocals ret, Jvm.Cond.code ({ cls := "java/lang/String", name := "<init>", desc := "([C)V" } : Jvm.MethodName) jdk_42_method_3_code (2 : Nat) (Option.none : Option Jvm.ClassFile.FieldType), Jvm.Cond.code ({ cls := "java/lang/String", name := "<init>", desc := "([CIILjava/lang/Void;)V" } : Jvm.MethodName) jdk_42_method_149_code (6 : Nat) (Option.none : Option Jvm.ClassFile.FieldType), Jvm.Cond.code ({ cls := "java/lang/Object", name := "<init>", desc := "()V" } : Jvm.MethodName) object_method_1_code (1 : Nat) (Option.none : Option Jvm.ClassFile.FieldType), Jvm.Cond.code ({ cls := "java/lang/StringUTF16", name := "compress", desc := "([CII)[B" } : Jvm.MethodName) jdk_52_method_16_code (6 : Nat) (Option.some (Jvm.ClassFile.FieldType.array Jvm.ClassFile.FieldType.byte)), Jvm.Cond.code ({ cls := "java/lang/StringUTF16", name := "compress", desc := "([CI[BII)I" } : Jvm.MethodName) jdk_52_method_21_code (7 : Nat) (Option.some Jvm.ClassFile.FieldType.int), Jvm.Cond.code ({ cls := "java/lang/StringUTF16", name := "coderFromArrayLen", desc := "([BI)B" } : Jvm.MethodName) jdk_52_method_15_code (2 : Nat) (Option.some Jvm.ClassFile.FieldType.byte), Jvm.Cond.code ({ cls := "com/example/shardgate/shardgate/subscriptions/Subscription", name := "<init>", desc := "(Ljava/lang/String;Ljava/lang/String;Lcom/example/shardgate/shardgate/subscriptions/Subscription$State;JJ)V" } : Jvm.MethodName) prog_63_method_1_code (8 : Nat) (Option.none : Option Jvm.ClassFile.FieldType), Jvm.Cond.code ({ cls := "java/lang/Record", name := "<init>", desc := "()V" } : Jvm.MethodName) jdk_30_method_1_code (1 : Nat) (Option.none : Option Jvm.ClassFile.FieldType), Jvm.Cond.code ({ cls := "com/example/shardgate/shardgate/subscriptions/Subscription", name := "in", desc := "(Lcom/example/shardgate/shardgate/subscriptions/Subscription$State;J)Lcom/example/shardgate/shardgate/subscriptions/Subscription;" } : Jvm.MethodName) prog_63_method_2_code (4 : Nat) (Option.some (Jvm.ClassFile.FieldType.object "com/example/shardgate/shardgate/subscriptions/Subscription")), Jvm.Cond.code ({ cls := "com/example/shardgate/shardgate/subscriptions/Subscription", name := "comment", desc := "()Ljava/lang/String;" } : Jvm.MethodName) prog_63_method_7_code (1 : Nat) (Option.some (Jvm.ClassFile.FieldType.object "java/lang/String")), Jvm.Cond.code ({ cls := "java/lang/String", name := "equals", desc := "(Ljava/lang/Object;)Z" } : Jvm.MethodName) jdk_42_method_66_code (3 : Nat) (Option.some Jvm.ClassFile.FieldType.boolean), Jvm.Cond.code ({ cls := "com/example/shardgate/shardgate/subscriptions/Subscription", name := "id", desc := "()Ljava/lang/String;" } : Jvm.MethodName) prog_63_method_6_code (1 : Nat) (Option.some (Jvm.ClassFile.FieldType.object "java/lang/String")), Jvm.Cond.code ({ cls := "com/example/shardgate/shardgate/subscriptions/Subscription", name := "state", desc := "()Lcom/example/shardgate/shardgate/subscriptions/Subscription$State;" } : Jvm.MethodName) prog_63_method_8_code (1 : Nat) (Option.some (Jvm.ClassFile.FieldType.object "com/example/shardgate/shardgate/subscriptions/Subscription$State")), Jvm.Cond.code ({ cls := "com/example/shardgate/shardgate/subscriptions/Subscription", name := "createTime", desc := "()J" } : Jvm.MethodName) prog_63_method_9_code (1 : Nat) (Option.some Jvm.ClassFile.FieldType.long), Jvm.Cond.code ({ cls := "com/example/shardgate/shardgate/subscriptions/Subscription", name := "lastModifyTime", desc := "()J" } : Jvm.MethodName) prog_63_method_10_code (1 : Nat) (Option.some Jvm.ClassFile.FieldType.long)]
set_option maxRecDepth 65536 in
theorem codes_eq : words1.filter isCode = codes1 := rfl
theorem w_codes : ∀ c ∈ words1.filter isCode, c.before args0 about1 = true := by
  rw [codes_eq]
  intro c hc
  simp only [codes1, List.mem_cons, List.not_mem_nil, or_false] at hc
  rcases hc with rfl | rfl | rfl | rfl | rfl | rfl | rfl | rfl | rfl | rfl | rfl | rfl | rfl | rfl | rfl | rfl
  · exact w_c0
  · exact w_c1
  · exact w_c2
  · exact w_c3
  · exact w_c4
  · exact w_c5
  · exact w_c6
  · exact w_c7
  · exact w_c8
  · exact w_c9
  · exact w_c10
  · exact w_c11
  · exact w_c12
  · exact w_c13
  · exact w_c14
  · exact w_c15
set_option maxRecDepth 65536 in
theorem w_t1 : (words1.take 24).all (fun c => isCode c || c.before args0 about1) = true := by decide +kernel
set_option maxRecDepth 65536 in
theorem w_t2 : ((words1.drop 24).take 24).all (fun c => isCode c || c.before args0 about1) = true := by decide +kernel
set_option maxRecDepth 65536 in
theorem w_t3 : (((words1.drop 24).drop 24).take 24).all (fun c => isCode c || c.before args0 about1) = true := by decide +kernel
set_option maxRecDepth 65536 in
theorem w_t4 : (((words1.drop 24).drop 24).drop 24).all (fun c => isCode c || c.before args0 about1) = true := by decide +kernel
theorem w_tables : (allAtoms (Jvm.Cond.code x code maxLocals ret :: tables_1)).before args0 about1 = true := by
  rw [allAtoms_all]
  show words1.all (fun c => c.before args0 about1) = true
  refine all_split ?_ w_codes
  rw [← List.take_append_drop 24 words1, List.all_append, w_t1, ← List.take_append_drop 24 (words1.drop 24), List.all_append, w_t2, ← List.take_append_drop 24 ((words1.drop 24).drop 24), List.all_append, w_t3, w_t4]
  rfl
set_option maxRecDepth 65536 in
theorem w_rest : rest_1_c.before args0 about1 = true := by decide +kernel
set_option maxRecDepth 65536 in
theorem w_case : (Jvm.Cond.and given_1 narrow_1).before args0 about1 = true := by decide +kernel
theorem w_applies : (headSpec (Jvm.Cond.code x code maxLocals ret :: tables_1) room_1).applies x e0.platform about1 = true :=
  (Spec.applies_iff w_frames).mpr ⟨w_running, w_runnable, w_alone, w_named, w_hears, w_ripe, w_room, w_tables⟩
theorem atStart : AtStart classFile x code maxLocals ret World_1 tables_1 room_1 Calls_1 rest_1 Pre_1 launch0 p0 e0 about1 theMethod args0 below0 :=
  ⟨lists_1, trivial, launch0.admits_env _ _ _, launch0.least_env, fairChoices_fair.cas, fairChoices_fair.clock, w_frames, w_args, w_heap, w_applies, trivial, w_rest, w_case⟩
end start1
theorem witness_1 : WitnessClaimed_1 := ⟨start1.p0, start1.e0, start1.about1, start1.theMethod, start1.args0, start1.below0, start1.atStart⟩
end Jvm.Pilot.@@N@@
