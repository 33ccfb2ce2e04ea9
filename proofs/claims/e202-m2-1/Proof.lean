import JvmDerived
import JvmDerived.Pilot.@@N@@Statement
import JvmDerived.Pilot.@@N@@Code
set_option linter.unusedVariables false
set_option linter.unusedSimpArgs false
@@BLOCK:NumsL.lean.txt@@
namespace Jvm.RoadKit
open Sem ClassFile Op Lib Jvm.Stand Jvm.Free Jvm.LawKit
section New
variable {p : Program} {l : Launch} {e : Env} {R : Room} {s : State} {m : MethodId} {args : Array Value} {below : List Frame} {meth : Method} {c : Code} {T : State} {locs : List Loc} {cells slots : Nat}
theorem retI (X : Stand p l e R s m args below meth c T locs cells slots) (hx : p.tables.exec = Jvm.exec) {pc : Nat} {Ls : Array Slot} {z : Int32} {rest : List Value} (hret : meth.sig.returnType = some .int) (hd : decode c.code pc = .ok (.ireturn, 1)) {fs : List Frame}
    (hl : ∀ (f : JFrame) (acts : List Action), f.method = m → f.locked = none → f.entered = [] → (doReturn e (T.setTop f) acts (some (.int z))).1 = T.setFrames fs) : Steps p.tables e below (T.setTop (mkF m pc Ls (.int z :: rest))) (T.setFrames fs) := by
  have hm' : T.vm.method? m = some meth := X.method'
  have hn : narrow .int (.int z) = .int z := rfl
  show Steps p.tables e below (T.setTop { method := m, pc := pc, locals := Ls, stack := _ :: rest, locked := none }) _
  jvm_step X.here [X.here.top, hx, hd, hm', hret, hn]
  first | (intro acts; rw [hl _ acts rfl rfl rfl]) | rw [hl _ _ rfl rfl rfl]
  exact Steps.refl _
end New
end Jvm.RoadKit
/- laws to paste: Road.backV (cut by pick.py; bodies as the Statement names them) -/
namespace Jvm.Pilot.@@N@@
namespace StrChars
open Jvm Sem ClassFile Op Lib Jvm.Stand Jvm.Free.XT Jvm.Free.ALB Jvm.Free.JM Jvm.Free
open Jvm.Lib.Cold (StaticIs)
/-- a char array whose places are chars -/
def Ch (a : Addr) (A : Cell) (U : State) : Prop := Arr .char a A U ∧ Typed .char A
theorem Ch.mv {a : Addr} {A : Cell} {U U' : State} (h : Ch a A U) (hal : U.vm.Alike U'.vm) (hh : U'.heap = U.heap) : Ch a A U' := ⟨h.1.mv hal hh, h.2⟩
theorem Ch.keep {a : Addr} {A : Cell} {U U' : State} (h : Ch a A U) (hal : U.vm.Alike U'.vm) (hk : U'.heap[a]? = some A) : Ch a A U' := ⟨h.1.keep hal hk, h.2⟩
/-- what place i of a char[]'s cell holds -/
def cv (A : Cell) (i : Nat) : Int32 := match A.slots[i]? with | some (.int x) => x | _ => 0
theorem Ch.get {a : Addr} {A : Cell} {U : State} (h : Ch a A U) {i : Nat} (hi : i < A.slots.size) : A.slots[i]? = some (.int (cv A i)) := by
  have e := Array.getElem?_eq_getElem hi
  have f := h.2 i _ e
  unfold cv; rw [e]
  generalize A.slots[i] = v at f
  cases v <;> simp [fits] at f ⊢
/-- the byte that i2b leaves of a char -/
def lo8 (x : Int32) : Int32 := x.toInt8.toInt32
theorem fits_lo8 (y : Int32) : fits .byte (.int (lo8 y)) = true := by
  have h1 := y.toInt8.le_toInt
  have h2 := y.toInt8.toInt_lt
  simp only [lo8, fits, Bool.and_eq_true, decide_eq_true_eq, Int32.le_iff_toInt_le, Int8.toInt_toInt32, show (-128 : Int32).toInt = -128 from by decide, show (127 : Int32).toInt = 127 from by decide]
  omega
/-- A' is A but that each place j of lo .. hi - 1 holds f j -/
def Laid (A A' : Cell) (lo hi : Nat) (f : Nat → Value) : Prop := A'.cls = A.cls ∧ A'.vm = A.vm ∧ A'.slots.size = A.slots.size ∧ ∀ i, A'.slots[i]? = if lo ≤ i ∧ i < hi then some (f i) else A.slots[i]?
theorem Laid.zero (A : Cell) (lo : Nat) (f : Nat → Value) : Laid A A lo (lo + 0) f := ⟨rfl, rfl, rfl, fun i => by rw [if_neg (by omega)]⟩
theorem Laid.step {A Ak : Cell} {lo k : Nat} {f : Nat → Value} {v : Value} (h : Laid A Ak lo k f) (hlo : lo ≤ k) (hk : k < Ak.slots.size) (hv : v = f k) : Laid A (Ak.setSlot k v) lo (k + 1) f := by
  refine ⟨h.1, h.2.1, by simpa [Cell.setSlot] using h.2.2.1, fun i => ?_⟩
  by_cases e : k = i
  · subst e; rw [Cell.slots_setSlot_self v hk, if_pos (by omega), hv]
  · rw [Cell.slots_setSlot_ne v e, h.2.2.2 i]
    by_cases q : lo ≤ i ∧ i < k
    · rw [if_pos q, if_pos (by omega)]
    · rw [if_neg q, if_neg (by omega)]
def U16 : String := "java/lang/StringUTF16"
namespace Cmp5
def yN : MethodName := ⟨"java/lang/StringUTF16", "compress", "([CI[BII)I"⟩
abbrev yB : ByteArray := jdk_52_method_21_code
theorem d0 : decode yB 0 = .ok (.iconst 0, 1) := by decide +kernel
theorem d1 : decode yB 1 = .ok (.istore 5, 2) := by decide +kernel
theorem d3 : decode yB 3 = .ok (.iload 5, 2) := by decide +kernel
theorem d5 : decode yB 5 = .ok (.iload 4, 2) := by decide +kernel
theorem d7 : decode yB 7 = .ok (.if_icmp (.ge) 37, 3) := by decide +kernel
theorem d10 : decode yB 10 = .ok (.aload_n 0, 1) := by decide +kernel
theorem d11 : decode yB 11 = .ok (.iload_n 1, 1) := by decide +kernel
theorem d12 : decode yB 12 = .ok (.caload, 1) := by decide +kernel
theorem d13 : decode yB 13 = .ok (.istore 6, 2) := by decide +kernel
theorem d15 : decode yB 15 = .ok (.iload 6, 2) := by decide +kernel
theorem d17 : decode yB 17 = .ok (.sipush 255, 3) := by decide +kernel
theorem d20 : decode yB 20 = .ok (.if_icmp (.le) 6, 3) := by decide +kernel
theorem d26 : decode yB 26 = .ok (.aload_n 2, 1) := by decide +kernel
theorem d27 : decode yB 27 = .ok (.iload_n 3, 1) := by decide +kernel
theorem d28 : decode yB 28 = .ok (.iload 6, 2) := by decide +kernel
theorem d30 : decode yB 30 = .ok (.i2b, 1) := by decide +kernel
theorem d31 : decode yB 31 = .ok (.bastore, 1) := by decide +kernel
theorem d32 : decode yB 32 = .ok (.iinc 1 1, 3) := by decide +kernel
theorem d35 : decode yB 35 = .ok (.iinc 3 1, 3) := by decide +kernel
theorem d38 : decode yB 38 = .ok (.iinc 5 1, 3) := by decide +kernel
theorem d41 : decode yB 41 = .ok (.goto (-38), 3) := by decide +kernel
theorem d44 : decode yB 44 = .ok (.iload 4, 2) := by decide +kernel
theorem d46 : decode yB 46 = .ok (.ireturn, 1) := by decide +kernel
def site : List Cond := []
def tab : Cond := tabOf yN yB 7 (some .int) site
def P (b : Addr) (A : Cell) (d : Addr) (B : Cell) (o q len : Nat) (args : Array Value) (s : State) : Prop := args = #[.ref b, .int (Int32.ofNat o), .ref d, .int (Int32.ofNat q), .int (Int32.ofNat len)] ∧ Ch b A s ∧ Arr .byte d B s ∧ b ≠ d ∧ o + len ≤ A.slots.size ∧ q + len ≤ B.slots.size ∧ ∀ i, i < len → ¬ 255 < cv A (o + i)
def E (b : Addr) (A : Cell) (d : Addr) (B : Cell) (o q len : Nat) (r : Option Value) (s u : State) : Prop := r = some (.int (Int32.ofNat len)) ∧ ∃ B', Put d B' s u ∧ Laid B B' q (q + len) (fun j => Value.int (lo8 (cv A (o + (j - q)))))
/-- no char of the range above 255: len; the places written hold each char's low byte -/
theorem law (l : Launch) (b : Addr) (A : Cell) (d : Addr) (B : Cell) (o q len : Nat) : Law l yN 5 5 0 0 yB 7 (some .int) site (P b A d B o q len) (E b A d B o q len) (copyLocs d q len) 0 0 := by
  refine Law.of_walk (plainFor_of_name (by decide +kernel)) (by decide +kernel) (by decide +kernel) (by decide) (fun _ _ h => by rw [h.1]; rfl) (fun _ U U' hal hh h => ⟨h.1, h.2.1.mv hal hh, h.2.2.1.mv hal hh, h.2.2.2⟩) (fun r U U' V V' h1 hal h2 h => ⟨h.1, h.2.elim fun B' q => ⟨B', q.1.mv h1 h2, q.2⟩⟩) ?_
  intro p e s m args below meth c s₁ X0 hexec hbytes hml hret hlk hnm hown hh0 W hP
  obtain ⟨rfl, hA, hB, hne, l1, l2, hp⟩ := hP
  have c1 : Steps p.tables e below (s₁.setTop (entryFrame m #[.ref b, .int (Int32.ofNat o), .ref d, .int (Int32.ofNat q), .int (Int32.ofNat len)] 7)) (s₁.setTop (mkF m 0 #[.val (.ref b), .val (.int (Int32.ofNat o)), .val (.ref d), .val (.int (Int32.ofNat q)), .val (.int (Int32.ofNat len)), .unset, .unset] [])) := entry rfl
  have hA0 := hA.1.mv X0.warmed.alike hh0
  have hB0 := hB.mv X0.warmed.alike hh0
  have a31 := hA.1.2.2.2
  have c2 : Steps p.tables e below (s₁.setTop (entryFrame m #[.ref b, .int (Int32.ofNat o), .ref d, .int (Int32.ofNat q), .int (Int32.ofNat len)] 7)) (s₁.setTop (mkF m 3 #[.val (.ref b), .val (.int (Int32.ofNat o)), .val (.ref d), .val (.int (Int32.ofNat q)), .val (.int (Int32.ofNat len)), .val (.int 0), .unset] [])) := c1.trans (by
    refine iconstV X0.here hexec rfl 0 (hb hbytes d0) (by decide) ?_
    refine XS.istore X0.here hexec rfl (hb hbytes d1) rfl rfl ?_
    exact Steps.refl _)
  have loop : ∀ (r i : Nat), i + r = len → ∀ (z : Slot), (z = .unset ∨ ∃ w, z = .val w ∧ w.category = 1) → ∀ (Tl : State) (Bk : Cell), Stand p l e { frames := 0, locals := 0, cells := 0, slots := 0 } s m #[.ref b, .int (Int32.ofNat o), .ref d, .int (Int32.ofNat q), .int (Int32.ofNat len)] below meth c Tl ([] ++ copyLocs d q i) 0 0 → Put d Bk s₁ Tl → Laid B Bk q (q + i) (fun j => Value.int (lo8 (cv A (o + (j - q))))) →
      Steps p.tables e below (s₁.setTop (entryFrame m #[.ref b, .int (Int32.ofNat o), .ref d, .int (Int32.ofNat q), .int (Int32.ofNat len)] 7)) (Tl.setTop (mkF m 3 #[.val (.ref b), .val (.int (Int32.ofNat (o + i))), .val (.ref d), .val (.int (Int32.ofNat (q + i))), .val (.int (Int32.ofNat len)), .val (.int (Int32.ofNat i)), z] [])) → ∃ (T' : State) (B' : Cell) (z' : Slot), Stand p l e { frames := 0, locals := 0, cells := 0, slots := 0 } s m #[.ref b, .int (Int32.ofNat o), .ref d, .int (Int32.ofNat q), .int (Int32.ofNat len)] below meth c T' ([] ++ copyLocs d q len) 0 0 ∧ Put d B' s₁ T' ∧ Laid B B' q (q + len) (fun j => Value.int (lo8 (cv A (o + (j - q))))) ∧
      Steps p.tables e below (s₁.setTop (entryFrame m #[.ref b, .int (Int32.ofNat o), .ref d, .int (Int32.ofNat q), .int (Int32.ofNat len)] 7)) (T'.setTop (mkF m 3 #[.val (.ref b), .val (.int (Int32.ofNat (o + len))), .val (.ref d), .val (.int (Int32.ofNat (q + len))), .val (.int (Int32.ofNat len)), .val (.int (Int32.ofNat len)), z'] [])) := by
    intro r
    induction r with
    | zero =>
      intro i hi z hz Tl Bk Xl pl fl cl
      have hil : i = len := by omega
      rw [hil] at Xl fl cl
      exact ⟨Tl, Bk, z, Xl, pl, fl, cl⟩
    | succ r ih =>
      intro i hi z hz Tl Bk Xl pl fl cl
      have all := X0.warmed.alike.symm.trans Xl.warmed.alike
      have hAl := hA0.keep all (pl.other hne hA0.1)
      have hBk := hB0.like all pl.1 fl.1 fl.2.1 fl.2.2.1
      have hlt : q + i < Bk.slots.size := by rw [fl.2.2.1]; omega
      have c3 : Steps p.tables e below (s₁.setTop (entryFrame m #[.ref b, .int (Int32.ofNat o), .ref d, .int (Int32.ofNat q), .int (Int32.ofNat len)] 7)) (Tl.setTop (mkF m 12 #[.val (.ref b), .val (.int (Int32.ofNat (o + i))), .val (.ref d), .val (.int (Int32.ofNat (q + i))), .val (.int (Int32.ofNat len)), .val (.int (Int32.ofNat i)), z] [.int (Int32.ofNat (o + i)), .ref b])) := cl.trans (by
        refine XS.iload Xl.here hexec rfl (hb hbytes d3) rfl ?_
        refine XS.iload Xl.here hexec rfl (hb hbytes d5) rfl ?_
        refine XS.icmpNo Xl.here hexec rfl (hb hbytes d7) rfl (ii_ge_f (lt32 (by omega) (by omega))) ?_
        refine XS.aloadN Xl.here hexec rfl (hb hbytes d10) rfl rfl ?_
        refine XS.iloadN Xl.here hexec rfl (hb hbytes d11) rfl ?_
        exact Steps.refl _)
      have c4 : Steps p.tables e below (s₁.setTop (entryFrame m #[.ref b, .int (Int32.ofNat o), .ref d, .int (Int32.ofNat q), .int (Int32.ofNat len)] 7)) (Tl.setTop (mkF m 13 #[.val (.ref b), .val (.int (Int32.ofNat (o + i))), .val (.ref d), .val (.int (Int32.ofNat (q + i))), .val (.int (Int32.ofNat len)), .val (.int (Int32.ofNat i)), z] [.int (cv A (o + i))])) := c3.trans (by
        refine Xl.aget hexec hAl rfl (hA.get (i := o + i) (by omega)) rfl rfl (hb hbytes d12) ?_
        exact Steps.refl _)
      have c5 : Steps p.tables e below (s₁.setTop (entryFrame m #[.ref b, .int (Int32.ofNat o), .ref d, .int (Int32.ofNat q), .int (Int32.ofNat len)] 7)) (Tl.setTop (mkF m 15 #[.val (.ref b), .val (.int (Int32.ofNat (o + i))), .val (.ref d), .val (.int (Int32.ofNat (q + i))), .val (.int (Int32.ofNat len)), .val (.int (Int32.ofNat i)), .val (.int (cv A (o + i)))] [])) := c4.trans (by
        refine XS.istoreS Xl.here hexec rfl (hb hbytes d13) rfl rfl hz ?_
        exact Steps.refl _)
      have c6 : Steps p.tables e below (s₁.setTop (entryFrame m #[.ref b, .int (Int32.ofNat o), .ref d, .int (Int32.ofNat q), .int (Int32.ofNat len)] 7)) (Tl.setTop (mkF m 31 #[.val (.ref b), .val (.int (Int32.ofNat (o + i))), .val (.ref d), .val (.int (Int32.ofNat (q + i))), .val (.int (Int32.ofNat len)), .val (.int (Int32.ofNat i)), .val (.int (cv A (o + i)))] [.int (lo8 (cv A (o + i))), .int (Int32.ofNat (q + i)), .ref d])) := c5.trans (by
        refine XS.iload Xl.here hexec rfl (hb hbytes d15) rfl ?_
        refine sipushV Xl.here hexec rfl 255 (hb hbytes d17) (by decide) ?_
        refine XS.icmpYes Xl.here hexec rfl (pc0 := 20) rfl (hb hbytes d20) rfl (ii_le_t (hp i (by omega))) (by decide) rfl ?_
        refine XS.aloadN Xl.here hexec rfl (hb hbytes d26) rfl rfl ?_
        refine XS.iloadN Xl.here hexec rfl (hb hbytes d27) rfl ?_
        refine XS.iload Xl.here hexec rfl (hb hbytes d28) rfl ?_
        refine i2b Xl.here hexec rfl (hb hbytes d30) rfl ?_
        exact Steps.refl _)
      obtain ⟨T7, X7, p7, st7⟩ := Xl.aput hexec hBk rfl hlt rfl (fits_lo8 (cv A (o + i))) (g := (mkF m 31 #[.val (.ref b), .val (.int (Int32.ofNat (o + i))), .val (.ref d), .val (.int (Int32.ofNat (q + i))), .val (.int (Int32.ofNat len)), .val (.int (Int32.ofNat i)), .val (.int (cv A (o + i)))] [.int (lo8 (cv A (o + i))), .int (Int32.ofNat (q + i)), .ref d])) rfl (rest := []) rfl (hb hbytes d31)
      have c8 : Steps p.tables e below (s₁.setTop (entryFrame m #[.ref b, .int (Int32.ofNat o), .ref d, .int (Int32.ofNat q), .int (Int32.ofNat len)] 7)) (T7.setTop (mkF m 32 #[.val (.ref b), .val (.int (Int32.ofNat (o + i))), .val (.ref d), .val (.int (Int32.ofNat (q + i))), .val (.int (Int32.ofNat len)), .val (.int (Int32.ofNat i)), .val (.int (cv A (o + i)))] [])) := c6.trans (st7 _ (Steps.refl _))
      have c9 : Steps p.tables e below (s₁.setTop (entryFrame m #[.ref b, .int (Int32.ofNat o), .ref d, .int (Int32.ofNat q), .int (Int32.ofNat len)] 7)) (T7.setTop (mkF m 3 #[.val (.ref b), .val (.int (Int32.ofNat (o + i) + 1)), .val (.ref d), .val (.int (Int32.ofNat (q + i) + 1)), .val (.int (Int32.ofNat len)), .val (.int (Int32.ofNat i + 1)), .val (.int (cv A (o + i)))] [])) := c8.trans (by
        refine iincV X7.here hexec rfl 1 (hb hbytes d32) (by decide) rfl rfl ?_
        refine iincV X7.here hexec rfl 1 (hb hbytes d35) (by decide) rfl rfl ?_
        refine iincV X7.here hexec rfl 1 (hb hbytes d38) (by decide) rfl rfl ?_
        refine XS.goto X7.here hexec rfl (pc0 := 41) rfl (hb hbytes d41) (by decide) rfl ?_
        exact Steps.refl _)
      have c10 : Steps p.tables e below (s₁.setTop (entryFrame m #[.ref b, .int (Int32.ofNat o), .ref d, .int (Int32.ofNat q), .int (Int32.ofNat len)] 7)) (T7.setTop (mkF m 3 #[.val (.ref b), .val (.int (Int32.ofNat (o + (i + 1)))), .val (.ref d), .val (.int (Int32.ofNat (q + (i + 1)))), .val (.int (Int32.ofNat len)), .val (.int (Int32.ofNat (i + 1))), .val (.int (cv A (o + i)))] [])) := by
        have := c9
        rw [succ32, succ32, succ32] at this
        exact this
      exact ih (i + 1) (by omega) _ (Or.inr ⟨_, rfl, rfl⟩) T7 _ (by rw [copyLocs_step, ← List.append_assoc]; exact X7) (pl.trans p7) (fl.step (by omega) hlt (by simp)) c10
  obtain ⟨T9, B9, z9, X9, p9, f9, g9⟩ := loop len 0 (by omega) .unset (Or.inl rfl) s₁ B (by simpa [copyLocs] using X0) ⟨hB0.1, fun _ _ => rfl, rfl⟩ (Laid.zero _ _ _) c2
  have c11 : Steps p.tables e below (s₁.setTop (entryFrame m #[.ref b, .int (Int32.ofNat o), .ref d, .int (Int32.ofNat q), .int (Int32.ofNat len)] 7)) (T9.setTop (mkF m 46 #[.val (.ref b), .val (.int (Int32.ofNat (o + len))), .val (.ref d), .val (.int (Int32.ofNat (q + len))), .val (.int (Int32.ofNat len)), .val (.int (Int32.ofNat len)), z9] [.int (Int32.ofNat len)])) := g9.trans (by
    refine XS.iload X9.here hexec rfl (hb hbytes d3) rfl ?_
    refine XS.iload X9.here hexec rfl (hb hbytes d5) rfl ?_
    refine XS.icmpYes X9.here hexec rfl (pc0 := 7) rfl (hb hbytes d7) rfl (ii_ge_t (nlt32 (by omega) (Nat.le_refl _))) (by decide) rfl ?_
    refine XS.iload X9.here hexec rfl (hb hbytes d44) rfl ?_
    exact Steps.refl _)
  exact ⟨T9, some (.int (Int32.ofNat len)), _, _, _, X9, by simp, rfl, rfl, (fun h => by cases h), ⟨rfl, B9, p9.from hh0, f9⟩, fun fs hl => c11.trans (X9.ireturnOut hexec hret rfl (Or.inl rfl) (hb hbytes d46) hl)⟩
end Cmp5
namespace Cmp3
def yN : MethodName := ⟨"java/lang/StringUTF16", "compress", "([CII)[B"⟩
abbrev yB : ByteArray := jdk_52_method_16_code
theorem d0 : decode yB 0 = .ok (.iload_n 2, 1) := by decide +kernel
theorem d1 : decode yB 1 = .ok (.newarray .byte, 2) := by decide +kernel
theorem d3 : decode yB 3 = .ok (.astore_n 3, 1) := by decide +kernel
theorem d4 : decode yB 4 = .ok (.aload_n 0, 1) := by decide +kernel
theorem d5 : decode yB 5 = .ok (.iload_n 1, 1) := by decide +kernel
theorem d6 : decode yB 6 = .ok (.aload_n 3, 1) := by decide +kernel
theorem d7 : decode yB 7 = .ok (.iconst 0, 1) := by decide +kernel
theorem d8 : decode yB 8 = .ok (.iload_n 2, 1) := by decide +kernel
theorem d9 : decode yB 9 = .ok (.invokestatic 115, 3) := by decide +kernel
theorem d12 : decode yB 12 = .ok (.istore 4, 2) := by decide +kernel
theorem d14 : decode yB 14 = .ok (.iload 4, 2) := by decide +kernel
theorem d16 : decode yB 16 = .ok (.iload_n 2, 1) := by decide +kernel
theorem d17 : decode yB 17 = .ok (.if_icmp (.eq) 40, 3) := by decide +kernel
theorem d57 : decode yB 57 = .ok (.aload_n 3, 1) := by decide +kernel
theorem d58 : decode yB 58 = .ok (.areturn, 1) := by decide +kernel
def site : List Cond := [.arrayClass .byte, Cmp5.tab] ++ staticW U16 115 Cmp5.yN
def tab : Cond := tabOf yN yB 6 (some (.array .byte)) site
def P (b : Addr) (A : Cell) (o len : Nat) (args : Array Value) (s : State) : Prop := args = #[.ref b, .int (Int32.ofNat o), .int (Int32.ofNat len)] ∧ Ch b A s ∧ o + len ≤ A.slots.size ∧ len ≤ 536870912 ∧ ∀ i, i < len → ¬ 255 < cv A (o + i)
def E (b : Addr) (A : Cell) (o len : Nat) (r : Option Value) (s u : State) : Prop := NewArr .byte "[B" len (fun j => .int (lo8 (cv A (o + j)))) r s u ∧ u.heap.size = s.heap.size + 1
/-- no char of the range above 255: a new byte[] of their low bytes -/
theorem law (l : Launch) (b : Addr) (A : Cell) (o len : Nat) : Law l yN 3 3 1 18 yB 6 (some (.array .byte)) site (P b A o len) (E b A o len) [] 1 len := by
  refine Law.of_walk (plainFor_of_name (by decide +kernel)) (by decide +kernel) (by decide +kernel) (by decide) (fun _ _ h => by rw [h.1]; rfl) (fun _ U U' hal hh h => ⟨h.1, h.2.1.mv hal hh, h.2.2⟩) (fun r U U' V V' h1 hal h2 h => ⟨NewArr.mv r U U' V V' h1 hal h2 h.1, by rw [h1, h2]; exact h.2⟩) ?_
  intro p e s m args below meth c s₁ X0 hexec hbytes hml hret hlk hnm hown hh0 W hP
  obtain ⟨rfl, hA, l1, l2, hp⟩ := hP
  have a31 := hA.1.2.2.2
  have c1 : Steps p.tables e below (s₁.setTop (entryFrame m #[.ref b, .int (Int32.ofNat o), .int (Int32.ofNat len)] 6)) (s₁.setTop (mkF m 0 #[.val (.ref b), .val (.int (Int32.ofNat o)), .val (.int (Int32.ofNat len)), .unset, .unset, .unset] [])) := entry rfl
  have c2 : Steps p.tables e below (s₁.setTop (entryFrame m #[.ref b, .int (Int32.ofNat o), .int (Int32.ofNat len)] 6)) (s₁.setTop (mkF m 1 #[.val (.ref b), .val (.int (Int32.ofNat o)), .val (.int (Int32.ofNat len)), .unset, .unset, .unset] [.int (Int32.ofNat len)])) := c1.trans (by
    refine XS.iloadN X0.here hexec rfl (hb hbytes d0) rfl ?_
    exact Steps.refl _)
  obtain ⟨T3, B3, X3, ba3, bs3, bv3, bh3, bf3, st3⟩ := X0.anew hexec (atype := .byte) (wk W (.arrayClass .byte)) rfl (by show len * 1 ≤ _; omega) (by omega) (g := (mkF m 1 #[.val (.ref b), .val (.int (Int32.ofNat o)), .val (.int (Int32.ofNat len)), .unset, .unset, .unset] [.int (Int32.ofNat len)])) rfl (hb hbytes d1) (rest := []) rfl (Nat.le_refl _) (by show 0 + len ≤ len; omega)
  rw [hh0] at ba3 st3
  have kp3 : XT.Kept s T3 := (XT.Kept.of_eq hh0).push bh3
  have hA3 := hA.keep X3.warmed.alike (kp3 _ _ hA.1.1)
  have hne : b ≠ s.heap.size := hA.1.ne
  have c4 : Steps p.tables e below (s₁.setTop (entryFrame m #[.ref b, .int (Int32.ofNat o), .int (Int32.ofNat len)] 6)) (T3.setTop (mkF m 3 #[.val (.ref b), .val (.int (Int32.ofNat o)), .val (.int (Int32.ofNat len)), .unset, .unset, .unset] [.ref s.heap.size])) := c2.trans (st3 _ (Steps.refl _))
  have c5 : Steps p.tables e below (s₁.setTop (entryFrame m #[.ref b, .int (Int32.ofNat o), .int (Int32.ofNat len)] 6)) (T3.setTop (mkF m 9 #[.val (.ref b), .val (.int (Int32.ofNat o)), .val (.int (Int32.ofNat len)), .val (.ref s.heap.size), .unset, .unset] [.int (Int32.ofNat len), .int 0, .ref s.heap.size, .int (Int32.ofNat o), .ref b])) := c4.trans (by
    refine XS.astoreN X3.here hexec rfl (hb hbytes d3) rfl rfl rfl ?_
    refine XS.aloadN X3.here hexec rfl (hb hbytes d4) rfl rfl ?_
    refine XS.iloadN X3.here hexec rfl (hb hbytes d5) rfl ?_
    refine XS.aloadN X3.here hexec rfl (hb hbytes d6) rfl rfl ?_
    refine iconstV X3.here hexec rfl 0 (hb hbytes d7) (by decide) ?_
    refine XS.iloadN X3.here hexec rfl (hb hbytes d8) rfl ?_
    exact Steps.refl _)
  obtain ⟨v6, T6, X6, E6, g6⟩ := X3.callS hexec (Cmp5.law l b A s.heap.size B3 o 0 len) hown (wks W (staticW U16 115 Cmp5.yN)) (wk W Cmp5.tab) (W := 0) (Nat.le_of_ble_eq_true rfl) (Nat.le_of_ble_eq_true rfl) (Nat.le_refl _) (by show 0 + len + 0 ≤ len; omega) (g := (mkF m 9 #[.val (.ref b), .val (.int (Int32.ofNat o)), .val (.int (Int32.ofNat len)), .val (.ref s.heap.size), .unset, .unset] [.int (Int32.ofNat len), .int (Int32.ofNat 0), .ref s.heap.size, .int (Int32.ofNat o), .ref b])) rfl (by rw [hml]; rfl) c5 (argsL := [.ref b, .int (Int32.ofNat o), .ref s.heap.size, .int (Int32.ofNat 0), .int (Int32.ofNat len)]) (rest := []) rfl rfl (by show 2 * 0 + 0 ≤ _; decide) (hb hbytes d9) (⟨rfl, hA3, ba3, hne, l1, by rw [bs3]; simp, hp⟩)
  obtain ⟨rfl, B6, p6, f6⟩ := E6
  have c7 : Steps p.tables e below (s₁.setTop (entryFrame m #[.ref b, .int (Int32.ofNat o), .int (Int32.ofNat len)] 6)) (T6.setTop (mkF m 12 #[.val (.ref b), .val (.int (Int32.ofNat o)), .val (.int (Int32.ofNat len)), .val (.ref s.heap.size), .unset, .unset] [.int (Int32.ofNat len)])) := g6
  have c8 : Steps p.tables e below (s₁.setTop (entryFrame m #[.ref b, .int (Int32.ofNat o), .int (Int32.ofNat len)] 6)) (T6.setTop (mkF m 58 #[.val (.ref b), .val (.int (Int32.ofNat o)), .val (.int (Int32.ofNat len)), .val (.ref s.heap.size), .val (.int (Int32.ofNat len)), .unset] [.ref s.heap.size])) := c7.trans (by
    refine XS.istore X6.here hexec rfl (hb hbytes d12) rfl rfl ?_
    refine XS.iload X6.here hexec rfl (hb hbytes d14) rfl ?_
    refine XS.iloadN X6.here hexec rfl (hb hbytes d16) rfl ?_
    refine XS.icmpYes X6.here hexec rfl (pc0 := 17) rfl (hb hbytes d17) rfl (ii_eq_t rfl) (by decide) rfl ?_
    refine XS.aloadN X6.here hexec rfl (hb hbytes d57) rfl rfl ?_
    exact Steps.refl _)
  have X8 := X6.wide (L' := []) (cells' := 1) (slots' := len) (fun x hx hlt => by
    simp only [List.nil_append, copyLocs, List.mem_map, List.mem_range] at hx
    obtain ⟨i, -, rfl⟩ := hx
    exact absurd hlt (Nat.lt_irrefl _)) (Nat.le_refl _) (by omega)
  exact ⟨T6, some (.ref s.heap.size), _, _, _, X8, rfl, rfl, rfl, (fun h => by cases h), ⟨⟨rfl, B6, ba3.like (X3.warmed.alike.symm.trans X6.warmed.alike) p6.1 f6.1 f6.2.1 f6.2.2.1, f6.2.1.trans bv3, by rw [X6.warmed.alike.findClass, f6.1]; exact bf3, by rw [f6.2.2.1, bs3]; simp, fun j hj => by rw [f6.2.2.2 j, if_pos (by omega)]; rfl, kp3.put p6 (Nat.le_refl _)⟩, by rw [p6.2.2, bh3, hh0]; simp⟩, fun fs hl => c8.trans (X8.areturnOut hexec rfl hret rfl (hb hbytes d58) hl)⟩
end Cmp3
namespace CodL
def yN : MethodName := ⟨"java/lang/StringUTF16", "coderFromArrayLen", "([BI)B"⟩
abbrev yB : ByteArray := jdk_52_method_15_code
theorem d0 : decode yB 0 = .ok (.iload_n 1, 1) := by decide +kernel
theorem d1 : decode yB 1 = .ok (.aload_n 0, 1) := by decide +kernel
theorem d2 : decode yB 2 = .ok (.arraylength, 1) := by decide +kernel
theorem d3 : decode yB 3 = .ok (.isub, 1) := by decide +kernel
theorem d4 : decode yB 4 = .ok (.bipush 31, 2) := by decide +kernel
theorem d6 : decode yB 6 = .ok (.iushr, 1) := by decide +kernel
theorem d7 : decode yB 7 = .ok (.i2b, 1) := by decide +kernel
theorem d8 : decode yB 8 = .ok (.ireturn, 1) := by decide +kernel
def site : List Cond := []
def tab : Cond := tabOf yN yB 2 (some .byte) site
def P (d : Addr) (B : Cell) (args : Array Value) (s : State) : Prop := args = #[.ref d, .int (Int32.ofNat B.slots.size)] ∧ Arr .byte d B s
def E (r : Option Value) (s u : State) : Prop := XT.PureE (some (.int 0)) r s u
/-- an array as long as the number of chars: LATIN1 -/
theorem law (l : Launch) (d : Addr) (B : Cell) : Law l yN 2 2 0 0 yB 2 (some .byte) site (P d B) E [] 0 0 := by
  refine Law.of_walk (plainFor_of_name (by decide +kernel)) (by decide +kernel) (by decide +kernel) (by decide) (fun _ _ h => by rw [h.1]; rfl) (fun _ U U' hal hh h => ⟨h.1, h.2.mv hal hh⟩) (fun r U U' V V' h1 hal h2 h => XT.PureE.mv r U U' V V' h1 hal h2 h) ?_
  intro p e s m args below meth c s₁ X0 hexec hbytes hml hret hlk hnm hown hh0 W hP
  obtain ⟨rfl, hB⟩ := hP
  have hB0 := hB.mv X0.warmed.alike hh0
  have c1 : Steps p.tables e below (s₁.setTop (entryFrame m #[.ref d, .int (Int32.ofNat B.slots.size)] 2)) (s₁.setTop (mkF m 0 #[.val (.ref d), .val (.int (Int32.ofNat B.slots.size))] [])) := entry rfl
  have c2 : Steps p.tables e below (s₁.setTop (entryFrame m #[.ref d, .int (Int32.ofNat B.slots.size)] 2)) (s₁.setTop (mkF m 2 #[.val (.ref d), .val (.int (Int32.ofNat B.slots.size))] [.ref d, .int (Int32.ofNat B.slots.size)])) := c1.trans (by
    refine XS.iloadN X0.here hexec rfl (hb hbytes d0) rfl ?_
    refine XS.aloadN X0.here hexec rfl (hb hbytes d1) rfl rfl ?_
    exact Steps.refl _)
  have c3 : Steps p.tables e below (s₁.setTop (entryFrame m #[.ref d, .int (Int32.ofNat B.slots.size)] 2)) (s₁.setTop (mkF m 8 #[.val (.ref d), .val (.int (Int32.ofNat B.slots.size))] [.int (lo8 (ushr (Int32.ofNat B.slots.size - Int32.ofNat B.slots.size) 31))])) := c2.trans (by
    refine X0.alen hexec hB0 rfl rfl (hb hbytes d2) ?_
    refine XS.isub X0.here hexec rfl (hb hbytes d3) rfl ?_
    refine bipushV X0.here hexec rfl 31 (hb hbytes d4) (by decide) ?_
    refine iushr X0.here hexec rfl (hb hbytes d6) rfl ?_
    refine i2b X0.here hexec rfl (hb hbytes d7) rfl ?_
    exact Steps.refl _)
  have e0 : lo8 (ushr (Int32.ofNat B.slots.size - Int32.ofNat B.slots.size) 31) = 0 := by rw [Int32.sub_self]; decide
  rw [e0] at c3
  exact ⟨s₁, some (.int 0), _, _, _, X0, rfl, rfl, rfl, (fun h => by cases h), ⟨rfl, hh0⟩, fun fs hl => c3.trans (X0.ireturnOut hexec hret rfl (Or.inr (Or.inr (Or.inl rfl))) (hb hbytes d8) hl)⟩
end CodL
/-- the String at a is Latin-1 over a new byte[] (the heap's one new cell): the low bytes of the len chars of A from o on; every cell but a is kept -/
def Got (a : Addr) (D : Cell) (fV fC : Field) (A : Cell) (o len : Nat) (r : Option Value) (s u : State) : Prop := r = none ∧ ∃ D' V : Cell, Blank "java/lang/String" a D' u ∧ Same D D' [fV.slot, fC.slot] ∧ D'.slots[fV.slot]? = some (.ref s.heap.size) ∧ D'.slots[fC.slot]? = some (.int 0) ∧ Arr .byte s.heap.size V u ∧ V.vm = .none ∧ u.vm.findClass "[B" = some V.cls ∧ V.slots.size = len ∧ (∀ j, j < len → V.slots[j]? = some (.int (lo8 (cv A (o + j))))) ∧ (∀ (y : Addr) (c : Cell), y ≠ a → s.heap[y]? = some c → u.heap[y]? = some c) ∧ u.heap.size = s.heap.size + 1
theorem Got.mv {a : Addr} {D A : Cell} {fV fC : Field} {o len : Nat} : ∀ r (U U' V V' : State), U'.heap = U.heap → V.vm.Alike V'.vm → V'.heap = V.heap → Got a D fV fC A o len r U V → Got a D fV fC A o len r U' V' :=
  fun r U U' V V' h1 hal h2 ⟨e0, D', X, a1, a2, a3, a4, a5, a6, a7, a8, a9, a10, a11⟩ => ⟨e0, D', X, a1.mv hal h2, a2, by rw [h1]; exact a3, a4, by rw [h1]; exact a5.mv hal h2, a6, by rw [hal.findClass]; exact a7, a8, a9, by rw [h1, h2]; exact a10, by rw [h1, h2]; exact a11⟩
namespace New4
def yN : MethodName := ⟨"java/lang/String", "<init>", "([CIILjava/lang/Void;)V"⟩
abbrev yB : ByteArray := jdk_42_method_149_code
theorem d0 : decode yB 0 = .ok (.aload_n 0, 1) := by decide +kernel
theorem d1 : decode yB 1 = .ok (.invokespecial 1, 3) := by decide +kernel
theorem d4 : decode yB 4 = .ok (.iload_n 3, 1) := by decide +kernel
theorem d5 : decode yB 5 = .ok (.ifCond (.ne) 22, 3) := by decide +kernel
theorem d27 : decode yB 27 = .ok (.getstatic 38, 3) := by decide +kernel
theorem d30 : decode yB 30 = .ok (.ifCond (.eq) 28, 3) := by decide +kernel
theorem d33 : decode yB 33 = .ok (.aload_n 1, 1) := by decide +kernel
theorem d34 : decode yB 34 = .ok (.iload_n 2, 1) := by decide +kernel
theorem d35 : decode yB 35 = .ok (.iload_n 3, 1) := by decide +kernel
theorem d36 : decode yB 36 = .ok (.invokestatic 177, 3) := by decide +kernel
theorem d39 : decode yB 39 = .ok (.astore 5, 2) := by decide +kernel
theorem d41 : decode yB 41 = .ok (.aload_n 0, 1) := by decide +kernel
theorem d42 : decode yB 42 = .ok (.aload 5, 2) := by decide +kernel
theorem d44 : decode yB 44 = .ok (.iload_n 3, 1) := by decide +kernel
theorem d45 : decode yB 45 = .ok (.invokestatic 47, 3) := by decide +kernel
theorem d48 : decode yB 48 = .ok (.putfield 15, 3) := by decide +kernel
theorem d51 : decode yB 51 = .ok (.aload_n 0, 1) := by decide +kernel
theorem d52 : decode yB 52 = .ok (.aload 5, 2) := by decide +kernel
theorem d54 : decode yB 54 = .ok (.putfield 9, 3) := by decide +kernel
theorem d57 : decode yB 57 = .ok (.return_, 1) := by decide +kernel
def site : List Cond := [.fieldLink "java/lang/String" 38 "java/lang/String" "COMPACT_STRINGS" "Z", Cmp3.tab, CodL.tab, .laysFinal "java/lang/String" "java/lang/String" "value" "[B", .fieldLink "java/lang/String" 9 "java/lang/String" "value" "[B", .laysFinal "java/lang/String" "java/lang/String" "coder" "B", .fieldLink "java/lang/String" 15 "java/lang/String" "coder" "B"] ++ objW "java/lang/String" 1 ++ staticW "java/lang/String" 177 Cmp3.yN ++ staticW "java/lang/String" 47 CodL.yN
def tab : Cond := tabOf yN yB 6 none site
def P (a : Addr) (D : Cell) (fV fC : Field) (b : Addr) (A : Cell) (z : Int32) (o len : Nat) (args : Array Value) (s : State) : Prop := args = #[.ref a, .ref b, .int (Int32.ofNat o), .int (Int32.ofNat len), .null] ∧ Blank "java/lang/String" a D s ∧ Found "java/lang/String" "value" "[B" fV s ∧ Found "java/lang/String" "coder" "B" fC s ∧ Ch b A s ∧ StaticIs s "java/lang/String" "COMPACT_STRINGS" "Z" (.int z) ∧ ¬ z = 0 ∧ 0 < len ∧ o + len ≤ A.slots.size ∧ len ≤ 536870912 ∧ ∀ i, i < len → ¬ 255 < cv A (o + i)
def E (a : Addr) (D : Cell) (fV fC : Field) (A : Cell) (o len : Nat) (r : Option Value) (s u : State) : Prop := Got a D fV fC A o len r s u
/-- len > 0, no char of the range above 255: a Latin-1 String of their low bytes -/
theorem law (l : Launch) (a : Addr) (D : Cell) (fV fC : Field) (b : Addr) (A : Cell) (z : Int32) (o len : Nat) : Law l yN 5 4 2 35 yB 6 none site (P a D fV fC b A z o len) (E a D fV fC A o len) [⟨a, fC.slot⟩, ⟨a, fV.slot⟩] 1 len := by
  refine Law.of_walk (plainFor_of_name (by decide +kernel)) (by decide +kernel) (by decide +kernel) (by decide) (fun _ _ h => by rw [h.1]; rfl) (fun _ U U' hal hh h => ⟨h.1, h.2.1.mv hal hh, h.2.2.1.al hal, h.2.2.2.1.al hal, h.2.2.2.2.1.mv hal hh, h.2.2.2.2.2.1.there hal hh, h.2.2.2.2.2.2⟩) (fun r U U' V V' h1 hal h2 h => Got.mv r U U' V V' h1 hal h2 h) ?_
  intro p e s m args below meth c s₁ X0 hexec hbytes hml hret hlk hnm hown hh0 W hP
  obtain ⟨rfl, hB, f1, f2, hA, s1, hz, l0, l1, l2, hp⟩ := hP
  have a31 := hA.1.2.2.2
  have c1 : Steps p.tables e below (s₁.setTop (entryFrame m #[.ref a, .ref b, .int (Int32.ofNat o), .int (Int32.ofNat len), .null] 6)) (s₁.setTop (mkF m 0 #[.val (.ref a), .val (.ref b), .val (.int (Int32.ofNat o)), .val (.int (Int32.ofNat len)), .val .null, .unset] [])) := entry rfl
  have c2 : Steps p.tables e below (s₁.setTop (entryFrame m #[.ref a, .ref b, .int (Int32.ofNat o), .int (Int32.ofNat len), .null] 6)) (s₁.setTop (mkF m 1 #[.val (.ref a), .val (.ref b), .val (.int (Int32.ofNat o)), .val (.int (Int32.ofNat len)), .val .null, .unset] [.ref a])) := c1.trans (by
    refine XS.aloadN X0.here hexec rfl (hb hbytes d0) rfl rfl ?_
    exact Steps.refl _)
  obtain ⟨T3, X3, q3, st3⟩ := X0.oinit hexec hown (wks W (objW "java/lang/String" 1)) (g := (mkF m 1 #[.val (.ref a), .val (.ref b), .val (.int (Int32.ofNat o)), .val (.int (Int32.ofNat len)), .val .null, .unset] [.ref a])) rfl (by rw [hml]; rfl) (rest := []) rfl (hb hbytes d1) (W := 0) (by show 2 * 0 + 0 ≤ _; decide) (Nat.le_of_ble_eq_true rfl) (Nat.le_of_ble_eq_true rfl)
  have hh3 := q3.trans hh0
  have c4 : Steps p.tables e below (s₁.setTop (entryFrame m #[.ref a, .ref b, .int (Int32.ofNat o), .int (Int32.ofNat len), .null] 6)) (T3.setTop (mkF m 27 #[.val (.ref a), .val (.ref b), .val (.int (Int32.ofNat o)), .val (.int (Int32.ofNat len)), .val .null, .unset] [])) := (c2.trans (st3 _ (Steps.refl _))).trans (by
    refine XS.iloadN X3.here hexec rfl (hb hbytes d4) rfl ?_
    refine XS.ifYes X3.here hexec rfl (pc0 := 5) rfl (hb hbytes d5) rfl (i0_ne_t (nz32 (by omega) l0)) (by decide) rfl ?_
    exact Steps.refl _)
  obtain ⟨T5, X5, q5, st5⟩ := X3.sget hexec hown (wk W (.fieldLink "java/lang/String" 38 "java/lang/String" "COMPACT_STRINGS" "Z")) s1 (fun _ _ h => by rw [hh3]; exact h) (g := (mkF m 27 #[.val (.ref a), .val (.ref b), .val (.int (Int32.ofNat o)), .val (.int (Int32.ofNat len)), .val .null, .unset] [])) rfl (hb hbytes d27)
  have hh5 := q5.trans hh3
  have c6 : Steps p.tables e below (s₁.setTop (entryFrame m #[.ref a, .ref b, .int (Int32.ofNat o), .int (Int32.ofNat len), .null] 6)) (T5.setTop (mkF m 30 #[.val (.ref a), .val (.ref b), .val (.int (Int32.ofNat o)), .val (.int (Int32.ofNat len)), .val .null, .unset] [.int z])) := c4.trans (st5 _ (Steps.refl _))
  have c7 : Steps p.tables e below (s₁.setTop (entryFrame m #[.ref a, .ref b, .int (Int32.ofNat o), .int (Int32.ofNat len), .null] 6)) (T5.setTop (mkF m 36 #[.val (.ref a), .val (.ref b), .val (.int (Int32.ofNat o)), .val (.int (Int32.ofNat len)), .val .null, .unset] [.int (Int32.ofNat len), .int (Int32.ofNat o), .ref b])) := c6.trans (by
    refine XS.ifNo X5.here hexec rfl (hb hbytes d30) rfl (i0_eq_f hz) ?_
    refine XS.aloadN X5.here hexec rfl (hb hbytes d33) rfl rfl ?_
    refine XS.iloadN X5.here hexec rfl (hb hbytes d34) rfl ?_
    refine XS.iloadN X5.here hexec rfl (hb hbytes d35) rfl ?_
    exact Steps.refl _)
  obtain ⟨v8, T8, X8, E8, g8⟩ := X5.callS hexec (Cmp3.law l b A o len) hown (wks W (staticW "java/lang/String" 177 Cmp3.yN)) (wk W Cmp3.tab) (W := 0) (Nat.le_of_ble_eq_true rfl) (Nat.le_of_ble_eq_true rfl) (Nat.le_refl _) (by show 0 + len ≤ len; omega) (g := (mkF m 36 #[.val (.ref a), .val (.ref b), .val (.int (Int32.ofNat o)), .val (.int (Int32.ofNat len)), .val .null, .unset] [.int (Int32.ofNat len), .int (Int32.ofNat o), .ref b])) rfl (by rw [hml]; rfl) c7 (argsL := [.ref b, .int (Int32.ofNat o), .int (Int32.ofNat len)]) (rest := []) rfl rfl (by show 2 * 0 + 0 ≤ _; decide) (hb hbytes d36) (⟨rfl, hA.mv X5.warmed.alike hh5, l1, l2, hp⟩)
  obtain ⟨e8, z8⟩ := E8
  obtain ⟨rfl, N, n1, n2, n3, n4, n5, n6⟩ := NewArr.mv _ T5 s _ _ hh5.symm (Vm.Alike.refl _) rfl e8
  rw [hh5] at z8
  have hB1 := hB.keep X8.warmed.alike (n6 _ _ hB.1)
  have hne : s.heap.size ≠ a := (Nat.ne_of_lt (Array.getElem?_eq_some_iff.mp hB.1).1).symm
  have c9 : Steps p.tables e below (s₁.setTop (entryFrame m #[.ref a, .ref b, .int (Int32.ofNat o), .int (Int32.ofNat len), .null] 6)) (T8.setTop (mkF m 39 #[.val (.ref a), .val (.ref b), .val (.int (Int32.ofNat o)), .val (.int (Int32.ofNat len)), .val .null, .unset] [.ref s.heap.size])) := g8
  have c10 : Steps p.tables e below (s₁.setTop (entryFrame m #[.ref a, .ref b, .int (Int32.ofNat o), .int (Int32.ofNat len), .null] 6)) (T8.setTop (mkF m 45 #[.val (.ref a), .val (.ref b), .val (.int (Int32.ofNat o)), .val (.int (Int32.ofNat len)), .val .null, .val (.ref s.heap.size)] [.int (Int32.ofNat N.slots.size), .ref s.heap.size, .ref a])) := by
    have hc : Steps p.tables e below (s₁.setTop (entryFrame m #[.ref a, .ref b, .int (Int32.ofNat o), .int (Int32.ofNat len), .null] 6)) (T8.setTop (mkF m 45 #[.val (.ref a), .val (.ref b), .val (.int (Int32.ofNat o)), .val (.int (Int32.ofNat len)), .val .null, .val (.ref s.heap.size)] [.int (Int32.ofNat len), .ref s.heap.size, .ref a])) := c9.trans (by
      refine XS.astore X8.here hexec rfl (hb hbytes d39) rfl rfl rfl ?_
      refine XS.aloadN X8.here hexec rfl (hb hbytes d41) rfl rfl ?_
      refine XS.aload X8.here hexec rfl (hb hbytes d42) rfl rfl ?_
      refine XS.iloadN X8.here hexec rfl (hb hbytes d44) rfl ?_
      exact Steps.refl _)
    rw [n4]; exact hc
  obtain ⟨v11, T11, X11, E11, g11⟩ := X8.callS hexec (CodL.law l s.heap.size N) hown (wks W (staticW "java/lang/String" 47 CodL.yN)) (wk W CodL.tab) (W := 1) (Nat.le_of_ble_eq_true rfl) (Nat.le_of_ble_eq_true rfl) (Nat.le_refl _) (by show 0 + len + 0 ≤ len; omega) (g := (mkF m 45 #[.val (.ref a), .val (.ref b), .val (.int (Int32.ofNat o)), .val (.int (Int32.ofNat len)), .val .null, .val (.ref s.heap.size)] [.int (Int32.ofNat N.slots.size), .ref s.heap.size, .ref a])) rfl (by rw [hml]; rfl) c10 (argsL := [.ref s.heap.size, .int (Int32.ofNat N.slots.size)]) (rest := [.ref a]) rfl rfl (by show 2 * 0 + (1 + 0) ≤ _; decide) (hb hbytes d45) (⟨rfl, n1⟩)
  obtain ⟨rfl, q11⟩ := E11
  have hB11 := hB1.mv (X8.warmed.alike.symm.trans X11.warmed.alike) q11
  have c12 : Steps p.tables e below (s₁.setTop (entryFrame m #[.ref a, .ref b, .int (Int32.ofNat o), .int (Int32.ofNat len), .null] 6)) (T11.setTop (mkF m 48 #[.val (.ref a), .val (.ref b), .val (.int (Int32.ofNat o)), .val (.int (Int32.ofNat len)), .val .null, .val (.ref s.heap.size)] [.int 0, .ref a])) := g11
  obtain ⟨T13, X13, p13, bl13, sl13, st13⟩ := X11.finit hexec hown (wk W (.fieldLink "java/lang/String" 15 "java/lang/String" "coder" "B")) (Or.inr ⟨_, (wk W (.laysFinal "java/lang/String" "java/lang/String" "coder" "B"))⟩) (Or.inl ⟨rfl, hnm⟩) f2 (Or.inl rfl) hB11 (t := .byte) (by decide +kernel) rfl (g := (mkF m 48 #[.val (.ref a), .val (.ref b), .val (.int (Int32.ofNat o)), .val (.int (Int32.ofNat len)), .val .null, .val (.ref s.heap.size)] [.int 0, .ref a])) rfl (rest := []) rfl (hb hbytes d48)
  have c14 : Steps p.tables e below (s₁.setTop (entryFrame m #[.ref a, .ref b, .int (Int32.ofNat o), .int (Int32.ofNat len), .null] 6)) (T13.setTop (mkF m 54 #[.val (.ref a), .val (.ref b), .val (.int (Int32.ofNat o)), .val (.int (Int32.ofNat len)), .val .null, .val (.ref s.heap.size)] [.ref s.heap.size, .ref a])) := (c12.trans (st13 _ (Steps.refl _))).trans (by
    refine XS.aloadN X13.here hexec rfl (hb hbytes d51) rfl rfl ?_
    refine XS.aload X13.here hexec rfl (hb hbytes d52) rfl rfl ?_
    exact Steps.refl _)
  obtain ⟨T15, X15, p15, bl15, sl15, st15⟩ := X13.finit hexec hown (wk W (.fieldLink "java/lang/String" 9 "java/lang/String" "value" "[B")) (Or.inr ⟨_, (wk W (.laysFinal "java/lang/String" "java/lang/String" "value" "[B"))⟩) (Or.inl ⟨rfl, hnm⟩) f1 (Or.inl rfl) bl13 (t := (.array .byte)) (by decide +kernel) rfl (g := (mkF m 54 #[.val (.ref a), .val (.ref b), .val (.int (Int32.ofNat o)), .val (.int (Int32.ofNat len)), .val .null, .val (.ref s.heap.size)] [.ref s.heap.size, .ref a])) rfl (rest := []) rfl (hb hbytes d54)
  have c16 : Steps p.tables e below (s₁.setTop (entryFrame m #[.ref a, .ref b, .int (Int32.ofNat o), .int (Int32.ofNat len), .null] 6)) (T15.setTop (mkF m 57 #[.val (.ref a), .val (.ref b), .val (.int (Int32.ofNat o)), .val (.int (Int32.ofNat len)), .val .null, .val (.ref s.heap.size)] [])) := c14.trans (st15 _ (Steps.refl _))
  have ap := apart (Or.inr ⟨_, (wk W (.laysFinal "java/lang/String" "java/lang/String" "value" "[B"))⟩) (Or.inr ⟨_, (wk W (.laysFinal "java/lang/String" "java/lang/String" "coder" "B"))⟩) f1 f2 (t₁ := .array .byte) (t₂ := .byte) (by decide +kernel) (by decide +kernel) (by decide)
  have al := X8.warmed.alike.symm.trans X15.warmed.alike
  have n7 : T11.heap[s.heap.size]? = some N := by rw [q11]; exact n1.1
  exact ⟨T15, none, _, _, _, X15, by simp, rfl, by omega, (fun _ => rfl), ⟨rfl, _, N, bl15, ((Same.refl D _).set _ (by simp)).set _ (by simp), sl15, (Cell.slots_setSlot_ne _ ap).trans sl13, n1.keep al (p15.other hne (p13.other hne n7)), n2, by rw [al.findClass]; exact n3, n4, n5, fun y c h1 h2 => p15.other h1 (p13.other h1 (by rw [q11]; exact n6 y c h2)), by rw [p15.2.2, p13.2.2, q11]; exact z8⟩, fun fs hl => c16.trans (X15.returnOut hexec hret (hb hbytes d57) hl)⟩
end New4
namespace New1
def yN : MethodName := ⟨"java/lang/String", "<init>", "([C)V"⟩
abbrev yB : ByteArray := jdk_42_method_3_code
theorem d0 : decode yB 0 = .ok (.aload_n 0, 1) := by decide +kernel
theorem d1 : decode yB 1 = .ok (.aload_n 1, 1) := by decide +kernel
theorem d2 : decode yB 2 = .ok (.iconst 0, 1) := by decide +kernel
theorem d3 : decode yB 3 = .ok (.aload_n 1, 1) := by decide +kernel
theorem d4 : decode yB 4 = .ok (.arraylength, 1) := by decide +kernel
theorem d5 : decode yB 5 = .ok (.aconst_null, 1) := by decide +kernel
theorem d6 : decode yB 6 = .ok (.invokespecial 27, 3) := by decide +kernel
theorem d9 : decode yB 9 = .ok (.return_, 1) := by decide +kernel
def site : List Cond := [New4.tab] ++ initW "java/lang/String" 27 New4.yN
def tab : Cond := tabOf yN yB 2 none site
def P (a : Addr) (D : Cell) (fV fC : Field) (b : Addr) (A : Cell) (z : Int32) (args : Array Value) (s : State) : Prop := args = #[.ref a, .ref b] ∧ Blank "java/lang/String" a D s ∧ Found "java/lang/String" "value" "[B" fV s ∧ Found "java/lang/String" "coder" "B" fC s ∧ Ch b A s ∧ StaticIs s "java/lang/String" "COMPACT_STRINGS" "Z" (.int z) ∧ ¬ z = 0 ∧ 0 < A.slots.size ∧ A.slots.size ≤ 536870912 ∧ ∀ i, i < A.slots.size → ¬ 255 < cv A i
def E (a : Addr) (D : Cell) (fV fC : Field) (A : Cell) (r : Option Value) (s u : State) : Prop := Got a D fV fC A 0 A.slots.size r s u
/-- new String(chars), not empty, no char above 255: a Latin-1 String of their low bytes -/
theorem law (l : Launch) (a : Addr) (D : Cell) (fV fC : Field) (b : Addr) (A : Cell) (z : Int32) : Law l yN 2 1 3 52 yB 2 none site (P a D fV fC b A z) (E a D fV fC A) [⟨a, fC.slot⟩, ⟨a, fV.slot⟩] 1 A.slots.size := by
  refine Law.of_walk (plainFor_of_name (by decide +kernel)) (by decide +kernel) (by decide +kernel) (by decide) (fun _ _ h => by rw [h.1]; rfl) (fun _ U U' hal hh h => ⟨h.1, h.2.1.mv hal hh, h.2.2.1.al hal, h.2.2.2.1.al hal, h.2.2.2.2.1.mv hal hh, h.2.2.2.2.2.1.there hal hh, h.2.2.2.2.2.2⟩) (fun r U U' V V' h1 hal h2 h => Got.mv r U U' V V' h1 hal h2 h) ?_
  intro p e s m args below meth c s₁ X0 hexec hbytes hml hret hlk hnm hown hh0 W hP
  obtain ⟨rfl, hB, f1, f2, hA, s1, hz, l0, l2, hp⟩ := hP
  have c1 : Steps p.tables e below (s₁.setTop (entryFrame m #[.ref a, .ref b] 2)) (s₁.setTop (mkF m 0 #[.val (.ref a), .val (.ref b)] [])) := entry rfl
  have c2 : Steps p.tables e below (s₁.setTop (entryFrame m #[.ref a, .ref b] 2)) (s₁.setTop (mkF m 6 #[.val (.ref a), .val (.ref b)] [.null, .int (Int32.ofNat A.slots.size), .int 0, .ref b, .ref a])) := c1.trans (by
    refine XS.aloadN X0.here hexec rfl (hb hbytes d0) rfl rfl ?_
    refine XS.aloadN X0.here hexec rfl (hb hbytes d1) rfl rfl ?_
    refine iconstV X0.here hexec rfl 0 (hb hbytes d2) (by decide) ?_
    refine XS.aloadN X0.here hexec rfl (hb hbytes d3) rfl rfl ?_
    refine X0.alen hexec (hA.1.mv X0.warmed.alike hh0) rfl rfl (hb hbytes d4) ?_
    refine XS.aconstNull X0.here hexec rfl (hb hbytes d5) ?_
    exact Steps.refl _)
  obtain ⟨v3, T3, X3, E3, g3⟩ := X0.callN hexec (New4.law l a D fV fC b A z 0 A.slots.size) rfl hown (wks W (initW "java/lang/String" 27 New4.yN)) (W New4.tab (by simp only [site, List.mem_cons, List.mem_append, true_or, or_true])) (W := 0) (Nat.le_of_ble_eq_true rfl) (Nat.le_of_ble_eq_true rfl) (Nat.le_refl _) (by show 0 + A.slots.size ≤ A.slots.size; omega) (g := (mkF m 6 #[.val (.ref a), .val (.ref b)] [.null, .int (Int32.ofNat A.slots.size), .int (Int32.ofNat 0), .ref b, .ref a])) rfl (by rw [hml]; rfl) c2 (argsL := [.ref b, .int (Int32.ofNat 0), .int (Int32.ofNat A.slots.size), .null]) (rest := []) rfl rfl (by show 2 * 0 + 0 ≤ _; decide) (hb hbytes d6) (⟨rfl, hB.mv X0.warmed.alike hh0, f1.al X0.warmed.alike, f2.al X0.warmed.alike, hA.mv X0.warmed.alike hh0, s1.there X0.warmed.alike hh0, hz, l0, by omega, l2, fun i hi => by rw [Nat.zero_add]; exact hp i hi⟩)
  have e0 := Got.mv _ s₁ s _ _ hh0.symm (Vm.Alike.refl _) rfl E3
  obtain rfl := e0.1
  have c4 : Steps p.tables e below (s₁.setTop (entryFrame m #[.ref a, .ref b] 2)) (T3.setTop (mkF m 9 #[.val (.ref a), .val (.ref b)] [])) := g3
  exact ⟨T3, none, _, _, _, X3, by simp, rfl, by omega, (fun _ => rfl), e0, fun fs hl => c4.trans (X3.returnOut hexec hret (hb hbytes d9) hl)⟩
theorem pays {l : Launch} {R : Room} {p : Program} {e : Env} {below : List Frame} {s : State} {sargs : Array Value} {len W : Nat} (a : Addr) (D : Cell) (fV fC : Field) (b : Addr) (A : Cell) (z : Int32) (htab : tab.before sargs s = true) (hfr : 4 ≤ R.frames) (hlo : W + 65 ≤ R.locals) :
    Back l R p e below s sargs yN len W (fun A₁ a₁ => A₁.cells + 1 ≤ R.cells ∧ A₁.slots + A.slots.size ≤ R.slots ∧ P a D fV fC b A z a₁ A₁.U) (fun A₁ _ v₁ B₁ => E a D fV fC A v₁ A₁.U B₁.U ∧ B₁.locs = A₁.locs ++ [⟨a, fC.slot⟩, ⟨a, fV.slot⟩] ∧ B₁.cells = A₁.cells + 1 ∧ B₁.slots = A₁.slots + A.slots.size) :=
  (law l a D fV fC b A z).pays htab hfr (by omega)
end New1
end StrChars
namespace StrChars.Road
open Jvm Sem ClassFile Op Lib Jvm.Stand Jvm.Free Jvm.Free.XT
open Jvm.Lib.Cold (StaticIs)
abbrev ST : String := "java/lang/String"
/-- every table word that New1's law asks, flat -/
abbrev words : List Jvm.Cond := [.code New1.yN New1.yB 2 none, .initialized ST, .methodLink ST 27 New4.yN, .instanceMethod New4.yN,
  .code New4.yN New4.yB 6 none, .fieldLink ST 38 ST "COMPACT_STRINGS" "Z", .laysFinal ST ST "value" "[B", .fieldLink ST 9 ST "value" "[B", .laysFinal ST ST "coder" "B", .fieldLink ST 15 ST "coder" "B",
  .methodLink ST 1 Lib.objectInit, .instanceMethod Lib.objectInit, .code Lib.objectInit ⟨#[0xb1]⟩ 1 none, .methodLink ST 177 Cmp3.yN, .static Cmp3.yN, .methodLink ST 47 CodL.yN, .static CodL.yN,
  .code Cmp3.yN Cmp3.yB 6 (some (.array .byte)), .initialized U16, .arrayClass .byte, .methodLink U16 115 Cmp5.yN, .static Cmp5.yN, .code Cmp5.yN Cmp5.yB 7 (some .int), .code CodL.yN CodL.yB 2 (some .byte)]
theorem tab_of {a : Array Value} {s : State} (h : ∀ w ∈ words, w.before a s = true) : New1.tab.before a s = true := by
  have h5 : Cmp5.tab.before a s = true := unparts (wk h (.code Cmp5.yN Cmp5.yB 7 (some .int))) (wks h (.initialized Cmp5.yN.cls :: Cmp5.site))
  have hc : CodL.tab.before a s = true := unparts (wk h (.code CodL.yN CodL.yB 2 (some .byte))) (wks h (.initialized CodL.yN.cls :: CodL.site))
  have q5 : ∀ w ∈ Cmp5.tab :: words, w.before a s = true := fun w hw => (List.mem_cons.mp hw).elim (fun e => e ▸ h5) (h w)
  have h3 : Cmp3.tab.before a s = true := unparts (wk q5 (.code Cmp3.yN Cmp3.yB 6 (some (.array .byte)))) (wks q5 (.initialized Cmp3.yN.cls :: Cmp3.site))
  have q3 : ∀ w ∈ Cmp3.tab :: CodL.tab :: words, w.before a s = true := fun w hw => (List.mem_cons.mp hw).elim (fun e => e ▸ h3) fun hw => (List.mem_cons.mp hw).elim (fun e => e ▸ hc) (h w)
  have h4 : New4.tab.before a s = true := unparts (wk q3 (.code New4.yN New4.yB 6 none)) (wks q3 (.initialized New4.yN.cls :: New4.site))
  have q4 : ∀ w ∈ New4.tab :: words, w.before a s = true := fun w hw => (List.mem_cons.mp hw).elim (fun e => e ▸ h4) (h w)
  exact unparts (wk q4 (.code New1.yN New1.yB 2 none)) (wks q4 (.initialized New1.yN.cls :: New1.site))
/-- the words ride from the start Z to the walk's own state -/
theorem moved {Z s : State} {a0 args : Array Value} (hZ : Z.Warmed39 s.vm) (hw : ∀ d ∈ words, d.before a0 Z = true) : ∀ d ∈ words, d.before args s = true := fun d hd => by
  have q := hw d hd
  have t : ∀ d ∈ words, d = .arrayClass .byte ∨ (d.onTables && d.keepsFace) = true := by decide +kernel
  rcases t d hd with rfl | t
  · exact RoadKit.mvA hZ q
  · exact RoadKit.mv hZ q t
/-- WHAT COMES BACK, over the tables of the start Z: h the heap at the call, h' behind it -/
def Q (Z : State) (x : Addr) (A : Cell) (h : Heap) (v : Option Value) (h' : Heap) (L : List Loc) : Prop := v = none ∧ (∀ y ∈ L, y.base = x) ∧ RoadKit.Keep h h' [x] ∧ h'.size = h.size + 1 ∧ RoadKit.Exa Z h' x ST ∧ RoadKit.Fld Z h' x ST "value" "[B" (.ref h.size) ∧ RoadKit.Fld Z h' x ST "coder" "B" (.int 0) ∧
  (∃ V : Cell, RoadKit.Arr Z h' h.size V .byte ∧ V.vm = .none ∧ Z.vm.findClass "[B" = some V.cls ∧ V.slots.size = A.slots.size ∧ ∀ j, j < A.slots.size → V.slots[j]? = some (.int (lo8 (cv A j)))) ∧
  ∀ (O n d : String) (w : Value), RoadKit.Fld Z h x O n d w → RoadKit.slotOf Z O n d ≠ RoadKit.slotOf Z ST "value" "[B" → RoadKit.slotOf Z O n d ≠ RoadKit.slotOf Z ST "coder" "B" → RoadKit.Fld Z h' x O n d w
/-- **new String(chars) AT A CALL, IN THE ROAD'S FORM**: for specialBack behind newO: x the fresh String, b the char[] with the cell A -/
theorem back {p : Program} {l : Launch} {e : Env} {R : Room} {s : State} {args : Array Value} {below : List Frame} {len W : Nat} {Z : State} {a0 : Array Value} {h : Heap} (hZ : Z.Warmed39 s.vm) (hw : ∀ d ∈ words, d.before a0 Z = true) {kI : Nat} (wi : (Jvm.Cond.instantiable ST kI).before a0 Z = true)
    {x b : Addr} {A : Cell} {z : Int32} {v0 c0 : Value} (E : RoadKit.Exa Z h x ST) (V : RoadKit.Fld Z h x ST "value" "[B" v0) (C : RoadKit.Fld Z h x ST "coder" "B" c0) (K : RoadKit.Arr Z h b A .char) (hty : Typed .char A) (S : RoadKit.Sta Z h ST "COMPACT_STRINGS" "Z" (.int z)) (hz : ¬ z = 0)
    (l0 : 0 < A.slots.size) (l2 : A.slots.size ≤ 536870912) (hp : ∀ i, i < A.slots.size → ¬ 255 < cv A i) (hfr : 4 ≤ R.frames) (hlo : W + 65 ≤ R.locals) :
    Back l R p e below s args New1.yN len W (fun P a => a = #[.ref x, .ref b] ∧ P.U.heap = h ∧ P.cells + 1 ≤ R.cells ∧ P.slots + A.slots.size ≤ R.slots)
      (fun P _ v B => ∃ L, Q Z x A h v B.U.heap L ∧ B.locs = P.locs ++ L ∧ B.cells = P.cells + 1 ∧ B.slots = P.slots + A.slots.size) := by
  intro m meth c P g ig mk a X hg hsize hdg hW hn hp'
  obtain ⟨rfl, rfl, r1, r2⟩ := hp'
  have al : Z.vm.Alike P.U.vm := hZ.alike.trans X.warmed.alike
  obtain ⟨D, cfV, kV, iV, fV, hD, gV, stV, knV, obV, asV, slV⟩ := id V
  obtain ⟨D', cfC, kC, iC, fC, hD', gC, stC, -, -, asC, slC⟩ := id C
  cases hD.symm.trans hD'
  obtain ⟨D2, kD, e1, e2, e3, e4, e5⟩ := id E
  cases hD.symm.trans e1
  obtain ⟨c2, k2, i1, i2, i3, -⟩ := Cond.instantiable_spec wi
  cases e2.symm.trans i1
  cases e3.symm.trans i2
  obtain ⟨kU, u1, u2⟩ := al.2.2 _ _ e3
  have hB : Blank ST x D P.U := ⟨hD, ⟨knV, fun q hq => by rw [hq] at obV; cases obV⟩, by rw [al.findClass]; exact e2, kU, u1, by rw [u2]; exact i3, by rw [u2]; exact e5 i3⟩
  have F1 : Found ST "value" "[B" fV P.U := ⟨SBG.found_only al ⟨cfV, kV, iV, gV⟩, stV⟩
  have F2 : Found ST "coder" "B" fC P.U := ⟨SBG.found_only al ⟨cfC, kC, iC, gC⟩, stC⟩
  have hA : Ch b A P.U := ⟨⟨K.1, State.isArrayOf_alike al K.2.1, K.2.2, by omega⟩, hty⟩
  have hS : StaticIs P.U ST "COMPACT_STRINGS" "Z" (.int z) := by
    obtain ⟨cfS, iS, kS, fS, st, cS, t1, t2, t3, t4, t5, t6, t7⟩ := S
    exact StaticIs.there (s := { Z with heap := P.U.heap }) ⟨cfS, iS, kS, fS, st, cS, t1, t2, t3, t4, t5, (fun q => by rw [q] at t6; cases t6), t7⟩ al rfl
  obtain ⟨v, B, X', ⟨⟨hv, E', V', q1, q2, q3, q4, q5, q6, q7, q8, q9, q10, q11⟩, hl, hc, hs⟩, st⟩ := New1.pays x D fV fC b A z (tab_of (moved hZ hw)) hfr hlo m meth c P g ig mk _ X hg hsize hdg hW hn ⟨r1, r2, rfl, hB, F1, F2, hA, hS, hz, l0, l2, hp⟩
  have al' : Z.vm.Alike B.U.vm := hZ.alike.trans X'.warmed.alike
  have hsz : E'.slots.size = D.slots.size := by
    obtain ⟨-, -, -, kB, w1, w2, w3⟩ := q1
    obtain ⟨kB', y1, y2⟩ := al'.2.2 _ _ e3
    rw [q2.2.1] at w1
    cases w1.symm.trans y1
    rw [w3, e5 i3, y2]
  refine ⟨v, B, X', ⟨_, ⟨hv, ?_, ⟨by omega, fun y cy hy hn' => q10 y cy (by simpa using hn') hy, fun y cy hy => ?_⟩, q11, ⟨E', _, q1.1, by rw [q2.2.1]; exact e2, by rw [q2.2.1]; exact e3, by rw [q2.1]; exact obV, fun _ => by rw [hsz]; exact e5 i3⟩,
    ⟨E', cfV, kV, iV, fV, q1.1, gV, stV, by rw [q2.1]; exact knV, by rw [q2.1]; exact obV, by rw [q2.2.1]; exact asV, q3⟩, ⟨E', cfC, kC, iC, fC, q1.1, gC, stC, by rw [q2.1]; exact knV, by rw [q2.1]; exact obV, by rw [q2.2.1]; exact asC, q4⟩,
    ⟨V', ⟨q5.1, State.isArrayOf_alike al'.symm q5.2.1, q5.2.2.1⟩, q6, by rw [← al'.findClass]; exact q7, q8, fun j hj => by have := q9 j hj; rwa [Nat.zero_add] at this⟩, fun O n d w F n1 n2 => ?_⟩, hl, hc, hs⟩, st⟩
  · intro y hy
    simp only [List.mem_cons, List.not_mem_nil, or_false] at hy
    rcases hy with rfl | rfl <;> rfl
  · by_cases q : y = x
    · subst q
      cases hD.symm.trans hy
      exact ⟨E', q1.1, q2.2.1, q2.1, hsz⟩
    · exact ⟨cy, q10 y cy q hy, rfl, rfl, rfl⟩
  · obtain ⟨D3, cf, k, i, f, g1, g2, g3, g4, g5, g6, g7⟩ := F
    cases hD.symm.trans g1
    simp only [RoadKit.slotOf, g2, gV, gC, Option.map_some, Option.getD_some] at n1 n2
    exact ⟨E', cf, k, i, f, q1.1, g2, g3, by rw [q2.1]; exact g4, by rw [q2.1]; exact g5, by rw [q2.2.1]; exact g6, by rw [q2.2.2 f.slot (by simp [n1, n2])]; exact g7⟩
end StrChars.Road
namespace StrChars.Road
open Jvm Sem ClassFile Op Lib Jvm.Stand Jvm.Free Jvm.Free.XT
/-- WHAT COMES BACK, the byte[] as a list of values -/
def QA (Z : State) (x : Addr) (zn : Int32) (cs : List Int32) (h : Heap) (v : Option Value) (h' : Heap) (L : List Loc) : Prop := v = none ∧ (∀ y ∈ L, y.base = x) ∧ RoadKit.Keep h h' [x] ∧ h'.size = h.size + 1 ∧ RoadKit.Exa Z h' x ST ∧ RoadKit.Fld Z h' x ST "value" "[B" (.ref h.size) ∧ RoadKit.Fld Z h' x ST "coder" "B" (.int 0) ∧
  (∃ kb, Z.vm.findClass "[B" = some kb ∧ RoadKit.Arv Z h' h.size kb .byte zn (cs.map fun c => .int (lo8 c)) (.int 0)) ∧
  ∀ (O n d : String) (w : Value), RoadKit.Fld Z h x O n d w → RoadKit.slotOf Z O n d ≠ RoadKit.slotOf Z ST "value" "[B" → RoadKit.slotOf Z O n d ≠ RoadKit.slotOf Z ST "coder" "B" → RoadKit.Fld Z h' x O n d w
/-- **new String(chars) AT A CALL, THE ARRAYS AS LISTS**: the char[] at b holds cs, not empty, no char above 255 -/
theorem backArv {p : Program} {l : Launch} {e : Env} {R : Room} {s : State} {args : Array Value} {below : List Frame} {len W : Nat} {Z : State} {a0 : Array Value} {h : Heap} (hZ : Z.Warmed39 s.vm) (hw : ∀ d ∈ words, d.before a0 Z = true) {kI : Nat} (wi : (Jvm.Cond.instantiable ST kI).before a0 Z = true)
    {x b : Addr} {k : ClassId} {zn z : Int32} {cs : List Int32} {dv v0 c0 : Value} (E : RoadKit.Exa Z h x ST) (V : RoadKit.Fld Z h x ST "value" "[B" v0) (C : RoadKit.Fld Z h x ST "coder" "B" c0) (K : RoadKit.Arv Z h b k .char zn (cs.map Value.int) dv) (S : RoadKit.Sta Z h ST "COMPACT_STRINGS" "Z" (.int z)) (hz : ¬ z = 0)
    (hlen : zn.toNatClampNeg = cs.length) (h0 : 0 < cs.length) (hbig : cs.length ≤ 536870912) (hall : ∀ c ∈ cs, ¬ 255 < c) (hfr : 4 ≤ R.frames) (hlo : W + 65 ≤ R.locals) :
    Back l R p e below s args New1.yN len W (fun P a => a = #[.ref x, .ref b] ∧ P.U.heap = h ∧ P.cells + 1 ≤ R.cells ∧ P.slots + cs.length ≤ R.slots)
      (fun P _ v B => ∃ L, QA Z x zn cs h v B.U.heap L ∧ B.locs = P.locs ++ L ∧ B.cells = P.cells + 1 ∧ B.slots = P.slots + cs.length) := by
  obtain ⟨A, K1, K2, K3, K4, K5, K6⟩ := K
  have e : A.slots.size = cs.length := K3.trans hlen
  have hat : ∀ (i : Nat) (hi : i < cs.length), A.slots[i]? = some (.int cs[i]) := fun i hi => by rw [K5 i (by omega)]; simp [List.getD_eq_getElem?_getD, hi]
  have hcv : ∀ (i : Nat) (hi : i < cs.length), cv A i = cs[i] := fun i hi => by unfold cv; rw [hat i hi]
  have hty : Typed .char A := fun i v hv => by
    have hi : i < A.slots.size := (Array.getElem?_eq_some_iff.mp hv).1
    have q := K5 i hi
    rw [hv] at q
    rw [Option.some.inj q]
    exact K6 i hi
  refine Back.mono (back hZ hw wi E V C K1 hty S hz (by omega) (by omega) (fun i hi => by rw [hcv i (by omega)]; exact hall _ (List.getElem_mem _)) hfr hlo) (fun P a hp => ⟨hp.1, hp.2.1, hp.2.2.1, by rw [e]; exact hp.2.2.2⟩) (fun P a v B hp hq => ?_)
  obtain ⟨L, ⟨q1, q2, q3, q4, q5, q6, q7, ⟨V', v1, v2, v3, v4, v5⟩, q9⟩, hl, hc, hs⟩ := hq
  refine ⟨L, ⟨q1, q2, q3, q4, q5, q6, q7, ⟨V'.cls, v3, V', v1, rfl, by rw [v4, e, hlen], K4, fun i hi => ?_, fun i hi => ?_⟩, q9⟩, hl, hc, by rw [hs, e]⟩
  · have hi' : i < cs.length := by omega
    rw [v5 i (by omega), hcv i hi']; simp [List.getD_eq_getElem?_getD, hi']
  · have hi' : i < cs.length := by omega
    simp only [List.getD_eq_getElem?_getD, List.getElem?_map, List.getElem?_eq_getElem hi', Option.map_some, Option.getD_some]
    exact fits_lo8 _
end StrChars.Road
namespace StrChars.Road
open Jvm Sem ClassFile Op Lib Jvm.Stand Jvm.Free Jvm.Free.XT
/-- WHAT COMES BACK, in the writer's own shape -/
def QV (Z : State) (x : Addr) (N : Int32) (bs : List Int32) (h : Heap) (n0 : Nat) (v : Option Value) (h' : Heap) (L : List Loc) : Prop := v = none ∧ RoadKit.Fr n0 L ∧ RoadKit.Keep h h' [x] ∧ RoadKit.Exa Z h' x ST ∧ RoadKit.Fld Z h' x ST "coder" "B" (.int 0) ∧
  ∃ (t : Addr) (kb : ClassId), n0 ≤ t ∧ h.size ≤ t ∧ ¬ t = x ∧ RoadKit.Fld Z h' x ST "value" "[B" (.ref t) ∧ RoadKit.Arv Z h' t kb .byte N (bs.map Value.int) (.int 0)
/-- **new String(chars) AT A CALL, FOR THE WRITER**: a char[] of n known ints, each 0 to 255 -/
theorem backV {p : Program} {l : Launch} {e : Env} {R : Room} {s : State} {args : Array Value} {below : List Frame} {len W : Nat} {Z : State} {a0 : Array Value} {h : Heap} (hZ : Z.Warmed39 s.vm) (hw : ∀ d ∈ words, d.before a0 Z = true) {kI : Nat} (wi : (Jvm.Cond.instantiable ST kI).before a0 Z = true)
    {x b : Addr} {kC : ClassId} {cs bs : List Int32} {d v0 c0 : Value} {z N : Int32} {n n0 : Nat} (hx0 : n0 ≤ x) (hh0 : n0 ≤ h.size) (E : RoadKit.Exa Z h x ST) (V : RoadKit.Fld Z h x ST "value" "[B" v0) (C : RoadKit.Fld Z h x ST "coder" "B" c0) (K : RoadKit.Arv Z h b kC .char N (cs.map Value.int) d) (S : RoadKit.Sta Z h ST "COMPACT_STRINGS" "Z" (.int z)) (hz : ¬ z = 0)
    (hn : cs.length = n) (hN : N = Int32.ofNat n) (l0 : 0 < n) (l2 : n ≤ 4000) (hp : ∀ c ∈ cs, ¬ c < 0 ∧ ¬ (255 : Int32) < c) (hb : bs = cs.map (fun c => c.toInt8.toInt32)) (hfr : 4 ≤ R.frames) (hlo : W + 65 ≤ R.locals) :
    Back l R p e below s args (⟨"java/lang/String", "<init>", "([C)V"⟩ : MethodName) len W (fun P a => a = #[.ref x, .ref b] ∧ P.U.heap = h ∧ P.cells + 1 ≤ R.cells ∧ P.slots + n ≤ R.slots)
      (fun P _ v B => ∃ L, QV Z x N bs h n0 v B.U.heap L ∧ B.locs = P.locs ++ L ∧ B.cells = P.cells + 1 ∧ B.slots = P.slots + n) := by
  subst hn hN hb
  refine Back.mono (backArv hZ hw wi E V C K S hz (n32 (by omega)) l0 (by omega) (fun c hc => (hp c hc).2) hfr hlo) (fun P a hp => hp) (fun P a v B hp hq => ?_)
  obtain ⟨L, ⟨q1, q2, q3, q4, q5, q6, q7, ⟨kb, v1, v2⟩, q9⟩, hl, hc, hs⟩ := hq
  exact ⟨L, ⟨q1, fun y hy => by rw [q2 y hy]; exact hx0, q3, q5, q7, h.size, kb, hh0, Nat.le_refl _, Nat.ne_of_gt E.lt, q6, by rw [List.map_map]; exact v2⟩, hl, hc, hs⟩
end StrChars.Road
end Jvm.Pilot.@@N@@
namespace Jvm.Pilot.@@N@@
open Jvm Jvm.ClassFile Sem Op Lib Jvm.Free Jvm.Stand Jvm.LawKit Jvm.RoadKit Bundle Jvm.Pilot.@@N@@.Jvm.D
/-! plain: references that may be null, what is left kept -/
def Rf (r : Value) : Prop := r = .null ∨ ∃ o, r = .ref o
theorem Rf.is {r : Value} (h : Rf r) : r.isRef = true := by rcases h with rfl | ⟨o, rfl⟩ <;> rfl
theorem Rf.nar {r : Value} {C : String} (h : Rf r) : narrow (.object C) r = r := by rcases h with rfl | ⟨o, rfl⟩ <;> rfl
theorem Rf.fit {r : Value} {C : String} (h : Rf r) : fits (.object C) r = true := by rcases h with rfl | ⟨o, rfl⟩ <;> rfl
def QP (w : Option Value) (h0 : Heap) (n0 : Nat) (v : Option Value) (h : Heap) (L : List Loc) : Prop := v = w ∧ Fr n0 L ∧ h = h0
def QK (w : Option Value) (ws : List Addr) (h0 : Heap) (n0 : Nat) (v : Option Value) (h : Heap) (L : List Loc) : Prop := v = w ∧ Fr n0 L ∧ Keep h0 h ws
/-- a String's hash over two bytes -/
def own_h (b0 b1 : Int32) : Int32 := (31 : Int32) * ((31 : Int32) * (0 : Int32) + (b0 &&& (255 : Int32))) + (b1 &&& (255 : Int32))
def QI (Z : State) (a1 : Addr) (h0 : Heap) (n0 : Nat) (v : Option Value) (h : Heap) (L : List Loc) : Prop := v = none ∧ Fr n0 L ∧ Keep h0 h [a1] ∧ Exa Z h a1 "java/lang/Integer"
theorem own_keep_sub {h h' : Heap} {ws ws' : List Addr} (K : Keep h h' ws) (q : ∀ x ∈ ws, x ∈ ws') : Keep h h' ws' := ⟨K.1, fun x c r n => K.2.1 x c r (fun z => n (q x z)), K.2.2⟩
def own_u (k : Int32) (x : Int32) : Int32 := (x.toUInt32 >>> (k &&& 31).toUInt32).toInt32
def own_sp (x : Int32) : Int32 :=
  let a := x ^^^ own_u 16 x
  let b := a * (-2048144789)
  let d := b ^^^ own_u 13 b
  let e := d * (-1028477387)
  e ^^^ own_u 16 e
theorem d13_8 : decode jdk_48_method_5_code 8 = .ok (.iload 5, 2) := by decide +kernel
theorem d13_10 : decode jdk_48_method_5_code 10 = .ok (.iload 4, 2) := by decide +kernel
theorem d13_12 : decode jdk_48_method_5_code 12 = .ok (.if_icmp .ge 23, 3) := by decide +kernel
theorem d13_15 : decode jdk_48_method_5_code 15 = .ok (.bipush 31, 2) := by decide +kernel
theorem d13_17 : decode jdk_48_method_5_code 17 = .ok (.iload_n 0, 1) := by decide +kernel
theorem d13_18 : decode jdk_48_method_5_code 18 = .ok (.imul, 1) := by decide +kernel
theorem d13_19 : decode jdk_48_method_5_code 19 = .ok (.aload_n 1, 1) := by decide +kernel
theorem d13_20 : decode jdk_48_method_5_code 20 = .ok (.iload 5, 2) := by decide +kernel
theorem d13_22 : decode jdk_48_method_5_code 22 = .ok (.baload, 1) := by decide +kernel
theorem d13_23 : decode jdk_48_method_5_code 23 = .ok (.sipush 255, 3) := by decide +kernel
theorem d13_26 : decode jdk_48_method_5_code 26 = .ok (.iand, 1) := by decide +kernel
theorem d13_27 : decode jdk_48_method_5_code 27 = .ok (.iadd, 1) := by decide +kernel
theorem d13_28 : decode jdk_48_method_5_code 28 = .ok (.istore_n 0, 1) := by decide +kernel
theorem d13_29 : decode jdk_48_method_5_code 29 = .ok (.iinc 5 1, 3) := by decide +kernel
theorem d13_32 : decode jdk_48_method_5_code 32 = .ok (.goto (-24), 3) := by decide +kernel
set_option maxRecDepth 65536 in
set_option maxHeartbeats 40000000 in
theorem own_hturn {p : Program} {l : Launch} {e : Env} {R : Room} {s : State} {m : MethodId} {args : Array Value} {below : List Frame} {meth : Method} {c : Code} {T0 : State} {locs : List Loc} {cells slots : Nat} {Z : State} {a0 : Array Value} {h0 : Heap} (i0 : Int32) (o1 : Addr) (s2 : Slot) (s3 : Slot) (i4 : Int32) (i5 : Int32) (w5 : Int32) (cl_o1 : Cell)
    (X0 : Stand p l e R s m args below meth c T0 locs cells slots) (hx : p.tables.exec = Jvm.exec) (hZ : Z.Warmed39 s.vm) (hw : ∀ d ∈ tables_1, d.before a0 Z = true) (hby : c.code = jdk_48_method_5_code) (hml : c.maxLocals = 6) (hown : s.vm.findClass "jdk/internal/util/ArraysSupport" = some m.cls) (e0 : T0.heap = h0) (Ar_o1 : Arr Z h0 o1 cl_o1 .byte) (hin22 : ¬ (i5 < 0 ∨ cl_o1.slots.size ≤ (i5).toNatClampNeg)) (hat22 : cl_o1.slots[(i5).toNatClampNeg]? = some (.int w5)) (hc12 : i5 < i4) :
    ∃ (T' : State), Stand p l e R s m args below meth c T' locs cells slots ∧ T'.heap = h0 ∧
      ∀ target, Steps p.tables e below (T'.setTop (mkF m 8 #[.val (.int (((31 : Int32) * i0) + (w5 &&& (255 : Int32)))), .val (.ref o1), s2, s3, .val (.int i4), .val (.int (i5 + (1 : Int32)))] [])) target → Steps p.tables e below (T0.setTop (mkF m 8 #[.val (.int i0), .val (.ref o1), s2, s3, .val (.int i4), .val (.int i5)] [])) target := by

  refine ⟨T0, X0, e0, fun target kt => ?_⟩
  show Steps p.tables e below (T0.setTop (mkF m 8 #[.val (.int i0), .val (.ref o1), s2, s3, .val (.int i4), .val (.int i5)] [])) _
  refine XS.iload X0.here hx rfl (hb hby d13_8) rfl ?_
  show Steps p.tables e below (T0.setTop (mkF m 10 #[.val (.int i0), .val (.ref o1), s2, s3, .val (.int i4), .val (.int i5)] [(.int i5)])) _
  refine XS.iload X0.here hx rfl (hb hby d13_10) rfl ?_
  show Steps p.tables e below (T0.setTop (mkF m 12 #[.val (.int i0), .val (.ref o1), s2, s3, .val (.int i4), .val (.int i5)] [(.int i4), (.int i5)])) _
  refine XS.icmpNo X0.here hx rfl (hb hby d13_12) rfl (tlt hc12).2.1 ?_
  show Steps p.tables e below (T0.setTop (mkF m 15 #[.val (.int i0), .val (.ref o1), s2, s3, .val (.int i4), .val (.int i5)] [])) _
  refine XS.bipush X0.here hx rfl (hb hby d13_15) ?_
  show Steps p.tables e below (T0.setTop (mkF m 17 #[.val (.int i0), .val (.ref o1), s2, s3, .val (.int i4), .val (.int i5)] [(.int (31 : Int32))])) _
  refine XS.iloadN X0.here hx rfl (hb hby d13_17) rfl ?_
  show Steps p.tables e below (T0.setTop (mkF m 18 #[.val (.int i0), .val (.ref o1), s2, s3, .val (.int i4), .val (.int i5)] [(.int i0), (.int (31 : Int32))])) _
  refine XS.imul X0.here hx rfl (hb hby d13_18) rfl ?_
  show Steps p.tables e below (T0.setTop (mkF m 19 #[.val (.int i0), .val (.ref o1), s2, s3, .val (.int i4), .val (.int i5)] [(.int ((31 : Int32) * i0))])) _
  refine XS.aloadN X0.here hx rfl (hb hby d13_19) rfl rfl ?_
  show Steps p.tables e below (T0.setTop (mkF m 20 #[.val (.int i0), .val (.ref o1), s2, s3, .val (.int i4), .val (.int i5)] [(.ref o1), (.int ((31 : Int32) * i0))])) _
  refine XS.iload X0.here hx rfl (hb hby d13_20) rfl ?_
  show Steps p.tables e below (T0.setTop (mkF m 22 #[.val (.int i0), .val (.ref o1), s2, s3, .val (.int i4), .val (.int i5)] [(.int i5), (.ref o1), (.int ((31 : Int32) * i0))])) _
  refine X0.baloadBytes hx (j := i5) (v := (.int w5)) (by rw [e0]; exact Ar_o1.1) (State.isArrayOf_alike hZ.alike Ar_o1.2.1) Ar_o1.2.2 hin22 hat22 (g := (mkF m 22 #[.val (.int i0), .val (.ref o1), s2, s3, .val (.int i4), .val (.int i5)] [(.int i5), (.ref o1), (.int ((31 : Int32) * i0))])) rfl rfl (hb hby d13_22) _ ?_
  show Steps p.tables e below (T0.setTop (mkF m 23 #[.val (.int i0), .val (.ref o1), s2, s3, .val (.int i4), .val (.int i5)] [(.int w5), (.int ((31 : Int32) * i0))])) _
  refine XS.sipush X0.here hx rfl (hb hby d13_23) ?_
  show Steps p.tables e below (T0.setTop (mkF m 26 #[.val (.int i0), .val (.ref o1), s2, s3, .val (.int i4), .val (.int i5)] [(.int (255 : Int32)), (.int w5), (.int ((31 : Int32) * i0))])) _
  refine XS.iand X0.here hx rfl (hb hby d13_26) rfl ?_
  show Steps p.tables e below (T0.setTop (mkF m 27 #[.val (.int i0), .val (.ref o1), s2, s3, .val (.int i4), .val (.int i5)] [(.int (w5 &&& (255 : Int32))), (.int ((31 : Int32) * i0))])) _
  refine XS.iadd X0.here hx rfl (hb hby d13_27) rfl ?_
  show Steps p.tables e below (T0.setTop (mkF m 28 #[.val (.int i0), .val (.ref o1), s2, s3, .val (.int i4), .val (.int i5)] [(.int (((31 : Int32) * i0) + (w5 &&& (255 : Int32))))])) _
  refine XS.istoreN X0.here hx rfl (hb hby d13_28) rfl (l' := #[.val (.int (((31 : Int32) * i0) + (w5 &&& (255 : Int32)))), .val (.ref o1), s2, s3, .val (.int i4), .val (.int i5)]) rfl ?_
  show Steps p.tables e below (T0.setTop (mkF m 29 #[.val (.int (((31 : Int32) * i0) + (w5 &&& (255 : Int32)))), .val (.ref o1), s2, s3, .val (.int i4), .val (.int i5)] [])) _
  refine XS.iinc X0.here hx rfl (hb hby d13_29) rfl (l' := #[.val (.int (((31 : Int32) * i0) + (w5 &&& (255 : Int32)))), .val (.ref o1), s2, s3, .val (.int i4), .val (.int (i5 + (1 : Int32)))]) rfl ?_
  show Steps p.tables e below (T0.setTop (mkF m 32 #[.val (.int (((31 : Int32) * i0) + (w5 &&& (255 : Int32)))), .val (.ref o1), s2, s3, .val (.int i4), .val (.int (i5 + (1 : Int32)))] [])) _
  refine XS.goto X0.here hx rfl (pc0 := 32) (pc' := 8) rfl (hb hby d13_32) (by decide) (by decide) ?_
  exact kt
set_option maxRecDepth 65536 in
set_option maxHeartbeats 40000000 in
theorem own_hout {p : Program} {l : Launch} {e : Env} {R : Room} {s : State} {m : MethodId} {args : Array Value} {below : List Frame} {meth : Method} {c : Code} {T0 : State} {locs : List Loc} {cells slots : Nat} {Z : State} {a0 : Array Value} {h0 : Heap} (s0 : Slot) (s1 : Slot) (s2 : Slot) (s3 : Slot) (i4 : Int32) (i5 : Int32)
    (X0 : Stand p l e R s m args below meth c T0 locs cells slots) (hx : p.tables.exec = Jvm.exec) (hZ : Z.Warmed39 s.vm) (hw : ∀ d ∈ tables_1, d.before a0 Z = true) (hby : c.code = jdk_48_method_5_code) (hml : c.maxLocals = 6) (hown : s.vm.findClass "jdk/internal/util/ArraysSupport" = some m.cls) (e0 : T0.heap = h0) (hc12 : ¬ (i5 < i4)) :
    ∃ (T' : State), Stand p l e R s m args below meth c T' locs cells slots ∧ T'.heap = h0 ∧
      ∀ target, Steps p.tables e below (T'.setTop (mkF m 35 #[s0, s1, s2, s3, .val (.int i4), .val (.int i5)] [])) target → Steps p.tables e below (T0.setTop (mkF m 8 #[s0, s1, s2, s3, .val (.int i4), .val (.int i5)] [])) target := by

  refine ⟨T0, X0, e0, fun target kt => ?_⟩
  show Steps p.tables e below (T0.setTop (mkF m 8 #[s0, s1, s2, s3, .val (.int i4), .val (.int i5)] [])) _
  refine XS.iload X0.here hx rfl (hb hby d13_8) rfl ?_
  show Steps p.tables e below (T0.setTop (mkF m 10 #[s0, s1, s2, s3, .val (.int i4), .val (.int i5)] [(.int i5)])) _
  refine XS.iload X0.here hx rfl (hb hby d13_10) rfl ?_
  show Steps p.tables e below (T0.setTop (mkF m 12 #[s0, s1, s2, s3, .val (.int i4), .val (.int i5)] [(.int i4), (.int i5)])) _
  refine XS.icmpYes X0.here hx rfl (pc0 := 12) (pc' := 35) rfl (hb hby d13_12) rfl (flt hc12).2.1 (by decide) (by decide) ?_
  exact kt
theorem d13_0 : decode jdk_48_method_5_code 0 = .ok (.iload_n 2, 1) := by decide +kernel
theorem d13_1 : decode jdk_48_method_5_code 1 = .ok (.iload_n 3, 1) := by decide +kernel
theorem d13_2 : decode jdk_48_method_5_code 2 = .ok (.iadd, 1) := by decide +kernel
theorem d13_3 : decode jdk_48_method_5_code 3 = .ok (.istore 4, 2) := by decide +kernel
theorem d13_5 : decode jdk_48_method_5_code 5 = .ok (.iload_n 2, 1) := by decide +kernel
theorem d13_6 : decode jdk_48_method_5_code 6 = .ok (.istore 5, 2) := by decide +kernel
theorem d13_35 : decode jdk_48_method_5_code 35 = .ok (.iload_n 0, 1) := by decide +kernel
theorem d13_36 : decode jdk_48_method_5_code 36 = .ok (.ireturn, 1) := by decide +kernel
theorem pn_13 : plainName "jdk/internal/util/ArraysSupport" = true := by first | (simp [plainName, overriddenIn]; done) | decide +kernel
theorem ef_13 (m : MethodId) (x0 : Int32) (x1 : Addr) (x2 : Int32) (x3 : Int32) : entryFrame m #[(.int x0), (.ref x1), (.int x2), (.int x3)] 6 = mkF m 0 #[.val (.int x0), .val (.ref x1), .val (.int x2), .val (.int x3), .unset, .unset] [] := by first | (simp [entryFrame, mkF, argsToLocals, Value.category]; done) | rfl
set_option maxRecDepth 65536 in
set_option maxHeartbeats 40000000 in
theorem rm13 (l : Launch) (Z : State) (a0 : Array Value) (hw : ∀ d ∈ tables_1, d.before a0 Z = true) (ws : List Jvm.Cond) (a2 : Addr) (kb : ClassId) (b0 b1 : Int32) (h0 : Heap) (n0 : Nat) (Z0 : n0 ≤ h0.size) (V : Arv Z h0 a2 kb .byte (2 : Int32) [.int b0, .int b1] (.int 0)) :
    MetFree l (⟨"jdk/internal/util/ArraysSupport", "signedHashCode", "(I[BII)I"⟩ : MethodName) (head1 (Jvm.Cond.code (⟨"jdk/internal/util/ArraysSupport", "signedHashCode", "(I[BII)I"⟩ : MethodName) jdk_48_method_5_code 6 (some .int) :: ws) ({ frames := 0, cells := 0, slots := 0, locals := 0 } : Room)) (fun a U => a = #[(.int (0 : Int32)), (.ref a2), (.int (0 : Int32)), (.int (2 : Int32))] ∧ Z.Warmed39 U.vm ∧ U.heap = h0) (fun _ _ _ _ _ => True) (fun _ U o U' => ∃ v L, o = .returned v ∧ QP (some (.int (own_h b0 b1))) h0 n0 v U'.heap L ∧ FrameEnd U o U' L ({ frames := 0, cells := 0, slots := 0, locals := 0 } : Room).cells ({ frames := 0, cells := 0, slots := 0, locals := 0 } : Room).slots) := by
  refine MetFree.of_bodySF (plainFor_of_name pn_13) hisR ?_
  intro p e s m args below meth c s₁ Bd hml0 hP hK
  obtain ⟨rfl, hZ, hh⟩ := hP
  have hx := Bd.exec
  have hby := Bd.bytes
  have hml : c.maxLocals = 6 := hml0
  have hown : s.vm.findClass "jdk/internal/util/ArraysSupport" = some m.cls := findClass_of_methodNamed Bd.named
  have hnm := (name_of_methodNamed Bd.named Bd.method).1
  have X0 : Stand p l e ({ frames := 0, cells := 0, slots := 0, locals := 0 } : Room) s m #[(.int (0 : Int32)), (.ref a2), (.int (0 : Int32)), (.int (2 : Int32))] below meth c s₁ [] 0 0 := Stand.of_body Bd
  have e0 : s₁.heap = h0 := by rw [← hh, Bd.state]; rfl
  have N0 := Fr.nil n0
  have pre0 : ∀ t, Steps p.tables e below (s₁.setTop (mkF m 0 #[.val (.int (0 : Int32)), .val (.ref a2), .val (.int (0 : Int32)), .val (.int (2 : Int32)), .unset, .unset] [])) t → Steps p.tables e below (s₁.setTop (entryFrame m #[(.int (0 : Int32)), (.ref a2), (.int (0 : Int32)), (.int (2 : Int32))] 6)) t := fun t k => castTop (ef_13 m 0 a2 0 2) k
  obtain ⟨cl, Ar, -, S, -, H, -⟩ := V
  have S2 : cl.slots.size = 2 := S
  obtain ⟨T1, X1, e1, st1⟩ := own_hturn (0 : Int32) a2 (.val (.int (0 : Int32))) (.val (.int (2 : Int32))) ((0 : Int32) + (2 : Int32)) (0 : Int32) b0 cl X0 hx hZ hw hby hml hown e0 Ar (by rw [S2]; decide) (H 0 (by omega)) (by decide)
  obtain ⟨T2, X2, e2, st2⟩ := own_hturn ((31 : Int32) * (0 : Int32) + (b0 &&& (255 : Int32))) a2 (.val (.int (0 : Int32))) (.val (.int (2 : Int32))) ((0 : Int32) + (2 : Int32)) ((0 : Int32) + (1 : Int32)) b1 cl X1 hx hZ hw hby hml hown e1 Ar (by rw [S2]; decide) (H 1 (by omega)) (by decide)
  obtain ⟨T3, X3, e3, st3⟩ := own_hout (.val (.int (own_h b0 b1))) (.val (.ref a2)) (.val (.int (0 : Int32))) (.val (.int (2 : Int32))) ((0 : Int32) + (2 : Int32)) ((0 : Int32) + (1 : Int32) + (1 : Int32)) X2 hx hZ hw hby hml hown e2 (by decide)
  obtain ⟨fs, hr, hrun, hended, hW, hsame⟩ := X3.leave (v := some (.int (own_h b0 b1))) (fun h => by rw [Bd.returns] at h; cases h)
  refine ⟨_, _, pre0 _ ?_, hrun, hended, _, _, rfl, ?_, ⟨_, rfl⟩, hW, hsame.mono (by decide) (by decide)⟩
  · show Steps p.tables e below (s₁.setTop (mkF m 0 #[.val (.int (0 : Int32)), .val (.ref a2), .val (.int (0 : Int32)), .val (.int (2 : Int32)), .unset, .unset] [])) _
    refine XS.iloadN X0.here hx rfl (hb hby d13_0) rfl ?_
    show Steps p.tables e below (s₁.setTop (mkF m 1 #[.val (.int (0 : Int32)), .val (.ref a2), .val (.int (0 : Int32)), .val (.int (2 : Int32)), .unset, .unset] [(.int (0 : Int32))])) _
    refine XS.iloadN X0.here hx rfl (hb hby d13_1) rfl ?_
    show Steps p.tables e below (s₁.setTop (mkF m 2 #[.val (.int (0 : Int32)), .val (.ref a2), .val (.int (0 : Int32)), .val (.int (2 : Int32)), .unset, .unset] [(.int (2 : Int32)), (.int (0 : Int32))])) _
    refine XS.iadd X0.here hx rfl (hb hby d13_2) rfl ?_
    show Steps p.tables e below (s₁.setTop (mkF m 3 #[.val (.int (0 : Int32)), .val (.ref a2), .val (.int (0 : Int32)), .val (.int (2 : Int32)), .unset, .unset] [(.int ((0 : Int32) + (2 : Int32)))])) _
    refine XS.istore X0.here hx rfl (hb hby d13_3) rfl (l' := #[.val (.int (0 : Int32)), .val (.ref a2), .val (.int (0 : Int32)), .val (.int (2 : Int32)), .val (.int ((0 : Int32) + (2 : Int32))), .unset]) rfl ?_
    show Steps p.tables e below (s₁.setTop (mkF m 5 #[.val (.int (0 : Int32)), .val (.ref a2), .val (.int (0 : Int32)), .val (.int (2 : Int32)), .val (.int ((0 : Int32) + (2 : Int32))), .unset] [])) _
    refine XS.iloadN X0.here hx rfl (hb hby d13_5) rfl ?_
    show Steps p.tables e below (s₁.setTop (mkF m 6 #[.val (.int (0 : Int32)), .val (.ref a2), .val (.int (0 : Int32)), .val (.int (2 : Int32)), .val (.int ((0 : Int32) + (2 : Int32))), .unset] [(.int (0 : Int32))])) _
    refine XS.istore X0.here hx rfl (hb hby d13_6) rfl (l' := #[.val (.int (0 : Int32)), .val (.ref a2), .val (.int (0 : Int32)), .val (.int (2 : Int32)), .val (.int ((0 : Int32) + (2 : Int32))), .val (.int (0 : Int32))]) rfl ?_
    refine st1 _ ?_
    refine st2 _ ?_
    refine st3 _ ?_
    show Steps p.tables e below (T3.setTop (mkF m 35 #[.val (.int (own_h b0 b1)), .val (.ref a2), .val (.int (0 : Int32)), .val (.int (2 : Int32)), .val (.int ((0 : Int32) + (2 : Int32))), .val (.int ((0 : Int32) + (1 : Int32) + (1 : Int32)))] [])) _
    refine XS.iloadN X3.here hx rfl (hb hby d13_35) rfl ?_
    show Steps p.tables e below (T3.setTop (mkF m 36 #[.val (.int (own_h b0 b1)), .val (.ref a2), .val (.int (0 : Int32)), .val (.int (2 : Int32)), .val (.int ((0 : Int32) + (2 : Int32))), .val (.int ((0 : Int32) + (1 : Int32) + (1 : Int32)))] [(.int (own_h b0 b1))])) _
    exact retI X3 hx Bd.returns (hb hby d13_36) hr
  · show QP _ h0 n0 _ T3.heap _
    rw [e3]
    exact ⟨rfl, N0, rfl⟩
theorem d12_0 : decode jdk_48_method_4_code 0 = .ok (.iload 4, 2) := by decide +kernel
theorem d12_2 : decode jdk_48_method_4_code 2 = .ok (.tableswitch 127 4 10 #[42, 55, 127, 127, 88, 101, 114], 42) := by decide +kernel
theorem d12_44 : decode jdk_48_method_4_code 44 = .ok (.iload_n 3, 1) := by decide +kernel
theorem d12_45 : decode jdk_48_method_4_code 45 = .ok (.aload_n 0, 1) := by decide +kernel
theorem d12_46 : decode jdk_48_method_4_code 46 = .ok (.checkcast 60, 3) := by decide +kernel
theorem d12_49 : decode jdk_48_method_4_code 49 = .ok (.iload_n 1, 1) := by decide +kernel
theorem d12_50 : decode jdk_48_method_4_code 50 = .ok (.iload_n 2, 1) := by decide +kernel
theorem d12_51 : decode jdk_48_method_4_code 51 = .ok (.invokestatic 62, 3) := by decide +kernel
theorem d12_54 : decode jdk_48_method_4_code 54 = .ok (.goto 103, 3) := by decide +kernel
theorem d12_157 : decode jdk_48_method_4_code 157 = .ok (.ireturn, 1) := by decide +kernel
theorem pn_12 : plainName "jdk/internal/util/ArraysSupport" = true := by first | (simp [plainName, overriddenIn]; done) | decide +kernel
theorem pd_12_12 : parseMethodDescriptor "(I[BII)I" = some ⟨[.int, (.array .byte), .int, .int], some .int⟩ := by decide +kernel
theorem ef_12 (m : MethodId) (x0 : Addr) (x1 : Int32) (x2 : Int32) (x3 : Int32) (x4 : Int32) : entryFrame m #[(.ref x0), (.int x1), (.int x2), (.int x3), (.int x4)] 5 = mkF m 0 #[.val (.ref x0), .val (.int x1), .val (.int x2), .val (.int x3), .val (.int x4)] [] := by first | (simp [entryFrame, mkF, argsToLocals, Value.category]; done) | rfl
set_option maxRecDepth 65536 in
set_option maxHeartbeats 40000000 in
theorem rm12 (l : Launch) (Z : State) (a0 : Array Value) (hw : ∀ d ∈ tables_1, d.before a0 Z = true) (ws : List Jvm.Cond) (a1 : Addr) (b0 b1 : Int32) (h0 : Heap) (n0 : Nat) (Z0 : n0 ≤ h0.size) (I_a1 : Ins Z h0 a1 "[B" true) (CALL_7_13 : MetFree l (⟨"jdk/internal/util/ArraysSupport", "signedHashCode", "(I[BII)I"⟩ : MethodName) (head1 [Jvm.Cond.code (⟨"jdk/internal/util/ArraysSupport", "signedHashCode", "(I[BII)I"⟩ : MethodName) jdk_48_method_5_code 6 (some .int)] ({ frames := 0, cells := 0, slots := 0, locals := 0 } : Room)) (fun a U => a = #[(.int (0 : Int32)), (.ref a1), (.int (0 : Int32)), (.int (2 : Int32))] ∧ Z.Warmed39 U.vm ∧ U.heap = h0) (fun _ _ _ _ _ => True) (fun _ U o U' => ∃ v L, o = .returned v ∧ QP (some (.int (own_h b0 b1))) h0 n0 v U'.heap L ∧ FrameEnd U o U' L ({ frames := 0, cells := 0, slots := 0, locals := 0 } : Room).cells ({ frames := 0, cells := 0, slots := 0, locals := 0 } : Room).slots)) :
    MetFree l (⟨"jdk/internal/util/ArraysSupport", "vectorizedHashCode", "(Ljava/lang/Object;IIII)I"⟩ : MethodName) (head1 (Jvm.Cond.code (⟨"jdk/internal/util/ArraysSupport", "vectorizedHashCode", "(Ljava/lang/Object;IIII)I"⟩ : MethodName) jdk_48_method_4_code 5 (some .int) :: ws) ({ frames := 1, cells := 0, slots := 0, locals := 17 } : Room)) (fun a U => a = #[(.ref a1), (.int (0 : Int32)), (.int (2 : Int32)), (.int (0 : Int32)), (.int (4 : Int32))] ∧ Z.Warmed39 U.vm ∧ U.heap = h0) (fun _ _ _ _ _ => True) (fun _ U o U' => ∃ v L, o = .returned v ∧ QP (some (.int (own_h b0 b1))) h0 n0 v U'.heap L ∧ FrameEnd U o U' L ({ frames := 1, cells := 0, slots := 0, locals := 17 } : Room).cells ({ frames := 1, cells := 0, slots := 0, locals := 17 } : Room).slots) := by
  refine MetFree.of_bodySF (plainFor_of_name pn_12) hisR ?_
  intro p e s m args below meth c s₁ Bd hml0 hP hK
  obtain ⟨rfl, hZ, hh⟩ := hP
  have hx := Bd.exec
  have hby := Bd.bytes
  have hml : c.maxLocals = 5 := hml0
  have hown : s.vm.findClass "jdk/internal/util/ArraysSupport" = some m.cls := findClass_of_methodNamed Bd.named
  have hnm := (name_of_methodNamed Bd.named Bd.method).1
  have X0 : Stand p l e ({ frames := 1, cells := 0, slots := 0, locals := 17 } : Room) s m #[(.ref a1), (.int (0 : Int32)), (.int (2 : Int32)), (.int (0 : Int32)), (.int (4 : Int32))] below meth c s₁ [] 0 0 := Stand.of_body Bd
  have e0 : s₁.heap = h0 := by rw [← hh, Bd.state]; rfl
  have N0 := Fr.nil n0
  have pre0 : ∀ t, Steps p.tables e below (s₁.setTop (mkF m 0 #[.val (.ref a1), .val (.int (0 : Int32)), .val (.int (2 : Int32)), .val (.int (0 : Int32)), .val (.int (4 : Int32))] [])) t → Steps p.tables e below (s₁.setTop (entryFrame m #[(.ref a1), (.int (0 : Int32)), (.int (2 : Int32)), (.int (0 : Int32)), (.int (4 : Int32))] 5)) t := fun t k => castTop (ef_12 m a1 0 2 0 4) k
  obtain ⟨T6, X6, e6, st6⟩ := castY X0 hx hZ hown (hw _ (List.mem_of_getElem? (i := 69) rfl)) e0 I_a1 (g := (mkF m 46 #[.val (.ref a1), .val (.int (0 : Int32)), .val (.int (2 : Int32)), .val (.int (0 : Int32)), .val (.int (4 : Int32))] [(.ref a1), (.int (0 : Int32))])) rfl rfl (hb hby d12_46)
  obtain ⟨_, _, ⟨T7, L7, k7, n7⟩, -, X7, ⟨Lc7, hQ7, l7, y7, z7⟩, st7⟩ := Jvm.LawKit.callS X6 hx (y := (⟨"jdk/internal/util/ArraysSupport", "signedHashCode", "(I[BII)I"⟩ : MethodName)) hown (mvT hZ (hw _ (List.mem_of_getElem? (i := 71) rfl))) (mvT hZ (hw _ (List.mem_of_getElem? (i := 72) rfl))) (mvT hZ (hw _ (List.mem_of_getElem? (i := 67) rfl))) (mvT hZ (hw _ (List.mem_of_getElem? (i := 73) rfl))) (by decide) (backOf (W := 0) CALL_7_13 hZ (hw _ (List.mem_of_getElem? (i := 73) rfl)) (hw _ (List.mem_of_getElem? (i := 67) rfl)) (by decide) (by decide)) (g := (mkF m 51 #[.val (.ref a1), .val (.int (0 : Int32)), .val (.int (2 : Int32)), .val (.int (0 : Int32)), .val (.int (4 : Int32))] [(.int (2 : Int32)), (.int (0 : Int32)), (.ref a1), (.int (0 : Int32))])) rfl (by rw [hml]; rfl) (argsL := [(.int (0 : Int32)), (.ref a1), (.int (0 : Int32)), (.int (2 : Int32))]) (rest := []) (lenOf pd_12_12 rfl) rfl (by show 2 * 0 + _ ≤ _; exact Nat.le_of_eq rfl) (hb hby d12_51) (fun _ _ => ⟨rfl, e6, (by decide : 0 + 0 ≤ _), (by decide : 0 + 0 ≤ _)⟩)
  dsimp only [Pt.U, Pt.locs, Pt.cells, Pt.slots] at X7 l7 y7 z7 st7 hQ7
  subst l7 y7 z7
  obtain ⟨rfl, N7q, eh7⟩ := hQ7
  have N7 := Fr.app N0 N7q
  obtain ⟨fs, hr, hrun, hended, hW, hsame⟩ := X7.leave (v := some (.int (own_h b0 b1))) (fun h => by rw [Bd.returns] at h; cases h)
  refine ⟨_, _, pre0 _ ?_, hrun, hended, _, _, rfl, ?_, ⟨_, rfl⟩, hW, hsame.mono (by decide) (by decide)⟩
  · show Steps p.tables e below (s₁.setTop (mkF m 0 #[.val (.ref a1), .val (.int (0 : Int32)), .val (.int (2 : Int32)), .val (.int (0 : Int32)), .val (.int (4 : Int32))] [])) _
    refine XS.iload X0.here hx rfl (hb hby d12_0) rfl ?_
    show Steps p.tables e below (s₁.setTop (mkF m 2 #[.val (.ref a1), .val (.int (0 : Int32)), .val (.int (2 : Int32)), .val (.int (0 : Int32)), .val (.int (4 : Int32))] [(.int (4 : Int32))])) _
    refine XS.tswIn X0.here hx rfl (pc0 := 2) (pc' := 44) rfl (hb hby d12_2) rfl (i := (4 : Int32)) (by decide) rfl (by decide) (by decide) ?_
    show Steps p.tables e below (s₁.setTop (mkF m 44 #[.val (.ref a1), .val (.int (0 : Int32)), .val (.int (2 : Int32)), .val (.int (0 : Int32)), .val (.int (4 : Int32))] [])) _
    refine XS.iloadN X0.here hx rfl (hb hby d12_44) rfl ?_
    show Steps p.tables e below (s₁.setTop (mkF m 45 #[.val (.ref a1), .val (.int (0 : Int32)), .val (.int (2 : Int32)), .val (.int (0 : Int32)), .val (.int (4 : Int32))] [(.int (0 : Int32))])) _
    refine XS.aloadN X0.here hx rfl (hb hby d12_45) rfl rfl ?_
    show Steps p.tables e below (s₁.setTop (mkF m 46 #[.val (.ref a1), .val (.int (0 : Int32)), .val (.int (2 : Int32)), .val (.int (0 : Int32)), .val (.int (4 : Int32))] [(.ref a1), (.int (0 : Int32))])) _
    refine st6 _ ?_
    show Steps p.tables e below (T6.setTop (mkF m 49 #[.val (.ref a1), .val (.int (0 : Int32)), .val (.int (2 : Int32)), .val (.int (0 : Int32)), .val (.int (4 : Int32))] [(.ref a1), (.int (0 : Int32))])) _
    refine XS.iloadN X6.here hx rfl (hb hby d12_49) rfl ?_
    show Steps p.tables e below (T6.setTop (mkF m 50 #[.val (.ref a1), .val (.int (0 : Int32)), .val (.int (2 : Int32)), .val (.int (0 : Int32)), .val (.int (4 : Int32))] [(.int (0 : Int32)), (.ref a1), (.int (0 : Int32))])) _
    refine XS.iloadN X6.here hx rfl (hb hby d12_50) rfl ?_
    show Steps p.tables e below (T6.setTop (mkF m 51 #[.val (.ref a1), .val (.int (0 : Int32)), .val (.int (2 : Int32)), .val (.int (0 : Int32)), .val (.int (4 : Int32))] [(.int (2 : Int32)), (.int (0 : Int32)), (.ref a1), (.int (0 : Int32))])) _
    refine st7 _ ?_
    show Steps p.tables e below (T7.setTop (mkF m 54 #[.val (.ref a1), .val (.int (0 : Int32)), .val (.int (2 : Int32)), .val (.int (0 : Int32)), .val (.int (4 : Int32))] [(.int (own_h b0 b1))])) _
    refine XS.goto X7.here hx rfl (pc0 := 54) (pc' := 157) rfl (hb hby d12_54) (by decide) (by decide) ?_
    show Steps p.tables e below (T7.setTop (mkF m 157 #[.val (.ref a1), .val (.int (0 : Int32)), .val (.int (2 : Int32)), .val (.int (0 : Int32)), .val (.int (4 : Int32))] [(.int (own_h b0 b1))])) _
    exact retI X7 hx Bd.returns (hb hby d12_157) hr
  · show QP (some (.int (own_h b0 b1))) h0 n0 _ T7.heap _
    rw [eh7]
    exact ⟨rfl, N7, rfl⟩
theorem d11_0 : decode jdk_43_method_21_code 0 = .ok (.aload_n 0, 1) := by decide +kernel
theorem d11_1 : decode jdk_43_method_21_code 1 = .ok (.arraylength, 1) := by decide +kernel
theorem d11_2 : decode jdk_43_method_21_code 2 = .ok (.lookupswitch 40 #[(0, 26), (1, 30)], 26) := by decide +kernel
theorem d11_42 : decode jdk_43_method_21_code 42 = .ok (.aload_n 0, 1) := by decide +kernel
theorem d11_43 : decode jdk_43_method_21_code 43 = .ok (.iconst 0, 1) := by decide +kernel
theorem d11_44 : decode jdk_43_method_21_code 44 = .ok (.aload_n 0, 1) := by decide +kernel
theorem d11_45 : decode jdk_43_method_21_code 45 = .ok (.arraylength, 1) := by decide +kernel
theorem d11_46 : decode jdk_43_method_21_code 46 = .ok (.iconst 0, 1) := by decide +kernel
theorem d11_47 : decode jdk_43_method_21_code 47 = .ok (.iconst 4, 1) := by decide +kernel
theorem d11_48 : decode jdk_43_method_21_code 48 = .ok (.invokestatic 84, 3) := by decide +kernel
theorem d11_51 : decode jdk_43_method_21_code 51 = .ok (.ireturn, 1) := by decide +kernel
theorem pn_11 : plainName "java/lang/StringLatin1" = true := by first | (simp [plainName, overriddenIn]; done) | decide +kernel
theorem pd_11_11 : parseMethodDescriptor "(Ljava/lang/Object;IIII)I" = some ⟨[(.object "java/lang/Object"), .int, .int, .int, .int], some .int⟩ := by decide +kernel
theorem ef_11 (m : MethodId) (x0 : Addr) : entryFrame m #[(.ref x0)] 1 = mkF m 0 #[.val (.ref x0)] [] := by first | (simp [entryFrame, mkF, argsToLocals, Value.category]; done) | rfl
set_option maxRecDepth 65536 in
set_option maxHeartbeats 40000000 in
theorem rm11 (l : Launch) (Z : State) (a0 : Array Value) (hw : ∀ d ∈ tables_1, d.before a0 Z = true) (ws : List Jvm.Cond) (a1 : Addr) (cl_a1 : Cell) (b0 b1 : Int32) (h0 : Heap) (n0 : Nat) (Z0 : n0 ≤ h0.size) (Ar_a1 : Arr Z h0 a1 cl_a1 .byte) (S_a1 : cl_a1.slots.size = (2 : Int32).toNatClampNeg) (N_a1 : ¬ (2 : Int32) < 0) (CALL_2_12 : MetFree l (⟨"jdk/internal/util/ArraysSupport", "vectorizedHashCode", "(Ljava/lang/Object;IIII)I"⟩ : MethodName) (head1 [Jvm.Cond.code (⟨"jdk/internal/util/ArraysSupport", "vectorizedHashCode", "(Ljava/lang/Object;IIII)I"⟩ : MethodName) jdk_48_method_4_code 5 (some .int)] ({ frames := 1, cells := 0, slots := 0, locals := 17 } : Room)) (fun a U => a = #[(.ref a1), (.int (0 : Int32)), (.int (2 : Int32)), (.int (0 : Int32)), (.int (4 : Int32))] ∧ Z.Warmed39 U.vm ∧ U.heap = h0) (fun _ _ _ _ _ => True) (fun _ U o U' => ∃ v L, o = .returned v ∧ QP (some (.int (own_h b0 b1))) h0 n0 v U'.heap L ∧ FrameEnd U o U' L ({ frames := 1, cells := 0, slots := 0, locals := 17 } : Room).cells ({ frames := 1, cells := 0, slots := 0, locals := 17 } : Room).slots)) :
    MetFree l (⟨"java/lang/StringLatin1", "hashCode", "([B)I"⟩ : MethodName) (head1 (Jvm.Cond.code (⟨"java/lang/StringLatin1", "hashCode", "([B)I"⟩ : MethodName) jdk_43_method_21_code 1 (some .int) :: ws) ({ frames := 2, cells := 0, slots := 0, locals := 33 } : Room)) (fun a U => a = #[(.ref a1)] ∧ Z.Warmed39 U.vm ∧ U.heap = h0) (fun _ _ _ _ _ => True) (fun _ U o U' => ∃ v L, o = .returned v ∧ QP (some (.int (own_h b0 b1))) h0 n0 v U'.heap L ∧ FrameEnd U o U' L ({ frames := 2, cells := 0, slots := 0, locals := 33 } : Room).cells ({ frames := 2, cells := 0, slots := 0, locals := 33 } : Room).slots) := by
  refine MetFree.of_bodySF (plainFor_of_name pn_11) hisR ?_
  intro p e s m args below meth c s₁ Bd hml0 hP hK
  obtain ⟨rfl, hZ, hh⟩ := hP
  have hx := Bd.exec
  have hby := Bd.bytes
  have hml : c.maxLocals = 1 := hml0
  have hown : s.vm.findClass "java/lang/StringLatin1" = some m.cls := findClass_of_methodNamed Bd.named
  have hnm := (name_of_methodNamed Bd.named Bd.method).1
  have X0 : Stand p l e ({ frames := 2, cells := 0, slots := 0, locals := 33 } : Room) s m #[(.ref a1)] below meth c s₁ [] 0 0 := Stand.of_body Bd
  have e0 : s₁.heap = h0 := by rw [← hh, Bd.state]; rfl
  have N0 := Fr.nil n0
  have pre0 : ∀ t, Steps p.tables e below (s₁.setTop (mkF m 0 #[.val (.ref a1)] [])) t → Steps p.tables e below (s₁.setTop (entryFrame m #[(.ref a1)] 1)) t := fun t k => castTop (ef_11 m a1) k
  obtain ⟨_, _, ⟨T2, L2, k2, n2⟩, -, X2, ⟨Lc2, hQ2, l2, y2, z2⟩, st2⟩ := Jvm.LawKit.callS X0 hx (y := (⟨"jdk/internal/util/ArraysSupport", "vectorizedHashCode", "(Ljava/lang/Object;IIII)I"⟩ : MethodName)) hown (mvT hZ (hw _ (List.mem_of_getElem? (i := 65) rfl))) (mvT hZ (hw _ (List.mem_of_getElem? (i := 66) rfl))) (mvT hZ (hw _ (List.mem_of_getElem? (i := 67) rfl))) (mvT hZ (hw _ (List.mem_of_getElem? (i := 68) rfl))) (by decide) (backOf (W := 0) CALL_2_12 hZ (hw _ (List.mem_of_getElem? (i := 68) rfl)) (hw _ (List.mem_of_getElem? (i := 67) rfl)) (by decide) (by decide)) (g := (mkF m 48 #[.val (.ref a1)] [(.int (4 : Int32)), (.int (0 : Int32)), (.int (2 : Int32)), (.int (0 : Int32)), (.ref a1)])) rfl (by rw [hml]; rfl) (argsL := [(.ref a1), (.int (0 : Int32)), (.int (2 : Int32)), (.int (0 : Int32)), (.int (4 : Int32))]) (rest := []) (lenOf pd_11_11 rfl) rfl (by show 2 * 0 + _ ≤ _; exact Nat.le_of_eq rfl) (hb hby d11_48) (fun _ _ => ⟨rfl, e0, (by decide : 0 + 0 ≤ _), (by decide : 0 + 0 ≤ _)⟩)
  dsimp only [Pt.U, Pt.locs, Pt.cells, Pt.slots] at X2 l2 y2 z2 st2 hQ2
  subst l2 y2 z2
  obtain ⟨rfl, N2q, eh2⟩ := hQ2
  have N2 := Fr.app N0 N2q
  obtain ⟨fs, hr, hrun, hended, hW, hsame⟩ := X2.leave (v := some (.int (own_h b0 b1))) (fun h => by rw [Bd.returns] at h; cases h)
  refine ⟨_, _, pre0 _ ?_, hrun, hended, _, _, rfl, ?_, ⟨_, rfl⟩, hW, hsame.mono (by decide) (by decide)⟩
  · show Steps p.tables e below (s₁.setTop (mkF m 0 #[.val (.ref a1)] [])) _
    refine XS.aloadN X0.here hx rfl (hb hby d11_0) rfl rfl ?_
    show Steps p.tables e below (s₁.setTop (mkF m 1 #[.val (.ref a1)] [(.ref a1)])) _
    refine X0.arraylength hx (by rw [e0]; exact Ar_a1.1) (State.isArrayOf_alike hZ.alike Ar_a1.2.1) (g := (mkF m 1 #[.val (.ref a1)] [(.ref a1)])) rfl rfl (hb hby d11_1) _ ?_
    rw [len_of S_a1 N_a1]
    show Steps p.tables e below (s₁.setTop (mkF m 2 #[.val (.ref a1)] [(.int (2 : Int32))])) _
    refine X0.lookupswitchMiss hx (g := (mkF m 2 #[.val (.ref a1)] [(.int (2 : Int32))])) rfl rfl (hb hby d11_2) (by decide) (by decide) (by show (0 : Int) ≤ ((2 : Nat) : Int) + 40; decide) _ ?_
    show Steps p.tables e below (s₁.setTop (mkF m 42 #[.val (.ref a1)] [])) _
    refine XS.aloadN X0.here hx rfl (hb hby d11_42) rfl rfl ?_
    show Steps p.tables e below (s₁.setTop (mkF m 43 #[.val (.ref a1)] [(.ref a1)])) _
    refine XS.iconst X0.here hx rfl (hb hby d11_43) ?_
    show Steps p.tables e below (s₁.setTop (mkF m 44 #[.val (.ref a1)] [(.int (0 : Int32)), (.ref a1)])) _
    refine XS.aloadN X0.here hx rfl (hb hby d11_44) rfl rfl ?_
    show Steps p.tables e below (s₁.setTop (mkF m 45 #[.val (.ref a1)] [(.ref a1), (.int (0 : Int32)), (.ref a1)])) _
    refine X0.arraylength hx (by rw [e0]; exact Ar_a1.1) (State.isArrayOf_alike hZ.alike Ar_a1.2.1) (g := (mkF m 45 #[.val (.ref a1)] [(.ref a1), (.int (0 : Int32)), (.ref a1)])) rfl rfl (hb hby d11_45) _ ?_
    rw [len_of S_a1 N_a1]
    show Steps p.tables e below (s₁.setTop (mkF m 46 #[.val (.ref a1)] [(.int (2 : Int32)), (.int (0 : Int32)), (.ref a1)])) _
    refine XS.iconst X0.here hx rfl (hb hby d11_46) ?_
    show Steps p.tables e below (s₁.setTop (mkF m 47 #[.val (.ref a1)] [(.int (0 : Int32)), (.int (2 : Int32)), (.int (0 : Int32)), (.ref a1)])) _
    refine XS.iconst X0.here hx rfl (hb hby d11_47) ?_
    show Steps p.tables e below (s₁.setTop (mkF m 48 #[.val (.ref a1)] [(.int (4 : Int32)), (.int (0 : Int32)), (.int (2 : Int32)), (.int (0 : Int32)), (.ref a1)])) _
    refine st2 _ ?_
    show Steps p.tables e below (T2.setTop (mkF m 51 #[.val (.ref a1)] [(.int (own_h b0 b1))])) _
    exact retI X2 hx Bd.returns (hb hby d11_51) hr
  · show QP (some (.int (own_h b0 b1))) h0 n0 _ T2.heap _
    rw [eh2]
    exact ⟨rfl, N2, rfl⟩
theorem d10_0 : decode jdk_42_method_154_code 0 = .ok (.getstatic 38, 3) := by decide +kernel
theorem d10_3 : decode jdk_42_method_154_code 3 = .ok (.ifCond .eq 14, 3) := by decide +kernel
theorem d10_6 : decode jdk_42_method_154_code 6 = .ok (.aload_n 0, 1) := by decide +kernel
theorem d10_7 : decode jdk_42_method_154_code 7 = .ok (.getfield 15, 3) := by decide +kernel
theorem d10_10 : decode jdk_42_method_154_code 10 = .ok (.ifCond .ne 7, 3) := by decide +kernel
theorem d10_13 : decode jdk_42_method_154_code 13 = .ok (.iconst 1, 1) := by decide +kernel
theorem d10_14 : decode jdk_42_method_154_code 14 = .ok (.goto 4, 3) := by decide +kernel
theorem d10_18 : decode jdk_42_method_154_code 18 = .ok (.ireturn, 1) := by decide +kernel
theorem pn_10 : plainName "java/lang/String" = true := by first | (simp [plainName, overriddenIn]; done) | decide +kernel
theorem ef_10 (m : MethodId) (x0 : Addr) : entryFrame m #[(.ref x0)] 1 = mkF m 0 #[.val (.ref x0)] [] := by first | (simp [entryFrame, mkF, argsToLocals, Value.category]; done) | rfl
set_option maxRecDepth 65536 in
set_option maxHeartbeats 40000000 in
theorem rm10 (l : Launch) (Z : State) (a0 : Array Value) (hw : ∀ d ∈ tables_1, d.before a0 Z = true) (ws : List Jvm.Cond) (a1 : Addr) (w2 : Int32) (w4 : Int32) (h0 : Heap) (n0 : Nat) (Z0 : n0 ≤ h0.size) (S_COMPACT_STRINGS : Sta Z h0 "java/lang/String" "COMPACT_STRINGS" "Z" (.int w2)) (F_coder_a1 : Fld Z h0 a1 "java/lang/String" "coder" "B" (.int w4)) (hc3 : ¬ (w2 = (0 : Int32))) (hc10 : w4 = (0 : Int32)) :
    MetFree l (⟨"java/lang/String", "isLatin1", "()Z"⟩ : MethodName) (head1 (Jvm.Cond.code (⟨"java/lang/String", "isLatin1", "()Z"⟩ : MethodName) jdk_42_method_154_code 1 (some .boolean) :: ws) ({ frames := 0, cells := 0, slots := 0, locals := 0 } : Room)) (fun a U => a = #[(.ref a1)] ∧ Z.Warmed39 U.vm ∧ U.heap = h0) (fun _ _ _ _ _ => True) (fun _ U o U' => ∃ v L, o = .returned v ∧ QP (some (.int (1 : Int32))) h0 n0 v U'.heap L ∧ FrameEnd U o U' L ({ frames := 0, cells := 0, slots := 0, locals := 0 } : Room).cells ({ frames := 0, cells := 0, slots := 0, locals := 0 } : Room).slots) := by
  refine MetFree.of_bodySF (plainFor_of_name pn_10) hisR ?_
  intro p e s m args below meth c s₁ Bd hml0 hP hK
  obtain ⟨rfl, hZ, hh⟩ := hP
  have hx := Bd.exec
  have hby := Bd.bytes
  have hml : c.maxLocals = 1 := hml0
  have hown : s.vm.findClass "java/lang/String" = some m.cls := findClass_of_methodNamed Bd.named
  have hnm := (name_of_methodNamed Bd.named Bd.method).1
  have X0 : Stand p l e ({ frames := 0, cells := 0, slots := 0, locals := 0 } : Room) s m #[(.ref a1)] below meth c s₁ [] 0 0 := Stand.of_body Bd
  have e0 : s₁.heap = h0 := by rw [← hh, Bd.state]; rfl
  have N0 := Fr.nil n0
  have pre0 : ∀ t, Steps p.tables e below (s₁.setTop (mkF m 0 #[.val (.ref a1)] [])) t → Steps p.tables e below (s₁.setTop (entryFrame m #[(.ref a1)] 1)) t := fun t k => castTop (ef_10 m a1) k
  obtain ⟨T3, X3, e3, st3⟩ := getS2 X0 hx hZ hown (host := "") (Or.inl (hw _ (List.mem_of_getElem? (i := 16) rfl))) Via.refl e0 S_COMPACT_STRINGS (g := (mkF m 0 #[.val (.ref a1)] [])) rfl (hb hby d10_0)
  obtain ⟨T5, X5, e5, st5⟩ := getF X3 hx hZ hown (host := "") (Or.inl (hw _ (List.mem_of_getElem? (i := 28) rfl))) Via.refl e3 F_coder_a1 (g := (mkF m 7 #[.val (.ref a1)] [(.ref a1)])) rfl rfl (hb hby d10_7)
  obtain ⟨fs, hr, hrun, hended, hW, hsame⟩ := X5.leave (v := some (.int (1 : Int32))) (fun h => by rw [Bd.returns] at h; cases h)
  refine ⟨_, _, pre0 _ ?_, hrun, hended, _, _, rfl, ?_, ⟨_, rfl⟩, hW, hsame.mono (by decide) (by decide)⟩
  · show Steps p.tables e below (s₁.setTop (mkF m 0 #[.val (.ref a1)] [])) _
    refine st3 _ ?_
    show Steps p.tables e below (T3.setTop (mkF m 3 #[.val (.ref a1)] [(.int w2)])) _
    refine XS.ifNo X3.here hx rfl (hb hby d10_3) rfl ((if0 _ _).trans (feq hc3).1) ?_
    show Steps p.tables e below (T3.setTop (mkF m 6 #[.val (.ref a1)] [])) _
    refine XS.aloadN X3.here hx rfl (hb hby d10_6) rfl rfl ?_
    show Steps p.tables e below (T3.setTop (mkF m 7 #[.val (.ref a1)] [(.ref a1)])) _
    refine st5 _ ?_
    show Steps p.tables e below (T5.setTop (mkF m 10 #[.val (.ref a1)] [(.int w4)])) _
    refine XS.ifNo X5.here hx rfl (hb hby d10_10) rfl ((if0 _ _).trans (teq hc10).2) ?_
    show Steps p.tables e below (T5.setTop (mkF m 13 #[.val (.ref a1)] [])) _
    refine XS.iconst X5.here hx rfl (hb hby d10_13) ?_
    show Steps p.tables e below (T5.setTop (mkF m 14 #[.val (.ref a1)] [(.int (1 : Int32))])) _
    refine XS.goto X5.here hx rfl (pc0 := 14) (pc' := 18) rfl (hb hby d10_14) (by decide) (by decide) ?_
    show Steps p.tables e below (T5.setTop (mkF m 18 #[.val (.ref a1)] [(.int (1 : Int32))])) _
    exact retN X5 hx (t := .boolean) Bd.returns (by simp) (hb hby d10_18) hr
  · show QP (some (.int (1 : Int32))) h0 n0 _ T5.heap _
    rw [e5]
    exact ⟨rfl, N0, rfl⟩
theorem d9_0 : decode jdk_42_method_78_code 0 = .ok (.aload_n 0, 1) := by decide +kernel
theorem d9_1 : decode jdk_42_method_78_code 1 = .ok (.getfield 19, 3) := by decide +kernel
theorem d9_4 : decode jdk_42_method_78_code 4 = .ok (.istore_n 1, 1) := by decide +kernel
theorem d9_5 : decode jdk_42_method_78_code 5 = .ok (.iload_n 1, 1) := by decide +kernel
theorem d9_6 : decode jdk_42_method_78_code 6 = .ok (.ifCond .ne 52, 3) := by decide +kernel
theorem d9_9 : decode jdk_42_method_78_code 9 = .ok (.aload_n 0, 1) := by decide +kernel
theorem d9_10 : decode jdk_42_method_78_code 10 = .ok (.getfield 23, 3) := by decide +kernel
theorem d9_13 : decode jdk_42_method_78_code 13 = .ok (.ifCond .ne 45, 3) := by decide +kernel
theorem d9_16 : decode jdk_42_method_78_code 16 = .ok (.aload_n 0, 1) := by decide +kernel
theorem d9_17 : decode jdk_42_method_78_code 17 = .ok (.invokevirtual 492, 3) := by decide +kernel
theorem d9_20 : decode jdk_42_method_78_code 20 = .ok (.ifCond .eq 13, 3) := by decide +kernel
theorem d9_23 : decode jdk_42_method_78_code 23 = .ok (.aload_n 0, 1) := by decide +kernel
theorem d9_24 : decode jdk_42_method_78_code 24 = .ok (.getfield 9, 3) := by decide +kernel
theorem d9_27 : decode jdk_42_method_78_code 27 = .ok (.invokestatic 628, 3) := by decide +kernel
theorem d9_30 : decode jdk_42_method_78_code 30 = .ok (.goto 10, 3) := by decide +kernel
theorem d9_40 : decode jdk_42_method_78_code 40 = .ok (.istore_n 1, 1) := by decide +kernel
theorem d9_41 : decode jdk_42_method_78_code 41 = .ok (.iload_n 1, 1) := by decide +kernel
theorem d9_42 : decode jdk_42_method_78_code 42 = .ok (.ifCond .ne 11, 3) := by decide +kernel
theorem d9_53 : decode jdk_42_method_78_code 53 = .ok (.aload_n 0, 1) := by decide +kernel
theorem d9_54 : decode jdk_42_method_78_code 54 = .ok (.iload_n 1, 1) := by decide +kernel
theorem d9_55 : decode jdk_42_method_78_code 55 = .ok (.putfield 19, 3) := by decide +kernel
theorem d9_58 : decode jdk_42_method_78_code 58 = .ok (.iload_n 1, 1) := by decide +kernel
theorem d9_59 : decode jdk_42_method_78_code 59 = .ok (.ireturn, 1) := by decide +kernel
theorem pn_9 : plainName "java/lang/String" = true := by first | (simp [plainName, overriddenIn]; done) | decide +kernel
theorem pd_9_9 : parseMethodDescriptor "()Z" = some ⟨[], some .boolean⟩ := by decide +kernel
theorem pd_9_10 : parseMethodDescriptor "([B)I" = some ⟨[(.array .byte)], some .int⟩ := by decide +kernel
theorem ef_9 (m : MethodId) (x0 : Addr) : entryFrame m #[(.ref x0)] 2 = mkF m 0 #[.val (.ref x0), .unset] [] := by first | (simp [entryFrame, mkF, argsToLocals, Value.category]; done) | rfl
set_option maxRecDepth 65536 in
set_option maxHeartbeats 40000000 in
theorem rm9_n (l : Launch) (Z : State) (a0 : Array Value) (hw : ∀ d ∈ tables_1, d.before a0 Z = true) (ws : List Jvm.Cond) (a1 : Addr) (w2 : Int32) (w4 : Int32) (w7 : Addr) (r : Int32) (h0 : Heap) (n0 : Nat) (Z0 : n0 ≤ h0.size) (F_hash_a1 : Fld Z h0 a1 "java/lang/String" "hash" "I" (.int w2)) (F_hashIsZero_a1 : Fld Z h0 a1 "java/lang/String" "hashIsZero" "Z" (.int w4)) (CALL_6_10 : MetFree l (⟨"java/lang/String", "isLatin1", "()Z"⟩ : MethodName) (head1 [Jvm.Cond.code (⟨"java/lang/String", "isLatin1", "()Z"⟩ : MethodName) jdk_42_method_154_code 1 (some .boolean)] ({ frames := 0, cells := 0, slots := 0, locals := 0 } : Room)) (fun a U => a = #[(.ref a1)] ∧ Z.Warmed39 U.vm ∧ U.heap = h0) (fun _ _ _ _ _ => True) (fun _ U o U' => ∃ v L, o = .returned v ∧ QP (some (.int (1 : Int32))) h0 n0 v U'.heap L ∧ FrameEnd U o U' L ({ frames := 0, cells := 0, slots := 0, locals := 0 } : Room).cells ({ frames := 0, cells := 0, slots := 0, locals := 0 } : Room).slots)) (E_a1 : Exa Z h0 a1 "java/lang/String") (F_value_a1 : Fld Z h0 a1 "java/lang/String" "value" "[B" (.ref w7)) (CALL_9_11 : MetFree l (⟨"java/lang/StringLatin1", "hashCode", "([B)I"⟩ : MethodName) (head1 [Jvm.Cond.code (⟨"java/lang/StringLatin1", "hashCode", "([B)I"⟩ : MethodName) jdk_43_method_21_code 1 (some .int)] ({ frames := 2, cells := 0, slots := 0, locals := 33 } : Room)) (fun a U => a = #[(.ref w7)] ∧ Z.Warmed39 U.vm ∧ U.heap = h0) (fun _ _ _ _ _ => True) (fun _ U o U' => ∃ v L, o = .returned v ∧ QP (some (.int r)) h0 n0 v U'.heap L ∧ FrameEnd U o U' L ({ frames := 2, cells := 0, slots := 0, locals := 33 } : Room).cells ({ frames := 2, cells := 0, slots := 0, locals := 33 } : Room).slots)) (g_a1 : n0 ≤ a1) (hc6 : w2 = (0 : Int32)) (hc13 : w4 = (0 : Int32)) (hc42 : ¬ (r = (0 : Int32))) :
    MetFree l (⟨"java/lang/String", "hashCode", "()I"⟩ : MethodName) (head1 (Jvm.Cond.code (⟨"java/lang/String", "hashCode", "()I"⟩ : MethodName) jdk_42_method_78_code 2 (some .int) :: ws) ({ frames := 3, cells := 0, slots := 0, locals := 45 } : Room)) (fun a U => a = #[(.ref a1)] ∧ Z.Warmed39 U.vm ∧ U.heap = h0) (fun _ _ _ _ _ => True) (fun _ U o U' => ∃ v L, o = .returned v ∧ QK (some (.int r)) [a1] h0 n0 v U'.heap L ∧ FrameEnd U o U' L ({ frames := 3, cells := 0, slots := 0, locals := 45 } : Room).cells ({ frames := 3, cells := 0, slots := 0, locals := 45 } : Room).slots) := by
  refine MetFree.of_bodySF (plainFor_of_name pn_9) hisR ?_
  intro p e s m args below meth c s₁ Bd hml0 hP hK
  obtain ⟨rfl, hZ, hh⟩ := hP
  have hx := Bd.exec
  have hby := Bd.bytes
  have hml : c.maxLocals = 2 := hml0
  have hown : s.vm.findClass "java/lang/String" = some m.cls := findClass_of_methodNamed Bd.named
  have hnm := (name_of_methodNamed Bd.named Bd.method).1
  have X0 : Stand p l e ({ frames := 3, cells := 0, slots := 0, locals := 45 } : Room) s m #[(.ref a1)] below meth c s₁ [] 0 0 := Stand.of_body Bd
  have e0 : s₁.heap = h0 := by rw [← hh, Bd.state]; rfl
  have N0 := Fr.nil n0
  have pre0 : ∀ t, Steps p.tables e below (s₁.setTop (mkF m 0 #[.val (.ref a1), .unset] [])) t → Steps p.tables e below (s₁.setTop (entryFrame m #[(.ref a1)] 2)) t := fun t k => castTop (ef_9 m a1) k
  obtain ⟨T3, X3, e3, st3⟩ := getF X0 hx hZ hown (host := "") (Or.inl (hw _ (List.mem_of_getElem? (i := 52) rfl))) Via.refl e0 F_hash_a1 (g := (mkF m 1 #[.val (.ref a1), .unset] [(.ref a1)])) rfl rfl (hb hby d9_1)
  obtain ⟨T5, X5, e5, st5⟩ := getF X3 hx hZ hown (host := "") (Or.inl (hw _ (List.mem_of_getElem? (i := 54) rfl))) Via.refl e3 F_hashIsZero_a1 (g := (mkF m 10 #[.val (.ref a1), .val (.int w2)] [(.ref a1)])) rfl rfl (hb hby d9_10)
  obtain ⟨cq6, kq6, q6a, q6b, q6c⟩ := isOf hZ e5 E_a1
  obtain ⟨_, _, ⟨T6, L6, k6, n6⟩, -, X6, ⟨Lc6, hQ6, l6, y6, z6⟩, st6⟩ := X5.virtualBack hx (y := (⟨"java/lang/String", "isLatin1", "()Z"⟩ : MethodName)) (z := (⟨"java/lang/String", "isLatin1", "()Z"⟩ : MethodName)) hown (mvT hZ (hw _ (List.mem_of_getElem? (i := 56) rfl))) (mvT hZ (hw _ (List.mem_of_getElem? (i := 57) rfl))) (notFace_of_selects (args := #[]) (mvT hZ (hw _ (List.mem_of_getElem? (i := 59) rfl)))) (mvT hZ (hw _ (List.mem_of_getElem? (i := 59) rfl))) (mvT hZ (hw _ (List.mem_of_getElem? (i := 58) rfl))) (by decide) (backOf (W := 0) CALL_6_10 hZ (hw _ (List.mem_of_getElem? (i := 60) rfl)) (hw _ (List.mem_of_getElem? (i := 5) rfl)) (by decide) (by decide)) q6a q6c (g := (mkF m 17 #[.val (.ref a1), .val (.int w2)] [(.ref a1)])) rfl (by rw [hml]; rfl) (Steps.refl _) (argsL := []) (rest := []) (lenOf pd_9_9 rfl) rfl (by show 2 * 0 + _ ≤ _; exact Nat.le_of_eq rfl) (hb hby d9_17) (fun _ _ => ⟨rfl, e5, (by decide : 0 + 0 ≤ _), (by decide : 0 + 0 ≤ _)⟩)
  dsimp only [Pt.U, Pt.locs, Pt.cells, Pt.slots] at X6 l6 y6 z6 st6 hQ6
  subst l6 y6 z6
  obtain ⟨rfl, N6q, eh6⟩ := hQ6
  have N6 := Fr.app N0 N6q
  obtain ⟨T8, X8, e8, st8⟩ := getF X6 hx hZ hown (host := "") (Or.inl (hw _ (List.mem_of_getElem? (i := 30) rfl))) Via.refl eh6 F_value_a1 (g := (mkF m 24 #[.val (.ref a1), .val (.int w2)] [(.ref a1)])) rfl rfl (hb hby d9_24)
  obtain ⟨_, _, ⟨T9, L9, k9, n9⟩, -, X9, ⟨Lc9, hQ9, l9, y9, z9⟩, st9⟩ := Jvm.LawKit.callS X8 hx (y := (⟨"java/lang/StringLatin1", "hashCode", "([B)I"⟩ : MethodName)) hown (mvT hZ (hw _ (List.mem_of_getElem? (i := 61) rfl))) (mvT hZ (hw _ (List.mem_of_getElem? (i := 62) rfl))) (mvT hZ (hw _ (List.mem_of_getElem? (i := 63) rfl))) (mvT hZ (hw _ (List.mem_of_getElem? (i := 64) rfl))) (by decide) (backOf (W := 0) CALL_9_11 hZ (hw _ (List.mem_of_getElem? (i := 64) rfl)) (hw _ (List.mem_of_getElem? (i := 63) rfl)) (by decide) (by decide)) (g := (mkF m 27 #[.val (.ref a1), .val (.int w2)] [(.ref w7)])) rfl (by rw [hml]; rfl) (argsL := [(.ref w7)]) (rest := []) (lenOf pd_9_10 rfl) rfl (by show 2 * 0 + _ ≤ _; exact Nat.le_of_eq rfl) (hb hby d9_27) (fun _ _ => ⟨rfl, e8, (by decide : 0 + 0 ≤ _), (by decide : 0 + 0 ≤ _)⟩)
  dsimp only [Pt.U, Pt.locs, Pt.cells, Pt.slots] at X9 l9 y9 z9 st9 hQ9
  subst l9 y9 z9
  obtain ⟨rfl, N9q, eh9⟩ := hQ9
  have N9 := Fr.app N6 N9q
  obtain ⟨T10, h10, X10, e10, W10, st10⟩ := putF X9 hx hZ hown (host := "") (Or.inl (hw _ (List.mem_of_getElem? (i := 52) rfl))) Via.refl eh9 F_hash_a1 E_a1 (Or.inl (hw _ (List.mem_of_getElem? (i := 53) rfl))) (hw _ (List.mem_of_getElem? (i := 4) rfl)) (ty := .int) (by decide) rfl rfl (g := (mkF m 55 #[.val (.ref a1), .val (.int r)] [(.int r), (.ref a1)])) rfl rfl (hb hby d9_55)
  have Fw10 := F_hash_a1.same W10
  have K10 : Keep h0 h10 [a1] := (Keep.refl h0 [a1]).wr W10 (Or.inl (List.mem_of_getElem? (i := 0) rfl))
  have N10 := Fr.snoc X10 N9 g_a1
  obtain ⟨fs, hr, hrun, hended, hW, hsame⟩ := X10.leave (v := some (.int r)) (fun h => by rw [Bd.returns] at h; cases h)
  refine ⟨_, _, pre0 _ ?_, hrun, hended, _, _, rfl, ?_, ⟨_, rfl⟩, hW, hsame.mono (by decide) (by decide)⟩
  · show Steps p.tables e below (s₁.setTop (mkF m 0 #[.val (.ref a1), .unset] [])) _
    refine XS.aloadN X0.here hx rfl (hb hby d9_0) rfl rfl ?_
    show Steps p.tables e below (s₁.setTop (mkF m 1 #[.val (.ref a1), .unset] [(.ref a1)])) _
    refine st3 _ ?_
    show Steps p.tables e below (T3.setTop (mkF m 4 #[.val (.ref a1), .unset] [(.int w2)])) _
    refine XS.istoreN X3.here hx rfl (hb hby d9_4) rfl (l' := #[.val (.ref a1), .val (.int w2)]) rfl ?_
    show Steps p.tables e below (T3.setTop (mkF m 5 #[.val (.ref a1), .val (.int w2)] [])) _
    refine XS.iloadN X3.here hx rfl (hb hby d9_5) rfl ?_
    show Steps p.tables e below (T3.setTop (mkF m 6 #[.val (.ref a1), .val (.int w2)] [(.int w2)])) _
    refine XS.ifNo X3.here hx rfl (hb hby d9_6) rfl ((if0 _ _).trans (teq hc6).2) ?_
    show Steps p.tables e below (T3.setTop (mkF m 9 #[.val (.ref a1), .val (.int w2)] [])) _
    refine XS.aloadN X3.here hx rfl (hb hby d9_9) rfl rfl ?_
    show Steps p.tables e below (T3.setTop (mkF m 10 #[.val (.ref a1), .val (.int w2)] [(.ref a1)])) _
    refine st5 _ ?_
    show Steps p.tables e below (T5.setTop (mkF m 13 #[.val (.ref a1), .val (.int w2)] [(.int w4)])) _
    refine XS.ifNo X5.here hx rfl (hb hby d9_13) rfl ((if0 _ _).trans (teq hc13).2) ?_
    show Steps p.tables e below (T5.setTop (mkF m 16 #[.val (.ref a1), .val (.int w2)] [])) _
    refine XS.aloadN X5.here hx rfl (hb hby d9_16) rfl rfl ?_
    show Steps p.tables e below (T5.setTop (mkF m 17 #[.val (.ref a1), .val (.int w2)] [(.ref a1)])) _
    refine st6.trans ?_
    show Steps p.tables e below (T6.setTop (mkF m 20 #[.val (.ref a1), .val (.int w2)] [(.int (1 : Int32))])) _
    refine XS.ifNo X6.here hx rfl (hb hby d9_20) rfl ((if0 _ _).trans (feq (by decide : ¬ ((1 : Int32) = (0 : Int32)))).1) ?_
    show Steps p.tables e below (T6.setTop (mkF m 23 #[.val (.ref a1), .val (.int w2)] [])) _
    refine XS.aloadN X6.here hx rfl (hb hby d9_23) rfl rfl ?_
    show Steps p.tables e below (T6.setTop (mkF m 24 #[.val (.ref a1), .val (.int w2)] [(.ref a1)])) _
    refine st8 _ ?_
    show Steps p.tables e below (T8.setTop (mkF m 27 #[.val (.ref a1), .val (.int w2)] [(.ref w7)])) _
    refine st9 _ ?_
    show Steps p.tables e below (T9.setTop (mkF m 30 #[.val (.ref a1), .val (.int w2)] [(.int r)])) _
    refine XS.goto X9.here hx rfl (pc0 := 30) (pc' := 40) rfl (hb hby d9_30) (by decide) (by decide) ?_
    show Steps p.tables e below (T9.setTop (mkF m 40 #[.val (.ref a1), .val (.int w2)] [(.int r)])) _
    refine XS.istoreN X9.here hx rfl (hb hby d9_40) rfl (l' := #[.val (.ref a1), .val (.int r)]) rfl ?_
    show Steps p.tables e below (T9.setTop (mkF m 41 #[.val (.ref a1), .val (.int r)] [])) _
    refine XS.iloadN X9.here hx rfl (hb hby d9_41) rfl ?_
    show Steps p.tables e below (T9.setTop (mkF m 42 #[.val (.ref a1), .val (.int r)] [(.int r)])) _
    refine XS.ifYes X9.here hx rfl (pc0 := 42) (pc' := 53) rfl (hb hby d9_42) rfl ((if0 _ _).trans (feq hc42).2) (by decide) (by decide) ?_
    show Steps p.tables e below (T9.setTop (mkF m 53 #[.val (.ref a1), .val (.int r)] [])) _
    refine XS.aloadN X9.here hx rfl (hb hby d9_53) rfl rfl ?_
    show Steps p.tables e below (T9.setTop (mkF m 54 #[.val (.ref a1), .val (.int r)] [(.ref a1)])) _
    refine XS.iloadN X9.here hx rfl (hb hby d9_54) rfl ?_
    show Steps p.tables e below (T9.setTop (mkF m 55 #[.val (.ref a1), .val (.int r)] [(.int r), (.ref a1)])) _
    refine st10 _ ?_
    show Steps p.tables e below (T10.setTop (mkF m 58 #[.val (.ref a1), .val (.int r)] [])) _
    refine XS.iloadN X10.here hx rfl (hb hby d9_58) rfl ?_
    show Steps p.tables e below (T10.setTop (mkF m 59 #[.val (.ref a1), .val (.int r)] [(.int r)])) _
    exact retI X10 hx Bd.returns (hb hby d9_59) hr
  · show QK (some (.int r)) [a1] h0 n0 _ T10.heap _
    rw [e10]
    exact ⟨rfl, N10, K10⟩
theorem d9_45 : decode jdk_42_method_78_code 45 = .ok (.aload_n 0, 1) := by decide +kernel
theorem d9_46 : decode jdk_42_method_78_code 46 = .ok (.iconst 1, 1) := by decide +kernel
theorem d9_47 : decode jdk_42_method_78_code 47 = .ok (.putfield 23, 3) := by decide +kernel
theorem d9_50 : decode jdk_42_method_78_code 50 = .ok (.goto 8, 3) := by decide +kernel
set_option maxRecDepth 65536 in
set_option maxHeartbeats 40000000 in
theorem rm9_z (l : Launch) (Z : State) (a0 : Array Value) (hw : ∀ d ∈ tables_1, d.before a0 Z = true) (ws : List Jvm.Cond) (a1 : Addr) (w2 : Int32) (w4 : Int32) (w7 : Addr) (r : Int32) (h0 : Heap) (n0 : Nat) (Z0 : n0 ≤ h0.size) (F_hash_a1 : Fld Z h0 a1 "java/lang/String" "hash" "I" (.int w2)) (F_hashIsZero_a1 : Fld Z h0 a1 "java/lang/String" "hashIsZero" "Z" (.int w4)) (CALL_6_10 : MetFree l (⟨"java/lang/String", "isLatin1", "()Z"⟩ : MethodName) (head1 [Jvm.Cond.code (⟨"java/lang/String", "isLatin1", "()Z"⟩ : MethodName) jdk_42_method_154_code 1 (some .boolean)] ({ frames := 0, cells := 0, slots := 0, locals := 0 } : Room)) (fun a U => a = #[(.ref a1)] ∧ Z.Warmed39 U.vm ∧ U.heap = h0) (fun _ _ _ _ _ => True) (fun _ U o U' => ∃ v L, o = .returned v ∧ QP (some (.int (1 : Int32))) h0 n0 v U'.heap L ∧ FrameEnd U o U' L ({ frames := 0, cells := 0, slots := 0, locals := 0 } : Room).cells ({ frames := 0, cells := 0, slots := 0, locals := 0 } : Room).slots)) (E_a1 : Exa Z h0 a1 "java/lang/String") (F_value_a1 : Fld Z h0 a1 "java/lang/String" "value" "[B" (.ref w7)) (CALL_9_11 : MetFree l (⟨"java/lang/StringLatin1", "hashCode", "([B)I"⟩ : MethodName) (head1 [Jvm.Cond.code (⟨"java/lang/StringLatin1", "hashCode", "([B)I"⟩ : MethodName) jdk_43_method_21_code 1 (some .int)] ({ frames := 2, cells := 0, slots := 0, locals := 33 } : Room)) (fun a U => a = #[(.ref w7)] ∧ Z.Warmed39 U.vm ∧ U.heap = h0) (fun _ _ _ _ _ => True) (fun _ U o U' => ∃ v L, o = .returned v ∧ QP (some (.int r)) h0 n0 v U'.heap L ∧ FrameEnd U o U' L ({ frames := 2, cells := 0, slots := 0, locals := 33 } : Room).cells ({ frames := 2, cells := 0, slots := 0, locals := 33 } : Room).slots)) (g_a1 : n0 ≤ a1) (hc6 : w2 = (0 : Int32)) (hc13 : w4 = (0 : Int32)) (hc42 : r = (0 : Int32)) :
    MetFree l (⟨"java/lang/String", "hashCode", "()I"⟩ : MethodName) (head1 (Jvm.Cond.code (⟨"java/lang/String", "hashCode", "()I"⟩ : MethodName) jdk_42_method_78_code 2 (some .int) :: ws) ({ frames := 3, cells := 0, slots := 0, locals := 45 } : Room)) (fun a U => a = #[(.ref a1)] ∧ Z.Warmed39 U.vm ∧ U.heap = h0) (fun _ _ _ _ _ => True) (fun _ U o U' => ∃ v L, o = .returned v ∧ QK (some (.int r)) [a1] h0 n0 v U'.heap L ∧ FrameEnd U o U' L ({ frames := 3, cells := 0, slots := 0, locals := 45 } : Room).cells ({ frames := 3, cells := 0, slots := 0, locals := 45 } : Room).slots) := by
  refine MetFree.of_bodySF (plainFor_of_name pn_9) hisR ?_
  intro p e s m args below meth c s₁ Bd hml0 hP hK
  obtain ⟨rfl, hZ, hh⟩ := hP
  have hx := Bd.exec
  have hby := Bd.bytes
  have hml : c.maxLocals = 2 := hml0
  have hown : s.vm.findClass "java/lang/String" = some m.cls := findClass_of_methodNamed Bd.named
  have hnm := (name_of_methodNamed Bd.named Bd.method).1
  have X0 : Stand p l e ({ frames := 3, cells := 0, slots := 0, locals := 45 } : Room) s m #[(.ref a1)] below meth c s₁ [] 0 0 := Stand.of_body Bd
  have e0 : s₁.heap = h0 := by rw [← hh, Bd.state]; rfl
  have N0 := Fr.nil n0
  have pre0 : ∀ t, Steps p.tables e below (s₁.setTop (mkF m 0 #[.val (.ref a1), .unset] [])) t → Steps p.tables e below (s₁.setTop (entryFrame m #[(.ref a1)] 2)) t := fun t k => castTop (ef_9 m a1) k
  obtain ⟨T3, X3, e3, st3⟩ := getF X0 hx hZ hown (host := "") (Or.inl (hw _ (List.mem_of_getElem? (i := 52) rfl))) Via.refl e0 F_hash_a1 (g := (mkF m 1 #[.val (.ref a1), .unset] [(.ref a1)])) rfl rfl (hb hby d9_1)
  obtain ⟨T5, X5, e5, st5⟩ := getF X3 hx hZ hown (host := "") (Or.inl (hw _ (List.mem_of_getElem? (i := 54) rfl))) Via.refl e3 F_hashIsZero_a1 (g := (mkF m 10 #[.val (.ref a1), .val (.int w2)] [(.ref a1)])) rfl rfl (hb hby d9_10)
  obtain ⟨cq6, kq6, q6a, q6b, q6c⟩ := isOf hZ e5 E_a1
  obtain ⟨_, _, ⟨T6, L6, k6, n6⟩, -, X6, ⟨Lc6, hQ6, l6, y6, z6⟩, st6⟩ := X5.virtualBack hx (y := (⟨"java/lang/String", "isLatin1", "()Z"⟩ : MethodName)) (z := (⟨"java/lang/String", "isLatin1", "()Z"⟩ : MethodName)) hown (mvT hZ (hw _ (List.mem_of_getElem? (i := 56) rfl))) (mvT hZ (hw _ (List.mem_of_getElem? (i := 57) rfl))) (notFace_of_selects (args := #[]) (mvT hZ (hw _ (List.mem_of_getElem? (i := 59) rfl)))) (mvT hZ (hw _ (List.mem_of_getElem? (i := 59) rfl))) (mvT hZ (hw _ (List.mem_of_getElem? (i := 58) rfl))) (by decide) (backOf (W := 0) CALL_6_10 hZ (hw _ (List.mem_of_getElem? (i := 60) rfl)) (hw _ (List.mem_of_getElem? (i := 5) rfl)) (by decide) (by decide)) q6a q6c (g := (mkF m 17 #[.val (.ref a1), .val (.int w2)] [(.ref a1)])) rfl (by rw [hml]; rfl) (Steps.refl _) (argsL := []) (rest := []) (lenOf pd_9_9 rfl) rfl (by show 2 * 0 + _ ≤ _; exact Nat.le_of_eq rfl) (hb hby d9_17) (fun _ _ => ⟨rfl, e5, (by decide : 0 + 0 ≤ _), (by decide : 0 + 0 ≤ _)⟩)
  dsimp only [Pt.U, Pt.locs, Pt.cells, Pt.slots] at X6 l6 y6 z6 st6 hQ6
  subst l6 y6 z6
  obtain ⟨rfl, N6q, eh6⟩ := hQ6
  have N6 := Fr.app N0 N6q
  obtain ⟨T8, X8, e8, st8⟩ := getF X6 hx hZ hown (host := "") (Or.inl (hw _ (List.mem_of_getElem? (i := 30) rfl))) Via.refl eh6 F_value_a1 (g := (mkF m 24 #[.val (.ref a1), .val (.int w2)] [(.ref a1)])) rfl rfl (hb hby d9_24)
  obtain ⟨_, _, ⟨T9, L9, k9, n9⟩, -, X9, ⟨Lc9, hQ9, l9, y9, z9⟩, st9⟩ := Jvm.LawKit.callS X8 hx (y := (⟨"java/lang/StringLatin1", "hashCode", "([B)I"⟩ : MethodName)) hown (mvT hZ (hw _ (List.mem_of_getElem? (i := 61) rfl))) (mvT hZ (hw _ (List.mem_of_getElem? (i := 62) rfl))) (mvT hZ (hw _ (List.mem_of_getElem? (i := 63) rfl))) (mvT hZ (hw _ (List.mem_of_getElem? (i := 64) rfl))) (by decide) (backOf (W := 0) CALL_9_11 hZ (hw _ (List.mem_of_getElem? (i := 64) rfl)) (hw _ (List.mem_of_getElem? (i := 63) rfl)) (by decide) (by decide)) (g := (mkF m 27 #[.val (.ref a1), .val (.int w2)] [(.ref w7)])) rfl (by rw [hml]; rfl) (argsL := [(.ref w7)]) (rest := []) (lenOf pd_9_10 rfl) rfl (by show 2 * 0 + _ ≤ _; exact Nat.le_of_eq rfl) (hb hby d9_27) (fun _ _ => ⟨rfl, e8, (by decide : 0 + 0 ≤ _), (by decide : 0 + 0 ≤ _)⟩)
  dsimp only [Pt.U, Pt.locs, Pt.cells, Pt.slots] at X9 l9 y9 z9 st9 hQ9
  subst l9 y9 z9
  obtain ⟨rfl, N9q, eh9⟩ := hQ9
  have N9 := Fr.app N6 N9q
  obtain ⟨T10, h10, X10, e10, W10, st10⟩ := putFN X9 hx hZ hown (hw _ (List.mem_of_getElem? (i := 54) rfl)) Via.refl eh9 F_hashIsZero_a1 E_a1 (Or.inl (hw _ (List.mem_of_getElem? (i := 55) rfl))) (hw _ (List.mem_of_getElem? (i := 4) rfl)) (ty := .boolean) (v' := (.int (nar .boolean (1 : Int32)))) (by decide) rfl (fits_nar_bool _) (g := (mkF m 47 #[.val (.ref a1), .val (.int r)] [(.int (1 : Int32)), (.ref a1)])) rfl rfl (hb hby d9_47)
  have Fw10 := F_hashIsZero_a1.same W10
  have K10 : Keep h0 h10 [a1] := (Keep.refl h0 [a1]).wr W10 (Or.inl (List.mem_of_getElem? (i := 0) rfl))
  have N10 := Fr.snoc X10 N9 g_a1
  obtain ⟨fs, hr, hrun, hended, hW, hsame⟩ := X10.leave (v := some (.int r)) (fun h => by rw [Bd.returns] at h; cases h)
  refine ⟨_, _, pre0 _ ?_, hrun, hended, _, _, rfl, ?_, ⟨_, rfl⟩, hW, hsame.mono (by decide) (by decide)⟩
  · show Steps p.tables e below (s₁.setTop (mkF m 0 #[.val (.ref a1), .unset] [])) _
    refine XS.aloadN X0.here hx rfl (hb hby d9_0) rfl rfl ?_
    show Steps p.tables e below (s₁.setTop (mkF m 1 #[.val (.ref a1), .unset] [(.ref a1)])) _
    refine st3 _ ?_
    show Steps p.tables e below (T3.setTop (mkF m 4 #[.val (.ref a1), .unset] [(.int w2)])) _
    refine XS.istoreN X3.here hx rfl (hb hby d9_4) rfl (l' := #[.val (.ref a1), .val (.int w2)]) rfl ?_
    show Steps p.tables e below (T3.setTop (mkF m 5 #[.val (.ref a1), .val (.int w2)] [])) _
    refine XS.iloadN X3.here hx rfl (hb hby d9_5) rfl ?_
    show Steps p.tables e below (T3.setTop (mkF m 6 #[.val (.ref a1), .val (.int w2)] [(.int w2)])) _
    refine XS.ifNo X3.here hx rfl (hb hby d9_6) rfl ((if0 _ _).trans (teq hc6).2) ?_
    show Steps p.tables e below (T3.setTop (mkF m 9 #[.val (.ref a1), .val (.int w2)] [])) _
    refine XS.aloadN X3.here hx rfl (hb hby d9_9) rfl rfl ?_
    show Steps p.tables e below (T3.setTop (mkF m 10 #[.val (.ref a1), .val (.int w2)] [(.ref a1)])) _
    refine st5 _ ?_
    show Steps p.tables e below (T5.setTop (mkF m 13 #[.val (.ref a1), .val (.int w2)] [(.int w4)])) _
    refine XS.ifNo X5.here hx rfl (hb hby d9_13) rfl ((if0 _ _).trans (teq hc13).2) ?_
    show Steps p.tables e below (T5.setTop (mkF m 16 #[.val (.ref a1), .val (.int w2)] [])) _
    refine XS.aloadN X5.here hx rfl (hb hby d9_16) rfl rfl ?_
    show Steps p.tables e below (T5.setTop (mkF m 17 #[.val (.ref a1), .val (.int w2)] [(.ref a1)])) _
    refine st6.trans ?_
    show Steps p.tables e below (T6.setTop (mkF m 20 #[.val (.ref a1), .val (.int w2)] [(.int (1 : Int32))])) _
    refine XS.ifNo X6.here hx rfl (hb hby d9_20) rfl ((if0 _ _).trans (feq (by decide : ¬ ((1 : Int32) = (0 : Int32)))).1) ?_
    show Steps p.tables e below (T6.setTop (mkF m 23 #[.val (.ref a1), .val (.int w2)] [])) _
    refine XS.aloadN X6.here hx rfl (hb hby d9_23) rfl rfl ?_
    show Steps p.tables e below (T6.setTop (mkF m 24 #[.val (.ref a1), .val (.int w2)] [(.ref a1)])) _
    refine st8 _ ?_
    show Steps p.tables e below (T8.setTop (mkF m 27 #[.val (.ref a1), .val (.int w2)] [(.ref w7)])) _
    refine st9 _ ?_
    show Steps p.tables e below (T9.setTop (mkF m 30 #[.val (.ref a1), .val (.int w2)] [(.int r)])) _
    refine XS.goto X9.here hx rfl (pc0 := 30) (pc' := 40) rfl (hb hby d9_30) (by decide) (by decide) ?_
    show Steps p.tables e below (T9.setTop (mkF m 40 #[.val (.ref a1), .val (.int w2)] [(.int r)])) _
    refine XS.istoreN X9.here hx rfl (hb hby d9_40) rfl (l' := #[.val (.ref a1), .val (.int r)]) rfl ?_
    show Steps p.tables e below (T9.setTop (mkF m 41 #[.val (.ref a1), .val (.int r)] [])) _
    refine XS.iloadN X9.here hx rfl (hb hby d9_41) rfl ?_
    show Steps p.tables e below (T9.setTop (mkF m 42 #[.val (.ref a1), .val (.int r)] [(.int r)])) _
    refine XS.ifNo X9.here hx rfl (hb hby d9_42) rfl ((if0 _ _).trans (teq hc42).2) ?_
    show Steps p.tables e below (T9.setTop (mkF m 45 #[.val (.ref a1), .val (.int r)] [])) _
    refine XS.aloadN X9.here hx rfl (hb hby d9_45) rfl rfl ?_
    show Steps p.tables e below (T9.setTop (mkF m 46 #[.val (.ref a1), .val (.int r)] [(.ref a1)])) _
    refine XS.iconst X9.here hx rfl (hb hby d9_46) ?_
    show Steps p.tables e below (T9.setTop (mkF m 47 #[.val (.ref a1), .val (.int r)] [(.int (1 : Int32)), (.ref a1)])) _
    refine st10 _ ?_
    show Steps p.tables e below (T10.setTop (mkF m 50 #[.val (.ref a1), .val (.int r)] [])) _
    refine XS.goto X10.here hx rfl (pc0 := 50) (pc' := 58) rfl (hb hby d9_50) (by decide) (by decide) ?_
    show Steps p.tables e below (T10.setTop (mkF m 58 #[.val (.ref a1), .val (.int r)] [])) _
    refine XS.iloadN X10.here hx rfl (hb hby d9_58) rfl ?_
    show Steps p.tables e below (T10.setTop (mkF m 59 #[.val (.ref a1), .val (.int r)] [(.int r)])) _
    exact retI X10 hx Bd.returns (hb hby d9_59) hr
  · show QK (some (.int r)) [a1] h0 n0 _ T10.heap _
    rw [e10]
    exact ⟨rfl, N10, K10⟩
theorem d14_0 : decode prog_118_method_7_code 0 = .ok (.iload_n 0, 1) := by decide +kernel
theorem d14_1 : decode prog_118_method_7_code 1 = .ok (.iload_n 0, 1) := by decide +kernel
theorem d14_2 : decode prog_118_method_7_code 2 = .ok (.bipush 16, 2) := by decide +kernel
theorem d14_4 : decode prog_118_method_7_code 4 = .ok (.iushr, 1) := by decide +kernel
theorem d14_5 : decode prog_118_method_7_code 5 = .ok (.ixor, 1) := by decide +kernel
theorem d14_6 : decode prog_118_method_7_code 6 = .ok (.istore_n 0, 1) := by decide +kernel
theorem d14_7 : decode prog_118_method_7_code 7 = .ok (.iload_n 0, 1) := by decide +kernel
theorem d14_8 : decode prog_118_method_7_code 8 = .ok (.ldc 76, 2) := by decide +kernel
theorem d14_10 : decode prog_118_method_7_code 10 = .ok (.imul, 1) := by decide +kernel
theorem d14_11 : decode prog_118_method_7_code 11 = .ok (.istore_n 0, 1) := by decide +kernel
theorem d14_12 : decode prog_118_method_7_code 12 = .ok (.iload_n 0, 1) := by decide +kernel
theorem d14_13 : decode prog_118_method_7_code 13 = .ok (.iload_n 0, 1) := by decide +kernel
theorem d14_14 : decode prog_118_method_7_code 14 = .ok (.bipush 13, 2) := by decide +kernel
theorem d14_16 : decode prog_118_method_7_code 16 = .ok (.iushr, 1) := by decide +kernel
theorem d14_17 : decode prog_118_method_7_code 17 = .ok (.ixor, 1) := by decide +kernel
theorem d14_18 : decode prog_118_method_7_code 18 = .ok (.istore_n 0, 1) := by decide +kernel
theorem d14_19 : decode prog_118_method_7_code 19 = .ok (.iload_n 0, 1) := by decide +kernel
theorem d14_20 : decode prog_118_method_7_code 20 = .ok (.ldc 77, 2) := by decide +kernel
theorem d14_22 : decode prog_118_method_7_code 22 = .ok (.imul, 1) := by decide +kernel
theorem d14_23 : decode prog_118_method_7_code 23 = .ok (.istore_n 0, 1) := by decide +kernel
theorem d14_24 : decode prog_118_method_7_code 24 = .ok (.iload_n 0, 1) := by decide +kernel
theorem d14_25 : decode prog_118_method_7_code 25 = .ok (.iload_n 0, 1) := by decide +kernel
theorem d14_26 : decode prog_118_method_7_code 26 = .ok (.bipush 16, 2) := by decide +kernel
theorem d14_28 : decode prog_118_method_7_code 28 = .ok (.iushr, 1) := by decide +kernel
theorem d14_29 : decode prog_118_method_7_code 29 = .ok (.ixor, 1) := by decide +kernel
theorem d14_30 : decode prog_118_method_7_code 30 = .ok (.ireturn, 1) := by decide +kernel
theorem pn_14 : plainName "com/example/fixpoint/fixpoint/expr/Expr" = true := by first | (simp [plainName, overriddenIn]; done) | decide +kernel
theorem ef_14 (m : MethodId) (x0 : Int32) : entryFrame m #[(.int x0)] 1 = mkF m 0 #[.val (.int x0)] [] := by first | (simp [entryFrame, mkF, argsToLocals, Value.category]; done) | rfl
set_option maxRecDepth 65536 in
set_option maxHeartbeats 40000000 in
theorem rm14 (l : Launch) (Z : State) (a0 : Array Value) (hw : ∀ d ∈ tables_1, d.before a0 Z = true) (ws : List Jvm.Cond) (p1 : Int32) (h0 : Heap) (n0 : Nat) (Z0 : n0 ≤ h0.size) :
    MetFree l (⟨"com/example/fixpoint/fixpoint/expr/Expr", "mix", "(I)I"⟩ : MethodName) (head1 (Jvm.Cond.code (⟨"com/example/fixpoint/fixpoint/expr/Expr", "mix", "(I)I"⟩ : MethodName) prog_118_method_7_code 1 (some .int) :: ws) ({ frames := 0, cells := 0, slots := 0, locals := 0 } : Room)) (fun a U => a = #[(.int p1)] ∧ Z.Warmed39 U.vm ∧ U.heap = h0) (fun _ _ _ _ _ => True) (fun _ U o U' => ∃ v L, o = .returned v ∧ QP (some (.int (own_sp p1))) h0 n0 v U'.heap L ∧ FrameEnd U o U' L ({ frames := 0, cells := 0, slots := 0, locals := 0 } : Room).cells ({ frames := 0, cells := 0, slots := 0, locals := 0 } : Room).slots) := by
  refine MetFree.of_bodySF (plainFor_of_name pn_14) hisR ?_
  intro p e s m args below meth c s₁ Bd hml0 hP hK
  obtain ⟨rfl, hZ, hh⟩ := hP
  have hx := Bd.exec
  have hby := Bd.bytes
  have hml : c.maxLocals = 1 := hml0
  have hown : s.vm.findClass "com/example/fixpoint/fixpoint/expr/Expr" = some m.cls := findClass_of_methodNamed Bd.named
  have hnm := (name_of_methodNamed Bd.named Bd.method).1
  have X0 : Stand p l e ({ frames := 0, cells := 0, slots := 0, locals := 0 } : Room) s m #[(.int p1)] below meth c s₁ [] 0 0 := Stand.of_body Bd
  have e0 : s₁.heap = h0 := by rw [← hh, Bd.state]; rfl
  have N0 := Fr.nil n0
  have pre0 : ∀ t, Steps p.tables e below (s₁.setTop (mkF m 0 #[.val (.int p1)] [])) t → Steps p.tables e below (s₁.setTop (entryFrame m #[(.int p1)] 1)) t := fun t k => castTop (ef_14 m p1) k

  obtain ⟨fs, hr, hrun, hended, hW, hsame⟩ := X0.leave (v := some (.int (((((p1 ^^^ ((p1.toUInt32 >>> ((16 : Int32) &&& 31).toUInt32).toInt32)) * (-2048144789 : Int32)) ^^^ ((((p1 ^^^ ((p1.toUInt32 >>> ((16 : Int32) &&& 31).toUInt32).toInt32)) * (-2048144789 : Int32)).toUInt32 >>> ((13 : Int32) &&& 31).toUInt32).toInt32)) * (-1028477387 : Int32)) ^^^ ((((((p1 ^^^ ((p1.toUInt32 >>> ((16 : Int32) &&& 31).toUInt32).toInt32)) * (-2048144789 : Int32)) ^^^ ((((p1 ^^^ ((p1.toUInt32 >>> ((16 : Int32) &&& 31).toUInt32).toInt32)) * (-2048144789 : Int32)).toUInt32 >>> ((13 : Int32) &&& 31).toUInt32).toInt32)) * (-1028477387 : Int32)).toUInt32 >>> ((16 : Int32) &&& 31).toUInt32).toInt32)))) (fun h => by rw [Bd.returns] at h; cases h)
  refine ⟨_, _, pre0 _ ?_, hrun, hended, _, _, rfl, ?_, ⟨_, rfl⟩, hW, hsame.mono (by decide) (by decide)⟩
  · show Steps p.tables e below (s₁.setTop (mkF m 0 #[.val (.int p1)] [])) _
    refine XS.iloadN X0.here hx rfl (hb hby d14_0) rfl ?_
    show Steps p.tables e below (s₁.setTop (mkF m 1 #[.val (.int p1)] [(.int p1)])) _
    refine XS.iloadN X0.here hx rfl (hb hby d14_1) rfl ?_
    show Steps p.tables e below (s₁.setTop (mkF m 2 #[.val (.int p1)] [(.int p1), (.int p1)])) _
    refine XS.bipush X0.here hx rfl (hb hby d14_2) ?_
    show Steps p.tables e below (s₁.setTop (mkF m 4 #[.val (.int p1)] [(.int (16 : Int32)), (.int p1), (.int p1)])) _
    refine XS.iushr X0.here hx rfl (hb hby d14_4) rfl ?_
    show Steps p.tables e below (s₁.setTop (mkF m 5 #[.val (.int p1)] [(.int ((p1.toUInt32 >>> ((16 : Int32) &&& 31).toUInt32).toInt32)), (.int p1)])) _
    refine XS.ixor X0.here hx rfl (hb hby d14_5) rfl ?_
    show Steps p.tables e below (s₁.setTop (mkF m 6 #[.val (.int p1)] [(.int (p1 ^^^ ((p1.toUInt32 >>> ((16 : Int32) &&& 31).toUInt32).toInt32)))])) _
    refine XS.istoreN X0.here hx rfl (hb hby d14_6) rfl (l' := #[.val (.int (p1 ^^^ ((p1.toUInt32 >>> ((16 : Int32) &&& 31).toUInt32).toInt32)))]) rfl ?_
    show Steps p.tables e below (s₁.setTop (mkF m 7 #[.val (.int (p1 ^^^ ((p1.toUInt32 >>> ((16 : Int32) &&& 31).toUInt32).toInt32)))] [])) _
    refine XS.iloadN X0.here hx rfl (hb hby d14_7) rfl ?_
    show Steps p.tables e below (s₁.setTop (mkF m 8 #[.val (.int (p1 ^^^ ((p1.toUInt32 >>> ((16 : Int32) &&& 31).toUInt32).toInt32)))] [(.int (p1 ^^^ ((p1.toUInt32 >>> ((16 : Int32) &&& 31).toUInt32).toInt32)))])) _
    refine X0.ldcInt hx hown (mvT hZ (hw _ (List.mem_of_getElem? (i := 80) rfl))) (g := (mkF m 8 #[.val (.int (p1 ^^^ ((p1.toUInt32 >>> ((16 : Int32) &&& 31).toUInt32).toInt32)))] [(.int (p1 ^^^ ((p1.toUInt32 >>> ((16 : Int32) &&& 31).toUInt32).toInt32)))])) rfl (hb hby d14_8) _ ?_
    show Steps p.tables e below (s₁.setTop (mkF m 10 #[.val (.int (p1 ^^^ ((p1.toUInt32 >>> ((16 : Int32) &&& 31).toUInt32).toInt32)))] [(.int (-2048144789 : Int32)), (.int (p1 ^^^ ((p1.toUInt32 >>> ((16 : Int32) &&& 31).toUInt32).toInt32)))])) _
    refine XS.imul X0.here hx rfl (hb hby d14_10) rfl ?_
    show Steps p.tables e below (s₁.setTop (mkF m 11 #[.val (.int (p1 ^^^ ((p1.toUInt32 >>> ((16 : Int32) &&& 31).toUInt32).toInt32)))] [(.int ((p1 ^^^ ((p1.toUInt32 >>> ((16 : Int32) &&& 31).toUInt32).toInt32)) * (-2048144789 : Int32)))])) _
    refine XS.istoreN X0.here hx rfl (hb hby d14_11) rfl (l' := #[.val (.int ((p1 ^^^ ((p1.toUInt32 >>> ((16 : Int32) &&& 31).toUInt32).toInt32)) * (-2048144789 : Int32)))]) rfl ?_
    show Steps p.tables e below (s₁.setTop (mkF m 12 #[.val (.int ((p1 ^^^ ((p1.toUInt32 >>> ((16 : Int32) &&& 31).toUInt32).toInt32)) * (-2048144789 : Int32)))] [])) _
    refine XS.iloadN X0.here hx rfl (hb hby d14_12) rfl ?_
    show Steps p.tables e below (s₁.setTop (mkF m 13 #[.val (.int ((p1 ^^^ ((p1.toUInt32 >>> ((16 : Int32) &&& 31).toUInt32).toInt32)) * (-2048144789 : Int32)))] [(.int ((p1 ^^^ ((p1.toUInt32 >>> ((16 : Int32) &&& 31).toUInt32).toInt32)) * (-2048144789 : Int32)))])) _
    refine XS.iloadN X0.here hx rfl (hb hby d14_13) rfl ?_
    show Steps p.tables e below (s₁.setTop (mkF m 14 #[.val (.int ((p1 ^^^ ((p1.toUInt32 >>> ((16 : Int32) &&& 31).toUInt32).toInt32)) * (-2048144789 : Int32)))] [(.int ((p1 ^^^ ((p1.toUInt32 >>> ((16 : Int32) &&& 31).toUInt32).toInt32)) * (-2048144789 : Int32))), (.int ((p1 ^^^ ((p1.toUInt32 >>> ((16 : Int32) &&& 31).toUInt32).toInt32)) * (-2048144789 : Int32)))])) _
    refine XS.bipush X0.here hx rfl (hb hby d14_14) ?_
    show Steps p.tables e below (s₁.setTop (mkF m 16 #[.val (.int ((p1 ^^^ ((p1.toUInt32 >>> ((16 : Int32) &&& 31).toUInt32).toInt32)) * (-2048144789 : Int32)))] [(.int (13 : Int32)), (.int ((p1 ^^^ ((p1.toUInt32 >>> ((16 : Int32) &&& 31).toUInt32).toInt32)) * (-2048144789 : Int32))), (.int ((p1 ^^^ ((p1.toUInt32 >>> ((16 : Int32) &&& 31).toUInt32).toInt32)) * (-2048144789 : Int32)))])) _
    refine XS.iushr X0.here hx rfl (hb hby d14_16) rfl ?_
    show Steps p.tables e below (s₁.setTop (mkF m 17 #[.val (.int ((p1 ^^^ ((p1.toUInt32 >>> ((16 : Int32) &&& 31).toUInt32).toInt32)) * (-2048144789 : Int32)))] [(.int ((((p1 ^^^ ((p1.toUInt32 >>> ((16 : Int32) &&& 31).toUInt32).toInt32)) * (-2048144789 : Int32)).toUInt32 >>> ((13 : Int32) &&& 31).toUInt32).toInt32)), (.int ((p1 ^^^ ((p1.toUInt32 >>> ((16 : Int32) &&& 31).toUInt32).toInt32)) * (-2048144789 : Int32)))])) _
    refine XS.ixor X0.here hx rfl (hb hby d14_17) rfl ?_
    show Steps p.tables e below (s₁.setTop (mkF m 18 #[.val (.int ((p1 ^^^ ((p1.toUInt32 >>> ((16 : Int32) &&& 31).toUInt32).toInt32)) * (-2048144789 : Int32)))] [(.int (((p1 ^^^ ((p1.toUInt32 >>> ((16 : Int32) &&& 31).toUInt32).toInt32)) * (-2048144789 : Int32)) ^^^ ((((p1 ^^^ ((p1.toUInt32 >>> ((16 : Int32) &&& 31).toUInt32).toInt32)) * (-2048144789 : Int32)).toUInt32 >>> ((13 : Int32) &&& 31).toUInt32).toInt32)))])) _
    refine XS.istoreN X0.here hx rfl (hb hby d14_18) rfl (l' := #[.val (.int (((p1 ^^^ ((p1.toUInt32 >>> ((16 : Int32) &&& 31).toUInt32).toInt32)) * (-2048144789 : Int32)) ^^^ ((((p1 ^^^ ((p1.toUInt32 >>> ((16 : Int32) &&& 31).toUInt32).toInt32)) * (-2048144789 : Int32)).toUInt32 >>> ((13 : Int32) &&& 31).toUInt32).toInt32)))]) rfl ?_
    show Steps p.tables e below (s₁.setTop (mkF m 19 #[.val (.int (((p1 ^^^ ((p1.toUInt32 >>> ((16 : Int32) &&& 31).toUInt32).toInt32)) * (-2048144789 : Int32)) ^^^ ((((p1 ^^^ ((p1.toUInt32 >>> ((16 : Int32) &&& 31).toUInt32).toInt32)) * (-2048144789 : Int32)).toUInt32 >>> ((13 : Int32) &&& 31).toUInt32).toInt32)))] [])) _
    refine XS.iloadN X0.here hx rfl (hb hby d14_19) rfl ?_
    show Steps p.tables e below (s₁.setTop (mkF m 20 #[.val (.int (((p1 ^^^ ((p1.toUInt32 >>> ((16 : Int32) &&& 31).toUInt32).toInt32)) * (-2048144789 : Int32)) ^^^ ((((p1 ^^^ ((p1.toUInt32 >>> ((16 : Int32) &&& 31).toUInt32).toInt32)) * (-2048144789 : Int32)).toUInt32 >>> ((13 : Int32) &&& 31).toUInt32).toInt32)))] [(.int (((p1 ^^^ ((p1.toUInt32 >>> ((16 : Int32) &&& 31).toUInt32).toInt32)) * (-2048144789 : Int32)) ^^^ ((((p1 ^^^ ((p1.toUInt32 >>> ((16 : Int32) &&& 31).toUInt32).toInt32)) * (-2048144789 : Int32)).toUInt32 >>> ((13 : Int32) &&& 31).toUInt32).toInt32)))])) _
    refine X0.ldcInt hx hown (mvT hZ (hw _ (List.mem_of_getElem? (i := 81) rfl))) (g := (mkF m 20 #[.val (.int (((p1 ^^^ ((p1.toUInt32 >>> ((16 : Int32) &&& 31).toUInt32).toInt32)) * (-2048144789 : Int32)) ^^^ ((((p1 ^^^ ((p1.toUInt32 >>> ((16 : Int32) &&& 31).toUInt32).toInt32)) * (-2048144789 : Int32)).toUInt32 >>> ((13 : Int32) &&& 31).toUInt32).toInt32)))] [(.int (((p1 ^^^ ((p1.toUInt32 >>> ((16 : Int32) &&& 31).toUInt32).toInt32)) * (-2048144789 : Int32)) ^^^ ((((p1 ^^^ ((p1.toUInt32 >>> ((16 : Int32) &&& 31).toUInt32).toInt32)) * (-2048144789 : Int32)).toUInt32 >>> ((13 : Int32) &&& 31).toUInt32).toInt32)))])) rfl (hb hby d14_20) _ ?_
    show Steps p.tables e below (s₁.setTop (mkF m 22 #[.val (.int (((p1 ^^^ ((p1.toUInt32 >>> ((16 : Int32) &&& 31).toUInt32).toInt32)) * (-2048144789 : Int32)) ^^^ ((((p1 ^^^ ((p1.toUInt32 >>> ((16 : Int32) &&& 31).toUInt32).toInt32)) * (-2048144789 : Int32)).toUInt32 >>> ((13 : Int32) &&& 31).toUInt32).toInt32)))] [(.int (-1028477387 : Int32)), (.int (((p1 ^^^ ((p1.toUInt32 >>> ((16 : Int32) &&& 31).toUInt32).toInt32)) * (-2048144789 : Int32)) ^^^ ((((p1 ^^^ ((p1.toUInt32 >>> ((16 : Int32) &&& 31).toUInt32).toInt32)) * (-2048144789 : Int32)).toUInt32 >>> ((13 : Int32) &&& 31).toUInt32).toInt32)))])) _
    refine XS.imul X0.here hx rfl (hb hby d14_22) rfl ?_
    show Steps p.tables e below (s₁.setTop (mkF m 23 #[.val (.int (((p1 ^^^ ((p1.toUInt32 >>> ((16 : Int32) &&& 31).toUInt32).toInt32)) * (-2048144789 : Int32)) ^^^ ((((p1 ^^^ ((p1.toUInt32 >>> ((16 : Int32) &&& 31).toUInt32).toInt32)) * (-2048144789 : Int32)).toUInt32 >>> ((13 : Int32) &&& 31).toUInt32).toInt32)))] [(.int ((((p1 ^^^ ((p1.toUInt32 >>> ((16 : Int32) &&& 31).toUInt32).toInt32)) * (-2048144789 : Int32)) ^^^ ((((p1 ^^^ ((p1.toUInt32 >>> ((16 : Int32) &&& 31).toUInt32).toInt32)) * (-2048144789 : Int32)).toUInt32 >>> ((13 : Int32) &&& 31).toUInt32).toInt32)) * (-1028477387 : Int32)))])) _
    refine XS.istoreN X0.here hx rfl (hb hby d14_23) rfl (l' := #[.val (.int ((((p1 ^^^ ((p1.toUInt32 >>> ((16 : Int32) &&& 31).toUInt32).toInt32)) * (-2048144789 : Int32)) ^^^ ((((p1 ^^^ ((p1.toUInt32 >>> ((16 : Int32) &&& 31).toUInt32).toInt32)) * (-2048144789 : Int32)).toUInt32 >>> ((13 : Int32) &&& 31).toUInt32).toInt32)) * (-1028477387 : Int32)))]) rfl ?_
    show Steps p.tables e below (s₁.setTop (mkF m 24 #[.val (.int ((((p1 ^^^ ((p1.toUInt32 >>> ((16 : Int32) &&& 31).toUInt32).toInt32)) * (-2048144789 : Int32)) ^^^ ((((p1 ^^^ ((p1.toUInt32 >>> ((16 : Int32) &&& 31).toUInt32).toInt32)) * (-2048144789 : Int32)).toUInt32 >>> ((13 : Int32) &&& 31).toUInt32).toInt32)) * (-1028477387 : Int32)))] [])) _
    refine XS.iloadN X0.here hx rfl (hb hby d14_24) rfl ?_
    show Steps p.tables e below (s₁.setTop (mkF m 25 #[.val (.int ((((p1 ^^^ ((p1.toUInt32 >>> ((16 : Int32) &&& 31).toUInt32).toInt32)) * (-2048144789 : Int32)) ^^^ ((((p1 ^^^ ((p1.toUInt32 >>> ((16 : Int32) &&& 31).toUInt32).toInt32)) * (-2048144789 : Int32)).toUInt32 >>> ((13 : Int32) &&& 31).toUInt32).toInt32)) * (-1028477387 : Int32)))] [(.int ((((p1 ^^^ ((p1.toUInt32 >>> ((16 : Int32) &&& 31).toUInt32).toInt32)) * (-2048144789 : Int32)) ^^^ ((((p1 ^^^ ((p1.toUInt32 >>> ((16 : Int32) &&& 31).toUInt32).toInt32)) * (-2048144789 : Int32)).toUInt32 >>> ((13 : Int32) &&& 31).toUInt32).toInt32)) * (-1028477387 : Int32)))])) _
    refine XS.iloadN X0.here hx rfl (hb hby d14_25) rfl ?_
    show Steps p.tables e below (s₁.setTop (mkF m 26 #[.val (.int ((((p1 ^^^ ((p1.toUInt32 >>> ((16 : Int32) &&& 31).toUInt32).toInt32)) * (-2048144789 : Int32)) ^^^ ((((p1 ^^^ ((p1.toUInt32 >>> ((16 : Int32) &&& 31).toUInt32).toInt32)) * (-2048144789 : Int32)).toUInt32 >>> ((13 : Int32) &&& 31).toUInt32).toInt32)) * (-1028477387 : Int32)))] [(.int ((((p1 ^^^ ((p1.toUInt32 >>> ((16 : Int32) &&& 31).toUInt32).toInt32)) * (-2048144789 : Int32)) ^^^ ((((p1 ^^^ ((p1.toUInt32 >>> ((16 : Int32) &&& 31).toUInt32).toInt32)) * (-2048144789 : Int32)).toUInt32 >>> ((13 : Int32) &&& 31).toUInt32).toInt32)) * (-1028477387 : Int32))), (.int ((((p1 ^^^ ((p1.toUInt32 >>> ((16 : Int32) &&& 31).toUInt32).toInt32)) * (-2048144789 : Int32)) ^^^ ((((p1 ^^^ ((p1.toUInt32 >>> ((16 : Int32) &&& 31).toUInt32).toInt32)) * (-2048144789 : Int32)).toUInt32 >>> ((13 : Int32) &&& 31).toUInt32).toInt32)) * (-1028477387 : Int32)))])) _
    refine XS.bipush X0.here hx rfl (hb hby d14_26) ?_
    show Steps p.tables e below (s₁.setTop (mkF m 28 #[.val (.int ((((p1 ^^^ ((p1.toUInt32 >>> ((16 : Int32) &&& 31).toUInt32).toInt32)) * (-2048144789 : Int32)) ^^^ ((((p1 ^^^ ((p1.toUInt32 >>> ((16 : Int32) &&& 31).toUInt32).toInt32)) * (-2048144789 : Int32)).toUInt32 >>> ((13 : Int32) &&& 31).toUInt32).toInt32)) * (-1028477387 : Int32)))] [(.int (16 : Int32)), (.int ((((p1 ^^^ ((p1.toUInt32 >>> ((16 : Int32) &&& 31).toUInt32).toInt32)) * (-2048144789 : Int32)) ^^^ ((((p1 ^^^ ((p1.toUInt32 >>> ((16 : Int32) &&& 31).toUInt32).toInt32)) * (-2048144789 : Int32)).toUInt32 >>> ((13 : Int32) &&& 31).toUInt32).toInt32)) * (-1028477387 : Int32))), (.int ((((p1 ^^^ ((p1.toUInt32 >>> ((16 : Int32) &&& 31).toUInt32).toInt32)) * (-2048144789 : Int32)) ^^^ ((((p1 ^^^ ((p1.toUInt32 >>> ((16 : Int32) &&& 31).toUInt32).toInt32)) * (-2048144789 : Int32)).toUInt32 >>> ((13 : Int32) &&& 31).toUInt32).toInt32)) * (-1028477387 : Int32)))])) _
    refine XS.iushr X0.here hx rfl (hb hby d14_28) rfl ?_
    show Steps p.tables e below (s₁.setTop (mkF m 29 #[.val (.int ((((p1 ^^^ ((p1.toUInt32 >>> ((16 : Int32) &&& 31).toUInt32).toInt32)) * (-2048144789 : Int32)) ^^^ ((((p1 ^^^ ((p1.toUInt32 >>> ((16 : Int32) &&& 31).toUInt32).toInt32)) * (-2048144789 : Int32)).toUInt32 >>> ((13 : Int32) &&& 31).toUInt32).toInt32)) * (-1028477387 : Int32)))] [(.int ((((((p1 ^^^ ((p1.toUInt32 >>> ((16 : Int32) &&& 31).toUInt32).toInt32)) * (-2048144789 : Int32)) ^^^ ((((p1 ^^^ ((p1.toUInt32 >>> ((16 : Int32) &&& 31).toUInt32).toInt32)) * (-2048144789 : Int32)).toUInt32 >>> ((13 : Int32) &&& 31).toUInt32).toInt32)) * (-1028477387 : Int32)).toUInt32 >>> ((16 : Int32) &&& 31).toUInt32).toInt32)), (.int ((((p1 ^^^ ((p1.toUInt32 >>> ((16 : Int32) &&& 31).toUInt32).toInt32)) * (-2048144789 : Int32)) ^^^ ((((p1 ^^^ ((p1.toUInt32 >>> ((16 : Int32) &&& 31).toUInt32).toInt32)) * (-2048144789 : Int32)).toUInt32 >>> ((13 : Int32) &&& 31).toUInt32).toInt32)) * (-1028477387 : Int32)))])) _
    refine XS.ixor X0.here hx rfl (hb hby d14_29) rfl ?_
    show Steps p.tables e below (s₁.setTop (mkF m 30 #[.val (.int ((((p1 ^^^ ((p1.toUInt32 >>> ((16 : Int32) &&& 31).toUInt32).toInt32)) * (-2048144789 : Int32)) ^^^ ((((p1 ^^^ ((p1.toUInt32 >>> ((16 : Int32) &&& 31).toUInt32).toInt32)) * (-2048144789 : Int32)).toUInt32 >>> ((13 : Int32) &&& 31).toUInt32).toInt32)) * (-1028477387 : Int32)))] [(.int (((((p1 ^^^ ((p1.toUInt32 >>> ((16 : Int32) &&& 31).toUInt32).toInt32)) * (-2048144789 : Int32)) ^^^ ((((p1 ^^^ ((p1.toUInt32 >>> ((16 : Int32) &&& 31).toUInt32).toInt32)) * (-2048144789 : Int32)).toUInt32 >>> ((13 : Int32) &&& 31).toUInt32).toInt32)) * (-1028477387 : Int32)) ^^^ ((((((p1 ^^^ ((p1.toUInt32 >>> ((16 : Int32) &&& 31).toUInt32).toInt32)) * (-2048144789 : Int32)) ^^^ ((((p1 ^^^ ((p1.toUInt32 >>> ((16 : Int32) &&& 31).toUInt32).toInt32)) * (-2048144789 : Int32)).toUInt32 >>> ((13 : Int32) &&& 31).toUInt32).toInt32)) * (-1028477387 : Int32)).toUInt32 >>> ((16 : Int32) &&& 31).toUInt32).toInt32)))])) _
    exact retI X0 hx Bd.returns (hb hby d14_30) hr
  · show QP (some (.int (own_sp p1))) h0 n0 _ s₁.heap _
    rw [e0]
    exact ⟨rfl, N0, rfl⟩
def Q15 (Z : State) (a1 : Addr) (h0 : Heap) (n0 : Nat) (v : Option Value) (h : Heap) (L : List Loc) : Prop := v = none ∧ Fr n0 L ∧ Keep h0 h [a1] ∧ Exa Z h a1 "com/example/fixpoint/fixpoint/expr/Symbol" ∧ ∀ (O n d : String) (w : Value), Fld Z h0 a1 O n d w → RoadKit.slotOf Z O n d ≠ RoadKit.slotOf Z "com/example/fixpoint/fixpoint/expr/Expr" "hash" "I" → Fld Z h a1 O n d w
theorem d15_0 : decode prog_118_method_1_code 0 = .ok (.aload_n 0, 1) := by decide +kernel
theorem d15_1 : decode prog_118_method_1_code 1 = .ok (.invokespecial 1, 3) := by decide +kernel
theorem d15_4 : decode prog_118_method_1_code 4 = .ok (.aload_n 0, 1) := by decide +kernel
theorem d15_5 : decode prog_118_method_1_code 5 = .ok (.iload_n 1, 1) := by decide +kernel
theorem d15_6 : decode prog_118_method_1_code 6 = .ok (.putfield 7, 3) := by decide +kernel
theorem d15_9 : decode prog_118_method_1_code 9 = .ok (.return_, 1) := by decide +kernel
theorem pn_15 : plainName "com/example/fixpoint/fixpoint/expr/Expr" = true := by first | (simp [plainName, overriddenIn]; done) | decide +kernel
theorem ef_15 (m : MethodId) (x0 : Addr) (x1 : Int32) : entryFrame m #[(.ref x0), (.int x1)] 2 = mkF m 0 #[.val (.ref x0), .val (.int x1)] [] := by first | (simp [entryFrame, mkF, argsToLocals, Value.category]; done) | rfl
set_option maxRecDepth 65536 in
set_option maxHeartbeats 40000000 in
theorem rm15 (l : Launch) (Z : State) (a0 : Array Value) (hw : ∀ d ∈ tables_1, d.before a0 Z = true) (ws : List Jvm.Cond) (a1 : Addr) (p2 : Int32) (u_hash_a1 : Value) (h0 : Heap) (n0 : Nat) (Z0 : n0 ≤ h0.size) (E_a1 : Exa Z h0 a1 "com/example/fixpoint/fixpoint/expr/Symbol") (F_hash_a1 : Fld Z h0 a1 "com/example/fixpoint/fixpoint/expr/Expr" "hash" "I" u_hash_a1) (g_a1 : n0 ≤ a1) :
    MetFree l (⟨"com/example/fixpoint/fixpoint/expr/Expr", "<init>", "(I)V"⟩ : MethodName) (head1 (Jvm.Cond.code (⟨"com/example/fixpoint/fixpoint/expr/Expr", "<init>", "(I)V"⟩ : MethodName) prog_118_method_1_code 2 none :: ws) ({ frames := 1, cells := 0, slots := 0, locals := 12 } : Room)) (fun a U => a = #[(.ref a1), (.int p2)] ∧ Z.Warmed39 U.vm ∧ U.heap = h0) (fun _ _ _ _ _ => True) (fun _ U o U' => ∃ v L, o = .returned v ∧ Q15 Z a1 h0 n0 v U'.heap L ∧ FrameEnd U o U' L ({ frames := 1, cells := 0, slots := 0, locals := 12 } : Room).cells ({ frames := 1, cells := 0, slots := 0, locals := 12 } : Room).slots) := by
  refine MetFree.of_bodySF (plainFor_of_name pn_15) hisR ?_
  intro p e s m args below meth c s₁ Bd hml0 hP hK
  obtain ⟨rfl, hZ, hh⟩ := hP
  have hx := Bd.exec
  have hby := Bd.bytes
  have hml : c.maxLocals = 2 := hml0
  have hown : s.vm.findClass "com/example/fixpoint/fixpoint/expr/Expr" = some m.cls := findClass_of_methodNamed Bd.named
  have hnm := (name_of_methodNamed Bd.named Bd.method).1
  have X0 : Stand p l e ({ frames := 1, cells := 0, slots := 0, locals := 12 } : Room) s m #[(.ref a1), (.int p2)] below meth c s₁ [] 0 0 := Stand.of_body Bd
  have e0 : s₁.heap = h0 := by rw [← hh, Bd.state]; rfl
  have N0 := Fr.nil n0
  have pre0 : ∀ t, Steps p.tables e below (s₁.setTop (mkF m 0 #[.val (.ref a1), .val (.int p2)] [])) t → Steps p.tables e below (s₁.setTop (entryFrame m #[(.ref a1), (.int p2)] 2)) t := fun t k => castTop (ef_15 m a1 p2) k
  obtain ⟨T3, X3, e3, st3⟩ := initO X0 hx hZ hown (hw _ (List.mem_of_getElem? (i := 86) rfl)) (hw _ (List.mem_of_getElem? (i := 14) rfl)) (hw _ (List.mem_of_getElem? (i := 15) rfl)) e0 (g := (mkF m 1 #[.val (.ref a1), .val (.int p2)] [(.ref a1)])) rfl (by rw [hml]; rfl) rfl (hb hby d15_1) (by decide) (W := 0) (by show 2 * 0 + _ ≤ _; exact Nat.le_of_eq rfl) (by decide)
  obtain ⟨T4, h4, X4, e4, W4, st4⟩ := putF X3 hx hZ hown (host := "") (Or.inl (hw _ (List.mem_of_getElem? (i := 87) rfl))) Via.refl e3 F_hash_a1 E_a1 (Or.inr ⟨(hw _ (List.mem_of_getElem? (i := 88) rfl)), rfl, hnm⟩) (hw _ (List.mem_of_getElem? (i := 42) rfl)) (ty := .int) (by decide) rfl rfl (g := (mkF m 6 #[.val (.ref a1), .val (.int p2)] [(.int p2), (.ref a1)])) rfl rfl (hb hby d15_6)
  have Fw4 := F_hash_a1.same W4
  have K4 : Keep h0 h4 [a1] := (Keep.refl h0 [a1]).wr W4 (Or.inl (List.mem_of_getElem? (i := 0) rfl))
  have N4 := Fr.snoc X4 N0 g_a1
  obtain ⟨fs, hr, hrun, hended, hW, hsame⟩ := X4.leave (v := none) (fun _ => rfl)
  refine ⟨_, _, pre0 _ ?_, hrun, hended, _, _, rfl, ?_, ⟨_, rfl⟩, hW, hsame.mono (by decide) (by decide)⟩
  · show Steps p.tables e below (s₁.setTop (mkF m 0 #[.val (.ref a1), .val (.int p2)] [])) _
    refine XS.aloadN X0.here hx rfl (hb hby d15_0) rfl rfl ?_
    show Steps p.tables e below (s₁.setTop (mkF m 1 #[.val (.ref a1), .val (.int p2)] [(.ref a1)])) _
    refine st3 _ ?_
    show Steps p.tables e below (T3.setTop (mkF m 4 #[.val (.ref a1), .val (.int p2)] [])) _
    refine XS.aloadN X3.here hx rfl (hb hby d15_4) rfl rfl ?_
    show Steps p.tables e below (T3.setTop (mkF m 5 #[.val (.ref a1), .val (.int p2)] [(.ref a1)])) _
    refine XS.iloadN X3.here hx rfl (hb hby d15_5) rfl ?_
    show Steps p.tables e below (T3.setTop (mkF m 6 #[.val (.ref a1), .val (.int p2)] [(.int p2), (.ref a1)])) _
    refine st4 _ ?_
    show Steps p.tables e below (T4.setTop (mkF m 9 #[.val (.ref a1), .val (.int p2)] [])) _
    exact X4.returnOut hx Bd.returns (hb hby d15_9) hr
  · show Q15 Z a1 h0 n0 _ T4.heap _
    rw [e4]
    exact ⟨rfl, N4, K4, E_a1.wr W4, fun O n d w F q => F.other W4 (Or.inr q)⟩
def Q8 (Z : State) (a1 a2 : Addr) (h0 : Heap) (n0 : Nat) (v : Option Value) (h : Heap) (L : List Loc) : Prop := v = none ∧ Fr n0 L ∧ Keep h0 h [a1, a2] ∧ Exa Z h a1 "com/example/fixpoint/fixpoint/expr/Symbol" ∧ Fld Z h a1 "com/example/fixpoint/fixpoint/expr/Symbol" "attachments" "Lcom/example/fixpoint/fixpoint/expr/Symbol$Attachment;" .null
theorem d8_0 : decode prog_142_method_1_code 0 = .ok (.aload_n 0, 1) := by decide +kernel
theorem d8_1 : decode prog_142_method_1_code 1 = .ok (.aload_n 1, 1) := by decide +kernel
theorem d8_2 : decode prog_142_method_1_code 2 = .ok (.invokevirtual 1, 3) := by decide +kernel
theorem d8_5 : decode prog_142_method_1_code 5 = .ok (.ldc 7, 2) := by decide +kernel
theorem d8_7 : decode prog_142_method_1_code 7 = .ok (.iadd, 1) := by decide +kernel
theorem d8_8 : decode prog_142_method_1_code 8 = .ok (.invokestatic 8, 3) := by decide +kernel
theorem d8_11 : decode prog_142_method_1_code 11 = .ok (.invokespecial 14, 3) := by decide +kernel
theorem d8_14 : decode prog_142_method_1_code 14 = .ok (.aload_n 0, 1) := by decide +kernel
theorem d8_15 : decode prog_142_method_1_code 15 = .ok (.aload_n 1, 1) := by decide +kernel
theorem d8_16 : decode prog_142_method_1_code 16 = .ok (.putfield 20, 3) := by decide +kernel
theorem d8_19 : decode prog_142_method_1_code 19 = .ok (.aload_n 0, 1) := by decide +kernel
theorem d8_20 : decode prog_142_method_1_code 20 = .ok (.iload_n 2, 1) := by decide +kernel
theorem d8_21 : decode prog_142_method_1_code 21 = .ok (.putfield 24, 3) := by decide +kernel
theorem d8_24 : decode prog_142_method_1_code 24 = .ok (.return_, 1) := by decide +kernel
theorem pn_8 : plainName "com/example/fixpoint/fixpoint/expr/Symbol" = true := by first | (simp [plainName, overriddenIn]; done) | decide +kernel
theorem pd_8_8 : parseMethodDescriptor "()I" = some ⟨[], some .int⟩ := by decide +kernel
theorem pd_8_13 : parseMethodDescriptor "(I)I" = some ⟨[.int], some .int⟩ := by decide +kernel
theorem pd_8_14 : parseMethodDescriptor "(I)V" = some ⟨[.int], none⟩ := by decide +kernel
theorem ef_8 (m : MethodId) (x0 : Addr) (x1 : Addr) (x2 : Int32) : entryFrame m #[(.ref x0), (.ref x1), (.int x2)] 3 = mkF m 0 #[.val (.ref x0), .val (.ref x1), .val (.int x2)] [] := by first | (simp [entryFrame, mkF, argsToLocals, Value.category]; done) | rfl
set_option maxRecDepth 65536 in
set_option maxHeartbeats 40000000 in
theorem rm8 (l : Launch) (Z : State) (a0 : Array Value) (hw : ∀ d ∈ tables_1, d.before a0 Z = true) (ws : List Jvm.Cond) (a1 : Addr) (a2 : Addr) (p3 : Int32) (r : Int32) (h0 : Heap) (n0 : Nat) (Z0 : n0 ≤ h0.size) (H9 : MetFree l (⟨"java/lang/String", "hashCode", "()I"⟩ : MethodName) (head1 [Jvm.Cond.code (⟨"java/lang/String", "hashCode", "()I"⟩ : MethodName) jdk_42_method_78_code 2 (some .int)] ({ frames := 3, cells := 0, slots := 0, locals := 45 } : Room)) (fun a U => a = #[(.ref a2)] ∧ Z.Warmed39 U.vm ∧ U.heap = h0) (fun _ _ _ _ _ => True) (fun _ U o U' => ∃ v L, o = .returned v ∧ QK (some (.int r)) [a2] h0 n0 v U'.heap L ∧ FrameEnd U o U' L ({ frames := 3, cells := 0, slots := 0, locals := 45 } : Room).cells ({ frames := 3, cells := 0, slots := 0, locals := 45 } : Room).slots)) (E_a2 : Exa Z h0 a2 "java/lang/String") (E_a1 : Exa Z h0 a1 "com/example/fixpoint/fixpoint/expr/Symbol") (ne12 : a1 ≠ a2) (F_name_a1 : Fld Z h0 a1 "com/example/fixpoint/fixpoint/expr/Symbol" "name" "Ljava/lang/String;" .null) (F_hash : Fld Z h0 a1 "com/example/fixpoint/fixpoint/expr/Expr" "hash" "I" (.int (0 : Int32))) (F_temp : Fld Z h0 a1 "com/example/fixpoint/fixpoint/expr/Symbol" "temporary" "Z" (.int (0 : Int32))) (F_att : Fld Z h0 a1 "com/example/fixpoint/fixpoint/expr/Symbol" "attachments" "Lcom/example/fixpoint/fixpoint/expr/Symbol$Attachment;" .null) (g_a1 : n0 ≤ a1) :
    MetFree l (⟨"com/example/fixpoint/fixpoint/expr/Symbol", "<init>", "(Ljava/lang/String;Z)V"⟩ : MethodName) (head1 (Jvm.Cond.code (⟨"com/example/fixpoint/fixpoint/expr/Symbol", "<init>", "(Ljava/lang/String;Z)V"⟩ : MethodName) prog_142_method_1_code 3 none :: ws) ({ frames := 4, cells := 0, slots := 0, locals := 59 } : Room)) (fun a U => a = #[(.ref a1), (.ref a2), (.int p3)] ∧ Z.Warmed39 U.vm ∧ U.heap = h0) (fun _ _ _ _ _ => True) (fun _ U o U' => ∃ v L, o = .returned v ∧ Q8 Z a1 a2 h0 n0 v U'.heap L ∧ FrameEnd U o U' L ({ frames := 4, cells := 0, slots := 0, locals := 59 } : Room).cells ({ frames := 4, cells := 0, slots := 0, locals := 59 } : Room).slots) := by
  refine MetFree.of_bodySF (plainFor_of_name pn_8) hisR ?_
  intro p e s m args below meth c s₁ Bd hml0 hP hK
  obtain ⟨rfl, hZ, hh⟩ := hP
  have hx := Bd.exec
  have hby := Bd.bytes
  have hml : c.maxLocals = 3 := hml0
  have hown : s.vm.findClass "com/example/fixpoint/fixpoint/expr/Symbol" = some m.cls := findClass_of_methodNamed Bd.named
  have hnm := (name_of_methodNamed Bd.named Bd.method).1
  have X0 : Stand p l e ({ frames := 4, cells := 0, slots := 0, locals := 59 } : Room) s m #[(.ref a1), (.ref a2), (.int p3)] below meth c s₁ [] 0 0 := Stand.of_body Bd
  have e0 : s₁.heap = h0 := by rw [← hh, Bd.state]; rfl
  have N0 := Fr.nil n0
  have pre0 : ∀ t, Steps p.tables e below (s₁.setTop (mkF m 0 #[.val (.ref a1), .val (.ref a2), .val (.int p3)] [])) t → Steps p.tables e below (s₁.setTop (entryFrame m #[(.ref a1), (.ref a2), (.int p3)] 3)) t := fun t k => castTop (ef_8 m a1 a2 p3) k
  obtain ⟨cq4, kq4, q4a, q4b, q4c⟩ := isOf hZ e0 E_a2
  obtain ⟨_, _, ⟨T4, L4, k4, n4⟩, -, X4, ⟨Lc4, hQ4, l4, y4, z4⟩, st4⟩ := X0.virtualBack hx (y := (⟨"java/lang/String", "hashCode", "()I"⟩ : MethodName)) (z := (⟨"java/lang/String", "hashCode", "()I"⟩ : MethodName)) hown (mvT hZ (hw _ (List.mem_of_getElem? (i := 47) rfl))) (mvT hZ (hw _ (List.mem_of_getElem? (i := 48) rfl))) (notFace_of_selects (args := #[]) (mvT hZ (hw _ (List.mem_of_getElem? (i := 50) rfl)))) (mvT hZ (hw _ (List.mem_of_getElem? (i := 50) rfl))) (mvT hZ (hw _ (List.mem_of_getElem? (i := 49) rfl))) (by decide) (backOf (W := 1) H9 hZ (hw _ (List.mem_of_getElem? (i := 51) rfl)) (hw _ (List.mem_of_getElem? (i := 5) rfl)) (by decide) (by decide)) q4a q4c (g := (mkF m 2 #[.val (.ref a1), .val (.ref a2), .val (.int p3)] [(.ref a2), (.ref a1)])) rfl (by rw [hml]; rfl) (Steps.refl _) (argsL := []) (rest := [(.ref a1)]) (lenOf pd_8_8 rfl) rfl (by show 2 * 0 + _ ≤ _; exact Nat.le_of_eq rfl) (hb hby d8_2) (fun _ _ => ⟨rfl, e0, (by decide : 0 + 0 ≤ _), (by decide : 0 + 0 ≤ _)⟩)
  dsimp only [Pt.U, Pt.locs, Pt.cells, Pt.slots] at X4 l4 y4 z4 st4 hQ4
  subst l4 y4 z4
  obtain ⟨rfl, N4q, K4⟩ := hQ4
  have Z4 : n0 ≤ T4.heap.size := Nat.le_trans Z0 K4.1
  have ni : a1 ∉ [a2] := fun q => ne12 (List.mem_singleton.mp q)
  have N4 := Fr.app N0 N4q
  obtain ⟨mk5, hnm5⟩ := Cond.code_named (mvT hZ (hw _ (List.mem_of_getElem? (i := 79) rfl)) (args := #[]))
  obtain ⟨me5, cM5, hme5, -, -, -, -, -, -, hsig5⟩ := Cond.code_spec hnm5 (mvT hZ (hw _ (List.mem_of_getElem? (i := 79) rfl)) (args := #[]))
  obtain ⟨_, _, ⟨T5, L5, k5, n5⟩, -, X5, ⟨Lc5, hQ5, l5, y5, z5⟩, st5⟩ := X4.staticBackUp hx (owner := "com/example/fixpoint/fixpoint/expr/Expr") (x := (⟨"com/example/fixpoint/fixpoint/expr/Symbol", "mix", "(I)I"⟩ : MethodName)) hown (mvT hZ (hw _ (List.mem_of_getElem? (i := 75) rfl))) (mvT hZ (hw _ (List.mem_of_getElem? (i := 76) rfl))) (mvT hZ (hw _ (List.mem_of_getElem? (i := 77) rfl))) (mvT hZ (hw _ (List.mem_of_getElem? (i := 78) rfl))) hnm5 hme5 hsig5 (by decide) (backOf (W := 1) (rm14 l Z a0 hw [] (r + (1640531527 : Int32)) T4.heap n0 Z4) hZ (hw _ (List.mem_of_getElem? (i := 79) rfl)) (hw _ (List.mem_of_getElem? (i := 78) rfl)) (by decide) (by decide)) (g := (mkF m 8 #[.val (.ref a1), .val (.ref a2), .val (.int p3)] [(.int (r + (1640531527 : Int32))), (.ref a1)])) rfl (by rw [hml]; rfl) (Steps.refl _) (argsL := [(.int (r + (1640531527 : Int32)))]) (rest := [(.ref a1)]) (lenOf pd_8_13 rfl) rfl (by show 2 * 0 + _ ≤ _; exact Nat.le_of_eq rfl) (hb hby d8_8) (fun _ _ => ⟨rfl, rfl, (by decide : 0 + 0 ≤ _), (by decide : 0 + 0 ≤ _)⟩)
  dsimp only [Pt.U, Pt.locs, Pt.cells, Pt.slots] at X5 l5 y5 z5 st5 hQ5
  subst l5 y5 z5
  obtain ⟨rfl, N5q, eh5⟩ := hQ5
  have N5 := Fr.app N4 N5q
  obtain ⟨_, _, ⟨T6, L6, k6, n6⟩, -, X6, ⟨Lc6, hQ6, l6, y6, z6⟩, st6⟩ := X5.specialBack hx (y := (⟨"com/example/fixpoint/fixpoint/expr/Expr", "<init>", "(I)V"⟩ : MethodName)) rfl hown (mvT hZ (hw _ (List.mem_of_getElem? (i := 82) rfl))) (mvT hZ (hw _ (List.mem_of_getElem? (i := 83) rfl))) (mvT hZ (hw _ (List.mem_of_getElem? (i := 85) rfl))) (by decide) (backOf (W := 0) (rm15 l Z a0 hw [] a1 (own_sp (r + (1640531527 : Int32))) (.int (0 : Int32)) T4.heap n0 Z4 (E_a1.keep K4) (F_hash.keep K4 ni) g_a1) hZ (hw _ (List.mem_of_getElem? (i := 85) rfl)) (hw _ (List.mem_of_getElem? (i := 78) rfl)) (by decide) (by decide)) (g := (mkF m 11 #[.val (.ref a1), .val (.ref a2), .val (.int p3)] [(.int (own_sp (r + (1640531527 : Int32)))), (.ref a1)])) rfl (by rw [hml]; rfl) (Steps.refl _) (a := a1) (argsL := [(.int (own_sp (r + (1640531527 : Int32))))]) (rest := []) (lenOf pd_8_14 rfl) rfl (by show 2 * 0 + _ ≤ _; exact Nat.le_of_eq rfl) (hb hby d8_11) (fun _ _ => ⟨rfl, eh5, (by decide : 0 + 0 ≤ _), (by decide : 0 + 0 ≤ _)⟩)
  dsimp only [Pt.U, Pt.locs, Pt.cells, Pt.slots] at X6 l6 y6 z6 st6 hQ6
  subst l6 y6 z6
  obtain ⟨rfl, N6q, K6, E6, R6⟩ := hQ6
  have F6n : Fld Z T6.heap a1 "com/example/fixpoint/fixpoint/expr/Symbol" "name" "Ljava/lang/String;" .null := R6 _ _ _ _ (F_name_a1.keep K4 ni) (slot_ne (Or.inr (hw _ (List.mem_of_getElem? (i := 90) rfl))) (Or.inr (hw _ (List.mem_of_getElem? (i := 88) rfl))) (by decide) (t := (.object "java/lang/String")) (t' := .int) (by decide) (by decide))
  have F6t : Fld Z T6.heap a1 "com/example/fixpoint/fixpoint/expr/Symbol" "temporary" "Z" (.int (0 : Int32)) := R6 _ _ _ _ (F_temp.keep K4 ni) (slot_ne (Or.inr (hw _ (List.mem_of_getElem? (i := 92) rfl))) (Or.inr (hw _ (List.mem_of_getElem? (i := 88) rfl))) (by decide) (t := .boolean) (t' := .int) (by decide) (by decide))
  have F6a : Fld Z T6.heap a1 "com/example/fixpoint/fixpoint/expr/Symbol" "attachments" "Lcom/example/fixpoint/fixpoint/expr/Symbol$Attachment;" .null := R6 _ _ _ _ (F_att.keep K4 ni) (slot_ne (Or.inl (hw _ (List.mem_of_getElem? (i := 103) rfl))) (Or.inr (hw _ (List.mem_of_getElem? (i := 88) rfl))) (by decide) (t := (.object "com/example/fixpoint/fixpoint/expr/Symbol$Attachment")) (t' := .int) (by decide) (by decide))
  have KA6 : Keep h0 T6.heap [a1, a2] := (own_keep_sub K4 (fun x q => List.mem_cons_of_mem _ q)).trans K6 (fun x q => Or.inl (by cases List.mem_singleton.mp q; exact List.mem_cons_self))
  have N6 := Fr.app N5 N6q
  obtain ⟨T7, h7, X7, e7, W7, st7⟩ := putF X6 hx hZ hown (host := "") (Or.inl (hw _ (List.mem_of_getElem? (i := 89) rfl))) Via.refl rfl F6n E6 (Or.inr ⟨(hw _ (List.mem_of_getElem? (i := 90) rfl)), rfl, hnm⟩) (hw _ (List.mem_of_getElem? (i := 42) rfl)) (ty := (.object "java/lang/String")) (by decide) rfl rfl (g := (mkF m 16 #[.val (.ref a1), .val (.ref a2), .val (.int p3)] [(.ref a2), (.ref a1)])) rfl rfl (hb hby d8_16)
  have F7a := F6a.other W7 (Or.inr (slot_ne (Or.inl (hw _ (List.mem_of_getElem? (i := 103) rfl))) (Or.inr (hw _ (List.mem_of_getElem? (i := 90) rfl))) (by decide) (t := (.object "com/example/fixpoint/fixpoint/expr/Symbol$Attachment")) (t' := (.object "java/lang/String")) (by decide) (by decide)))
  have K7 : Keep h0 h7 [a1, a2] := KA6.wr W7 (Or.inl List.mem_cons_self)
  have N7 := Fr.snoc X7 N6 g_a1
  obtain ⟨T8, h8, X8, e8, W8, st8⟩ := putFN X7 hx hZ hown (hw _ (List.mem_of_getElem? (i := 91) rfl)) Via.refl e7 (F6t.other W7 (Or.inr (slot_ne (Or.inr (hw _ (List.mem_of_getElem? (i := 92) rfl))) (Or.inr (hw _ (List.mem_of_getElem? (i := 90) rfl))) (by decide) (t := .boolean) (t' := (.object "java/lang/String")) (by decide) (by decide)))) (E6.wr W7) (Or.inr ⟨(hw _ (List.mem_of_getElem? (i := 92) rfl)), rfl, hnm⟩) (hw _ (List.mem_of_getElem? (i := 42) rfl)) (ty := .boolean) (v' := (.int (nar .boolean p3))) (by decide) rfl (fits_nar_bool _) (g := (mkF m 21 #[.val (.ref a1), .val (.ref a2), .val (.int p3)] [(.int p3), (.ref a1)])) rfl rfl (hb hby d8_21)
  have F8a := F7a.other W8 (Or.inr (slot_ne (Or.inl (hw _ (List.mem_of_getElem? (i := 103) rfl))) (Or.inr (hw _ (List.mem_of_getElem? (i := 92) rfl))) (by decide) (t := (.object "com/example/fixpoint/fixpoint/expr/Symbol$Attachment")) (t' := .boolean) (by decide) (by decide)))
  have K8 : Keep h0 h8 [a1, a2] := K7.wr W8 (Or.inl List.mem_cons_self)
  have N8 := Fr.snoc X8 N7 g_a1
  obtain ⟨fs, hr, hrun, hended, hW, hsame⟩ := X8.leave (v := none) (fun _ => rfl)
  refine ⟨_, _, pre0 _ ?_, hrun, hended, _, _, rfl, ?_, ⟨_, rfl⟩, hW, hsame.mono (by decide) (by decide)⟩
  · show Steps p.tables e below (s₁.setTop (mkF m 0 #[.val (.ref a1), .val (.ref a2), .val (.int p3)] [])) _
    refine XS.aloadN X0.here hx rfl (hb hby d8_0) rfl rfl ?_
    show Steps p.tables e below (s₁.setTop (mkF m 1 #[.val (.ref a1), .val (.ref a2), .val (.int p3)] [(.ref a1)])) _
    refine XS.aloadN X0.here hx rfl (hb hby d8_1) rfl rfl ?_
    show Steps p.tables e below (s₁.setTop (mkF m 2 #[.val (.ref a1), .val (.ref a2), .val (.int p3)] [(.ref a2), (.ref a1)])) _
    refine st4.trans ?_
    show Steps p.tables e below (T4.setTop (mkF m 5 #[.val (.ref a1), .val (.ref a2), .val (.int p3)] [(.int r), (.ref a1)])) _
    refine X4.ldcInt hx hown (mvT hZ (hw _ (List.mem_of_getElem? (i := 74) rfl))) (g := (mkF m 5 #[.val (.ref a1), .val (.ref a2), .val (.int p3)] [(.int r), (.ref a1)])) rfl (hb hby d8_5) _ ?_
    show Steps p.tables e below (T4.setTop (mkF m 7 #[.val (.ref a1), .val (.ref a2), .val (.int p3)] [(.int (1640531527 : Int32)), (.int r), (.ref a1)])) _
    refine XS.iadd X4.here hx rfl (hb hby d8_7) rfl ?_
    show Steps p.tables e below (T4.setTop (mkF m 8 #[.val (.ref a1), .val (.ref a2), .val (.int p3)] [(.int (r + (1640531527 : Int32))), (.ref a1)])) _
    refine st5.trans ?_
    show Steps p.tables e below (T5.setTop (mkF m 11 #[.val (.ref a1), .val (.ref a2), .val (.int p3)] [(.int (own_sp (r + (1640531527 : Int32)))), (.ref a1)])) _
    refine st6.trans ?_
    show Steps p.tables e below (T6.setTop (mkF m 14 #[.val (.ref a1), .val (.ref a2), .val (.int p3)] [])) _
    refine XS.aloadN X6.here hx rfl (hb hby d8_14) rfl rfl ?_
    show Steps p.tables e below (T6.setTop (mkF m 15 #[.val (.ref a1), .val (.ref a2), .val (.int p3)] [(.ref a1)])) _
    refine XS.aloadN X6.here hx rfl (hb hby d8_15) rfl rfl ?_
    show Steps p.tables e below (T6.setTop (mkF m 16 #[.val (.ref a1), .val (.ref a2), .val (.int p3)] [(.ref a2), (.ref a1)])) _
    refine st7 _ ?_
    show Steps p.tables e below (T7.setTop (mkF m 19 #[.val (.ref a1), .val (.ref a2), .val (.int p3)] [])) _
    refine XS.aloadN X7.here hx rfl (hb hby d8_19) rfl rfl ?_
    show Steps p.tables e below (T7.setTop (mkF m 20 #[.val (.ref a1), .val (.ref a2), .val (.int p3)] [(.ref a1)])) _
    refine XS.iloadN X7.here hx rfl (hb hby d8_20) rfl ?_
    show Steps p.tables e below (T7.setTop (mkF m 21 #[.val (.ref a1), .val (.ref a2), .val (.int p3)] [(.int p3), (.ref a1)])) _
    refine st8 _ ?_
    show Steps p.tables e below (T8.setTop (mkF m 24 #[.val (.ref a1), .val (.ref a2), .val (.int p3)] [])) _
    exact X8.returnOut hx Bd.returns (hb hby d8_24) hr
  · show Q8 Z a1 a2 h0 n0 _ T8.heap _
    rw [e8]
    exact ⟨rfl, N8, K8, (E6.wr W7).wr W8, F8a⟩
theorem d22_0 : decode jdk_18_method_1_code 0 = .ok (.aload_n 0, 1) := by decide +kernel
theorem d22_1 : decode jdk_18_method_1_code 1 = .ok (.invokespecial 1, 3) := by decide +kernel
theorem d22_4 : decode jdk_18_method_1_code 4 = .ok (.return_, 1) := by decide +kernel
theorem pn_22 : plainName "java/lang/Number" = true := by first | (simp [plainName, overriddenIn]; done) | decide +kernel
theorem ef_22 (m : MethodId) (x0 : Addr) : entryFrame m #[(.ref x0)] 1 = mkF m 0 #[.val (.ref x0)] [] := by first | (simp [entryFrame, mkF, argsToLocals, Value.category]; done) | rfl
set_option maxRecDepth 65536 in
set_option maxHeartbeats 40000000 in
theorem rm22 (l : Launch) (Z : State) (a0 : Array Value) (hw : ∀ d ∈ tables_1, d.before a0 Z = true) (ws : List Jvm.Cond) (a1 : Addr) (h0 : Heap) (n0 : Nat) (Z0 : n0 ≤ h0.size) :
    MetFree l (⟨"java/lang/Number", "<init>", "()V"⟩ : MethodName) (head1 (Jvm.Cond.code (⟨"java/lang/Number", "<init>", "()V"⟩ : MethodName) jdk_18_method_1_code 1 none :: ws) ({ frames := 1, cells := 0, slots := 0, locals := 12 } : Room)) (fun a U => a = #[(.ref a1)] ∧ Z.Warmed39 U.vm ∧ U.heap = h0) (fun _ _ _ _ _ => True) (fun _ U o U' => ∃ v L, o = .returned v ∧ QP none h0 n0 v U'.heap L ∧ FrameEnd U o U' L ({ frames := 1, cells := 0, slots := 0, locals := 12 } : Room).cells ({ frames := 1, cells := 0, slots := 0, locals := 12 } : Room).slots) := by
  refine MetFree.of_bodySF (plainFor_of_name pn_22) hisR ?_
  intro p e s m args below meth c s₁ Bd hml0 hP hK
  obtain ⟨rfl, hZ, hh⟩ := hP
  have hx := Bd.exec
  have hby := Bd.bytes
  have hml : c.maxLocals = 1 := hml0
  have hown : s.vm.findClass "java/lang/Number" = some m.cls := findClass_of_methodNamed Bd.named
  have hnm := (name_of_methodNamed Bd.named Bd.method).1
  have X0 : Stand p l e ({ frames := 1, cells := 0, slots := 0, locals := 12 } : Room) s m #[(.ref a1)] below meth c s₁ [] 0 0 := Stand.of_body Bd
  have e0 : s₁.heap = h0 := by rw [← hh, Bd.state]; rfl
  have N0 := Fr.nil n0
  have pre0 : ∀ t, Steps p.tables e below (s₁.setTop (mkF m 0 #[.val (.ref a1)] [])) t → Steps p.tables e below (s₁.setTop (entryFrame m #[(.ref a1)] 1)) t := fun t k => castTop (ef_22 m a1) k
  obtain ⟨T2, X2, e2, st2⟩ := initO X0 hx hZ hown (hw _ (List.mem_of_getElem? (i := 141) rfl)) (hw _ (List.mem_of_getElem? (i := 14) rfl)) (hw _ (List.mem_of_getElem? (i := 15) rfl)) e0 (g := (mkF m 1 #[.val (.ref a1)] [(.ref a1)])) rfl (by rw [hml]; rfl) rfl (hb hby d22_1) (by decide) (W := 0) (by show 2 * 0 + _ ≤ _; exact Nat.le_of_eq rfl) (by decide)
  obtain ⟨fs, hr, hrun, hended, hW, hsame⟩ := X2.leave (v := none) (fun _ => rfl)
  refine ⟨_, _, pre0 _ ?_, hrun, hended, _, _, rfl, ?_, ⟨_, rfl⟩, hW, hsame.mono (by decide) (by decide)⟩
  · show Steps p.tables e below (s₁.setTop (mkF m 0 #[.val (.ref a1)] [])) _
    refine XS.aloadN X0.here hx rfl (hb hby d22_0) rfl rfl ?_
    show Steps p.tables e below (s₁.setTop (mkF m 1 #[.val (.ref a1)] [(.ref a1)])) _
    refine st2 _ ?_
    show Steps p.tables e below (T2.setTop (mkF m 4 #[.val (.ref a1)] [])) _
    exact X2.returnOut hx Bd.returns (hb hby d22_4) hr
  · show QP none h0 n0 _ T2.heap _
    rw [e2]
    exact ⟨rfl, N0, rfl⟩
theorem d21_0 : decode jdk_33_method_23_code 0 = .ok (.aload_n 0, 1) := by decide +kernel
theorem d21_1 : decode jdk_33_method_23_code 1 = .ok (.invokespecial 202, 3) := by decide +kernel
theorem d21_4 : decode jdk_33_method_23_code 4 = .ok (.aload_n 0, 1) := by decide +kernel
theorem d21_5 : decode jdk_33_method_23_code 5 = .ok (.iload_n 1, 1) := by decide +kernel
theorem d21_6 : decode jdk_33_method_23_code 6 = .ok (.putfield 205, 3) := by decide +kernel
theorem d21_9 : decode jdk_33_method_23_code 9 = .ok (.return_, 1) := by decide +kernel
theorem pn_21 : plainName "java/lang/Integer" = true := by first | (simp [plainName, overriddenIn]; done) | decide +kernel
theorem pd_21_2 : parseMethodDescriptor "()V" = some ⟨[], none⟩ := by decide +kernel
theorem ef_21 (m : MethodId) (x0 : Addr) (x1 : Int32) : entryFrame m #[(.ref x0), (.int x1)] 2 = mkF m 0 #[.val (.ref x0), .val (.int x1)] [] := by first | (simp [entryFrame, mkF, argsToLocals, Value.category]; done) | rfl
set_option maxRecDepth 65536 in
set_option maxHeartbeats 40000000 in
theorem rm21 (l : Launch) (Z : State) (a0 : Array Value) (hw : ∀ d ∈ tables_1, d.before a0 Z = true) (ws : List Jvm.Cond) (a1 : Addr) (p2 : Int32) (u_value_a1 : Value) (h0 : Heap) (n0 : Nat) (Z0 : n0 ≤ h0.size) (CALL_3_22 : MetFree l (⟨"java/lang/Number", "<init>", "()V"⟩ : MethodName) (head1 [Jvm.Cond.code (⟨"java/lang/Number", "<init>", "()V"⟩ : MethodName) jdk_18_method_1_code 1 none] ({ frames := 1, cells := 0, slots := 0, locals := 12 } : Room)) (fun a U => a = #[(.ref a1)] ∧ Z.Warmed39 U.vm ∧ U.heap = h0) (fun _ _ _ _ _ => True) (fun _ U o U' => ∃ v L, o = .returned v ∧ QP none h0 n0 v U'.heap L ∧ FrameEnd U o U' L ({ frames := 1, cells := 0, slots := 0, locals := 12 } : Room).cells ({ frames := 1, cells := 0, slots := 0, locals := 12 } : Room).slots)) (E_a1 : Exa Z h0 a1 "java/lang/Integer") (F_value_a1 : Fld Z h0 a1 "java/lang/Integer" "value" "I" u_value_a1) (g_a1 : n0 ≤ a1) :
    MetFree l (⟨"java/lang/Integer", "<init>", "(I)V"⟩ : MethodName) (head1 (Jvm.Cond.code (⟨"java/lang/Integer", "<init>", "(I)V"⟩ : MethodName) jdk_33_method_23_code 2 none :: ws) ({ frames := 2, cells := 0, slots := 0, locals := 24 } : Room)) (fun a U => a = #[(.ref a1), (.int p2)] ∧ Z.Warmed39 U.vm ∧ U.heap = h0) (fun _ _ _ _ _ => True) (fun _ U o U' => ∃ v L, o = .returned v ∧ QI Z a1 h0 n0 v U'.heap L ∧ FrameEnd U o U' L ({ frames := 2, cells := 0, slots := 0, locals := 24 } : Room).cells ({ frames := 2, cells := 0, slots := 0, locals := 24 } : Room).slots) := by
  refine MetFree.of_bodySF (plainFor_of_name pn_21) hisR ?_
  intro p e s m args below meth c s₁ Bd hml0 hP hK
  obtain ⟨rfl, hZ, hh⟩ := hP
  have hx := Bd.exec
  have hby := Bd.bytes
  have hml : c.maxLocals = 2 := hml0
  have hown : s.vm.findClass "java/lang/Integer" = some m.cls := findClass_of_methodNamed Bd.named
  have hnm := (name_of_methodNamed Bd.named Bd.method).1
  have X0 : Stand p l e ({ frames := 2, cells := 0, slots := 0, locals := 24 } : Room) s m #[(.ref a1), (.int p2)] below meth c s₁ [] 0 0 := Stand.of_body Bd
  have e0 : s₁.heap = h0 := by rw [← hh, Bd.state]; rfl
  have N0 := Fr.nil n0
  have pre0 : ∀ t, Steps p.tables e below (s₁.setTop (mkF m 0 #[.val (.ref a1), .val (.int p2)] [])) t → Steps p.tables e below (s₁.setTop (entryFrame m #[(.ref a1), (.int p2)] 2)) t := fun t k => castTop (ef_21 m a1 p2) k
  obtain ⟨_, _, ⟨T3, L3, k3, n3⟩, -, X3, ⟨Lc3, hQ3, l3, y3, z3⟩, st3⟩ := X0.specialBack hx (y := (⟨"java/lang/Number", "<init>", "()V"⟩ : MethodName)) rfl hown (mvT hZ (hw _ (List.mem_of_getElem? (i := 135) rfl))) (mvT hZ (hw _ (List.mem_of_getElem? (i := 136) rfl))) (mvT hZ (hw _ (List.mem_of_getElem? (i := 140) rfl))) (by decide) (backOf (W := 0) CALL_3_22 hZ (hw _ (List.mem_of_getElem? (i := 140) rfl)) (hw _ (List.mem_of_getElem? (i := 139) rfl)) (by decide) (by decide)) (g := (mkF m 1 #[.val (.ref a1), .val (.int p2)] [(.ref a1)])) rfl (by rw [hml]; rfl) (Steps.refl _) (a := a1) (argsL := []) (rest := []) (lenOf pd_21_2 rfl) rfl (by show 2 * 0 + _ ≤ _; exact Nat.le_of_eq rfl) (hb hby d21_1) (fun _ _ => ⟨rfl, e0, (by decide : 0 + 0 ≤ _), (by decide : 0 + 0 ≤ _)⟩)
  dsimp only [Pt.U, Pt.locs, Pt.cells, Pt.slots] at X3 l3 y3 z3 st3 hQ3
  subst l3 y3 z3
  obtain ⟨rfl, N3q, eh3⟩ := hQ3
  have N3 := Fr.app N0 N3q
  obtain ⟨T4, h4, X4, e4, W4, st4⟩ := putF X3 hx hZ hown (host := "") (Or.inl (hw _ (List.mem_of_getElem? (i := 142) rfl))) Via.refl eh3 F_value_a1 E_a1 (Or.inr ⟨(hw _ (List.mem_of_getElem? (i := 143) rfl)), rfl, hnm⟩) (hw _ (List.mem_of_getElem? (i := 130) rfl)) (ty := .int) (by decide) rfl rfl (g := (mkF m 6 #[.val (.ref a1), .val (.int p2)] [(.int p2), (.ref a1)])) rfl rfl (hb hby d21_6)
  have Fw4 := F_value_a1.same W4
  have K4 : Keep h0 h4 [a1] := (Keep.refl h0 [a1]).wr W4 (Or.inl (List.mem_of_getElem? (i := 0) rfl))
  have N4 := Fr.snoc X4 N3 g_a1
  obtain ⟨fs, hr, hrun, hended, hW, hsame⟩ := X4.leave (v := none) (fun _ => rfl)
  refine ⟨_, _, pre0 _ ?_, hrun, hended, _, _, rfl, ?_, ⟨_, rfl⟩, hW, hsame.mono (by decide) (by decide)⟩
  · show Steps p.tables e below (s₁.setTop (mkF m 0 #[.val (.ref a1), .val (.int p2)] [])) _
    refine XS.aloadN X0.here hx rfl (hb hby d21_0) rfl rfl ?_
    show Steps p.tables e below (s₁.setTop (mkF m 1 #[.val (.ref a1), .val (.int p2)] [(.ref a1)])) _
    refine st3.trans ?_
    show Steps p.tables e below (T3.setTop (mkF m 4 #[.val (.ref a1), .val (.int p2)] [])) _
    refine XS.aloadN X3.here hx rfl (hb hby d21_4) rfl rfl ?_
    show Steps p.tables e below (T3.setTop (mkF m 5 #[.val (.ref a1), .val (.int p2)] [(.ref a1)])) _
    refine XS.iloadN X3.here hx rfl (hb hby d21_5) rfl ?_
    show Steps p.tables e below (T3.setTop (mkF m 6 #[.val (.ref a1), .val (.int p2)] [(.int p2), (.ref a1)])) _
    refine st4 _ ?_
    show Steps p.tables e below (T4.setTop (mkF m 9 #[.val (.ref a1), .val (.int p2)] [])) _
    exact X4.returnOut hx Bd.returns (hb hby d21_9) hr
  · show QI Z a1 h0 n0 _ T4.heap _
    rw [e4]
    exact ⟨rfl, N4, K4, E_a1.wr W4⟩
def Q7 (Z : State) (h0 : Heap) (n0 : Nat) (v : Option Value) (h : Heap) (L : List Loc) : Prop := ∃ r, v = some (.ref r) ∧ Fr n0 L ∧ Keep h0 h [] ∧ Exa Z h r "java/lang/Integer"
theorem d7_0 : decode jdk_33_method_22_code 0 = .ok (.iload_n 0, 1) := by decide +kernel
theorem d7_1 : decode jdk_33_method_22_code 1 = .ok (.bipush (-128), 2) := by decide +kernel
theorem d7_3 : decode jdk_33_method_22_code 3 = .ok (.if_icmp .lt 20, 3) := by decide +kernel
theorem d7_23 : decode jdk_33_method_22_code 23 = .ok (.new 1, 3) := by decide +kernel
theorem d7_26 : decode jdk_33_method_22_code 26 = .ok (.dup, 1) := by decide +kernel
theorem d7_27 : decode jdk_33_method_22_code 27 = .ok (.iload_n 0, 1) := by decide +kernel
theorem d7_28 : decode jdk_33_method_22_code 28 = .ok (.invokespecial 199, 3) := by decide +kernel
theorem d7_31 : decode jdk_33_method_22_code 31 = .ok (.areturn, 1) := by decide +kernel
theorem pn_7 : plainName "java/lang/Integer" = true := by first | (simp [plainName, overriddenIn]; done) | decide +kernel
theorem pd_7_14 : parseMethodDescriptor "(I)V" = some ⟨[.int], none⟩ := by decide +kernel
theorem ef_7 (m : MethodId) (x0 : Int32) : entryFrame m #[(.int x0)] 1 = mkF m 0 #[.val (.int x0)] [] := by first | (simp [entryFrame, mkF, argsToLocals, Value.category]; done) | rfl
set_option maxRecDepth 65536 in
set_option maxHeartbeats 40000000 in
theorem rm7_t (l : Launch) (Z : State) (a0 : Array Value) (hw : ∀ d ∈ tables_1, d.before a0 Z = true) (ws : List Jvm.Cond) (p1 : Int32) (h0 : Heap) (n0 : Nat) (Z0 : n0 ≤ h0.size) (hc3 : p1 < (-128 : Int32)) :
    MetFree l (⟨"java/lang/Integer", "valueOf", "(I)Ljava/lang/Integer;"⟩ : MethodName) (head1 (Jvm.Cond.code (⟨"java/lang/Integer", "valueOf", "(I)Ljava/lang/Integer;"⟩ : MethodName) jdk_33_method_22_code 1 (some (.object "java/lang/Integer")) :: ws) ({ frames := 3, cells := 1, slots := 1, locals := 38 } : Room)) (fun a U => a = #[(.int p1)] ∧ Z.Warmed39 U.vm ∧ U.heap = h0) (fun _ _ _ _ _ => True) (fun _ U o U' => ∃ v L, o = .returned v ∧ Q7 Z h0 n0 v U'.heap L ∧ FrameEnd U o U' L ({ frames := 3, cells := 1, slots := 1, locals := 38 } : Room).cells ({ frames := 3, cells := 1, slots := 1, locals := 38 } : Room).slots) := by
  refine MetFree.of_bodySF (plainFor_of_name pn_7) hisR ?_
  intro p e s m args below meth c s₁ Bd hml0 hP hK
  obtain ⟨rfl, hZ, hh⟩ := hP
  have hx := Bd.exec
  have hby := Bd.bytes
  have hml : c.maxLocals = 1 := hml0
  have hown : s.vm.findClass "java/lang/Integer" = some m.cls := findClass_of_methodNamed Bd.named
  have hnm := (name_of_methodNamed Bd.named Bd.method).1
  have X0 : Stand p l e ({ frames := 3, cells := 1, slots := 1, locals := 38 } : Room) s m #[(.int p1)] below meth c s₁ [] 0 0 := Stand.of_body Bd
  have e0 : s₁.heap = h0 := by rw [← hh, Bd.state]; rfl
  have N0 := Fr.nil n0
  have pre0 : ∀ t, Steps p.tables e below (s₁.setTop (mkF m 0 #[.val (.int p1)] [])) t → Steps p.tables e below (s₁.setTop (entryFrame m #[(.int p1)] 1)) t := fun t k => castTop (ef_7 m p1) k
  obtain ⟨T2, h2, X2, e2, E2, A2, D2, -, st2⟩ := newO X0 hx hZ hown (hw _ (List.mem_of_getElem? (i := 129) rfl)) (hw _ (List.mem_of_getElem? (i := 130) rfl)) (hw _ (List.mem_of_getElem? (i := 35) rfl)) e0 (g := (mkF m 23 #[.val (.int p1)] [])) rfl (hb hby d7_23) (by decide) (by decide)
  obtain ⟨b2, g2⟩ : ∃ z, z = h0.size := ⟨_, rfl⟩
  rw [← g2] at A2 D2 st2
  have F_value_b2 : Fld Z h2 b2 "java/lang/Integer" "value" "I" (.int (0 : Int32)) := D2 (Or.inr (hw _ (List.mem_of_getElem? (i := 143) rfl))) (ty := .int) (by decide)
  have E_b2 := A2
  have g_b2 : n0 ≤ b2 := Nat.le_trans Z0 (Nat.le_of_eq g2.symm)
  have sz_b2 : h0.size ≤ b2 := (Nat.le_trans (Keep.refl h0 []).1 (Nat.le_of_eq g2.symm))
  have K2 : Keep h0 h2 [] := (Keep.refl h0 []).ext E2
  obtain ⟨_, _, ⟨T3, L3, k3, n3⟩, -, X3, ⟨Lc3, hQ3, l3, y3, z3⟩, st3⟩ := X2.specialBack hx (y := (⟨"java/lang/Integer", "<init>", "(I)V"⟩ : MethodName)) rfl hown (mvT hZ (hw _ (List.mem_of_getElem? (i := 131) rfl))) (mvT hZ (hw _ (List.mem_of_getElem? (i := 132) rfl))) (mvT hZ (hw _ (List.mem_of_getElem? (i := 134) rfl))) (by decide) (backOf (W := 1) (rm21 l Z a0 hw [] b2 p1 (.int (0 : Int32)) h2 n0 (Nat.le_trans Z0 E2.1) (rm22 l Z a0 hw [] b2 h2 n0 (Nat.le_trans Z0 E2.1)) E_b2 F_value_b2 g_b2) hZ (hw _ (List.mem_of_getElem? (i := 134) rfl)) (hw _ (List.mem_of_getElem? (i := 35) rfl)) (by decide) (by decide)) (g := (mkF m 28 #[.val (.int p1)] [(.int p1), (.ref b2), (.ref b2)])) rfl (by rw [hml]; rfl) (Steps.refl _) (a := b2) (argsL := [(.int p1)]) (rest := [(.ref b2)]) (lenOf pd_7_14 rfl) rfl (by show 2 * 0 + _ ≤ _; exact Nat.le_of_eq rfl) (hb hby d7_28) (fun _ _ => ⟨rfl, e2, (by decide : 1 + 0 ≤ _), (by decide : 1 + 0 ≤ _)⟩)
  dsimp only [Pt.U, Pt.locs, Pt.cells, Pt.slots] at X3 l3 y3 z3 st3 hQ3
  subst l3 y3 z3
  obtain ⟨rfl, N3q, Ki, Ei⟩ := hQ3
  have N3 := Fr.app N0 N3q
  obtain ⟨fs, hr, hrun, hended, hW, hsame⟩ := X3.leave (v := some (.ref b2)) (fun h => by rw [Bd.returns] at h; cases h)
  refine ⟨_, _, pre0 _ ?_, hrun, hended, _, _, rfl, ?_, ⟨_, rfl⟩, hW, hsame.mono (by decide) (by decide)⟩
  · show Steps p.tables e below (s₁.setTop (mkF m 0 #[.val (.int p1)] [])) _
    refine XS.iloadN X0.here hx rfl (hb hby d7_0) rfl ?_
    show Steps p.tables e below (s₁.setTop (mkF m 1 #[.val (.int p1)] [(.int p1)])) _
    refine XS.bipush X0.here hx rfl (hb hby d7_1) ?_
    show Steps p.tables e below (s₁.setTop (mkF m 3 #[.val (.int p1)] [(.int (-128 : Int32)), (.int p1)])) _
    refine XS.icmpYes X0.here hx rfl (pc0 := 3) (pc' := 23) rfl (hb hby d7_3) rfl (tlt hc3).1 (by decide) (by decide) ?_
    show Steps p.tables e below (s₁.setTop (mkF m 23 #[.val (.int p1)] [])) _
    refine st2 _ ?_
    show Steps p.tables e below (T2.setTop (mkF m 26 #[.val (.int p1)] [(.ref b2)])) _
    refine XS.dup X2.here hx rfl (hb hby d7_26) rfl rfl ?_
    show Steps p.tables e below (T2.setTop (mkF m 27 #[.val (.int p1)] [(.ref b2), (.ref b2)])) _
    refine XS.iloadN X2.here hx rfl (hb hby d7_27) rfl ?_
    show Steps p.tables e below (T2.setTop (mkF m 28 #[.val (.int p1)] [(.int p1), (.ref b2), (.ref b2)])) _
    refine st3.trans ?_
    show Steps p.tables e below (T3.setTop (mkF m 31 #[.val (.int p1)] [(.ref b2)])) _
    jvm_step X3.here [X3.here.top, hx, (hb hby d7_31), X3.method', Bd.returns, Value.isRef, FieldType.isReference]
    first | (intro acts; rw [hr _ acts rfl rfl rfl]) | rw [hr _ _ rfl rfl rfl]
    exact Steps.refl _
  · show Q7 Z h0 n0 _ T3.heap _
    exact ⟨_, rfl, N3, K2.trans Ki (fun x q => Or.inr (by cases List.mem_singleton.mp q; exact sz_b2)), Ei⟩
theorem d7_6 : decode jdk_33_method_22_code 6 = .ok (.iload_n 0, 1) := by decide +kernel
theorem d7_7 : decode jdk_33_method_22_code 7 = .ok (.getstatic 191, 3) := by decide +kernel
theorem d7_10 : decode jdk_33_method_22_code 10 = .ok (.if_icmp .gt 13, 3) := by decide +kernel
set_option maxRecDepth 65536 in
set_option maxHeartbeats 40000000 in
theorem rm7_ft (l : Launch) (Z : State) (a0 : Array Value) (hw : ∀ d ∈ tables_1, d.before a0 Z = true) (ws : List Jvm.Cond) (p1 : Int32) (w2 : Int32) (h0 : Heap) (n0 : Nat) (Z0 : n0 ≤ h0.size) (S_high : Sta Z h0 "java/lang/Integer$IntegerCache" "high" "I" (.int w2)) (hc3 : ¬ (p1 < (-128 : Int32))) (hc10 : w2 < p1) :
    MetFree l (⟨"java/lang/Integer", "valueOf", "(I)Ljava/lang/Integer;"⟩ : MethodName) (head1 (Jvm.Cond.code (⟨"java/lang/Integer", "valueOf", "(I)Ljava/lang/Integer;"⟩ : MethodName) jdk_33_method_22_code 1 (some (.object "java/lang/Integer")) :: ws) ({ frames := 3, cells := 1, slots := 1, locals := 38 } : Room)) (fun a U => a = #[(.int p1)] ∧ Z.Warmed39 U.vm ∧ U.heap = h0) (fun _ _ _ _ _ => True) (fun _ U o U' => ∃ v L, o = .returned v ∧ Q7 Z h0 n0 v U'.heap L ∧ FrameEnd U o U' L ({ frames := 3, cells := 1, slots := 1, locals := 38 } : Room).cells ({ frames := 3, cells := 1, slots := 1, locals := 38 } : Room).slots) := by
  refine MetFree.of_bodySF (plainFor_of_name pn_7) hisR ?_
  intro p e s m args below meth c s₁ Bd hml0 hP hK
  obtain ⟨rfl, hZ, hh⟩ := hP
  have hx := Bd.exec
  have hby := Bd.bytes
  have hml : c.maxLocals = 1 := hml0
  have hown : s.vm.findClass "java/lang/Integer" = some m.cls := findClass_of_methodNamed Bd.named
  have hnm := (name_of_methodNamed Bd.named Bd.method).1
  have X0 : Stand p l e ({ frames := 3, cells := 1, slots := 1, locals := 38 } : Room) s m #[(.int p1)] below meth c s₁ [] 0 0 := Stand.of_body Bd
  have e0 : s₁.heap = h0 := by rw [← hh, Bd.state]; rfl
  have N0 := Fr.nil n0
  have pre0 : ∀ t, Steps p.tables e below (s₁.setTop (mkF m 0 #[.val (.int p1)] [])) t → Steps p.tables e below (s₁.setTop (entryFrame m #[(.int p1)] 1)) t := fun t k => castTop (ef_7 m p1) k
  obtain ⟨T3, X3, e3, st3⟩ := getS2 X0 hx hZ hown (host := "") (Or.inl (hw _ (List.mem_of_getElem? (i := 37) rfl))) Via.refl e0 S_high (g := (mkF m 7 #[.val (.int p1)] [(.int p1)])) rfl (hb hby d7_7)
  obtain ⟨T4, h4, X4, e4, E4, A4, D4, -, st4⟩ := newO X3 hx hZ hown (hw _ (List.mem_of_getElem? (i := 129) rfl)) (hw _ (List.mem_of_getElem? (i := 130) rfl)) (hw _ (List.mem_of_getElem? (i := 35) rfl)) e3 (g := (mkF m 23 #[.val (.int p1)] [])) rfl (hb hby d7_23) (by decide) (by decide)
  obtain ⟨b4, g4⟩ : ∃ z, z = h0.size := ⟨_, rfl⟩
  rw [← g4] at A4 D4 st4
  have F_value_b4 : Fld Z h4 b4 "java/lang/Integer" "value" "I" (.int (0 : Int32)) := D4 (Or.inr (hw _ (List.mem_of_getElem? (i := 143) rfl))) (ty := .int) (by decide)
  have E_b4 := A4
  have g_b4 : n0 ≤ b4 := Nat.le_trans Z0 (Nat.le_of_eq g4.symm)
  have sz_b4 : h0.size ≤ b4 := (Nat.le_trans (Keep.refl h0 []).1 (Nat.le_of_eq g4.symm))
  have K4 : Keep h0 h4 [] := (Keep.refl h0 []).ext E4
  obtain ⟨_, _, ⟨T5, L5, k5, n5⟩, -, X5, ⟨Lc5, hQ5, l5, y5, z5⟩, st5⟩ := X4.specialBack hx (y := (⟨"java/lang/Integer", "<init>", "(I)V"⟩ : MethodName)) rfl hown (mvT hZ (hw _ (List.mem_of_getElem? (i := 131) rfl))) (mvT hZ (hw _ (List.mem_of_getElem? (i := 132) rfl))) (mvT hZ (hw _ (List.mem_of_getElem? (i := 134) rfl))) (by decide) (backOf (W := 1) (rm21 l Z a0 hw [] b4 p1 (.int (0 : Int32)) h4 n0 (Nat.le_trans Z0 E4.1) (rm22 l Z a0 hw [] b4 h4 n0 (Nat.le_trans Z0 E4.1)) E_b4 F_value_b4 g_b4) hZ (hw _ (List.mem_of_getElem? (i := 134) rfl)) (hw _ (List.mem_of_getElem? (i := 35) rfl)) (by decide) (by decide)) (g := (mkF m 28 #[.val (.int p1)] [(.int p1), (.ref b4), (.ref b4)])) rfl (by rw [hml]; rfl) (Steps.refl _) (a := b4) (argsL := [(.int p1)]) (rest := [(.ref b4)]) (lenOf pd_7_14 rfl) rfl (by show 2 * 0 + _ ≤ _; exact Nat.le_of_eq rfl) (hb hby d7_28) (fun _ _ => ⟨rfl, e4, (by decide : 1 + 0 ≤ _), (by decide : 1 + 0 ≤ _)⟩)
  dsimp only [Pt.U, Pt.locs, Pt.cells, Pt.slots] at X5 l5 y5 z5 st5 hQ5
  subst l5 y5 z5
  obtain ⟨rfl, N5q, Ki, Ei⟩ := hQ5
  have N5 := Fr.app N0 N5q
  obtain ⟨fs, hr, hrun, hended, hW, hsame⟩ := X5.leave (v := some (.ref b4)) (fun h => by rw [Bd.returns] at h; cases h)
  refine ⟨_, _, pre0 _ ?_, hrun, hended, _, _, rfl, ?_, ⟨_, rfl⟩, hW, hsame.mono (by decide) (by decide)⟩
  · show Steps p.tables e below (s₁.setTop (mkF m 0 #[.val (.int p1)] [])) _
    refine XS.iloadN X0.here hx rfl (hb hby d7_0) rfl ?_
    show Steps p.tables e below (s₁.setTop (mkF m 1 #[.val (.int p1)] [(.int p1)])) _
    refine XS.bipush X0.here hx rfl (hb hby d7_1) ?_
    show Steps p.tables e below (s₁.setTop (mkF m 3 #[.val (.int p1)] [(.int (-128 : Int32)), (.int p1)])) _
    refine XS.icmpNo X0.here hx rfl (hb hby d7_3) rfl (flt hc3).1 ?_
    show Steps p.tables e below (s₁.setTop (mkF m 6 #[.val (.int p1)] [])) _
    refine XS.iloadN X0.here hx rfl (hb hby d7_6) rfl ?_
    show Steps p.tables e below (s₁.setTop (mkF m 7 #[.val (.int p1)] [(.int p1)])) _
    refine st3 _ ?_
    show Steps p.tables e below (T3.setTop (mkF m 10 #[.val (.int p1)] [(.int w2), (.int p1)])) _
    refine XS.icmpYes X3.here hx rfl (pc0 := 10) (pc' := 23) rfl (hb hby d7_10) rfl (tlt hc10).2.2.1 (by decide) (by decide) ?_
    show Steps p.tables e below (T3.setTop (mkF m 23 #[.val (.int p1)] [])) _
    refine st4 _ ?_
    show Steps p.tables e below (T4.setTop (mkF m 26 #[.val (.int p1)] [(.ref b4)])) _
    refine XS.dup X4.here hx rfl (hb hby d7_26) rfl rfl ?_
    show Steps p.tables e below (T4.setTop (mkF m 27 #[.val (.int p1)] [(.ref b4), (.ref b4)])) _
    refine XS.iloadN X4.here hx rfl (hb hby d7_27) rfl ?_
    show Steps p.tables e below (T4.setTop (mkF m 28 #[.val (.int p1)] [(.int p1), (.ref b4), (.ref b4)])) _
    refine st5.trans ?_
    show Steps p.tables e below (T5.setTop (mkF m 31 #[.val (.int p1)] [(.ref b4)])) _
    jvm_step X5.here [X5.here.top, hx, (hb hby d7_31), X5.method', Bd.returns, Value.isRef, FieldType.isReference]
    first | (intro acts; rw [hr _ acts rfl rfl rfl]) | rw [hr _ _ rfl rfl rfl]
    exact Steps.refl _
  · show Q7 Z h0 n0 _ T5.heap _
    exact ⟨_, rfl, N5, K4.trans Ki (fun x q => Or.inr (by cases List.mem_singleton.mp q; exact sz_b4)), Ei⟩
theorem d7_13 : decode jdk_33_method_22_code 13 = .ok (.getstatic 195, 3) := by decide +kernel
theorem d7_16 : decode jdk_33_method_22_code 16 = .ok (.iload_n 0, 1) := by decide +kernel
theorem d7_17 : decode jdk_33_method_22_code 17 = .ok (.sipush 128, 3) := by decide +kernel
theorem d7_20 : decode jdk_33_method_22_code 20 = .ok (.iadd, 1) := by decide +kernel
theorem d7_21 : decode jdk_33_method_22_code 21 = .ok (.aaload, 1) := by decide +kernel
theorem d7_22 : decode jdk_33_method_22_code 22 = .ok (.areturn, 1) := by decide +kernel
set_option maxRecDepth 65536 in
set_option maxHeartbeats 40000000 in
theorem rm7_ff (l : Launch) (Z : State) (a0 : Array Value) (hw : ∀ d ∈ tables_1, d.before a0 Z = true) (ws : List Jvm.Cond) (p1 : Int32) (w2 : Int32) (w4 : Addr) (w6 : Addr) (cl_w4 : Cell) (h0 : Heap) (n0 : Nat) (Z0 : n0 ≤ h0.size) (S_high : Sta Z h0 "java/lang/Integer$IntegerCache" "high" "I" (.int w2)) (S_cache : Sta Z h0 "java/lang/Integer$IntegerCache" "cache" "[Ljava/lang/Integer;" (.ref w4)) (Ar_w4 : Arr Z h0 w4 cl_w4 (.object "java/lang/Integer")) (hin21 : ¬ ((p1 + (128 : Int32)) < 0 ∨ cl_w4.slots.size ≤ ((p1 + (128 : Int32))).toNatClampNeg)) (hat21 : cl_w4.slots[((p1 + (128 : Int32))).toNatClampNeg]? = some (.ref w6)) (EI : Exa Z h0 w6 "java/lang/Integer") (hc3 : ¬ (p1 < (-128 : Int32))) (hc10 : ¬ (w2 < p1)) :
    MetFree l (⟨"java/lang/Integer", "valueOf", "(I)Ljava/lang/Integer;"⟩ : MethodName) (head1 (Jvm.Cond.code (⟨"java/lang/Integer", "valueOf", "(I)Ljava/lang/Integer;"⟩ : MethodName) jdk_33_method_22_code 1 (some (.object "java/lang/Integer")) :: ws) ({ frames := 3, cells := 1, slots := 1, locals := 38 } : Room)) (fun a U => a = #[(.int p1)] ∧ Z.Warmed39 U.vm ∧ U.heap = h0) (fun _ _ _ _ _ => True) (fun _ U o U' => ∃ v L, o = .returned v ∧ Q7 Z h0 n0 v U'.heap L ∧ FrameEnd U o U' L ({ frames := 3, cells := 1, slots := 1, locals := 38 } : Room).cells ({ frames := 3, cells := 1, slots := 1, locals := 38 } : Room).slots) := by
  refine MetFree.of_bodySF (plainFor_of_name pn_7) hisR ?_
  intro p e s m args below meth c s₁ Bd hml0 hP hK
  obtain ⟨rfl, hZ, hh⟩ := hP
  have hx := Bd.exec
  have hby := Bd.bytes
  have hml : c.maxLocals = 1 := hml0
  have hown : s.vm.findClass "java/lang/Integer" = some m.cls := findClass_of_methodNamed Bd.named
  have hnm := (name_of_methodNamed Bd.named Bd.method).1
  have X0 : Stand p l e ({ frames := 3, cells := 1, slots := 1, locals := 38 } : Room) s m #[(.int p1)] below meth c s₁ [] 0 0 := Stand.of_body Bd
  have e0 : s₁.heap = h0 := by rw [← hh, Bd.state]; rfl
  have N0 := Fr.nil n0
  have pre0 : ∀ t, Steps p.tables e below (s₁.setTop (mkF m 0 #[.val (.int p1)] [])) t → Steps p.tables e below (s₁.setTop (entryFrame m #[(.int p1)] 1)) t := fun t k => castTop (ef_7 m p1) k
  obtain ⟨T3, X3, e3, st3⟩ := getS2 X0 hx hZ hown (host := "") (Or.inl (hw _ (List.mem_of_getElem? (i := 37) rfl))) Via.refl e0 S_high (g := (mkF m 7 #[.val (.int p1)] [(.int p1)])) rfl (hb hby d7_7)
  obtain ⟨T5, X5, e5, st5⟩ := getS2 X3 hx hZ hown (host := "") (Or.inl (hw _ (List.mem_of_getElem? (i := 39) rfl))) Via.refl e3 S_cache (g := (mkF m 13 #[.val (.int p1)] [])) rfl (hb hby d7_13)
  obtain ⟨fs, hr, hrun, hended, hW, hsame⟩ := X5.leave (v := some (.ref w6)) (fun h => by rw [Bd.returns] at h; cases h)
  refine ⟨_, _, pre0 _ ?_, hrun, hended, _, _, rfl, ?_, ⟨_, rfl⟩, hW, hsame.mono (by decide) (by decide)⟩
  · show Steps p.tables e below (s₁.setTop (mkF m 0 #[.val (.int p1)] [])) _
    refine XS.iloadN X0.here hx rfl (hb hby d7_0) rfl ?_
    show Steps p.tables e below (s₁.setTop (mkF m 1 #[.val (.int p1)] [(.int p1)])) _
    refine XS.bipush X0.here hx rfl (hb hby d7_1) ?_
    show Steps p.tables e below (s₁.setTop (mkF m 3 #[.val (.int p1)] [(.int (-128 : Int32)), (.int p1)])) _
    refine XS.icmpNo X0.here hx rfl (hb hby d7_3) rfl (flt hc3).1 ?_
    show Steps p.tables e below (s₁.setTop (mkF m 6 #[.val (.int p1)] [])) _
    refine XS.iloadN X0.here hx rfl (hb hby d7_6) rfl ?_
    show Steps p.tables e below (s₁.setTop (mkF m 7 #[.val (.int p1)] [(.int p1)])) _
    refine st3 _ ?_
    show Steps p.tables e below (T3.setTop (mkF m 10 #[.val (.int p1)] [(.int w2), (.int p1)])) _
    refine XS.icmpNo X3.here hx rfl (hb hby d7_10) rfl (flt hc10).2.2.1 ?_
    show Steps p.tables e below (T3.setTop (mkF m 13 #[.val (.int p1)] [])) _
    refine st5 _ ?_
    show Steps p.tables e below (T5.setTop (mkF m 16 #[.val (.int p1)] [(.ref w4)])) _
    refine XS.iloadN X5.here hx rfl (hb hby d7_16) rfl ?_
    show Steps p.tables e below (T5.setTop (mkF m 17 #[.val (.int p1)] [(.int p1), (.ref w4)])) _
    refine XS.sipush X5.here hx rfl (hb hby d7_17) ?_
    show Steps p.tables e below (T5.setTop (mkF m 20 #[.val (.int p1)] [(.int (128 : Int32)), (.int p1), (.ref w4)])) _
    refine XS.iadd X5.here hx rfl (hb hby d7_20) rfl ?_
    show Steps p.tables e below (T5.setTop (mkF m 21 #[.val (.int p1)] [(.int (p1 + (128 : Int32))), (.ref w4)])) _
    refine X5.aaload hx (j := (p1 + (128 : Int32))) (v := (.ref w6)) (by rw [e5]; exact Ar_w4.1) (State.isArrayOf_alike hZ.alike Ar_w4.2.1) rfl Ar_w4.2.2 hin21 hat21 (g := (mkF m 21 #[.val (.int p1)] [(.int (p1 + (128 : Int32))), (.ref w4)])) rfl rfl (hb hby d7_21) _ ?_
    show Steps p.tables e below (T5.setTop (mkF m 22 #[.val (.int p1)] [(.ref w6)])) _
    jvm_step X5.here [X5.here.top, hx, (hb hby d7_22), X5.method', Bd.returns, Value.isRef, FieldType.isReference]
    first | (intro acts; rw [hr _ acts rfl rfl rfl]) | rw [hr _ _ rfl rfl rfl]
    exact Steps.refl _
  · show Q7 Z h0 n0 _ T5.heap _
    rw [e5]
    exact ⟨_, rfl, N0, Keep.refl _ _, EI⟩
theorem own_i256 {p : Int32} (h1 : ¬ p < (-128 : Int32)) (h2 : ¬ (127 : Int32) < p) : ¬ (p + (128 : Int32) < 0 ∨ (256 : Int32).toNatClampNeg ≤ (p + (128 : Int32)).toNatClampNeg) := by
  rw [Int32.lt_iff_toInt_lt] at h1 h2
  have a : (-128 : Int32).toInt = -128 := by decide
  have b : (127 : Int32).toInt = 127 := by decide
  have c : (128 : Int32).toInt = 128 := by decide
  have z : (0 : Int32).toInt = 0 := by decide
  have e : (p + (128 : Int32)).toInt = p.toInt + 128 := by rw [Jvm.Kit.i32_add (by omega) (by omega), c]
  intro q
  rcases q with q | q
  · rw [Int32.lt_iff_toInt_lt] at q; omega
  · have q' : 256 ≤ (p + (128 : Int32)).toInt.toNat := q
    omega
theorem own_vof (l : Launch) (Z : State) (a0 : Array Value) (hw : ∀ d ∈ tables_1, d.before a0 Z = true) (p1 : Int32) (cw : Addr) (cl : Cell) (val : Int32 → Value) (h0 : Heap) (n0 : Nat) (Z0 : n0 ≤ h0.size) (O : Old Z n0 h0) (SH : Sta Z Z.heap "java/lang/Integer$IntegerCache" "high" "I" (.int (127 : Int32))) (SC : Sta Z Z.heap "java/lang/Integer$IntegerCache" "cache" "[Ljava/lang/Integer;" (.ref cw)) (B : Bxs Z cw cl "java/lang/Integer" "I" (256 : Int32) val) :
    MetFree l (⟨"java/lang/Integer", "valueOf", "(I)Ljava/lang/Integer;"⟩ : MethodName) (head1 [Jvm.Cond.code (⟨"java/lang/Integer", "valueOf", "(I)Ljava/lang/Integer;"⟩ : MethodName) jdk_33_method_22_code 1 (some (.object "java/lang/Integer"))] ({ frames := 3, cells := 1, slots := 1, locals := 38 } : Room)) (fun a U => a = #[(.int p1)] ∧ Z.Warmed39 U.vm ∧ U.heap = h0) (fun _ _ _ _ _ => True) (fun _ U o U' => ∃ v L, o = .returned v ∧ Q7 Z h0 n0 v U'.heap L ∧ FrameEnd U o U' L ({ frames := 3, cells := 1, slots := 1, locals := 38 } : Room).cells ({ frames := 3, cells := 1, slots := 1, locals := 38 } : Room).slots) := by
  by_cases c1 : p1 < (-128 : Int32)
  · exact rm7_t l Z a0 hw [] p1 h0 n0 Z0 c1
  · by_cases c2 : (127 : Int32) < p1
    · exact rm7_ft l Z a0 hw [] p1 127 h0 n0 Z0 (SH.ext O.2) c1 c2
    · have hin : ¬ (p1 + (128 : Int32) < 0 ∨ cl.slots.size ≤ (p1 + (128 : Int32)).toNatClampNeg) := by rw [B.2.1]; exact own_i256 c1 c2
      obtain ⟨b, q1, q2, -⟩ := B.2.2.2 _ hin
      exact rm7_ff l Z a0 hw [] p1 127 cw b cl h0 n0 Z0 (SH.ext O.2) (SC.ext O.2) (B.1.ext O.2) hin q1 (q2.ext O.2) c1 c2
theorem d18_0 : decode prog_143_method_1_code 0 = .ok (.aload_n 0, 1) := by decide +kernel
theorem d18_1 : decode prog_143_method_1_code 1 = .ok (.invokespecial 1, 3) := by decide +kernel
theorem d18_4 : decode prog_143_method_1_code 4 = .ok (.aload_n 0, 1) := by decide +kernel
theorem d18_5 : decode prog_143_method_1_code 5 = .ok (.aload_n 1, 1) := by decide +kernel
theorem d18_6 : decode prog_143_method_1_code 6 = .ok (.putfield 7, 3) := by decide +kernel
theorem d18_9 : decode prog_143_method_1_code 9 = .ok (.aload_n 0, 1) := by decide +kernel
theorem d18_10 : decode prog_143_method_1_code 10 = .ok (.aload_n 2, 1) := by decide +kernel
theorem d18_11 : decode prog_143_method_1_code 11 = .ok (.putfield 13, 3) := by decide +kernel
theorem d18_14 : decode prog_143_method_1_code 14 = .ok (.aload_n 0, 1) := by decide +kernel
theorem d18_15 : decode prog_143_method_1_code 15 = .ok (.aload_n 3, 1) := by decide +kernel
theorem d18_16 : decode prog_143_method_1_code 16 = .ok (.putfield 16, 3) := by decide +kernel
theorem d18_19 : decode prog_143_method_1_code 19 = .ok (.return_, 1) := by decide +kernel
theorem pn_18 : plainName "com/example/fixpoint/fixpoint/expr/Symbol$Attachment" = true := by first | (simp [plainName, overriddenIn]; done) | decide +kernel
theorem ef_18 (m : MethodId) (x0 : Addr) (x1 : Addr) (x2 : Value) (x3 : Value) (h2 : Rf x2) (h3 : Rf x3) : entryFrame m #[(.ref x0), (.ref x1), x2, x3] 4 = mkF m 0 #[.val (.ref x0), .val (.ref x1), .val x2, .val x3] [] := by rcases h2 with q2 | ⟨o2, q2⟩ <;> subst q2 <;> rcases h3 with q3 | ⟨o3, q3⟩ <;> subst q3 <;> first | (simp [entryFrame, mkF, argsToLocals, Value.category]; done) | rfl
def Q18 (Z : State) (a1 : Addr) (a2 : Addr) (r3 : Value) (r4 : Value) (u_owner_a1 : Value) (u_value_a1 : Value) (u_next_a1 : Value) (h0 : Heap) (n0 : Nat) (v : Option Value) (h : Heap) (L : List Loc) : Prop := v = none ∧ Fr n0 L ∧ Keep h0 h [a1] ∧ Exa Z h a1 "com/example/fixpoint/fixpoint/expr/Symbol$Attachment" ∧ Fld Z h a1 "com/example/fixpoint/fixpoint/expr/Symbol$Attachment" "owner" "Ljava/lang/Object;" (.ref a2) ∧ Fld Z h a1 "com/example/fixpoint/fixpoint/expr/Symbol$Attachment" "value" "Ljava/lang/Object;" r3 ∧ Fld Z h a1 "com/example/fixpoint/fixpoint/expr/Symbol$Attachment" "next" "Lcom/example/fixpoint/fixpoint/expr/Symbol$Attachment;" r4
set_option maxRecDepth 65536 in
set_option maxHeartbeats 40000000 in
theorem rm18 (l : Launch) (Z : State) (a0 : Array Value) (hw : ∀ d ∈ tables_1, d.before a0 Z = true) (ws : List Jvm.Cond) (a1 : Addr) (a2 : Addr) (r3 : Value) (r4 : Value) (u_owner_a1 : Value) (u_value_a1 : Value) (u_next_a1 : Value) (h0 : Heap) (n0 : Nat) (Z0 : n0 ≤ h0.size) (h_r3 : Rf r3) (h_r4 : Rf r4) (E_a1 : Exa Z h0 a1 "com/example/fixpoint/fixpoint/expr/Symbol$Attachment") (F_owner_a1 : Fld Z h0 a1 "com/example/fixpoint/fixpoint/expr/Symbol$Attachment" "owner" "Ljava/lang/Object;" u_owner_a1) (g_a1 : n0 ≤ a1) (F_value_a1 : Fld Z h0 a1 "com/example/fixpoint/fixpoint/expr/Symbol$Attachment" "value" "Ljava/lang/Object;" u_value_a1) (F_next_a1 : Fld Z h0 a1 "com/example/fixpoint/fixpoint/expr/Symbol$Attachment" "next" "Lcom/example/fixpoint/fixpoint/expr/Symbol$Attachment;" u_next_a1) :
    MetFree l (⟨"com/example/fixpoint/fixpoint/expr/Symbol$Attachment", "<init>", "(Ljava/lang/Object;Ljava/lang/Object;Lcom/example/fixpoint/fixpoint/expr/Symbol$Attachment;)V"⟩ : MethodName) (head1 (Jvm.Cond.code (⟨"com/example/fixpoint/fixpoint/expr/Symbol$Attachment", "<init>", "(Ljava/lang/Object;Ljava/lang/Object;Lcom/example/fixpoint/fixpoint/expr/Symbol$Attachment;)V"⟩ : MethodName) prog_143_method_1_code 4 none :: ws) ({ frames := 1, cells := 0, slots := 0, locals := 12 } : Room)) (fun a U => a = #[(.ref a1), (.ref a2), r3, r4] ∧ Z.Warmed39 U.vm ∧ U.heap = h0) (fun _ _ _ _ _ => True) (fun _ U o U' => ∃ v L, o = .returned v ∧ Q18 Z a1 a2 r3 r4 u_owner_a1 u_value_a1 u_next_a1 h0 n0 v U'.heap L ∧ FrameEnd U o U' L ({ frames := 1, cells := 0, slots := 0, locals := 12 } : Room).cells ({ frames := 1, cells := 0, slots := 0, locals := 12 } : Room).slots) := by
  refine MetFree.of_bodySF (plainFor_of_name pn_18) hisR ?_
  intro p e s m args below meth c s₁ Bd hml0 hP hK
  obtain ⟨rfl, hZ, hh⟩ := hP
  have hx := Bd.exec
  have hby := Bd.bytes
  have hml : c.maxLocals = 4 := hml0
  have hown : s.vm.findClass "com/example/fixpoint/fixpoint/expr/Symbol$Attachment" = some m.cls := findClass_of_methodNamed Bd.named
  have hnm := (name_of_methodNamed Bd.named Bd.method).1
  have X0 : Stand p l e ({ frames := 1, cells := 0, slots := 0, locals := 12 } : Room) s m #[(.ref a1), (.ref a2), r3, r4] below meth c s₁ [] 0 0 := Stand.of_body Bd
  have e0 : s₁.heap = h0 := by rw [← hh, Bd.state]; rfl
  have N0 := Fr.nil n0
  have pre0 : ∀ t, Steps p.tables e below (s₁.setTop (mkF m 0 #[.val (.ref a1), .val (.ref a2), .val r3, .val r4] [])) t → Steps p.tables e below (s₁.setTop (entryFrame m #[(.ref a1), (.ref a2), r3, r4] 4)) t := fun t k => castTop (ef_18 m a1 a2 r3 r4 h_r3 h_r4) k
  obtain ⟨T5, X5, e5, st5⟩ := initO X0 hx hZ hown (hw _ (List.mem_of_getElem? (i := 110) rfl)) (hw _ (List.mem_of_getElem? (i := 14) rfl)) (hw _ (List.mem_of_getElem? (i := 15) rfl)) e0 (g := (mkF m 1 #[.val (.ref a1), .val (.ref a2), .val r3, .val r4] [(.ref a1)])) rfl (by rw [hml]; rfl) rfl (hb hby d18_1) (by decide) (W := 0) (by show 2 * 0 + _ ≤ _; exact Nat.le_of_eq rfl) (by decide)
  obtain ⟨T6, h6, X6, e6, W6, st6⟩ := putF X5 hx hZ hown (host := "") (Or.inl (hw _ (List.mem_of_getElem? (i := 111) rfl))) Via.refl e5 F_owner_a1 E_a1 (Or.inr ⟨(hw _ (List.mem_of_getElem? (i := 112) rfl)), rfl, hnm⟩) (hw _ (List.mem_of_getElem? (i := 105) rfl)) (ty := (.object "java/lang/Object")) (by decide) rfl rfl (g := (mkF m 6 #[.val (.ref a1), .val (.ref a2), .val r3, .val r4] [(.ref a2), (.ref a1)])) rfl rfl (hb hby d18_6)
  have Fw6 := F_owner_a1.same W6
  have K6 : Keep h0 h6 [a1] := (Keep.refl h0 [a1]).wr W6 (Or.inl (List.mem_of_getElem? (i := 0) rfl))
  have N6 := Fr.snoc X6 N0 g_a1
  obtain ⟨T7, h7, X7, e7, W7, st7⟩ := putF X6 hx hZ hown (host := "") (Or.inl (hw _ (List.mem_of_getElem? (i := 113) rfl))) Via.refl e6 (F_value_a1.other W6 (Or.inr (slot_ne (Or.inl (hw _ (List.mem_of_getElem? (i := 114) rfl))) (Or.inr (hw _ (List.mem_of_getElem? (i := 112) rfl))) (by decide) (t := (.object "java/lang/Object")) (t' := (.object "java/lang/Object")) (by decide) (by decide)))) (E_a1.wr W6) (Or.inl (hw _ (List.mem_of_getElem? (i := 114) rfl))) (hw _ (List.mem_of_getElem? (i := 105) rfl)) (ty := (.object "java/lang/Object")) (by decide) h_r3.nar h_r3.fit (g := (mkF m 11 #[.val (.ref a1), .val (.ref a2), .val r3, .val r4] [r3, (.ref a1)])) rfl rfl (hb hby d18_11)
  have Fw7 := (F_value_a1.other W6 (Or.inr (slot_ne (Or.inl (hw _ (List.mem_of_getElem? (i := 114) rfl))) (Or.inr (hw _ (List.mem_of_getElem? (i := 112) rfl))) (by decide) (t := (.object "java/lang/Object")) (t' := (.object "java/lang/Object")) (by decide) (by decide)))).same W7
  have K7 : Keep h0 h7 [a1] := K6.wr W7 (Or.inl (List.mem_of_getElem? (i := 0) rfl))
  have N7 := Fr.snoc X7 N6 g_a1
  obtain ⟨T8, h8, X8, e8, W8, st8⟩ := putF X7 hx hZ hown (host := "") (Or.inl (hw _ (List.mem_of_getElem? (i := 115) rfl))) Via.refl e7 ((F_next_a1.other W6 (Or.inr (slot_ne (Or.inr (hw _ (List.mem_of_getElem? (i := 116) rfl))) (Or.inr (hw _ (List.mem_of_getElem? (i := 112) rfl))) (by decide) (t := (.object "com/example/fixpoint/fixpoint/expr/Symbol$Attachment")) (t' := (.object "java/lang/Object")) (by decide) (by decide)))).other W7 (Or.inr (slot_ne (Or.inr (hw _ (List.mem_of_getElem? (i := 116) rfl))) (Or.inl (hw _ (List.mem_of_getElem? (i := 114) rfl))) (by decide) (t := (.object "com/example/fixpoint/fixpoint/expr/Symbol$Attachment")) (t' := (.object "java/lang/Object")) (by decide) (by decide)))) ((E_a1.wr W6).wr W7) (Or.inr ⟨(hw _ (List.mem_of_getElem? (i := 116) rfl)), rfl, hnm⟩) (hw _ (List.mem_of_getElem? (i := 105) rfl)) (ty := (.object "com/example/fixpoint/fixpoint/expr/Symbol$Attachment")) (by decide) h_r4.nar h_r4.fit (g := (mkF m 16 #[.val (.ref a1), .val (.ref a2), .val r3, .val r4] [r4, (.ref a1)])) rfl rfl (hb hby d18_16)
  have Fw8 := ((F_next_a1.other W6 (Or.inr (slot_ne (Or.inr (hw _ (List.mem_of_getElem? (i := 116) rfl))) (Or.inr (hw _ (List.mem_of_getElem? (i := 112) rfl))) (by decide) (t := (.object "com/example/fixpoint/fixpoint/expr/Symbol$Attachment")) (t' := (.object "java/lang/Object")) (by decide) (by decide)))).other W7 (Or.inr (slot_ne (Or.inr (hw _ (List.mem_of_getElem? (i := 116) rfl))) (Or.inl (hw _ (List.mem_of_getElem? (i := 114) rfl))) (by decide) (t := (.object "com/example/fixpoint/fixpoint/expr/Symbol$Attachment")) (t' := (.object "java/lang/Object")) (by decide) (by decide)))).same W8
  have K8 : Keep h0 h8 [a1] := K7.wr W8 (Or.inl (List.mem_of_getElem? (i := 0) rfl))
  have N8 := Fr.snoc X8 N7 g_a1
  obtain ⟨fs, hr, hrun, hended, hW, hsame⟩ := X8.leave (v := none) (fun _ => rfl)
  refine ⟨_, _, pre0 _ ?_, hrun, hended, _, _, rfl, ?_, ⟨_, rfl⟩, hW, hsame.mono (by decide) (by decide)⟩
  · show Steps p.tables e below (s₁.setTop (mkF m 0 #[.val (.ref a1), .val (.ref a2), .val r3, .val r4] [])) _
    refine XS.aloadN X0.here hx rfl (hb hby d18_0) rfl rfl ?_
    show Steps p.tables e below (s₁.setTop (mkF m 1 #[.val (.ref a1), .val (.ref a2), .val r3, .val r4] [(.ref a1)])) _
    refine st5 _ ?_
    show Steps p.tables e below (T5.setTop (mkF m 4 #[.val (.ref a1), .val (.ref a2), .val r3, .val r4] [])) _
    refine XS.aloadN X5.here hx rfl (hb hby d18_4) rfl rfl ?_
    show Steps p.tables e below (T5.setTop (mkF m 5 #[.val (.ref a1), .val (.ref a2), .val r3, .val r4] [(.ref a1)])) _
    refine XS.aloadN X5.here hx rfl (hb hby d18_5) rfl rfl ?_
    show Steps p.tables e below (T5.setTop (mkF m 6 #[.val (.ref a1), .val (.ref a2), .val r3, .val r4] [(.ref a2), (.ref a1)])) _
    refine st6 _ ?_
    show Steps p.tables e below (T6.setTop (mkF m 9 #[.val (.ref a1), .val (.ref a2), .val r3, .val r4] [])) _
    refine XS.aloadN X6.here hx rfl (hb hby d18_9) rfl rfl ?_
    show Steps p.tables e below (T6.setTop (mkF m 10 #[.val (.ref a1), .val (.ref a2), .val r3, .val r4] [(.ref a1)])) _
    refine XS.aloadN X6.here hx rfl (hb hby d18_10) rfl h_r3.is ?_
    show Steps p.tables e below (T6.setTop (mkF m 11 #[.val (.ref a1), .val (.ref a2), .val r3, .val r4] [r3, (.ref a1)])) _
    refine st7 _ ?_
    show Steps p.tables e below (T7.setTop (mkF m 14 #[.val (.ref a1), .val (.ref a2), .val r3, .val r4] [])) _
    refine XS.aloadN X7.here hx rfl (hb hby d18_14) rfl rfl ?_
    show Steps p.tables e below (T7.setTop (mkF m 15 #[.val (.ref a1), .val (.ref a2), .val r3, .val r4] [(.ref a1)])) _
    refine XS.aloadN X7.here hx rfl (hb hby d18_15) rfl h_r4.is ?_
    show Steps p.tables e below (T7.setTop (mkF m 16 #[.val (.ref a1), .val (.ref a2), .val r3, .val r4] [r4, (.ref a1)])) _
    refine st8 _ ?_
    show Steps p.tables e below (T8.setTop (mkF m 19 #[.val (.ref a1), .val (.ref a2), .val r3, .val r4] [])) _
    exact X8.returnOut hx Bd.returns (hb hby d18_19) hr
  · show Q18 Z a1 a2 r3 r4 u_owner_a1 u_value_a1 u_next_a1 h0 n0 _ T8.heap _
    rw [e8]
    exact ⟨rfl, N8, K8, (((E_a1.wr W6).wr W7).wr W8), ((Fw6.other W7 (Or.inr (slot_ne (Or.inr (hw _ (List.mem_of_getElem? (i := 112) rfl))) (Or.inl (hw _ (List.mem_of_getElem? (i := 114) rfl))) (by decide) (t := (.object "java/lang/Object")) (t' := (.object "java/lang/Object")) (by decide) (by decide)))).other W8 (Or.inr (slot_ne (Or.inr (hw _ (List.mem_of_getElem? (i := 112) rfl))) (Or.inr (hw _ (List.mem_of_getElem? (i := 116) rfl))) (by decide) (t := (.object "java/lang/Object")) (t' := (.object "com/example/fixpoint/fixpoint/expr/Symbol$Attachment")) (by decide) (by decide)))), (Fw7.other W8 (Or.inr (slot_ne (Or.inl (hw _ (List.mem_of_getElem? (i := 114) rfl))) (Or.inr (hw _ (List.mem_of_getElem? (i := 116) rfl))) (by decide) (t := (.object "java/lang/Object")) (t' := (.object "com/example/fixpoint/fixpoint/expr/Symbol$Attachment")) (by decide) (by decide)))), Fw8⟩
/-! getfield and putfield by an entry that is RESOLVED already (the word fieldRef): the tables stay as they are -/
theorem own_ready {p : Program} {l : Launch} {e : Env} {R : Room} {s : State} {m : MethodId} {args : Array Value} {below : List Frame} {meth : Method} {c : Code} {T : State} {locs : List Loc} {cells slots : Nat} {Z : State} {a0 : Array Value} (X : Stand p l e R s m args below meth c T locs cells slots) (hZ : Z.Warmed39 s.vm) {own O n d : String} {index cf i : Nat} {k : Class} {f : Field} (hown : s.vm.findClass own = some m.cls)
    (w : (Cond.fieldRef own index O n d).before a0 Z = true) (hf : Z.fieldFound? O n d = some (cf, k, i, f)) : T.vm.fieldReady m.cls index cf f := by
  have w1 : (Cond.fieldRef own index O n d).before a0 (Z.setVm s.vm) = true := Cond.fieldRef_warmed39 hZ w
  have w2 : (Cond.fieldRef own index O n d).before args s = true := w1
  have w3 : (Cond.fieldRef own index O n d).before args (s.setVm T.vm) = true := Cond.fieldRef_warmed X.warmed w2
  have ho : (s.setVm T.vm).vm.findClass own = some m.cls := by
    show T.vm.findClass own = some m.cls
    rw [X.warmed.alike.findClass]; exact hown
  obtain ⟨c1, k1, i1, f1, h1, h2⟩ := Cond.fieldRef_spec ho w3
  obtain ⟨k', q, -⟩ := State.fieldFound?_setVm (s := Z) hZ.alike hf
  have q' : s.fieldFound? O n d = some (cf, k', i, f) := q
  obtain ⟨k'', q2, -⟩ := State.fieldFound?_setVm (s := s) X.warmed.alike q'
  cases h1.symm.trans q2
  exact h2
theorem own_getFR {p : Program} {l : Launch} {e : Env} {R : Room} {s : State} {m : MethodId} {args : Array Value} {below : List Frame} {meth : Method} {c : Code} {T : State} {locs : List Loc} {cells slots : Nat} {Z : State} {a0 : Array Value} {h : Heap} (X : Stand p l e R s m args below meth c T locs cells slots) (hx : p.tables.exec = Jvm.exec) (hZ : Z.Warmed39 s.vm) {own O n d : String} {index : Nat} (hown : s.vm.findClass own = some m.cls)
    (w : (Cond.fieldRef own index O n d).before a0 Z = true) (eT : T.heap = h) {a : Addr} {v : Value} (F : Fld Z h a O n d v) {g : JFrame} (hg : g.method = m) {rest : List Value} (hs : g.stack = .ref a :: rest) (hd : decode c.code g.pc = .ok (.getfield index, 3)) :
    ∃ T', Stand p l e R s m args below meth c T' locs cells slots ∧ T'.heap = h ∧ ∀ target, Steps p.tables e below (T'.setTop { g with pc := g.pc + 3, stack := v :: rest }) target → Steps p.tables e below (T.setTop g) target := by
  obtain ⟨cell, cf, k, i, f, h1, h2, h3, h4, -, -, h7⟩ := F
  have hr := own_ready X hZ hown w h2
  refine ⟨T, X, eT, fun target hrest => ?_⟩
  subst hg
  jvm_step X.here [hx, hd, getfield.wp_ready (e := e) (s := T) (f := g) X.here.top hr h3 hs (by rw [eT]; exact h1) h4 h7]
  exact hrest
theorem own_putFR {p : Program} {l : Launch} {e : Env} {R : Room} {s : State} {m : MethodId} {args : Array Value} {below : List Frame} {meth : Method} {c : Code} {T : State} {locs : List Loc} {cells slots : Nat} {Z : State} {a0 : Array Value} {h : Heap} (X : Stand p l e R s m args below meth c T locs cells slots) (hx : p.tables.exec = Jvm.exec) (hZ : Z.Warmed39 s.vm) {own O n d C : String} {index kk : Nat} {ty : FieldType} (hown : s.vm.findClass own = some m.cls)
    (w : (Cond.fieldRef own index O n d).before a0 Z = true) (eT : T.heap = h) {a : Addr} {v old : Value} (F : Fld Z h a O n d old) (E : Exa Z h a C) (L : (Cond.lays C O n d).before a0 Z = true) (wi : (Cond.instantiable C kk).before a0 Z = true) (hty : parseFieldDescriptor d = some ty) (hn : narrow ty v = v) (hf : fits ty v = true) {g : JFrame} (hg : g.method = m) {rest : List Value} (hs : g.stack = v :: .ref a :: rest) (hd : decode c.code g.pc = .ok (.putfield index, 3)) :
    ∃ T' h', Stand p l e R s m args below meth c T' (locs ++ [⟨a, RoadKit.slotOf Z O n d⟩]) cells slots ∧ T'.heap = h' ∧ Wr h h' a (RoadKit.slotOf Z O n d) v ∧ ∀ target, Steps p.tables e below (T'.setTop { g with pc := g.pc + 3, stack := rest }) target → Steps p.tables e below (T.setTop g) target := by
  obtain ⟨cell, cf, k, i, f, h1, h2, h3, h4, h5, -, h7⟩ := F
  have hr := own_ready X hZ hown w h2
  obtain ⟨cell', kc, e1, e2, e3, -⟩ := E
  have ec : cell' = cell := Option.some.inj (e1.symm.trans h1)
  subst ec
  obtain ⟨c1, k1, cf1, kf1, i1, f1, a1, a2, a3, -, a5, -, a7, -⟩ := Cond.lays_spec L
  cases h2.symm.trans a3
  have q1 : c1 = cell'.cls := Option.some.inj (a1.symm.trans e2)
  subst q1
  obtain ⟨c2, k2, j1, j2, j3, -⟩ := Cond.instantiable_spec wi
  have q2 : c2 = cell'.cls := Option.some.inj (j1.symm.trans e2)
  subst q2
  have q3 : k2 = k1 := Option.some.inj (j2.symm.trans a2)
  subst q3
  have ht := (State.fieldFound?_type h2 hty).2
  have hal : Z.vm.Alike T.vm := hZ.alike.trans X.warmed.alike
  have hs0 : Z.slotType? cell'.cls cell'.vm f.slot = some ty := by
    simp only [State.slotType?, a2, Option.bind_eq_bind, Option.bind_some, j3]
    cases hq : cell'.vm <;> first | (rw [hq] at h5; exact Bool.noConfusion h5) | (rw [a7, ht])
  have hfit : Z.fitsSlot cell'.cls cell'.vm f.slot v = true := by simp [State.fitsSlot, hs0, hf]
  have hfitT : T.fitsSlot cell'.cls cell'.vm f.slot v = true := by
    have q : T.fitsSlot = Z.fitsSlot := (show T.fitsSlot = (Z.setVm T.vm).fitsSlot from rfl).trans (State.fitsSlot_setVm hal)
    rw [q]; exact hfit
  have hlt : f.slot < cell'.slots.size := (Array.getElem?_eq_some_iff.mp h7).1
  obtain ⟨X', st⟩ := X.putfieldReady hx hr h3 (Or.inl a5) (by rw [eT]; exact e1) h4 hlt (by rw [ht]; exact hn) hfitT hg hs hd
  have es : RoadKit.slotOf Z O n d = f.slot := by simp [RoadKit.slotOf, h2]
  rw [es]
  refine ⟨_, _, X', rfl, ⟨cell', e1, h5, hlt, ?_⟩, st⟩
  rw [← eT]
  rfl
/-- a private method is picked itself (after example/claims/gauge-weight) -/
theorem own_selP {Z s : State} {a0 args : Array Value} {y : MethodName} {n : Nat} (hZ : Z.Warmed39 s.vm) (w1 : (Jvm.Cond.instantiable y.cls n).before a0 Z = true) (w2 : (Jvm.Cond.privateMethod y).before a0 Z = true) (w3 : (Jvm.Cond.instanceMethod y).before a0 Z = true) (hy : y.cls ≠ "java/lang/invoke/MethodHandle" ∧ y.cls ≠ "java/lang/invoke/VarHandle") :
    (Jvm.Cond.selects y.cls y y).before args s = true := by
  have hins : (Jvm.Cond.instantiable y.cls n).before args s = true := mvT hZ w1
  have hpriv : (Jvm.Cond.privateMethod y).before args s = true := mvP hZ w2
  have hinst : (Jvm.Cond.instanceMethod y).before args s = true := mvT hZ w3
  obtain ⟨c, k, hc, hk, -, hniab, -, -⟩ := Cond.instantiable_spec hins
  have hni : k.isInterface = false := (Bool.or_eq_false_iff.mp hniab).1
  obtain ⟨mk, methM, hnamed, hmethM, -, -⟩ := Cond.instanceMethod_spec hinst
  have hfound : s.methodFound? y.cls y.name y.desc = some mk := State.methodFound?_of_named hnamed hy
  have hcls : mk.cls = c := Option.some.inj ((findClass_of_methodNamed hnamed).symm.trans hc)
  have hsel : selectMethod {} s.vm c mk = .method mk := selectMethod_private hmethM (Cond.privateMethod_at hpriv mk methM hnamed hmethM)
  simp only [Cond.before, Cond.holds, Cond.value, hc, hfound, hnamed, hsel, hcls, hk]
  simp; exact hni
/-! THE CHAIN of a Symbol's attachments: (the Attachment, its owner, its value), the newest first -/
def Chn (Z : State) (h : Heap) : List (Addr × Addr × Value) → Value → Prop
  | [], r => r = .null
  | (a, o, w) :: L, r => r = .ref a ∧ Exa Z h a "com/example/fixpoint/fixpoint/expr/Symbol$Attachment" ∧ Fld Z h a "com/example/fixpoint/fixpoint/expr/Symbol$Attachment" "owner" "Ljava/lang/Object;" (.ref o) ∧ Fld Z h a "com/example/fixpoint/fixpoint/expr/Symbol$Attachment" "value" "Ljava/lang/Object;" w ∧ Rf w ∧ ∃ r', Fld Z h a "com/example/fixpoint/fixpoint/expr/Symbol$Attachment" "next" "Lcom/example/fixpoint/fixpoint/expr/Symbol$Attachment;" r' ∧ Chn Z h L r'
def own_adr (L : List (Addr × Addr × Value)) : List Addr := L.map fun x => x.1
def own_look : List (Addr × Addr × Value) → Addr → Value
  | [], _ => .null
  | (_, o, w) :: L, q => if o = q then w else own_look L q
def own_find : List (Addr × Addr × Value) → Addr → Value
  | [], _ => .null
  | (a, o, _) :: L, q => if o = q then .ref a else own_find L q
def own_upd : List (Addr × Addr × Value) → Addr → Value → List (Addr × Addr × Value)
  | [], _, _ => []
  | (a, o, w) :: L, q, v => if o = q then (a, o, v) :: L else (a, o, w) :: own_upd L q v
theorem Chn.rf {Z : State} {h : Heap} {L : List (Addr × Addr × Value)} {r : Value} (C : Chn Z h L r) : Rf r := by
  cases L with
  | nil => exact Or.inl C
  | cons x L => obtain ⟨a, o, w⟩ := x; exact Or.inr ⟨a, C.1⟩
theorem own_upd_adr (q : Addr) (v : Value) : ∀ L, own_adr (own_upd L q v) = own_adr L := by
  intro L
  induction L with
  | nil => rfl
  | cons x L ih =>
    obtain ⟨a, o, w⟩ := x
    rw [own_upd]
    by_cases c : o = q
    · rw [if_pos c]; rfl
    · rw [if_neg c]
      show a :: own_adr (own_upd L q v) = a :: own_adr L
      rw [ih]
theorem own_find_rf (q : Addr) : ∀ L, Rf (own_find L q) := by
  intro L
  induction L with
  | nil => exact Or.inl rfl
  | cons x L ih =>
    obtain ⟨a, o, w⟩ := x
    rw [own_find]
    by_cases c : o = q
    · rw [if_pos c]; exact Or.inr ⟨a, rfl⟩
    · rw [if_neg c]; exact ih
theorem own_find_mem {q b : Addr} : ∀ L, own_find L q = .ref b → b ∈ own_adr L := by
  intro L
  induction L with
  | nil => intro h; cases h
  | cons x L ih =>
    obtain ⟨a, o, w⟩ := x
    intro h
    rw [own_find] at h
    by_cases c : o = q
    · rw [if_pos c] at h
      cases h
      exact List.mem_cons_self
    · rw [if_neg c] at h
      exact List.mem_cons_of_mem _ (ih h)
theorem own_look_new {q a : Addr} {v : Value} {L : List (Addr × Addr × Value)} (x : Addr) : own_look ((a, q, v) :: L) x = if q = x then v else own_look L x := rfl
theorem own_look_none {q : Addr} : ∀ L, own_find L q = .null → own_look L q = .null := by
  intro L
  induction L with
  | nil => intro _; rfl
  | cons x L ih =>
    obtain ⟨a, o, w⟩ := x
    intro h
    rw [own_find] at h
    by_cases c : o = q
    · rw [if_pos c] at h; cases h
    · rw [if_neg c] at h
      rw [own_look, if_neg c]
      exact ih h
theorem own_look_upd {q b : Addr} {v : Value} (x : Addr) : ∀ L, own_find L q = .ref b → own_look (own_upd L q v) x = if q = x then v else own_look L x := by
  intro L
  induction L with
  | nil => intro h; cases h
  | cons y L ih =>
    obtain ⟨a, o, w⟩ := y
    intro h
    rw [own_find] at h
    rw [own_upd]
    by_cases c : o = q
    · subst c
      rw [if_pos rfl, own_look, own_look]
      by_cases d : o = x
      · rw [if_pos d, if_pos d]
      · rw [if_neg d, if_neg d, if_neg d]
    · rw [if_neg c] at h
      rw [if_neg c, own_look, own_look, ih h]
      by_cases d : o = x
      · rw [if_pos d, if_pos d, if_neg (fun z => c (d.trans z.symm))]
      · rw [if_neg d, if_neg d]
theorem Chn.keep {Z : State} {h h' : Heap} {ws : List Addr} (K : Keep h h' ws) : ∀ {L : List (Addr × Addr × Value)} {r : Value}, (∀ a ∈ own_adr L, a ∉ ws) → Chn Z h L r → Chn Z h' L r := by
  intro L
  induction L with
  | nil => intro r _ C; exact C
  | cons x L ih =>
    obtain ⟨a, o, w⟩ := x
    intro r q C
    obtain ⟨e, E, F1, F2, R, r', F3, C'⟩ := C
    have qa : a ∉ ws := q a List.mem_cons_self
    exact ⟨e, E.keep K, F1.keep K qa, F2.keep K qa, R, r', F3.keep K qa, ih (fun b hb => q b (List.mem_cons_of_mem _ hb)) C'⟩
theorem Chn.ext {Z : State} {h h' : Heap} (K : Ext h h') : ∀ {L : List (Addr × Addr × Value)} {r : Value}, Chn Z h L r → Chn Z h' L r := by
  intro L
  induction L with
  | nil => intro r C; exact C
  | cons x L ih =>
    obtain ⟨a, o, w⟩ := x
    intro r C
    obtain ⟨e, E, F1, F2, R, r', F3, C'⟩ := C
    exact ⟨e, E.ext K, F1.ext K, F2.ext K, R, r', F3.ext K, ih C'⟩
theorem Chn.lt {Z : State} {h : Heap} : ∀ {L : List (Addr × Addr × Value)} {r : Value}, Chn Z h L r → ∀ a ∈ own_adr L, a < h.size := by
  intro L
  induction L with
  | nil => intro r C a ha; cases ha
  | cons x L ih =>
    obtain ⟨b, o, w⟩ := x
    intro r C a ha
    obtain ⟨e, E, F1, F2, R, r', F3, C'⟩ := C
    rcases List.mem_cons.mp ha with q | q
    · subst q; exact E.lt
    · exact ih C' a q
/-- behind a store into the value of the first Attachment of that owner -/
theorem Chn.upd {Z : State} {h h' : Heap} {q b : Addr} {v : Value} (W : Wr h h' b (RoadKit.slotOf Z "com/example/fixpoint/fixpoint/expr/Symbol$Attachment" "value" "Ljava/lang/Object;") v) (hv : Rf v) (s1 : RoadKit.slotOf Z "com/example/fixpoint/fixpoint/expr/Symbol$Attachment" "owner" "Ljava/lang/Object;" ≠ RoadKit.slotOf Z "com/example/fixpoint/fixpoint/expr/Symbol$Attachment" "value" "Ljava/lang/Object;") (s2 : RoadKit.slotOf Z "com/example/fixpoint/fixpoint/expr/Symbol$Attachment" "next" "Lcom/example/fixpoint/fixpoint/expr/Symbol$Attachment;" ≠ RoadKit.slotOf Z "com/example/fixpoint/fixpoint/expr/Symbol$Attachment" "value" "Ljava/lang/Object;") :
    ∀ {L : List (Addr × Addr × Value)} {r : Value}, (own_adr L).Nodup → own_find L q = .ref b → Chn Z h L r → Chn Z h' (own_upd L q v) r := by
  intro L
  induction L with
  | nil => intro r _ hf C; cases hf
  | cons x L ih =>
    obtain ⟨a, o, w⟩ := x
    intro r nd hf C
    obtain ⟨e, E, F1, F2, R, r', F3, C'⟩ := C
    have nd' : a ∉ own_adr L ∧ (own_adr L).Nodup := List.nodup_cons.mp nd
    rw [own_find] at hf
    rw [own_upd]
    by_cases c : o = q
    · rw [if_pos c] at hf
      rw [if_pos c]
      cases hf
      exact ⟨e, E.wr W, F1.other W (Or.inr s1), F2.same W, hv, r', F3.other W (Or.inr s2), C'.keep (Keep.of_wr W) (fun z hz hm => by cases List.mem_singleton.mp hm; exact nd'.1 hz)⟩
    · rw [if_neg c] at hf
      rw [if_neg c]
      have hb := own_find_mem L hf
      have ne : a ≠ b := fun z => by subst z; exact nd'.1 hb
      exact ⟨e, E.wr W, F1.other W (Or.inl ne), F2.other W (Or.inl ne), R, r', F3.other W (Or.inl ne), ih nd'.2 hf C'⟩
theorem Chn.found {Z : State} {h : Heap} {q b : Addr} : ∀ {L : List (Addr × Addr × Value)} {r : Value}, Chn Z h L r → own_find L q = .ref b → Exa Z h b "com/example/fixpoint/fixpoint/expr/Symbol$Attachment" ∧ Fld Z h b "com/example/fixpoint/fixpoint/expr/Symbol$Attachment" "value" "Ljava/lang/Object;" (own_look L q) ∧ Rf (own_look L q) := by
  intro L
  induction L with
  | nil => intro r _ hf; cases hf
  | cons x L ih =>
    obtain ⟨a, o, w⟩ := x
    intro r C hf
    obtain ⟨e, E, F1, F2, R, r', F3, C'⟩ := C
    rw [own_find] at hf
    rw [own_look]
    by_cases c : o = q
    · rw [if_pos c] at hf
      rw [if_pos c]
      cases hf
      exact ⟨E, F2, R⟩
    · rw [if_neg c] at hf
      rw [if_neg c]
      exact ih C' hf
theorem own_find_null_or {L : List (Addr × Addr × Value)} {q : Addr} : own_find L q = .null ∨ ∃ a, own_find L q = .ref a := own_find_rf q L
theorem d17_5 : decode prog_142_method_6_code 5 = .ok (.aload_n 2, 1) := by decide +kernel
theorem d17_6 : decode prog_142_method_6_code 6 = .ok (.ifnull 21, 3) := by decide +kernel
theorem d17_9 : decode prog_142_method_6_code 9 = .ok (.aload_n 2, 1) := by decide +kernel
theorem d17_10 : decode prog_142_method_6_code 10 = .ok (.getfield 45, 3) := by decide +kernel
theorem d17_13 : decode prog_142_method_6_code 13 = .ok (.aload_n 1, 1) := by decide +kernel
theorem d17_14 : decode prog_142_method_6_code 14 = .ok (.if_acmp .ne 5, 3) := by decide +kernel
theorem d17_19 : decode prog_142_method_6_code 19 = .ok (.aload_n 2, 1) := by decide +kernel
theorem d17_20 : decode prog_142_method_6_code 20 = .ok (.getfield 48, 3) := by decide +kernel
theorem d17_23 : decode prog_142_method_6_code 23 = .ok (.astore_n 2, 1) := by decide +kernel
theorem d17_24 : decode prog_142_method_6_code 24 = .ok (.goto (-19), 3) := by decide +kernel
set_option maxRecDepth 65536 in
set_option maxHeartbeats 40000000 in
theorem own_t17 {p : Program} {l : Launch} {e : Env} {R : Room} {s : State} {m : MethodId} {args : Array Value} {below : List Frame} {meth : Method} {c : Code} {T0 : State} {locs : List Loc} {cells slots : Nat} {Z : State} {a0 : Array Value} {h0 : Heap} (s0 : Slot) (o1 : Addr) (o2 : Addr) (w3 : Addr) (w5 : Value)
    (X0 : Stand p l e R s m args below meth c T0 locs cells slots) (hx : p.tables.exec = Jvm.exec) (hZ : Z.Warmed39 s.vm) (hw : ∀ d ∈ tables_1, d.before a0 Z = true) (hby : c.code = prog_142_method_6_code) (hml : c.maxLocals = 3) (hown : s.vm.findClass "com/example/fixpoint/fixpoint/expr/Symbol" = some m.cls) (e0 : T0.heap = h0) (h_w5 : Rf w5) (F_owner_o2 : Fld Z h0 o2 "com/example/fixpoint/fixpoint/expr/Symbol$Attachment" "owner" "Ljava/lang/Object;" (.ref w3)) (F_next_o2 : Fld Z h0 o2 "com/example/fixpoint/fixpoint/expr/Symbol$Attachment" "next" "Lcom/example/fixpoint/fixpoint/expr/Symbol$Attachment;" w5) (ha14 : ¬ (w3 = o1)) :
    ∃ (T' : State), Stand p l e R s m args below meth c T' locs cells slots ∧ T'.heap = h0 ∧
      ∀ target, Steps p.tables e below (T'.setTop (mkF m 5 #[s0, .val (.ref o1), .val w5] [])) target → Steps p.tables e below (T0.setTop (mkF m 5 #[s0, .val (.ref o1), .val (.ref o2)] [])) target := by
  obtain ⟨T4, X4, e4, st4⟩ := own_getFR X0 hx hZ hown (hw _ (List.mem_of_getElem? (i := 117) rfl)) e0 F_owner_o2 (g := (mkF m 10 #[s0, .val (.ref o1), .val (.ref o2)] [(.ref o2)])) rfl rfl (hb hby d17_10)
  obtain ⟨T6, X6, e6, st6⟩ := own_getFR X4 hx hZ hown (hw _ (List.mem_of_getElem? (i := 124) rfl)) e4 F_next_o2 (g := (mkF m 20 #[s0, .val (.ref o1), .val (.ref o2)] [(.ref o2)])) rfl rfl (hb hby d17_20)
  refine ⟨T6, X6, e6, fun target kt => ?_⟩
  show Steps p.tables e below (T0.setTop (mkF m 5 #[s0, .val (.ref o1), .val (.ref o2)] [])) _
  refine XS.aloadN X0.here hx rfl (hb hby d17_5) rfl rfl ?_
  show Steps p.tables e below (T0.setTop (mkF m 6 #[s0, .val (.ref o1), .val (.ref o2)] [(.ref o2)])) _
  refine XS.ifnullNo X0.here hx rfl (hb hby d17_6) rfl ?_
  show Steps p.tables e below (T0.setTop (mkF m 9 #[s0, .val (.ref o1), .val (.ref o2)] [])) _
  refine XS.aloadN X0.here hx rfl (hb hby d17_9) rfl rfl ?_
  show Steps p.tables e below (T0.setTop (mkF m 10 #[s0, .val (.ref o1), .val (.ref o2)] [(.ref o2)])) _
  refine st4 _ ?_
  show Steps p.tables e below (T4.setTop (mkF m 13 #[s0, .val (.ref o1), .val (.ref o2)] [(.ref w3)])) _
  refine XS.aloadN X4.here hx rfl (hb hby d17_13) rfl rfl ?_
  show Steps p.tables e below (T4.setTop (mkF m 14 #[s0, .val (.ref o1), .val (.ref o2)] [(.ref o1), (.ref w3)])) _
  refine Jvm.RoadKit.acmp (g := (mkF m 14 #[s0, .val (.ref o1), .val (.ref o2)] [(.ref o1), (.ref w3)])) X4 hx rfl rfl rfl (pc0 := 14) (pc' := 19) (same := false) rfl (hb hby d17_14) rfl (decide_eq_false fun q => ha14 (Value.ref.inj q)) (by decide) (by decide) ?_
  show Steps p.tables e below (T4.setTop (mkF m 19 #[s0, .val (.ref o1), .val (.ref o2)] [])) _
  refine XS.aloadN X4.here hx rfl (hb hby d17_19) rfl rfl ?_
  show Steps p.tables e below (T4.setTop (mkF m 20 #[s0, .val (.ref o1), .val (.ref o2)] [(.ref o2)])) _
  refine st6 _ ?_
  show Steps p.tables e below (T6.setTop (mkF m 23 #[s0, .val (.ref o1), .val (.ref o2)] [w5])) _
  refine XS.astoreN X6.here hx rfl (hb hby d17_23) rfl h_w5.is (l' := #[s0, .val (.ref o1), .val w5]) (by rcases h_w5 with q | ⟨o, q⟩ <;> rw [q] <;> rfl) ?_
  show Steps p.tables e below (T6.setTop (mkF m 24 #[s0, .val (.ref o1), .val w5] [])) _
  refine XS.goto X6.here hx rfl (pc0 := 24) (pc' := 5) rfl (hb hby d17_24) (by decide) (by decide) ?_
  exact kt
set_option maxRecDepth 65536 in
set_option maxHeartbeats 40000000 in
theorem own_f17 {p : Program} {l : Launch} {e : Env} {R : Room} {s : State} {m : MethodId} {args : Array Value} {below : List Frame} {meth : Method} {c : Code} {T0 : State} {locs : List Loc} {cells slots : Nat} {Z : State} {a0 : Array Value} {h0 : Heap} (s0 : Slot) (o1 : Addr) (o2 : Addr) (w3 : Addr)
    (X0 : Stand p l e R s m args below meth c T0 locs cells slots) (hx : p.tables.exec = Jvm.exec) (hZ : Z.Warmed39 s.vm) (hw : ∀ d ∈ tables_1, d.before a0 Z = true) (hby : c.code = prog_142_method_6_code) (hml : c.maxLocals = 3) (hown : s.vm.findClass "com/example/fixpoint/fixpoint/expr/Symbol" = some m.cls) (e0 : T0.heap = h0) (F_owner_o2 : Fld Z h0 o2 "com/example/fixpoint/fixpoint/expr/Symbol$Attachment" "owner" "Ljava/lang/Object;" (.ref w3)) (ha14 : w3 = o1) :
    ∃ (T' : State), Stand p l e R s m args below meth c T' locs cells slots ∧ T'.heap = h0 ∧
      ∀ target, Steps p.tables e below (T'.setTop (mkF m 17 #[s0, .val (.ref o1), .val (.ref o2)] [])) target → Steps p.tables e below (T0.setTop (mkF m 5 #[s0, .val (.ref o1), .val (.ref o2)] [])) target := by
  obtain ⟨T4, X4, e4, st4⟩ := own_getFR X0 hx hZ hown (hw _ (List.mem_of_getElem? (i := 117) rfl)) e0 F_owner_o2 (g := (mkF m 10 #[s0, .val (.ref o1), .val (.ref o2)] [(.ref o2)])) rfl rfl (hb hby d17_10)
  refine ⟨T4, X4, e4, fun target kt => ?_⟩
  show Steps p.tables e below (T0.setTop (mkF m 5 #[s0, .val (.ref o1), .val (.ref o2)] [])) _
  refine XS.aloadN X0.here hx rfl (hb hby d17_5) rfl rfl ?_
  show Steps p.tables e below (T0.setTop (mkF m 6 #[s0, .val (.ref o1), .val (.ref o2)] [(.ref o2)])) _
  refine XS.ifnullNo X0.here hx rfl (hb hby d17_6) rfl ?_
  show Steps p.tables e below (T0.setTop (mkF m 9 #[s0, .val (.ref o1), .val (.ref o2)] [])) _
  refine XS.aloadN X0.here hx rfl (hb hby d17_9) rfl rfl ?_
  show Steps p.tables e below (T0.setTop (mkF m 10 #[s0, .val (.ref o1), .val (.ref o2)] [(.ref o2)])) _
  refine st4 _ ?_
  show Steps p.tables e below (T4.setTop (mkF m 13 #[s0, .val (.ref o1), .val (.ref o2)] [(.ref w3)])) _
  refine XS.aloadN X4.here hx rfl (hb hby d17_13) rfl rfl ?_
  show Steps p.tables e below (T4.setTop (mkF m 14 #[s0, .val (.ref o1), .val (.ref o2)] [(.ref o1), (.ref w3)])) _
  refine Jvm.RoadKit.acmp (g := (mkF m 14 #[s0, .val (.ref o1), .val (.ref o2)] [(.ref o1), (.ref w3)])) X4 hx rfl rfl rfl (pc0 := 14) (pc' := 17) (same := true) rfl (hb hby d17_14) rfl (decide_eq_true (congrArg Value.ref ha14)) (by decide) (by decide) ?_
  exact kt


theorem d17_17 : decode prog_142_method_6_code 17 = .ok (.aload_n 2, 1) := by decide +kernel
theorem d17_18 : decode prog_142_method_6_code 18 = .ok (.areturn, 1) := by decide +kernel
theorem d17_27 : decode prog_142_method_6_code 27 = .ok (.aconst_null, 1) := by decide +kernel
theorem d17_28 : decode prog_142_method_6_code 28 = .ok (.areturn, 1) := by decide +kernel
theorem own_l17 {p : Program} {l : Launch} {e : Env} {R : Room} {s : State} {m : MethodId} {args : Array Value} {below : List Frame} {meth : Method} {c : Code} {locs : List Loc} {cells slots : Nat} {Z : State} {a0 : Array Value} {h0 : Heap} (q : Addr) (s0 : Slot) (hx : p.tables.exec = Jvm.exec) (hZ : Z.Warmed39 s.vm) (hw : ∀ d ∈ tables_1, d.before a0 Z = true) (hby : c.code = prog_142_method_6_code) (hml : c.maxLocals = 3) (hown : s.vm.findClass "com/example/fixpoint/fixpoint/expr/Symbol" = some m.cls) :
    ∀ (CH : List (Addr × Addr × Value)) (r : Value), Chn Z h0 CH r → ∀ {T0 : State} (X0 : Stand p l e R s m args below meth c T0 locs cells slots) (e0 : T0.heap = h0), ∃ T', Stand p l e R s m args below meth c T' locs cells slots ∧ T'.heap = h0 ∧
      ((own_find CH q = .null ∧ ∀ target, Steps p.tables e below (T'.setTop (mkF m 27 #[s0, .val (.ref q), .val .null] [])) target → Steps p.tables e below (T0.setTop (mkF m 5 #[s0, .val (.ref q), .val r] [])) target) ∨
       ∃ a, own_find CH q = .ref a ∧ ∀ target, Steps p.tables e below (T'.setTop (mkF m 17 #[s0, .val (.ref q), .val (.ref a)] [])) target → Steps p.tables e below (T0.setTop (mkF m 5 #[s0, .val (.ref q), .val r] [])) target) := by
  intro CH
  induction CH with
  | nil =>
    intro r C T0 X0 e0
    have C' : r = .null := C
    subst C'
    refine ⟨T0, X0, e0, Or.inl ⟨rfl, fun target kt => ?_⟩⟩
    refine XS.aloadN X0.here hx rfl (hb hby d17_5) rfl rfl ?_
    show Steps p.tables e below (T0.setTop (mkF m 6 #[s0, .val (.ref q), .val .null] [.null])) _
    refine XS.ifnullYes X0.here hx rfl (pc0 := 6) (pc' := 27) rfl (hb hby d17_6) rfl (by decide) (by decide) ?_
    exact kt
  | cons x CH ih =>
    obtain ⟨a, o, w⟩ := x
    intro r C T0 X0 e0
    obtain ⟨er, E, F1, F2, Rw, r', F3, C'⟩ := C
    subst er
    by_cases c1 : o = q
    · obtain ⟨T1, X1, e1, st1⟩ := own_f17 s0 q a o X0 hx hZ hw hby hml hown e0 F1 c1
      exact ⟨T1, X1, e1, Or.inr ⟨a, by rw [own_find, if_pos c1], st1⟩⟩
    · obtain ⟨T1, X1, e1, st1⟩ := own_t17 s0 q a o r' X0 hx hZ hw hby hml hown e0 C'.rf F1 F3 c1
      obtain ⟨T2, X2, e2, rr⟩ := ih r' C' X1 e1
      refine ⟨T2, X2, e2, ?_⟩
      rw [own_find, if_neg c1]
      rcases rr with ⟨g, st2⟩ | ⟨b, g, st2⟩
      · exact Or.inl ⟨g, fun target kt => st1 _ (st2 _ kt)⟩
      · exact Or.inr ⟨b, g, fun target kt => st1 _ (st2 _ kt)⟩
theorem d17_0 : decode prog_142_method_6_code 0 = .ok (.aload_n 0, 1) := by decide +kernel
theorem d17_1 : decode prog_142_method_6_code 1 = .ok (.getfield 38, 3) := by decide +kernel
theorem d17_4 : decode prog_142_method_6_code 4 = .ok (.astore_n 2, 1) := by decide +kernel
theorem pn_17 : plainName "com/example/fixpoint/fixpoint/expr/Symbol" = true := by first | (simp [plainName, overriddenIn]; done) | decide +kernel
theorem ef_17 (m : MethodId) (x0 : Addr) (x1 : Addr) : entryFrame m #[(.ref x0), (.ref x1)] 3 = mkF m 0 #[.val (.ref x0), .val (.ref x1), .unset] [] := by first | (simp [entryFrame, mkF, argsToLocals, Value.category]; done) | rfl
set_option maxRecDepth 65536 in
set_option maxHeartbeats 40000000 in
theorem rm17 (l : Launch) (Z : State) (a0 : Array Value) (hw : ∀ d ∈ tables_1, d.before a0 Z = true) (ws : List Jvm.Cond) (a1 : Addr) (a2 : Addr) (w3 : Value) (CH : List (Addr × Addr × Value)) (h0 : Heap) (n0 : Nat) (Z0 : n0 ≤ h0.size) (F_attachments_a1 : Fld Z h0 a1 "com/example/fixpoint/fixpoint/expr/Symbol" "attachments" "Lcom/example/fixpoint/fixpoint/expr/Symbol$Attachment;" w3) (C : Chn Z h0 CH w3) :
    MetFree l (⟨"com/example/fixpoint/fixpoint/expr/Symbol", "attachmentOf", "(Ljava/lang/Object;)Lcom/example/fixpoint/fixpoint/expr/Symbol$Attachment;"⟩ : MethodName) (head1 (Jvm.Cond.code (⟨"com/example/fixpoint/fixpoint/expr/Symbol", "attachmentOf", "(Ljava/lang/Object;)Lcom/example/fixpoint/fixpoint/expr/Symbol$Attachment;"⟩ : MethodName) prog_142_method_6_code 3 (some (.object "com/example/fixpoint/fixpoint/expr/Symbol$Attachment")) :: ws) ({ frames := 0, cells := 0, slots := 0, locals := 0 } : Room)) (fun a U => a = #[(.ref a1), (.ref a2)] ∧ Z.Warmed39 U.vm ∧ U.heap = h0) (fun _ _ _ _ _ => True) (fun _ U o U' => ∃ v L, o = .returned v ∧ QP (some (own_find CH a2)) h0 n0 v U'.heap L ∧ FrameEnd U o U' L ({ frames := 0, cells := 0, slots := 0, locals := 0 } : Room).cells ({ frames := 0, cells := 0, slots := 0, locals := 0 } : Room).slots) := by
  refine MetFree.of_bodySF (plainFor_of_name pn_17) hisR ?_
  intro p e s m args below meth c s₁ Bd hml0 hP hK
  obtain ⟨rfl, hZ, hh⟩ := hP
  have hx := Bd.exec
  have hby := Bd.bytes
  have hml : c.maxLocals = 3 := hml0
  have hown : s.vm.findClass "com/example/fixpoint/fixpoint/expr/Symbol" = some m.cls := findClass_of_methodNamed Bd.named
  have hnm := (name_of_methodNamed Bd.named Bd.method).1
  have X0 : Stand p l e ({ frames := 0, cells := 0, slots := 0, locals := 0 } : Room) s m #[(.ref a1), (.ref a2)] below meth c s₁ [] 0 0 := Stand.of_body Bd
  have e0 : s₁.heap = h0 := by rw [← hh, Bd.state]; rfl
  have N0 := Fr.nil n0
  have pre0 : ∀ t, Steps p.tables e below (s₁.setTop (mkF m 0 #[.val (.ref a1), .val (.ref a2), .unset] [])) t → Steps p.tables e below (s₁.setTop (entryFrame m #[(.ref a1), (.ref a2)] 3)) t := fun t k => castTop (ef_17 m a1 a2) k
  obtain ⟨T4, X4, e4, st4⟩ := getF X0 hx hZ hown (host := "") (Or.inl (hw _ (List.mem_of_getElem? (i := 102) rfl))) Via.refl e0 F_attachments_a1 (g := (mkF m 1 #[.val (.ref a1), .val (.ref a2), .unset] [(.ref a1)])) rfl rfl (hb hby d17_1)
  obtain ⟨T5, X5, e5, rr⟩ := own_l17 a2 (.val (.ref a1)) hx hZ hw hby hml hown CH w3 C X4 e4
  rcases rr with ⟨hq, st5⟩ | ⟨b, hq, st5⟩
  · obtain ⟨fs, hr, hrun, hended, hW, hsame⟩ := X5.leave (v := some .null) (fun h => by rw [Bd.returns] at h; cases h)
    refine ⟨_, _, pre0 _ ?_, hrun, hended, _, _, rfl, ?_, ⟨_, rfl⟩, hW, hsame.mono (by decide) (by decide)⟩
    · show Steps p.tables e below (s₁.setTop (mkF m 0 #[.val (.ref a1), .val (.ref a2), .unset] [])) _
      refine XS.aloadN X0.here hx rfl (hb hby d17_0) rfl rfl ?_
      show Steps p.tables e below (s₁.setTop (mkF m 1 #[.val (.ref a1), .val (.ref a2), .unset] [(.ref a1)])) _
      refine st4 _ ?_
      show Steps p.tables e below (T4.setTop (mkF m 4 #[.val (.ref a1), .val (.ref a2), .unset] [w3])) _
      refine XS.astoreN X4.here hx rfl (hb hby d17_4) rfl C.rf.is (l' := #[.val (.ref a1), .val (.ref a2), .val w3]) (by rcases C.rf with q | ⟨o, q⟩ <;> rw [q] <;> rfl) ?_
      refine st5 _ ?_
      show Steps p.tables e below (T5.setTop (mkF m 27 #[.val (.ref a1), .val (.ref a2), .val .null] [])) _
      refine XS.aconstNull X5.here hx rfl (hb hby d17_27) ?_
      show Steps p.tables e below (T5.setTop (mkF m 28 #[.val (.ref a1), .val (.ref a2), .val .null] [.null])) _
      jvm_step X5.here [X5.here.top, hx, (hb hby d17_28), X5.method', Bd.returns, Value.isRef, FieldType.isReference]
      first | (intro acts; rw [hr _ acts rfl rfl rfl]) | rw [hr _ _ rfl rfl rfl]
      exact Steps.refl _
    · show QP _ h0 n0 _ T5.heap _
      rw [e5, hq]
      exact ⟨rfl, N0, rfl⟩
  · obtain ⟨fs, hr, hrun, hended, hW, hsame⟩ := X5.leave (v := some (.ref b)) (fun h => by rw [Bd.returns] at h; cases h)
    refine ⟨_, _, pre0 _ ?_, hrun, hended, _, _, rfl, ?_, ⟨_, rfl⟩, hW, hsame.mono (by decide) (by decide)⟩
    · show Steps p.tables e below (s₁.setTop (mkF m 0 #[.val (.ref a1), .val (.ref a2), .unset] [])) _
      refine XS.aloadN X0.here hx rfl (hb hby d17_0) rfl rfl ?_
      show Steps p.tables e below (s₁.setTop (mkF m 1 #[.val (.ref a1), .val (.ref a2), .unset] [(.ref a1)])) _
      refine st4 _ ?_
      show Steps p.tables e below (T4.setTop (mkF m 4 #[.val (.ref a1), .val (.ref a2), .unset] [w3])) _
      refine XS.astoreN X4.here hx rfl (hb hby d17_4) rfl C.rf.is (l' := #[.val (.ref a1), .val (.ref a2), .val w3]) (by rcases C.rf with q | ⟨o, q⟩ <;> rw [q] <;> rfl) ?_
      refine st5 _ ?_
      show Steps p.tables e below (T5.setTop (mkF m 17 #[.val (.ref a1), .val (.ref a2), .val (.ref b)] [])) _
      refine XS.aloadN X5.here hx rfl (hb hby d17_17) rfl rfl ?_
      show Steps p.tables e below (T5.setTop (mkF m 18 #[.val (.ref a1), .val (.ref a2), .val (.ref b)] [(.ref b)])) _
      jvm_step X5.here [X5.here.top, hx, (hb hby d17_18), X5.method', Bd.returns, Value.isRef, FieldType.isReference]
      first | (intro acts; rw [hr _ acts rfl rfl rfl]) | rw [hr _ _ rfl rfl rfl]
      exact Steps.refl _
    · show QP _ h0 n0 _ T5.heap _
      rw [e5, hq]
      exact ⟨rfl, N0, rfl⟩
def Q16 (Z : State) (sy q : Addr) (v : Value) (CH : List (Addr × Addr × Value)) (h0 : Heap) (n0 : Nat) (vv : Option Value) (h : Heap) (L : List Loc) : Prop := vv = none ∧ Fr n0 L ∧ Keep h0 h (sy :: own_adr CH) ∧ Exa Z h sy "com/example/fixpoint/fixpoint/expr/Symbol" ∧ ∃ (CH' : List (Addr × Addr × Value)) (hd' : Value), Fld Z h sy "com/example/fixpoint/fixpoint/expr/Symbol" "attachments" "Lcom/example/fixpoint/fixpoint/expr/Symbol$Attachment;" hd' ∧ Chn Z h CH' hd' ∧ (own_adr CH').Nodup ∧ (∀ a ∈ own_adr CH', a ∈ own_adr CH ∨ h0.size ≤ a) ∧ ∀ x, own_look CH' x = if q = x then v else own_look CH x
theorem own_sn1 {Z : State} {a0 : Array Value} (hw : ∀ d ∈ tables_1, d.before a0 Z = true) : RoadKit.slotOf Z "com/example/fixpoint/fixpoint/expr/Symbol$Attachment" "owner" "Ljava/lang/Object;" ≠ RoadKit.slotOf Z "com/example/fixpoint/fixpoint/expr/Symbol$Attachment" "value" "Ljava/lang/Object;" := slot_ne (Or.inr (hw _ (List.mem_of_getElem? (i := 112) rfl))) (Or.inl (hw _ (List.mem_of_getElem? (i := 114) rfl))) (by decide) (t := (.object "java/lang/Object")) (t' := (.object "java/lang/Object")) (by decide) (by decide)
theorem own_sn2 {Z : State} {a0 : Array Value} (hw : ∀ d ∈ tables_1, d.before a0 Z = true) : RoadKit.slotOf Z "com/example/fixpoint/fixpoint/expr/Symbol$Attachment" "next" "Lcom/example/fixpoint/fixpoint/expr/Symbol$Attachment;" ≠ RoadKit.slotOf Z "com/example/fixpoint/fixpoint/expr/Symbol$Attachment" "value" "Ljava/lang/Object;" := slot_ne (Or.inr (hw _ (List.mem_of_getElem? (i := 116) rfl))) (Or.inl (hw _ (List.mem_of_getElem? (i := 114) rfl))) (by decide) (t := (.object "com/example/fixpoint/fixpoint/expr/Symbol$Attachment")) (t' := (.object "java/lang/Object")) (by decide) (by decide)
theorem d16_0 : decode prog_142_method_5_code 0 = .ok (.aload_n 0, 1) := by decide +kernel
theorem d16_1 : decode prog_142_method_5_code 1 = .ok (.aload_n 1, 1) := by decide +kernel
theorem d16_2 : decode prog_142_method_5_code 2 = .ok (.invokevirtual 28, 3) := by decide +kernel
theorem d16_5 : decode prog_142_method_5_code 5 = .ok (.astore_n 3, 1) := by decide +kernel
theorem d16_6 : decode prog_142_method_5_code 6 = .ok (.aload_n 3, 1) := by decide +kernel
theorem d16_7 : decode prog_142_method_5_code 7 = .ok (.ifnull 11, 3) := by decide +kernel
theorem d16_10 : decode prog_142_method_5_code 10 = .ok (.aload_n 3, 1) := by decide +kernel
theorem d16_11 : decode prog_142_method_5_code 11 = .ok (.aload_n 2, 1) := by decide +kernel
theorem d16_12 : decode prog_142_method_5_code 12 = .ok (.putfield 32, 3) := by decide +kernel
theorem d16_15 : decode prog_142_method_5_code 15 = .ok (.goto 20, 3) := by decide +kernel
theorem d16_35 : decode prog_142_method_5_code 35 = .ok (.return_, 1) := by decide +kernel
theorem pn_16 : plainName "com/example/fixpoint/fixpoint/expr/Symbol" = true := by first | (simp [plainName, overriddenIn]; done) | decide +kernel
theorem pd_16_16 : parseMethodDescriptor "(Ljava/lang/Object;)Lcom/example/fixpoint/fixpoint/expr/Symbol$Attachment;" = some ⟨[(.object "java/lang/Object")], some (.object "com/example/fixpoint/fixpoint/expr/Symbol$Attachment")⟩ := by decide +kernel
theorem ef_16 (m : MethodId) (x0 : Addr) (x1 : Addr) (x2 : Value) (h2 : Rf x2) : entryFrame m #[(.ref x0), (.ref x1), x2] 4 = mkF m 0 #[.val (.ref x0), .val (.ref x1), .val x2, .unset] [] := by rcases h2 with q2 | ⟨o2, q2⟩ <;> subst q2 <;> first | (simp [entryFrame, mkF, argsToLocals, Value.category]; done) | rfl
set_option maxRecDepth 65536 in
set_option maxHeartbeats 40000000 in
theorem rm16_f (l : Launch) (Z : State) (a0 : Array Value) (hw : ∀ d ∈ tables_1, d.before a0 Z = true) (ws : List Jvm.Cond) (a1 : Addr) (a2 : Addr) (r3 : Value) (a9 : Addr) (u_value_a9 : Value) (h0 : Heap) (n0 : Nat) (Z0 : n0 ≤ h0.size) (CH : List (Addr × Addr × Value)) (hd : Value) (F_att : Fld Z h0 a1 "com/example/fixpoint/fixpoint/expr/Symbol" "attachments" "Lcom/example/fixpoint/fixpoint/expr/Symbol$Attachment;" hd) (C : Chn Z h0 CH hd) (nd : (own_adr CH).Nodup) (nsy : a1 ∉ own_adr CH) (hf : own_find CH a2 = .ref a9) (h_r3 : Rf r3) (CALL_4_17 : MetFree l (⟨"com/example/fixpoint/fixpoint/expr/Symbol", "attachmentOf", "(Ljava/lang/Object;)Lcom/example/fixpoint/fixpoint/expr/Symbol$Attachment;"⟩ : MethodName) (head1 [Jvm.Cond.code (⟨"com/example/fixpoint/fixpoint/expr/Symbol", "attachmentOf", "(Ljava/lang/Object;)Lcom/example/fixpoint/fixpoint/expr/Symbol$Attachment;"⟩ : MethodName) prog_142_method_6_code 3 (some (.object "com/example/fixpoint/fixpoint/expr/Symbol$Attachment"))] ({ frames := 0, cells := 0, slots := 0, locals := 0 } : Room)) (fun a U => a = #[(.ref a1), (.ref a2)] ∧ Z.Warmed39 U.vm ∧ U.heap = h0) (fun _ _ _ _ _ => True) (fun _ U o U' => ∃ v L, o = .returned v ∧ QP (some (.ref a9)) h0 n0 v U'.heap L ∧ FrameEnd U o U' L ({ frames := 0, cells := 0, slots := 0, locals := 0 } : Room).cells ({ frames := 0, cells := 0, slots := 0, locals := 0 } : Room).slots)) (E_a1 : Exa Z h0 a1 "com/example/fixpoint/fixpoint/expr/Symbol") (E_a9 : Exa Z h0 a9 "com/example/fixpoint/fixpoint/expr/Symbol$Attachment") (F_value_a9 : Fld Z h0 a9 "com/example/fixpoint/fixpoint/expr/Symbol$Attachment" "value" "Ljava/lang/Object;" u_value_a9) (g_a9 : n0 ≤ a9) :
    MetFree l (⟨"com/example/fixpoint/fixpoint/expr/Symbol", "attach", "(Ljava/lang/Object;Ljava/lang/Object;)V"⟩ : MethodName) (head1 (Jvm.Cond.code (⟨"com/example/fixpoint/fixpoint/expr/Symbol", "attach", "(Ljava/lang/Object;Ljava/lang/Object;)V"⟩ : MethodName) prog_142_method_5_code 4 none :: ws) ({ frames := 2, cells := 1, slots := 3, locals := 29 } : Room)) (fun a U => a = #[(.ref a1), (.ref a2), r3] ∧ Z.Warmed39 U.vm ∧ U.heap = h0) (fun _ _ _ _ _ => True) (fun _ U o U' => ∃ v L, o = .returned v ∧ Q16 Z a1 a2 r3 CH h0 n0 v U'.heap L ∧ FrameEnd U o U' L ({ frames := 2, cells := 1, slots := 3, locals := 29 } : Room).cells ({ frames := 2, cells := 1, slots := 3, locals := 29 } : Room).slots) := by
  refine MetFree.of_bodySF (plainFor_of_name pn_16) hisR ?_
  intro p e s m args below meth c s₁ Bd hml0 hP hK
  obtain ⟨rfl, hZ, hh⟩ := hP
  have hx := Bd.exec
  have hby := Bd.bytes
  have hml : c.maxLocals = 4 := hml0
  have hown : s.vm.findClass "com/example/fixpoint/fixpoint/expr/Symbol" = some m.cls := findClass_of_methodNamed Bd.named
  have hnm := (name_of_methodNamed Bd.named Bd.method).1
  have X0 : Stand p l e ({ frames := 2, cells := 1, slots := 3, locals := 29 } : Room) s m #[(.ref a1), (.ref a2), r3] below meth c s₁ [] 0 0 := Stand.of_body Bd
  have e0 : s₁.heap = h0 := by rw [← hh, Bd.state]; rfl
  have N0 := Fr.nil n0
  have pre0 : ∀ t, Steps p.tables e below (s₁.setTop (mkF m 0 #[.val (.ref a1), .val (.ref a2), .val r3, .unset] [])) t → Steps p.tables e below (s₁.setTop (entryFrame m #[(.ref a1), (.ref a2), r3] 4)) t := fun t k => castTop (ef_16 m a1 a2 r3 h_r3) k
  obtain ⟨cq4, q4, q4'⟩ := E_a1.cell
  obtain ⟨_, _, ⟨T4, L4, k4, n4⟩, -, X4, ⟨Lc4, hQ4, l4, y4, z4⟩, st4⟩ := X0.privateBack hx (y := (⟨"com/example/fixpoint/fixpoint/expr/Symbol", "attachmentOf", "(Ljava/lang/Object;)Lcom/example/fixpoint/fixpoint/expr/Symbol$Attachment;"⟩ : MethodName)) hown (mvT hZ (hw _ (List.mem_of_getElem? (i := 98) rfl))) (mvT hZ (hw _ (List.mem_of_getElem? (i := 99) rfl))) (own_selP (y := (⟨"com/example/fixpoint/fixpoint/expr/Symbol", "attachmentOf", "(Ljava/lang/Object;)Lcom/example/fixpoint/fixpoint/expr/Symbol$Attachment;"⟩ : MethodName)) hZ (hw _ (List.mem_of_getElem? (i := 42) rfl)) (hw _ (List.mem_of_getElem? (i := 100) rfl)) (hw _ (List.mem_of_getElem? (i := 99) rfl)) (by decide)) (Cond.privateMethod_at (mvP hZ (hw _ (List.mem_of_getElem? (i := 100) rfl)) (args := #[]))) (mvT hZ (hw _ (List.mem_of_getElem? (i := 101) rfl))) (by decide) (backOf (W := 0) CALL_4_17 hZ (hw _ (List.mem_of_getElem? (i := 101) rfl)) (hw _ (List.mem_of_getElem? (i := 43) rfl)) (by decide) (by decide)) (g := (mkF m 2 #[.val (.ref a1), .val (.ref a2), .val r3, .unset] [(.ref a2), (.ref a1)])) rfl (by rw [hml]; rfl) (Steps.refl _) (a := a1) (by rw [e0]; exact q4) q4' (argsL := [(.ref a2)]) (rest := []) (lenOf pd_16_16 rfl) rfl (by show 2 * 0 + _ ≤ _; exact Nat.le_of_eq rfl) (hb hby d16_2) (fun _ _ => ⟨rfl, e0, (by decide : 0 + 0 ≤ _), (by decide : 0 + 0 ≤ _)⟩)
  dsimp only [Pt.U, Pt.locs, Pt.cells, Pt.slots] at X4 l4 y4 z4 st4 hQ4
  subst l4 y4 z4
  obtain ⟨rfl, N4q, eh4⟩ := hQ4
  have N4 := Fr.app N0 N4q
  obtain ⟨T5, h5, X5, e5, W5, st5⟩ := own_putFR X4 hx hZ hown (hw _ (List.mem_of_getElem? (i := 118) rfl)) eh4 F_value_a9 E_a9 (hw _ (List.mem_of_getElem? (i := 114) rfl)) (hw _ (List.mem_of_getElem? (i := 105) rfl)) (ty := (.object "java/lang/Object")) (by decide) h_r3.nar h_r3.fit (g := (mkF m 12 #[.val (.ref a1), .val (.ref a2), .val r3, .val (.ref a9)] [r3, (.ref a9)])) rfl rfl (hb hby d16_12)
  have Fw5 := F_value_a9.same W5
  have K5 : Keep h0 h5 [a9] := (Keep.refl h0 [a9]).wr W5 (Or.inl (List.mem_of_getElem? (i := 0) rfl))
  have N5 := Fr.snoc X5 N4 g_a9
  obtain ⟨fs, hr, hrun, hended, hW, hsame⟩ := X5.leave (v := none) (fun _ => rfl)
  refine ⟨_, _, pre0 _ ?_, hrun, hended, _, _, rfl, ?_, ⟨_, rfl⟩, hW, hsame.mono (by decide) (by decide)⟩
  · show Steps p.tables e below (s₁.setTop (mkF m 0 #[.val (.ref a1), .val (.ref a2), .val r3, .unset] [])) _
    refine XS.aloadN X0.here hx rfl (hb hby d16_0) rfl rfl ?_
    show Steps p.tables e below (s₁.setTop (mkF m 1 #[.val (.ref a1), .val (.ref a2), .val r3, .unset] [(.ref a1)])) _
    refine XS.aloadN X0.here hx rfl (hb hby d16_1) rfl rfl ?_
    show Steps p.tables e below (s₁.setTop (mkF m 2 #[.val (.ref a1), .val (.ref a2), .val r3, .unset] [(.ref a2), (.ref a1)])) _
    refine st4.trans ?_
    show Steps p.tables e below (T4.setTop (mkF m 5 #[.val (.ref a1), .val (.ref a2), .val r3, .unset] [(.ref a9)])) _
    refine XS.astoreN X4.here hx rfl (hb hby d16_5) rfl rfl (l' := #[.val (.ref a1), .val (.ref a2), .val r3, .val (.ref a9)]) rfl ?_
    show Steps p.tables e below (T4.setTop (mkF m 6 #[.val (.ref a1), .val (.ref a2), .val r3, .val (.ref a9)] [])) _
    refine XS.aloadN X4.here hx rfl (hb hby d16_6) rfl rfl ?_
    show Steps p.tables e below (T4.setTop (mkF m 7 #[.val (.ref a1), .val (.ref a2), .val r3, .val (.ref a9)] [(.ref a9)])) _
    refine XS.ifnullNo X4.here hx rfl (hb hby d16_7) rfl ?_
    show Steps p.tables e below (T4.setTop (mkF m 10 #[.val (.ref a1), .val (.ref a2), .val r3, .val (.ref a9)] [])) _
    refine XS.aloadN X4.here hx rfl (hb hby d16_10) rfl rfl ?_
    show Steps p.tables e below (T4.setTop (mkF m 11 #[.val (.ref a1), .val (.ref a2), .val r3, .val (.ref a9)] [(.ref a9)])) _
    refine XS.aloadN X4.here hx rfl (hb hby d16_11) rfl h_r3.is ?_
    show Steps p.tables e below (T4.setTop (mkF m 12 #[.val (.ref a1), .val (.ref a2), .val r3, .val (.ref a9)] [r3, (.ref a9)])) _
    refine st5 _ ?_
    show Steps p.tables e below (T5.setTop (mkF m 15 #[.val (.ref a1), .val (.ref a2), .val r3, .val (.ref a9)] [])) _
    refine XS.goto X5.here hx rfl (pc0 := 15) (pc' := 35) rfl (hb hby d16_15) (by decide) (by decide) ?_
    show Steps p.tables e below (T5.setTop (mkF m 35 #[.val (.ref a1), .val (.ref a2), .val r3, .val (.ref a9)] [])) _
    exact X5.returnOut hx Bd.returns (hb hby d16_35) hr
  · show Q16 Z a1 a2 r3 CH h0 n0 _ T5.heap _
    rw [e5]
    exact ⟨rfl, N5, own_keep_sub K5 (fun x z => by cases List.mem_singleton.mp z; exact List.mem_cons_of_mem _ (own_find_mem CH hf)), E_a1.wr W5, own_upd CH a2 r3, hd, F_att.other W5 (Or.inl (fun z => nsy (z ▸ own_find_mem CH hf))), Chn.upd W5 h_r3 (own_sn1 hw) (own_sn2 hw) nd hf C, by rw [own_upd_adr]; exact nd, fun x z => Or.inl (by rw [own_upd_adr] at z; exact z), fun x => own_look_upd x CH hf⟩
theorem d16_18 : decode prog_142_method_5_code 18 = .ok (.aload_n 0, 1) := by decide +kernel
theorem d16_19 : decode prog_142_method_5_code 19 = .ok (.new 33, 3) := by decide +kernel
theorem d16_22 : decode prog_142_method_5_code 22 = .ok (.dup, 1) := by decide +kernel
theorem d16_23 : decode prog_142_method_5_code 23 = .ok (.aload_n 1, 1) := by decide +kernel
theorem d16_24 : decode prog_142_method_5_code 24 = .ok (.aload_n 2, 1) := by decide +kernel
theorem d16_25 : decode prog_142_method_5_code 25 = .ok (.aload_n 0, 1) := by decide +kernel
theorem d16_26 : decode prog_142_method_5_code 26 = .ok (.getfield 38, 3) := by decide +kernel
theorem d16_29 : decode prog_142_method_5_code 29 = .ok (.invokespecial 42, 3) := by decide +kernel
theorem d16_32 : decode prog_142_method_5_code 32 = .ok (.putfield 38, 3) := by decide +kernel
theorem pd_16_17 : parseMethodDescriptor "(Ljava/lang/Object;Ljava/lang/Object;Lcom/example/fixpoint/fixpoint/expr/Symbol$Attachment;)V" = some ⟨[(.object "java/lang/Object"), (.object "java/lang/Object"), (.object "com/example/fixpoint/fixpoint/expr/Symbol$Attachment")], none⟩ := by decide +kernel
set_option maxRecDepth 65536 in
set_option maxHeartbeats 40000000 in
theorem rm16_t (l : Launch) (Z : State) (a0 : Array Value) (hw : ∀ d ∈ tables_1, d.before a0 Z = true) (ws : List Jvm.Cond) (a1 : Addr) (a2 : Addr) (r3 : Value) (w6 : Value) (h0 : Heap) (n0 : Nat) (Z0 : n0 ≤ h0.size) (CH : List (Addr × Addr × Value)) (C : Chn Z h0 CH w6) (nd : (own_adr CH).Nodup) (nsy : a1 ∉ own_adr CH) (hf : own_find CH a2 = .null) (h_r3 : Rf r3) (h_w6 : Rf w6) (CALL_4_17 : MetFree l (⟨"com/example/fixpoint/fixpoint/expr/Symbol", "attachmentOf", "(Ljava/lang/Object;)Lcom/example/fixpoint/fixpoint/expr/Symbol$Attachment;"⟩ : MethodName) (head1 [Jvm.Cond.code (⟨"com/example/fixpoint/fixpoint/expr/Symbol", "attachmentOf", "(Ljava/lang/Object;)Lcom/example/fixpoint/fixpoint/expr/Symbol$Attachment;"⟩ : MethodName) prog_142_method_6_code 3 (some (.object "com/example/fixpoint/fixpoint/expr/Symbol$Attachment"))] ({ frames := 0, cells := 0, slots := 0, locals := 0 } : Room)) (fun a U => a = #[(.ref a1), (.ref a2)] ∧ Z.Warmed39 U.vm ∧ U.heap = h0) (fun _ _ _ _ _ => True) (fun _ U o U' => ∃ v L, o = .returned v ∧ QP (some .null) h0 n0 v U'.heap L ∧ FrameEnd U o U' L ({ frames := 0, cells := 0, slots := 0, locals := 0 } : Room).cells ({ frames := 0, cells := 0, slots := 0, locals := 0 } : Room).slots)) (E_a1 : Exa Z h0 a1 "com/example/fixpoint/fixpoint/expr/Symbol") (F_attachments_a1 : Fld Z h0 a1 "com/example/fixpoint/fixpoint/expr/Symbol" "attachments" "Lcom/example/fixpoint/fixpoint/expr/Symbol$Attachment;" w6) (g_a1 : n0 ≤ a1) :
    MetFree l (⟨"com/example/fixpoint/fixpoint/expr/Symbol", "attach", "(Ljava/lang/Object;Ljava/lang/Object;)V"⟩ : MethodName) (head1 (Jvm.Cond.code (⟨"com/example/fixpoint/fixpoint/expr/Symbol", "attach", "(Ljava/lang/Object;Ljava/lang/Object;)V"⟩ : MethodName) prog_142_method_5_code 4 none :: ws) ({ frames := 2, cells := 1, slots := 3, locals := 29 } : Room)) (fun a U => a = #[(.ref a1), (.ref a2), r3] ∧ Z.Warmed39 U.vm ∧ U.heap = h0) (fun _ _ _ _ _ => True) (fun _ U o U' => ∃ v L, o = .returned v ∧ Q16 Z a1 a2 r3 CH h0 n0 v U'.heap L ∧ FrameEnd U o U' L ({ frames := 2, cells := 1, slots := 3, locals := 29 } : Room).cells ({ frames := 2, cells := 1, slots := 3, locals := 29 } : Room).slots) := by
  refine MetFree.of_bodySF (plainFor_of_name pn_16) hisR ?_
  intro p e s m args below meth c s₁ Bd hml0 hP hK
  obtain ⟨rfl, hZ, hh⟩ := hP
  have hx := Bd.exec
  have hby := Bd.bytes
  have hml : c.maxLocals = 4 := hml0
  have hown : s.vm.findClass "com/example/fixpoint/fixpoint/expr/Symbol" = some m.cls := findClass_of_methodNamed Bd.named
  have hnm := (name_of_methodNamed Bd.named Bd.method).1
  have X0 : Stand p l e ({ frames := 2, cells := 1, slots := 3, locals := 29 } : Room) s m #[(.ref a1), (.ref a2), r3] below meth c s₁ [] 0 0 := Stand.of_body Bd
  have e0 : s₁.heap = h0 := by rw [← hh, Bd.state]; rfl
  have N0 := Fr.nil n0
  have pre0 : ∀ t, Steps p.tables e below (s₁.setTop (mkF m 0 #[.val (.ref a1), .val (.ref a2), .val r3, .unset] [])) t → Steps p.tables e below (s₁.setTop (entryFrame m #[(.ref a1), (.ref a2), r3] 4)) t := fun t k => castTop (ef_16 m a1 a2 r3 h_r3) k
  obtain ⟨cq4, q4, q4'⟩ := E_a1.cell
  obtain ⟨_, _, ⟨T4, L4, k4, n4⟩, -, X4, ⟨Lc4, hQ4, l4, y4, z4⟩, st4⟩ := X0.privateBack hx (y := (⟨"com/example/fixpoint/fixpoint/expr/Symbol", "attachmentOf", "(Ljava/lang/Object;)Lcom/example/fixpoint/fixpoint/expr/Symbol$Attachment;"⟩ : MethodName)) hown (mvT hZ (hw _ (List.mem_of_getElem? (i := 98) rfl))) (mvT hZ (hw _ (List.mem_of_getElem? (i := 99) rfl))) (own_selP (y := (⟨"com/example/fixpoint/fixpoint/expr/Symbol", "attachmentOf", "(Ljava/lang/Object;)Lcom/example/fixpoint/fixpoint/expr/Symbol$Attachment;"⟩ : MethodName)) hZ (hw _ (List.mem_of_getElem? (i := 42) rfl)) (hw _ (List.mem_of_getElem? (i := 100) rfl)) (hw _ (List.mem_of_getElem? (i := 99) rfl)) (by decide)) (Cond.privateMethod_at (mvP hZ (hw _ (List.mem_of_getElem? (i := 100) rfl)) (args := #[]))) (mvT hZ (hw _ (List.mem_of_getElem? (i := 101) rfl))) (by decide) (backOf (W := 0) CALL_4_17 hZ (hw _ (List.mem_of_getElem? (i := 101) rfl)) (hw _ (List.mem_of_getElem? (i := 43) rfl)) (by decide) (by decide)) (g := (mkF m 2 #[.val (.ref a1), .val (.ref a2), .val r3, .unset] [(.ref a2), (.ref a1)])) rfl (by rw [hml]; rfl) (Steps.refl _) (a := a1) (by rw [e0]; exact q4) q4' (argsL := [(.ref a2)]) (rest := []) (lenOf pd_16_16 rfl) rfl (by show 2 * 0 + _ ≤ _; exact Nat.le_of_eq rfl) (hb hby d16_2) (fun _ _ => ⟨rfl, e0, (by decide : 0 + 0 ≤ _), (by decide : 0 + 0 ≤ _)⟩)
  dsimp only [Pt.U, Pt.locs, Pt.cells, Pt.slots] at X4 l4 y4 z4 st4 hQ4
  subst l4 y4 z4
  obtain ⟨rfl, N4q, eh4⟩ := hQ4
  have N4 := Fr.app N0 N4q
  obtain ⟨T5, h5, X5, e5, E5, A5, D5, -, st5⟩ := newO X4 hx hZ hown (hw _ (List.mem_of_getElem? (i := 104) rfl)) (hw _ (List.mem_of_getElem? (i := 105) rfl)) (hw _ (List.mem_of_getElem? (i := 106) rfl)) eh4 (g := (mkF m 19 #[.val (.ref a1), .val (.ref a2), .val r3, .val .null] [(.ref a1)])) rfl (hb hby d16_19) (by decide) (by decide)
  obtain ⟨b5, g5⟩ : ∃ z, z = h0.size := ⟨_, rfl⟩
  rw [← g5] at A5 D5 st5
  have F_owner_b5 : Fld Z h5 b5 "com/example/fixpoint/fixpoint/expr/Symbol$Attachment" "owner" "Ljava/lang/Object;" .null := D5 (Or.inr (hw _ (List.mem_of_getElem? (i := 112) rfl))) (ty := (.object "java/lang/Object")) (by decide)
  have F_value_b5 : Fld Z h5 b5 "com/example/fixpoint/fixpoint/expr/Symbol$Attachment" "value" "Ljava/lang/Object;" .null := D5 (Or.inl (hw _ (List.mem_of_getElem? (i := 114) rfl))) (ty := (.object "java/lang/Object")) (by decide)
  have F_next_b5 : Fld Z h5 b5 "com/example/fixpoint/fixpoint/expr/Symbol$Attachment" "next" "Lcom/example/fixpoint/fixpoint/expr/Symbol$Attachment;" .null := D5 (Or.inr (hw _ (List.mem_of_getElem? (i := 116) rfl))) (ty := (.object "com/example/fixpoint/fixpoint/expr/Symbol$Attachment")) (by decide)
  have E_b5 := A5
  have g_b5 : n0 ≤ b5 := Nat.le_trans Z0 (Nat.le_of_eq g5.symm)
  have sz_b5 : h0.size ≤ b5 := (Nat.le_trans (Keep.refl h0 [a1]).1 (Nat.le_of_eq g5.symm))
  have K5 : Keep h0 h5 [] := (Keep.refl h0 []).ext E5
  obtain ⟨T7, X7, e7, st7⟩ := getF X5 hx hZ hown (host := "") (Or.inl (hw _ (List.mem_of_getElem? (i := 102) rfl))) Via.refl e5 (F_attachments_a1.ext E5) (g := (mkF m 26 #[.val (.ref a1), .val (.ref a2), .val r3, .val .null] [(.ref a1), r3, (.ref a2), (.ref b5), (.ref b5), (.ref a1)])) rfl rfl (hb hby d16_26)
  obtain ⟨_, _, ⟨T8, L8, k8, n8⟩, -, X8, ⟨Lc8, hQ8, l8, y8, z8⟩, st8⟩ := X7.specialBack hx (y := (⟨"com/example/fixpoint/fixpoint/expr/Symbol$Attachment", "<init>", "(Ljava/lang/Object;Ljava/lang/Object;Lcom/example/fixpoint/fixpoint/expr/Symbol$Attachment;)V"⟩ : MethodName)) rfl hown (mvT hZ (hw _ (List.mem_of_getElem? (i := 107) rfl))) (mvT hZ (hw _ (List.mem_of_getElem? (i := 108) rfl))) (mvT hZ (hw _ (List.mem_of_getElem? (i := 109) rfl))) (by decide) (backOf (W := 2) (rm18 l Z a0 hw [] b5 a2 r3 w6 .null .null .null h5 n0 (Nat.le_trans Z0 E5.1) h_r3 h_w6 E_b5 F_owner_b5 g_b5 F_value_b5 F_next_b5) hZ (hw _ (List.mem_of_getElem? (i := 109) rfl)) (hw _ (List.mem_of_getElem? (i := 106) rfl)) (by decide) (by decide)) (g := (mkF m 29 #[.val (.ref a1), .val (.ref a2), .val r3, .val .null] [w6, r3, (.ref a2), (.ref b5), (.ref b5), (.ref a1)])) rfl (by rw [hml]; rfl) (Steps.refl _) (a := b5) (argsL := [(.ref a2), r3, w6]) (rest := [(.ref b5), (.ref a1)]) (lenOf pd_16_17 rfl) rfl (by show 2 * 0 + _ ≤ _; exact Nat.le_of_eq rfl) (hb hby d16_29) (fun _ _ => ⟨rfl, e7, (by decide : 1 + 0 ≤ _), (by decide : 3 + 0 ≤ _)⟩)
  dsimp only [Pt.U, Pt.locs, Pt.cells, Pt.slots] at X8 l8 y8 z8 st8 hQ8
  subst l8 y8 z8
  obtain ⟨rfl, N8q, K8i, E8i, F8o, F8v, F8n⟩ := hQ8
  have nb : a1 ≠ b5 := Nat.ne_of_lt (Nat.lt_of_lt_of_le E_a1.lt (Nat.le_of_eq g5.symm))
  have ni5 : a1 ∉ [b5] := fun z => nb (List.mem_singleton.mp z)
  have KK8 : Keep h0 T8.heap [a1] := (own_keep_sub K5 (fun x z => nomatch z)).trans K8i (fun x z => Or.inr (by cases List.mem_singleton.mp z; exact sz_b5))
  have N8 := Fr.app N4 N8q
  obtain ⟨T9, h9, X9, e9, W9, st9⟩ := putF X8 hx hZ hown (host := "") (Or.inl (hw _ (List.mem_of_getElem? (i := 102) rfl))) Via.refl rfl ((F_attachments_a1.ext E5).keep K8i ni5) ((E_a1.ext E5).keep K8i) (Or.inl (hw _ (List.mem_of_getElem? (i := 103) rfl))) (hw _ (List.mem_of_getElem? (i := 42) rfl)) (ty := (.object "com/example/fixpoint/fixpoint/expr/Symbol$Attachment")) (by decide) rfl rfl (g := (mkF m 32 #[.val (.ref a1), .val (.ref a2), .val r3, .val .null] [(.ref b5), (.ref a1)])) rfl rfl (hb hby d16_32)
  have Fw9 := ((F_attachments_a1.ext E5).keep K8i ni5).same W9
  have K9 : Keep h0 h9 [a1] := KK8.wr W9 (Or.inl (List.mem_of_getElem? (i := 0) rfl))
  have N9 := Fr.snoc X9 N8 g_a1
  obtain ⟨fs, hr, hrun, hended, hW, hsame⟩ := X9.leave (v := none) (fun _ => rfl)
  refine ⟨_, _, pre0 _ ?_, hrun, hended, _, _, rfl, ?_, ⟨_, rfl⟩, hW, hsame.mono (by decide) (by decide)⟩
  · show Steps p.tables e below (s₁.setTop (mkF m 0 #[.val (.ref a1), .val (.ref a2), .val r3, .unset] [])) _
    refine XS.aloadN X0.here hx rfl (hb hby d16_0) rfl rfl ?_
    show Steps p.tables e below (s₁.setTop (mkF m 1 #[.val (.ref a1), .val (.ref a2), .val r3, .unset] [(.ref a1)])) _
    refine XS.aloadN X0.here hx rfl (hb hby d16_1) rfl rfl ?_
    show Steps p.tables e below (s₁.setTop (mkF m 2 #[.val (.ref a1), .val (.ref a2), .val r3, .unset] [(.ref a2), (.ref a1)])) _
    refine st4.trans ?_
    show Steps p.tables e below (T4.setTop (mkF m 5 #[.val (.ref a1), .val (.ref a2), .val r3, .unset] [.null])) _
    refine XS.astoreN X4.here hx rfl (hb hby d16_5) rfl rfl (l' := #[.val (.ref a1), .val (.ref a2), .val r3, .val .null]) rfl ?_
    show Steps p.tables e below (T4.setTop (mkF m 6 #[.val (.ref a1), .val (.ref a2), .val r3, .val .null] [])) _
    refine XS.aloadN X4.here hx rfl (hb hby d16_6) rfl rfl ?_
    show Steps p.tables e below (T4.setTop (mkF m 7 #[.val (.ref a1), .val (.ref a2), .val r3, .val .null] [.null])) _
    refine XS.ifnullYes X4.here hx rfl (pc0 := 7) (pc' := 18) rfl (hb hby d16_7) rfl (by decide) (by decide) ?_
    show Steps p.tables e below (T4.setTop (mkF m 18 #[.val (.ref a1), .val (.ref a2), .val r3, .val .null] [])) _
    refine XS.aloadN X4.here hx rfl (hb hby d16_18) rfl rfl ?_
    show Steps p.tables e below (T4.setTop (mkF m 19 #[.val (.ref a1), .val (.ref a2), .val r3, .val .null] [(.ref a1)])) _
    refine st5 _ ?_
    show Steps p.tables e below (T5.setTop (mkF m 22 #[.val (.ref a1), .val (.ref a2), .val r3, .val .null] [(.ref b5), (.ref a1)])) _
    refine XS.dup X5.here hx rfl (hb hby d16_22) rfl rfl ?_
    show Steps p.tables e below (T5.setTop (mkF m 23 #[.val (.ref a1), .val (.ref a2), .val r3, .val .null] [(.ref b5), (.ref b5), (.ref a1)])) _
    refine XS.aloadN X5.here hx rfl (hb hby d16_23) rfl rfl ?_
    show Steps p.tables e below (T5.setTop (mkF m 24 #[.val (.ref a1), .val (.ref a2), .val r3, .val .null] [(.ref a2), (.ref b5), (.ref b5), (.ref a1)])) _
    refine XS.aloadN X5.here hx rfl (hb hby d16_24) rfl h_r3.is ?_
    show Steps p.tables e below (T5.setTop (mkF m 25 #[.val (.ref a1), .val (.ref a2), .val r3, .val .null] [r3, (.ref a2), (.ref b5), (.ref b5), (.ref a1)])) _
    refine XS.aloadN X5.here hx rfl (hb hby d16_25) rfl rfl ?_
    show Steps p.tables e below (T5.setTop (mkF m 26 #[.val (.ref a1), .val (.ref a2), .val r3, .val .null] [(.ref a1), r3, (.ref a2), (.ref b5), (.ref b5), (.ref a1)])) _
    refine st7 _ ?_
    show Steps p.tables e below (T7.setTop (mkF m 29 #[.val (.ref a1), .val (.ref a2), .val r3, .val .null] [w6, r3, (.ref a2), (.ref b5), (.ref b5), (.ref a1)])) _
    refine st8.trans ?_
    show Steps p.tables e below (T8.setTop (mkF m 32 #[.val (.ref a1), .val (.ref a2), .val r3, .val .null] [(.ref b5), (.ref a1)])) _
    refine st9 _ ?_
    show Steps p.tables e below (T9.setTop (mkF m 35 #[.val (.ref a1), .val (.ref a2), .val r3, .val .null] [])) _
    exact X9.returnOut hx Bd.returns (hb hby d16_35) hr
  · show Q16 Z a1 a2 r3 CH h0 n0 _ T9.heap _
    rw [e9]
    have lt := C.lt
    exact ⟨rfl, N9, own_keep_sub K9 (fun x z => by cases List.mem_singleton.mp z; exact List.mem_cons_self), ((E_a1.ext E5).keep K8i).wr W9, (b5, a2, r3) :: CH, .ref b5, Fw9, ⟨rfl, E8i.wr W9, F8o.other W9 (Or.inl (Ne.symm nb)), F8v.other W9 (Or.inl (Ne.symm nb)), h_r3, w6, F8n.other W9 (Or.inl (Ne.symm nb)), Chn.keep (Keep.of_wr W9) (fun a ha z => by cases List.mem_singleton.mp z; exact nsy ha) (Chn.keep K8i (fun a ha z => by cases List.mem_singleton.mp z; exact Nat.lt_irrefl _ (Nat.lt_of_lt_of_le (lt _ ha) sz_b5)) (C.ext E5))⟩, List.nodup_cons.mpr ⟨fun ha => Nat.lt_irrefl _ (Nat.lt_of_lt_of_le (lt _ ha) sz_b5), nd⟩, fun a ha => (List.mem_cons.mp ha).elim (fun z => Or.inr (z ▸ sz_b5)) Or.inl, fun x => own_look_new x⟩
theorem own_att (l : Launch) (Z : State) (a0 : Array Value) (hw : ∀ d ∈ tables_1, d.before a0 Z = true) (sy q : Addr) (v : Value) (CH : List (Addr × Addr × Value)) (hd : Value) (h0 : Heap) (n0 : Nat) (Z0 : n0 ≤ h0.size) (hv : Rf v) (E : Exa Z h0 sy "com/example/fixpoint/fixpoint/expr/Symbol") (F : Fld Z h0 sy "com/example/fixpoint/fixpoint/expr/Symbol" "attachments" "Lcom/example/fixpoint/fixpoint/expr/Symbol$Attachment;" hd) (C : Chn Z h0 CH hd) (nd : (own_adr CH).Nodup) (nsy : sy ∉ own_adr CH) (gs : n0 ≤ sy) (ga : ∀ a ∈ own_adr CH, n0 ≤ a) :
    MetFree l (⟨"com/example/fixpoint/fixpoint/expr/Symbol", "attach", "(Ljava/lang/Object;Ljava/lang/Object;)V"⟩ : MethodName) (head1 [Jvm.Cond.code (⟨"com/example/fixpoint/fixpoint/expr/Symbol", "attach", "(Ljava/lang/Object;Ljava/lang/Object;)V"⟩ : MethodName) prog_142_method_5_code 4 none] ({ frames := 2, cells := 1, slots := 3, locals := 29 } : Room)) (fun a U => a = #[(.ref sy), (.ref q), v] ∧ Z.Warmed39 U.vm ∧ U.heap = h0) (fun _ _ _ _ _ => True) (fun _ U o U' => ∃ vv L, o = .returned vv ∧ Q16 Z sy q v CH h0 n0 vv U'.heap L ∧ FrameEnd U o U' L ({ frames := 2, cells := 1, slots := 3, locals := 29 } : Room).cells ({ frames := 2, cells := 1, slots := 3, locals := 29 } : Room).slots) := by
  have call := rm17 l Z a0 hw [] sy q hd CH h0 n0 Z0 F C
  rcases own_find_null_or (L := CH) (q := q) with hf | ⟨b, hf⟩
  · rw [hf] at call
    exact rm16_t l Z a0 hw [] sy q v hd h0 n0 Z0 CH C nd nsy hf hv C.rf call E F gs
  · rw [hf] at call
    obtain ⟨Eb, Fb, Rb⟩ := C.found hf
    exact rm16_f l Z a0 hw [] sy q v b (own_look CH q) h0 n0 Z0 CH hd F C nd nsy hf hv call E Eb Fb (ga b (own_find_mem CH hf))
theorem d19_0 : decode prog_142_method_4_code 0 = .ok (.aload_n 0, 1) := by decide +kernel
theorem d19_1 : decode prog_142_method_4_code 1 = .ok (.aload_n 1, 1) := by decide +kernel
theorem d19_2 : decode prog_142_method_4_code 2 = .ok (.invokevirtual 28, 3) := by decide +kernel
theorem d19_5 : decode prog_142_method_4_code 5 = .ok (.astore_n 2, 1) := by decide +kernel
theorem d19_6 : decode prog_142_method_4_code 6 = .ok (.aload_n 2, 1) := by decide +kernel
theorem d19_7 : decode prog_142_method_4_code 7 = .ok (.ifnonnull 7, 3) := by decide +kernel
theorem d19_14 : decode prog_142_method_4_code 14 = .ok (.aload_n 2, 1) := by decide +kernel
theorem d19_15 : decode prog_142_method_4_code 15 = .ok (.getfield 32, 3) := by decide +kernel
theorem d19_18 : decode prog_142_method_4_code 18 = .ok (.areturn, 1) := by decide +kernel
theorem pn_19 : plainName "com/example/fixpoint/fixpoint/expr/Symbol" = true := by first | (simp [plainName, overriddenIn]; done) | decide +kernel
theorem pd_19_16 : parseMethodDescriptor "(Ljava/lang/Object;)Lcom/example/fixpoint/fixpoint/expr/Symbol$Attachment;" = some ⟨[(.object "java/lang/Object")], some (.object "com/example/fixpoint/fixpoint/expr/Symbol$Attachment")⟩ := by decide +kernel
theorem ef_19 (m : MethodId) (x0 : Addr) (x1 : Addr) : entryFrame m #[(.ref x0), (.ref x1)] 3 = mkF m 0 #[.val (.ref x0), .val (.ref x1), .unset] [] := by first | (simp [entryFrame, mkF, argsToLocals, Value.category]; done) | rfl
set_option maxRecDepth 65536 in
set_option maxHeartbeats 40000000 in
theorem rm19_t (l : Launch) (Z : State) (a0 : Array Value) (hw : ∀ d ∈ tables_1, d.before a0 Z = true) (ws : List Jvm.Cond) (a1 : Addr) (a2 : Addr) (a9 : Addr) (w4 : Value) (h0 : Heap) (n0 : Nat) (Z0 : n0 ≤ h0.size) (h_w4 : Rf w4) (CALL_3_17 : MetFree l (⟨"com/example/fixpoint/fixpoint/expr/Symbol", "attachmentOf", "(Ljava/lang/Object;)Lcom/example/fixpoint/fixpoint/expr/Symbol$Attachment;"⟩ : MethodName) (head1 [Jvm.Cond.code (⟨"com/example/fixpoint/fixpoint/expr/Symbol", "attachmentOf", "(Ljava/lang/Object;)Lcom/example/fixpoint/fixpoint/expr/Symbol$Attachment;"⟩ : MethodName) prog_142_method_6_code 3 (some (.object "com/example/fixpoint/fixpoint/expr/Symbol$Attachment"))] ({ frames := 0, cells := 0, slots := 0, locals := 0 } : Room)) (fun a U => a = #[(.ref a1), (.ref a2)] ∧ Z.Warmed39 U.vm ∧ U.heap = h0) (fun _ _ _ _ _ => True) (fun _ U o U' => ∃ v L, o = .returned v ∧ QP (some (.ref a9)) h0 n0 v U'.heap L ∧ FrameEnd U o U' L ({ frames := 0, cells := 0, slots := 0, locals := 0 } : Room).cells ({ frames := 0, cells := 0, slots := 0, locals := 0 } : Room).slots)) (E_a1 : Exa Z h0 a1 "com/example/fixpoint/fixpoint/expr/Symbol") (F_value_a9 : Fld Z h0 a9 "com/example/fixpoint/fixpoint/expr/Symbol$Attachment" "value" "Ljava/lang/Object;" w4) :
    MetFree l (⟨"com/example/fixpoint/fixpoint/expr/Symbol", "attachment", "(Ljava/lang/Object;)Ljava/lang/Object;"⟩ : MethodName) (head1 (Jvm.Cond.code (⟨"com/example/fixpoint/fixpoint/expr/Symbol", "attachment", "(Ljava/lang/Object;)Ljava/lang/Object;"⟩ : MethodName) prog_142_method_4_code 3 (some (.object "java/lang/Object")) :: ws) ({ frames := 1, cells := 0, slots := 0, locals := 14 } : Room)) (fun a U => a = #[(.ref a1), (.ref a2)] ∧ Z.Warmed39 U.vm ∧ U.heap = h0) (fun _ _ _ _ _ => True) (fun _ U o U' => ∃ v L, o = .returned v ∧ QP (some w4) h0 n0 v U'.heap L ∧ FrameEnd U o U' L ({ frames := 1, cells := 0, slots := 0, locals := 14 } : Room).cells ({ frames := 1, cells := 0, slots := 0, locals := 14 } : Room).slots) := by
  refine MetFree.of_bodySF (plainFor_of_name pn_19) hisR ?_
  intro p e s m args below meth c s₁ Bd hml0 hP hK
  obtain ⟨rfl, hZ, hh⟩ := hP
  have hx := Bd.exec
  have hby := Bd.bytes
  have hml : c.maxLocals = 3 := hml0
  have hown : s.vm.findClass "com/example/fixpoint/fixpoint/expr/Symbol" = some m.cls := findClass_of_methodNamed Bd.named
  have hnm := (name_of_methodNamed Bd.named Bd.method).1
  have X0 : Stand p l e ({ frames := 1, cells := 0, slots := 0, locals := 14 } : Room) s m #[(.ref a1), (.ref a2)] below meth c s₁ [] 0 0 := Stand.of_body Bd
  have e0 : s₁.heap = h0 := by rw [← hh, Bd.state]; rfl
  have N0 := Fr.nil n0
  have pre0 : ∀ t, Steps p.tables e below (s₁.setTop (mkF m 0 #[.val (.ref a1), .val (.ref a2), .unset] [])) t → Steps p.tables e below (s₁.setTop (entryFrame m #[(.ref a1), (.ref a2)] 3)) t := fun t k => castTop (ef_19 m a1 a2) k
  obtain ⟨cq3, q3, q3'⟩ := E_a1.cell
  obtain ⟨_, _, ⟨T3, L3, k3, n3⟩, -, X3, ⟨Lc3, hQ3, l3, y3, z3⟩, st3⟩ := X0.privateBack hx (y := (⟨"com/example/fixpoint/fixpoint/expr/Symbol", "attachmentOf", "(Ljava/lang/Object;)Lcom/example/fixpoint/fixpoint/expr/Symbol$Attachment;"⟩ : MethodName)) hown (mvT hZ (hw _ (List.mem_of_getElem? (i := 98) rfl))) (mvT hZ (hw _ (List.mem_of_getElem? (i := 99) rfl))) (own_selP (y := (⟨"com/example/fixpoint/fixpoint/expr/Symbol", "attachmentOf", "(Ljava/lang/Object;)Lcom/example/fixpoint/fixpoint/expr/Symbol$Attachment;"⟩ : MethodName)) hZ (hw _ (List.mem_of_getElem? (i := 42) rfl)) (hw _ (List.mem_of_getElem? (i := 100) rfl)) (hw _ (List.mem_of_getElem? (i := 99) rfl)) (by decide)) (Cond.privateMethod_at (mvP hZ (hw _ (List.mem_of_getElem? (i := 100) rfl)) (args := #[]))) (mvT hZ (hw _ (List.mem_of_getElem? (i := 101) rfl))) (by decide) (backOf (W := 0) CALL_3_17 hZ (hw _ (List.mem_of_getElem? (i := 101) rfl)) (hw _ (List.mem_of_getElem? (i := 43) rfl)) (by decide) (by decide)) (g := (mkF m 2 #[.val (.ref a1), .val (.ref a2), .unset] [(.ref a2), (.ref a1)])) rfl (by rw [hml]; rfl) (Steps.refl _) (a := a1) (by rw [e0]; exact q3) q3' (argsL := [(.ref a2)]) (rest := []) (lenOf pd_19_16 rfl) rfl (by show 2 * 0 + _ ≤ _; exact Nat.le_of_eq rfl) (hb hby d19_2) (fun _ _ => ⟨rfl, e0, (by decide : 0 + 0 ≤ _), (by decide : 0 + 0 ≤ _)⟩)
  dsimp only [Pt.U, Pt.locs, Pt.cells, Pt.slots] at X3 l3 y3 z3 st3 hQ3
  subst l3 y3 z3
  obtain ⟨rfl, N3q, eh3⟩ := hQ3
  have N3 := Fr.app N0 N3q
  obtain ⟨T5, X5, e5, st5⟩ := own_getFR X3 hx hZ hown (hw _ (List.mem_of_getElem? (i := 118) rfl)) eh3 F_value_a9 (g := (mkF m 15 #[.val (.ref a1), .val (.ref a2), .val (.ref a9)] [(.ref a9)])) rfl rfl (hb hby d19_15)
  obtain ⟨fs, hr, hrun, hended, hW, hsame⟩ := X5.leave (v := some w4) (fun h => by rw [Bd.returns] at h; cases h)
  refine ⟨_, _, pre0 _ ?_, hrun, hended, _, _, rfl, ?_, ⟨_, rfl⟩, hW, hsame.mono (by decide) (by decide)⟩
  · show Steps p.tables e below (s₁.setTop (mkF m 0 #[.val (.ref a1), .val (.ref a2), .unset] [])) _
    refine XS.aloadN X0.here hx rfl (hb hby d19_0) rfl rfl ?_
    show Steps p.tables e below (s₁.setTop (mkF m 1 #[.val (.ref a1), .val (.ref a2), .unset] [(.ref a1)])) _
    refine XS.aloadN X0.here hx rfl (hb hby d19_1) rfl rfl ?_
    show Steps p.tables e below (s₁.setTop (mkF m 2 #[.val (.ref a1), .val (.ref a2), .unset] [(.ref a2), (.ref a1)])) _
    refine st3.trans ?_
    show Steps p.tables e below (T3.setTop (mkF m 5 #[.val (.ref a1), .val (.ref a2), .unset] [(.ref a9)])) _
    refine XS.astoreN X3.here hx rfl (hb hby d19_5) rfl rfl (l' := #[.val (.ref a1), .val (.ref a2), .val (.ref a9)]) rfl ?_
    show Steps p.tables e below (T3.setTop (mkF m 6 #[.val (.ref a1), .val (.ref a2), .val (.ref a9)] [])) _
    refine XS.aloadN X3.here hx rfl (hb hby d19_6) rfl rfl ?_
    show Steps p.tables e below (T3.setTop (mkF m 7 #[.val (.ref a1), .val (.ref a2), .val (.ref a9)] [(.ref a9)])) _
    refine XS.ifnonnullYes X3.here hx rfl (pc0 := 7) (pc' := 14) rfl (hb hby d19_7) rfl (by decide) (by decide) ?_
    show Steps p.tables e below (T3.setTop (mkF m 14 #[.val (.ref a1), .val (.ref a2), .val (.ref a9)] [])) _
    refine XS.aloadN X3.here hx rfl (hb hby d19_14) rfl rfl ?_
    show Steps p.tables e below (T3.setTop (mkF m 15 #[.val (.ref a1), .val (.ref a2), .val (.ref a9)] [(.ref a9)])) _
    refine st5 _ ?_
    show Steps p.tables e below (T5.setTop (mkF m 18 #[.val (.ref a1), .val (.ref a2), .val (.ref a9)] [w4])) _
    jvm_step X5.here [X5.here.top, hx, (hb hby d19_18), X5.method', Bd.returns, h_w4.is, FieldType.isReference]
    first | (intro acts; rw [hr _ acts rfl rfl rfl]) | rw [hr _ _ rfl rfl rfl]
    exact Steps.refl _
  · show QP (some w4) h0 n0 _ T5.heap _
    rw [e5]
    exact ⟨rfl, N3, rfl⟩
theorem d19_10 : decode prog_142_method_4_code 10 = .ok (.aconst_null, 1) := by decide +kernel
theorem d19_11 : decode prog_142_method_4_code 11 = .ok (.goto 7, 3) := by decide +kernel
set_option maxRecDepth 65536 in
set_option maxHeartbeats 40000000 in
theorem rm19_f (l : Launch) (Z : State) (a0 : Array Value) (hw : ∀ d ∈ tables_1, d.before a0 Z = true) (ws : List Jvm.Cond) (a1 : Addr) (a2 : Addr) (h0 : Heap) (n0 : Nat) (Z0 : n0 ≤ h0.size) (CALL_3_17 : MetFree l (⟨"com/example/fixpoint/fixpoint/expr/Symbol", "attachmentOf", "(Ljava/lang/Object;)Lcom/example/fixpoint/fixpoint/expr/Symbol$Attachment;"⟩ : MethodName) (head1 [Jvm.Cond.code (⟨"com/example/fixpoint/fixpoint/expr/Symbol", "attachmentOf", "(Ljava/lang/Object;)Lcom/example/fixpoint/fixpoint/expr/Symbol$Attachment;"⟩ : MethodName) prog_142_method_6_code 3 (some (.object "com/example/fixpoint/fixpoint/expr/Symbol$Attachment"))] ({ frames := 0, cells := 0, slots := 0, locals := 0 } : Room)) (fun a U => a = #[(.ref a1), (.ref a2)] ∧ Z.Warmed39 U.vm ∧ U.heap = h0) (fun _ _ _ _ _ => True) (fun _ U o U' => ∃ v L, o = .returned v ∧ QP (some .null) h0 n0 v U'.heap L ∧ FrameEnd U o U' L ({ frames := 0, cells := 0, slots := 0, locals := 0 } : Room).cells ({ frames := 0, cells := 0, slots := 0, locals := 0 } : Room).slots)) (E_a1 : Exa Z h0 a1 "com/example/fixpoint/fixpoint/expr/Symbol") :
    MetFree l (⟨"com/example/fixpoint/fixpoint/expr/Symbol", "attachment", "(Ljava/lang/Object;)Ljava/lang/Object;"⟩ : MethodName) (head1 (Jvm.Cond.code (⟨"com/example/fixpoint/fixpoint/expr/Symbol", "attachment", "(Ljava/lang/Object;)Ljava/lang/Object;"⟩ : MethodName) prog_142_method_4_code 3 (some (.object "java/lang/Object")) :: ws) ({ frames := 1, cells := 0, slots := 0, locals := 14 } : Room)) (fun a U => a = #[(.ref a1), (.ref a2)] ∧ Z.Warmed39 U.vm ∧ U.heap = h0) (fun _ _ _ _ _ => True) (fun _ U o U' => ∃ v L, o = .returned v ∧ QP (some .null) h0 n0 v U'.heap L ∧ FrameEnd U o U' L ({ frames := 1, cells := 0, slots := 0, locals := 14 } : Room).cells ({ frames := 1, cells := 0, slots := 0, locals := 14 } : Room).slots) := by
  refine MetFree.of_bodySF (plainFor_of_name pn_19) hisR ?_
  intro p e s m args below meth c s₁ Bd hml0 hP hK
  obtain ⟨rfl, hZ, hh⟩ := hP
  have hx := Bd.exec
  have hby := Bd.bytes
  have hml : c.maxLocals = 3 := hml0
  have hown : s.vm.findClass "com/example/fixpoint/fixpoint/expr/Symbol" = some m.cls := findClass_of_methodNamed Bd.named
  have hnm := (name_of_methodNamed Bd.named Bd.method).1
  have X0 : Stand p l e ({ frames := 1, cells := 0, slots := 0, locals := 14 } : Room) s m #[(.ref a1), (.ref a2)] below meth c s₁ [] 0 0 := Stand.of_body Bd
  have e0 : s₁.heap = h0 := by rw [← hh, Bd.state]; rfl
  have N0 := Fr.nil n0
  have pre0 : ∀ t, Steps p.tables e below (s₁.setTop (mkF m 0 #[.val (.ref a1), .val (.ref a2), .unset] [])) t → Steps p.tables e below (s₁.setTop (entryFrame m #[(.ref a1), (.ref a2)] 3)) t := fun t k => castTop (ef_19 m a1 a2) k
  obtain ⟨cq3, q3, q3'⟩ := E_a1.cell
  obtain ⟨_, _, ⟨T3, L3, k3, n3⟩, -, X3, ⟨Lc3, hQ3, l3, y3, z3⟩, st3⟩ := X0.privateBack hx (y := (⟨"com/example/fixpoint/fixpoint/expr/Symbol", "attachmentOf", "(Ljava/lang/Object;)Lcom/example/fixpoint/fixpoint/expr/Symbol$Attachment;"⟩ : MethodName)) hown (mvT hZ (hw _ (List.mem_of_getElem? (i := 98) rfl))) (mvT hZ (hw _ (List.mem_of_getElem? (i := 99) rfl))) (own_selP (y := (⟨"com/example/fixpoint/fixpoint/expr/Symbol", "attachmentOf", "(Ljava/lang/Object;)Lcom/example/fixpoint/fixpoint/expr/Symbol$Attachment;"⟩ : MethodName)) hZ (hw _ (List.mem_of_getElem? (i := 42) rfl)) (hw _ (List.mem_of_getElem? (i := 100) rfl)) (hw _ (List.mem_of_getElem? (i := 99) rfl)) (by decide)) (Cond.privateMethod_at (mvP hZ (hw _ (List.mem_of_getElem? (i := 100) rfl)) (args := #[]))) (mvT hZ (hw _ (List.mem_of_getElem? (i := 101) rfl))) (by decide) (backOf (W := 0) CALL_3_17 hZ (hw _ (List.mem_of_getElem? (i := 101) rfl)) (hw _ (List.mem_of_getElem? (i := 43) rfl)) (by decide) (by decide)) (g := (mkF m 2 #[.val (.ref a1), .val (.ref a2), .unset] [(.ref a2), (.ref a1)])) rfl (by rw [hml]; rfl) (Steps.refl _) (a := a1) (by rw [e0]; exact q3) q3' (argsL := [(.ref a2)]) (rest := []) (lenOf pd_19_16 rfl) rfl (by show 2 * 0 + _ ≤ _; exact Nat.le_of_eq rfl) (hb hby d19_2) (fun _ _ => ⟨rfl, e0, (by decide : 0 + 0 ≤ _), (by decide : 0 + 0 ≤ _)⟩)
  dsimp only [Pt.U, Pt.locs, Pt.cells, Pt.slots] at X3 l3 y3 z3 st3 hQ3
  subst l3 y3 z3
  obtain ⟨rfl, N3q, eh3⟩ := hQ3
  have N3 := Fr.app N0 N3q
  obtain ⟨fs, hr, hrun, hended, hW, hsame⟩ := X3.leave (v := some .null) (fun h => by rw [Bd.returns] at h; cases h)
  refine ⟨_, _, pre0 _ ?_, hrun, hended, _, _, rfl, ?_, ⟨_, rfl⟩, hW, hsame.mono (by decide) (by decide)⟩
  · show Steps p.tables e below (s₁.setTop (mkF m 0 #[.val (.ref a1), .val (.ref a2), .unset] [])) _
    refine XS.aloadN X0.here hx rfl (hb hby d19_0) rfl rfl ?_
    show Steps p.tables e below (s₁.setTop (mkF m 1 #[.val (.ref a1), .val (.ref a2), .unset] [(.ref a1)])) _
    refine XS.aloadN X0.here hx rfl (hb hby d19_1) rfl rfl ?_
    show Steps p.tables e below (s₁.setTop (mkF m 2 #[.val (.ref a1), .val (.ref a2), .unset] [(.ref a2), (.ref a1)])) _
    refine st3.trans ?_
    show Steps p.tables e below (T3.setTop (mkF m 5 #[.val (.ref a1), .val (.ref a2), .unset] [.null])) _
    refine XS.astoreN X3.here hx rfl (hb hby d19_5) rfl rfl (l' := #[.val (.ref a1), .val (.ref a2), .val .null]) rfl ?_
    show Steps p.tables e below (T3.setTop (mkF m 6 #[.val (.ref a1), .val (.ref a2), .val .null] [])) _
    refine XS.aloadN X3.here hx rfl (hb hby d19_6) rfl rfl ?_
    show Steps p.tables e below (T3.setTop (mkF m 7 #[.val (.ref a1), .val (.ref a2), .val .null] [.null])) _
    refine XS.ifnonnullNo X3.here hx rfl (hb hby d19_7) rfl ?_
    show Steps p.tables e below (T3.setTop (mkF m 10 #[.val (.ref a1), .val (.ref a2), .val .null] [])) _
    refine XS.aconstNull X3.here hx rfl (hb hby d19_10) ?_
    show Steps p.tables e below (T3.setTop (mkF m 11 #[.val (.ref a1), .val (.ref a2), .val .null] [.null])) _
    refine XS.goto X3.here hx rfl (pc0 := 11) (pc' := 18) rfl (hb hby d19_11) (by decide) (by decide) ?_
    show Steps p.tables e below (T3.setTop (mkF m 18 #[.val (.ref a1), .val (.ref a2), .val .null] [.null])) _
    jvm_step X3.here [X3.here.top, hx, (hb hby d19_18), X3.method', Bd.returns, Value.isRef, FieldType.isReference]
    first | (intro acts; rw [hr _ acts rfl rfl rfl]) | rw [hr _ _ rfl rfl rfl]
    exact Steps.refl _
  · show QP (some .null) h0 n0 _ T3.heap _
    rw [eh3]
    exact ⟨rfl, N3, rfl⟩
theorem own_atc (l : Launch) (Z : State) (a0 : Array Value) (hw : ∀ d ∈ tables_1, d.before a0 Z = true) (sy q : Addr) (CH : List (Addr × Addr × Value)) (hd : Value) (h0 : Heap) (n0 : Nat) (Z0 : n0 ≤ h0.size) (E : Exa Z h0 sy "com/example/fixpoint/fixpoint/expr/Symbol") (F : Fld Z h0 sy "com/example/fixpoint/fixpoint/expr/Symbol" "attachments" "Lcom/example/fixpoint/fixpoint/expr/Symbol$Attachment;" hd) (C : Chn Z h0 CH hd) :
    MetFree l (⟨"com/example/fixpoint/fixpoint/expr/Symbol", "attachment", "(Ljava/lang/Object;)Ljava/lang/Object;"⟩ : MethodName) (head1 [Jvm.Cond.code (⟨"com/example/fixpoint/fixpoint/expr/Symbol", "attachment", "(Ljava/lang/Object;)Ljava/lang/Object;"⟩ : MethodName) prog_142_method_4_code 3 (some (.object "java/lang/Object"))] ({ frames := 1, cells := 0, slots := 0, locals := 14 } : Room)) (fun a U => a = #[(.ref sy), (.ref q)] ∧ Z.Warmed39 U.vm ∧ U.heap = h0) (fun _ _ _ _ _ => True) (fun _ U o U' => ∃ vv L, o = .returned vv ∧ QP (some (own_look CH q)) h0 n0 vv U'.heap L ∧ FrameEnd U o U' L ({ frames := 1, cells := 0, slots := 0, locals := 14 } : Room).cells ({ frames := 1, cells := 0, slots := 0, locals := 14 } : Room).slots) := by
  have call := rm17 l Z a0 hw [] sy q hd CH h0 n0 Z0 F C
  rcases own_find_null_or (L := CH) (q := q) with hf | ⟨b, hf⟩
  · rw [hf] at call
    rw [own_look_none CH hf]
    exact rm19_f l Z a0 hw [] sy q h0 n0 Z0 call E
  · rw [hf] at call
    obtain ⟨Eb, Fb, Rb⟩ := C.found hf
    exact rm19_t l Z a0 hw [] sy q b (own_look CH q) h0 n0 Z0 Rb call E Fb
def own_e (r v : Value) (o k : Int32) : Value := if o = k then v else r
theorem own_e_rf {r v : Value} {o k : Int32} (h1 : Rf r) (h2 : Rf v) : Rf (own_e r v o k) := by unfold own_e; split; exact h2; exact h1
theorem d20_3 : decode method_3_code 3 = .ok (.iload_n 1, 1) := by decide +kernel
theorem d20_4 : decode method_3_code 4 = .ok (.iload_n 0, 1) := by decide +kernel
theorem d20_5 : decode method_3_code 5 = .ok (.if_icmp .ne 9, 3) := by decide +kernel
set_option maxRecDepth 65536 in
set_option maxHeartbeats 40000000 in
theorem own_xs0 {p : Program} {l : Launch} {e : Env} {R : Room} {s : State} {m : MethodId} {args : Array Value} {below : List Frame} {meth : Method} {c : Code} {T0 : State} {locs : List Loc} {cells slots : Nat} {Z : State} {a0 : Array Value} {h0 : Heap} (i0 : Int32) (i1 : Int32) (s2 : Slot) (s3 : Slot) (s4 : Slot) (s5 : Slot) (r6 : Value)
    (X0 : Stand p l e R s m args below meth c T0 locs cells slots) (hx : p.tables.exec = Jvm.exec) (hZ : Z.Warmed39 s.vm) (hw : ∀ d ∈ tables_1, d.before a0 Z = true) (hby : c.code = method_3_code) (hml : c.maxLocals = 7) (hown : s.vm.findClass "com/example/fixpoint/fixpoint/expr/SymbolAttachmentPinLaw" = some m.cls) (e0 : T0.heap = h0) (h_r6 : Rf r6) (hc5 : ¬ (i1 = i0)) :
    ∃ (T' : State), Stand p l e R s m args below meth c T' locs cells slots ∧ T'.heap = h0 ∧
      ∀ target, Steps p.tables e below (T'.setTop (mkF m 14 #[.val (.int i0), .val (.int i1), s2, s3, s4, s5, .val r6] [])) target → Steps p.tables e below (T0.setTop (mkF m 3 #[.val (.int i0), .val (.int i1), s2, s3, s4, s5, .val r6] [])) target := by

  refine ⟨T0, X0, e0, fun target kt => ?_⟩
  show Steps p.tables e below (T0.setTop (mkF m 3 #[.val (.int i0), .val (.int i1), s2, s3, s4, s5, .val r6] [])) _
  refine XS.iloadN X0.here hx rfl (hb hby d20_3) rfl ?_
  show Steps p.tables e below (T0.setTop (mkF m 4 #[.val (.int i0), .val (.int i1), s2, s3, s4, s5, .val r6] [(.int i1)])) _
  refine XS.iloadN X0.here hx rfl (hb hby d20_4) rfl ?_
  show Steps p.tables e below (T0.setTop (mkF m 5 #[.val (.int i0), .val (.int i1), s2, s3, s4, s5, .val r6] [(.int i0), (.int i1)])) _
  refine XS.icmpYes X0.here hx rfl (pc0 := 5) (pc' := 14) rfl (hb hby d20_5) rfl (feq hc5).2 (by decide) (by decide) ?_
  exact kt
theorem d20_8 : decode method_3_code 8 = .ok (.aload 5, 2) := by decide +kernel
theorem d20_10 : decode method_3_code 10 = .ok (.iconst 0, 1) := by decide +kernel
theorem d20_11 : decode method_3_code 11 = .ok (.aaload, 1) := by decide +kernel
theorem d20_12 : decode method_3_code 12 = .ok (.astore 6, 2) := by decide +kernel
set_option maxRecDepth 65536 in
set_option maxHeartbeats 40000000 in
theorem own_xl0 {p : Program} {l : Launch} {e : Env} {R : Room} {s : State} {m : MethodId} {args : Array Value} {below : List Frame} {meth : Method} {c : Code} {T0 : State} {locs : List Loc} {cells slots : Nat} {Z : State} {a0 : Array Value} {h0 : Heap} (i0 : Int32) (i1 : Int32) (s2 : Slot) (s3 : Slot) (s4 : Slot) (o5 : Addr) (r6 : Value) (w7 : Value) (cl_o5 : Cell)
    (X0 : Stand p l e R s m args below meth c T0 locs cells slots) (hx : p.tables.exec = Jvm.exec) (hZ : Z.Warmed39 s.vm) (hw : ∀ d ∈ tables_1, d.before a0 Z = true) (hby : c.code = method_3_code) (hml : c.maxLocals = 7) (hown : s.vm.findClass "com/example/fixpoint/fixpoint/expr/SymbolAttachmentPinLaw" = some m.cls) (e0 : T0.heap = h0) (h_r6 : Rf r6) (h_w7 : Rf w7) (Ar_o5 : Arr Z h0 o5 cl_o5 (.object "java/lang/Object")) (hin11 : ¬ ((0 : Int32) < 0 ∨ cl_o5.slots.size ≤ ((0 : Int32)).toNatClampNeg)) (hat11 : cl_o5.slots[((0 : Int32)).toNatClampNeg]? = some w7) (hc5 : i1 = i0) :
    ∃ (T' : State), Stand p l e R s m args below meth c T' locs cells slots ∧ T'.heap = h0 ∧
      ∀ target, Steps p.tables e below (T'.setTop (mkF m 14 #[.val (.int i0), .val (.int i1), s2, s3, s4, .val (.ref o5), .val w7] [])) target → Steps p.tables e below (T0.setTop (mkF m 3 #[.val (.int i0), .val (.int i1), s2, s3, s4, .val (.ref o5), .val r6] [])) target := by

  refine ⟨T0, X0, e0, fun target kt => ?_⟩
  show Steps p.tables e below (T0.setTop (mkF m 3 #[.val (.int i0), .val (.int i1), s2, s3, s4, .val (.ref o5), .val r6] [])) _
  refine XS.iloadN X0.here hx rfl (hb hby d20_3) rfl ?_
  show Steps p.tables e below (T0.setTop (mkF m 4 #[.val (.int i0), .val (.int i1), s2, s3, s4, .val (.ref o5), .val r6] [(.int i1)])) _
  refine XS.iloadN X0.here hx rfl (hb hby d20_4) rfl ?_
  show Steps p.tables e below (T0.setTop (mkF m 5 #[.val (.int i0), .val (.int i1), s2, s3, s4, .val (.ref o5), .val r6] [(.int i0), (.int i1)])) _
  refine XS.icmpNo X0.here hx rfl (hb hby d20_5) rfl (teq hc5).2 ?_
  show Steps p.tables e below (T0.setTop (mkF m 8 #[.val (.int i0), .val (.int i1), s2, s3, s4, .val (.ref o5), .val r6] [])) _
  refine XS.aload X0.here hx rfl (hb hby d20_8) rfl rfl ?_
  show Steps p.tables e below (T0.setTop (mkF m 10 #[.val (.int i0), .val (.int i1), s2, s3, s4, .val (.ref o5), .val r6] [(.ref o5)])) _
  refine XS.iconst X0.here hx rfl (hb hby d20_10) ?_
  show Steps p.tables e below (T0.setTop (mkF m 11 #[.val (.int i0), .val (.int i1), s2, s3, s4, .val (.ref o5), .val r6] [(.int (0 : Int32)), (.ref o5)])) _
  refine X0.aaload hx (j := (0 : Int32)) (v := w7) (by rw [e0]; exact Ar_o5.1) (State.isArrayOf_alike hZ.alike Ar_o5.2.1) rfl Ar_o5.2.2 hin11 hat11 (g := (mkF m 11 #[.val (.int i0), .val (.int i1), s2, s3, s4, .val (.ref o5), .val r6] [(.int (0 : Int32)), (.ref o5)])) rfl rfl (hb hby d20_11) _ ?_
  show Steps p.tables e below (T0.setTop (mkF m 12 #[.val (.int i0), .val (.int i1), s2, s3, s4, .val (.ref o5), .val r6] [w7])) _
  refine XS.astore X0.here hx rfl (hb hby d20_12) rfl h_w7.is (l' := #[.val (.int i0), .val (.int i1), s2, s3, s4, .val (.ref o5), .val w7]) (by rcases h_w7 with q | ⟨o, q⟩ <;> rw [q] <;> rcases h_r6 with q | ⟨o, q⟩ <;> rw [q] <;> rfl) ?_
  exact kt
theorem d20_14 : decode method_3_code 14 = .ok (.iload_n 2, 1) := by decide +kernel
theorem d20_15 : decode method_3_code 15 = .ok (.iload_n 0, 1) := by decide +kernel
theorem d20_16 : decode method_3_code 16 = .ok (.if_icmp .ne 9, 3) := by decide +kernel
set_option maxRecDepth 65536 in
set_option maxHeartbeats 40000000 in
theorem own_xs1 {p : Program} {l : Launch} {e : Env} {R : Room} {s : State} {m : MethodId} {args : Array Value} {below : List Frame} {meth : Method} {c : Code} {T0 : State} {locs : List Loc} {cells slots : Nat} {Z : State} {a0 : Array Value} {h0 : Heap} (i0 : Int32) (s1 : Slot) (i2 : Int32) (s3 : Slot) (s4 : Slot) (s5 : Slot) (r6 : Value)
    (X0 : Stand p l e R s m args below meth c T0 locs cells slots) (hx : p.tables.exec = Jvm.exec) (hZ : Z.Warmed39 s.vm) (hw : ∀ d ∈ tables_1, d.before a0 Z = true) (hby : c.code = method_3_code) (hml : c.maxLocals = 7) (hown : s.vm.findClass "com/example/fixpoint/fixpoint/expr/SymbolAttachmentPinLaw" = some m.cls) (e0 : T0.heap = h0) (h_r6 : Rf r6) (hc16 : ¬ (i2 = i0)) :
    ∃ (T' : State), Stand p l e R s m args below meth c T' locs cells slots ∧ T'.heap = h0 ∧
      ∀ target, Steps p.tables e below (T'.setTop (mkF m 25 #[.val (.int i0), s1, .val (.int i2), s3, s4, s5, .val r6] [])) target → Steps p.tables e below (T0.setTop (mkF m 14 #[.val (.int i0), s1, .val (.int i2), s3, s4, s5, .val r6] [])) target := by

  refine ⟨T0, X0, e0, fun target kt => ?_⟩
  show Steps p.tables e below (T0.setTop (mkF m 14 #[.val (.int i0), s1, .val (.int i2), s3, s4, s5, .val r6] [])) _
  refine XS.iloadN X0.here hx rfl (hb hby d20_14) rfl ?_
  show Steps p.tables e below (T0.setTop (mkF m 15 #[.val (.int i0), s1, .val (.int i2), s3, s4, s5, .val r6] [(.int i2)])) _
  refine XS.iloadN X0.here hx rfl (hb hby d20_15) rfl ?_
  show Steps p.tables e below (T0.setTop (mkF m 16 #[.val (.int i0), s1, .val (.int i2), s3, s4, s5, .val r6] [(.int i0), (.int i2)])) _
  refine XS.icmpYes X0.here hx rfl (pc0 := 16) (pc' := 25) rfl (hb hby d20_16) rfl (feq hc16).2 (by decide) (by decide) ?_
  exact kt
theorem d20_19 : decode method_3_code 19 = .ok (.aload 5, 2) := by decide +kernel
theorem d20_21 : decode method_3_code 21 = .ok (.iconst 1, 1) := by decide +kernel
theorem d20_22 : decode method_3_code 22 = .ok (.aaload, 1) := by decide +kernel
theorem d20_23 : decode method_3_code 23 = .ok (.astore 6, 2) := by decide +kernel
set_option maxRecDepth 65536 in
set_option maxHeartbeats 40000000 in
theorem own_xl1 {p : Program} {l : Launch} {e : Env} {R : Room} {s : State} {m : MethodId} {args : Array Value} {below : List Frame} {meth : Method} {c : Code} {T0 : State} {locs : List Loc} {cells slots : Nat} {Z : State} {a0 : Array Value} {h0 : Heap} (i0 : Int32) (s1 : Slot) (i2 : Int32) (s3 : Slot) (s4 : Slot) (o5 : Addr) (r6 : Value) (w7 : Value) (cl_o5 : Cell)
    (X0 : Stand p l e R s m args below meth c T0 locs cells slots) (hx : p.tables.exec = Jvm.exec) (hZ : Z.Warmed39 s.vm) (hw : ∀ d ∈ tables_1, d.before a0 Z = true) (hby : c.code = method_3_code) (hml : c.maxLocals = 7) (hown : s.vm.findClass "com/example/fixpoint/fixpoint/expr/SymbolAttachmentPinLaw" = some m.cls) (e0 : T0.heap = h0) (h_r6 : Rf r6) (h_w7 : Rf w7) (Ar_o5 : Arr Z h0 o5 cl_o5 (.object "java/lang/Object")) (hin22 : ¬ ((1 : Int32) < 0 ∨ cl_o5.slots.size ≤ ((1 : Int32)).toNatClampNeg)) (hat22 : cl_o5.slots[((1 : Int32)).toNatClampNeg]? = some w7) (hc16 : i2 = i0) :
    ∃ (T' : State), Stand p l e R s m args below meth c T' locs cells slots ∧ T'.heap = h0 ∧
      ∀ target, Steps p.tables e below (T'.setTop (mkF m 25 #[.val (.int i0), s1, .val (.int i2), s3, s4, .val (.ref o5), .val w7] [])) target → Steps p.tables e below (T0.setTop (mkF m 14 #[.val (.int i0), s1, .val (.int i2), s3, s4, .val (.ref o5), .val r6] [])) target := by

  refine ⟨T0, X0, e0, fun target kt => ?_⟩
  show Steps p.tables e below (T0.setTop (mkF m 14 #[.val (.int i0), s1, .val (.int i2), s3, s4, .val (.ref o5), .val r6] [])) _
  refine XS.iloadN X0.here hx rfl (hb hby d20_14) rfl ?_
  show Steps p.tables e below (T0.setTop (mkF m 15 #[.val (.int i0), s1, .val (.int i2), s3, s4, .val (.ref o5), .val r6] [(.int i2)])) _
  refine XS.iloadN X0.here hx rfl (hb hby d20_15) rfl ?_
  show Steps p.tables e below (T0.setTop (mkF m 16 #[.val (.int i0), s1, .val (.int i2), s3, s4, .val (.ref o5), .val r6] [(.int i0), (.int i2)])) _
  refine XS.icmpNo X0.here hx rfl (hb hby d20_16) rfl (teq hc16).2 ?_
  show Steps p.tables e below (T0.setTop (mkF m 19 #[.val (.int i0), s1, .val (.int i2), s3, s4, .val (.ref o5), .val r6] [])) _
  refine XS.aload X0.here hx rfl (hb hby d20_19) rfl rfl ?_
  show Steps p.tables e below (T0.setTop (mkF m 21 #[.val (.int i0), s1, .val (.int i2), s3, s4, .val (.ref o5), .val r6] [(.ref o5)])) _
  refine XS.iconst X0.here hx rfl (hb hby d20_21) ?_
  show Steps p.tables e below (T0.setTop (mkF m 22 #[.val (.int i0), s1, .val (.int i2), s3, s4, .val (.ref o5), .val r6] [(.int (1 : Int32)), (.ref o5)])) _
  refine X0.aaload hx (j := (1 : Int32)) (v := w7) (by rw [e0]; exact Ar_o5.1) (State.isArrayOf_alike hZ.alike Ar_o5.2.1) rfl Ar_o5.2.2 hin22 hat22 (g := (mkF m 22 #[.val (.int i0), s1, .val (.int i2), s3, s4, .val (.ref o5), .val r6] [(.int (1 : Int32)), (.ref o5)])) rfl rfl (hb hby d20_22) _ ?_
  show Steps p.tables e below (T0.setTop (mkF m 23 #[.val (.int i0), s1, .val (.int i2), s3, s4, .val (.ref o5), .val r6] [w7])) _
  refine XS.astore X0.here hx rfl (hb hby d20_23) rfl h_w7.is (l' := #[.val (.int i0), s1, .val (.int i2), s3, s4, .val (.ref o5), .val w7]) (by rcases h_w7 with q | ⟨o, q⟩ <;> rw [q] <;> rcases h_r6 with q | ⟨o, q⟩ <;> rw [q] <;> rfl) ?_
  exact kt
theorem d20_25 : decode method_3_code 25 = .ok (.iload_n 3, 1) := by decide +kernel
theorem d20_26 : decode method_3_code 26 = .ok (.iload_n 0, 1) := by decide +kernel
theorem d20_27 : decode method_3_code 27 = .ok (.if_icmp .ne 9, 3) := by decide +kernel
set_option maxRecDepth 65536 in
set_option maxHeartbeats 40000000 in
theorem own_xs2 {p : Program} {l : Launch} {e : Env} {R : Room} {s : State} {m : MethodId} {args : Array Value} {below : List Frame} {meth : Method} {c : Code} {T0 : State} {locs : List Loc} {cells slots : Nat} {Z : State} {a0 : Array Value} {h0 : Heap} (i0 : Int32) (s1 : Slot) (s2 : Slot) (i3 : Int32) (s4 : Slot) (s5 : Slot) (r6 : Value)
    (X0 : Stand p l e R s m args below meth c T0 locs cells slots) (hx : p.tables.exec = Jvm.exec) (hZ : Z.Warmed39 s.vm) (hw : ∀ d ∈ tables_1, d.before a0 Z = true) (hby : c.code = method_3_code) (hml : c.maxLocals = 7) (hown : s.vm.findClass "com/example/fixpoint/fixpoint/expr/SymbolAttachmentPinLaw" = some m.cls) (e0 : T0.heap = h0) (h_r6 : Rf r6) (hc27 : ¬ (i3 = i0)) :
    ∃ (T' : State), Stand p l e R s m args below meth c T' locs cells slots ∧ T'.heap = h0 ∧
      ∀ target, Steps p.tables e below (T'.setTop (mkF m 36 #[.val (.int i0), s1, s2, .val (.int i3), s4, s5, .val r6] [])) target → Steps p.tables e below (T0.setTop (mkF m 25 #[.val (.int i0), s1, s2, .val (.int i3), s4, s5, .val r6] [])) target := by

  refine ⟨T0, X0, e0, fun target kt => ?_⟩
  show Steps p.tables e below (T0.setTop (mkF m 25 #[.val (.int i0), s1, s2, .val (.int i3), s4, s5, .val r6] [])) _
  refine XS.iloadN X0.here hx rfl (hb hby d20_25) rfl ?_
  show Steps p.tables e below (T0.setTop (mkF m 26 #[.val (.int i0), s1, s2, .val (.int i3), s4, s5, .val r6] [(.int i3)])) _
  refine XS.iloadN X0.here hx rfl (hb hby d20_26) rfl ?_
  show Steps p.tables e below (T0.setTop (mkF m 27 #[.val (.int i0), s1, s2, .val (.int i3), s4, s5, .val r6] [(.int i0), (.int i3)])) _
  refine XS.icmpYes X0.here hx rfl (pc0 := 27) (pc' := 36) rfl (hb hby d20_27) rfl (feq hc27).2 (by decide) (by decide) ?_
  exact kt
theorem d20_30 : decode method_3_code 30 = .ok (.aload 5, 2) := by decide +kernel
theorem d20_32 : decode method_3_code 32 = .ok (.iconst 2, 1) := by decide +kernel
theorem d20_33 : decode method_3_code 33 = .ok (.aaload, 1) := by decide +kernel
theorem d20_34 : decode method_3_code 34 = .ok (.astore 6, 2) := by decide +kernel
set_option maxRecDepth 65536 in
set_option maxHeartbeats 40000000 in
theorem own_xl2 {p : Program} {l : Launch} {e : Env} {R : Room} {s : State} {m : MethodId} {args : Array Value} {below : List Frame} {meth : Method} {c : Code} {T0 : State} {locs : List Loc} {cells slots : Nat} {Z : State} {a0 : Array Value} {h0 : Heap} (i0 : Int32) (s1 : Slot) (s2 : Slot) (i3 : Int32) (s4 : Slot) (o5 : Addr) (r6 : Value) (w7 : Value) (cl_o5 : Cell)
    (X0 : Stand p l e R s m args below meth c T0 locs cells slots) (hx : p.tables.exec = Jvm.exec) (hZ : Z.Warmed39 s.vm) (hw : ∀ d ∈ tables_1, d.before a0 Z = true) (hby : c.code = method_3_code) (hml : c.maxLocals = 7) (hown : s.vm.findClass "com/example/fixpoint/fixpoint/expr/SymbolAttachmentPinLaw" = some m.cls) (e0 : T0.heap = h0) (h_r6 : Rf r6) (h_w7 : Rf w7) (Ar_o5 : Arr Z h0 o5 cl_o5 (.object "java/lang/Object")) (hin33 : ¬ ((2 : Int32) < 0 ∨ cl_o5.slots.size ≤ ((2 : Int32)).toNatClampNeg)) (hat33 : cl_o5.slots[((2 : Int32)).toNatClampNeg]? = some w7) (hc27 : i3 = i0) :
    ∃ (T' : State), Stand p l e R s m args below meth c T' locs cells slots ∧ T'.heap = h0 ∧
      ∀ target, Steps p.tables e below (T'.setTop (mkF m 36 #[.val (.int i0), s1, s2, .val (.int i3), s4, .val (.ref o5), .val w7] [])) target → Steps p.tables e below (T0.setTop (mkF m 25 #[.val (.int i0), s1, s2, .val (.int i3), s4, .val (.ref o5), .val r6] [])) target := by

  refine ⟨T0, X0, e0, fun target kt => ?_⟩
  show Steps p.tables e below (T0.setTop (mkF m 25 #[.val (.int i0), s1, s2, .val (.int i3), s4, .val (.ref o5), .val r6] [])) _
  refine XS.iloadN X0.here hx rfl (hb hby d20_25) rfl ?_
  show Steps p.tables e below (T0.setTop (mkF m 26 #[.val (.int i0), s1, s2, .val (.int i3), s4, .val (.ref o5), .val r6] [(.int i3)])) _
  refine XS.iloadN X0.here hx rfl (hb hby d20_26) rfl ?_
  show Steps p.tables e below (T0.setTop (mkF m 27 #[.val (.int i0), s1, s2, .val (.int i3), s4, .val (.ref o5), .val r6] [(.int i0), (.int i3)])) _
  refine XS.icmpNo X0.here hx rfl (hb hby d20_27) rfl (teq hc27).2 ?_
  show Steps p.tables e below (T0.setTop (mkF m 30 #[.val (.int i0), s1, s2, .val (.int i3), s4, .val (.ref o5), .val r6] [])) _
  refine XS.aload X0.here hx rfl (hb hby d20_30) rfl rfl ?_
  show Steps p.tables e below (T0.setTop (mkF m 32 #[.val (.int i0), s1, s2, .val (.int i3), s4, .val (.ref o5), .val r6] [(.ref o5)])) _
  refine XS.iconst X0.here hx rfl (hb hby d20_32) ?_
  show Steps p.tables e below (T0.setTop (mkF m 33 #[.val (.int i0), s1, s2, .val (.int i3), s4, .val (.ref o5), .val r6] [(.int (2 : Int32)), (.ref o5)])) _
  refine X0.aaload hx (j := (2 : Int32)) (v := w7) (by rw [e0]; exact Ar_o5.1) (State.isArrayOf_alike hZ.alike Ar_o5.2.1) rfl Ar_o5.2.2 hin33 hat33 (g := (mkF m 33 #[.val (.int i0), s1, s2, .val (.int i3), s4, .val (.ref o5), .val r6] [(.int (2 : Int32)), (.ref o5)])) rfl rfl (hb hby d20_33) _ ?_
  show Steps p.tables e below (T0.setTop (mkF m 34 #[.val (.int i0), s1, s2, .val (.int i3), s4, .val (.ref o5), .val r6] [w7])) _
  refine XS.astore X0.here hx rfl (hb hby d20_34) rfl h_w7.is (l' := #[.val (.int i0), s1, s2, .val (.int i3), s4, .val (.ref o5), .val w7]) (by rcases h_w7 with q | ⟨o, q⟩ <;> rw [q] <;> rcases h_r6 with q | ⟨o, q⟩ <;> rw [q] <;> rfl) ?_
  exact kt
theorem d20_36 : decode method_3_code 36 = .ok (.iload 4, 2) := by decide +kernel
theorem d20_38 : decode method_3_code 38 = .ok (.iload_n 0, 1) := by decide +kernel
theorem d20_39 : decode method_3_code 39 = .ok (.if_icmp .ne 9, 3) := by decide +kernel
set_option maxRecDepth 65536 in
set_option maxHeartbeats 40000000 in
theorem own_xs3 {p : Program} {l : Launch} {e : Env} {R : Room} {s : State} {m : MethodId} {args : Array Value} {below : List Frame} {meth : Method} {c : Code} {T0 : State} {locs : List Loc} {cells slots : Nat} {Z : State} {a0 : Array Value} {h0 : Heap} (i0 : Int32) (s1 : Slot) (s2 : Slot) (s3 : Slot) (i4 : Int32) (s5 : Slot) (r6 : Value)
    (X0 : Stand p l e R s m args below meth c T0 locs cells slots) (hx : p.tables.exec = Jvm.exec) (hZ : Z.Warmed39 s.vm) (hw : ∀ d ∈ tables_1, d.before a0 Z = true) (hby : c.code = method_3_code) (hml : c.maxLocals = 7) (hown : s.vm.findClass "com/example/fixpoint/fixpoint/expr/SymbolAttachmentPinLaw" = some m.cls) (e0 : T0.heap = h0) (h_r6 : Rf r6) (hc39 : ¬ (i4 = i0)) :
    ∃ (T' : State), Stand p l e R s m args below meth c T' locs cells slots ∧ T'.heap = h0 ∧
      ∀ target, Steps p.tables e below (T'.setTop (mkF m 48 #[.val (.int i0), s1, s2, s3, .val (.int i4), s5, .val r6] [])) target → Steps p.tables e below (T0.setTop (mkF m 36 #[.val (.int i0), s1, s2, s3, .val (.int i4), s5, .val r6] [])) target := by

  refine ⟨T0, X0, e0, fun target kt => ?_⟩
  show Steps p.tables e below (T0.setTop (mkF m 36 #[.val (.int i0), s1, s2, s3, .val (.int i4), s5, .val r6] [])) _
  refine XS.iload X0.here hx rfl (hb hby d20_36) rfl ?_
  show Steps p.tables e below (T0.setTop (mkF m 38 #[.val (.int i0), s1, s2, s3, .val (.int i4), s5, .val r6] [(.int i4)])) _
  refine XS.iloadN X0.here hx rfl (hb hby d20_38) rfl ?_
  show Steps p.tables e below (T0.setTop (mkF m 39 #[.val (.int i0), s1, s2, s3, .val (.int i4), s5, .val r6] [(.int i0), (.int i4)])) _
  refine XS.icmpYes X0.here hx rfl (pc0 := 39) (pc' := 48) rfl (hb hby d20_39) rfl (feq hc39).2 (by decide) (by decide) ?_
  exact kt
theorem d20_42 : decode method_3_code 42 = .ok (.aload 5, 2) := by decide +kernel
theorem d20_44 : decode method_3_code 44 = .ok (.iconst 3, 1) := by decide +kernel
theorem d20_45 : decode method_3_code 45 = .ok (.aaload, 1) := by decide +kernel
theorem d20_46 : decode method_3_code 46 = .ok (.astore 6, 2) := by decide +kernel
set_option maxRecDepth 65536 in
set_option maxHeartbeats 40000000 in
theorem own_xl3 {p : Program} {l : Launch} {e : Env} {R : Room} {s : State} {m : MethodId} {args : Array Value} {below : List Frame} {meth : Method} {c : Code} {T0 : State} {locs : List Loc} {cells slots : Nat} {Z : State} {a0 : Array Value} {h0 : Heap} (i0 : Int32) (s1 : Slot) (s2 : Slot) (s3 : Slot) (i4 : Int32) (o5 : Addr) (r6 : Value) (w7 : Value) (cl_o5 : Cell)
    (X0 : Stand p l e R s m args below meth c T0 locs cells slots) (hx : p.tables.exec = Jvm.exec) (hZ : Z.Warmed39 s.vm) (hw : ∀ d ∈ tables_1, d.before a0 Z = true) (hby : c.code = method_3_code) (hml : c.maxLocals = 7) (hown : s.vm.findClass "com/example/fixpoint/fixpoint/expr/SymbolAttachmentPinLaw" = some m.cls) (e0 : T0.heap = h0) (h_r6 : Rf r6) (h_w7 : Rf w7) (Ar_o5 : Arr Z h0 o5 cl_o5 (.object "java/lang/Object")) (hin45 : ¬ ((3 : Int32) < 0 ∨ cl_o5.slots.size ≤ ((3 : Int32)).toNatClampNeg)) (hat45 : cl_o5.slots[((3 : Int32)).toNatClampNeg]? = some w7) (hc39 : i4 = i0) :
    ∃ (T' : State), Stand p l e R s m args below meth c T' locs cells slots ∧ T'.heap = h0 ∧
      ∀ target, Steps p.tables e below (T'.setTop (mkF m 48 #[.val (.int i0), s1, s2, s3, .val (.int i4), .val (.ref o5), .val w7] [])) target → Steps p.tables e below (T0.setTop (mkF m 36 #[.val (.int i0), s1, s2, s3, .val (.int i4), .val (.ref o5), .val r6] [])) target := by

  refine ⟨T0, X0, e0, fun target kt => ?_⟩
  show Steps p.tables e below (T0.setTop (mkF m 36 #[.val (.int i0), s1, s2, s3, .val (.int i4), .val (.ref o5), .val r6] [])) _
  refine XS.iload X0.here hx rfl (hb hby d20_36) rfl ?_
  show Steps p.tables e below (T0.setTop (mkF m 38 #[.val (.int i0), s1, s2, s3, .val (.int i4), .val (.ref o5), .val r6] [(.int i4)])) _
  refine XS.iloadN X0.here hx rfl (hb hby d20_38) rfl ?_
  show Steps p.tables e below (T0.setTop (mkF m 39 #[.val (.int i0), s1, s2, s3, .val (.int i4), .val (.ref o5), .val r6] [(.int i0), (.int i4)])) _
  refine XS.icmpNo X0.here hx rfl (hb hby d20_39) rfl (teq hc39).2 ?_
  show Steps p.tables e below (T0.setTop (mkF m 42 #[.val (.int i0), s1, s2, s3, .val (.int i4), .val (.ref o5), .val r6] [])) _
  refine XS.aload X0.here hx rfl (hb hby d20_42) rfl rfl ?_
  show Steps p.tables e below (T0.setTop (mkF m 44 #[.val (.int i0), s1, s2, s3, .val (.int i4), .val (.ref o5), .val r6] [(.ref o5)])) _
  refine XS.iconst X0.here hx rfl (hb hby d20_44) ?_
  show Steps p.tables e below (T0.setTop (mkF m 45 #[.val (.int i0), s1, s2, s3, .val (.int i4), .val (.ref o5), .val r6] [(.int (3 : Int32)), (.ref o5)])) _
  refine X0.aaload hx (j := (3 : Int32)) (v := w7) (by rw [e0]; exact Ar_o5.1) (State.isArrayOf_alike hZ.alike Ar_o5.2.1) rfl Ar_o5.2.2 hin45 hat45 (g := (mkF m 45 #[.val (.int i0), s1, s2, s3, .val (.int i4), .val (.ref o5), .val r6] [(.int (3 : Int32)), (.ref o5)])) rfl rfl (hb hby d20_45) _ ?_
  show Steps p.tables e below (T0.setTop (mkF m 46 #[.val (.int i0), s1, s2, s3, .val (.int i4), .val (.ref o5), .val r6] [w7])) _
  refine XS.astore X0.here hx rfl (hb hby d20_46) rfl h_w7.is (l' := #[.val (.int i0), s1, s2, s3, .val (.int i4), .val (.ref o5), .val w7]) (by rcases h_w7 with q | ⟨o, q⟩ <;> rw [q] <;> rcases h_r6 with q | ⟨o, q⟩ <;> rw [q] <;> rfl) ?_
  exact kt
theorem own_x0 {p : Program} {l : Launch} {e : Env} {R : Room} {s : State} {m : MethodId} {args : Array Value} {below : List Frame} {meth : Method} {c : Code} {locs : List Loc} {cells slots : Nat} {Z : State} {a0 : Array Value} {h0 : Heap} {T0 : State} (k o0 o1 o2 o3 : Int32) (va : Addr) (r v : Value) (cl : Cell) (X0 : Stand p l e R s m args below meth c T0 locs cells slots) (hx : p.tables.exec = Jvm.exec) (hZ : Z.Warmed39 s.vm) (hw : ∀ d ∈ tables_1, d.before a0 Z = true) (hby : c.code = method_3_code) (hml : c.maxLocals = 7) (hown : s.vm.findClass "com/example/fixpoint/fixpoint/expr/SymbolAttachmentPinLaw" = some m.cls) (e0 : T0.heap = h0) (hr : Rf r) (hv : Rf v) (Ar : Arr Z h0 va cl (.object "java/lang/Object")) (S : cl.slots.size = 4) (H : cl.slots[(0 : Int32).toNatClampNeg]? = some v) :
    ∃ T', Stand p l e R s m args below meth c T' locs cells slots ∧ T'.heap = h0 ∧ ∀ target, Steps p.tables e below (T'.setTop (mkF m 14 #[.val (.int k), .val (.int o0), .val (.int o1), .val (.int o2), .val (.int o3), .val (.ref va), .val (own_e r v o0 k)] [])) target → Steps p.tables e below (T0.setTop (mkF m 3 #[.val (.int k), .val (.int o0), .val (.int o1), .val (.int o2), .val (.int o3), .val (.ref va), .val r] [])) target := by
  by_cases c1 : o0 = k
  · rw [show own_e r v o0 k = v from if_pos c1]
    exact own_xl0 k o0 (.val (.int o1)) (.val (.int o2)) (.val (.int o3)) va r v cl X0 hx hZ hw hby hml hown e0 hr hv Ar (by rw [S]; decide) H c1
  · rw [show own_e r v o0 k = r from if_neg c1]
    exact own_xs0 k o0 (.val (.int o1)) (.val (.int o2)) (.val (.int o3)) (.val (.ref va)) r X0 hx hZ hw hby hml hown e0 hr c1
theorem own_x1 {p : Program} {l : Launch} {e : Env} {R : Room} {s : State} {m : MethodId} {args : Array Value} {below : List Frame} {meth : Method} {c : Code} {locs : List Loc} {cells slots : Nat} {Z : State} {a0 : Array Value} {h0 : Heap} {T0 : State} (k o0 o1 o2 o3 : Int32) (va : Addr) (r v : Value) (cl : Cell) (X0 : Stand p l e R s m args below meth c T0 locs cells slots) (hx : p.tables.exec = Jvm.exec) (hZ : Z.Warmed39 s.vm) (hw : ∀ d ∈ tables_1, d.before a0 Z = true) (hby : c.code = method_3_code) (hml : c.maxLocals = 7) (hown : s.vm.findClass "com/example/fixpoint/fixpoint/expr/SymbolAttachmentPinLaw" = some m.cls) (e0 : T0.heap = h0) (hr : Rf r) (hv : Rf v) (Ar : Arr Z h0 va cl (.object "java/lang/Object")) (S : cl.slots.size = 4) (H : cl.slots[(1 : Int32).toNatClampNeg]? = some v) :
    ∃ T', Stand p l e R s m args below meth c T' locs cells slots ∧ T'.heap = h0 ∧ ∀ target, Steps p.tables e below (T'.setTop (mkF m 25 #[.val (.int k), .val (.int o0), .val (.int o1), .val (.int o2), .val (.int o3), .val (.ref va), .val (own_e r v o1 k)] [])) target → Steps p.tables e below (T0.setTop (mkF m 14 #[.val (.int k), .val (.int o0), .val (.int o1), .val (.int o2), .val (.int o3), .val (.ref va), .val r] [])) target := by
  by_cases c1 : o1 = k
  · rw [show own_e r v o1 k = v from if_pos c1]
    exact own_xl1 k (.val (.int o0)) o1 (.val (.int o2)) (.val (.int o3)) va r v cl X0 hx hZ hw hby hml hown e0 hr hv Ar (by rw [S]; decide) H c1
  · rw [show own_e r v o1 k = r from if_neg c1]
    exact own_xs1 k (.val (.int o0)) o1 (.val (.int o2)) (.val (.int o3)) (.val (.ref va)) r X0 hx hZ hw hby hml hown e0 hr c1
theorem own_x2 {p : Program} {l : Launch} {e : Env} {R : Room} {s : State} {m : MethodId} {args : Array Value} {below : List Frame} {meth : Method} {c : Code} {locs : List Loc} {cells slots : Nat} {Z : State} {a0 : Array Value} {h0 : Heap} {T0 : State} (k o0 o1 o2 o3 : Int32) (va : Addr) (r v : Value) (cl : Cell) (X0 : Stand p l e R s m args below meth c T0 locs cells slots) (hx : p.tables.exec = Jvm.exec) (hZ : Z.Warmed39 s.vm) (hw : ∀ d ∈ tables_1, d.before a0 Z = true) (hby : c.code = method_3_code) (hml : c.maxLocals = 7) (hown : s.vm.findClass "com/example/fixpoint/fixpoint/expr/SymbolAttachmentPinLaw" = some m.cls) (e0 : T0.heap = h0) (hr : Rf r) (hv : Rf v) (Ar : Arr Z h0 va cl (.object "java/lang/Object")) (S : cl.slots.size = 4) (H : cl.slots[(2 : Int32).toNatClampNeg]? = some v) :
    ∃ T', Stand p l e R s m args below meth c T' locs cells slots ∧ T'.heap = h0 ∧ ∀ target, Steps p.tables e below (T'.setTop (mkF m 36 #[.val (.int k), .val (.int o0), .val (.int o1), .val (.int o2), .val (.int o3), .val (.ref va), .val (own_e r v o2 k)] [])) target → Steps p.tables e below (T0.setTop (mkF m 25 #[.val (.int k), .val (.int o0), .val (.int o1), .val (.int o2), .val (.int o3), .val (.ref va), .val r] [])) target := by
  by_cases c1 : o2 = k
  · rw [show own_e r v o2 k = v from if_pos c1]
    exact own_xl2 k (.val (.int o0)) (.val (.int o1)) o2 (.val (.int o3)) va r v cl X0 hx hZ hw hby hml hown e0 hr hv Ar (by rw [S]; decide) H c1
  · rw [show own_e r v o2 k = r from if_neg c1]
    exact own_xs2 k (.val (.int o0)) (.val (.int o1)) o2 (.val (.int o3)) (.val (.ref va)) r X0 hx hZ hw hby hml hown e0 hr c1
theorem own_x3 {p : Program} {l : Launch} {e : Env} {R : Room} {s : State} {m : MethodId} {args : Array Value} {below : List Frame} {meth : Method} {c : Code} {locs : List Loc} {cells slots : Nat} {Z : State} {a0 : Array Value} {h0 : Heap} {T0 : State} (k o0 o1 o2 o3 : Int32) (va : Addr) (r v : Value) (cl : Cell) (X0 : Stand p l e R s m args below meth c T0 locs cells slots) (hx : p.tables.exec = Jvm.exec) (hZ : Z.Warmed39 s.vm) (hw : ∀ d ∈ tables_1, d.before a0 Z = true) (hby : c.code = method_3_code) (hml : c.maxLocals = 7) (hown : s.vm.findClass "com/example/fixpoint/fixpoint/expr/SymbolAttachmentPinLaw" = some m.cls) (e0 : T0.heap = h0) (hr : Rf r) (hv : Rf v) (Ar : Arr Z h0 va cl (.object "java/lang/Object")) (S : cl.slots.size = 4) (H : cl.slots[(3 : Int32).toNatClampNeg]? = some v) :
    ∃ T', Stand p l e R s m args below meth c T' locs cells slots ∧ T'.heap = h0 ∧ ∀ target, Steps p.tables e below (T'.setTop (mkF m 48 #[.val (.int k), .val (.int o0), .val (.int o1), .val (.int o2), .val (.int o3), .val (.ref va), .val (own_e r v o3 k)] [])) target → Steps p.tables e below (T0.setTop (mkF m 36 #[.val (.int k), .val (.int o0), .val (.int o1), .val (.int o2), .val (.int o3), .val (.ref va), .val r] [])) target := by
  by_cases c1 : o3 = k
  · rw [show own_e r v o3 k = v from if_pos c1]
    exact own_xl3 k (.val (.int o0)) (.val (.int o1)) (.val (.int o2)) o3 va r v cl X0 hx hZ hw hby hml hown e0 hr hv Ar (by rw [S]; decide) H c1
  · rw [show own_e r v o3 k = r from if_neg c1]
    exact own_xs3 k (.val (.int o0)) (.val (.int o1)) (.val (.int o2)) o3 (.val (.ref va)) r X0 hx hZ hw hby hml hown e0 hr c1
theorem d20_0 : decode method_3_code 0 = .ok (.aconst_null, 1) := by decide +kernel
theorem d20_1 : decode method_3_code 1 = .ok (.astore 6, 2) := by decide +kernel
theorem d20_48 : decode method_3_code 48 = .ok (.aload 6, 2) := by decide +kernel
theorem d20_50 : decode method_3_code 50 = .ok (.areturn, 1) := by decide +kernel
theorem pn_20 : plainName "com/example/fixpoint/fixpoint/expr/SymbolAttachmentPinLaw" = true := by first | (simp [plainName, overriddenIn]; done) | decide +kernel
theorem ef_20 (m : MethodId) (x0 : Int32) (x1 : Int32) (x2 : Int32) (x3 : Int32) (x4 : Int32) (x5 : Addr) : entryFrame m #[(.int x0), (.int x1), (.int x2), (.int x3), (.int x4), (.ref x5)] 7 = mkF m 0 #[.val (.int x0), .val (.int x1), .val (.int x2), .val (.int x3), .val (.int x4), .val (.ref x5), .unset] [] := by first | (simp [entryFrame, mkF, argsToLocals, Value.category]; done) | rfl
set_option maxRecDepth 65536 in
set_option maxHeartbeats 40000000 in
theorem rm20 (l : Launch) (Z : State) (a0 : Array Value) (hw : ∀ d ∈ tables_1, d.before a0 Z = true) (ws : List Jvm.Cond) (p1 : Int32) (p2 : Int32) (p3 : Int32) (p4 : Int32) (p5 : Int32) (a6 : Addr) (h0 : Heap) (n0 : Nat) (Z0 : n0 ≤ h0.size) (kV : ClassId) (v0 v1 v2 v3 : Value) (h_v0 : Rf v0) (h_v1 : Rf v1) (h_v2 : Rf v2) (h_v3 : Rf v3) (V : Arv Z h0 a6 kV (.object "java/lang/Object") (4 : Int32) [v0, v1, v2, v3] .null) :
    MetFree l (⟨"com/example/fixpoint/fixpoint/expr/SymbolAttachmentPinLaw", "expected", "(IIIII[Ljava/lang/Object;)Ljava/lang/Object;"⟩ : MethodName) (head1 (Jvm.Cond.code (⟨"com/example/fixpoint/fixpoint/expr/SymbolAttachmentPinLaw", "expected", "(IIIII[Ljava/lang/Object;)Ljava/lang/Object;"⟩ : MethodName) method_3_code 7 (some (.object "java/lang/Object")) :: ws) ({ frames := 0, cells := 0, slots := 0, locals := 0 } : Room)) (fun a U => a = #[(.int p1), (.int p2), (.int p3), (.int p4), (.int p5), (.ref a6)] ∧ Z.Warmed39 U.vm ∧ U.heap = h0) (fun _ _ _ _ _ => True) (fun _ U o U' => ∃ v L, o = .returned v ∧ QP (some (own_e (own_e (own_e (own_e .null v0 p2 p1) v1 p3 p1) v2 p4 p1) v3 p5 p1)) h0 n0 v U'.heap L ∧ FrameEnd U o U' L ({ frames := 0, cells := 0, slots := 0, locals := 0 } : Room).cells ({ frames := 0, cells := 0, slots := 0, locals := 0 } : Room).slots) := by
  refine MetFree.of_bodySF (plainFor_of_name pn_20) hisR ?_
  intro p e s m args below meth c s₁ Bd hml0 hP hK
  obtain ⟨rfl, hZ, hh⟩ := hP
  have hx := Bd.exec
  have hby := Bd.bytes
  have hml : c.maxLocals = 7 := hml0
  have hown : s.vm.findClass "com/example/fixpoint/fixpoint/expr/SymbolAttachmentPinLaw" = some m.cls := findClass_of_methodNamed Bd.named
  have hnm := (name_of_methodNamed Bd.named Bd.method).1
  have X0 : Stand p l e ({ frames := 0, cells := 0, slots := 0, locals := 0 } : Room) s m #[(.int p1), (.int p2), (.int p3), (.int p4), (.int p5), (.ref a6)] below meth c s₁ [] 0 0 := Stand.of_body Bd
  have e0 : s₁.heap = h0 := by rw [← hh, Bd.state]; rfl
  have N0 := Fr.nil n0
  have pre0 : ∀ t, Steps p.tables e below (s₁.setTop (mkF m 0 #[.val (.int p1), .val (.int p2), .val (.int p3), .val (.int p4), .val (.int p5), .val (.ref a6), .unset] [])) t → Steps p.tables e below (s₁.setTop (entryFrame m #[(.int p1), (.int p2), (.int p3), (.int p4), (.int p5), (.ref a6)] 7)) t := fun t k => castTop (ef_20 m p1 p2 p3 p4 p5 a6) k
  obtain ⟨cl, Ar, -, S, -, H, -⟩ := V
  have S4 : cl.slots.size = 4 := S
  have r0 : Rf .null := Or.inl rfl
  obtain ⟨T1, X1, e1, st1⟩ := own_x0 p1 p2 p3 p4 p5 a6 .null v0 cl X0 hx hZ hw hby hml hown e0 r0 h_v0 Ar S4 (H 0 (by omega))
  have r1 := own_e_rf (o := p2) (k := p1) r0 h_v0
  obtain ⟨T2, X2, e2, st2⟩ := own_x1 p1 p2 p3 p4 p5 a6 (own_e .null v0 p2 p1) v1 cl X1 hx hZ hw hby hml hown e1 r1 h_v1 Ar S4 (H 1 (by omega))
  have r2 := own_e_rf (o := p3) (k := p1) r1 h_v1
  obtain ⟨T3, X3, e3, st3⟩ := own_x2 p1 p2 p3 p4 p5 a6 (own_e (own_e .null v0 p2 p1) v1 p3 p1) v2 cl X2 hx hZ hw hby hml hown e2 r2 h_v2 Ar S4 (H 2 (by omega))
  have r3 := own_e_rf (o := p4) (k := p1) r2 h_v2
  obtain ⟨T4, X4, e4, st4⟩ := own_x3 p1 p2 p3 p4 p5 a6 (own_e (own_e (own_e .null v0 p2 p1) v1 p3 p1) v2 p4 p1) v3 cl X3 hx hZ hw hby hml hown e3 r3 h_v3 Ar S4 (H 3 (by omega))
  have r4 := own_e_rf (o := p5) (k := p1) r3 h_v3
  obtain ⟨fs, hr, hrun, hended, hW, hsame⟩ := X4.leave (v := some (own_e (own_e (own_e (own_e .null v0 p2 p1) v1 p3 p1) v2 p4 p1) v3 p5 p1)) (fun h => by rw [Bd.returns] at h; cases h)
  refine ⟨_, _, pre0 _ ?_, hrun, hended, _, _, rfl, ?_, ⟨_, rfl⟩, hW, hsame.mono (by decide) (by decide)⟩
  · show Steps p.tables e below (s₁.setTop (mkF m 0 #[.val (.int p1), .val (.int p2), .val (.int p3), .val (.int p4), .val (.int p5), .val (.ref a6), .unset] [])) _
    refine XS.aconstNull X0.here hx rfl (hb hby d20_0) ?_
    show Steps p.tables e below (s₁.setTop (mkF m 1 #[.val (.int p1), .val (.int p2), .val (.int p3), .val (.int p4), .val (.int p5), .val (.ref a6), .unset] [.null])) _
    refine XS.astore X0.here hx rfl (hb hby d20_1) rfl rfl (l' := #[.val (.int p1), .val (.int p2), .val (.int p3), .val (.int p4), .val (.int p5), .val (.ref a6), .val .null]) rfl ?_
    refine st1 _ ?_
    refine st2 _ ?_
    refine st3 _ ?_
    refine st4 _ ?_
    show Steps p.tables e below (T4.setTop (mkF m 48 #[.val (.int p1), .val (.int p2), .val (.int p3), .val (.int p4), .val (.int p5), .val (.ref a6), .val (own_e (own_e (own_e (own_e .null v0 p2 p1) v1 p3 p1) v2 p4 p1) v3 p5 p1)] [])) _
    refine XS.aload X4.here hx rfl (hb hby d20_48) rfl r4.is ?_
    show Steps p.tables e below (T4.setTop (mkF m 50 #[.val (.int p1), .val (.int p2), .val (.int p3), .val (.int p4), .val (.int p5), .val (.ref a6), .val (own_e (own_e (own_e (own_e .null v0 p2 p1) v1 p3 p1) v2 p4 p1) v3 p5 p1)] [(own_e (own_e (own_e (own_e .null v0 p2 p1) v1 p3 p1) v2 p4 p1) v3 p5 p1)])) _
    jvm_step X4.here [X4.here.top, hx, (hb hby d20_50), X4.method', Bd.returns, r4.is, FieldType.isReference]
    first | (intro acts; rw [hr _ acts rfl rfl rfl]) | rw [hr _ _ rfl rfl rfl]
    exact Steps.refl _
  · show QP _ h0 n0 _ T4.heap _
    rw [e4]
    exact ⟨rfl, N0, rfl⟩
theorem own_chr0 : ∀ n : Fin 256, ¬ nar .char ((Int32.ofNat n.val).toUInt32.toUInt16.toUInt32.toInt32) < 0 ∧ ¬ (255 : Int32) < nar .char ((Int32.ofNat n.val).toUInt32.toUInt16.toUInt32.toInt32) := by decide +kernel
theorem own_chr (x : Int32) : ¬ nar .char ((x &&& (255 : Int32)).toUInt32.toUInt16.toUInt32.toInt32) < 0 ∧ ¬ (255 : Int32) < nar .char ((x &&& (255 : Int32)).toUInt32.toUInt16.toUInt32.toInt32) := by
  have e : (x &&& 255).toInt = x.toInt % 2 ^ 8 := Jvm.Kit.i32_mask x 255 (k := 8) (by decide) (by decide)
  have q : x &&& 255 = Int32.ofNat (x &&& 255).toInt.toNat := by
    apply Int32.toInt_inj.mp
    rw [Int32.toInt_ofNat_of_lt (by omega)]
    omega
  rw [q]
  exact own_chr0 ⟨(x &&& 255).toInt.toNat, by omega⟩
theorem own_chrs {x y : Int32} : ∀ c ∈ ([nar .char ((x &&& (255 : Int32)).toUInt32.toUInt16.toUInt32.toInt32), nar .char ((y &&& (255 : Int32)).toUInt32.toUInt16.toUInt32.toInt32)] : List Int32), ¬ c < 0 ∧ ¬ (255 : Int32) < c := by
  intro c hc
  rcases List.mem_cons.mp hc with q | q
  · rw [q]; exact own_chr x
  · rw [List.mem_singleton.mp q]; exact own_chr y
theorem pd_0_0 : parseMethodDescriptor "([C)V" = some ⟨[(.array .char)], none⟩ := by decide +kernel
set_option maxRecDepth 65536 in
set_option maxHeartbeats 40000000 in
theorem own_segA {p : Program} {l : Launch} {e : Env} {s : State} {m : MethodId} {args : Array Value} {below : List Frame} {meth : Method} {c : Code} {T0 : State} {Z : State} {a0 : Array Value} {h0 : Heap} {n0 : Nat} (s0 : Slot) (i1 : Int32) (s2 : Slot) (s3 : Slot) (s4 : Slot) (s5 : Slot) (z : Int32)
    (X0 : Stand p l e room_1 s m args below meth c T0 [] 0 0) (hx : p.tables.exec = Jvm.exec) (hZ : Z.Warmed39 s.vm) (hw : ∀ d ∈ tables_1, d.before a0 Z = true) (hby : c.code = code) (hml : c.maxLocals = 20) (hown : s.vm.findClass "com/example/fixpoint/fixpoint/expr/SymbolAttachmentPinLaw" = some m.cls) (e0 : T0.heap = h0) (Z0 : n0 ≤ h0.size) (O0 : Old Z n0 h0) (SCS : Sta Z Z.heap "java/lang/String" "COMPACT_STRINGS" "Z" (.int z)) (hcz : ¬ z = 0) :
    ∃ (T' : State) (h' : Heap) (locs' : List Loc) (kD kO kV : ClassId) (cs ds ow st va t0 t1 t2 : Addr), Stand p l e room_1 s m args below meth c T' locs' 12 35 ∧ T'.heap = h' ∧ Fr n0 locs' ∧ Old Z n0 h' ∧ n0 ≤ h'.size ∧ Arv Z h' ds kD .char (2 : Int32) [.int (nar .char ((((i1.toUInt32 >>> ((16 : Int32) &&& 31).toUInt32).toInt32) &&& (255 : Int32)).toUInt32.toUInt16.toUInt32.toInt32)), .int (nar .char ((((i1.toUInt32 >>> ((24 : Int32) &&& 31).toUInt32).toInt32) &&& (255 : Int32)).toUInt32.toUInt16.toUInt32.toInt32))] (.int 0) ∧ Arv Z h' ow kO (.object "java/lang/Object") (3 : Int32) [.ref t0, .ref t1, .ref t2] .null ∧ Arv Z h' va kV (.object "java/lang/Object") (4 : Int32) [.null, .null, .null, .null] .null ∧ Ovr Z kV "java/lang/Object" ∧ (ds < ow ∧ ow < t0 ∧ t0 < t1 ∧ t1 < t2 ∧ t2 < st ∧ st < va) ∧ n0 ≤ ow ∧
      ∀ target, Steps p.tables e below (T'.setTop (mkF m 114 #[s0, .val (.int i1), s2, s3, s4, s5, .val (.ref cs), .val (.ref ds), .val (.ref ow), .val (.ref st), .val (.ref va), .unset, .unset, .unset, .unset, .unset, .unset, .unset, .unset, .unset] [])) target → Steps p.tables e below (T0.setTop (mkF m 0 #[s0, .val (.int i1), s2, s3, s4, s5, .unset, .unset, .unset, .unset, .unset, .unset, .unset, .unset, .unset, .unset, .unset, .unset, .unset, .unset] [])) target := by
  have N0 : Fr n0 [] := Fr.nil n0
  have hws : ∀ d ∈ StrChars.Road.words, d.before a0 Z = true := fun d hd => hw d ((by decide +kernel : ∀ d ∈ StrChars.Road.words, d ∈ tables_1) d hd)
  obtain ⟨T7, h7, k7, X7, e7, E7, A7, st7⟩ := newP X0 hx hZ (hw _ (List.mem_of_getElem? (i := 0) rfl)) e0 (g := (mkF m 1 #[s0, .val (.int i1), s2, s3, s4, s5, .unset, .unset, .unset, .unset, .unset, .unset, .unset, .unset, .unset, .unset, .unset, .unset, .unset, .unset] [(.int (2 : Int32))])) rfl (hb hby at_1) rfl (by decide) (cap := 2) (by decide) (by decide) (by decide) (by decide)
  obtain ⟨b7, g7⟩ : ∃ z, z = h0.size := ⟨_, rfl⟩
  rw [← g7] at A7 st7
  have V_b7 : Arv Z h7 b7 k7 .char (2 : Int32) [(.int (0 : Int32)), (.int (0 : Int32))] (.int (0 : Int32)) := (Arv.new A7 (by decide)).pad (pad_rep [] (.int (0 : Int32)) 2)
  have g_b7 : n0 ≤ b7 := Nat.le_trans Z0 (Nat.le_of_eq g7.symm)
  have sz_b7 : h0.size ≤ b7 := (Nat.le_trans (Keep.refl h0 []).1 (Nat.le_of_eq g7.symm))
  have K7 : Keep h0 h7 [] := (Keep.refl h0 []).ext E7
  have O7 := O0.ext E7
  obtain ⟨cl_b7_11, Ar_b7, q_b7, S_b7, N_b7, H_b7, G_b7⟩ := V_b7
  have hin11 : ¬ ((0 : Int32) < 0 ∨ cl_b7_11.slots.size ≤ ((0 : Int32)).toNatClampNeg) := inb_of S_b7 ⟨by decide, by decide⟩
  obtain ⟨T8, h8, X8, e8, W8, st8⟩ := stC X7 hx hZ e7 Ar_b7 (j := (0 : Int32)) hin11 (g := (mkF m 11 #[s0, .val (.int i1), s2, s3, s4, s5, .unset, .unset, .unset, .unset, .unset, .unset, .unset, .unset, .unset, .unset, .unset, .unset, .unset, .unset] [(.int ((i1 &&& (255 : Int32)).toUInt32.toUInt16.toUInt32.toInt32)), (.int (0 : Int32)), (.ref b7), (.ref b7)])) rfl rfl (hb hby at_11)
  have V_b7_8 := Arv.set Ar_b7 q_b7 S_b7 N_b7 H_b7 G_b7 (fits_nar_char _) W8 0 rfl (Nat.le_of_ble_eq_true rfl)
  have K8 : Keep h0 h8 [] := K7.wr W8 (Or.inr sz_b7)
  have O8 := O7.wr W8 g_b7
  have N8 := Fr.snoc X8 N0 g_b7
  obtain ⟨cl_b7_23, Ar_b7, q_b7, S_b7, N_b7, H_b7, G_b7⟩ := V_b7_8
  have hin23 : ¬ ((1 : Int32) < 0 ∨ cl_b7_23.slots.size ≤ ((1 : Int32)).toNatClampNeg) := inb_of S_b7 ⟨by decide, by decide⟩
  obtain ⟨T9, h9, X9, e9, W9, st9⟩ := stC X8 hx hZ e8 Ar_b7 (j := (1 : Int32)) hin23 (g := (mkF m 23 #[s0, .val (.int i1), s2, s3, s4, s5, .unset, .unset, .unset, .unset, .unset, .unset, .unset, .unset, .unset, .unset, .unset, .unset, .unset, .unset] [(.int ((((i1.toUInt32 >>> ((8 : Int32) &&& 31).toUInt32).toInt32) &&& (255 : Int32)).toUInt32.toUInt16.toUInt32.toInt32)), (.int (1 : Int32)), (.ref b7), (.ref b7)])) rfl rfl (hb hby at_23)
  have V_b7_9 := Arv.set Ar_b7 q_b7 S_b7 N_b7 H_b7 G_b7 (fits_nar_char _) W9 1 rfl (Nat.le_of_ble_eq_true rfl)
  have K9 : Keep h0 h9 [] := K8.wr W9 (Or.inr sz_b7)
  have O9 := O8.wr W9 g_b7
  have Kc9 : Keep h9 h9 [] := Keep.refl _ _
  have N9 := Fr.snoc X9 N8 g_b7
  obtain ⟨T10, h10, k10, X10, e10, E10, A10, st10⟩ := newP X9 hx hZ (hw _ (List.mem_of_getElem? (i := 0) rfl)) e9 (g := (mkF m 27 #[s0, .val (.int i1), s2, s3, s4, s5, .val (.ref b7), .unset, .unset, .unset, .unset, .unset, .unset, .unset, .unset, .unset, .unset, .unset, .unset, .unset] [(.int (2 : Int32))])) rfl (hb hby at_27) rfl (by decide) (cap := 2) (by decide) (by decide) (by decide) (by decide)
  obtain ⟨b10, g10⟩ : ∃ z, z = h9.size := ⟨_, rfl⟩
  rw [← g10] at A10 st10
  have V_b10 : Arv Z h10 b10 k10 .char (2 : Int32) [(.int (0 : Int32)), (.int (0 : Int32))] (.int (0 : Int32)) := (Arv.new A10 (by decide)).pad (pad_rep [] (.int (0 : Int32)) 2)
  have g_b10 : n0 ≤ b10 := Nat.le_trans (Nat.le_trans (Nat.le_trans (Nat.le_trans Z0 E7.1) (Keep.of_wr W8).1) (Keep.of_wr W9).1) (Nat.le_of_eq g10.symm)
  have sz_b10 : h0.size ≤ b10 := (Nat.le_trans K9.1 (Nat.le_of_eq g10.symm))
  have K10 : Keep h0 h10 [] := K9.ext E10
  have O10 := O9.ext E10
  have Kc10 : Keep h9 h10 [] := Kc9.ext E10
  have szc_b10 : h9.size ≤ b10 := Nat.le_trans Kc9.1 (Nat.le_of_eq g10.symm)
  obtain ⟨cl_b10_40, Ar_b10, q_b10, S_b10, N_b10, H_b10, G_b10⟩ := V_b10
  have hin40 : ¬ ((0 : Int32) < 0 ∨ cl_b10_40.slots.size ≤ ((0 : Int32)).toNatClampNeg) := inb_of S_b10 ⟨by decide, by decide⟩
  obtain ⟨T11, h11, X11, e11, W11, st11⟩ := stC X10 hx hZ e10 Ar_b10 (j := (0 : Int32)) hin40 (g := (mkF m 40 #[s0, .val (.int i1), s2, s3, s4, s5, .val (.ref b7), .unset, .unset, .unset, .unset, .unset, .unset, .unset, .unset, .unset, .unset, .unset, .unset, .unset] [(.int ((((i1.toUInt32 >>> ((16 : Int32) &&& 31).toUInt32).toInt32) &&& (255 : Int32)).toUInt32.toUInt16.toUInt32.toInt32)), (.int (0 : Int32)), (.ref b10), (.ref b10)])) rfl rfl (hb hby at_40)
  have V_b10_11 := Arv.set Ar_b10 q_b10 S_b10 N_b10 H_b10 G_b10 (fits_nar_char _) W11 0 rfl (Nat.le_of_ble_eq_true rfl)
  have K11 : Keep h0 h11 [] := K10.wr W11 (Or.inr sz_b10)
  have O11 := O10.wr W11 g_b10
  have Kc11 : Keep h9 h11 [] := Kc10.wr W11 (Or.inr szc_b10)
  have N11 := Fr.snoc X11 N9 g_b10
  obtain ⟨cl_b10_52, Ar_b10, q_b10, S_b10, N_b10, H_b10, G_b10⟩ := V_b10_11
  have hin52 : ¬ ((1 : Int32) < 0 ∨ cl_b10_52.slots.size ≤ ((1 : Int32)).toNatClampNeg) := inb_of S_b10 ⟨by decide, by decide⟩
  obtain ⟨T12, h12, X12, e12, W12, st12⟩ := stC X11 hx hZ e11 Ar_b10 (j := (1 : Int32)) hin52 (g := (mkF m 52 #[s0, .val (.int i1), s2, s3, s4, s5, .val (.ref b7), .unset, .unset, .unset, .unset, .unset, .unset, .unset, .unset, .unset, .unset, .unset, .unset, .unset] [(.int ((((i1.toUInt32 >>> ((24 : Int32) &&& 31).toUInt32).toInt32) &&& (255 : Int32)).toUInt32.toUInt16.toUInt32.toInt32)), (.int (1 : Int32)), (.ref b10), (.ref b10)])) rfl rfl (hb hby at_52)
  have V_b10_12 := Arv.set Ar_b10 q_b10 S_b10 N_b10 H_b10 G_b10 (fits_nar_char _) W12 1 rfl (Nat.le_of_ble_eq_true rfl)
  have K12 : Keep h0 h12 [] := K11.wr W12 (Or.inr sz_b10)
  have O12 := O11.wr W12 g_b10
  have Kc12 : Keep h9 h12 [] := Kc11.wr W12 (Or.inr szc_b10)
  have Kd12 : Keep h12 h12 [] := Keep.refl _ _
  have N12 := Fr.snoc X12 N11 g_b10
  obtain ⟨T13, h13, k13, X13, e13, E13, A13, OV13, st13⟩ := newR X12 hx hZ hown (hw _ (List.mem_of_getElem? (i := 1) rfl)) (hw _ (List.mem_of_getElem? (i := 2) rfl)) e12 (g := (mkF m 56 #[s0, .val (.int i1), s2, s3, s4, s5, .val (.ref b7), .val (.ref b10), .unset, .unset, .unset, .unset, .unset, .unset, .unset, .unset, .unset, .unset, .unset, .unset] [(.int (3 : Int32))])) rfl (hb hby at_56) rfl (by decide) (cap := 3) (by decide) (by decide) (by decide) (by decide)
  obtain ⟨b13, g13⟩ : ∃ z, z = h12.size := ⟨_, rfl⟩
  rw [← g13] at A13 st13
  have V_b13 : Arv Z h13 b13 k13 (.object "java/lang/Object") (3 : Int32) [.null, .null, .null] .null := (Arv.new A13 (by decide)).pad (pad_rep [] .null 3)
  have g_b13 : n0 ≤ b13 := Nat.le_trans (Nat.le_trans (Nat.le_trans (Nat.le_trans (Nat.le_trans (Nat.le_trans (Nat.le_trans Z0 E7.1) (Keep.of_wr W8).1) (Keep.of_wr W9).1) E10.1) (Keep.of_wr W11).1) (Keep.of_wr W12).1) (Nat.le_of_eq g13.symm)
  have sz_b13 : h0.size ≤ b13 := (Nat.le_trans K12.1 (Nat.le_of_eq g13.symm))
  have K13 : Keep h0 h13 [] := K12.ext E13
  have O13 := O12.ext E13
  have Kc13 : Keep h9 h13 [] := Kc12.ext E13
  have szc_b13 : h9.size ≤ b13 := Nat.le_trans Kc12.1 (Nat.le_of_eq g13.symm)
  have Kd13 : Keep h12 h13 [] := Kd12.ext E13
  have szd_b13 : h12.size ≤ b13 := Nat.le_trans Kd12.1 (Nat.le_of_eq g13.symm)
  obtain ⟨T14, h14, X14, e14, E14, A14, D14, -, st14⟩ := newO X13 hx hZ hown (hw _ (List.mem_of_getElem? (i := 3) rfl)) (hw _ (List.mem_of_getElem? (i := 4) rfl)) (hw _ (List.mem_of_getElem? (i := 5) rfl)) e13 (g := (mkF m 61 #[s0, .val (.int i1), s2, s3, s4, s5, .val (.ref b7), .val (.ref b10), .unset, .unset, .unset, .unset, .unset, .unset, .unset, .unset, .unset, .unset, .unset, .unset] [(.int (0 : Int32)), (.ref b13), (.ref b13)])) rfl (hb hby at_61) (by decide) (by decide)
  obtain ⟨b14, g14⟩ : ∃ z, z = h13.size := ⟨_, rfl⟩
  rw [← g14] at A14 D14 st14
  have F_coder_b14 : Fld Z h14 b14 "java/lang/String" "coder" "B" (.int (0 : Int32)) := D14 (Or.inr (hw _ (List.mem_of_getElem? (i := 29) rfl))) (ty := .byte) (by decide)
  have F_value_b14 : Fld Z h14 b14 "java/lang/String" "value" "[B" .null := D14 (Or.inr (hw _ (List.mem_of_getElem? (i := 31) rfl))) (ty := (.array .byte)) (by decide)
  have F_hash_b14 : Fld Z h14 b14 "java/lang/String" "hash" "I" (.int (0 : Int32)) := D14 (Or.inl (hw _ (List.mem_of_getElem? (i := 53) rfl))) (ty := .int) (by decide)
  have F_hashIsZero_b14 : Fld Z h14 b14 "java/lang/String" "hashIsZero" "Z" (.int (0 : Int32)) := D14 (Or.inl (hw _ (List.mem_of_getElem? (i := 55) rfl))) (ty := .boolean) (by decide)
  have E_b14 := A14
  have g_b14 : n0 ≤ b14 := Nat.le_trans (Nat.le_trans (Nat.le_trans (Nat.le_trans (Nat.le_trans (Nat.le_trans (Nat.le_trans (Nat.le_trans Z0 E7.1) (Keep.of_wr W8).1) (Keep.of_wr W9).1) E10.1) (Keep.of_wr W11).1) (Keep.of_wr W12).1) E13.1) (Nat.le_of_eq g14.symm)
  have sz_b14 : h0.size ≤ b14 := (Nat.le_trans K13.1 (Nat.le_of_eq g14.symm))
  have K14 : Keep h0 h14 [] := K13.ext E14
  have O14 := O13.ext E14
  have Kc14 : Keep h9 h14 [] := Kc13.ext E14
  have szc_b14 : h9.size ≤ b14 := Nat.le_trans Kc13.1 (Nat.le_of_eq g14.symm)
  have Kd14 : Keep h12 h14 [] := Kd13.ext E14
  have szd_b14 : h12.size ≤ b14 := Nat.le_trans Kd13.1 (Nat.le_of_eq g14.symm)
  obtain ⟨_, _, ⟨T15, L15, k15, n15⟩, -, X15, ⟨Lc15, hQ15, l15, y15, z15⟩, st15⟩ := X14.specialBack hx (y := (⟨"java/lang/String", "<init>", "([C)V"⟩ : MethodName)) rfl hown (mvT hZ (hw _ (List.mem_of_getElem? (i := 6) rfl))) (mvT hZ (hw _ (List.mem_of_getElem? (i := 7) rfl))) (mvT hZ (hw _ (List.mem_of_getElem? (i := 8) rfl))) (by decide) (StrChars.Road.backV (W := 4) hZ hws (kI := 4) (hw _ (List.mem_of_getElem? (i := 4) rfl)) (cs := ([(nar .char ((i1 &&& (255 : Int32)).toUInt32.toUInt16.toUInt32.toInt32)), (nar .char ((((i1.toUInt32 >>> ((8 : Int32) &&& 31).toUInt32).toInt32) &&& (255 : Int32)).toUInt32.toUInt16.toUInt32.toInt32))] : List Int32)) (bs := ([(nar .char ((i1 &&& (255 : Int32)).toUInt32.toUInt16.toUInt32.toInt32)), (nar .char ((((i1.toUInt32 >>> ((8 : Int32) &&& 31).toUInt32).toInt32) &&& (255 : Int32)).toUInt32.toUInt16.toUInt32.toInt32))] : List Int32).map (fun c => c.toInt8.toInt32)) (n := 2) g_b14 (Nat.le_trans Z0 K14.1) E_b14 F_value_b14 F_coder_b14 (V_b7_9.keep Kc14 (fun q => nomatch q)) (SCS.ext O14.2) hcz rfl rfl (by decide) (by decide) own_chrs rfl (by decide) (by decide)) (g := (mkF m 67 #[s0, .val (.int i1), s2, s3, s4, s5, .val (.ref b7), .val (.ref b10), .unset, .unset, .unset, .unset, .unset, .unset, .unset, .unset, .unset, .unset, .unset, .unset] [(.ref b7), (.ref b14), (.ref b14), (.int (0 : Int32)), (.ref b13), (.ref b13)])) rfl (by rw [hml]; rfl) (Steps.refl _) (a := b14) (argsL := [(.ref b7)]) (rest := [(.ref b14), (.int (0 : Int32)), (.ref b13), (.ref b13)]) (lenOf pd_0_0 rfl) rfl (by show 2 * 0 + _ ≤ _; exact Nat.le_of_eq rfl) (hb hby at_67) (fun _ _ => ⟨rfl, e14, (by decide : 4 + 1 ≤ _), (by decide : 11 + 2 ≤ _)⟩)
  dsimp only [Pt.U, Pt.locs, Pt.cells, Pt.slots] at X15 l15 y15 z15 st15 hQ15
  subst l15 y15 z15
  obtain ⟨rfl, N15q, K15, E15s, -, -⟩ := hQ15
  have KT15 : Keep h0 T15.heap [] := K14.trans K15 (fun x q => Or.inr (by cases List.mem_singleton.mp q; exact sz_b14))
  have O15 := O14.keep K15 (allS g_b14 all0)
  have Kc15 : Keep h9 T15.heap [] := Kc14.trans K15 (fun x q => Or.inr (by cases List.mem_singleton.mp q; exact szc_b14))
  have Kd15 : Keep h12 T15.heap [] := Kd14.trans K15 (fun x q => Or.inr (by cases List.mem_singleton.mp q; exact szd_b14))
  have N15 := Fr.app N12 N15q
  obtain ⟨cl_b13_70, Ar_b13, q_b13, S_b13, N_b13, H_b13, G_b13⟩ := (V_b13.ext E14).keep K15 (fun q => Nat.lt_irrefl _ (List.mem_singleton.mp q ▸ Nat.lt_of_lt_of_le (Arv.lt V_b13) (Nat.le_of_eq g14.symm)))
  have hin70 : ¬ ((0 : Int32) < 0 ∨ cl_b13_70.slots.size ≤ ((0 : Int32)).toNatClampNeg) := inb_of S_b13 ⟨by decide, by decide⟩
  have Sto70 : Sto Z T15.heap b13 (.ref b14) := Sto.ofV Ar_b13 q_b13 OV13 (Ins.of_exa E15s (hw _ (List.mem_of_getElem? (i := 32) rfl)))
  obtain ⟨T16, h16, X16, e16, W16, st16⟩ := stR X15 hx hZ rfl Ar_b13 (j := (0 : Int32)) hin70 rfl Sto70 (g := (mkF m 70 #[s0, .val (.int i1), s2, s3, s4, s5, .val (.ref b7), .val (.ref b10), .unset, .unset, .unset, .unset, .unset, .unset, .unset, .unset, .unset, .unset, .unset, .unset] [(.ref b14), (.int (0 : Int32)), (.ref b13), (.ref b13)])) rfl rfl (hb hby at_70)
  have V_b13_16 := Arv.set Ar_b13 q_b13 S_b13 N_b13 H_b13 G_b13 rfl W16 0 rfl (Nat.le_of_ble_eq_true rfl)
  have O16 := O15.wr W16 g_b13
  have Kc16 : Keep h9 h16 [] := Kc15.wr W16 (Or.inr szc_b13)
  have Kd16 : Keep h12 h16 [] := Kd15.wr W16 (Or.inr szd_b13)
  have N16 := Fr.snoc X16 N15 g_b13
  have K16 : Keep h0 h16 [] := KT15.wr W16 (Or.inr sz_b13)
  obtain ⟨T17, h17, X17, e17, E17, A17, D17, -, st17⟩ := newO X16 hx hZ hown (hw _ (List.mem_of_getElem? (i := 3) rfl)) (hw _ (List.mem_of_getElem? (i := 4) rfl)) (hw _ (List.mem_of_getElem? (i := 5) rfl)) e16 (g := (mkF m 73 #[s0, .val (.int i1), s2, s3, s4, s5, .val (.ref b7), .val (.ref b10), .unset, .unset, .unset, .unset, .unset, .unset, .unset, .unset, .unset, .unset, .unset, .unset] [(.int (1 : Int32)), (.ref b13), (.ref b13)])) rfl (hb hby at_73) (by decide) (by decide)
  obtain ⟨b17, g17⟩ : ∃ z, z = h16.size := ⟨_, rfl⟩
  rw [← g17] at A17 D17 st17
  have F_coder_b17 : Fld Z h17 b17 "java/lang/String" "coder" "B" (.int (0 : Int32)) := D17 (Or.inr (hw _ (List.mem_of_getElem? (i := 29) rfl))) (ty := .byte) (by decide)
  have F_value_b17 : Fld Z h17 b17 "java/lang/String" "value" "[B" .null := D17 (Or.inr (hw _ (List.mem_of_getElem? (i := 31) rfl))) (ty := (.array .byte)) (by decide)
  have F_hash_b17 : Fld Z h17 b17 "java/lang/String" "hash" "I" (.int (0 : Int32)) := D17 (Or.inl (hw _ (List.mem_of_getElem? (i := 53) rfl))) (ty := .int) (by decide)
  have F_hashIsZero_b17 : Fld Z h17 b17 "java/lang/String" "hashIsZero" "Z" (.int (0 : Int32)) := D17 (Or.inl (hw _ (List.mem_of_getElem? (i := 55) rfl))) (ty := .boolean) (by decide)
  have E_b17 := A17
  have g_b17 : n0 ≤ b17 := Nat.le_trans (Nat.le_trans (Nat.le_trans (Nat.le_trans (Nat.le_trans (Nat.le_trans (Nat.le_trans (Nat.le_trans (Nat.le_trans (Nat.le_trans (Nat.le_trans Z0 E7.1) (Keep.of_wr W8).1) (Keep.of_wr W9).1) E10.1) (Keep.of_wr W11).1) (Keep.of_wr W12).1) E13.1) E14.1) K15.1) (Keep.of_wr W16).1) (Nat.le_of_eq g17.symm)
  have sz_b17 : h0.size ≤ b17 := (Nat.le_trans K16.1 (Nat.le_of_eq g17.symm))
  have K17 : Keep h0 h17 [] := K16.ext E17
  have O17 := O16.ext E17
  have Kc17 : Keep h9 h17 [] := Kc16.ext E17
  have szc_b17 : h9.size ≤ b17 := Nat.le_trans Kc16.1 (Nat.le_of_eq g17.symm)
  have Kd17 : Keep h12 h17 [] := Kd16.ext E17
  have szd_b17 : h12.size ≤ b17 := Nat.le_trans Kd16.1 (Nat.le_of_eq g17.symm)
  obtain ⟨_, _, ⟨T18, L18, k18, n18⟩, -, X18, ⟨Lc18, hQ18, l18, y18, z18⟩, st18⟩ := X17.specialBack hx (y := (⟨"java/lang/String", "<init>", "([C)V"⟩ : MethodName)) rfl hown (mvT hZ (hw _ (List.mem_of_getElem? (i := 6) rfl))) (mvT hZ (hw _ (List.mem_of_getElem? (i := 7) rfl))) (mvT hZ (hw _ (List.mem_of_getElem? (i := 8) rfl))) (by decide) (StrChars.Road.backV (W := 4) hZ hws (kI := 4) (hw _ (List.mem_of_getElem? (i := 4) rfl)) (cs := ([(nar .char ((i1 &&& (255 : Int32)).toUInt32.toUInt16.toUInt32.toInt32)), (nar .char ((((i1.toUInt32 >>> ((8 : Int32) &&& 31).toUInt32).toInt32) &&& (255 : Int32)).toUInt32.toUInt16.toUInt32.toInt32))] : List Int32)) (bs := ([(nar .char ((i1 &&& (255 : Int32)).toUInt32.toUInt16.toUInt32.toInt32)), (nar .char ((((i1.toUInt32 >>> ((8 : Int32) &&& 31).toUInt32).toInt32) &&& (255 : Int32)).toUInt32.toUInt16.toUInt32.toInt32))] : List Int32).map (fun c => c.toInt8.toInt32)) (n := 2) g_b17 (Nat.le_trans Z0 K17.1) E_b17 F_value_b17 F_coder_b17 (V_b7_9.keep Kc17 (fun q => nomatch q)) (SCS.ext O17.2) hcz rfl rfl (by decide) (by decide) own_chrs rfl (by decide) (by decide)) (g := (mkF m 79 #[s0, .val (.int i1), s2, s3, s4, s5, .val (.ref b7), .val (.ref b10), .unset, .unset, .unset, .unset, .unset, .unset, .unset, .unset, .unset, .unset, .unset, .unset] [(.ref b7), (.ref b17), (.ref b17), (.int (1 : Int32)), (.ref b13), (.ref b13)])) rfl (by rw [hml]; rfl) (Steps.refl _) (a := b17) (argsL := [(.ref b7)]) (rest := [(.ref b17), (.int (1 : Int32)), (.ref b13), (.ref b13)]) (lenOf pd_0_0 rfl) rfl (by show 2 * 0 + _ ≤ _; exact Nat.le_of_eq rfl) (hb hby at_79) (fun _ _ => ⟨rfl, e17, (by decide : 6 + 1 ≤ _), (by decide : 17 + 2 ≤ _)⟩)
  dsimp only [Pt.U, Pt.locs, Pt.cells, Pt.slots] at X18 l18 y18 z18 st18 hQ18
  subst l18 y18 z18
  obtain ⟨rfl, N18q, K18, E18s, -, -⟩ := hQ18
  have KT18 : Keep h0 T18.heap [] := K17.trans K18 (fun x q => Or.inr (by cases List.mem_singleton.mp q; exact sz_b17))
  have O18 := O17.keep K18 (allS g_b17 all0)
  have Kc18 : Keep h9 T18.heap [] := Kc17.trans K18 (fun x q => Or.inr (by cases List.mem_singleton.mp q; exact szc_b17))
  have Kd18 : Keep h12 T18.heap [] := Kd17.trans K18 (fun x q => Or.inr (by cases List.mem_singleton.mp q; exact szd_b17))
  have N18 := Fr.app N16 N18q
  obtain ⟨cl_b13_82, Ar_b13, q_b13, S_b13, N_b13, H_b13, G_b13⟩ := (V_b13_16.ext E17).keep K18 (fun q => Nat.lt_irrefl _ (List.mem_singleton.mp q ▸ Nat.lt_of_lt_of_le (Arv.lt V_b13_16) (Nat.le_of_eq g17.symm)))
  have hin82 : ¬ ((1 : Int32) < 0 ∨ cl_b13_82.slots.size ≤ ((1 : Int32)).toNatClampNeg) := inb_of S_b13 ⟨by decide, by decide⟩
  have Sto82 : Sto Z T18.heap b13 (.ref b17) := Sto.ofV Ar_b13 q_b13 OV13 (Ins.of_exa E18s (hw _ (List.mem_of_getElem? (i := 32) rfl)))
  obtain ⟨T19, h19, X19, e19, W19, st19⟩ := stR X18 hx hZ rfl Ar_b13 (j := (1 : Int32)) hin82 rfl Sto82 (g := (mkF m 82 #[s0, .val (.int i1), s2, s3, s4, s5, .val (.ref b7), .val (.ref b10), .unset, .unset, .unset, .unset, .unset, .unset, .unset, .unset, .unset, .unset, .unset, .unset] [(.ref b17), (.int (1 : Int32)), (.ref b13), (.ref b13)])) rfl rfl (hb hby at_82)
  have V_b13_19 := Arv.set Ar_b13 q_b13 S_b13 N_b13 H_b13 G_b13 rfl W19 1 rfl (Nat.le_of_ble_eq_true rfl)
  have O19 := O18.wr W19 g_b13
  have Kc19 : Keep h9 h19 [] := Kc18.wr W19 (Or.inr szc_b13)
  have Kd19 : Keep h12 h19 [] := Kd18.wr W19 (Or.inr szd_b13)
  have N19 := Fr.snoc X19 N18 g_b13
  have K19 : Keep h0 h19 [] := KT18.wr W19 (Or.inr sz_b13)
  obtain ⟨T20, h20, X20, e20, E20, A20, D20, -, st20⟩ := newO X19 hx hZ hown (hw _ (List.mem_of_getElem? (i := 3) rfl)) (hw _ (List.mem_of_getElem? (i := 4) rfl)) (hw _ (List.mem_of_getElem? (i := 5) rfl)) e19 (g := (mkF m 85 #[s0, .val (.int i1), s2, s3, s4, s5, .val (.ref b7), .val (.ref b10), .unset, .unset, .unset, .unset, .unset, .unset, .unset, .unset, .unset, .unset, .unset, .unset] [(.int (2 : Int32)), (.ref b13), (.ref b13)])) rfl (hb hby at_85) (by decide) (by decide)
  obtain ⟨b20, g20⟩ : ∃ z, z = h19.size := ⟨_, rfl⟩
  rw [← g20] at A20 D20 st20
  have F_coder_b20 : Fld Z h20 b20 "java/lang/String" "coder" "B" (.int (0 : Int32)) := D20 (Or.inr (hw _ (List.mem_of_getElem? (i := 29) rfl))) (ty := .byte) (by decide)
  have F_value_b20 : Fld Z h20 b20 "java/lang/String" "value" "[B" .null := D20 (Or.inr (hw _ (List.mem_of_getElem? (i := 31) rfl))) (ty := (.array .byte)) (by decide)
  have F_hash_b20 : Fld Z h20 b20 "java/lang/String" "hash" "I" (.int (0 : Int32)) := D20 (Or.inl (hw _ (List.mem_of_getElem? (i := 53) rfl))) (ty := .int) (by decide)
  have F_hashIsZero_b20 : Fld Z h20 b20 "java/lang/String" "hashIsZero" "Z" (.int (0 : Int32)) := D20 (Or.inl (hw _ (List.mem_of_getElem? (i := 55) rfl))) (ty := .boolean) (by decide)
  have E_b20 := A20
  have g_b20 : n0 ≤ b20 := Nat.le_trans (Nat.le_trans (Nat.le_trans (Nat.le_trans (Nat.le_trans (Nat.le_trans (Nat.le_trans (Nat.le_trans (Nat.le_trans (Nat.le_trans (Nat.le_trans (Nat.le_trans (Nat.le_trans (Nat.le_trans Z0 E7.1) (Keep.of_wr W8).1) (Keep.of_wr W9).1) E10.1) (Keep.of_wr W11).1) (Keep.of_wr W12).1) E13.1) E14.1) K15.1) (Keep.of_wr W16).1) E17.1) K18.1) (Keep.of_wr W19).1) (Nat.le_of_eq g20.symm)
  have sz_b20 : h0.size ≤ b20 := (Nat.le_trans K19.1 (Nat.le_of_eq g20.symm))
  have K20 : Keep h0 h20 [] := K19.ext E20
  have O20 := O19.ext E20
  have Kc20 : Keep h9 h20 [] := Kc19.ext E20
  have szc_b20 : h9.size ≤ b20 := Nat.le_trans Kc19.1 (Nat.le_of_eq g20.symm)
  have Kd20 : Keep h12 h20 [] := Kd19.ext E20
  have szd_b20 : h12.size ≤ b20 := Nat.le_trans Kd19.1 (Nat.le_of_eq g20.symm)
  obtain ⟨_, _, ⟨T21, L21, k21, n21⟩, -, X21, ⟨Lc21, hQ21, l21, y21, z21⟩, st21⟩ := X20.specialBack hx (y := (⟨"java/lang/String", "<init>", "([C)V"⟩ : MethodName)) rfl hown (mvT hZ (hw _ (List.mem_of_getElem? (i := 6) rfl))) (mvT hZ (hw _ (List.mem_of_getElem? (i := 7) rfl))) (mvT hZ (hw _ (List.mem_of_getElem? (i := 8) rfl))) (by decide) (StrChars.Road.backV (W := 4) hZ hws (kI := 4) (hw _ (List.mem_of_getElem? (i := 4) rfl)) (cs := ([(nar .char ((((i1.toUInt32 >>> ((16 : Int32) &&& 31).toUInt32).toInt32) &&& (255 : Int32)).toUInt32.toUInt16.toUInt32.toInt32)), (nar .char ((((i1.toUInt32 >>> ((24 : Int32) &&& 31).toUInt32).toInt32) &&& (255 : Int32)).toUInt32.toUInt16.toUInt32.toInt32))] : List Int32)) (bs := ([(nar .char ((((i1.toUInt32 >>> ((16 : Int32) &&& 31).toUInt32).toInt32) &&& (255 : Int32)).toUInt32.toUInt16.toUInt32.toInt32)), (nar .char ((((i1.toUInt32 >>> ((24 : Int32) &&& 31).toUInt32).toInt32) &&& (255 : Int32)).toUInt32.toUInt16.toUInt32.toInt32))] : List Int32).map (fun c => c.toInt8.toInt32)) (n := 2) g_b20 (Nat.le_trans Z0 K20.1) E_b20 F_value_b20 F_coder_b20 (V_b10_12.keep Kd20 (fun q => nomatch q)) (SCS.ext O20.2) hcz rfl rfl (by decide) (by decide) own_chrs rfl (by decide) (by decide)) (g := (mkF m 91 #[s0, .val (.int i1), s2, s3, s4, s5, .val (.ref b7), .val (.ref b10), .unset, .unset, .unset, .unset, .unset, .unset, .unset, .unset, .unset, .unset, .unset, .unset] [(.ref b10), (.ref b20), (.ref b20), (.int (2 : Int32)), (.ref b13), (.ref b13)])) rfl (by rw [hml]; rfl) (Steps.refl _) (a := b20) (argsL := [(.ref b10)]) (rest := [(.ref b20), (.int (2 : Int32)), (.ref b13), (.ref b13)]) (lenOf pd_0_0 rfl) rfl (by show 2 * 0 + _ ≤ _; exact Nat.le_of_eq rfl) (hb hby at_91) (fun _ _ => ⟨rfl, e20, (by decide : 8 + 1 ≤ _), (by decide : 23 + 2 ≤ _)⟩)
  dsimp only [Pt.U, Pt.locs, Pt.cells, Pt.slots] at X21 l21 y21 z21 st21 hQ21
  subst l21 y21 z21
  obtain ⟨rfl, N21q, K21, E21s, -, -⟩ := hQ21
  have KT21 : Keep h0 T21.heap [] := K20.trans K21 (fun x q => Or.inr (by cases List.mem_singleton.mp q; exact sz_b20))
  have O21 := O20.keep K21 (allS g_b20 all0)
  have Kc21 : Keep h9 T21.heap [] := Kc20.trans K21 (fun x q => Or.inr (by cases List.mem_singleton.mp q; exact szc_b20))
  have Kd21 : Keep h12 T21.heap [] := Kd20.trans K21 (fun x q => Or.inr (by cases List.mem_singleton.mp q; exact szd_b20))
  have N21 := Fr.app N19 N21q
  obtain ⟨cl_b13_94, Ar_b13, q_b13, S_b13, N_b13, H_b13, G_b13⟩ := (V_b13_19.ext E20).keep K21 (fun q => Nat.lt_irrefl _ (List.mem_singleton.mp q ▸ Nat.lt_of_lt_of_le (Arv.lt V_b13_19) (Nat.le_of_eq g20.symm)))
  have hin94 : ¬ ((2 : Int32) < 0 ∨ cl_b13_94.slots.size ≤ ((2 : Int32)).toNatClampNeg) := inb_of S_b13 ⟨by decide, by decide⟩
  have Sto94 : Sto Z T21.heap b13 (.ref b20) := Sto.ofV Ar_b13 q_b13 OV13 (Ins.of_exa E21s (hw _ (List.mem_of_getElem? (i := 32) rfl)))
  obtain ⟨T22, h22, X22, e22, W22, st22⟩ := stR X21 hx hZ rfl Ar_b13 (j := (2 : Int32)) hin94 rfl Sto94 (g := (mkF m 94 #[s0, .val (.int i1), s2, s3, s4, s5, .val (.ref b7), .val (.ref b10), .unset, .unset, .unset, .unset, .unset, .unset, .unset, .unset, .unset, .unset, .unset, .unset] [(.ref b20), (.int (2 : Int32)), (.ref b13), (.ref b13)])) rfl rfl (hb hby at_94)
  have V_b13_22 := Arv.set Ar_b13 q_b13 S_b13 N_b13 H_b13 G_b13 rfl W22 2 rfl (Nat.le_of_ble_eq_true rfl)
  have O22 := O21.wr W22 g_b13
  have Kc22 : Keep h9 h22 [] := Kc21.wr W22 (Or.inr szc_b13)
  have Kd22 : Keep h12 h22 [] := Kd21.wr W22 (Or.inr szd_b13)
  have N22 := Fr.snoc X22 N21 g_b13
  have K22 : Keep h0 h22 [] := KT21.wr W22 (Or.inr sz_b13)
  obtain ⟨T23, h23, X23, e23, E23, A23, D23, -, st23⟩ := newO X22 hx hZ hown (hw _ (List.mem_of_getElem? (i := 3) rfl)) (hw _ (List.mem_of_getElem? (i := 4) rfl)) (hw _ (List.mem_of_getElem? (i := 5) rfl)) e22 (g := (mkF m 97 #[s0, .val (.int i1), s2, s3, s4, s5, .val (.ref b7), .val (.ref b10), .val (.ref b13), .unset, .unset, .unset, .unset, .unset, .unset, .unset, .unset, .unset, .unset, .unset] [])) rfl (hb hby at_97) (by decide) (by decide)
  obtain ⟨b23, g23⟩ : ∃ z, z = h22.size := ⟨_, rfl⟩
  rw [← g23] at A23 D23 st23
  have F_coder_b23 : Fld Z h23 b23 "java/lang/String" "coder" "B" (.int (0 : Int32)) := D23 (Or.inr (hw _ (List.mem_of_getElem? (i := 29) rfl))) (ty := .byte) (by decide)
  have F_value_b23 : Fld Z h23 b23 "java/lang/String" "value" "[B" .null := D23 (Or.inr (hw _ (List.mem_of_getElem? (i := 31) rfl))) (ty := (.array .byte)) (by decide)
  have F_hash_b23 : Fld Z h23 b23 "java/lang/String" "hash" "I" (.int (0 : Int32)) := D23 (Or.inl (hw _ (List.mem_of_getElem? (i := 53) rfl))) (ty := .int) (by decide)
  have F_hashIsZero_b23 : Fld Z h23 b23 "java/lang/String" "hashIsZero" "Z" (.int (0 : Int32)) := D23 (Or.inl (hw _ (List.mem_of_getElem? (i := 55) rfl))) (ty := .boolean) (by decide)
  have E_b23 := A23
  have g_b23 : n0 ≤ b23 := Nat.le_trans (Nat.le_trans (Nat.le_trans (Nat.le_trans (Nat.le_trans (Nat.le_trans (Nat.le_trans (Nat.le_trans (Nat.le_trans (Nat.le_trans (Nat.le_trans (Nat.le_trans (Nat.le_trans (Nat.le_trans (Nat.le_trans (Nat.le_trans (Nat.le_trans Z0 E7.1) (Keep.of_wr W8).1) (Keep.of_wr W9).1) E10.1) (Keep.of_wr W11).1) (Keep.of_wr W12).1) E13.1) E14.1) K15.1) (Keep.of_wr W16).1) E17.1) K18.1) (Keep.of_wr W19).1) E20.1) K21.1) (Keep.of_wr W22).1) (Nat.le_of_eq g23.symm)
  have sz_b23 : h0.size ≤ b23 := (Nat.le_trans K22.1 (Nat.le_of_eq g23.symm))
  have K23 : Keep h0 h23 [] := K22.ext E23
  have O23 := O22.ext E23
  have Kc23 : Keep h9 h23 [] := Kc22.ext E23
  have szc_b23 : h9.size ≤ b23 := Nat.le_trans Kc22.1 (Nat.le_of_eq g23.symm)
  have Kd23 : Keep h12 h23 [] := Kd22.ext E23
  have szd_b23 : h12.size ≤ b23 := Nat.le_trans Kd22.1 (Nat.le_of_eq g23.symm)
  obtain ⟨_, _, ⟨T24, L24, k24, n24⟩, -, X24, ⟨Lc24, hQ24, l24, y24, z24⟩, st24⟩ := X23.specialBack hx (y := (⟨"java/lang/String", "<init>", "([C)V"⟩ : MethodName)) rfl hown (mvT hZ (hw _ (List.mem_of_getElem? (i := 6) rfl))) (mvT hZ (hw _ (List.mem_of_getElem? (i := 7) rfl))) (mvT hZ (hw _ (List.mem_of_getElem? (i := 8) rfl))) (by decide) (StrChars.Road.backV (W := 1) hZ hws (kI := 4) (hw _ (List.mem_of_getElem? (i := 4) rfl)) (cs := ([(nar .char ((i1 &&& (255 : Int32)).toUInt32.toUInt16.toUInt32.toInt32)), (nar .char ((((i1.toUInt32 >>> ((8 : Int32) &&& 31).toUInt32).toInt32) &&& (255 : Int32)).toUInt32.toUInt16.toUInt32.toInt32))] : List Int32)) (bs := ([(nar .char ((i1 &&& (255 : Int32)).toUInt32.toUInt16.toUInt32.toInt32)), (nar .char ((((i1.toUInt32 >>> ((8 : Int32) &&& 31).toUInt32).toInt32) &&& (255 : Int32)).toUInt32.toUInt16.toUInt32.toInt32))] : List Int32).map (fun c => c.toInt8.toInt32)) (n := 2) g_b23 (Nat.le_trans Z0 K23.1) E_b23 F_value_b23 F_coder_b23 (V_b7_9.keep Kc23 (fun q => nomatch q)) (SCS.ext O23.2) hcz rfl rfl (by decide) (by decide) own_chrs rfl (by decide) (by decide)) (g := (mkF m 103 #[s0, .val (.int i1), s2, s3, s4, s5, .val (.ref b7), .val (.ref b10), .val (.ref b13), .unset, .unset, .unset, .unset, .unset, .unset, .unset, .unset, .unset, .unset, .unset] [(.ref b7), (.ref b23), (.ref b23)])) rfl (by rw [hml]; rfl) (Steps.refl _) (a := b23) (argsL := [(.ref b7)]) (rest := [(.ref b23)]) (lenOf pd_0_0 rfl) rfl (by show 2 * 0 + _ ≤ _; exact Nat.le_of_eq rfl) (hb hby at_103) (fun _ _ => ⟨rfl, e23, (by decide : 10 + 1 ≤ _), (by decide : 29 + 2 ≤ _)⟩)
  dsimp only [Pt.U, Pt.locs, Pt.cells, Pt.slots] at X24 l24 y24 z24 st24 hQ24
  subst l24 y24 z24
  obtain ⟨rfl, N24q, K24, E24s, -, -⟩ := hQ24
  have KT24 : Keep h0 T24.heap [] := K23.trans K24 (fun x q => Or.inr (by cases List.mem_singleton.mp q; exact sz_b23))
  have O24 := O23.keep K24 (allS g_b23 all0)
  have Kc24 : Keep h9 T24.heap [] := Kc23.trans K24 (fun x q => Or.inr (by cases List.mem_singleton.mp q; exact szc_b23))
  have Kd24 : Keep h12 T24.heap [] := Kd23.trans K24 (fun x q => Or.inr (by cases List.mem_singleton.mp q; exact szd_b23))
  have N24 := Fr.app N22 N24q
  obtain ⟨T25, h25, k25, X25, e25, E25, A25, OV25, st25⟩ := newR X24 hx hZ hown (hw _ (List.mem_of_getElem? (i := 1) rfl)) (hw _ (List.mem_of_getElem? (i := 2) rfl)) rfl (g := (mkF m 109 #[s0, .val (.int i1), s2, s3, s4, s5, .val (.ref b7), .val (.ref b10), .val (.ref b13), .val (.ref b23), .unset, .unset, .unset, .unset, .unset, .unset, .unset, .unset, .unset, .unset] [(.int (4 : Int32))])) rfl (hb hby at_109) rfl (by decide) (cap := 4) (by decide) (by decide) (by decide) (by decide)
  obtain ⟨b25, g25⟩ : ∃ z, z = T24.heap.size := ⟨_, rfl⟩
  rw [← g25] at A25 st25
  have V_b25 : Arv Z h25 b25 k25 (.object "java/lang/Object") (4 : Int32) [.null, .null, .null, .null] .null := (Arv.new A25 (by decide)).pad (pad_rep [] .null 4)
  have g_b25 : n0 ≤ b25 := Nat.le_trans (Nat.le_trans (Nat.le_trans (Nat.le_trans (Nat.le_trans (Nat.le_trans (Nat.le_trans (Nat.le_trans (Nat.le_trans (Nat.le_trans (Nat.le_trans (Nat.le_trans (Nat.le_trans (Nat.le_trans (Nat.le_trans (Nat.le_trans (Nat.le_trans (Nat.le_trans (Nat.le_trans Z0 E7.1) (Keep.of_wr W8).1) (Keep.of_wr W9).1) E10.1) (Keep.of_wr W11).1) (Keep.of_wr W12).1) E13.1) E14.1) K15.1) (Keep.of_wr W16).1) E17.1) K18.1) (Keep.of_wr W19).1) E20.1) K21.1) (Keep.of_wr W22).1) E23.1) K24.1) (Nat.le_of_eq g25.symm)
  have sz_b25 : h0.size ≤ b25 := (Nat.le_trans KT24.1 (Nat.le_of_eq g25.symm))
  have K25 : Keep h0 h25 [] := KT24.ext E25
  have O25 := O24.ext E25
  have Kc25 : Keep h9 h25 [] := Kc24.ext E25
  have szc_b25 : h9.size ≤ b25 := Nat.le_trans Kc24.1 (Nat.le_of_eq g25.symm)
  have Kd25 : Keep h12 h25 [] := Kd24.ext E25
  have szd_b25 : h12.size ≤ b25 := Nat.le_trans Kd24.1 (Nat.le_of_eq g25.symm)
  have l10 : b10 < b13 := Nat.lt_of_lt_of_le (Arv.lt V_b10_12) (Nat.le_of_eq g13.symm)
  have l13 : b13 < b14 := Nat.lt_of_lt_of_le (Arv.lt V_b13) (Nat.le_of_eq g14.symm)
  have l14 : b14 < b17 := Nat.lt_of_lt_of_le E_b14.lt (Nat.le_trans K15.1 (Nat.le_trans (Keep.of_wr W16).1 (Nat.le_of_eq g17.symm)))
  have l17 : b17 < b20 := Nat.lt_of_lt_of_le E_b17.lt (Nat.le_trans K18.1 (Nat.le_trans (Keep.of_wr W19).1 (Nat.le_of_eq g20.symm)))
  have l20 : b20 < b23 := Nat.lt_of_lt_of_le E_b20.lt (Nat.le_trans K21.1 (Nat.le_trans (Keep.of_wr W22).1 (Nat.le_of_eq g23.symm)))
  have l23 : b23 < b25 := Nat.lt_of_lt_of_le E_b23.lt (Nat.le_trans K24.1 (Nat.le_of_eq g25.symm))
  have VO := ((V_b13_22.ext E23).keep K24 (fun q => Nat.ne_of_lt (Nat.lt_trans l13 (Nat.lt_trans l14 (Nat.lt_trans l17 l20))) (List.mem_singleton.mp q))).ext E25
  refine ⟨T25, h25, _, k10, k13, k25, b7, b10, b13, b23, b25, b14, b17, b20, X25, e25, N24, O25, Nat.le_trans Z0 K25.1, V_b10_12.keep Kd25 (fun q => nomatch q), VO, V_b25, OV25, ⟨l10, l13, l14, l17, l20, l23⟩, g_b13, fun target kt => ?_⟩
  show Steps p.tables e below (T0.setTop (mkF m 0 #[s0, .val (.int i1), s2, s3, s4, s5, .unset, .unset, .unset, .unset, .unset, .unset, .unset, .unset, .unset, .unset, .unset, .unset, .unset, .unset] [])) _
  refine XS.iconst X0.here hx rfl (hb hby at_0) ?_
  show Steps p.tables e below (T0.setTop (mkF m 1 #[s0, .val (.int i1), s2, s3, s4, s5, .unset, .unset, .unset, .unset, .unset, .unset, .unset, .unset, .unset, .unset, .unset, .unset, .unset, .unset] [(.int (2 : Int32))])) _
  refine st7 _ ?_
  show Steps p.tables e below (T7.setTop (mkF m 3 #[s0, .val (.int i1), s2, s3, s4, s5, .unset, .unset, .unset, .unset, .unset, .unset, .unset, .unset, .unset, .unset, .unset, .unset, .unset, .unset] [(.ref b7)])) _
  refine XS.dup X7.here hx rfl (hb hby at_3) rfl rfl ?_
  show Steps p.tables e below (T7.setTop (mkF m 4 #[s0, .val (.int i1), s2, s3, s4, s5, .unset, .unset, .unset, .unset, .unset, .unset, .unset, .unset, .unset, .unset, .unset, .unset, .unset, .unset] [(.ref b7), (.ref b7)])) _
  refine XS.iconst X7.here hx rfl (hb hby at_4) ?_
  show Steps p.tables e below (T7.setTop (mkF m 5 #[s0, .val (.int i1), s2, s3, s4, s5, .unset, .unset, .unset, .unset, .unset, .unset, .unset, .unset, .unset, .unset, .unset, .unset, .unset, .unset] [(.int (0 : Int32)), (.ref b7), (.ref b7)])) _
  refine XS.iloadN X7.here hx rfl (hb hby at_5) rfl ?_
  show Steps p.tables e below (T7.setTop (mkF m 6 #[s0, .val (.int i1), s2, s3, s4, s5, .unset, .unset, .unset, .unset, .unset, .unset, .unset, .unset, .unset, .unset, .unset, .unset, .unset, .unset] [(.int i1), (.int (0 : Int32)), (.ref b7), (.ref b7)])) _
  refine XS.sipush X7.here hx rfl (hb hby at_6) ?_
  show Steps p.tables e below (T7.setTop (mkF m 9 #[s0, .val (.int i1), s2, s3, s4, s5, .unset, .unset, .unset, .unset, .unset, .unset, .unset, .unset, .unset, .unset, .unset, .unset, .unset, .unset] [(.int (255 : Int32)), (.int i1), (.int (0 : Int32)), (.ref b7), (.ref b7)])) _
  refine XS.iand X7.here hx rfl (hb hby at_9) rfl ?_
  show Steps p.tables e below (T7.setTop (mkF m 10 #[s0, .val (.int i1), s2, s3, s4, s5, .unset, .unset, .unset, .unset, .unset, .unset, .unset, .unset, .unset, .unset, .unset, .unset, .unset, .unset] [(.int (i1 &&& (255 : Int32))), (.int (0 : Int32)), (.ref b7), (.ref b7)])) _
  refine XS.i2c X7.here hx rfl (hb hby at_10) rfl ?_
  show Steps p.tables e below (T7.setTop (mkF m 11 #[s0, .val (.int i1), s2, s3, s4, s5, .unset, .unset, .unset, .unset, .unset, .unset, .unset, .unset, .unset, .unset, .unset, .unset, .unset, .unset] [(.int ((i1 &&& (255 : Int32)).toUInt32.toUInt16.toUInt32.toInt32)), (.int (0 : Int32)), (.ref b7), (.ref b7)])) _
  refine st8 _ ?_
  show Steps p.tables e below (T8.setTop (mkF m 12 #[s0, .val (.int i1), s2, s3, s4, s5, .unset, .unset, .unset, .unset, .unset, .unset, .unset, .unset, .unset, .unset, .unset, .unset, .unset, .unset] [(.ref b7)])) _
  refine XS.dup X8.here hx rfl (hb hby at_12) rfl rfl ?_
  show Steps p.tables e below (T8.setTop (mkF m 13 #[s0, .val (.int i1), s2, s3, s4, s5, .unset, .unset, .unset, .unset, .unset, .unset, .unset, .unset, .unset, .unset, .unset, .unset, .unset, .unset] [(.ref b7), (.ref b7)])) _
  refine XS.iconst X8.here hx rfl (hb hby at_13) ?_
  show Steps p.tables e below (T8.setTop (mkF m 14 #[s0, .val (.int i1), s2, s3, s4, s5, .unset, .unset, .unset, .unset, .unset, .unset, .unset, .unset, .unset, .unset, .unset, .unset, .unset, .unset] [(.int (1 : Int32)), (.ref b7), (.ref b7)])) _
  refine XS.iloadN X8.here hx rfl (hb hby at_14) rfl ?_
  show Steps p.tables e below (T8.setTop (mkF m 15 #[s0, .val (.int i1), s2, s3, s4, s5, .unset, .unset, .unset, .unset, .unset, .unset, .unset, .unset, .unset, .unset, .unset, .unset, .unset, .unset] [(.int i1), (.int (1 : Int32)), (.ref b7), (.ref b7)])) _
  refine XS.bipush X8.here hx rfl (hb hby at_15) ?_
  show Steps p.tables e below (T8.setTop (mkF m 17 #[s0, .val (.int i1), s2, s3, s4, s5, .unset, .unset, .unset, .unset, .unset, .unset, .unset, .unset, .unset, .unset, .unset, .unset, .unset, .unset] [(.int (8 : Int32)), (.int i1), (.int (1 : Int32)), (.ref b7), (.ref b7)])) _
  refine XS.iushr X8.here hx rfl (hb hby at_17) rfl ?_
  show Steps p.tables e below (T8.setTop (mkF m 18 #[s0, .val (.int i1), s2, s3, s4, s5, .unset, .unset, .unset, .unset, .unset, .unset, .unset, .unset, .unset, .unset, .unset, .unset, .unset, .unset] [(.int ((i1.toUInt32 >>> ((8 : Int32) &&& 31).toUInt32).toInt32)), (.int (1 : Int32)), (.ref b7), (.ref b7)])) _
  refine XS.sipush X8.here hx rfl (hb hby at_18) ?_
  show Steps p.tables e below (T8.setTop (mkF m 21 #[s0, .val (.int i1), s2, s3, s4, s5, .unset, .unset, .unset, .unset, .unset, .unset, .unset, .unset, .unset, .unset, .unset, .unset, .unset, .unset] [(.int (255 : Int32)), (.int ((i1.toUInt32 >>> ((8 : Int32) &&& 31).toUInt32).toInt32)), (.int (1 : Int32)), (.ref b7), (.ref b7)])) _
  refine XS.iand X8.here hx rfl (hb hby at_21) rfl ?_
  show Steps p.tables e below (T8.setTop (mkF m 22 #[s0, .val (.int i1), s2, s3, s4, s5, .unset, .unset, .unset, .unset, .unset, .unset, .unset, .unset, .unset, .unset, .unset, .unset, .unset, .unset] [(.int (((i1.toUInt32 >>> ((8 : Int32) &&& 31).toUInt32).toInt32) &&& (255 : Int32))), (.int (1 : Int32)), (.ref b7), (.ref b7)])) _
  refine XS.i2c X8.here hx rfl (hb hby at_22) rfl ?_
  show Steps p.tables e below (T8.setTop (mkF m 23 #[s0, .val (.int i1), s2, s3, s4, s5, .unset, .unset, .unset, .unset, .unset, .unset, .unset, .unset, .unset, .unset, .unset, .unset, .unset, .unset] [(.int ((((i1.toUInt32 >>> ((8 : Int32) &&& 31).toUInt32).toInt32) &&& (255 : Int32)).toUInt32.toUInt16.toUInt32.toInt32)), (.int (1 : Int32)), (.ref b7), (.ref b7)])) _
  refine st9 _ ?_
  show Steps p.tables e below (T9.setTop (mkF m 24 #[s0, .val (.int i1), s2, s3, s4, s5, .unset, .unset, .unset, .unset, .unset, .unset, .unset, .unset, .unset, .unset, .unset, .unset, .unset, .unset] [(.ref b7)])) _
  refine XS.astore X9.here hx rfl (hb hby at_24) rfl rfl (l' := #[s0, .val (.int i1), s2, s3, s4, s5, .val (.ref b7), .unset, .unset, .unset, .unset, .unset, .unset, .unset, .unset, .unset, .unset, .unset, .unset, .unset]) rfl ?_
  show Steps p.tables e below (T9.setTop (mkF m 26 #[s0, .val (.int i1), s2, s3, s4, s5, .val (.ref b7), .unset, .unset, .unset, .unset, .unset, .unset, .unset, .unset, .unset, .unset, .unset, .unset, .unset] [])) _
  refine XS.iconst X9.here hx rfl (hb hby at_26) ?_
  show Steps p.tables e below (T9.setTop (mkF m 27 #[s0, .val (.int i1), s2, s3, s4, s5, .val (.ref b7), .unset, .unset, .unset, .unset, .unset, .unset, .unset, .unset, .unset, .unset, .unset, .unset, .unset] [(.int (2 : Int32))])) _
  refine st10 _ ?_
  show Steps p.tables e below (T10.setTop (mkF m 29 #[s0, .val (.int i1), s2, s3, s4, s5, .val (.ref b7), .unset, .unset, .unset, .unset, .unset, .unset, .unset, .unset, .unset, .unset, .unset, .unset, .unset] [(.ref b10)])) _
  refine XS.dup X10.here hx rfl (hb hby at_29) rfl rfl ?_
  show Steps p.tables e below (T10.setTop (mkF m 30 #[s0, .val (.int i1), s2, s3, s4, s5, .val (.ref b7), .unset, .unset, .unset, .unset, .unset, .unset, .unset, .unset, .unset, .unset, .unset, .unset, .unset] [(.ref b10), (.ref b10)])) _
  refine XS.iconst X10.here hx rfl (hb hby at_30) ?_
  show Steps p.tables e below (T10.setTop (mkF m 31 #[s0, .val (.int i1), s2, s3, s4, s5, .val (.ref b7), .unset, .unset, .unset, .unset, .unset, .unset, .unset, .unset, .unset, .unset, .unset, .unset, .unset] [(.int (0 : Int32)), (.ref b10), (.ref b10)])) _
  refine XS.iloadN X10.here hx rfl (hb hby at_31) rfl ?_
  show Steps p.tables e below (T10.setTop (mkF m 32 #[s0, .val (.int i1), s2, s3, s4, s5, .val (.ref b7), .unset, .unset, .unset, .unset, .unset, .unset, .unset, .unset, .unset, .unset, .unset, .unset, .unset] [(.int i1), (.int (0 : Int32)), (.ref b10), (.ref b10)])) _
  refine XS.bipush X10.here hx rfl (hb hby at_32) ?_
  show Steps p.tables e below (T10.setTop (mkF m 34 #[s0, .val (.int i1), s2, s3, s4, s5, .val (.ref b7), .unset, .unset, .unset, .unset, .unset, .unset, .unset, .unset, .unset, .unset, .unset, .unset, .unset] [(.int (16 : Int32)), (.int i1), (.int (0 : Int32)), (.ref b10), (.ref b10)])) _
  refine XS.iushr X10.here hx rfl (hb hby at_34) rfl ?_
  show Steps p.tables e below (T10.setTop (mkF m 35 #[s0, .val (.int i1), s2, s3, s4, s5, .val (.ref b7), .unset, .unset, .unset, .unset, .unset, .unset, .unset, .unset, .unset, .unset, .unset, .unset, .unset] [(.int ((i1.toUInt32 >>> ((16 : Int32) &&& 31).toUInt32).toInt32)), (.int (0 : Int32)), (.ref b10), (.ref b10)])) _
  refine XS.sipush X10.here hx rfl (hb hby at_35) ?_
  show Steps p.tables e below (T10.setTop (mkF m 38 #[s0, .val (.int i1), s2, s3, s4, s5, .val (.ref b7), .unset, .unset, .unset, .unset, .unset, .unset, .unset, .unset, .unset, .unset, .unset, .unset, .unset] [(.int (255 : Int32)), (.int ((i1.toUInt32 >>> ((16 : Int32) &&& 31).toUInt32).toInt32)), (.int (0 : Int32)), (.ref b10), (.ref b10)])) _
  refine XS.iand X10.here hx rfl (hb hby at_38) rfl ?_
  show Steps p.tables e below (T10.setTop (mkF m 39 #[s0, .val (.int i1), s2, s3, s4, s5, .val (.ref b7), .unset, .unset, .unset, .unset, .unset, .unset, .unset, .unset, .unset, .unset, .unset, .unset, .unset] [(.int (((i1.toUInt32 >>> ((16 : Int32) &&& 31).toUInt32).toInt32) &&& (255 : Int32))), (.int (0 : Int32)), (.ref b10), (.ref b10)])) _
  refine XS.i2c X10.here hx rfl (hb hby at_39) rfl ?_
  show Steps p.tables e below (T10.setTop (mkF m 40 #[s0, .val (.int i1), s2, s3, s4, s5, .val (.ref b7), .unset, .unset, .unset, .unset, .unset, .unset, .unset, .unset, .unset, .unset, .unset, .unset, .unset] [(.int ((((i1.toUInt32 >>> ((16 : Int32) &&& 31).toUInt32).toInt32) &&& (255 : Int32)).toUInt32.toUInt16.toUInt32.toInt32)), (.int (0 : Int32)), (.ref b10), (.ref b10)])) _
  refine st11 _ ?_
  show Steps p.tables e below (T11.setTop (mkF m 41 #[s0, .val (.int i1), s2, s3, s4, s5, .val (.ref b7), .unset, .unset, .unset, .unset, .unset, .unset, .unset, .unset, .unset, .unset, .unset, .unset, .unset] [(.ref b10)])) _
  refine XS.dup X11.here hx rfl (hb hby at_41) rfl rfl ?_
  show Steps p.tables e below (T11.setTop (mkF m 42 #[s0, .val (.int i1), s2, s3, s4, s5, .val (.ref b7), .unset, .unset, .unset, .unset, .unset, .unset, .unset, .unset, .unset, .unset, .unset, .unset, .unset] [(.ref b10), (.ref b10)])) _
  refine XS.iconst X11.here hx rfl (hb hby at_42) ?_
  show Steps p.tables e below (T11.setTop (mkF m 43 #[s0, .val (.int i1), s2, s3, s4, s5, .val (.ref b7), .unset, .unset, .unset, .unset, .unset, .unset, .unset, .unset, .unset, .unset, .unset, .unset, .unset] [(.int (1 : Int32)), (.ref b10), (.ref b10)])) _
  refine XS.iloadN X11.here hx rfl (hb hby at_43) rfl ?_
  show Steps p.tables e below (T11.setTop (mkF m 44 #[s0, .val (.int i1), s2, s3, s4, s5, .val (.ref b7), .unset, .unset, .unset, .unset, .unset, .unset, .unset, .unset, .unset, .unset, .unset, .unset, .unset] [(.int i1), (.int (1 : Int32)), (.ref b10), (.ref b10)])) _
  refine XS.bipush X11.here hx rfl (hb hby at_44) ?_
  show Steps p.tables e below (T11.setTop (mkF m 46 #[s0, .val (.int i1), s2, s3, s4, s5, .val (.ref b7), .unset, .unset, .unset, .unset, .unset, .unset, .unset, .unset, .unset, .unset, .unset, .unset, .unset] [(.int (24 : Int32)), (.int i1), (.int (1 : Int32)), (.ref b10), (.ref b10)])) _
  refine XS.iushr X11.here hx rfl (hb hby at_46) rfl ?_
  show Steps p.tables e below (T11.setTop (mkF m 47 #[s0, .val (.int i1), s2, s3, s4, s5, .val (.ref b7), .unset, .unset, .unset, .unset, .unset, .unset, .unset, .unset, .unset, .unset, .unset, .unset, .unset] [(.int ((i1.toUInt32 >>> ((24 : Int32) &&& 31).toUInt32).toInt32)), (.int (1 : Int32)), (.ref b10), (.ref b10)])) _
  refine XS.sipush X11.here hx rfl (hb hby at_47) ?_
  show Steps p.tables e below (T11.setTop (mkF m 50 #[s0, .val (.int i1), s2, s3, s4, s5, .val (.ref b7), .unset, .unset, .unset, .unset, .unset, .unset, .unset, .unset, .unset, .unset, .unset, .unset, .unset] [(.int (255 : Int32)), (.int ((i1.toUInt32 >>> ((24 : Int32) &&& 31).toUInt32).toInt32)), (.int (1 : Int32)), (.ref b10), (.ref b10)])) _
  refine XS.iand X11.here hx rfl (hb hby at_50) rfl ?_
  show Steps p.tables e below (T11.setTop (mkF m 51 #[s0, .val (.int i1), s2, s3, s4, s5, .val (.ref b7), .unset, .unset, .unset, .unset, .unset, .unset, .unset, .unset, .unset, .unset, .unset, .unset, .unset] [(.int (((i1.toUInt32 >>> ((24 : Int32) &&& 31).toUInt32).toInt32) &&& (255 : Int32))), (.int (1 : Int32)), (.ref b10), (.ref b10)])) _
  refine XS.i2c X11.here hx rfl (hb hby at_51) rfl ?_
  show Steps p.tables e below (T11.setTop (mkF m 52 #[s0, .val (.int i1), s2, s3, s4, s5, .val (.ref b7), .unset, .unset, .unset, .unset, .unset, .unset, .unset, .unset, .unset, .unset, .unset, .unset, .unset] [(.int ((((i1.toUInt32 >>> ((24 : Int32) &&& 31).toUInt32).toInt32) &&& (255 : Int32)).toUInt32.toUInt16.toUInt32.toInt32)), (.int (1 : Int32)), (.ref b10), (.ref b10)])) _
  refine st12 _ ?_
  show Steps p.tables e below (T12.setTop (mkF m 53 #[s0, .val (.int i1), s2, s3, s4, s5, .val (.ref b7), .unset, .unset, .unset, .unset, .unset, .unset, .unset, .unset, .unset, .unset, .unset, .unset, .unset] [(.ref b10)])) _
  refine XS.astore X12.here hx rfl (hb hby at_53) rfl rfl (l' := #[s0, .val (.int i1), s2, s3, s4, s5, .val (.ref b7), .val (.ref b10), .unset, .unset, .unset, .unset, .unset, .unset, .unset, .unset, .unset, .unset, .unset, .unset]) rfl ?_
  show Steps p.tables e below (T12.setTop (mkF m 55 #[s0, .val (.int i1), s2, s3, s4, s5, .val (.ref b7), .val (.ref b10), .unset, .unset, .unset, .unset, .unset, .unset, .unset, .unset, .unset, .unset, .unset, .unset] [])) _
  refine XS.iconst X12.here hx rfl (hb hby at_55) ?_
  show Steps p.tables e below (T12.setTop (mkF m 56 #[s0, .val (.int i1), s2, s3, s4, s5, .val (.ref b7), .val (.ref b10), .unset, .unset, .unset, .unset, .unset, .unset, .unset, .unset, .unset, .unset, .unset, .unset] [(.int (3 : Int32))])) _
  refine st13 _ ?_
  show Steps p.tables e below (T13.setTop (mkF m 59 #[s0, .val (.int i1), s2, s3, s4, s5, .val (.ref b7), .val (.ref b10), .unset, .unset, .unset, .unset, .unset, .unset, .unset, .unset, .unset, .unset, .unset, .unset] [(.ref b13)])) _
  refine XS.dup X13.here hx rfl (hb hby at_59) rfl rfl ?_
  show Steps p.tables e below (T13.setTop (mkF m 60 #[s0, .val (.int i1), s2, s3, s4, s5, .val (.ref b7), .val (.ref b10), .unset, .unset, .unset, .unset, .unset, .unset, .unset, .unset, .unset, .unset, .unset, .unset] [(.ref b13), (.ref b13)])) _
  refine XS.iconst X13.here hx rfl (hb hby at_60) ?_
  show Steps p.tables e below (T13.setTop (mkF m 61 #[s0, .val (.int i1), s2, s3, s4, s5, .val (.ref b7), .val (.ref b10), .unset, .unset, .unset, .unset, .unset, .unset, .unset, .unset, .unset, .unset, .unset, .unset] [(.int (0 : Int32)), (.ref b13), (.ref b13)])) _
  refine st14 _ ?_
  show Steps p.tables e below (T14.setTop (mkF m 64 #[s0, .val (.int i1), s2, s3, s4, s5, .val (.ref b7), .val (.ref b10), .unset, .unset, .unset, .unset, .unset, .unset, .unset, .unset, .unset, .unset, .unset, .unset] [(.ref b14), (.int (0 : Int32)), (.ref b13), (.ref b13)])) _
  refine XS.dup X14.here hx rfl (hb hby at_64) rfl rfl ?_
  show Steps p.tables e below (T14.setTop (mkF m 65 #[s0, .val (.int i1), s2, s3, s4, s5, .val (.ref b7), .val (.ref b10), .unset, .unset, .unset, .unset, .unset, .unset, .unset, .unset, .unset, .unset, .unset, .unset] [(.ref b14), (.ref b14), (.int (0 : Int32)), (.ref b13), (.ref b13)])) _
  refine XS.aload X14.here hx rfl (hb hby at_65) rfl rfl ?_
  show Steps p.tables e below (T14.setTop (mkF m 67 #[s0, .val (.int i1), s2, s3, s4, s5, .val (.ref b7), .val (.ref b10), .unset, .unset, .unset, .unset, .unset, .unset, .unset, .unset, .unset, .unset, .unset, .unset] [(.ref b7), (.ref b14), (.ref b14), (.int (0 : Int32)), (.ref b13), (.ref b13)])) _
  refine st15.trans ?_
  show Steps p.tables e below (T15.setTop (mkF m 70 #[s0, .val (.int i1), s2, s3, s4, s5, .val (.ref b7), .val (.ref b10), .unset, .unset, .unset, .unset, .unset, .unset, .unset, .unset, .unset, .unset, .unset, .unset] [(.ref b14), (.int (0 : Int32)), (.ref b13), (.ref b13)])) _
  refine st16 _ ?_
  show Steps p.tables e below (T16.setTop (mkF m 71 #[s0, .val (.int i1), s2, s3, s4, s5, .val (.ref b7), .val (.ref b10), .unset, .unset, .unset, .unset, .unset, .unset, .unset, .unset, .unset, .unset, .unset, .unset] [(.ref b13)])) _
  refine XS.dup X16.here hx rfl (hb hby at_71) rfl rfl ?_
  show Steps p.tables e below (T16.setTop (mkF m 72 #[s0, .val (.int i1), s2, s3, s4, s5, .val (.ref b7), .val (.ref b10), .unset, .unset, .unset, .unset, .unset, .unset, .unset, .unset, .unset, .unset, .unset, .unset] [(.ref b13), (.ref b13)])) _
  refine XS.iconst X16.here hx rfl (hb hby at_72) ?_
  show Steps p.tables e below (T16.setTop (mkF m 73 #[s0, .val (.int i1), s2, s3, s4, s5, .val (.ref b7), .val (.ref b10), .unset, .unset, .unset, .unset, .unset, .unset, .unset, .unset, .unset, .unset, .unset, .unset] [(.int (1 : Int32)), (.ref b13), (.ref b13)])) _
  refine st17 _ ?_
  show Steps p.tables e below (T17.setTop (mkF m 76 #[s0, .val (.int i1), s2, s3, s4, s5, .val (.ref b7), .val (.ref b10), .unset, .unset, .unset, .unset, .unset, .unset, .unset, .unset, .unset, .unset, .unset, .unset] [(.ref b17), (.int (1 : Int32)), (.ref b13), (.ref b13)])) _
  refine XS.dup X17.here hx rfl (hb hby at_76) rfl rfl ?_
  show Steps p.tables e below (T17.setTop (mkF m 77 #[s0, .val (.int i1), s2, s3, s4, s5, .val (.ref b7), .val (.ref b10), .unset, .unset, .unset, .unset, .unset, .unset, .unset, .unset, .unset, .unset, .unset, .unset] [(.ref b17), (.ref b17), (.int (1 : Int32)), (.ref b13), (.ref b13)])) _
  refine XS.aload X17.here hx rfl (hb hby at_77) rfl rfl ?_
  show Steps p.tables e below (T17.setTop (mkF m 79 #[s0, .val (.int i1), s2, s3, s4, s5, .val (.ref b7), .val (.ref b10), .unset, .unset, .unset, .unset, .unset, .unset, .unset, .unset, .unset, .unset, .unset, .unset] [(.ref b7), (.ref b17), (.ref b17), (.int (1 : Int32)), (.ref b13), (.ref b13)])) _
  refine st18.trans ?_
  show Steps p.tables e below (T18.setTop (mkF m 82 #[s0, .val (.int i1), s2, s3, s4, s5, .val (.ref b7), .val (.ref b10), .unset, .unset, .unset, .unset, .unset, .unset, .unset, .unset, .unset, .unset, .unset, .unset] [(.ref b17), (.int (1 : Int32)), (.ref b13), (.ref b13)])) _
  refine st19 _ ?_
  show Steps p.tables e below (T19.setTop (mkF m 83 #[s0, .val (.int i1), s2, s3, s4, s5, .val (.ref b7), .val (.ref b10), .unset, .unset, .unset, .unset, .unset, .unset, .unset, .unset, .unset, .unset, .unset, .unset] [(.ref b13)])) _
  refine XS.dup X19.here hx rfl (hb hby at_83) rfl rfl ?_
  show Steps p.tables e below (T19.setTop (mkF m 84 #[s0, .val (.int i1), s2, s3, s4, s5, .val (.ref b7), .val (.ref b10), .unset, .unset, .unset, .unset, .unset, .unset, .unset, .unset, .unset, .unset, .unset, .unset] [(.ref b13), (.ref b13)])) _
  refine XS.iconst X19.here hx rfl (hb hby at_84) ?_
  show Steps p.tables e below (T19.setTop (mkF m 85 #[s0, .val (.int i1), s2, s3, s4, s5, .val (.ref b7), .val (.ref b10), .unset, .unset, .unset, .unset, .unset, .unset, .unset, .unset, .unset, .unset, .unset, .unset] [(.int (2 : Int32)), (.ref b13), (.ref b13)])) _
  refine st20 _ ?_
  show Steps p.tables e below (T20.setTop (mkF m 88 #[s0, .val (.int i1), s2, s3, s4, s5, .val (.ref b7), .val (.ref b10), .unset, .unset, .unset, .unset, .unset, .unset, .unset, .unset, .unset, .unset, .unset, .unset] [(.ref b20), (.int (2 : Int32)), (.ref b13), (.ref b13)])) _
  refine XS.dup X20.here hx rfl (hb hby at_88) rfl rfl ?_
  show Steps p.tables e below (T20.setTop (mkF m 89 #[s0, .val (.int i1), s2, s3, s4, s5, .val (.ref b7), .val (.ref b10), .unset, .unset, .unset, .unset, .unset, .unset, .unset, .unset, .unset, .unset, .unset, .unset] [(.ref b20), (.ref b20), (.int (2 : Int32)), (.ref b13), (.ref b13)])) _
  refine XS.aload X20.here hx rfl (hb hby at_89) rfl rfl ?_
  show Steps p.tables e below (T20.setTop (mkF m 91 #[s0, .val (.int i1), s2, s3, s4, s5, .val (.ref b7), .val (.ref b10), .unset, .unset, .unset, .unset, .unset, .unset, .unset, .unset, .unset, .unset, .unset, .unset] [(.ref b10), (.ref b20), (.ref b20), (.int (2 : Int32)), (.ref b13), (.ref b13)])) _
  refine st21.trans ?_
  show Steps p.tables e below (T21.setTop (mkF m 94 #[s0, .val (.int i1), s2, s3, s4, s5, .val (.ref b7), .val (.ref b10), .unset, .unset, .unset, .unset, .unset, .unset, .unset, .unset, .unset, .unset, .unset, .unset] [(.ref b20), (.int (2 : Int32)), (.ref b13), (.ref b13)])) _
  refine st22 _ ?_
  show Steps p.tables e below (T22.setTop (mkF m 95 #[s0, .val (.int i1), s2, s3, s4, s5, .val (.ref b7), .val (.ref b10), .unset, .unset, .unset, .unset, .unset, .unset, .unset, .unset, .unset, .unset, .unset, .unset] [(.ref b13)])) _
  refine XS.astore X22.here hx rfl (hb hby at_95) rfl rfl (l' := #[s0, .val (.int i1), s2, s3, s4, s5, .val (.ref b7), .val (.ref b10), .val (.ref b13), .unset, .unset, .unset, .unset, .unset, .unset, .unset, .unset, .unset, .unset, .unset]) rfl ?_
  show Steps p.tables e below (T22.setTop (mkF m 97 #[s0, .val (.int i1), s2, s3, s4, s5, .val (.ref b7), .val (.ref b10), .val (.ref b13), .unset, .unset, .unset, .unset, .unset, .unset, .unset, .unset, .unset, .unset, .unset] [])) _
  refine st23 _ ?_
  show Steps p.tables e below (T23.setTop (mkF m 100 #[s0, .val (.int i1), s2, s3, s4, s5, .val (.ref b7), .val (.ref b10), .val (.ref b13), .unset, .unset, .unset, .unset, .unset, .unset, .unset, .unset, .unset, .unset, .unset] [(.ref b23)])) _
  refine XS.dup X23.here hx rfl (hb hby at_100) rfl rfl ?_
  show Steps p.tables e below (T23.setTop (mkF m 101 #[s0, .val (.int i1), s2, s3, s4, s5, .val (.ref b7), .val (.ref b10), .val (.ref b13), .unset, .unset, .unset, .unset, .unset, .unset, .unset, .unset, .unset, .unset, .unset] [(.ref b23), (.ref b23)])) _
  refine XS.aload X23.here hx rfl (hb hby at_101) rfl rfl ?_
  show Steps p.tables e below (T23.setTop (mkF m 103 #[s0, .val (.int i1), s2, s3, s4, s5, .val (.ref b7), .val (.ref b10), .val (.ref b13), .unset, .unset, .unset, .unset, .unset, .unset, .unset, .unset, .unset, .unset, .unset] [(.ref b7), (.ref b23), (.ref b23)])) _
  refine st24.trans ?_
  show Steps p.tables e below (T24.setTop (mkF m 106 #[s0, .val (.int i1), s2, s3, s4, s5, .val (.ref b7), .val (.ref b10), .val (.ref b13), .unset, .unset, .unset, .unset, .unset, .unset, .unset, .unset, .unset, .unset, .unset] [(.ref b23)])) _
  refine XS.astore X24.here hx rfl (hb hby at_106) rfl rfl (l' := #[s0, .val (.int i1), s2, s3, s4, s5, .val (.ref b7), .val (.ref b10), .val (.ref b13), .val (.ref b23), .unset, .unset, .unset, .unset, .unset, .unset, .unset, .unset, .unset, .unset]) rfl ?_
  show Steps p.tables e below (T24.setTop (mkF m 108 #[s0, .val (.int i1), s2, s3, s4, s5, .val (.ref b7), .val (.ref b10), .val (.ref b13), .val (.ref b23), .unset, .unset, .unset, .unset, .unset, .unset, .unset, .unset, .unset, .unset] [])) _
  refine XS.iconst X24.here hx rfl (hb hby at_108) ?_
  show Steps p.tables e below (T24.setTop (mkF m 109 #[s0, .val (.int i1), s2, s3, s4, s5, .val (.ref b7), .val (.ref b10), .val (.ref b13), .val (.ref b23), .unset, .unset, .unset, .unset, .unset, .unset, .unset, .unset, .unset, .unset] [(.int (4 : Int32))])) _
  refine st25 _ ?_
  show Steps p.tables e below (T25.setTop (mkF m 112 #[s0, .val (.int i1), s2, s3, s4, s5, .val (.ref b7), .val (.ref b10), .val (.ref b13), .val (.ref b23), .unset, .unset, .unset, .unset, .unset, .unset, .unset, .unset, .unset, .unset] [(.ref b25)])) _
  refine XS.astore X25.here hx rfl (hb hby at_112) rfl rfl (l' := #[s0, .val (.int i1), s2, s3, s4, s5, .val (.ref b7), .val (.ref b10), .val (.ref b13), .val (.ref b23), .val (.ref b25), .unset, .unset, .unset, .unset, .unset, .unset, .unset, .unset, .unset]) rfl ?_
  exact kt
set_option maxRecDepth 65536 in
set_option maxHeartbeats 40000000 in
theorem own_bn0 {p : Program} {l : Launch} {e : Env} {s : State} {m : MethodId} {args : Array Value} {below : List Frame} {meth : Method} {c : Code} {T0 : State} {locs : List Loc} {cells slots : Nat} {Z : State} {a0 : Array Value} {h0 : Heap} {n0 : Nat} (i0 : Int32) (s1 : Slot) (s2 : Slot) (s3 : Slot) (s4 : Slot) (s5 : Slot) (s6 : Slot) (s7 : Slot) (s8 : Slot) (s9 : Slot) (o10 : Addr) (s11 : Slot) (s12 : Slot) (s13 : Slot) (s14 : Slot) (s15 : Slot) (s16 : Slot) (s17 : Slot) (s18 : Slot) (s19 : Slot)  (kV : ClassId) (v0 v1 v2 v3 : Value) (cw : Addr) (bcl : Cell) (bval : Int32 → Value)
    (X0 : Stand p l e room_1 s m args below meth c T0 locs cells slots) (hx : p.tables.exec = Jvm.exec) (hZ : Z.Warmed39 s.vm) (hw : ∀ d ∈ tables_1, d.before a0 Z = true) (hby : c.code = code) (hml : c.maxLocals = 20) (hown : s.vm.findClass "com/example/fixpoint/fixpoint/expr/SymbolAttachmentPinLaw" = some m.cls) (e0 : T0.heap = h0) (hc123 : ¬ ((((i0.toUInt32 >>> ((8 : Int32) &&& 31).toUInt32).toInt32) &&& (1 : Int32)) = (0 : Int32))) (Z0 : n0 ≤ h0.size) (N : Fr n0 locs) (g_o10 : n0 ≤ o10) (V : Arv Z h0 o10 kV (.object "java/lang/Object") (4 : Int32) [v0, v1, v2, v3] .null) (OV : Ovr Z kV "java/lang/Object") (O : Old Z n0 h0) (SH : Sta Z Z.heap "java/lang/Integer$IntegerCache" "high" "I" (.int (127 : Int32))) (SC : Sta Z Z.heap "java/lang/Integer$IntegerCache" "cache" "[Ljava/lang/Integer;" (.ref cw)) (B : Bxs Z cw bcl "java/lang/Integer" "I" (256 : Int32) bval) (hcl : cells ≤ 40) (hsl : slots ≤ 120) :
    ∃ (T' : State) (h' : Heap) (locs' : List Loc) (cells' slots' : Nat) (w : Value), Stand p l e room_1 s m args below meth c T' locs' cells' slots' ∧ T'.heap = h' ∧ Fr n0 locs' ∧ cells' ≤ cells + 1 ∧ slots' ≤ slots + 1 ∧ Keep h0 h' [o10] ∧ Rf w ∧ Arv Z h' o10 kV (.object "java/lang/Object") (4 : Int32) ([v0, v1, v2, v3].set 0 w) .null ∧
      ∀ target, Steps p.tables e below (T'.setTop (mkF m 135 #[.val (.int i0), s1, s2, s3, s4, s5, s6, s7, s8, s9, .val (.ref o10), s11, s12, s13, s14, s15, s16, s17, s18, s19] [])) target → Steps p.tables e below (T0.setTop (mkF m 114 #[.val (.int i0), s1, s2, s3, s4, s5, s6, s7, s8, s9, .val (.ref o10), s11, s12, s13, s14, s15, s16, s17, s18, s19] [])) target := by
  have N0 := N
  obtain ⟨cl_o10, Ar_o10, q_o10, S_o10, M_o10, H_o10, G_o10⟩ := V
  have hin134 : ¬ ((0 : Int32) < 0 ∨ cl_o10.slots.size ≤ ((0 : Int32)).toNatClampNeg) := inb_of S_o10 ⟨by decide, by decide⟩
  obtain ⟨T7, h7, X7, e7, W7, st7⟩ := stR X0 hx hZ e0 Ar_o10 (j := (0 : Int32)) hin134 rfl (Or.inl rfl) (g := (mkF m 134 #[.val (.int i0), s1, s2, s3, s4, s5, s6, s7, s8, s9, .val (.ref o10), s11, s12, s13, s14, s15, s16, s17, s18, s19] [.null, (.int (0 : Int32)), (.ref o10)])) rfl rfl (hb hby at_134)
  have VS := Arv.set Ar_o10 q_o10 S_o10 M_o10 H_o10 G_o10 rfl W7 0 rfl (Nat.le_of_ble_eq_true rfl)
  refine ⟨T7, h7, _, cells, slots, .null, X7, e7, Fr.snoc X7 N g_o10, Nat.le_succ _, Nat.le_succ _, Keep.of_wr W7, Or.inl rfl, VS, fun target kt => ?_⟩
  show Steps p.tables e below (T0.setTop (mkF m 114 #[.val (.int i0), s1, s2, s3, s4, s5, s6, s7, s8, s9, .val (.ref o10), s11, s12, s13, s14, s15, s16, s17, s18, s19] [])) _
  refine XS.aload X0.here hx rfl (hb hby at_114) rfl rfl ?_
  show Steps p.tables e below (T0.setTop (mkF m 116 #[.val (.int i0), s1, s2, s3, s4, s5, s6, s7, s8, s9, .val (.ref o10), s11, s12, s13, s14, s15, s16, s17, s18, s19] [(.ref o10)])) _
  refine XS.iconst X0.here hx rfl (hb hby at_116) ?_
  show Steps p.tables e below (T0.setTop (mkF m 117 #[.val (.int i0), s1, s2, s3, s4, s5, s6, s7, s8, s9, .val (.ref o10), s11, s12, s13, s14, s15, s16, s17, s18, s19] [(.int (0 : Int32)), (.ref o10)])) _
  refine XS.iloadN X0.here hx rfl (hb hby at_117) rfl ?_
  show Steps p.tables e below (T0.setTop (mkF m 118 #[.val (.int i0), s1, s2, s3, s4, s5, s6, s7, s8, s9, .val (.ref o10), s11, s12, s13, s14, s15, s16, s17, s18, s19] [(.int i0), (.int (0 : Int32)), (.ref o10)])) _
  refine XS.bipush X0.here hx rfl (hb hby at_118) ?_
  show Steps p.tables e below (T0.setTop (mkF m 120 #[.val (.int i0), s1, s2, s3, s4, s5, s6, s7, s8, s9, .val (.ref o10), s11, s12, s13, s14, s15, s16, s17, s18, s19] [(.int (8 : Int32)), (.int i0), (.int (0 : Int32)), (.ref o10)])) _
  refine XS.iushr X0.here hx rfl (hb hby at_120) rfl ?_
  show Steps p.tables e below (T0.setTop (mkF m 121 #[.val (.int i0), s1, s2, s3, s4, s5, s6, s7, s8, s9, .val (.ref o10), s11, s12, s13, s14, s15, s16, s17, s18, s19] [(.int ((i0.toUInt32 >>> ((8 : Int32) &&& 31).toUInt32).toInt32)), (.int (0 : Int32)), (.ref o10)])) _
  refine XS.iconst X0.here hx rfl (hb hby at_121) ?_
  show Steps p.tables e below (T0.setTop (mkF m 122 #[.val (.int i0), s1, s2, s3, s4, s5, s6, s7, s8, s9, .val (.ref o10), s11, s12, s13, s14, s15, s16, s17, s18, s19] [(.int (1 : Int32)), (.int ((i0.toUInt32 >>> ((8 : Int32) &&& 31).toUInt32).toInt32)), (.int (0 : Int32)), (.ref o10)])) _
  refine XS.iand X0.here hx rfl (hb hby at_122) rfl ?_
  show Steps p.tables e below (T0.setTop (mkF m 123 #[.val (.int i0), s1, s2, s3, s4, s5, s6, s7, s8, s9, .val (.ref o10), s11, s12, s13, s14, s15, s16, s17, s18, s19] [(.int (((i0.toUInt32 >>> ((8 : Int32) &&& 31).toUInt32).toInt32) &&& (1 : Int32))), (.int (0 : Int32)), (.ref o10)])) _
  refine XS.ifNo X0.here hx rfl (hb hby at_123) rfl ((if0 _ _).trans (feq hc123).1) ?_
  show Steps p.tables e below (T0.setTop (mkF m 126 #[.val (.int i0), s1, s2, s3, s4, s5, s6, s7, s8, s9, .val (.ref o10), s11, s12, s13, s14, s15, s16, s17, s18, s19] [(.int (0 : Int32)), (.ref o10)])) _
  refine XS.aconstNull X0.here hx rfl (hb hby at_126) ?_
  show Steps p.tables e below (T0.setTop (mkF m 127 #[.val (.int i0), s1, s2, s3, s4, s5, s6, s7, s8, s9, .val (.ref o10), s11, s12, s13, s14, s15, s16, s17, s18, s19] [.null, (.int (0 : Int32)), (.ref o10)])) _
  refine XS.goto X0.here hx rfl (pc0 := 127) (pc' := 134) rfl (hb hby at_127) (by decide) (by decide) ?_
  show Steps p.tables e below (T0.setTop (mkF m 134 #[.val (.int i0), s1, s2, s3, s4, s5, s6, s7, s8, s9, .val (.ref o10), s11, s12, s13, s14, s15, s16, s17, s18, s19] [.null, (.int (0 : Int32)), (.ref o10)])) _
  refine st7 _ ?_
  exact kt
theorem pd_0_6 : parseMethodDescriptor "(I)Ljava/lang/Integer;" = some ⟨[.int], some (.object "java/lang/Integer")⟩ := by decide +kernel
set_option maxRecDepth 65536 in
set_option maxHeartbeats 40000000 in
theorem own_bv0 {p : Program} {l : Launch} {e : Env} {s : State} {m : MethodId} {args : Array Value} {below : List Frame} {meth : Method} {c : Code} {T0 : State} {locs : List Loc} {cells slots : Nat} {Z : State} {a0 : Array Value} {h0 : Heap} {n0 : Nat} (i0 : Int32) (s1 : Slot) (i2 : Int32) (s3 : Slot) (s4 : Slot) (s5 : Slot) (s6 : Slot) (s7 : Slot) (s8 : Slot) (s9 : Slot) (o10 : Addr) (s11 : Slot) (s12 : Slot) (s13 : Slot) (s14 : Slot) (s15 : Slot) (s16 : Slot) (s17 : Slot) (s18 : Slot) (s19 : Slot)  (kV : ClassId) (v0 v1 v2 v3 : Value) (cw : Addr) (bcl : Cell) (bval : Int32 → Value)
    (X0 : Stand p l e room_1 s m args below meth c T0 locs cells slots) (hx : p.tables.exec = Jvm.exec) (hZ : Z.Warmed39 s.vm) (hw : ∀ d ∈ tables_1, d.before a0 Z = true) (hby : c.code = code) (hml : c.maxLocals = 20) (hown : s.vm.findClass "com/example/fixpoint/fixpoint/expr/SymbolAttachmentPinLaw" = some m.cls) (e0 : T0.heap = h0) (hc123 : (((i0.toUInt32 >>> ((8 : Int32) &&& 31).toUInt32).toInt32) &&& (1 : Int32)) = (0 : Int32)) (Z0 : n0 ≤ h0.size) (N : Fr n0 locs) (g_o10 : n0 ≤ o10) (V : Arv Z h0 o10 kV (.object "java/lang/Object") (4 : Int32) [v0, v1, v2, v3] .null) (OV : Ovr Z kV "java/lang/Object") (O : Old Z n0 h0) (SH : Sta Z Z.heap "java/lang/Integer$IntegerCache" "high" "I" (.int (127 : Int32))) (SC : Sta Z Z.heap "java/lang/Integer$IntegerCache" "cache" "[Ljava/lang/Integer;" (.ref cw)) (B : Bxs Z cw bcl "java/lang/Integer" "I" (256 : Int32) bval) (hcl : cells ≤ 40) (hsl : slots ≤ 120) :
    ∃ (T' : State) (h' : Heap) (locs' : List Loc) (cells' slots' : Nat) (w : Value), Stand p l e room_1 s m args below meth c T' locs' cells' slots' ∧ T'.heap = h' ∧ Fr n0 locs' ∧ cells' ≤ cells + 1 ∧ slots' ≤ slots + 1 ∧ Keep h0 h' [o10] ∧ Rf w ∧ Arv Z h' o10 kV (.object "java/lang/Object") (4 : Int32) ([v0, v1, v2, v3].set 0 w) .null ∧
      ∀ target, Steps p.tables e below (T'.setTop (mkF m 135 #[.val (.int i0), s1, .val (.int i2), s3, s4, s5, s6, s7, s8, s9, .val (.ref o10), s11, s12, s13, s14, s15, s16, s17, s18, s19] [])) target → Steps p.tables e below (T0.setTop (mkF m 114 #[.val (.int i0), s1, .val (.int i2), s3, s4, s5, s6, s7, s8, s9, .val (.ref o10), s11, s12, s13, s14, s15, s16, s17, s18, s19] [])) target := by
  have N0 := N
  obtain ⟨_, _, ⟨T7, L7, k7, n7⟩, -, X7, ⟨Lc7, hQ7, l7, y7, z7⟩, st7⟩ := Jvm.LawKit.callS X0 hx (y := (⟨"java/lang/Integer", "valueOf", "(I)Ljava/lang/Integer;"⟩ : MethodName)) hown (mvT hZ (hw _ (List.mem_of_getElem? (i := 33) rfl))) (mvT hZ (hw _ (List.mem_of_getElem? (i := 34) rfl))) (mvT hZ (hw _ (List.mem_of_getElem? (i := 35) rfl))) (mvT hZ (hw _ (List.mem_of_getElem? (i := 36) rfl))) (by decide) (backOf (W := 2) (own_vof l Z a0 hw i2 cw bcl bval h0 n0 Z0 O SH SC B) hZ (hw _ (List.mem_of_getElem? (i := 36) rfl)) (hw _ (List.mem_of_getElem? (i := 35) rfl)) (by decide) (by decide)) (g := (mkF m 131 #[.val (.int i0), s1, .val (.int i2), s3, s4, s5, s6, s7, s8, s9, .val (.ref o10), s11, s12, s13, s14, s15, s16, s17, s18, s19] [(.int i2), (.int (0 : Int32)), (.ref o10)])) rfl (by rw [hml]; rfl) (argsL := [(.int i2)]) (rest := [(.int (0 : Int32)), (.ref o10)]) (lenOf pd_0_6 rfl) rfl (by show 2 * 0 + _ ≤ _; exact Nat.le_of_eq rfl) (hb hby at_131) (fun _ _ => ⟨rfl, e0, (by show cells + 1 ≤ 56; omega), (by show slots + 1 ≤ 192; omega)⟩)
  dsimp only [Pt.U, Pt.locs, Pt.cells, Pt.slots] at X7 l7 y7 z7 st7 hQ7
  subst l7 y7 z7
  obtain ⟨rr, rfl, N7q, K7, E7i⟩ := hQ7
  have N7 := Fr.app N0 N7q
  obtain ⟨cl_o10, Ar_o10, q_o10, S_o10, M_o10, H_o10, G_o10⟩ := V.keep K7 (fun q => nomatch q)
  have hin134 : ¬ ((0 : Int32) < 0 ∨ cl_o10.slots.size ≤ ((0 : Int32)).toNatClampNeg) := inb_of S_o10 ⟨by decide, by decide⟩
  have Sto134 : Sto Z T7.heap o10 (.ref rr) := Sto.ofV Ar_o10 q_o10 OV (Ins.of_exa E7i (hw _ (List.mem_of_getElem? (i := 40) rfl)))
  obtain ⟨T8, h8, X8, e8, W8, st8⟩ := stR X7 hx hZ rfl Ar_o10 (j := (0 : Int32)) hin134 rfl Sto134 (g := (mkF m 134 #[.val (.int i0), s1, .val (.int i2), s3, s4, s5, s6, s7, s8, s9, .val (.ref o10), s11, s12, s13, s14, s15, s16, s17, s18, s19] [(.ref rr), (.int (0 : Int32)), (.ref o10)])) rfl rfl (hb hby at_134)
  have N8 := Fr.snoc X8 N7 g_o10
  have VS := Arv.set Ar_o10 q_o10 S_o10 M_o10 H_o10 G_o10 rfl W8 0 rfl (Nat.le_of_ble_eq_true rfl)
  refine ⟨T8, h8, _, _, _, .ref rr, X8, e8, Fr.snoc X8 N7 g_o10, Nat.le_refl _, Nat.le_refl _, (own_keep_sub K7 (fun x q => nomatch q)).trans (Keep.of_wr W8) (fun x q => Or.inl q), Or.inr ⟨rr, rfl⟩, VS, fun target kt => ?_⟩
  show Steps p.tables e below (T0.setTop (mkF m 114 #[.val (.int i0), s1, .val (.int i2), s3, s4, s5, s6, s7, s8, s9, .val (.ref o10), s11, s12, s13, s14, s15, s16, s17, s18, s19] [])) _
  refine XS.aload X0.here hx rfl (hb hby at_114) rfl rfl ?_
  show Steps p.tables e below (T0.setTop (mkF m 116 #[.val (.int i0), s1, .val (.int i2), s3, s4, s5, s6, s7, s8, s9, .val (.ref o10), s11, s12, s13, s14, s15, s16, s17, s18, s19] [(.ref o10)])) _
  refine XS.iconst X0.here hx rfl (hb hby at_116) ?_
  show Steps p.tables e below (T0.setTop (mkF m 117 #[.val (.int i0), s1, .val (.int i2), s3, s4, s5, s6, s7, s8, s9, .val (.ref o10), s11, s12, s13, s14, s15, s16, s17, s18, s19] [(.int (0 : Int32)), (.ref o10)])) _
  refine XS.iloadN X0.here hx rfl (hb hby at_117) rfl ?_
  show Steps p.tables e below (T0.setTop (mkF m 118 #[.val (.int i0), s1, .val (.int i2), s3, s4, s5, s6, s7, s8, s9, .val (.ref o10), s11, s12, s13, s14, s15, s16, s17, s18, s19] [(.int i0), (.int (0 : Int32)), (.ref o10)])) _
  refine XS.bipush X0.here hx rfl (hb hby at_118) ?_
  show Steps p.tables e below (T0.setTop (mkF m 120 #[.val (.int i0), s1, .val (.int i2), s3, s4, s5, s6, s7, s8, s9, .val (.ref o10), s11, s12, s13, s14, s15, s16, s17, s18, s19] [(.int (8 : Int32)), (.int i0), (.int (0 : Int32)), (.ref o10)])) _
  refine XS.iushr X0.here hx rfl (hb hby at_120) rfl ?_
  show Steps p.tables e below (T0.setTop (mkF m 121 #[.val (.int i0), s1, .val (.int i2), s3, s4, s5, s6, s7, s8, s9, .val (.ref o10), s11, s12, s13, s14, s15, s16, s17, s18, s19] [(.int ((i0.toUInt32 >>> ((8 : Int32) &&& 31).toUInt32).toInt32)), (.int (0 : Int32)), (.ref o10)])) _
  refine XS.iconst X0.here hx rfl (hb hby at_121) ?_
  show Steps p.tables e below (T0.setTop (mkF m 122 #[.val (.int i0), s1, .val (.int i2), s3, s4, s5, s6, s7, s8, s9, .val (.ref o10), s11, s12, s13, s14, s15, s16, s17, s18, s19] [(.int (1 : Int32)), (.int ((i0.toUInt32 >>> ((8 : Int32) &&& 31).toUInt32).toInt32)), (.int (0 : Int32)), (.ref o10)])) _
  refine XS.iand X0.here hx rfl (hb hby at_122) rfl ?_
  show Steps p.tables e below (T0.setTop (mkF m 123 #[.val (.int i0), s1, .val (.int i2), s3, s4, s5, s6, s7, s8, s9, .val (.ref o10), s11, s12, s13, s14, s15, s16, s17, s18, s19] [(.int (((i0.toUInt32 >>> ((8 : Int32) &&& 31).toUInt32).toInt32) &&& (1 : Int32))), (.int (0 : Int32)), (.ref o10)])) _
  refine XS.ifYes X0.here hx rfl (pc0 := 123) (pc' := 130) rfl (hb hby at_123) rfl ((if0 _ _).trans (teq hc123).1) (by decide) (by decide) ?_
  show Steps p.tables e below (T0.setTop (mkF m 130 #[.val (.int i0), s1, .val (.int i2), s3, s4, s5, s6, s7, s8, s9, .val (.ref o10), s11, s12, s13, s14, s15, s16, s17, s18, s19] [(.int (0 : Int32)), (.ref o10)])) _
  refine XS.iloadN X0.here hx rfl (hb hby at_130) rfl ?_
  show Steps p.tables e below (T0.setTop (mkF m 131 #[.val (.int i0), s1, .val (.int i2), s3, s4, s5, s6, s7, s8, s9, .val (.ref o10), s11, s12, s13, s14, s15, s16, s17, s18, s19] [(.int i2), (.int (0 : Int32)), (.ref o10)])) _
  refine st7 _ ?_
  show Steps p.tables e below (T7.setTop (mkF m 134 #[.val (.int i0), s1, .val (.int i2), s3, s4, s5, s6, s7, s8, s9, .val (.ref o10), s11, s12, s13, s14, s15, s16, s17, s18, s19] [(.ref rr), (.int (0 : Int32)), (.ref o10)])) _
  refine st8 _ ?_
  exact kt
set_option maxRecDepth 65536 in
set_option maxHeartbeats 40000000 in
theorem own_bn1 {p : Program} {l : Launch} {e : Env} {s : State} {m : MethodId} {args : Array Value} {below : List Frame} {meth : Method} {c : Code} {T0 : State} {locs : List Loc} {cells slots : Nat} {Z : State} {a0 : Array Value} {h0 : Heap} {n0 : Nat} (i0 : Int32) (s1 : Slot) (s2 : Slot) (s3 : Slot) (s4 : Slot) (s5 : Slot) (s6 : Slot) (s7 : Slot) (s8 : Slot) (s9 : Slot) (o10 : Addr) (s11 : Slot) (s12 : Slot) (s13 : Slot) (s14 : Slot) (s15 : Slot) (s16 : Slot) (s17 : Slot) (s18 : Slot) (s19 : Slot)  (kV : ClassId) (v0 v1 v2 v3 : Value) (cw : Addr) (bcl : Cell) (bval : Int32 → Value)
    (X0 : Stand p l e room_1 s m args below meth c T0 locs cells slots) (hx : p.tables.exec = Jvm.exec) (hZ : Z.Warmed39 s.vm) (hw : ∀ d ∈ tables_1, d.before a0 Z = true) (hby : c.code = code) (hml : c.maxLocals = 20) (hown : s.vm.findClass "com/example/fixpoint/fixpoint/expr/SymbolAttachmentPinLaw" = some m.cls) (e0 : T0.heap = h0) (hc144 : ¬ ((((i0.toUInt32 >>> ((9 : Int32) &&& 31).toUInt32).toInt32) &&& (1 : Int32)) = (0 : Int32))) (Z0 : n0 ≤ h0.size) (N : Fr n0 locs) (g_o10 : n0 ≤ o10) (V : Arv Z h0 o10 kV (.object "java/lang/Object") (4 : Int32) [v0, v1, v2, v3] .null) (OV : Ovr Z kV "java/lang/Object") (O : Old Z n0 h0) (SH : Sta Z Z.heap "java/lang/Integer$IntegerCache" "high" "I" (.int (127 : Int32))) (SC : Sta Z Z.heap "java/lang/Integer$IntegerCache" "cache" "[Ljava/lang/Integer;" (.ref cw)) (B : Bxs Z cw bcl "java/lang/Integer" "I" (256 : Int32) bval) (hcl : cells ≤ 40) (hsl : slots ≤ 120) :
    ∃ (T' : State) (h' : Heap) (locs' : List Loc) (cells' slots' : Nat) (w : Value), Stand p l e room_1 s m args below meth c T' locs' cells' slots' ∧ T'.heap = h' ∧ Fr n0 locs' ∧ cells' ≤ cells + 1 ∧ slots' ≤ slots + 1 ∧ Keep h0 h' [o10] ∧ Rf w ∧ Arv Z h' o10 kV (.object "java/lang/Object") (4 : Int32) ([v0, v1, v2, v3].set 1 w) .null ∧
      ∀ target, Steps p.tables e below (T'.setTop (mkF m 156 #[.val (.int i0), s1, s2, s3, s4, s5, s6, s7, s8, s9, .val (.ref o10), s11, s12, s13, s14, s15, s16, s17, s18, s19] [])) target → Steps p.tables e below (T0.setTop (mkF m 135 #[.val (.int i0), s1, s2, s3, s4, s5, s6, s7, s8, s9, .val (.ref o10), s11, s12, s13, s14, s15, s16, s17, s18, s19] [])) target := by
  have N0 := N
  obtain ⟨cl_o10, Ar_o10, q_o10, S_o10, M_o10, H_o10, G_o10⟩ := V
  have hin155 : ¬ ((1 : Int32) < 0 ∨ cl_o10.slots.size ≤ ((1 : Int32)).toNatClampNeg) := inb_of S_o10 ⟨by decide, by decide⟩
  obtain ⟨T7, h7, X7, e7, W7, st7⟩ := stR X0 hx hZ e0 Ar_o10 (j := (1 : Int32)) hin155 rfl (Or.inl rfl) (g := (mkF m 155 #[.val (.int i0), s1, s2, s3, s4, s5, s6, s7, s8, s9, .val (.ref o10), s11, s12, s13, s14, s15, s16, s17, s18, s19] [.null, (.int (1 : Int32)), (.ref o10)])) rfl rfl (hb hby at_155)
  have VS := Arv.set Ar_o10 q_o10 S_o10 M_o10 H_o10 G_o10 rfl W7 1 rfl (Nat.le_of_ble_eq_true rfl)
  refine ⟨T7, h7, _, cells, slots, .null, X7, e7, Fr.snoc X7 N g_o10, Nat.le_succ _, Nat.le_succ _, Keep.of_wr W7, Or.inl rfl, VS, fun target kt => ?_⟩
  show Steps p.tables e below (T0.setTop (mkF m 135 #[.val (.int i0), s1, s2, s3, s4, s5, s6, s7, s8, s9, .val (.ref o10), s11, s12, s13, s14, s15, s16, s17, s18, s19] [])) _
  refine XS.aload X0.here hx rfl (hb hby at_135) rfl rfl ?_
  show Steps p.tables e below (T0.setTop (mkF m 137 #[.val (.int i0), s1, s2, s3, s4, s5, s6, s7, s8, s9, .val (.ref o10), s11, s12, s13, s14, s15, s16, s17, s18, s19] [(.ref o10)])) _
  refine XS.iconst X0.here hx rfl (hb hby at_137) ?_
  show Steps p.tables e below (T0.setTop (mkF m 138 #[.val (.int i0), s1, s2, s3, s4, s5, s6, s7, s8, s9, .val (.ref o10), s11, s12, s13, s14, s15, s16, s17, s18, s19] [(.int (1 : Int32)), (.ref o10)])) _
  refine XS.iloadN X0.here hx rfl (hb hby at_138) rfl ?_
  show Steps p.tables e below (T0.setTop (mkF m 139 #[.val (.int i0), s1, s2, s3, s4, s5, s6, s7, s8, s9, .val (.ref o10), s11, s12, s13, s14, s15, s16, s17, s18, s19] [(.int i0), (.int (1 : Int32)), (.ref o10)])) _
  refine XS.bipush X0.here hx rfl (hb hby at_139) ?_
  show Steps p.tables e below (T0.setTop (mkF m 141 #[.val (.int i0), s1, s2, s3, s4, s5, s6, s7, s8, s9, .val (.ref o10), s11, s12, s13, s14, s15, s16, s17, s18, s19] [(.int (9 : Int32)), (.int i0), (.int (1 : Int32)), (.ref o10)])) _
  refine XS.iushr X0.here hx rfl (hb hby at_141) rfl ?_
  show Steps p.tables e below (T0.setTop (mkF m 142 #[.val (.int i0), s1, s2, s3, s4, s5, s6, s7, s8, s9, .val (.ref o10), s11, s12, s13, s14, s15, s16, s17, s18, s19] [(.int ((i0.toUInt32 >>> ((9 : Int32) &&& 31).toUInt32).toInt32)), (.int (1 : Int32)), (.ref o10)])) _
  refine XS.iconst X0.here hx rfl (hb hby at_142) ?_
  show Steps p.tables e below (T0.setTop (mkF m 143 #[.val (.int i0), s1, s2, s3, s4, s5, s6, s7, s8, s9, .val (.ref o10), s11, s12, s13, s14, s15, s16, s17, s18, s19] [(.int (1 : Int32)), (.int ((i0.toUInt32 >>> ((9 : Int32) &&& 31).toUInt32).toInt32)), (.int (1 : Int32)), (.ref o10)])) _
  refine XS.iand X0.here hx rfl (hb hby at_143) rfl ?_
  show Steps p.tables e below (T0.setTop (mkF m 144 #[.val (.int i0), s1, s2, s3, s4, s5, s6, s7, s8, s9, .val (.ref o10), s11, s12, s13, s14, s15, s16, s17, s18, s19] [(.int (((i0.toUInt32 >>> ((9 : Int32) &&& 31).toUInt32).toInt32) &&& (1 : Int32))), (.int (1 : Int32)), (.ref o10)])) _
  refine XS.ifNo X0.here hx rfl (hb hby at_144) rfl ((if0 _ _).trans (feq hc144).1) ?_
  show Steps p.tables e below (T0.setTop (mkF m 147 #[.val (.int i0), s1, s2, s3, s4, s5, s6, s7, s8, s9, .val (.ref o10), s11, s12, s13, s14, s15, s16, s17, s18, s19] [(.int (1 : Int32)), (.ref o10)])) _
  refine XS.aconstNull X0.here hx rfl (hb hby at_147) ?_
  show Steps p.tables e below (T0.setTop (mkF m 148 #[.val (.int i0), s1, s2, s3, s4, s5, s6, s7, s8, s9, .val (.ref o10), s11, s12, s13, s14, s15, s16, s17, s18, s19] [.null, (.int (1 : Int32)), (.ref o10)])) _
  refine XS.goto X0.here hx rfl (pc0 := 148) (pc' := 155) rfl (hb hby at_148) (by decide) (by decide) ?_
  show Steps p.tables e below (T0.setTop (mkF m 155 #[.val (.int i0), s1, s2, s3, s4, s5, s6, s7, s8, s9, .val (.ref o10), s11, s12, s13, s14, s15, s16, s17, s18, s19] [.null, (.int (1 : Int32)), (.ref o10)])) _
  refine st7 _ ?_
  exact kt
set_option maxRecDepth 65536 in
set_option maxHeartbeats 40000000 in
theorem own_bv1 {p : Program} {l : Launch} {e : Env} {s : State} {m : MethodId} {args : Array Value} {below : List Frame} {meth : Method} {c : Code} {T0 : State} {locs : List Loc} {cells slots : Nat} {Z : State} {a0 : Array Value} {h0 : Heap} {n0 : Nat} (i0 : Int32) (s1 : Slot) (s2 : Slot) (i3 : Int32) (s4 : Slot) (s5 : Slot) (s6 : Slot) (s7 : Slot) (s8 : Slot) (s9 : Slot) (o10 : Addr) (s11 : Slot) (s12 : Slot) (s13 : Slot) (s14 : Slot) (s15 : Slot) (s16 : Slot) (s17 : Slot) (s18 : Slot) (s19 : Slot)  (kV : ClassId) (v0 v1 v2 v3 : Value) (cw : Addr) (bcl : Cell) (bval : Int32 → Value)
    (X0 : Stand p l e room_1 s m args below meth c T0 locs cells slots) (hx : p.tables.exec = Jvm.exec) (hZ : Z.Warmed39 s.vm) (hw : ∀ d ∈ tables_1, d.before a0 Z = true) (hby : c.code = code) (hml : c.maxLocals = 20) (hown : s.vm.findClass "com/example/fixpoint/fixpoint/expr/SymbolAttachmentPinLaw" = some m.cls) (e0 : T0.heap = h0) (hc144 : (((i0.toUInt32 >>> ((9 : Int32) &&& 31).toUInt32).toInt32) &&& (1 : Int32)) = (0 : Int32)) (Z0 : n0 ≤ h0.size) (N : Fr n0 locs) (g_o10 : n0 ≤ o10) (V : Arv Z h0 o10 kV (.object "java/lang/Object") (4 : Int32) [v0, v1, v2, v3] .null) (OV : Ovr Z kV "java/lang/Object") (O : Old Z n0 h0) (SH : Sta Z Z.heap "java/lang/Integer$IntegerCache" "high" "I" (.int (127 : Int32))) (SC : Sta Z Z.heap "java/lang/Integer$IntegerCache" "cache" "[Ljava/lang/Integer;" (.ref cw)) (B : Bxs Z cw bcl "java/lang/Integer" "I" (256 : Int32) bval) (hcl : cells ≤ 40) (hsl : slots ≤ 120) :
    ∃ (T' : State) (h' : Heap) (locs' : List Loc) (cells' slots' : Nat) (w : Value), Stand p l e room_1 s m args below meth c T' locs' cells' slots' ∧ T'.heap = h' ∧ Fr n0 locs' ∧ cells' ≤ cells + 1 ∧ slots' ≤ slots + 1 ∧ Keep h0 h' [o10] ∧ Rf w ∧ Arv Z h' o10 kV (.object "java/lang/Object") (4 : Int32) ([v0, v1, v2, v3].set 1 w) .null ∧
      ∀ target, Steps p.tables e below (T'.setTop (mkF m 156 #[.val (.int i0), s1, s2, .val (.int i3), s4, s5, s6, s7, s8, s9, .val (.ref o10), s11, s12, s13, s14, s15, s16, s17, s18, s19] [])) target → Steps p.tables e below (T0.setTop (mkF m 135 #[.val (.int i0), s1, s2, .val (.int i3), s4, s5, s6, s7, s8, s9, .val (.ref o10), s11, s12, s13, s14, s15, s16, s17, s18, s19] [])) target := by
  have N0 := N
  obtain ⟨_, _, ⟨T7, L7, k7, n7⟩, -, X7, ⟨Lc7, hQ7, l7, y7, z7⟩, st7⟩ := Jvm.LawKit.callS X0 hx (y := (⟨"java/lang/Integer", "valueOf", "(I)Ljava/lang/Integer;"⟩ : MethodName)) hown (mvT hZ (hw _ (List.mem_of_getElem? (i := 33) rfl))) (mvT hZ (hw _ (List.mem_of_getElem? (i := 34) rfl))) (mvT hZ (hw _ (List.mem_of_getElem? (i := 35) rfl))) (mvT hZ (hw _ (List.mem_of_getElem? (i := 36) rfl))) (by decide) (backOf (W := 2) (own_vof l Z a0 hw i3 cw bcl bval h0 n0 Z0 O SH SC B) hZ (hw _ (List.mem_of_getElem? (i := 36) rfl)) (hw _ (List.mem_of_getElem? (i := 35) rfl)) (by decide) (by decide)) (g := (mkF m 152 #[.val (.int i0), s1, s2, .val (.int i3), s4, s5, s6, s7, s8, s9, .val (.ref o10), s11, s12, s13, s14, s15, s16, s17, s18, s19] [(.int i3), (.int (1 : Int32)), (.ref o10)])) rfl (by rw [hml]; rfl) (argsL := [(.int i3)]) (rest := [(.int (1 : Int32)), (.ref o10)]) (lenOf pd_0_6 rfl) rfl (by show 2 * 0 + _ ≤ _; exact Nat.le_of_eq rfl) (hb hby at_152) (fun _ _ => ⟨rfl, e0, (by show cells + 1 ≤ 56; omega), (by show slots + 1 ≤ 192; omega)⟩)
  dsimp only [Pt.U, Pt.locs, Pt.cells, Pt.slots] at X7 l7 y7 z7 st7 hQ7
  subst l7 y7 z7
  obtain ⟨rr, rfl, N7q, K7, E7i⟩ := hQ7
  have N7 := Fr.app N0 N7q
  obtain ⟨cl_o10, Ar_o10, q_o10, S_o10, M_o10, H_o10, G_o10⟩ := V.keep K7 (fun q => nomatch q)
  have hin155 : ¬ ((1 : Int32) < 0 ∨ cl_o10.slots.size ≤ ((1 : Int32)).toNatClampNeg) := inb_of S_o10 ⟨by decide, by decide⟩
  have Sto155 : Sto Z T7.heap o10 (.ref rr) := Sto.ofV Ar_o10 q_o10 OV (Ins.of_exa E7i (hw _ (List.mem_of_getElem? (i := 40) rfl)))
  obtain ⟨T8, h8, X8, e8, W8, st8⟩ := stR X7 hx hZ rfl Ar_o10 (j := (1 : Int32)) hin155 rfl Sto155 (g := (mkF m 155 #[.val (.int i0), s1, s2, .val (.int i3), s4, s5, s6, s7, s8, s9, .val (.ref o10), s11, s12, s13, s14, s15, s16, s17, s18, s19] [(.ref rr), (.int (1 : Int32)), (.ref o10)])) rfl rfl (hb hby at_155)
  have N8 := Fr.snoc X8 N7 g_o10
  have VS := Arv.set Ar_o10 q_o10 S_o10 M_o10 H_o10 G_o10 rfl W8 1 rfl (Nat.le_of_ble_eq_true rfl)
  refine ⟨T8, h8, _, _, _, .ref rr, X8, e8, Fr.snoc X8 N7 g_o10, Nat.le_refl _, Nat.le_refl _, (own_keep_sub K7 (fun x q => nomatch q)).trans (Keep.of_wr W8) (fun x q => Or.inl q), Or.inr ⟨rr, rfl⟩, VS, fun target kt => ?_⟩
  show Steps p.tables e below (T0.setTop (mkF m 135 #[.val (.int i0), s1, s2, .val (.int i3), s4, s5, s6, s7, s8, s9, .val (.ref o10), s11, s12, s13, s14, s15, s16, s17, s18, s19] [])) _
  refine XS.aload X0.here hx rfl (hb hby at_135) rfl rfl ?_
  show Steps p.tables e below (T0.setTop (mkF m 137 #[.val (.int i0), s1, s2, .val (.int i3), s4, s5, s6, s7, s8, s9, .val (.ref o10), s11, s12, s13, s14, s15, s16, s17, s18, s19] [(.ref o10)])) _
  refine XS.iconst X0.here hx rfl (hb hby at_137) ?_
  show Steps p.tables e below (T0.setTop (mkF m 138 #[.val (.int i0), s1, s2, .val (.int i3), s4, s5, s6, s7, s8, s9, .val (.ref o10), s11, s12, s13, s14, s15, s16, s17, s18, s19] [(.int (1 : Int32)), (.ref o10)])) _
  refine XS.iloadN X0.here hx rfl (hb hby at_138) rfl ?_
  show Steps p.tables e below (T0.setTop (mkF m 139 #[.val (.int i0), s1, s2, .val (.int i3), s4, s5, s6, s7, s8, s9, .val (.ref o10), s11, s12, s13, s14, s15, s16, s17, s18, s19] [(.int i0), (.int (1 : Int32)), (.ref o10)])) _
  refine XS.bipush X0.here hx rfl (hb hby at_139) ?_
  show Steps p.tables e below (T0.setTop (mkF m 141 #[.val (.int i0), s1, s2, .val (.int i3), s4, s5, s6, s7, s8, s9, .val (.ref o10), s11, s12, s13, s14, s15, s16, s17, s18, s19] [(.int (9 : Int32)), (.int i0), (.int (1 : Int32)), (.ref o10)])) _
  refine XS.iushr X0.here hx rfl (hb hby at_141) rfl ?_
  show Steps p.tables e below (T0.setTop (mkF m 142 #[.val (.int i0), s1, s2, .val (.int i3), s4, s5, s6, s7, s8, s9, .val (.ref o10), s11, s12, s13, s14, s15, s16, s17, s18, s19] [(.int ((i0.toUInt32 >>> ((9 : Int32) &&& 31).toUInt32).toInt32)), (.int (1 : Int32)), (.ref o10)])) _
  refine XS.iconst X0.here hx rfl (hb hby at_142) ?_
  show Steps p.tables e below (T0.setTop (mkF m 143 #[.val (.int i0), s1, s2, .val (.int i3), s4, s5, s6, s7, s8, s9, .val (.ref o10), s11, s12, s13, s14, s15, s16, s17, s18, s19] [(.int (1 : Int32)), (.int ((i0.toUInt32 >>> ((9 : Int32) &&& 31).toUInt32).toInt32)), (.int (1 : Int32)), (.ref o10)])) _
  refine XS.iand X0.here hx rfl (hb hby at_143) rfl ?_
  show Steps p.tables e below (T0.setTop (mkF m 144 #[.val (.int i0), s1, s2, .val (.int i3), s4, s5, s6, s7, s8, s9, .val (.ref o10), s11, s12, s13, s14, s15, s16, s17, s18, s19] [(.int (((i0.toUInt32 >>> ((9 : Int32) &&& 31).toUInt32).toInt32) &&& (1 : Int32))), (.int (1 : Int32)), (.ref o10)])) _
  refine XS.ifYes X0.here hx rfl (pc0 := 144) (pc' := 151) rfl (hb hby at_144) rfl ((if0 _ _).trans (teq hc144).1) (by decide) (by decide) ?_
  show Steps p.tables e below (T0.setTop (mkF m 151 #[.val (.int i0), s1, s2, .val (.int i3), s4, s5, s6, s7, s8, s9, .val (.ref o10), s11, s12, s13, s14, s15, s16, s17, s18, s19] [(.int (1 : Int32)), (.ref o10)])) _
  refine XS.iloadN X0.here hx rfl (hb hby at_151) rfl ?_
  show Steps p.tables e below (T0.setTop (mkF m 152 #[.val (.int i0), s1, s2, .val (.int i3), s4, s5, s6, s7, s8, s9, .val (.ref o10), s11, s12, s13, s14, s15, s16, s17, s18, s19] [(.int i3), (.int (1 : Int32)), (.ref o10)])) _
  refine st7 _ ?_
  show Steps p.tables e below (T7.setTop (mkF m 155 #[.val (.int i0), s1, s2, .val (.int i3), s4, s5, s6, s7, s8, s9, .val (.ref o10), s11, s12, s13, s14, s15, s16, s17, s18, s19] [(.ref rr), (.int (1 : Int32)), (.ref o10)])) _
  refine st8 _ ?_
  exact kt
set_option maxRecDepth 65536 in
set_option maxHeartbeats 40000000 in
theorem own_bn2 {p : Program} {l : Launch} {e : Env} {s : State} {m : MethodId} {args : Array Value} {below : List Frame} {meth : Method} {c : Code} {T0 : State} {locs : List Loc} {cells slots : Nat} {Z : State} {a0 : Array Value} {h0 : Heap} {n0 : Nat} (i0 : Int32) (s1 : Slot) (s2 : Slot) (s3 : Slot) (s4 : Slot) (s5 : Slot) (s6 : Slot) (s7 : Slot) (s8 : Slot) (s9 : Slot) (o10 : Addr) (s11 : Slot) (s12 : Slot) (s13 : Slot) (s14 : Slot) (s15 : Slot) (s16 : Slot) (s17 : Slot) (s18 : Slot) (s19 : Slot)  (kV : ClassId) (v0 v1 v2 v3 : Value) (cw : Addr) (bcl : Cell) (bval : Int32 → Value)
    (X0 : Stand p l e room_1 s m args below meth c T0 locs cells slots) (hx : p.tables.exec = Jvm.exec) (hZ : Z.Warmed39 s.vm) (hw : ∀ d ∈ tables_1, d.before a0 Z = true) (hby : c.code = code) (hml : c.maxLocals = 20) (hown : s.vm.findClass "com/example/fixpoint/fixpoint/expr/SymbolAttachmentPinLaw" = some m.cls) (e0 : T0.heap = h0) (hc165 : ¬ ((((i0.toUInt32 >>> ((10 : Int32) &&& 31).toUInt32).toInt32) &&& (1 : Int32)) = (0 : Int32))) (Z0 : n0 ≤ h0.size) (N : Fr n0 locs) (g_o10 : n0 ≤ o10) (V : Arv Z h0 o10 kV (.object "java/lang/Object") (4 : Int32) [v0, v1, v2, v3] .null) (OV : Ovr Z kV "java/lang/Object") (O : Old Z n0 h0) (SH : Sta Z Z.heap "java/lang/Integer$IntegerCache" "high" "I" (.int (127 : Int32))) (SC : Sta Z Z.heap "java/lang/Integer$IntegerCache" "cache" "[Ljava/lang/Integer;" (.ref cw)) (B : Bxs Z cw bcl "java/lang/Integer" "I" (256 : Int32) bval) (hcl : cells ≤ 40) (hsl : slots ≤ 120) :
    ∃ (T' : State) (h' : Heap) (locs' : List Loc) (cells' slots' : Nat) (w : Value), Stand p l e room_1 s m args below meth c T' locs' cells' slots' ∧ T'.heap = h' ∧ Fr n0 locs' ∧ cells' ≤ cells + 1 ∧ slots' ≤ slots + 1 ∧ Keep h0 h' [o10] ∧ Rf w ∧ Arv Z h' o10 kV (.object "java/lang/Object") (4 : Int32) ([v0, v1, v2, v3].set 2 w) .null ∧
      ∀ target, Steps p.tables e below (T'.setTop (mkF m 178 #[.val (.int i0), s1, s2, s3, s4, s5, s6, s7, s8, s9, .val (.ref o10), s11, s12, s13, s14, s15, s16, s17, s18, s19] [])) target → Steps p.tables e below (T0.setTop (mkF m 156 #[.val (.int i0), s1, s2, s3, s4, s5, s6, s7, s8, s9, .val (.ref o10), s11, s12, s13, s14, s15, s16, s17, s18, s19] [])) target := by
  have N0 := N
  obtain ⟨cl_o10, Ar_o10, q_o10, S_o10, M_o10, H_o10, G_o10⟩ := V
  have hin177 : ¬ ((2 : Int32) < 0 ∨ cl_o10.slots.size ≤ ((2 : Int32)).toNatClampNeg) := inb_of S_o10 ⟨by decide, by decide⟩
  obtain ⟨T7, h7, X7, e7, W7, st7⟩ := stR X0 hx hZ e0 Ar_o10 (j := (2 : Int32)) hin177 rfl (Or.inl rfl) (g := (mkF m 177 #[.val (.int i0), s1, s2, s3, s4, s5, s6, s7, s8, s9, .val (.ref o10), s11, s12, s13, s14, s15, s16, s17, s18, s19] [.null, (.int (2 : Int32)), (.ref o10)])) rfl rfl (hb hby at_177)
  have VS := Arv.set Ar_o10 q_o10 S_o10 M_o10 H_o10 G_o10 rfl W7 2 rfl (Nat.le_of_ble_eq_true rfl)
  refine ⟨T7, h7, _, cells, slots, .null, X7, e7, Fr.snoc X7 N g_o10, Nat.le_succ _, Nat.le_succ _, Keep.of_wr W7, Or.inl rfl, VS, fun target kt => ?_⟩
  show Steps p.tables e below (T0.setTop (mkF m 156 #[.val (.int i0), s1, s2, s3, s4, s5, s6, s7, s8, s9, .val (.ref o10), s11, s12, s13, s14, s15, s16, s17, s18, s19] [])) _
  refine XS.aload X0.here hx rfl (hb hby at_156) rfl rfl ?_
  show Steps p.tables e below (T0.setTop (mkF m 158 #[.val (.int i0), s1, s2, s3, s4, s5, s6, s7, s8, s9, .val (.ref o10), s11, s12, s13, s14, s15, s16, s17, s18, s19] [(.ref o10)])) _
  refine XS.iconst X0.here hx rfl (hb hby at_158) ?_
  show Steps p.tables e below (T0.setTop (mkF m 159 #[.val (.int i0), s1, s2, s3, s4, s5, s6, s7, s8, s9, .val (.ref o10), s11, s12, s13, s14, s15, s16, s17, s18, s19] [(.int (2 : Int32)), (.ref o10)])) _
  refine XS.iloadN X0.here hx rfl (hb hby at_159) rfl ?_
  show Steps p.tables e below (T0.setTop (mkF m 160 #[.val (.int i0), s1, s2, s3, s4, s5, s6, s7, s8, s9, .val (.ref o10), s11, s12, s13, s14, s15, s16, s17, s18, s19] [(.int i0), (.int (2 : Int32)), (.ref o10)])) _
  refine XS.bipush X0.here hx rfl (hb hby at_160) ?_
  show Steps p.tables e below (T0.setTop (mkF m 162 #[.val (.int i0), s1, s2, s3, s4, s5, s6, s7, s8, s9, .val (.ref o10), s11, s12, s13, s14, s15, s16, s17, s18, s19] [(.int (10 : Int32)), (.int i0), (.int (2 : Int32)), (.ref o10)])) _
  refine XS.iushr X0.here hx rfl (hb hby at_162) rfl ?_
  show Steps p.tables e below (T0.setTop (mkF m 163 #[.val (.int i0), s1, s2, s3, s4, s5, s6, s7, s8, s9, .val (.ref o10), s11, s12, s13, s14, s15, s16, s17, s18, s19] [(.int ((i0.toUInt32 >>> ((10 : Int32) &&& 31).toUInt32).toInt32)), (.int (2 : Int32)), (.ref o10)])) _
  refine XS.iconst X0.here hx rfl (hb hby at_163) ?_
  show Steps p.tables e below (T0.setTop (mkF m 164 #[.val (.int i0), s1, s2, s3, s4, s5, s6, s7, s8, s9, .val (.ref o10), s11, s12, s13, s14, s15, s16, s17, s18, s19] [(.int (1 : Int32)), (.int ((i0.toUInt32 >>> ((10 : Int32) &&& 31).toUInt32).toInt32)), (.int (2 : Int32)), (.ref o10)])) _
  refine XS.iand X0.here hx rfl (hb hby at_164) rfl ?_
  show Steps p.tables e below (T0.setTop (mkF m 165 #[.val (.int i0), s1, s2, s3, s4, s5, s6, s7, s8, s9, .val (.ref o10), s11, s12, s13, s14, s15, s16, s17, s18, s19] [(.int (((i0.toUInt32 >>> ((10 : Int32) &&& 31).toUInt32).toInt32) &&& (1 : Int32))), (.int (2 : Int32)), (.ref o10)])) _
  refine XS.ifNo X0.here hx rfl (hb hby at_165) rfl ((if0 _ _).trans (feq hc165).1) ?_
  show Steps p.tables e below (T0.setTop (mkF m 168 #[.val (.int i0), s1, s2, s3, s4, s5, s6, s7, s8, s9, .val (.ref o10), s11, s12, s13, s14, s15, s16, s17, s18, s19] [(.int (2 : Int32)), (.ref o10)])) _
  refine XS.aconstNull X0.here hx rfl (hb hby at_168) ?_
  show Steps p.tables e below (T0.setTop (mkF m 169 #[.val (.int i0), s1, s2, s3, s4, s5, s6, s7, s8, s9, .val (.ref o10), s11, s12, s13, s14, s15, s16, s17, s18, s19] [.null, (.int (2 : Int32)), (.ref o10)])) _
  refine XS.goto X0.here hx rfl (pc0 := 169) (pc' := 177) rfl (hb hby at_169) (by decide) (by decide) ?_
  show Steps p.tables e below (T0.setTop (mkF m 177 #[.val (.int i0), s1, s2, s3, s4, s5, s6, s7, s8, s9, .val (.ref o10), s11, s12, s13, s14, s15, s16, s17, s18, s19] [.null, (.int (2 : Int32)), (.ref o10)])) _
  refine st7 _ ?_
  exact kt
set_option maxRecDepth 65536 in
set_option maxHeartbeats 40000000 in
theorem own_bv2 {p : Program} {l : Launch} {e : Env} {s : State} {m : MethodId} {args : Array Value} {below : List Frame} {meth : Method} {c : Code} {T0 : State} {locs : List Loc} {cells slots : Nat} {Z : State} {a0 : Array Value} {h0 : Heap} {n0 : Nat} (i0 : Int32) (s1 : Slot) (s2 : Slot) (s3 : Slot) (i4 : Int32) (s5 : Slot) (s6 : Slot) (s7 : Slot) (s8 : Slot) (s9 : Slot) (o10 : Addr) (s11 : Slot) (s12 : Slot) (s13 : Slot) (s14 : Slot) (s15 : Slot) (s16 : Slot) (s17 : Slot) (s18 : Slot) (s19 : Slot)  (kV : ClassId) (v0 v1 v2 v3 : Value) (cw : Addr) (bcl : Cell) (bval : Int32 → Value)
    (X0 : Stand p l e room_1 s m args below meth c T0 locs cells slots) (hx : p.tables.exec = Jvm.exec) (hZ : Z.Warmed39 s.vm) (hw : ∀ d ∈ tables_1, d.before a0 Z = true) (hby : c.code = code) (hml : c.maxLocals = 20) (hown : s.vm.findClass "com/example/fixpoint/fixpoint/expr/SymbolAttachmentPinLaw" = some m.cls) (e0 : T0.heap = h0) (hc165 : (((i0.toUInt32 >>> ((10 : Int32) &&& 31).toUInt32).toInt32) &&& (1 : Int32)) = (0 : Int32)) (Z0 : n0 ≤ h0.size) (N : Fr n0 locs) (g_o10 : n0 ≤ o10) (V : Arv Z h0 o10 kV (.object "java/lang/Object") (4 : Int32) [v0, v1, v2, v3] .null) (OV : Ovr Z kV "java/lang/Object") (O : Old Z n0 h0) (SH : Sta Z Z.heap "java/lang/Integer$IntegerCache" "high" "I" (.int (127 : Int32))) (SC : Sta Z Z.heap "java/lang/Integer$IntegerCache" "cache" "[Ljava/lang/Integer;" (.ref cw)) (B : Bxs Z cw bcl "java/lang/Integer" "I" (256 : Int32) bval) (hcl : cells ≤ 40) (hsl : slots ≤ 120) :
    ∃ (T' : State) (h' : Heap) (locs' : List Loc) (cells' slots' : Nat) (w : Value), Stand p l e room_1 s m args below meth c T' locs' cells' slots' ∧ T'.heap = h' ∧ Fr n0 locs' ∧ cells' ≤ cells + 1 ∧ slots' ≤ slots + 1 ∧ Keep h0 h' [o10] ∧ Rf w ∧ Arv Z h' o10 kV (.object "java/lang/Object") (4 : Int32) ([v0, v1, v2, v3].set 2 w) .null ∧
      ∀ target, Steps p.tables e below (T'.setTop (mkF m 178 #[.val (.int i0), s1, s2, s3, .val (.int i4), s5, s6, s7, s8, s9, .val (.ref o10), s11, s12, s13, s14, s15, s16, s17, s18, s19] [])) target → Steps p.tables e below (T0.setTop (mkF m 156 #[.val (.int i0), s1, s2, s3, .val (.int i4), s5, s6, s7, s8, s9, .val (.ref o10), s11, s12, s13, s14, s15, s16, s17, s18, s19] [])) target := by
  have N0 := N
  obtain ⟨_, _, ⟨T7, L7, k7, n7⟩, -, X7, ⟨Lc7, hQ7, l7, y7, z7⟩, st7⟩ := Jvm.LawKit.callS X0 hx (y := (⟨"java/lang/Integer", "valueOf", "(I)Ljava/lang/Integer;"⟩ : MethodName)) hown (mvT hZ (hw _ (List.mem_of_getElem? (i := 33) rfl))) (mvT hZ (hw _ (List.mem_of_getElem? (i := 34) rfl))) (mvT hZ (hw _ (List.mem_of_getElem? (i := 35) rfl))) (mvT hZ (hw _ (List.mem_of_getElem? (i := 36) rfl))) (by decide) (backOf (W := 2) (own_vof l Z a0 hw i4 cw bcl bval h0 n0 Z0 O SH SC B) hZ (hw _ (List.mem_of_getElem? (i := 36) rfl)) (hw _ (List.mem_of_getElem? (i := 35) rfl)) (by decide) (by decide)) (g := (mkF m 174 #[.val (.int i0), s1, s2, s3, .val (.int i4), s5, s6, s7, s8, s9, .val (.ref o10), s11, s12, s13, s14, s15, s16, s17, s18, s19] [(.int i4), (.int (2 : Int32)), (.ref o10)])) rfl (by rw [hml]; rfl) (argsL := [(.int i4)]) (rest := [(.int (2 : Int32)), (.ref o10)]) (lenOf pd_0_6 rfl) rfl (by show 2 * 0 + _ ≤ _; exact Nat.le_of_eq rfl) (hb hby at_174) (fun _ _ => ⟨rfl, e0, (by show cells + 1 ≤ 56; omega), (by show slots + 1 ≤ 192; omega)⟩)
  dsimp only [Pt.U, Pt.locs, Pt.cells, Pt.slots] at X7 l7 y7 z7 st7 hQ7
  subst l7 y7 z7
  obtain ⟨rr, rfl, N7q, K7, E7i⟩ := hQ7
  have N7 := Fr.app N0 N7q
  obtain ⟨cl_o10, Ar_o10, q_o10, S_o10, M_o10, H_o10, G_o10⟩ := V.keep K7 (fun q => nomatch q)
  have hin177 : ¬ ((2 : Int32) < 0 ∨ cl_o10.slots.size ≤ ((2 : Int32)).toNatClampNeg) := inb_of S_o10 ⟨by decide, by decide⟩
  have Sto177 : Sto Z T7.heap o10 (.ref rr) := Sto.ofV Ar_o10 q_o10 OV (Ins.of_exa E7i (hw _ (List.mem_of_getElem? (i := 40) rfl)))
  obtain ⟨T8, h8, X8, e8, W8, st8⟩ := stR X7 hx hZ rfl Ar_o10 (j := (2 : Int32)) hin177 rfl Sto177 (g := (mkF m 177 #[.val (.int i0), s1, s2, s3, .val (.int i4), s5, s6, s7, s8, s9, .val (.ref o10), s11, s12, s13, s14, s15, s16, s17, s18, s19] [(.ref rr), (.int (2 : Int32)), (.ref o10)])) rfl rfl (hb hby at_177)
  have N8 := Fr.snoc X8 N7 g_o10
  have VS := Arv.set Ar_o10 q_o10 S_o10 M_o10 H_o10 G_o10 rfl W8 2 rfl (Nat.le_of_ble_eq_true rfl)
  refine ⟨T8, h8, _, _, _, .ref rr, X8, e8, Fr.snoc X8 N7 g_o10, Nat.le_refl _, Nat.le_refl _, (own_keep_sub K7 (fun x q => nomatch q)).trans (Keep.of_wr W8) (fun x q => Or.inl q), Or.inr ⟨rr, rfl⟩, VS, fun target kt => ?_⟩
  show Steps p.tables e below (T0.setTop (mkF m 156 #[.val (.int i0), s1, s2, s3, .val (.int i4), s5, s6, s7, s8, s9, .val (.ref o10), s11, s12, s13, s14, s15, s16, s17, s18, s19] [])) _
  refine XS.aload X0.here hx rfl (hb hby at_156) rfl rfl ?_
  show Steps p.tables e below (T0.setTop (mkF m 158 #[.val (.int i0), s1, s2, s3, .val (.int i4), s5, s6, s7, s8, s9, .val (.ref o10), s11, s12, s13, s14, s15, s16, s17, s18, s19] [(.ref o10)])) _
  refine XS.iconst X0.here hx rfl (hb hby at_158) ?_
  show Steps p.tables e below (T0.setTop (mkF m 159 #[.val (.int i0), s1, s2, s3, .val (.int i4), s5, s6, s7, s8, s9, .val (.ref o10), s11, s12, s13, s14, s15, s16, s17, s18, s19] [(.int (2 : Int32)), (.ref o10)])) _
  refine XS.iloadN X0.here hx rfl (hb hby at_159) rfl ?_
  show Steps p.tables e below (T0.setTop (mkF m 160 #[.val (.int i0), s1, s2, s3, .val (.int i4), s5, s6, s7, s8, s9, .val (.ref o10), s11, s12, s13, s14, s15, s16, s17, s18, s19] [(.int i0), (.int (2 : Int32)), (.ref o10)])) _
  refine XS.bipush X0.here hx rfl (hb hby at_160) ?_
  show Steps p.tables e below (T0.setTop (mkF m 162 #[.val (.int i0), s1, s2, s3, .val (.int i4), s5, s6, s7, s8, s9, .val (.ref o10), s11, s12, s13, s14, s15, s16, s17, s18, s19] [(.int (10 : Int32)), (.int i0), (.int (2 : Int32)), (.ref o10)])) _
  refine XS.iushr X0.here hx rfl (hb hby at_162) rfl ?_
  show Steps p.tables e below (T0.setTop (mkF m 163 #[.val (.int i0), s1, s2, s3, .val (.int i4), s5, s6, s7, s8, s9, .val (.ref o10), s11, s12, s13, s14, s15, s16, s17, s18, s19] [(.int ((i0.toUInt32 >>> ((10 : Int32) &&& 31).toUInt32).toInt32)), (.int (2 : Int32)), (.ref o10)])) _
  refine XS.iconst X0.here hx rfl (hb hby at_163) ?_
  show Steps p.tables e below (T0.setTop (mkF m 164 #[.val (.int i0), s1, s2, s3, .val (.int i4), s5, s6, s7, s8, s9, .val (.ref o10), s11, s12, s13, s14, s15, s16, s17, s18, s19] [(.int (1 : Int32)), (.int ((i0.toUInt32 >>> ((10 : Int32) &&& 31).toUInt32).toInt32)), (.int (2 : Int32)), (.ref o10)])) _
  refine XS.iand X0.here hx rfl (hb hby at_164) rfl ?_
  show Steps p.tables e below (T0.setTop (mkF m 165 #[.val (.int i0), s1, s2, s3, .val (.int i4), s5, s6, s7, s8, s9, .val (.ref o10), s11, s12, s13, s14, s15, s16, s17, s18, s19] [(.int (((i0.toUInt32 >>> ((10 : Int32) &&& 31).toUInt32).toInt32) &&& (1 : Int32))), (.int (2 : Int32)), (.ref o10)])) _
  refine XS.ifYes X0.here hx rfl (pc0 := 165) (pc' := 172) rfl (hb hby at_165) rfl ((if0 _ _).trans (teq hc165).1) (by decide) (by decide) ?_
  show Steps p.tables e below (T0.setTop (mkF m 172 #[.val (.int i0), s1, s2, s3, .val (.int i4), s5, s6, s7, s8, s9, .val (.ref o10), s11, s12, s13, s14, s15, s16, s17, s18, s19] [(.int (2 : Int32)), (.ref o10)])) _
  refine XS.iload X0.here hx rfl (hb hby at_172) rfl ?_
  show Steps p.tables e below (T0.setTop (mkF m 174 #[.val (.int i0), s1, s2, s3, .val (.int i4), s5, s6, s7, s8, s9, .val (.ref o10), s11, s12, s13, s14, s15, s16, s17, s18, s19] [(.int i4), (.int (2 : Int32)), (.ref o10)])) _
  refine st7 _ ?_
  show Steps p.tables e below (T7.setTop (mkF m 177 #[.val (.int i0), s1, s2, s3, .val (.int i4), s5, s6, s7, s8, s9, .val (.ref o10), s11, s12, s13, s14, s15, s16, s17, s18, s19] [(.ref rr), (.int (2 : Int32)), (.ref o10)])) _
  refine st8 _ ?_
  exact kt
set_option maxRecDepth 65536 in
set_option maxHeartbeats 40000000 in
theorem own_bn3 {p : Program} {l : Launch} {e : Env} {s : State} {m : MethodId} {args : Array Value} {below : List Frame} {meth : Method} {c : Code} {T0 : State} {locs : List Loc} {cells slots : Nat} {Z : State} {a0 : Array Value} {h0 : Heap} {n0 : Nat} (i0 : Int32) (s1 : Slot) (s2 : Slot) (s3 : Slot) (s4 : Slot) (s5 : Slot) (s6 : Slot) (s7 : Slot) (s8 : Slot) (s9 : Slot) (o10 : Addr) (s11 : Slot) (s12 : Slot) (s13 : Slot) (s14 : Slot) (s15 : Slot) (s16 : Slot) (s17 : Slot) (s18 : Slot) (s19 : Slot)  (kV : ClassId) (v0 v1 v2 v3 : Value) (cw : Addr) (bcl : Cell) (bval : Int32 → Value)
    (X0 : Stand p l e room_1 s m args below meth c T0 locs cells slots) (hx : p.tables.exec = Jvm.exec) (hZ : Z.Warmed39 s.vm) (hw : ∀ d ∈ tables_1, d.before a0 Z = true) (hby : c.code = code) (hml : c.maxLocals = 20) (hown : s.vm.findClass "com/example/fixpoint/fixpoint/expr/SymbolAttachmentPinLaw" = some m.cls) (e0 : T0.heap = h0) (hc187 : ¬ ((((i0.toUInt32 >>> ((11 : Int32) &&& 31).toUInt32).toInt32) &&& (1 : Int32)) = (0 : Int32))) (Z0 : n0 ≤ h0.size) (N : Fr n0 locs) (g_o10 : n0 ≤ o10) (V : Arv Z h0 o10 kV (.object "java/lang/Object") (4 : Int32) [v0, v1, v2, v3] .null) (OV : Ovr Z kV "java/lang/Object") (O : Old Z n0 h0) (SH : Sta Z Z.heap "java/lang/Integer$IntegerCache" "high" "I" (.int (127 : Int32))) (SC : Sta Z Z.heap "java/lang/Integer$IntegerCache" "cache" "[Ljava/lang/Integer;" (.ref cw)) (B : Bxs Z cw bcl "java/lang/Integer" "I" (256 : Int32) bval) (hcl : cells ≤ 40) (hsl : slots ≤ 120) :
    ∃ (T' : State) (h' : Heap) (locs' : List Loc) (cells' slots' : Nat) (w : Value), Stand p l e room_1 s m args below meth c T' locs' cells' slots' ∧ T'.heap = h' ∧ Fr n0 locs' ∧ cells' ≤ cells + 1 ∧ slots' ≤ slots + 1 ∧ Keep h0 h' [o10] ∧ Rf w ∧ Arv Z h' o10 kV (.object "java/lang/Object") (4 : Int32) ([v0, v1, v2, v3].set 3 w) .null ∧
      ∀ target, Steps p.tables e below (T'.setTop (mkF m 200 #[.val (.int i0), s1, s2, s3, s4, s5, s6, s7, s8, s9, .val (.ref o10), s11, s12, s13, s14, s15, s16, s17, s18, s19] [])) target → Steps p.tables e below (T0.setTop (mkF m 178 #[.val (.int i0), s1, s2, s3, s4, s5, s6, s7, s8, s9, .val (.ref o10), s11, s12, s13, s14, s15, s16, s17, s18, s19] [])) target := by
  have N0 := N
  obtain ⟨cl_o10, Ar_o10, q_o10, S_o10, M_o10, H_o10, G_o10⟩ := V
  have hin199 : ¬ ((3 : Int32) < 0 ∨ cl_o10.slots.size ≤ ((3 : Int32)).toNatClampNeg) := inb_of S_o10 ⟨by decide, by decide⟩
  obtain ⟨T7, h7, X7, e7, W7, st7⟩ := stR X0 hx hZ e0 Ar_o10 (j := (3 : Int32)) hin199 rfl (Or.inl rfl) (g := (mkF m 199 #[.val (.int i0), s1, s2, s3, s4, s5, s6, s7, s8, s9, .val (.ref o10), s11, s12, s13, s14, s15, s16, s17, s18, s19] [.null, (.int (3 : Int32)), (.ref o10)])) rfl rfl (hb hby at_199)
  have VS := Arv.set Ar_o10 q_o10 S_o10 M_o10 H_o10 G_o10 rfl W7 3 rfl (Nat.le_of_ble_eq_true rfl)
  refine ⟨T7, h7, _, cells, slots, .null, X7, e7, Fr.snoc X7 N g_o10, Nat.le_succ _, Nat.le_succ _, Keep.of_wr W7, Or.inl rfl, VS, fun target kt => ?_⟩
  show Steps p.tables e below (T0.setTop (mkF m 178 #[.val (.int i0), s1, s2, s3, s4, s5, s6, s7, s8, s9, .val (.ref o10), s11, s12, s13, s14, s15, s16, s17, s18, s19] [])) _
  refine XS.aload X0.here hx rfl (hb hby at_178) rfl rfl ?_
  show Steps p.tables e below (T0.setTop (mkF m 180 #[.val (.int i0), s1, s2, s3, s4, s5, s6, s7, s8, s9, .val (.ref o10), s11, s12, s13, s14, s15, s16, s17, s18, s19] [(.ref o10)])) _
  refine XS.iconst X0.here hx rfl (hb hby at_180) ?_
  show Steps p.tables e below (T0.setTop (mkF m 181 #[.val (.int i0), s1, s2, s3, s4, s5, s6, s7, s8, s9, .val (.ref o10), s11, s12, s13, s14, s15, s16, s17, s18, s19] [(.int (3 : Int32)), (.ref o10)])) _
  refine XS.iloadN X0.here hx rfl (hb hby at_181) rfl ?_
  show Steps p.tables e below (T0.setTop (mkF m 182 #[.val (.int i0), s1, s2, s3, s4, s5, s6, s7, s8, s9, .val (.ref o10), s11, s12, s13, s14, s15, s16, s17, s18, s19] [(.int i0), (.int (3 : Int32)), (.ref o10)])) _
  refine XS.bipush X0.here hx rfl (hb hby at_182) ?_
  show Steps p.tables e below (T0.setTop (mkF m 184 #[.val (.int i0), s1, s2, s3, s4, s5, s6, s7, s8, s9, .val (.ref o10), s11, s12, s13, s14, s15, s16, s17, s18, s19] [(.int (11 : Int32)), (.int i0), (.int (3 : Int32)), (.ref o10)])) _
  refine XS.iushr X0.here hx rfl (hb hby at_184) rfl ?_
  show Steps p.tables e below (T0.setTop (mkF m 185 #[.val (.int i0), s1, s2, s3, s4, s5, s6, s7, s8, s9, .val (.ref o10), s11, s12, s13, s14, s15, s16, s17, s18, s19] [(.int ((i0.toUInt32 >>> ((11 : Int32) &&& 31).toUInt32).toInt32)), (.int (3 : Int32)), (.ref o10)])) _
  refine XS.iconst X0.here hx rfl (hb hby at_185) ?_
  show Steps p.tables e below (T0.setTop (mkF m 186 #[.val (.int i0), s1, s2, s3, s4, s5, s6, s7, s8, s9, .val (.ref o10), s11, s12, s13, s14, s15, s16, s17, s18, s19] [(.int (1 : Int32)), (.int ((i0.toUInt32 >>> ((11 : Int32) &&& 31).toUInt32).toInt32)), (.int (3 : Int32)), (.ref o10)])) _
  refine XS.iand X0.here hx rfl (hb hby at_186) rfl ?_
  show Steps p.tables e below (T0.setTop (mkF m 187 #[.val (.int i0), s1, s2, s3, s4, s5, s6, s7, s8, s9, .val (.ref o10), s11, s12, s13, s14, s15, s16, s17, s18, s19] [(.int (((i0.toUInt32 >>> ((11 : Int32) &&& 31).toUInt32).toInt32) &&& (1 : Int32))), (.int (3 : Int32)), (.ref o10)])) _
  refine XS.ifNo X0.here hx rfl (hb hby at_187) rfl ((if0 _ _).trans (feq hc187).1) ?_
  show Steps p.tables e below (T0.setTop (mkF m 190 #[.val (.int i0), s1, s2, s3, s4, s5, s6, s7, s8, s9, .val (.ref o10), s11, s12, s13, s14, s15, s16, s17, s18, s19] [(.int (3 : Int32)), (.ref o10)])) _
  refine XS.aconstNull X0.here hx rfl (hb hby at_190) ?_
  show Steps p.tables e below (T0.setTop (mkF m 191 #[.val (.int i0), s1, s2, s3, s4, s5, s6, s7, s8, s9, .val (.ref o10), s11, s12, s13, s14, s15, s16, s17, s18, s19] [.null, (.int (3 : Int32)), (.ref o10)])) _
  refine XS.goto X0.here hx rfl (pc0 := 191) (pc' := 199) rfl (hb hby at_191) (by decide) (by decide) ?_
  show Steps p.tables e below (T0.setTop (mkF m 199 #[.val (.int i0), s1, s2, s3, s4, s5, s6, s7, s8, s9, .val (.ref o10), s11, s12, s13, s14, s15, s16, s17, s18, s19] [.null, (.int (3 : Int32)), (.ref o10)])) _
  refine st7 _ ?_
  exact kt
set_option maxRecDepth 65536 in
set_option maxHeartbeats 40000000 in
theorem own_bv3 {p : Program} {l : Launch} {e : Env} {s : State} {m : MethodId} {args : Array Value} {below : List Frame} {meth : Method} {c : Code} {T0 : State} {locs : List Loc} {cells slots : Nat} {Z : State} {a0 : Array Value} {h0 : Heap} {n0 : Nat} (i0 : Int32) (s1 : Slot) (s2 : Slot) (s3 : Slot) (s4 : Slot) (i5 : Int32) (s6 : Slot) (s7 : Slot) (s8 : Slot) (s9 : Slot) (o10 : Addr) (s11 : Slot) (s12 : Slot) (s13 : Slot) (s14 : Slot) (s15 : Slot) (s16 : Slot) (s17 : Slot) (s18 : Slot) (s19 : Slot)  (kV : ClassId) (v0 v1 v2 v3 : Value) (cw : Addr) (bcl : Cell) (bval : Int32 → Value)
    (X0 : Stand p l e room_1 s m args below meth c T0 locs cells slots) (hx : p.tables.exec = Jvm.exec) (hZ : Z.Warmed39 s.vm) (hw : ∀ d ∈ tables_1, d.before a0 Z = true) (hby : c.code = code) (hml : c.maxLocals = 20) (hown : s.vm.findClass "com/example/fixpoint/fixpoint/expr/SymbolAttachmentPinLaw" = some m.cls) (e0 : T0.heap = h0) (hc187 : (((i0.toUInt32 >>> ((11 : Int32) &&& 31).toUInt32).toInt32) &&& (1 : Int32)) = (0 : Int32)) (Z0 : n0 ≤ h0.size) (N : Fr n0 locs) (g_o10 : n0 ≤ o10) (V : Arv Z h0 o10 kV (.object "java/lang/Object") (4 : Int32) [v0, v1, v2, v3] .null) (OV : Ovr Z kV "java/lang/Object") (O : Old Z n0 h0) (SH : Sta Z Z.heap "java/lang/Integer$IntegerCache" "high" "I" (.int (127 : Int32))) (SC : Sta Z Z.heap "java/lang/Integer$IntegerCache" "cache" "[Ljava/lang/Integer;" (.ref cw)) (B : Bxs Z cw bcl "java/lang/Integer" "I" (256 : Int32) bval) (hcl : cells ≤ 40) (hsl : slots ≤ 120) :
    ∃ (T' : State) (h' : Heap) (locs' : List Loc) (cells' slots' : Nat) (w : Value), Stand p l e room_1 s m args below meth c T' locs' cells' slots' ∧ T'.heap = h' ∧ Fr n0 locs' ∧ cells' ≤ cells + 1 ∧ slots' ≤ slots + 1 ∧ Keep h0 h' [o10] ∧ Rf w ∧ Arv Z h' o10 kV (.object "java/lang/Object") (4 : Int32) ([v0, v1, v2, v3].set 3 w) .null ∧
      ∀ target, Steps p.tables e below (T'.setTop (mkF m 200 #[.val (.int i0), s1, s2, s3, s4, .val (.int i5), s6, s7, s8, s9, .val (.ref o10), s11, s12, s13, s14, s15, s16, s17, s18, s19] [])) target → Steps p.tables e below (T0.setTop (mkF m 178 #[.val (.int i0), s1, s2, s3, s4, .val (.int i5), s6, s7, s8, s9, .val (.ref o10), s11, s12, s13, s14, s15, s16, s17, s18, s19] [])) target := by
  have N0 := N
  obtain ⟨_, _, ⟨T7, L7, k7, n7⟩, -, X7, ⟨Lc7, hQ7, l7, y7, z7⟩, st7⟩ := Jvm.LawKit.callS X0 hx (y := (⟨"java/lang/Integer", "valueOf", "(I)Ljava/lang/Integer;"⟩ : MethodName)) hown (mvT hZ (hw _ (List.mem_of_getElem? (i := 33) rfl))) (mvT hZ (hw _ (List.mem_of_getElem? (i := 34) rfl))) (mvT hZ (hw _ (List.mem_of_getElem? (i := 35) rfl))) (mvT hZ (hw _ (List.mem_of_getElem? (i := 36) rfl))) (by decide) (backOf (W := 2) (own_vof l Z a0 hw i5 cw bcl bval h0 n0 Z0 O SH SC B) hZ (hw _ (List.mem_of_getElem? (i := 36) rfl)) (hw _ (List.mem_of_getElem? (i := 35) rfl)) (by decide) (by decide)) (g := (mkF m 196 #[.val (.int i0), s1, s2, s3, s4, .val (.int i5), s6, s7, s8, s9, .val (.ref o10), s11, s12, s13, s14, s15, s16, s17, s18, s19] [(.int i5), (.int (3 : Int32)), (.ref o10)])) rfl (by rw [hml]; rfl) (argsL := [(.int i5)]) (rest := [(.int (3 : Int32)), (.ref o10)]) (lenOf pd_0_6 rfl) rfl (by show 2 * 0 + _ ≤ _; exact Nat.le_of_eq rfl) (hb hby at_196) (fun _ _ => ⟨rfl, e0, (by show cells + 1 ≤ 56; omega), (by show slots + 1 ≤ 192; omega)⟩)
  dsimp only [Pt.U, Pt.locs, Pt.cells, Pt.slots] at X7 l7 y7 z7 st7 hQ7
  subst l7 y7 z7
  obtain ⟨rr, rfl, N7q, K7, E7i⟩ := hQ7
  have N7 := Fr.app N0 N7q
  obtain ⟨cl_o10, Ar_o10, q_o10, S_o10, M_o10, H_o10, G_o10⟩ := V.keep K7 (fun q => nomatch q)
  have hin199 : ¬ ((3 : Int32) < 0 ∨ cl_o10.slots.size ≤ ((3 : Int32)).toNatClampNeg) := inb_of S_o10 ⟨by decide, by decide⟩
  have Sto199 : Sto Z T7.heap o10 (.ref rr) := Sto.ofV Ar_o10 q_o10 OV (Ins.of_exa E7i (hw _ (List.mem_of_getElem? (i := 40) rfl)))
  obtain ⟨T8, h8, X8, e8, W8, st8⟩ := stR X7 hx hZ rfl Ar_o10 (j := (3 : Int32)) hin199 rfl Sto199 (g := (mkF m 199 #[.val (.int i0), s1, s2, s3, s4, .val (.int i5), s6, s7, s8, s9, .val (.ref o10), s11, s12, s13, s14, s15, s16, s17, s18, s19] [(.ref rr), (.int (3 : Int32)), (.ref o10)])) rfl rfl (hb hby at_199)
  have N8 := Fr.snoc X8 N7 g_o10
  have VS := Arv.set Ar_o10 q_o10 S_o10 M_o10 H_o10 G_o10 rfl W8 3 rfl (Nat.le_of_ble_eq_true rfl)
  refine ⟨T8, h8, _, _, _, .ref rr, X8, e8, Fr.snoc X8 N7 g_o10, Nat.le_refl _, Nat.le_refl _, (own_keep_sub K7 (fun x q => nomatch q)).trans (Keep.of_wr W8) (fun x q => Or.inl q), Or.inr ⟨rr, rfl⟩, VS, fun target kt => ?_⟩
  show Steps p.tables e below (T0.setTop (mkF m 178 #[.val (.int i0), s1, s2, s3, s4, .val (.int i5), s6, s7, s8, s9, .val (.ref o10), s11, s12, s13, s14, s15, s16, s17, s18, s19] [])) _
  refine XS.aload X0.here hx rfl (hb hby at_178) rfl rfl ?_
  show Steps p.tables e below (T0.setTop (mkF m 180 #[.val (.int i0), s1, s2, s3, s4, .val (.int i5), s6, s7, s8, s9, .val (.ref o10), s11, s12, s13, s14, s15, s16, s17, s18, s19] [(.ref o10)])) _
  refine XS.iconst X0.here hx rfl (hb hby at_180) ?_
  show Steps p.tables e below (T0.setTop (mkF m 181 #[.val (.int i0), s1, s2, s3, s4, .val (.int i5), s6, s7, s8, s9, .val (.ref o10), s11, s12, s13, s14, s15, s16, s17, s18, s19] [(.int (3 : Int32)), (.ref o10)])) _
  refine XS.iloadN X0.here hx rfl (hb hby at_181) rfl ?_
  show Steps p.tables e below (T0.setTop (mkF m 182 #[.val (.int i0), s1, s2, s3, s4, .val (.int i5), s6, s7, s8, s9, .val (.ref o10), s11, s12, s13, s14, s15, s16, s17, s18, s19] [(.int i0), (.int (3 : Int32)), (.ref o10)])) _
  refine XS.bipush X0.here hx rfl (hb hby at_182) ?_
  show Steps p.tables e below (T0.setTop (mkF m 184 #[.val (.int i0), s1, s2, s3, s4, .val (.int i5), s6, s7, s8, s9, .val (.ref o10), s11, s12, s13, s14, s15, s16, s17, s18, s19] [(.int (11 : Int32)), (.int i0), (.int (3 : Int32)), (.ref o10)])) _
  refine XS.iushr X0.here hx rfl (hb hby at_184) rfl ?_
  show Steps p.tables e below (T0.setTop (mkF m 185 #[.val (.int i0), s1, s2, s3, s4, .val (.int i5), s6, s7, s8, s9, .val (.ref o10), s11, s12, s13, s14, s15, s16, s17, s18, s19] [(.int ((i0.toUInt32 >>> ((11 : Int32) &&& 31).toUInt32).toInt32)), (.int (3 : Int32)), (.ref o10)])) _
  refine XS.iconst X0.here hx rfl (hb hby at_185) ?_
  show Steps p.tables e below (T0.setTop (mkF m 186 #[.val (.int i0), s1, s2, s3, s4, .val (.int i5), s6, s7, s8, s9, .val (.ref o10), s11, s12, s13, s14, s15, s16, s17, s18, s19] [(.int (1 : Int32)), (.int ((i0.toUInt32 >>> ((11 : Int32) &&& 31).toUInt32).toInt32)), (.int (3 : Int32)), (.ref o10)])) _
  refine XS.iand X0.here hx rfl (hb hby at_186) rfl ?_
  show Steps p.tables e below (T0.setTop (mkF m 187 #[.val (.int i0), s1, s2, s3, s4, .val (.int i5), s6, s7, s8, s9, .val (.ref o10), s11, s12, s13, s14, s15, s16, s17, s18, s19] [(.int (((i0.toUInt32 >>> ((11 : Int32) &&& 31).toUInt32).toInt32) &&& (1 : Int32))), (.int (3 : Int32)), (.ref o10)])) _
  refine XS.ifYes X0.here hx rfl (pc0 := 187) (pc' := 194) rfl (hb hby at_187) rfl ((if0 _ _).trans (teq hc187).1) (by decide) (by decide) ?_
  show Steps p.tables e below (T0.setTop (mkF m 194 #[.val (.int i0), s1, s2, s3, s4, .val (.int i5), s6, s7, s8, s9, .val (.ref o10), s11, s12, s13, s14, s15, s16, s17, s18, s19] [(.int (3 : Int32)), (.ref o10)])) _
  refine XS.iload X0.here hx rfl (hb hby at_194) rfl ?_
  show Steps p.tables e below (T0.setTop (mkF m 196 #[.val (.int i0), s1, s2, s3, s4, .val (.int i5), s6, s7, s8, s9, .val (.ref o10), s11, s12, s13, s14, s15, s16, s17, s18, s19] [(.int i5), (.int (3 : Int32)), (.ref o10)])) _
  refine st7 _ ?_
  show Steps p.tables e below (T7.setTop (mkF m 199 #[.val (.int i0), s1, s2, s3, s4, .val (.int i5), s6, s7, s8, s9, .val (.ref o10), s11, s12, s13, s14, s15, s16, s17, s18, s19] [(.ref rr), (.int (3 : Int32)), (.ref o10)])) _
  refine st8 _ ?_
  exact kt
theorem own_hash (l : Launch) (Z : State) (a0 : Array Value) (hw : ∀ d ∈ tables_1, d.before a0 Z = true) (a t : Addr) (kb : ClassId) (b0 b1 z : Int32) (h0 : Heap) (n0 : Nat) (Z0 : n0 ≤ h0.size) (E : Exa Z h0 a "java/lang/String") (FH : Fld Z h0 a "java/lang/String" "hash" "I" (.int (0 : Int32))) (FZ : Fld Z h0 a "java/lang/String" "hashIsZero" "Z" (.int (0 : Int32))) (FV : Fld Z h0 a "java/lang/String" "value" "[B" (.ref t)) (FC : Fld Z h0 a "java/lang/String" "coder" "B" (.int (0 : Int32))) (S : Sta Z h0 "java/lang/String" "COMPACT_STRINGS" "Z" (.int z)) (hz : ¬ z = 0) (V : Arv Z h0 t kb .byte (2 : Int32) [.int b0, .int b1] (.int 0)) (fb : Z.vm.findClass "[B" = some kb) (g : n0 ≤ a) :
    MetFree l (⟨"java/lang/String", "hashCode", "()I"⟩ : MethodName) (head1 [Jvm.Cond.code (⟨"java/lang/String", "hashCode", "()I"⟩ : MethodName) jdk_42_method_78_code 2 (some .int)] ({ frames := 3, cells := 0, slots := 0, locals := 45 } : Room)) (fun a' U => a' = #[(.ref a)] ∧ Z.Warmed39 U.vm ∧ U.heap = h0) (fun _ _ _ _ _ => True) (fun _ U o U' => ∃ v L, o = .returned v ∧ QK (some (.int (own_h b0 b1))) [a] h0 n0 v U'.heap L ∧ FrameEnd U o U' L ({ frames := 3, cells := 0, slots := 0, locals := 45 } : Room).cells ({ frames := 3, cells := 0, slots := 0, locals := 45 } : Room).slots) := by
  have c13 := rm13 l Z a0 hw [] t kb b0 b1 h0 n0 Z0 V
  obtain ⟨cl, Ar, q, SS, M, H, G⟩ := V
  have I : Ins Z h0 t "[B" true := ⟨cl, kb, Ar.1, fb, by rw [q, Vm.assignable_self]; simp [Ar.plain]⟩
  have c12 := rm12 l Z a0 hw [] t b0 b1 h0 n0 Z0 I c13
  have c11 := rm11 l Z a0 hw [] t cl b0 b1 h0 n0 Z0 Ar SS M c12
  have c10 := rm10 l Z a0 hw [] a z 0 h0 n0 Z0 S FC hz rfl
  by_cases hr : own_h b0 b1 = 0
  · exact rm9_z l Z a0 hw [] a 0 0 t (own_h b0 b1) h0 n0 Z0 FH FZ c10 E FV c11 g rfl rfl hr
  · exact rm9_n l Z a0 hw [] a 0 0 t (own_h b0 b1) h0 n0 Z0 FH FZ c10 E FV c11 g rfl rfl hr
theorem pd_0_7 : parseMethodDescriptor "(Ljava/lang/String;Z)V" = some ⟨[(.object "java/lang/String"), .boolean], none⟩ := by decide +kernel
theorem os0_203 {z0 : Value} {s1 : Slot} {s2 : Slot} {s3 : Slot} {s4 : Slot} {s5 : Slot} {s6 : Slot} {z7 : Value} {s8 : Slot} {s9 : Slot} {s10 : Slot} {s11 : Slot} {s12 : Slot} {s13 : Slot} {s14 : Slot} {s15 : Slot} {s16 : Slot} {s17 : Slot} {s18 : Slot} {s19 : Slot} {v : Int32} (h : One s11) : storeLocals #[.val z0, s1, s2, s3, s4, s5, s6, .val z7, s8, s9, s10, s11, s12, s13, s14, s15, s16, s17, s18, s19] 11 (.int v) = some #[.val z0, s1, s2, s3, s4, s5, s6, .val z7, s8, s9, s10, .val (.int v), s12, s13, s14, s15, s16, s17, s18, s19] := by
  rcases h with rfl | ⟨w, rfl, hw⟩
  · rfl
  · cases w <;> first | rfl | (simp [Value.category] at hw)
theorem os0_210 {z0 : Value} {s1 : Slot} {s2 : Slot} {s3 : Slot} {s4 : Slot} {s5 : Slot} {s6 : Slot} {z7 : Value} {s8 : Slot} {s9 : Slot} {s10 : Slot} {z11 : Value} {s12 : Slot} {s13 : Slot} {s14 : Slot} {s15 : Slot} {s16 : Slot} {s17 : Slot} {s18 : Slot} {s19 : Slot} {v : Int32} (h : One s12) : storeLocals #[.val z0, s1, s2, s3, s4, s5, s6, .val z7, s8, s9, s10, .val z11, s12, s13, s14, s15, s16, s17, s18, s19] 12 (.int v) = some #[.val z0, s1, s2, s3, s4, s5, s6, .val z7, s8, s9, s10, .val z11, .val (.int v), s13, s14, s15, s16, s17, s18, s19] := by
  rcases h with rfl | ⟨w, rfl, hw⟩
  · rfl
  · cases w <;> first | rfl | (simp [Value.category] at hw)
theorem os0_217 {z0 : Value} {s1 : Slot} {s2 : Slot} {s3 : Slot} {s4 : Slot} {s5 : Slot} {s6 : Slot} {z7 : Value} {s8 : Slot} {s9 : Slot} {s10 : Slot} {z11 : Value} {z12 : Value} {s13 : Slot} {s14 : Slot} {s15 : Slot} {s16 : Slot} {s17 : Slot} {s18 : Slot} {s19 : Slot} {v : Int32} (h : One s13) : storeLocals #[.val z0, s1, s2, s3, s4, s5, s6, .val z7, s8, s9, s10, .val z11, .val z12, s13, s14, s15, s16, s17, s18, s19] 13 (.int v) = some #[.val z0, s1, s2, s3, s4, s5, s6, .val z7, s8, s9, s10, .val z11, .val z12, .val (.int v), s14, s15, s16, s17, s18, s19] := by
  rcases h with rfl | ⟨w, rfl, hw⟩
  · rfl
  · cases w <;> first | rfl | (simp [Value.category] at hw)
theorem os0_225 {z0 : Value} {s1 : Slot} {s2 : Slot} {s3 : Slot} {s4 : Slot} {s5 : Slot} {s6 : Slot} {z7 : Value} {s8 : Slot} {s9 : Slot} {s10 : Slot} {z11 : Value} {z12 : Value} {z13 : Value} {s14 : Slot} {s15 : Slot} {s16 : Slot} {s17 : Slot} {s18 : Slot} {s19 : Slot} {v : Int32} (h : One s14) : storeLocals #[.val z0, s1, s2, s3, s4, s5, s6, .val z7, s8, s9, s10, .val z11, .val z12, .val z13, s14, s15, s16, s17, s18, s19] 14 (.int v) = some #[.val z0, s1, s2, s3, s4, s5, s6, .val z7, s8, s9, s10, .val z11, .val z12, .val z13, .val (.int v), s15, s16, s17, s18, s19] := by
  rcases h with rfl | ⟨w, rfl, hw⟩
  · rfl
  · cases w <;> first | rfl | (simp [Value.category] at hw)
theorem os0_257 {z0 : Value} {s1 : Slot} {s2 : Slot} {s3 : Slot} {s4 : Slot} {s5 : Slot} {s6 : Slot} {z7 : Value} {s8 : Slot} {s9 : Slot} {s10 : Slot} {z11 : Value} {z12 : Value} {z13 : Value} {z14 : Value} {s15 : Slot} {s16 : Slot} {s17 : Slot} {s18 : Slot} {s19 : Slot} {v : Addr} (h : One s15) : storeLocals #[.val z0, s1, s2, s3, s4, s5, s6, .val z7, s8, s9, s10, .val z11, .val z12, .val z13, .val z14, s15, s16, s17, s18, s19] 15 (.ref v) = some #[.val z0, s1, s2, s3, s4, s5, s6, .val z7, s8, s9, s10, .val z11, .val z12, .val z13, .val z14, .val (.ref v), s16, s17, s18, s19] := by
  rcases h with rfl | ⟨w, rfl, hw⟩
  · rfl
  · cases w <;> first | rfl | (simp [Value.category] at hw)
set_option maxRecDepth 65536 in
set_option maxHeartbeats 40000000 in
theorem own_c1 {p : Program} {l : Launch} {e : Env} {s : State} {m : MethodId} {args : Array Value} {below : List Frame} {meth : Method} {c : Code} {T0 : State} {locs : List Loc} {cells slots : Nat} {Z : State} {a0 : Array Value} {h0 : Heap} {n0 : Nat} (i0 : Int32) (s1 : Slot) (s2 : Slot) (s3 : Slot) (s4 : Slot) (s5 : Slot) (s6 : Slot) (o7 : Addr) (s8 : Slot) (s9 : Slot) (s10 : Slot) (s11 : Slot) (s12 : Slot) (s13 : Slot) (s14 : Slot) (s15 : Slot) (s16 : Slot) (s17 : Slot) (s18 : Slot) (s19 : Slot) (z : Int32) (kD : ClassId) (c0 c1 : Int32)
    (X0 : Stand p l e room_1 s m args below meth c T0 locs cells slots) (hx : p.tables.exec = Jvm.exec) (hZ : Z.Warmed39 s.vm) (hw : ∀ d ∈ tables_1, d.before a0 Z = true) (hby : c.code = code) (hml : c.maxLocals = 20) (hown : s.vm.findClass "com/example/fixpoint/fixpoint/expr/SymbolAttachmentPinLaw" = some m.cls) (e0 : T0.heap = h0) (hs11 : One s11) (hs12 : One s12) (hs13 : One s13) (hs14 : One s14) (hs15 : One s15) (hc246 : ¬ ((((i0.toUInt32 >>> ((12 : Int32) &&& 31).toUInt32).toInt32) &&& (1 : Int32)) = (0 : Int32))) (Z0 : n0 ≤ h0.size) (N : Fr n0 locs) (O : Old Z n0 h0) (SCS : Sta Z Z.heap "java/lang/String" "COMPACT_STRINGS" "Z" (.int z)) (hcz : ¬ z = 0) (VD : Arv Z h0 o7 kD .char (2 : Int32) [.int c0, .int c1] (.int 0)) (hch : ∀ x ∈ ([c0, c1] : List Int32), ¬ x < 0 ∧ ¬ (255 : Int32) < x) (hcl : cells ≤ 40) (hsl : slots ≤ 120) :
    ∃ (T' : State) (h' : Heap) (locs' : List Loc) (slots' : Nat) (sy : Addr), Stand p l e room_1 s m args below meth c T' locs' (cells + 3) slots' ∧ T'.heap = h' ∧ Fr n0 locs' ∧ slots' ≤ slots + 10 ∧ Keep h0 h' [] ∧ Exa Z h' sy "com/example/fixpoint/fixpoint/expr/Symbol" ∧ Fld Z h' sy "com/example/fixpoint/fixpoint/expr/Symbol" "attachments" "Lcom/example/fixpoint/fixpoint/expr/Symbol$Attachment;" .null ∧ h0.size ≤ sy ∧
      ∀ target, Steps p.tables e below (T'.setTop (mkF m 259 #[.val (.int i0), s1, s2, s3, s4, s5, s6, .val (.ref o7), s8, s9, s10, .val (.int (i0 &&& (3 : Int32))), .val (.int (((i0.toUInt32 >>> ((2 : Int32) &&& 31).toUInt32).toInt32) &&& (3 : Int32))), .val (.int (((i0.toUInt32 >>> ((4 : Int32) &&& 31).toUInt32).toInt32) &&& (3 : Int32))), .val (.int (((i0.toUInt32 >>> ((6 : Int32) &&& 31).toUInt32).toInt32) &&& (3 : Int32))), .val (.ref sy), s16, s17, s18, s19] [])) target → Steps p.tables e below (T0.setTop (mkF m 200 #[.val (.int i0), s1, s2, s3, s4, s5, s6, .val (.ref o7), s8, s9, s10, s11, s12, s13, s14, s15, s16, s17, s18, s19] [])) target := by
  have N0 := N
  have hws : ∀ d ∈ StrChars.Road.words, d.before a0 Z = true := fun d hd => hw d ((by decide +kernel : ∀ d ∈ StrChars.Road.words, d ∈ tables_1) d hd)
  obtain ⟨T7, h7, X7, e7, E7, A7, D7, -, st7⟩ := newO X0 hx hZ hown (hw _ (List.mem_of_getElem? (i := 41) rfl)) (hw _ (List.mem_of_getElem? (i := 42) rfl)) (hw _ (List.mem_of_getElem? (i := 43) rfl)) e0 (g := (mkF m 227 #[.val (.int i0), s1, s2, s3, s4, s5, s6, .val (.ref o7), s8, s9, s10, .val (.int (i0 &&& (3 : Int32))), .val (.int (((i0.toUInt32 >>> ((2 : Int32) &&& 31).toUInt32).toInt32) &&& (3 : Int32))), .val (.int (((i0.toUInt32 >>> ((4 : Int32) &&& 31).toUInt32).toInt32) &&& (3 : Int32))), .val (.int (((i0.toUInt32 >>> ((6 : Int32) &&& 31).toUInt32).toInt32) &&& (3 : Int32))), s15, s16, s17, s18, s19] [])) rfl (hb hby at_227) (by show cells + 1 ≤ 56; omega) (by show slots + 4 ≤ 192; omega)
  obtain ⟨b7, g7⟩ : ∃ z, z = h0.size := ⟨_, rfl⟩
  rw [← g7] at A7 D7 st7
  have F_hash_b7 : Fld Z h7 b7 "com/example/fixpoint/fixpoint/expr/Expr" "hash" "I" (.int (0 : Int32)) := D7 (Or.inr (hw _ (List.mem_of_getElem? (i := 88) rfl))) (ty := .int) (by decide)
  have F_name_b7 : Fld Z h7 b7 "com/example/fixpoint/fixpoint/expr/Symbol" "name" "Ljava/lang/String;" .null := D7 (Or.inr (hw _ (List.mem_of_getElem? (i := 90) rfl))) (ty := (.object "java/lang/String")) (by decide)
  have F_temporary_b7 : Fld Z h7 b7 "com/example/fixpoint/fixpoint/expr/Symbol" "temporary" "Z" (.int (0 : Int32)) := D7 (Or.inr (hw _ (List.mem_of_getElem? (i := 92) rfl))) (ty := .boolean) (by decide)
  have F_attachments_b7 : Fld Z h7 b7 "com/example/fixpoint/fixpoint/expr/Symbol" "attachments" "Lcom/example/fixpoint/fixpoint/expr/Symbol$Attachment;" .null := D7 (Or.inl (hw _ (List.mem_of_getElem? (i := 103) rfl))) (ty := (.object "com/example/fixpoint/fixpoint/expr/Symbol$Attachment")) (by decide)
  have E_b7 := A7
  have g_b7 : n0 ≤ b7 := Nat.le_trans Z0 (Nat.le_of_eq g7.symm)
  have sz_b7 : h0.size ≤ b7 := (Nat.le_trans (Keep.refl h0 []).1 (Nat.le_of_eq g7.symm))
  have K7 : Keep h0 h7 [] := (Keep.refl h0 []).ext E7
  obtain ⟨T8, h8, X8, e8, E8, A8, D8, -, st8⟩ := newO X7 hx hZ hown (hw _ (List.mem_of_getElem? (i := 3) rfl)) (hw _ (List.mem_of_getElem? (i := 4) rfl)) (hw _ (List.mem_of_getElem? (i := 5) rfl)) e7 (g := (mkF m 231 #[.val (.int i0), s1, s2, s3, s4, s5, s6, .val (.ref o7), s8, s9, s10, .val (.int (i0 &&& (3 : Int32))), .val (.int (((i0.toUInt32 >>> ((2 : Int32) &&& 31).toUInt32).toInt32) &&& (3 : Int32))), .val (.int (((i0.toUInt32 >>> ((4 : Int32) &&& 31).toUInt32).toInt32) &&& (3 : Int32))), .val (.int (((i0.toUInt32 >>> ((6 : Int32) &&& 31).toUInt32).toInt32) &&& (3 : Int32))), s15, s16, s17, s18, s19] [(.ref b7), (.ref b7)])) rfl (hb hby at_231) (by show cells + 2 ≤ 56; omega) (by show slots + 8 ≤ 192; omega)
  obtain ⟨b8, g8⟩ : ∃ z, z = h7.size := ⟨_, rfl⟩
  rw [← g8] at A8 D8 st8
  have F_coder_b8 : Fld Z h8 b8 "java/lang/String" "coder" "B" (.int (0 : Int32)) := D8 (Or.inr (hw _ (List.mem_of_getElem? (i := 29) rfl))) (ty := .byte) (by decide)
  have F_value_b8 : Fld Z h8 b8 "java/lang/String" "value" "[B" .null := D8 (Or.inr (hw _ (List.mem_of_getElem? (i := 31) rfl))) (ty := (.array .byte)) (by decide)
  have F_hash_b8 : Fld Z h8 b8 "java/lang/String" "hash" "I" (.int (0 : Int32)) := D8 (Or.inl (hw _ (List.mem_of_getElem? (i := 53) rfl))) (ty := .int) (by decide)
  have F_hashIsZero_b8 : Fld Z h8 b8 "java/lang/String" "hashIsZero" "Z" (.int (0 : Int32)) := D8 (Or.inl (hw _ (List.mem_of_getElem? (i := 55) rfl))) (ty := .boolean) (by decide)
  have E_b8 := A8
  have g_b8 : n0 ≤ b8 := Nat.le_trans (Nat.le_trans Z0 E7.1) (Nat.le_of_eq g8.symm)
  have sz_b8 : h0.size ≤ b8 := (Nat.le_trans K7.1 (Nat.le_of_eq g8.symm))
  have K8 : Keep h0 h8 [] := K7.ext E8
  obtain ⟨_, _, ⟨T9, L9, k9, n9⟩, -, X9, ⟨Lc9, hQ9, l9, y9, z9⟩, st9⟩ := X8.specialBack hx (y := (⟨"java/lang/String", "<init>", "([C)V"⟩ : MethodName)) rfl hown (mvT hZ (hw _ (List.mem_of_getElem? (i := 6) rfl))) (mvT hZ (hw _ (List.mem_of_getElem? (i := 7) rfl))) (mvT hZ (hw _ (List.mem_of_getElem? (i := 8) rfl))) (by decide) (StrChars.Road.backArv (W := 3) hZ hws (kI := 4) (hw _ (List.mem_of_getElem? (i := 4) rfl)) (cs := ([c0, c1] : List Int32)) E_b8 F_value_b8 F_coder_b8 (VD.keep K8 (fun q => nomatch q)) (SCS.ext ((O.ext E7).ext E8).2) hcz rfl (by show 0 < 2; decide) (by show 2 ≤ 536870912; decide) (fun x hx => (hch x hx).2) (by decide) (by decide)) (g := (mkF m 237 #[.val (.int i0), s1, s2, s3, s4, s5, s6, .val (.ref o7), s8, s9, s10, .val (.int (i0 &&& (3 : Int32))), .val (.int (((i0.toUInt32 >>> ((2 : Int32) &&& 31).toUInt32).toInt32) &&& (3 : Int32))), .val (.int (((i0.toUInt32 >>> ((4 : Int32) &&& 31).toUInt32).toInt32) &&& (3 : Int32))), .val (.int (((i0.toUInt32 >>> ((6 : Int32) &&& 31).toUInt32).toInt32) &&& (3 : Int32))), s15, s16, s17, s18, s19] [(.ref o7), (.ref b8), (.ref b8), (.ref b7), (.ref b7)])) rfl (by rw [hml]; rfl) (Steps.refl _) (a := b8) (argsL := [(.ref o7)]) (rest := [(.ref b8), (.ref b7), (.ref b7)]) (lenOf pd_0_0 rfl) rfl (by show 2 * 0 + _ ≤ _; exact Nat.le_of_eq rfl) (hb hby at_237) (fun _ _ => ⟨rfl, e8, (by show cells + 2 + 1 ≤ 56; omega), (by show slots + 8 + 2 ≤ 192; omega)⟩)
  dsimp only [Pt.U, Pt.locs, Pt.cells, Pt.slots] at X9 l9 y9 z9 st9 hQ9
  subst l9 y9 z9
  obtain ⟨rfl, LB9, K9, z9', E9, F9v, F9c, ⟨kb, fb, V9⟩, R9⟩ := hQ9
  have N9q : Fr n0 Lc9 := fun y hy => by rw [LB9 y hy]; exact g_b8
  have F9h : Fld Z T9.heap b8 "java/lang/String" "hash" "I" (.int (0 : Int32)) := R9 _ _ _ _ F_hash_b8 (slot_ne (Or.inl (hw _ (List.mem_of_getElem? (i := 53) rfl))) (Or.inr (hw _ (List.mem_of_getElem? (i := 31) rfl))) (by decide) (t := .int) (t' := (.array .byte)) (by decide) (by decide)) (slot_ne (Or.inl (hw _ (List.mem_of_getElem? (i := 53) rfl))) (Or.inr (hw _ (List.mem_of_getElem? (i := 29) rfl))) (by decide) (t := .int) (t' := .byte) (by decide) (by decide))
  have F9z : Fld Z T9.heap b8 "java/lang/String" "hashIsZero" "Z" (.int (0 : Int32)) := R9 _ _ _ _ F_hashIsZero_b8 (slot_ne (Or.inl (hw _ (List.mem_of_getElem? (i := 55) rfl))) (Or.inr (hw _ (List.mem_of_getElem? (i := 31) rfl))) (by decide) (t := .boolean) (t' := (.array .byte)) (by decide) (by decide)) (slot_ne (Or.inl (hw _ (List.mem_of_getElem? (i := 55) rfl))) (Or.inr (hw _ (List.mem_of_getElem? (i := 29) rfl))) (by decide) (t := .boolean) (t' := .byte) (by decide) (by decide))
  have KT9 : Keep h0 T9.heap [] := K8.trans K9 (fun x q => Or.inr (by cases List.mem_singleton.mp q; exact sz_b8))
  have O9 := ((O.ext E7).ext E8).keep K9 (allS g_b8 all0)
  have ne78 : b7 ≠ b8 := Nat.ne_of_lt (Nat.lt_of_lt_of_le E_b7.lt (Nat.le_of_eq g8.symm))
  have ni7 : b7 ∉ [b8] := fun q => ne78 (List.mem_singleton.mp q)
  have H9 := own_hash l Z a0 hw b8 h8.size kb (StrChars.lo8 c0) (StrChars.lo8 c1) z T9.heap n0 (Nat.le_trans Z0 KT9.1) E9 F9h F9z F9v F9c (SCS.ext O9.2) hcz V9 fb g_b8
  have N9 := Fr.app N0 N9q
  obtain ⟨_, _, ⟨T10, L10, k10, n10⟩, -, X10, ⟨Lc10, hQ10, l10, y10, z10⟩, st10⟩ := X9.specialBack hx (y := (⟨"com/example/fixpoint/fixpoint/expr/Symbol", "<init>", "(Ljava/lang/String;Z)V"⟩ : MethodName)) rfl hown (mvT hZ (hw _ (List.mem_of_getElem? (i := 44) rfl))) (mvT hZ (hw _ (List.mem_of_getElem? (i := 45) rfl))) (mvT hZ (hw _ (List.mem_of_getElem? (i := 46) rfl))) (by decide) (backOf (W := 1) (rm8 l Z a0 hw [] b7 b8 (1 : Int32) (own_h (StrChars.lo8 c0) (StrChars.lo8 c1)) T9.heap n0 (Nat.le_trans Z0 KT9.1) H9 E9 ((E_b7.ext E8).keep K9) ne78 ((F_name_b7.ext E8).keep K9 ni7) ((F_hash_b7.ext E8).keep K9 ni7) ((F_temporary_b7.ext E8).keep K9 ni7) ((F_attachments_b7.ext E8).keep K9 ni7) g_b7) hZ (hw _ (List.mem_of_getElem? (i := 46) rfl)) (hw _ (List.mem_of_getElem? (i := 43) rfl)) (by decide) (by decide)) (g := (mkF m 254 #[.val (.int i0), s1, s2, s3, s4, s5, s6, .val (.ref o7), s8, s9, s10, .val (.int (i0 &&& (3 : Int32))), .val (.int (((i0.toUInt32 >>> ((2 : Int32) &&& 31).toUInt32).toInt32) &&& (3 : Int32))), .val (.int (((i0.toUInt32 >>> ((4 : Int32) &&& 31).toUInt32).toInt32) &&& (3 : Int32))), .val (.int (((i0.toUInt32 >>> ((6 : Int32) &&& 31).toUInt32).toInt32) &&& (3 : Int32))), s15, s16, s17, s18, s19] [(.int (1 : Int32)), (.ref b8), (.ref b7), (.ref b7)])) rfl (by rw [hml]; rfl) (Steps.refl _) (a := b7) (argsL := [(.ref b8), (.int (1 : Int32))]) (rest := [(.ref b7)]) (lenOf pd_0_7 rfl) rfl (by show 2 * 0 + _ ≤ _; exact Nat.le_of_eq rfl) (hb hby at_254) (fun _ _ => ⟨rfl, rfl, (by show cells + 2 + 1 + 0 ≤ 56; omega), (by show slots + 8 + 2 + 0 ≤ 192; omega)⟩)
  dsimp only [Pt.U, Pt.locs, Pt.cells, Pt.slots] at X10 l10 y10 z10 st10 hQ10
  subst l10 y10 z10
  obtain ⟨rfl, N10q, K10, E10, F10⟩ := hQ10
  have N10 := Fr.app N9 N10q
  refine ⟨T10, _, _, _, b7, X10, rfl, N10, Nat.le_refl _, KT9.trans K10 (fun x q => Or.inr (by rcases List.mem_cons.mp q with q | q; exact q ▸ sz_b7; exact List.mem_singleton.mp q ▸ sz_b8)), E10, F10, sz_b7, fun target kt => ?_⟩
  show Steps p.tables e below (T0.setTop (mkF m 200 #[.val (.int i0), s1, s2, s3, s4, s5, s6, .val (.ref o7), s8, s9, s10, s11, s12, s13, s14, s15, s16, s17, s18, s19] [])) _
  refine XS.iloadN X0.here hx rfl (hb hby at_200) rfl ?_
  show Steps p.tables e below (T0.setTop (mkF m 201 #[.val (.int i0), s1, s2, s3, s4, s5, s6, .val (.ref o7), s8, s9, s10, s11, s12, s13, s14, s15, s16, s17, s18, s19] [(.int i0)])) _
  refine XS.iconst X0.here hx rfl (hb hby at_201) ?_
  show Steps p.tables e below (T0.setTop (mkF m 202 #[.val (.int i0), s1, s2, s3, s4, s5, s6, .val (.ref o7), s8, s9, s10, s11, s12, s13, s14, s15, s16, s17, s18, s19] [(.int (3 : Int32)), (.int i0)])) _
  refine XS.iand X0.here hx rfl (hb hby at_202) rfl ?_
  show Steps p.tables e below (T0.setTop (mkF m 203 #[.val (.int i0), s1, s2, s3, s4, s5, s6, .val (.ref o7), s8, s9, s10, s11, s12, s13, s14, s15, s16, s17, s18, s19] [(.int (i0 &&& (3 : Int32)))])) _
  refine XS.istore X0.here hx rfl (hb hby at_203) rfl (l' := #[.val (.int i0), s1, s2, s3, s4, s5, s6, .val (.ref o7), s8, s9, s10, .val (.int (i0 &&& (3 : Int32))), s12, s13, s14, s15, s16, s17, s18, s19]) (os0_203 hs11) ?_
  show Steps p.tables e below (T0.setTop (mkF m 205 #[.val (.int i0), s1, s2, s3, s4, s5, s6, .val (.ref o7), s8, s9, s10, .val (.int (i0 &&& (3 : Int32))), s12, s13, s14, s15, s16, s17, s18, s19] [])) _
  refine XS.iloadN X0.here hx rfl (hb hby at_205) rfl ?_
  show Steps p.tables e below (T0.setTop (mkF m 206 #[.val (.int i0), s1, s2, s3, s4, s5, s6, .val (.ref o7), s8, s9, s10, .val (.int (i0 &&& (3 : Int32))), s12, s13, s14, s15, s16, s17, s18, s19] [(.int i0)])) _
  refine XS.iconst X0.here hx rfl (hb hby at_206) ?_
  show Steps p.tables e below (T0.setTop (mkF m 207 #[.val (.int i0), s1, s2, s3, s4, s5, s6, .val (.ref o7), s8, s9, s10, .val (.int (i0 &&& (3 : Int32))), s12, s13, s14, s15, s16, s17, s18, s19] [(.int (2 : Int32)), (.int i0)])) _
  refine XS.iushr X0.here hx rfl (hb hby at_207) rfl ?_
  show Steps p.tables e below (T0.setTop (mkF m 208 #[.val (.int i0), s1, s2, s3, s4, s5, s6, .val (.ref o7), s8, s9, s10, .val (.int (i0 &&& (3 : Int32))), s12, s13, s14, s15, s16, s17, s18, s19] [(.int ((i0.toUInt32 >>> ((2 : Int32) &&& 31).toUInt32).toInt32))])) _
  refine XS.iconst X0.here hx rfl (hb hby at_208) ?_
  show Steps p.tables e below (T0.setTop (mkF m 209 #[.val (.int i0), s1, s2, s3, s4, s5, s6, .val (.ref o7), s8, s9, s10, .val (.int (i0 &&& (3 : Int32))), s12, s13, s14, s15, s16, s17, s18, s19] [(.int (3 : Int32)), (.int ((i0.toUInt32 >>> ((2 : Int32) &&& 31).toUInt32).toInt32))])) _
  refine XS.iand X0.here hx rfl (hb hby at_209) rfl ?_
  show Steps p.tables e below (T0.setTop (mkF m 210 #[.val (.int i0), s1, s2, s3, s4, s5, s6, .val (.ref o7), s8, s9, s10, .val (.int (i0 &&& (3 : Int32))), s12, s13, s14, s15, s16, s17, s18, s19] [(.int (((i0.toUInt32 >>> ((2 : Int32) &&& 31).toUInt32).toInt32) &&& (3 : Int32)))])) _
  refine XS.istore X0.here hx rfl (hb hby at_210) rfl (l' := #[.val (.int i0), s1, s2, s3, s4, s5, s6, .val (.ref o7), s8, s9, s10, .val (.int (i0 &&& (3 : Int32))), .val (.int (((i0.toUInt32 >>> ((2 : Int32) &&& 31).toUInt32).toInt32) &&& (3 : Int32))), s13, s14, s15, s16, s17, s18, s19]) (os0_210 hs12) ?_
  show Steps p.tables e below (T0.setTop (mkF m 212 #[.val (.int i0), s1, s2, s3, s4, s5, s6, .val (.ref o7), s8, s9, s10, .val (.int (i0 &&& (3 : Int32))), .val (.int (((i0.toUInt32 >>> ((2 : Int32) &&& 31).toUInt32).toInt32) &&& (3 : Int32))), s13, s14, s15, s16, s17, s18, s19] [])) _
  refine XS.iloadN X0.here hx rfl (hb hby at_212) rfl ?_
  show Steps p.tables e below (T0.setTop (mkF m 213 #[.val (.int i0), s1, s2, s3, s4, s5, s6, .val (.ref o7), s8, s9, s10, .val (.int (i0 &&& (3 : Int32))), .val (.int (((i0.toUInt32 >>> ((2 : Int32) &&& 31).toUInt32).toInt32) &&& (3 : Int32))), s13, s14, s15, s16, s17, s18, s19] [(.int i0)])) _
  refine XS.iconst X0.here hx rfl (hb hby at_213) ?_
  show Steps p.tables e below (T0.setTop (mkF m 214 #[.val (.int i0), s1, s2, s3, s4, s5, s6, .val (.ref o7), s8, s9, s10, .val (.int (i0 &&& (3 : Int32))), .val (.int (((i0.toUInt32 >>> ((2 : Int32) &&& 31).toUInt32).toInt32) &&& (3 : Int32))), s13, s14, s15, s16, s17, s18, s19] [(.int (4 : Int32)), (.int i0)])) _
  refine XS.iushr X0.here hx rfl (hb hby at_214) rfl ?_
  show Steps p.tables e below (T0.setTop (mkF m 215 #[.val (.int i0), s1, s2, s3, s4, s5, s6, .val (.ref o7), s8, s9, s10, .val (.int (i0 &&& (3 : Int32))), .val (.int (((i0.toUInt32 >>> ((2 : Int32) &&& 31).toUInt32).toInt32) &&& (3 : Int32))), s13, s14, s15, s16, s17, s18, s19] [(.int ((i0.toUInt32 >>> ((4 : Int32) &&& 31).toUInt32).toInt32))])) _
  refine XS.iconst X0.here hx rfl (hb hby at_215) ?_
  show Steps p.tables e below (T0.setTop (mkF m 216 #[.val (.int i0), s1, s2, s3, s4, s5, s6, .val (.ref o7), s8, s9, s10, .val (.int (i0 &&& (3 : Int32))), .val (.int (((i0.toUInt32 >>> ((2 : Int32) &&& 31).toUInt32).toInt32) &&& (3 : Int32))), s13, s14, s15, s16, s17, s18, s19] [(.int (3 : Int32)), (.int ((i0.toUInt32 >>> ((4 : Int32) &&& 31).toUInt32).toInt32))])) _
  refine XS.iand X0.here hx rfl (hb hby at_216) rfl ?_
  show Steps p.tables e below (T0.setTop (mkF m 217 #[.val (.int i0), s1, s2, s3, s4, s5, s6, .val (.ref o7), s8, s9, s10, .val (.int (i0 &&& (3 : Int32))), .val (.int (((i0.toUInt32 >>> ((2 : Int32) &&& 31).toUInt32).toInt32) &&& (3 : Int32))), s13, s14, s15, s16, s17, s18, s19] [(.int (((i0.toUInt32 >>> ((4 : Int32) &&& 31).toUInt32).toInt32) &&& (3 : Int32)))])) _
  refine XS.istore X0.here hx rfl (hb hby at_217) rfl (l' := #[.val (.int i0), s1, s2, s3, s4, s5, s6, .val (.ref o7), s8, s9, s10, .val (.int (i0 &&& (3 : Int32))), .val (.int (((i0.toUInt32 >>> ((2 : Int32) &&& 31).toUInt32).toInt32) &&& (3 : Int32))), .val (.int (((i0.toUInt32 >>> ((4 : Int32) &&& 31).toUInt32).toInt32) &&& (3 : Int32))), s14, s15, s16, s17, s18, s19]) (os0_217 hs13) ?_
  show Steps p.tables e below (T0.setTop (mkF m 219 #[.val (.int i0), s1, s2, s3, s4, s5, s6, .val (.ref o7), s8, s9, s10, .val (.int (i0 &&& (3 : Int32))), .val (.int (((i0.toUInt32 >>> ((2 : Int32) &&& 31).toUInt32).toInt32) &&& (3 : Int32))), .val (.int (((i0.toUInt32 >>> ((4 : Int32) &&& 31).toUInt32).toInt32) &&& (3 : Int32))), s14, s15, s16, s17, s18, s19] [])) _
  refine XS.iloadN X0.here hx rfl (hb hby at_219) rfl ?_
  show Steps p.tables e below (T0.setTop (mkF m 220 #[.val (.int i0), s1, s2, s3, s4, s5, s6, .val (.ref o7), s8, s9, s10, .val (.int (i0 &&& (3 : Int32))), .val (.int (((i0.toUInt32 >>> ((2 : Int32) &&& 31).toUInt32).toInt32) &&& (3 : Int32))), .val (.int (((i0.toUInt32 >>> ((4 : Int32) &&& 31).toUInt32).toInt32) &&& (3 : Int32))), s14, s15, s16, s17, s18, s19] [(.int i0)])) _
  refine XS.bipush X0.here hx rfl (hb hby at_220) ?_
  show Steps p.tables e below (T0.setTop (mkF m 222 #[.val (.int i0), s1, s2, s3, s4, s5, s6, .val (.ref o7), s8, s9, s10, .val (.int (i0 &&& (3 : Int32))), .val (.int (((i0.toUInt32 >>> ((2 : Int32) &&& 31).toUInt32).toInt32) &&& (3 : Int32))), .val (.int (((i0.toUInt32 >>> ((4 : Int32) &&& 31).toUInt32).toInt32) &&& (3 : Int32))), s14, s15, s16, s17, s18, s19] [(.int (6 : Int32)), (.int i0)])) _
  refine XS.iushr X0.here hx rfl (hb hby at_222) rfl ?_
  show Steps p.tables e below (T0.setTop (mkF m 223 #[.val (.int i0), s1, s2, s3, s4, s5, s6, .val (.ref o7), s8, s9, s10, .val (.int (i0 &&& (3 : Int32))), .val (.int (((i0.toUInt32 >>> ((2 : Int32) &&& 31).toUInt32).toInt32) &&& (3 : Int32))), .val (.int (((i0.toUInt32 >>> ((4 : Int32) &&& 31).toUInt32).toInt32) &&& (3 : Int32))), s14, s15, s16, s17, s18, s19] [(.int ((i0.toUInt32 >>> ((6 : Int32) &&& 31).toUInt32).toInt32))])) _
  refine XS.iconst X0.here hx rfl (hb hby at_223) ?_
  show Steps p.tables e below (T0.setTop (mkF m 224 #[.val (.int i0), s1, s2, s3, s4, s5, s6, .val (.ref o7), s8, s9, s10, .val (.int (i0 &&& (3 : Int32))), .val (.int (((i0.toUInt32 >>> ((2 : Int32) &&& 31).toUInt32).toInt32) &&& (3 : Int32))), .val (.int (((i0.toUInt32 >>> ((4 : Int32) &&& 31).toUInt32).toInt32) &&& (3 : Int32))), s14, s15, s16, s17, s18, s19] [(.int (3 : Int32)), (.int ((i0.toUInt32 >>> ((6 : Int32) &&& 31).toUInt32).toInt32))])) _
  refine XS.iand X0.here hx rfl (hb hby at_224) rfl ?_
  show Steps p.tables e below (T0.setTop (mkF m 225 #[.val (.int i0), s1, s2, s3, s4, s5, s6, .val (.ref o7), s8, s9, s10, .val (.int (i0 &&& (3 : Int32))), .val (.int (((i0.toUInt32 >>> ((2 : Int32) &&& 31).toUInt32).toInt32) &&& (3 : Int32))), .val (.int (((i0.toUInt32 >>> ((4 : Int32) &&& 31).toUInt32).toInt32) &&& (3 : Int32))), s14, s15, s16, s17, s18, s19] [(.int (((i0.toUInt32 >>> ((6 : Int32) &&& 31).toUInt32).toInt32) &&& (3 : Int32)))])) _
  refine XS.istore X0.here hx rfl (hb hby at_225) rfl (l' := #[.val (.int i0), s1, s2, s3, s4, s5, s6, .val (.ref o7), s8, s9, s10, .val (.int (i0 &&& (3 : Int32))), .val (.int (((i0.toUInt32 >>> ((2 : Int32) &&& 31).toUInt32).toInt32) &&& (3 : Int32))), .val (.int (((i0.toUInt32 >>> ((4 : Int32) &&& 31).toUInt32).toInt32) &&& (3 : Int32))), .val (.int (((i0.toUInt32 >>> ((6 : Int32) &&& 31).toUInt32).toInt32) &&& (3 : Int32))), s15, s16, s17, s18, s19]) (os0_225 hs14) ?_
  show Steps p.tables e below (T0.setTop (mkF m 227 #[.val (.int i0), s1, s2, s3, s4, s5, s6, .val (.ref o7), s8, s9, s10, .val (.int (i0 &&& (3 : Int32))), .val (.int (((i0.toUInt32 >>> ((2 : Int32) &&& 31).toUInt32).toInt32) &&& (3 : Int32))), .val (.int (((i0.toUInt32 >>> ((4 : Int32) &&& 31).toUInt32).toInt32) &&& (3 : Int32))), .val (.int (((i0.toUInt32 >>> ((6 : Int32) &&& 31).toUInt32).toInt32) &&& (3 : Int32))), s15, s16, s17, s18, s19] [])) _
  refine st7 _ ?_
  show Steps p.tables e below (T7.setTop (mkF m 230 #[.val (.int i0), s1, s2, s3, s4, s5, s6, .val (.ref o7), s8, s9, s10, .val (.int (i0 &&& (3 : Int32))), .val (.int (((i0.toUInt32 >>> ((2 : Int32) &&& 31).toUInt32).toInt32) &&& (3 : Int32))), .val (.int (((i0.toUInt32 >>> ((4 : Int32) &&& 31).toUInt32).toInt32) &&& (3 : Int32))), .val (.int (((i0.toUInt32 >>> ((6 : Int32) &&& 31).toUInt32).toInt32) &&& (3 : Int32))), s15, s16, s17, s18, s19] [(.ref b7)])) _
  refine XS.dup X7.here hx rfl (hb hby at_230) rfl rfl ?_
  show Steps p.tables e below (T7.setTop (mkF m 231 #[.val (.int i0), s1, s2, s3, s4, s5, s6, .val (.ref o7), s8, s9, s10, .val (.int (i0 &&& (3 : Int32))), .val (.int (((i0.toUInt32 >>> ((2 : Int32) &&& 31).toUInt32).toInt32) &&& (3 : Int32))), .val (.int (((i0.toUInt32 >>> ((4 : Int32) &&& 31).toUInt32).toInt32) &&& (3 : Int32))), .val (.int (((i0.toUInt32 >>> ((6 : Int32) &&& 31).toUInt32).toInt32) &&& (3 : Int32))), s15, s16, s17, s18, s19] [(.ref b7), (.ref b7)])) _
  refine st8 _ ?_
  show Steps p.tables e below (T8.setTop (mkF m 234 #[.val (.int i0), s1, s2, s3, s4, s5, s6, .val (.ref o7), s8, s9, s10, .val (.int (i0 &&& (3 : Int32))), .val (.int (((i0.toUInt32 >>> ((2 : Int32) &&& 31).toUInt32).toInt32) &&& (3 : Int32))), .val (.int (((i0.toUInt32 >>> ((4 : Int32) &&& 31).toUInt32).toInt32) &&& (3 : Int32))), .val (.int (((i0.toUInt32 >>> ((6 : Int32) &&& 31).toUInt32).toInt32) &&& (3 : Int32))), s15, s16, s17, s18, s19] [(.ref b8), (.ref b7), (.ref b7)])) _
  refine XS.dup X8.here hx rfl (hb hby at_234) rfl rfl ?_
  show Steps p.tables e below (T8.setTop (mkF m 235 #[.val (.int i0), s1, s2, s3, s4, s5, s6, .val (.ref o7), s8, s9, s10, .val (.int (i0 &&& (3 : Int32))), .val (.int (((i0.toUInt32 >>> ((2 : Int32) &&& 31).toUInt32).toInt32) &&& (3 : Int32))), .val (.int (((i0.toUInt32 >>> ((4 : Int32) &&& 31).toUInt32).toInt32) &&& (3 : Int32))), .val (.int (((i0.toUInt32 >>> ((6 : Int32) &&& 31).toUInt32).toInt32) &&& (3 : Int32))), s15, s16, s17, s18, s19] [(.ref b8), (.ref b8), (.ref b7), (.ref b7)])) _
  refine XS.aload X8.here hx rfl (hb hby at_235) rfl rfl ?_
  show Steps p.tables e below (T8.setTop (mkF m 237 #[.val (.int i0), s1, s2, s3, s4, s5, s6, .val (.ref o7), s8, s9, s10, .val (.int (i0 &&& (3 : Int32))), .val (.int (((i0.toUInt32 >>> ((2 : Int32) &&& 31).toUInt32).toInt32) &&& (3 : Int32))), .val (.int (((i0.toUInt32 >>> ((4 : Int32) &&& 31).toUInt32).toInt32) &&& (3 : Int32))), .val (.int (((i0.toUInt32 >>> ((6 : Int32) &&& 31).toUInt32).toInt32) &&& (3 : Int32))), s15, s16, s17, s18, s19] [(.ref o7), (.ref b8), (.ref b8), (.ref b7), (.ref b7)])) _
  refine st9.trans ?_
  show Steps p.tables e below (T9.setTop (mkF m 240 #[.val (.int i0), s1, s2, s3, s4, s5, s6, .val (.ref o7), s8, s9, s10, .val (.int (i0 &&& (3 : Int32))), .val (.int (((i0.toUInt32 >>> ((2 : Int32) &&& 31).toUInt32).toInt32) &&& (3 : Int32))), .val (.int (((i0.toUInt32 >>> ((4 : Int32) &&& 31).toUInt32).toInt32) &&& (3 : Int32))), .val (.int (((i0.toUInt32 >>> ((6 : Int32) &&& 31).toUInt32).toInt32) &&& (3 : Int32))), s15, s16, s17, s18, s19] [(.ref b8), (.ref b7), (.ref b7)])) _
  refine XS.iloadN X9.here hx rfl (hb hby at_240) rfl ?_
  show Steps p.tables e below (T9.setTop (mkF m 241 #[.val (.int i0), s1, s2, s3, s4, s5, s6, .val (.ref o7), s8, s9, s10, .val (.int (i0 &&& (3 : Int32))), .val (.int (((i0.toUInt32 >>> ((2 : Int32) &&& 31).toUInt32).toInt32) &&& (3 : Int32))), .val (.int (((i0.toUInt32 >>> ((4 : Int32) &&& 31).toUInt32).toInt32) &&& (3 : Int32))), .val (.int (((i0.toUInt32 >>> ((6 : Int32) &&& 31).toUInt32).toInt32) &&& (3 : Int32))), s15, s16, s17, s18, s19] [(.int i0), (.ref b8), (.ref b7), (.ref b7)])) _
  refine XS.bipush X9.here hx rfl (hb hby at_241) ?_
  show Steps p.tables e below (T9.setTop (mkF m 243 #[.val (.int i0), s1, s2, s3, s4, s5, s6, .val (.ref o7), s8, s9, s10, .val (.int (i0 &&& (3 : Int32))), .val (.int (((i0.toUInt32 >>> ((2 : Int32) &&& 31).toUInt32).toInt32) &&& (3 : Int32))), .val (.int (((i0.toUInt32 >>> ((4 : Int32) &&& 31).toUInt32).toInt32) &&& (3 : Int32))), .val (.int (((i0.toUInt32 >>> ((6 : Int32) &&& 31).toUInt32).toInt32) &&& (3 : Int32))), s15, s16, s17, s18, s19] [(.int (12 : Int32)), (.int i0), (.ref b8), (.ref b7), (.ref b7)])) _
  refine XS.iushr X9.here hx rfl (hb hby at_243) rfl ?_
  show Steps p.tables e below (T9.setTop (mkF m 244 #[.val (.int i0), s1, s2, s3, s4, s5, s6, .val (.ref o7), s8, s9, s10, .val (.int (i0 &&& (3 : Int32))), .val (.int (((i0.toUInt32 >>> ((2 : Int32) &&& 31).toUInt32).toInt32) &&& (3 : Int32))), .val (.int (((i0.toUInt32 >>> ((4 : Int32) &&& 31).toUInt32).toInt32) &&& (3 : Int32))), .val (.int (((i0.toUInt32 >>> ((6 : Int32) &&& 31).toUInt32).toInt32) &&& (3 : Int32))), s15, s16, s17, s18, s19] [(.int ((i0.toUInt32 >>> ((12 : Int32) &&& 31).toUInt32).toInt32)), (.ref b8), (.ref b7), (.ref b7)])) _
  refine XS.iconst X9.here hx rfl (hb hby at_244) ?_
  show Steps p.tables e below (T9.setTop (mkF m 245 #[.val (.int i0), s1, s2, s3, s4, s5, s6, .val (.ref o7), s8, s9, s10, .val (.int (i0 &&& (3 : Int32))), .val (.int (((i0.toUInt32 >>> ((2 : Int32) &&& 31).toUInt32).toInt32) &&& (3 : Int32))), .val (.int (((i0.toUInt32 >>> ((4 : Int32) &&& 31).toUInt32).toInt32) &&& (3 : Int32))), .val (.int (((i0.toUInt32 >>> ((6 : Int32) &&& 31).toUInt32).toInt32) &&& (3 : Int32))), s15, s16, s17, s18, s19] [(.int (1 : Int32)), (.int ((i0.toUInt32 >>> ((12 : Int32) &&& 31).toUInt32).toInt32)), (.ref b8), (.ref b7), (.ref b7)])) _
  refine XS.iand X9.here hx rfl (hb hby at_245) rfl ?_
  show Steps p.tables e below (T9.setTop (mkF m 246 #[.val (.int i0), s1, s2, s3, s4, s5, s6, .val (.ref o7), s8, s9, s10, .val (.int (i0 &&& (3 : Int32))), .val (.int (((i0.toUInt32 >>> ((2 : Int32) &&& 31).toUInt32).toInt32) &&& (3 : Int32))), .val (.int (((i0.toUInt32 >>> ((4 : Int32) &&& 31).toUInt32).toInt32) &&& (3 : Int32))), .val (.int (((i0.toUInt32 >>> ((6 : Int32) &&& 31).toUInt32).toInt32) &&& (3 : Int32))), s15, s16, s17, s18, s19] [(.int (((i0.toUInt32 >>> ((12 : Int32) &&& 31).toUInt32).toInt32) &&& (1 : Int32))), (.ref b8), (.ref b7), (.ref b7)])) _
  refine XS.ifNo X9.here hx rfl (hb hby at_246) rfl ((if0 _ _).trans (feq hc246).1) ?_
  show Steps p.tables e below (T9.setTop (mkF m 249 #[.val (.int i0), s1, s2, s3, s4, s5, s6, .val (.ref o7), s8, s9, s10, .val (.int (i0 &&& (3 : Int32))), .val (.int (((i0.toUInt32 >>> ((2 : Int32) &&& 31).toUInt32).toInt32) &&& (3 : Int32))), .val (.int (((i0.toUInt32 >>> ((4 : Int32) &&& 31).toUInt32).toInt32) &&& (3 : Int32))), .val (.int (((i0.toUInt32 >>> ((6 : Int32) &&& 31).toUInt32).toInt32) &&& (3 : Int32))), s15, s16, s17, s18, s19] [(.ref b8), (.ref b7), (.ref b7)])) _
  refine XS.iconst X9.here hx rfl (hb hby at_249) ?_
  show Steps p.tables e below (T9.setTop (mkF m 250 #[.val (.int i0), s1, s2, s3, s4, s5, s6, .val (.ref o7), s8, s9, s10, .val (.int (i0 &&& (3 : Int32))), .val (.int (((i0.toUInt32 >>> ((2 : Int32) &&& 31).toUInt32).toInt32) &&& (3 : Int32))), .val (.int (((i0.toUInt32 >>> ((4 : Int32) &&& 31).toUInt32).toInt32) &&& (3 : Int32))), .val (.int (((i0.toUInt32 >>> ((6 : Int32) &&& 31).toUInt32).toInt32) &&& (3 : Int32))), s15, s16, s17, s18, s19] [(.int (1 : Int32)), (.ref b8), (.ref b7), (.ref b7)])) _
  refine XS.goto X9.here hx rfl (pc0 := 250) (pc' := 254) rfl (hb hby at_250) (by decide) (by decide) ?_
  show Steps p.tables e below (T9.setTop (mkF m 254 #[.val (.int i0), s1, s2, s3, s4, s5, s6, .val (.ref o7), s8, s9, s10, .val (.int (i0 &&& (3 : Int32))), .val (.int (((i0.toUInt32 >>> ((2 : Int32) &&& 31).toUInt32).toInt32) &&& (3 : Int32))), .val (.int (((i0.toUInt32 >>> ((4 : Int32) &&& 31).toUInt32).toInt32) &&& (3 : Int32))), .val (.int (((i0.toUInt32 >>> ((6 : Int32) &&& 31).toUInt32).toInt32) &&& (3 : Int32))), s15, s16, s17, s18, s19] [(.int (1 : Int32)), (.ref b8), (.ref b7), (.ref b7)])) _
  refine st10.trans ?_
  show Steps p.tables e below (T10.setTop (mkF m 257 #[.val (.int i0), s1, s2, s3, s4, s5, s6, .val (.ref o7), s8, s9, s10, .val (.int (i0 &&& (3 : Int32))), .val (.int (((i0.toUInt32 >>> ((2 : Int32) &&& 31).toUInt32).toInt32) &&& (3 : Int32))), .val (.int (((i0.toUInt32 >>> ((4 : Int32) &&& 31).toUInt32).toInt32) &&& (3 : Int32))), .val (.int (((i0.toUInt32 >>> ((6 : Int32) &&& 31).toUInt32).toInt32) &&& (3 : Int32))), s15, s16, s17, s18, s19] [(.ref b7)])) _
  refine XS.astore X10.here hx rfl (hb hby at_257) rfl rfl (l' := #[.val (.int i0), s1, s2, s3, s4, s5, s6, .val (.ref o7), s8, s9, s10, .val (.int (i0 &&& (3 : Int32))), .val (.int (((i0.toUInt32 >>> ((2 : Int32) &&& 31).toUInt32).toInt32) &&& (3 : Int32))), .val (.int (((i0.toUInt32 >>> ((4 : Int32) &&& 31).toUInt32).toInt32) &&& (3 : Int32))), .val (.int (((i0.toUInt32 >>> ((6 : Int32) &&& 31).toUInt32).toInt32) &&& (3 : Int32))), .val (.ref b7), s16, s17, s18, s19]) (os0_257 hs15) ?_
  exact kt
set_option maxRecDepth 65536 in
set_option maxHeartbeats 40000000 in
theorem own_c0 {p : Program} {l : Launch} {e : Env} {s : State} {m : MethodId} {args : Array Value} {below : List Frame} {meth : Method} {c : Code} {T0 : State} {locs : List Loc} {cells slots : Nat} {Z : State} {a0 : Array Value} {h0 : Heap} {n0 : Nat} (i0 : Int32) (s1 : Slot) (s2 : Slot) (s3 : Slot) (s4 : Slot) (s5 : Slot) (s6 : Slot) (o7 : Addr) (s8 : Slot) (s9 : Slot) (s10 : Slot) (s11 : Slot) (s12 : Slot) (s13 : Slot) (s14 : Slot) (s15 : Slot) (s16 : Slot) (s17 : Slot) (s18 : Slot) (s19 : Slot) (z : Int32) (kD : ClassId) (c0 c1 : Int32)
    (X0 : Stand p l e room_1 s m args below meth c T0 locs cells slots) (hx : p.tables.exec = Jvm.exec) (hZ : Z.Warmed39 s.vm) (hw : ∀ d ∈ tables_1, d.before a0 Z = true) (hby : c.code = code) (hml : c.maxLocals = 20) (hown : s.vm.findClass "com/example/fixpoint/fixpoint/expr/SymbolAttachmentPinLaw" = some m.cls) (e0 : T0.heap = h0) (hs11 : One s11) (hs12 : One s12) (hs13 : One s13) (hs14 : One s14) (hs15 : One s15) (hc246 : (((i0.toUInt32 >>> ((12 : Int32) &&& 31).toUInt32).toInt32) &&& (1 : Int32)) = (0 : Int32)) (Z0 : n0 ≤ h0.size) (N : Fr n0 locs) (O : Old Z n0 h0) (SCS : Sta Z Z.heap "java/lang/String" "COMPACT_STRINGS" "Z" (.int z)) (hcz : ¬ z = 0) (VD : Arv Z h0 o7 kD .char (2 : Int32) [.int c0, .int c1] (.int 0)) (hch : ∀ x ∈ ([c0, c1] : List Int32), ¬ x < 0 ∧ ¬ (255 : Int32) < x) (hcl : cells ≤ 40) (hsl : slots ≤ 120) :
    ∃ (T' : State) (h' : Heap) (locs' : List Loc) (slots' : Nat) (sy : Addr), Stand p l e room_1 s m args below meth c T' locs' (cells + 3) slots' ∧ T'.heap = h' ∧ Fr n0 locs' ∧ slots' ≤ slots + 10 ∧ Keep h0 h' [] ∧ Exa Z h' sy "com/example/fixpoint/fixpoint/expr/Symbol" ∧ Fld Z h' sy "com/example/fixpoint/fixpoint/expr/Symbol" "attachments" "Lcom/example/fixpoint/fixpoint/expr/Symbol$Attachment;" .null ∧ h0.size ≤ sy ∧
      ∀ target, Steps p.tables e below (T'.setTop (mkF m 259 #[.val (.int i0), s1, s2, s3, s4, s5, s6, .val (.ref o7), s8, s9, s10, .val (.int (i0 &&& (3 : Int32))), .val (.int (((i0.toUInt32 >>> ((2 : Int32) &&& 31).toUInt32).toInt32) &&& (3 : Int32))), .val (.int (((i0.toUInt32 >>> ((4 : Int32) &&& 31).toUInt32).toInt32) &&& (3 : Int32))), .val (.int (((i0.toUInt32 >>> ((6 : Int32) &&& 31).toUInt32).toInt32) &&& (3 : Int32))), .val (.ref sy), s16, s17, s18, s19] [])) target → Steps p.tables e below (T0.setTop (mkF m 200 #[.val (.int i0), s1, s2, s3, s4, s5, s6, .val (.ref o7), s8, s9, s10, s11, s12, s13, s14, s15, s16, s17, s18, s19] [])) target := by
  have N0 := N
  have hws : ∀ d ∈ StrChars.Road.words, d.before a0 Z = true := fun d hd => hw d ((by decide +kernel : ∀ d ∈ StrChars.Road.words, d ∈ tables_1) d hd)
  obtain ⟨T7, h7, X7, e7, E7, A7, D7, -, st7⟩ := newO X0 hx hZ hown (hw _ (List.mem_of_getElem? (i := 41) rfl)) (hw _ (List.mem_of_getElem? (i := 42) rfl)) (hw _ (List.mem_of_getElem? (i := 43) rfl)) e0 (g := (mkF m 227 #[.val (.int i0), s1, s2, s3, s4, s5, s6, .val (.ref o7), s8, s9, s10, .val (.int (i0 &&& (3 : Int32))), .val (.int (((i0.toUInt32 >>> ((2 : Int32) &&& 31).toUInt32).toInt32) &&& (3 : Int32))), .val (.int (((i0.toUInt32 >>> ((4 : Int32) &&& 31).toUInt32).toInt32) &&& (3 : Int32))), .val (.int (((i0.toUInt32 >>> ((6 : Int32) &&& 31).toUInt32).toInt32) &&& (3 : Int32))), s15, s16, s17, s18, s19] [])) rfl (hb hby at_227) (by show cells + 1 ≤ 56; omega) (by show slots + 4 ≤ 192; omega)
  obtain ⟨b7, g7⟩ : ∃ z, z = h0.size := ⟨_, rfl⟩
  rw [← g7] at A7 D7 st7
  have F_hash_b7 : Fld Z h7 b7 "com/example/fixpoint/fixpoint/expr/Expr" "hash" "I" (.int (0 : Int32)) := D7 (Or.inr (hw _ (List.mem_of_getElem? (i := 88) rfl))) (ty := .int) (by decide)
  have F_name_b7 : Fld Z h7 b7 "com/example/fixpoint/fixpoint/expr/Symbol" "name" "Ljava/lang/String;" .null := D7 (Or.inr (hw _ (List.mem_of_getElem? (i := 90) rfl))) (ty := (.object "java/lang/String")) (by decide)
  have F_temporary_b7 : Fld Z h7 b7 "com/example/fixpoint/fixpoint/expr/Symbol" "temporary" "Z" (.int (0 : Int32)) := D7 (Or.inr (hw _ (List.mem_of_getElem? (i := 92) rfl))) (ty := .boolean) (by decide)
  have F_attachments_b7 : Fld Z h7 b7 "com/example/fixpoint/fixpoint/expr/Symbol" "attachments" "Lcom/example/fixpoint/fixpoint/expr/Symbol$Attachment;" .null := D7 (Or.inl (hw _ (List.mem_of_getElem? (i := 103) rfl))) (ty := (.object "com/example/fixpoint/fixpoint/expr/Symbol$Attachment")) (by decide)
  have E_b7 := A7
  have g_b7 : n0 ≤ b7 := Nat.le_trans Z0 (Nat.le_of_eq g7.symm)
  have sz_b7 : h0.size ≤ b7 := (Nat.le_trans (Keep.refl h0 []).1 (Nat.le_of_eq g7.symm))
  have K7 : Keep h0 h7 [] := (Keep.refl h0 []).ext E7
  obtain ⟨T8, h8, X8, e8, E8, A8, D8, -, st8⟩ := newO X7 hx hZ hown (hw _ (List.mem_of_getElem? (i := 3) rfl)) (hw _ (List.mem_of_getElem? (i := 4) rfl)) (hw _ (List.mem_of_getElem? (i := 5) rfl)) e7 (g := (mkF m 231 #[.val (.int i0), s1, s2, s3, s4, s5, s6, .val (.ref o7), s8, s9, s10, .val (.int (i0 &&& (3 : Int32))), .val (.int (((i0.toUInt32 >>> ((2 : Int32) &&& 31).toUInt32).toInt32) &&& (3 : Int32))), .val (.int (((i0.toUInt32 >>> ((4 : Int32) &&& 31).toUInt32).toInt32) &&& (3 : Int32))), .val (.int (((i0.toUInt32 >>> ((6 : Int32) &&& 31).toUInt32).toInt32) &&& (3 : Int32))), s15, s16, s17, s18, s19] [(.ref b7), (.ref b7)])) rfl (hb hby at_231) (by show cells + 2 ≤ 56; omega) (by show slots + 8 ≤ 192; omega)
  obtain ⟨b8, g8⟩ : ∃ z, z = h7.size := ⟨_, rfl⟩
  rw [← g8] at A8 D8 st8
  have F_coder_b8 : Fld Z h8 b8 "java/lang/String" "coder" "B" (.int (0 : Int32)) := D8 (Or.inr (hw _ (List.mem_of_getElem? (i := 29) rfl))) (ty := .byte) (by decide)
  have F_value_b8 : Fld Z h8 b8 "java/lang/String" "value" "[B" .null := D8 (Or.inr (hw _ (List.mem_of_getElem? (i := 31) rfl))) (ty := (.array .byte)) (by decide)
  have F_hash_b8 : Fld Z h8 b8 "java/lang/String" "hash" "I" (.int (0 : Int32)) := D8 (Or.inl (hw _ (List.mem_of_getElem? (i := 53) rfl))) (ty := .int) (by decide)
  have F_hashIsZero_b8 : Fld Z h8 b8 "java/lang/String" "hashIsZero" "Z" (.int (0 : Int32)) := D8 (Or.inl (hw _ (List.mem_of_getElem? (i := 55) rfl))) (ty := .boolean) (by decide)
  have E_b8 := A8
  have g_b8 : n0 ≤ b8 := Nat.le_trans (Nat.le_trans Z0 E7.1) (Nat.le_of_eq g8.symm)
  have sz_b8 : h0.size ≤ b8 := (Nat.le_trans K7.1 (Nat.le_of_eq g8.symm))
  have K8 : Keep h0 h8 [] := K7.ext E8
  obtain ⟨_, _, ⟨T9, L9, k9, n9⟩, -, X9, ⟨Lc9, hQ9, l9, y9, z9⟩, st9⟩ := X8.specialBack hx (y := (⟨"java/lang/String", "<init>", "([C)V"⟩ : MethodName)) rfl hown (mvT hZ (hw _ (List.mem_of_getElem? (i := 6) rfl))) (mvT hZ (hw _ (List.mem_of_getElem? (i := 7) rfl))) (mvT hZ (hw _ (List.mem_of_getElem? (i := 8) rfl))) (by decide) (StrChars.Road.backArv (W := 3) hZ hws (kI := 4) (hw _ (List.mem_of_getElem? (i := 4) rfl)) (cs := ([c0, c1] : List Int32)) E_b8 F_value_b8 F_coder_b8 (VD.keep K8 (fun q => nomatch q)) (SCS.ext ((O.ext E7).ext E8).2) hcz rfl (by show 0 < 2; decide) (by show 2 ≤ 536870912; decide) (fun x hx => (hch x hx).2) (by decide) (by decide)) (g := (mkF m 237 #[.val (.int i0), s1, s2, s3, s4, s5, s6, .val (.ref o7), s8, s9, s10, .val (.int (i0 &&& (3 : Int32))), .val (.int (((i0.toUInt32 >>> ((2 : Int32) &&& 31).toUInt32).toInt32) &&& (3 : Int32))), .val (.int (((i0.toUInt32 >>> ((4 : Int32) &&& 31).toUInt32).toInt32) &&& (3 : Int32))), .val (.int (((i0.toUInt32 >>> ((6 : Int32) &&& 31).toUInt32).toInt32) &&& (3 : Int32))), s15, s16, s17, s18, s19] [(.ref o7), (.ref b8), (.ref b8), (.ref b7), (.ref b7)])) rfl (by rw [hml]; rfl) (Steps.refl _) (a := b8) (argsL := [(.ref o7)]) (rest := [(.ref b8), (.ref b7), (.ref b7)]) (lenOf pd_0_0 rfl) rfl (by show 2 * 0 + _ ≤ _; exact Nat.le_of_eq rfl) (hb hby at_237) (fun _ _ => ⟨rfl, e8, (by show cells + 2 + 1 ≤ 56; omega), (by show slots + 8 + 2 ≤ 192; omega)⟩)
  dsimp only [Pt.U, Pt.locs, Pt.cells, Pt.slots] at X9 l9 y9 z9 st9 hQ9
  subst l9 y9 z9
  obtain ⟨rfl, LB9, K9, z9', E9, F9v, F9c, ⟨kb, fb, V9⟩, R9⟩ := hQ9
  have N9q : Fr n0 Lc9 := fun y hy => by rw [LB9 y hy]; exact g_b8
  have F9h : Fld Z T9.heap b8 "java/lang/String" "hash" "I" (.int (0 : Int32)) := R9 _ _ _ _ F_hash_b8 (slot_ne (Or.inl (hw _ (List.mem_of_getElem? (i := 53) rfl))) (Or.inr (hw _ (List.mem_of_getElem? (i := 31) rfl))) (by decide) (t := .int) (t' := (.array .byte)) (by decide) (by decide)) (slot_ne (Or.inl (hw _ (List.mem_of_getElem? (i := 53) rfl))) (Or.inr (hw _ (List.mem_of_getElem? (i := 29) rfl))) (by decide) (t := .int) (t' := .byte) (by decide) (by decide))
  have F9z : Fld Z T9.heap b8 "java/lang/String" "hashIsZero" "Z" (.int (0 : Int32)) := R9 _ _ _ _ F_hashIsZero_b8 (slot_ne (Or.inl (hw _ (List.mem_of_getElem? (i := 55) rfl))) (Or.inr (hw _ (List.mem_of_getElem? (i := 31) rfl))) (by decide) (t := .boolean) (t' := (.array .byte)) (by decide) (by decide)) (slot_ne (Or.inl (hw _ (List.mem_of_getElem? (i := 55) rfl))) (Or.inr (hw _ (List.mem_of_getElem? (i := 29) rfl))) (by decide) (t := .boolean) (t' := .byte) (by decide) (by decide))
  have KT9 : Keep h0 T9.heap [] := K8.trans K9 (fun x q => Or.inr (by cases List.mem_singleton.mp q; exact sz_b8))
  have O9 := ((O.ext E7).ext E8).keep K9 (allS g_b8 all0)
  have ne78 : b7 ≠ b8 := Nat.ne_of_lt (Nat.lt_of_lt_of_le E_b7.lt (Nat.le_of_eq g8.symm))
  have ni7 : b7 ∉ [b8] := fun q => ne78 (List.mem_singleton.mp q)
  have H9 := own_hash l Z a0 hw b8 h8.size kb (StrChars.lo8 c0) (StrChars.lo8 c1) z T9.heap n0 (Nat.le_trans Z0 KT9.1) E9 F9h F9z F9v F9c (SCS.ext O9.2) hcz V9 fb g_b8
  have N9 := Fr.app N0 N9q
  obtain ⟨_, _, ⟨T10, L10, k10, n10⟩, -, X10, ⟨Lc10, hQ10, l10, y10, z10⟩, st10⟩ := X9.specialBack hx (y := (⟨"com/example/fixpoint/fixpoint/expr/Symbol", "<init>", "(Ljava/lang/String;Z)V"⟩ : MethodName)) rfl hown (mvT hZ (hw _ (List.mem_of_getElem? (i := 44) rfl))) (mvT hZ (hw _ (List.mem_of_getElem? (i := 45) rfl))) (mvT hZ (hw _ (List.mem_of_getElem? (i := 46) rfl))) (by decide) (backOf (W := 1) (rm8 l Z a0 hw [] b7 b8 (0 : Int32) (own_h (StrChars.lo8 c0) (StrChars.lo8 c1)) T9.heap n0 (Nat.le_trans Z0 KT9.1) H9 E9 ((E_b7.ext E8).keep K9) ne78 ((F_name_b7.ext E8).keep K9 ni7) ((F_hash_b7.ext E8).keep K9 ni7) ((F_temporary_b7.ext E8).keep K9 ni7) ((F_attachments_b7.ext E8).keep K9 ni7) g_b7) hZ (hw _ (List.mem_of_getElem? (i := 46) rfl)) (hw _ (List.mem_of_getElem? (i := 43) rfl)) (by decide) (by decide)) (g := (mkF m 254 #[.val (.int i0), s1, s2, s3, s4, s5, s6, .val (.ref o7), s8, s9, s10, .val (.int (i0 &&& (3 : Int32))), .val (.int (((i0.toUInt32 >>> ((2 : Int32) &&& 31).toUInt32).toInt32) &&& (3 : Int32))), .val (.int (((i0.toUInt32 >>> ((4 : Int32) &&& 31).toUInt32).toInt32) &&& (3 : Int32))), .val (.int (((i0.toUInt32 >>> ((6 : Int32) &&& 31).toUInt32).toInt32) &&& (3 : Int32))), s15, s16, s17, s18, s19] [(.int (0 : Int32)), (.ref b8), (.ref b7), (.ref b7)])) rfl (by rw [hml]; rfl) (Steps.refl _) (a := b7) (argsL := [(.ref b8), (.int (0 : Int32))]) (rest := [(.ref b7)]) (lenOf pd_0_7 rfl) rfl (by show 2 * 0 + _ ≤ _; exact Nat.le_of_eq rfl) (hb hby at_254) (fun _ _ => ⟨rfl, rfl, (by show cells + 2 + 1 + 0 ≤ 56; omega), (by show slots + 8 + 2 + 0 ≤ 192; omega)⟩)
  dsimp only [Pt.U, Pt.locs, Pt.cells, Pt.slots] at X10 l10 y10 z10 st10 hQ10
  subst l10 y10 z10
  obtain ⟨rfl, N10q, K10, E10, F10⟩ := hQ10
  have N10 := Fr.app N9 N10q
  refine ⟨T10, _, _, _, b7, X10, rfl, N10, Nat.le_refl _, KT9.trans K10 (fun x q => Or.inr (by rcases List.mem_cons.mp q with q | q; exact q ▸ sz_b7; exact List.mem_singleton.mp q ▸ sz_b8)), E10, F10, sz_b7, fun target kt => ?_⟩
  show Steps p.tables e below (T0.setTop (mkF m 200 #[.val (.int i0), s1, s2, s3, s4, s5, s6, .val (.ref o7), s8, s9, s10, s11, s12, s13, s14, s15, s16, s17, s18, s19] [])) _
  refine XS.iloadN X0.here hx rfl (hb hby at_200) rfl ?_
  show Steps p.tables e below (T0.setTop (mkF m 201 #[.val (.int i0), s1, s2, s3, s4, s5, s6, .val (.ref o7), s8, s9, s10, s11, s12, s13, s14, s15, s16, s17, s18, s19] [(.int i0)])) _
  refine XS.iconst X0.here hx rfl (hb hby at_201) ?_
  show Steps p.tables e below (T0.setTop (mkF m 202 #[.val (.int i0), s1, s2, s3, s4, s5, s6, .val (.ref o7), s8, s9, s10, s11, s12, s13, s14, s15, s16, s17, s18, s19] [(.int (3 : Int32)), (.int i0)])) _
  refine XS.iand X0.here hx rfl (hb hby at_202) rfl ?_
  show Steps p.tables e below (T0.setTop (mkF m 203 #[.val (.int i0), s1, s2, s3, s4, s5, s6, .val (.ref o7), s8, s9, s10, s11, s12, s13, s14, s15, s16, s17, s18, s19] [(.int (i0 &&& (3 : Int32)))])) _
  refine XS.istore X0.here hx rfl (hb hby at_203) rfl (l' := #[.val (.int i0), s1, s2, s3, s4, s5, s6, .val (.ref o7), s8, s9, s10, .val (.int (i0 &&& (3 : Int32))), s12, s13, s14, s15, s16, s17, s18, s19]) (os0_203 hs11) ?_
  show Steps p.tables e below (T0.setTop (mkF m 205 #[.val (.int i0), s1, s2, s3, s4, s5, s6, .val (.ref o7), s8, s9, s10, .val (.int (i0 &&& (3 : Int32))), s12, s13, s14, s15, s16, s17, s18, s19] [])) _
  refine XS.iloadN X0.here hx rfl (hb hby at_205) rfl ?_
  show Steps p.tables e below (T0.setTop (mkF m 206 #[.val (.int i0), s1, s2, s3, s4, s5, s6, .val (.ref o7), s8, s9, s10, .val (.int (i0 &&& (3 : Int32))), s12, s13, s14, s15, s16, s17, s18, s19] [(.int i0)])) _
  refine XS.iconst X0.here hx rfl (hb hby at_206) ?_
  show Steps p.tables e below (T0.setTop (mkF m 207 #[.val (.int i0), s1, s2, s3, s4, s5, s6, .val (.ref o7), s8, s9, s10, .val (.int (i0 &&& (3 : Int32))), s12, s13, s14, s15, s16, s17, s18, s19] [(.int (2 : Int32)), (.int i0)])) _
  refine XS.iushr X0.here hx rfl (hb hby at_207) rfl ?_
  show Steps p.tables e below (T0.setTop (mkF m 208 #[.val (.int i0), s1, s2, s3, s4, s5, s6, .val (.ref o7), s8, s9, s10, .val (.int (i0 &&& (3 : Int32))), s12, s13, s14, s15, s16, s17, s18, s19] [(.int ((i0.toUInt32 >>> ((2 : Int32) &&& 31).toUInt32).toInt32))])) _
  refine XS.iconst X0.here hx rfl (hb hby at_208) ?_
  show Steps p.tables e below (T0.setTop (mkF m 209 #[.val (.int i0), s1, s2, s3, s4, s5, s6, .val (.ref o7), s8, s9, s10, .val (.int (i0 &&& (3 : Int32))), s12, s13, s14, s15, s16, s17, s18, s19] [(.int (3 : Int32)), (.int ((i0.toUInt32 >>> ((2 : Int32) &&& 31).toUInt32).toInt32))])) _
  refine XS.iand X0.here hx rfl (hb hby at_209) rfl ?_
  show Steps p.tables e below (T0.setTop (mkF m 210 #[.val (.int i0), s1, s2, s3, s4, s5, s6, .val (.ref o7), s8, s9, s10, .val (.int (i0 &&& (3 : Int32))), s12, s13, s14, s15, s16, s17, s18, s19] [(.int (((i0.toUInt32 >>> ((2 : Int32) &&& 31).toUInt32).toInt32) &&& (3 : Int32)))])) _
  refine XS.istore X0.here hx rfl (hb hby at_210) rfl (l' := #[.val (.int i0), s1, s2, s3, s4, s5, s6, .val (.ref o7), s8, s9, s10, .val (.int (i0 &&& (3 : Int32))), .val (.int (((i0.toUInt32 >>> ((2 : Int32) &&& 31).toUInt32).toInt32) &&& (3 : Int32))), s13, s14, s15, s16, s17, s18, s19]) (os0_210 hs12) ?_
  show Steps p.tables e below (T0.setTop (mkF m 212 #[.val (.int i0), s1, s2, s3, s4, s5, s6, .val (.ref o7), s8, s9, s10, .val (.int (i0 &&& (3 : Int32))), .val (.int (((i0.toUInt32 >>> ((2 : Int32) &&& 31).toUInt32).toInt32) &&& (3 : Int32))), s13, s14, s15, s16, s17, s18, s19] [])) _
  refine XS.iloadN X0.here hx rfl (hb hby at_212) rfl ?_
  show Steps p.tables e below (T0.setTop (mkF m 213 #[.val (.int i0), s1, s2, s3, s4, s5, s6, .val (.ref o7), s8, s9, s10, .val (.int (i0 &&& (3 : Int32))), .val (.int (((i0.toUInt32 >>> ((2 : Int32) &&& 31).toUInt32).toInt32) &&& (3 : Int32))), s13, s14, s15, s16, s17, s18, s19] [(.int i0)])) _
  refine XS.iconst X0.here hx rfl (hb hby at_213) ?_
  show Steps p.tables e below (T0.setTop (mkF m 214 #[.val (.int i0), s1, s2, s3, s4, s5, s6, .val (.ref o7), s8, s9, s10, .val (.int (i0 &&& (3 : Int32))), .val (.int (((i0.toUInt32 >>> ((2 : Int32) &&& 31).toUInt32).toInt32) &&& (3 : Int32))), s13, s14, s15, s16, s17, s18, s19] [(.int (4 : Int32)), (.int i0)])) _
  refine XS.iushr X0.here hx rfl (hb hby at_214) rfl ?_
  show Steps p.tables e below (T0.setTop (mkF m 215 #[.val (.int i0), s1, s2, s3, s4, s5, s6, .val (.ref o7), s8, s9, s10, .val (.int (i0 &&& (3 : Int32))), .val (.int (((i0.toUInt32 >>> ((2 : Int32) &&& 31).toUInt32).toInt32) &&& (3 : Int32))), s13, s14, s15, s16, s17, s18, s19] [(.int ((i0.toUInt32 >>> ((4 : Int32) &&& 31).toUInt32).toInt32))])) _
  refine XS.iconst X0.here hx rfl (hb hby at_215) ?_
  show Steps p.tables e below (T0.setTop (mkF m 216 #[.val (.int i0), s1, s2, s3, s4, s5, s6, .val (.ref o7), s8, s9, s10, .val (.int (i0 &&& (3 : Int32))), .val (.int (((i0.toUInt32 >>> ((2 : Int32) &&& 31).toUInt32).toInt32) &&& (3 : Int32))), s13, s14, s15, s16, s17, s18, s19] [(.int (3 : Int32)), (.int ((i0.toUInt32 >>> ((4 : Int32) &&& 31).toUInt32).toInt32))])) _
  refine XS.iand X0.here hx rfl (hb hby at_216) rfl ?_
  show Steps p.tables e below (T0.setTop (mkF m 217 #[.val (.int i0), s1, s2, s3, s4, s5, s6, .val (.ref o7), s8, s9, s10, .val (.int (i0 &&& (3 : Int32))), .val (.int (((i0.toUInt32 >>> ((2 : Int32) &&& 31).toUInt32).toInt32) &&& (3 : Int32))), s13, s14, s15, s16, s17, s18, s19] [(.int (((i0.toUInt32 >>> ((4 : Int32) &&& 31).toUInt32).toInt32) &&& (3 : Int32)))])) _
  refine XS.istore X0.here hx rfl (hb hby at_217) rfl (l' := #[.val (.int i0), s1, s2, s3, s4, s5, s6, .val (.ref o7), s8, s9, s10, .val (.int (i0 &&& (3 : Int32))), .val (.int (((i0.toUInt32 >>> ((2 : Int32) &&& 31).toUInt32).toInt32) &&& (3 : Int32))), .val (.int (((i0.toUInt32 >>> ((4 : Int32) &&& 31).toUInt32).toInt32) &&& (3 : Int32))), s14, s15, s16, s17, s18, s19]) (os0_217 hs13) ?_
  show Steps p.tables e below (T0.setTop (mkF m 219 #[.val (.int i0), s1, s2, s3, s4, s5, s6, .val (.ref o7), s8, s9, s10, .val (.int (i0 &&& (3 : Int32))), .val (.int (((i0.toUInt32 >>> ((2 : Int32) &&& 31).toUInt32).toInt32) &&& (3 : Int32))), .val (.int (((i0.toUInt32 >>> ((4 : Int32) &&& 31).toUInt32).toInt32) &&& (3 : Int32))), s14, s15, s16, s17, s18, s19] [])) _
  refine XS.iloadN X0.here hx rfl (hb hby at_219) rfl ?_
  show Steps p.tables e below (T0.setTop (mkF m 220 #[.val (.int i0), s1, s2, s3, s4, s5, s6, .val (.ref o7), s8, s9, s10, .val (.int (i0 &&& (3 : Int32))), .val (.int (((i0.toUInt32 >>> ((2 : Int32) &&& 31).toUInt32).toInt32) &&& (3 : Int32))), .val (.int (((i0.toUInt32 >>> ((4 : Int32) &&& 31).toUInt32).toInt32) &&& (3 : Int32))), s14, s15, s16, s17, s18, s19] [(.int i0)])) _
  refine XS.bipush X0.here hx rfl (hb hby at_220) ?_
  show Steps p.tables e below (T0.setTop (mkF m 222 #[.val (.int i0), s1, s2, s3, s4, s5, s6, .val (.ref o7), s8, s9, s10, .val (.int (i0 &&& (3 : Int32))), .val (.int (((i0.toUInt32 >>> ((2 : Int32) &&& 31).toUInt32).toInt32) &&& (3 : Int32))), .val (.int (((i0.toUInt32 >>> ((4 : Int32) &&& 31).toUInt32).toInt32) &&& (3 : Int32))), s14, s15, s16, s17, s18, s19] [(.int (6 : Int32)), (.int i0)])) _
  refine XS.iushr X0.here hx rfl (hb hby at_222) rfl ?_
  show Steps p.tables e below (T0.setTop (mkF m 223 #[.val (.int i0), s1, s2, s3, s4, s5, s6, .val (.ref o7), s8, s9, s10, .val (.int (i0 &&& (3 : Int32))), .val (.int (((i0.toUInt32 >>> ((2 : Int32) &&& 31).toUInt32).toInt32) &&& (3 : Int32))), .val (.int (((i0.toUInt32 >>> ((4 : Int32) &&& 31).toUInt32).toInt32) &&& (3 : Int32))), s14, s15, s16, s17, s18, s19] [(.int ((i0.toUInt32 >>> ((6 : Int32) &&& 31).toUInt32).toInt32))])) _
  refine XS.iconst X0.here hx rfl (hb hby at_223) ?_
  show Steps p.tables e below (T0.setTop (mkF m 224 #[.val (.int i0), s1, s2, s3, s4, s5, s6, .val (.ref o7), s8, s9, s10, .val (.int (i0 &&& (3 : Int32))), .val (.int (((i0.toUInt32 >>> ((2 : Int32) &&& 31).toUInt32).toInt32) &&& (3 : Int32))), .val (.int (((i0.toUInt32 >>> ((4 : Int32) &&& 31).toUInt32).toInt32) &&& (3 : Int32))), s14, s15, s16, s17, s18, s19] [(.int (3 : Int32)), (.int ((i0.toUInt32 >>> ((6 : Int32) &&& 31).toUInt32).toInt32))])) _
  refine XS.iand X0.here hx rfl (hb hby at_224) rfl ?_
  show Steps p.tables e below (T0.setTop (mkF m 225 #[.val (.int i0), s1, s2, s3, s4, s5, s6, .val (.ref o7), s8, s9, s10, .val (.int (i0 &&& (3 : Int32))), .val (.int (((i0.toUInt32 >>> ((2 : Int32) &&& 31).toUInt32).toInt32) &&& (3 : Int32))), .val (.int (((i0.toUInt32 >>> ((4 : Int32) &&& 31).toUInt32).toInt32) &&& (3 : Int32))), s14, s15, s16, s17, s18, s19] [(.int (((i0.toUInt32 >>> ((6 : Int32) &&& 31).toUInt32).toInt32) &&& (3 : Int32)))])) _
  refine XS.istore X0.here hx rfl (hb hby at_225) rfl (l' := #[.val (.int i0), s1, s2, s3, s4, s5, s6, .val (.ref o7), s8, s9, s10, .val (.int (i0 &&& (3 : Int32))), .val (.int (((i0.toUInt32 >>> ((2 : Int32) &&& 31).toUInt32).toInt32) &&& (3 : Int32))), .val (.int (((i0.toUInt32 >>> ((4 : Int32) &&& 31).toUInt32).toInt32) &&& (3 : Int32))), .val (.int (((i0.toUInt32 >>> ((6 : Int32) &&& 31).toUInt32).toInt32) &&& (3 : Int32))), s15, s16, s17, s18, s19]) (os0_225 hs14) ?_
  show Steps p.tables e below (T0.setTop (mkF m 227 #[.val (.int i0), s1, s2, s3, s4, s5, s6, .val (.ref o7), s8, s9, s10, .val (.int (i0 &&& (3 : Int32))), .val (.int (((i0.toUInt32 >>> ((2 : Int32) &&& 31).toUInt32).toInt32) &&& (3 : Int32))), .val (.int (((i0.toUInt32 >>> ((4 : Int32) &&& 31).toUInt32).toInt32) &&& (3 : Int32))), .val (.int (((i0.toUInt32 >>> ((6 : Int32) &&& 31).toUInt32).toInt32) &&& (3 : Int32))), s15, s16, s17, s18, s19] [])) _
  refine st7 _ ?_
  show Steps p.tables e below (T7.setTop (mkF m 230 #[.val (.int i0), s1, s2, s3, s4, s5, s6, .val (.ref o7), s8, s9, s10, .val (.int (i0 &&& (3 : Int32))), .val (.int (((i0.toUInt32 >>> ((2 : Int32) &&& 31).toUInt32).toInt32) &&& (3 : Int32))), .val (.int (((i0.toUInt32 >>> ((4 : Int32) &&& 31).toUInt32).toInt32) &&& (3 : Int32))), .val (.int (((i0.toUInt32 >>> ((6 : Int32) &&& 31).toUInt32).toInt32) &&& (3 : Int32))), s15, s16, s17, s18, s19] [(.ref b7)])) _
  refine XS.dup X7.here hx rfl (hb hby at_230) rfl rfl ?_
  show Steps p.tables e below (T7.setTop (mkF m 231 #[.val (.int i0), s1, s2, s3, s4, s5, s6, .val (.ref o7), s8, s9, s10, .val (.int (i0 &&& (3 : Int32))), .val (.int (((i0.toUInt32 >>> ((2 : Int32) &&& 31).toUInt32).toInt32) &&& (3 : Int32))), .val (.int (((i0.toUInt32 >>> ((4 : Int32) &&& 31).toUInt32).toInt32) &&& (3 : Int32))), .val (.int (((i0.toUInt32 >>> ((6 : Int32) &&& 31).toUInt32).toInt32) &&& (3 : Int32))), s15, s16, s17, s18, s19] [(.ref b7), (.ref b7)])) _
  refine st8 _ ?_
  show Steps p.tables e below (T8.setTop (mkF m 234 #[.val (.int i0), s1, s2, s3, s4, s5, s6, .val (.ref o7), s8, s9, s10, .val (.int (i0 &&& (3 : Int32))), .val (.int (((i0.toUInt32 >>> ((2 : Int32) &&& 31).toUInt32).toInt32) &&& (3 : Int32))), .val (.int (((i0.toUInt32 >>> ((4 : Int32) &&& 31).toUInt32).toInt32) &&& (3 : Int32))), .val (.int (((i0.toUInt32 >>> ((6 : Int32) &&& 31).toUInt32).toInt32) &&& (3 : Int32))), s15, s16, s17, s18, s19] [(.ref b8), (.ref b7), (.ref b7)])) _
  refine XS.dup X8.here hx rfl (hb hby at_234) rfl rfl ?_
  show Steps p.tables e below (T8.setTop (mkF m 235 #[.val (.int i0), s1, s2, s3, s4, s5, s6, .val (.ref o7), s8, s9, s10, .val (.int (i0 &&& (3 : Int32))), .val (.int (((i0.toUInt32 >>> ((2 : Int32) &&& 31).toUInt32).toInt32) &&& (3 : Int32))), .val (.int (((i0.toUInt32 >>> ((4 : Int32) &&& 31).toUInt32).toInt32) &&& (3 : Int32))), .val (.int (((i0.toUInt32 >>> ((6 : Int32) &&& 31).toUInt32).toInt32) &&& (3 : Int32))), s15, s16, s17, s18, s19] [(.ref b8), (.ref b8), (.ref b7), (.ref b7)])) _
  refine XS.aload X8.here hx rfl (hb hby at_235) rfl rfl ?_
  show Steps p.tables e below (T8.setTop (mkF m 237 #[.val (.int i0), s1, s2, s3, s4, s5, s6, .val (.ref o7), s8, s9, s10, .val (.int (i0 &&& (3 : Int32))), .val (.int (((i0.toUInt32 >>> ((2 : Int32) &&& 31).toUInt32).toInt32) &&& (3 : Int32))), .val (.int (((i0.toUInt32 >>> ((4 : Int32) &&& 31).toUInt32).toInt32) &&& (3 : Int32))), .val (.int (((i0.toUInt32 >>> ((6 : Int32) &&& 31).toUInt32).toInt32) &&& (3 : Int32))), s15, s16, s17, s18, s19] [(.ref o7), (.ref b8), (.ref b8), (.ref b7), (.ref b7)])) _
  refine st9.trans ?_
  show Steps p.tables e below (T9.setTop (mkF m 240 #[.val (.int i0), s1, s2, s3, s4, s5, s6, .val (.ref o7), s8, s9, s10, .val (.int (i0 &&& (3 : Int32))), .val (.int (((i0.toUInt32 >>> ((2 : Int32) &&& 31).toUInt32).toInt32) &&& (3 : Int32))), .val (.int (((i0.toUInt32 >>> ((4 : Int32) &&& 31).toUInt32).toInt32) &&& (3 : Int32))), .val (.int (((i0.toUInt32 >>> ((6 : Int32) &&& 31).toUInt32).toInt32) &&& (3 : Int32))), s15, s16, s17, s18, s19] [(.ref b8), (.ref b7), (.ref b7)])) _
  refine XS.iloadN X9.here hx rfl (hb hby at_240) rfl ?_
  show Steps p.tables e below (T9.setTop (mkF m 241 #[.val (.int i0), s1, s2, s3, s4, s5, s6, .val (.ref o7), s8, s9, s10, .val (.int (i0 &&& (3 : Int32))), .val (.int (((i0.toUInt32 >>> ((2 : Int32) &&& 31).toUInt32).toInt32) &&& (3 : Int32))), .val (.int (((i0.toUInt32 >>> ((4 : Int32) &&& 31).toUInt32).toInt32) &&& (3 : Int32))), .val (.int (((i0.toUInt32 >>> ((6 : Int32) &&& 31).toUInt32).toInt32) &&& (3 : Int32))), s15, s16, s17, s18, s19] [(.int i0), (.ref b8), (.ref b7), (.ref b7)])) _
  refine XS.bipush X9.here hx rfl (hb hby at_241) ?_
  show Steps p.tables e below (T9.setTop (mkF m 243 #[.val (.int i0), s1, s2, s3, s4, s5, s6, .val (.ref o7), s8, s9, s10, .val (.int (i0 &&& (3 : Int32))), .val (.int (((i0.toUInt32 >>> ((2 : Int32) &&& 31).toUInt32).toInt32) &&& (3 : Int32))), .val (.int (((i0.toUInt32 >>> ((4 : Int32) &&& 31).toUInt32).toInt32) &&& (3 : Int32))), .val (.int (((i0.toUInt32 >>> ((6 : Int32) &&& 31).toUInt32).toInt32) &&& (3 : Int32))), s15, s16, s17, s18, s19] [(.int (12 : Int32)), (.int i0), (.ref b8), (.ref b7), (.ref b7)])) _
  refine XS.iushr X9.here hx rfl (hb hby at_243) rfl ?_
  show Steps p.tables e below (T9.setTop (mkF m 244 #[.val (.int i0), s1, s2, s3, s4, s5, s6, .val (.ref o7), s8, s9, s10, .val (.int (i0 &&& (3 : Int32))), .val (.int (((i0.toUInt32 >>> ((2 : Int32) &&& 31).toUInt32).toInt32) &&& (3 : Int32))), .val (.int (((i0.toUInt32 >>> ((4 : Int32) &&& 31).toUInt32).toInt32) &&& (3 : Int32))), .val (.int (((i0.toUInt32 >>> ((6 : Int32) &&& 31).toUInt32).toInt32) &&& (3 : Int32))), s15, s16, s17, s18, s19] [(.int ((i0.toUInt32 >>> ((12 : Int32) &&& 31).toUInt32).toInt32)), (.ref b8), (.ref b7), (.ref b7)])) _
  refine XS.iconst X9.here hx rfl (hb hby at_244) ?_
  show Steps p.tables e below (T9.setTop (mkF m 245 #[.val (.int i0), s1, s2, s3, s4, s5, s6, .val (.ref o7), s8, s9, s10, .val (.int (i0 &&& (3 : Int32))), .val (.int (((i0.toUInt32 >>> ((2 : Int32) &&& 31).toUInt32).toInt32) &&& (3 : Int32))), .val (.int (((i0.toUInt32 >>> ((4 : Int32) &&& 31).toUInt32).toInt32) &&& (3 : Int32))), .val (.int (((i0.toUInt32 >>> ((6 : Int32) &&& 31).toUInt32).toInt32) &&& (3 : Int32))), s15, s16, s17, s18, s19] [(.int (1 : Int32)), (.int ((i0.toUInt32 >>> ((12 : Int32) &&& 31).toUInt32).toInt32)), (.ref b8), (.ref b7), (.ref b7)])) _
  refine XS.iand X9.here hx rfl (hb hby at_245) rfl ?_
  show Steps p.tables e below (T9.setTop (mkF m 246 #[.val (.int i0), s1, s2, s3, s4, s5, s6, .val (.ref o7), s8, s9, s10, .val (.int (i0 &&& (3 : Int32))), .val (.int (((i0.toUInt32 >>> ((2 : Int32) &&& 31).toUInt32).toInt32) &&& (3 : Int32))), .val (.int (((i0.toUInt32 >>> ((4 : Int32) &&& 31).toUInt32).toInt32) &&& (3 : Int32))), .val (.int (((i0.toUInt32 >>> ((6 : Int32) &&& 31).toUInt32).toInt32) &&& (3 : Int32))), s15, s16, s17, s18, s19] [(.int (((i0.toUInt32 >>> ((12 : Int32) &&& 31).toUInt32).toInt32) &&& (1 : Int32))), (.ref b8), (.ref b7), (.ref b7)])) _
  refine XS.ifYes X9.here hx rfl (pc0 := 246) (pc' := 253) rfl (hb hby at_246) rfl ((if0 _ _).trans (teq hc246).1) (by decide) (by decide) ?_
  show Steps p.tables e below (T9.setTop (mkF m 253 #[.val (.int i0), s1, s2, s3, s4, s5, s6, .val (.ref o7), s8, s9, s10, .val (.int (i0 &&& (3 : Int32))), .val (.int (((i0.toUInt32 >>> ((2 : Int32) &&& 31).toUInt32).toInt32) &&& (3 : Int32))), .val (.int (((i0.toUInt32 >>> ((4 : Int32) &&& 31).toUInt32).toInt32) &&& (3 : Int32))), .val (.int (((i0.toUInt32 >>> ((6 : Int32) &&& 31).toUInt32).toInt32) &&& (3 : Int32))), s15, s16, s17, s18, s19] [(.ref b8), (.ref b7), (.ref b7)])) _
  refine XS.iconst X9.here hx rfl (hb hby at_253) ?_
  show Steps p.tables e below (T9.setTop (mkF m 254 #[.val (.int i0), s1, s2, s3, s4, s5, s6, .val (.ref o7), s8, s9, s10, .val (.int (i0 &&& (3 : Int32))), .val (.int (((i0.toUInt32 >>> ((2 : Int32) &&& 31).toUInt32).toInt32) &&& (3 : Int32))), .val (.int (((i0.toUInt32 >>> ((4 : Int32) &&& 31).toUInt32).toInt32) &&& (3 : Int32))), .val (.int (((i0.toUInt32 >>> ((6 : Int32) &&& 31).toUInt32).toInt32) &&& (3 : Int32))), s15, s16, s17, s18, s19] [(.int (0 : Int32)), (.ref b8), (.ref b7), (.ref b7)])) _
  refine st10.trans ?_
  show Steps p.tables e below (T10.setTop (mkF m 257 #[.val (.int i0), s1, s2, s3, s4, s5, s6, .val (.ref o7), s8, s9, s10, .val (.int (i0 &&& (3 : Int32))), .val (.int (((i0.toUInt32 >>> ((2 : Int32) &&& 31).toUInt32).toInt32) &&& (3 : Int32))), .val (.int (((i0.toUInt32 >>> ((4 : Int32) &&& 31).toUInt32).toInt32) &&& (3 : Int32))), .val (.int (((i0.toUInt32 >>> ((6 : Int32) &&& 31).toUInt32).toInt32) &&& (3 : Int32))), s15, s16, s17, s18, s19] [(.ref b7)])) _
  refine XS.astore X10.here hx rfl (hb hby at_257) rfl rfl (l' := #[.val (.int i0), s1, s2, s3, s4, s5, s6, .val (.ref o7), s8, s9, s10, .val (.int (i0 &&& (3 : Int32))), .val (.int (((i0.toUInt32 >>> ((2 : Int32) &&& 31).toUInt32).toInt32) &&& (3 : Int32))), .val (.int (((i0.toUInt32 >>> ((4 : Int32) &&& 31).toUInt32).toInt32) &&& (3 : Int32))), .val (.int (((i0.toUInt32 >>> ((6 : Int32) &&& 31).toUInt32).toInt32) &&& (3 : Int32))), .val (.ref b7), s16, s17, s18, s19]) (os0_257 hs15) ?_
  exact kt
def own_tt (o : Int32) (t0 t1 t2 : Addr) : Option Addr := if o = 0 then some t0 else if o = 1 then some t1 else if o = 2 then some t2 else none
def own_Inv (Z : State) (h : Heap) (n0 : Nat) (kO kV : ClassId) (ow va sy t0 t1 t2 : Addr) (v0 v1 v2 v3 : Value) (CH : List (Addr × Addr × Value)) (hd : Value) : Prop :=
  n0 ≤ h.size ∧ Arv Z h ow kO (.object "java/lang/Object") (3 : Int32) [.ref t0, .ref t1, .ref t2] .null ∧ Arv Z h va kV (.object "java/lang/Object") (4 : Int32) [v0, v1, v2, v3] .null ∧ Exa Z h sy "com/example/fixpoint/fixpoint/expr/Symbol" ∧ Fld Z h sy "com/example/fixpoint/fixpoint/expr/Symbol" "attachments" "Lcom/example/fixpoint/fixpoint/expr/Symbol$Attachment;" hd ∧ Chn Z h CH hd ∧ (own_adr CH).Nodup ∧ (∀ a ∈ own_adr CH, n0 ≤ a ∧ a ≠ ow ∧ a ≠ va ∧ a ≠ sy) ∧ sy ≠ ow ∧ sy ≠ va ∧ n0 ≤ sy
theorem own_Inv.step {Z : State} {h h' : Heap} {n0 : Nat} {kO kV : ClassId} {ow va sy t0 t1 t2 : Addr} {v0 v1 v2 v3 : Value} {CH CH' : List (Addr × Addr × Value)} {hd hd' : Value} (I : own_Inv Z h n0 kO kV ow va sy t0 t1 t2 v0 v1 v2 v3 CH hd) (K : Keep h h' (sy :: own_adr CH)) (E : Exa Z h' sy "com/example/fixpoint/fixpoint/expr/Symbol") (F : Fld Z h' sy "com/example/fixpoint/fixpoint/expr/Symbol" "attachments" "Lcom/example/fixpoint/fixpoint/expr/Symbol$Attachment;" hd') (C : Chn Z h' CH' hd') (nd : (own_adr CH').Nodup) (ad : ∀ a ∈ own_adr CH', a ∈ own_adr CH ∨ h.size ≤ a) : own_Inv Z h' n0 kO kV ow va sy t0 t1 t2 v0 v1 v2 v3 CH' hd' := by
  obtain ⟨Z0, VO, VV, E0, F0, C0, nd0, A0, s1, s2, gs⟩ := I
  have no : ow ∉ sy :: own_adr CH := fun q => (List.mem_cons.mp q).elim (fun z => s1 z.symm) (fun z => (A0 _ z).2.1 rfl)
  have nv : va ∉ sy :: own_adr CH := fun q => (List.mem_cons.mp q).elim (fun z => s2 z.symm) (fun z => (A0 _ z).2.2.1 rfl)
  refine ⟨Nat.le_trans Z0 K.1, VO.keep K no, VV.keep K nv, E, F, C, nd, fun a ha => ?_, s1, s2, gs⟩
  rcases ad a ha with q | q
  · exact A0 a q
  · exact ⟨Nat.le_trans Z0 q, fun z => Nat.lt_irrefl _ (Nat.lt_of_lt_of_le VO.lt (z ▸ q)), fun z => Nat.lt_irrefl _ (Nat.lt_of_lt_of_le VV.lt (z ▸ q)), fun z => Nat.lt_irrefl _ (Nat.lt_of_lt_of_le E0.lt (z ▸ q))⟩
set_option maxRecDepth 65536 in
set_option maxHeartbeats 40000000 in
theorem own_ds0 {p : Program} {l : Launch} {e : Env} {R : Room} {s : State} {m : MethodId} {args : Array Value} {below : List Frame} {meth : Method} {c : Code} {T0 : State} {locs : List Loc} {cells slots : Nat} {Z : State} {a0 : Array Value} {h0 : Heap} (s0 : Slot) (s1 : Slot) (s2 : Slot) (s3 : Slot) (s4 : Slot) (s5 : Slot) (s6 : Slot) (s7 : Slot) (s8 : Slot) (s9 : Slot) (s10 : Slot) (i11 : Int32) (s12 : Slot) (s13 : Slot) (s14 : Slot) (s15 : Slot) (s16 : Slot) (s17 : Slot) (s18 : Slot) (s19 : Slot)
    (X0 : Stand p l e R s m args below meth c T0 locs cells slots) (hx : p.tables.exec = Jvm.exec) (hZ : Z.Warmed39 s.vm) (hw : ∀ d ∈ tables_1, d.before a0 Z = true) (hby : c.code = code) (hml : c.maxLocals = 20) (hown : s.vm.findClass "com/example/fixpoint/fixpoint/expr/SymbolAttachmentPinLaw" = some m.cls) (e0 : T0.heap = h0) (hc262 : i11 = (3 : Int32)) :
    ∃ (T' : State), Stand p l e R s m args below meth c T' locs cells slots ∧ T'.heap = h0 ∧
      ∀ target, Steps p.tables e below (T'.setTop (mkF m 279 #[s0, s1, s2, s3, s4, s5, s6, s7, s8, s9, s10, .val (.int i11), s12, s13, s14, s15, s16, s17, s18, s19] [])) target → Steps p.tables e below (T0.setTop (mkF m 259 #[s0, s1, s2, s3, s4, s5, s6, s7, s8, s9, s10, .val (.int i11), s12, s13, s14, s15, s16, s17, s18, s19] [])) target := by

  refine ⟨T0, X0, e0, fun target kt => ?_⟩
  show Steps p.tables e below (T0.setTop (mkF m 259 #[s0, s1, s2, s3, s4, s5, s6, s7, s8, s9, s10, .val (.int i11), s12, s13, s14, s15, s16, s17, s18, s19] [])) _
  refine XS.iload X0.here hx rfl (hb hby at_259) rfl ?_
  show Steps p.tables e below (T0.setTop (mkF m 261 #[s0, s1, s2, s3, s4, s5, s6, s7, s8, s9, s10, .val (.int i11), s12, s13, s14, s15, s16, s17, s18, s19] [(.int i11)])) _
  refine XS.iconst X0.here hx rfl (hb hby at_261) ?_
  show Steps p.tables e below (T0.setTop (mkF m 262 #[s0, s1, s2, s3, s4, s5, s6, s7, s8, s9, s10, .val (.int i11), s12, s13, s14, s15, s16, s17, s18, s19] [(.int (3 : Int32)), (.int i11)])) _
  refine XS.icmpYes X0.here hx rfl (pc0 := 262) (pc' := 279) rfl (hb hby at_262) rfl (teq hc262).1 (by decide) (by decide) ?_
  exact kt
theorem pd_0_15 : parseMethodDescriptor "(Ljava/lang/Object;Ljava/lang/Object;)V" = some ⟨[(.object "java/lang/Object"), (.object "java/lang/Object")], none⟩ := by decide +kernel
set_option maxRecDepth 65536 in
set_option maxHeartbeats 40000000 in
theorem own_da0 {p : Program} {l : Launch} {e : Env} {s : State} {m : MethodId} {args : Array Value} {below : List Frame} {meth : Method} {c : Code} {T0 : State} {locs : List Loc} {cells slots : Nat} {Z : State} {a0 : Array Value} {h0 : Heap} {n0 : Nat} (s0 : Slot) (s1 : Slot) (s2 : Slot) (s3 : Slot) (s4 : Slot) (s5 : Slot) (s6 : Slot) (s7 : Slot) (o8 : Addr) (s9 : Slot) (o10 : Addr) (i11 : Int32) (s12 : Slot) (s13 : Slot) (s14 : Slot) (o15 : Addr) (s16 : Slot) (s17 : Slot) (s18 : Slot) (s19 : Slot) (w7 : Addr) (cl_o8 : Cell) (w8 : Value) (cl_o10 : Cell) (CH : List (Addr × Addr × Value)) (hd : Value)
    (X0 : Stand p l e room_1 s m args below meth c T0 locs cells slots) (hx : p.tables.exec = Jvm.exec) (hZ : Z.Warmed39 s.vm) (hw : ∀ d ∈ tables_1, d.before a0 Z = true) (hby : c.code = code) (hml : c.maxLocals = 20) (hown : s.vm.findClass "com/example/fixpoint/fixpoint/expr/SymbolAttachmentPinLaw" = some m.cls) (e0 : T0.heap = h0) (h_w8 : Rf w8) (Ar_o8 : Arr Z h0 o8 cl_o8 (.object "java/lang/Object")) (hin271 : ¬ (i11 < 0 ∨ cl_o8.slots.size ≤ (i11).toNatClampNeg)) (hat271 : cl_o8.slots[(i11).toNatClampNeg]? = some (.ref w7)) (Ar_o10 : Arr Z h0 o10 cl_o10 (.object "java/lang/Object")) (hin275 : ¬ ((0 : Int32) < 0 ∨ cl_o10.slots.size ≤ ((0 : Int32)).toNatClampNeg)) (hat275 : cl_o10.slots[((0 : Int32)).toNatClampNeg]? = some w8) (E_o15 : Exa Z h0 o15 "com/example/fixpoint/fixpoint/expr/Symbol") (hc262 : ¬ (i11 = (3 : Int32))) (F : Fld Z h0 o15 "com/example/fixpoint/fixpoint/expr/Symbol" "attachments" "Lcom/example/fixpoint/fixpoint/expr/Symbol$Attachment;" hd) (C : Chn Z h0 CH hd) (nd : (own_adr CH).Nodup) (nsy : o15 ∉ own_adr CH) (gs : n0 ≤ o15) (ga : ∀ a ∈ own_adr CH, n0 ≤ a) (Z0 : n0 ≤ h0.size) (N : Fr n0 locs) (hcl : cells ≤ 40) (hsl : slots ≤ 120) :
    ∃ (T' : State) (h' : Heap) (locs' : List Loc) (CH' : List (Addr × Addr × Value)) (hd' : Value), Stand p l e room_1 s m args below meth c T' locs' (cells + 1) (slots + 3) ∧ T'.heap = h' ∧ Fr n0 locs' ∧ Keep h0 h' (o15 :: own_adr CH) ∧ Exa Z h' o15 "com/example/fixpoint/fixpoint/expr/Symbol" ∧ Fld Z h' o15 "com/example/fixpoint/fixpoint/expr/Symbol" "attachments" "Lcom/example/fixpoint/fixpoint/expr/Symbol$Attachment;" hd' ∧ Chn Z h' CH' hd' ∧ (own_adr CH').Nodup ∧ (∀ a ∈ own_adr CH', a ∈ own_adr CH ∨ h0.size ≤ a) ∧ (∀ x, own_look CH' x = if w7 = x then w8 else own_look CH x) ∧
      ∀ target, Steps p.tables e below (T'.setTop (mkF m 279 #[s0, s1, s2, s3, s4, s5, s6, s7, .val (.ref o8), s9, .val (.ref o10), .val (.int i11), s12, s13, s14, .val (.ref o15), s16, s17, s18, s19] [])) target → Steps p.tables e below (T0.setTop (mkF m 259 #[s0, s1, s2, s3, s4, s5, s6, s7, .val (.ref o8), s9, .val (.ref o10), .val (.int i11), s12, s13, s14, .val (.ref o15), s16, s17, s18, s19] [])) target := by
  have N0 := N
  obtain ⟨cq9, kq9, q9a, q9b, q9c⟩ := isOf hZ e0 E_o15
  obtain ⟨_, _, ⟨T9, L9, k9, n9⟩, -, X9, ⟨Lc9, hQ9, l9, y9, z9⟩, st9⟩ := X0.virtualBack hx (y := (⟨"com/example/fixpoint/fixpoint/expr/Symbol", "attach", "(Ljava/lang/Object;Ljava/lang/Object;)V"⟩ : MethodName)) (z := (⟨"com/example/fixpoint/fixpoint/expr/Symbol", "attach", "(Ljava/lang/Object;Ljava/lang/Object;)V"⟩ : MethodName)) hown (mvT hZ (hw _ (List.mem_of_getElem? (i := 93) rfl))) (mvT hZ (hw _ (List.mem_of_getElem? (i := 94) rfl))) (notFace_of_selects (args := #[]) (mvT hZ (hw _ (List.mem_of_getElem? (i := 96) rfl)))) (mvT hZ (hw _ (List.mem_of_getElem? (i := 96) rfl))) (mvT hZ (hw _ (List.mem_of_getElem? (i := 95) rfl))) (by decide) (backOf (W := 0) (own_att l Z a0 hw o15 w7 w8 CH hd h0 n0 Z0 h_w8 E_o15 F C nd nsy gs ga) hZ (hw _ (List.mem_of_getElem? (i := 97) rfl)) (hw _ (List.mem_of_getElem? (i := 43) rfl)) (by decide) (by decide)) q9a q9c (g := (mkF m 276 #[s0, s1, s2, s3, s4, s5, s6, s7, .val (.ref o8), s9, .val (.ref o10), .val (.int i11), s12, s13, s14, .val (.ref o15), s16, s17, s18, s19] [w8, (.ref w7), (.ref o15)])) rfl (by rw [hml]; rfl) (Steps.refl _) (argsL := [(.ref w7), w8]) (rest := []) (lenOf pd_0_15 rfl) rfl (by show 2 * 0 + _ ≤ _; exact Nat.le_of_eq rfl) (hb hby at_276) (fun _ _ => ⟨rfl, e0, (by show cells + 1 ≤ 56; omega), (by show slots + 3 ≤ 192; omega)⟩)
  dsimp only [Pt.U, Pt.locs, Pt.cells, Pt.slots] at X9 l9 y9 z9 st9 hQ9
  subst l9 y9 z9
  obtain ⟨rfl, N9q, K9, E9, CH', hd', F9, C9, nd9, ad9, lk9⟩ := hQ9
  have N9 := Fr.app N0 N9q
  refine ⟨T9, _, _, CH', hd', X9, rfl, N9, K9, E9, F9, C9, nd9, ad9, lk9, fun target kt => ?_⟩
  show Steps p.tables e below (T0.setTop (mkF m 259 #[s0, s1, s2, s3, s4, s5, s6, s7, .val (.ref o8), s9, .val (.ref o10), .val (.int i11), s12, s13, s14, .val (.ref o15), s16, s17, s18, s19] [])) _
  refine XS.iload X0.here hx rfl (hb hby at_259) rfl ?_
  show Steps p.tables e below (T0.setTop (mkF m 261 #[s0, s1, s2, s3, s4, s5, s6, s7, .val (.ref o8), s9, .val (.ref o10), .val (.int i11), s12, s13, s14, .val (.ref o15), s16, s17, s18, s19] [(.int i11)])) _
  refine XS.iconst X0.here hx rfl (hb hby at_261) ?_
  show Steps p.tables e below (T0.setTop (mkF m 262 #[s0, s1, s2, s3, s4, s5, s6, s7, .val (.ref o8), s9, .val (.ref o10), .val (.int i11), s12, s13, s14, .val (.ref o15), s16, s17, s18, s19] [(.int (3 : Int32)), (.int i11)])) _
  refine XS.icmpNo X0.here hx rfl (hb hby at_262) rfl (feq hc262).1 ?_
  show Steps p.tables e below (T0.setTop (mkF m 265 #[s0, s1, s2, s3, s4, s5, s6, s7, .val (.ref o8), s9, .val (.ref o10), .val (.int i11), s12, s13, s14, .val (.ref o15), s16, s17, s18, s19] [])) _
  refine XS.aload X0.here hx rfl (hb hby at_265) rfl rfl ?_
  show Steps p.tables e below (T0.setTop (mkF m 267 #[s0, s1, s2, s3, s4, s5, s6, s7, .val (.ref o8), s9, .val (.ref o10), .val (.int i11), s12, s13, s14, .val (.ref o15), s16, s17, s18, s19] [(.ref o15)])) _
  refine XS.aload X0.here hx rfl (hb hby at_267) rfl rfl ?_
  show Steps p.tables e below (T0.setTop (mkF m 269 #[s0, s1, s2, s3, s4, s5, s6, s7, .val (.ref o8), s9, .val (.ref o10), .val (.int i11), s12, s13, s14, .val (.ref o15), s16, s17, s18, s19] [(.ref o8), (.ref o15)])) _
  refine XS.iload X0.here hx rfl (hb hby at_269) rfl ?_
  show Steps p.tables e below (T0.setTop (mkF m 271 #[s0, s1, s2, s3, s4, s5, s6, s7, .val (.ref o8), s9, .val (.ref o10), .val (.int i11), s12, s13, s14, .val (.ref o15), s16, s17, s18, s19] [(.int i11), (.ref o8), (.ref o15)])) _
  refine X0.aaload hx (j := i11) (v := (.ref w7)) (by rw [e0]; exact Ar_o8.1) (State.isArrayOf_alike hZ.alike Ar_o8.2.1) rfl Ar_o8.2.2 hin271 hat271 (g := (mkF m 271 #[s0, s1, s2, s3, s4, s5, s6, s7, .val (.ref o8), s9, .val (.ref o10), .val (.int i11), s12, s13, s14, .val (.ref o15), s16, s17, s18, s19] [(.int i11), (.ref o8), (.ref o15)])) rfl rfl (hb hby at_271) _ ?_
  show Steps p.tables e below (T0.setTop (mkF m 272 #[s0, s1, s2, s3, s4, s5, s6, s7, .val (.ref o8), s9, .val (.ref o10), .val (.int i11), s12, s13, s14, .val (.ref o15), s16, s17, s18, s19] [(.ref w7), (.ref o15)])) _
  refine XS.aload X0.here hx rfl (hb hby at_272) rfl rfl ?_
  show Steps p.tables e below (T0.setTop (mkF m 274 #[s0, s1, s2, s3, s4, s5, s6, s7, .val (.ref o8), s9, .val (.ref o10), .val (.int i11), s12, s13, s14, .val (.ref o15), s16, s17, s18, s19] [(.ref o10), (.ref w7), (.ref o15)])) _
  refine XS.iconst X0.here hx rfl (hb hby at_274) ?_
  show Steps p.tables e below (T0.setTop (mkF m 275 #[s0, s1, s2, s3, s4, s5, s6, s7, .val (.ref o8), s9, .val (.ref o10), .val (.int i11), s12, s13, s14, .val (.ref o15), s16, s17, s18, s19] [(.int (0 : Int32)), (.ref o10), (.ref w7), (.ref o15)])) _
  refine X0.aaload hx (j := (0 : Int32)) (v := w8) (by rw [e0]; exact Ar_o10.1) (State.isArrayOf_alike hZ.alike Ar_o10.2.1) rfl Ar_o10.2.2 hin275 hat275 (g := (mkF m 275 #[s0, s1, s2, s3, s4, s5, s6, s7, .val (.ref o8), s9, .val (.ref o10), .val (.int i11), s12, s13, s14, .val (.ref o15), s16, s17, s18, s19] [(.int (0 : Int32)), (.ref o10), (.ref w7), (.ref o15)])) rfl rfl (hb hby at_275) _ ?_
  show Steps p.tables e below (T0.setTop (mkF m 276 #[s0, s1, s2, s3, s4, s5, s6, s7, .val (.ref o8), s9, .val (.ref o10), .val (.int i11), s12, s13, s14, .val (.ref o15), s16, s17, s18, s19] [w8, (.ref w7), (.ref o15)])) _
  refine st9.trans ?_
  exact kt
set_option maxHeartbeats 4000000 in
theorem own_d0 {p : Program} {l : Launch} {e : Env} {s : State} {m : MethodId} {args : Array Value} {below : List Frame} {meth : Method} {c : Code} {T0 : State} {locs : List Loc} {cells slots : Nat} {Z : State} {a0 : Array Value} {h0 : Heap} {n0 : Nat} (s0 : Slot) (s1 : Slot) (s2 : Slot) (s3 : Slot) (s4 : Slot) (s5 : Slot) (s6 : Slot) (s7 : Slot) (s9 : Slot) (s12 : Slot) (s13 : Slot) (s14 : Slot) (s16 : Slot) (s17 : Slot) (s18 : Slot) (s19 : Slot) (kO kV : ClassId) (ow va sy t0 t1 t2 : Addr) (v0 v1 v2 v3 : Value) (o : Int32) (CH : List (Addr × Addr × Value)) (hd : Value) (X0 : Stand p l e room_1 s m args below meth c T0 locs cells slots) (hx : p.tables.exec = Jvm.exec) (hZ : Z.Warmed39 s.vm) (hw : ∀ d ∈ tables_1, d.before a0 Z = true) (hby : c.code = code) (hml : c.maxLocals = 20) (hown : s.vm.findClass "com/example/fixpoint/fixpoint/expr/SymbolAttachmentPinLaw" = some m.cls) (e0 : T0.heap = h0) (I : own_Inv Z h0 n0 kO kV ow va sy t0 t1 t2 v0 v1 v2 v3 CH hd) (hv : Rf v0) (N : Fr n0 locs) (hcl : cells ≤ 40) (hsl : slots ≤ 120) (ho : o = 3 ∨ o = 0 ∨ o = 1 ∨ o = 2) :
    ∃ (T' : State) (h' : Heap) (locs' : List Loc) (cells' slots' : Nat) (CH' : List (Addr × Addr × Value)) (hd' : Value), Stand p l e room_1 s m args below meth c T' locs' cells' slots' ∧ T'.heap = h' ∧ Fr n0 locs' ∧ cells' ≤ cells + 1 ∧ slots' ≤ slots + 3 ∧ own_Inv Z h' n0 kO kV ow va sy t0 t1 t2 v0 v1 v2 v3 CH' hd' ∧ Keep h0 h' (sy :: own_adr CH) ∧ (∀ x, own_look CH' x = if own_tt o t0 t1 t2 = some x then v0 else own_look CH x) ∧
      ∀ target, Steps p.tables e below (T'.setTop (mkF m 279 #[s0, s1, s2, s3, s4, s5, s6, s7, .val (.ref ow), s9, .val (.ref va), .val (.int o), s12, s13, s14, .val (.ref sy), s16, s17, s18, s19] [])) target → Steps p.tables e below (T0.setTop (mkF m 259 #[s0, s1, s2, s3, s4, s5, s6, s7, .val (.ref ow), s9, .val (.ref va), .val (.int o), s12, s13, s14, .val (.ref sy), s16, s17, s18, s19] [])) target := by
  have I0 := I
  obtain ⟨Z0, VO, VV, E, F, C, nd, A0, -, -, gs⟩ := I0
  obtain ⟨cl8, A8, -, S8, -, H8, -⟩ := VO
  obtain ⟨cl10, A10, -, S10, -, H10, -⟩ := VV
  have S8' : cl8.slots.size = 3 := S8
  have S10' : cl10.slots.size = 4 := S10
  rcases ho with ho | ho | ho | ho
  · subst ho
    obtain ⟨T1, X1, e1, st1⟩ := own_ds0 (s0) (s1) (s2) (s3) (s4) (s5) (s6) (s7) (.val (.ref ow)) (s9) (.val (.ref va)) (3 : Int32) (s12) (s13) (s14) (.val (.ref sy)) (s16) (s17) (s18) (s19) X0 hx hZ hw hby hml hown e0 rfl
    exact ⟨T1, h0, locs, cells, slots, CH, hd, X1, e1, N, Nat.le_succ _, Nat.le_add_right _ _, I, Keep.refl _ _, fun x => by rw [show own_tt 3 t0 t1 t2 = none from rfl, if_neg (fun q => nomatch q)], st1⟩
  · subst ho
    obtain ⟨T1, h1, L1, CH', hd', X1, e1, N1, K1, E1, F1, C1, nd1, ad1, lk1, st1⟩ := own_da0 (s0) (s1) (s2) (s3) (s4) (s5) (s6) (s7) ow (s9) va (0 : Int32) (s12) (s13) (s14) sy (s16) (s17) (s18) (s19) t0 cl8 v0 cl10 CH hd X0 hx hZ hw hby hml hown e0 hv A8 (by rw [S8']; decide) (H8 0 (by omega)) A10 (by rw [S10']; decide) (H10 0 (by omega)) E (by decide) F C nd (fun q => (A0 _ q).2.2.2 rfl) gs (fun a ha => (A0 a ha).1) Z0 N hcl hsl
    exact ⟨T1, h1, L1, _, _, CH', hd', X1, e1, N1, Nat.le_refl _, Nat.le_refl _, I.step K1 E1 F1 C1 nd1 ad1, K1, fun x => by rw [lk1 x, show own_tt 0 t0 t1 t2 = some t0 from rfl]; simp only [Option.some.injEq], st1⟩
  · subst ho
    obtain ⟨T1, h1, L1, CH', hd', X1, e1, N1, K1, E1, F1, C1, nd1, ad1, lk1, st1⟩ := own_da0 (s0) (s1) (s2) (s3) (s4) (s5) (s6) (s7) ow (s9) va (1 : Int32) (s12) (s13) (s14) sy (s16) (s17) (s18) (s19) t1 cl8 v0 cl10 CH hd X0 hx hZ hw hby hml hown e0 hv A8 (by rw [S8']; decide) (H8 1 (by omega)) A10 (by rw [S10']; decide) (H10 0 (by omega)) E (by decide) F C nd (fun q => (A0 _ q).2.2.2 rfl) gs (fun a ha => (A0 a ha).1) Z0 N hcl hsl
    exact ⟨T1, h1, L1, _, _, CH', hd', X1, e1, N1, Nat.le_refl _, Nat.le_refl _, I.step K1 E1 F1 C1 nd1 ad1, K1, fun x => by rw [lk1 x, show own_tt 1 t0 t1 t2 = some t1 from rfl]; simp only [Option.some.injEq], st1⟩
  · subst ho
    obtain ⟨T1, h1, L1, CH', hd', X1, e1, N1, K1, E1, F1, C1, nd1, ad1, lk1, st1⟩ := own_da0 (s0) (s1) (s2) (s3) (s4) (s5) (s6) (s7) ow (s9) va (2 : Int32) (s12) (s13) (s14) sy (s16) (s17) (s18) (s19) t2 cl8 v0 cl10 CH hd X0 hx hZ hw hby hml hown e0 hv A8 (by rw [S8']; decide) (H8 2 (by omega)) A10 (by rw [S10']; decide) (H10 0 (by omega)) E (by decide) F C nd (fun q => (A0 _ q).2.2.2 rfl) gs (fun a ha => (A0 a ha).1) Z0 N hcl hsl
    exact ⟨T1, h1, L1, _, _, CH', hd', X1, e1, N1, Nat.le_refl _, Nat.le_refl _, I.step K1 E1 F1 C1 nd1 ad1, K1, fun x => by rw [lk1 x, show own_tt 2 t0 t1 t2 = some t2 from rfl]; simp only [Option.some.injEq], st1⟩
set_option maxRecDepth 65536 in
set_option maxHeartbeats 40000000 in
theorem own_ds1 {p : Program} {l : Launch} {e : Env} {R : Room} {s : State} {m : MethodId} {args : Array Value} {below : List Frame} {meth : Method} {c : Code} {T0 : State} {locs : List Loc} {cells slots : Nat} {Z : State} {a0 : Array Value} {h0 : Heap} (s0 : Slot) (s1 : Slot) (s2 : Slot) (s3 : Slot) (s4 : Slot) (s5 : Slot) (s6 : Slot) (s7 : Slot) (s8 : Slot) (s9 : Slot) (s10 : Slot) (s11 : Slot) (i12 : Int32) (s13 : Slot) (s14 : Slot) (s15 : Slot) (s16 : Slot) (s17 : Slot) (s18 : Slot) (s19 : Slot)
    (X0 : Stand p l e R s m args below meth c T0 locs cells slots) (hx : p.tables.exec = Jvm.exec) (hZ : Z.Warmed39 s.vm) (hw : ∀ d ∈ tables_1, d.before a0 Z = true) (hby : c.code = code) (hml : c.maxLocals = 20) (hown : s.vm.findClass "com/example/fixpoint/fixpoint/expr/SymbolAttachmentPinLaw" = some m.cls) (e0 : T0.heap = h0) (hc282 : i12 = (3 : Int32)) :
    ∃ (T' : State), Stand p l e R s m args below meth c T' locs cells slots ∧ T'.heap = h0 ∧
      ∀ target, Steps p.tables e below (T'.setTop (mkF m 299 #[s0, s1, s2, s3, s4, s5, s6, s7, s8, s9, s10, s11, .val (.int i12), s13, s14, s15, s16, s17, s18, s19] [])) target → Steps p.tables e below (T0.setTop (mkF m 279 #[s0, s1, s2, s3, s4, s5, s6, s7, s8, s9, s10, s11, .val (.int i12), s13, s14, s15, s16, s17, s18, s19] [])) target := by

  refine ⟨T0, X0, e0, fun target kt => ?_⟩
  show Steps p.tables e below (T0.setTop (mkF m 279 #[s0, s1, s2, s3, s4, s5, s6, s7, s8, s9, s10, s11, .val (.int i12), s13, s14, s15, s16, s17, s18, s19] [])) _
  refine XS.iload X0.here hx rfl (hb hby at_279) rfl ?_
  show Steps p.tables e below (T0.setTop (mkF m 281 #[s0, s1, s2, s3, s4, s5, s6, s7, s8, s9, s10, s11, .val (.int i12), s13, s14, s15, s16, s17, s18, s19] [(.int i12)])) _
  refine XS.iconst X0.here hx rfl (hb hby at_281) ?_
  show Steps p.tables e below (T0.setTop (mkF m 282 #[s0, s1, s2, s3, s4, s5, s6, s7, s8, s9, s10, s11, .val (.int i12), s13, s14, s15, s16, s17, s18, s19] [(.int (3 : Int32)), (.int i12)])) _
  refine XS.icmpYes X0.here hx rfl (pc0 := 282) (pc' := 299) rfl (hb hby at_282) rfl (teq hc282).1 (by decide) (by decide) ?_
  exact kt
set_option maxRecDepth 65536 in
set_option maxHeartbeats 40000000 in
theorem own_da1 {p : Program} {l : Launch} {e : Env} {s : State} {m : MethodId} {args : Array Value} {below : List Frame} {meth : Method} {c : Code} {T0 : State} {locs : List Loc} {cells slots : Nat} {Z : State} {a0 : Array Value} {h0 : Heap} {n0 : Nat} (s0 : Slot) (s1 : Slot) (s2 : Slot) (s3 : Slot) (s4 : Slot) (s5 : Slot) (s6 : Slot) (s7 : Slot) (o8 : Addr) (s9 : Slot) (o10 : Addr) (s11 : Slot) (i12 : Int32) (s13 : Slot) (s14 : Slot) (o15 : Addr) (s16 : Slot) (s17 : Slot) (s18 : Slot) (s19 : Slot) (w7 : Addr) (cl_o8 : Cell) (w8 : Value) (cl_o10 : Cell) (CH : List (Addr × Addr × Value)) (hd : Value)
    (X0 : Stand p l e room_1 s m args below meth c T0 locs cells slots) (hx : p.tables.exec = Jvm.exec) (hZ : Z.Warmed39 s.vm) (hw : ∀ d ∈ tables_1, d.before a0 Z = true) (hby : c.code = code) (hml : c.maxLocals = 20) (hown : s.vm.findClass "com/example/fixpoint/fixpoint/expr/SymbolAttachmentPinLaw" = some m.cls) (e0 : T0.heap = h0) (h_w8 : Rf w8) (Ar_o8 : Arr Z h0 o8 cl_o8 (.object "java/lang/Object")) (hin291 : ¬ (i12 < 0 ∨ cl_o8.slots.size ≤ (i12).toNatClampNeg)) (hat291 : cl_o8.slots[(i12).toNatClampNeg]? = some (.ref w7)) (Ar_o10 : Arr Z h0 o10 cl_o10 (.object "java/lang/Object")) (hin295 : ¬ ((1 : Int32) < 0 ∨ cl_o10.slots.size ≤ ((1 : Int32)).toNatClampNeg)) (hat295 : cl_o10.slots[((1 : Int32)).toNatClampNeg]? = some w8) (E_o15 : Exa Z h0 o15 "com/example/fixpoint/fixpoint/expr/Symbol") (hc282 : ¬ (i12 = (3 : Int32))) (F : Fld Z h0 o15 "com/example/fixpoint/fixpoint/expr/Symbol" "attachments" "Lcom/example/fixpoint/fixpoint/expr/Symbol$Attachment;" hd) (C : Chn Z h0 CH hd) (nd : (own_adr CH).Nodup) (nsy : o15 ∉ own_adr CH) (gs : n0 ≤ o15) (ga : ∀ a ∈ own_adr CH, n0 ≤ a) (Z0 : n0 ≤ h0.size) (N : Fr n0 locs) (hcl : cells ≤ 40) (hsl : slots ≤ 120) :
    ∃ (T' : State) (h' : Heap) (locs' : List Loc) (CH' : List (Addr × Addr × Value)) (hd' : Value), Stand p l e room_1 s m args below meth c T' locs' (cells + 1) (slots + 3) ∧ T'.heap = h' ∧ Fr n0 locs' ∧ Keep h0 h' (o15 :: own_adr CH) ∧ Exa Z h' o15 "com/example/fixpoint/fixpoint/expr/Symbol" ∧ Fld Z h' o15 "com/example/fixpoint/fixpoint/expr/Symbol" "attachments" "Lcom/example/fixpoint/fixpoint/expr/Symbol$Attachment;" hd' ∧ Chn Z h' CH' hd' ∧ (own_adr CH').Nodup ∧ (∀ a ∈ own_adr CH', a ∈ own_adr CH ∨ h0.size ≤ a) ∧ (∀ x, own_look CH' x = if w7 = x then w8 else own_look CH x) ∧
      ∀ target, Steps p.tables e below (T'.setTop (mkF m 299 #[s0, s1, s2, s3, s4, s5, s6, s7, .val (.ref o8), s9, .val (.ref o10), s11, .val (.int i12), s13, s14, .val (.ref o15), s16, s17, s18, s19] [])) target → Steps p.tables e below (T0.setTop (mkF m 279 #[s0, s1, s2, s3, s4, s5, s6, s7, .val (.ref o8), s9, .val (.ref o10), s11, .val (.int i12), s13, s14, .val (.ref o15), s16, s17, s18, s19] [])) target := by
  have N0 := N
  obtain ⟨cq9, kq9, q9a, q9b, q9c⟩ := isOf hZ e0 E_o15
  obtain ⟨_, _, ⟨T9, L9, k9, n9⟩, -, X9, ⟨Lc9, hQ9, l9, y9, z9⟩, st9⟩ := X0.virtualBack hx (y := (⟨"com/example/fixpoint/fixpoint/expr/Symbol", "attach", "(Ljava/lang/Object;Ljava/lang/Object;)V"⟩ : MethodName)) (z := (⟨"com/example/fixpoint/fixpoint/expr/Symbol", "attach", "(Ljava/lang/Object;Ljava/lang/Object;)V"⟩ : MethodName)) hown (mvT hZ (hw _ (List.mem_of_getElem? (i := 93) rfl))) (mvT hZ (hw _ (List.mem_of_getElem? (i := 94) rfl))) (notFace_of_selects (args := #[]) (mvT hZ (hw _ (List.mem_of_getElem? (i := 96) rfl)))) (mvT hZ (hw _ (List.mem_of_getElem? (i := 96) rfl))) (mvT hZ (hw _ (List.mem_of_getElem? (i := 95) rfl))) (by decide) (backOf (W := 0) (own_att l Z a0 hw o15 w7 w8 CH hd h0 n0 Z0 h_w8 E_o15 F C nd nsy gs ga) hZ (hw _ (List.mem_of_getElem? (i := 97) rfl)) (hw _ (List.mem_of_getElem? (i := 43) rfl)) (by decide) (by decide)) q9a q9c (g := (mkF m 296 #[s0, s1, s2, s3, s4, s5, s6, s7, .val (.ref o8), s9, .val (.ref o10), s11, .val (.int i12), s13, s14, .val (.ref o15), s16, s17, s18, s19] [w8, (.ref w7), (.ref o15)])) rfl (by rw [hml]; rfl) (Steps.refl _) (argsL := [(.ref w7), w8]) (rest := []) (lenOf pd_0_15 rfl) rfl (by show 2 * 0 + _ ≤ _; exact Nat.le_of_eq rfl) (hb hby at_296) (fun _ _ => ⟨rfl, e0, (by show cells + 1 ≤ 56; omega), (by show slots + 3 ≤ 192; omega)⟩)
  dsimp only [Pt.U, Pt.locs, Pt.cells, Pt.slots] at X9 l9 y9 z9 st9 hQ9
  subst l9 y9 z9
  obtain ⟨rfl, N9q, K9, E9, CH', hd', F9, C9, nd9, ad9, lk9⟩ := hQ9
  have N9 := Fr.app N0 N9q
  refine ⟨T9, _, _, CH', hd', X9, rfl, N9, K9, E9, F9, C9, nd9, ad9, lk9, fun target kt => ?_⟩
  show Steps p.tables e below (T0.setTop (mkF m 279 #[s0, s1, s2, s3, s4, s5, s6, s7, .val (.ref o8), s9, .val (.ref o10), s11, .val (.int i12), s13, s14, .val (.ref o15), s16, s17, s18, s19] [])) _
  refine XS.iload X0.here hx rfl (hb hby at_279) rfl ?_
  show Steps p.tables e below (T0.setTop (mkF m 281 #[s0, s1, s2, s3, s4, s5, s6, s7, .val (.ref o8), s9, .val (.ref o10), s11, .val (.int i12), s13, s14, .val (.ref o15), s16, s17, s18, s19] [(.int i12)])) _
  refine XS.iconst X0.here hx rfl (hb hby at_281) ?_
  show Steps p.tables e below (T0.setTop (mkF m 282 #[s0, s1, s2, s3, s4, s5, s6, s7, .val (.ref o8), s9, .val (.ref o10), s11, .val (.int i12), s13, s14, .val (.ref o15), s16, s17, s18, s19] [(.int (3 : Int32)), (.int i12)])) _
  refine XS.icmpNo X0.here hx rfl (hb hby at_282) rfl (feq hc282).1 ?_
  show Steps p.tables e below (T0.setTop (mkF m 285 #[s0, s1, s2, s3, s4, s5, s6, s7, .val (.ref o8), s9, .val (.ref o10), s11, .val (.int i12), s13, s14, .val (.ref o15), s16, s17, s18, s19] [])) _
  refine XS.aload X0.here hx rfl (hb hby at_285) rfl rfl ?_
  show Steps p.tables e below (T0.setTop (mkF m 287 #[s0, s1, s2, s3, s4, s5, s6, s7, .val (.ref o8), s9, .val (.ref o10), s11, .val (.int i12), s13, s14, .val (.ref o15), s16, s17, s18, s19] [(.ref o15)])) _
  refine XS.aload X0.here hx rfl (hb hby at_287) rfl rfl ?_
  show Steps p.tables e below (T0.setTop (mkF m 289 #[s0, s1, s2, s3, s4, s5, s6, s7, .val (.ref o8), s9, .val (.ref o10), s11, .val (.int i12), s13, s14, .val (.ref o15), s16, s17, s18, s19] [(.ref o8), (.ref o15)])) _
  refine XS.iload X0.here hx rfl (hb hby at_289) rfl ?_
  show Steps p.tables e below (T0.setTop (mkF m 291 #[s0, s1, s2, s3, s4, s5, s6, s7, .val (.ref o8), s9, .val (.ref o10), s11, .val (.int i12), s13, s14, .val (.ref o15), s16, s17, s18, s19] [(.int i12), (.ref o8), (.ref o15)])) _
  refine X0.aaload hx (j := i12) (v := (.ref w7)) (by rw [e0]; exact Ar_o8.1) (State.isArrayOf_alike hZ.alike Ar_o8.2.1) rfl Ar_o8.2.2 hin291 hat291 (g := (mkF m 291 #[s0, s1, s2, s3, s4, s5, s6, s7, .val (.ref o8), s9, .val (.ref o10), s11, .val (.int i12), s13, s14, .val (.ref o15), s16, s17, s18, s19] [(.int i12), (.ref o8), (.ref o15)])) rfl rfl (hb hby at_291) _ ?_
  show Steps p.tables e below (T0.setTop (mkF m 292 #[s0, s1, s2, s3, s4, s5, s6, s7, .val (.ref o8), s9, .val (.ref o10), s11, .val (.int i12), s13, s14, .val (.ref o15), s16, s17, s18, s19] [(.ref w7), (.ref o15)])) _
  refine XS.aload X0.here hx rfl (hb hby at_292) rfl rfl ?_
  show Steps p.tables e below (T0.setTop (mkF m 294 #[s0, s1, s2, s3, s4, s5, s6, s7, .val (.ref o8), s9, .val (.ref o10), s11, .val (.int i12), s13, s14, .val (.ref o15), s16, s17, s18, s19] [(.ref o10), (.ref w7), (.ref o15)])) _
  refine XS.iconst X0.here hx rfl (hb hby at_294) ?_
  show Steps p.tables e below (T0.setTop (mkF m 295 #[s0, s1, s2, s3, s4, s5, s6, s7, .val (.ref o8), s9, .val (.ref o10), s11, .val (.int i12), s13, s14, .val (.ref o15), s16, s17, s18, s19] [(.int (1 : Int32)), (.ref o10), (.ref w7), (.ref o15)])) _
  refine X0.aaload hx (j := (1 : Int32)) (v := w8) (by rw [e0]; exact Ar_o10.1) (State.isArrayOf_alike hZ.alike Ar_o10.2.1) rfl Ar_o10.2.2 hin295 hat295 (g := (mkF m 295 #[s0, s1, s2, s3, s4, s5, s6, s7, .val (.ref o8), s9, .val (.ref o10), s11, .val (.int i12), s13, s14, .val (.ref o15), s16, s17, s18, s19] [(.int (1 : Int32)), (.ref o10), (.ref w7), (.ref o15)])) rfl rfl (hb hby at_295) _ ?_
  show Steps p.tables e below (T0.setTop (mkF m 296 #[s0, s1, s2, s3, s4, s5, s6, s7, .val (.ref o8), s9, .val (.ref o10), s11, .val (.int i12), s13, s14, .val (.ref o15), s16, s17, s18, s19] [w8, (.ref w7), (.ref o15)])) _
  refine st9.trans ?_
  exact kt
set_option maxHeartbeats 4000000 in
theorem own_d1 {p : Program} {l : Launch} {e : Env} {s : State} {m : MethodId} {args : Array Value} {below : List Frame} {meth : Method} {c : Code} {T0 : State} {locs : List Loc} {cells slots : Nat} {Z : State} {a0 : Array Value} {h0 : Heap} {n0 : Nat} (s0 : Slot) (s1 : Slot) (s2 : Slot) (s3 : Slot) (s4 : Slot) (s5 : Slot) (s6 : Slot) (s7 : Slot) (s9 : Slot) (s11 : Slot) (s13 : Slot) (s14 : Slot) (s16 : Slot) (s17 : Slot) (s18 : Slot) (s19 : Slot) (kO kV : ClassId) (ow va sy t0 t1 t2 : Addr) (v0 v1 v2 v3 : Value) (o : Int32) (CH : List (Addr × Addr × Value)) (hd : Value) (X0 : Stand p l e room_1 s m args below meth c T0 locs cells slots) (hx : p.tables.exec = Jvm.exec) (hZ : Z.Warmed39 s.vm) (hw : ∀ d ∈ tables_1, d.before a0 Z = true) (hby : c.code = code) (hml : c.maxLocals = 20) (hown : s.vm.findClass "com/example/fixpoint/fixpoint/expr/SymbolAttachmentPinLaw" = some m.cls) (e0 : T0.heap = h0) (I : own_Inv Z h0 n0 kO kV ow va sy t0 t1 t2 v0 v1 v2 v3 CH hd) (hv : Rf v1) (N : Fr n0 locs) (hcl : cells ≤ 40) (hsl : slots ≤ 120) (ho : o = 3 ∨ o = 0 ∨ o = 1 ∨ o = 2) :
    ∃ (T' : State) (h' : Heap) (locs' : List Loc) (cells' slots' : Nat) (CH' : List (Addr × Addr × Value)) (hd' : Value), Stand p l e room_1 s m args below meth c T' locs' cells' slots' ∧ T'.heap = h' ∧ Fr n0 locs' ∧ cells' ≤ cells + 1 ∧ slots' ≤ slots + 3 ∧ own_Inv Z h' n0 kO kV ow va sy t0 t1 t2 v0 v1 v2 v3 CH' hd' ∧ Keep h0 h' (sy :: own_adr CH) ∧ (∀ x, own_look CH' x = if own_tt o t0 t1 t2 = some x then v1 else own_look CH x) ∧
      ∀ target, Steps p.tables e below (T'.setTop (mkF m 299 #[s0, s1, s2, s3, s4, s5, s6, s7, .val (.ref ow), s9, .val (.ref va), s11, .val (.int o), s13, s14, .val (.ref sy), s16, s17, s18, s19] [])) target → Steps p.tables e below (T0.setTop (mkF m 279 #[s0, s1, s2, s3, s4, s5, s6, s7, .val (.ref ow), s9, .val (.ref va), s11, .val (.int o), s13, s14, .val (.ref sy), s16, s17, s18, s19] [])) target := by
  have I0 := I
  obtain ⟨Z0, VO, VV, E, F, C, nd, A0, -, -, gs⟩ := I0
  obtain ⟨cl8, A8, -, S8, -, H8, -⟩ := VO
  obtain ⟨cl10, A10, -, S10, -, H10, -⟩ := VV
  have S8' : cl8.slots.size = 3 := S8
  have S10' : cl10.slots.size = 4 := S10
  rcases ho with ho | ho | ho | ho
  · subst ho
    obtain ⟨T1, X1, e1, st1⟩ := own_ds1 (s0) (s1) (s2) (s3) (s4) (s5) (s6) (s7) (.val (.ref ow)) (s9) (.val (.ref va)) (s11) (3 : Int32) (s13) (s14) (.val (.ref sy)) (s16) (s17) (s18) (s19) X0 hx hZ hw hby hml hown e0 rfl
    exact ⟨T1, h0, locs, cells, slots, CH, hd, X1, e1, N, Nat.le_succ _, Nat.le_add_right _ _, I, Keep.refl _ _, fun x => by rw [show own_tt 3 t0 t1 t2 = none from rfl, if_neg (fun q => nomatch q)], st1⟩
  · subst ho
    obtain ⟨T1, h1, L1, CH', hd', X1, e1, N1, K1, E1, F1, C1, nd1, ad1, lk1, st1⟩ := own_da1 (s0) (s1) (s2) (s3) (s4) (s5) (s6) (s7) ow (s9) va (s11) (0 : Int32) (s13) (s14) sy (s16) (s17) (s18) (s19) t0 cl8 v1 cl10 CH hd X0 hx hZ hw hby hml hown e0 hv A8 (by rw [S8']; decide) (H8 0 (by omega)) A10 (by rw [S10']; decide) (H10 1 (by omega)) E (by decide) F C nd (fun q => (A0 _ q).2.2.2 rfl) gs (fun a ha => (A0 a ha).1) Z0 N hcl hsl
    exact ⟨T1, h1, L1, _, _, CH', hd', X1, e1, N1, Nat.le_refl _, Nat.le_refl _, I.step K1 E1 F1 C1 nd1 ad1, K1, fun x => by rw [lk1 x, show own_tt 0 t0 t1 t2 = some t0 from rfl]; simp only [Option.some.injEq], st1⟩
  · subst ho
    obtain ⟨T1, h1, L1, CH', hd', X1, e1, N1, K1, E1, F1, C1, nd1, ad1, lk1, st1⟩ := own_da1 (s0) (s1) (s2) (s3) (s4) (s5) (s6) (s7) ow (s9) va (s11) (1 : Int32) (s13) (s14) sy (s16) (s17) (s18) (s19) t1 cl8 v1 cl10 CH hd X0 hx hZ hw hby hml hown e0 hv A8 (by rw [S8']; decide) (H8 1 (by omega)) A10 (by rw [S10']; decide) (H10 1 (by omega)) E (by decide) F C nd (fun q => (A0 _ q).2.2.2 rfl) gs (fun a ha => (A0 a ha).1) Z0 N hcl hsl
    exact ⟨T1, h1, L1, _, _, CH', hd', X1, e1, N1, Nat.le_refl _, Nat.le_refl _, I.step K1 E1 F1 C1 nd1 ad1, K1, fun x => by rw [lk1 x, show own_tt 1 t0 t1 t2 = some t1 from rfl]; simp only [Option.some.injEq], st1⟩
  · subst ho
    obtain ⟨T1, h1, L1, CH', hd', X1, e1, N1, K1, E1, F1, C1, nd1, ad1, lk1, st1⟩ := own_da1 (s0) (s1) (s2) (s3) (s4) (s5) (s6) (s7) ow (s9) va (s11) (2 : Int32) (s13) (s14) sy (s16) (s17) (s18) (s19) t2 cl8 v1 cl10 CH hd X0 hx hZ hw hby hml hown e0 hv A8 (by rw [S8']; decide) (H8 2 (by omega)) A10 (by rw [S10']; decide) (H10 1 (by omega)) E (by decide) F C nd (fun q => (A0 _ q).2.2.2 rfl) gs (fun a ha => (A0 a ha).1) Z0 N hcl hsl
    exact ⟨T1, h1, L1, _, _, CH', hd', X1, e1, N1, Nat.le_refl _, Nat.le_refl _, I.step K1 E1 F1 C1 nd1 ad1, K1, fun x => by rw [lk1 x, show own_tt 2 t0 t1 t2 = some t2 from rfl]; simp only [Option.some.injEq], st1⟩
set_option maxRecDepth 65536 in
set_option maxHeartbeats 40000000 in
theorem own_ds2 {p : Program} {l : Launch} {e : Env} {R : Room} {s : State} {m : MethodId} {args : Array Value} {below : List Frame} {meth : Method} {c : Code} {T0 : State} {locs : List Loc} {cells slots : Nat} {Z : State} {a0 : Array Value} {h0 : Heap} (s0 : Slot) (s1 : Slot) (s2 : Slot) (s3 : Slot) (s4 : Slot) (s5 : Slot) (s6 : Slot) (s7 : Slot) (s8 : Slot) (s9 : Slot) (s10 : Slot) (s11 : Slot) (s12 : Slot) (i13 : Int32) (s14 : Slot) (s15 : Slot) (s16 : Slot) (s17 : Slot) (s18 : Slot) (s19 : Slot)
    (X0 : Stand p l e R s m args below meth c T0 locs cells slots) (hx : p.tables.exec = Jvm.exec) (hZ : Z.Warmed39 s.vm) (hw : ∀ d ∈ tables_1, d.before a0 Z = true) (hby : c.code = code) (hml : c.maxLocals = 20) (hown : s.vm.findClass "com/example/fixpoint/fixpoint/expr/SymbolAttachmentPinLaw" = some m.cls) (e0 : T0.heap = h0) (hc302 : i13 = (3 : Int32)) :
    ∃ (T' : State), Stand p l e R s m args below meth c T' locs cells slots ∧ T'.heap = h0 ∧
      ∀ target, Steps p.tables e below (T'.setTop (mkF m 319 #[s0, s1, s2, s3, s4, s5, s6, s7, s8, s9, s10, s11, s12, .val (.int i13), s14, s15, s16, s17, s18, s19] [])) target → Steps p.tables e below (T0.setTop (mkF m 299 #[s0, s1, s2, s3, s4, s5, s6, s7, s8, s9, s10, s11, s12, .val (.int i13), s14, s15, s16, s17, s18, s19] [])) target := by

  refine ⟨T0, X0, e0, fun target kt => ?_⟩
  show Steps p.tables e below (T0.setTop (mkF m 299 #[s0, s1, s2, s3, s4, s5, s6, s7, s8, s9, s10, s11, s12, .val (.int i13), s14, s15, s16, s17, s18, s19] [])) _
  refine XS.iload X0.here hx rfl (hb hby at_299) rfl ?_
  show Steps p.tables e below (T0.setTop (mkF m 301 #[s0, s1, s2, s3, s4, s5, s6, s7, s8, s9, s10, s11, s12, .val (.int i13), s14, s15, s16, s17, s18, s19] [(.int i13)])) _
  refine XS.iconst X0.here hx rfl (hb hby at_301) ?_
  show Steps p.tables e below (T0.setTop (mkF m 302 #[s0, s1, s2, s3, s4, s5, s6, s7, s8, s9, s10, s11, s12, .val (.int i13), s14, s15, s16, s17, s18, s19] [(.int (3 : Int32)), (.int i13)])) _
  refine XS.icmpYes X0.here hx rfl (pc0 := 302) (pc' := 319) rfl (hb hby at_302) rfl (teq hc302).1 (by decide) (by decide) ?_
  exact kt
set_option maxRecDepth 65536 in
set_option maxHeartbeats 40000000 in
theorem own_da2 {p : Program} {l : Launch} {e : Env} {s : State} {m : MethodId} {args : Array Value} {below : List Frame} {meth : Method} {c : Code} {T0 : State} {locs : List Loc} {cells slots : Nat} {Z : State} {a0 : Array Value} {h0 : Heap} {n0 : Nat} (s0 : Slot) (s1 : Slot) (s2 : Slot) (s3 : Slot) (s4 : Slot) (s5 : Slot) (s6 : Slot) (s7 : Slot) (o8 : Addr) (s9 : Slot) (o10 : Addr) (s11 : Slot) (s12 : Slot) (i13 : Int32) (s14 : Slot) (o15 : Addr) (s16 : Slot) (s17 : Slot) (s18 : Slot) (s19 : Slot) (w7 : Addr) (cl_o8 : Cell) (w8 : Value) (cl_o10 : Cell) (CH : List (Addr × Addr × Value)) (hd : Value)
    (X0 : Stand p l e room_1 s m args below meth c T0 locs cells slots) (hx : p.tables.exec = Jvm.exec) (hZ : Z.Warmed39 s.vm) (hw : ∀ d ∈ tables_1, d.before a0 Z = true) (hby : c.code = code) (hml : c.maxLocals = 20) (hown : s.vm.findClass "com/example/fixpoint/fixpoint/expr/SymbolAttachmentPinLaw" = some m.cls) (e0 : T0.heap = h0) (h_w8 : Rf w8) (Ar_o8 : Arr Z h0 o8 cl_o8 (.object "java/lang/Object")) (hin311 : ¬ (i13 < 0 ∨ cl_o8.slots.size ≤ (i13).toNatClampNeg)) (hat311 : cl_o8.slots[(i13).toNatClampNeg]? = some (.ref w7)) (Ar_o10 : Arr Z h0 o10 cl_o10 (.object "java/lang/Object")) (hin315 : ¬ ((2 : Int32) < 0 ∨ cl_o10.slots.size ≤ ((2 : Int32)).toNatClampNeg)) (hat315 : cl_o10.slots[((2 : Int32)).toNatClampNeg]? = some w8) (E_o15 : Exa Z h0 o15 "com/example/fixpoint/fixpoint/expr/Symbol") (hc302 : ¬ (i13 = (3 : Int32))) (F : Fld Z h0 o15 "com/example/fixpoint/fixpoint/expr/Symbol" "attachments" "Lcom/example/fixpoint/fixpoint/expr/Symbol$Attachment;" hd) (C : Chn Z h0 CH hd) (nd : (own_adr CH).Nodup) (nsy : o15 ∉ own_adr CH) (gs : n0 ≤ o15) (ga : ∀ a ∈ own_adr CH, n0 ≤ a) (Z0 : n0 ≤ h0.size) (N : Fr n0 locs) (hcl : cells ≤ 40) (hsl : slots ≤ 120) :
    ∃ (T' : State) (h' : Heap) (locs' : List Loc) (CH' : List (Addr × Addr × Value)) (hd' : Value), Stand p l e room_1 s m args below meth c T' locs' (cells + 1) (slots + 3) ∧ T'.heap = h' ∧ Fr n0 locs' ∧ Keep h0 h' (o15 :: own_adr CH) ∧ Exa Z h' o15 "com/example/fixpoint/fixpoint/expr/Symbol" ∧ Fld Z h' o15 "com/example/fixpoint/fixpoint/expr/Symbol" "attachments" "Lcom/example/fixpoint/fixpoint/expr/Symbol$Attachment;" hd' ∧ Chn Z h' CH' hd' ∧ (own_adr CH').Nodup ∧ (∀ a ∈ own_adr CH', a ∈ own_adr CH ∨ h0.size ≤ a) ∧ (∀ x, own_look CH' x = if w7 = x then w8 else own_look CH x) ∧
      ∀ target, Steps p.tables e below (T'.setTop (mkF m 319 #[s0, s1, s2, s3, s4, s5, s6, s7, .val (.ref o8), s9, .val (.ref o10), s11, s12, .val (.int i13), s14, .val (.ref o15), s16, s17, s18, s19] [])) target → Steps p.tables e below (T0.setTop (mkF m 299 #[s0, s1, s2, s3, s4, s5, s6, s7, .val (.ref o8), s9, .val (.ref o10), s11, s12, .val (.int i13), s14, .val (.ref o15), s16, s17, s18, s19] [])) target := by
  have N0 := N
  obtain ⟨cq9, kq9, q9a, q9b, q9c⟩ := isOf hZ e0 E_o15
  obtain ⟨_, _, ⟨T9, L9, k9, n9⟩, -, X9, ⟨Lc9, hQ9, l9, y9, z9⟩, st9⟩ := X0.virtualBack hx (y := (⟨"com/example/fixpoint/fixpoint/expr/Symbol", "attach", "(Ljava/lang/Object;Ljava/lang/Object;)V"⟩ : MethodName)) (z := (⟨"com/example/fixpoint/fixpoint/expr/Symbol", "attach", "(Ljava/lang/Object;Ljava/lang/Object;)V"⟩ : MethodName)) hown (mvT hZ (hw _ (List.mem_of_getElem? (i := 93) rfl))) (mvT hZ (hw _ (List.mem_of_getElem? (i := 94) rfl))) (notFace_of_selects (args := #[]) (mvT hZ (hw _ (List.mem_of_getElem? (i := 96) rfl)))) (mvT hZ (hw _ (List.mem_of_getElem? (i := 96) rfl))) (mvT hZ (hw _ (List.mem_of_getElem? (i := 95) rfl))) (by decide) (backOf (W := 0) (own_att l Z a0 hw o15 w7 w8 CH hd h0 n0 Z0 h_w8 E_o15 F C nd nsy gs ga) hZ (hw _ (List.mem_of_getElem? (i := 97) rfl)) (hw _ (List.mem_of_getElem? (i := 43) rfl)) (by decide) (by decide)) q9a q9c (g := (mkF m 316 #[s0, s1, s2, s3, s4, s5, s6, s7, .val (.ref o8), s9, .val (.ref o10), s11, s12, .val (.int i13), s14, .val (.ref o15), s16, s17, s18, s19] [w8, (.ref w7), (.ref o15)])) rfl (by rw [hml]; rfl) (Steps.refl _) (argsL := [(.ref w7), w8]) (rest := []) (lenOf pd_0_15 rfl) rfl (by show 2 * 0 + _ ≤ _; exact Nat.le_of_eq rfl) (hb hby at_316) (fun _ _ => ⟨rfl, e0, (by show cells + 1 ≤ 56; omega), (by show slots + 3 ≤ 192; omega)⟩)
  dsimp only [Pt.U, Pt.locs, Pt.cells, Pt.slots] at X9 l9 y9 z9 st9 hQ9
  subst l9 y9 z9
  obtain ⟨rfl, N9q, K9, E9, CH', hd', F9, C9, nd9, ad9, lk9⟩ := hQ9
  have N9 := Fr.app N0 N9q
  refine ⟨T9, _, _, CH', hd', X9, rfl, N9, K9, E9, F9, C9, nd9, ad9, lk9, fun target kt => ?_⟩
  show Steps p.tables e below (T0.setTop (mkF m 299 #[s0, s1, s2, s3, s4, s5, s6, s7, .val (.ref o8), s9, .val (.ref o10), s11, s12, .val (.int i13), s14, .val (.ref o15), s16, s17, s18, s19] [])) _
  refine XS.iload X0.here hx rfl (hb hby at_299) rfl ?_
  show Steps p.tables e below (T0.setTop (mkF m 301 #[s0, s1, s2, s3, s4, s5, s6, s7, .val (.ref o8), s9, .val (.ref o10), s11, s12, .val (.int i13), s14, .val (.ref o15), s16, s17, s18, s19] [(.int i13)])) _
  refine XS.iconst X0.here hx rfl (hb hby at_301) ?_
  show Steps p.tables e below (T0.setTop (mkF m 302 #[s0, s1, s2, s3, s4, s5, s6, s7, .val (.ref o8), s9, .val (.ref o10), s11, s12, .val (.int i13), s14, .val (.ref o15), s16, s17, s18, s19] [(.int (3 : Int32)), (.int i13)])) _
  refine XS.icmpNo X0.here hx rfl (hb hby at_302) rfl (feq hc302).1 ?_
  show Steps p.tables e below (T0.setTop (mkF m 305 #[s0, s1, s2, s3, s4, s5, s6, s7, .val (.ref o8), s9, .val (.ref o10), s11, s12, .val (.int i13), s14, .val (.ref o15), s16, s17, s18, s19] [])) _
  refine XS.aload X0.here hx rfl (hb hby at_305) rfl rfl ?_
  show Steps p.tables e below (T0.setTop (mkF m 307 #[s0, s1, s2, s3, s4, s5, s6, s7, .val (.ref o8), s9, .val (.ref o10), s11, s12, .val (.int i13), s14, .val (.ref o15), s16, s17, s18, s19] [(.ref o15)])) _
  refine XS.aload X0.here hx rfl (hb hby at_307) rfl rfl ?_
  show Steps p.tables e below (T0.setTop (mkF m 309 #[s0, s1, s2, s3, s4, s5, s6, s7, .val (.ref o8), s9, .val (.ref o10), s11, s12, .val (.int i13), s14, .val (.ref o15), s16, s17, s18, s19] [(.ref o8), (.ref o15)])) _
  refine XS.iload X0.here hx rfl (hb hby at_309) rfl ?_
  show Steps p.tables e below (T0.setTop (mkF m 311 #[s0, s1, s2, s3, s4, s5, s6, s7, .val (.ref o8), s9, .val (.ref o10), s11, s12, .val (.int i13), s14, .val (.ref o15), s16, s17, s18, s19] [(.int i13), (.ref o8), (.ref o15)])) _
  refine X0.aaload hx (j := i13) (v := (.ref w7)) (by rw [e0]; exact Ar_o8.1) (State.isArrayOf_alike hZ.alike Ar_o8.2.1) rfl Ar_o8.2.2 hin311 hat311 (g := (mkF m 311 #[s0, s1, s2, s3, s4, s5, s6, s7, .val (.ref o8), s9, .val (.ref o10), s11, s12, .val (.int i13), s14, .val (.ref o15), s16, s17, s18, s19] [(.int i13), (.ref o8), (.ref o15)])) rfl rfl (hb hby at_311) _ ?_
  show Steps p.tables e below (T0.setTop (mkF m 312 #[s0, s1, s2, s3, s4, s5, s6, s7, .val (.ref o8), s9, .val (.ref o10), s11, s12, .val (.int i13), s14, .val (.ref o15), s16, s17, s18, s19] [(.ref w7), (.ref o15)])) _
  refine XS.aload X0.here hx rfl (hb hby at_312) rfl rfl ?_
  show Steps p.tables e below (T0.setTop (mkF m 314 #[s0, s1, s2, s3, s4, s5, s6, s7, .val (.ref o8), s9, .val (.ref o10), s11, s12, .val (.int i13), s14, .val (.ref o15), s16, s17, s18, s19] [(.ref o10), (.ref w7), (.ref o15)])) _
  refine XS.iconst X0.here hx rfl (hb hby at_314) ?_
  show Steps p.tables e below (T0.setTop (mkF m 315 #[s0, s1, s2, s3, s4, s5, s6, s7, .val (.ref o8), s9, .val (.ref o10), s11, s12, .val (.int i13), s14, .val (.ref o15), s16, s17, s18, s19] [(.int (2 : Int32)), (.ref o10), (.ref w7), (.ref o15)])) _
  refine X0.aaload hx (j := (2 : Int32)) (v := w8) (by rw [e0]; exact Ar_o10.1) (State.isArrayOf_alike hZ.alike Ar_o10.2.1) rfl Ar_o10.2.2 hin315 hat315 (g := (mkF m 315 #[s0, s1, s2, s3, s4, s5, s6, s7, .val (.ref o8), s9, .val (.ref o10), s11, s12, .val (.int i13), s14, .val (.ref o15), s16, s17, s18, s19] [(.int (2 : Int32)), (.ref o10), (.ref w7), (.ref o15)])) rfl rfl (hb hby at_315) _ ?_
  show Steps p.tables e below (T0.setTop (mkF m 316 #[s0, s1, s2, s3, s4, s5, s6, s7, .val (.ref o8), s9, .val (.ref o10), s11, s12, .val (.int i13), s14, .val (.ref o15), s16, s17, s18, s19] [w8, (.ref w7), (.ref o15)])) _
  refine st9.trans ?_
  exact kt
set_option maxHeartbeats 4000000 in
theorem own_d2 {p : Program} {l : Launch} {e : Env} {s : State} {m : MethodId} {args : Array Value} {below : List Frame} {meth : Method} {c : Code} {T0 : State} {locs : List Loc} {cells slots : Nat} {Z : State} {a0 : Array Value} {h0 : Heap} {n0 : Nat} (s0 : Slot) (s1 : Slot) (s2 : Slot) (s3 : Slot) (s4 : Slot) (s5 : Slot) (s6 : Slot) (s7 : Slot) (s9 : Slot) (s11 : Slot) (s12 : Slot) (s14 : Slot) (s16 : Slot) (s17 : Slot) (s18 : Slot) (s19 : Slot) (kO kV : ClassId) (ow va sy t0 t1 t2 : Addr) (v0 v1 v2 v3 : Value) (o : Int32) (CH : List (Addr × Addr × Value)) (hd : Value) (X0 : Stand p l e room_1 s m args below meth c T0 locs cells slots) (hx : p.tables.exec = Jvm.exec) (hZ : Z.Warmed39 s.vm) (hw : ∀ d ∈ tables_1, d.before a0 Z = true) (hby : c.code = code) (hml : c.maxLocals = 20) (hown : s.vm.findClass "com/example/fixpoint/fixpoint/expr/SymbolAttachmentPinLaw" = some m.cls) (e0 : T0.heap = h0) (I : own_Inv Z h0 n0 kO kV ow va sy t0 t1 t2 v0 v1 v2 v3 CH hd) (hv : Rf v2) (N : Fr n0 locs) (hcl : cells ≤ 40) (hsl : slots ≤ 120) (ho : o = 3 ∨ o = 0 ∨ o = 1 ∨ o = 2) :
    ∃ (T' : State) (h' : Heap) (locs' : List Loc) (cells' slots' : Nat) (CH' : List (Addr × Addr × Value)) (hd' : Value), Stand p l e room_1 s m args below meth c T' locs' cells' slots' ∧ T'.heap = h' ∧ Fr n0 locs' ∧ cells' ≤ cells + 1 ∧ slots' ≤ slots + 3 ∧ own_Inv Z h' n0 kO kV ow va sy t0 t1 t2 v0 v1 v2 v3 CH' hd' ∧ Keep h0 h' (sy :: own_adr CH) ∧ (∀ x, own_look CH' x = if own_tt o t0 t1 t2 = some x then v2 else own_look CH x) ∧
      ∀ target, Steps p.tables e below (T'.setTop (mkF m 319 #[s0, s1, s2, s3, s4, s5, s6, s7, .val (.ref ow), s9, .val (.ref va), s11, s12, .val (.int o), s14, .val (.ref sy), s16, s17, s18, s19] [])) target → Steps p.tables e below (T0.setTop (mkF m 299 #[s0, s1, s2, s3, s4, s5, s6, s7, .val (.ref ow), s9, .val (.ref va), s11, s12, .val (.int o), s14, .val (.ref sy), s16, s17, s18, s19] [])) target := by
  have I0 := I
  obtain ⟨Z0, VO, VV, E, F, C, nd, A0, -, -, gs⟩ := I0
  obtain ⟨cl8, A8, -, S8, -, H8, -⟩ := VO
  obtain ⟨cl10, A10, -, S10, -, H10, -⟩ := VV
  have S8' : cl8.slots.size = 3 := S8
  have S10' : cl10.slots.size = 4 := S10
  rcases ho with ho | ho | ho | ho
  · subst ho
    obtain ⟨T1, X1, e1, st1⟩ := own_ds2 (s0) (s1) (s2) (s3) (s4) (s5) (s6) (s7) (.val (.ref ow)) (s9) (.val (.ref va)) (s11) (s12) (3 : Int32) (s14) (.val (.ref sy)) (s16) (s17) (s18) (s19) X0 hx hZ hw hby hml hown e0 rfl
    exact ⟨T1, h0, locs, cells, slots, CH, hd, X1, e1, N, Nat.le_succ _, Nat.le_add_right _ _, I, Keep.refl _ _, fun x => by rw [show own_tt 3 t0 t1 t2 = none from rfl, if_neg (fun q => nomatch q)], st1⟩
  · subst ho
    obtain ⟨T1, h1, L1, CH', hd', X1, e1, N1, K1, E1, F1, C1, nd1, ad1, lk1, st1⟩ := own_da2 (s0) (s1) (s2) (s3) (s4) (s5) (s6) (s7) ow (s9) va (s11) (s12) (0 : Int32) (s14) sy (s16) (s17) (s18) (s19) t0 cl8 v2 cl10 CH hd X0 hx hZ hw hby hml hown e0 hv A8 (by rw [S8']; decide) (H8 0 (by omega)) A10 (by rw [S10']; decide) (H10 2 (by omega)) E (by decide) F C nd (fun q => (A0 _ q).2.2.2 rfl) gs (fun a ha => (A0 a ha).1) Z0 N hcl hsl
    exact ⟨T1, h1, L1, _, _, CH', hd', X1, e1, N1, Nat.le_refl _, Nat.le_refl _, I.step K1 E1 F1 C1 nd1 ad1, K1, fun x => by rw [lk1 x, show own_tt 0 t0 t1 t2 = some t0 from rfl]; simp only [Option.some.injEq], st1⟩
  · subst ho
    obtain ⟨T1, h1, L1, CH', hd', X1, e1, N1, K1, E1, F1, C1, nd1, ad1, lk1, st1⟩ := own_da2 (s0) (s1) (s2) (s3) (s4) (s5) (s6) (s7) ow (s9) va (s11) (s12) (1 : Int32) (s14) sy (s16) (s17) (s18) (s19) t1 cl8 v2 cl10 CH hd X0 hx hZ hw hby hml hown e0 hv A8 (by rw [S8']; decide) (H8 1 (by omega)) A10 (by rw [S10']; decide) (H10 2 (by omega)) E (by decide) F C nd (fun q => (A0 _ q).2.2.2 rfl) gs (fun a ha => (A0 a ha).1) Z0 N hcl hsl
    exact ⟨T1, h1, L1, _, _, CH', hd', X1, e1, N1, Nat.le_refl _, Nat.le_refl _, I.step K1 E1 F1 C1 nd1 ad1, K1, fun x => by rw [lk1 x, show own_tt 1 t0 t1 t2 = some t1 from rfl]; simp only [Option.some.injEq], st1⟩
  · subst ho
    obtain ⟨T1, h1, L1, CH', hd', X1, e1, N1, K1, E1, F1, C1, nd1, ad1, lk1, st1⟩ := own_da2 (s0) (s1) (s2) (s3) (s4) (s5) (s6) (s7) ow (s9) va (s11) (s12) (2 : Int32) (s14) sy (s16) (s17) (s18) (s19) t2 cl8 v2 cl10 CH hd X0 hx hZ hw hby hml hown e0 hv A8 (by rw [S8']; decide) (H8 2 (by omega)) A10 (by rw [S10']; decide) (H10 2 (by omega)) E (by decide) F C nd (fun q => (A0 _ q).2.2.2 rfl) gs (fun a ha => (A0 a ha).1) Z0 N hcl hsl
    exact ⟨T1, h1, L1, _, _, CH', hd', X1, e1, N1, Nat.le_refl _, Nat.le_refl _, I.step K1 E1 F1 C1 nd1 ad1, K1, fun x => by rw [lk1 x, show own_tt 2 t0 t1 t2 = some t2 from rfl]; simp only [Option.some.injEq], st1⟩
set_option maxRecDepth 65536 in
set_option maxHeartbeats 40000000 in
theorem own_ds3 {p : Program} {l : Launch} {e : Env} {R : Room} {s : State} {m : MethodId} {args : Array Value} {below : List Frame} {meth : Method} {c : Code} {T0 : State} {locs : List Loc} {cells slots : Nat} {Z : State} {a0 : Array Value} {h0 : Heap} (s0 : Slot) (s1 : Slot) (s2 : Slot) (s3 : Slot) (s4 : Slot) (s5 : Slot) (s6 : Slot) (s7 : Slot) (s8 : Slot) (s9 : Slot) (s10 : Slot) (s11 : Slot) (s12 : Slot) (s13 : Slot) (i14 : Int32) (s15 : Slot) (s16 : Slot) (s17 : Slot) (s18 : Slot) (s19 : Slot)
    (X0 : Stand p l e R s m args below meth c T0 locs cells slots) (hx : p.tables.exec = Jvm.exec) (hZ : Z.Warmed39 s.vm) (hw : ∀ d ∈ tables_1, d.before a0 Z = true) (hby : c.code = code) (hml : c.maxLocals = 20) (hown : s.vm.findClass "com/example/fixpoint/fixpoint/expr/SymbolAttachmentPinLaw" = some m.cls) (e0 : T0.heap = h0) (hc322 : i14 = (3 : Int32)) :
    ∃ (T' : State), Stand p l e R s m args below meth c T' locs cells slots ∧ T'.heap = h0 ∧
      ∀ target, Steps p.tables e below (T'.setTop (mkF m 339 #[s0, s1, s2, s3, s4, s5, s6, s7, s8, s9, s10, s11, s12, s13, .val (.int i14), s15, s16, s17, s18, s19] [])) target → Steps p.tables e below (T0.setTop (mkF m 319 #[s0, s1, s2, s3, s4, s5, s6, s7, s8, s9, s10, s11, s12, s13, .val (.int i14), s15, s16, s17, s18, s19] [])) target := by

  refine ⟨T0, X0, e0, fun target kt => ?_⟩
  show Steps p.tables e below (T0.setTop (mkF m 319 #[s0, s1, s2, s3, s4, s5, s6, s7, s8, s9, s10, s11, s12, s13, .val (.int i14), s15, s16, s17, s18, s19] [])) _
  refine XS.iload X0.here hx rfl (hb hby at_319) rfl ?_
  show Steps p.tables e below (T0.setTop (mkF m 321 #[s0, s1, s2, s3, s4, s5, s6, s7, s8, s9, s10, s11, s12, s13, .val (.int i14), s15, s16, s17, s18, s19] [(.int i14)])) _
  refine XS.iconst X0.here hx rfl (hb hby at_321) ?_
  show Steps p.tables e below (T0.setTop (mkF m 322 #[s0, s1, s2, s3, s4, s5, s6, s7, s8, s9, s10, s11, s12, s13, .val (.int i14), s15, s16, s17, s18, s19] [(.int (3 : Int32)), (.int i14)])) _
  refine XS.icmpYes X0.here hx rfl (pc0 := 322) (pc' := 339) rfl (hb hby at_322) rfl (teq hc322).1 (by decide) (by decide) ?_
  exact kt
set_option maxRecDepth 65536 in
set_option maxHeartbeats 40000000 in
theorem own_da3 {p : Program} {l : Launch} {e : Env} {s : State} {m : MethodId} {args : Array Value} {below : List Frame} {meth : Method} {c : Code} {T0 : State} {locs : List Loc} {cells slots : Nat} {Z : State} {a0 : Array Value} {h0 : Heap} {n0 : Nat} (s0 : Slot) (s1 : Slot) (s2 : Slot) (s3 : Slot) (s4 : Slot) (s5 : Slot) (s6 : Slot) (s7 : Slot) (o8 : Addr) (s9 : Slot) (o10 : Addr) (s11 : Slot) (s12 : Slot) (s13 : Slot) (i14 : Int32) (o15 : Addr) (s16 : Slot) (s17 : Slot) (s18 : Slot) (s19 : Slot) (w7 : Addr) (cl_o8 : Cell) (w8 : Value) (cl_o10 : Cell) (CH : List (Addr × Addr × Value)) (hd : Value)
    (X0 : Stand p l e room_1 s m args below meth c T0 locs cells slots) (hx : p.tables.exec = Jvm.exec) (hZ : Z.Warmed39 s.vm) (hw : ∀ d ∈ tables_1, d.before a0 Z = true) (hby : c.code = code) (hml : c.maxLocals = 20) (hown : s.vm.findClass "com/example/fixpoint/fixpoint/expr/SymbolAttachmentPinLaw" = some m.cls) (e0 : T0.heap = h0) (h_w8 : Rf w8) (Ar_o8 : Arr Z h0 o8 cl_o8 (.object "java/lang/Object")) (hin331 : ¬ (i14 < 0 ∨ cl_o8.slots.size ≤ (i14).toNatClampNeg)) (hat331 : cl_o8.slots[(i14).toNatClampNeg]? = some (.ref w7)) (Ar_o10 : Arr Z h0 o10 cl_o10 (.object "java/lang/Object")) (hin335 : ¬ ((3 : Int32) < 0 ∨ cl_o10.slots.size ≤ ((3 : Int32)).toNatClampNeg)) (hat335 : cl_o10.slots[((3 : Int32)).toNatClampNeg]? = some w8) (E_o15 : Exa Z h0 o15 "com/example/fixpoint/fixpoint/expr/Symbol") (hc322 : ¬ (i14 = (3 : Int32))) (F : Fld Z h0 o15 "com/example/fixpoint/fixpoint/expr/Symbol" "attachments" "Lcom/example/fixpoint/fixpoint/expr/Symbol$Attachment;" hd) (C : Chn Z h0 CH hd) (nd : (own_adr CH).Nodup) (nsy : o15 ∉ own_adr CH) (gs : n0 ≤ o15) (ga : ∀ a ∈ own_adr CH, n0 ≤ a) (Z0 : n0 ≤ h0.size) (N : Fr n0 locs) (hcl : cells ≤ 40) (hsl : slots ≤ 120) :
    ∃ (T' : State) (h' : Heap) (locs' : List Loc) (CH' : List (Addr × Addr × Value)) (hd' : Value), Stand p l e room_1 s m args below meth c T' locs' (cells + 1) (slots + 3) ∧ T'.heap = h' ∧ Fr n0 locs' ∧ Keep h0 h' (o15 :: own_adr CH) ∧ Exa Z h' o15 "com/example/fixpoint/fixpoint/expr/Symbol" ∧ Fld Z h' o15 "com/example/fixpoint/fixpoint/expr/Symbol" "attachments" "Lcom/example/fixpoint/fixpoint/expr/Symbol$Attachment;" hd' ∧ Chn Z h' CH' hd' ∧ (own_adr CH').Nodup ∧ (∀ a ∈ own_adr CH', a ∈ own_adr CH ∨ h0.size ≤ a) ∧ (∀ x, own_look CH' x = if w7 = x then w8 else own_look CH x) ∧
      ∀ target, Steps p.tables e below (T'.setTop (mkF m 339 #[s0, s1, s2, s3, s4, s5, s6, s7, .val (.ref o8), s9, .val (.ref o10), s11, s12, s13, .val (.int i14), .val (.ref o15), s16, s17, s18, s19] [])) target → Steps p.tables e below (T0.setTop (mkF m 319 #[s0, s1, s2, s3, s4, s5, s6, s7, .val (.ref o8), s9, .val (.ref o10), s11, s12, s13, .val (.int i14), .val (.ref o15), s16, s17, s18, s19] [])) target := by
  have N0 := N
  obtain ⟨cq9, kq9, q9a, q9b, q9c⟩ := isOf hZ e0 E_o15
  obtain ⟨_, _, ⟨T9, L9, k9, n9⟩, -, X9, ⟨Lc9, hQ9, l9, y9, z9⟩, st9⟩ := X0.virtualBack hx (y := (⟨"com/example/fixpoint/fixpoint/expr/Symbol", "attach", "(Ljava/lang/Object;Ljava/lang/Object;)V"⟩ : MethodName)) (z := (⟨"com/example/fixpoint/fixpoint/expr/Symbol", "attach", "(Ljava/lang/Object;Ljava/lang/Object;)V"⟩ : MethodName)) hown (mvT hZ (hw _ (List.mem_of_getElem? (i := 93) rfl))) (mvT hZ (hw _ (List.mem_of_getElem? (i := 94) rfl))) (notFace_of_selects (args := #[]) (mvT hZ (hw _ (List.mem_of_getElem? (i := 96) rfl)))) (mvT hZ (hw _ (List.mem_of_getElem? (i := 96) rfl))) (mvT hZ (hw _ (List.mem_of_getElem? (i := 95) rfl))) (by decide) (backOf (W := 0) (own_att l Z a0 hw o15 w7 w8 CH hd h0 n0 Z0 h_w8 E_o15 F C nd nsy gs ga) hZ (hw _ (List.mem_of_getElem? (i := 97) rfl)) (hw _ (List.mem_of_getElem? (i := 43) rfl)) (by decide) (by decide)) q9a q9c (g := (mkF m 336 #[s0, s1, s2, s3, s4, s5, s6, s7, .val (.ref o8), s9, .val (.ref o10), s11, s12, s13, .val (.int i14), .val (.ref o15), s16, s17, s18, s19] [w8, (.ref w7), (.ref o15)])) rfl (by rw [hml]; rfl) (Steps.refl _) (argsL := [(.ref w7), w8]) (rest := []) (lenOf pd_0_15 rfl) rfl (by show 2 * 0 + _ ≤ _; exact Nat.le_of_eq rfl) (hb hby at_336) (fun _ _ => ⟨rfl, e0, (by show cells + 1 ≤ 56; omega), (by show slots + 3 ≤ 192; omega)⟩)
  dsimp only [Pt.U, Pt.locs, Pt.cells, Pt.slots] at X9 l9 y9 z9 st9 hQ9
  subst l9 y9 z9
  obtain ⟨rfl, N9q, K9, E9, CH', hd', F9, C9, nd9, ad9, lk9⟩ := hQ9
  have N9 := Fr.app N0 N9q
  refine ⟨T9, _, _, CH', hd', X9, rfl, N9, K9, E9, F9, C9, nd9, ad9, lk9, fun target kt => ?_⟩
  show Steps p.tables e below (T0.setTop (mkF m 319 #[s0, s1, s2, s3, s4, s5, s6, s7, .val (.ref o8), s9, .val (.ref o10), s11, s12, s13, .val (.int i14), .val (.ref o15), s16, s17, s18, s19] [])) _
  refine XS.iload X0.here hx rfl (hb hby at_319) rfl ?_
  show Steps p.tables e below (T0.setTop (mkF m 321 #[s0, s1, s2, s3, s4, s5, s6, s7, .val (.ref o8), s9, .val (.ref o10), s11, s12, s13, .val (.int i14), .val (.ref o15), s16, s17, s18, s19] [(.int i14)])) _
  refine XS.iconst X0.here hx rfl (hb hby at_321) ?_
  show Steps p.tables e below (T0.setTop (mkF m 322 #[s0, s1, s2, s3, s4, s5, s6, s7, .val (.ref o8), s9, .val (.ref o10), s11, s12, s13, .val (.int i14), .val (.ref o15), s16, s17, s18, s19] [(.int (3 : Int32)), (.int i14)])) _
  refine XS.icmpNo X0.here hx rfl (hb hby at_322) rfl (feq hc322).1 ?_
  show Steps p.tables e below (T0.setTop (mkF m 325 #[s0, s1, s2, s3, s4, s5, s6, s7, .val (.ref o8), s9, .val (.ref o10), s11, s12, s13, .val (.int i14), .val (.ref o15), s16, s17, s18, s19] [])) _
  refine XS.aload X0.here hx rfl (hb hby at_325) rfl rfl ?_
  show Steps p.tables e below (T0.setTop (mkF m 327 #[s0, s1, s2, s3, s4, s5, s6, s7, .val (.ref o8), s9, .val (.ref o10), s11, s12, s13, .val (.int i14), .val (.ref o15), s16, s17, s18, s19] [(.ref o15)])) _
  refine XS.aload X0.here hx rfl (hb hby at_327) rfl rfl ?_
  show Steps p.tables e below (T0.setTop (mkF m 329 #[s0, s1, s2, s3, s4, s5, s6, s7, .val (.ref o8), s9, .val (.ref o10), s11, s12, s13, .val (.int i14), .val (.ref o15), s16, s17, s18, s19] [(.ref o8), (.ref o15)])) _
  refine XS.iload X0.here hx rfl (hb hby at_329) rfl ?_
  show Steps p.tables e below (T0.setTop (mkF m 331 #[s0, s1, s2, s3, s4, s5, s6, s7, .val (.ref o8), s9, .val (.ref o10), s11, s12, s13, .val (.int i14), .val (.ref o15), s16, s17, s18, s19] [(.int i14), (.ref o8), (.ref o15)])) _
  refine X0.aaload hx (j := i14) (v := (.ref w7)) (by rw [e0]; exact Ar_o8.1) (State.isArrayOf_alike hZ.alike Ar_o8.2.1) rfl Ar_o8.2.2 hin331 hat331 (g := (mkF m 331 #[s0, s1, s2, s3, s4, s5, s6, s7, .val (.ref o8), s9, .val (.ref o10), s11, s12, s13, .val (.int i14), .val (.ref o15), s16, s17, s18, s19] [(.int i14), (.ref o8), (.ref o15)])) rfl rfl (hb hby at_331) _ ?_
  show Steps p.tables e below (T0.setTop (mkF m 332 #[s0, s1, s2, s3, s4, s5, s6, s7, .val (.ref o8), s9, .val (.ref o10), s11, s12, s13, .val (.int i14), .val (.ref o15), s16, s17, s18, s19] [(.ref w7), (.ref o15)])) _
  refine XS.aload X0.here hx rfl (hb hby at_332) rfl rfl ?_
  show Steps p.tables e below (T0.setTop (mkF m 334 #[s0, s1, s2, s3, s4, s5, s6, s7, .val (.ref o8), s9, .val (.ref o10), s11, s12, s13, .val (.int i14), .val (.ref o15), s16, s17, s18, s19] [(.ref o10), (.ref w7), (.ref o15)])) _
  refine XS.iconst X0.here hx rfl (hb hby at_334) ?_
  show Steps p.tables e below (T0.setTop (mkF m 335 #[s0, s1, s2, s3, s4, s5, s6, s7, .val (.ref o8), s9, .val (.ref o10), s11, s12, s13, .val (.int i14), .val (.ref o15), s16, s17, s18, s19] [(.int (3 : Int32)), (.ref o10), (.ref w7), (.ref o15)])) _
  refine X0.aaload hx (j := (3 : Int32)) (v := w8) (by rw [e0]; exact Ar_o10.1) (State.isArrayOf_alike hZ.alike Ar_o10.2.1) rfl Ar_o10.2.2 hin335 hat335 (g := (mkF m 335 #[s0, s1, s2, s3, s4, s5, s6, s7, .val (.ref o8), s9, .val (.ref o10), s11, s12, s13, .val (.int i14), .val (.ref o15), s16, s17, s18, s19] [(.int (3 : Int32)), (.ref o10), (.ref w7), (.ref o15)])) rfl rfl (hb hby at_335) _ ?_
  show Steps p.tables e below (T0.setTop (mkF m 336 #[s0, s1, s2, s3, s4, s5, s6, s7, .val (.ref o8), s9, .val (.ref o10), s11, s12, s13, .val (.int i14), .val (.ref o15), s16, s17, s18, s19] [w8, (.ref w7), (.ref o15)])) _
  refine st9.trans ?_
  exact kt
set_option maxHeartbeats 4000000 in
theorem own_d3 {p : Program} {l : Launch} {e : Env} {s : State} {m : MethodId} {args : Array Value} {below : List Frame} {meth : Method} {c : Code} {T0 : State} {locs : List Loc} {cells slots : Nat} {Z : State} {a0 : Array Value} {h0 : Heap} {n0 : Nat} (s0 : Slot) (s1 : Slot) (s2 : Slot) (s3 : Slot) (s4 : Slot) (s5 : Slot) (s6 : Slot) (s7 : Slot) (s9 : Slot) (s11 : Slot) (s12 : Slot) (s13 : Slot) (s16 : Slot) (s17 : Slot) (s18 : Slot) (s19 : Slot) (kO kV : ClassId) (ow va sy t0 t1 t2 : Addr) (v0 v1 v2 v3 : Value) (o : Int32) (CH : List (Addr × Addr × Value)) (hd : Value) (X0 : Stand p l e room_1 s m args below meth c T0 locs cells slots) (hx : p.tables.exec = Jvm.exec) (hZ : Z.Warmed39 s.vm) (hw : ∀ d ∈ tables_1, d.before a0 Z = true) (hby : c.code = code) (hml : c.maxLocals = 20) (hown : s.vm.findClass "com/example/fixpoint/fixpoint/expr/SymbolAttachmentPinLaw" = some m.cls) (e0 : T0.heap = h0) (I : own_Inv Z h0 n0 kO kV ow va sy t0 t1 t2 v0 v1 v2 v3 CH hd) (hv : Rf v3) (N : Fr n0 locs) (hcl : cells ≤ 40) (hsl : slots ≤ 120) (ho : o = 3 ∨ o = 0 ∨ o = 1 ∨ o = 2) :
    ∃ (T' : State) (h' : Heap) (locs' : List Loc) (cells' slots' : Nat) (CH' : List (Addr × Addr × Value)) (hd' : Value), Stand p l e room_1 s m args below meth c T' locs' cells' slots' ∧ T'.heap = h' ∧ Fr n0 locs' ∧ cells' ≤ cells + 1 ∧ slots' ≤ slots + 3 ∧ own_Inv Z h' n0 kO kV ow va sy t0 t1 t2 v0 v1 v2 v3 CH' hd' ∧ Keep h0 h' (sy :: own_adr CH) ∧ (∀ x, own_look CH' x = if own_tt o t0 t1 t2 = some x then v3 else own_look CH x) ∧
      ∀ target, Steps p.tables e below (T'.setTop (mkF m 339 #[s0, s1, s2, s3, s4, s5, s6, s7, .val (.ref ow), s9, .val (.ref va), s11, s12, s13, .val (.int o), .val (.ref sy), s16, s17, s18, s19] [])) target → Steps p.tables e below (T0.setTop (mkF m 319 #[s0, s1, s2, s3, s4, s5, s6, s7, .val (.ref ow), s9, .val (.ref va), s11, s12, s13, .val (.int o), .val (.ref sy), s16, s17, s18, s19] [])) target := by
  have I0 := I
  obtain ⟨Z0, VO, VV, E, F, C, nd, A0, -, -, gs⟩ := I0
  obtain ⟨cl8, A8, -, S8, -, H8, -⟩ := VO
  obtain ⟨cl10, A10, -, S10, -, H10, -⟩ := VV
  have S8' : cl8.slots.size = 3 := S8
  have S10' : cl10.slots.size = 4 := S10
  rcases ho with ho | ho | ho | ho
  · subst ho
    obtain ⟨T1, X1, e1, st1⟩ := own_ds3 (s0) (s1) (s2) (s3) (s4) (s5) (s6) (s7) (.val (.ref ow)) (s9) (.val (.ref va)) (s11) (s12) (s13) (3 : Int32) (.val (.ref sy)) (s16) (s17) (s18) (s19) X0 hx hZ hw hby hml hown e0 rfl
    exact ⟨T1, h0, locs, cells, slots, CH, hd, X1, e1, N, Nat.le_succ _, Nat.le_add_right _ _, I, Keep.refl _ _, fun x => by rw [show own_tt 3 t0 t1 t2 = none from rfl, if_neg (fun q => nomatch q)], st1⟩
  · subst ho
    obtain ⟨T1, h1, L1, CH', hd', X1, e1, N1, K1, E1, F1, C1, nd1, ad1, lk1, st1⟩ := own_da3 (s0) (s1) (s2) (s3) (s4) (s5) (s6) (s7) ow (s9) va (s11) (s12) (s13) (0 : Int32) sy (s16) (s17) (s18) (s19) t0 cl8 v3 cl10 CH hd X0 hx hZ hw hby hml hown e0 hv A8 (by rw [S8']; decide) (H8 0 (by omega)) A10 (by rw [S10']; decide) (H10 3 (by omega)) E (by decide) F C nd (fun q => (A0 _ q).2.2.2 rfl) gs (fun a ha => (A0 a ha).1) Z0 N hcl hsl
    exact ⟨T1, h1, L1, _, _, CH', hd', X1, e1, N1, Nat.le_refl _, Nat.le_refl _, I.step K1 E1 F1 C1 nd1 ad1, K1, fun x => by rw [lk1 x, show own_tt 0 t0 t1 t2 = some t0 from rfl]; simp only [Option.some.injEq], st1⟩
  · subst ho
    obtain ⟨T1, h1, L1, CH', hd', X1, e1, N1, K1, E1, F1, C1, nd1, ad1, lk1, st1⟩ := own_da3 (s0) (s1) (s2) (s3) (s4) (s5) (s6) (s7) ow (s9) va (s11) (s12) (s13) (1 : Int32) sy (s16) (s17) (s18) (s19) t1 cl8 v3 cl10 CH hd X0 hx hZ hw hby hml hown e0 hv A8 (by rw [S8']; decide) (H8 1 (by omega)) A10 (by rw [S10']; decide) (H10 3 (by omega)) E (by decide) F C nd (fun q => (A0 _ q).2.2.2 rfl) gs (fun a ha => (A0 a ha).1) Z0 N hcl hsl
    exact ⟨T1, h1, L1, _, _, CH', hd', X1, e1, N1, Nat.le_refl _, Nat.le_refl _, I.step K1 E1 F1 C1 nd1 ad1, K1, fun x => by rw [lk1 x, show own_tt 1 t0 t1 t2 = some t1 from rfl]; simp only [Option.some.injEq], st1⟩
  · subst ho
    obtain ⟨T1, h1, L1, CH', hd', X1, e1, N1, K1, E1, F1, C1, nd1, ad1, lk1, st1⟩ := own_da3 (s0) (s1) (s2) (s3) (s4) (s5) (s6) (s7) ow (s9) va (s11) (s12) (s13) (2 : Int32) sy (s16) (s17) (s18) (s19) t2 cl8 v3 cl10 CH hd X0 hx hZ hw hby hml hown e0 hv A8 (by rw [S8']; decide) (H8 2 (by omega)) A10 (by rw [S10']; decide) (H10 3 (by omega)) E (by decide) F C nd (fun q => (A0 _ q).2.2.2 rfl) gs (fun a ha => (A0 a ha).1) Z0 N hcl hsl
    exact ⟨T1, h1, L1, _, _, CH', hd', X1, e1, N1, Nat.le_refl _, Nat.le_refl _, I.step K1 E1 F1 C1 nd1 ad1, K1, fun x => by rw [lk1 x, show own_tt 2 t0 t1 t2 = some t2 from rfl]; simp only [Option.some.injEq], st1⟩
theorem own_B0 {p : Program} {l : Launch} {e : Env} {s : State} {m : MethodId} {args : Array Value} {below : List Frame} {meth : Method} {c : Code} {T0 : State} {locs : List Loc} {cells slots : Nat} {Z : State} {a0 : Array Value} {h0 : Heap} {n0 : Nat} (s1 : Slot) (s3 : Slot) (s4 : Slot) (s5 : Slot) (s6 : Slot) (s7 : Slot) (s8 : Slot) (s9 : Slot) (s11 : Slot) (s12 : Slot) (s13 : Slot) (s14 : Slot) (s15 : Slot) (s16 : Slot) (s17 : Slot) (s18 : Slot) (s19 : Slot) (i0 iv : Int32) (va : Addr) (kV : ClassId) (v0 v1 v2 v3 : Value) (cw : Addr) (bcl : Cell) (bval : Int32 → Value) (X0 : Stand p l e room_1 s m args below meth c T0 locs cells slots) (hx : p.tables.exec = Jvm.exec) (hZ : Z.Warmed39 s.vm) (hw : ∀ d ∈ tables_1, d.before a0 Z = true) (hby : c.code = code) (hml : c.maxLocals = 20) (hown : s.vm.findClass "com/example/fixpoint/fixpoint/expr/SymbolAttachmentPinLaw" = some m.cls) (e0 : T0.heap = h0) (Z0 : n0 ≤ h0.size) (N : Fr n0 locs) (g_o10 : n0 ≤ va) (V : Arv Z h0 va kV (.object "java/lang/Object") (4 : Int32) [v0, v1, v2, v3] .null) (OV : Ovr Z kV "java/lang/Object") (O : Old Z n0 h0) (SH : Sta Z Z.heap "java/lang/Integer$IntegerCache" "high" "I" (.int (127 : Int32))) (SC : Sta Z Z.heap "java/lang/Integer$IntegerCache" "cache" "[Ljava/lang/Integer;" (.ref cw)) (B : Bxs Z cw bcl "java/lang/Integer" "I" (256 : Int32) bval) (hcl : cells ≤ 40) (hsl : slots ≤ 120) :
    ∃ (T' : State) (h' : Heap) (locs' : List Loc) (cells' slots' : Nat) (w : Value), Stand p l e room_1 s m args below meth c T' locs' cells' slots' ∧ T'.heap = h' ∧ Fr n0 locs' ∧ cells' ≤ cells + 1 ∧ slots' ≤ slots + 1 ∧ Keep h0 h' [va] ∧ Rf w ∧ Arv Z h' va kV (.object "java/lang/Object") (4 : Int32) ([v0, v1, v2, v3].set 0 w) .null ∧
      ∀ target, Steps p.tables e below (T'.setTop (mkF m 135 #[.val (.int i0), s1, .val (.int iv), s3, s4, s5, s6, s7, s8, s9, .val (.ref va), s11, s12, s13, s14, s15, s16, s17, s18, s19] [])) target → Steps p.tables e below (T0.setTop (mkF m 114 #[.val (.int i0), s1, .val (.int iv), s3, s4, s5, s6, s7, s8, s9, .val (.ref va), s11, s12, s13, s14, s15, s16, s17, s18, s19] [])) target := by
  by_cases hc : (((i0.toUInt32 >>> ((8 : Int32) &&& 31).toUInt32).toInt32) &&& (1 : Int32)) = (0 : Int32)
  · exact own_bv0 i0 (s1) iv (s3) (s4) (s5) (s6) (s7) (s8) (s9) va (s11) (s12) (s13) (s14) (s15) (s16) (s17) (s18) (s19) kV v0 v1 v2 v3 cw bcl bval X0 hx hZ hw hby hml hown e0 hc Z0 N g_o10 V OV O SH SC B hcl hsl
  · exact own_bn0 i0 (s1) (.val (.int iv)) (s3) (s4) (s5) (s6) (s7) (s8) (s9) va (s11) (s12) (s13) (s14) (s15) (s16) (s17) (s18) (s19) kV v0 v1 v2 v3 cw bcl bval X0 hx hZ hw hby hml hown e0 hc Z0 N g_o10 V OV O SH SC B hcl hsl
theorem own_B1 {p : Program} {l : Launch} {e : Env} {s : State} {m : MethodId} {args : Array Value} {below : List Frame} {meth : Method} {c : Code} {T0 : State} {locs : List Loc} {cells slots : Nat} {Z : State} {a0 : Array Value} {h0 : Heap} {n0 : Nat} (s1 : Slot) (s2 : Slot) (s4 : Slot) (s5 : Slot) (s6 : Slot) (s7 : Slot) (s8 : Slot) (s9 : Slot) (s11 : Slot) (s12 : Slot) (s13 : Slot) (s14 : Slot) (s15 : Slot) (s16 : Slot) (s17 : Slot) (s18 : Slot) (s19 : Slot) (i0 iv : Int32) (va : Addr) (kV : ClassId) (v0 v1 v2 v3 : Value) (cw : Addr) (bcl : Cell) (bval : Int32 → Value) (X0 : Stand p l e room_1 s m args below meth c T0 locs cells slots) (hx : p.tables.exec = Jvm.exec) (hZ : Z.Warmed39 s.vm) (hw : ∀ d ∈ tables_1, d.before a0 Z = true) (hby : c.code = code) (hml : c.maxLocals = 20) (hown : s.vm.findClass "com/example/fixpoint/fixpoint/expr/SymbolAttachmentPinLaw" = some m.cls) (e0 : T0.heap = h0) (Z0 : n0 ≤ h0.size) (N : Fr n0 locs) (g_o10 : n0 ≤ va) (V : Arv Z h0 va kV (.object "java/lang/Object") (4 : Int32) [v0, v1, v2, v3] .null) (OV : Ovr Z kV "java/lang/Object") (O : Old Z n0 h0) (SH : Sta Z Z.heap "java/lang/Integer$IntegerCache" "high" "I" (.int (127 : Int32))) (SC : Sta Z Z.heap "java/lang/Integer$IntegerCache" "cache" "[Ljava/lang/Integer;" (.ref cw)) (B : Bxs Z cw bcl "java/lang/Integer" "I" (256 : Int32) bval) (hcl : cells ≤ 40) (hsl : slots ≤ 120) :
    ∃ (T' : State) (h' : Heap) (locs' : List Loc) (cells' slots' : Nat) (w : Value), Stand p l e room_1 s m args below meth c T' locs' cells' slots' ∧ T'.heap = h' ∧ Fr n0 locs' ∧ cells' ≤ cells + 1 ∧ slots' ≤ slots + 1 ∧ Keep h0 h' [va] ∧ Rf w ∧ Arv Z h' va kV (.object "java/lang/Object") (4 : Int32) ([v0, v1, v2, v3].set 1 w) .null ∧
      ∀ target, Steps p.tables e below (T'.setTop (mkF m 156 #[.val (.int i0), s1, s2, .val (.int iv), s4, s5, s6, s7, s8, s9, .val (.ref va), s11, s12, s13, s14, s15, s16, s17, s18, s19] [])) target → Steps p.tables e below (T0.setTop (mkF m 135 #[.val (.int i0), s1, s2, .val (.int iv), s4, s5, s6, s7, s8, s9, .val (.ref va), s11, s12, s13, s14, s15, s16, s17, s18, s19] [])) target := by
  by_cases hc : (((i0.toUInt32 >>> ((9 : Int32) &&& 31).toUInt32).toInt32) &&& (1 : Int32)) = (0 : Int32)
  · exact own_bv1 i0 (s1) (s2) iv (s4) (s5) (s6) (s7) (s8) (s9) va (s11) (s12) (s13) (s14) (s15) (s16) (s17) (s18) (s19) kV v0 v1 v2 v3 cw bcl bval X0 hx hZ hw hby hml hown e0 hc Z0 N g_o10 V OV O SH SC B hcl hsl
  · exact own_bn1 i0 (s1) (s2) (.val (.int iv)) (s4) (s5) (s6) (s7) (s8) (s9) va (s11) (s12) (s13) (s14) (s15) (s16) (s17) (s18) (s19) kV v0 v1 v2 v3 cw bcl bval X0 hx hZ hw hby hml hown e0 hc Z0 N g_o10 V OV O SH SC B hcl hsl
theorem own_B2 {p : Program} {l : Launch} {e : Env} {s : State} {m : MethodId} {args : Array Value} {below : List Frame} {meth : Method} {c : Code} {T0 : State} {locs : List Loc} {cells slots : Nat} {Z : State} {a0 : Array Value} {h0 : Heap} {n0 : Nat} (s1 : Slot) (s2 : Slot) (s3 : Slot) (s5 : Slot) (s6 : Slot) (s7 : Slot) (s8 : Slot) (s9 : Slot) (s11 : Slot) (s12 : Slot) (s13 : Slot) (s14 : Slot) (s15 : Slot) (s16 : Slot) (s17 : Slot) (s18 : Slot) (s19 : Slot) (i0 iv : Int32) (va : Addr) (kV : ClassId) (v0 v1 v2 v3 : Value) (cw : Addr) (bcl : Cell) (bval : Int32 → Value) (X0 : Stand p l e room_1 s m args below meth c T0 locs cells slots) (hx : p.tables.exec = Jvm.exec) (hZ : Z.Warmed39 s.vm) (hw : ∀ d ∈ tables_1, d.before a0 Z = true) (hby : c.code = code) (hml : c.maxLocals = 20) (hown : s.vm.findClass "com/example/fixpoint/fixpoint/expr/SymbolAttachmentPinLaw" = some m.cls) (e0 : T0.heap = h0) (Z0 : n0 ≤ h0.size) (N : Fr n0 locs) (g_o10 : n0 ≤ va) (V : Arv Z h0 va kV (.object "java/lang/Object") (4 : Int32) [v0, v1, v2, v3] .null) (OV : Ovr Z kV "java/lang/Object") (O : Old Z n0 h0) (SH : Sta Z Z.heap "java/lang/Integer$IntegerCache" "high" "I" (.int (127 : Int32))) (SC : Sta Z Z.heap "java/lang/Integer$IntegerCache" "cache" "[Ljava/lang/Integer;" (.ref cw)) (B : Bxs Z cw bcl "java/lang/Integer" "I" (256 : Int32) bval) (hcl : cells ≤ 40) (hsl : slots ≤ 120) :
    ∃ (T' : State) (h' : Heap) (locs' : List Loc) (cells' slots' : Nat) (w : Value), Stand p l e room_1 s m args below meth c T' locs' cells' slots' ∧ T'.heap = h' ∧ Fr n0 locs' ∧ cells' ≤ cells + 1 ∧ slots' ≤ slots + 1 ∧ Keep h0 h' [va] ∧ Rf w ∧ Arv Z h' va kV (.object "java/lang/Object") (4 : Int32) ([v0, v1, v2, v3].set 2 w) .null ∧
      ∀ target, Steps p.tables e below (T'.setTop (mkF m 178 #[.val (.int i0), s1, s2, s3, .val (.int iv), s5, s6, s7, s8, s9, .val (.ref va), s11, s12, s13, s14, s15, s16, s17, s18, s19] [])) target → Steps p.tables e below (T0.setTop (mkF m 156 #[.val (.int i0), s1, s2, s3, .val (.int iv), s5, s6, s7, s8, s9, .val (.ref va), s11, s12, s13, s14, s15, s16, s17, s18, s19] [])) target := by
  by_cases hc : (((i0.toUInt32 >>> ((10 : Int32) &&& 31).toUInt32).toInt32) &&& (1 : Int32)) = (0 : Int32)
  · exact own_bv2 i0 (s1) (s2) (s3) iv (s5) (s6) (s7) (s8) (s9) va (s11) (s12) (s13) (s14) (s15) (s16) (s17) (s18) (s19) kV v0 v1 v2 v3 cw bcl bval X0 hx hZ hw hby hml hown e0 hc Z0 N g_o10 V OV O SH SC B hcl hsl
  · exact own_bn2 i0 (s1) (s2) (s3) (.val (.int iv)) (s5) (s6) (s7) (s8) (s9) va (s11) (s12) (s13) (s14) (s15) (s16) (s17) (s18) (s19) kV v0 v1 v2 v3 cw bcl bval X0 hx hZ hw hby hml hown e0 hc Z0 N g_o10 V OV O SH SC B hcl hsl
theorem own_B3 {p : Program} {l : Launch} {e : Env} {s : State} {m : MethodId} {args : Array Value} {below : List Frame} {meth : Method} {c : Code} {T0 : State} {locs : List Loc} {cells slots : Nat} {Z : State} {a0 : Array Value} {h0 : Heap} {n0 : Nat} (s1 : Slot) (s2 : Slot) (s3 : Slot) (s4 : Slot) (s6 : Slot) (s7 : Slot) (s8 : Slot) (s9 : Slot) (s11 : Slot) (s12 : Slot) (s13 : Slot) (s14 : Slot) (s15 : Slot) (s16 : Slot) (s17 : Slot) (s18 : Slot) (s19 : Slot) (i0 iv : Int32) (va : Addr) (kV : ClassId) (v0 v1 v2 v3 : Value) (cw : Addr) (bcl : Cell) (bval : Int32 → Value) (X0 : Stand p l e room_1 s m args below meth c T0 locs cells slots) (hx : p.tables.exec = Jvm.exec) (hZ : Z.Warmed39 s.vm) (hw : ∀ d ∈ tables_1, d.before a0 Z = true) (hby : c.code = code) (hml : c.maxLocals = 20) (hown : s.vm.findClass "com/example/fixpoint/fixpoint/expr/SymbolAttachmentPinLaw" = some m.cls) (e0 : T0.heap = h0) (Z0 : n0 ≤ h0.size) (N : Fr n0 locs) (g_o10 : n0 ≤ va) (V : Arv Z h0 va kV (.object "java/lang/Object") (4 : Int32) [v0, v1, v2, v3] .null) (OV : Ovr Z kV "java/lang/Object") (O : Old Z n0 h0) (SH : Sta Z Z.heap "java/lang/Integer$IntegerCache" "high" "I" (.int (127 : Int32))) (SC : Sta Z Z.heap "java/lang/Integer$IntegerCache" "cache" "[Ljava/lang/Integer;" (.ref cw)) (B : Bxs Z cw bcl "java/lang/Integer" "I" (256 : Int32) bval) (hcl : cells ≤ 40) (hsl : slots ≤ 120) :
    ∃ (T' : State) (h' : Heap) (locs' : List Loc) (cells' slots' : Nat) (w : Value), Stand p l e room_1 s m args below meth c T' locs' cells' slots' ∧ T'.heap = h' ∧ Fr n0 locs' ∧ cells' ≤ cells + 1 ∧ slots' ≤ slots + 1 ∧ Keep h0 h' [va] ∧ Rf w ∧ Arv Z h' va kV (.object "java/lang/Object") (4 : Int32) ([v0, v1, v2, v3].set 3 w) .null ∧
      ∀ target, Steps p.tables e below (T'.setTop (mkF m 200 #[.val (.int i0), s1, s2, s3, s4, .val (.int iv), s6, s7, s8, s9, .val (.ref va), s11, s12, s13, s14, s15, s16, s17, s18, s19] [])) target → Steps p.tables e below (T0.setTop (mkF m 178 #[.val (.int i0), s1, s2, s3, s4, .val (.int iv), s6, s7, s8, s9, .val (.ref va), s11, s12, s13, s14, s15, s16, s17, s18, s19] [])) target := by
  by_cases hc : (((i0.toUInt32 >>> ((11 : Int32) &&& 31).toUInt32).toInt32) &&& (1 : Int32)) = (0 : Int32)
  · exact own_bv3 i0 (s1) (s2) (s3) (s4) iv (s6) (s7) (s8) (s9) va (s11) (s12) (s13) (s14) (s15) (s16) (s17) (s18) (s19) kV v0 v1 v2 v3 cw bcl bval X0 hx hZ hw hby hml hown e0 hc Z0 N g_o10 V OV O SH SC B hcl hsl
  · exact own_bn3 i0 (s1) (s2) (s3) (s4) (.val (.int iv)) (s6) (s7) (s8) (s9) va (s11) (s12) (s13) (s14) (s15) (s16) (s17) (s18) (s19) kV v0 v1 v2 v3 cw bcl bval X0 hx hZ hw hby hml hown e0 hc Z0 N g_o10 V OV O SH SC B hcl hsl
theorem own_C {p : Program} {l : Launch} {e : Env} {s : State} {m : MethodId} {args : Array Value} {below : List Frame} {meth : Method} {c : Code} {T0 : State} {locs : List Loc} {cells slots : Nat} {Z : State} {a0 : Array Value} {h0 : Heap} {n0 : Nat} (s1 : Slot) (s2 : Slot) (s3 : Slot) (s4 : Slot) (s5 : Slot) (s6 : Slot) (s8 : Slot) (s9 : Slot) (s10 : Slot) (i0 : Int32) (ds : Addr) (z : Int32) (kD : ClassId) (c0 c1 : Int32) (X0 : Stand p l e room_1 s m args below meth c T0 locs cells slots) (hx : p.tables.exec = Jvm.exec) (hZ : Z.Warmed39 s.vm) (hw : ∀ d ∈ tables_1, d.before a0 Z = true) (hby : c.code = code) (hml : c.maxLocals = 20) (hown : s.vm.findClass "com/example/fixpoint/fixpoint/expr/SymbolAttachmentPinLaw" = some m.cls) (e0 : T0.heap = h0) (Z0 : n0 ≤ h0.size) (N : Fr n0 locs) (O : Old Z n0 h0) (SCS : Sta Z Z.heap "java/lang/String" "COMPACT_STRINGS" "Z" (.int z)) (hcz : ¬ z = 0) (VD : Arv Z h0 ds kD .char (2 : Int32) [.int c0, .int c1] (.int 0)) (hch : ∀ x ∈ ([c0, c1] : List Int32), ¬ x < 0 ∧ ¬ (255 : Int32) < x) (hcl : cells ≤ 40) (hsl : slots ≤ 120) :
    ∃ (T' : State) (h' : Heap) (locs' : List Loc) (slots' : Nat) (sy : Addr), Stand p l e room_1 s m args below meth c T' locs' (cells + 3) slots' ∧ T'.heap = h' ∧ Fr n0 locs' ∧ slots' ≤ slots + 10 ∧ Keep h0 h' [] ∧ Exa Z h' sy "com/example/fixpoint/fixpoint/expr/Symbol" ∧ Fld Z h' sy "com/example/fixpoint/fixpoint/expr/Symbol" "attachments" "Lcom/example/fixpoint/fixpoint/expr/Symbol$Attachment;" .null ∧ h0.size ≤ sy ∧
      ∀ target, Steps p.tables e below (T'.setTop (mkF m 259 #[.val (.int i0), s1, s2, s3, s4, s5, s6, .val (.ref ds), s8, s9, s10, .val (.int (i0 &&& (3 : Int32))), .val (.int (((i0.toUInt32 >>> ((2 : Int32) &&& 31).toUInt32).toInt32) &&& (3 : Int32))), .val (.int (((i0.toUInt32 >>> ((4 : Int32) &&& 31).toUInt32).toInt32) &&& (3 : Int32))), .val (.int (((i0.toUInt32 >>> ((6 : Int32) &&& 31).toUInt32).toInt32) &&& (3 : Int32))), .val (.ref sy), .unset, .unset, .unset, .unset] [])) target → Steps p.tables e below (T0.setTop (mkF m 200 #[.val (.int i0), s1, s2, s3, s4, s5, s6, .val (.ref ds), s8, s9, s10, .unset, .unset, .unset, .unset, .unset, .unset, .unset, .unset, .unset] [])) target := by
  by_cases hc : (((i0.toUInt32 >>> ((12 : Int32) &&& 31).toUInt32).toInt32) &&& (1 : Int32)) = (0 : Int32)
  · exact own_c0 i0 s1 s2 s3 s4 s5 s6 ds s8 s9 s10 .unset .unset .unset .unset .unset .unset .unset .unset .unset z kD c0 c1 X0 hx hZ hw hby hml hown e0 One.u One.u One.u One.u One.u hc Z0 N O SCS hcz VD hch hcl hsl
  · exact own_c1 i0 s1 s2 s3 s4 s5 s6 ds s8 s9 s10 .unset .unset .unset .unset .unset .unset .unset .unset .unset z kD c0 c1 X0 hx hZ hw hby hml hown e0 One.u One.u One.u One.u One.u hc Z0 N O SCS hcz VD hch hcl hsl
theorem pd_0_18 : parseMethodDescriptor "(Ljava/lang/Object;)Ljava/lang/Object;" = some ⟨[(.object "java/lang/Object")], some (.object "java/lang/Object")⟩ := by decide +kernel
theorem pd_0_19 : parseMethodDescriptor "(IIIII[Ljava/lang/Object;)Ljava/lang/Object;" = some ⟨[.int, .int, .int, .int, .int, (.array (.object "java/lang/Object"))], some (.object "java/lang/Object")⟩ := by decide +kernel
set_option maxRecDepth 65536 in
set_option maxHeartbeats 40000000 in
theorem own_E {p : Program} {l : Launch} {e : Env} {s : State} {m : MethodId} {args : Array Value} {below : List Frame} {meth : Method} {c : Code} {T0 : State} {locs : List Loc} {cells slots : Nat} {Z : State} {a0 : Array Value} {h0 : Heap} {n0 : Nat} (s0 : Slot) (s1 : Slot) (s2 : Slot) (s3 : Slot) (s4 : Slot) (s5 : Slot) (s6 : Slot) (s7 : Slot) (o8 : Addr) (o9 : Addr) (o10 : Addr) (i11 : Int32) (i12 : Int32) (i13 : Int32) (i14 : Int32) (o15 : Addr) (w7 : Addr) (cl_o8 : Cell) (w9 : Addr) (w11 : Addr) (q0 q1 q2 : Value)
    (X0 : Stand p l e room_1 s m args below meth c T0 locs cells slots) (hx : p.tables.exec = Jvm.exec) (hZ : Z.Warmed39 s.vm) (hw : ∀ d ∈ tables_1, d.before a0 Z = true) (hby : c.code = code) (hml : c.maxLocals = 20) (hown : s.vm.findClass "com/example/fixpoint/fixpoint/expr/SymbolAttachmentPinLaw" = some m.cls) (e0 : T0.heap = h0) (Ar_o8 : Arr Z h0 o8 cl_o8 (.object "java/lang/Object")) (hin344 : ¬ ((0 : Int32) < 0 ∨ cl_o8.slots.size ≤ ((0 : Int32)).toNatClampNeg)) (hat344 : cl_o8.slots[((0 : Int32)).toNatClampNeg]? = some (.ref w7)) (CALL_8_19 : MetFree l (⟨"com/example/fixpoint/fixpoint/expr/Symbol", "attachment", "(Ljava/lang/Object;)Ljava/lang/Object;"⟩ : MethodName) (head1 [Jvm.Cond.code (⟨"com/example/fixpoint/fixpoint/expr/Symbol", "attachment", "(Ljava/lang/Object;)Ljava/lang/Object;"⟩ : MethodName) prog_142_method_4_code 3 (some (.object "java/lang/Object"))] ({ frames := 1, cells := 0, slots := 0, locals := 14 } : Room)) (fun a U => a = #[(.ref o15), (.ref w7)] ∧ Z.Warmed39 U.vm ∧ U.heap = h0) (fun _ _ _ _ _ => True) (fun _ U o U' => ∃ v L, o = .returned v ∧ QP (some q0) h0 n0 v U'.heap L ∧ FrameEnd U o U' L ({ frames := 1, cells := 0, slots := 0, locals := 14 } : Room).cells ({ frames := 1, cells := 0, slots := 0, locals := 14 } : Room).slots)) (E_o15 : Exa Z h0 o15 "com/example/fixpoint/fixpoint/expr/Symbol") (hin355 : ¬ ((1 : Int32) < 0 ∨ cl_o8.slots.size ≤ ((1 : Int32)).toNatClampNeg)) (hat355 : cl_o8.slots[((1 : Int32)).toNatClampNeg]? = some (.ref w9)) (CALL_10_19 : MetFree l (⟨"com/example/fixpoint/fixpoint/expr/Symbol", "attachment", "(Ljava/lang/Object;)Ljava/lang/Object;"⟩ : MethodName) (head1 [Jvm.Cond.code (⟨"com/example/fixpoint/fixpoint/expr/Symbol", "attachment", "(Ljava/lang/Object;)Ljava/lang/Object;"⟩ : MethodName) prog_142_method_4_code 3 (some (.object "java/lang/Object"))] ({ frames := 1, cells := 0, slots := 0, locals := 14 } : Room)) (fun a U => a = #[(.ref o15), (.ref w9)] ∧ Z.Warmed39 U.vm ∧ U.heap = h0) (fun _ _ _ _ _ => True) (fun _ U o U' => ∃ v L, o = .returned v ∧ QP (some q1) h0 n0 v U'.heap L ∧ FrameEnd U o U' L ({ frames := 1, cells := 0, slots := 0, locals := 14 } : Room).cells ({ frames := 1, cells := 0, slots := 0, locals := 14 } : Room).slots)) (hin366 : ¬ ((2 : Int32) < 0 ∨ cl_o8.slots.size ≤ ((2 : Int32)).toNatClampNeg)) (hat366 : cl_o8.slots[((2 : Int32)).toNatClampNeg]? = some (.ref w11)) (CALL_12_19 : MetFree l (⟨"com/example/fixpoint/fixpoint/expr/Symbol", "attachment", "(Ljava/lang/Object;)Ljava/lang/Object;"⟩ : MethodName) (head1 [Jvm.Cond.code (⟨"com/example/fixpoint/fixpoint/expr/Symbol", "attachment", "(Ljava/lang/Object;)Ljava/lang/Object;"⟩ : MethodName) prog_142_method_4_code 3 (some (.object "java/lang/Object"))] ({ frames := 1, cells := 0, slots := 0, locals := 14 } : Room)) (fun a U => a = #[(.ref o15), (.ref w11)] ∧ Z.Warmed39 U.vm ∧ U.heap = h0) (fun _ _ _ _ _ => True) (fun _ U o U' => ∃ v L, o = .returned v ∧ QP (some q2) h0 n0 v U'.heap L ∧ FrameEnd U o U' L ({ frames := 1, cells := 0, slots := 0, locals := 14 } : Room).cells ({ frames := 1, cells := 0, slots := 0, locals := 14 } : Room).slots)) (CALL_13_19 : MetFree l (⟨"com/example/fixpoint/fixpoint/expr/Symbol", "attachment", "(Ljava/lang/Object;)Ljava/lang/Object;"⟩ : MethodName) (head1 [Jvm.Cond.code (⟨"com/example/fixpoint/fixpoint/expr/Symbol", "attachment", "(Ljava/lang/Object;)Ljava/lang/Object;"⟩ : MethodName) prog_142_method_4_code 3 (some (.object "java/lang/Object"))] ({ frames := 1, cells := 0, slots := 0, locals := 14 } : Room)) (fun a U => a = #[(.ref o15), (.ref o9)] ∧ Z.Warmed39 U.vm ∧ U.heap = h0) (fun _ _ _ _ _ => True) (fun _ U o U' => ∃ v L, o = .returned v ∧ QP (some .null) h0 n0 v U'.heap L ∧ FrameEnd U o U' L ({ frames := 1, cells := 0, slots := 0, locals := 14 } : Room).cells ({ frames := 1, cells := 0, slots := 0, locals := 14 } : Room).slots)) (CALL_14_20 : MetFree l (⟨"com/example/fixpoint/fixpoint/expr/SymbolAttachmentPinLaw", "expected", "(IIIII[Ljava/lang/Object;)Ljava/lang/Object;"⟩ : MethodName) (head1 [Jvm.Cond.code (⟨"com/example/fixpoint/fixpoint/expr/SymbolAttachmentPinLaw", "expected", "(IIIII[Ljava/lang/Object;)Ljava/lang/Object;"⟩ : MethodName) method_3_code 7 (some (.object "java/lang/Object"))] ({ frames := 0, cells := 0, slots := 0, locals := 0 } : Room)) (fun a U => a = #[(.int (0 : Int32)), (.int i11), (.int i12), (.int i13), (.int i14), (.ref o10)] ∧ Z.Warmed39 U.vm ∧ U.heap = h0) (fun _ _ _ _ _ => True) (fun _ U o U' => ∃ v L, o = .returned v ∧ QP (some q0) h0 n0 v U'.heap L ∧ FrameEnd U o U' L ({ frames := 0, cells := 0, slots := 0, locals := 0 } : Room).cells ({ frames := 0, cells := 0, slots := 0, locals := 0 } : Room).slots)) (CALL_15_20 : MetFree l (⟨"com/example/fixpoint/fixpoint/expr/SymbolAttachmentPinLaw", "expected", "(IIIII[Ljava/lang/Object;)Ljava/lang/Object;"⟩ : MethodName) (head1 [Jvm.Cond.code (⟨"com/example/fixpoint/fixpoint/expr/SymbolAttachmentPinLaw", "expected", "(IIIII[Ljava/lang/Object;)Ljava/lang/Object;"⟩ : MethodName) method_3_code 7 (some (.object "java/lang/Object"))] ({ frames := 0, cells := 0, slots := 0, locals := 0 } : Room)) (fun a U => a = #[(.int (1 : Int32)), (.int i11), (.int i12), (.int i13), (.int i14), (.ref o10)] ∧ Z.Warmed39 U.vm ∧ U.heap = h0) (fun _ _ _ _ _ => True) (fun _ U o U' => ∃ v L, o = .returned v ∧ QP (some q1) h0 n0 v U'.heap L ∧ FrameEnd U o U' L ({ frames := 0, cells := 0, slots := 0, locals := 0 } : Room).cells ({ frames := 0, cells := 0, slots := 0, locals := 0 } : Room).slots)) (CALL_16_20 : MetFree l (⟨"com/example/fixpoint/fixpoint/expr/SymbolAttachmentPinLaw", "expected", "(IIIII[Ljava/lang/Object;)Ljava/lang/Object;"⟩ : MethodName) (head1 [Jvm.Cond.code (⟨"com/example/fixpoint/fixpoint/expr/SymbolAttachmentPinLaw", "expected", "(IIIII[Ljava/lang/Object;)Ljava/lang/Object;"⟩ : MethodName) method_3_code 7 (some (.object "java/lang/Object"))] ({ frames := 0, cells := 0, slots := 0, locals := 0 } : Room)) (fun a U => a = #[(.int (2 : Int32)), (.int i11), (.int i12), (.int i13), (.int i14), (.ref o10)] ∧ Z.Warmed39 U.vm ∧ U.heap = h0) (fun _ _ _ _ _ => True) (fun _ U o U' => ∃ v L, o = .returned v ∧ QP (some q2) h0 n0 v U'.heap L ∧ FrameEnd U o U' L ({ frames := 0, cells := 0, slots := 0, locals := 0 } : Room).cells ({ frames := 0, cells := 0, slots := 0, locals := 0 } : Room).slots)) (h_q0 : Rf q0) (h_q1 : Rf q1) (h_q2 : Rf q2) (N : Fr n0 locs) (hcl : cells ≤ 40) (hsl : slots ≤ 120) :
    ∃ (T' : State) (locs' : List Loc) (cells' slots' : Nat), Stand p l e room_1 s m args below meth c T' locs' cells' slots' ∧ Fr n0 locs' ∧ cells' ≤ cells ∧ slots' ≤ slots ∧
      ∀ target, Steps p.tables e below (T'.setTop (mkF m 443 #[s0, s1, s2, s3, s4, s5, s6, s7, .val (.ref o8), .val (.ref o9), .val (.ref o10), .val (.int i11), .val (.int i12), .val (.int i13), .val (.int i14), .val (.ref o15), .val q0, .val q1, .val q2, .val .null] [])) target → Steps p.tables e below (T0.setTop (mkF m 339 #[s0, s1, s2, s3, s4, s5, s6, s7, .val (.ref o8), .val (.ref o9), .val (.ref o10), .val (.int i11), .val (.int i12), .val (.int i13), .val (.int i14), .val (.ref o15), .unset, .unset, .unset, .unset] [])) target := by
  have N0 := N
  obtain ⟨cq8, kq8, q8a, q8b, q8c⟩ := isOf hZ e0 E_o15
  obtain ⟨_, _, ⟨T8, L8, k8, n8⟩, -, X8, ⟨Lc8, hQ8, l8, y8, z8⟩, st8⟩ := X0.virtualBack hx (y := (⟨"com/example/fixpoint/fixpoint/expr/Symbol", "attachment", "(Ljava/lang/Object;)Ljava/lang/Object;"⟩ : MethodName)) (z := (⟨"com/example/fixpoint/fixpoint/expr/Symbol", "attachment", "(Ljava/lang/Object;)Ljava/lang/Object;"⟩ : MethodName)) hown (mvT hZ (hw _ (List.mem_of_getElem? (i := 119) rfl))) (mvT hZ (hw _ (List.mem_of_getElem? (i := 120) rfl))) (notFace_of_selects (args := #[]) (mvT hZ (hw _ (List.mem_of_getElem? (i := 122) rfl)))) (mvT hZ (hw _ (List.mem_of_getElem? (i := 122) rfl))) (mvT hZ (hw _ (List.mem_of_getElem? (i := 121) rfl))) (by decide) (backOf (W := 0) CALL_8_19 hZ (hw _ (List.mem_of_getElem? (i := 123) rfl)) (hw _ (List.mem_of_getElem? (i := 43) rfl)) (by decide) (by decide)) q8a q8c (g := (mkF m 345 #[s0, s1, s2, s3, s4, s5, s6, s7, .val (.ref o8), .val (.ref o9), .val (.ref o10), .val (.int i11), .val (.int i12), .val (.int i13), .val (.int i14), .val (.ref o15), .unset, .unset, .unset, .unset] [(.ref w7), (.ref o15)])) rfl (by rw [hml]; rfl) (Steps.refl _) (argsL := [(.ref w7)]) (rest := []) (lenOf pd_0_18 rfl) rfl (by show 2 * 0 + _ ≤ _; exact Nat.le_of_eq rfl) (hb hby at_345) (fun _ _ => ⟨rfl, e0, (Nat.le_trans hcl (by decide)), (Nat.le_trans hsl (by decide))⟩)
  dsimp only [Pt.U, Pt.locs, Pt.cells, Pt.slots] at X8 l8 y8 z8 st8 hQ8
  subst l8 y8 z8
  obtain ⟨rfl, N8q, eh8⟩ := hQ8
  have N8 := Fr.app N0 N8q
  obtain ⟨cq10, kq10, q10a, q10b, q10c⟩ := isOf hZ eh8 E_o15
  obtain ⟨_, _, ⟨T10, L10, k10, n10⟩, -, X10, ⟨Lc10, hQ10, l10, y10, z10⟩, st10⟩ := X8.virtualBack hx (y := (⟨"com/example/fixpoint/fixpoint/expr/Symbol", "attachment", "(Ljava/lang/Object;)Ljava/lang/Object;"⟩ : MethodName)) (z := (⟨"com/example/fixpoint/fixpoint/expr/Symbol", "attachment", "(Ljava/lang/Object;)Ljava/lang/Object;"⟩ : MethodName)) hown (mvT hZ (hw _ (List.mem_of_getElem? (i := 119) rfl))) (mvT hZ (hw _ (List.mem_of_getElem? (i := 120) rfl))) (notFace_of_selects (args := #[]) (mvT hZ (hw _ (List.mem_of_getElem? (i := 122) rfl)))) (mvT hZ (hw _ (List.mem_of_getElem? (i := 122) rfl))) (mvT hZ (hw _ (List.mem_of_getElem? (i := 121) rfl))) (by decide) (backOf (W := 0) CALL_10_19 hZ (hw _ (List.mem_of_getElem? (i := 123) rfl)) (hw _ (List.mem_of_getElem? (i := 43) rfl)) (by decide) (by decide)) q10a q10c (g := (mkF m 356 #[s0, s1, s2, s3, s4, s5, s6, s7, .val (.ref o8), .val (.ref o9), .val (.ref o10), .val (.int i11), .val (.int i12), .val (.int i13), .val (.int i14), .val (.ref o15), .val q0, .unset, .unset, .unset] [(.ref w9), (.ref o15)])) rfl (by rw [hml]; rfl) (Steps.refl _) (argsL := [(.ref w9)]) (rest := []) (lenOf pd_0_18 rfl) rfl (by show 2 * 0 + _ ≤ _; exact Nat.le_of_eq rfl) (hb hby at_356) (fun _ _ => ⟨rfl, eh8, (Nat.le_trans hcl (by decide)), (Nat.le_trans hsl (by decide))⟩)
  dsimp only [Pt.U, Pt.locs, Pt.cells, Pt.slots] at X10 l10 y10 z10 st10 hQ10
  subst l10 y10 z10
  obtain ⟨rfl, N10q, eh10⟩ := hQ10
  have N10 := Fr.app N8 N10q
  obtain ⟨cq12, kq12, q12a, q12b, q12c⟩ := isOf hZ eh10 E_o15
  obtain ⟨_, _, ⟨T12, L12, k12, n12⟩, -, X12, ⟨Lc12, hQ12, l12, y12, z12⟩, st12⟩ := X10.virtualBack hx (y := (⟨"com/example/fixpoint/fixpoint/expr/Symbol", "attachment", "(Ljava/lang/Object;)Ljava/lang/Object;"⟩ : MethodName)) (z := (⟨"com/example/fixpoint/fixpoint/expr/Symbol", "attachment", "(Ljava/lang/Object;)Ljava/lang/Object;"⟩ : MethodName)) hown (mvT hZ (hw _ (List.mem_of_getElem? (i := 119) rfl))) (mvT hZ (hw _ (List.mem_of_getElem? (i := 120) rfl))) (notFace_of_selects (args := #[]) (mvT hZ (hw _ (List.mem_of_getElem? (i := 122) rfl)))) (mvT hZ (hw _ (List.mem_of_getElem? (i := 122) rfl))) (mvT hZ (hw _ (List.mem_of_getElem? (i := 121) rfl))) (by decide) (backOf (W := 0) CALL_12_19 hZ (hw _ (List.mem_of_getElem? (i := 123) rfl)) (hw _ (List.mem_of_getElem? (i := 43) rfl)) (by decide) (by decide)) q12a q12c (g := (mkF m 367 #[s0, s1, s2, s3, s4, s5, s6, s7, .val (.ref o8), .val (.ref o9), .val (.ref o10), .val (.int i11), .val (.int i12), .val (.int i13), .val (.int i14), .val (.ref o15), .val q0, .val q1, .unset, .unset] [(.ref w11), (.ref o15)])) rfl (by rw [hml]; rfl) (Steps.refl _) (argsL := [(.ref w11)]) (rest := []) (lenOf pd_0_18 rfl) rfl (by show 2 * 0 + _ ≤ _; exact Nat.le_of_eq rfl) (hb hby at_367) (fun _ _ => ⟨rfl, eh10, (Nat.le_trans hcl (by decide)), (Nat.le_trans hsl (by decide))⟩)
  dsimp only [Pt.U, Pt.locs, Pt.cells, Pt.slots] at X12 l12 y12 z12 st12 hQ12
  subst l12 y12 z12
  obtain ⟨rfl, N12q, eh12⟩ := hQ12
  have N12 := Fr.app N10 N12q
  obtain ⟨cq13, kq13, q13a, q13b, q13c⟩ := isOf hZ eh12 E_o15
  obtain ⟨_, _, ⟨T13, L13, k13, n13⟩, -, X13, ⟨Lc13, hQ13, l13, y13, z13⟩, st13⟩ := X12.virtualBack hx (y := (⟨"com/example/fixpoint/fixpoint/expr/Symbol", "attachment", "(Ljava/lang/Object;)Ljava/lang/Object;"⟩ : MethodName)) (z := (⟨"com/example/fixpoint/fixpoint/expr/Symbol", "attachment", "(Ljava/lang/Object;)Ljava/lang/Object;"⟩ : MethodName)) hown (mvT hZ (hw _ (List.mem_of_getElem? (i := 119) rfl))) (mvT hZ (hw _ (List.mem_of_getElem? (i := 120) rfl))) (notFace_of_selects (args := #[]) (mvT hZ (hw _ (List.mem_of_getElem? (i := 122) rfl)))) (mvT hZ (hw _ (List.mem_of_getElem? (i := 122) rfl))) (mvT hZ (hw _ (List.mem_of_getElem? (i := 121) rfl))) (by decide) (backOf (W := 0) CALL_13_19 hZ (hw _ (List.mem_of_getElem? (i := 123) rfl)) (hw _ (List.mem_of_getElem? (i := 43) rfl)) (by decide) (by decide)) q13a q13c (g := (mkF m 376 #[s0, s1, s2, s3, s4, s5, s6, s7, .val (.ref o8), .val (.ref o9), .val (.ref o10), .val (.int i11), .val (.int i12), .val (.int i13), .val (.int i14), .val (.ref o15), .val q0, .val q1, .val q2, .unset] [(.ref o9), (.ref o15)])) rfl (by rw [hml]; rfl) (Steps.refl _) (argsL := [(.ref o9)]) (rest := []) (lenOf pd_0_18 rfl) rfl (by show 2 * 0 + _ ≤ _; exact Nat.le_of_eq rfl) (hb hby at_376) (fun _ _ => ⟨rfl, eh12, (Nat.le_trans hcl (by decide)), (Nat.le_trans hsl (by decide))⟩)
  dsimp only [Pt.U, Pt.locs, Pt.cells, Pt.slots] at X13 l13 y13 z13 st13 hQ13
  subst l13 y13 z13
  obtain ⟨rfl, N13q, eh13⟩ := hQ13
  have N13 := Fr.app N12 N13q
  obtain ⟨_, _, ⟨T14, L14, k14, n14⟩, -, X14, ⟨Lc14, hQ14, l14, y14, z14⟩, st14⟩ := Jvm.LawKit.callS X13 hx (y := (⟨"com/example/fixpoint/fixpoint/expr/SymbolAttachmentPinLaw", "expected", "(IIIII[Ljava/lang/Object;)Ljava/lang/Object;"⟩ : MethodName)) hown (mvT hZ (hw _ (List.mem_of_getElem? (i := 125) rfl))) (mvT hZ (hw _ (List.mem_of_getElem? (i := 126) rfl))) (mvT hZ (hw _ (List.mem_of_getElem? (i := 127) rfl))) (mvT hZ (hw _ (List.mem_of_getElem? (i := 128) rfl))) (by decide) (backOf (W := 1) CALL_14_20 hZ (hw _ (List.mem_of_getElem? (i := 128) rfl)) (hw _ (List.mem_of_getElem? (i := 127) rfl)) (by decide) (by decide)) (g := (mkF m 394 #[s0, s1, s2, s3, s4, s5, s6, s7, .val (.ref o8), .val (.ref o9), .val (.ref o10), .val (.int i11), .val (.int i12), .val (.int i13), .val (.int i14), .val (.ref o15), .val q0, .val q1, .val q2, .val .null] [(.ref o10), (.int i14), (.int i13), (.int i12), (.int i11), (.int (0 : Int32)), q0])) rfl (by rw [hml]; rfl) (argsL := [(.int (0 : Int32)), (.int i11), (.int i12), (.int i13), (.int i14), (.ref o10)]) (rest := [q0]) (lenOf pd_0_19 rfl) rfl (by show 2 * 0 + _ ≤ _; rcases h_q0 with q | ⟨o, q⟩ <;> subst q <;> exact Nat.le_of_eq rfl) (hb hby at_394) (fun _ _ => ⟨rfl, eh13, (Nat.le_trans hcl (by decide)), (Nat.le_trans hsl (by decide))⟩)
  dsimp only [Pt.U, Pt.locs, Pt.cells, Pt.slots] at X14 l14 y14 z14 st14 hQ14
  subst l14 y14 z14
  obtain ⟨rfl, N14q, eh14⟩ := hQ14
  have N14 := Fr.app N13 N14q
  obtain ⟨_, _, ⟨T15, L15, k15, n15⟩, -, X15, ⟨Lc15, hQ15, l15, y15, z15⟩, st15⟩ := Jvm.LawKit.callS X14 hx (y := (⟨"com/example/fixpoint/fixpoint/expr/SymbolAttachmentPinLaw", "expected", "(IIIII[Ljava/lang/Object;)Ljava/lang/Object;"⟩ : MethodName)) hown (mvT hZ (hw _ (List.mem_of_getElem? (i := 125) rfl))) (mvT hZ (hw _ (List.mem_of_getElem? (i := 126) rfl))) (mvT hZ (hw _ (List.mem_of_getElem? (i := 127) rfl))) (mvT hZ (hw _ (List.mem_of_getElem? (i := 128) rfl))) (by decide) (backOf (W := 1) CALL_15_20 hZ (hw _ (List.mem_of_getElem? (i := 128) rfl)) (hw _ (List.mem_of_getElem? (i := 127) rfl)) (by decide) (by decide)) (g := (mkF m 413 #[s0, s1, s2, s3, s4, s5, s6, s7, .val (.ref o8), .val (.ref o9), .val (.ref o10), .val (.int i11), .val (.int i12), .val (.int i13), .val (.int i14), .val (.ref o15), .val q0, .val q1, .val q2, .val .null] [(.ref o10), (.int i14), (.int i13), (.int i12), (.int i11), (.int (1 : Int32)), q1])) rfl (by rw [hml]; rfl) (argsL := [(.int (1 : Int32)), (.int i11), (.int i12), (.int i13), (.int i14), (.ref o10)]) (rest := [q1]) (lenOf pd_0_19 rfl) rfl (by show 2 * 0 + _ ≤ _; rcases h_q1 with q | ⟨o, q⟩ <;> subst q <;> exact Nat.le_of_eq rfl) (hb hby at_413) (fun _ _ => ⟨rfl, eh14, (Nat.le_trans hcl (by decide)), (Nat.le_trans hsl (by decide))⟩)
  dsimp only [Pt.U, Pt.locs, Pt.cells, Pt.slots] at X15 l15 y15 z15 st15 hQ15
  subst l15 y15 z15
  obtain ⟨rfl, N15q, eh15⟩ := hQ15
  have N15 := Fr.app N14 N15q
  obtain ⟨_, _, ⟨T16, L16, k16, n16⟩, -, X16, ⟨Lc16, hQ16, l16, y16, z16⟩, st16⟩ := Jvm.LawKit.callS X15 hx (y := (⟨"com/example/fixpoint/fixpoint/expr/SymbolAttachmentPinLaw", "expected", "(IIIII[Ljava/lang/Object;)Ljava/lang/Object;"⟩ : MethodName)) hown (mvT hZ (hw _ (List.mem_of_getElem? (i := 125) rfl))) (mvT hZ (hw _ (List.mem_of_getElem? (i := 126) rfl))) (mvT hZ (hw _ (List.mem_of_getElem? (i := 127) rfl))) (mvT hZ (hw _ (List.mem_of_getElem? (i := 128) rfl))) (by decide) (backOf (W := 1) CALL_16_20 hZ (hw _ (List.mem_of_getElem? (i := 128) rfl)) (hw _ (List.mem_of_getElem? (i := 127) rfl)) (by decide) (by decide)) (g := (mkF m 432 #[s0, s1, s2, s3, s4, s5, s6, s7, .val (.ref o8), .val (.ref o9), .val (.ref o10), .val (.int i11), .val (.int i12), .val (.int i13), .val (.int i14), .val (.ref o15), .val q0, .val q1, .val q2, .val .null] [(.ref o10), (.int i14), (.int i13), (.int i12), (.int i11), (.int (2 : Int32)), q2])) rfl (by rw [hml]; rfl) (argsL := [(.int (2 : Int32)), (.int i11), (.int i12), (.int i13), (.int i14), (.ref o10)]) (rest := [q2]) (lenOf pd_0_19 rfl) rfl (by show 2 * 0 + _ ≤ _; rcases h_q2 with q | ⟨o, q⟩ <;> subst q <;> exact Nat.le_of_eq rfl) (hb hby at_432) (fun _ _ => ⟨rfl, eh15, (Nat.le_trans hcl (by decide)), (Nat.le_trans hsl (by decide))⟩)
  dsimp only [Pt.U, Pt.locs, Pt.cells, Pt.slots] at X16 l16 y16 z16 st16 hQ16
  subst l16 y16 z16
  obtain ⟨rfl, N16q, eh16⟩ := hQ16
  have N16 := Fr.app N15 N16q
  refine ⟨T16, _, _, _, X16, N16, Nat.le_refl _, Nat.le_refl _, fun target kt => ?_⟩
  show Steps p.tables e below (T0.setTop (mkF m 339 #[s0, s1, s2, s3, s4, s5, s6, s7, .val (.ref o8), .val (.ref o9), .val (.ref o10), .val (.int i11), .val (.int i12), .val (.int i13), .val (.int i14), .val (.ref o15), .unset, .unset, .unset, .unset] [])) _
  refine XS.aload X0.here hx rfl (hb hby at_339) rfl rfl ?_
  show Steps p.tables e below (T0.setTop (mkF m 341 #[s0, s1, s2, s3, s4, s5, s6, s7, .val (.ref o8), .val (.ref o9), .val (.ref o10), .val (.int i11), .val (.int i12), .val (.int i13), .val (.int i14), .val (.ref o15), .unset, .unset, .unset, .unset] [(.ref o15)])) _
  refine XS.aload X0.here hx rfl (hb hby at_341) rfl rfl ?_
  show Steps p.tables e below (T0.setTop (mkF m 343 #[s0, s1, s2, s3, s4, s5, s6, s7, .val (.ref o8), .val (.ref o9), .val (.ref o10), .val (.int i11), .val (.int i12), .val (.int i13), .val (.int i14), .val (.ref o15), .unset, .unset, .unset, .unset] [(.ref o8), (.ref o15)])) _
  refine XS.iconst X0.here hx rfl (hb hby at_343) ?_
  show Steps p.tables e below (T0.setTop (mkF m 344 #[s0, s1, s2, s3, s4, s5, s6, s7, .val (.ref o8), .val (.ref o9), .val (.ref o10), .val (.int i11), .val (.int i12), .val (.int i13), .val (.int i14), .val (.ref o15), .unset, .unset, .unset, .unset] [(.int (0 : Int32)), (.ref o8), (.ref o15)])) _
  refine X0.aaload hx (j := (0 : Int32)) (v := (.ref w7)) (by rw [e0]; exact Ar_o8.1) (State.isArrayOf_alike hZ.alike Ar_o8.2.1) rfl Ar_o8.2.2 hin344 hat344 (g := (mkF m 344 #[s0, s1, s2, s3, s4, s5, s6, s7, .val (.ref o8), .val (.ref o9), .val (.ref o10), .val (.int i11), .val (.int i12), .val (.int i13), .val (.int i14), .val (.ref o15), .unset, .unset, .unset, .unset] [(.int (0 : Int32)), (.ref o8), (.ref o15)])) rfl rfl (hb hby at_344) _ ?_
  show Steps p.tables e below (T0.setTop (mkF m 345 #[s0, s1, s2, s3, s4, s5, s6, s7, .val (.ref o8), .val (.ref o9), .val (.ref o10), .val (.int i11), .val (.int i12), .val (.int i13), .val (.int i14), .val (.ref o15), .unset, .unset, .unset, .unset] [(.ref w7), (.ref o15)])) _
  refine st8.trans ?_
  show Steps p.tables e below (T8.setTop (mkF m 348 #[s0, s1, s2, s3, s4, s5, s6, s7, .val (.ref o8), .val (.ref o9), .val (.ref o10), .val (.int i11), .val (.int i12), .val (.int i13), .val (.int i14), .val (.ref o15), .unset, .unset, .unset, .unset] [q0])) _
  refine XS.astore X8.here hx rfl (hb hby at_348) rfl h_q0.is (l' := #[s0, s1, s2, s3, s4, s5, s6, s7, .val (.ref o8), .val (.ref o9), .val (.ref o10), .val (.int i11), .val (.int i12), .val (.int i13), .val (.int i14), .val (.ref o15), .val q0, .unset, .unset, .unset]) (by rcases h_q0 with q | ⟨o, q⟩ <;> subst q <;> rfl) ?_
  show Steps p.tables e below (T8.setTop (mkF m 350 #[s0, s1, s2, s3, s4, s5, s6, s7, .val (.ref o8), .val (.ref o9), .val (.ref o10), .val (.int i11), .val (.int i12), .val (.int i13), .val (.int i14), .val (.ref o15), .val q0, .unset, .unset, .unset] [])) _
  refine XS.aload X8.here hx rfl (hb hby at_350) rfl rfl ?_
  show Steps p.tables e below (T8.setTop (mkF m 352 #[s0, s1, s2, s3, s4, s5, s6, s7, .val (.ref o8), .val (.ref o9), .val (.ref o10), .val (.int i11), .val (.int i12), .val (.int i13), .val (.int i14), .val (.ref o15), .val q0, .unset, .unset, .unset] [(.ref o15)])) _
  refine XS.aload X8.here hx rfl (hb hby at_352) rfl rfl ?_
  show Steps p.tables e below (T8.setTop (mkF m 354 #[s0, s1, s2, s3, s4, s5, s6, s7, .val (.ref o8), .val (.ref o9), .val (.ref o10), .val (.int i11), .val (.int i12), .val (.int i13), .val (.int i14), .val (.ref o15), .val q0, .unset, .unset, .unset] [(.ref o8), (.ref o15)])) _
  refine XS.iconst X8.here hx rfl (hb hby at_354) ?_
  show Steps p.tables e below (T8.setTop (mkF m 355 #[s0, s1, s2, s3, s4, s5, s6, s7, .val (.ref o8), .val (.ref o9), .val (.ref o10), .val (.int i11), .val (.int i12), .val (.int i13), .val (.int i14), .val (.ref o15), .val q0, .unset, .unset, .unset] [(.int (1 : Int32)), (.ref o8), (.ref o15)])) _
  refine X8.aaload hx (j := (1 : Int32)) (v := (.ref w9)) (by rw [eh8]; exact Ar_o8.1) (State.isArrayOf_alike hZ.alike Ar_o8.2.1) rfl Ar_o8.2.2 hin355 hat355 (g := (mkF m 355 #[s0, s1, s2, s3, s4, s5, s6, s7, .val (.ref o8), .val (.ref o9), .val (.ref o10), .val (.int i11), .val (.int i12), .val (.int i13), .val (.int i14), .val (.ref o15), .val q0, .unset, .unset, .unset] [(.int (1 : Int32)), (.ref o8), (.ref o15)])) rfl rfl (hb hby at_355) _ ?_
  show Steps p.tables e below (T8.setTop (mkF m 356 #[s0, s1, s2, s3, s4, s5, s6, s7, .val (.ref o8), .val (.ref o9), .val (.ref o10), .val (.int i11), .val (.int i12), .val (.int i13), .val (.int i14), .val (.ref o15), .val q0, .unset, .unset, .unset] [(.ref w9), (.ref o15)])) _
  refine st10.trans ?_
  show Steps p.tables e below (T10.setTop (mkF m 359 #[s0, s1, s2, s3, s4, s5, s6, s7, .val (.ref o8), .val (.ref o9), .val (.ref o10), .val (.int i11), .val (.int i12), .val (.int i13), .val (.int i14), .val (.ref o15), .val q0, .unset, .unset, .unset] [q1])) _
  refine XS.astore X10.here hx rfl (hb hby at_359) rfl h_q1.is (l' := #[s0, s1, s2, s3, s4, s5, s6, s7, .val (.ref o8), .val (.ref o9), .val (.ref o10), .val (.int i11), .val (.int i12), .val (.int i13), .val (.int i14), .val (.ref o15), .val q0, .val q1, .unset, .unset]) (by rcases h_q1 with q | ⟨o, q⟩ <;> subst q <;> rfl) ?_
  show Steps p.tables e below (T10.setTop (mkF m 361 #[s0, s1, s2, s3, s4, s5, s6, s7, .val (.ref o8), .val (.ref o9), .val (.ref o10), .val (.int i11), .val (.int i12), .val (.int i13), .val (.int i14), .val (.ref o15), .val q0, .val q1, .unset, .unset] [])) _
  refine XS.aload X10.here hx rfl (hb hby at_361) rfl rfl ?_
  show Steps p.tables e below (T10.setTop (mkF m 363 #[s0, s1, s2, s3, s4, s5, s6, s7, .val (.ref o8), .val (.ref o9), .val (.ref o10), .val (.int i11), .val (.int i12), .val (.int i13), .val (.int i14), .val (.ref o15), .val q0, .val q1, .unset, .unset] [(.ref o15)])) _
  refine XS.aload X10.here hx rfl (hb hby at_363) rfl rfl ?_
  show Steps p.tables e below (T10.setTop (mkF m 365 #[s0, s1, s2, s3, s4, s5, s6, s7, .val (.ref o8), .val (.ref o9), .val (.ref o10), .val (.int i11), .val (.int i12), .val (.int i13), .val (.int i14), .val (.ref o15), .val q0, .val q1, .unset, .unset] [(.ref o8), (.ref o15)])) _
  refine XS.iconst X10.here hx rfl (hb hby at_365) ?_
  show Steps p.tables e below (T10.setTop (mkF m 366 #[s0, s1, s2, s3, s4, s5, s6, s7, .val (.ref o8), .val (.ref o9), .val (.ref o10), .val (.int i11), .val (.int i12), .val (.int i13), .val (.int i14), .val (.ref o15), .val q0, .val q1, .unset, .unset] [(.int (2 : Int32)), (.ref o8), (.ref o15)])) _
  refine X10.aaload hx (j := (2 : Int32)) (v := (.ref w11)) (by rw [eh10]; exact Ar_o8.1) (State.isArrayOf_alike hZ.alike Ar_o8.2.1) rfl Ar_o8.2.2 hin366 hat366 (g := (mkF m 366 #[s0, s1, s2, s3, s4, s5, s6, s7, .val (.ref o8), .val (.ref o9), .val (.ref o10), .val (.int i11), .val (.int i12), .val (.int i13), .val (.int i14), .val (.ref o15), .val q0, .val q1, .unset, .unset] [(.int (2 : Int32)), (.ref o8), (.ref o15)])) rfl rfl (hb hby at_366) _ ?_
  show Steps p.tables e below (T10.setTop (mkF m 367 #[s0, s1, s2, s3, s4, s5, s6, s7, .val (.ref o8), .val (.ref o9), .val (.ref o10), .val (.int i11), .val (.int i12), .val (.int i13), .val (.int i14), .val (.ref o15), .val q0, .val q1, .unset, .unset] [(.ref w11), (.ref o15)])) _
  refine st12.trans ?_
  show Steps p.tables e below (T12.setTop (mkF m 370 #[s0, s1, s2, s3, s4, s5, s6, s7, .val (.ref o8), .val (.ref o9), .val (.ref o10), .val (.int i11), .val (.int i12), .val (.int i13), .val (.int i14), .val (.ref o15), .val q0, .val q1, .unset, .unset] [q2])) _
  refine XS.astore X12.here hx rfl (hb hby at_370) rfl h_q2.is (l' := #[s0, s1, s2, s3, s4, s5, s6, s7, .val (.ref o8), .val (.ref o9), .val (.ref o10), .val (.int i11), .val (.int i12), .val (.int i13), .val (.int i14), .val (.ref o15), .val q0, .val q1, .val q2, .unset]) (by rcases h_q2 with q | ⟨o, q⟩ <;> subst q <;> rfl) ?_
  show Steps p.tables e below (T12.setTop (mkF m 372 #[s0, s1, s2, s3, s4, s5, s6, s7, .val (.ref o8), .val (.ref o9), .val (.ref o10), .val (.int i11), .val (.int i12), .val (.int i13), .val (.int i14), .val (.ref o15), .val q0, .val q1, .val q2, .unset] [])) _
  refine XS.aload X12.here hx rfl (hb hby at_372) rfl rfl ?_
  show Steps p.tables e below (T12.setTop (mkF m 374 #[s0, s1, s2, s3, s4, s5, s6, s7, .val (.ref o8), .val (.ref o9), .val (.ref o10), .val (.int i11), .val (.int i12), .val (.int i13), .val (.int i14), .val (.ref o15), .val q0, .val q1, .val q2, .unset] [(.ref o15)])) _
  refine XS.aload X12.here hx rfl (hb hby at_374) rfl rfl ?_
  show Steps p.tables e below (T12.setTop (mkF m 376 #[s0, s1, s2, s3, s4, s5, s6, s7, .val (.ref o8), .val (.ref o9), .val (.ref o10), .val (.int i11), .val (.int i12), .val (.int i13), .val (.int i14), .val (.ref o15), .val q0, .val q1, .val q2, .unset] [(.ref o9), (.ref o15)])) _
  refine st13.trans ?_
  show Steps p.tables e below (T13.setTop (mkF m 379 #[s0, s1, s2, s3, s4, s5, s6, s7, .val (.ref o8), .val (.ref o9), .val (.ref o10), .val (.int i11), .val (.int i12), .val (.int i13), .val (.int i14), .val (.ref o15), .val q0, .val q1, .val q2, .unset] [.null])) _
  refine XS.astore X13.here hx rfl (hb hby at_379) rfl rfl (l' := #[s0, s1, s2, s3, s4, s5, s6, s7, .val (.ref o8), .val (.ref o9), .val (.ref o10), .val (.int i11), .val (.int i12), .val (.int i13), .val (.int i14), .val (.ref o15), .val q0, .val q1, .val q2, .val .null]) rfl ?_
  show Steps p.tables e below (T13.setTop (mkF m 381 #[s0, s1, s2, s3, s4, s5, s6, s7, .val (.ref o8), .val (.ref o9), .val (.ref o10), .val (.int i11), .val (.int i12), .val (.int i13), .val (.int i14), .val (.ref o15), .val q0, .val q1, .val q2, .val .null] [])) _
  refine XS.aload X13.here hx rfl (hb hby at_381) rfl h_q0.is ?_
  show Steps p.tables e below (T13.setTop (mkF m 383 #[s0, s1, s2, s3, s4, s5, s6, s7, .val (.ref o8), .val (.ref o9), .val (.ref o10), .val (.int i11), .val (.int i12), .val (.int i13), .val (.int i14), .val (.ref o15), .val q0, .val q1, .val q2, .val .null] [q0])) _
  refine XS.iconst X13.here hx rfl (hb hby at_383) ?_
  show Steps p.tables e below (T13.setTop (mkF m 384 #[s0, s1, s2, s3, s4, s5, s6, s7, .val (.ref o8), .val (.ref o9), .val (.ref o10), .val (.int i11), .val (.int i12), .val (.int i13), .val (.int i14), .val (.ref o15), .val q0, .val q1, .val q2, .val .null] [(.int (0 : Int32)), q0])) _
  refine XS.iload X13.here hx rfl (hb hby at_384) rfl ?_
  show Steps p.tables e below (T13.setTop (mkF m 386 #[s0, s1, s2, s3, s4, s5, s6, s7, .val (.ref o8), .val (.ref o9), .val (.ref o10), .val (.int i11), .val (.int i12), .val (.int i13), .val (.int i14), .val (.ref o15), .val q0, .val q1, .val q2, .val .null] [(.int i11), (.int (0 : Int32)), q0])) _
  refine XS.iload X13.here hx rfl (hb hby at_386) rfl ?_
  show Steps p.tables e below (T13.setTop (mkF m 388 #[s0, s1, s2, s3, s4, s5, s6, s7, .val (.ref o8), .val (.ref o9), .val (.ref o10), .val (.int i11), .val (.int i12), .val (.int i13), .val (.int i14), .val (.ref o15), .val q0, .val q1, .val q2, .val .null] [(.int i12), (.int i11), (.int (0 : Int32)), q0])) _
  refine XS.iload X13.here hx rfl (hb hby at_388) rfl ?_
  show Steps p.tables e below (T13.setTop (mkF m 390 #[s0, s1, s2, s3, s4, s5, s6, s7, .val (.ref o8), .val (.ref o9), .val (.ref o10), .val (.int i11), .val (.int i12), .val (.int i13), .val (.int i14), .val (.ref o15), .val q0, .val q1, .val q2, .val .null] [(.int i13), (.int i12), (.int i11), (.int (0 : Int32)), q0])) _
  refine XS.iload X13.here hx rfl (hb hby at_390) rfl ?_
  show Steps p.tables e below (T13.setTop (mkF m 392 #[s0, s1, s2, s3, s4, s5, s6, s7, .val (.ref o8), .val (.ref o9), .val (.ref o10), .val (.int i11), .val (.int i12), .val (.int i13), .val (.int i14), .val (.ref o15), .val q0, .val q1, .val q2, .val .null] [(.int i14), (.int i13), (.int i12), (.int i11), (.int (0 : Int32)), q0])) _
  refine XS.aload X13.here hx rfl (hb hby at_392) rfl rfl ?_
  show Steps p.tables e below (T13.setTop (mkF m 394 #[s0, s1, s2, s3, s4, s5, s6, s7, .val (.ref o8), .val (.ref o9), .val (.ref o10), .val (.int i11), .val (.int i12), .val (.int i13), .val (.int i14), .val (.ref o15), .val q0, .val q1, .val q2, .val .null] [(.ref o10), (.int i14), (.int i13), (.int i12), (.int i11), (.int (0 : Int32)), q0])) _
  refine st14 _ ?_
  show Steps p.tables e below (T14.setTop (mkF m 397 #[s0, s1, s2, s3, s4, s5, s6, s7, .val (.ref o8), .val (.ref o9), .val (.ref o10), .val (.int i11), .val (.int i12), .val (.int i13), .val (.int i14), .val (.ref o15), .val q0, .val q1, .val q2, .val .null] [q0, q0])) _
  refine Jvm.RoadKit.acmp (g := (mkF m 397 #[s0, s1, s2, s3, s4, s5, s6, s7, .val (.ref o8), .val (.ref o9), .val (.ref o10), .val (.int i11), .val (.int i12), .val (.int i13), .val (.int i14), .val (.ref o15), .val q0, .val q1, .val q2, .val .null] [q0, q0])) X14 hx rfl h_q0.is h_q0.is (pc0 := 397) (pc' := 400) (same := true) rfl (hb hby at_397) rfl (decide_eq_true rfl) (by decide) (by decide) ?_
  show Steps p.tables e below (T14.setTop (mkF m 400 #[s0, s1, s2, s3, s4, s5, s6, s7, .val (.ref o8), .val (.ref o9), .val (.ref o10), .val (.int i11), .val (.int i12), .val (.int i13), .val (.int i14), .val (.ref o15), .val q0, .val q1, .val q2, .val .null] [])) _
  refine XS.aload X14.here hx rfl (hb hby at_400) rfl h_q1.is ?_
  show Steps p.tables e below (T14.setTop (mkF m 402 #[s0, s1, s2, s3, s4, s5, s6, s7, .val (.ref o8), .val (.ref o9), .val (.ref o10), .val (.int i11), .val (.int i12), .val (.int i13), .val (.int i14), .val (.ref o15), .val q0, .val q1, .val q2, .val .null] [q1])) _
  refine XS.iconst X14.here hx rfl (hb hby at_402) ?_
  show Steps p.tables e below (T14.setTop (mkF m 403 #[s0, s1, s2, s3, s4, s5, s6, s7, .val (.ref o8), .val (.ref o9), .val (.ref o10), .val (.int i11), .val (.int i12), .val (.int i13), .val (.int i14), .val (.ref o15), .val q0, .val q1, .val q2, .val .null] [(.int (1 : Int32)), q1])) _
  refine XS.iload X14.here hx rfl (hb hby at_403) rfl ?_
  show Steps p.tables e below (T14.setTop (mkF m 405 #[s0, s1, s2, s3, s4, s5, s6, s7, .val (.ref o8), .val (.ref o9), .val (.ref o10), .val (.int i11), .val (.int i12), .val (.int i13), .val (.int i14), .val (.ref o15), .val q0, .val q1, .val q2, .val .null] [(.int i11), (.int (1 : Int32)), q1])) _
  refine XS.iload X14.here hx rfl (hb hby at_405) rfl ?_
  show Steps p.tables e below (T14.setTop (mkF m 407 #[s0, s1, s2, s3, s4, s5, s6, s7, .val (.ref o8), .val (.ref o9), .val (.ref o10), .val (.int i11), .val (.int i12), .val (.int i13), .val (.int i14), .val (.ref o15), .val q0, .val q1, .val q2, .val .null] [(.int i12), (.int i11), (.int (1 : Int32)), q1])) _
  refine XS.iload X14.here hx rfl (hb hby at_407) rfl ?_
  show Steps p.tables e below (T14.setTop (mkF m 409 #[s0, s1, s2, s3, s4, s5, s6, s7, .val (.ref o8), .val (.ref o9), .val (.ref o10), .val (.int i11), .val (.int i12), .val (.int i13), .val (.int i14), .val (.ref o15), .val q0, .val q1, .val q2, .val .null] [(.int i13), (.int i12), (.int i11), (.int (1 : Int32)), q1])) _
  refine XS.iload X14.here hx rfl (hb hby at_409) rfl ?_
  show Steps p.tables e below (T14.setTop (mkF m 411 #[s0, s1, s2, s3, s4, s5, s6, s7, .val (.ref o8), .val (.ref o9), .val (.ref o10), .val (.int i11), .val (.int i12), .val (.int i13), .val (.int i14), .val (.ref o15), .val q0, .val q1, .val q2, .val .null] [(.int i14), (.int i13), (.int i12), (.int i11), (.int (1 : Int32)), q1])) _
  refine XS.aload X14.here hx rfl (hb hby at_411) rfl rfl ?_
  show Steps p.tables e below (T14.setTop (mkF m 413 #[s0, s1, s2, s3, s4, s5, s6, s7, .val (.ref o8), .val (.ref o9), .val (.ref o10), .val (.int i11), .val (.int i12), .val (.int i13), .val (.int i14), .val (.ref o15), .val q0, .val q1, .val q2, .val .null] [(.ref o10), (.int i14), (.int i13), (.int i12), (.int i11), (.int (1 : Int32)), q1])) _
  refine st15 _ ?_
  show Steps p.tables e below (T15.setTop (mkF m 416 #[s0, s1, s2, s3, s4, s5, s6, s7, .val (.ref o8), .val (.ref o9), .val (.ref o10), .val (.int i11), .val (.int i12), .val (.int i13), .val (.int i14), .val (.ref o15), .val q0, .val q1, .val q2, .val .null] [q1, q1])) _
  refine Jvm.RoadKit.acmp (g := (mkF m 416 #[s0, s1, s2, s3, s4, s5, s6, s7, .val (.ref o8), .val (.ref o9), .val (.ref o10), .val (.int i11), .val (.int i12), .val (.int i13), .val (.int i14), .val (.ref o15), .val q0, .val q1, .val q2, .val .null] [q1, q1])) X15 hx rfl h_q1.is h_q1.is (pc0 := 416) (pc' := 419) (same := true) rfl (hb hby at_416) rfl (decide_eq_true rfl) (by decide) (by decide) ?_
  show Steps p.tables e below (T15.setTop (mkF m 419 #[s0, s1, s2, s3, s4, s5, s6, s7, .val (.ref o8), .val (.ref o9), .val (.ref o10), .val (.int i11), .val (.int i12), .val (.int i13), .val (.int i14), .val (.ref o15), .val q0, .val q1, .val q2, .val .null] [])) _
  refine XS.aload X15.here hx rfl (hb hby at_419) rfl h_q2.is ?_
  show Steps p.tables e below (T15.setTop (mkF m 421 #[s0, s1, s2, s3, s4, s5, s6, s7, .val (.ref o8), .val (.ref o9), .val (.ref o10), .val (.int i11), .val (.int i12), .val (.int i13), .val (.int i14), .val (.ref o15), .val q0, .val q1, .val q2, .val .null] [q2])) _
  refine XS.iconst X15.here hx rfl (hb hby at_421) ?_
  show Steps p.tables e below (T15.setTop (mkF m 422 #[s0, s1, s2, s3, s4, s5, s6, s7, .val (.ref o8), .val (.ref o9), .val (.ref o10), .val (.int i11), .val (.int i12), .val (.int i13), .val (.int i14), .val (.ref o15), .val q0, .val q1, .val q2, .val .null] [(.int (2 : Int32)), q2])) _
  refine XS.iload X15.here hx rfl (hb hby at_422) rfl ?_
  show Steps p.tables e below (T15.setTop (mkF m 424 #[s0, s1, s2, s3, s4, s5, s6, s7, .val (.ref o8), .val (.ref o9), .val (.ref o10), .val (.int i11), .val (.int i12), .val (.int i13), .val (.int i14), .val (.ref o15), .val q0, .val q1, .val q2, .val .null] [(.int i11), (.int (2 : Int32)), q2])) _
  refine XS.iload X15.here hx rfl (hb hby at_424) rfl ?_
  show Steps p.tables e below (T15.setTop (mkF m 426 #[s0, s1, s2, s3, s4, s5, s6, s7, .val (.ref o8), .val (.ref o9), .val (.ref o10), .val (.int i11), .val (.int i12), .val (.int i13), .val (.int i14), .val (.ref o15), .val q0, .val q1, .val q2, .val .null] [(.int i12), (.int i11), (.int (2 : Int32)), q2])) _
  refine XS.iload X15.here hx rfl (hb hby at_426) rfl ?_
  show Steps p.tables e below (T15.setTop (mkF m 428 #[s0, s1, s2, s3, s4, s5, s6, s7, .val (.ref o8), .val (.ref o9), .val (.ref o10), .val (.int i11), .val (.int i12), .val (.int i13), .val (.int i14), .val (.ref o15), .val q0, .val q1, .val q2, .val .null] [(.int i13), (.int i12), (.int i11), (.int (2 : Int32)), q2])) _
  refine XS.iload X15.here hx rfl (hb hby at_428) rfl ?_
  show Steps p.tables e below (T15.setTop (mkF m 430 #[s0, s1, s2, s3, s4, s5, s6, s7, .val (.ref o8), .val (.ref o9), .val (.ref o10), .val (.int i11), .val (.int i12), .val (.int i13), .val (.int i14), .val (.ref o15), .val q0, .val q1, .val q2, .val .null] [(.int i14), (.int i13), (.int i12), (.int i11), (.int (2 : Int32)), q2])) _
  refine XS.aload X15.here hx rfl (hb hby at_430) rfl rfl ?_
  show Steps p.tables e below (T15.setTop (mkF m 432 #[s0, s1, s2, s3, s4, s5, s6, s7, .val (.ref o8), .val (.ref o9), .val (.ref o10), .val (.int i11), .val (.int i12), .val (.int i13), .val (.int i14), .val (.ref o15), .val q0, .val q1, .val q2, .val .null] [(.ref o10), (.int i14), (.int i13), (.int i12), (.int i11), (.int (2 : Int32)), q2])) _
  refine st16 _ ?_
  show Steps p.tables e below (T16.setTop (mkF m 435 #[s0, s1, s2, s3, s4, s5, s6, s7, .val (.ref o8), .val (.ref o9), .val (.ref o10), .val (.int i11), .val (.int i12), .val (.int i13), .val (.int i14), .val (.ref o15), .val q0, .val q1, .val q2, .val .null] [q2, q2])) _
  refine Jvm.RoadKit.acmp (g := (mkF m 435 #[s0, s1, s2, s3, s4, s5, s6, s7, .val (.ref o8), .val (.ref o9), .val (.ref o10), .val (.int i11), .val (.int i12), .val (.int i13), .val (.int i14), .val (.ref o15), .val q0, .val q1, .val q2, .val .null] [q2, q2])) X16 hx rfl h_q2.is h_q2.is (pc0 := 435) (pc' := 438) (same := true) rfl (hb hby at_435) rfl (decide_eq_true rfl) (by decide) (by decide) ?_
  show Steps p.tables e below (T16.setTop (mkF m 438 #[s0, s1, s2, s3, s4, s5, s6, s7, .val (.ref o8), .val (.ref o9), .val (.ref o10), .val (.int i11), .val (.int i12), .val (.int i13), .val (.int i14), .val (.ref o15), .val q0, .val q1, .val q2, .val .null] [])) _
  refine XS.aload X16.here hx rfl (hb hby at_438) rfl rfl ?_
  show Steps p.tables e below (T16.setTop (mkF m 440 #[s0, s1, s2, s3, s4, s5, s6, s7, .val (.ref o8), .val (.ref o9), .val (.ref o10), .val (.int i11), .val (.int i12), .val (.int i13), .val (.int i14), .val (.ref o15), .val q0, .val q1, .val q2, .val .null] [.null])) _
  refine XS.ifnonnullNo X16.here hx rfl (hb hby at_440) rfl ?_
  exact kt
theorem own_and3 (x : Int32) : x &&& (3 : Int32) = 3 ∨ x &&& (3 : Int32) = 0 ∨ x &&& (3 : Int32) = 1 ∨ x &&& (3 : Int32) = 2 := by
  have e : (x &&& 3).toInt = x.toInt % 2 ^ 2 := Jvm.Kit.i32_mask x 3 (k := 2) (by decide) (by decide)
  have d : (x &&& 3).toInt = 3 ∨ (x &&& 3).toInt = 0 ∨ (x &&& 3).toInt = 1 ∨ (x &&& 3).toInt = 2 := by omega
  rcases d with q | q | q | q
  · exact Or.inl (Int32.toInt_inj.mp q)
  · exact Or.inr (Or.inl (Int32.toInt_inj.mp q))
  · exact Or.inr (Or.inr (Or.inl (Int32.toInt_inj.mp q)))
  · exact Or.inr (Or.inr (Or.inr (Int32.toInt_inj.mp q)))
theorem own_te {t0 t1 t2 st : Addr} (a : t0 < t1) (b : t1 < t2) (d : t2 < st) {o : Int32} (ho : o = 3 ∨ o = 0 ∨ o = 1 ∨ o = 2) (v r : Value) : (if own_tt o t0 t1 t2 = some t0 then v else r) = own_e r v o 0 ∧ (if own_tt o t0 t1 t2 = some t1 then v else r) = own_e r v o 1 ∧ (if own_tt o t0 t1 t2 = some t2 then v else r) = own_e r v o 2 ∧ (if own_tt o t0 t1 t2 = some st then v else r) = r := by
  have n1 : t0 ≠ t1 := Nat.ne_of_lt a
  have n2 : t1 ≠ t2 := Nat.ne_of_lt b
  have n3 : t0 ≠ t2 := Nat.ne_of_lt (Nat.lt_trans a b)
  have n4 : t2 ≠ st := Nat.ne_of_lt d
  have n5 : t1 ≠ st := Nat.ne_of_lt (Nat.lt_trans b d)
  have n6 : t0 ≠ st := Nat.ne_of_lt (Nat.lt_trans a (Nat.lt_trans b d))
  rcases ho with q | q | q | q <;> subst q <;> simp [own_tt, own_e, n1, n2, n3, n4, n5, n6, n1.symm, n2.symm, n3.symm]
theorem own_fin {t0 t1 t2 st : Addr} (a : t0 < t1) (b : t1 < t2) (d : t2 < st) {o0 o1 o2 o3 : Int32} (h0 : o0 = 3 ∨ o0 = 0 ∨ o0 = 1 ∨ o0 = 2) (h1 : o1 = 3 ∨ o1 = 0 ∨ o1 = 1 ∨ o1 = 2) (h2 : o2 = 3 ∨ o2 = 0 ∨ o2 = 1 ∨ o2 = 2) (h3 : o3 = 3 ∨ o3 = 0 ∨ o3 = 1 ∨ o3 = 2) {w0 w1 w2 w3 : Value} {f1 f2 f3 f4 : Addr → Value}
    (e1 : ∀ x, f1 x = if own_tt o0 t0 t1 t2 = some x then w0 else .null) (e2 : ∀ x, f2 x = if own_tt o1 t0 t1 t2 = some x then w1 else f1 x) (e3 : ∀ x, f3 x = if own_tt o2 t0 t1 t2 = some x then w2 else f2 x) (e4 : ∀ x, f4 x = if own_tt o3 t0 t1 t2 = some x then w3 else f3 x) :
    f4 t0 = own_e (own_e (own_e (own_e .null w0 o0 0) w1 o1 0) w2 o2 0) w3 o3 0 ∧ f4 t1 = own_e (own_e (own_e (own_e .null w0 o0 1) w1 o1 1) w2 o2 1) w3 o3 1 ∧ f4 t2 = own_e (own_e (own_e (own_e .null w0 o0 2) w1 o1 2) w2 o2 2) w3 o3 2 ∧ f4 st = .null := by
  refine ⟨?_, ?_, ?_, ?_⟩
  · rw [e4, (own_te a b d h3 _ _).1, e3, (own_te a b d h2 _ _).1, e2, (own_te a b d h1 _ _).1, e1, (own_te a b d h0 _ _).1]
  · rw [e4, (own_te a b d h3 _ _).2.1, e3, (own_te a b d h2 _ _).2.1, e2, (own_te a b d h1 _ _).2.1, e1, (own_te a b d h0 _ _).2.1]
  · rw [e4, (own_te a b d h3 _ _).2.2.1, e3, (own_te a b d h2 _ _).2.2.1, e2, (own_te a b d h1 _ _).2.2.1, e1, (own_te a b d h0 _ _).2.2.1]
  · rw [e4, (own_te a b d h3 _ _).2.2.2, e3, (own_te a b d h2 _ _).2.2.2, e2, (own_te a b d h1 _ _).2.2.2, e1, (own_te a b d h0 _ _).2.2.2]
def Q0 (n0 : Nat) (v : Option Value) (h : Heap) (L : List Loc) : Prop := v = some (.int (1 : Int32)) ∧ Fr n0 L
theorem pn_0 : plainName "com/example/fixpoint/fixpoint/expr/SymbolAttachmentPinLaw" = true := by first | (simp [plainName, overriddenIn]; done) | decide +kernel
theorem ef_0 (m : MethodId) (x0 : Int32) (x1 : Int32) (x2 : Int32) (x3 : Int32) (x4 : Int32) (x5 : Int32) : entryFrame m #[(.int x0), (.int x1), (.int x2), (.int x3), (.int x4), (.int x5)] maxLocals = mkF m 0 #[.val (.int x0), .val (.int x1), .val (.int x2), .val (.int x3), .val (.int x4), .val (.int x5), .unset, .unset, .unset, .unset, .unset, .unset, .unset, .unset, .unset, .unset, .unset, .unset, .unset, .unset] [] := by first | (simp [entryFrame, mkF, argsToLocals, Value.category, maxLocals]; done) | rfl
set_option maxRecDepth 65536 in
set_option maxHeartbeats 40000000 in
theorem rm0 (l : Launch) (Z : State) (a0 : Array Value) (hw : ∀ d ∈ tables_1, d.before a0 Z = true) (ws : List Jvm.Cond) (p1 : Int32) (p2 : Int32) (p3 : Int32) (p4 : Int32) (p5 : Int32) (p6 : Int32) (z : Int32) (cw : Addr) (bcl : Cell) (bval : Int32 → Value) (h0 : Heap) (n0 : Nat) (Z0 : n0 ≤ h0.size) (O : Old Z n0 h0) (SH : Sta Z Z.heap "java/lang/Integer$IntegerCache" "high" "I" (.int (127 : Int32))) (SC : Sta Z Z.heap "java/lang/Integer$IntegerCache" "cache" "[Ljava/lang/Integer;" (.ref cw)) (B : Bxs Z cw bcl "java/lang/Integer" "I" (256 : Int32) bval) (SCS : Sta Z Z.heap "java/lang/String" "COMPACT_STRINGS" "Z" (.int z)) (hcz : ¬ z = 0) :
    MetFree l x (head1 (Jvm.Cond.code x code maxLocals ret :: ws) room_1) (fun a U => a = #[(.int p1), (.int p2), (.int p3), (.int p4), (.int p5), (.int p6)] ∧ Z.Warmed39 U.vm ∧ U.heap = h0) (fun _ _ _ _ _ => True) (fun _ U o U' => ∃ v L, o = .returned v ∧ Q0 n0 v U'.heap L ∧ FrameEnd U o U' L room_1.cells room_1.slots) := by
  refine MetFree.of_bodySF (plainFor_of_name pn_0) hisR ?_
  intro p e s m args below meth c s₁ Bd hml0 hP hK
  obtain ⟨rfl, hZ, hh⟩ := hP
  have hx := Bd.exec
  have hby := Bd.bytes
  have hml : c.maxLocals = 20 := hml0
  have hown : s.vm.findClass "com/example/fixpoint/fixpoint/expr/SymbolAttachmentPinLaw" = some m.cls := findClass_of_methodNamed Bd.named
  have hnm := (name_of_methodNamed Bd.named Bd.method).1
  have X0 : Stand p l e room_1 s m #[(.int p1), (.int p2), (.int p3), (.int p4), (.int p5), (.int p6)] below meth c s₁ [] 0 0 := Stand.of_body Bd
  have e0 : s₁.heap = h0 := by rw [← hh, Bd.state]; rfl
  have N0 := Fr.nil n0
  have pre0 : ∀ t, Steps p.tables e below (s₁.setTop (mkF m 0 #[.val (.int p1), .val (.int p2), .val (.int p3), .val (.int p4), .val (.int p5), .val (.int p6), .unset, .unset, .unset, .unset, .unset, .unset, .unset, .unset, .unset, .unset, .unset, .unset, .unset, .unset] [])) t → Steps p.tables e below (s₁.setTop (entryFrame m #[(.int p1), (.int p2), (.int p3), (.int p4), (.int p5), (.int p6)] maxLocals)) t := fun t k => castTop (ef_0 m p1 p2 p3 p4 p5 p6) k
  obtain ⟨T1, h1, L1, kD, kO, kV, cs, ds, ow, st, va, t0, t1, t2, X1, e1, N1, O1, Z1, VD1, VO1, VV1, OV, ⟨l10, l13, l14, l17, l20, l23⟩, gow, st1⟩ := own_segA (.val (.int p1)) p2 (.val (.int p3)) (.val (.int p4)) (.val (.int p5)) (.val (.int p6)) z X0 hx hZ hw hby hml hown e0 Z0 O SCS hcz
  have ndv : ds ≠ va := Nat.ne_of_lt (Nat.lt_trans l10 (Nat.lt_trans l13 (Nat.lt_trans l14 (Nat.lt_trans l17 (Nat.lt_trans l20 l23)))))
  have nov : ow < va := Nat.lt_trans l13 (Nat.lt_trans l14 (Nat.lt_trans l17 (Nat.lt_trans l20 l23)))
  have gva : n0 ≤ va := Nat.le_trans gow (Nat.le_of_lt nov)
  have hc1 : (12 : Nat) ≤ 12 := Nat.le_refl _
  have hs1 : (35 : Nat) ≤ 35 := Nat.le_refl _
  obtain ⟨T2, h2, L2, c2, s2, w0, X2, e2, N2, hc2, hs2, K2, r0, VV2', st2⟩ := own_B0 (.val (.int p2)) (.val (.int p4)) (.val (.int p5)) (.val (.int p6)) (.val (.ref cs)) (.val (.ref ds)) (.val (.ref ow)) (.val (.ref st)) .unset .unset .unset .unset .unset .unset .unset .unset .unset p1 p3 va kV (.null : Value) (.null : Value) (.null : Value) (.null : Value) cw bcl bval X1 hx hZ hw hby hml hown e1 Z1 N1 gva VV1 OV O1 SH SC B (by omega) (by omega)
  have VV2 : Arv Z h2 va kV (.object "java/lang/Object") (4 : Int32) [w0, .null, .null, .null] .null := VV2'
  have O2 := O1.keep K2 (allS gva all0)
  have Z2 := Nat.le_trans Z1 K2.1
  have VD2 := VD1.keep K2 (fun q => ndv (List.mem_singleton.mp q))
  have VO2 := VO1.keep K2 (fun q => Nat.ne_of_lt nov (List.mem_singleton.mp q))
  obtain ⟨T3, h3, L3, c3, s3, w1, X3, e3, N3, hc3, hs3, K3, r1, VV3', st3⟩ := own_B1 (.val (.int p2)) (.val (.int p3)) (.val (.int p5)) (.val (.int p6)) (.val (.ref cs)) (.val (.ref ds)) (.val (.ref ow)) (.val (.ref st)) .unset .unset .unset .unset .unset .unset .unset .unset .unset p1 p4 va kV w0 (.null : Value) (.null : Value) (.null : Value) cw bcl bval X2 hx hZ hw hby hml hown e2 Z2 N2 gva VV2 OV O2 SH SC B (by omega) (by omega)
  have VV3 : Arv Z h3 va kV (.object "java/lang/Object") (4 : Int32) [w0, w1, .null, .null] .null := VV3'
  have O3 := O2.keep K3 (allS gva all0)
  have Z3 := Nat.le_trans Z2 K3.1
  have VD3 := VD2.keep K3 (fun q => ndv (List.mem_singleton.mp q))
  have VO3 := VO2.keep K3 (fun q => Nat.ne_of_lt nov (List.mem_singleton.mp q))
  obtain ⟨T4, h4, L4, c4, s4, w2, X4, e4, N4, hc4, hs4, K4, r2, VV4', st4⟩ := own_B2 (.val (.int p2)) (.val (.int p3)) (.val (.int p4)) (.val (.int p6)) (.val (.ref cs)) (.val (.ref ds)) (.val (.ref ow)) (.val (.ref st)) .unset .unset .unset .unset .unset .unset .unset .unset .unset p1 p5 va kV w0 w1 (.null : Value) (.null : Value) cw bcl bval X3 hx hZ hw hby hml hown e3 Z3 N3 gva VV3 OV O3 SH SC B (by omega) (by omega)
  have VV4 : Arv Z h4 va kV (.object "java/lang/Object") (4 : Int32) [w0, w1, w2, .null] .null := VV4'
  have O4 := O3.keep K4 (allS gva all0)
  have Z4 := Nat.le_trans Z3 K4.1
  have VD4 := VD3.keep K4 (fun q => ndv (List.mem_singleton.mp q))
  have VO4 := VO3.keep K4 (fun q => Nat.ne_of_lt nov (List.mem_singleton.mp q))
  obtain ⟨T5, h5, L5, c5, s5, w3, X5, e5, N5, hc5, hs5, K5, r3, VV5', st5⟩ := own_B3 (.val (.int p2)) (.val (.int p3)) (.val (.int p4)) (.val (.int p5)) (.val (.ref cs)) (.val (.ref ds)) (.val (.ref ow)) (.val (.ref st)) .unset .unset .unset .unset .unset .unset .unset .unset .unset p1 p6 va kV w0 w1 w2 (.null : Value) cw bcl bval X4 hx hZ hw hby hml hown e4 Z4 N4 gva VV4 OV O4 SH SC B (by omega) (by omega)
  have VV5 : Arv Z h5 va kV (.object "java/lang/Object") (4 : Int32) [w0, w1, w2, w3] .null := VV5'
  have O5 := O4.keep K5 (allS gva all0)
  have Z5 := Nat.le_trans Z4 K5.1
  have VD5 := VD4.keep K5 (fun q => ndv (List.mem_singleton.mp q))
  have VO5 := VO4.keep K5 (fun q => Nat.ne_of_lt nov (List.mem_singleton.mp q))
  obtain ⟨T6, h6, L6, s6, sy, X6, e6, N6, hs6, K6, Esy, Fsy, gsy, st6⟩ := own_C (.val (.int p2)) (.val (.int p3)) (.val (.int p4)) (.val (.int p5)) (.val (.int p6)) (.val (.ref cs)) (.val (.ref ow)) (.val (.ref st)) (.val (.ref va)) p1 ds z kD (nar .char ((((p2.toUInt32 >>> ((16 : Int32) &&& 31).toUInt32).toInt32) &&& (255 : Int32)).toUInt32.toUInt16.toUInt32.toInt32)) (nar .char ((((p2.toUInt32 >>> ((24 : Int32) &&& 31).toUInt32).toInt32) &&& (255 : Int32)).toUInt32.toUInt16.toUInt32.toInt32)) X5 hx hZ hw hby hml hown e5 Z5 N5 O5 SCS hcz VD5 own_chrs (by omega) (by omega)
  have hc6 : c5 + 3 ≤ 19 := by omega
  have I6 : own_Inv Z h6 n0 kO kV ow va sy t0 t1 t2 w0 w1 w2 w3 [] .null := ⟨Nat.le_trans Z5 K6.1, VO5.keep K6 (fun q => nomatch q), VV5.keep K6 (fun q => nomatch q), Esy, Fsy, rfl, List.nodup_nil, (fun a q => nomatch q), Nat.ne_of_gt (Nat.lt_of_lt_of_le (Arv.lt VO5) gsy), Nat.ne_of_gt (Nat.lt_of_lt_of_le (Arv.lt VV5) gsy), Nat.le_trans Z5 gsy⟩
  obtain ⟨T7, h7, L7, c7, s7, C7, d7, X7, e7, N7, hc7, hs7, I7, -, lk7, st7⟩ := own_d0 (.val (.int p1)) (.val (.int p2)) (.val (.int p3)) (.val (.int p4)) (.val (.int p5)) (.val (.int p6)) (.val (.ref cs)) (.val (.ref ds)) (.val (.ref st)) (.val (.int (((p1.toUInt32 >>> ((2 : Int32) &&& 31).toUInt32).toInt32) &&& (3 : Int32)))) (.val (.int (((p1.toUInt32 >>> ((4 : Int32) &&& 31).toUInt32).toInt32) &&& (3 : Int32)))) (.val (.int (((p1.toUInt32 >>> ((6 : Int32) &&& 31).toUInt32).toInt32) &&& (3 : Int32)))) .unset .unset .unset .unset kO kV ow va sy t0 t1 t2 w0 w1 w2 w3 (p1 &&& (3 : Int32)) [] .null X6 hx hZ hw hby hml hown e6 I6 r0 N6 (by omega) (by omega) (own_and3 _)
  obtain ⟨T8, h8, L8, c8, s8, C8, d8, X8, e8, N8, hc8, hs8, I8, -, lk8, st8⟩ := own_d1 (.val (.int p1)) (.val (.int p2)) (.val (.int p3)) (.val (.int p4)) (.val (.int p5)) (.val (.int p6)) (.val (.ref cs)) (.val (.ref ds)) (.val (.ref st)) (.val (.int (p1 &&& (3 : Int32)))) (.val (.int (((p1.toUInt32 >>> ((4 : Int32) &&& 31).toUInt32).toInt32) &&& (3 : Int32)))) (.val (.int (((p1.toUInt32 >>> ((6 : Int32) &&& 31).toUInt32).toInt32) &&& (3 : Int32)))) .unset .unset .unset .unset kO kV ow va sy t0 t1 t2 w0 w1 w2 w3 (((p1.toUInt32 >>> ((2 : Int32) &&& 31).toUInt32).toInt32) &&& (3 : Int32)) C7 d7 X7 hx hZ hw hby hml hown e7 I7 r1 N7 (by omega) (by omega) (own_and3 _)
  obtain ⟨T9, h9, L9, c9, s9, C9, d9, X9, e9, N9, hc9, hs9, I9, -, lk9, st9⟩ := own_d2 (.val (.int p1)) (.val (.int p2)) (.val (.int p3)) (.val (.int p4)) (.val (.int p5)) (.val (.int p6)) (.val (.ref cs)) (.val (.ref ds)) (.val (.ref st)) (.val (.int (p1 &&& (3 : Int32)))) (.val (.int (((p1.toUInt32 >>> ((2 : Int32) &&& 31).toUInt32).toInt32) &&& (3 : Int32)))) (.val (.int (((p1.toUInt32 >>> ((6 : Int32) &&& 31).toUInt32).toInt32) &&& (3 : Int32)))) .unset .unset .unset .unset kO kV ow va sy t0 t1 t2 w0 w1 w2 w3 (((p1.toUInt32 >>> ((4 : Int32) &&& 31).toUInt32).toInt32) &&& (3 : Int32)) C8 d8 X8 hx hZ hw hby hml hown e8 I8 r2 N8 (by omega) (by omega) (own_and3 _)
  obtain ⟨T10, h10, L10, c10, s10, C10, d10, X10, e10, N10, hc10, hs10, I10, -, lk10, st10⟩ := own_d3 (.val (.int p1)) (.val (.int p2)) (.val (.int p3)) (.val (.int p4)) (.val (.int p5)) (.val (.int p6)) (.val (.ref cs)) (.val (.ref ds)) (.val (.ref st)) (.val (.int (p1 &&& (3 : Int32)))) (.val (.int (((p1.toUInt32 >>> ((2 : Int32) &&& 31).toUInt32).toInt32) &&& (3 : Int32)))) (.val (.int (((p1.toUInt32 >>> ((4 : Int32) &&& 31).toUInt32).toInt32) &&& (3 : Int32)))) .unset .unset .unset .unset kO kV ow va sy t0 t1 t2 w0 w1 w2 w3 (((p1.toUInt32 >>> ((6 : Int32) &&& 31).toUInt32).toInt32) &&& (3 : Int32)) C9 d9 X9 hx hZ hw hby hml hown e9 I9 r3 N9 (by omega) (by omega) (own_and3 _)
  obtain ⟨f0, f1, f2, f3⟩ := own_fin l14 l17 l20 (own_and3 _) (own_and3 _) (own_and3 _) (own_and3 _) (f1 := own_look C7) (f2 := own_look C8) (f3 := own_look C9) (f4 := own_look C10) lk7 lk8 lk9 lk10
  obtain ⟨ZA, VOA, VVA, EA, FA, CA, -⟩ := I10
  obtain ⟨cl8, A8, -, S8, -, H8, -⟩ := VOA
  have S8' : cl8.slots.size = 3 := S8
  have q0 : Rf (own_look C10 t0) := by rw [f0]; exact own_e_rf (own_e_rf (own_e_rf (own_e_rf (Or.inl rfl) r0) r1) r2) r3
  have q1 : Rf (own_look C10 t1) := by rw [f1]; exact own_e_rf (own_e_rf (own_e_rf (own_e_rf (Or.inl rfl) r0) r1) r2) r3
  have q2 : Rf (own_look C10 t2) := by rw [f2]; exact own_e_rf (own_e_rf (own_e_rf (own_e_rf (Or.inl rfl) r0) r1) r2) r3
  have a3 := own_atc l Z a0 hw sy st C10 d10 h10 n0 ZA EA FA CA
  rw [f3] at a3
  obtain ⟨T11, L11, c11, s11, X11, N11, hc11, hs11, st11⟩ := own_E (.val (.int p1)) (.val (.int p2)) (.val (.int p3)) (.val (.int p4)) (.val (.int p5)) (.val (.int p6)) (.val (.ref cs)) (.val (.ref ds)) ow st va (p1 &&& (3 : Int32)) (((p1.toUInt32 >>> ((2 : Int32) &&& 31).toUInt32).toInt32) &&& (3 : Int32)) (((p1.toUInt32 >>> ((4 : Int32) &&& 31).toUInt32).toInt32) &&& (3 : Int32)) (((p1.toUInt32 >>> ((6 : Int32) &&& 31).toUInt32).toInt32) &&& (3 : Int32)) sy t0 cl8 t1 t2 (own_look C10 t0) (own_look C10 t1) (own_look C10 t2) X10 hx hZ hw hby hml hown e10 A8 (by rw [S8']; decide) (H8 0 (by omega)) (own_atc l Z a0 hw sy t0 C10 d10 h10 n0 ZA EA FA CA) EA (by rw [S8']; decide) (H8 1 (by omega)) (own_atc l Z a0 hw sy t1 C10 d10 h10 n0 ZA EA FA CA) (by rw [S8']; decide) (H8 2 (by omega)) (own_atc l Z a0 hw sy t2 C10 d10 h10 n0 ZA EA FA CA) a3 (by rw [f0]; exact rm20 l Z a0 hw [] (0 : Int32) (p1 &&& (3 : Int32)) (((p1.toUInt32 >>> ((2 : Int32) &&& 31).toUInt32).toInt32) &&& (3 : Int32)) (((p1.toUInt32 >>> ((4 : Int32) &&& 31).toUInt32).toInt32) &&& (3 : Int32)) (((p1.toUInt32 >>> ((6 : Int32) &&& 31).toUInt32).toInt32) &&& (3 : Int32)) va h10 n0 ZA kV w0 w1 w2 w3 r0 r1 r2 r3 VVA) (by rw [f1]; exact rm20 l Z a0 hw [] (1 : Int32) (p1 &&& (3 : Int32)) (((p1.toUInt32 >>> ((2 : Int32) &&& 31).toUInt32).toInt32) &&& (3 : Int32)) (((p1.toUInt32 >>> ((4 : Int32) &&& 31).toUInt32).toInt32) &&& (3 : Int32)) (((p1.toUInt32 >>> ((6 : Int32) &&& 31).toUInt32).toInt32) &&& (3 : Int32)) va h10 n0 ZA kV w0 w1 w2 w3 r0 r1 r2 r3 VVA) (by rw [f2]; exact rm20 l Z a0 hw [] (2 : Int32) (p1 &&& (3 : Int32)) (((p1.toUInt32 >>> ((2 : Int32) &&& 31).toUInt32).toInt32) &&& (3 : Int32)) (((p1.toUInt32 >>> ((4 : Int32) &&& 31).toUInt32).toInt32) &&& (3 : Int32)) (((p1.toUInt32 >>> ((6 : Int32) &&& 31).toUInt32).toInt32) &&& (3 : Int32)) va h10 n0 ZA kV w0 w1 w2 w3 r0 r1 r2 r3 VVA) q0 q1 q2 N10 (by omega) (by omega)
  obtain ⟨fs, hr, hrun, hended, hW, hsame⟩ := X11.leave (v := some (.int (1 : Int32))) (fun h => by rw [Bd.returns] at h; cases h)
  refine ⟨_, _, pre0 _ ?_, hrun, hended, _, _, rfl, ?_, ⟨_, rfl⟩, hW, hsame.mono (by show c11 ≤ 56; omega) (by show s11 ≤ 192; omega)⟩
  · refine st1 _ ?_
    refine st2 _ ?_
    refine st3 _ ?_
    refine st4 _ ?_
    refine st5 _ ?_
    refine st6 _ ?_
    refine st7 _ ?_
    refine st8 _ ?_
    refine st9 _ ?_
    refine st10 _ ?_
    refine st11 _ ?_
    show Steps p.tables e below (T11.setTop (mkF m 443 #[.val (.int p1), .val (.int p2), .val (.int p3), .val (.int p4), .val (.int p5), .val (.int p6), .val (.ref cs), .val (.ref ds), .val (.ref ow), .val (.ref st), .val (.ref va), .val (.int (p1 &&& (3 : Int32))), .val (.int (((p1.toUInt32 >>> ((2 : Int32) &&& 31).toUInt32).toInt32) &&& (3 : Int32))), .val (.int (((p1.toUInt32 >>> ((4 : Int32) &&& 31).toUInt32).toInt32) &&& (3 : Int32))), .val (.int (((p1.toUInt32 >>> ((6 : Int32) &&& 31).toUInt32).toInt32) &&& (3 : Int32))), .val (.ref sy), .val (own_look C10 t0), .val (own_look C10 t1), .val (own_look C10 t2), .val .null] [])) _
    refine XS.iconst X11.here hx rfl (hb hby at_443) ?_
    show Steps p.tables e below (T11.setTop (mkF m 444 #[.val (.int p1), .val (.int p2), .val (.int p3), .val (.int p4), .val (.int p5), .val (.int p6), .val (.ref cs), .val (.ref ds), .val (.ref ow), .val (.ref st), .val (.ref va), .val (.int (p1 &&& (3 : Int32))), .val (.int (((p1.toUInt32 >>> ((2 : Int32) &&& 31).toUInt32).toInt32) &&& (3 : Int32))), .val (.int (((p1.toUInt32 >>> ((4 : Int32) &&& 31).toUInt32).toInt32) &&& (3 : Int32))), .val (.int (((p1.toUInt32 >>> ((6 : Int32) &&& 31).toUInt32).toInt32) &&& (3 : Int32))), .val (.ref sy), .val (own_look C10 t0), .val (own_look C10 t1), .val (own_look C10 t2), .val .null] [(.int (1 : Int32))])) _
    refine XS.goto X11.here hx rfl (pc0 := 444) (pc' := 448) rfl (hb hby at_444) (by decide) (by decide) ?_
    show Steps p.tables e below (T11.setTop (mkF m 448 #[.val (.int p1), .val (.int p2), .val (.int p3), .val (.int p4), .val (.int p5), .val (.int p6), .val (.ref cs), .val (.ref ds), .val (.ref ow), .val (.ref st), .val (.ref va), .val (.int (p1 &&& (3 : Int32))), .val (.int (((p1.toUInt32 >>> ((2 : Int32) &&& 31).toUInt32).toInt32) &&& (3 : Int32))), .val (.int (((p1.toUInt32 >>> ((4 : Int32) &&& 31).toUInt32).toInt32) &&& (3 : Int32))), .val (.int (((p1.toUInt32 >>> ((6 : Int32) &&& 31).toUInt32).toInt32) &&& (3 : Int32))), .val (.ref sy), .val (own_look C10 t0), .val (own_look C10 t1), .val (own_look C10 t2), .val .null] [(.int (1 : Int32))])) _
    exact retN X11 hx (t := .boolean) Bd.returns (by simp) (hb hby at_448) hr
  · exact ⟨rfl, N11⟩
theorem own_eqi {t : Term} {n : Int32} {args : Array Value} {s : State} (h : (Jvm.Cond.eq t (.int n)).value args s none s [] = some true) : t.eval args s none [] s = some (.int n) := by
  simp only [Cond.value, Term.eval] at h
  cases ht : t.eval args s none [] s with
  | none => simp [ht] at h
  | some x => cases x <;> simp_all
theorem own_len {Z : State} {args : Array Value} {t : Term} {a : Addr} {c : Cell} {ty : FieldType} {n : Int32} (et : t.eval args Z none [] Z = some (.ref a)) (A : Arr Z Z.heap a c ty) (h : (Term.length t).eval args Z none [] Z = some (.int n)) : c.slots.size < 2 ^ 31 ∧ c.slots.size.toInt32 = n := by
  have ha := A.fin (Vm.Alike.refl _)
  by_cases q : c.slots.size < 2 ^ 31
  · rw [len_f et ha q] at h
    injection h with h
    injection h with h
    exact ⟨q, h⟩
  · have q' : ¬ c.slots.size < 2147483648 := q
    simp [Term.eval, et, ha, q'] at h
theorem own_sta_idx {Z : State} {args : Array Value} {C n d : String} (idx : List Nat) : (Jvm.Term.static C n d).eval args Z none idx Z = (Jvm.Term.static C n d).eval args Z none [] Z := rfl
theorem own_box {Z : State} {args : Array Value} (X : Term) (j : Int32) (hj : ¬ j < 0) (h : (Cond.eq X (Jvm.Term.sub (Jvm.Term.index (0 : Nat)) (Jvm.Term.int (128 : Int32)))).value args Z none Z [j.toNatClampNeg] = some true) : X.eval args Z none [j.toNatClampNeg] Z = some (.int (j - 128)) := by
  refine eqv_i ?_ h
  have e := idx_at (args := args) (first := Z) (o := none) (s := Z) hj
  simp [Term.eval] at e ⊢
  simp [e]
set_option maxHeartbeats 40000000 in
theorem comes_1 {Post : Tables → Env → Array Value → State → Outcome → State → Prop} (hpost : ∀ tb e args s v u, (limb_1_1.after args s (.returned v) u = true ∧ limb_1_2.after args s (.returned v) u = true ∧ True) → FrameEnd s (.returned v) u (Jvm.fieldLocs frame_1_writes args s ++ Jvm.arrayLocs frame_1_arrays args s ++ Jvm.staticLocs frame_1_statics s) 56 192 → Post tb e args s (.returned v) u) :
    ArmFor flags0 classFile x code maxLocals ret World_1 tables_1 room_1 Calls_1 rest_1 Pre_1 Post := by
  intro l hfl _ _ p e ha hc hk s m args below hf hA hF happ hP
  obtain ⟨hcalls, hrest, hpre⟩ := hP
  obtain ⟨-, -, -, hnamed, -, -, -, hat⟩ := (Spec.applies_iff hf).mp happ
  obtain ⟨hg, hn⟩ := and_e (Cond.before_iff.mp (show (Jvm.Cond.and given_1 narrow_1).before args s = true from hpre))
  obtain ⟨g56, g57⟩ := and_e hg
  obtain ⟨g58, g59⟩ := and_e g57
  obtain ⟨g60, g61⟩ := and_e g59
  obtain ⟨g62, g63⟩ := and_e g61
  obtain ⟨g64, g65⟩ := and_e g63
  obtain ⟨g66, g67⟩ := and_e g65
  obtain ⟨w0, w1, w2, w3, w4, w5, rfl⟩ : ∃ w0 w1 w2 w3 w4 w5 : Value, args = #[w0, w1, w2, w3, w4, w5] := by
    have hs : args.size = 6 := by simpa [Cond.value, given_1] using g56
    obtain ⟨L⟩ := args
    match L, hs with
    | [w0, w1, w2, w3, w4, w5], _ => exact ⟨w0, w1, w2, w3, w4, w5, rfl⟩
  have hw := fun d (hd : d ∈ tables_1) => atoms_spec (ws := Jvm.Cond.code x code maxLocals ret :: tables_1) hat d (List.mem_cons_of_mem _ hd)
  have hfit : Fit s := fun {y c} hc i hi => by
    obtain ⟨ha, rfl⟩ := Array.getElem?_eq_some_iff.mp hc
    have q := List.all_eq_true.mp ((Array.all_eq_true_iff_forall_mem.mp hF) _ (Array.getElem_mem ha)) i (List.mem_range.mpr hi)
    simpa [Array.getElem?_eq_getElem hi] using q
  obtain ⟨hsets, hown0⟩ := atoms_of _ (rest_1_c_eq ▸ (show rest_1_c.before _ s = true from hrest))
  have hr0 := Cond.before_iff.mp hown0
  obtain ⟨i0, ei0⟩ := is_v g58
  obtain rfl : w0 = (.int i0) := Option.some.inj ei0
  obtain ⟨i1, ei1⟩ := is_v g60
  obtain rfl : w1 = (.int i1) := Option.some.inj ei1
  obtain ⟨i2, ei2⟩ := is_v g62
  obtain rfl : w2 = (.int i2) := Option.some.inj ei2
  obtain ⟨i3, ei3⟩ := is_v g64
  obtain rfl : w3 = (.int i3) := Option.some.inj ei3
  obtain ⟨i4, ei4⟩ := is_v g66
  obtain rfl : w4 = (.int i4) := Option.some.inj ei4
  obtain ⟨i5, ei5⟩ := is_v g67
  obtain rfl : w5 = (.int i5) := Option.some.inj ei5
  have nz := not_v (Cond.before_iff.mp (hsets _ (List.mem_of_getElem? (i := 2) rfl)))
  obtain ⟨z, ez⟩ := is_v (Cond.before_iff.mp (hsets _ (List.mem_of_getElem? (i := 1) rfl)))
  have SCS : Sta s s.heap "java/lang/String" "COMPACT_STRINGS" "Z" (.int z) := Sta.start ez (Or.inl (hsets _ (List.mem_of_getElem? (i := 0) rfl)))
  have hcz : ¬ z = 0 := gotF (Cond.eq_ints ez (Term.int_eval (0))) nz
  have SH : Sta s s.heap "java/lang/Integer$IntegerCache" "high" "I" (.int (127 : Int32)) := Sta.start (own_eqi (Cond.before_iff.mp (hsets _ (List.mem_of_getElem? (i := 12) rfl)))) (Or.inl (hsets _ (List.mem_of_getElem? (i := 10) rfl)))
  have har := Cond.before_iff.mp (hsets _ (List.mem_of_getElem? (i := 13) rfl))
  obtain ⟨cw, ecw⟩ := arr_v har
  obtain ⟨bcl, BA⟩ := Arr.start ecw har
  have SC : Sta s s.heap "java/lang/Integer$IntegerCache" "cache" "[Ljava/lang/Integer;" (.ref cw) := Sta.start ecw (Or.inr ⟨(hw _ (List.mem_of_getElem? (i := 38) rfl)), (hsets _ (List.mem_of_getElem? (i := 11) rfl))⟩)
  obtain ⟨q31, q256⟩ := own_len ecw BA (own_eqi (Cond.before_iff.mp (hsets _ (List.mem_of_getElem? (i := 15) rfl))))
  have B := Bxs.start (Z := s) (args := _) (val := fun j => .int (j - 128)) (fun idx => (own_sta_idx idx).trans ecw) BA q31 q256 (by decide) (Cond.before_iff.mp (hsets _ (List.mem_of_getElem? (i := 16) rfl))) own_box
  obtain ⟨n, o, h1, h2, h3, _, L, rfl, ⟨rfl, N⟩, hq⟩ := rm0 l s _ hw tables_1 i0 i1 i2 i3 i4 i5 z cw bcl _ s.heap s.heap.size (Nat.le_refl _) (Old.start s) SH SC B SCS hcz p e ha hc hk s m _ below hf ((Spec.applies_iff_loose hf).mp happ).1 ⟨rfl, State.Warmed39.refl s, rfl⟩ trivial
  refine ⟨n, _, h1, h2, h3, hpost _ _ _ _ _ _ ⟨Cond.after_iff.mpr rfl, Cond.after_iff.mpr (eq_i res_at (Term.int_eval (1)) rfl), trivial⟩ ⟨hq.1, hq.2.1, (hq.2.2.sift fun y hy => Or.inr (N y hy)).mono (by decide) (by decide)⟩⟩
theorem main_1_1 : Claimed_1_1 := comes_1 fun _ _ _ _ _ _ h hF => ⟨h.1, hF⟩
theorem main_1_2 : Claimed_1_2 := comes_1 fun _ _ _ _ _ _ h hF => ⟨h.2.1, hF⟩
end Jvm.Pilot.@@N@@
namespace Jvm.Pilot.@@N@@
open Jvm Jvm.ClassFile Sem Op Lib Jvm.Free Jvm.Stand Jvm.Pilot.@@N@@.Jvm.D
/-! MADE BY PROGRAM (witnessworld.py) out of the Statement's table words and the real class files: 27 classes; the members and pool entries that the words name. The judged class is class 1, her method 1. -/
namespace start1
open Jvm.ClassFile
def u (s : String) : CpInfo := .utf8 (stringToUtf16 s)
/-- a pool by its gaps: so many unusable entries, then the entry; so many at the end -/
def gap : Nat → List CpInfo → List CpInfo
  | 0, r => r
  | n + 1, r => .unusable :: gap n r
def poolList (es : List (Nat × CpInfo)) (last : Nat) : List CpInfo := es.foldr (fun e r => gap e.1 (e.2 :: r)) (gap last [])
def pool (es : List (Nat × CpInfo)) (last : Nat) : Array CpInfo := ⟨poolList es last⟩
def fileOf (pool : Array CpInfo) (this : Nat) (attrs : Array Attribute := #[]) (ms : Array MethodInfo := #[]) (fl : Nat := 33) (sup : Nat := 0) (ifs : Array Nat := #[]) (fds : Array FieldInfo := #[]) : ClassFile where
  minorVersion := 0
  majorVersion := 65
  constantPool := pool
  accessFlags := fl
  thisClass := this
  superClass := sup
  interfaces := ifs
  fields := fds
  methods := ms
  attributes := attrs
def plain (name : String) (sup : Option ClassId) : Class where
  name := name
  kind := .ordinary
  loader := none
  accessFlags := 33
  super := sup
  interfaces := #[]
  cf := none
  fields := #[]
  methods := #[]
  instanceTypes := #[]
  staticTypes := #[]
  resolved := #[]
  callSites := []
  init := .initialized
  statics := none
  mirror := none

def pool0 : Array CpInfo := pool [(5, u "<init>"), (0, u "()V"), (1, .class_ 10), (1, u "java/lang/Object")] 113

def k0c0 : Code := { maxStack := 0, maxLocals := 1, code := object_method_1_code, exceptionTable := #[], attributes := #[] }
def k0m0 : Method := { name := "<init>", desc := "()V", sig := { parameters := [], returnType := none }, accessFlags := 1, code := some k0c0 }
/-- java/lang/Object -/
def k0 : Class := { plain "java/lang/Object" none with
  accessFlags := 33
  interfaces := #[]
  cf := some (fileOf pool0 8 #[] #[{ accessFlags := 1, nameIndex := 5, descriptorIndex := 6, attributes := #[] }] 33 0 #[] #[])
  fields := #[]
  methods := #[k0m0]
  instanceTypes := #[]
  staticTypes := #[]
  resolved := Array.replicate 124 none
  statics := none }

def pool1 : Array CpInfo := pool [(2, .class_ 4), (1, u "java/lang/Object"), (0, u "<init>"), (0, u "()V"), (0, .class_ 8), (0, u "java/lang/String"), (0, .methodref 7 10), (0, .nameAndType 5 11), (0, u "([C)V"), (0, .methodref 13 14), (0, .class_ 15), (0, .nameAndType 16 17), (0, u "java/lang/Integer"), (0, u "valueOf"), (0, u "(I)Ljava/lang/Integer;"), (0, .class_ 19), (0, u "com/example/fixpoint/fixpoint/expr/Symbol"), (0, .methodref 18 21), (0, .nameAndType 5 22), (0, u "(Ljava/lang/String;Z)V"), (0, .methodref 18 24), (0, .nameAndType 25 26), (0, u "attach"), (0, u "(Ljava/lang/Object;Ljava/lang/Object;)V"), (0, .methodref 18 28), (0, .nameAndType 29 30), (0, u "attachment"), (0, u "(Ljava/lang/Object;)Ljava/lang/Object;"), (0, .methodref 32 33), (0, .class_ 34), (0, .nameAndType 35 36), (0, u "com/example/fixpoint/fixpoint/expr/SymbolAttachmentPinLaw"), (0, u "expected"), (0, u "(IIIII[Ljava/lang/Object;)Ljava/lang/Object;"), (2, u "law"), (0, u "(IIIIII)Z")] 7

def k1m0 : Method := { name := "<init>", desc := "()V", sig := { parameters := [], returnType := none }, accessFlags := 1, code := none }
def k1c1 : Code := { maxStack := 7, maxLocals := 20, code := code, exceptionTable := #[], attributes := #[] }
def k1m1 : Method := { name := "law", desc := "(IIIIII)Z", sig := { parameters := [.int, .int, .int, .int, .int, .int], returnType := some .boolean }, accessFlags := 9, code := some k1c1 }
def k1c2 : Code := { maxStack := 2, maxLocals := 7, code := method_3_code, exceptionTable := #[], attributes := #[] }
def k1m2 : Method := { name := "expected", desc := "(IIIII[Ljava/lang/Object;)Ljava/lang/Object;", sig := { parameters := [.int, .int, .int, .int, .int, (.array (.object "java/lang/Object"))], returnType := some (.object "java/lang/Object") }, accessFlags := 10, code := some k1c2 }
/-- com/example/fixpoint/fixpoint/expr/SymbolAttachmentPinLaw -/
def k1 : Class := { plain "com/example/fixpoint/fixpoint/expr/SymbolAttachmentPinLaw" (some 0) with
  accessFlags := 49
  interfaces := #[]
  cf := some (fileOf pool1 32 #[] #[{ accessFlags := 1, nameIndex := 5, descriptorIndex := 6, attributes := #[] }, { accessFlags := 9, nameIndex := 39, descriptorIndex := 40, attributes := #[] }, { accessFlags := 10, nameIndex := 35, descriptorIndex := 36, attributes := #[] }] 49 2 #[] #[])
  fields := #[]
  methods := #[k1m0, k1m1, k1m2]
  instanceTypes := #[]
  staticTypes := #[]
  resolved := Array.replicate 48 none
  statics := none }

def pool2 : Array CpInfo := pool [(1, .class_ 2), (0, u "java/io/Serializable"), (0, .class_ 4), (0, u "java/lang/Object")] 2

/-- java/io/Serializable -/
def k2 : Class := { plain "java/io/Serializable" (some 0) with
  accessFlags := 1537
  interfaces := #[]
  cf := some (fileOf pool2 1 #[] #[] 1537 3 #[] #[])
  fields := #[]
  methods := #[]
  instanceTypes := #[]
  staticTypes := #[]
  resolved := Array.replicate 7 none
  statics := none }

def pool3 : Array CpInfo := pool [(1, .class_ 2), (0, u "java/lang/Comparable"), (0, .class_ 4), (0, u "java/lang/Object")] 7

/-- java/lang/Comparable -/
def k3 : Class := { plain "java/lang/Comparable" (some 0) with
  accessFlags := 1537
  interfaces := #[]
  cf := some (fileOf pool3 1 #[] #[] 1537 3 #[] #[])
  fields := #[]
  methods := #[]
  instanceTypes := #[]
  staticTypes := #[]
  resolved := Array.replicate 12 none
  statics := none }

def pool4 : Array CpInfo := pool [(2, .class_ 4), (1, u "java/lang/CharSequence"), (42, .class_ 48), (0, u "java/lang/CharSequence$1CodePointIterator"), (10, .class_ 60), (0, u "java/lang/CharSequence$1CharIterator"), (5, .class_ 67), (0, u "java/lang/Object")] 63

/-- java/lang/CharSequence -/
def k4 : Class := { plain "java/lang/CharSequence" (some 0) with
  accessFlags := 1537
  interfaces := #[]
  cf := some (fileOf pool4 2 #[.nestMembers #[47, 59]] #[] 1537 66 #[] #[])
  fields := #[]
  methods := #[]
  instanceTypes := #[]
  staticTypes := #[]
  resolved := Array.replicate 131 none
  statics := none }

def pool5 : Array CpInfo := pool [(1, .class_ 2), (0, u "java/lang/constant/Constable"), (0, .class_ 4), (0, u "java/lang/Object")] 6

/-- java/lang/constant/Constable -/
def k5 : Class := { plain "java/lang/constant/Constable" (some 0) with
  accessFlags := 1537
  interfaces := #[]
  cf := some (fileOf pool5 1 #[] #[] 1537 3 #[] #[])
  fields := #[]
  methods := #[]
  instanceTypes := #[]
  staticTypes := #[]
  resolved := Array.replicate 11 none
  statics := none }

def pool6 : Array CpInfo := pool [(1, .class_ 2), (0, u "java/lang/constant/ConstantDesc"), (0, .class_ 4), (0, u "java/lang/Object")] 32

/-- java/lang/constant/ConstantDesc -/
def k6 : Class := { plain "java/lang/constant/ConstantDesc" (some 0) with
  accessFlags := 1537
  interfaces := #[]
  cf := some (fileOf pool6 1 #[] #[] 1537 3 #[] #[])
  fields := #[]
  methods := #[]
  instanceTypes := #[]
  staticTypes := #[]
  resolved := Array.replicate 37 none
  statics := none }

def pool7 : Array CpInfo := pool [(1, .methodref 2 3), (0, .class_ 4), (0, .nameAndType 5 6), (0, u "java/lang/Object"), (0, u "<init>"), (0, u "()V"), (2, .fieldref 10 11), (0, .class_ 12), (0, .nameAndType 13 14), (0, u "java/lang/String"), (0, u "value"), (0, u "[B"), (0, .fieldref 10 16), (0, .nameAndType 17 18), (0, u "coder"), (0, u "B"), (0, .fieldref 10 20), (0, .nameAndType 21 22), (0, u "hash"), (0, u "I"), (0, .fieldref 10 24), (0, .nameAndType 25 26), (0, u "hashIsZero"), (0, u "Z"), (0, .methodref 10 28), (0, .nameAndType 5 29), (0, u "([CIILjava/lang/Void;)V"), (8, .fieldref 10 39), (0, .nameAndType 40 26), (0, u "COMPACT_STRINGS"), (1, .class_ 44), (1, u "java/lang/StringUTF16"), (0, u "compress"), (1, .methodref 42 48), (0, .nameAndType 49 50), (0, u "coderFromArrayLen"), (0, u "([BI)B"), (56, .class_ 109), (1, u "java/lang/StringLatin1"), (32, u "()Z"), (34, .methodref 42 178), (0, .nameAndType 45 179), (0, u "([CII)[B"), (154, u "()I"), (157, .methodref 10 493), (0, .nameAndType 494 142), (0, u "isLatin1"), (80, .class_ 576), (0, u "java/lang/CharSequence"), (22, u "CASE_INSENSITIVE_ORDER"), (0, u "Ljava/util/Comparator;"), (27, .methodref 107 629), (0, .nameAndType 630 631), (0, u "hashCode"), (0, u "([B)I"), (378, u "([C)V"), (90, u "serialPersistentFields"), (0, u "[Ljava/io/ObjectStreamField;"), (0, .class_ 1104), (0, u "java/lang/String$CaseInsensitiveComparator"), (1, .class_ 1107), (0, u "java/io/Serializable"), (0, .class_ 1109), (0, u "java/lang/Comparable"), (0, .class_ 1111), (0, u "java/lang/constant/Constable"), (0, .class_ 1113), (0, u "java/lang/constant/ConstantDesc"), (2, u "serialVersionUID"), (0, u "J"), (3, u "REPL"), (0, u "C"), (2, u "LATIN1"), (1, u "UTF16")] 323

def k7m0 : Method := { name := "<init>", desc := "()V", sig := { parameters := [], returnType := none }, accessFlags := 1, code := none }
def k7c1 : Code := { maxStack := 5, maxLocals := 2, code := jdk_42_method_3_code, exceptionTable := #[], attributes := #[] }
def k7m1 : Method := { name := "<init>", desc := "([C)V", sig := { parameters := [(.array .char)], returnType := none }, accessFlags := 1, code := some k7c1 }
def k7c2 : Code := { maxStack := 2, maxLocals := 2, code := jdk_42_method_78_code, exceptionTable := #[], attributes := #[] }
def k7m2 : Method := { name := "hashCode", desc := "()I", sig := { parameters := [], returnType := some .int }, accessFlags := 1, code := some k7c2 }
def k7c3 : Code := { maxStack := 4, maxLocals := 6, code := jdk_42_method_149_code, exceptionTable := #[], attributes := #[] }
def k7m3 : Method := { name := "<init>", desc := "([CIILjava/lang/Void;)V", sig := { parameters := [(.array .char), .int, .int, (.object "java/lang/Void")], returnType := none }, accessFlags := 2, code := some k7c3 }
def k7c4 : Code := { maxStack := 1, maxLocals := 1, code := jdk_42_method_154_code, exceptionTable := #[], attributes := #[] }
def k7m4 : Method := { name := "isLatin1", desc := "()Z", sig := { parameters := [], returnType := some .boolean }, accessFlags := 0, code := some k7c4 }
/-- java/lang/String -/
def k7 : Class := { plain "java/lang/String" (some 0) with
  accessFlags := 49
  interfaces := #[2, 3, 4, 5, 6]
  cf := some (fileOf pool7 10 #[.nestMembers #[1103]] #[{ accessFlags := 1, nameIndex := 5, descriptorIndex := 6, attributes := #[] }, { accessFlags := 1, nameIndex := 5, descriptorIndex := 1010, attributes := #[] }, { accessFlags := 1, nameIndex := 630, descriptorIndex := 334, attributes := #[] }, { accessFlags := 2, nameIndex := 5, descriptorIndex := 29, attributes := #[] }, { accessFlags := 0, nameIndex := 494, descriptorIndex := 142, attributes := #[] }] 49 2 #[1106, 1108, 575, 1110, 1112] #[{ accessFlags := 18, nameIndex := 13, descriptorIndex := 14, attributes := #[] }, { accessFlags := 18, nameIndex := 17, descriptorIndex := 18, attributes := #[] }, { accessFlags := 2, nameIndex := 21, descriptorIndex := 22, attributes := #[] }, { accessFlags := 2, nameIndex := 25, descriptorIndex := 26, attributes := #[] }, { accessFlags := 26, nameIndex := 1116, descriptorIndex := 1117, attributes := #[] }, { accessFlags := 24, nameIndex := 40, descriptorIndex := 26, attributes := #[] }, { accessFlags := 26, nameIndex := 1101, descriptorIndex := 1102, attributes := #[] }, { accessFlags := 26, nameIndex := 1121, descriptorIndex := 1122, attributes := #[] }, { accessFlags := 25, nameIndex := 599, descriptorIndex := 600, attributes := #[] }, { accessFlags := 24, nameIndex := 1125, descriptorIndex := 18, attributes := #[] }, { accessFlags := 24, nameIndex := 1127, descriptorIndex := 18, attributes := #[] }])
  fields := #[{ name := "value", type := (.array .byte), accessFlags := 18, slot := 0, constantValue := 0 }, { name := "coder", type := .byte, accessFlags := 18, slot := 1, constantValue := 0 }, { name := "hash", type := .int, accessFlags := 2, slot := 2, constantValue := 0 }, { name := "hashIsZero", type := .boolean, accessFlags := 2, slot := 3, constantValue := 0 }, { name := "serialVersionUID", type := .long, accessFlags := 26, slot := 0, constantValue := 0 }, { name := "COMPACT_STRINGS", type := .boolean, accessFlags := 24, slot := 1, constantValue := 0 }, { name := "serialPersistentFields", type := (.array (.object "java/io/ObjectStreamField")), accessFlags := 26, slot := 2, constantValue := 0 }, { name := "REPL", type := .char, accessFlags := 26, slot := 3, constantValue := 0 }, { name := "CASE_INSENSITIVE_ORDER", type := (.object "java/util/Comparator"), accessFlags := 25, slot := 4, constantValue := 0 }, { name := "LATIN1", type := .byte, accessFlags := 24, slot := 5, constantValue := 0 }, { name := "UTF16", type := .byte, accessFlags := 24, slot := 6, constantValue := 0 }]
  methods := #[k7m0, k7m1, k7m2, k7m3, k7m4]
  instanceTypes := #[(.array .byte), .byte, .int, .boolean]
  staticTypes := #[.long, .boolean, (.array (.object "java/io/ObjectStreamField")), .char, (.object "java/util/Comparator"), .byte, .byte]
  resolved := Array.replicate 1451 none
  statics := some 0 }

def pool8 : Array CpInfo := pool [(6, .class_ 8), (1, u "java/lang/Object"), (0, u "<init>"), (0, u "()V"), (1, .class_ 14), (1, u "java/lang/StringUTF16"), (31, u "$assertionsDisabled"), (0, u "Z"), (13, u "HI_BYTE_SHIFT"), (0, u "I"), (2, u "LO_BYTE_SHIFT"), (49, .methodref 12 116), (0, .nameAndType 117 118), (0, u "compress"), (0, u "([CI[BII)I"), (3, u "([CII)[B"), (138, u "coderFromArrayLen"), (0, u "([BI)B"), (106, .class_ 371), (1, u "java/lang/StringUTF16$LinesSpliterator"), (58, u "MAX_LENGTH"), (196, .class_ 628), (0, u "java/lang/StringUTF16$CodePointsSpliterator"), (0, .class_ 630), (0, u "java/lang/StringUTF16$CharsSpliterator")] 4

def k8m0 : Method := { name := "<init>", desc := "()V", sig := { parameters := [], returnType := none }, accessFlags := 0, code := none }
def k8c1 : Code := { maxStack := 2, maxLocals := 2, code := jdk_52_method_15_code, exceptionTable := #[], attributes := #[] }
def k8m1 : Method := { name := "coderFromArrayLen", desc := "([BI)B", sig := { parameters := [(.array .byte), .int], returnType := some .byte }, accessFlags := 8, code := some k8c1 }
def k8c2 : Code := { maxStack := 5, maxLocals := 6, code := jdk_52_method_16_code, exceptionTable := #[], attributes := #[] }
def k8m2 : Method := { name := "compress", desc := "([CII)[B", sig := { parameters := [(.array .char), .int, .int], returnType := some (.array .byte) }, accessFlags := 9, code := some k8c2 }
def k8c3 : Code := { maxStack := 3, maxLocals := 7, code := jdk_52_method_21_code, exceptionTable := #[], attributes := #[] }
def k8m3 : Method := { name := "compress", desc := "([CI[BII)I", sig := { parameters := [(.array .char), .int, (.array .byte), .int, .int], returnType := some .int }, accessFlags := 9, code := some k8c3 }
/-- java/lang/StringUTF16 -/
def k8 : Class := { plain "java/lang/StringUTF16" (some 0) with
  accessFlags := 48
  interfaces := #[]
  cf := some (fileOf pool8 12 #[.nestMembers #[627, 629, 369]] #[{ accessFlags := 0, nameIndex := 9, descriptorIndex := 10, attributes := #[] }, { accessFlags := 8, nameIndex := 261, descriptorIndex := 262, attributes := #[] }, { accessFlags := 9, nameIndex := 117, descriptorIndex := 122, attributes := #[] }, { accessFlags := 9, nameIndex := 117, descriptorIndex := 118, attributes := #[] }] 48 6 #[] #[{ accessFlags := 26, nameIndex := 61, descriptorIndex := 62, attributes := #[] }, { accessFlags := 26, nameIndex := 65, descriptorIndex := 62, attributes := #[] }, { accessFlags := 24, nameIndex := 430, descriptorIndex := 62, attributes := #[] }, { accessFlags := 4120, nameIndex := 46, descriptorIndex := 47, attributes := #[] }])
  fields := #[{ name := "HI_BYTE_SHIFT", type := .int, accessFlags := 26, slot := 0, constantValue := 0 }, { name := "LO_BYTE_SHIFT", type := .int, accessFlags := 26, slot := 1, constantValue := 0 }, { name := "MAX_LENGTH", type := .int, accessFlags := 24, slot := 2, constantValue := 0 }, { name := "$assertionsDisabled", type := .boolean, accessFlags := 4120, slot := 3, constantValue := 0 }]
  methods := #[k8m0, k8m1, k8m2, k8m3]
  instanceTypes := #[]
  staticTypes := #[.int, .int, .int, .boolean]
  resolved := Array.replicate 635 none
  statics := none }

def pool9 : Array CpInfo := pool [(1, .methodref 2 3), (0, .class_ 4), (0, .nameAndType 5 6), (0, u "java/lang/Object"), (0, u "<init>"), (0, u "()V"), (1, .class_ 10), (1, u "java/lang/Number"), (2, .class_ 14), (0, u "java/io/Serializable"), (0, u "serialVersionUID"), (0, u "J")] 20

def k9c0 : Code := { maxStack := 1, maxLocals := 1, code := jdk_18_method_1_code, exceptionTable := #[], attributes := #[] }
def k9m0 : Method := { name := "<init>", desc := "()V", sig := { parameters := [], returnType := none }, accessFlags := 1, code := some k9c0 }
/-- java/lang/Number -/
def k9 : Class := { plain "java/lang/Number" (some 0) with
  accessFlags := 1057
  interfaces := #[2]
  cf := some (fileOf pool9 8 #[] #[{ accessFlags := 1, nameIndex := 5, descriptorIndex := 6, attributes := #[] }] 1057 2 #[13] #[{ accessFlags := 26, nameIndex := 15, descriptorIndex := 16, attributes := #[] }])
  fields := #[{ name := "serialVersionUID", type := .long, accessFlags := 26, slot := 0, constantValue := 0 }]
  methods := #[k9m0]
  instanceTypes := #[]
  staticTypes := #[.long]
  resolved := Array.replicate 37 none
  statics := none }

def pool10 : Array CpInfo := pool [(1, .class_ 2), (0, u "java/lang/Integer"), (16, u "digits"), (0, u "[C"), (46, u "<init>"), (17, u "DigitOnes"), (0, u "[B"), (2, u "DigitTens"), (10, .nameAndType 67 101), (0, u "()V"), (85, u "valueOf"), (0, u "(I)Ljava/lang/Integer;"), (0, .class_ 190), (0, u "java/lang/Integer$IntegerCache"), (0, .fieldref 189 192), (0, .nameAndType 193 194), (0, u "high"), (0, u "I"), (0, .fieldref 189 196), (0, .nameAndType 197 198), (0, u "cache"), (0, u "[Ljava/lang/Integer;"), (0, .methodref 1 200), (0, .nameAndType 67 201), (0, u "(I)V"), (0, .methodref 203 100), (0, .class_ 204), (0, u "java/lang/Number"), (0, .fieldref 1 206), (0, .nameAndType 207 194), (0, u "value"), (94, u "TYPE"), (0, u "Ljava/lang/Class;"), (0, .class_ 305), (0, u "java/lang/Comparable"), (0, .class_ 307), (0, u "java/lang/constant/Constable"), (0, .class_ 309), (0, u "java/lang/constant/ConstantDesc"), (0, u "MIN_VALUE"), (1, u "MAX_VALUE"), (3, u "SIZE"), (1, u "BYTES"), (1, u "serialVersionUID"), (0, u "J")] 131

def k10c0 : Code := { maxStack := 3, maxLocals := 1, code := jdk_33_method_22_code, exceptionTable := #[], attributes := #[] }
def k10m0 : Method := { name := "valueOf", desc := "(I)Ljava/lang/Integer;", sig := { parameters := [.int], returnType := some (.object "java/lang/Integer") }, accessFlags := 9, code := some k10c0 }
def k10c1 : Code := { maxStack := 2, maxLocals := 2, code := jdk_33_method_23_code, exceptionTable := #[], attributes := #[] }
def k10m1 : Method := { name := "<init>", desc := "(I)V", sig := { parameters := [.int], returnType := none }, accessFlags := 1, code := some k10c1 }
/-- java/lang/Integer -/
def k10 : Class := { plain "java/lang/Integer" (some 9) with
  accessFlags := 49
  interfaces := #[3, 5, 6]
  cf := some (fileOf pool10 1 #[.nestMembers #[189]] #[{ accessFlags := 9, nameIndex := 187, descriptorIndex := 188, attributes := #[] }, { accessFlags := 1, nameIndex := 67, descriptorIndex := 201, attributes := #[] }] 49 203 #[304, 306, 308] #[{ accessFlags := 25, nameIndex := 310, descriptorIndex := 194, attributes := #[] }, { accessFlags := 25, nameIndex := 312, descriptorIndex := 194, attributes := #[] }, { accessFlags := 25, nameIndex := 302, descriptorIndex := 303, attributes := #[] }, { accessFlags := 24, nameIndex := 19, descriptorIndex := 20, attributes := #[] }, { accessFlags := 24, nameIndex := 89, descriptorIndex := 86, attributes := #[] }, { accessFlags := 24, nameIndex := 85, descriptorIndex := 86, attributes := #[] }, { accessFlags := 18, nameIndex := 207, descriptorIndex := 194, attributes := #[] }, { accessFlags := 25, nameIndex := 316, descriptorIndex := 194, attributes := #[] }, { accessFlags := 25, nameIndex := 318, descriptorIndex := 194, attributes := #[] }, { accessFlags := 26, nameIndex := 320, descriptorIndex := 321, attributes := #[] }])
  fields := #[{ name := "MIN_VALUE", type := .int, accessFlags := 25, slot := 0, constantValue := 0 }, { name := "MAX_VALUE", type := .int, accessFlags := 25, slot := 1, constantValue := 0 }, { name := "TYPE", type := (.object "java/lang/Class"), accessFlags := 25, slot := 2, constantValue := 0 }, { name := "digits", type := (.array .char), accessFlags := 24, slot := 3, constantValue := 0 }, { name := "DigitTens", type := (.array .byte), accessFlags := 24, slot := 4, constantValue := 0 }, { name := "DigitOnes", type := (.array .byte), accessFlags := 24, slot := 5, constantValue := 0 }, { name := "value", type := .int, accessFlags := 18, slot := 0, constantValue := 0 }, { name := "SIZE", type := .int, accessFlags := 25, slot := 6, constantValue := 0 }, { name := "BYTES", type := .int, accessFlags := 25, slot := 7, constantValue := 0 }, { name := "serialVersionUID", type := .long, accessFlags := 26, slot := 8, constantValue := 0 }]
  methods := #[k10m0, k10m1]
  instanceTypes := #[.int]
  staticTypes := #[.int, .int, (.object "java/lang/Class"), (.array .char), (.array .byte), (.array .byte), .int, .int, .long]
  resolved := Array.replicate 453 none
  statics := none }

def pool11 : Array CpInfo := pool [(2, .class_ 4), (1, u "java/lang/Object"), (0, u "<init>"), (0, u "()V"), (0, .class_ 8), (0, u "java/lang/Integer"), (7, .class_ 18), (1, u "java/lang/Integer$IntegerCache"), (0, u "$assertionsDisabled"), (0, u "Z"), (26, u "high"), (0, u "I"), (8, u "archivedCache"), (0, u "[Ljava/lang/Integer;"), (12, u "cache"), (0, u "low")] 27

def k11m0 : Method := { name := "<init>", desc := "()V", sig := { parameters := [], returnType := none }, accessFlags := 2, code := none }
/-- java/lang/Integer$IntegerCache -/
def k11 : Class := { plain "java/lang/Integer$IntegerCache" (some 0) with
  accessFlags := 48
  interfaces := #[]
  cf := some (fileOf pool11 16 #[.nestHost 7] #[{ accessFlags := 2, nameIndex := 5, descriptorIndex := 6, attributes := #[] }] 48 2 #[] #[{ accessFlags := 24, nameIndex := 72, descriptorIndex := 48, attributes := #[] }, { accessFlags := 24, nameIndex := 47, descriptorIndex := 48, attributes := #[] }, { accessFlags := 24, nameIndex := 71, descriptorIndex := 58, attributes := #[] }, { accessFlags := 8, nameIndex := 57, descriptorIndex := 58, attributes := #[] }, { accessFlags := 4120, nameIndex := 19, descriptorIndex := 20, attributes := #[] }])
  fields := #[{ name := "low", type := .int, accessFlags := 24, slot := 0, constantValue := 0 }, { name := "high", type := .int, accessFlags := 24, slot := 1, constantValue := 0 }, { name := "cache", type := (.array (.object "java/lang/Integer")), accessFlags := 24, slot := 2, constantValue := 0 }, { name := "archivedCache", type := (.array (.object "java/lang/Integer")), accessFlags := 8, slot := 3, constantValue := 0 }, { name := "$assertionsDisabled", type := .boolean, accessFlags := 4120, slot := 4, constantValue := 0 }]
  methods := #[k11m0]
  instanceTypes := #[]
  staticTypes := #[.int, .int, (.array (.object "java/lang/Integer")), (.array (.object "java/lang/Integer")), .boolean]
  resolved := Array.replicate 100 none
  statics := some 1 }

def pool12 : Array CpInfo := pool [(1, .methodref 2 3), (0, .class_ 4), (0, .nameAndType 5 6), (0, u "java/lang/Object"), (0, u "<init>"), (0, u "()V"), (0, .fieldref 8 9), (0, .class_ 10), (0, .nameAndType 11 12), (0, u "com/example/fixpoint/fixpoint/expr/Expr"), (0, u "hash"), (0, u "I"), (63, .integer 2246822507), (0, .integer 3266489909), (0, u "(I)V"), (12, u "mix"), (0, u "(I)I")] 7

def k12c0 : Code := { maxStack := 2, maxLocals := 2, code := prog_118_method_1_code, exceptionTable := #[], attributes := #[] }
def k12m0 : Method := { name := "<init>", desc := "(I)V", sig := { parameters := [.int], returnType := none }, accessFlags := 0, code := some k12c0 }
def k12c1 : Code := { maxStack := 3, maxLocals := 1, code := prog_118_method_7_code, exceptionTable := #[], attributes := #[] }
def k12m1 : Method := { name := "mix", desc := "(I)I", sig := { parameters := [.int], returnType := some .int }, accessFlags := 8, code := some k12c1 }
/-- com/example/fixpoint/fixpoint/expr/Expr -/
def k12 : Class := { plain "com/example/fixpoint/fixpoint/expr/Expr" (some 0) with
  accessFlags := 1057
  interfaces := #[]
  cf := some (fileOf pool12 8 #[] #[{ accessFlags := 0, nameIndex := 5, descriptorIndex := 78, attributes := #[] }, { accessFlags := 8, nameIndex := 91, descriptorIndex := 92, attributes := #[] }] 1057 2 #[] #[{ accessFlags := 18, nameIndex := 11, descriptorIndex := 12, attributes := #[] }])
  fields := #[{ name := "hash", type := .int, accessFlags := 18, slot := 0, constantValue := 0 }]
  methods := #[k12m0, k12m1]
  instanceTypes := #[.int]
  staticTypes := #[]
  resolved := Array.replicate 100 none
  statics := none }

def pool13 : Array CpInfo := pool [(1, .methodref 2 3), (0, .class_ 4), (0, .nameAndType 5 6), (0, u "java/lang/String"), (0, u "hashCode"), (0, u "()I"), (0, .integer 1640531527), (0, .methodref 9 10), (0, .class_ 11), (0, .nameAndType 12 13), (0, u "com/example/fixpoint/fixpoint/expr/Symbol"), (0, u "mix"), (0, u "(I)I"), (0, .methodref 15 16), (0, .class_ 17), (0, .nameAndType 18 19), (0, u "com/example/fixpoint/fixpoint/expr/Expr"), (0, u "<init>"), (0, u "(I)V"), (0, .fieldref 9 21), (0, .nameAndType 22 23), (0, u "name"), (0, u "Ljava/lang/String;"), (0, .fieldref 9 25), (0, .nameAndType 26 27), (0, u "temporary"), (0, u "Z"), (0, .methodref 9 29), (0, .nameAndType 30 31), (0, u "attachmentOf"), (0, u "(Ljava/lang/Object;)Lcom/example/fixpoint/fixpoint/expr/Symbol$Attachment;"), (0, .fieldref 33 34), (0, .class_ 35), (0, .nameAndType 36 37), (0, u "com/example/fixpoint/fixpoint/expr/Symbol$Attachment"), (0, u "value"), (0, u "Ljava/lang/Object;"), (0, .fieldref 9 39), (0, .nameAndType 40 41), (0, u "attachments"), (0, u "Lcom/example/fixpoint/fixpoint/expr/Symbol$Attachment;"), (0, .methodref 33 43), (0, .nameAndType 18 44), (0, u "(Ljava/lang/Object;Ljava/lang/Object;Lcom/example/fixpoint/fixpoint/expr/Symbol$Attachment;)V"), (0, .fieldref 33 46), (0, .nameAndType 47 37), (0, u "owner"), (0, .fieldref 33 49), (0, .nameAndType 50 41), (0, u "next"), (4, u "(Ljava/lang/String;Z)V"), (5, u "attachment"), (0, u "(Ljava/lang/Object;)Ljava/lang/Object;"), (3, u "attach"), (0, u "(Ljava/lang/Object;Ljava/lang/Object;)V")] 8

def k13c0 : Code := { maxStack := 3, maxLocals := 3, code := prog_142_method_1_code, exceptionTable := #[], attributes := #[] }
def k13m0 : Method := { name := "<init>", desc := "(Ljava/lang/String;Z)V", sig := { parameters := [(.object "java/lang/String"), .boolean], returnType := none }, accessFlags := 0, code := some k13c0 }
def k13c1 : Code := { maxStack := 2, maxLocals := 3, code := prog_142_method_4_code, exceptionTable := #[], attributes := #[] }
def k13m1 : Method := { name := "attachment", desc := "(Ljava/lang/Object;)Ljava/lang/Object;", sig := { parameters := [(.object "java/lang/Object")], returnType := some (.object "java/lang/Object") }, accessFlags := 1, code := some k13c1 }
def k13c2 : Code := { maxStack := 6, maxLocals := 4, code := prog_142_method_5_code, exceptionTable := #[], attributes := #[] }
def k13m2 : Method := { name := "attach", desc := "(Ljava/lang/Object;Ljava/lang/Object;)V", sig := { parameters := [(.object "java/lang/Object"), (.object "java/lang/Object")], returnType := none }, accessFlags := 1, code := some k13c2 }
def k13c3 : Code := { maxStack := 2, maxLocals := 3, code := prog_142_method_6_code, exceptionTable := #[], attributes := #[] }
def k13m3 : Method := { name := "attachmentOf", desc := "(Ljava/lang/Object;)Lcom/example/fixpoint/fixpoint/expr/Symbol$Attachment;", sig := { parameters := [(.object "java/lang/Object")], returnType := some (.object "com/example/fixpoint/fixpoint/expr/Symbol$Attachment") }, accessFlags := 2, code := some k13c3 }
/-- com/example/fixpoint/fixpoint/expr/Symbol -/
def k13 : Class := { plain "com/example/fixpoint/fixpoint/expr/Symbol" (some 12) with
  accessFlags := 49
  interfaces := #[]
  cf := some (fileOf pool13 9 #[.nestMembers #[33]] #[{ accessFlags := 0, nameIndex := 18, descriptorIndex := 55, attributes := #[] }, { accessFlags := 1, nameIndex := 61, descriptorIndex := 62, attributes := #[] }, { accessFlags := 1, nameIndex := 66, descriptorIndex := 67, attributes := #[] }, { accessFlags := 2, nameIndex := 30, descriptorIndex := 31, attributes := #[] }] 49 15 #[] #[{ accessFlags := 18, nameIndex := 22, descriptorIndex := 23, attributes := #[] }, { accessFlags := 18, nameIndex := 26, descriptorIndex := 27, attributes := #[] }, { accessFlags := 2, nameIndex := 40, descriptorIndex := 41, attributes := #[] }])
  fields := #[{ name := "name", type := (.object "java/lang/String"), accessFlags := 18, slot := 1, constantValue := 0 }, { name := "temporary", type := .boolean, accessFlags := 18, slot := 2, constantValue := 0 }, { name := "attachments", type := (.object "com/example/fixpoint/fixpoint/expr/Symbol$Attachment"), accessFlags := 2, slot := 3, constantValue := 0 }]
  methods := #[k13m0, k13m1, k13m2, k13m3]
  instanceTypes := #[.int, (.object "java/lang/String"), .boolean, (.object "com/example/fixpoint/fixpoint/expr/Symbol$Attachment")]
  staticTypes := #[]
  resolved := (((Array.replicate 76 none).set! 45 (some (.field 16 0))).set! 32 (some (.field 16 1))).set! 48 (some (.field 16 2))
  statics := none }

def pool14 : Array CpInfo := pool [(4, .class_ 6), (1, u "java/lang/Object"), (0, u "<init>"), (0, u "()V"), (5, .class_ 16), (1, u "java/lang/StringLatin1"), (28, .class_ 47), (1, u "jdk/internal/util/ArraysSupport"), (9, u "([B)I"), (26, .methodref 45 85), (0, .nameAndType 86 87), (0, u "vectorizedHashCode"), (0, u "(Ljava/lang/Object;IIII)I"), (33, u "$assertionsDisabled"), (0, u "Z"), (98, .class_ 223), (1, u "java/lang/StringLatin1$LinesSpliterator"), (74, u "hashCode"), (91, .class_ 391), (0, u "java/lang/StringLatin1$CharsSpliterator")] 3

def k14m0 : Method := { name := "<init>", desc := "()V", sig := { parameters := [], returnType := none }, accessFlags := 0, code := none }
def k14c1 : Code := { maxStack := 5, maxLocals := 1, code := jdk_43_method_21_code, exceptionTable := #[], attributes := #[] }
def k14m1 : Method := { name := "hashCode", desc := "([B)I", sig := { parameters := [(.array .byte)], returnType := some .int }, accessFlags := 9, code := some k14c1 }
/-- java/lang/StringLatin1 -/
def k14 : Class := { plain "java/lang/StringLatin1" (some 0) with
  accessFlags := 48
  interfaces := #[]
  cf := some (fileOf pool14 14 #[.nestMembers #[390, 221]] #[{ accessFlags := 0, nameIndex := 7, descriptorIndex := 8, attributes := #[] }, { accessFlags := 9, nameIndex := 298, descriptorIndex := 57, attributes := #[] }] 48 4 #[] #[{ accessFlags := 4120, nameIndex := 121, descriptorIndex := 122, attributes := #[] }])
  fields := #[{ name := "$assertionsDisabled", type := .boolean, accessFlags := 4120, slot := 0, constantValue := 0 }]
  methods := #[k14m0, k14m1]
  instanceTypes := #[]
  staticTypes := #[.boolean]
  resolved := Array.replicate 395 none
  statics := none }

def pool15 : Array CpInfo := pool [(9, u "<init>"), (6, .class_ 18), (1, u "java/lang/Object"), (0, u "()V"), (1, .class_ 23), (1, u "jdk/internal/util/ArraysSupport"), (0, u "LOG2_ARRAY_LONG_INDEX_SCALE"), (0, u "I"), (2, u "U"), (0, u "Ljdk/internal/misc/Unsafe;"), (8, u "BIG_ENDIAN"), (0, u "Z"), (8, u "LOG2_BYTE_BIT_SIZE"), (4, u "LOG2_ARRAY_INT_INDEX_SCALE"), (6, .class_ 61), (0, u "[B"), (0, .methodref 21 63), (0, .nameAndType 64 65), (0, u "signedHashCode"), (0, u "(I[BII)I"), (42, u "JLA"), (0, u "Ljdk/internal/access/JavaLangAccess;"), (11, u "LOG2_ARRAY_BOOLEAN_INDEX_SCALE"), (9, u "LOG2_ARRAY_BYTE_INDEX_SCALE"), (5, u "LOG2_ARRAY_CHAR_INDEX_SCALE"), (5, u "LOG2_ARRAY_SHORT_INDEX_SCALE"), (18, u "LOG2_ARRAY_FLOAT_INDEX_SCALE"), (24, u "LOG2_ARRAY_DOUBLE_INDEX_SCALE"), (89, u "T_BOOLEAN"), (2, u "T_CHAR"), (1, u "T_FLOAT"), (1, u "T_DOUBLE"), (1, u "T_BYTE"), (1, u "T_SHORT"), (1, u "T_INT"), (1, u "T_LONG"), (1, u "SOFT_MAX_ARRAY_LENGTH"), (26, u "vectorizedHashCode"), (0, u "(Ljava/lang/Object;IIII)I")] 55

def k15m0 : Method := { name := "<init>", desc := "()V", sig := { parameters := [], returnType := none }, accessFlags := 2, code := none }
def k15c1 : Code := { maxStack := 4, maxLocals := 5, code := jdk_48_method_4_code, exceptionTable := #[], attributes := #[] }
def k15m1 : Method := { name := "vectorizedHashCode", desc := "(Ljava/lang/Object;IIII)I", sig := { parameters := [(.object "java/lang/Object"), .int, .int, .int, .int], returnType := some .int }, accessFlags := 9, code := some k15c1 }
def k15c2 : Code := { maxStack := 3, maxLocals := 6, code := jdk_48_method_5_code, exceptionTable := #[], attributes := #[] }
def k15m2 : Method := { name := "signedHashCode", desc := "(I[BII)I", sig := { parameters := [.int, (.array .byte), .int, .int], returnType := some .int }, accessFlags := 10, code := some k15c2 }
/-- jdk/internal/util/ArraysSupport -/
def k15 : Class := { plain "jdk/internal/util/ArraysSupport" (some 0) with
  accessFlags := 33
  interfaces := #[]
  cf := some (fileOf pool15 21 #[] #[{ accessFlags := 2, nameIndex := 9, descriptorIndex := 19, attributes := #[] }, { accessFlags := 9, nameIndex := 321, descriptorIndex := 322, attributes := #[] }, { accessFlags := 10, nameIndex := 64, descriptorIndex := 65, attributes := #[] }] 33 16 #[] #[{ accessFlags := 24, nameIndex := 28, descriptorIndex := 29, attributes := #[] }, { accessFlags := 26, nameIndex := 38, descriptorIndex := 39, attributes := #[] }, { accessFlags := 25, nameIndex := 121, descriptorIndex := 25, attributes := #[] }, { accessFlags := 25, nameIndex := 131, descriptorIndex := 25, attributes := #[] }, { accessFlags := 25, nameIndex := 137, descriptorIndex := 25, attributes := #[] }, { accessFlags := 25, nameIndex := 143, descriptorIndex := 25, attributes := #[] }, { accessFlags := 25, nameIndex := 53, descriptorIndex := 25, attributes := #[] }, { accessFlags := 25, nameIndex := 24, descriptorIndex := 25, attributes := #[] }, { accessFlags := 25, nameIndex := 162, descriptorIndex := 25, attributes := #[] }, { accessFlags := 25, nameIndex := 187, descriptorIndex := 25, attributes := #[] }, { accessFlags := 26, nameIndex := 48, descriptorIndex := 25, attributes := #[] }, { accessFlags := 25, nameIndex := 277, descriptorIndex := 25, attributes := #[] }, { accessFlags := 25, nameIndex := 280, descriptorIndex := 25, attributes := #[] }, { accessFlags := 25, nameIndex := 282, descriptorIndex := 25, attributes := #[] }, { accessFlags := 25, nameIndex := 284, descriptorIndex := 25, attributes := #[] }, { accessFlags := 25, nameIndex := 286, descriptorIndex := 25, attributes := #[] }, { accessFlags := 25, nameIndex := 288, descriptorIndex := 25, attributes := #[] }, { accessFlags := 25, nameIndex := 290, descriptorIndex := 25, attributes := #[] }, { accessFlags := 25, nameIndex := 292, descriptorIndex := 25, attributes := #[] }, { accessFlags := 26, nameIndex := 108, descriptorIndex := 109, attributes := #[] }, { accessFlags := 25, nameIndex := 294, descriptorIndex := 25, attributes := #[] }])
  fields := #[{ name := "U", type := (.object "jdk/internal/misc/Unsafe"), accessFlags := 24, slot := 0, constantValue := 0 }, { name := "BIG_ENDIAN", type := .boolean, accessFlags := 26, slot := 1, constantValue := 0 }, { name := "LOG2_ARRAY_BOOLEAN_INDEX_SCALE", type := .int, accessFlags := 25, slot := 2, constantValue := 0 }, { name := "LOG2_ARRAY_BYTE_INDEX_SCALE", type := .int, accessFlags := 25, slot := 3, constantValue := 0 }, { name := "LOG2_ARRAY_CHAR_INDEX_SCALE", type := .int, accessFlags := 25, slot := 4, constantValue := 0 }, { name := "LOG2_ARRAY_SHORT_INDEX_SCALE", type := .int, accessFlags := 25, slot := 5, constantValue := 0 }, { name := "LOG2_ARRAY_INT_INDEX_SCALE", type := .int, accessFlags := 25, slot := 6, constantValue := 0 }, { name := "LOG2_ARRAY_LONG_INDEX_SCALE", type := .int, accessFlags := 25, slot := 7, constantValue := 0 }, { name := "LOG2_ARRAY_FLOAT_INDEX_SCALE", type := .int, accessFlags := 25, slot := 8, constantValue := 0 }, { name := "LOG2_ARRAY_DOUBLE_INDEX_SCALE", type := .int, accessFlags := 25, slot := 9, constantValue := 0 }, { name := "LOG2_BYTE_BIT_SIZE", type := .int, accessFlags := 26, slot := 10, constantValue := 0 }, { name := "T_BOOLEAN", type := .int, accessFlags := 25, slot := 11, constantValue := 0 }, { name := "T_CHAR", type := .int, accessFlags := 25, slot := 12, constantValue := 0 }, { name := "T_FLOAT", type := .int, accessFlags := 25, slot := 13, constantValue := 0 }, { name := "T_DOUBLE", type := .int, accessFlags := 25, slot := 14, constantValue := 0 }, { name := "T_BYTE", type := .int, accessFlags := 25, slot := 15, constantValue := 0 }, { name := "T_SHORT", type := .int, accessFlags := 25, slot := 16, constantValue := 0 }, { name := "T_INT", type := .int, accessFlags := 25, slot := 17, constantValue := 0 }, { name := "T_LONG", type := .int, accessFlags := 25, slot := 18, constantValue := 0 }, { name := "JLA", type := (.object "jdk/internal/access/JavaLangAccess"), accessFlags := 26, slot := 19, constantValue := 0 }, { name := "SOFT_MAX_ARRAY_LENGTH", type := .int, accessFlags := 25, slot := 20, constantValue := 0 }]
  methods := #[k15m0, k15m1, k15m2]
  instanceTypes := #[]
  staticTypes := #[(.object "jdk/internal/misc/Unsafe"), .boolean, .int, .int, .int, .int, .int, .int, .int, .int, .int, .int, .int, .int, .int, .int, .int, .int, .int, (.object "jdk/internal/access/JavaLangAccess"), .int]
  resolved := Array.replicate 378 none
  statics := none }

def pool16 : Array CpInfo := pool [(1, .methodref 2 3), (0, .class_ 4), (0, .nameAndType 5 6), (0, u "java/lang/Object"), (0, u "<init>"), (0, u "()V"), (0, .fieldref 8 9), (0, .class_ 10), (0, .nameAndType 11 12), (0, u "com/example/fixpoint/fixpoint/expr/Symbol$Attachment"), (0, u "owner"), (0, u "Ljava/lang/Object;"), (0, .fieldref 8 14), (0, .nameAndType 15 12), (0, u "value"), (0, .fieldref 8 17), (0, .nameAndType 18 19), (0, u "next"), (0, u "Lcom/example/fixpoint/fixpoint/expr/Symbol$Attachment;"), (0, u "(Ljava/lang/Object;Ljava/lang/Object;Lcom/example/fixpoint/fixpoint/expr/Symbol$Attachment;)V"), (5, .class_ 27), (0, u "com/example/fixpoint/fixpoint/expr/Symbol")] 2

def k16c0 : Code := { maxStack := 2, maxLocals := 4, code := prog_143_method_1_code, exceptionTable := #[], attributes := #[] }
def k16m0 : Method := { name := "<init>", desc := "(Ljava/lang/Object;Ljava/lang/Object;Lcom/example/fixpoint/fixpoint/expr/Symbol$Attachment;)V", sig := { parameters := [(.object "java/lang/Object"), (.object "java/lang/Object"), (.object "com/example/fixpoint/fixpoint/expr/Symbol$Attachment")], returnType := none }, accessFlags := 0, code := some k16c0 }
/-- com/example/fixpoint/fixpoint/expr/Symbol$Attachment -/
def k16 : Class := { plain "com/example/fixpoint/fixpoint/expr/Symbol$Attachment" (some 0) with
  accessFlags := 48
  interfaces := #[]
  cf := some (fileOf pool16 8 #[.nestHost 26] #[{ accessFlags := 0, nameIndex := 5, descriptorIndex := 20, attributes := #[] }] 48 2 #[] #[{ accessFlags := 18, nameIndex := 11, descriptorIndex := 12, attributes := #[] }, { accessFlags := 2, nameIndex := 15, descriptorIndex := 12, attributes := #[] }, { accessFlags := 18, nameIndex := 18, descriptorIndex := 19, attributes := #[] }])
  fields := #[{ name := "owner", type := (.object "java/lang/Object"), accessFlags := 18, slot := 0, constantValue := 0 }, { name := "value", type := (.object "java/lang/Object"), accessFlags := 2, slot := 1, constantValue := 0 }, { name := "next", type := (.object "com/example/fixpoint/fixpoint/expr/Symbol$Attachment"), accessFlags := 18, slot := 2, constantValue := 0 }]
  methods := #[k16m0]
  instanceTypes := #[(.object "java/lang/Object"), (.object "java/lang/Object"), (.object "com/example/fixpoint/fixpoint/expr/Symbol$Attachment")]
  staticTypes := #[]
  resolved := Array.replicate 30 none
  statics := none }

def pool17 : Array CpInfo := pool [(2, .class_ 4), (1, u "java/lang/Object"), (0, u "<init>"), (0, u "()V"), (17, .class_ 26), (1, u "jdk/internal/util/Preconditions"), (28, .class_ 56), (0, u "jdk/internal/util/Preconditions$4"), (57, .class_ 115), (0, u "jdk/internal/util/Preconditions$1"), (7, u "SIOOBE_FORMATTER"), (0, u "Ljava/util/function/BiFunction;"), (0, .class_ 126), (0, u "jdk/internal/util/Preconditions$2"), (3, u "AIOOBE_FORMATTER"), (0, .class_ 132), (0, u "jdk/internal/util/Preconditions$3"), (3, u "IOOBE_FORMATTER")] 57

def k17m0 : Method := { name := "<init>", desc := "()V", sig := { parameters := [], returnType := none }, accessFlags := 1, code := none }
/-- jdk/internal/util/Preconditions -/
def k17 : Class := { plain "jdk/internal/util/Preconditions" (some 0) with
  accessFlags := 33
  interfaces := #[]
  cf := some (fileOf pool17 24 #[.nestMembers #[55, 131, 125, 114]] #[{ accessFlags := 1, nameIndex := 5, descriptorIndex := 6, attributes := #[] }] 33 2 #[] #[{ accessFlags := 25, nameIndex := 123, descriptorIndex := 124, attributes := #[] }, { accessFlags := 25, nameIndex := 130, descriptorIndex := 124, attributes := #[] }, { accessFlags := 25, nameIndex := 136, descriptorIndex := 124, attributes := #[] }])
  fields := #[{ name := "SIOOBE_FORMATTER", type := (.object "java/util/function/BiFunction"), accessFlags := 25, slot := 0, constantValue := 0 }, { name := "AIOOBE_FORMATTER", type := (.object "java/util/function/BiFunction"), accessFlags := 25, slot := 1, constantValue := 0 }, { name := "IOOBE_FORMATTER", type := (.object "java/util/function/BiFunction"), accessFlags := 25, slot := 2, constantValue := 0 }]
  methods := #[k17m0]
  instanceTypes := #[]
  staticTypes := #[(.object "java/util/function/BiFunction"), (.object "java/util/function/BiFunction"), (.object "java/util/function/BiFunction")]
  resolved := Array.replicate 194 none
  statics := some 2 }

def pool18 : Array CpInfo := pool [(1, u "java/lang/Cloneable"), (0, .class_ 1), (0, u "java/lang/Object"), (0, .class_ 3)] 3

/-- java/lang/Cloneable -/
def k18 : Class := { plain "java/lang/Cloneable" (some 0) with
  accessFlags := 1537
  interfaces := #[]
  cf := some (fileOf pool18 2 #[] #[] 1537 4 #[] #[])
  fields := #[]
  methods := #[]
  instanceTypes := #[]
  staticTypes := #[]
  resolved := Array.replicate 8 none
  statics := none }

/-- the primitive byte -/
def k19 : Class := { plain "byte" none with kind := .primitive 'B', accessFlags := 0x411 }
/-- [B -/
def k20 : Class := { plain "[B" (some 0) with kind := .array 19 .byte, interfaces := #[18, 2], accessFlags := 1041 }

/-- the primitive char -/
def k21 : Class := { plain "char" none with kind := .primitive 'C', accessFlags := 0x411 }
/-- [C -/
def k22 : Class := { plain "[C" (some 0) with kind := .array 21 .char, interfaces := #[18, 2], accessFlags := 1041 }

/-- the primitive int -/
def k23 : Class := { plain "int" none with kind := .primitive 'I', accessFlags := 0x411 }
/-- [I -/
def k24 : Class := { plain "[I" (some 0) with kind := .array 23 .int, interfaces := #[18, 2], accessFlags := 1041 }

/-- [Ljava/lang/Integer; -/
def k25 : Class := { plain "[Ljava/lang/Integer;" (some 0) with kind := .array 10 (.object "java/lang/Integer"), interfaces := #[18, 2], accessFlags := 1041 }

/-- [Ljava/lang/Object; -/
def k26 : Class := { plain "[Ljava/lang/Object;" (some 0) with kind := .array 0 (.object "java/lang/Object"), interfaces := #[18, 2], accessFlags := 1041 }

def heap : Heap := #[{ cls := 7, slots := #[.long 0, .int 1, .null, .int 0, .null, .int 0, .int 0], vm := .statics 7 },
  { cls := 11, slots := #[.int 0, .int 127, .ref 3, .null, .int 0], vm := .statics 11 },
  { cls := 17, slots := #[.null, .null, .null], vm := .statics 17 },
  { cls := 25, slots := #[.ref 4, .ref 5, .ref 6, .ref 7, .ref 8, .ref 9, .ref 10, .ref 11, .ref 12, .ref 13, .ref 14, .ref 15, .ref 16, .ref 17, .ref 18, .ref 19, .ref 20, .ref 21, .ref 22, .ref 23, .ref 24, .ref 25, .ref 26, .ref 27, .ref 28, .ref 29, .ref 30, .ref 31, .ref 32, .ref 33, .ref 34, .ref 35, .ref 36, .ref 37, .ref 38, .ref 39, .ref 40, .ref 41, .ref 42, .ref 43, .ref 44, .ref 45, .ref 46, .ref 47, .ref 48, .ref 49, .ref 50, .ref 51, .ref 52, .ref 53, .ref 54, .ref 55, .ref 56, .ref 57, .ref 58, .ref 59, .ref 60, .ref 61, .ref 62, .ref 63, .ref 64, .ref 65, .ref 66, .ref 67, .ref 68, .ref 69, .ref 70, .ref 71, .ref 72, .ref 73, .ref 74, .ref 75, .ref 76, .ref 77, .ref 78, .ref 79, .ref 80, .ref 81, .ref 82, .ref 83, .ref 84, .ref 85, .ref 86, .ref 87, .ref 88, .ref 89, .ref 90, .ref 91, .ref 92, .ref 93, .ref 94, .ref 95, .ref 96, .ref 97, .ref 98, .ref 99, .ref 100, .ref 101, .ref 102, .ref 103, .ref 104, .ref 105, .ref 106, .ref 107, .ref 108, .ref 109, .ref 110, .ref 111, .ref 112, .ref 113, .ref 114, .ref 115, .ref 116, .ref 117, .ref 118, .ref 119, .ref 120, .ref 121, .ref 122, .ref 123, .ref 124, .ref 125, .ref 126, .ref 127, .ref 128, .ref 129, .ref 130, .ref 131, .ref 132, .ref 133, .ref 134, .ref 135, .ref 136, .ref 137, .ref 138, .ref 139, .ref 140, .ref 141, .ref 142, .ref 143, .ref 144, .ref 145, .ref 146, .ref 147, .ref 148, .ref 149, .ref 150, .ref 151, .ref 152, .ref 153, .ref 154, .ref 155, .ref 156, .ref 157, .ref 158, .ref 159, .ref 160, .ref 161, .ref 162, .ref 163, .ref 164, .ref 165, .ref 166, .ref 167, .ref 168, .ref 169, .ref 170, .ref 171, .ref 172, .ref 173, .ref 174, .ref 175, .ref 176, .ref 177, .ref 178, .ref 179, .ref 180, .ref 181, .ref 182, .ref 183, .ref 184, .ref 185, .ref 186, .ref 187, .ref 188, .ref 189, .ref 190, .ref 191, .ref 192, .ref 193, .ref 194, .ref 195, .ref 196, .ref 197, .ref 198, .ref 199, .ref 200, .ref 201, .ref 202, .ref 203, .ref 204, .ref 205, .ref 206, .ref 207, .ref 208, .ref 209, .ref 210, .ref 211, .ref 212, .ref 213, .ref 214, .ref 215, .ref 216, .ref 217, .ref 218, .ref 219, .ref 220, .ref 221, .ref 222, .ref 223, .ref 224, .ref 225, .ref 226, .ref 227, .ref 228, .ref 229, .ref 230, .ref 231, .ref 232, .ref 233, .ref 234, .ref 235, .ref 236, .ref 237, .ref 238, .ref 239, .ref 240, .ref 241, .ref 242, .ref 243, .ref 244, .ref 245, .ref 246, .ref 247, .ref 248, .ref 249, .ref 250, .ref 251, .ref 252, .ref 253, .ref 254, .ref 255, .ref 256, .ref 257, .ref 258, .ref 259], vm := .none },
  { cls := 10, slots := #[.int (-128)], vm := .none },
  { cls := 10, slots := #[.int (-127)], vm := .none },
  { cls := 10, slots := #[.int (-126)], vm := .none },
  { cls := 10, slots := #[.int (-125)], vm := .none },
  { cls := 10, slots := #[.int (-124)], vm := .none },
  { cls := 10, slots := #[.int (-123)], vm := .none },
  { cls := 10, slots := #[.int (-122)], vm := .none },
  { cls := 10, slots := #[.int (-121)], vm := .none },
  { cls := 10, slots := #[.int (-120)], vm := .none },
  { cls := 10, slots := #[.int (-119)], vm := .none },
  { cls := 10, slots := #[.int (-118)], vm := .none },
  { cls := 10, slots := #[.int (-117)], vm := .none },
  { cls := 10, slots := #[.int (-116)], vm := .none },
  { cls := 10, slots := #[.int (-115)], vm := .none },
  { cls := 10, slots := #[.int (-114)], vm := .none },
  { cls := 10, slots := #[.int (-113)], vm := .none },
  { cls := 10, slots := #[.int (-112)], vm := .none },
  { cls := 10, slots := #[.int (-111)], vm := .none },
  { cls := 10, slots := #[.int (-110)], vm := .none },
  { cls := 10, slots := #[.int (-109)], vm := .none },
  { cls := 10, slots := #[.int (-108)], vm := .none },
  { cls := 10, slots := #[.int (-107)], vm := .none },
  { cls := 10, slots := #[.int (-106)], vm := .none },
  { cls := 10, slots := #[.int (-105)], vm := .none },
  { cls := 10, slots := #[.int (-104)], vm := .none },
  { cls := 10, slots := #[.int (-103)], vm := .none },
  { cls := 10, slots := #[.int (-102)], vm := .none },
  { cls := 10, slots := #[.int (-101)], vm := .none },
  { cls := 10, slots := #[.int (-100)], vm := .none },
  { cls := 10, slots := #[.int (-99)], vm := .none },
  { cls := 10, slots := #[.int (-98)], vm := .none },
  { cls := 10, slots := #[.int (-97)], vm := .none },
  { cls := 10, slots := #[.int (-96)], vm := .none },
  { cls := 10, slots := #[.int (-95)], vm := .none },
  { cls := 10, slots := #[.int (-94)], vm := .none },
  { cls := 10, slots := #[.int (-93)], vm := .none },
  { cls := 10, slots := #[.int (-92)], vm := .none },
  { cls := 10, slots := #[.int (-91)], vm := .none },
  { cls := 10, slots := #[.int (-90)], vm := .none },
  { cls := 10, slots := #[.int (-89)], vm := .none },
  { cls := 10, slots := #[.int (-88)], vm := .none },
  { cls := 10, slots := #[.int (-87)], vm := .none },
  { cls := 10, slots := #[.int (-86)], vm := .none },
  { cls := 10, slots := #[.int (-85)], vm := .none },
  { cls := 10, slots := #[.int (-84)], vm := .none },
  { cls := 10, slots := #[.int (-83)], vm := .none },
  { cls := 10, slots := #[.int (-82)], vm := .none },
  { cls := 10, slots := #[.int (-81)], vm := .none },
  { cls := 10, slots := #[.int (-80)], vm := .none },
  { cls := 10, slots := #[.int (-79)], vm := .none },
  { cls := 10, slots := #[.int (-78)], vm := .none },
  { cls := 10, slots := #[.int (-77)], vm := .none },
  { cls := 10, slots := #[.int (-76)], vm := .none },
  { cls := 10, slots := #[.int (-75)], vm := .none },
  { cls := 10, slots := #[.int (-74)], vm := .none },
  { cls := 10, slots := #[.int (-73)], vm := .none },
  { cls := 10, slots := #[.int (-72)], vm := .none },
  { cls := 10, slots := #[.int (-71)], vm := .none },
  { cls := 10, slots := #[.int (-70)], vm := .none },
  { cls := 10, slots := #[.int (-69)], vm := .none },
  { cls := 10, slots := #[.int (-68)], vm := .none },
  { cls := 10, slots := #[.int (-67)], vm := .none },
  { cls := 10, slots := #[.int (-66)], vm := .none },
  { cls := 10, slots := #[.int (-65)], vm := .none },
  { cls := 10, slots := #[.int (-64)], vm := .none },
  { cls := 10, slots := #[.int (-63)], vm := .none },
  { cls := 10, slots := #[.int (-62)], vm := .none },
  { cls := 10, slots := #[.int (-61)], vm := .none },
  { cls := 10, slots := #[.int (-60)], vm := .none },
  { cls := 10, slots := #[.int (-59)], vm := .none },
  { cls := 10, slots := #[.int (-58)], vm := .none },
  { cls := 10, slots := #[.int (-57)], vm := .none },
  { cls := 10, slots := #[.int (-56)], vm := .none },
  { cls := 10, slots := #[.int (-55)], vm := .none },
  { cls := 10, slots := #[.int (-54)], vm := .none },
  { cls := 10, slots := #[.int (-53)], vm := .none },
  { cls := 10, slots := #[.int (-52)], vm := .none },
  { cls := 10, slots := #[.int (-51)], vm := .none },
  { cls := 10, slots := #[.int (-50)], vm := .none },
  { cls := 10, slots := #[.int (-49)], vm := .none },
  { cls := 10, slots := #[.int (-48)], vm := .none },
  { cls := 10, slots := #[.int (-47)], vm := .none },
  { cls := 10, slots := #[.int (-46)], vm := .none },
  { cls := 10, slots := #[.int (-45)], vm := .none },
  { cls := 10, slots := #[.int (-44)], vm := .none },
  { cls := 10, slots := #[.int (-43)], vm := .none },
  { cls := 10, slots := #[.int (-42)], vm := .none },
  { cls := 10, slots := #[.int (-41)], vm := .none },
  { cls := 10, slots := #[.int (-40)], vm := .none },
  { cls := 10, slots := #[.int (-39)], vm := .none },
  { cls := 10, slots := #[.int (-38)], vm := .none },
  { cls := 10, slots := #[.int (-37)], vm := .none },
  { cls := 10, slots := #[.int (-36)], vm := .none },
  { cls := 10, slots := #[.int (-35)], vm := .none },
  { cls := 10, slots := #[.int (-34)], vm := .none },
  { cls := 10, slots := #[.int (-33)], vm := .none },
  { cls := 10, slots := #[.int (-32)], vm := .none },
  { cls := 10, slots := #[.int (-31)], vm := .none },
  { cls := 10, slots := #[.int (-30)], vm := .none },
  { cls := 10, slots := #[.int (-29)], vm := .none },
  { cls := 10, slots := #[.int (-28)], vm := .none },
  { cls := 10, slots := #[.int (-27)], vm := .none },
  { cls := 10, slots := #[.int (-26)], vm := .none },
  { cls := 10, slots := #[.int (-25)], vm := .none },
  { cls := 10, slots := #[.int (-24)], vm := .none },
  { cls := 10, slots := #[.int (-23)], vm := .none },
  { cls := 10, slots := #[.int (-22)], vm := .none },
  { cls := 10, slots := #[.int (-21)], vm := .none },
  { cls := 10, slots := #[.int (-20)], vm := .none },
  { cls := 10, slots := #[.int (-19)], vm := .none },
  { cls := 10, slots := #[.int (-18)], vm := .none },
  { cls := 10, slots := #[.int (-17)], vm := .none },
  { cls := 10, slots := #[.int (-16)], vm := .none },
  { cls := 10, slots := #[.int (-15)], vm := .none },
  { cls := 10, slots := #[.int (-14)], vm := .none },
  { cls := 10, slots := #[.int (-13)], vm := .none },
  { cls := 10, slots := #[.int (-12)], vm := .none },
  { cls := 10, slots := #[.int (-11)], vm := .none },
  { cls := 10, slots := #[.int (-10)], vm := .none },
  { cls := 10, slots := #[.int (-9)], vm := .none },
  { cls := 10, slots := #[.int (-8)], vm := .none },
  { cls := 10, slots := #[.int (-7)], vm := .none },
  { cls := 10, slots := #[.int (-6)], vm := .none },
  { cls := 10, slots := #[.int (-5)], vm := .none },
  { cls := 10, slots := #[.int (-4)], vm := .none },
  { cls := 10, slots := #[.int (-3)], vm := .none },
  { cls := 10, slots := #[.int (-2)], vm := .none },
  { cls := 10, slots := #[.int (-1)], vm := .none },
  { cls := 10, slots := #[.int (0)], vm := .none },
  { cls := 10, slots := #[.int (1)], vm := .none },
  { cls := 10, slots := #[.int (2)], vm := .none },
  { cls := 10, slots := #[.int (3)], vm := .none },
  { cls := 10, slots := #[.int (4)], vm := .none },
  { cls := 10, slots := #[.int (5)], vm := .none },
  { cls := 10, slots := #[.int (6)], vm := .none },
  { cls := 10, slots := #[.int (7)], vm := .none },
  { cls := 10, slots := #[.int (8)], vm := .none },
  { cls := 10, slots := #[.int (9)], vm := .none },
  { cls := 10, slots := #[.int (10)], vm := .none },
  { cls := 10, slots := #[.int (11)], vm := .none },
  { cls := 10, slots := #[.int (12)], vm := .none },
  { cls := 10, slots := #[.int (13)], vm := .none },
  { cls := 10, slots := #[.int (14)], vm := .none },
  { cls := 10, slots := #[.int (15)], vm := .none },
  { cls := 10, slots := #[.int (16)], vm := .none },
  { cls := 10, slots := #[.int (17)], vm := .none },
  { cls := 10, slots := #[.int (18)], vm := .none },
  { cls := 10, slots := #[.int (19)], vm := .none },
  { cls := 10, slots := #[.int (20)], vm := .none },
  { cls := 10, slots := #[.int (21)], vm := .none },
  { cls := 10, slots := #[.int (22)], vm := .none },
  { cls := 10, slots := #[.int (23)], vm := .none },
  { cls := 10, slots := #[.int (24)], vm := .none },
  { cls := 10, slots := #[.int (25)], vm := .none },
  { cls := 10, slots := #[.int (26)], vm := .none },
  { cls := 10, slots := #[.int (27)], vm := .none },
  { cls := 10, slots := #[.int (28)], vm := .none },
  { cls := 10, slots := #[.int (29)], vm := .none },
  { cls := 10, slots := #[.int (30)], vm := .none },
  { cls := 10, slots := #[.int (31)], vm := .none },
  { cls := 10, slots := #[.int (32)], vm := .none },
  { cls := 10, slots := #[.int (33)], vm := .none },
  { cls := 10, slots := #[.int (34)], vm := .none },
  { cls := 10, slots := #[.int (35)], vm := .none },
  { cls := 10, slots := #[.int (36)], vm := .none },
  { cls := 10, slots := #[.int (37)], vm := .none },
  { cls := 10, slots := #[.int (38)], vm := .none },
  { cls := 10, slots := #[.int (39)], vm := .none },
  { cls := 10, slots := #[.int (40)], vm := .none },
  { cls := 10, slots := #[.int (41)], vm := .none },
  { cls := 10, slots := #[.int (42)], vm := .none },
  { cls := 10, slots := #[.int (43)], vm := .none },
  { cls := 10, slots := #[.int (44)], vm := .none },
  { cls := 10, slots := #[.int (45)], vm := .none },
  { cls := 10, slots := #[.int (46)], vm := .none },
  { cls := 10, slots := #[.int (47)], vm := .none },
  { cls := 10, slots := #[.int (48)], vm := .none },
  { cls := 10, slots := #[.int (49)], vm := .none },
  { cls := 10, slots := #[.int (50)], vm := .none },
  { cls := 10, slots := #[.int (51)], vm := .none },
  { cls := 10, slots := #[.int (52)], vm := .none },
  { cls := 10, slots := #[.int (53)], vm := .none },
  { cls := 10, slots := #[.int (54)], vm := .none },
  { cls := 10, slots := #[.int (55)], vm := .none },
  { cls := 10, slots := #[.int (56)], vm := .none },
  { cls := 10, slots := #[.int (57)], vm := .none },
  { cls := 10, slots := #[.int (58)], vm := .none },
  { cls := 10, slots := #[.int (59)], vm := .none },
  { cls := 10, slots := #[.int (60)], vm := .none },
  { cls := 10, slots := #[.int (61)], vm := .none },
  { cls := 10, slots := #[.int (62)], vm := .none },
  { cls := 10, slots := #[.int (63)], vm := .none },
  { cls := 10, slots := #[.int (64)], vm := .none },
  { cls := 10, slots := #[.int (65)], vm := .none },
  { cls := 10, slots := #[.int (66)], vm := .none },
  { cls := 10, slots := #[.int (67)], vm := .none },
  { cls := 10, slots := #[.int (68)], vm := .none },
  { cls := 10, slots := #[.int (69)], vm := .none },
  { cls := 10, slots := #[.int (70)], vm := .none },
  { cls := 10, slots := #[.int (71)], vm := .none },
  { cls := 10, slots := #[.int (72)], vm := .none },
  { cls := 10, slots := #[.int (73)], vm := .none },
  { cls := 10, slots := #[.int (74)], vm := .none },
  { cls := 10, slots := #[.int (75)], vm := .none },
  { cls := 10, slots := #[.int (76)], vm := .none },
  { cls := 10, slots := #[.int (77)], vm := .none },
  { cls := 10, slots := #[.int (78)], vm := .none },
  { cls := 10, slots := #[.int (79)], vm := .none },
  { cls := 10, slots := #[.int (80)], vm := .none },
  { cls := 10, slots := #[.int (81)], vm := .none },
  { cls := 10, slots := #[.int (82)], vm := .none },
  { cls := 10, slots := #[.int (83)], vm := .none },
  { cls := 10, slots := #[.int (84)], vm := .none },
  { cls := 10, slots := #[.int (85)], vm := .none },
  { cls := 10, slots := #[.int (86)], vm := .none },
  { cls := 10, slots := #[.int (87)], vm := .none },
  { cls := 10, slots := #[.int (88)], vm := .none },
  { cls := 10, slots := #[.int (89)], vm := .none },
  { cls := 10, slots := #[.int (90)], vm := .none },
  { cls := 10, slots := #[.int (91)], vm := .none },
  { cls := 10, slots := #[.int (92)], vm := .none },
  { cls := 10, slots := #[.int (93)], vm := .none },
  { cls := 10, slots := #[.int (94)], vm := .none },
  { cls := 10, slots := #[.int (95)], vm := .none },
  { cls := 10, slots := #[.int (96)], vm := .none },
  { cls := 10, slots := #[.int (97)], vm := .none },
  { cls := 10, slots := #[.int (98)], vm := .none },
  { cls := 10, slots := #[.int (99)], vm := .none },
  { cls := 10, slots := #[.int (100)], vm := .none },
  { cls := 10, slots := #[.int (101)], vm := .none },
  { cls := 10, slots := #[.int (102)], vm := .none },
  { cls := 10, slots := #[.int (103)], vm := .none },
  { cls := 10, slots := #[.int (104)], vm := .none },
  { cls := 10, slots := #[.int (105)], vm := .none },
  { cls := 10, slots := #[.int (106)], vm := .none },
  { cls := 10, slots := #[.int (107)], vm := .none },
  { cls := 10, slots := #[.int (108)], vm := .none },
  { cls := 10, slots := #[.int (109)], vm := .none },
  { cls := 10, slots := #[.int (110)], vm := .none },
  { cls := 10, slots := #[.int (111)], vm := .none },
  { cls := 10, slots := #[.int (112)], vm := .none },
  { cls := 10, slots := #[.int (113)], vm := .none },
  { cls := 10, slots := #[.int (114)], vm := .none },
  { cls := 10, slots := #[.int (115)], vm := .none },
  { cls := 10, slots := #[.int (116)], vm := .none },
  { cls := 10, slots := #[.int (117)], vm := .none },
  { cls := 10, slots := #[.int (118)], vm := .none },
  { cls := 10, slots := #[.int (119)], vm := .none },
  { cls := 10, slots := #[.int (120)], vm := .none },
  { cls := 10, slots := #[.int (121)], vm := .none },
  { cls := 10, slots := #[.int (122)], vm := .none },
  { cls := 10, slots := #[.int (123)], vm := .none },
  { cls := 10, slots := #[.int (124)], vm := .none },
  { cls := 10, slots := #[.int (125)], vm := .none },
  { cls := 10, slots := #[.int (126)], vm := .none },
  { cls := 10, slots := #[.int (127)], vm := .none }]
def classes : Array Class := #[k0, k1, k2, k3, k4, k5, k6, k7, k8, k9, k10, k11, k12, k13, k14, k15, k16, k17, k18, k19, k20, k21, k22, k23, k24, k25, k26]
def interned : List (Array UInt16 × Addr) := []
def slotsUsed : Nat := 527
def theMethod : MethodId := ⟨1, 1⟩
def args0 : Array Value := #[.int 1, .int 2, .int 3, .int 4, .int 5, .int 6]
def aboutOver (below : List Frame) : State where
  vm := { classes := classes, interned := interned.toArray }
  heap := heap
  slotsUsed := slotsUsed
  threads := #[{ frames := .invoking theMethod args0 :: below }]
def below0 : List Frame := [.native { method := ⟨0, 0⟩, args := #[] }]
def about1 : State := aboutOver below0
def p0 : Program := .bare "" "" ""
def e0 : Env := launch0.env 0 0 0
theorem w_frames : about1.frames = Frame.invoking theMethod args0 :: below0 := rfl
set_option maxRecDepth 65536 in
theorem w_args : argsFit about1.vm theMethod args0 = true := by decide +kernel
set_option maxRecDepth 65536 in
theorem w_heap : heapFits about1 = true := by decide +kernel
set_option maxRecDepth 65536 in
theorem w_runnable : about1.curStatus? = some .runnable := by decide +kernel
set_option maxRecDepth 65536 in
theorem w_alone : about1.alone = true := by decide +kernel
set_option maxRecDepth 65536 in
theorem w_named : about1.methodNamed? x = some theMethod := by decide +kernel
set_option maxRecDepth 65536 in
theorem w_hears : about1.hears theMethod below0 = true := by decide +kernel
set_option maxRecDepth 65536 in
theorem w_ripe : about1.ripe theMethod args0 below0 = true := by decide +kernel
theorem w_running : about1.status = .running := rfl
set_option maxRecDepth 65536 in
theorem w_room : about1.hasRoom e0.platform room_1 = true :=
  launch0.hasRoom_least _ room_1 (by decide +kernel) (by decide +kernel) (by decide +kernel) (by decide +kernel) (by decide +kernel) (by decide +kernel)
theorem allAtoms_all (ts : List Jvm.Cond) (a : Array Jvm.Value) (st : Jvm.State) : (allAtoms ts).before a st = ts.all (fun c => c.before a st) := by
  induction ts with
  | nil => rfl
  | cons c t ih =>
    show (Jvm.Cond.and c (allAtoms t)).before a st = _
    rw [Jvm.Cond.before_and, ih, List.all_cons]
def words1 : List Jvm.Cond := Jvm.Cond.code x code maxLocals ret :: tables_1
/-- a 'code' word, met by the world's own term for the bytes: nothing is compared byte by byte -/
theorem code_word {y : MethodName} {bytes : ByteArray} {mx : Nat} {rt : Option FieldType} {a : Array Value} {s : State} {m : MethodId} {meth : Method} {c : Code} (h1 : s.methodNamed? y = some m) (h2 : s.vm.method? m = some meth) (h3 : meth.code = some c) (h4 : c.code = bytes)
    (h5 : (c.maxLocals == mx && c.exceptionTable.isEmpty && decide (c.maxStack ≤ mostOperands) && decide (meth.sig.returnType = rt) && !meth.locks && decide (parseMethodDescriptor y.desc = some meth.sig)) = true) : (Jvm.Cond.code y bytes mx rt).before a s = true := by
  simp only [Bool.and_eq_true, beq_iff_eq, Bool.not_eq_true', decide_eq_true_eq] at h5
  obtain ⟨⟨⟨⟨⟨g1, g2⟩, g3⟩, g4⟩, g5⟩, g6⟩ := h5
  simp [Cond.before, Cond.holds, Cond.value, h1, h2, h3, h4, g1, g2, g3, g4, g5, g6]
def isCode : Jvm.Cond → Bool
  | .code _ _ _ _ => true
  | _ => false
theorem all_split {L : List Jvm.Cond} {P : Jvm.Cond → Bool} (h1 : L.all (fun c => isCode c || P c) = true) (h2 : ∀ c ∈ L.filter isCode, P c = true) : L.all P = true := by
  refine List.all_eq_true.mpr fun c hc => ?_
  have h := List.all_eq_true.mp h1 c hc
  rcases Bool.eq_false_or_eq_true (isCode c) with hi | hi
  · exact h2 c (List.mem_filter.mpr ⟨hc, hi⟩)
  · simpa [hi] using h
set_option maxRecDepth 65536 in
theorem w_c0 : (Jvm.Cond.code x code maxLocals ret).before args0 about1 = true := code_word (m := ⟨1, 1⟩) (meth := k1m1) (c := k1c1) (by decide +kernel) rfl rfl rfl (by decide +kernel)
set_option maxRecDepth 65536 in
theorem w_c1 : (Jvm.Cond.code ({ cls := "java/lang/String", name := "<init>", desc := "([C)V" } : Jvm.MethodName) jdk_42_method_3_code (2 : Nat) (Option.none : Option Jvm.ClassFile.FieldType)).before args0 about1 = true := code_word (m := ⟨7, 1⟩) (meth := k7m1) (c := k7c1) (by decide +kernel) rfl rfl rfl (by decide +kernel)
set_option maxRecDepth 65536 in
theorem w_c2 : (Jvm.Cond.code ({ cls := "java/lang/String", name := "<init>", desc := "([CIILjava/lang/Void;)V" } : Jvm.MethodName) jdk_42_method_149_code (6 : Nat) (Option.none : Option Jvm.ClassFile.FieldType)).before args0 about1 = true := code_word (m := ⟨7, 3⟩) (meth := k7m3) (c := k7c3) (by decide +kernel) rfl rfl rfl (by decide +kernel)
set_option maxRecDepth 65536 in
theorem w_c3 : (Jvm.Cond.code ({ cls := "java/lang/Object", name := "<init>", desc := "()V" } : Jvm.MethodName) object_method_1_code (1 : Nat) (Option.none : Option Jvm.ClassFile.FieldType)).before args0 about1 = true := code_word (m := ⟨0, 0⟩) (meth := k0m0) (c := k0c0) (by decide +kernel) rfl rfl rfl (by decide +kernel)
set_option maxRecDepth 65536 in
theorem w_c4 : (Jvm.Cond.code ({ cls := "java/lang/StringUTF16", name := "compress", desc := "([CII)[B" } : Jvm.MethodName) jdk_52_method_16_code (6 : Nat) (Option.some (Jvm.ClassFile.FieldType.array Jvm.ClassFile.FieldType.byte))).before args0 about1 = true := code_word (m := ⟨8, 2⟩) (meth := k8m2) (c := k8c2) (by decide +kernel) rfl rfl rfl (by decide +kernel)
set_option maxRecDepth 65536 in
theorem w_c5 : (Jvm.Cond.code ({ cls := "java/lang/StringUTF16", name := "compress", desc := "([CI[BII)I" } : Jvm.MethodName) jdk_52_method_21_code (7 : Nat) (Option.some Jvm.ClassFile.FieldType.int)).before args0 about1 = true := code_word (m := ⟨8, 3⟩) (meth := k8m3) (c := k8c3) (by decide +kernel) rfl rfl rfl (by decide +kernel)
set_option maxRecDepth 65536 in
theorem w_c6 : (Jvm.Cond.code ({ cls := "java/lang/StringUTF16", name := "coderFromArrayLen", desc := "([BI)B" } : Jvm.MethodName) jdk_52_method_15_code (2 : Nat) (Option.some Jvm.ClassFile.FieldType.byte)).before args0 about1 = true := code_word (m := ⟨8, 1⟩) (meth := k8m1) (c := k8c1) (by decide +kernel) rfl rfl rfl (by decide +kernel)
set_option maxRecDepth 65536 in
theorem w_c7 : (Jvm.Cond.code ({ cls := "java/lang/Integer", name := "valueOf", desc := "(I)Ljava/lang/Integer;" } : Jvm.MethodName) jdk_33_method_22_code (1 : Nat) (Option.some (Jvm.ClassFile.FieldType.object "java/lang/Integer"))).before args0 about1 = true := code_word (m := ⟨10, 0⟩) (meth := k10m0) (c := k10c0) (by decide +kernel) rfl rfl rfl (by decide +kernel)
set_option maxRecDepth 65536 in
theorem w_c8 : (Jvm.Cond.code ({ cls := "com/example/fixpoint/fixpoint/expr/Symbol", name := "<init>", desc := "(Ljava/lang/String;Z)V" } : Jvm.MethodName) prog_142_method_1_code (3 : Nat) (Option.none : Option Jvm.ClassFile.FieldType)).before args0 about1 = true := code_word (m := ⟨13, 0⟩) (meth := k13m0) (c := k13c0) (by decide +kernel) rfl rfl rfl (by decide +kernel)
set_option maxRecDepth 65536 in
theorem w_c9 : (Jvm.Cond.code ({ cls := "java/lang/String", name := "hashCode", desc := "()I" } : Jvm.MethodName) jdk_42_method_78_code (2 : Nat) (Option.some Jvm.ClassFile.FieldType.int)).before args0 about1 = true := code_word (m := ⟨7, 2⟩) (meth := k7m2) (c := k7c2) (by decide +kernel) rfl rfl rfl (by decide +kernel)
set_option maxRecDepth 65536 in
theorem w_c10 : (Jvm.Cond.code ({ cls := "java/lang/String", name := "isLatin1", desc := "()Z" } : Jvm.MethodName) jdk_42_method_154_code (1 : Nat) (Option.some Jvm.ClassFile.FieldType.boolean)).before args0 about1 = true := code_word (m := ⟨7, 4⟩) (meth := k7m4) (c := k7c4) (by decide +kernel) rfl rfl rfl (by decide +kernel)
set_option maxRecDepth 65536 in
theorem w_c11 : (Jvm.Cond.code ({ cls := "java/lang/StringLatin1", name := "hashCode", desc := "([B)I" } : Jvm.MethodName) jdk_43_method_21_code (1 : Nat) (Option.some Jvm.ClassFile.FieldType.int)).before args0 about1 = true := code_word (m := ⟨14, 1⟩) (meth := k14m1) (c := k14c1) (by decide +kernel) rfl rfl rfl (by decide +kernel)
set_option maxRecDepth 65536 in
theorem w_c12 : (Jvm.Cond.code ({ cls := "jdk/internal/util/ArraysSupport", name := "vectorizedHashCode", desc := "(Ljava/lang/Object;IIII)I" } : Jvm.MethodName) jdk_48_method_4_code (5 : Nat) (Option.some Jvm.ClassFile.FieldType.int)).before args0 about1 = true := code_word (m := ⟨15, 1⟩) (meth := k15m1) (c := k15c1) (by decide +kernel) rfl rfl rfl (by decide +kernel)
set_option maxRecDepth 65536 in
theorem w_c13 : (Jvm.Cond.code ({ cls := "jdk/internal/util/ArraysSupport", name := "signedHashCode", desc := "(I[BII)I" } : Jvm.MethodName) jdk_48_method_5_code (6 : Nat) (Option.some Jvm.ClassFile.FieldType.int)).before args0 about1 = true := code_word (m := ⟨15, 2⟩) (meth := k15m2) (c := k15c2) (by decide +kernel) rfl rfl rfl (by decide +kernel)
set_option maxRecDepth 65536 in
theorem w_c14 : (Jvm.Cond.code ({ cls := "com/example/fixpoint/fixpoint/expr/Expr", name := "mix", desc := "(I)I" } : Jvm.MethodName) prog_118_method_7_code (1 : Nat) (Option.some Jvm.ClassFile.FieldType.int)).before args0 about1 = true := code_word (m := ⟨12, 1⟩) (meth := k12m1) (c := k12c1) (by decide +kernel) rfl rfl rfl (by decide +kernel)
set_option maxRecDepth 65536 in
theorem w_c15 : (Jvm.Cond.code ({ cls := "com/example/fixpoint/fixpoint/expr/Expr", name := "<init>", desc := "(I)V" } : Jvm.MethodName) prog_118_method_1_code (2 : Nat) (Option.none : Option Jvm.ClassFile.FieldType)).before args0 about1 = true := code_word (m := ⟨12, 0⟩) (meth := k12m0) (c := k12c0) (by decide +kernel) rfl rfl rfl (by decide +kernel)
set_option maxRecDepth 65536 in
theorem w_c16 : (Jvm.Cond.code ({ cls := "com/example/fixpoint/fixpoint/expr/Symbol", name := "attach", desc := "(Ljava/lang/Object;Ljava/lang/Object;)V" } : Jvm.MethodName) prog_142_method_5_code (4 : Nat) (Option.none : Option Jvm.ClassFile.FieldType)).before args0 about1 = true := code_word (m := ⟨13, 2⟩) (meth := k13m2) (c := k13c2) (by decide +kernel) rfl rfl rfl (by decide +kernel)
set_option maxRecDepth 65536 in
theorem w_c17 : (Jvm.Cond.code ({ cls := "com/example/fixpoint/fixpoint/expr/Symbol", name := "attachmentOf", desc := "(Ljava/lang/Object;)Lcom/example/fixpoint/fixpoint/expr/Symbol$Attachment;" } : Jvm.MethodName) prog_142_method_6_code (3 : Nat) (Option.some (Jvm.ClassFile.FieldType.object "com/example/fixpoint/fixpoint/expr/Symbol$Attachment"))).before args0 about1 = true := code_word (m := ⟨13, 3⟩) (meth := k13m3) (c := k13c3) (by decide +kernel) rfl rfl rfl (by decide +kernel)
set_option maxRecDepth 65536 in
theorem w_c18 : (Jvm.Cond.code ({ cls := "com/example/fixpoint/fixpoint/expr/Symbol$Attachment", name := "<init>", desc := "(Ljava/lang/Object;Ljava/lang/Object;Lcom/example/fixpoint/fixpoint/expr/Symbol$Attachment;)V" } : Jvm.MethodName) prog_143_method_1_code (4 : Nat) (Option.none : Option Jvm.ClassFile.FieldType)).before args0 about1 = true := code_word (m := ⟨16, 0⟩) (meth := k16m0) (c := k16c0) (by decide +kernel) rfl rfl rfl (by decide +kernel)
set_option maxRecDepth 65536 in
theorem w_c19 : (Jvm.Cond.code ({ cls := "com/example/fixpoint/fixpoint/expr/Symbol", name := "attachment", desc := "(Ljava/lang/Object;)Ljava/lang/Object;" } : Jvm.MethodName) prog_142_method_4_code (3 : Nat) (Option.some (Jvm.ClassFile.FieldType.object "java/lang/Object"))).before args0 about1 = true := code_word (m := ⟨13, 1⟩) (meth := k13m1) (c := k13c1) (by decide +kernel) rfl rfl rfl (by decide +kernel)
set_option maxRecDepth 65536 in
theorem w_c20 : (Jvm.Cond.code ({ cls := "com/example/fixpoint/fixpoint/expr/SymbolAttachmentPinLaw", name := "expected", desc := "(IIIII[Ljava/lang/Object;)Ljava/lang/Object;" } : Jvm.MethodName) method_3_code (7 : Nat) (Option.some (Jvm.ClassFile.FieldType.object "java/lang/Object"))).before args0 about1 = true := code_word (m := ⟨1, 2⟩) (meth := k1m2) (c := k1c2) (by decide +kernel) rfl rfl rfl (by decide +kernel)
set_option maxRecDepth 65536 in
theorem w_c21 : (Jvm.Cond.code ({ cls := "java/lang/Integer", name := "<init>", desc := "(I)V" } : Jvm.MethodName) jdk_33_method_23_code (2 : Nat) (Option.none : Option Jvm.ClassFile.FieldType)).before args0 about1 = true := code_word (m := ⟨10, 1⟩) (meth := k10m1) (c := k10c1) (by decide +kernel) rfl rfl rfl (by decide +kernel)
set_option maxRecDepth 65536 in
theorem w_c22 : (Jvm.Cond.code ({ cls := "java/lang/Number", name := "<init>", desc := "()V" } : Jvm.MethodName) jdk_18_method_1_code (1 : Nat) (Option.none : Option Jvm.ClassFile.FieldType)).before args0 about1 = true := code_word (m := ⟨9, 0⟩) (meth := k9m0) (c := k9c0) (by decide +kernel) rfl rfl rfl (by decide +kernel)
def codes1 : List Jvm.Cond := [Jvm.Cond.code x code maxLocals ret, Jvm.Cond.code ({ cls := "java/lang/String", name := "<init>", desc := "([C)V" } : Jvm.MethodName) jdk_42_method_3_code (2 : Nat) (Option.none : Option Jvm.ClassFile.FieldType), Jvm.Cond.code ({ cls := "java/lang/String", name := "<init>", desc := "([CIILjava/lang/Void;)V" } : Jvm.MethodName) jdk_42_method_149_code (6 : Nat) (Option.none : Option Jvm.ClassFile.FieldType), Jvm.Cond.code ({ cls := "java/lang/Object", name := "<init>", desc := "()V" } : Jvm.MethodName) object_method_1_code (1 : Nat) (Option.none : Option Jvm.ClassFile.FieldType), Jvm.Cond.code ({ cls := "java/lang/StringUTF16", name := "compress", desc := "([CII)[B" } : Jvm.MethodName) jdk_52_method_16_code (6 : Nat) (Option.some (Jvm.ClassFile.FieldType.array Jvm.ClassFile.FieldType.byte)), Jvm.Cond.code ({ cls := "java/lang/StringUTF16", name := "compress", desc := "([CI[BII)I" } : Jvm.MethodName) jdk_52_method_21_code (7 : Nat) (Option.some Jvm.ClassFile.FieldType.int), Jvm.Cond.code ({ cls := "java/lang/StringUTF16", name := "coderFromArrayLen", desc := "([BI)B" } : Jvm.MethodName) jdk_52_method_15_code (2 : Nat) (Option.some Jvm.ClassFile.FieldType.byte), Jvm.Cond.code ({ cls := "java/lang/Integer", name := "valueOf", desc := "(I)Ljava/lang/Integer;" } : Jvm.MethodName) jdk_33_method_22_code (1 : Nat) (Option.some (Jvm.ClassFile.FieldType.object "java/lang/Integer")), Jvm.Cond.code ({ cls := "com/example/fixpoint/fixpoint/expr/Symbol", name := "<init>", desc := "(Ljava/lang/String;Z)V" } : Jvm.MethodName) prog_142_method_1_code (3 : Nat) (Option.none : Option Jvm.ClassFile.FieldType), Jvm.Cond.code ({ cls := "java/lang/String", name := "hashCode", desc := "()I" } : Jvm.MethodName) jdk_42_method_78_code (2 : Nat) (Option.some Jvm.ClassFile.FieldType.int), Jvm.Cond.code ({ cls := "java/lang/String", name := "isLatin1", desc := "()Z" } : Jvm.MethodName) jdk_42_method_154_code (1 : Nat) (Option.some Jvm.ClassFile.FieldType.boolean), Jvm.Cond.code ({ cls := "java/lang/StringLatin1", name := "hashCode", desc := "([B)I" } : Jvm.MethodName) jdk_43_method_21_code (1 : Nat) (Option.some Jvm.ClassFile.FieldType.int), Jvm.Cond.code ({ cls := "jdk/internal/util/ArraysSupport", name := "vectorizedHashCode", desc := "(Ljava/lang/Object;IIII)I" } : Jvm.MethodName) jdk_48_method_4_code (5 : Nat) (Option.some Jvm.ClassFile.FieldType.int), Jvm.Cond.code ({ cls := "jdk/internal/util/ArraysSupport", name := "signedHashCode", desc := "(I[BII)I" } : Jvm.MethodName) jdk_48_method_5_code (6 : Nat) (Option.some Jvm.ClassFile.FieldType.int), Jvm.Cond.code ({ cls := "com/example/fixpoint/fixpoint/expr/Expr", name := "mix", desc := "(I)I" } : Jvm.MethodName) prog_118_method_7_code (1 : Nat) (Option.some Jvm.ClassFile.FieldType.int), Jvm.Cond.code ({ cls := "com/example/fixpoint/fixpoint/expr/Expr", name := "<init>", desc := "(I)V" } : Jvm.MethodName) prog_118_method_1_code (2 : Nat) (Option.none : Option Jvm.ClassFile.FieldType), Jvm.Cond.code ({ cls := "com/example/fixpoint/fixpoint/expr/Symbol", name := "attach", desc := "(Ljava/lang/Object;Ljava/lang/Object;)V" } : Jvm.MethodName) prog_142_method_5_code (4 : Nat) (Option.none : Option Jvm.ClassFile.FieldType), Jvm.Cond.code ({ cls := "com/example/fixpoint/fixpoint/expr/Symbol", name := "attachmentOf", desc := "(Ljava/lang/Object;)Lcom/example/fixpoint/fixpoint/expr/Symbol$Attachment;" } : Jvm.MethodName) prog_142_method_6_code (3 : Nat) (Option.some (Jvm.ClassFile.FieldType.object "com/example/fixpoint/fixpoint/expr/Symbol$Attachment")), Jvm.Cond.code ({ cls := "com/example/fixpoint/fixpoint/expr/Symbol$Attachment", name := "<init>", desc := "(Ljava/lang/Object;Ljava/lang/Object;Lcom/example/fixpoint/fixpoint/expr/Symbol$Attachment;)V" } : Jvm.MethodName) prog_143_method_1_code (4 : Nat) (Option.none : Option Jvm.ClassFile.FieldType), Jvm.Cond.code ({ cls := "com/example/fixpoint/fixpoint/expr/Symbol", name := "attachment", desc := "(Ljava/lang/Object;)Ljava/lang/Object;" } : Jvm.MethodName) prog_142_method_4_code (3 : Nat) (Option.some (Jvm.ClassFile.FieldType.object "java/lang/Object")), Jvm.Cond.code ({ cls := "com/example/fixpoint/fixpoint/expr/SymbolAttachmentPinLaw", name := "expected", desc := "(IIIII[Ljava/lang/Object;)Ljava/lang/Object;" } : Jvm.MethodName) method_3_code (7 : Nat) (Option.some (Jvm.ClassFile.FieldType.object "java/lang/Object")), Jvm.Cond.code ({ cls := "java/lang/Integer", name := "<init>", desc := "(I)V" } : Jvm.MethodName) jdk_33_method_23_code (2 : Nat) (Option.none : Option Jvm.ClassFile.FieldType), Jvm.Cond.code ({ cls := "java/lang/Number", name := "<init>", desc := "()V" } : Jvm.MethodName) jdk_18_method_1_code (1 : Nat) (Option.none : Option Jvm.ClassFile.FieldType)]
set_option maxRecDepth 65536 in
theorem codes_eq : words1.filter isCode = codes1 := rfl
theorem w_codes : ∀ c ∈ words1.filter isCode, c.before args0 about1 = true := by
  rw [codes_eq]
  intro c hc
  simp only [codes1, List.mem_cons, List.not_mem_nil, or_false] at hc
  rcases hc with rfl | rfl | rfl | rfl | rfl | rfl | rfl | rfl | rfl | rfl | rfl | rfl | rfl | rfl | rfl | rfl | rfl | rfl | rfl | rfl | rfl | rfl | rfl
  · exact w_c0
  · exact w_c1
  · exact w_c2
  · exact w_c3
  · exact w_c4
  · exact w_c5
  · exact w_c6
  · exact w_c7
  · exact w_c8
  · exact w_c9
  · exact w_c10
  · exact w_c11
  · exact w_c12
  · exact w_c13
  · exact w_c14
  · exact w_c15
  · exact w_c16
  · exact w_c17
  · exact w_c18
  · exact w_c19
  · exact w_c20
  · exact w_c21
  · exact w_c22
set_option maxRecDepth 65536 in
theorem w_t1 : (words1.take 24).all (fun c => isCode c || c.before args0 about1) = true := by decide +kernel
set_option maxRecDepth 65536 in
theorem w_t2 : ((words1.drop 24).take 24).all (fun c => isCode c || c.before args0 about1) = true := by decide +kernel
set_option maxRecDepth 65536 in
theorem w_t3 : (((words1.drop 24).drop 24).take 24).all (fun c => isCode c || c.before args0 about1) = true := by decide +kernel
set_option maxRecDepth 65536 in
theorem w_t4 : ((((words1.drop 24).drop 24).drop 24).take 24).all (fun c => isCode c || c.before args0 about1) = true := by decide +kernel
set_option maxRecDepth 65536 in
theorem w_t5 : (((((words1.drop 24).drop 24).drop 24).drop 24).take 24).all (fun c => isCode c || c.before args0 about1) = true := by decide +kernel
set_option maxRecDepth 65536 in
theorem w_t6 : ((((((words1.drop 24).drop 24).drop 24).drop 24).drop 24).take 24).all (fun c => isCode c || c.before args0 about1) = true := by decide +kernel
set_option maxRecDepth 65536 in
theorem w_t7 : ((((((words1.drop 24).drop 24).drop 24).drop 24).drop 24).drop 24).all (fun c => isCode c || c.before args0 about1) = true := by decide +kernel
theorem w_tables : (allAtoms (Jvm.Cond.code x code maxLocals ret :: tables_1)).before args0 about1 = true := by
  rw [allAtoms_all]
  show words1.all (fun c => c.before args0 about1) = true
  refine all_split ?_ w_codes
  rw [← List.take_append_drop 24 words1, List.all_append, w_t1, ← List.take_append_drop 24 (words1.drop 24), List.all_append, w_t2, ← List.take_append_drop 24 ((words1.drop 24).drop 24), List.all_append, w_t3, ← List.take_append_drop 24 (((words1.drop 24).drop 24).drop 24), List.all_append, w_t4, ← List.take_append_drop 24 ((((words1.drop 24).drop 24).drop 24).drop 24), List.all_append, w_t5, ← List.take_append_drop 24 (((((words1.drop 24).drop 24).drop 24).drop 24).drop 24), List.all_append, w_t6, w_t7]
  rfl
set_option maxRecDepth 65536 in
theorem w_rest : rest_1_c.before args0 about1 = true := by decide +kernel
set_option maxRecDepth 65536 in
theorem w_case : (Jvm.Cond.and given_1 narrow_1).before args0 about1 = true := by decide +kernel
theorem w_applies : (headSpec (Jvm.Cond.code x code maxLocals ret :: tables_1) room_1).applies x e0.platform about1 = true :=
  (Spec.applies_iff w_frames).mpr ⟨w_running, w_runnable, w_alone, w_named, w_hears, w_ripe, w_room, w_tables⟩
theorem atStart : AtStart classFile x code maxLocals ret World_1 tables_1 room_1 Calls_1 rest_1 Pre_1 launch0 p0 e0 about1 theMethod args0 below0 :=
  ⟨lists_1, trivial, launch0.admits_env _ _ _, launch0.least_env, fairChoices_fair.cas, fairChoices_fair.clock, w_frames, w_args, w_heap, w_applies, trivial, w_rest, w_case⟩
end start1
theorem witness_1 : WitnessClaimed_1 := ⟨start1.p0, start1.e0, start1.about1, start1.theMethod, start1.args0, start1.below0, start1.atStart⟩
end Jvm.Pilot.@@N@@
