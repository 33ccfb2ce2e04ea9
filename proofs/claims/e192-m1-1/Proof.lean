import JvmDerived
import JvmDerived.Pilot.@@N@@Statement
import JvmDerived.Pilot.@@N@@Code
set_option linter.unusedVariables false
set_option linter.unusedSimpArgs false
@@BLOCK:NumsL.lean.txt@@
namespace Jvm.RoadKit
open Sem ClassFile Op Lib Jvm.Stand Jvm.Free Jvm.LawKit
section New
variable {p : Program} {l : Launch} {e : Env} {R : Room} {s : State} {m : MethodId} {args : Array Value} {below : List Frame} {meth : Method} {c : Code} {T : State} {locs : List Loc} {cells slots : Nat}
theorem retI (X : Stand p l e R s m args below meth c T locs cells slots) (hx : p.tables.exec = Jvm.exec) {pc : Nat} {Ls : Array Slot} {z : Int32} {rest : List Value} (hret : meth.sig.returnType = some .int) (hd : decode c.code pc = .ok (.ireturn, 1)) {fs : List Frame}
    (hl : ∀ (f : JFrame) (acts : List Action), f.method = m → f.locked = none → f.entered = [] → (doReturn e (T.setTop f) acts (some (.int z))).1 = T.setFrames fs) : Steps p.tables e below (T.setTop (mkF m pc Ls (.int z :: rest))) (T.setFrames fs) := by
  have hm' : T.vm.method? m = some meth := X.method'
  have hn : narrow .int (.int z) = .int z := rfl
  show Steps p.tables e below (T.setTop { method := m, pc := pc, locals := Ls, stack := _ :: rest, locked := none }) _
  jvm_step X.here [X.here.top, hx, hd, hm', hret, hn]
  first | (intro acts; rw [hl _ acts rfl rfl rfl]) | rw [hl _ _ rfl rfl rfl]
  exact Steps.refl _
end New
end Jvm.RoadKit
namespace Jvm.Pilot.@@N@@
open Jvm Jvm.ClassFile Sem Op Lib Jvm.Free Jvm.Stand Jvm.LawKit Jvm.RoadKit Bundle Jvm.Pilot.@@N@@.Jvm.D
/-! plain: the merge of two lists, the lists that 'place' lays, the law's numbers -/
def own_sub : List Int32 → List Int32 → Bool
  | [], _ => true
  | _ :: _, [] => false
  | x :: xs, y :: ys => if x < y then false else if x = y then own_sub xs ys else own_sub (x :: xs) ys
termination_by structural _ ys => ys
def own_subN : List (Fin 4) → List (Fin 4) → Bool
  | [], _ => true
  | _ :: _, [] => false
  | x :: xs, y :: ys => if x < y then false else if x = y then own_subN xs ys else own_subN (x :: xs) ys
termination_by structural _ ys => ys
theorem own_sub_nil (ys : List Int32) : own_sub [] ys = true := by cases ys <;> rfl
theorem own_sub_cn (x : Int32) (xs : List Int32) : own_sub (x :: xs) [] = false := rfl
theorem own_sub_cc (x : Int32) (xs : List Int32) (y : Int32) (ys : List Int32) : own_sub (x :: xs) (y :: ys) = if x < y then false else if x = y then own_sub xs ys else own_sub (x :: xs) ys := rfl
theorem own_subN_nil (ys : List (Fin 4)) : own_subN [] ys = true := by cases ys <;> rfl
theorem own_subN_cc (x : Fin 4) (xs : List (Fin 4)) (y : Fin 4) (ys : List (Fin 4)) : own_subN (x :: xs) (y :: ys) = if x < y then false else if x = y then own_subN xs ys else own_subN (x :: xs) ys := rfl
theorem own_sub_map (φ : Fin 4 → Int32) (mono : ∀ i j : Fin 4, i < j → φ i < φ j) : ∀ (ys xs : List (Fin 4)), own_sub (xs.map φ) (ys.map φ) = own_subN xs ys
  | ys, [] => by rw [List.map_nil, own_sub_nil, own_subN_nil]
  | [], x :: xs => rfl
  | y :: ys, x :: xs => by
    have ih1 := own_sub_map φ mono ys xs
    have ih2 := own_sub_map φ mono ys (x :: xs)
    rw [List.map_cons] at ih2
    rw [List.map_cons, List.map_cons, own_sub_cc, own_subN_cc, ih1, ih2]
    have irr : ∀ a : Int32, ¬ a < a := fun a h => by rw [Int32.lt_iff_toInt_lt] at h; omega
    have asy : ∀ a b : Int32, a < b → ¬ b < a := fun a b h q => by rw [Int32.lt_iff_toInt_lt] at h q; omega
    rcases Nat.lt_trichotomy x.val y.val with h | h | h
    · have h' : x < y := h
      rw [if_pos (mono x y h'), if_pos h']
    · have h' : x = y := Fin.ext h
      subst h'
      rw [if_neg (irr _), if_neg (show ¬ x < x from Nat.lt_irrefl _), if_pos rfl, if_pos rfl]
    · have h' : y < x := h
      have n1 : ¬ x < y := fun q => Nat.lt_asymm h q
      have n2 : ¬ x = y := fun q => by subst q; exact Nat.lt_irrefl _ h
      have n3 : ¬ φ x = φ y := fun q => irr (φ x) (by have w := mono y x h'; rw [← q] at w; exact w)
      rw [if_neg (asy _ _ (mono y x h')), if_neg n1, if_neg n2, if_neg n3]
/-- what 'place' lays -/
def own_sel {α : Type} (b0 b1 b2 b3 : Bool) (v0 v1 v2 v3 : α) : List α := (((([] ++ if b0 then [v0] else []) ++ if b1 then [v1] else []) ++ if b2 then [v2] else []) ++ if b3 then [v3] else [])
theorem own_sel_map {α β : Type} (φ : α → β) (b0 b1 b2 b3 : Bool) (v0 v1 v2 v3 : α) : (own_sel b0 b1 b2 b3 v0 v1 v2 v3).map φ = own_sel b0 b1 b2 b3 (φ v0) (φ v1) (φ v2) (φ v3) := by
  cases b0 <;> cases b1 <;> cases b2 <;> cases b3 <;> rfl
theorem own_sel_len {α : Type} (b0 b1 b2 b3 : Bool) (v0 v1 v2 v3 : α) : (own_sel b0 b1 b2 b3 v0 v1 v2 v3).length ≤ 4 := by
  cases b0 <;> cases b1 <;> cases b2 <;> cases b3 <;> simp [own_sel]
theorem own_subN_sel : ∀ b0 b1 b2 b3 c0 c1 c2 c3 : Bool, own_subN (own_sel b0 b1 b2 b3 0 1 2 3) (own_sel c0 c1 c2 c3 0 1 2 3) = ((!b0 || c0) && (!b1 || c1) && (!b2 || c2) && (!b3 || c3)) := by decide +kernel
theorem own_fin4 : ∀ i : Fin 4, i = 0 ∨ i = 1 ∨ i = 2 ∨ i = 3 := by decide
theorem own_sub_sel (b0 b1 b2 b3 c0 c1 c2 c3 : Bool) (v0 v1 v2 v3 : Int32) (h1 : v0 < v1) (h2 : v1 < v2) (h3 : v2 < v3) : own_sub (own_sel b0 b1 b2 b3 v0 v1 v2 v3) (own_sel c0 c1 c2 c3 v0 v1 v2 v3) = ((!b0 || c0) && (!b1 || c1) && (!b2 || c2) && (!b3 || c3)) := by
  have key := own_sub_map (fun i : Fin 4 => if i = 0 then v0 else if i = 1 then v1 else if i = 2 then v2 else v3) (fun i j h => by
    rw [Int32.lt_iff_toInt_lt] at h1 h2 h3
    rcases own_fin4 i with rfl | rfl | rfl | rfl <;> rcases own_fin4 j with rfl | rfl | rfl | rfl <;> first | exact absurd h (by decide) | exact Int32.lt_iff_toInt_lt.mpr h1 | exact Int32.lt_iff_toInt_lt.mpr h2 | exact Int32.lt_iff_toInt_lt.mpr h3 | exact Int32.lt_iff_toInt_lt.mpr (show v0.toInt < v2.toInt by omega) | exact Int32.lt_iff_toInt_lt.mpr (show v0.toInt < v3.toInt by omega) | exact Int32.lt_iff_toInt_lt.mpr (show v1.toInt < v3.toInt by omega)) (own_sel c0 c1 c2 c3 0 1 2 3) (own_sel b0 b1 b2 b3 0 1 2 3)
  rw [own_sel_map, own_sel_map, own_subN_sel] at key
  exact key
/-- the masks -/
def own_bit (k m : Int32) : Bool := decide (¬ (m &&& k = 0))
theorem own_bits16 : ∀ i j : Fin 16, decide ((Int32.ofNat i.val &&& (Int32.ofNat j.val ^^^ (-1))) = 0) = ((!own_bit 1 (Int32.ofNat i.val) || own_bit 1 (Int32.ofNat j.val)) && (!own_bit 2 (Int32.ofNat i.val) || own_bit 2 (Int32.ofNat j.val)) && (!own_bit 4 (Int32.ofNat i.val) || own_bit 4 (Int32.ofNat j.val)) && (!own_bit 8 (Int32.ofNat i.val) || own_bit 8 (Int32.ofNat j.val))) := by decide +kernel
theorem own_and15 (x : Int32) : ∃ i : Fin 16, x &&& 15 = Int32.ofNat i.val := by
  have e : (x &&& 15).toInt = x.toInt % 2 ^ 4 := Jvm.Kit.i32_mask x 15 (k := 4) (by decide) (by decide)
  refine ⟨⟨(x &&& 15).toInt.toNat, by omega⟩, ?_⟩
  apply Int32.toInt_inj.mp
  rw [Int32.toInt_ofNat_of_lt (by show (x &&& 15).toInt.toNat < _; omega)]
  show (x &&& 15).toInt = ((x &&& 15).toInt.toNat : Int)
  omega
theorem own_and3n (x : Int32) : ∃ n : Nat, n ≤ 3 ∧ x &&& 3 = Int32.ofNat n := by
  have e : (x &&& 3).toInt = x.toInt % 2 ^ 2 := Jvm.Kit.i32_mask x 3 (k := 2) (by decide) (by decide)
  refine ⟨(x &&& 3).toInt.toNat, by omega, ?_⟩
  apply Int32.toInt_inj.mp
  rw [Int32.toInt_ofNat_of_lt (by omega)]
  omega
theorem own_mask (x y : Int32) : decide (((x &&& 15) &&& ((y &&& 15) ^^^ (-1))) = 0) = ((!own_bit 1 (x &&& 15) || own_bit 1 (y &&& 15)) && (!own_bit 2 (x &&& 15) || own_bit 2 (y &&& 15)) && (!own_bit 4 (x &&& 15) || own_bit 4 (y &&& 15)) && (!own_bit 8 (x &&& 15) || own_bit 8 (y &&& 15))) := by
  obtain ⟨i, hi⟩ := own_and15 x
  obtain ⟨j, hj⟩ := own_and15 y
  rw [hi, hj]
  exact own_bits16 i j
theorem own_m30 (x : Int32) : 0 ≤ (x &&& 1073741823).toInt ∧ (x &&& 1073741823).toInt < 2 ^ 30 := by
  have e : (x &&& 1073741823).toInt = x.toInt % 2 ^ 30 := Jvm.Kit.i32_mask x 1073741823 (k := 30) (by decide) (by decide)
  omega
theorem own_m30e (x : Int32) : 0 ≤ (x &&& 1073741822).toInt ∧ (x &&& 1073741822).toInt < 2 ^ 30 - 1 := by
  have q : x &&& 1073741822 = (x &&& 1073741822) &&& 1073741823 := by rw [Int32.and_assoc]; rfl
  have e : ((x &&& 1073741822) &&& 1073741823).toInt = (x &&& 1073741822).toInt % 2 ^ 30 := Jvm.Kit.i32_mask (x &&& 1073741822) 1073741823 (k := 30) (by decide) (by decide)
  rw [← q] at e
  have z : ((x &&& 1073741822) &&& 1).toInt = (x &&& 1073741822).toInt % 2 ^ 1 := Jvm.Kit.i32_mask (x &&& 1073741822) 1 (k := 1) (by decide) (by decide)
  have z0 : (x &&& 1073741822) &&& 1 = 0 := by rw [Int32.and_assoc, show (1073741822 : Int32) &&& 1 = 0 from by decide]; exact Int32.and_zero
  rw [z0] at z
  have z1 : (0 : Int32).toInt = 0 := rfl
  omega
theorem own_up (a b c d : Int32) (v0 v1 v2 v3 : Int32) (e0 : v0 = -2147483648 + (a &&& 1073741823)) (e1 : v1 = v0 + 1 + (b &&& 1073741823)) (e2 : v2 = v1 + 1 + (c &&& 1073741823)) (e3 : v3 = v2 + 1 + (d &&& 1073741822)) : v0 < v1 ∧ v1 < v2 ∧ v2 < v3 := by
  have ha := own_m30 a
  have hb := own_m30 b
  have hc := own_m30 c
  have hd := own_m30e d
  have n : (-2147483648 : Int32).toInt = -2147483648 := by decide
  have o : (1 : Int32).toInt = 1 := by decide
  have f0 : v0.toInt = -2147483648 + (a &&& 1073741823).toInt := by rw [e0, Jvm.Kit.i32_add (by omega) (by omega), n]
  have g1 : (v0 + 1).toInt = v0.toInt + 1 := by rw [Jvm.Kit.i32_add (by omega) (by omega), o]
  have f1 : v1.toInt = v0.toInt + 1 + (b &&& 1073741823).toInt := by rw [e1, Jvm.Kit.i32_add (by omega) (by omega), g1]
  have g2 : (v1 + 1).toInt = v1.toInt + 1 := by rw [Jvm.Kit.i32_add (by omega) (by omega), o]
  have f2 : v2.toInt = v1.toInt + 1 + (c &&& 1073741823).toInt := by rw [e2, Jvm.Kit.i32_add (by omega) (by omega), g2]
  have g3 : (v2 + 1).toInt = v2.toInt + 1 := by rw [Jvm.Kit.i32_add (by omega) (by omega), o]
  have f3 : v3.toInt = v2.toInt + 1 + (d &&& 1073741822).toInt := by rw [e3, Jvm.Kit.i32_add (by omega) (by omega), g3]
  refine ⟨Int32.lt_iff_toInt_lt.mpr ?_, Int32.lt_iff_toInt_lt.mpr ?_, Int32.lt_iff_toInt_lt.mpr ?_⟩ <;> omega
/-! an int[8] by its eight values -/
def OwnA (Z : State) (h : Heap) (a : Addr) (f : Nat → Int32) : Prop := ∃ cl : Cell, Arr Z h a cl .int ∧ cl.slots.size = 8 ∧ ∀ j, j < 8 → cl.slots[j]? = some (.int (f j))
def OwnV (f : Nat → Int32) (A : Nat) (xs : List Int32) : Prop := ∀ j, j < xs.length → f (A + j) = xs.getD j 0
theorem OwnA.of_arv {Z : State} {h : Heap} {a : Addr} {k : ClassId} {vs : List Value} {d : Value} (V : Arv Z h a k .int (8 : Int32) vs d) (f : Nat → Int32) (hf : ∀ j, j < 8 → vs.getD j d = .int (f j)) : OwnA Z h a f := by
  obtain ⟨cl, Ar, -, S, -, H, -⟩ := V
  have S8 : cl.slots.size = 8 := S
  exact ⟨cl, Ar, S8, fun j hj => by rw [H j (by omega), hf j hj]⟩
theorem Arv.own_lt {Z : State} {h : Heap} {a : Addr} {k : ClassId} {ty : FieldType} {z : Int32} {vs : List Value} {d : Value} (V : Arv Z h a k ty z vs d) : a < h.size := by
  obtain ⟨cl, Ar, -⟩ := V
  exact (Array.getElem?_eq_some_iff.mp Ar.1).1
theorem OwnA.keep {Z : State} {h h' : Heap} {a : Addr} {f : Nat → Int32} {ws : List Addr} (F : OwnA Z h a f) (K : Keep h h' ws) (q : a ∉ ws) : OwnA Z h' a f := by
  obtain ⟨c, A, r⟩ := F
  exact ⟨c, ⟨K.2.1 a c A.1 q, A.2⟩, r⟩
theorem own_slots (c : Cell) (n : Nat) (v : Value) : (c.setSlot n v).slots = c.slots.setIfInBounds n v := rfl
theorem OwnA.put {Z : State} {h' : Heap} {a : Addr} {f : Nat → Int32} {cl : Cell} {n : Nat} {x : Int32} (A : Arr Z h' a (cl.setSlot n (.int x)) .int) (S : cl.slots.size = 8) (H : ∀ j, j < 8 → cl.slots[j]? = some (.int (f j))) (hn : n < 8) : OwnA Z h' a (fun j => if j = n then x else f j) := by
  refine ⟨_, A, ?_, fun j hj => ?_⟩
  · rw [own_slots, Array.size_setIfInBounds, S]
  · show (cl.setSlot n (.int x)).slots[j]? = some (.int (if j = n then x else f j))
    rw [own_slots, Array.getElem?_setIfInBounds]
    by_cases q : n = j
    · subst q
      rw [if_pos rfl, if_pos (by omega), if_pos rfl]
    · rw [if_neg q, H j hj, if_neg (fun w => q w.symm)]
theorem OwnV.nil (f : Nat → Int32) (A : Nat) : OwnV f A [] := fun j hj => absurd hj (Nat.not_lt_zero _)
theorem OwnV.put {f : Nat → Int32} {A : Nat} {xs : List Int32} {x : Int32} (V : OwnV f A xs) : OwnV (fun j => if j = A + xs.length then x else f j) A (xs ++ [x]) := by
  intro j hj
  rw [List.length_append, List.length_singleton] at hj
  by_cases q : j = xs.length
  · subst q
    simp
  · have hj' : j < xs.length := by omega
    show (if A + j = A + xs.length then x else f (A + j)) = (xs ++ [x]).getD j 0
    rw [if_neg (by omega), V j hj']
    simp [List.getElem?_append_left hj']
theorem own_app_f (xs : List Int32) (v : Int32) : (xs ++ if false = true then [v] else []) = xs := by simp
theorem own_app_t (xs : List Int32) (v : Int32) : (xs ++ if true = true then [v] else []) = xs ++ [v] := by simp
theorem own_len1 (xs : List Int32) (v : Int32) : (xs ++ [v]).length = xs.length + 1 := by simp
theorem own_len_le {xs : List Int32} {k : Nat} (h : xs.length ≤ k) (b : Bool) (v : Int32) : (xs ++ if b = true then [v] else []).length ≤ k + 1 := by
  cases b <;> simp <;> omega
theorem own_bit_f {m k : Int32} (h : m &&& k = 0) : own_bit k m = false := decide_eq_false (fun q => q h)
theorem own_bit_t {m k : Int32} (h : ¬ (m &&& k = 0)) : own_bit k m = true := decide_eq_true h
theorem own_toInt {n : Nat} (h : n < 2 ^ 31) : (Int32.ofNat n).toInt = n := Int32.toInt_ofNat_of_lt h
theorem own_clamp {n : Nat} (h : n < 8) : (Int32.ofNat n).toNatClampNeg = n := by
  show (Int32.ofNat n).toInt.toNat = n
  rw [own_toInt (by omega)]
  rfl
theorem own_nneg {n : Nat} (h : n < 8) : ¬ Int32.ofNat n < 0 := by
  rw [Int32.lt_iff_toInt_lt, own_toInt (by omega)]
  have z : (0 : Int32).toInt = 0 := rfl
  omega
theorem own_in {cl : Cell} {n : Nat} (S : cl.slots.size = 8) (h : n < 8) : ¬ (Int32.ofNat n < 0 ∨ cl.slots.size ≤ (Int32.ofNat n).toNatClampNeg) := by
  rw [own_clamp h, S]
  exact fun q => q.elim (own_nneg h) (fun q => by omega)
theorem own_more (n : Nat) : Int32.ofNat n + (1 : Int32) = Int32.ofNat (n + 1) := (Int32.ofNat_add n 1).symm
theorem own_back (A n : Nat) : Int32.ofNat (A + n) - Int32.ofNat A = Int32.ofNat n := by rw [Nat.add_comm, Int32.ofNat_add, Int32.add_sub_cancel]
theorem own_lt {i n : Nat} (hi : i < 2 ^ 31) (hn : n < 2 ^ 31) : Int32.ofNat i < Int32.ofNat n ↔ i < n := by
  rw [Int32.lt_iff_toInt_lt, own_toInt hi, own_toInt hn]; omega
theorem own_ofNat_ne {i n : Nat} (hi : i < 2 ^ 31) (hn : n < 2 ^ 31) (h : ¬ i = n) : ¬ Int32.ofNat i = Int32.ofNat n := fun q => by
  have w := congrArg Int32.toInt q
  rw [own_toInt hi, own_toInt hn] at w
  omega
theorem own_idx {A i : Nat} (h : A + i < 8) : (Int32.ofNat A + Int32.ofNat i).toNatClampNeg = A + i ∧ ¬ Int32.ofNat A + Int32.ofNat i < 0 := by
  rw [← Int32.ofNat_add]
  exact ⟨own_clamp h, own_nneg h⟩
theorem own_drop {xs : List Int32} {i : Nat} (h : i < xs.length) : xs.drop i = xs.getD i 0 :: xs.drop (i + 1) := by
  have e : xs.getD i 0 = xs[i] := by simp [List.getElem?_eq_getElem h]
  rw [List.drop_eq_getElem_cons h, e]
theorem own_ne_of_lt {x y : Int32} (h : x < y) : ¬ x = y := fun q => by
  subst q
  rw [Int32.lt_iff_toInt_lt] at h
  omega
theorem own_f8 {p6 : Int32} {d : Value} : ∀ j, j < 8 → List.getD ((((((((([(.int (0 : Int32)), (.int (0 : Int32)), (.int (0 : Int32)), (.int (0 : Int32)), (.int (0 : Int32)), (.int (0 : Int32)), (.int (0 : Int32)), (.int (0 : Int32))] : List Value).set 0 (.int p6)).set 1 (.int p6)).set 2 (.int p6)).set 3 (.int p6)).set 4 (.int p6)).set 5 (.int p6)).set 6 (.int p6)).set 7 (.int p6)) j d = .int ((fun _ => p6) j)
  | 0, _ => rfl
  | 1, _ => rfl
  | 2, _ => rfl
  | 3, _ => rfl
  | 4, _ => rfl
  | 5, _ => rfl
  | 6, _ => rfl
  | 7, _ => rfl
  | n + 8, h => absurd h (by omega)
theorem d1_3 : decode method_3_code 3 = .ok (.iload_n 2, 1) := by decide +kernel
theorem d1_4 : decode method_3_code 4 = .ok (.iconst 1, 1) := by decide +kernel
theorem d1_5 : decode method_3_code 5 = .ok (.iand, 1) := by decide +kernel
theorem d1_6 : decode method_3_code 6 = .ok (.ifCond .eq 11, 3) := by decide +kernel
set_option maxRecDepth 65536 in
set_option maxHeartbeats 40000000 in
theorem own_skip0 {p : Program} {l : Launch} {e : Env} {R : Room} {s : State} {m : MethodId} {args : Array Value} {below : List Frame} {meth : Method} {c : Code} {T0 : State} {locs : List Loc} {cells slots : Nat} {Z : State} {a0 : Array Value} {h0 : Heap} (s0 : Slot) (s1 : Slot) (i2 : Int32) (s3 : Slot) (s4 : Slot) (s5 : Slot) (s6 : Slot) (s7 : Slot)
    (X0 : Stand p l e R s m args below meth c T0 locs cells slots) (hx : p.tables.exec = Jvm.exec) (hZ : Z.Warmed39 s.vm) (hw : ∀ d ∈ tables_1, d.before a0 Z = true) (hby : c.code = method_3_code) (hml : c.maxLocals = 8) (hown : s.vm.findClass "com/example/godwit/godwit/faults/SymbolsIsSubsetPinLaw" = some m.cls) (e0 : T0.heap = h0) (hc6 : (i2 &&& (1 : Int32)) = (0 : Int32)) :
    ∃ (T' : State), Stand p l e R s m args below meth c T' locs cells slots ∧ T'.heap = h0 ∧
      ∀ target, Steps p.tables e below (T'.setTop (mkF m 17 #[s0, s1, .val (.int i2), s3, s4, s5, s6, s7] [])) target → Steps p.tables e below (T0.setTop (mkF m 3 #[s0, s1, .val (.int i2), s3, s4, s5, s6, s7] [])) target := by

  refine ⟨T0, X0, e0, fun target kt => ?_⟩
  show Steps p.tables e below (T0.setTop (mkF m 3 #[s0, s1, .val (.int i2), s3, s4, s5, s6, s7] [])) _
  refine XS.iloadN X0.here hx rfl (hb hby d1_3) rfl ?_
  show Steps p.tables e below (T0.setTop (mkF m 4 #[s0, s1, .val (.int i2), s3, s4, s5, s6, s7] [(.int i2)])) _
  refine XS.iconst X0.here hx rfl (hb hby d1_4) ?_
  show Steps p.tables e below (T0.setTop (mkF m 5 #[s0, s1, .val (.int i2), s3, s4, s5, s6, s7] [(.int (1 : Int32)), (.int i2)])) _
  refine XS.iand X0.here hx rfl (hb hby d1_5) rfl ?_
  show Steps p.tables e below (T0.setTop (mkF m 6 #[s0, s1, .val (.int i2), s3, s4, s5, s6, s7] [(.int (i2 &&& (1 : Int32)))])) _
  refine XS.ifYes X0.here hx rfl (pc0 := 6) (pc' := 17) rfl (hb hby d1_6) rfl ((if0 _ _).trans (teq hc6).1) (by decide) (by decide) ?_
  exact kt
theorem d1_9 : decode method_3_code 9 = .ok (.aload_n 0, 1) := by decide +kernel
theorem d1_10 : decode method_3_code 10 = .ok (.iload 7, 2) := by decide +kernel
theorem d1_12 : decode method_3_code 12 = .ok (.iload_n 3, 1) := by decide +kernel
theorem d1_13 : decode method_3_code 13 = .ok (.iastore, 1) := by decide +kernel
theorem d1_14 : decode method_3_code 14 = .ok (.iinc 7 1, 3) := by decide +kernel
set_option maxRecDepth 65536 in
set_option maxHeartbeats 40000000 in
theorem own_put0 {p : Program} {l : Launch} {e : Env} {R : Room} {s : State} {m : MethodId} {args : Array Value} {below : List Frame} {meth : Method} {c : Code} {T0 : State} {locs : List Loc} {cells slots : Nat} {Z : State} {a0 : Array Value} {h0 : Heap} (o0 : Addr) (s1 : Slot) (i2 : Int32) (i3 : Int32) (s4 : Slot) (s5 : Slot) (s6 : Slot) (i7 : Int32) (cl_o0 : Cell)
    (X0 : Stand p l e R s m args below meth c T0 locs cells slots) (hx : p.tables.exec = Jvm.exec) (hZ : Z.Warmed39 s.vm) (hw : ∀ d ∈ tables_1, d.before a0 Z = true) (hby : c.code = method_3_code) (hml : c.maxLocals = 8) (hown : s.vm.findClass "com/example/godwit/godwit/faults/SymbolsIsSubsetPinLaw" = some m.cls) (e0 : T0.heap = h0) (Ar_o0 : Arr Z h0 o0 cl_o0 .int) (hin13 : ¬ (i7 < 0 ∨ cl_o0.slots.size ≤ (i7).toNatClampNeg)) (hc6 : ¬ ((i2 &&& (1 : Int32)) = (0 : Int32))) :
    ∃ (T' : State) (h' : Heap), Stand p l e R s m args below meth c T' (locs ++ [⟨o0, i7.toNatClampNeg⟩]) cells slots ∧ T'.heap = h' ∧ Arr Z h' o0 (cl_o0.setSlot i7.toNatClampNeg (.int i3)) .int ∧ Keep h0 h' [o0] ∧
      ∀ target, Steps p.tables e below (T'.setTop (mkF m 17 #[.val (.ref o0), s1, .val (.int i2), .val (.int i3), s4, s5, s6, .val (.int (i7 + (1 : Int32)))] [])) target → Steps p.tables e below (T0.setTop (mkF m 3 #[.val (.ref o0), s1, .val (.int i2), .val (.int i3), s4, s5, s6, .val (.int i7)] [])) target := by
  obtain ⟨T8, h8, X8, e8, W8, st8⟩ := stI X0 hx hZ e0 Ar_o0 (j := i7) hin13 (g := (mkF m 13 #[.val (.ref o0), s1, .val (.int i2), .val (.int i3), s4, s5, s6, .val (.int i7)] [(.int i3), (.int i7), (.ref o0)])) rfl rfl (hb hby d1_13)
  have K8 : Keep h0 h8 [o0] := (Keep.refl h0 [o0]).wr W8 (Or.inl (List.mem_of_getElem? (i := 0) rfl))
  refine ⟨T8, _, X8, e8, Arr.same W8 Ar_o0, K8, fun target kt => ?_⟩
  show Steps p.tables e below (T0.setTop (mkF m 3 #[.val (.ref o0), s1, .val (.int i2), .val (.int i3), s4, s5, s6, .val (.int i7)] [])) _
  refine XS.iloadN X0.here hx rfl (hb hby d1_3) rfl ?_
  show Steps p.tables e below (T0.setTop (mkF m 4 #[.val (.ref o0), s1, .val (.int i2), .val (.int i3), s4, s5, s6, .val (.int i7)] [(.int i2)])) _
  refine XS.iconst X0.here hx rfl (hb hby d1_4) ?_
  show Steps p.tables e below (T0.setTop (mkF m 5 #[.val (.ref o0), s1, .val (.int i2), .val (.int i3), s4, s5, s6, .val (.int i7)] [(.int (1 : Int32)), (.int i2)])) _
  refine XS.iand X0.here hx rfl (hb hby d1_5) rfl ?_
  show Steps p.tables e below (T0.setTop (mkF m 6 #[.val (.ref o0), s1, .val (.int i2), .val (.int i3), s4, s5, s6, .val (.int i7)] [(.int (i2 &&& (1 : Int32)))])) _
  refine XS.ifNo X0.here hx rfl (hb hby d1_6) rfl ((if0 _ _).trans (feq hc6).1) ?_
  show Steps p.tables e below (T0.setTop (mkF m 9 #[.val (.ref o0), s1, .val (.int i2), .val (.int i3), s4, s5, s6, .val (.int i7)] [])) _
  refine XS.aloadN X0.here hx rfl (hb hby d1_9) rfl rfl ?_
  show Steps p.tables e below (T0.setTop (mkF m 10 #[.val (.ref o0), s1, .val (.int i2), .val (.int i3), s4, s5, s6, .val (.int i7)] [(.ref o0)])) _
  refine XS.iload X0.here hx rfl (hb hby d1_10) rfl ?_
  show Steps p.tables e below (T0.setTop (mkF m 12 #[.val (.ref o0), s1, .val (.int i2), .val (.int i3), s4, s5, s6, .val (.int i7)] [(.int i7), (.ref o0)])) _
  refine XS.iloadN X0.here hx rfl (hb hby d1_12) rfl ?_
  show Steps p.tables e below (T0.setTop (mkF m 13 #[.val (.ref o0), s1, .val (.int i2), .val (.int i3), s4, s5, s6, .val (.int i7)] [(.int i3), (.int i7), (.ref o0)])) _
  refine st8 _ ?_
  show Steps p.tables e below (T8.setTop (mkF m 14 #[.val (.ref o0), s1, .val (.int i2), .val (.int i3), s4, s5, s6, .val (.int i7)] [])) _
  refine XS.iinc X8.here hx rfl (hb hby d1_14) rfl (l' := #[.val (.ref o0), s1, .val (.int i2), .val (.int i3), s4, s5, s6, .val (.int (i7 + (1 : Int32)))]) rfl ?_
  exact kt
set_option maxHeartbeats 4000000 in
theorem own_seg0 {p : Program} {l : Launch} {e : Env} {R : Room} {s : State} {m : MethodId} {args : Array Value} {below : List Frame} {meth : Method} {c : Code} {T0 : State} {locs : List Loc} {cells slots : Nat} {Z : State} {a0 : Array Value} {h0 : Heap} {n0 : Nat} (a : Addr) (at_ mask v0 v1 v2 v3 : Int32) (A : Nat) (xs : List Int32) (f : Nat → Int32)
    (X0 : Stand p l e R s m args below meth c T0 locs cells slots) (hx : p.tables.exec = Jvm.exec) (hZ : Z.Warmed39 s.vm) (hw : ∀ d ∈ tables_1, d.before a0 Z = true) (hby : c.code = method_3_code) (hml : c.maxLocals = 8) (hown : s.vm.findClass "com/example/godwit/godwit/faults/SymbolsIsSubsetPinLaw" = some m.cls) (e0 : T0.heap = h0) (F : OwnA Z h0 a f) (V : OwnV f A xs) (hlen : A + xs.length < 8) (g : n0 ≤ a) (N : Fr n0 locs) :
    ∃ (T' : State) (h' : Heap) (locs' : List Loc) (f' : Nat → Int32), Stand p l e R s m args below meth c T' locs' cells slots ∧ T'.heap = h' ∧ OwnA Z h' a f' ∧ OwnV f' A (xs ++ if own_bit 1 mask then [v0] else []) ∧ Keep h0 h' [a] ∧ Fr n0 locs' ∧
      ∀ target, Steps p.tables e below (T'.setTop (mkF m 17 #[.val (.ref a), .val (.int at_), .val (.int mask), .val (.int v0), .val (.int v1), .val (.int v2), .val (.int v3), .val (.int (Int32.ofNat (A + (xs ++ if own_bit 1 mask then [v0] else []).length)))] [])) target → Steps p.tables e below (T0.setTop (mkF m 3 #[.val (.ref a), .val (.int at_), .val (.int mask), .val (.int v0), .val (.int v1), .val (.int v2), .val (.int v3), .val (.int (Int32.ofNat (A + xs.length)))] [])) target := by
  by_cases hb : mask &&& (1 : Int32) = 0
  · have hbit : own_bit 1 mask = false := own_bit_f hb
    obtain ⟨T1, X1, e1, st1⟩ := own_skip0 (.val (.ref a)) (.val (.int at_)) mask (.val (.int v0)) (.val (.int v1)) (.val (.int v2)) (.val (.int v3)) (.val (.int (Int32.ofNat (A + xs.length)))) X0 hx hZ hw hby hml hown e0 hb
    rw [hbit, own_app_f]
    exact ⟨T1, h0, locs, f, X1, e1, F, V, Keep.refl _ _, N, st1⟩
  · have hbit : own_bit 1 mask = true := own_bit_t hb
    rw [hbit, own_app_t, own_len1]
    obtain ⟨cl, Ar, S, H⟩ := F
    obtain ⟨T1, h1, X1, e1, Ar1, K1, st1⟩ := own_put0 a (.val (.int at_)) mask v0 (.val (.int v1)) (.val (.int v2)) (.val (.int v3)) (Int32.ofNat (A + xs.length)) cl X0 hx hZ hw hby hml hown e0 Ar (own_in S hlen) hb
    rw [own_more] at st1
    rw [own_clamp hlen] at Ar1
    exact ⟨T1, h1, _, _, X1, e1, OwnA.put Ar1 S H hlen, OwnV.put V, K1, Fr.snoc X1 N g, st1⟩
theorem d1_17 : decode method_3_code 17 = .ok (.iload_n 2, 1) := by decide +kernel
theorem d1_18 : decode method_3_code 18 = .ok (.iconst 2, 1) := by decide +kernel
theorem d1_19 : decode method_3_code 19 = .ok (.iand, 1) := by decide +kernel
theorem d1_20 : decode method_3_code 20 = .ok (.ifCond .eq 12, 3) := by decide +kernel
set_option maxRecDepth 65536 in
set_option maxHeartbeats 40000000 in
theorem own_skip1 {p : Program} {l : Launch} {e : Env} {R : Room} {s : State} {m : MethodId} {args : Array Value} {below : List Frame} {meth : Method} {c : Code} {T0 : State} {locs : List Loc} {cells slots : Nat} {Z : State} {a0 : Array Value} {h0 : Heap} (s0 : Slot) (s1 : Slot) (i2 : Int32) (s3 : Slot) (s4 : Slot) (s5 : Slot) (s6 : Slot) (s7 : Slot)
    (X0 : Stand p l e R s m args below meth c T0 locs cells slots) (hx : p.tables.exec = Jvm.exec) (hZ : Z.Warmed39 s.vm) (hw : ∀ d ∈ tables_1, d.before a0 Z = true) (hby : c.code = method_3_code) (hml : c.maxLocals = 8) (hown : s.vm.findClass "com/example/godwit/godwit/faults/SymbolsIsSubsetPinLaw" = some m.cls) (e0 : T0.heap = h0) (hc20 : (i2 &&& (2 : Int32)) = (0 : Int32)) :
    ∃ (T' : State), Stand p l e R s m args below meth c T' locs cells slots ∧ T'.heap = h0 ∧
      ∀ target, Steps p.tables e below (T'.setTop (mkF m 32 #[s0, s1, .val (.int i2), s3, s4, s5, s6, s7] [])) target → Steps p.tables e below (T0.setTop (mkF m 17 #[s0, s1, .val (.int i2), s3, s4, s5, s6, s7] [])) target := by

  refine ⟨T0, X0, e0, fun target kt => ?_⟩
  show Steps p.tables e below (T0.setTop (mkF m 17 #[s0, s1, .val (.int i2), s3, s4, s5, s6, s7] [])) _
  refine XS.iloadN X0.here hx rfl (hb hby d1_17) rfl ?_
  show Steps p.tables e below (T0.setTop (mkF m 18 #[s0, s1, .val (.int i2), s3, s4, s5, s6, s7] [(.int i2)])) _
  refine XS.iconst X0.here hx rfl (hb hby d1_18) ?_
  show Steps p.tables e below (T0.setTop (mkF m 19 #[s0, s1, .val (.int i2), s3, s4, s5, s6, s7] [(.int (2 : Int32)), (.int i2)])) _
  refine XS.iand X0.here hx rfl (hb hby d1_19) rfl ?_
  show Steps p.tables e below (T0.setTop (mkF m 20 #[s0, s1, .val (.int i2), s3, s4, s5, s6, s7] [(.int (i2 &&& (2 : Int32)))])) _
  refine XS.ifYes X0.here hx rfl (pc0 := 20) (pc' := 32) rfl (hb hby d1_20) rfl ((if0 _ _).trans (teq hc20).1) (by decide) (by decide) ?_
  exact kt
theorem d1_23 : decode method_3_code 23 = .ok (.aload_n 0, 1) := by decide +kernel
theorem d1_24 : decode method_3_code 24 = .ok (.iload 7, 2) := by decide +kernel
theorem d1_26 : decode method_3_code 26 = .ok (.iload 4, 2) := by decide +kernel
theorem d1_28 : decode method_3_code 28 = .ok (.iastore, 1) := by decide +kernel
theorem d1_29 : decode method_3_code 29 = .ok (.iinc 7 1, 3) := by decide +kernel
set_option maxRecDepth 65536 in
set_option maxHeartbeats 40000000 in
theorem own_put1 {p : Program} {l : Launch} {e : Env} {R : Room} {s : State} {m : MethodId} {args : Array Value} {below : List Frame} {meth : Method} {c : Code} {T0 : State} {locs : List Loc} {cells slots : Nat} {Z : State} {a0 : Array Value} {h0 : Heap} (o0 : Addr) (s1 : Slot) (i2 : Int32) (s3 : Slot) (i4 : Int32) (s5 : Slot) (s6 : Slot) (i7 : Int32) (cl_o0 : Cell)
    (X0 : Stand p l e R s m args below meth c T0 locs cells slots) (hx : p.tables.exec = Jvm.exec) (hZ : Z.Warmed39 s.vm) (hw : ∀ d ∈ tables_1, d.before a0 Z = true) (hby : c.code = method_3_code) (hml : c.maxLocals = 8) (hown : s.vm.findClass "com/example/godwit/godwit/faults/SymbolsIsSubsetPinLaw" = some m.cls) (e0 : T0.heap = h0) (Ar_o0 : Arr Z h0 o0 cl_o0 .int) (hin28 : ¬ (i7 < 0 ∨ cl_o0.slots.size ≤ (i7).toNatClampNeg)) (hc20 : ¬ ((i2 &&& (2 : Int32)) = (0 : Int32))) :
    ∃ (T' : State) (h' : Heap), Stand p l e R s m args below meth c T' (locs ++ [⟨o0, i7.toNatClampNeg⟩]) cells slots ∧ T'.heap = h' ∧ Arr Z h' o0 (cl_o0.setSlot i7.toNatClampNeg (.int i4)) .int ∧ Keep h0 h' [o0] ∧
      ∀ target, Steps p.tables e below (T'.setTop (mkF m 32 #[.val (.ref o0), s1, .val (.int i2), s3, .val (.int i4), s5, s6, .val (.int (i7 + (1 : Int32)))] [])) target → Steps p.tables e below (T0.setTop (mkF m 17 #[.val (.ref o0), s1, .val (.int i2), s3, .val (.int i4), s5, s6, .val (.int i7)] [])) target := by
  obtain ⟨T8, h8, X8, e8, W8, st8⟩ := stI X0 hx hZ e0 Ar_o0 (j := i7) hin28 (g := (mkF m 28 #[.val (.ref o0), s1, .val (.int i2), s3, .val (.int i4), s5, s6, .val (.int i7)] [(.int i4), (.int i7), (.ref o0)])) rfl rfl (hb hby d1_28)
  have K8 : Keep h0 h8 [o0] := (Keep.refl h0 [o0]).wr W8 (Or.inl (List.mem_of_getElem? (i := 0) rfl))
  refine ⟨T8, _, X8, e8, Arr.same W8 Ar_o0, K8, fun target kt => ?_⟩
  show Steps p.tables e below (T0.setTop (mkF m 17 #[.val (.ref o0), s1, .val (.int i2), s3, .val (.int i4), s5, s6, .val (.int i7)] [])) _
  refine XS.iloadN X0.here hx rfl (hb hby d1_17) rfl ?_
  show Steps p.tables e below (T0.setTop (mkF m 18 #[.val (.ref o0), s1, .val (.int i2), s3, .val (.int i4), s5, s6, .val (.int i7)] [(.int i2)])) _
  refine XS.iconst X0.here hx rfl (hb hby d1_18) ?_
  show Steps p.tables e below (T0.setTop (mkF m 19 #[.val (.ref o0), s1, .val (.int i2), s3, .val (.int i4), s5, s6, .val (.int i7)] [(.int (2 : Int32)), (.int i2)])) _
  refine XS.iand X0.here hx rfl (hb hby d1_19) rfl ?_
  show Steps p.tables e below (T0.setTop (mkF m 20 #[.val (.ref o0), s1, .val (.int i2), s3, .val (.int i4), s5, s6, .val (.int i7)] [(.int (i2 &&& (2 : Int32)))])) _
  refine XS.ifNo X0.here hx rfl (hb hby d1_20) rfl ((if0 _ _).trans (feq hc20).1) ?_
  show Steps p.tables e below (T0.setTop (mkF m 23 #[.val (.ref o0), s1, .val (.int i2), s3, .val (.int i4), s5, s6, .val (.int i7)] [])) _
  refine XS.aloadN X0.here hx rfl (hb hby d1_23) rfl rfl ?_
  show Steps p.tables e below (T0.setTop (mkF m 24 #[.val (.ref o0), s1, .val (.int i2), s3, .val (.int i4), s5, s6, .val (.int i7)] [(.ref o0)])) _
  refine XS.iload X0.here hx rfl (hb hby d1_24) rfl ?_
  show Steps p.tables e below (T0.setTop (mkF m 26 #[.val (.ref o0), s1, .val (.int i2), s3, .val (.int i4), s5, s6, .val (.int i7)] [(.int i7), (.ref o0)])) _
  refine XS.iload X0.here hx rfl (hb hby d1_26) rfl ?_
  show Steps p.tables e below (T0.setTop (mkF m 28 #[.val (.ref o0), s1, .val (.int i2), s3, .val (.int i4), s5, s6, .val (.int i7)] [(.int i4), (.int i7), (.ref o0)])) _
  refine st8 _ ?_
  show Steps p.tables e below (T8.setTop (mkF m 29 #[.val (.ref o0), s1, .val (.int i2), s3, .val (.int i4), s5, s6, .val (.int i7)] [])) _
  refine XS.iinc X8.here hx rfl (hb hby d1_29) rfl (l' := #[.val (.ref o0), s1, .val (.int i2), s3, .val (.int i4), s5, s6, .val (.int (i7 + (1 : Int32)))]) rfl ?_
  exact kt
set_option maxHeartbeats 4000000 in
theorem own_seg1 {p : Program} {l : Launch} {e : Env} {R : Room} {s : State} {m : MethodId} {args : Array Value} {below : List Frame} {meth : Method} {c : Code} {T0 : State} {locs : List Loc} {cells slots : Nat} {Z : State} {a0 : Array Value} {h0 : Heap} {n0 : Nat} (a : Addr) (at_ mask v0 v1 v2 v3 : Int32) (A : Nat) (xs : List Int32) (f : Nat → Int32)
    (X0 : Stand p l e R s m args below meth c T0 locs cells slots) (hx : p.tables.exec = Jvm.exec) (hZ : Z.Warmed39 s.vm) (hw : ∀ d ∈ tables_1, d.before a0 Z = true) (hby : c.code = method_3_code) (hml : c.maxLocals = 8) (hown : s.vm.findClass "com/example/godwit/godwit/faults/SymbolsIsSubsetPinLaw" = some m.cls) (e0 : T0.heap = h0) (F : OwnA Z h0 a f) (V : OwnV f A xs) (hlen : A + xs.length < 8) (g : n0 ≤ a) (N : Fr n0 locs) :
    ∃ (T' : State) (h' : Heap) (locs' : List Loc) (f' : Nat → Int32), Stand p l e R s m args below meth c T' locs' cells slots ∧ T'.heap = h' ∧ OwnA Z h' a f' ∧ OwnV f' A (xs ++ if own_bit 2 mask then [v1] else []) ∧ Keep h0 h' [a] ∧ Fr n0 locs' ∧
      ∀ target, Steps p.tables e below (T'.setTop (mkF m 32 #[.val (.ref a), .val (.int at_), .val (.int mask), .val (.int v0), .val (.int v1), .val (.int v2), .val (.int v3), .val (.int (Int32.ofNat (A + (xs ++ if own_bit 2 mask then [v1] else []).length)))] [])) target → Steps p.tables e below (T0.setTop (mkF m 17 #[.val (.ref a), .val (.int at_), .val (.int mask), .val (.int v0), .val (.int v1), .val (.int v2), .val (.int v3), .val (.int (Int32.ofNat (A + xs.length)))] [])) target := by
  by_cases hb : mask &&& (2 : Int32) = 0
  · have hbit : own_bit 2 mask = false := own_bit_f hb
    obtain ⟨T1, X1, e1, st1⟩ := own_skip1 (.val (.ref a)) (.val (.int at_)) mask (.val (.int v0)) (.val (.int v1)) (.val (.int v2)) (.val (.int v3)) (.val (.int (Int32.ofNat (A + xs.length)))) X0 hx hZ hw hby hml hown e0 hb
    rw [hbit, own_app_f]
    exact ⟨T1, h0, locs, f, X1, e1, F, V, Keep.refl _ _, N, st1⟩
  · have hbit : own_bit 2 mask = true := own_bit_t hb
    rw [hbit, own_app_t, own_len1]
    obtain ⟨cl, Ar, S, H⟩ := F
    obtain ⟨T1, h1, X1, e1, Ar1, K1, st1⟩ := own_put1 a (.val (.int at_)) mask (.val (.int v0)) v1 (.val (.int v2)) (.val (.int v3)) (Int32.ofNat (A + xs.length)) cl X0 hx hZ hw hby hml hown e0 Ar (own_in S hlen) hb
    rw [own_more] at st1
    rw [own_clamp hlen] at Ar1
    exact ⟨T1, h1, _, _, X1, e1, OwnA.put Ar1 S H hlen, OwnV.put V, K1, Fr.snoc X1 N g, st1⟩
theorem d1_32 : decode method_3_code 32 = .ok (.iload_n 2, 1) := by decide +kernel
theorem d1_33 : decode method_3_code 33 = .ok (.iconst 4, 1) := by decide +kernel
theorem d1_34 : decode method_3_code 34 = .ok (.iand, 1) := by decide +kernel
theorem d1_35 : decode method_3_code 35 = .ok (.ifCond .eq 12, 3) := by decide +kernel
set_option maxRecDepth 65536 in
set_option maxHeartbeats 40000000 in
theorem own_skip2 {p : Program} {l : Launch} {e : Env} {R : Room} {s : State} {m : MethodId} {args : Array Value} {below : List Frame} {meth : Method} {c : Code} {T0 : State} {locs : List Loc} {cells slots : Nat} {Z : State} {a0 : Array Value} {h0 : Heap} (s0 : Slot) (s1 : Slot) (i2 : Int32) (s3 : Slot) (s4 : Slot) (s5 : Slot) (s6 : Slot) (s7 : Slot)
    (X0 : Stand p l e R s m args below meth c T0 locs cells slots) (hx : p.tables.exec = Jvm.exec) (hZ : Z.Warmed39 s.vm) (hw : ∀ d ∈ tables_1, d.before a0 Z = true) (hby : c.code = method_3_code) (hml : c.maxLocals = 8) (hown : s.vm.findClass "com/example/godwit/godwit/faults/SymbolsIsSubsetPinLaw" = some m.cls) (e0 : T0.heap = h0) (hc35 : (i2 &&& (4 : Int32)) = (0 : Int32)) :
    ∃ (T' : State), Stand p l e R s m args below meth c T' locs cells slots ∧ T'.heap = h0 ∧
      ∀ target, Steps p.tables e below (T'.setTop (mkF m 47 #[s0, s1, .val (.int i2), s3, s4, s5, s6, s7] [])) target → Steps p.tables e below (T0.setTop (mkF m 32 #[s0, s1, .val (.int i2), s3, s4, s5, s6, s7] [])) target := by

  refine ⟨T0, X0, e0, fun target kt => ?_⟩
  show Steps p.tables e below (T0.setTop (mkF m 32 #[s0, s1, .val (.int i2), s3, s4, s5, s6, s7] [])) _
  refine XS.iloadN X0.here hx rfl (hb hby d1_32) rfl ?_
  show Steps p.tables e below (T0.setTop (mkF m 33 #[s0, s1, .val (.int i2), s3, s4, s5, s6, s7] [(.int i2)])) _
  refine XS.iconst X0.here hx rfl (hb hby d1_33) ?_
  show Steps p.tables e below (T0.setTop (mkF m 34 #[s0, s1, .val (.int i2), s3, s4, s5, s6, s7] [(.int (4 : Int32)), (.int i2)])) _
  refine XS.iand X0.here hx rfl (hb hby d1_34) rfl ?_
  show Steps p.tables e below (T0.setTop (mkF m 35 #[s0, s1, .val (.int i2), s3, s4, s5, s6, s7] [(.int (i2 &&& (4 : Int32)))])) _
  refine XS.ifYes X0.here hx rfl (pc0 := 35) (pc' := 47) rfl (hb hby d1_35) rfl ((if0 _ _).trans (teq hc35).1) (by decide) (by decide) ?_
  exact kt
theorem d1_38 : decode method_3_code 38 = .ok (.aload_n 0, 1) := by decide +kernel
theorem d1_39 : decode method_3_code 39 = .ok (.iload 7, 2) := by decide +kernel
theorem d1_41 : decode method_3_code 41 = .ok (.iload 5, 2) := by decide +kernel
theorem d1_43 : decode method_3_code 43 = .ok (.iastore, 1) := by decide +kernel
theorem d1_44 : decode method_3_code 44 = .ok (.iinc 7 1, 3) := by decide +kernel
set_option maxRecDepth 65536 in
set_option maxHeartbeats 40000000 in
theorem own_put2 {p : Program} {l : Launch} {e : Env} {R : Room} {s : State} {m : MethodId} {args : Array Value} {below : List Frame} {meth : Method} {c : Code} {T0 : State} {locs : List Loc} {cells slots : Nat} {Z : State} {a0 : Array Value} {h0 : Heap} (o0 : Addr) (s1 : Slot) (i2 : Int32) (s3 : Slot) (s4 : Slot) (i5 : Int32) (s6 : Slot) (i7 : Int32) (cl_o0 : Cell)
    (X0 : Stand p l e R s m args below meth c T0 locs cells slots) (hx : p.tables.exec = Jvm.exec) (hZ : Z.Warmed39 s.vm) (hw : ∀ d ∈ tables_1, d.before a0 Z = true) (hby : c.code = method_3_code) (hml : c.maxLocals = 8) (hown : s.vm.findClass "com/example/godwit/godwit/faults/SymbolsIsSubsetPinLaw" = some m.cls) (e0 : T0.heap = h0) (Ar_o0 : Arr Z h0 o0 cl_o0 .int) (hin43 : ¬ (i7 < 0 ∨ cl_o0.slots.size ≤ (i7).toNatClampNeg)) (hc35 : ¬ ((i2 &&& (4 : Int32)) = (0 : Int32))) :
    ∃ (T' : State) (h' : Heap), Stand p l e R s m args below meth c T' (locs ++ [⟨o0, i7.toNatClampNeg⟩]) cells slots ∧ T'.heap = h' ∧ Arr Z h' o0 (cl_o0.setSlot i7.toNatClampNeg (.int i5)) .int ∧ Keep h0 h' [o0] ∧
      ∀ target, Steps p.tables e below (T'.setTop (mkF m 47 #[.val (.ref o0), s1, .val (.int i2), s3, s4, .val (.int i5), s6, .val (.int (i7 + (1 : Int32)))] [])) target → Steps p.tables e below (T0.setTop (mkF m 32 #[.val (.ref o0), s1, .val (.int i2), s3, s4, .val (.int i5), s6, .val (.int i7)] [])) target := by
  obtain ⟨T8, h8, X8, e8, W8, st8⟩ := stI X0 hx hZ e0 Ar_o0 (j := i7) hin43 (g := (mkF m 43 #[.val (.ref o0), s1, .val (.int i2), s3, s4, .val (.int i5), s6, .val (.int i7)] [(.int i5), (.int i7), (.ref o0)])) rfl rfl (hb hby d1_43)
  have K8 : Keep h0 h8 [o0] := (Keep.refl h0 [o0]).wr W8 (Or.inl (List.mem_of_getElem? (i := 0) rfl))
  refine ⟨T8, _, X8, e8, Arr.same W8 Ar_o0, K8, fun target kt => ?_⟩
  show Steps p.tables e below (T0.setTop (mkF m 32 #[.val (.ref o0), s1, .val (.int i2), s3, s4, .val (.int i5), s6, .val (.int i7)] [])) _
  refine XS.iloadN X0.here hx rfl (hb hby d1_32) rfl ?_
  show Steps p.tables e below (T0.setTop (mkF m 33 #[.val (.ref o0), s1, .val (.int i2), s3, s4, .val (.int i5), s6, .val (.int i7)] [(.int i2)])) _
  refine XS.iconst X0.here hx rfl (hb hby d1_33) ?_
  show Steps p.tables e below (T0.setTop (mkF m 34 #[.val (.ref o0), s1, .val (.int i2), s3, s4, .val (.int i5), s6, .val (.int i7)] [(.int (4 : Int32)), (.int i2)])) _
  refine XS.iand X0.here hx rfl (hb hby d1_34) rfl ?_
  show Steps p.tables e below (T0.setTop (mkF m 35 #[.val (.ref o0), s1, .val (.int i2), s3, s4, .val (.int i5), s6, .val (.int i7)] [(.int (i2 &&& (4 : Int32)))])) _
  refine XS.ifNo X0.here hx rfl (hb hby d1_35) rfl ((if0 _ _).trans (feq hc35).1) ?_
  show Steps p.tables e below (T0.setTop (mkF m 38 #[.val (.ref o0), s1, .val (.int i2), s3, s4, .val (.int i5), s6, .val (.int i7)] [])) _
  refine XS.aloadN X0.here hx rfl (hb hby d1_38) rfl rfl ?_
  show Steps p.tables e below (T0.setTop (mkF m 39 #[.val (.ref o0), s1, .val (.int i2), s3, s4, .val (.int i5), s6, .val (.int i7)] [(.ref o0)])) _
  refine XS.iload X0.here hx rfl (hb hby d1_39) rfl ?_
  show Steps p.tables e below (T0.setTop (mkF m 41 #[.val (.ref o0), s1, .val (.int i2), s3, s4, .val (.int i5), s6, .val (.int i7)] [(.int i7), (.ref o0)])) _
  refine XS.iload X0.here hx rfl (hb hby d1_41) rfl ?_
  show Steps p.tables e below (T0.setTop (mkF m 43 #[.val (.ref o0), s1, .val (.int i2), s3, s4, .val (.int i5), s6, .val (.int i7)] [(.int i5), (.int i7), (.ref o0)])) _
  refine st8 _ ?_
  show Steps p.tables e below (T8.setTop (mkF m 44 #[.val (.ref o0), s1, .val (.int i2), s3, s4, .val (.int i5), s6, .val (.int i7)] [])) _
  refine XS.iinc X8.here hx rfl (hb hby d1_44) rfl (l' := #[.val (.ref o0), s1, .val (.int i2), s3, s4, .val (.int i5), s6, .val (.int (i7 + (1 : Int32)))]) rfl ?_
  exact kt
set_option maxHeartbeats 4000000 in
theorem own_seg2 {p : Program} {l : Launch} {e : Env} {R : Room} {s : State} {m : MethodId} {args : Array Value} {below : List Frame} {meth : Method} {c : Code} {T0 : State} {locs : List Loc} {cells slots : Nat} {Z : State} {a0 : Array Value} {h0 : Heap} {n0 : Nat} (a : Addr) (at_ mask v0 v1 v2 v3 : Int32) (A : Nat) (xs : List Int32) (f : Nat → Int32)
    (X0 : Stand p l e R s m args below meth c T0 locs cells slots) (hx : p.tables.exec = Jvm.exec) (hZ : Z.Warmed39 s.vm) (hw : ∀ d ∈ tables_1, d.before a0 Z = true) (hby : c.code = method_3_code) (hml : c.maxLocals = 8) (hown : s.vm.findClass "com/example/godwit/godwit/faults/SymbolsIsSubsetPinLaw" = some m.cls) (e0 : T0.heap = h0) (F : OwnA Z h0 a f) (V : OwnV f A xs) (hlen : A + xs.length < 8) (g : n0 ≤ a) (N : Fr n0 locs) :
    ∃ (T' : State) (h' : Heap) (locs' : List Loc) (f' : Nat → Int32), Stand p l e R s m args below meth c T' locs' cells slots ∧ T'.heap = h' ∧ OwnA Z h' a f' ∧ OwnV f' A (xs ++ if own_bit 4 mask then [v2] else []) ∧ Keep h0 h' [a] ∧ Fr n0 locs' ∧
      ∀ target, Steps p.tables e below (T'.setTop (mkF m 47 #[.val (.ref a), .val (.int at_), .val (.int mask), .val (.int v0), .val (.int v1), .val (.int v2), .val (.int v3), .val (.int (Int32.ofNat (A + (xs ++ if own_bit 4 mask then [v2] else []).length)))] [])) target → Steps p.tables e below (T0.setTop (mkF m 32 #[.val (.ref a), .val (.int at_), .val (.int mask), .val (.int v0), .val (.int v1), .val (.int v2), .val (.int v3), .val (.int (Int32.ofNat (A + xs.length)))] [])) target := by
  by_cases hb : mask &&& (4 : Int32) = 0
  · have hbit : own_bit 4 mask = false := own_bit_f hb
    obtain ⟨T1, X1, e1, st1⟩ := own_skip2 (.val (.ref a)) (.val (.int at_)) mask (.val (.int v0)) (.val (.int v1)) (.val (.int v2)) (.val (.int v3)) (.val (.int (Int32.ofNat (A + xs.length)))) X0 hx hZ hw hby hml hown e0 hb
    rw [hbit, own_app_f]
    exact ⟨T1, h0, locs, f, X1, e1, F, V, Keep.refl _ _, N, st1⟩
  · have hbit : own_bit 4 mask = true := own_bit_t hb
    rw [hbit, own_app_t, own_len1]
    obtain ⟨cl, Ar, S, H⟩ := F
    obtain ⟨T1, h1, X1, e1, Ar1, K1, st1⟩ := own_put2 a (.val (.int at_)) mask (.val (.int v0)) (.val (.int v1)) v2 (.val (.int v3)) (Int32.ofNat (A + xs.length)) cl X0 hx hZ hw hby hml hown e0 Ar (own_in S hlen) hb
    rw [own_more] at st1
    rw [own_clamp hlen] at Ar1
    exact ⟨T1, h1, _, _, X1, e1, OwnA.put Ar1 S H hlen, OwnV.put V, K1, Fr.snoc X1 N g, st1⟩
theorem d1_47 : decode method_3_code 47 = .ok (.iload_n 2, 1) := by decide +kernel
theorem d1_48 : decode method_3_code 48 = .ok (.bipush 8, 2) := by decide +kernel
theorem d1_50 : decode method_3_code 50 = .ok (.iand, 1) := by decide +kernel
theorem d1_51 : decode method_3_code 51 = .ok (.ifCond .eq 12, 3) := by decide +kernel
set_option maxRecDepth 65536 in
set_option maxHeartbeats 40000000 in
theorem own_skip3 {p : Program} {l : Launch} {e : Env} {R : Room} {s : State} {m : MethodId} {args : Array Value} {below : List Frame} {meth : Method} {c : Code} {T0 : State} {locs : List Loc} {cells slots : Nat} {Z : State} {a0 : Array Value} {h0 : Heap} (s0 : Slot) (s1 : Slot) (i2 : Int32) (s3 : Slot) (s4 : Slot) (s5 : Slot) (s6 : Slot) (s7 : Slot)
    (X0 : Stand p l e R s m args below meth c T0 locs cells slots) (hx : p.tables.exec = Jvm.exec) (hZ : Z.Warmed39 s.vm) (hw : ∀ d ∈ tables_1, d.before a0 Z = true) (hby : c.code = method_3_code) (hml : c.maxLocals = 8) (hown : s.vm.findClass "com/example/godwit/godwit/faults/SymbolsIsSubsetPinLaw" = some m.cls) (e0 : T0.heap = h0) (hc51 : (i2 &&& (8 : Int32)) = (0 : Int32)) :
    ∃ (T' : State), Stand p l e R s m args below meth c T' locs cells slots ∧ T'.heap = h0 ∧
      ∀ target, Steps p.tables e below (T'.setTop (mkF m 63 #[s0, s1, .val (.int i2), s3, s4, s5, s6, s7] [])) target → Steps p.tables e below (T0.setTop (mkF m 47 #[s0, s1, .val (.int i2), s3, s4, s5, s6, s7] [])) target := by

  refine ⟨T0, X0, e0, fun target kt => ?_⟩
  show Steps p.tables e below (T0.setTop (mkF m 47 #[s0, s1, .val (.int i2), s3, s4, s5, s6, s7] [])) _
  refine XS.iloadN X0.here hx rfl (hb hby d1_47) rfl ?_
  show Steps p.tables e below (T0.setTop (mkF m 48 #[s0, s1, .val (.int i2), s3, s4, s5, s6, s7] [(.int i2)])) _
  refine XS.bipush X0.here hx rfl (hb hby d1_48) ?_
  show Steps p.tables e below (T0.setTop (mkF m 50 #[s0, s1, .val (.int i2), s3, s4, s5, s6, s7] [(.int (8 : Int32)), (.int i2)])) _
  refine XS.iand X0.here hx rfl (hb hby d1_50) rfl ?_
  show Steps p.tables e below (T0.setTop (mkF m 51 #[s0, s1, .val (.int i2), s3, s4, s5, s6, s7] [(.int (i2 &&& (8 : Int32)))])) _
  refine XS.ifYes X0.here hx rfl (pc0 := 51) (pc' := 63) rfl (hb hby d1_51) rfl ((if0 _ _).trans (teq hc51).1) (by decide) (by decide) ?_
  exact kt
theorem d1_54 : decode method_3_code 54 = .ok (.aload_n 0, 1) := by decide +kernel
theorem d1_55 : decode method_3_code 55 = .ok (.iload 7, 2) := by decide +kernel
theorem d1_57 : decode method_3_code 57 = .ok (.iload 6, 2) := by decide +kernel
theorem d1_59 : decode method_3_code 59 = .ok (.iastore, 1) := by decide +kernel
theorem d1_60 : decode method_3_code 60 = .ok (.iinc 7 1, 3) := by decide +kernel
set_option maxRecDepth 65536 in
set_option maxHeartbeats 40000000 in
theorem own_put3 {p : Program} {l : Launch} {e : Env} {R : Room} {s : State} {m : MethodId} {args : Array Value} {below : List Frame} {meth : Method} {c : Code} {T0 : State} {locs : List Loc} {cells slots : Nat} {Z : State} {a0 : Array Value} {h0 : Heap} (o0 : Addr) (s1 : Slot) (i2 : Int32) (s3 : Slot) (s4 : Slot) (s5 : Slot) (i6 : Int32) (i7 : Int32) (cl_o0 : Cell)
    (X0 : Stand p l e R s m args below meth c T0 locs cells slots) (hx : p.tables.exec = Jvm.exec) (hZ : Z.Warmed39 s.vm) (hw : ∀ d ∈ tables_1, d.before a0 Z = true) (hby : c.code = method_3_code) (hml : c.maxLocals = 8) (hown : s.vm.findClass "com/example/godwit/godwit/faults/SymbolsIsSubsetPinLaw" = some m.cls) (e0 : T0.heap = h0) (Ar_o0 : Arr Z h0 o0 cl_o0 .int) (hin59 : ¬ (i7 < 0 ∨ cl_o0.slots.size ≤ (i7).toNatClampNeg)) (hc51 : ¬ ((i2 &&& (8 : Int32)) = (0 : Int32))) :
    ∃ (T' : State) (h' : Heap), Stand p l e R s m args below meth c T' (locs ++ [⟨o0, i7.toNatClampNeg⟩]) cells slots ∧ T'.heap = h' ∧ Arr Z h' o0 (cl_o0.setSlot i7.toNatClampNeg (.int i6)) .int ∧ Keep h0 h' [o0] ∧
      ∀ target, Steps p.tables e below (T'.setTop (mkF m 63 #[.val (.ref o0), s1, .val (.int i2), s3, s4, s5, .val (.int i6), .val (.int (i7 + (1 : Int32)))] [])) target → Steps p.tables e below (T0.setTop (mkF m 47 #[.val (.ref o0), s1, .val (.int i2), s3, s4, s5, .val (.int i6), .val (.int i7)] [])) target := by
  obtain ⟨T8, h8, X8, e8, W8, st8⟩ := stI X0 hx hZ e0 Ar_o0 (j := i7) hin59 (g := (mkF m 59 #[.val (.ref o0), s1, .val (.int i2), s3, s4, s5, .val (.int i6), .val (.int i7)] [(.int i6), (.int i7), (.ref o0)])) rfl rfl (hb hby d1_59)
  have K8 : Keep h0 h8 [o0] := (Keep.refl h0 [o0]).wr W8 (Or.inl (List.mem_of_getElem? (i := 0) rfl))
  refine ⟨T8, _, X8, e8, Arr.same W8 Ar_o0, K8, fun target kt => ?_⟩
  show Steps p.tables e below (T0.setTop (mkF m 47 #[.val (.ref o0), s1, .val (.int i2), s3, s4, s5, .val (.int i6), .val (.int i7)] [])) _
  refine XS.iloadN X0.here hx rfl (hb hby d1_47) rfl ?_
  show Steps p.tables e below (T0.setTop (mkF m 48 #[.val (.ref o0), s1, .val (.int i2), s3, s4, s5, .val (.int i6), .val (.int i7)] [(.int i2)])) _
  refine XS.bipush X0.here hx rfl (hb hby d1_48) ?_
  show Steps p.tables e below (T0.setTop (mkF m 50 #[.val (.ref o0), s1, .val (.int i2), s3, s4, s5, .val (.int i6), .val (.int i7)] [(.int (8 : Int32)), (.int i2)])) _
  refine XS.iand X0.here hx rfl (hb hby d1_50) rfl ?_
  show Steps p.tables e below (T0.setTop (mkF m 51 #[.val (.ref o0), s1, .val (.int i2), s3, s4, s5, .val (.int i6), .val (.int i7)] [(.int (i2 &&& (8 : Int32)))])) _
  refine XS.ifNo X0.here hx rfl (hb hby d1_51) rfl ((if0 _ _).trans (feq hc51).1) ?_
  show Steps p.tables e below (T0.setTop (mkF m 54 #[.val (.ref o0), s1, .val (.int i2), s3, s4, s5, .val (.int i6), .val (.int i7)] [])) _
  refine XS.aloadN X0.here hx rfl (hb hby d1_54) rfl rfl ?_
  show Steps p.tables e below (T0.setTop (mkF m 55 #[.val (.ref o0), s1, .val (.int i2), s3, s4, s5, .val (.int i6), .val (.int i7)] [(.ref o0)])) _
  refine XS.iload X0.here hx rfl (hb hby d1_55) rfl ?_
  show Steps p.tables e below (T0.setTop (mkF m 57 #[.val (.ref o0), s1, .val (.int i2), s3, s4, s5, .val (.int i6), .val (.int i7)] [(.int i7), (.ref o0)])) _
  refine XS.iload X0.here hx rfl (hb hby d1_57) rfl ?_
  show Steps p.tables e below (T0.setTop (mkF m 59 #[.val (.ref o0), s1, .val (.int i2), s3, s4, s5, .val (.int i6), .val (.int i7)] [(.int i6), (.int i7), (.ref o0)])) _
  refine st8 _ ?_
  show Steps p.tables e below (T8.setTop (mkF m 60 #[.val (.ref o0), s1, .val (.int i2), s3, s4, s5, .val (.int i6), .val (.int i7)] [])) _
  refine XS.iinc X8.here hx rfl (hb hby d1_60) rfl (l' := #[.val (.ref o0), s1, .val (.int i2), s3, s4, s5, .val (.int i6), .val (.int (i7 + (1 : Int32)))]) rfl ?_
  exact kt
set_option maxHeartbeats 4000000 in
theorem own_seg3 {p : Program} {l : Launch} {e : Env} {R : Room} {s : State} {m : MethodId} {args : Array Value} {below : List Frame} {meth : Method} {c : Code} {T0 : State} {locs : List Loc} {cells slots : Nat} {Z : State} {a0 : Array Value} {h0 : Heap} {n0 : Nat} (a : Addr) (at_ mask v0 v1 v2 v3 : Int32) (A : Nat) (xs : List Int32) (f : Nat → Int32)
    (X0 : Stand p l e R s m args below meth c T0 locs cells slots) (hx : p.tables.exec = Jvm.exec) (hZ : Z.Warmed39 s.vm) (hw : ∀ d ∈ tables_1, d.before a0 Z = true) (hby : c.code = method_3_code) (hml : c.maxLocals = 8) (hown : s.vm.findClass "com/example/godwit/godwit/faults/SymbolsIsSubsetPinLaw" = some m.cls) (e0 : T0.heap = h0) (F : OwnA Z h0 a f) (V : OwnV f A xs) (hlen : A + xs.length < 8) (g : n0 ≤ a) (N : Fr n0 locs) :
    ∃ (T' : State) (h' : Heap) (locs' : List Loc) (f' : Nat → Int32), Stand p l e R s m args below meth c T' locs' cells slots ∧ T'.heap = h' ∧ OwnA Z h' a f' ∧ OwnV f' A (xs ++ if own_bit 8 mask then [v3] else []) ∧ Keep h0 h' [a] ∧ Fr n0 locs' ∧
      ∀ target, Steps p.tables e below (T'.setTop (mkF m 63 #[.val (.ref a), .val (.int at_), .val (.int mask), .val (.int v0), .val (.int v1), .val (.int v2), .val (.int v3), .val (.int (Int32.ofNat (A + (xs ++ if own_bit 8 mask then [v3] else []).length)))] [])) target → Steps p.tables e below (T0.setTop (mkF m 47 #[.val (.ref a), .val (.int at_), .val (.int mask), .val (.int v0), .val (.int v1), .val (.int v2), .val (.int v3), .val (.int (Int32.ofNat (A + xs.length)))] [])) target := by
  by_cases hb : mask &&& (8 : Int32) = 0
  · have hbit : own_bit 8 mask = false := own_bit_f hb
    obtain ⟨T1, X1, e1, st1⟩ := own_skip3 (.val (.ref a)) (.val (.int at_)) mask (.val (.int v0)) (.val (.int v1)) (.val (.int v2)) (.val (.int v3)) (.val (.int (Int32.ofNat (A + xs.length)))) X0 hx hZ hw hby hml hown e0 hb
    rw [hbit, own_app_f]
    exact ⟨T1, h0, locs, f, X1, e1, F, V, Keep.refl _ _, N, st1⟩
  · have hbit : own_bit 8 mask = true := own_bit_t hb
    rw [hbit, own_app_t, own_len1]
    obtain ⟨cl, Ar, S, H⟩ := F
    obtain ⟨T1, h1, X1, e1, Ar1, K1, st1⟩ := own_put3 a (.val (.int at_)) mask (.val (.int v0)) (.val (.int v1)) (.val (.int v2)) v3 (Int32.ofNat (A + xs.length)) cl X0 hx hZ hw hby hml hown e0 Ar (own_in S hlen) hb
    rw [own_more] at st1
    rw [own_clamp hlen] at Ar1
    exact ⟨T1, h1, _, _, X1, e1, OwnA.put Ar1 S H hlen, OwnV.put V, K1, Fr.snoc X1 N g, st1⟩
def Q1 (Z : State) (a1 : Addr) (A : Nat) (xs : List Int32) (h0 : Heap) (n0 : Nat) (v : Option Value) (h : Heap) (L : List Loc) : Prop := v = some (.int (Int32.ofNat xs.length)) ∧ Fr n0 L ∧ Keep h0 h [a1] ∧ ∃ f', OwnA Z h a1 f' ∧ OwnV f' A xs
theorem d1_0 : decode method_3_code 0 = .ok (.iload_n 1, 1) := by decide +kernel
theorem d1_1 : decode method_3_code 1 = .ok (.istore 7, 2) := by decide +kernel
theorem d1_63 : decode method_3_code 63 = .ok (.iload 7, 2) := by decide +kernel
theorem d1_65 : decode method_3_code 65 = .ok (.iload_n 1, 1) := by decide +kernel
theorem d1_66 : decode method_3_code 66 = .ok (.isub, 1) := by decide +kernel
theorem d1_67 : decode method_3_code 67 = .ok (.ireturn, 1) := by decide +kernel
theorem pn_1 : plainName "com/example/godwit/godwit/faults/SymbolsIsSubsetPinLaw" = true := by first | (simp [plainName, overriddenIn]; done) | decide +kernel
theorem ef_1 (m : MethodId) (x0 : Addr) (x1 : Int32) (x2 : Int32) (x3 : Int32) (x4 : Int32) (x5 : Int32) (x6 : Int32) : entryFrame m #[(.ref x0), (.int x1), (.int x2), (.int x3), (.int x4), (.int x5), (.int x6)] 8 = mkF m 0 #[.val (.ref x0), .val (.int x1), .val (.int x2), .val (.int x3), .val (.int x4), .val (.int x5), .val (.int x6), .unset] [] := by first | (simp [entryFrame, mkF, argsToLocals, Value.category]; done) | rfl
set_option maxRecDepth 65536 in
set_option maxHeartbeats 40000000 in
theorem rm1 (l : Launch) (Z : State) (a0 : Array Value) (hw : ∀ d ∈ tables_1, d.before a0 Z = true) (ws : List Jvm.Cond) (a1 : Addr) (p2 : Int32) (p3 : Int32) (p4 : Int32) (p5 : Int32) (p6 : Int32) (p7 : Int32) (h0 : Heap) (n0 : Nat) (Z0 : n0 ≤ h0.size) (A : Nat) (f : Nat → Int32) (hat : p2 = Int32.ofNat A) (hA : A ≤ 3) (F : OwnA Z h0 a1 f) (g : n0 ≤ a1) :
    MetFree l (⟨"com/example/godwit/godwit/faults/SymbolsIsSubsetPinLaw", "place", "([IIIIIII)I"⟩ : MethodName) (head1 (Jvm.Cond.code (⟨"com/example/godwit/godwit/faults/SymbolsIsSubsetPinLaw", "place", "([IIIIIII)I"⟩ : MethodName) method_3_code 8 (some .int) :: ws) ({ frames := 0, cells := 0, slots := 0, locals := 0 } : Room)) (fun a U => a = #[(.ref a1), (.int p2), (.int p3), (.int p4), (.int p5), (.int p6), (.int p7)] ∧ Z.Warmed39 U.vm ∧ U.heap = h0) (fun _ _ _ _ _ => True) (fun _ U o U' => ∃ v L, o = .returned v ∧ Q1 Z a1 A (own_sel (own_bit 1 p3) (own_bit 2 p3) (own_bit 4 p3) (own_bit 8 p3) p4 p5 p6 p7) h0 n0 v U'.heap L ∧ FrameEnd U o U' L ({ frames := 0, cells := 0, slots := 0, locals := 0 } : Room).cells ({ frames := 0, cells := 0, slots := 0, locals := 0 } : Room).slots) := by
  refine MetFree.of_bodySF (plainFor_of_name pn_1) hisR ?_
  intro p e s m args below meth c s₁ Bd hml0 hP hK
  obtain ⟨rfl, hZ, hh⟩ := hP
  have hx := Bd.exec
  have hby := Bd.bytes
  have hml : c.maxLocals = 8 := hml0
  have hown : s.vm.findClass "com/example/godwit/godwit/faults/SymbolsIsSubsetPinLaw" = some m.cls := findClass_of_methodNamed Bd.named
  have hnm := (name_of_methodNamed Bd.named Bd.method).1
  have X0 : Stand p l e ({ frames := 0, cells := 0, slots := 0, locals := 0 } : Room) s m #[(.ref a1), (.int p2), (.int p3), (.int p4), (.int p5), (.int p6), (.int p7)] below meth c s₁ [] 0 0 := Stand.of_body Bd
  have e0 : s₁.heap = h0 := by rw [← hh, Bd.state]; rfl
  have N0 := Fr.nil n0
  have pre0 : ∀ t, Steps p.tables e below (s₁.setTop (mkF m 0 #[.val (.ref a1), .val (.int p2), .val (.int p3), .val (.int p4), .val (.int p5), .val (.int p6), .val (.int p7), .unset] [])) t → Steps p.tables e below (s₁.setTop (entryFrame m #[(.ref a1), (.int p2), (.int p3), (.int p4), (.int p5), (.int p6), (.int p7)] 8)) t := fun t k => castTop (ef_1 m a1 p2 p3 p4 p5 p6 p7) k
  subst hat
  have hl0 : ([] : List Int32).length ≤ 0 := by exact Nat.le_refl _
  obtain ⟨T1, h1, L1, f1, X1, e1, F1, V1, K1, N1, st1⟩ := own_seg0 a1 (Int32.ofNat A) p3 p4 p5 p6 p7 A ([] : List Int32) f X0 hx hZ hw hby hml hown e0 F (OwnV.nil f A) (by omega) g N0
  have KK1 : Keep h0 h1 [a1] := K1
  have hl1 : (([] : List Int32) ++ if own_bit 1 p3 then [p4] else []).length ≤ 1 := by exact own_len_le hl0 _ _
  obtain ⟨T2, h2, L2, f2, X2, e2, F2, V2, K2, N2, st2⟩ := own_seg1 a1 (Int32.ofNat A) p3 p4 p5 p6 p7 A (([] : List Int32) ++ if own_bit 1 p3 then [p4] else []) f1 X1 hx hZ hw hby hml hown e1 F1 V1 (by omega) g N1
  have KK2 : Keep h0 h2 [a1] := KK1.trans K2 (fun x q => Or.inl q)
  have hl2 : ((([] : List Int32) ++ if own_bit 1 p3 then [p4] else []) ++ if own_bit 2 p3 then [p5] else []).length ≤ 2 := by exact own_len_le hl1 _ _
  obtain ⟨T3, h3, L3, f3, X3, e3, F3, V3, K3, N3, st3⟩ := own_seg2 a1 (Int32.ofNat A) p3 p4 p5 p6 p7 A ((([] : List Int32) ++ if own_bit 1 p3 then [p4] else []) ++ if own_bit 2 p3 then [p5] else []) f2 X2 hx hZ hw hby hml hown e2 F2 V2 (by omega) g N2
  have KK3 : Keep h0 h3 [a1] := KK2.trans K3 (fun x q => Or.inl q)
  have hl3 : (((([] : List Int32) ++ if own_bit 1 p3 then [p4] else []) ++ if own_bit 2 p3 then [p5] else []) ++ if own_bit 4 p3 then [p6] else []).length ≤ 3 := by exact own_len_le hl2 _ _
  obtain ⟨T4, h4, L4, f4, X4, e4, F4, V4, K4, N4, st4⟩ := own_seg3 a1 (Int32.ofNat A) p3 p4 p5 p6 p7 A (((([] : List Int32) ++ if own_bit 1 p3 then [p4] else []) ++ if own_bit 2 p3 then [p5] else []) ++ if own_bit 4 p3 then [p6] else []) f3 X3 hx hZ hw hby hml hown e3 F3 V3 (by omega) g N3
  have KK4 : Keep h0 h4 [a1] := KK3.trans K4 (fun x q => Or.inl q)
  obtain ⟨fs, hr, hrun, hended, hW, hsame⟩ := X4.leave (v := some (.int ((Int32.ofNat (A + ((((([] : List Int32) ++ if own_bit 1 p3 then [p4] else []) ++ if own_bit 2 p3 then [p5] else []) ++ if own_bit 4 p3 then [p6] else []) ++ if own_bit 8 p3 then [p7] else []).length)) - Int32.ofNat A))) (fun h => by rw [Bd.returns] at h; cases h)
  refine ⟨_, _, pre0 _ ?_, hrun, hended, _, _, rfl, ?_, ⟨_, rfl⟩, hW, hsame.mono (by decide) (by decide)⟩
  · show Steps p.tables e below (s₁.setTop (mkF m 0 #[.val (.ref a1), .val (.int (Int32.ofNat A)), .val (.int p3), .val (.int p4), .val (.int p5), .val (.int p6), .val (.int p7), .unset] [])) _
    refine XS.iloadN X0.here hx rfl (hb hby d1_0) rfl ?_
    show Steps p.tables e below (s₁.setTop (mkF m 1 #[.val (.ref a1), .val (.int (Int32.ofNat A)), .val (.int p3), .val (.int p4), .val (.int p5), .val (.int p6), .val (.int p7), .unset] [(.int (Int32.ofNat A))])) _
    refine XS.istore X0.here hx rfl (hb hby d1_1) rfl (l' := #[.val (.ref a1), .val (.int (Int32.ofNat A)), .val (.int p3), .val (.int p4), .val (.int p5), .val (.int p6), .val (.int p7), .val (.int (Int32.ofNat A))]) rfl ?_
    refine st1 _ ?_
    refine st2 _ ?_
    refine st3 _ ?_
    refine st4 _ ?_
    show Steps p.tables e below (T4.setTop (mkF m 63 #[.val (.ref a1), .val (.int (Int32.ofNat A)), .val (.int p3), .val (.int p4), .val (.int p5), .val (.int p6), .val (.int p7), .val (.int (Int32.ofNat (A + ((((([] : List Int32) ++ if own_bit 1 p3 then [p4] else []) ++ if own_bit 2 p3 then [p5] else []) ++ if own_bit 4 p3 then [p6] else []) ++ if own_bit 8 p3 then [p7] else []).length)))] [])) _
    refine XS.iload X4.here hx rfl (hb hby d1_63) rfl ?_
    show Steps p.tables e below (T4.setTop (mkF m 65 #[.val (.ref a1), .val (.int (Int32.ofNat A)), .val (.int p3), .val (.int p4), .val (.int p5), .val (.int p6), .val (.int p7), .val (.int (Int32.ofNat (A + ((((([] : List Int32) ++ if own_bit 1 p3 then [p4] else []) ++ if own_bit 2 p3 then [p5] else []) ++ if own_bit 4 p3 then [p6] else []) ++ if own_bit 8 p3 then [p7] else []).length)))] [(.int (Int32.ofNat (A + ((((([] : List Int32) ++ if own_bit 1 p3 then [p4] else []) ++ if own_bit 2 p3 then [p5] else []) ++ if own_bit 4 p3 then [p6] else []) ++ if own_bit 8 p3 then [p7] else []).length)))])) _
    refine XS.iloadN X4.here hx rfl (hb hby d1_65) rfl ?_
    show Steps p.tables e below (T4.setTop (mkF m 66 #[.val (.ref a1), .val (.int (Int32.ofNat A)), .val (.int p3), .val (.int p4), .val (.int p5), .val (.int p6), .val (.int p7), .val (.int (Int32.ofNat (A + ((((([] : List Int32) ++ if own_bit 1 p3 then [p4] else []) ++ if own_bit 2 p3 then [p5] else []) ++ if own_bit 4 p3 then [p6] else []) ++ if own_bit 8 p3 then [p7] else []).length)))] [(.int (Int32.ofNat A)), (.int (Int32.ofNat (A + ((((([] : List Int32) ++ if own_bit 1 p3 then [p4] else []) ++ if own_bit 2 p3 then [p5] else []) ++ if own_bit 4 p3 then [p6] else []) ++ if own_bit 8 p3 then [p7] else []).length)))])) _
    refine XS.isub X4.here hx rfl (hb hby d1_66) rfl ?_
    show Steps p.tables e below (T4.setTop (mkF m 67 #[.val (.ref a1), .val (.int (Int32.ofNat A)), .val (.int p3), .val (.int p4), .val (.int p5), .val (.int p6), .val (.int p7), .val (.int (Int32.ofNat (A + ((((([] : List Int32) ++ if own_bit 1 p3 then [p4] else []) ++ if own_bit 2 p3 then [p5] else []) ++ if own_bit 4 p3 then [p6] else []) ++ if own_bit 8 p3 then [p7] else []).length)))] [(.int ((Int32.ofNat (A + ((((([] : List Int32) ++ if own_bit 1 p3 then [p4] else []) ++ if own_bit 2 p3 then [p5] else []) ++ if own_bit 4 p3 then [p6] else []) ++ if own_bit 8 p3 then [p7] else []).length)) - Int32.ofNat A))])) _
    exact retI X4 hx Bd.returns (hb hby d1_67) hr
  · show Q1 Z a1 A (own_sel (own_bit 1 p3) (own_bit 2 p3) (own_bit 4 p3) (own_bit 8 p3) p4 p5 p6 p7) h0 n0 _ T4.heap _
    rw [e4]
    exact ⟨by rw [own_back]; rfl, N4, KK4, f4, F4, V4⟩
theorem d2_6 : decode prog_87_method_18_code 6 = .ok (.iload 6, 2) := by decide +kernel
theorem d2_8 : decode prog_87_method_18_code 8 = .ok (.iload_n 2, 1) := by decide +kernel
theorem d2_9 : decode prog_87_method_18_code 9 = .ok (.if_icmp .ge 73, 3) := by decide +kernel
theorem d2_12 : decode prog_87_method_18_code 12 = .ok (.iload 7, 2) := by decide +kernel
theorem d2_14 : decode prog_87_method_18_code 14 = .ok (.iload 5, 2) := by decide +kernel
theorem d2_16 : decode prog_87_method_18_code 16 = .ok (.if_icmp .ge 66, 3) := by decide +kernel
theorem d2_19 : decode prog_87_method_18_code 19 = .ok (.aload_n 0, 1) := by decide +kernel
theorem d2_20 : decode prog_87_method_18_code 20 = .ok (.iload_n 1, 1) := by decide +kernel
theorem d2_21 : decode prog_87_method_18_code 21 = .ok (.iload 6, 2) := by decide +kernel
theorem d2_23 : decode prog_87_method_18_code 23 = .ok (.iadd, 1) := by decide +kernel
theorem d2_24 : decode prog_87_method_18_code 24 = .ok (.iaload, 1) := by decide +kernel
theorem d2_25 : decode prog_87_method_18_code 25 = .ok (.istore 8, 2) := by decide +kernel
theorem d2_27 : decode prog_87_method_18_code 27 = .ok (.aload_n 3, 1) := by decide +kernel
theorem d2_28 : decode prog_87_method_18_code 28 = .ok (.iload 4, 2) := by decide +kernel
theorem d2_30 : decode prog_87_method_18_code 30 = .ok (.iload 7, 2) := by decide +kernel
theorem d2_32 : decode prog_87_method_18_code 32 = .ok (.iadd, 1) := by decide +kernel
theorem d2_33 : decode prog_87_method_18_code 33 = .ok (.iaload, 1) := by decide +kernel
theorem d2_34 : decode prog_87_method_18_code 34 = .ok (.istore 9, 2) := by decide +kernel
theorem d2_36 : decode prog_87_method_18_code 36 = .ok (.iload 6, 2) := by decide +kernel
theorem d2_38 : decode prog_87_method_18_code 38 = .ok (.iload 8, 2) := by decide +kernel
theorem d2_40 : decode prog_87_method_18_code 40 = .ok (.iload 9, 2) := by decide +kernel
theorem d2_42 : decode prog_87_method_18_code 42 = .ok (.if_icmp .ne 7, 3) := by decide +kernel
theorem d2_45 : decode prog_87_method_18_code 45 = .ok (.iconst 1, 1) := by decide +kernel
theorem d2_46 : decode prog_87_method_18_code 46 = .ok (.goto 4, 3) := by decide +kernel
theorem d2_50 : decode prog_87_method_18_code 50 = .ok (.iadd, 1) := by decide +kernel
theorem d2_51 : decode prog_87_method_18_code 51 = .ok (.istore 6, 2) := by decide +kernel
theorem d2_53 : decode prog_87_method_18_code 53 = .ok (.iload 7, 2) := by decide +kernel
theorem d2_55 : decode prog_87_method_18_code 55 = .ok (.iload 8, 2) := by decide +kernel
theorem d2_57 : decode prog_87_method_18_code 57 = .ok (.iload 9, 2) := by decide +kernel
theorem d2_59 : decode prog_87_method_18_code 59 = .ok (.if_icmp .lt 7, 3) := by decide +kernel
theorem d2_62 : decode prog_87_method_18_code 62 = .ok (.iconst 1, 1) := by decide +kernel
theorem d2_63 : decode prog_87_method_18_code 63 = .ok (.goto 4, 3) := by decide +kernel
theorem d2_67 : decode prog_87_method_18_code 67 = .ok (.iadd, 1) := by decide +kernel
theorem d2_68 : decode prog_87_method_18_code 68 = .ok (.istore 7, 2) := by decide +kernel
theorem d2_70 : decode prog_87_method_18_code 70 = .ok (.iload 8, 2) := by decide +kernel
theorem d2_72 : decode prog_87_method_18_code 72 = .ok (.iload 9, 2) := by decide +kernel
theorem d2_74 : decode prog_87_method_18_code 74 = .ok (.if_icmp .ge 5, 3) := by decide +kernel
theorem d2_79 : decode prog_87_method_18_code 79 = .ok (.goto (-73), 3) := by decide +kernel
theorem os2_25 {z0 : Value} {z1 : Value} {z2 : Value} {z3 : Value} {z4 : Value} {z5 : Value} {z6 : Value} {z7 : Value} {s8 : Slot} {s9 : Slot} {v : Int32} (h : One s8) : storeLocals #[.val z0, .val z1, .val z2, .val z3, .val z4, .val z5, .val z6, .val z7, s8, s9] 8 (.int v) = some #[.val z0, .val z1, .val z2, .val z3, .val z4, .val z5, .val z6, .val z7, .val (.int v), s9] := by
  rcases h with rfl | ⟨w, rfl, hw⟩
  · rfl
  · cases w <;> first | rfl | (simp [Value.category] at hw)
theorem os2_34 {z0 : Value} {z1 : Value} {z2 : Value} {z3 : Value} {z4 : Value} {z5 : Value} {z6 : Value} {z7 : Value} {z8 : Value} {s9 : Slot} {v : Int32} (h : One s9) : storeLocals #[.val z0, .val z1, .val z2, .val z3, .val z4, .val z5, .val z6, .val z7, .val z8, s9] 9 (.int v) = some #[.val z0, .val z1, .val z2, .val z3, .val z4, .val z5, .val z6, .val z7, .val z8, .val (.int v)] := by
  rcases h with rfl | ⟨w, rfl, hw⟩
  · rfl
  · cases w <;> first | rfl | (simp [Value.category] at hw)
set_option maxRecDepth 65536 in
set_option maxHeartbeats 40000000 in
theorem own_eqT {p : Program} {l : Launch} {e : Env} {R : Room} {s : State} {m : MethodId} {args : Array Value} {below : List Frame} {meth : Method} {c : Code} {T0 : State} {locs : List Loc} {cells slots : Nat} {Z : State} {a0 : Array Value} {h0 : Heap} (o0 : Addr) (i1 : Int32) (i2 : Int32) (o3 : Addr) (i4 : Int32) (i5 : Int32) (i6 : Int32) (i7 : Int32) (s8 : Slot) (s9 : Slot) (w7 : Int32) (cl_o0 : Cell) (w8 : Int32) (cl_o3 : Cell)
    (X0 : Stand p l e R s m args below meth c T0 locs cells slots) (hx : p.tables.exec = Jvm.exec) (hZ : Z.Warmed39 s.vm) (hw : ∀ d ∈ tables_1, d.before a0 Z = true) (hby : c.code = prog_87_method_18_code) (hml : c.maxLocals = 10) (hown : s.vm.findClass "com/example/godwit/godwit/faults/Symbols" = some m.cls) (e0 : T0.heap = h0) (Ar_o0 : Arr Z h0 o0 cl_o0 .int) (hin24 : ¬ ((i1 + i6) < 0 ∨ cl_o0.slots.size ≤ ((i1 + i6)).toNatClampNeg)) (hat24 : cl_o0.slots[((i1 + i6)).toNatClampNeg]? = some (.int w7)) (hs8 : One s8) (Ar_o3 : Arr Z h0 o3 cl_o3 .int) (hin33 : ¬ ((i4 + i7) < 0 ∨ cl_o3.slots.size ≤ ((i4 + i7)).toNatClampNeg)) (hat33 : cl_o3.slots[((i4 + i7)).toNatClampNeg]? = some (.int w8)) (hs9 : One s9) (hc9 : i6 < i2) (hc16 : i7 < i5) (hc42 : w7 = w8) (hc59 : ¬ (w7 < w8)) (hc74 : ¬ (w7 < w8)) :
    ∃ (T' : State), Stand p l e R s m args below meth c T' locs cells slots ∧ T'.heap = h0 ∧
      ∀ target, Steps p.tables e below (T'.setTop (mkF m 6 #[.val (.ref o0), .val (.int i1), .val (.int i2), .val (.ref o3), .val (.int i4), .val (.int i5), .val (.int (i6 + (1 : Int32))), .val (.int (i7 + (1 : Int32))), .val (.int w7), .val (.int w8)] [])) target → Steps p.tables e below (T0.setTop (mkF m 6 #[.val (.ref o0), .val (.int i1), .val (.int i2), .val (.ref o3), .val (.int i4), .val (.int i5), .val (.int i6), .val (.int i7), s8, s9] [])) target := by

  refine ⟨T0, X0, e0, fun target kt => ?_⟩
  show Steps p.tables e below (T0.setTop (mkF m 6 #[.val (.ref o0), .val (.int i1), .val (.int i2), .val (.ref o3), .val (.int i4), .val (.int i5), .val (.int i6), .val (.int i7), s8, s9] [])) _
  refine XS.iload X0.here hx rfl (hb hby d2_6) rfl ?_
  show Steps p.tables e below (T0.setTop (mkF m 8 #[.val (.ref o0), .val (.int i1), .val (.int i2), .val (.ref o3), .val (.int i4), .val (.int i5), .val (.int i6), .val (.int i7), s8, s9] [(.int i6)])) _
  refine XS.iloadN X0.here hx rfl (hb hby d2_8) rfl ?_
  show Steps p.tables e below (T0.setTop (mkF m 9 #[.val (.ref o0), .val (.int i1), .val (.int i2), .val (.ref o3), .val (.int i4), .val (.int i5), .val (.int i6), .val (.int i7), s8, s9] [(.int i2), (.int i6)])) _
  refine XS.icmpNo X0.here hx rfl (hb hby d2_9) rfl (tlt hc9).2.1 ?_
  show Steps p.tables e below (T0.setTop (mkF m 12 #[.val (.ref o0), .val (.int i1), .val (.int i2), .val (.ref o3), .val (.int i4), .val (.int i5), .val (.int i6), .val (.int i7), s8, s9] [])) _
  refine XS.iload X0.here hx rfl (hb hby d2_12) rfl ?_
  show Steps p.tables e below (T0.setTop (mkF m 14 #[.val (.ref o0), .val (.int i1), .val (.int i2), .val (.ref o3), .val (.int i4), .val (.int i5), .val (.int i6), .val (.int i7), s8, s9] [(.int i7)])) _
  refine XS.iload X0.here hx rfl (hb hby d2_14) rfl ?_
  show Steps p.tables e below (T0.setTop (mkF m 16 #[.val (.ref o0), .val (.int i1), .val (.int i2), .val (.ref o3), .val (.int i4), .val (.int i5), .val (.int i6), .val (.int i7), s8, s9] [(.int i5), (.int i7)])) _
  refine XS.icmpNo X0.here hx rfl (hb hby d2_16) rfl (tlt hc16).2.1 ?_
  show Steps p.tables e below (T0.setTop (mkF m 19 #[.val (.ref o0), .val (.int i1), .val (.int i2), .val (.ref o3), .val (.int i4), .val (.int i5), .val (.int i6), .val (.int i7), s8, s9] [])) _
  refine XS.aloadN X0.here hx rfl (hb hby d2_19) rfl rfl ?_
  show Steps p.tables e below (T0.setTop (mkF m 20 #[.val (.ref o0), .val (.int i1), .val (.int i2), .val (.ref o3), .val (.int i4), .val (.int i5), .val (.int i6), .val (.int i7), s8, s9] [(.ref o0)])) _
  refine XS.iloadN X0.here hx rfl (hb hby d2_20) rfl ?_
  show Steps p.tables e below (T0.setTop (mkF m 21 #[.val (.ref o0), .val (.int i1), .val (.int i2), .val (.ref o3), .val (.int i4), .val (.int i5), .val (.int i6), .val (.int i7), s8, s9] [(.int i1), (.ref o0)])) _
  refine XS.iload X0.here hx rfl (hb hby d2_21) rfl ?_
  show Steps p.tables e below (T0.setTop (mkF m 23 #[.val (.ref o0), .val (.int i1), .val (.int i2), .val (.ref o3), .val (.int i4), .val (.int i5), .val (.int i6), .val (.int i7), s8, s9] [(.int i6), (.int i1), (.ref o0)])) _
  refine XS.iadd X0.here hx rfl (hb hby d2_23) rfl ?_
  show Steps p.tables e below (T0.setTop (mkF m 24 #[.val (.ref o0), .val (.int i1), .val (.int i2), .val (.ref o3), .val (.int i4), .val (.int i5), .val (.int i6), .val (.int i7), s8, s9] [(.int (i1 + i6)), (.ref o0)])) _
  refine X0.iaload hx (j := (i1 + i6)) (v := (.int w7)) (by rw [e0]; exact Ar_o0.1) (State.isArrayOf_alike hZ.alike Ar_o0.2.1) Ar_o0.2.2 hin24 hat24 (g := (mkF m 24 #[.val (.ref o0), .val (.int i1), .val (.int i2), .val (.ref o3), .val (.int i4), .val (.int i5), .val (.int i6), .val (.int i7), s8, s9] [(.int (i1 + i6)), (.ref o0)])) rfl rfl (hb hby d2_24) _ ?_
  show Steps p.tables e below (T0.setTop (mkF m 25 #[.val (.ref o0), .val (.int i1), .val (.int i2), .val (.ref o3), .val (.int i4), .val (.int i5), .val (.int i6), .val (.int i7), s8, s9] [(.int w7)])) _
  refine XS.istore X0.here hx rfl (hb hby d2_25) rfl (l' := #[.val (.ref o0), .val (.int i1), .val (.int i2), .val (.ref o3), .val (.int i4), .val (.int i5), .val (.int i6), .val (.int i7), .val (.int w7), s9]) (os2_25 hs8) ?_
  show Steps p.tables e below (T0.setTop (mkF m 27 #[.val (.ref o0), .val (.int i1), .val (.int i2), .val (.ref o3), .val (.int i4), .val (.int i5), .val (.int i6), .val (.int i7), .val (.int w7), s9] [])) _
  refine XS.aloadN X0.here hx rfl (hb hby d2_27) rfl rfl ?_
  show Steps p.tables e below (T0.setTop (mkF m 28 #[.val (.ref o0), .val (.int i1), .val (.int i2), .val (.ref o3), .val (.int i4), .val (.int i5), .val (.int i6), .val (.int i7), .val (.int w7), s9] [(.ref o3)])) _
  refine XS.iload X0.here hx rfl (hb hby d2_28) rfl ?_
  show Steps p.tables e below (T0.setTop (mkF m 30 #[.val (.ref o0), .val (.int i1), .val (.int i2), .val (.ref o3), .val (.int i4), .val (.int i5), .val (.int i6), .val (.int i7), .val (.int w7), s9] [(.int i4), (.ref o3)])) _
  refine XS.iload X0.here hx rfl (hb hby d2_30) rfl ?_
  show Steps p.tables e below (T0.setTop (mkF m 32 #[.val (.ref o0), .val (.int i1), .val (.int i2), .val (.ref o3), .val (.int i4), .val (.int i5), .val (.int i6), .val (.int i7), .val (.int w7), s9] [(.int i7), (.int i4), (.ref o3)])) _
  refine XS.iadd X0.here hx rfl (hb hby d2_32) rfl ?_
  show Steps p.tables e below (T0.setTop (mkF m 33 #[.val (.ref o0), .val (.int i1), .val (.int i2), .val (.ref o3), .val (.int i4), .val (.int i5), .val (.int i6), .val (.int i7), .val (.int w7), s9] [(.int (i4 + i7)), (.ref o3)])) _
  refine X0.iaload hx (j := (i4 + i7)) (v := (.int w8)) (by rw [e0]; exact Ar_o3.1) (State.isArrayOf_alike hZ.alike Ar_o3.2.1) Ar_o3.2.2 hin33 hat33 (g := (mkF m 33 #[.val (.ref o0), .val (.int i1), .val (.int i2), .val (.ref o3), .val (.int i4), .val (.int i5), .val (.int i6), .val (.int i7), .val (.int w7), s9] [(.int (i4 + i7)), (.ref o3)])) rfl rfl (hb hby d2_33) _ ?_
  show Steps p.tables e below (T0.setTop (mkF m 34 #[.val (.ref o0), .val (.int i1), .val (.int i2), .val (.ref o3), .val (.int i4), .val (.int i5), .val (.int i6), .val (.int i7), .val (.int w7), s9] [(.int w8)])) _
  refine XS.istore X0.here hx rfl (hb hby d2_34) rfl (l' := #[.val (.ref o0), .val (.int i1), .val (.int i2), .val (.ref o3), .val (.int i4), .val (.int i5), .val (.int i6), .val (.int i7), .val (.int w7), .val (.int w8)]) (os2_34 hs9) ?_
  show Steps p.tables e below (T0.setTop (mkF m 36 #[.val (.ref o0), .val (.int i1), .val (.int i2), .val (.ref o3), .val (.int i4), .val (.int i5), .val (.int i6), .val (.int i7), .val (.int w7), .val (.int w8)] [])) _
  refine XS.iload X0.here hx rfl (hb hby d2_36) rfl ?_
  show Steps p.tables e below (T0.setTop (mkF m 38 #[.val (.ref o0), .val (.int i1), .val (.int i2), .val (.ref o3), .val (.int i4), .val (.int i5), .val (.int i6), .val (.int i7), .val (.int w7), .val (.int w8)] [(.int i6)])) _
  refine XS.iload X0.here hx rfl (hb hby d2_38) rfl ?_
  show Steps p.tables e below (T0.setTop (mkF m 40 #[.val (.ref o0), .val (.int i1), .val (.int i2), .val (.ref o3), .val (.int i4), .val (.int i5), .val (.int i6), .val (.int i7), .val (.int w7), .val (.int w8)] [(.int w7), (.int i6)])) _
  refine XS.iload X0.here hx rfl (hb hby d2_40) rfl ?_
  show Steps p.tables e below (T0.setTop (mkF m 42 #[.val (.ref o0), .val (.int i1), .val (.int i2), .val (.ref o3), .val (.int i4), .val (.int i5), .val (.int i6), .val (.int i7), .val (.int w7), .val (.int w8)] [(.int w8), (.int w7), (.int i6)])) _
  refine XS.icmpNo X0.here hx rfl (hb hby d2_42) rfl (teq hc42).2 ?_
  show Steps p.tables e below (T0.setTop (mkF m 45 #[.val (.ref o0), .val (.int i1), .val (.int i2), .val (.ref o3), .val (.int i4), .val (.int i5), .val (.int i6), .val (.int i7), .val (.int w7), .val (.int w8)] [(.int i6)])) _
  refine XS.iconst X0.here hx rfl (hb hby d2_45) ?_
  show Steps p.tables e below (T0.setTop (mkF m 46 #[.val (.ref o0), .val (.int i1), .val (.int i2), .val (.ref o3), .val (.int i4), .val (.int i5), .val (.int i6), .val (.int i7), .val (.int w7), .val (.int w8)] [(.int (1 : Int32)), (.int i6)])) _
  refine XS.goto X0.here hx rfl (pc0 := 46) (pc' := 50) rfl (hb hby d2_46) (by decide) (by decide) ?_
  show Steps p.tables e below (T0.setTop (mkF m 50 #[.val (.ref o0), .val (.int i1), .val (.int i2), .val (.ref o3), .val (.int i4), .val (.int i5), .val (.int i6), .val (.int i7), .val (.int w7), .val (.int w8)] [(.int (1 : Int32)), (.int i6)])) _
  refine XS.iadd X0.here hx rfl (hb hby d2_50) rfl ?_
  show Steps p.tables e below (T0.setTop (mkF m 51 #[.val (.ref o0), .val (.int i1), .val (.int i2), .val (.ref o3), .val (.int i4), .val (.int i5), .val (.int i6), .val (.int i7), .val (.int w7), .val (.int w8)] [(.int (i6 + (1 : Int32)))])) _
  refine XS.istore X0.here hx rfl (hb hby d2_51) rfl (l' := #[.val (.ref o0), .val (.int i1), .val (.int i2), .val (.ref o3), .val (.int i4), .val (.int i5), .val (.int (i6 + (1 : Int32))), .val (.int i7), .val (.int w7), .val (.int w8)]) rfl ?_
  show Steps p.tables e below (T0.setTop (mkF m 53 #[.val (.ref o0), .val (.int i1), .val (.int i2), .val (.ref o3), .val (.int i4), .val (.int i5), .val (.int (i6 + (1 : Int32))), .val (.int i7), .val (.int w7), .val (.int w8)] [])) _
  refine XS.iload X0.here hx rfl (hb hby d2_53) rfl ?_
  show Steps p.tables e below (T0.setTop (mkF m 55 #[.val (.ref o0), .val (.int i1), .val (.int i2), .val (.ref o3), .val (.int i4), .val (.int i5), .val (.int (i6 + (1 : Int32))), .val (.int i7), .val (.int w7), .val (.int w8)] [(.int i7)])) _
  refine XS.iload X0.here hx rfl (hb hby d2_55) rfl ?_
  show Steps p.tables e below (T0.setTop (mkF m 57 #[.val (.ref o0), .val (.int i1), .val (.int i2), .val (.ref o3), .val (.int i4), .val (.int i5), .val (.int (i6 + (1 : Int32))), .val (.int i7), .val (.int w7), .val (.int w8)] [(.int w7), (.int i7)])) _
  refine XS.iload X0.here hx rfl (hb hby d2_57) rfl ?_
  show Steps p.tables e below (T0.setTop (mkF m 59 #[.val (.ref o0), .val (.int i1), .val (.int i2), .val (.ref o3), .val (.int i4), .val (.int i5), .val (.int (i6 + (1 : Int32))), .val (.int i7), .val (.int w7), .val (.int w8)] [(.int w8), (.int w7), (.int i7)])) _
  refine XS.icmpNo X0.here hx rfl (hb hby d2_59) rfl (flt hc59).1 ?_
  show Steps p.tables e below (T0.setTop (mkF m 62 #[.val (.ref o0), .val (.int i1), .val (.int i2), .val (.ref o3), .val (.int i4), .val (.int i5), .val (.int (i6 + (1 : Int32))), .val (.int i7), .val (.int w7), .val (.int w8)] [(.int i7)])) _
  refine XS.iconst X0.here hx rfl (hb hby d2_62) ?_
  show Steps p.tables e below (T0.setTop (mkF m 63 #[.val (.ref o0), .val (.int i1), .val (.int i2), .val (.ref o3), .val (.int i4), .val (.int i5), .val (.int (i6 + (1 : Int32))), .val (.int i7), .val (.int w7), .val (.int w8)] [(.int (1 : Int32)), (.int i7)])) _
  refine XS.goto X0.here hx rfl (pc0 := 63) (pc' := 67) rfl (hb hby d2_63) (by decide) (by decide) ?_
  show Steps p.tables e below (T0.setTop (mkF m 67 #[.val (.ref o0), .val (.int i1), .val (.int i2), .val (.ref o3), .val (.int i4), .val (.int i5), .val (.int (i6 + (1 : Int32))), .val (.int i7), .val (.int w7), .val (.int w8)] [(.int (1 : Int32)), (.int i7)])) _
  refine XS.iadd X0.here hx rfl (hb hby d2_67) rfl ?_
  show Steps p.tables e below (T0.setTop (mkF m 68 #[.val (.ref o0), .val (.int i1), .val (.int i2), .val (.ref o3), .val (.int i4), .val (.int i5), .val (.int (i6 + (1 : Int32))), .val (.int i7), .val (.int w7), .val (.int w8)] [(.int (i7 + (1 : Int32)))])) _
  refine XS.istore X0.here hx rfl (hb hby d2_68) rfl (l' := #[.val (.ref o0), .val (.int i1), .val (.int i2), .val (.ref o3), .val (.int i4), .val (.int i5), .val (.int (i6 + (1 : Int32))), .val (.int (i7 + (1 : Int32))), .val (.int w7), .val (.int w8)]) rfl ?_
  show Steps p.tables e below (T0.setTop (mkF m 70 #[.val (.ref o0), .val (.int i1), .val (.int i2), .val (.ref o3), .val (.int i4), .val (.int i5), .val (.int (i6 + (1 : Int32))), .val (.int (i7 + (1 : Int32))), .val (.int w7), .val (.int w8)] [])) _
  refine XS.iload X0.here hx rfl (hb hby d2_70) rfl ?_
  show Steps p.tables e below (T0.setTop (mkF m 72 #[.val (.ref o0), .val (.int i1), .val (.int i2), .val (.ref o3), .val (.int i4), .val (.int i5), .val (.int (i6 + (1 : Int32))), .val (.int (i7 + (1 : Int32))), .val (.int w7), .val (.int w8)] [(.int w7)])) _
  refine XS.iload X0.here hx rfl (hb hby d2_72) rfl ?_
  show Steps p.tables e below (T0.setTop (mkF m 74 #[.val (.ref o0), .val (.int i1), .val (.int i2), .val (.ref o3), .val (.int i4), .val (.int i5), .val (.int (i6 + (1 : Int32))), .val (.int (i7 + (1 : Int32))), .val (.int w7), .val (.int w8)] [(.int w8), (.int w7)])) _
  refine XS.icmpYes X0.here hx rfl (pc0 := 74) (pc' := 79) rfl (hb hby d2_74) rfl (flt hc74).2.1 (by decide) (by decide) ?_
  show Steps p.tables e below (T0.setTop (mkF m 79 #[.val (.ref o0), .val (.int i1), .val (.int i2), .val (.ref o3), .val (.int i4), .val (.int i5), .val (.int (i6 + (1 : Int32))), .val (.int (i7 + (1 : Int32))), .val (.int w7), .val (.int w8)] [])) _
  refine XS.goto X0.here hx rfl (pc0 := 79) (pc' := 6) rfl (hb hby d2_79) (by decide) (by decide) ?_
  exact kt
theorem d2_49 : decode prog_87_method_18_code 49 = .ok (.iconst 0, 1) := by decide +kernel
set_option maxRecDepth 65536 in
set_option maxHeartbeats 40000000 in
theorem own_gtT {p : Program} {l : Launch} {e : Env} {R : Room} {s : State} {m : MethodId} {args : Array Value} {below : List Frame} {meth : Method} {c : Code} {T0 : State} {locs : List Loc} {cells slots : Nat} {Z : State} {a0 : Array Value} {h0 : Heap} (o0 : Addr) (i1 : Int32) (i2 : Int32) (o3 : Addr) (i4 : Int32) (i5 : Int32) (i6 : Int32) (i7 : Int32) (s8 : Slot) (s9 : Slot) (w7 : Int32) (cl_o0 : Cell) (w8 : Int32) (cl_o3 : Cell)
    (X0 : Stand p l e R s m args below meth c T0 locs cells slots) (hx : p.tables.exec = Jvm.exec) (hZ : Z.Warmed39 s.vm) (hw : ∀ d ∈ tables_1, d.before a0 Z = true) (hby : c.code = prog_87_method_18_code) (hml : c.maxLocals = 10) (hown : s.vm.findClass "com/example/godwit/godwit/faults/Symbols" = some m.cls) (e0 : T0.heap = h0) (Ar_o0 : Arr Z h0 o0 cl_o0 .int) (hin24 : ¬ ((i1 + i6) < 0 ∨ cl_o0.slots.size ≤ ((i1 + i6)).toNatClampNeg)) (hat24 : cl_o0.slots[((i1 + i6)).toNatClampNeg]? = some (.int w7)) (hs8 : One s8) (Ar_o3 : Arr Z h0 o3 cl_o3 .int) (hin33 : ¬ ((i4 + i7) < 0 ∨ cl_o3.slots.size ≤ ((i4 + i7)).toNatClampNeg)) (hat33 : cl_o3.slots[((i4 + i7)).toNatClampNeg]? = some (.int w8)) (hs9 : One s9) (hc9 : i6 < i2) (hc16 : i7 < i5) (hc42 : ¬ (w7 = w8)) (hc59 : ¬ (w7 < w8)) (hc74 : ¬ (w7 < w8)) :
    ∃ (T' : State), Stand p l e R s m args below meth c T' locs cells slots ∧ T'.heap = h0 ∧
      ∀ target, Steps p.tables e below (T'.setTop (mkF m 6 #[.val (.ref o0), .val (.int i1), .val (.int i2), .val (.ref o3), .val (.int i4), .val (.int i5), .val (.int (i6 + (0 : Int32))), .val (.int (i7 + (1 : Int32))), .val (.int w7), .val (.int w8)] [])) target → Steps p.tables e below (T0.setTop (mkF m 6 #[.val (.ref o0), .val (.int i1), .val (.int i2), .val (.ref o3), .val (.int i4), .val (.int i5), .val (.int i6), .val (.int i7), s8, s9] [])) target := by

  refine ⟨T0, X0, e0, fun target kt => ?_⟩
  show Steps p.tables e below (T0.setTop (mkF m 6 #[.val (.ref o0), .val (.int i1), .val (.int i2), .val (.ref o3), .val (.int i4), .val (.int i5), .val (.int i6), .val (.int i7), s8, s9] [])) _
  refine XS.iload X0.here hx rfl (hb hby d2_6) rfl ?_
  show Steps p.tables e below (T0.setTop (mkF m 8 #[.val (.ref o0), .val (.int i1), .val (.int i2), .val (.ref o3), .val (.int i4), .val (.int i5), .val (.int i6), .val (.int i7), s8, s9] [(.int i6)])) _
  refine XS.iloadN X0.here hx rfl (hb hby d2_8) rfl ?_
  show Steps p.tables e below (T0.setTop (mkF m 9 #[.val (.ref o0), .val (.int i1), .val (.int i2), .val (.ref o3), .val (.int i4), .val (.int i5), .val (.int i6), .val (.int i7), s8, s9] [(.int i2), (.int i6)])) _
  refine XS.icmpNo X0.here hx rfl (hb hby d2_9) rfl (tlt hc9).2.1 ?_
  show Steps p.tables e below (T0.setTop (mkF m 12 #[.val (.ref o0), .val (.int i1), .val (.int i2), .val (.ref o3), .val (.int i4), .val (.int i5), .val (.int i6), .val (.int i7), s8, s9] [])) _
  refine XS.iload X0.here hx rfl (hb hby d2_12) rfl ?_
  show Steps p.tables e below (T0.setTop (mkF m 14 #[.val (.ref o0), .val (.int i1), .val (.int i2), .val (.ref o3), .val (.int i4), .val (.int i5), .val (.int i6), .val (.int i7), s8, s9] [(.int i7)])) _
  refine XS.iload X0.here hx rfl (hb hby d2_14) rfl ?_
  show Steps p.tables e below (T0.setTop (mkF m 16 #[.val (.ref o0), .val (.int i1), .val (.int i2), .val (.ref o3), .val (.int i4), .val (.int i5), .val (.int i6), .val (.int i7), s8, s9] [(.int i5), (.int i7)])) _
  refine XS.icmpNo X0.here hx rfl (hb hby d2_16) rfl (tlt hc16).2.1 ?_
  show Steps p.tables e below (T0.setTop (mkF m 19 #[.val (.ref o0), .val (.int i1), .val (.int i2), .val (.ref o3), .val (.int i4), .val (.int i5), .val (.int i6), .val (.int i7), s8, s9] [])) _
  refine XS.aloadN X0.here hx rfl (hb hby d2_19) rfl rfl ?_
  show Steps p.tables e below (T0.setTop (mkF m 20 #[.val (.ref o0), .val (.int i1), .val (.int i2), .val (.ref o3), .val (.int i4), .val (.int i5), .val (.int i6), .val (.int i7), s8, s9] [(.ref o0)])) _
  refine XS.iloadN X0.here hx rfl (hb hby d2_20) rfl ?_
  show Steps p.tables e below (T0.setTop (mkF m 21 #[.val (.ref o0), .val (.int i1), .val (.int i2), .val (.ref o3), .val (.int i4), .val (.int i5), .val (.int i6), .val (.int i7), s8, s9] [(.int i1), (.ref o0)])) _
  refine XS.iload X0.here hx rfl (hb hby d2_21) rfl ?_
  show Steps p.tables e below (T0.setTop (mkF m 23 #[.val (.ref o0), .val (.int i1), .val (.int i2), .val (.ref o3), .val (.int i4), .val (.int i5), .val (.int i6), .val (.int i7), s8, s9] [(.int i6), (.int i1), (.ref o0)])) _
  refine XS.iadd X0.here hx rfl (hb hby d2_23) rfl ?_
  show Steps p.tables e below (T0.setTop (mkF m 24 #[.val (.ref o0), .val (.int i1), .val (.int i2), .val (.ref o3), .val (.int i4), .val (.int i5), .val (.int i6), .val (.int i7), s8, s9] [(.int (i1 + i6)), (.ref o0)])) _
  refine X0.iaload hx (j := (i1 + i6)) (v := (.int w7)) (by rw [e0]; exact Ar_o0.1) (State.isArrayOf_alike hZ.alike Ar_o0.2.1) Ar_o0.2.2 hin24 hat24 (g := (mkF m 24 #[.val (.ref o0), .val (.int i1), .val (.int i2), .val (.ref o3), .val (.int i4), .val (.int i5), .val (.int i6), .val (.int i7), s8, s9] [(.int (i1 + i6)), (.ref o0)])) rfl rfl (hb hby d2_24) _ ?_
  show Steps p.tables e below (T0.setTop (mkF m 25 #[.val (.ref o0), .val (.int i1), .val (.int i2), .val (.ref o3), .val (.int i4), .val (.int i5), .val (.int i6), .val (.int i7), s8, s9] [(.int w7)])) _
  refine XS.istore X0.here hx rfl (hb hby d2_25) rfl (l' := #[.val (.ref o0), .val (.int i1), .val (.int i2), .val (.ref o3), .val (.int i4), .val (.int i5), .val (.int i6), .val (.int i7), .val (.int w7), s9]) (os2_25 hs8) ?_
  show Steps p.tables e below (T0.setTop (mkF m 27 #[.val (.ref o0), .val (.int i1), .val (.int i2), .val (.ref o3), .val (.int i4), .val (.int i5), .val (.int i6), .val (.int i7), .val (.int w7), s9] [])) _
  refine XS.aloadN X0.here hx rfl (hb hby d2_27) rfl rfl ?_
  show Steps p.tables e below (T0.setTop (mkF m 28 #[.val (.ref o0), .val (.int i1), .val (.int i2), .val (.ref o3), .val (.int i4), .val (.int i5), .val (.int i6), .val (.int i7), .val (.int w7), s9] [(.ref o3)])) _
  refine XS.iload X0.here hx rfl (hb hby d2_28) rfl ?_
  show Steps p.tables e below (T0.setTop (mkF m 30 #[.val (.ref o0), .val (.int i1), .val (.int i2), .val (.ref o3), .val (.int i4), .val (.int i5), .val (.int i6), .val (.int i7), .val (.int w7), s9] [(.int i4), (.ref o3)])) _
  refine XS.iload X0.here hx rfl (hb hby d2_30) rfl ?_
  show Steps p.tables e below (T0.setTop (mkF m 32 #[.val (.ref o0), .val (.int i1), .val (.int i2), .val (.ref o3), .val (.int i4), .val (.int i5), .val (.int i6), .val (.int i7), .val (.int w7), s9] [(.int i7), (.int i4), (.ref o3)])) _
  refine XS.iadd X0.here hx rfl (hb hby d2_32) rfl ?_
  show Steps p.tables e below (T0.setTop (mkF m 33 #[.val (.ref o0), .val (.int i1), .val (.int i2), .val (.ref o3), .val (.int i4), .val (.int i5), .val (.int i6), .val (.int i7), .val (.int w7), s9] [(.int (i4 + i7)), (.ref o3)])) _
  refine X0.iaload hx (j := (i4 + i7)) (v := (.int w8)) (by rw [e0]; exact Ar_o3.1) (State.isArrayOf_alike hZ.alike Ar_o3.2.1) Ar_o3.2.2 hin33 hat33 (g := (mkF m 33 #[.val (.ref o0), .val (.int i1), .val (.int i2), .val (.ref o3), .val (.int i4), .val (.int i5), .val (.int i6), .val (.int i7), .val (.int w7), s9] [(.int (i4 + i7)), (.ref o3)])) rfl rfl (hb hby d2_33) _ ?_
  show Steps p.tables e below (T0.setTop (mkF m 34 #[.val (.ref o0), .val (.int i1), .val (.int i2), .val (.ref o3), .val (.int i4), .val (.int i5), .val (.int i6), .val (.int i7), .val (.int w7), s9] [(.int w8)])) _
  refine XS.istore X0.here hx rfl (hb hby d2_34) rfl (l' := #[.val (.ref o0), .val (.int i1), .val (.int i2), .val (.ref o3), .val (.int i4), .val (.int i5), .val (.int i6), .val (.int i7), .val (.int w7), .val (.int w8)]) (os2_34 hs9) ?_
  show Steps p.tables e below (T0.setTop (mkF m 36 #[.val (.ref o0), .val (.int i1), .val (.int i2), .val (.ref o3), .val (.int i4), .val (.int i5), .val (.int i6), .val (.int i7), .val (.int w7), .val (.int w8)] [])) _
  refine XS.iload X0.here hx rfl (hb hby d2_36) rfl ?_
  show Steps p.tables e below (T0.setTop (mkF m 38 #[.val (.ref o0), .val (.int i1), .val (.int i2), .val (.ref o3), .val (.int i4), .val (.int i5), .val (.int i6), .val (.int i7), .val (.int w7), .val (.int w8)] [(.int i6)])) _
  refine XS.iload X0.here hx rfl (hb hby d2_38) rfl ?_
  show Steps p.tables e below (T0.setTop (mkF m 40 #[.val (.ref o0), .val (.int i1), .val (.int i2), .val (.ref o3), .val (.int i4), .val (.int i5), .val (.int i6), .val (.int i7), .val (.int w7), .val (.int w8)] [(.int w7), (.int i6)])) _
  refine XS.iload X0.here hx rfl (hb hby d2_40) rfl ?_
  show Steps p.tables e below (T0.setTop (mkF m 42 #[.val (.ref o0), .val (.int i1), .val (.int i2), .val (.ref o3), .val (.int i4), .val (.int i5), .val (.int i6), .val (.int i7), .val (.int w7), .val (.int w8)] [(.int w8), (.int w7), (.int i6)])) _
  refine XS.icmpYes X0.here hx rfl (pc0 := 42) (pc' := 49) rfl (hb hby d2_42) rfl (feq hc42).2 (by decide) (by decide) ?_
  show Steps p.tables e below (T0.setTop (mkF m 49 #[.val (.ref o0), .val (.int i1), .val (.int i2), .val (.ref o3), .val (.int i4), .val (.int i5), .val (.int i6), .val (.int i7), .val (.int w7), .val (.int w8)] [(.int i6)])) _
  refine XS.iconst X0.here hx rfl (hb hby d2_49) ?_
  show Steps p.tables e below (T0.setTop (mkF m 50 #[.val (.ref o0), .val (.int i1), .val (.int i2), .val (.ref o3), .val (.int i4), .val (.int i5), .val (.int i6), .val (.int i7), .val (.int w7), .val (.int w8)] [(.int (0 : Int32)), (.int i6)])) _
  refine XS.iadd X0.here hx rfl (hb hby d2_50) rfl ?_
  show Steps p.tables e below (T0.setTop (mkF m 51 #[.val (.ref o0), .val (.int i1), .val (.int i2), .val (.ref o3), .val (.int i4), .val (.int i5), .val (.int i6), .val (.int i7), .val (.int w7), .val (.int w8)] [(.int (i6 + (0 : Int32)))])) _
  refine XS.istore X0.here hx rfl (hb hby d2_51) rfl (l' := #[.val (.ref o0), .val (.int i1), .val (.int i2), .val (.ref o3), .val (.int i4), .val (.int i5), .val (.int (i6 + (0 : Int32))), .val (.int i7), .val (.int w7), .val (.int w8)]) rfl ?_
  show Steps p.tables e below (T0.setTop (mkF m 53 #[.val (.ref o0), .val (.int i1), .val (.int i2), .val (.ref o3), .val (.int i4), .val (.int i5), .val (.int (i6 + (0 : Int32))), .val (.int i7), .val (.int w7), .val (.int w8)] [])) _
  refine XS.iload X0.here hx rfl (hb hby d2_53) rfl ?_
  show Steps p.tables e below (T0.setTop (mkF m 55 #[.val (.ref o0), .val (.int i1), .val (.int i2), .val (.ref o3), .val (.int i4), .val (.int i5), .val (.int (i6 + (0 : Int32))), .val (.int i7), .val (.int w7), .val (.int w8)] [(.int i7)])) _
  refine XS.iload X0.here hx rfl (hb hby d2_55) rfl ?_
  show Steps p.tables e below (T0.setTop (mkF m 57 #[.val (.ref o0), .val (.int i1), .val (.int i2), .val (.ref o3), .val (.int i4), .val (.int i5), .val (.int (i6 + (0 : Int32))), .val (.int i7), .val (.int w7), .val (.int w8)] [(.int w7), (.int i7)])) _
  refine XS.iload X0.here hx rfl (hb hby d2_57) rfl ?_
  show Steps p.tables e below (T0.setTop (mkF m 59 #[.val (.ref o0), .val (.int i1), .val (.int i2), .val (.ref o3), .val (.int i4), .val (.int i5), .val (.int (i6 + (0 : Int32))), .val (.int i7), .val (.int w7), .val (.int w8)] [(.int w8), (.int w7), (.int i7)])) _
  refine XS.icmpNo X0.here hx rfl (hb hby d2_59) rfl (flt hc59).1 ?_
  show Steps p.tables e below (T0.setTop (mkF m 62 #[.val (.ref o0), .val (.int i1), .val (.int i2), .val (.ref o3), .val (.int i4), .val (.int i5), .val (.int (i6 + (0 : Int32))), .val (.int i7), .val (.int w7), .val (.int w8)] [(.int i7)])) _
  refine XS.iconst X0.here hx rfl (hb hby d2_62) ?_
  show Steps p.tables e below (T0.setTop (mkF m 63 #[.val (.ref o0), .val (.int i1), .val (.int i2), .val (.ref o3), .val (.int i4), .val (.int i5), .val (.int (i6 + (0 : Int32))), .val (.int i7), .val (.int w7), .val (.int w8)] [(.int (1 : Int32)), (.int i7)])) _
  refine XS.goto X0.here hx rfl (pc0 := 63) (pc' := 67) rfl (hb hby d2_63) (by decide) (by decide) ?_
  show Steps p.tables e below (T0.setTop (mkF m 67 #[.val (.ref o0), .val (.int i1), .val (.int i2), .val (.ref o3), .val (.int i4), .val (.int i5), .val (.int (i6 + (0 : Int32))), .val (.int i7), .val (.int w7), .val (.int w8)] [(.int (1 : Int32)), (.int i7)])) _
  refine XS.iadd X0.here hx rfl (hb hby d2_67) rfl ?_
  show Steps p.tables e below (T0.setTop (mkF m 68 #[.val (.ref o0), .val (.int i1), .val (.int i2), .val (.ref o3), .val (.int i4), .val (.int i5), .val (.int (i6 + (0 : Int32))), .val (.int i7), .val (.int w7), .val (.int w8)] [(.int (i7 + (1 : Int32)))])) _
  refine XS.istore X0.here hx rfl (hb hby d2_68) rfl (l' := #[.val (.ref o0), .val (.int i1), .val (.int i2), .val (.ref o3), .val (.int i4), .val (.int i5), .val (.int (i6 + (0 : Int32))), .val (.int (i7 + (1 : Int32))), .val (.int w7), .val (.int w8)]) rfl ?_
  show Steps p.tables e below (T0.setTop (mkF m 70 #[.val (.ref o0), .val (.int i1), .val (.int i2), .val (.ref o3), .val (.int i4), .val (.int i5), .val (.int (i6 + (0 : Int32))), .val (.int (i7 + (1 : Int32))), .val (.int w7), .val (.int w8)] [])) _
  refine XS.iload X0.here hx rfl (hb hby d2_70) rfl ?_
  show Steps p.tables e below (T0.setTop (mkF m 72 #[.val (.ref o0), .val (.int i1), .val (.int i2), .val (.ref o3), .val (.int i4), .val (.int i5), .val (.int (i6 + (0 : Int32))), .val (.int (i7 + (1 : Int32))), .val (.int w7), .val (.int w8)] [(.int w7)])) _
  refine XS.iload X0.here hx rfl (hb hby d2_72) rfl ?_
  show Steps p.tables e below (T0.setTop (mkF m 74 #[.val (.ref o0), .val (.int i1), .val (.int i2), .val (.ref o3), .val (.int i4), .val (.int i5), .val (.int (i6 + (0 : Int32))), .val (.int (i7 + (1 : Int32))), .val (.int w7), .val (.int w8)] [(.int w8), (.int w7)])) _
  refine XS.icmpYes X0.here hx rfl (pc0 := 74) (pc' := 79) rfl (hb hby d2_74) rfl (flt hc74).2.1 (by decide) (by decide) ?_
  show Steps p.tables e below (T0.setTop (mkF m 79 #[.val (.ref o0), .val (.int i1), .val (.int i2), .val (.ref o3), .val (.int i4), .val (.int i5), .val (.int (i6 + (0 : Int32))), .val (.int (i7 + (1 : Int32))), .val (.int w7), .val (.int w8)] [])) _
  refine XS.goto X0.here hx rfl (pc0 := 79) (pc' := 6) rfl (hb hby d2_79) (by decide) (by decide) ?_
  exact kt
theorem d2_66 : decode prog_87_method_18_code 66 = .ok (.iconst 0, 1) := by decide +kernel
set_option maxRecDepth 65536 in
set_option maxHeartbeats 40000000 in
theorem own_ltT {p : Program} {l : Launch} {e : Env} {R : Room} {s : State} {m : MethodId} {args : Array Value} {below : List Frame} {meth : Method} {c : Code} {T0 : State} {locs : List Loc} {cells slots : Nat} {Z : State} {a0 : Array Value} {h0 : Heap} (o0 : Addr) (i1 : Int32) (i2 : Int32) (o3 : Addr) (i4 : Int32) (i5 : Int32) (i6 : Int32) (i7 : Int32) (s8 : Slot) (s9 : Slot) (w7 : Int32) (cl_o0 : Cell) (w8 : Int32) (cl_o3 : Cell)
    (X0 : Stand p l e R s m args below meth c T0 locs cells slots) (hx : p.tables.exec = Jvm.exec) (hZ : Z.Warmed39 s.vm) (hw : ∀ d ∈ tables_1, d.before a0 Z = true) (hby : c.code = prog_87_method_18_code) (hml : c.maxLocals = 10) (hown : s.vm.findClass "com/example/godwit/godwit/faults/Symbols" = some m.cls) (e0 : T0.heap = h0) (Ar_o0 : Arr Z h0 o0 cl_o0 .int) (hin24 : ¬ ((i1 + i6) < 0 ∨ cl_o0.slots.size ≤ ((i1 + i6)).toNatClampNeg)) (hat24 : cl_o0.slots[((i1 + i6)).toNatClampNeg]? = some (.int w7)) (hs8 : One s8) (Ar_o3 : Arr Z h0 o3 cl_o3 .int) (hin33 : ¬ ((i4 + i7) < 0 ∨ cl_o3.slots.size ≤ ((i4 + i7)).toNatClampNeg)) (hat33 : cl_o3.slots[((i4 + i7)).toNatClampNeg]? = some (.int w8)) (hs9 : One s9) (hc9 : i6 < i2) (hc16 : i7 < i5) (hc42 : ¬ (w7 = w8)) (hc59 : w7 < w8) (hc74 : w7 < w8) :
    ∃ (T' : State), Stand p l e R s m args below meth c T' locs cells slots ∧ T'.heap = h0 ∧
      ∀ target, Steps p.tables e below (T'.setTop (mkF m 77 #[.val (.ref o0), .val (.int i1), .val (.int i2), .val (.ref o3), .val (.int i4), .val (.int i5), .val (.int (i6 + (0 : Int32))), .val (.int (i7 + (0 : Int32))), .val (.int w7), .val (.int w8)] [])) target → Steps p.tables e below (T0.setTop (mkF m 6 #[.val (.ref o0), .val (.int i1), .val (.int i2), .val (.ref o3), .val (.int i4), .val (.int i5), .val (.int i6), .val (.int i7), s8, s9] [])) target := by

  refine ⟨T0, X0, e0, fun target kt => ?_⟩
  show Steps p.tables e below (T0.setTop (mkF m 6 #[.val (.ref o0), .val (.int i1), .val (.int i2), .val (.ref o3), .val (.int i4), .val (.int i5), .val (.int i6), .val (.int i7), s8, s9] [])) _
  refine XS.iload X0.here hx rfl (hb hby d2_6) rfl ?_
  show Steps p.tables e below (T0.setTop (mkF m 8 #[.val (.ref o0), .val (.int i1), .val (.int i2), .val (.ref o3), .val (.int i4), .val (.int i5), .val (.int i6), .val (.int i7), s8, s9] [(.int i6)])) _
  refine XS.iloadN X0.here hx rfl (hb hby d2_8) rfl ?_
  show Steps p.tables e below (T0.setTop (mkF m 9 #[.val (.ref o0), .val (.int i1), .val (.int i2), .val (.ref o3), .val (.int i4), .val (.int i5), .val (.int i6), .val (.int i7), s8, s9] [(.int i2), (.int i6)])) _
  refine XS.icmpNo X0.here hx rfl (hb hby d2_9) rfl (tlt hc9).2.1 ?_
  show Steps p.tables e below (T0.setTop (mkF m 12 #[.val (.ref o0), .val (.int i1), .val (.int i2), .val (.ref o3), .val (.int i4), .val (.int i5), .val (.int i6), .val (.int i7), s8, s9] [])) _
  refine XS.iload X0.here hx rfl (hb hby d2_12) rfl ?_
  show Steps p.tables e below (T0.setTop (mkF m 14 #[.val (.ref o0), .val (.int i1), .val (.int i2), .val (.ref o3), .val (.int i4), .val (.int i5), .val (.int i6), .val (.int i7), s8, s9] [(.int i7)])) _
  refine XS.iload X0.here hx rfl (hb hby d2_14) rfl ?_
  show Steps p.tables e below (T0.setTop (mkF m 16 #[.val (.ref o0), .val (.int i1), .val (.int i2), .val (.ref o3), .val (.int i4), .val (.int i5), .val (.int i6), .val (.int i7), s8, s9] [(.int i5), (.int i7)])) _
  refine XS.icmpNo X0.here hx rfl (hb hby d2_16) rfl (tlt hc16).2.1 ?_
  show Steps p.tables e below (T0.setTop (mkF m 19 #[.val (.ref o0), .val (.int i1), .val (.int i2), .val (.ref o3), .val (.int i4), .val (.int i5), .val (.int i6), .val (.int i7), s8, s9] [])) _
  refine XS.aloadN X0.here hx rfl (hb hby d2_19) rfl rfl ?_
  show Steps p.tables e below (T0.setTop (mkF m 20 #[.val (.ref o0), .val (.int i1), .val (.int i2), .val (.ref o3), .val (.int i4), .val (.int i5), .val (.int i6), .val (.int i7), s8, s9] [(.ref o0)])) _
  refine XS.iloadN X0.here hx rfl (hb hby d2_20) rfl ?_
  show Steps p.tables e below (T0.setTop (mkF m 21 #[.val (.ref o0), .val (.int i1), .val (.int i2), .val (.ref o3), .val (.int i4), .val (.int i5), .val (.int i6), .val (.int i7), s8, s9] [(.int i1), (.ref o0)])) _
  refine XS.iload X0.here hx rfl (hb hby d2_21) rfl ?_
  show Steps p.tables e below (T0.setTop (mkF m 23 #[.val (.ref o0), .val (.int i1), .val (.int i2), .val (.ref o3), .val (.int i4), .val (.int i5), .val (.int i6), .val (.int i7), s8, s9] [(.int i6), (.int i1), (.ref o0)])) _
  refine XS.iadd X0.here hx rfl (hb hby d2_23) rfl ?_
  show Steps p.tables e below (T0.setTop (mkF m 24 #[.val (.ref o0), .val (.int i1), .val (.int i2), .val (.ref o3), .val (.int i4), .val (.int i5), .val (.int i6), .val (.int i7), s8, s9] [(.int (i1 + i6)), (.ref o0)])) _
  refine X0.iaload hx (j := (i1 + i6)) (v := (.int w7)) (by rw [e0]; exact Ar_o0.1) (State.isArrayOf_alike hZ.alike Ar_o0.2.1) Ar_o0.2.2 hin24 hat24 (g := (mkF m 24 #[.val (.ref o0), .val (.int i1), .val (.int i2), .val (.ref o3), .val (.int i4), .val (.int i5), .val (.int i6), .val (.int i7), s8, s9] [(.int (i1 + i6)), (.ref o0)])) rfl rfl (hb hby d2_24) _ ?_
  show Steps p.tables e below (T0.setTop (mkF m 25 #[.val (.ref o0), .val (.int i1), .val (.int i2), .val (.ref o3), .val (.int i4), .val (.int i5), .val (.int i6), .val (.int i7), s8, s9] [(.int w7)])) _
  refine XS.istore X0.here hx rfl (hb hby d2_25) rfl (l' := #[.val (.ref o0), .val (.int i1), .val (.int i2), .val (.ref o3), .val (.int i4), .val (.int i5), .val (.int i6), .val (.int i7), .val (.int w7), s9]) (os2_25 hs8) ?_
  show Steps p.tables e below (T0.setTop (mkF m 27 #[.val (.ref o0), .val (.int i1), .val (.int i2), .val (.ref o3), .val (.int i4), .val (.int i5), .val (.int i6), .val (.int i7), .val (.int w7), s9] [])) _
  refine XS.aloadN X0.here hx rfl (hb hby d2_27) rfl rfl ?_
  show Steps p.tables e below (T0.setTop (mkF m 28 #[.val (.ref o0), .val (.int i1), .val (.int i2), .val (.ref o3), .val (.int i4), .val (.int i5), .val (.int i6), .val (.int i7), .val (.int w7), s9] [(.ref o3)])) _
  refine XS.iload X0.here hx rfl (hb hby d2_28) rfl ?_
  show Steps p.tables e below (T0.setTop (mkF m 30 #[.val (.ref o0), .val (.int i1), .val (.int i2), .val (.ref o3), .val (.int i4), .val (.int i5), .val (.int i6), .val (.int i7), .val (.int w7), s9] [(.int i4), (.ref o3)])) _
  refine XS.iload X0.here hx rfl (hb hby d2_30) rfl ?_
  show Steps p.tables e below (T0.setTop (mkF m 32 #[.val (.ref o0), .val (.int i1), .val (.int i2), .val (.ref o3), .val (.int i4), .val (.int i5), .val (.int i6), .val (.int i7), .val (.int w7), s9] [(.int i7), (.int i4), (.ref o3)])) _
  refine XS.iadd X0.here hx rfl (hb hby d2_32) rfl ?_
  show Steps p.tables e below (T0.setTop (mkF m 33 #[.val (.ref o0), .val (.int i1), .val (.int i2), .val (.ref o3), .val (.int i4), .val (.int i5), .val (.int i6), .val (.int i7), .val (.int w7), s9] [(.int (i4 + i7)), (.ref o3)])) _
  refine X0.iaload hx (j := (i4 + i7)) (v := (.int w8)) (by rw [e0]; exact Ar_o3.1) (State.isArrayOf_alike hZ.alike Ar_o3.2.1) Ar_o3.2.2 hin33 hat33 (g := (mkF m 33 #[.val (.ref o0), .val (.int i1), .val (.int i2), .val (.ref o3), .val (.int i4), .val (.int i5), .val (.int i6), .val (.int i7), .val (.int w7), s9] [(.int (i4 + i7)), (.ref o3)])) rfl rfl (hb hby d2_33) _ ?_
  show Steps p.tables e below (T0.setTop (mkF m 34 #[.val (.ref o0), .val (.int i1), .val (.int i2), .val (.ref o3), .val (.int i4), .val (.int i5), .val (.int i6), .val (.int i7), .val (.int w7), s9] [(.int w8)])) _
  refine XS.istore X0.here hx rfl (hb hby d2_34) rfl (l' := #[.val (.ref o0), .val (.int i1), .val (.int i2), .val (.ref o3), .val (.int i4), .val (.int i5), .val (.int i6), .val (.int i7), .val (.int w7), .val (.int w8)]) (os2_34 hs9) ?_
  show Steps p.tables e below (T0.setTop (mkF m 36 #[.val (.ref o0), .val (.int i1), .val (.int i2), .val (.ref o3), .val (.int i4), .val (.int i5), .val (.int i6), .val (.int i7), .val (.int w7), .val (.int w8)] [])) _
  refine XS.iload X0.here hx rfl (hb hby d2_36) rfl ?_
  show Steps p.tables e below (T0.setTop (mkF m 38 #[.val (.ref o0), .val (.int i1), .val (.int i2), .val (.ref o3), .val (.int i4), .val (.int i5), .val (.int i6), .val (.int i7), .val (.int w7), .val (.int w8)] [(.int i6)])) _
  refine XS.iload X0.here hx rfl (hb hby d2_38) rfl ?_
  show Steps p.tables e below (T0.setTop (mkF m 40 #[.val (.ref o0), .val (.int i1), .val (.int i2), .val (.ref o3), .val (.int i4), .val (.int i5), .val (.int i6), .val (.int i7), .val (.int w7), .val (.int w8)] [(.int w7), (.int i6)])) _
  refine XS.iload X0.here hx rfl (hb hby d2_40) rfl ?_
  show Steps p.tables e below (T0.setTop (mkF m 42 #[.val (.ref o0), .val (.int i1), .val (.int i2), .val (.ref o3), .val (.int i4), .val (.int i5), .val (.int i6), .val (.int i7), .val (.int w7), .val (.int w8)] [(.int w8), (.int w7), (.int i6)])) _
  refine XS.icmpYes X0.here hx rfl (pc0 := 42) (pc' := 49) rfl (hb hby d2_42) rfl (feq hc42).2 (by decide) (by decide) ?_
  show Steps p.tables e below (T0.setTop (mkF m 49 #[.val (.ref o0), .val (.int i1), .val (.int i2), .val (.ref o3), .val (.int i4), .val (.int i5), .val (.int i6), .val (.int i7), .val (.int w7), .val (.int w8)] [(.int i6)])) _
  refine XS.iconst X0.here hx rfl (hb hby d2_49) ?_
  show Steps p.tables e below (T0.setTop (mkF m 50 #[.val (.ref o0), .val (.int i1), .val (.int i2), .val (.ref o3), .val (.int i4), .val (.int i5), .val (.int i6), .val (.int i7), .val (.int w7), .val (.int w8)] [(.int (0 : Int32)), (.int i6)])) _
  refine XS.iadd X0.here hx rfl (hb hby d2_50) rfl ?_
  show Steps p.tables e below (T0.setTop (mkF m 51 #[.val (.ref o0), .val (.int i1), .val (.int i2), .val (.ref o3), .val (.int i4), .val (.int i5), .val (.int i6), .val (.int i7), .val (.int w7), .val (.int w8)] [(.int (i6 + (0 : Int32)))])) _
  refine XS.istore X0.here hx rfl (hb hby d2_51) rfl (l' := #[.val (.ref o0), .val (.int i1), .val (.int i2), .val (.ref o3), .val (.int i4), .val (.int i5), .val (.int (i6 + (0 : Int32))), .val (.int i7), .val (.int w7), .val (.int w8)]) rfl ?_
  show Steps p.tables e below (T0.setTop (mkF m 53 #[.val (.ref o0), .val (.int i1), .val (.int i2), .val (.ref o3), .val (.int i4), .val (.int i5), .val (.int (i6 + (0 : Int32))), .val (.int i7), .val (.int w7), .val (.int w8)] [])) _
  refine XS.iload X0.here hx rfl (hb hby d2_53) rfl ?_
  show Steps p.tables e below (T0.setTop (mkF m 55 #[.val (.ref o0), .val (.int i1), .val (.int i2), .val (.ref o3), .val (.int i4), .val (.int i5), .val (.int (i6 + (0 : Int32))), .val (.int i7), .val (.int w7), .val (.int w8)] [(.int i7)])) _
  refine XS.iload X0.here hx rfl (hb hby d2_55) rfl ?_
  show Steps p.tables e below (T0.setTop (mkF m 57 #[.val (.ref o0), .val (.int i1), .val (.int i2), .val (.ref o3), .val (.int i4), .val (.int i5), .val (.int (i6 + (0 : Int32))), .val (.int i7), .val (.int w7), .val (.int w8)] [(.int w7), (.int i7)])) _
  refine XS.iload X0.here hx rfl (hb hby d2_57) rfl ?_
  show Steps p.tables e below (T0.setTop (mkF m 59 #[.val (.ref o0), .val (.int i1), .val (.int i2), .val (.ref o3), .val (.int i4), .val (.int i5), .val (.int (i6 + (0 : Int32))), .val (.int i7), .val (.int w7), .val (.int w8)] [(.int w8), (.int w7), (.int i7)])) _
  refine XS.icmpYes X0.here hx rfl (pc0 := 59) (pc' := 66) rfl (hb hby d2_59) rfl (tlt hc59).1 (by decide) (by decide) ?_
  show Steps p.tables e below (T0.setTop (mkF m 66 #[.val (.ref o0), .val (.int i1), .val (.int i2), .val (.ref o3), .val (.int i4), .val (.int i5), .val (.int (i6 + (0 : Int32))), .val (.int i7), .val (.int w7), .val (.int w8)] [(.int i7)])) _
  refine XS.iconst X0.here hx rfl (hb hby d2_66) ?_
  show Steps p.tables e below (T0.setTop (mkF m 67 #[.val (.ref o0), .val (.int i1), .val (.int i2), .val (.ref o3), .val (.int i4), .val (.int i5), .val (.int (i6 + (0 : Int32))), .val (.int i7), .val (.int w7), .val (.int w8)] [(.int (0 : Int32)), (.int i7)])) _
  refine XS.iadd X0.here hx rfl (hb hby d2_67) rfl ?_
  show Steps p.tables e below (T0.setTop (mkF m 68 #[.val (.ref o0), .val (.int i1), .val (.int i2), .val (.ref o3), .val (.int i4), .val (.int i5), .val (.int (i6 + (0 : Int32))), .val (.int i7), .val (.int w7), .val (.int w8)] [(.int (i7 + (0 : Int32)))])) _
  refine XS.istore X0.here hx rfl (hb hby d2_68) rfl (l' := #[.val (.ref o0), .val (.int i1), .val (.int i2), .val (.ref o3), .val (.int i4), .val (.int i5), .val (.int (i6 + (0 : Int32))), .val (.int (i7 + (0 : Int32))), .val (.int w7), .val (.int w8)]) rfl ?_
  show Steps p.tables e below (T0.setTop (mkF m 70 #[.val (.ref o0), .val (.int i1), .val (.int i2), .val (.ref o3), .val (.int i4), .val (.int i5), .val (.int (i6 + (0 : Int32))), .val (.int (i7 + (0 : Int32))), .val (.int w7), .val (.int w8)] [])) _
  refine XS.iload X0.here hx rfl (hb hby d2_70) rfl ?_
  show Steps p.tables e below (T0.setTop (mkF m 72 #[.val (.ref o0), .val (.int i1), .val (.int i2), .val (.ref o3), .val (.int i4), .val (.int i5), .val (.int (i6 + (0 : Int32))), .val (.int (i7 + (0 : Int32))), .val (.int w7), .val (.int w8)] [(.int w7)])) _
  refine XS.iload X0.here hx rfl (hb hby d2_72) rfl ?_
  show Steps p.tables e below (T0.setTop (mkF m 74 #[.val (.ref o0), .val (.int i1), .val (.int i2), .val (.ref o3), .val (.int i4), .val (.int i5), .val (.int (i6 + (0 : Int32))), .val (.int (i7 + (0 : Int32))), .val (.int w7), .val (.int w8)] [(.int w8), (.int w7)])) _
  refine XS.icmpNo X0.here hx rfl (hb hby d2_74) rfl (tlt hc74).2.1 ?_
  exact kt
set_option maxRecDepth 65536 in
set_option maxHeartbeats 40000000 in
theorem own_out1 {p : Program} {l : Launch} {e : Env} {R : Room} {s : State} {m : MethodId} {args : Array Value} {below : List Frame} {meth : Method} {c : Code} {T0 : State} {locs : List Loc} {cells slots : Nat} {Z : State} {a0 : Array Value} {h0 : Heap} (s0 : Slot) (s1 : Slot) (i2 : Int32) (s3 : Slot) (s4 : Slot) (s5 : Slot) (i6 : Int32) (s7 : Slot) (s8 : Slot) (s9 : Slot)
    (X0 : Stand p l e R s m args below meth c T0 locs cells slots) (hx : p.tables.exec = Jvm.exec) (hZ : Z.Warmed39 s.vm) (hw : ∀ d ∈ tables_1, d.before a0 Z = true) (hby : c.code = prog_87_method_18_code) (hml : c.maxLocals = 10) (hown : s.vm.findClass "com/example/godwit/godwit/faults/Symbols" = some m.cls) (e0 : T0.heap = h0) (hc9 : ¬ (i6 < i2)) :
    ∃ (T' : State), Stand p l e R s m args below meth c T' locs cells slots ∧ T'.heap = h0 ∧
      ∀ target, Steps p.tables e below (T'.setTop (mkF m 82 #[s0, s1, .val (.int i2), s3, s4, s5, .val (.int i6), s7, s8, s9] [])) target → Steps p.tables e below (T0.setTop (mkF m 6 #[s0, s1, .val (.int i2), s3, s4, s5, .val (.int i6), s7, s8, s9] [])) target := by

  refine ⟨T0, X0, e0, fun target kt => ?_⟩
  show Steps p.tables e below (T0.setTop (mkF m 6 #[s0, s1, .val (.int i2), s3, s4, s5, .val (.int i6), s7, s8, s9] [])) _
  refine XS.iload X0.here hx rfl (hb hby d2_6) rfl ?_
  show Steps p.tables e below (T0.setTop (mkF m 8 #[s0, s1, .val (.int i2), s3, s4, s5, .val (.int i6), s7, s8, s9] [(.int i6)])) _
  refine XS.iloadN X0.here hx rfl (hb hby d2_8) rfl ?_
  show Steps p.tables e below (T0.setTop (mkF m 9 #[s0, s1, .val (.int i2), s3, s4, s5, .val (.int i6), s7, s8, s9] [(.int i2), (.int i6)])) _
  refine XS.icmpYes X0.here hx rfl (pc0 := 9) (pc' := 82) rfl (hb hby d2_9) rfl (flt hc9).2.1 (by decide) (by decide) ?_
  exact kt
set_option maxRecDepth 65536 in
set_option maxHeartbeats 40000000 in
theorem own_out2 {p : Program} {l : Launch} {e : Env} {R : Room} {s : State} {m : MethodId} {args : Array Value} {below : List Frame} {meth : Method} {c : Code} {T0 : State} {locs : List Loc} {cells slots : Nat} {Z : State} {a0 : Array Value} {h0 : Heap} (s0 : Slot) (s1 : Slot) (i2 : Int32) (s3 : Slot) (s4 : Slot) (i5 : Int32) (i6 : Int32) (i7 : Int32) (s8 : Slot) (s9 : Slot)
    (X0 : Stand p l e R s m args below meth c T0 locs cells slots) (hx : p.tables.exec = Jvm.exec) (hZ : Z.Warmed39 s.vm) (hw : ∀ d ∈ tables_1, d.before a0 Z = true) (hby : c.code = prog_87_method_18_code) (hml : c.maxLocals = 10) (hown : s.vm.findClass "com/example/godwit/godwit/faults/Symbols" = some m.cls) (e0 : T0.heap = h0) (hc9 : i6 < i2) (hc16 : ¬ (i7 < i5)) :
    ∃ (T' : State), Stand p l e R s m args below meth c T' locs cells slots ∧ T'.heap = h0 ∧
      ∀ target, Steps p.tables e below (T'.setTop (mkF m 82 #[s0, s1, .val (.int i2), s3, s4, .val (.int i5), .val (.int i6), .val (.int i7), s8, s9] [])) target → Steps p.tables e below (T0.setTop (mkF m 6 #[s0, s1, .val (.int i2), s3, s4, .val (.int i5), .val (.int i6), .val (.int i7), s8, s9] [])) target := by

  refine ⟨T0, X0, e0, fun target kt => ?_⟩
  show Steps p.tables e below (T0.setTop (mkF m 6 #[s0, s1, .val (.int i2), s3, s4, .val (.int i5), .val (.int i6), .val (.int i7), s8, s9] [])) _
  refine XS.iload X0.here hx rfl (hb hby d2_6) rfl ?_
  show Steps p.tables e below (T0.setTop (mkF m 8 #[s0, s1, .val (.int i2), s3, s4, .val (.int i5), .val (.int i6), .val (.int i7), s8, s9] [(.int i6)])) _
  refine XS.iloadN X0.here hx rfl (hb hby d2_8) rfl ?_
  show Steps p.tables e below (T0.setTop (mkF m 9 #[s0, s1, .val (.int i2), s3, s4, .val (.int i5), .val (.int i6), .val (.int i7), s8, s9] [(.int i2), (.int i6)])) _
  refine XS.icmpNo X0.here hx rfl (hb hby d2_9) rfl (tlt hc9).2.1 ?_
  show Steps p.tables e below (T0.setTop (mkF m 12 #[s0, s1, .val (.int i2), s3, s4, .val (.int i5), .val (.int i6), .val (.int i7), s8, s9] [])) _
  refine XS.iload X0.here hx rfl (hb hby d2_12) rfl ?_
  show Steps p.tables e below (T0.setTop (mkF m 14 #[s0, s1, .val (.int i2), s3, s4, .val (.int i5), .val (.int i6), .val (.int i7), s8, s9] [(.int i7)])) _
  refine XS.iload X0.here hx rfl (hb hby d2_14) rfl ?_
  show Steps p.tables e below (T0.setTop (mkF m 16 #[s0, s1, .val (.int i2), s3, s4, .val (.int i5), .val (.int i6), .val (.int i7), s8, s9] [(.int i5), (.int i7)])) _
  refine XS.icmpYes X0.here hx rfl (pc0 := 16) (pc' := 82) rfl (hb hby d2_16) rfl (flt hc16).2.1 (by decide) (by decide) ?_
  exact kt
set_option maxHeartbeats 4000000 in
theorem own_loop {p : Program} {l : Launch} {e : Env} {R : Room} {s : State} {m : MethodId} {args : Array Value} {below : List Frame} {meth : Method} {c : Code} {locs : List Loc} {cells slots : Nat} {Z : State} {a0 : Array Value} {h0 : Heap} (a b : Addr) (A B : Nat) (xs ys : List Int32) (f g : Nat → Int32)
    (hx : p.tables.exec = Jvm.exec) (hZ : Z.Warmed39 s.vm) (hw : ∀ d ∈ tables_1, d.before a0 Z = true) (hby : c.code = prog_87_method_18_code) (hml : c.maxLocals = 10) (hown : s.vm.findClass "com/example/godwit/godwit/faults/Symbols" = some m.cls)
    (F : OwnA Z h0 a f) (V : OwnV f A xs) (hA : A + xs.length ≤ 8) (G : OwnA Z h0 b g) (U : OwnV g B ys) (hB : B + ys.length ≤ 8) :
    ∀ (k : Nat) {T0 : State} (X0 : Stand p l e R s m args below meth c T0 locs cells slots) (e0 : T0.heap = h0) (i j : Nat) (s8 s9 : Slot), i ≤ xs.length → j ≤ ys.length → ys.length - j ≤ k → One s8 → One s9 →
      ∃ T' : State, Stand p l e R s m args below meth c T' locs cells slots ∧ T'.heap = h0 ∧
        ((own_sub (xs.drop i) (ys.drop j) = false ∧ ∃ (z6 z7 : Int32) (t8 t9 : Slot), ∀ target, Steps p.tables e below (T'.setTop (mkF m 77 #[.val (.ref a), .val (.int (Int32.ofNat A)), .val (.int (Int32.ofNat xs.length)), .val (.ref b), .val (.int (Int32.ofNat B)), .val (.int (Int32.ofNat ys.length)), .val (.int z6), .val (.int z7), t8, t9] [])) target → Steps p.tables e below (T0.setTop (mkF m 6 #[.val (.ref a), .val (.int (Int32.ofNat A)), .val (.int (Int32.ofNat xs.length)), .val (.ref b), .val (.int (Int32.ofNat B)), .val (.int (Int32.ofNat ys.length)), .val (.int (Int32.ofNat i)), .val (.int (Int32.ofNat j)), s8, s9] [])) target) ∨
         (∃ i' : Nat, i' ≤ xs.length ∧ own_sub (xs.drop i) (ys.drop j) = decide (i' = xs.length) ∧ ∃ (z7 : Int32) (t8 t9 : Slot), ∀ target, Steps p.tables e below (T'.setTop (mkF m 82 #[.val (.ref a), .val (.int (Int32.ofNat A)), .val (.int (Int32.ofNat xs.length)), .val (.ref b), .val (.int (Int32.ofNat B)), .val (.int (Int32.ofNat ys.length)), .val (.int (Int32.ofNat i')), .val (.int z7), t8, t9] [])) target → Steps p.tables e below (T0.setTop (mkF m 6 #[.val (.ref a), .val (.int (Int32.ofNat A)), .val (.int (Int32.ofNat xs.length)), .val (.ref b), .val (.int (Int32.ofNat B)), .val (.int (Int32.ofNat ys.length)), .val (.int (Int32.ofNat i)), .val (.int (Int32.ofNat j)), s8, s9] [])) target)) := by
  obtain ⟨cl, Ar, S, H⟩ := F
  obtain ⟨cm, Br, Sm, Hm⟩ := G
  intro k
  induction k with
  | zero =>
    intro T0 X0 e0 i j s8 s9 hi hj hk h8 h9
    have hj0 : j = ys.length := by omega
    subst hj0
    by_cases hc : i < xs.length
    · obtain ⟨T1, X1, e1, st1⟩ := own_out2 (.val (.ref a)) (.val (.int (Int32.ofNat A))) (Int32.ofNat xs.length) (.val (.ref b)) (.val (.int (Int32.ofNat B))) (Int32.ofNat ys.length) (Int32.ofNat i) (Int32.ofNat ys.length) s8 s9 X0 hx hZ hw hby hml hown e0 ((own_lt (by omega) (by omega)).mpr hc) (fun q => Nat.lt_irrefl _ ((own_lt (by omega) (by omega)).mp q))
      refine ⟨T1, X1, e1, Or.inr ⟨i, hi, ?_, _, _, _, st1⟩⟩
      rw [List.drop_length, own_drop hc, own_sub_cn]
      exact (decide_eq_false (by omega)).symm
    · obtain ⟨T1, X1, e1, st1⟩ := own_out1 (.val (.ref a)) (.val (.int (Int32.ofNat A))) (Int32.ofNat xs.length) (.val (.ref b)) (.val (.int (Int32.ofNat B))) (.val (.int (Int32.ofNat ys.length))) (Int32.ofNat i) (.val (.int (Int32.ofNat ys.length))) s8 s9 X0 hx hZ hw hby hml hown e0 (fun q => hc ((own_lt (by omega) (by omega)).mp q))
      refine ⟨T1, X1, e1, Or.inr ⟨i, hi, ?_, _, _, _, st1⟩⟩
      have hi0 : i = xs.length := by omega
      subst hi0
      rw [List.drop_length, own_sub_nil]
      exact (decide_eq_true rfl).symm
  | succ k ih =>
    intro T0 X0 e0 i j s8 s9 hi hj hk h8 h9
    by_cases hc : i < xs.length
    · by_cases hd : j < ys.length
      · have q1 := own_idx (A := A) (i := i) (by omega)
        have q2 := own_idx (A := B) (i := j) (by omega)
        have p9 := (own_lt (i := i) (n := xs.length) (by omega) (by omega)).mpr hc
        have p16 := (own_lt (i := j) (n := ys.length) (by omega) (by omega)).mpr hd
        have at1 : cl.slots[(Int32.ofNat A + Int32.ofNat i).toNatClampNeg]? = some (.int (xs.getD i 0)) := by rw [q1.1, H _ (by omega), V i hc]
        have at2 : cm.slots[(Int32.ofNat B + Int32.ofNat j).toNatClampNeg]? = some (.int (ys.getD j 0)) := by rw [q2.1, Hm _ (by omega), U j hd]
        have in1 : ¬ (Int32.ofNat A + Int32.ofNat i < 0 ∨ cl.slots.size ≤ (Int32.ofNat A + Int32.ofNat i).toNatClampNeg) := by rw [q1.1, S]; exact fun q => q.elim q1.2 (fun q => by omega)
        have in2 : ¬ (Int32.ofNat B + Int32.ofNat j < 0 ∨ cm.slots.size ≤ (Int32.ofNat B + Int32.ofNat j).toNatClampNeg) := by rw [q2.1, Sm]; exact fun q => q.elim q2.2 (fun q => by omega)
        rw [own_drop hc, own_drop hd, own_sub_cc]
        by_cases lt : xs.getD i 0 < ys.getD j 0
        · obtain ⟨T1, X1, e1, st1⟩ := own_ltT a (Int32.ofNat A) (Int32.ofNat xs.length) b (Int32.ofNat B) (Int32.ofNat ys.length) (Int32.ofNat i) (Int32.ofNat j) s8 s9 (xs.getD i 0) cl (ys.getD j 0) cm X0 hx hZ hw hby hml hown e0 Ar in1 at1 h8 Br in2 at2 h9 p9 p16 (own_ne_of_lt lt) lt lt
          rw [if_pos lt]
          exact ⟨T1, X1, e1, Or.inl ⟨rfl, _, _, _, _, st1⟩⟩
        · rw [if_neg lt]
          by_cases eq : xs.getD i 0 = ys.getD j 0
          · obtain ⟨T1, X1, e1, st1⟩ := own_eqT a (Int32.ofNat A) (Int32.ofNat xs.length) b (Int32.ofNat B) (Int32.ofNat ys.length) (Int32.ofNat i) (Int32.ofNat j) s8 s9 (xs.getD i 0) cl (ys.getD j 0) cm X0 hx hZ hw hby hml hown e0 Ar in1 at1 h8 Br in2 at2 h9 p9 p16 eq lt lt
            rw [own_more, own_more] at st1
            rw [if_pos eq]
            obtain ⟨T2, X2, e2, r⟩ := ih X1 e1 (i + 1) (j + 1) (.val (.int (xs.getD i 0))) (.val (.int (ys.getD j 0))) (by omega) (by omega) (by omega) (One.val rfl) (One.val rfl)
            refine ⟨T2, X2, e2, ?_⟩
            rcases r with ⟨q, z6, z7, t8, t9, st2⟩ | ⟨i', hi', q, z7, t8, t9, st2⟩
            · exact Or.inl ⟨q, z6, z7, t8, t9, fun target kt => st1 _ (st2 _ kt)⟩
            · exact Or.inr ⟨i', hi', q, z7, t8, t9, fun target kt => st1 _ (st2 _ kt)⟩
          · obtain ⟨T1, X1, e1, st1⟩ := own_gtT a (Int32.ofNat A) (Int32.ofNat xs.length) b (Int32.ofNat B) (Int32.ofNat ys.length) (Int32.ofNat i) (Int32.ofNat j) s8 s9 (xs.getD i 0) cl (ys.getD j 0) cm X0 hx hZ hw hby hml hown e0 Ar in1 at1 h8 Br in2 at2 h9 p9 p16 eq lt lt
            rw [own_more, Int32.add_zero] at st1
            rw [if_neg eq, ← own_drop hc]
            obtain ⟨T2, X2, e2, r⟩ := ih X1 e1 i (j + 1) (.val (.int (xs.getD i 0))) (.val (.int (ys.getD j 0))) (by omega) (by omega) (by omega) (One.val rfl) (One.val rfl)
            refine ⟨T2, X2, e2, ?_⟩
            rcases r with ⟨q, z6, z7, t8, t9, st2⟩ | ⟨i', hi', q, z7, t8, t9, st2⟩
            · exact Or.inl ⟨q, z6, z7, t8, t9, fun target kt => st1 _ (st2 _ kt)⟩
            · exact Or.inr ⟨i', hi', q, z7, t8, t9, fun target kt => st1 _ (st2 _ kt)⟩
      · have hj0 : j = ys.length := by omega
        subst hj0
        obtain ⟨T1, X1, e1, st1⟩ := own_out2 (.val (.ref a)) (.val (.int (Int32.ofNat A))) (Int32.ofNat xs.length) (.val (.ref b)) (.val (.int (Int32.ofNat B))) (Int32.ofNat ys.length) (Int32.ofNat i) (Int32.ofNat ys.length) s8 s9 X0 hx hZ hw hby hml hown e0 ((own_lt (by omega) (by omega)).mpr hc) (fun q => Nat.lt_irrefl _ ((own_lt (by omega) (by omega)).mp q))
        refine ⟨T1, X1, e1, Or.inr ⟨i, hi, ?_, _, _, _, st1⟩⟩
        rw [List.drop_length, own_drop hc, own_sub_cn]
        exact (decide_eq_false (by omega)).symm
    · obtain ⟨T1, X1, e1, st1⟩ := own_out1 (.val (.ref a)) (.val (.int (Int32.ofNat A))) (Int32.ofNat xs.length) (.val (.ref b)) (.val (.int (Int32.ofNat B))) (.val (.int (Int32.ofNat ys.length))) (Int32.ofNat i) (.val (.int (Int32.ofNat j))) s8 s9 X0 hx hZ hw hby hml hown e0 (fun q => hc ((own_lt (by omega) (by omega)).mp q))
      refine ⟨T1, X1, e1, Or.inr ⟨i, hi, ?_, _, _, _, st1⟩⟩
      have hi0 : i = xs.length := by omega
      subst hi0
      rw [List.drop_length, own_sub_nil]
      exact (decide_eq_true rfl).symm
def Q2 (r : Bool) (h0 : Heap) (n0 : Nat) (v : Option Value) (h : Heap) (L : List Loc) : Prop := v = some (.int (if r = true then 1 else 0)) ∧ Fr n0 L ∧ h = h0
theorem d2_0 : decode prog_87_method_18_code 0 = .ok (.iconst 0, 1) := by decide +kernel
theorem d2_1 : decode prog_87_method_18_code 1 = .ok (.istore 6, 2) := by decide +kernel
theorem d2_3 : decode prog_87_method_18_code 3 = .ok (.iconst 0, 1) := by decide +kernel
theorem d2_4 : decode prog_87_method_18_code 4 = .ok (.istore 7, 2) := by decide +kernel
theorem d2_82 : decode prog_87_method_18_code 82 = .ok (.iload 6, 2) := by decide +kernel
theorem d2_84 : decode prog_87_method_18_code 84 = .ok (.iload_n 2, 1) := by decide +kernel
theorem d2_85 : decode prog_87_method_18_code 85 = .ok (.if_icmp .ne 7, 3) := by decide +kernel
theorem d2_92 : decode prog_87_method_18_code 92 = .ok (.iconst 0, 1) := by decide +kernel
theorem d2_93 : decode prog_87_method_18_code 93 = .ok (.ireturn, 1) := by decide +kernel
theorem pn_2 : plainName "com/example/godwit/godwit/faults/Symbols" = true := by first | (simp [plainName, overriddenIn]; done) | decide +kernel
theorem ef_2 (m : MethodId) (x0 : Addr) (x1 : Int32) (x2 : Int32) (x3 : Addr) (x4 : Int32) (x5 : Int32) : entryFrame m #[(.ref x0), (.int x1), (.int x2), (.ref x3), (.int x4), (.int x5)] 10 = mkF m 0 #[.val (.ref x0), .val (.int x1), .val (.int x2), .val (.ref x3), .val (.int x4), .val (.int x5), .unset, .unset, .unset, .unset] [] := by first | (simp [entryFrame, mkF, argsToLocals, Value.category]; done) | rfl
theorem d2_88 : decode prog_87_method_18_code 88 = .ok (.iconst 1, 1) := by decide +kernel
theorem d2_89 : decode prog_87_method_18_code 89 = .ok (.goto 4, 3) := by decide +kernel
theorem d2_77 : decode prog_87_method_18_code 77 = .ok (.iconst 0, 1) := by decide +kernel
theorem d2_78 : decode prog_87_method_18_code 78 = .ok (.ireturn, 1) := by decide +kernel
set_option maxRecDepth 65536 in
set_option maxHeartbeats 40000000 in
theorem rm2 (l : Launch) (Z : State) (a0 : Array Value) (hw : ∀ d ∈ tables_1, d.before a0 Z = true) (ws : List Jvm.Cond) (a1 : Addr) (p2 : Int32) (p3 : Int32) (a4 : Addr) (p5 : Int32) (p6 : Int32) (h0 : Heap) (n0 : Nat) (Z0 : n0 ≤ h0.size) (A B : Nat) (xs ys : List Int32) (f g : Nat → Int32) (q2 : p2 = Int32.ofNat A) (q3 : p3 = Int32.ofNat xs.length) (q5 : p5 = Int32.ofNat B) (q6 : p6 = Int32.ofNat ys.length) (F : OwnA Z h0 a1 f) (V : OwnV f A xs) (hA : A + xs.length ≤ 8) (G : OwnA Z h0 a4 g) (U : OwnV g B ys) (hB : B + ys.length ≤ 8) :
    MetFree l (⟨"com/example/godwit/godwit/faults/Symbols", "isSubset", "([III[III)Z"⟩ : MethodName) (head1 (Jvm.Cond.code (⟨"com/example/godwit/godwit/faults/Symbols", "isSubset", "([III[III)Z"⟩ : MethodName) prog_87_method_18_code 10 (some .boolean) :: ws) ({ frames := 0, cells := 0, slots := 0, locals := 0 } : Room)) (fun a U => a = #[(.ref a1), (.int p2), (.int p3), (.ref a4), (.int p5), (.int p6)] ∧ Z.Warmed39 U.vm ∧ U.heap = h0) (fun _ _ _ _ _ => True) (fun _ U o U' => ∃ v L, o = .returned v ∧ Q2 (own_sub xs ys) h0 n0 v U'.heap L ∧ FrameEnd U o U' L ({ frames := 0, cells := 0, slots := 0, locals := 0 } : Room).cells ({ frames := 0, cells := 0, slots := 0, locals := 0 } : Room).slots) := by
  refine MetFree.of_bodySF (plainFor_of_name pn_2) hisR ?_
  intro p e s m args below meth c s₁ Bd hml0 hP hK
  obtain ⟨rfl, hZ, hh⟩ := hP
  have hx := Bd.exec
  have hby := Bd.bytes
  have hml : c.maxLocals = 10 := hml0
  have hown : s.vm.findClass "com/example/godwit/godwit/faults/Symbols" = some m.cls := findClass_of_methodNamed Bd.named
  have hnm := (name_of_methodNamed Bd.named Bd.method).1
  have X0 : Stand p l e ({ frames := 0, cells := 0, slots := 0, locals := 0 } : Room) s m #[(.ref a1), (.int p2), (.int p3), (.ref a4), (.int p5), (.int p6)] below meth c s₁ [] 0 0 := Stand.of_body Bd
  have e0 : s₁.heap = h0 := by rw [← hh, Bd.state]; rfl
  have N0 := Fr.nil n0
  have pre0 : ∀ t, Steps p.tables e below (s₁.setTop (mkF m 0 #[.val (.ref a1), .val (.int p2), .val (.int p3), .val (.ref a4), .val (.int p5), .val (.int p6), .unset, .unset, .unset, .unset] [])) t → Steps p.tables e below (s₁.setTop (entryFrame m #[(.ref a1), (.int p2), (.int p3), (.ref a4), (.int p5), (.int p6)] 10)) t := fun t k => castTop (ef_2 m a1 p2 p3 a4 p5 p6) k
  subst q2 q3 q5 q6
  obtain ⟨T1, X1, e1, r⟩ := own_loop a1 a4 A B xs ys f g hx hZ hw hby hml hown F V hA G U hB ys.length X0 e0 0 0 .unset .unset (Nat.zero_le _) (Nat.zero_le _) (Nat.sub_le _ _) One.u One.u
  rw [List.drop_zero, List.drop_zero] at r
  rcases r with ⟨hq, z6, z7, t8, t9, st1⟩ | ⟨i', hi', hq, z7, t8, t9, st1⟩
  · obtain ⟨fs, hr, hrun, hended, hW, hsame⟩ := X1.leave (v := some (.int (0 : Int32))) (fun h => by rw [Bd.returns] at h; cases h)
    refine ⟨_, _, pre0 _ ?_, hrun, hended, _, _, rfl, ?_, ⟨_, rfl⟩, hW, hsame.mono (by decide) (by decide)⟩
    · show Steps p.tables e below (s₁.setTop (mkF m 0 #[.val (.ref a1), .val (.int (Int32.ofNat A)), .val (.int (Int32.ofNat xs.length)), .val (.ref a4), .val (.int (Int32.ofNat B)), .val (.int (Int32.ofNat ys.length)), .unset, .unset, .unset, .unset] [])) _
      refine XS.iconst X0.here hx rfl (hb hby d2_0) ?_
      show Steps p.tables e below (s₁.setTop (mkF m 1 #[.val (.ref a1), .val (.int (Int32.ofNat A)), .val (.int (Int32.ofNat xs.length)), .val (.ref a4), .val (.int (Int32.ofNat B)), .val (.int (Int32.ofNat ys.length)), .unset, .unset, .unset, .unset] [(.int (0 : Int32))])) _
      refine XS.istore X0.here hx rfl (hb hby d2_1) rfl (l' := #[.val (.ref a1), .val (.int (Int32.ofNat A)), .val (.int (Int32.ofNat xs.length)), .val (.ref a4), .val (.int (Int32.ofNat B)), .val (.int (Int32.ofNat ys.length)), .val (.int (0 : Int32)), .unset, .unset, .unset]) rfl ?_
      show Steps p.tables e below (s₁.setTop (mkF m 3 #[.val (.ref a1), .val (.int (Int32.ofNat A)), .val (.int (Int32.ofNat xs.length)), .val (.ref a4), .val (.int (Int32.ofNat B)), .val (.int (Int32.ofNat ys.length)), .val (.int (0 : Int32)), .unset, .unset, .unset] [])) _
      refine XS.iconst X0.here hx rfl (hb hby d2_3) ?_
      show Steps p.tables e below (s₁.setTop (mkF m 4 #[.val (.ref a1), .val (.int (Int32.ofNat A)), .val (.int (Int32.ofNat xs.length)), .val (.ref a4), .val (.int (Int32.ofNat B)), .val (.int (Int32.ofNat ys.length)), .val (.int (0 : Int32)), .unset, .unset, .unset] [(.int (0 : Int32))])) _
      refine XS.istore X0.here hx rfl (hb hby d2_4) rfl (l' := #[.val (.ref a1), .val (.int (Int32.ofNat A)), .val (.int (Int32.ofNat xs.length)), .val (.ref a4), .val (.int (Int32.ofNat B)), .val (.int (Int32.ofNat ys.length)), .val (.int (0 : Int32)), .val (.int (0 : Int32)), .unset, .unset]) rfl ?_
      refine st1 _ ?_
      show Steps p.tables e below (T1.setTop (mkF m 77 #[.val (.ref a1), .val (.int (Int32.ofNat A)), .val (.int (Int32.ofNat xs.length)), .val (.ref a4), .val (.int (Int32.ofNat B)), .val (.int (Int32.ofNat ys.length)), .val (.int z6), .val (.int z7), t8, t9] [])) _
      refine XS.iconst X1.here hx rfl (hb hby d2_77) ?_
      show Steps p.tables e below (T1.setTop (mkF m 78 #[.val (.ref a1), .val (.int (Int32.ofNat A)), .val (.int (Int32.ofNat xs.length)), .val (.ref a4), .val (.int (Int32.ofNat B)), .val (.int (Int32.ofNat ys.length)), .val (.int z6), .val (.int z7), t8, t9] [(.int (0 : Int32))])) _
      exact retN X1 hx (t := .boolean) Bd.returns (by simp) (hb hby d2_78) hr
    · show Q2 (own_sub xs ys) h0 n0 _ T1.heap _
      rw [e1, hq]
      exact ⟨rfl, N0, rfl⟩
  · by_cases hl : i' = xs.length
    · obtain ⟨fs, hr, hrun, hended, hW, hsame⟩ := X1.leave (v := some (.int (1 : Int32))) (fun h => by rw [Bd.returns] at h; cases h)
      refine ⟨_, _, pre0 _ ?_, hrun, hended, _, _, rfl, ?_, ⟨_, rfl⟩, hW, hsame.mono (by decide) (by decide)⟩
      · show Steps p.tables e below (s₁.setTop (mkF m 0 #[.val (.ref a1), .val (.int (Int32.ofNat A)), .val (.int (Int32.ofNat xs.length)), .val (.ref a4), .val (.int (Int32.ofNat B)), .val (.int (Int32.ofNat ys.length)), .unset, .unset, .unset, .unset] [])) _
        refine XS.iconst X0.here hx rfl (hb hby d2_0) ?_
        show Steps p.tables e below (s₁.setTop (mkF m 1 #[.val (.ref a1), .val (.int (Int32.ofNat A)), .val (.int (Int32.ofNat xs.length)), .val (.ref a4), .val (.int (Int32.ofNat B)), .val (.int (Int32.ofNat ys.length)), .unset, .unset, .unset, .unset] [(.int (0 : Int32))])) _
        refine XS.istore X0.here hx rfl (hb hby d2_1) rfl (l' := #[.val (.ref a1), .val (.int (Int32.ofNat A)), .val (.int (Int32.ofNat xs.length)), .val (.ref a4), .val (.int (Int32.ofNat B)), .val (.int (Int32.ofNat ys.length)), .val (.int (0 : Int32)), .unset, .unset, .unset]) rfl ?_
        show Steps p.tables e below (s₁.setTop (mkF m 3 #[.val (.ref a1), .val (.int (Int32.ofNat A)), .val (.int (Int32.ofNat xs.length)), .val (.ref a4), .val (.int (Int32.ofNat B)), .val (.int (Int32.ofNat ys.length)), .val (.int (0 : Int32)), .unset, .unset, .unset] [])) _
        refine XS.iconst X0.here hx rfl (hb hby d2_3) ?_
        show Steps p.tables e below (s₁.setTop (mkF m 4 #[.val (.ref a1), .val (.int (Int32.ofNat A)), .val (.int (Int32.ofNat xs.length)), .val (.ref a4), .val (.int (Int32.ofNat B)), .val (.int (Int32.ofNat ys.length)), .val (.int (0 : Int32)), .unset, .unset, .unset] [(.int (0 : Int32))])) _
        refine XS.istore X0.here hx rfl (hb hby d2_4) rfl (l' := #[.val (.ref a1), .val (.int (Int32.ofNat A)), .val (.int (Int32.ofNat xs.length)), .val (.ref a4), .val (.int (Int32.ofNat B)), .val (.int (Int32.ofNat ys.length)), .val (.int (0 : Int32)), .val (.int (0 : Int32)), .unset, .unset]) rfl ?_
        refine st1 _ ?_
        show Steps p.tables e below (T1.setTop (mkF m 82 #[.val (.ref a1), .val (.int (Int32.ofNat A)), .val (.int (Int32.ofNat xs.length)), .val (.ref a4), .val (.int (Int32.ofNat B)), .val (.int (Int32.ofNat ys.length)), .val (.int (Int32.ofNat i')), .val (.int z7), t8, t9] [])) _
        refine XS.iload X1.here hx rfl (hb hby d2_82) rfl ?_
        show Steps p.tables e below (T1.setTop (mkF m 84 #[.val (.ref a1), .val (.int (Int32.ofNat A)), .val (.int (Int32.ofNat xs.length)), .val (.ref a4), .val (.int (Int32.ofNat B)), .val (.int (Int32.ofNat ys.length)), .val (.int (Int32.ofNat i')), .val (.int z7), t8, t9] [(.int (Int32.ofNat i'))])) _
        refine XS.iloadN X1.here hx rfl (hb hby d2_84) rfl ?_
        show Steps p.tables e below (T1.setTop (mkF m 85 #[.val (.ref a1), .val (.int (Int32.ofNat A)), .val (.int (Int32.ofNat xs.length)), .val (.ref a4), .val (.int (Int32.ofNat B)), .val (.int (Int32.ofNat ys.length)), .val (.int (Int32.ofNat i')), .val (.int z7), t8, t9] [(.int (Int32.ofNat xs.length)), (.int (Int32.ofNat i'))])) _
        refine XS.icmpNo X1.here hx rfl (hb hby d2_85) rfl (teq (congrArg Int32.ofNat hl : Int32.ofNat i' = Int32.ofNat xs.length)).2 ?_
        show Steps p.tables e below (T1.setTop (mkF m 88 #[.val (.ref a1), .val (.int (Int32.ofNat A)), .val (.int (Int32.ofNat xs.length)), .val (.ref a4), .val (.int (Int32.ofNat B)), .val (.int (Int32.ofNat ys.length)), .val (.int (Int32.ofNat i')), .val (.int z7), t8, t9] [])) _
        refine XS.iconst X1.here hx rfl (hb hby d2_88) ?_
        show Steps p.tables e below (T1.setTop (mkF m 89 #[.val (.ref a1), .val (.int (Int32.ofNat A)), .val (.int (Int32.ofNat xs.length)), .val (.ref a4), .val (.int (Int32.ofNat B)), .val (.int (Int32.ofNat ys.length)), .val (.int (Int32.ofNat i')), .val (.int z7), t8, t9] [(.int (1 : Int32))])) _
        refine XS.goto X1.here hx rfl (pc0 := 89) (pc' := 93) rfl (hb hby d2_89) (by decide) (by decide) ?_
        show Steps p.tables e below (T1.setTop (mkF m 93 #[.val (.ref a1), .val (.int (Int32.ofNat A)), .val (.int (Int32.ofNat xs.length)), .val (.ref a4), .val (.int (Int32.ofNat B)), .val (.int (Int32.ofNat ys.length)), .val (.int (Int32.ofNat i')), .val (.int z7), t8, t9] [(.int (1 : Int32))])) _
        exact retN X1 hx (t := .boolean) Bd.returns (by simp) (hb hby d2_93) hr
      · show Q2 (own_sub xs ys) h0 n0 _ T1.heap _
        rw [e1, hq, decide_eq_true hl]
        exact ⟨rfl, N0, rfl⟩
    · obtain ⟨fs, hr, hrun, hended, hW, hsame⟩ := X1.leave (v := some (.int (0 : Int32))) (fun h => by rw [Bd.returns] at h; cases h)
      refine ⟨_, _, pre0 _ ?_, hrun, hended, _, _, rfl, ?_, ⟨_, rfl⟩, hW, hsame.mono (by decide) (by decide)⟩
      · show Steps p.tables e below (s₁.setTop (mkF m 0 #[.val (.ref a1), .val (.int (Int32.ofNat A)), .val (.int (Int32.ofNat xs.length)), .val (.ref a4), .val (.int (Int32.ofNat B)), .val (.int (Int32.ofNat ys.length)), .unset, .unset, .unset, .unset] [])) _
        refine XS.iconst X0.here hx rfl (hb hby d2_0) ?_
        show Steps p.tables e below (s₁.setTop (mkF m 1 #[.val (.ref a1), .val (.int (Int32.ofNat A)), .val (.int (Int32.ofNat xs.length)), .val (.ref a4), .val (.int (Int32.ofNat B)), .val (.int (Int32.ofNat ys.length)), .unset, .unset, .unset, .unset] [(.int (0 : Int32))])) _
        refine XS.istore X0.here hx rfl (hb hby d2_1) rfl (l' := #[.val (.ref a1), .val (.int (Int32.ofNat A)), .val (.int (Int32.ofNat xs.length)), .val (.ref a4), .val (.int (Int32.ofNat B)), .val (.int (Int32.ofNat ys.length)), .val (.int (0 : Int32)), .unset, .unset, .unset]) rfl ?_
        show Steps p.tables e below (s₁.setTop (mkF m 3 #[.val (.ref a1), .val (.int (Int32.ofNat A)), .val (.int (Int32.ofNat xs.length)), .val (.ref a4), .val (.int (Int32.ofNat B)), .val (.int (Int32.ofNat ys.length)), .val (.int (0 : Int32)), .unset, .unset, .unset] [])) _
        refine XS.iconst X0.here hx rfl (hb hby d2_3) ?_
        show Steps p.tables e below (s₁.setTop (mkF m 4 #[.val (.ref a1), .val (.int (Int32.ofNat A)), .val (.int (Int32.ofNat xs.length)), .val (.ref a4), .val (.int (Int32.ofNat B)), .val (.int (Int32.ofNat ys.length)), .val (.int (0 : Int32)), .unset, .unset, .unset] [(.int (0 : Int32))])) _
        refine XS.istore X0.here hx rfl (hb hby d2_4) rfl (l' := #[.val (.ref a1), .val (.int (Int32.ofNat A)), .val (.int (Int32.ofNat xs.length)), .val (.ref a4), .val (.int (Int32.ofNat B)), .val (.int (Int32.ofNat ys.length)), .val (.int (0 : Int32)), .val (.int (0 : Int32)), .unset, .unset]) rfl ?_
        refine st1 _ ?_
        show Steps p.tables e below (T1.setTop (mkF m 82 #[.val (.ref a1), .val (.int (Int32.ofNat A)), .val (.int (Int32.ofNat xs.length)), .val (.ref a4), .val (.int (Int32.ofNat B)), .val (.int (Int32.ofNat ys.length)), .val (.int (Int32.ofNat i')), .val (.int z7), t8, t9] [])) _
        refine XS.iload X1.here hx rfl (hb hby d2_82) rfl ?_
        show Steps p.tables e below (T1.setTop (mkF m 84 #[.val (.ref a1), .val (.int (Int32.ofNat A)), .val (.int (Int32.ofNat xs.length)), .val (.ref a4), .val (.int (Int32.ofNat B)), .val (.int (Int32.ofNat ys.length)), .val (.int (Int32.ofNat i')), .val (.int z7), t8, t9] [(.int (Int32.ofNat i'))])) _
        refine XS.iloadN X1.here hx rfl (hb hby d2_84) rfl ?_
        show Steps p.tables e below (T1.setTop (mkF m 85 #[.val (.ref a1), .val (.int (Int32.ofNat A)), .val (.int (Int32.ofNat xs.length)), .val (.ref a4), .val (.int (Int32.ofNat B)), .val (.int (Int32.ofNat ys.length)), .val (.int (Int32.ofNat i')), .val (.int z7), t8, t9] [(.int (Int32.ofNat xs.length)), (.int (Int32.ofNat i'))])) _
        refine XS.icmpYes X1.here hx rfl (pc0 := 85) (pc' := 92) rfl (hb hby d2_85) rfl (feq (own_ofNat_ne (by omega) (by omega) hl)).2 (by decide) (by decide) ?_
        show Steps p.tables e below (T1.setTop (mkF m 92 #[.val (.ref a1), .val (.int (Int32.ofNat A)), .val (.int (Int32.ofNat xs.length)), .val (.ref a4), .val (.int (Int32.ofNat B)), .val (.int (Int32.ofNat ys.length)), .val (.int (Int32.ofNat i')), .val (.int z7), t8, t9] [])) _
        refine XS.iconst X1.here hx rfl (hb hby d2_92) ?_
        show Steps p.tables e below (T1.setTop (mkF m 93 #[.val (.ref a1), .val (.int (Int32.ofNat A)), .val (.int (Int32.ofNat xs.length)), .val (.ref a4), .val (.int (Int32.ofNat B)), .val (.int (Int32.ofNat ys.length)), .val (.int (Int32.ofNat i')), .val (.int z7), t8, t9] [(.int (0 : Int32))])) _
        exact retN X1 hx (t := .boolean) Bd.returns (by simp) (hb hby d2_93) hr
      · show Q2 (own_sub xs ys) h0 n0 _ T1.heap _
        rw [e1, hq, decide_eq_false hl]
        exact ⟨rfl, N0, rfl⟩
def own_v0 (p1 : Int32) : Int32 := ((-2147483648 : Int32) + (p1 &&& (1073741823 : Int32)))
def own_v1 (p1 p2 : Int32) : Int32 := own_v0 p1 + (1 : Int32) + (p2 &&& (1073741823 : Int32))
def own_v2 (p1 p2 p3 : Int32) : Int32 := own_v1 p1 p2 + (1 : Int32) + (p3 &&& (1073741823 : Int32))
def own_v3 (p1 p2 p3 p4 : Int32) : Int32 := own_v2 p1 p2 p3 + (1 : Int32) + (p4 &&& (1073741822 : Int32))
def own_om (p5 : Int32) : Int32 := (((p5.toUInt32 >>> ((4 : Int32) &&& 31).toUInt32).toInt32) &&& (15 : Int32))
def own_fr (p5 : Int32) : Int32 := (((p5.toUInt32 >>> ((8 : Int32) &&& 31).toUInt32).toInt32) &&& (3 : Int32))
def own_of (p5 : Int32) : Int32 := (((p5.toUInt32 >>> ((10 : Int32) &&& 31).toUInt32).toInt32) &&& (3 : Int32))
def own_xs (p1 p2 p3 p4 p5 : Int32) : List Int32 := own_sel (own_bit 1 (p5 &&& 15)) (own_bit 2 (p5 &&& 15)) (own_bit 4 (p5 &&& 15)) (own_bit 8 (p5 &&& 15)) (own_v0 p1) (own_v1 p1 p2) (own_v2 p1 p2 p3) (own_v3 p1 p2 p3 p4)
def own_ys (p1 p2 p3 p4 p5 : Int32) : List Int32 := own_sel (own_bit 1 (own_om p5)) (own_bit 2 (own_om p5)) (own_bit 4 (own_om p5)) (own_bit 8 (own_om p5)) (own_v0 p1) (own_v1 p1 p2) (own_v2 p1 p2 p3) (own_v3 p1 p2 p3 p4)
theorem own_res (p1 p2 p3 p4 p5 : Int32) : own_sub (own_xs p1 p2 p3 p4 p5) (own_ys p1 p2 p3 p4 p5) = decide (((p5 &&& 15) &&& (own_om p5 ^^^ (-1))) = 0) := by
  obtain ⟨h1, h2, h3⟩ := own_up p1 p2 p3 p4 (own_v0 p1) (own_v1 p1 p2) (own_v2 p1 p2 p3) (own_v3 p1 p2 p3 p4) rfl rfl rfl rfl
  rw [own_xs, own_ys, own_sub_sel _ _ _ _ _ _ _ _ _ _ _ _ h1 h2 h3, show own_om p5 = ((p5.toUInt32 >>> ((4 : Int32) &&& 31).toUInt32).toInt32) &&& 15 from rfl, own_mask]
def Q0 (n0 : Nat) (v : Option Value) (h : Heap) (L : List Loc) : Prop := v = some (.int (1 : Int32)) ∧ Fr n0 L
theorem pn_0 : plainName "com/example/godwit/godwit/faults/SymbolsIsSubsetPinLaw" = true := by first | (simp [plainName, overriddenIn]; done) | decide +kernel
theorem pd_0_0 : parseMethodDescriptor "([IIIIIII)I" = some ⟨[(.array .int), .int, .int, .int, .int, .int, .int], some .int⟩ := by decide +kernel
theorem pd_0_1 : parseMethodDescriptor "([III[III)Z" = some ⟨[(.array .int), .int, .int, (.array .int), .int, .int], some .boolean⟩ := by decide +kernel
theorem ef_0 (m : MethodId) (x0 : Int32) (x1 : Int32) (x2 : Int32) (x3 : Int32) (x4 : Int32) (x5 : Int32) : entryFrame m #[(.int x0), (.int x1), (.int x2), (.int x3), (.int x4), (.int x5)] maxLocals = mkF m 0 #[.val (.int x0), .val (.int x1), .val (.int x2), .val (.int x3), .val (.int x4), .val (.int x5), .unset, .unset, .unset, .unset, .unset, .unset, .unset, .unset, .unset, .unset, .unset, .unset, .unset] [] := by first | (simp [entryFrame, mkF, argsToLocals, Value.category, maxLocals]; done) | rfl
set_option maxRecDepth 65536 in
set_option maxHeartbeats 40000000 in
theorem rm0_ff (l : Launch) (Z : State) (a0 : Array Value) (hw : ∀ d ∈ tables_1, d.before a0 Z = true) (ws : List Jvm.Cond) (p1 : Int32) (p2 : Int32) (p3 : Int32) (p4 : Int32) (p5 : Int32) (p6 : Int32) (h0 : Heap) (n0 : Nat) (Z0 : n0 ≤ h0.size) (hc217 : ((p5 &&& (15 : Int32)) &&& ((own_om p5) ^^^ (-1 : Int32))) = (0 : Int32)) :
    MetFree l x (head1 (Jvm.Cond.code x code maxLocals ret :: ws) room_1) (fun a U => a = #[(.int p1), (.int p2), (.int p3), (.int p4), (.int p5), (.int p6)] ∧ Z.Warmed39 U.vm ∧ U.heap = h0) (fun _ _ _ _ _ => True) (fun _ U o U' => ∃ v L, o = .returned v ∧ Q0 n0 v U'.heap L ∧ FrameEnd U o U' L room_1.cells room_1.slots) := by
  refine MetFree.of_bodySF (plainFor_of_name pn_0) hisR ?_
  intro p e s m args below meth c s₁ Bd hml0 hP hK
  obtain ⟨rfl, hZ, hh⟩ := hP
  have hx := Bd.exec
  have hby := Bd.bytes
  have hml : c.maxLocals = 19 := hml0
  have hown : s.vm.findClass "com/example/godwit/godwit/faults/SymbolsIsSubsetPinLaw" = some m.cls := findClass_of_methodNamed Bd.named
  have hnm := (name_of_methodNamed Bd.named Bd.method).1
  have X0 : Stand p l e room_1 s m #[(.int p1), (.int p2), (.int p3), (.int p4), (.int p5), (.int p6)] below meth c s₁ [] 0 0 := Stand.of_body Bd
  have e0 : s₁.heap = h0 := by rw [← hh, Bd.state]; rfl
  have N0 := Fr.nil n0
  have pre0 : ∀ t, Steps p.tables e below (s₁.setTop (mkF m 0 #[.val (.int p1), .val (.int p2), .val (.int p3), .val (.int p4), .val (.int p5), .val (.int p6), .unset, .unset, .unset, .unset, .unset, .unset, .unset, .unset, .unset, .unset, .unset, .unset, .unset] [])) t → Steps p.tables e below (s₁.setTop (entryFrame m #[(.int p1), (.int p2), (.int p3), (.int p4), (.int p5), (.int p6)] maxLocals)) t := fun t k => castTop (ef_0 m p1 p2 p3 p4 p5 p6) k
  obtain ⟨T7, h7, k7, X7, e7, E7, A7, st7⟩ := newP X0 hx hZ (hw _ (List.mem_of_getElem? (i := 3) rfl)) e0 (g := (mkF m 78 #[.val (.int p1), .val (.int p2), .val (.int p3), .val (.int p4), .val (.int p5), .val (.int p6), .val (.int (own_v0 p1)), .val (.int (own_v1 p1 p2)), .val (.int (own_v2 p1 p2 p3)), .val (.int (own_v3 p1 p2 p3 p4)), .val (.int (p5 &&& (15 : Int32))), .val (.int (own_om p5)), .val (.int (own_fr p5)), .val (.int (own_of p5)), .unset, .unset, .unset, .unset, .unset] [(.int (8 : Int32))])) rfl (hb hby at_78) rfl (by decide) (cap := 8) (by decide) (by decide) (by decide) (by decide)
  obtain ⟨b7, g7⟩ : ∃ z, z = h0.size := ⟨_, rfl⟩
  rw [← g7] at A7 st7
  have V_b7 : Arv Z h7 b7 k7 .int (8 : Int32) [(.int (0 : Int32)), (.int (0 : Int32)), (.int (0 : Int32)), (.int (0 : Int32)), (.int (0 : Int32)), (.int (0 : Int32)), (.int (0 : Int32)), (.int (0 : Int32))] (.int (0 : Int32)) := (Arv.new A7 (by decide)).pad (pad_rep [] (.int (0 : Int32)) 8)
  have g_b7 : n0 ≤ b7 := Nat.le_trans Z0 (Nat.le_of_eq g7.symm)
  have sz_b7 : h0.size ≤ b7 := (Nat.le_trans (Keep.refl h0 []).1 (Nat.le_of_eq g7.symm))
  have K7 : Keep h0 h7 [] := (Keep.refl h0 []).ext E7
  obtain ⟨cl_b7_84, Ar_b7, q_b7, S_b7, N_b7, H_b7, G_b7⟩ := V_b7
  have hin84 : ¬ ((0 : Int32) < 0 ∨ cl_b7_84.slots.size ≤ ((0 : Int32)).toNatClampNeg) := inb_of S_b7 ⟨by decide, by decide⟩
  obtain ⟨T8, h8, X8, e8, W8, st8⟩ := stI X7 hx hZ e7 Ar_b7 (j := (0 : Int32)) hin84 (g := (mkF m 84 #[.val (.int p1), .val (.int p2), .val (.int p3), .val (.int p4), .val (.int p5), .val (.int p6), .val (.int (own_v0 p1)), .val (.int (own_v1 p1 p2)), .val (.int (own_v2 p1 p2 p3)), .val (.int (own_v3 p1 p2 p3 p4)), .val (.int (p5 &&& (15 : Int32))), .val (.int (own_om p5)), .val (.int (own_fr p5)), .val (.int (own_of p5)), .unset, .unset, .unset, .unset, .unset] [(.int p6), (.int (0 : Int32)), (.ref b7), (.ref b7)])) rfl rfl (hb hby at_84)
  have V_b7_8 := Arv.set Ar_b7 q_b7 S_b7 N_b7 H_b7 G_b7 rfl W8 0 rfl (Nat.le_of_ble_eq_true rfl)
  have K8 : Keep h0 h8 [] := K7.wr W8 (Or.inr sz_b7)
  have N8 := Fr.snoc X8 N0 g_b7
  obtain ⟨cl_b7_89, Ar_b7, q_b7, S_b7, N_b7, H_b7, G_b7⟩ := V_b7_8
  have hin89 : ¬ ((1 : Int32) < 0 ∨ cl_b7_89.slots.size ≤ ((1 : Int32)).toNatClampNeg) := inb_of S_b7 ⟨by decide, by decide⟩
  obtain ⟨T9, h9, X9, e9, W9, st9⟩ := stI X8 hx hZ e8 Ar_b7 (j := (1 : Int32)) hin89 (g := (mkF m 89 #[.val (.int p1), .val (.int p2), .val (.int p3), .val (.int p4), .val (.int p5), .val (.int p6), .val (.int (own_v0 p1)), .val (.int (own_v1 p1 p2)), .val (.int (own_v2 p1 p2 p3)), .val (.int (own_v3 p1 p2 p3 p4)), .val (.int (p5 &&& (15 : Int32))), .val (.int (own_om p5)), .val (.int (own_fr p5)), .val (.int (own_of p5)), .unset, .unset, .unset, .unset, .unset] [(.int p6), (.int (1 : Int32)), (.ref b7), (.ref b7)])) rfl rfl (hb hby at_89)
  have V_b7_9 := Arv.set Ar_b7 q_b7 S_b7 N_b7 H_b7 G_b7 rfl W9 1 rfl (Nat.le_of_ble_eq_true rfl)
  have K9 : Keep h0 h9 [] := K8.wr W9 (Or.inr sz_b7)
  have N9 := Fr.snoc X9 N8 g_b7
  obtain ⟨cl_b7_94, Ar_b7, q_b7, S_b7, N_b7, H_b7, G_b7⟩ := V_b7_9
  have hin94 : ¬ ((2 : Int32) < 0 ∨ cl_b7_94.slots.size ≤ ((2 : Int32)).toNatClampNeg) := inb_of S_b7 ⟨by decide, by decide⟩
  obtain ⟨T10, h10, X10, e10, W10, st10⟩ := stI X9 hx hZ e9 Ar_b7 (j := (2 : Int32)) hin94 (g := (mkF m 94 #[.val (.int p1), .val (.int p2), .val (.int p3), .val (.int p4), .val (.int p5), .val (.int p6), .val (.int (own_v0 p1)), .val (.int (own_v1 p1 p2)), .val (.int (own_v2 p1 p2 p3)), .val (.int (own_v3 p1 p2 p3 p4)), .val (.int (p5 &&& (15 : Int32))), .val (.int (own_om p5)), .val (.int (own_fr p5)), .val (.int (own_of p5)), .unset, .unset, .unset, .unset, .unset] [(.int p6), (.int (2 : Int32)), (.ref b7), (.ref b7)])) rfl rfl (hb hby at_94)
  have V_b7_10 := Arv.set Ar_b7 q_b7 S_b7 N_b7 H_b7 G_b7 rfl W10 2 rfl (Nat.le_of_ble_eq_true rfl)
  have K10 : Keep h0 h10 [] := K9.wr W10 (Or.inr sz_b7)
  have N10 := Fr.snoc X10 N9 g_b7
  obtain ⟨cl_b7_99, Ar_b7, q_b7, S_b7, N_b7, H_b7, G_b7⟩ := V_b7_10
  have hin99 : ¬ ((3 : Int32) < 0 ∨ cl_b7_99.slots.size ≤ ((3 : Int32)).toNatClampNeg) := inb_of S_b7 ⟨by decide, by decide⟩
  obtain ⟨T11, h11, X11, e11, W11, st11⟩ := stI X10 hx hZ e10 Ar_b7 (j := (3 : Int32)) hin99 (g := (mkF m 99 #[.val (.int p1), .val (.int p2), .val (.int p3), .val (.int p4), .val (.int p5), .val (.int p6), .val (.int (own_v0 p1)), .val (.int (own_v1 p1 p2)), .val (.int (own_v2 p1 p2 p3)), .val (.int (own_v3 p1 p2 p3 p4)), .val (.int (p5 &&& (15 : Int32))), .val (.int (own_om p5)), .val (.int (own_fr p5)), .val (.int (own_of p5)), .unset, .unset, .unset, .unset, .unset] [(.int p6), (.int (3 : Int32)), (.ref b7), (.ref b7)])) rfl rfl (hb hby at_99)
  have V_b7_11 := Arv.set Ar_b7 q_b7 S_b7 N_b7 H_b7 G_b7 rfl W11 3 rfl (Nat.le_of_ble_eq_true rfl)
  have K11 : Keep h0 h11 [] := K10.wr W11 (Or.inr sz_b7)
  have N11 := Fr.snoc X11 N10 g_b7
  obtain ⟨cl_b7_104, Ar_b7, q_b7, S_b7, N_b7, H_b7, G_b7⟩ := V_b7_11
  have hin104 : ¬ ((4 : Int32) < 0 ∨ cl_b7_104.slots.size ≤ ((4 : Int32)).toNatClampNeg) := inb_of S_b7 ⟨by decide, by decide⟩
  obtain ⟨T12, h12, X12, e12, W12, st12⟩ := stI X11 hx hZ e11 Ar_b7 (j := (4 : Int32)) hin104 (g := (mkF m 104 #[.val (.int p1), .val (.int p2), .val (.int p3), .val (.int p4), .val (.int p5), .val (.int p6), .val (.int (own_v0 p1)), .val (.int (own_v1 p1 p2)), .val (.int (own_v2 p1 p2 p3)), .val (.int (own_v3 p1 p2 p3 p4)), .val (.int (p5 &&& (15 : Int32))), .val (.int (own_om p5)), .val (.int (own_fr p5)), .val (.int (own_of p5)), .unset, .unset, .unset, .unset, .unset] [(.int p6), (.int (4 : Int32)), (.ref b7), (.ref b7)])) rfl rfl (hb hby at_104)
  have V_b7_12 := Arv.set Ar_b7 q_b7 S_b7 N_b7 H_b7 G_b7 rfl W12 4 rfl (Nat.le_of_ble_eq_true rfl)
  have K12 : Keep h0 h12 [] := K11.wr W12 (Or.inr sz_b7)
  have N12 := Fr.snoc X12 N11 g_b7
  obtain ⟨cl_b7_109, Ar_b7, q_b7, S_b7, N_b7, H_b7, G_b7⟩ := V_b7_12
  have hin109 : ¬ ((5 : Int32) < 0 ∨ cl_b7_109.slots.size ≤ ((5 : Int32)).toNatClampNeg) := inb_of S_b7 ⟨by decide, by decide⟩
  obtain ⟨T13, h13, X13, e13, W13, st13⟩ := stI X12 hx hZ e12 Ar_b7 (j := (5 : Int32)) hin109 (g := (mkF m 109 #[.val (.int p1), .val (.int p2), .val (.int p3), .val (.int p4), .val (.int p5), .val (.int p6), .val (.int (own_v0 p1)), .val (.int (own_v1 p1 p2)), .val (.int (own_v2 p1 p2 p3)), .val (.int (own_v3 p1 p2 p3 p4)), .val (.int (p5 &&& (15 : Int32))), .val (.int (own_om p5)), .val (.int (own_fr p5)), .val (.int (own_of p5)), .unset, .unset, .unset, .unset, .unset] [(.int p6), (.int (5 : Int32)), (.ref b7), (.ref b7)])) rfl rfl (hb hby at_109)
  have V_b7_13 := Arv.set Ar_b7 q_b7 S_b7 N_b7 H_b7 G_b7 rfl W13 5 rfl (Nat.le_of_ble_eq_true rfl)
  have K13 : Keep h0 h13 [] := K12.wr W13 (Or.inr sz_b7)
  have N13 := Fr.snoc X13 N12 g_b7
  obtain ⟨cl_b7_115, Ar_b7, q_b7, S_b7, N_b7, H_b7, G_b7⟩ := V_b7_13
  have hin115 : ¬ ((6 : Int32) < 0 ∨ cl_b7_115.slots.size ≤ ((6 : Int32)).toNatClampNeg) := inb_of S_b7 ⟨by decide, by decide⟩
  obtain ⟨T14, h14, X14, e14, W14, st14⟩ := stI X13 hx hZ e13 Ar_b7 (j := (6 : Int32)) hin115 (g := (mkF m 115 #[.val (.int p1), .val (.int p2), .val (.int p3), .val (.int p4), .val (.int p5), .val (.int p6), .val (.int (own_v0 p1)), .val (.int (own_v1 p1 p2)), .val (.int (own_v2 p1 p2 p3)), .val (.int (own_v3 p1 p2 p3 p4)), .val (.int (p5 &&& (15 : Int32))), .val (.int (own_om p5)), .val (.int (own_fr p5)), .val (.int (own_of p5)), .unset, .unset, .unset, .unset, .unset] [(.int p6), (.int (6 : Int32)), (.ref b7), (.ref b7)])) rfl rfl (hb hby at_115)
  have V_b7_14 := Arv.set Ar_b7 q_b7 S_b7 N_b7 H_b7 G_b7 rfl W14 6 rfl (Nat.le_of_ble_eq_true rfl)
  have K14 : Keep h0 h14 [] := K13.wr W14 (Or.inr sz_b7)
  have N14 := Fr.snoc X14 N13 g_b7
  obtain ⟨cl_b7_121, Ar_b7, q_b7, S_b7, N_b7, H_b7, G_b7⟩ := V_b7_14
  have hin121 : ¬ ((7 : Int32) < 0 ∨ cl_b7_121.slots.size ≤ ((7 : Int32)).toNatClampNeg) := inb_of S_b7 ⟨by decide, by decide⟩
  obtain ⟨T15, h15, X15, e15, W15, st15⟩ := stI X14 hx hZ e14 Ar_b7 (j := (7 : Int32)) hin121 (g := (mkF m 121 #[.val (.int p1), .val (.int p2), .val (.int p3), .val (.int p4), .val (.int p5), .val (.int p6), .val (.int (own_v0 p1)), .val (.int (own_v1 p1 p2)), .val (.int (own_v2 p1 p2 p3)), .val (.int (own_v3 p1 p2 p3 p4)), .val (.int (p5 &&& (15 : Int32))), .val (.int (own_om p5)), .val (.int (own_fr p5)), .val (.int (own_of p5)), .unset, .unset, .unset, .unset, .unset] [(.int p6), (.int (7 : Int32)), (.ref b7), (.ref b7)])) rfl rfl (hb hby at_121)
  have V_b7_15 := Arv.set Ar_b7 q_b7 S_b7 N_b7 H_b7 G_b7 rfl W15 7 rfl (Nat.le_of_ble_eq_true rfl)
  have K15 : Keep h0 h15 [] := K14.wr W15 (Or.inr sz_b7)
  have N15 := Fr.snoc X15 N14 g_b7
  obtain ⟨T16, h16, k16, X16, e16, E16, A16, st16⟩ := newP X15 hx hZ (hw _ (List.mem_of_getElem? (i := 3) rfl)) e15 (g := (mkF m 126 #[.val (.int p1), .val (.int p2), .val (.int p3), .val (.int p4), .val (.int p5), .val (.int p6), .val (.int (own_v0 p1)), .val (.int (own_v1 p1 p2)), .val (.int (own_v2 p1 p2 p3)), .val (.int (own_v3 p1 p2 p3 p4)), .val (.int (p5 &&& (15 : Int32))), .val (.int (own_om p5)), .val (.int (own_fr p5)), .val (.int (own_of p5)), .val (.ref b7), .unset, .unset, .unset, .unset] [(.int (8 : Int32))])) rfl (hb hby at_126) rfl (by decide) (cap := 8) (by decide) (by decide) (by decide) (by decide)
  obtain ⟨b16, g16⟩ : ∃ z, z = h15.size := ⟨_, rfl⟩
  rw [← g16] at A16 st16
  have V_b16 : Arv Z h16 b16 k16 .int (8 : Int32) [(.int (0 : Int32)), (.int (0 : Int32)), (.int (0 : Int32)), (.int (0 : Int32)), (.int (0 : Int32)), (.int (0 : Int32)), (.int (0 : Int32)), (.int (0 : Int32))] (.int (0 : Int32)) := (Arv.new A16 (by decide)).pad (pad_rep [] (.int (0 : Int32)) 8)
  have g_b16 : n0 ≤ b16 := Nat.le_trans (Nat.le_trans (Nat.le_trans (Nat.le_trans (Nat.le_trans (Nat.le_trans (Nat.le_trans (Nat.le_trans (Nat.le_trans (Nat.le_trans Z0 E7.1) (Keep.of_wr W8).1) (Keep.of_wr W9).1) (Keep.of_wr W10).1) (Keep.of_wr W11).1) (Keep.of_wr W12).1) (Keep.of_wr W13).1) (Keep.of_wr W14).1) (Keep.of_wr W15).1) (Nat.le_of_eq g16.symm)
  have sz_b16 : h0.size ≤ b16 := (Nat.le_trans K15.1 (Nat.le_of_eq g16.symm))
  have K16 : Keep h0 h16 [] := K15.ext E16
  obtain ⟨cl_b16_132, Ar_b16, q_b16, S_b16, N_b16, H_b16, G_b16⟩ := V_b16
  have hin132 : ¬ ((0 : Int32) < 0 ∨ cl_b16_132.slots.size ≤ ((0 : Int32)).toNatClampNeg) := inb_of S_b16 ⟨by decide, by decide⟩
  obtain ⟨T17, h17, X17, e17, W17, st17⟩ := stI X16 hx hZ e16 Ar_b16 (j := (0 : Int32)) hin132 (g := (mkF m 132 #[.val (.int p1), .val (.int p2), .val (.int p3), .val (.int p4), .val (.int p5), .val (.int p6), .val (.int (own_v0 p1)), .val (.int (own_v1 p1 p2)), .val (.int (own_v2 p1 p2 p3)), .val (.int (own_v3 p1 p2 p3 p4)), .val (.int (p5 &&& (15 : Int32))), .val (.int (own_om p5)), .val (.int (own_fr p5)), .val (.int (own_of p5)), .val (.ref b7), .unset, .unset, .unset, .unset] [(.int p6), (.int (0 : Int32)), (.ref b16), (.ref b16)])) rfl rfl (hb hby at_132)
  have V_b16_17 := Arv.set Ar_b16 q_b16 S_b16 N_b16 H_b16 G_b16 rfl W17 0 rfl (Nat.le_of_ble_eq_true rfl)
  have K17 : Keep h0 h17 [] := K16.wr W17 (Or.inr sz_b16)
  have N17 := Fr.snoc X17 N15 g_b16
  obtain ⟨cl_b16_137, Ar_b16, q_b16, S_b16, N_b16, H_b16, G_b16⟩ := V_b16_17
  have hin137 : ¬ ((1 : Int32) < 0 ∨ cl_b16_137.slots.size ≤ ((1 : Int32)).toNatClampNeg) := inb_of S_b16 ⟨by decide, by decide⟩
  obtain ⟨T18, h18, X18, e18, W18, st18⟩ := stI X17 hx hZ e17 Ar_b16 (j := (1 : Int32)) hin137 (g := (mkF m 137 #[.val (.int p1), .val (.int p2), .val (.int p3), .val (.int p4), .val (.int p5), .val (.int p6), .val (.int (own_v0 p1)), .val (.int (own_v1 p1 p2)), .val (.int (own_v2 p1 p2 p3)), .val (.int (own_v3 p1 p2 p3 p4)), .val (.int (p5 &&& (15 : Int32))), .val (.int (own_om p5)), .val (.int (own_fr p5)), .val (.int (own_of p5)), .val (.ref b7), .unset, .unset, .unset, .unset] [(.int p6), (.int (1 : Int32)), (.ref b16), (.ref b16)])) rfl rfl (hb hby at_137)
  have V_b16_18 := Arv.set Ar_b16 q_b16 S_b16 N_b16 H_b16 G_b16 rfl W18 1 rfl (Nat.le_of_ble_eq_true rfl)
  have K18 : Keep h0 h18 [] := K17.wr W18 (Or.inr sz_b16)
  have N18 := Fr.snoc X18 N17 g_b16
  obtain ⟨cl_b16_142, Ar_b16, q_b16, S_b16, N_b16, H_b16, G_b16⟩ := V_b16_18
  have hin142 : ¬ ((2 : Int32) < 0 ∨ cl_b16_142.slots.size ≤ ((2 : Int32)).toNatClampNeg) := inb_of S_b16 ⟨by decide, by decide⟩
  obtain ⟨T19, h19, X19, e19, W19, st19⟩ := stI X18 hx hZ e18 Ar_b16 (j := (2 : Int32)) hin142 (g := (mkF m 142 #[.val (.int p1), .val (.int p2), .val (.int p3), .val (.int p4), .val (.int p5), .val (.int p6), .val (.int (own_v0 p1)), .val (.int (own_v1 p1 p2)), .val (.int (own_v2 p1 p2 p3)), .val (.int (own_v3 p1 p2 p3 p4)), .val (.int (p5 &&& (15 : Int32))), .val (.int (own_om p5)), .val (.int (own_fr p5)), .val (.int (own_of p5)), .val (.ref b7), .unset, .unset, .unset, .unset] [(.int p6), (.int (2 : Int32)), (.ref b16), (.ref b16)])) rfl rfl (hb hby at_142)
  have V_b16_19 := Arv.set Ar_b16 q_b16 S_b16 N_b16 H_b16 G_b16 rfl W19 2 rfl (Nat.le_of_ble_eq_true rfl)
  have K19 : Keep h0 h19 [] := K18.wr W19 (Or.inr sz_b16)
  have N19 := Fr.snoc X19 N18 g_b16
  obtain ⟨cl_b16_147, Ar_b16, q_b16, S_b16, N_b16, H_b16, G_b16⟩ := V_b16_19
  have hin147 : ¬ ((3 : Int32) < 0 ∨ cl_b16_147.slots.size ≤ ((3 : Int32)).toNatClampNeg) := inb_of S_b16 ⟨by decide, by decide⟩
  obtain ⟨T20, h20, X20, e20, W20, st20⟩ := stI X19 hx hZ e19 Ar_b16 (j := (3 : Int32)) hin147 (g := (mkF m 147 #[.val (.int p1), .val (.int p2), .val (.int p3), .val (.int p4), .val (.int p5), .val (.int p6), .val (.int (own_v0 p1)), .val (.int (own_v1 p1 p2)), .val (.int (own_v2 p1 p2 p3)), .val (.int (own_v3 p1 p2 p3 p4)), .val (.int (p5 &&& (15 : Int32))), .val (.int (own_om p5)), .val (.int (own_fr p5)), .val (.int (own_of p5)), .val (.ref b7), .unset, .unset, .unset, .unset] [(.int p6), (.int (3 : Int32)), (.ref b16), (.ref b16)])) rfl rfl (hb hby at_147)
  have V_b16_20 := Arv.set Ar_b16 q_b16 S_b16 N_b16 H_b16 G_b16 rfl W20 3 rfl (Nat.le_of_ble_eq_true rfl)
  have K20 : Keep h0 h20 [] := K19.wr W20 (Or.inr sz_b16)
  have N20 := Fr.snoc X20 N19 g_b16
  obtain ⟨cl_b16_152, Ar_b16, q_b16, S_b16, N_b16, H_b16, G_b16⟩ := V_b16_20
  have hin152 : ¬ ((4 : Int32) < 0 ∨ cl_b16_152.slots.size ≤ ((4 : Int32)).toNatClampNeg) := inb_of S_b16 ⟨by decide, by decide⟩
  obtain ⟨T21, h21, X21, e21, W21, st21⟩ := stI X20 hx hZ e20 Ar_b16 (j := (4 : Int32)) hin152 (g := (mkF m 152 #[.val (.int p1), .val (.int p2), .val (.int p3), .val (.int p4), .val (.int p5), .val (.int p6), .val (.int (own_v0 p1)), .val (.int (own_v1 p1 p2)), .val (.int (own_v2 p1 p2 p3)), .val (.int (own_v3 p1 p2 p3 p4)), .val (.int (p5 &&& (15 : Int32))), .val (.int (own_om p5)), .val (.int (own_fr p5)), .val (.int (own_of p5)), .val (.ref b7), .unset, .unset, .unset, .unset] [(.int p6), (.int (4 : Int32)), (.ref b16), (.ref b16)])) rfl rfl (hb hby at_152)
  have V_b16_21 := Arv.set Ar_b16 q_b16 S_b16 N_b16 H_b16 G_b16 rfl W21 4 rfl (Nat.le_of_ble_eq_true rfl)
  have K21 : Keep h0 h21 [] := K20.wr W21 (Or.inr sz_b16)
  have N21 := Fr.snoc X21 N20 g_b16
  obtain ⟨cl_b16_157, Ar_b16, q_b16, S_b16, N_b16, H_b16, G_b16⟩ := V_b16_21
  have hin157 : ¬ ((5 : Int32) < 0 ∨ cl_b16_157.slots.size ≤ ((5 : Int32)).toNatClampNeg) := inb_of S_b16 ⟨by decide, by decide⟩
  obtain ⟨T22, h22, X22, e22, W22, st22⟩ := stI X21 hx hZ e21 Ar_b16 (j := (5 : Int32)) hin157 (g := (mkF m 157 #[.val (.int p1), .val (.int p2), .val (.int p3), .val (.int p4), .val (.int p5), .val (.int p6), .val (.int (own_v0 p1)), .val (.int (own_v1 p1 p2)), .val (.int (own_v2 p1 p2 p3)), .val (.int (own_v3 p1 p2 p3 p4)), .val (.int (p5 &&& (15 : Int32))), .val (.int (own_om p5)), .val (.int (own_fr p5)), .val (.int (own_of p5)), .val (.ref b7), .unset, .unset, .unset, .unset] [(.int p6), (.int (5 : Int32)), (.ref b16), (.ref b16)])) rfl rfl (hb hby at_157)
  have V_b16_22 := Arv.set Ar_b16 q_b16 S_b16 N_b16 H_b16 G_b16 rfl W22 5 rfl (Nat.le_of_ble_eq_true rfl)
  have K22 : Keep h0 h22 [] := K21.wr W22 (Or.inr sz_b16)
  have N22 := Fr.snoc X22 N21 g_b16
  obtain ⟨cl_b16_163, Ar_b16, q_b16, S_b16, N_b16, H_b16, G_b16⟩ := V_b16_22
  have hin163 : ¬ ((6 : Int32) < 0 ∨ cl_b16_163.slots.size ≤ ((6 : Int32)).toNatClampNeg) := inb_of S_b16 ⟨by decide, by decide⟩
  obtain ⟨T23, h23, X23, e23, W23, st23⟩ := stI X22 hx hZ e22 Ar_b16 (j := (6 : Int32)) hin163 (g := (mkF m 163 #[.val (.int p1), .val (.int p2), .val (.int p3), .val (.int p4), .val (.int p5), .val (.int p6), .val (.int (own_v0 p1)), .val (.int (own_v1 p1 p2)), .val (.int (own_v2 p1 p2 p3)), .val (.int (own_v3 p1 p2 p3 p4)), .val (.int (p5 &&& (15 : Int32))), .val (.int (own_om p5)), .val (.int (own_fr p5)), .val (.int (own_of p5)), .val (.ref b7), .unset, .unset, .unset, .unset] [(.int p6), (.int (6 : Int32)), (.ref b16), (.ref b16)])) rfl rfl (hb hby at_163)
  have V_b16_23 := Arv.set Ar_b16 q_b16 S_b16 N_b16 H_b16 G_b16 rfl W23 6 rfl (Nat.le_of_ble_eq_true rfl)
  have K23 : Keep h0 h23 [] := K22.wr W23 (Or.inr sz_b16)
  have N23 := Fr.snoc X23 N22 g_b16
  obtain ⟨cl_b16_169, Ar_b16, q_b16, S_b16, N_b16, H_b16, G_b16⟩ := V_b16_23
  have hin169 : ¬ ((7 : Int32) < 0 ∨ cl_b16_169.slots.size ≤ ((7 : Int32)).toNatClampNeg) := inb_of S_b16 ⟨by decide, by decide⟩
  obtain ⟨T24, h24, X24, e24, W24, st24⟩ := stI X23 hx hZ e23 Ar_b16 (j := (7 : Int32)) hin169 (g := (mkF m 169 #[.val (.int p1), .val (.int p2), .val (.int p3), .val (.int p4), .val (.int p5), .val (.int p6), .val (.int (own_v0 p1)), .val (.int (own_v1 p1 p2)), .val (.int (own_v2 p1 p2 p3)), .val (.int (own_v3 p1 p2 p3 p4)), .val (.int (p5 &&& (15 : Int32))), .val (.int (own_om p5)), .val (.int (own_fr p5)), .val (.int (own_of p5)), .val (.ref b7), .unset, .unset, .unset, .unset] [(.int p6), (.int (7 : Int32)), (.ref b16), (.ref b16)])) rfl rfl (hb hby at_169)
  have V_b16_24 := Arv.set Ar_b16 q_b16 S_b16 N_b16 H_b16 G_b16 rfl W24 7 rfl (Nat.le_of_ble_eq_true rfl)
  have K24 : Keep h0 h24 [] := K23.wr W24 (Or.inr sz_b16)
  have N24 := Fr.snoc X24 N23 g_b16
  have neB : b7 ≠ b16 := Nat.ne_of_lt (Nat.lt_of_lt_of_le (Arv.own_lt V_b7_15) (Nat.le_of_eq g16.symm))
  have FA : OwnA Z h24 b7 (fun _ => p6) := OwnA.of_arv (((((((((V_b7_15.ext E16).other W17 neB).other W18 neB).other W19 neB).other W20 neB).other W21 neB).other W22 neB).other W23 neB).other W24 neB) (fun _ => p6) own_f8
  have FB : OwnA Z h24 b16 (fun _ => p6) := OwnA.of_arv V_b16_24 (fun _ => p6) own_f8
  obtain ⟨nA, hnA, eA⟩ := own_and3n ((p5.toUInt32 >>> ((8 : Int32) &&& 31).toUInt32).toInt32)
  obtain ⟨nB, hnB, eB⟩ := own_and3n ((p5.toUInt32 >>> ((10 : Int32) &&& 31).toUInt32).toInt32)
  have hxl : (own_xs p1 p2 p3 p4 p5).length ≤ 4 := own_sel_len _ _ _ _ _ _ _ _
  have hyl : (own_ys p1 p2 p3 p4 p5).length ≤ 4 := own_sel_len _ _ _ _ _ _ _ _
  have Z24 : n0 ≤ h24.size := Nat.le_trans Z0 K24.1
  have hres : (if own_sub (own_xs p1 p2 p3 p4 p5) (own_ys p1 p2 p3 p4 p5) = true then (1 : Int32) else 0) = (1 : Int32) := by rw [own_res]; rw [if_pos (decide_eq_true hc217)]
  obtain ⟨_, _, ⟨T25, L25, k25, n25⟩, -, X25, ⟨Lc25, hQ25, l25, y25, z25⟩, st25⟩ := Jvm.LawKit.callS X24 hx (y := (⟨"com/example/godwit/godwit/faults/SymbolsIsSubsetPinLaw", "place", "([IIIIIII)I"⟩ : MethodName)) hown (mvT hZ (hw _ (List.mem_of_getElem? (i := 4) rfl))) (mvT hZ (hw _ (List.mem_of_getElem? (i := 5) rfl))) (mvT hZ (hw _ (List.mem_of_getElem? (i := 6) rfl))) (mvT hZ (hw _ (List.mem_of_getElem? (i := 7) rfl))) (by decide) (backOf (W := 0) (rm1 l Z a0 hw [] b7 (own_fr p5) (p5 &&& (15 : Int32)) (own_v0 p1) (own_v1 p1 p2) (own_v2 p1 p2 p3) (own_v3 p1 p2 p3 p4) h24 n0 Z24 nA (fun _ => p6) eA hnA FA g_b7) hZ (hw _ (List.mem_of_getElem? (i := 7) rfl)) (hw _ (List.mem_of_getElem? (i := 6) rfl)) (by decide) (by decide)) (g := (mkF m 186 #[.val (.int p1), .val (.int p2), .val (.int p3), .val (.int p4), .val (.int p5), .val (.int p6), .val (.int (own_v0 p1)), .val (.int (own_v1 p1 p2)), .val (.int (own_v2 p1 p2 p3)), .val (.int (own_v3 p1 p2 p3 p4)), .val (.int (p5 &&& (15 : Int32))), .val (.int (own_om p5)), .val (.int (own_fr p5)), .val (.int (own_of p5)), .val (.ref b7), .val (.ref b16), .unset, .unset, .unset] [(.int (own_v3 p1 p2 p3 p4)), (.int (own_v2 p1 p2 p3)), (.int (own_v1 p1 p2)), (.int (own_v0 p1)), (.int (p5 &&& (15 : Int32))), (.int (own_fr p5)), (.ref b7)])) rfl (by rw [hml]; rfl) (argsL := [(.ref b7), (.int (own_fr p5)), (.int (p5 &&& (15 : Int32))), (.int (own_v0 p1)), (.int (own_v1 p1 p2)), (.int (own_v2 p1 p2 p3)), (.int (own_v3 p1 p2 p3 p4))]) (rest := []) (lenOf pd_0_0 rfl) rfl (by show 2 * 0 + _ ≤ _; exact Nat.le_of_eq rfl) (hb hby at_186) (fun _ _ => ⟨rfl, e24, (by decide : 2 + 0 ≤ _), (by decide : 16 + 0 ≤ _)⟩)
  dsimp only [Pt.U, Pt.locs, Pt.cells, Pt.slots] at X25 l25 y25 z25 st25 hQ25
  subst l25 y25 z25
  obtain ⟨rfl, N25q, KA, fA, FA', VA⟩ := hQ25
  have N25 := Fr.app N24 N25q
  obtain ⟨_, _, ⟨T26, L26, k26, n26⟩, -, X26, ⟨Lc26, hQ26, l26, y26, z26⟩, st26⟩ := Jvm.LawKit.callS X25 hx (y := (⟨"com/example/godwit/godwit/faults/SymbolsIsSubsetPinLaw", "place", "([IIIIIII)I"⟩ : MethodName)) hown (mvT hZ (hw _ (List.mem_of_getElem? (i := 4) rfl))) (mvT hZ (hw _ (List.mem_of_getElem? (i := 5) rfl))) (mvT hZ (hw _ (List.mem_of_getElem? (i := 6) rfl))) (mvT hZ (hw _ (List.mem_of_getElem? (i := 7) rfl))) (by decide) (backOf (W := 0) (rm1 l Z a0 hw [] b16 (own_of p5) (own_om p5) (own_v0 p1) (own_v1 p1 p2) (own_v2 p1 p2 p3) (own_v3 p1 p2 p3 p4) T25.heap n0 (Nat.le_trans Z24 KA.1) nB (fun _ => p6) eB hnB (FB.keep KA (fun q => neB (List.mem_singleton.mp q).symm)) g_b16) hZ (hw _ (List.mem_of_getElem? (i := 7) rfl)) (hw _ (List.mem_of_getElem? (i := 6) rfl)) (by decide) (by decide)) (g := (mkF m 205 #[.val (.int p1), .val (.int p2), .val (.int p3), .val (.int p4), .val (.int p5), .val (.int p6), .val (.int (own_v0 p1)), .val (.int (own_v1 p1 p2)), .val (.int (own_v2 p1 p2 p3)), .val (.int (own_v3 p1 p2 p3 p4)), .val (.int (p5 &&& (15 : Int32))), .val (.int (own_om p5)), .val (.int (own_fr p5)), .val (.int (own_of p5)), .val (.ref b7), .val (.ref b16), .val (.int (Int32.ofNat (own_xs p1 p2 p3 p4 p5).length)), .unset, .unset] [(.int (own_v3 p1 p2 p3 p4)), (.int (own_v2 p1 p2 p3)), (.int (own_v1 p1 p2)), (.int (own_v0 p1)), (.int (own_om p5)), (.int (own_of p5)), (.ref b16)])) rfl (by rw [hml]; rfl) (argsL := [(.ref b16), (.int (own_of p5)), (.int (own_om p5)), (.int (own_v0 p1)), (.int (own_v1 p1 p2)), (.int (own_v2 p1 p2 p3)), (.int (own_v3 p1 p2 p3 p4))]) (rest := []) (lenOf pd_0_0 rfl) rfl (by show 2 * 0 + _ ≤ _; exact Nat.le_of_eq rfl) (hb hby at_205) (fun _ _ => ⟨rfl, rfl, (by decide : 2 + 0 ≤ _), (by decide : 16 + 0 ≤ _)⟩)
  dsimp only [Pt.U, Pt.locs, Pt.cells, Pt.slots] at X26 l26 y26 z26 st26 hQ26
  subst l26 y26 z26
  obtain ⟨rfl, N26q, KB, fB, FB', VB⟩ := hQ26
  have N26 := Fr.app N25 N26q
  obtain ⟨_, _, ⟨T27, L27, k27, n27⟩, -, X27, ⟨Lc27, hQ27, l27, y27, z27⟩, st27⟩ := Jvm.LawKit.callS X26 hx (y := (⟨"com/example/godwit/godwit/faults/Symbols", "isSubset", "([III[III)Z"⟩ : MethodName)) hown (mvT hZ (hw _ (List.mem_of_getElem? (i := 8) rfl))) (mvT hZ (hw _ (List.mem_of_getElem? (i := 9) rfl))) (mvT hZ (hw _ (List.mem_of_getElem? (i := 10) rfl))) (mvT hZ (hw _ (List.mem_of_getElem? (i := 11) rfl))) (by decide) (backOf (W := 0) (rm2 l Z a0 hw [] b7 (own_fr p5) (Int32.ofNat (own_xs p1 p2 p3 p4 p5).length) b16 (own_of p5) (Int32.ofNat (own_ys p1 p2 p3 p4 p5).length) T26.heap n0 (Nat.le_trans (Nat.le_trans Z24 KA.1) KB.1) nA nB (own_xs p1 p2 p3 p4 p5) (own_ys p1 p2 p3 p4 p5) fA fB eA rfl eB rfl (FA'.keep KB (fun q => neB (List.mem_singleton.mp q))) VA (by omega) FB' VB (by omega)) hZ (hw _ (List.mem_of_getElem? (i := 11) rfl)) (hw _ (List.mem_of_getElem? (i := 10) rfl)) (by decide) (by decide)) (g := (mkF m 239 #[.val (.int p1), .val (.int p2), .val (.int p3), .val (.int p4), .val (.int p5), .val (.int p6), .val (.int (own_v0 p1)), .val (.int (own_v1 p1 p2)), .val (.int (own_v2 p1 p2 p3)), .val (.int (own_v3 p1 p2 p3 p4)), .val (.int (p5 &&& (15 : Int32))), .val (.int (own_om p5)), .val (.int (own_fr p5)), .val (.int (own_of p5)), .val (.ref b7), .val (.ref b16), .val (.int (Int32.ofNat (own_xs p1 p2 p3 p4 p5).length)), .val (.int (Int32.ofNat (own_ys p1 p2 p3 p4 p5).length)), .val (.int (1 : Int32))] [(.int (Int32.ofNat (own_ys p1 p2 p3 p4 p5).length)), (.int (own_of p5)), (.ref b16), (.int (Int32.ofNat (own_xs p1 p2 p3 p4 p5).length)), (.int (own_fr p5)), (.ref b7)])) rfl (by rw [hml]; rfl) (argsL := [(.ref b7), (.int (own_fr p5)), (.int (Int32.ofNat (own_xs p1 p2 p3 p4 p5).length)), (.ref b16), (.int (own_of p5)), (.int (Int32.ofNat (own_ys p1 p2 p3 p4 p5).length))]) (rest := []) (lenOf pd_0_1 rfl) rfl (by show 2 * 0 + _ ≤ _; exact Nat.le_of_eq rfl) (hb hby at_239) (fun _ _ => ⟨rfl, rfl, (by decide : 2 + 0 ≤ _), (by decide : 16 + 0 ≤ _)⟩)
  dsimp only [Pt.U, Pt.locs, Pt.cells, Pt.slots] at X27 l27 y27 z27 st27 hQ27
  subst l27 y27 z27
  obtain ⟨rfl, N27q, eh27⟩ := hQ27
  have N27 := Fr.app N26 N27q
  obtain ⟨fs, hr, hrun, hended, hW, hsame⟩ := X27.leave (v := some (.int (1 : Int32))) (fun h => by rw [Bd.returns] at h; cases h)
  refine ⟨_, _, pre0 _ ?_, hrun, hended, _, _, rfl, ?_, ⟨_, rfl⟩, hW, hsame.mono (by decide) (by decide)⟩
  · show Steps p.tables e below (s₁.setTop (mkF m 0 #[.val (.int p1), .val (.int p2), .val (.int p3), .val (.int p4), .val (.int p5), .val (.int p6), .unset, .unset, .unset, .unset, .unset, .unset, .unset, .unset, .unset, .unset, .unset, .unset, .unset] [])) _
    refine X0.ldcInt hx hown (mvT hZ (hw _ (List.mem_of_getElem? (i := 0) rfl))) (g := (mkF m 0 #[.val (.int p1), .val (.int p2), .val (.int p3), .val (.int p4), .val (.int p5), .val (.int p6), .unset, .unset, .unset, .unset, .unset, .unset, .unset, .unset, .unset, .unset, .unset, .unset, .unset] [])) rfl (hb hby at_0) _ ?_
    show Steps p.tables e below (s₁.setTop (mkF m 2 #[.val (.int p1), .val (.int p2), .val (.int p3), .val (.int p4), .val (.int p5), .val (.int p6), .unset, .unset, .unset, .unset, .unset, .unset, .unset, .unset, .unset, .unset, .unset, .unset, .unset] [(.int (-2147483648 : Int32))])) _
    refine XS.iloadN X0.here hx rfl (hb hby at_2) rfl ?_
    show Steps p.tables e below (s₁.setTop (mkF m 3 #[.val (.int p1), .val (.int p2), .val (.int p3), .val (.int p4), .val (.int p5), .val (.int p6), .unset, .unset, .unset, .unset, .unset, .unset, .unset, .unset, .unset, .unset, .unset, .unset, .unset] [(.int p1), (.int (-2147483648 : Int32))])) _
    refine X0.ldcInt hx hown (mvT hZ (hw _ (List.mem_of_getElem? (i := 1) rfl))) (g := (mkF m 3 #[.val (.int p1), .val (.int p2), .val (.int p3), .val (.int p4), .val (.int p5), .val (.int p6), .unset, .unset, .unset, .unset, .unset, .unset, .unset, .unset, .unset, .unset, .unset, .unset, .unset] [(.int p1), (.int (-2147483648 : Int32))])) rfl (hb hby at_3) _ ?_
    show Steps p.tables e below (s₁.setTop (mkF m 5 #[.val (.int p1), .val (.int p2), .val (.int p3), .val (.int p4), .val (.int p5), .val (.int p6), .unset, .unset, .unset, .unset, .unset, .unset, .unset, .unset, .unset, .unset, .unset, .unset, .unset] [(.int (1073741823 : Int32)), (.int p1), (.int (-2147483648 : Int32))])) _
    refine XS.iand X0.here hx rfl (hb hby at_5) rfl ?_
    show Steps p.tables e below (s₁.setTop (mkF m 6 #[.val (.int p1), .val (.int p2), .val (.int p3), .val (.int p4), .val (.int p5), .val (.int p6), .unset, .unset, .unset, .unset, .unset, .unset, .unset, .unset, .unset, .unset, .unset, .unset, .unset] [(.int (p1 &&& (1073741823 : Int32))), (.int (-2147483648 : Int32))])) _
    refine XS.iadd X0.here hx rfl (hb hby at_6) rfl ?_
    show Steps p.tables e below (s₁.setTop (mkF m 7 #[.val (.int p1), .val (.int p2), .val (.int p3), .val (.int p4), .val (.int p5), .val (.int p6), .unset, .unset, .unset, .unset, .unset, .unset, .unset, .unset, .unset, .unset, .unset, .unset, .unset] [(.int (own_v0 p1))])) _
    refine XS.istore X0.here hx rfl (hb hby at_7) rfl (l' := #[.val (.int p1), .val (.int p2), .val (.int p3), .val (.int p4), .val (.int p5), .val (.int p6), .val (.int (own_v0 p1)), .unset, .unset, .unset, .unset, .unset, .unset, .unset, .unset, .unset, .unset, .unset, .unset]) rfl ?_
    show Steps p.tables e below (s₁.setTop (mkF m 9 #[.val (.int p1), .val (.int p2), .val (.int p3), .val (.int p4), .val (.int p5), .val (.int p6), .val (.int (own_v0 p1)), .unset, .unset, .unset, .unset, .unset, .unset, .unset, .unset, .unset, .unset, .unset, .unset] [])) _
    refine XS.iload X0.here hx rfl (hb hby at_9) rfl ?_
    show Steps p.tables e below (s₁.setTop (mkF m 11 #[.val (.int p1), .val (.int p2), .val (.int p3), .val (.int p4), .val (.int p5), .val (.int p6), .val (.int (own_v0 p1)), .unset, .unset, .unset, .unset, .unset, .unset, .unset, .unset, .unset, .unset, .unset, .unset] [(.int (own_v0 p1))])) _
    refine XS.iconst X0.here hx rfl (hb hby at_11) ?_
    show Steps p.tables e below (s₁.setTop (mkF m 12 #[.val (.int p1), .val (.int p2), .val (.int p3), .val (.int p4), .val (.int p5), .val (.int p6), .val (.int (own_v0 p1)), .unset, .unset, .unset, .unset, .unset, .unset, .unset, .unset, .unset, .unset, .unset, .unset] [(.int (1 : Int32)), (.int (own_v0 p1))])) _
    refine XS.iadd X0.here hx rfl (hb hby at_12) rfl ?_
    show Steps p.tables e below (s₁.setTop (mkF m 13 #[.val (.int p1), .val (.int p2), .val (.int p3), .val (.int p4), .val (.int p5), .val (.int p6), .val (.int (own_v0 p1)), .unset, .unset, .unset, .unset, .unset, .unset, .unset, .unset, .unset, .unset, .unset, .unset] [(.int ((own_v0 p1) + (1 : Int32)))])) _
    refine XS.iloadN X0.here hx rfl (hb hby at_13) rfl ?_
    show Steps p.tables e below (s₁.setTop (mkF m 14 #[.val (.int p1), .val (.int p2), .val (.int p3), .val (.int p4), .val (.int p5), .val (.int p6), .val (.int (own_v0 p1)), .unset, .unset, .unset, .unset, .unset, .unset, .unset, .unset, .unset, .unset, .unset, .unset] [(.int p2), (.int ((own_v0 p1) + (1 : Int32)))])) _
    refine X0.ldcInt hx hown (mvT hZ (hw _ (List.mem_of_getElem? (i := 1) rfl))) (g := (mkF m 14 #[.val (.int p1), .val (.int p2), .val (.int p3), .val (.int p4), .val (.int p5), .val (.int p6), .val (.int (own_v0 p1)), .unset, .unset, .unset, .unset, .unset, .unset, .unset, .unset, .unset, .unset, .unset, .unset] [(.int p2), (.int ((own_v0 p1) + (1 : Int32)))])) rfl (hb hby at_14) _ ?_
    show Steps p.tables e below (s₁.setTop (mkF m 16 #[.val (.int p1), .val (.int p2), .val (.int p3), .val (.int p4), .val (.int p5), .val (.int p6), .val (.int (own_v0 p1)), .unset, .unset, .unset, .unset, .unset, .unset, .unset, .unset, .unset, .unset, .unset, .unset] [(.int (1073741823 : Int32)), (.int p2), (.int ((own_v0 p1) + (1 : Int32)))])) _
    refine XS.iand X0.here hx rfl (hb hby at_16) rfl ?_
    show Steps p.tables e below (s₁.setTop (mkF m 17 #[.val (.int p1), .val (.int p2), .val (.int p3), .val (.int p4), .val (.int p5), .val (.int p6), .val (.int (own_v0 p1)), .unset, .unset, .unset, .unset, .unset, .unset, .unset, .unset, .unset, .unset, .unset, .unset] [(.int (p2 &&& (1073741823 : Int32))), (.int ((own_v0 p1) + (1 : Int32)))])) _
    refine XS.iadd X0.here hx rfl (hb hby at_17) rfl ?_
    show Steps p.tables e below (s₁.setTop (mkF m 18 #[.val (.int p1), .val (.int p2), .val (.int p3), .val (.int p4), .val (.int p5), .val (.int p6), .val (.int (own_v0 p1)), .unset, .unset, .unset, .unset, .unset, .unset, .unset, .unset, .unset, .unset, .unset, .unset] [(.int (own_v1 p1 p2))])) _
    refine XS.istore X0.here hx rfl (hb hby at_18) rfl (l' := #[.val (.int p1), .val (.int p2), .val (.int p3), .val (.int p4), .val (.int p5), .val (.int p6), .val (.int (own_v0 p1)), .val (.int (own_v1 p1 p2)), .unset, .unset, .unset, .unset, .unset, .unset, .unset, .unset, .unset, .unset, .unset]) rfl ?_
    show Steps p.tables e below (s₁.setTop (mkF m 20 #[.val (.int p1), .val (.int p2), .val (.int p3), .val (.int p4), .val (.int p5), .val (.int p6), .val (.int (own_v0 p1)), .val (.int (own_v1 p1 p2)), .unset, .unset, .unset, .unset, .unset, .unset, .unset, .unset, .unset, .unset, .unset] [])) _
    refine XS.iload X0.here hx rfl (hb hby at_20) rfl ?_
    show Steps p.tables e below (s₁.setTop (mkF m 22 #[.val (.int p1), .val (.int p2), .val (.int p3), .val (.int p4), .val (.int p5), .val (.int p6), .val (.int (own_v0 p1)), .val (.int (own_v1 p1 p2)), .unset, .unset, .unset, .unset, .unset, .unset, .unset, .unset, .unset, .unset, .unset] [(.int (own_v1 p1 p2))])) _
    refine XS.iconst X0.here hx rfl (hb hby at_22) ?_
    show Steps p.tables e below (s₁.setTop (mkF m 23 #[.val (.int p1), .val (.int p2), .val (.int p3), .val (.int p4), .val (.int p5), .val (.int p6), .val (.int (own_v0 p1)), .val (.int (own_v1 p1 p2)), .unset, .unset, .unset, .unset, .unset, .unset, .unset, .unset, .unset, .unset, .unset] [(.int (1 : Int32)), (.int (own_v1 p1 p2))])) _
    refine XS.iadd X0.here hx rfl (hb hby at_23) rfl ?_
    show Steps p.tables e below (s₁.setTop (mkF m 24 #[.val (.int p1), .val (.int p2), .val (.int p3), .val (.int p4), .val (.int p5), .val (.int p6), .val (.int (own_v0 p1)), .val (.int (own_v1 p1 p2)), .unset, .unset, .unset, .unset, .unset, .unset, .unset, .unset, .unset, .unset, .unset] [(.int ((own_v1 p1 p2) + (1 : Int32)))])) _
    refine XS.iloadN X0.here hx rfl (hb hby at_24) rfl ?_
    show Steps p.tables e below (s₁.setTop (mkF m 25 #[.val (.int p1), .val (.int p2), .val (.int p3), .val (.int p4), .val (.int p5), .val (.int p6), .val (.int (own_v0 p1)), .val (.int (own_v1 p1 p2)), .unset, .unset, .unset, .unset, .unset, .unset, .unset, .unset, .unset, .unset, .unset] [(.int p3), (.int ((own_v1 p1 p2) + (1 : Int32)))])) _
    refine X0.ldcInt hx hown (mvT hZ (hw _ (List.mem_of_getElem? (i := 1) rfl))) (g := (mkF m 25 #[.val (.int p1), .val (.int p2), .val (.int p3), .val (.int p4), .val (.int p5), .val (.int p6), .val (.int (own_v0 p1)), .val (.int (own_v1 p1 p2)), .unset, .unset, .unset, .unset, .unset, .unset, .unset, .unset, .unset, .unset, .unset] [(.int p3), (.int ((own_v1 p1 p2) + (1 : Int32)))])) rfl (hb hby at_25) _ ?_
    show Steps p.tables e below (s₁.setTop (mkF m 27 #[.val (.int p1), .val (.int p2), .val (.int p3), .val (.int p4), .val (.int p5), .val (.int p6), .val (.int (own_v0 p1)), .val (.int (own_v1 p1 p2)), .unset, .unset, .unset, .unset, .unset, .unset, .unset, .unset, .unset, .unset, .unset] [(.int (1073741823 : Int32)), (.int p3), (.int ((own_v1 p1 p2) + (1 : Int32)))])) _
    refine XS.iand X0.here hx rfl (hb hby at_27) rfl ?_
    show Steps p.tables e below (s₁.setTop (mkF m 28 #[.val (.int p1), .val (.int p2), .val (.int p3), .val (.int p4), .val (.int p5), .val (.int p6), .val (.int (own_v0 p1)), .val (.int (own_v1 p1 p2)), .unset, .unset, .unset, .unset, .unset, .unset, .unset, .unset, .unset, .unset, .unset] [(.int (p3 &&& (1073741823 : Int32))), (.int ((own_v1 p1 p2) + (1 : Int32)))])) _
    refine XS.iadd X0.here hx rfl (hb hby at_28) rfl ?_
    show Steps p.tables e below (s₁.setTop (mkF m 29 #[.val (.int p1), .val (.int p2), .val (.int p3), .val (.int p4), .val (.int p5), .val (.int p6), .val (.int (own_v0 p1)), .val (.int (own_v1 p1 p2)), .unset, .unset, .unset, .unset, .unset, .unset, .unset, .unset, .unset, .unset, .unset] [(.int (own_v2 p1 p2 p3))])) _
    refine XS.istore X0.here hx rfl (hb hby at_29) rfl (l' := #[.val (.int p1), .val (.int p2), .val (.int p3), .val (.int p4), .val (.int p5), .val (.int p6), .val (.int (own_v0 p1)), .val (.int (own_v1 p1 p2)), .val (.int (own_v2 p1 p2 p3)), .unset, .unset, .unset, .unset, .unset, .unset, .unset, .unset, .unset, .unset]) rfl ?_
    show Steps p.tables e below (s₁.setTop (mkF m 31 #[.val (.int p1), .val (.int p2), .val (.int p3), .val (.int p4), .val (.int p5), .val (.int p6), .val (.int (own_v0 p1)), .val (.int (own_v1 p1 p2)), .val (.int (own_v2 p1 p2 p3)), .unset, .unset, .unset, .unset, .unset, .unset, .unset, .unset, .unset, .unset] [])) _
    refine XS.iload X0.here hx rfl (hb hby at_31) rfl ?_
    show Steps p.tables e below (s₁.setTop (mkF m 33 #[.val (.int p1), .val (.int p2), .val (.int p3), .val (.int p4), .val (.int p5), .val (.int p6), .val (.int (own_v0 p1)), .val (.int (own_v1 p1 p2)), .val (.int (own_v2 p1 p2 p3)), .unset, .unset, .unset, .unset, .unset, .unset, .unset, .unset, .unset, .unset] [(.int (own_v2 p1 p2 p3))])) _
    refine XS.iconst X0.here hx rfl (hb hby at_33) ?_
    show Steps p.tables e below (s₁.setTop (mkF m 34 #[.val (.int p1), .val (.int p2), .val (.int p3), .val (.int p4), .val (.int p5), .val (.int p6), .val (.int (own_v0 p1)), .val (.int (own_v1 p1 p2)), .val (.int (own_v2 p1 p2 p3)), .unset, .unset, .unset, .unset, .unset, .unset, .unset, .unset, .unset, .unset] [(.int (1 : Int32)), (.int (own_v2 p1 p2 p3))])) _
    refine XS.iadd X0.here hx rfl (hb hby at_34) rfl ?_
    show Steps p.tables e below (s₁.setTop (mkF m 35 #[.val (.int p1), .val (.int p2), .val (.int p3), .val (.int p4), .val (.int p5), .val (.int p6), .val (.int (own_v0 p1)), .val (.int (own_v1 p1 p2)), .val (.int (own_v2 p1 p2 p3)), .unset, .unset, .unset, .unset, .unset, .unset, .unset, .unset, .unset, .unset] [(.int ((own_v2 p1 p2 p3) + (1 : Int32)))])) _
    refine XS.iloadN X0.here hx rfl (hb hby at_35) rfl ?_
    show Steps p.tables e below (s₁.setTop (mkF m 36 #[.val (.int p1), .val (.int p2), .val (.int p3), .val (.int p4), .val (.int p5), .val (.int p6), .val (.int (own_v0 p1)), .val (.int (own_v1 p1 p2)), .val (.int (own_v2 p1 p2 p3)), .unset, .unset, .unset, .unset, .unset, .unset, .unset, .unset, .unset, .unset] [(.int p4), (.int ((own_v2 p1 p2 p3) + (1 : Int32)))])) _
    refine X0.ldcInt hx hown (mvT hZ (hw _ (List.mem_of_getElem? (i := 2) rfl))) (g := (mkF m 36 #[.val (.int p1), .val (.int p2), .val (.int p3), .val (.int p4), .val (.int p5), .val (.int p6), .val (.int (own_v0 p1)), .val (.int (own_v1 p1 p2)), .val (.int (own_v2 p1 p2 p3)), .unset, .unset, .unset, .unset, .unset, .unset, .unset, .unset, .unset, .unset] [(.int p4), (.int ((own_v2 p1 p2 p3) + (1 : Int32)))])) rfl (hb hby at_36) _ ?_
    show Steps p.tables e below (s₁.setTop (mkF m 38 #[.val (.int p1), .val (.int p2), .val (.int p3), .val (.int p4), .val (.int p5), .val (.int p6), .val (.int (own_v0 p1)), .val (.int (own_v1 p1 p2)), .val (.int (own_v2 p1 p2 p3)), .unset, .unset, .unset, .unset, .unset, .unset, .unset, .unset, .unset, .unset] [(.int (1073741822 : Int32)), (.int p4), (.int ((own_v2 p1 p2 p3) + (1 : Int32)))])) _
    refine XS.iand X0.here hx rfl (hb hby at_38) rfl ?_
    show Steps p.tables e below (s₁.setTop (mkF m 39 #[.val (.int p1), .val (.int p2), .val (.int p3), .val (.int p4), .val (.int p5), .val (.int p6), .val (.int (own_v0 p1)), .val (.int (own_v1 p1 p2)), .val (.int (own_v2 p1 p2 p3)), .unset, .unset, .unset, .unset, .unset, .unset, .unset, .unset, .unset, .unset] [(.int (p4 &&& (1073741822 : Int32))), (.int ((own_v2 p1 p2 p3) + (1 : Int32)))])) _
    refine XS.iadd X0.here hx rfl (hb hby at_39) rfl ?_
    show Steps p.tables e below (s₁.setTop (mkF m 40 #[.val (.int p1), .val (.int p2), .val (.int p3), .val (.int p4), .val (.int p5), .val (.int p6), .val (.int (own_v0 p1)), .val (.int (own_v1 p1 p2)), .val (.int (own_v2 p1 p2 p3)), .unset, .unset, .unset, .unset, .unset, .unset, .unset, .unset, .unset, .unset] [(.int (own_v3 p1 p2 p3 p4))])) _
    refine XS.istore X0.here hx rfl (hb hby at_40) rfl (l' := #[.val (.int p1), .val (.int p2), .val (.int p3), .val (.int p4), .val (.int p5), .val (.int p6), .val (.int (own_v0 p1)), .val (.int (own_v1 p1 p2)), .val (.int (own_v2 p1 p2 p3)), .val (.int (own_v3 p1 p2 p3 p4)), .unset, .unset, .unset, .unset, .unset, .unset, .unset, .unset, .unset]) rfl ?_
    show Steps p.tables e below (s₁.setTop (mkF m 42 #[.val (.int p1), .val (.int p2), .val (.int p3), .val (.int p4), .val (.int p5), .val (.int p6), .val (.int (own_v0 p1)), .val (.int (own_v1 p1 p2)), .val (.int (own_v2 p1 p2 p3)), .val (.int (own_v3 p1 p2 p3 p4)), .unset, .unset, .unset, .unset, .unset, .unset, .unset, .unset, .unset] [])) _
    refine XS.iload X0.here hx rfl (hb hby at_42) rfl ?_
    show Steps p.tables e below (s₁.setTop (mkF m 44 #[.val (.int p1), .val (.int p2), .val (.int p3), .val (.int p4), .val (.int p5), .val (.int p6), .val (.int (own_v0 p1)), .val (.int (own_v1 p1 p2)), .val (.int (own_v2 p1 p2 p3)), .val (.int (own_v3 p1 p2 p3 p4)), .unset, .unset, .unset, .unset, .unset, .unset, .unset, .unset, .unset] [(.int p5)])) _
    refine XS.bipush X0.here hx rfl (hb hby at_44) ?_
    show Steps p.tables e below (s₁.setTop (mkF m 46 #[.val (.int p1), .val (.int p2), .val (.int p3), .val (.int p4), .val (.int p5), .val (.int p6), .val (.int (own_v0 p1)), .val (.int (own_v1 p1 p2)), .val (.int (own_v2 p1 p2 p3)), .val (.int (own_v3 p1 p2 p3 p4)), .unset, .unset, .unset, .unset, .unset, .unset, .unset, .unset, .unset] [(.int (15 : Int32)), (.int p5)])) _
    refine XS.iand X0.here hx rfl (hb hby at_46) rfl ?_
    show Steps p.tables e below (s₁.setTop (mkF m 47 #[.val (.int p1), .val (.int p2), .val (.int p3), .val (.int p4), .val (.int p5), .val (.int p6), .val (.int (own_v0 p1)), .val (.int (own_v1 p1 p2)), .val (.int (own_v2 p1 p2 p3)), .val (.int (own_v3 p1 p2 p3 p4)), .unset, .unset, .unset, .unset, .unset, .unset, .unset, .unset, .unset] [(.int (p5 &&& (15 : Int32)))])) _
    refine XS.istore X0.here hx rfl (hb hby at_47) rfl (l' := #[.val (.int p1), .val (.int p2), .val (.int p3), .val (.int p4), .val (.int p5), .val (.int p6), .val (.int (own_v0 p1)), .val (.int (own_v1 p1 p2)), .val (.int (own_v2 p1 p2 p3)), .val (.int (own_v3 p1 p2 p3 p4)), .val (.int (p5 &&& (15 : Int32))), .unset, .unset, .unset, .unset, .unset, .unset, .unset, .unset]) rfl ?_
    show Steps p.tables e below (s₁.setTop (mkF m 49 #[.val (.int p1), .val (.int p2), .val (.int p3), .val (.int p4), .val (.int p5), .val (.int p6), .val (.int (own_v0 p1)), .val (.int (own_v1 p1 p2)), .val (.int (own_v2 p1 p2 p3)), .val (.int (own_v3 p1 p2 p3 p4)), .val (.int (p5 &&& (15 : Int32))), .unset, .unset, .unset, .unset, .unset, .unset, .unset, .unset] [])) _
    refine XS.iload X0.here hx rfl (hb hby at_49) rfl ?_
    show Steps p.tables e below (s₁.setTop (mkF m 51 #[.val (.int p1), .val (.int p2), .val (.int p3), .val (.int p4), .val (.int p5), .val (.int p6), .val (.int (own_v0 p1)), .val (.int (own_v1 p1 p2)), .val (.int (own_v2 p1 p2 p3)), .val (.int (own_v3 p1 p2 p3 p4)), .val (.int (p5 &&& (15 : Int32))), .unset, .unset, .unset, .unset, .unset, .unset, .unset, .unset] [(.int p5)])) _
    refine XS.iconst X0.here hx rfl (hb hby at_51) ?_
    show Steps p.tables e below (s₁.setTop (mkF m 52 #[.val (.int p1), .val (.int p2), .val (.int p3), .val (.int p4), .val (.int p5), .val (.int p6), .val (.int (own_v0 p1)), .val (.int (own_v1 p1 p2)), .val (.int (own_v2 p1 p2 p3)), .val (.int (own_v3 p1 p2 p3 p4)), .val (.int (p5 &&& (15 : Int32))), .unset, .unset, .unset, .unset, .unset, .unset, .unset, .unset] [(.int (4 : Int32)), (.int p5)])) _
    refine XS.iushr X0.here hx rfl (hb hby at_52) rfl ?_
    show Steps p.tables e below (s₁.setTop (mkF m 53 #[.val (.int p1), .val (.int p2), .val (.int p3), .val (.int p4), .val (.int p5), .val (.int p6), .val (.int (own_v0 p1)), .val (.int (own_v1 p1 p2)), .val (.int (own_v2 p1 p2 p3)), .val (.int (own_v3 p1 p2 p3 p4)), .val (.int (p5 &&& (15 : Int32))), .unset, .unset, .unset, .unset, .unset, .unset, .unset, .unset] [(.int ((p5.toUInt32 >>> ((4 : Int32) &&& 31).toUInt32).toInt32))])) _
    refine XS.bipush X0.here hx rfl (hb hby at_53) ?_
    show Steps p.tables e below (s₁.setTop (mkF m 55 #[.val (.int p1), .val (.int p2), .val (.int p3), .val (.int p4), .val (.int p5), .val (.int p6), .val (.int (own_v0 p1)), .val (.int (own_v1 p1 p2)), .val (.int (own_v2 p1 p2 p3)), .val (.int (own_v3 p1 p2 p3 p4)), .val (.int (p5 &&& (15 : Int32))), .unset, .unset, .unset, .unset, .unset, .unset, .unset, .unset] [(.int (15 : Int32)), (.int ((p5.toUInt32 >>> ((4 : Int32) &&& 31).toUInt32).toInt32))])) _
    refine XS.iand X0.here hx rfl (hb hby at_55) rfl ?_
    show Steps p.tables e below (s₁.setTop (mkF m 56 #[.val (.int p1), .val (.int p2), .val (.int p3), .val (.int p4), .val (.int p5), .val (.int p6), .val (.int (own_v0 p1)), .val (.int (own_v1 p1 p2)), .val (.int (own_v2 p1 p2 p3)), .val (.int (own_v3 p1 p2 p3 p4)), .val (.int (p5 &&& (15 : Int32))), .unset, .unset, .unset, .unset, .unset, .unset, .unset, .unset] [(.int (own_om p5))])) _
    refine XS.istore X0.here hx rfl (hb hby at_56) rfl (l' := #[.val (.int p1), .val (.int p2), .val (.int p3), .val (.int p4), .val (.int p5), .val (.int p6), .val (.int (own_v0 p1)), .val (.int (own_v1 p1 p2)), .val (.int (own_v2 p1 p2 p3)), .val (.int (own_v3 p1 p2 p3 p4)), .val (.int (p5 &&& (15 : Int32))), .val (.int (own_om p5)), .unset, .unset, .unset, .unset, .unset, .unset, .unset]) rfl ?_
    show Steps p.tables e below (s₁.setTop (mkF m 58 #[.val (.int p1), .val (.int p2), .val (.int p3), .val (.int p4), .val (.int p5), .val (.int p6), .val (.int (own_v0 p1)), .val (.int (own_v1 p1 p2)), .val (.int (own_v2 p1 p2 p3)), .val (.int (own_v3 p1 p2 p3 p4)), .val (.int (p5 &&& (15 : Int32))), .val (.int (own_om p5)), .unset, .unset, .unset, .unset, .unset, .unset, .unset] [])) _
    refine XS.iload X0.here hx rfl (hb hby at_58) rfl ?_
    show Steps p.tables e below (s₁.setTop (mkF m 60 #[.val (.int p1), .val (.int p2), .val (.int p3), .val (.int p4), .val (.int p5), .val (.int p6), .val (.int (own_v0 p1)), .val (.int (own_v1 p1 p2)), .val (.int (own_v2 p1 p2 p3)), .val (.int (own_v3 p1 p2 p3 p4)), .val (.int (p5 &&& (15 : Int32))), .val (.int (own_om p5)), .unset, .unset, .unset, .unset, .unset, .unset, .unset] [(.int p5)])) _
    refine XS.bipush X0.here hx rfl (hb hby at_60) ?_
    show Steps p.tables e below (s₁.setTop (mkF m 62 #[.val (.int p1), .val (.int p2), .val (.int p3), .val (.int p4), .val (.int p5), .val (.int p6), .val (.int (own_v0 p1)), .val (.int (own_v1 p1 p2)), .val (.int (own_v2 p1 p2 p3)), .val (.int (own_v3 p1 p2 p3 p4)), .val (.int (p5 &&& (15 : Int32))), .val (.int (own_om p5)), .unset, .unset, .unset, .unset, .unset, .unset, .unset] [(.int (8 : Int32)), (.int p5)])) _
    refine XS.iushr X0.here hx rfl (hb hby at_62) rfl ?_
    show Steps p.tables e below (s₁.setTop (mkF m 63 #[.val (.int p1), .val (.int p2), .val (.int p3), .val (.int p4), .val (.int p5), .val (.int p6), .val (.int (own_v0 p1)), .val (.int (own_v1 p1 p2)), .val (.int (own_v2 p1 p2 p3)), .val (.int (own_v3 p1 p2 p3 p4)), .val (.int (p5 &&& (15 : Int32))), .val (.int (own_om p5)), .unset, .unset, .unset, .unset, .unset, .unset, .unset] [(.int ((p5.toUInt32 >>> ((8 : Int32) &&& 31).toUInt32).toInt32))])) _
    refine XS.iconst X0.here hx rfl (hb hby at_63) ?_
    show Steps p.tables e below (s₁.setTop (mkF m 64 #[.val (.int p1), .val (.int p2), .val (.int p3), .val (.int p4), .val (.int p5), .val (.int p6), .val (.int (own_v0 p1)), .val (.int (own_v1 p1 p2)), .val (.int (own_v2 p1 p2 p3)), .val (.int (own_v3 p1 p2 p3 p4)), .val (.int (p5 &&& (15 : Int32))), .val (.int (own_om p5)), .unset, .unset, .unset, .unset, .unset, .unset, .unset] [(.int (3 : Int32)), (.int ((p5.toUInt32 >>> ((8 : Int32) &&& 31).toUInt32).toInt32))])) _
    refine XS.iand X0.here hx rfl (hb hby at_64) rfl ?_
    show Steps p.tables e below (s₁.setTop (mkF m 65 #[.val (.int p1), .val (.int p2), .val (.int p3), .val (.int p4), .val (.int p5), .val (.int p6), .val (.int (own_v0 p1)), .val (.int (own_v1 p1 p2)), .val (.int (own_v2 p1 p2 p3)), .val (.int (own_v3 p1 p2 p3 p4)), .val (.int (p5 &&& (15 : Int32))), .val (.int (own_om p5)), .unset, .unset, .unset, .unset, .unset, .unset, .unset] [(.int (own_fr p5))])) _
    refine XS.istore X0.here hx rfl (hb hby at_65) rfl (l' := #[.val (.int p1), .val (.int p2), .val (.int p3), .val (.int p4), .val (.int p5), .val (.int p6), .val (.int (own_v0 p1)), .val (.int (own_v1 p1 p2)), .val (.int (own_v2 p1 p2 p3)), .val (.int (own_v3 p1 p2 p3 p4)), .val (.int (p5 &&& (15 : Int32))), .val (.int (own_om p5)), .val (.int (own_fr p5)), .unset, .unset, .unset, .unset, .unset, .unset]) rfl ?_
    show Steps p.tables e below (s₁.setTop (mkF m 67 #[.val (.int p1), .val (.int p2), .val (.int p3), .val (.int p4), .val (.int p5), .val (.int p6), .val (.int (own_v0 p1)), .val (.int (own_v1 p1 p2)), .val (.int (own_v2 p1 p2 p3)), .val (.int (own_v3 p1 p2 p3 p4)), .val (.int (p5 &&& (15 : Int32))), .val (.int (own_om p5)), .val (.int (own_fr p5)), .unset, .unset, .unset, .unset, .unset, .unset] [])) _
    refine XS.iload X0.here hx rfl (hb hby at_67) rfl ?_
    show Steps p.tables e below (s₁.setTop (mkF m 69 #[.val (.int p1), .val (.int p2), .val (.int p3), .val (.int p4), .val (.int p5), .val (.int p6), .val (.int (own_v0 p1)), .val (.int (own_v1 p1 p2)), .val (.int (own_v2 p1 p2 p3)), .val (.int (own_v3 p1 p2 p3 p4)), .val (.int (p5 &&& (15 : Int32))), .val (.int (own_om p5)), .val (.int (own_fr p5)), .unset, .unset, .unset, .unset, .unset, .unset] [(.int p5)])) _
    refine XS.bipush X0.here hx rfl (hb hby at_69) ?_
    show Steps p.tables e below (s₁.setTop (mkF m 71 #[.val (.int p1), .val (.int p2), .val (.int p3), .val (.int p4), .val (.int p5), .val (.int p6), .val (.int (own_v0 p1)), .val (.int (own_v1 p1 p2)), .val (.int (own_v2 p1 p2 p3)), .val (.int (own_v3 p1 p2 p3 p4)), .val (.int (p5 &&& (15 : Int32))), .val (.int (own_om p5)), .val (.int (own_fr p5)), .unset, .unset, .unset, .unset, .unset, .unset] [(.int (10 : Int32)), (.int p5)])) _
    refine XS.iushr X0.here hx rfl (hb hby at_71) rfl ?_
    show Steps p.tables e below (s₁.setTop (mkF m 72 #[.val (.int p1), .val (.int p2), .val (.int p3), .val (.int p4), .val (.int p5), .val (.int p6), .val (.int (own_v0 p1)), .val (.int (own_v1 p1 p2)), .val (.int (own_v2 p1 p2 p3)), .val (.int (own_v3 p1 p2 p3 p4)), .val (.int (p5 &&& (15 : Int32))), .val (.int (own_om p5)), .val (.int (own_fr p5)), .unset, .unset, .unset, .unset, .unset, .unset] [(.int ((p5.toUInt32 >>> ((10 : Int32) &&& 31).toUInt32).toInt32))])) _
    refine XS.iconst X0.here hx rfl (hb hby at_72) ?_
    show Steps p.tables e below (s₁.setTop (mkF m 73 #[.val (.int p1), .val (.int p2), .val (.int p3), .val (.int p4), .val (.int p5), .val (.int p6), .val (.int (own_v0 p1)), .val (.int (own_v1 p1 p2)), .val (.int (own_v2 p1 p2 p3)), .val (.int (own_v3 p1 p2 p3 p4)), .val (.int (p5 &&& (15 : Int32))), .val (.int (own_om p5)), .val (.int (own_fr p5)), .unset, .unset, .unset, .unset, .unset, .unset] [(.int (3 : Int32)), (.int ((p5.toUInt32 >>> ((10 : Int32) &&& 31).toUInt32).toInt32))])) _
    refine XS.iand X0.here hx rfl (hb hby at_73) rfl ?_
    show Steps p.tables e below (s₁.setTop (mkF m 74 #[.val (.int p1), .val (.int p2), .val (.int p3), .val (.int p4), .val (.int p5), .val (.int p6), .val (.int (own_v0 p1)), .val (.int (own_v1 p1 p2)), .val (.int (own_v2 p1 p2 p3)), .val (.int (own_v3 p1 p2 p3 p4)), .val (.int (p5 &&& (15 : Int32))), .val (.int (own_om p5)), .val (.int (own_fr p5)), .unset, .unset, .unset, .unset, .unset, .unset] [(.int (own_of p5))])) _
    refine XS.istore X0.here hx rfl (hb hby at_74) rfl (l' := #[.val (.int p1), .val (.int p2), .val (.int p3), .val (.int p4), .val (.int p5), .val (.int p6), .val (.int (own_v0 p1)), .val (.int (own_v1 p1 p2)), .val (.int (own_v2 p1 p2 p3)), .val (.int (own_v3 p1 p2 p3 p4)), .val (.int (p5 &&& (15 : Int32))), .val (.int (own_om p5)), .val (.int (own_fr p5)), .val (.int (own_of p5)), .unset, .unset, .unset, .unset, .unset]) rfl ?_
    show Steps p.tables e below (s₁.setTop (mkF m 76 #[.val (.int p1), .val (.int p2), .val (.int p3), .val (.int p4), .val (.int p5), .val (.int p6), .val (.int (own_v0 p1)), .val (.int (own_v1 p1 p2)), .val (.int (own_v2 p1 p2 p3)), .val (.int (own_v3 p1 p2 p3 p4)), .val (.int (p5 &&& (15 : Int32))), .val (.int (own_om p5)), .val (.int (own_fr p5)), .val (.int (own_of p5)), .unset, .unset, .unset, .unset, .unset] [])) _
    refine XS.bipush X0.here hx rfl (hb hby at_76) ?_
    show Steps p.tables e below (s₁.setTop (mkF m 78 #[.val (.int p1), .val (.int p2), .val (.int p3), .val (.int p4), .val (.int p5), .val (.int p6), .val (.int (own_v0 p1)), .val (.int (own_v1 p1 p2)), .val (.int (own_v2 p1 p2 p3)), .val (.int (own_v3 p1 p2 p3 p4)), .val (.int (p5 &&& (15 : Int32))), .val (.int (own_om p5)), .val (.int (own_fr p5)), .val (.int (own_of p5)), .unset, .unset, .unset, .unset, .unset] [(.int (8 : Int32))])) _
    refine st7 _ ?_
    show Steps p.tables e below (T7.setTop (mkF m 80 #[.val (.int p1), .val (.int p2), .val (.int p3), .val (.int p4), .val (.int p5), .val (.int p6), .val (.int (own_v0 p1)), .val (.int (own_v1 p1 p2)), .val (.int (own_v2 p1 p2 p3)), .val (.int (own_v3 p1 p2 p3 p4)), .val (.int (p5 &&& (15 : Int32))), .val (.int (own_om p5)), .val (.int (own_fr p5)), .val (.int (own_of p5)), .unset, .unset, .unset, .unset, .unset] [(.ref b7)])) _
    refine XS.dup X7.here hx rfl (hb hby at_80) rfl rfl ?_
    show Steps p.tables e below (T7.setTop (mkF m 81 #[.val (.int p1), .val (.int p2), .val (.int p3), .val (.int p4), .val (.int p5), .val (.int p6), .val (.int (own_v0 p1)), .val (.int (own_v1 p1 p2)), .val (.int (own_v2 p1 p2 p3)), .val (.int (own_v3 p1 p2 p3 p4)), .val (.int (p5 &&& (15 : Int32))), .val (.int (own_om p5)), .val (.int (own_fr p5)), .val (.int (own_of p5)), .unset, .unset, .unset, .unset, .unset] [(.ref b7), (.ref b7)])) _
    refine XS.iconst X7.here hx rfl (hb hby at_81) ?_
    show Steps p.tables e below (T7.setTop (mkF m 82 #[.val (.int p1), .val (.int p2), .val (.int p3), .val (.int p4), .val (.int p5), .val (.int p6), .val (.int (own_v0 p1)), .val (.int (own_v1 p1 p2)), .val (.int (own_v2 p1 p2 p3)), .val (.int (own_v3 p1 p2 p3 p4)), .val (.int (p5 &&& (15 : Int32))), .val (.int (own_om p5)), .val (.int (own_fr p5)), .val (.int (own_of p5)), .unset, .unset, .unset, .unset, .unset] [(.int (0 : Int32)), (.ref b7), (.ref b7)])) _
    refine XS.iload X7.here hx rfl (hb hby at_82) rfl ?_
    show Steps p.tables e below (T7.setTop (mkF m 84 #[.val (.int p1), .val (.int p2), .val (.int p3), .val (.int p4), .val (.int p5), .val (.int p6), .val (.int (own_v0 p1)), .val (.int (own_v1 p1 p2)), .val (.int (own_v2 p1 p2 p3)), .val (.int (own_v3 p1 p2 p3 p4)), .val (.int (p5 &&& (15 : Int32))), .val (.int (own_om p5)), .val (.int (own_fr p5)), .val (.int (own_of p5)), .unset, .unset, .unset, .unset, .unset] [(.int p6), (.int (0 : Int32)), (.ref b7), (.ref b7)])) _
    refine st8 _ ?_
    show Steps p.tables e below (T8.setTop (mkF m 85 #[.val (.int p1), .val (.int p2), .val (.int p3), .val (.int p4), .val (.int p5), .val (.int p6), .val (.int (own_v0 p1)), .val (.int (own_v1 p1 p2)), .val (.int (own_v2 p1 p2 p3)), .val (.int (own_v3 p1 p2 p3 p4)), .val (.int (p5 &&& (15 : Int32))), .val (.int (own_om p5)), .val (.int (own_fr p5)), .val (.int (own_of p5)), .unset, .unset, .unset, .unset, .unset] [(.ref b7)])) _
    refine XS.dup X8.here hx rfl (hb hby at_85) rfl rfl ?_
    show Steps p.tables e below (T8.setTop (mkF m 86 #[.val (.int p1), .val (.int p2), .val (.int p3), .val (.int p4), .val (.int p5), .val (.int p6), .val (.int (own_v0 p1)), .val (.int (own_v1 p1 p2)), .val (.int (own_v2 p1 p2 p3)), .val (.int (own_v3 p1 p2 p3 p4)), .val (.int (p5 &&& (15 : Int32))), .val (.int (own_om p5)), .val (.int (own_fr p5)), .val (.int (own_of p5)), .unset, .unset, .unset, .unset, .unset] [(.ref b7), (.ref b7)])) _
    refine XS.iconst X8.here hx rfl (hb hby at_86) ?_
    show Steps p.tables e below (T8.setTop (mkF m 87 #[.val (.int p1), .val (.int p2), .val (.int p3), .val (.int p4), .val (.int p5), .val (.int p6), .val (.int (own_v0 p1)), .val (.int (own_v1 p1 p2)), .val (.int (own_v2 p1 p2 p3)), .val (.int (own_v3 p1 p2 p3 p4)), .val (.int (p5 &&& (15 : Int32))), .val (.int (own_om p5)), .val (.int (own_fr p5)), .val (.int (own_of p5)), .unset, .unset, .unset, .unset, .unset] [(.int (1 : Int32)), (.ref b7), (.ref b7)])) _
    refine XS.iload X8.here hx rfl (hb hby at_87) rfl ?_
    show Steps p.tables e below (T8.setTop (mkF m 89 #[.val (.int p1), .val (.int p2), .val (.int p3), .val (.int p4), .val (.int p5), .val (.int p6), .val (.int (own_v0 p1)), .val (.int (own_v1 p1 p2)), .val (.int (own_v2 p1 p2 p3)), .val (.int (own_v3 p1 p2 p3 p4)), .val (.int (p5 &&& (15 : Int32))), .val (.int (own_om p5)), .val (.int (own_fr p5)), .val (.int (own_of p5)), .unset, .unset, .unset, .unset, .unset] [(.int p6), (.int (1 : Int32)), (.ref b7), (.ref b7)])) _
    refine st9 _ ?_
    show Steps p.tables e below (T9.setTop (mkF m 90 #[.val (.int p1), .val (.int p2), .val (.int p3), .val (.int p4), .val (.int p5), .val (.int p6), .val (.int (own_v0 p1)), .val (.int (own_v1 p1 p2)), .val (.int (own_v2 p1 p2 p3)), .val (.int (own_v3 p1 p2 p3 p4)), .val (.int (p5 &&& (15 : Int32))), .val (.int (own_om p5)), .val (.int (own_fr p5)), .val (.int (own_of p5)), .unset, .unset, .unset, .unset, .unset] [(.ref b7)])) _
    refine XS.dup X9.here hx rfl (hb hby at_90) rfl rfl ?_
    show Steps p.tables e below (T9.setTop (mkF m 91 #[.val (.int p1), .val (.int p2), .val (.int p3), .val (.int p4), .val (.int p5), .val (.int p6), .val (.int (own_v0 p1)), .val (.int (own_v1 p1 p2)), .val (.int (own_v2 p1 p2 p3)), .val (.int (own_v3 p1 p2 p3 p4)), .val (.int (p5 &&& (15 : Int32))), .val (.int (own_om p5)), .val (.int (own_fr p5)), .val (.int (own_of p5)), .unset, .unset, .unset, .unset, .unset] [(.ref b7), (.ref b7)])) _
    refine XS.iconst X9.here hx rfl (hb hby at_91) ?_
    show Steps p.tables e below (T9.setTop (mkF m 92 #[.val (.int p1), .val (.int p2), .val (.int p3), .val (.int p4), .val (.int p5), .val (.int p6), .val (.int (own_v0 p1)), .val (.int (own_v1 p1 p2)), .val (.int (own_v2 p1 p2 p3)), .val (.int (own_v3 p1 p2 p3 p4)), .val (.int (p5 &&& (15 : Int32))), .val (.int (own_om p5)), .val (.int (own_fr p5)), .val (.int (own_of p5)), .unset, .unset, .unset, .unset, .unset] [(.int (2 : Int32)), (.ref b7), (.ref b7)])) _
    refine XS.iload X9.here hx rfl (hb hby at_92) rfl ?_
    show Steps p.tables e below (T9.setTop (mkF m 94 #[.val (.int p1), .val (.int p2), .val (.int p3), .val (.int p4), .val (.int p5), .val (.int p6), .val (.int (own_v0 p1)), .val (.int (own_v1 p1 p2)), .val (.int (own_v2 p1 p2 p3)), .val (.int (own_v3 p1 p2 p3 p4)), .val (.int (p5 &&& (15 : Int32))), .val (.int (own_om p5)), .val (.int (own_fr p5)), .val (.int (own_of p5)), .unset, .unset, .unset, .unset, .unset] [(.int p6), (.int (2 : Int32)), (.ref b7), (.ref b7)])) _
    refine st10 _ ?_
    show Steps p.tables e below (T10.setTop (mkF m 95 #[.val (.int p1), .val (.int p2), .val (.int p3), .val (.int p4), .val (.int p5), .val (.int p6), .val (.int (own_v0 p1)), .val (.int (own_v1 p1 p2)), .val (.int (own_v2 p1 p2 p3)), .val (.int (own_v3 p1 p2 p3 p4)), .val (.int (p5 &&& (15 : Int32))), .val (.int (own_om p5)), .val (.int (own_fr p5)), .val (.int (own_of p5)), .unset, .unset, .unset, .unset, .unset] [(.ref b7)])) _
    refine XS.dup X10.here hx rfl (hb hby at_95) rfl rfl ?_
    show Steps p.tables e below (T10.setTop (mkF m 96 #[.val (.int p1), .val (.int p2), .val (.int p3), .val (.int p4), .val (.int p5), .val (.int p6), .val (.int (own_v0 p1)), .val (.int (own_v1 p1 p2)), .val (.int (own_v2 p1 p2 p3)), .val (.int (own_v3 p1 p2 p3 p4)), .val (.int (p5 &&& (15 : Int32))), .val (.int (own_om p5)), .val (.int (own_fr p5)), .val (.int (own_of p5)), .unset, .unset, .unset, .unset, .unset] [(.ref b7), (.ref b7)])) _
    refine XS.iconst X10.here hx rfl (hb hby at_96) ?_
    show Steps p.tables e below (T10.setTop (mkF m 97 #[.val (.int p1), .val (.int p2), .val (.int p3), .val (.int p4), .val (.int p5), .val (.int p6), .val (.int (own_v0 p1)), .val (.int (own_v1 p1 p2)), .val (.int (own_v2 p1 p2 p3)), .val (.int (own_v3 p1 p2 p3 p4)), .val (.int (p5 &&& (15 : Int32))), .val (.int (own_om p5)), .val (.int (own_fr p5)), .val (.int (own_of p5)), .unset, .unset, .unset, .unset, .unset] [(.int (3 : Int32)), (.ref b7), (.ref b7)])) _
    refine XS.iload X10.here hx rfl (hb hby at_97) rfl ?_
    show Steps p.tables e below (T10.setTop (mkF m 99 #[.val (.int p1), .val (.int p2), .val (.int p3), .val (.int p4), .val (.int p5), .val (.int p6), .val (.int (own_v0 p1)), .val (.int (own_v1 p1 p2)), .val (.int (own_v2 p1 p2 p3)), .val (.int (own_v3 p1 p2 p3 p4)), .val (.int (p5 &&& (15 : Int32))), .val (.int (own_om p5)), .val (.int (own_fr p5)), .val (.int (own_of p5)), .unset, .unset, .unset, .unset, .unset] [(.int p6), (.int (3 : Int32)), (.ref b7), (.ref b7)])) _
    refine st11 _ ?_
    show Steps p.tables e below (T11.setTop (mkF m 100 #[.val (.int p1), .val (.int p2), .val (.int p3), .val (.int p4), .val (.int p5), .val (.int p6), .val (.int (own_v0 p1)), .val (.int (own_v1 p1 p2)), .val (.int (own_v2 p1 p2 p3)), .val (.int (own_v3 p1 p2 p3 p4)), .val (.int (p5 &&& (15 : Int32))), .val (.int (own_om p5)), .val (.int (own_fr p5)), .val (.int (own_of p5)), .unset, .unset, .unset, .unset, .unset] [(.ref b7)])) _
    refine XS.dup X11.here hx rfl (hb hby at_100) rfl rfl ?_
    show Steps p.tables e below (T11.setTop (mkF m 101 #[.val (.int p1), .val (.int p2), .val (.int p3), .val (.int p4), .val (.int p5), .val (.int p6), .val (.int (own_v0 p1)), .val (.int (own_v1 p1 p2)), .val (.int (own_v2 p1 p2 p3)), .val (.int (own_v3 p1 p2 p3 p4)), .val (.int (p5 &&& (15 : Int32))), .val (.int (own_om p5)), .val (.int (own_fr p5)), .val (.int (own_of p5)), .unset, .unset, .unset, .unset, .unset] [(.ref b7), (.ref b7)])) _
    refine XS.iconst X11.here hx rfl (hb hby at_101) ?_
    show Steps p.tables e below (T11.setTop (mkF m 102 #[.val (.int p1), .val (.int p2), .val (.int p3), .val (.int p4), .val (.int p5), .val (.int p6), .val (.int (own_v0 p1)), .val (.int (own_v1 p1 p2)), .val (.int (own_v2 p1 p2 p3)), .val (.int (own_v3 p1 p2 p3 p4)), .val (.int (p5 &&& (15 : Int32))), .val (.int (own_om p5)), .val (.int (own_fr p5)), .val (.int (own_of p5)), .unset, .unset, .unset, .unset, .unset] [(.int (4 : Int32)), (.ref b7), (.ref b7)])) _
    refine XS.iload X11.here hx rfl (hb hby at_102) rfl ?_
    show Steps p.tables e below (T11.setTop (mkF m 104 #[.val (.int p1), .val (.int p2), .val (.int p3), .val (.int p4), .val (.int p5), .val (.int p6), .val (.int (own_v0 p1)), .val (.int (own_v1 p1 p2)), .val (.int (own_v2 p1 p2 p3)), .val (.int (own_v3 p1 p2 p3 p4)), .val (.int (p5 &&& (15 : Int32))), .val (.int (own_om p5)), .val (.int (own_fr p5)), .val (.int (own_of p5)), .unset, .unset, .unset, .unset, .unset] [(.int p6), (.int (4 : Int32)), (.ref b7), (.ref b7)])) _
    refine st12 _ ?_
    show Steps p.tables e below (T12.setTop (mkF m 105 #[.val (.int p1), .val (.int p2), .val (.int p3), .val (.int p4), .val (.int p5), .val (.int p6), .val (.int (own_v0 p1)), .val (.int (own_v1 p1 p2)), .val (.int (own_v2 p1 p2 p3)), .val (.int (own_v3 p1 p2 p3 p4)), .val (.int (p5 &&& (15 : Int32))), .val (.int (own_om p5)), .val (.int (own_fr p5)), .val (.int (own_of p5)), .unset, .unset, .unset, .unset, .unset] [(.ref b7)])) _
    refine XS.dup X12.here hx rfl (hb hby at_105) rfl rfl ?_
    show Steps p.tables e below (T12.setTop (mkF m 106 #[.val (.int p1), .val (.int p2), .val (.int p3), .val (.int p4), .val (.int p5), .val (.int p6), .val (.int (own_v0 p1)), .val (.int (own_v1 p1 p2)), .val (.int (own_v2 p1 p2 p3)), .val (.int (own_v3 p1 p2 p3 p4)), .val (.int (p5 &&& (15 : Int32))), .val (.int (own_om p5)), .val (.int (own_fr p5)), .val (.int (own_of p5)), .unset, .unset, .unset, .unset, .unset] [(.ref b7), (.ref b7)])) _
    refine XS.iconst X12.here hx rfl (hb hby at_106) ?_
    show Steps p.tables e below (T12.setTop (mkF m 107 #[.val (.int p1), .val (.int p2), .val (.int p3), .val (.int p4), .val (.int p5), .val (.int p6), .val (.int (own_v0 p1)), .val (.int (own_v1 p1 p2)), .val (.int (own_v2 p1 p2 p3)), .val (.int (own_v3 p1 p2 p3 p4)), .val (.int (p5 &&& (15 : Int32))), .val (.int (own_om p5)), .val (.int (own_fr p5)), .val (.int (own_of p5)), .unset, .unset, .unset, .unset, .unset] [(.int (5 : Int32)), (.ref b7), (.ref b7)])) _
    refine XS.iload X12.here hx rfl (hb hby at_107) rfl ?_
    show Steps p.tables e below (T12.setTop (mkF m 109 #[.val (.int p1), .val (.int p2), .val (.int p3), .val (.int p4), .val (.int p5), .val (.int p6), .val (.int (own_v0 p1)), .val (.int (own_v1 p1 p2)), .val (.int (own_v2 p1 p2 p3)), .val (.int (own_v3 p1 p2 p3 p4)), .val (.int (p5 &&& (15 : Int32))), .val (.int (own_om p5)), .val (.int (own_fr p5)), .val (.int (own_of p5)), .unset, .unset, .unset, .unset, .unset] [(.int p6), (.int (5 : Int32)), (.ref b7), (.ref b7)])) _
    refine st13 _ ?_
    show Steps p.tables e below (T13.setTop (mkF m 110 #[.val (.int p1), .val (.int p2), .val (.int p3), .val (.int p4), .val (.int p5), .val (.int p6), .val (.int (own_v0 p1)), .val (.int (own_v1 p1 p2)), .val (.int (own_v2 p1 p2 p3)), .val (.int (own_v3 p1 p2 p3 p4)), .val (.int (p5 &&& (15 : Int32))), .val (.int (own_om p5)), .val (.int (own_fr p5)), .val (.int (own_of p5)), .unset, .unset, .unset, .unset, .unset] [(.ref b7)])) _
    refine XS.dup X13.here hx rfl (hb hby at_110) rfl rfl ?_
    show Steps p.tables e below (T13.setTop (mkF m 111 #[.val (.int p1), .val (.int p2), .val (.int p3), .val (.int p4), .val (.int p5), .val (.int p6), .val (.int (own_v0 p1)), .val (.int (own_v1 p1 p2)), .val (.int (own_v2 p1 p2 p3)), .val (.int (own_v3 p1 p2 p3 p4)), .val (.int (p5 &&& (15 : Int32))), .val (.int (own_om p5)), .val (.int (own_fr p5)), .val (.int (own_of p5)), .unset, .unset, .unset, .unset, .unset] [(.ref b7), (.ref b7)])) _
    refine XS.bipush X13.here hx rfl (hb hby at_111) ?_
    show Steps p.tables e below (T13.setTop (mkF m 113 #[.val (.int p1), .val (.int p2), .val (.int p3), .val (.int p4), .val (.int p5), .val (.int p6), .val (.int (own_v0 p1)), .val (.int (own_v1 p1 p2)), .val (.int (own_v2 p1 p2 p3)), .val (.int (own_v3 p1 p2 p3 p4)), .val (.int (p5 &&& (15 : Int32))), .val (.int (own_om p5)), .val (.int (own_fr p5)), .val (.int (own_of p5)), .unset, .unset, .unset, .unset, .unset] [(.int (6 : Int32)), (.ref b7), (.ref b7)])) _
    refine XS.iload X13.here hx rfl (hb hby at_113) rfl ?_
    show Steps p.tables e below (T13.setTop (mkF m 115 #[.val (.int p1), .val (.int p2), .val (.int p3), .val (.int p4), .val (.int p5), .val (.int p6), .val (.int (own_v0 p1)), .val (.int (own_v1 p1 p2)), .val (.int (own_v2 p1 p2 p3)), .val (.int (own_v3 p1 p2 p3 p4)), .val (.int (p5 &&& (15 : Int32))), .val (.int (own_om p5)), .val (.int (own_fr p5)), .val (.int (own_of p5)), .unset, .unset, .unset, .unset, .unset] [(.int p6), (.int (6 : Int32)), (.ref b7), (.ref b7)])) _
    refine st14 _ ?_
    show Steps p.tables e below (T14.setTop (mkF m 116 #[.val (.int p1), .val (.int p2), .val (.int p3), .val (.int p4), .val (.int p5), .val (.int p6), .val (.int (own_v0 p1)), .val (.int (own_v1 p1 p2)), .val (.int (own_v2 p1 p2 p3)), .val (.int (own_v3 p1 p2 p3 p4)), .val (.int (p5 &&& (15 : Int32))), .val (.int (own_om p5)), .val (.int (own_fr p5)), .val (.int (own_of p5)), .unset, .unset, .unset, .unset, .unset] [(.ref b7)])) _
    refine XS.dup X14.here hx rfl (hb hby at_116) rfl rfl ?_
    show Steps p.tables e below (T14.setTop (mkF m 117 #[.val (.int p1), .val (.int p2), .val (.int p3), .val (.int p4), .val (.int p5), .val (.int p6), .val (.int (own_v0 p1)), .val (.int (own_v1 p1 p2)), .val (.int (own_v2 p1 p2 p3)), .val (.int (own_v3 p1 p2 p3 p4)), .val (.int (p5 &&& (15 : Int32))), .val (.int (own_om p5)), .val (.int (own_fr p5)), .val (.int (own_of p5)), .unset, .unset, .unset, .unset, .unset] [(.ref b7), (.ref b7)])) _
    refine XS.bipush X14.here hx rfl (hb hby at_117) ?_
    show Steps p.tables e below (T14.setTop (mkF m 119 #[.val (.int p1), .val (.int p2), .val (.int p3), .val (.int p4), .val (.int p5), .val (.int p6), .val (.int (own_v0 p1)), .val (.int (own_v1 p1 p2)), .val (.int (own_v2 p1 p2 p3)), .val (.int (own_v3 p1 p2 p3 p4)), .val (.int (p5 &&& (15 : Int32))), .val (.int (own_om p5)), .val (.int (own_fr p5)), .val (.int (own_of p5)), .unset, .unset, .unset, .unset, .unset] [(.int (7 : Int32)), (.ref b7), (.ref b7)])) _
    refine XS.iload X14.here hx rfl (hb hby at_119) rfl ?_
    show Steps p.tables e below (T14.setTop (mkF m 121 #[.val (.int p1), .val (.int p2), .val (.int p3), .val (.int p4), .val (.int p5), .val (.int p6), .val (.int (own_v0 p1)), .val (.int (own_v1 p1 p2)), .val (.int (own_v2 p1 p2 p3)), .val (.int (own_v3 p1 p2 p3 p4)), .val (.int (p5 &&& (15 : Int32))), .val (.int (own_om p5)), .val (.int (own_fr p5)), .val (.int (own_of p5)), .unset, .unset, .unset, .unset, .unset] [(.int p6), (.int (7 : Int32)), (.ref b7), (.ref b7)])) _
    refine st15 _ ?_
    show Steps p.tables e below (T15.setTop (mkF m 122 #[.val (.int p1), .val (.int p2), .val (.int p3), .val (.int p4), .val (.int p5), .val (.int p6), .val (.int (own_v0 p1)), .val (.int (own_v1 p1 p2)), .val (.int (own_v2 p1 p2 p3)), .val (.int (own_v3 p1 p2 p3 p4)), .val (.int (p5 &&& (15 : Int32))), .val (.int (own_om p5)), .val (.int (own_fr p5)), .val (.int (own_of p5)), .unset, .unset, .unset, .unset, .unset] [(.ref b7)])) _
    refine XS.astore X15.here hx rfl (hb hby at_122) rfl rfl (l' := #[.val (.int p1), .val (.int p2), .val (.int p3), .val (.int p4), .val (.int p5), .val (.int p6), .val (.int (own_v0 p1)), .val (.int (own_v1 p1 p2)), .val (.int (own_v2 p1 p2 p3)), .val (.int (own_v3 p1 p2 p3 p4)), .val (.int (p5 &&& (15 : Int32))), .val (.int (own_om p5)), .val (.int (own_fr p5)), .val (.int (own_of p5)), .val (.ref b7), .unset, .unset, .unset, .unset]) rfl ?_
    show Steps p.tables e below (T15.setTop (mkF m 124 #[.val (.int p1), .val (.int p2), .val (.int p3), .val (.int p4), .val (.int p5), .val (.int p6), .val (.int (own_v0 p1)), .val (.int (own_v1 p1 p2)), .val (.int (own_v2 p1 p2 p3)), .val (.int (own_v3 p1 p2 p3 p4)), .val (.int (p5 &&& (15 : Int32))), .val (.int (own_om p5)), .val (.int (own_fr p5)), .val (.int (own_of p5)), .val (.ref b7), .unset, .unset, .unset, .unset] [])) _
    refine XS.bipush X15.here hx rfl (hb hby at_124) ?_
    show Steps p.tables e below (T15.setTop (mkF m 126 #[.val (.int p1), .val (.int p2), .val (.int p3), .val (.int p4), .val (.int p5), .val (.int p6), .val (.int (own_v0 p1)), .val (.int (own_v1 p1 p2)), .val (.int (own_v2 p1 p2 p3)), .val (.int (own_v3 p1 p2 p3 p4)), .val (.int (p5 &&& (15 : Int32))), .val (.int (own_om p5)), .val (.int (own_fr p5)), .val (.int (own_of p5)), .val (.ref b7), .unset, .unset, .unset, .unset] [(.int (8 : Int32))])) _
    refine st16 _ ?_
    show Steps p.tables e below (T16.setTop (mkF m 128 #[.val (.int p1), .val (.int p2), .val (.int p3), .val (.int p4), .val (.int p5), .val (.int p6), .val (.int (own_v0 p1)), .val (.int (own_v1 p1 p2)), .val (.int (own_v2 p1 p2 p3)), .val (.int (own_v3 p1 p2 p3 p4)), .val (.int (p5 &&& (15 : Int32))), .val (.int (own_om p5)), .val (.int (own_fr p5)), .val (.int (own_of p5)), .val (.ref b7), .unset, .unset, .unset, .unset] [(.ref b16)])) _
    refine XS.dup X16.here hx rfl (hb hby at_128) rfl rfl ?_
    show Steps p.tables e below (T16.setTop (mkF m 129 #[.val (.int p1), .val (.int p2), .val (.int p3), .val (.int p4), .val (.int p5), .val (.int p6), .val (.int (own_v0 p1)), .val (.int (own_v1 p1 p2)), .val (.int (own_v2 p1 p2 p3)), .val (.int (own_v3 p1 p2 p3 p4)), .val (.int (p5 &&& (15 : Int32))), .val (.int (own_om p5)), .val (.int (own_fr p5)), .val (.int (own_of p5)), .val (.ref b7), .unset, .unset, .unset, .unset] [(.ref b16), (.ref b16)])) _
    refine XS.iconst X16.here hx rfl (hb hby at_129) ?_
    show Steps p.tables e below (T16.setTop (mkF m 130 #[.val (.int p1), .val (.int p2), .val (.int p3), .val (.int p4), .val (.int p5), .val (.int p6), .val (.int (own_v0 p1)), .val (.int (own_v1 p1 p2)), .val (.int (own_v2 p1 p2 p3)), .val (.int (own_v3 p1 p2 p3 p4)), .val (.int (p5 &&& (15 : Int32))), .val (.int (own_om p5)), .val (.int (own_fr p5)), .val (.int (own_of p5)), .val (.ref b7), .unset, .unset, .unset, .unset] [(.int (0 : Int32)), (.ref b16), (.ref b16)])) _
    refine XS.iload X16.here hx rfl (hb hby at_130) rfl ?_
    show Steps p.tables e below (T16.setTop (mkF m 132 #[.val (.int p1), .val (.int p2), .val (.int p3), .val (.int p4), .val (.int p5), .val (.int p6), .val (.int (own_v0 p1)), .val (.int (own_v1 p1 p2)), .val (.int (own_v2 p1 p2 p3)), .val (.int (own_v3 p1 p2 p3 p4)), .val (.int (p5 &&& (15 : Int32))), .val (.int (own_om p5)), .val (.int (own_fr p5)), .val (.int (own_of p5)), .val (.ref b7), .unset, .unset, .unset, .unset] [(.int p6), (.int (0 : Int32)), (.ref b16), (.ref b16)])) _
    refine st17 _ ?_
    show Steps p.tables e below (T17.setTop (mkF m 133 #[.val (.int p1), .val (.int p2), .val (.int p3), .val (.int p4), .val (.int p5), .val (.int p6), .val (.int (own_v0 p1)), .val (.int (own_v1 p1 p2)), .val (.int (own_v2 p1 p2 p3)), .val (.int (own_v3 p1 p2 p3 p4)), .val (.int (p5 &&& (15 : Int32))), .val (.int (own_om p5)), .val (.int (own_fr p5)), .val (.int (own_of p5)), .val (.ref b7), .unset, .unset, .unset, .unset] [(.ref b16)])) _
    refine XS.dup X17.here hx rfl (hb hby at_133) rfl rfl ?_
    show Steps p.tables e below (T17.setTop (mkF m 134 #[.val (.int p1), .val (.int p2), .val (.int p3), .val (.int p4), .val (.int p5), .val (.int p6), .val (.int (own_v0 p1)), .val (.int (own_v1 p1 p2)), .val (.int (own_v2 p1 p2 p3)), .val (.int (own_v3 p1 p2 p3 p4)), .val (.int (p5 &&& (15 : Int32))), .val (.int (own_om p5)), .val (.int (own_fr p5)), .val (.int (own_of p5)), .val (.ref b7), .unset, .unset, .unset, .unset] [(.ref b16), (.ref b16)])) _
    refine XS.iconst X17.here hx rfl (hb hby at_134) ?_
    show Steps p.tables e below (T17.setTop (mkF m 135 #[.val (.int p1), .val (.int p2), .val (.int p3), .val (.int p4), .val (.int p5), .val (.int p6), .val (.int (own_v0 p1)), .val (.int (own_v1 p1 p2)), .val (.int (own_v2 p1 p2 p3)), .val (.int (own_v3 p1 p2 p3 p4)), .val (.int (p5 &&& (15 : Int32))), .val (.int (own_om p5)), .val (.int (own_fr p5)), .val (.int (own_of p5)), .val (.ref b7), .unset, .unset, .unset, .unset] [(.int (1 : Int32)), (.ref b16), (.ref b16)])) _
    refine XS.iload X17.here hx rfl (hb hby at_135) rfl ?_
    show Steps p.tables e below (T17.setTop (mkF m 137 #[.val (.int p1), .val (.int p2), .val (.int p3), .val (.int p4), .val (.int p5), .val (.int p6), .val (.int (own_v0 p1)), .val (.int (own_v1 p1 p2)), .val (.int (own_v2 p1 p2 p3)), .val (.int (own_v3 p1 p2 p3 p4)), .val (.int (p5 &&& (15 : Int32))), .val (.int (own_om p5)), .val (.int (own_fr p5)), .val (.int (own_of p5)), .val (.ref b7), .unset, .unset, .unset, .unset] [(.int p6), (.int (1 : Int32)), (.ref b16), (.ref b16)])) _
    refine st18 _ ?_
    show Steps p.tables e below (T18.setTop (mkF m 138 #[.val (.int p1), .val (.int p2), .val (.int p3), .val (.int p4), .val (.int p5), .val (.int p6), .val (.int (own_v0 p1)), .val (.int (own_v1 p1 p2)), .val (.int (own_v2 p1 p2 p3)), .val (.int (own_v3 p1 p2 p3 p4)), .val (.int (p5 &&& (15 : Int32))), .val (.int (own_om p5)), .val (.int (own_fr p5)), .val (.int (own_of p5)), .val (.ref b7), .unset, .unset, .unset, .unset] [(.ref b16)])) _
    refine XS.dup X18.here hx rfl (hb hby at_138) rfl rfl ?_
    show Steps p.tables e below (T18.setTop (mkF m 139 #[.val (.int p1), .val (.int p2), .val (.int p3), .val (.int p4), .val (.int p5), .val (.int p6), .val (.int (own_v0 p1)), .val (.int (own_v1 p1 p2)), .val (.int (own_v2 p1 p2 p3)), .val (.int (own_v3 p1 p2 p3 p4)), .val (.int (p5 &&& (15 : Int32))), .val (.int (own_om p5)), .val (.int (own_fr p5)), .val (.int (own_of p5)), .val (.ref b7), .unset, .unset, .unset, .unset] [(.ref b16), (.ref b16)])) _
    refine XS.iconst X18.here hx rfl (hb hby at_139) ?_
    show Steps p.tables e below (T18.setTop (mkF m 140 #[.val (.int p1), .val (.int p2), .val (.int p3), .val (.int p4), .val (.int p5), .val (.int p6), .val (.int (own_v0 p1)), .val (.int (own_v1 p1 p2)), .val (.int (own_v2 p1 p2 p3)), .val (.int (own_v3 p1 p2 p3 p4)), .val (.int (p5 &&& (15 : Int32))), .val (.int (own_om p5)), .val (.int (own_fr p5)), .val (.int (own_of p5)), .val (.ref b7), .unset, .unset, .unset, .unset] [(.int (2 : Int32)), (.ref b16), (.ref b16)])) _
    refine XS.iload X18.here hx rfl (hb hby at_140) rfl ?_
    show Steps p.tables e below (T18.setTop (mkF m 142 #[.val (.int p1), .val (.int p2), .val (.int p3), .val (.int p4), .val (.int p5), .val (.int p6), .val (.int (own_v0 p1)), .val (.int (own_v1 p1 p2)), .val (.int (own_v2 p1 p2 p3)), .val (.int (own_v3 p1 p2 p3 p4)), .val (.int (p5 &&& (15 : Int32))), .val (.int (own_om p5)), .val (.int (own_fr p5)), .val (.int (own_of p5)), .val (.ref b7), .unset, .unset, .unset, .unset] [(.int p6), (.int (2 : Int32)), (.ref b16), (.ref b16)])) _
    refine st19 _ ?_
    show Steps p.tables e below (T19.setTop (mkF m 143 #[.val (.int p1), .val (.int p2), .val (.int p3), .val (.int p4), .val (.int p5), .val (.int p6), .val (.int (own_v0 p1)), .val (.int (own_v1 p1 p2)), .val (.int (own_v2 p1 p2 p3)), .val (.int (own_v3 p1 p2 p3 p4)), .val (.int (p5 &&& (15 : Int32))), .val (.int (own_om p5)), .val (.int (own_fr p5)), .val (.int (own_of p5)), .val (.ref b7), .unset, .unset, .unset, .unset] [(.ref b16)])) _
    refine XS.dup X19.here hx rfl (hb hby at_143) rfl rfl ?_
    show Steps p.tables e below (T19.setTop (mkF m 144 #[.val (.int p1), .val (.int p2), .val (.int p3), .val (.int p4), .val (.int p5), .val (.int p6), .val (.int (own_v0 p1)), .val (.int (own_v1 p1 p2)), .val (.int (own_v2 p1 p2 p3)), .val (.int (own_v3 p1 p2 p3 p4)), .val (.int (p5 &&& (15 : Int32))), .val (.int (own_om p5)), .val (.int (own_fr p5)), .val (.int (own_of p5)), .val (.ref b7), .unset, .unset, .unset, .unset] [(.ref b16), (.ref b16)])) _
    refine XS.iconst X19.here hx rfl (hb hby at_144) ?_
    show Steps p.tables e below (T19.setTop (mkF m 145 #[.val (.int p1), .val (.int p2), .val (.int p3), .val (.int p4), .val (.int p5), .val (.int p6), .val (.int (own_v0 p1)), .val (.int (own_v1 p1 p2)), .val (.int (own_v2 p1 p2 p3)), .val (.int (own_v3 p1 p2 p3 p4)), .val (.int (p5 &&& (15 : Int32))), .val (.int (own_om p5)), .val (.int (own_fr p5)), .val (.int (own_of p5)), .val (.ref b7), .unset, .unset, .unset, .unset] [(.int (3 : Int32)), (.ref b16), (.ref b16)])) _
    refine XS.iload X19.here hx rfl (hb hby at_145) rfl ?_
    show Steps p.tables e below (T19.setTop (mkF m 147 #[.val (.int p1), .val (.int p2), .val (.int p3), .val (.int p4), .val (.int p5), .val (.int p6), .val (.int (own_v0 p1)), .val (.int (own_v1 p1 p2)), .val (.int (own_v2 p1 p2 p3)), .val (.int (own_v3 p1 p2 p3 p4)), .val (.int (p5 &&& (15 : Int32))), .val (.int (own_om p5)), .val (.int (own_fr p5)), .val (.int (own_of p5)), .val (.ref b7), .unset, .unset, .unset, .unset] [(.int p6), (.int (3 : Int32)), (.ref b16), (.ref b16)])) _
    refine st20 _ ?_
    show Steps p.tables e below (T20.setTop (mkF m 148 #[.val (.int p1), .val (.int p2), .val (.int p3), .val (.int p4), .val (.int p5), .val (.int p6), .val (.int (own_v0 p1)), .val (.int (own_v1 p1 p2)), .val (.int (own_v2 p1 p2 p3)), .val (.int (own_v3 p1 p2 p3 p4)), .val (.int (p5 &&& (15 : Int32))), .val (.int (own_om p5)), .val (.int (own_fr p5)), .val (.int (own_of p5)), .val (.ref b7), .unset, .unset, .unset, .unset] [(.ref b16)])) _
    refine XS.dup X20.here hx rfl (hb hby at_148) rfl rfl ?_
    show Steps p.tables e below (T20.setTop (mkF m 149 #[.val (.int p1), .val (.int p2), .val (.int p3), .val (.int p4), .val (.int p5), .val (.int p6), .val (.int (own_v0 p1)), .val (.int (own_v1 p1 p2)), .val (.int (own_v2 p1 p2 p3)), .val (.int (own_v3 p1 p2 p3 p4)), .val (.int (p5 &&& (15 : Int32))), .val (.int (own_om p5)), .val (.int (own_fr p5)), .val (.int (own_of p5)), .val (.ref b7), .unset, .unset, .unset, .unset] [(.ref b16), (.ref b16)])) _
    refine XS.iconst X20.here hx rfl (hb hby at_149) ?_
    show Steps p.tables e below (T20.setTop (mkF m 150 #[.val (.int p1), .val (.int p2), .val (.int p3), .val (.int p4), .val (.int p5), .val (.int p6), .val (.int (own_v0 p1)), .val (.int (own_v1 p1 p2)), .val (.int (own_v2 p1 p2 p3)), .val (.int (own_v3 p1 p2 p3 p4)), .val (.int (p5 &&& (15 : Int32))), .val (.int (own_om p5)), .val (.int (own_fr p5)), .val (.int (own_of p5)), .val (.ref b7), .unset, .unset, .unset, .unset] [(.int (4 : Int32)), (.ref b16), (.ref b16)])) _
    refine XS.iload X20.here hx rfl (hb hby at_150) rfl ?_
    show Steps p.tables e below (T20.setTop (mkF m 152 #[.val (.int p1), .val (.int p2), .val (.int p3), .val (.int p4), .val (.int p5), .val (.int p6), .val (.int (own_v0 p1)), .val (.int (own_v1 p1 p2)), .val (.int (own_v2 p1 p2 p3)), .val (.int (own_v3 p1 p2 p3 p4)), .val (.int (p5 &&& (15 : Int32))), .val (.int (own_om p5)), .val (.int (own_fr p5)), .val (.int (own_of p5)), .val (.ref b7), .unset, .unset, .unset, .unset] [(.int p6), (.int (4 : Int32)), (.ref b16), (.ref b16)])) _
    refine st21 _ ?_
    show Steps p.tables e below (T21.setTop (mkF m 153 #[.val (.int p1), .val (.int p2), .val (.int p3), .val (.int p4), .val (.int p5), .val (.int p6), .val (.int (own_v0 p1)), .val (.int (own_v1 p1 p2)), .val (.int (own_v2 p1 p2 p3)), .val (.int (own_v3 p1 p2 p3 p4)), .val (.int (p5 &&& (15 : Int32))), .val (.int (own_om p5)), .val (.int (own_fr p5)), .val (.int (own_of p5)), .val (.ref b7), .unset, .unset, .unset, .unset] [(.ref b16)])) _
    refine XS.dup X21.here hx rfl (hb hby at_153) rfl rfl ?_
    show Steps p.tables e below (T21.setTop (mkF m 154 #[.val (.int p1), .val (.int p2), .val (.int p3), .val (.int p4), .val (.int p5), .val (.int p6), .val (.int (own_v0 p1)), .val (.int (own_v1 p1 p2)), .val (.int (own_v2 p1 p2 p3)), .val (.int (own_v3 p1 p2 p3 p4)), .val (.int (p5 &&& (15 : Int32))), .val (.int (own_om p5)), .val (.int (own_fr p5)), .val (.int (own_of p5)), .val (.ref b7), .unset, .unset, .unset, .unset] [(.ref b16), (.ref b16)])) _
    refine XS.iconst X21.here hx rfl (hb hby at_154) ?_
    show Steps p.tables e below (T21.setTop (mkF m 155 #[.val (.int p1), .val (.int p2), .val (.int p3), .val (.int p4), .val (.int p5), .val (.int p6), .val (.int (own_v0 p1)), .val (.int (own_v1 p1 p2)), .val (.int (own_v2 p1 p2 p3)), .val (.int (own_v3 p1 p2 p3 p4)), .val (.int (p5 &&& (15 : Int32))), .val (.int (own_om p5)), .val (.int (own_fr p5)), .val (.int (own_of p5)), .val (.ref b7), .unset, .unset, .unset, .unset] [(.int (5 : Int32)), (.ref b16), (.ref b16)])) _
    refine XS.iload X21.here hx rfl (hb hby at_155) rfl ?_
    show Steps p.tables e below (T21.setTop (mkF m 157 #[.val (.int p1), .val (.int p2), .val (.int p3), .val (.int p4), .val (.int p5), .val (.int p6), .val (.int (own_v0 p1)), .val (.int (own_v1 p1 p2)), .val (.int (own_v2 p1 p2 p3)), .val (.int (own_v3 p1 p2 p3 p4)), .val (.int (p5 &&& (15 : Int32))), .val (.int (own_om p5)), .val (.int (own_fr p5)), .val (.int (own_of p5)), .val (.ref b7), .unset, .unset, .unset, .unset] [(.int p6), (.int (5 : Int32)), (.ref b16), (.ref b16)])) _
    refine st22 _ ?_
    show Steps p.tables e below (T22.setTop (mkF m 158 #[.val (.int p1), .val (.int p2), .val (.int p3), .val (.int p4), .val (.int p5), .val (.int p6), .val (.int (own_v0 p1)), .val (.int (own_v1 p1 p2)), .val (.int (own_v2 p1 p2 p3)), .val (.int (own_v3 p1 p2 p3 p4)), .val (.int (p5 &&& (15 : Int32))), .val (.int (own_om p5)), .val (.int (own_fr p5)), .val (.int (own_of p5)), .val (.ref b7), .unset, .unset, .unset, .unset] [(.ref b16)])) _
    refine XS.dup X22.here hx rfl (hb hby at_158) rfl rfl ?_
    show Steps p.tables e below (T22.setTop (mkF m 159 #[.val (.int p1), .val (.int p2), .val (.int p3), .val (.int p4), .val (.int p5), .val (.int p6), .val (.int (own_v0 p1)), .val (.int (own_v1 p1 p2)), .val (.int (own_v2 p1 p2 p3)), .val (.int (own_v3 p1 p2 p3 p4)), .val (.int (p5 &&& (15 : Int32))), .val (.int (own_om p5)), .val (.int (own_fr p5)), .val (.int (own_of p5)), .val (.ref b7), .unset, .unset, .unset, .unset] [(.ref b16), (.ref b16)])) _
    refine XS.bipush X22.here hx rfl (hb hby at_159) ?_
    show Steps p.tables e below (T22.setTop (mkF m 161 #[.val (.int p1), .val (.int p2), .val (.int p3), .val (.int p4), .val (.int p5), .val (.int p6), .val (.int (own_v0 p1)), .val (.int (own_v1 p1 p2)), .val (.int (own_v2 p1 p2 p3)), .val (.int (own_v3 p1 p2 p3 p4)), .val (.int (p5 &&& (15 : Int32))), .val (.int (own_om p5)), .val (.int (own_fr p5)), .val (.int (own_of p5)), .val (.ref b7), .unset, .unset, .unset, .unset] [(.int (6 : Int32)), (.ref b16), (.ref b16)])) _
    refine XS.iload X22.here hx rfl (hb hby at_161) rfl ?_
    show Steps p.tables e below (T22.setTop (mkF m 163 #[.val (.int p1), .val (.int p2), .val (.int p3), .val (.int p4), .val (.int p5), .val (.int p6), .val (.int (own_v0 p1)), .val (.int (own_v1 p1 p2)), .val (.int (own_v2 p1 p2 p3)), .val (.int (own_v3 p1 p2 p3 p4)), .val (.int (p5 &&& (15 : Int32))), .val (.int (own_om p5)), .val (.int (own_fr p5)), .val (.int (own_of p5)), .val (.ref b7), .unset, .unset, .unset, .unset] [(.int p6), (.int (6 : Int32)), (.ref b16), (.ref b16)])) _
    refine st23 _ ?_
    show Steps p.tables e below (T23.setTop (mkF m 164 #[.val (.int p1), .val (.int p2), .val (.int p3), .val (.int p4), .val (.int p5), .val (.int p6), .val (.int (own_v0 p1)), .val (.int (own_v1 p1 p2)), .val (.int (own_v2 p1 p2 p3)), .val (.int (own_v3 p1 p2 p3 p4)), .val (.int (p5 &&& (15 : Int32))), .val (.int (own_om p5)), .val (.int (own_fr p5)), .val (.int (own_of p5)), .val (.ref b7), .unset, .unset, .unset, .unset] [(.ref b16)])) _
    refine XS.dup X23.here hx rfl (hb hby at_164) rfl rfl ?_
    show Steps p.tables e below (T23.setTop (mkF m 165 #[.val (.int p1), .val (.int p2), .val (.int p3), .val (.int p4), .val (.int p5), .val (.int p6), .val (.int (own_v0 p1)), .val (.int (own_v1 p1 p2)), .val (.int (own_v2 p1 p2 p3)), .val (.int (own_v3 p1 p2 p3 p4)), .val (.int (p5 &&& (15 : Int32))), .val (.int (own_om p5)), .val (.int (own_fr p5)), .val (.int (own_of p5)), .val (.ref b7), .unset, .unset, .unset, .unset] [(.ref b16), (.ref b16)])) _
    refine XS.bipush X23.here hx rfl (hb hby at_165) ?_
    show Steps p.tables e below (T23.setTop (mkF m 167 #[.val (.int p1), .val (.int p2), .val (.int p3), .val (.int p4), .val (.int p5), .val (.int p6), .val (.int (own_v0 p1)), .val (.int (own_v1 p1 p2)), .val (.int (own_v2 p1 p2 p3)), .val (.int (own_v3 p1 p2 p3 p4)), .val (.int (p5 &&& (15 : Int32))), .val (.int (own_om p5)), .val (.int (own_fr p5)), .val (.int (own_of p5)), .val (.ref b7), .unset, .unset, .unset, .unset] [(.int (7 : Int32)), (.ref b16), (.ref b16)])) _
    refine XS.iload X23.here hx rfl (hb hby at_167) rfl ?_
    show Steps p.tables e below (T23.setTop (mkF m 169 #[.val (.int p1), .val (.int p2), .val (.int p3), .val (.int p4), .val (.int p5), .val (.int p6), .val (.int (own_v0 p1)), .val (.int (own_v1 p1 p2)), .val (.int (own_v2 p1 p2 p3)), .val (.int (own_v3 p1 p2 p3 p4)), .val (.int (p5 &&& (15 : Int32))), .val (.int (own_om p5)), .val (.int (own_fr p5)), .val (.int (own_of p5)), .val (.ref b7), .unset, .unset, .unset, .unset] [(.int p6), (.int (7 : Int32)), (.ref b16), (.ref b16)])) _
    refine st24 _ ?_
    show Steps p.tables e below (T24.setTop (mkF m 170 #[.val (.int p1), .val (.int p2), .val (.int p3), .val (.int p4), .val (.int p5), .val (.int p6), .val (.int (own_v0 p1)), .val (.int (own_v1 p1 p2)), .val (.int (own_v2 p1 p2 p3)), .val (.int (own_v3 p1 p2 p3 p4)), .val (.int (p5 &&& (15 : Int32))), .val (.int (own_om p5)), .val (.int (own_fr p5)), .val (.int (own_of p5)), .val (.ref b7), .unset, .unset, .unset, .unset] [(.ref b16)])) _
    refine XS.astore X24.here hx rfl (hb hby at_170) rfl rfl (l' := #[.val (.int p1), .val (.int p2), .val (.int p3), .val (.int p4), .val (.int p5), .val (.int p6), .val (.int (own_v0 p1)), .val (.int (own_v1 p1 p2)), .val (.int (own_v2 p1 p2 p3)), .val (.int (own_v3 p1 p2 p3 p4)), .val (.int (p5 &&& (15 : Int32))), .val (.int (own_om p5)), .val (.int (own_fr p5)), .val (.int (own_of p5)), .val (.ref b7), .val (.ref b16), .unset, .unset, .unset]) rfl ?_
    show Steps p.tables e below (T24.setTop (mkF m 172 #[.val (.int p1), .val (.int p2), .val (.int p3), .val (.int p4), .val (.int p5), .val (.int p6), .val (.int (own_v0 p1)), .val (.int (own_v1 p1 p2)), .val (.int (own_v2 p1 p2 p3)), .val (.int (own_v3 p1 p2 p3 p4)), .val (.int (p5 &&& (15 : Int32))), .val (.int (own_om p5)), .val (.int (own_fr p5)), .val (.int (own_of p5)), .val (.ref b7), .val (.ref b16), .unset, .unset, .unset] [])) _
    refine XS.aload X24.here hx rfl (hb hby at_172) rfl rfl ?_
    show Steps p.tables e below (T24.setTop (mkF m 174 #[.val (.int p1), .val (.int p2), .val (.int p3), .val (.int p4), .val (.int p5), .val (.int p6), .val (.int (own_v0 p1)), .val (.int (own_v1 p1 p2)), .val (.int (own_v2 p1 p2 p3)), .val (.int (own_v3 p1 p2 p3 p4)), .val (.int (p5 &&& (15 : Int32))), .val (.int (own_om p5)), .val (.int (own_fr p5)), .val (.int (own_of p5)), .val (.ref b7), .val (.ref b16), .unset, .unset, .unset] [(.ref b7)])) _
    refine XS.iload X24.here hx rfl (hb hby at_174) rfl ?_
    show Steps p.tables e below (T24.setTop (mkF m 176 #[.val (.int p1), .val (.int p2), .val (.int p3), .val (.int p4), .val (.int p5), .val (.int p6), .val (.int (own_v0 p1)), .val (.int (own_v1 p1 p2)), .val (.int (own_v2 p1 p2 p3)), .val (.int (own_v3 p1 p2 p3 p4)), .val (.int (p5 &&& (15 : Int32))), .val (.int (own_om p5)), .val (.int (own_fr p5)), .val (.int (own_of p5)), .val (.ref b7), .val (.ref b16), .unset, .unset, .unset] [(.int (own_fr p5)), (.ref b7)])) _
    refine XS.iload X24.here hx rfl (hb hby at_176) rfl ?_
    show Steps p.tables e below (T24.setTop (mkF m 178 #[.val (.int p1), .val (.int p2), .val (.int p3), .val (.int p4), .val (.int p5), .val (.int p6), .val (.int (own_v0 p1)), .val (.int (own_v1 p1 p2)), .val (.int (own_v2 p1 p2 p3)), .val (.int (own_v3 p1 p2 p3 p4)), .val (.int (p5 &&& (15 : Int32))), .val (.int (own_om p5)), .val (.int (own_fr p5)), .val (.int (own_of p5)), .val (.ref b7), .val (.ref b16), .unset, .unset, .unset] [(.int (p5 &&& (15 : Int32))), (.int (own_fr p5)), (.ref b7)])) _
    refine XS.iload X24.here hx rfl (hb hby at_178) rfl ?_
    show Steps p.tables e below (T24.setTop (mkF m 180 #[.val (.int p1), .val (.int p2), .val (.int p3), .val (.int p4), .val (.int p5), .val (.int p6), .val (.int (own_v0 p1)), .val (.int (own_v1 p1 p2)), .val (.int (own_v2 p1 p2 p3)), .val (.int (own_v3 p1 p2 p3 p4)), .val (.int (p5 &&& (15 : Int32))), .val (.int (own_om p5)), .val (.int (own_fr p5)), .val (.int (own_of p5)), .val (.ref b7), .val (.ref b16), .unset, .unset, .unset] [(.int (own_v0 p1)), (.int (p5 &&& (15 : Int32))), (.int (own_fr p5)), (.ref b7)])) _
    refine XS.iload X24.here hx rfl (hb hby at_180) rfl ?_
    show Steps p.tables e below (T24.setTop (mkF m 182 #[.val (.int p1), .val (.int p2), .val (.int p3), .val (.int p4), .val (.int p5), .val (.int p6), .val (.int (own_v0 p1)), .val (.int (own_v1 p1 p2)), .val (.int (own_v2 p1 p2 p3)), .val (.int (own_v3 p1 p2 p3 p4)), .val (.int (p5 &&& (15 : Int32))), .val (.int (own_om p5)), .val (.int (own_fr p5)), .val (.int (own_of p5)), .val (.ref b7), .val (.ref b16), .unset, .unset, .unset] [(.int (own_v1 p1 p2)), (.int (own_v0 p1)), (.int (p5 &&& (15 : Int32))), (.int (own_fr p5)), (.ref b7)])) _
    refine XS.iload X24.here hx rfl (hb hby at_182) rfl ?_
    show Steps p.tables e below (T24.setTop (mkF m 184 #[.val (.int p1), .val (.int p2), .val (.int p3), .val (.int p4), .val (.int p5), .val (.int p6), .val (.int (own_v0 p1)), .val (.int (own_v1 p1 p2)), .val (.int (own_v2 p1 p2 p3)), .val (.int (own_v3 p1 p2 p3 p4)), .val (.int (p5 &&& (15 : Int32))), .val (.int (own_om p5)), .val (.int (own_fr p5)), .val (.int (own_of p5)), .val (.ref b7), .val (.ref b16), .unset, .unset, .unset] [(.int (own_v2 p1 p2 p3)), (.int (own_v1 p1 p2)), (.int (own_v0 p1)), (.int (p5 &&& (15 : Int32))), (.int (own_fr p5)), (.ref b7)])) _
    refine XS.iload X24.here hx rfl (hb hby at_184) rfl ?_
    show Steps p.tables e below (T24.setTop (mkF m 186 #[.val (.int p1), .val (.int p2), .val (.int p3), .val (.int p4), .val (.int p5), .val (.int p6), .val (.int (own_v0 p1)), .val (.int (own_v1 p1 p2)), .val (.int (own_v2 p1 p2 p3)), .val (.int (own_v3 p1 p2 p3 p4)), .val (.int (p5 &&& (15 : Int32))), .val (.int (own_om p5)), .val (.int (own_fr p5)), .val (.int (own_of p5)), .val (.ref b7), .val (.ref b16), .unset, .unset, .unset] [(.int (own_v3 p1 p2 p3 p4)), (.int (own_v2 p1 p2 p3)), (.int (own_v1 p1 p2)), (.int (own_v0 p1)), (.int (p5 &&& (15 : Int32))), (.int (own_fr p5)), (.ref b7)])) _
    refine st25 _ ?_
    show Steps p.tables e below (T25.setTop (mkF m 189 #[.val (.int p1), .val (.int p2), .val (.int p3), .val (.int p4), .val (.int p5), .val (.int p6), .val (.int (own_v0 p1)), .val (.int (own_v1 p1 p2)), .val (.int (own_v2 p1 p2 p3)), .val (.int (own_v3 p1 p2 p3 p4)), .val (.int (p5 &&& (15 : Int32))), .val (.int (own_om p5)), .val (.int (own_fr p5)), .val (.int (own_of p5)), .val (.ref b7), .val (.ref b16), .unset, .unset, .unset] [(.int (Int32.ofNat (own_xs p1 p2 p3 p4 p5).length))])) _
    refine XS.istore X25.here hx rfl (hb hby at_189) rfl (l' := #[.val (.int p1), .val (.int p2), .val (.int p3), .val (.int p4), .val (.int p5), .val (.int p6), .val (.int (own_v0 p1)), .val (.int (own_v1 p1 p2)), .val (.int (own_v2 p1 p2 p3)), .val (.int (own_v3 p1 p2 p3 p4)), .val (.int (p5 &&& (15 : Int32))), .val (.int (own_om p5)), .val (.int (own_fr p5)), .val (.int (own_of p5)), .val (.ref b7), .val (.ref b16), .val (.int (Int32.ofNat (own_xs p1 p2 p3 p4 p5).length)), .unset, .unset]) rfl ?_
    show Steps p.tables e below (T25.setTop (mkF m 191 #[.val (.int p1), .val (.int p2), .val (.int p3), .val (.int p4), .val (.int p5), .val (.int p6), .val (.int (own_v0 p1)), .val (.int (own_v1 p1 p2)), .val (.int (own_v2 p1 p2 p3)), .val (.int (own_v3 p1 p2 p3 p4)), .val (.int (p5 &&& (15 : Int32))), .val (.int (own_om p5)), .val (.int (own_fr p5)), .val (.int (own_of p5)), .val (.ref b7), .val (.ref b16), .val (.int (Int32.ofNat (own_xs p1 p2 p3 p4 p5).length)), .unset, .unset] [])) _
    refine XS.aload X25.here hx rfl (hb hby at_191) rfl rfl ?_
    show Steps p.tables e below (T25.setTop (mkF m 193 #[.val (.int p1), .val (.int p2), .val (.int p3), .val (.int p4), .val (.int p5), .val (.int p6), .val (.int (own_v0 p1)), .val (.int (own_v1 p1 p2)), .val (.int (own_v2 p1 p2 p3)), .val (.int (own_v3 p1 p2 p3 p4)), .val (.int (p5 &&& (15 : Int32))), .val (.int (own_om p5)), .val (.int (own_fr p5)), .val (.int (own_of p5)), .val (.ref b7), .val (.ref b16), .val (.int (Int32.ofNat (own_xs p1 p2 p3 p4 p5).length)), .unset, .unset] [(.ref b16)])) _
    refine XS.iload X25.here hx rfl (hb hby at_193) rfl ?_
    show Steps p.tables e below (T25.setTop (mkF m 195 #[.val (.int p1), .val (.int p2), .val (.int p3), .val (.int p4), .val (.int p5), .val (.int p6), .val (.int (own_v0 p1)), .val (.int (own_v1 p1 p2)), .val (.int (own_v2 p1 p2 p3)), .val (.int (own_v3 p1 p2 p3 p4)), .val (.int (p5 &&& (15 : Int32))), .val (.int (own_om p5)), .val (.int (own_fr p5)), .val (.int (own_of p5)), .val (.ref b7), .val (.ref b16), .val (.int (Int32.ofNat (own_xs p1 p2 p3 p4 p5).length)), .unset, .unset] [(.int (own_of p5)), (.ref b16)])) _
    refine XS.iload X25.here hx rfl (hb hby at_195) rfl ?_
    show Steps p.tables e below (T25.setTop (mkF m 197 #[.val (.int p1), .val (.int p2), .val (.int p3), .val (.int p4), .val (.int p5), .val (.int p6), .val (.int (own_v0 p1)), .val (.int (own_v1 p1 p2)), .val (.int (own_v2 p1 p2 p3)), .val (.int (own_v3 p1 p2 p3 p4)), .val (.int (p5 &&& (15 : Int32))), .val (.int (own_om p5)), .val (.int (own_fr p5)), .val (.int (own_of p5)), .val (.ref b7), .val (.ref b16), .val (.int (Int32.ofNat (own_xs p1 p2 p3 p4 p5).length)), .unset, .unset] [(.int (own_om p5)), (.int (own_of p5)), (.ref b16)])) _
    refine XS.iload X25.here hx rfl (hb hby at_197) rfl ?_
    show Steps p.tables e below (T25.setTop (mkF m 199 #[.val (.int p1), .val (.int p2), .val (.int p3), .val (.int p4), .val (.int p5), .val (.int p6), .val (.int (own_v0 p1)), .val (.int (own_v1 p1 p2)), .val (.int (own_v2 p1 p2 p3)), .val (.int (own_v3 p1 p2 p3 p4)), .val (.int (p5 &&& (15 : Int32))), .val (.int (own_om p5)), .val (.int (own_fr p5)), .val (.int (own_of p5)), .val (.ref b7), .val (.ref b16), .val (.int (Int32.ofNat (own_xs p1 p2 p3 p4 p5).length)), .unset, .unset] [(.int (own_v0 p1)), (.int (own_om p5)), (.int (own_of p5)), (.ref b16)])) _
    refine XS.iload X25.here hx rfl (hb hby at_199) rfl ?_
    show Steps p.tables e below (T25.setTop (mkF m 201 #[.val (.int p1), .val (.int p2), .val (.int p3), .val (.int p4), .val (.int p5), .val (.int p6), .val (.int (own_v0 p1)), .val (.int (own_v1 p1 p2)), .val (.int (own_v2 p1 p2 p3)), .val (.int (own_v3 p1 p2 p3 p4)), .val (.int (p5 &&& (15 : Int32))), .val (.int (own_om p5)), .val (.int (own_fr p5)), .val (.int (own_of p5)), .val (.ref b7), .val (.ref b16), .val (.int (Int32.ofNat (own_xs p1 p2 p3 p4 p5).length)), .unset, .unset] [(.int (own_v1 p1 p2)), (.int (own_v0 p1)), (.int (own_om p5)), (.int (own_of p5)), (.ref b16)])) _
    refine XS.iload X25.here hx rfl (hb hby at_201) rfl ?_
    show Steps p.tables e below (T25.setTop (mkF m 203 #[.val (.int p1), .val (.int p2), .val (.int p3), .val (.int p4), .val (.int p5), .val (.int p6), .val (.int (own_v0 p1)), .val (.int (own_v1 p1 p2)), .val (.int (own_v2 p1 p2 p3)), .val (.int (own_v3 p1 p2 p3 p4)), .val (.int (p5 &&& (15 : Int32))), .val (.int (own_om p5)), .val (.int (own_fr p5)), .val (.int (own_of p5)), .val (.ref b7), .val (.ref b16), .val (.int (Int32.ofNat (own_xs p1 p2 p3 p4 p5).length)), .unset, .unset] [(.int (own_v2 p1 p2 p3)), (.int (own_v1 p1 p2)), (.int (own_v0 p1)), (.int (own_om p5)), (.int (own_of p5)), (.ref b16)])) _
    refine XS.iload X25.here hx rfl (hb hby at_203) rfl ?_
    show Steps p.tables e below (T25.setTop (mkF m 205 #[.val (.int p1), .val (.int p2), .val (.int p3), .val (.int p4), .val (.int p5), .val (.int p6), .val (.int (own_v0 p1)), .val (.int (own_v1 p1 p2)), .val (.int (own_v2 p1 p2 p3)), .val (.int (own_v3 p1 p2 p3 p4)), .val (.int (p5 &&& (15 : Int32))), .val (.int (own_om p5)), .val (.int (own_fr p5)), .val (.int (own_of p5)), .val (.ref b7), .val (.ref b16), .val (.int (Int32.ofNat (own_xs p1 p2 p3 p4 p5).length)), .unset, .unset] [(.int (own_v3 p1 p2 p3 p4)), (.int (own_v2 p1 p2 p3)), (.int (own_v1 p1 p2)), (.int (own_v0 p1)), (.int (own_om p5)), (.int (own_of p5)), (.ref b16)])) _
    refine st26 _ ?_
    show Steps p.tables e below (T26.setTop (mkF m 208 #[.val (.int p1), .val (.int p2), .val (.int p3), .val (.int p4), .val (.int p5), .val (.int p6), .val (.int (own_v0 p1)), .val (.int (own_v1 p1 p2)), .val (.int (own_v2 p1 p2 p3)), .val (.int (own_v3 p1 p2 p3 p4)), .val (.int (p5 &&& (15 : Int32))), .val (.int (own_om p5)), .val (.int (own_fr p5)), .val (.int (own_of p5)), .val (.ref b7), .val (.ref b16), .val (.int (Int32.ofNat (own_xs p1 p2 p3 p4 p5).length)), .unset, .unset] [(.int (Int32.ofNat (own_ys p1 p2 p3 p4 p5).length))])) _
    refine XS.istore X26.here hx rfl (hb hby at_208) rfl (l' := #[.val (.int p1), .val (.int p2), .val (.int p3), .val (.int p4), .val (.int p5), .val (.int p6), .val (.int (own_v0 p1)), .val (.int (own_v1 p1 p2)), .val (.int (own_v2 p1 p2 p3)), .val (.int (own_v3 p1 p2 p3 p4)), .val (.int (p5 &&& (15 : Int32))), .val (.int (own_om p5)), .val (.int (own_fr p5)), .val (.int (own_of p5)), .val (.ref b7), .val (.ref b16), .val (.int (Int32.ofNat (own_xs p1 p2 p3 p4 p5).length)), .val (.int (Int32.ofNat (own_ys p1 p2 p3 p4 p5).length)), .unset]) rfl ?_
    show Steps p.tables e below (T26.setTop (mkF m 210 #[.val (.int p1), .val (.int p2), .val (.int p3), .val (.int p4), .val (.int p5), .val (.int p6), .val (.int (own_v0 p1)), .val (.int (own_v1 p1 p2)), .val (.int (own_v2 p1 p2 p3)), .val (.int (own_v3 p1 p2 p3 p4)), .val (.int (p5 &&& (15 : Int32))), .val (.int (own_om p5)), .val (.int (own_fr p5)), .val (.int (own_of p5)), .val (.ref b7), .val (.ref b16), .val (.int (Int32.ofNat (own_xs p1 p2 p3 p4 p5).length)), .val (.int (Int32.ofNat (own_ys p1 p2 p3 p4 p5).length)), .unset] [])) _
    refine XS.iload X26.here hx rfl (hb hby at_210) rfl ?_
    show Steps p.tables e below (T26.setTop (mkF m 212 #[.val (.int p1), .val (.int p2), .val (.int p3), .val (.int p4), .val (.int p5), .val (.int p6), .val (.int (own_v0 p1)), .val (.int (own_v1 p1 p2)), .val (.int (own_v2 p1 p2 p3)), .val (.int (own_v3 p1 p2 p3 p4)), .val (.int (p5 &&& (15 : Int32))), .val (.int (own_om p5)), .val (.int (own_fr p5)), .val (.int (own_of p5)), .val (.ref b7), .val (.ref b16), .val (.int (Int32.ofNat (own_xs p1 p2 p3 p4 p5).length)), .val (.int (Int32.ofNat (own_ys p1 p2 p3 p4 p5).length)), .unset] [(.int (p5 &&& (15 : Int32)))])) _
    refine XS.iload X26.here hx rfl (hb hby at_212) rfl ?_
    show Steps p.tables e below (T26.setTop (mkF m 214 #[.val (.int p1), .val (.int p2), .val (.int p3), .val (.int p4), .val (.int p5), .val (.int p6), .val (.int (own_v0 p1)), .val (.int (own_v1 p1 p2)), .val (.int (own_v2 p1 p2 p3)), .val (.int (own_v3 p1 p2 p3 p4)), .val (.int (p5 &&& (15 : Int32))), .val (.int (own_om p5)), .val (.int (own_fr p5)), .val (.int (own_of p5)), .val (.ref b7), .val (.ref b16), .val (.int (Int32.ofNat (own_xs p1 p2 p3 p4 p5).length)), .val (.int (Int32.ofNat (own_ys p1 p2 p3 p4 p5).length)), .unset] [(.int (own_om p5)), (.int (p5 &&& (15 : Int32)))])) _
    refine XS.iconst X26.here hx rfl (hb hby at_214) ?_
    show Steps p.tables e below (T26.setTop (mkF m 215 #[.val (.int p1), .val (.int p2), .val (.int p3), .val (.int p4), .val (.int p5), .val (.int p6), .val (.int (own_v0 p1)), .val (.int (own_v1 p1 p2)), .val (.int (own_v2 p1 p2 p3)), .val (.int (own_v3 p1 p2 p3 p4)), .val (.int (p5 &&& (15 : Int32))), .val (.int (own_om p5)), .val (.int (own_fr p5)), .val (.int (own_of p5)), .val (.ref b7), .val (.ref b16), .val (.int (Int32.ofNat (own_xs p1 p2 p3 p4 p5).length)), .val (.int (Int32.ofNat (own_ys p1 p2 p3 p4 p5).length)), .unset] [(.int (-1 : Int32)), (.int (own_om p5)), (.int (p5 &&& (15 : Int32)))])) _
    refine XS.ixor X26.here hx rfl (hb hby at_215) rfl ?_
    show Steps p.tables e below (T26.setTop (mkF m 216 #[.val (.int p1), .val (.int p2), .val (.int p3), .val (.int p4), .val (.int p5), .val (.int p6), .val (.int (own_v0 p1)), .val (.int (own_v1 p1 p2)), .val (.int (own_v2 p1 p2 p3)), .val (.int (own_v3 p1 p2 p3 p4)), .val (.int (p5 &&& (15 : Int32))), .val (.int (own_om p5)), .val (.int (own_fr p5)), .val (.int (own_of p5)), .val (.ref b7), .val (.ref b16), .val (.int (Int32.ofNat (own_xs p1 p2 p3 p4 p5).length)), .val (.int (Int32.ofNat (own_ys p1 p2 p3 p4 p5).length)), .unset] [(.int ((own_om p5) ^^^ (-1 : Int32))), (.int (p5 &&& (15 : Int32)))])) _
    refine XS.iand X26.here hx rfl (hb hby at_216) rfl ?_
    show Steps p.tables e below (T26.setTop (mkF m 217 #[.val (.int p1), .val (.int p2), .val (.int p3), .val (.int p4), .val (.int p5), .val (.int p6), .val (.int (own_v0 p1)), .val (.int (own_v1 p1 p2)), .val (.int (own_v2 p1 p2 p3)), .val (.int (own_v3 p1 p2 p3 p4)), .val (.int (p5 &&& (15 : Int32))), .val (.int (own_om p5)), .val (.int (own_fr p5)), .val (.int (own_of p5)), .val (.ref b7), .val (.ref b16), .val (.int (Int32.ofNat (own_xs p1 p2 p3 p4 p5).length)), .val (.int (Int32.ofNat (own_ys p1 p2 p3 p4 p5).length)), .unset] [(.int ((p5 &&& (15 : Int32)) &&& ((own_om p5) ^^^ (-1 : Int32))))])) _
    refine XS.ifNo X26.here hx rfl (hb hby at_217) rfl ((if0 _ _).trans (teq hc217).2) ?_
    show Steps p.tables e below (T26.setTop (mkF m 220 #[.val (.int p1), .val (.int p2), .val (.int p3), .val (.int p4), .val (.int p5), .val (.int p6), .val (.int (own_v0 p1)), .val (.int (own_v1 p1 p2)), .val (.int (own_v2 p1 p2 p3)), .val (.int (own_v3 p1 p2 p3 p4)), .val (.int (p5 &&& (15 : Int32))), .val (.int (own_om p5)), .val (.int (own_fr p5)), .val (.int (own_of p5)), .val (.ref b7), .val (.ref b16), .val (.int (Int32.ofNat (own_xs p1 p2 p3 p4 p5).length)), .val (.int (Int32.ofNat (own_ys p1 p2 p3 p4 p5).length)), .unset] [])) _
    refine XS.iconst X26.here hx rfl (hb hby at_220) ?_
    show Steps p.tables e below (T26.setTop (mkF m 221 #[.val (.int p1), .val (.int p2), .val (.int p3), .val (.int p4), .val (.int p5), .val (.int p6), .val (.int (own_v0 p1)), .val (.int (own_v1 p1 p2)), .val (.int (own_v2 p1 p2 p3)), .val (.int (own_v3 p1 p2 p3 p4)), .val (.int (p5 &&& (15 : Int32))), .val (.int (own_om p5)), .val (.int (own_fr p5)), .val (.int (own_of p5)), .val (.ref b7), .val (.ref b16), .val (.int (Int32.ofNat (own_xs p1 p2 p3 p4 p5).length)), .val (.int (Int32.ofNat (own_ys p1 p2 p3 p4 p5).length)), .unset] [(.int (1 : Int32))])) _
    refine XS.goto X26.here hx rfl (pc0 := 221) (pc' := 225) rfl (hb hby at_221) (by decide) (by decide) ?_
    show Steps p.tables e below (T26.setTop (mkF m 225 #[.val (.int p1), .val (.int p2), .val (.int p3), .val (.int p4), .val (.int p5), .val (.int p6), .val (.int (own_v0 p1)), .val (.int (own_v1 p1 p2)), .val (.int (own_v2 p1 p2 p3)), .val (.int (own_v3 p1 p2 p3 p4)), .val (.int (p5 &&& (15 : Int32))), .val (.int (own_om p5)), .val (.int (own_fr p5)), .val (.int (own_of p5)), .val (.ref b7), .val (.ref b16), .val (.int (Int32.ofNat (own_xs p1 p2 p3 p4 p5).length)), .val (.int (Int32.ofNat (own_ys p1 p2 p3 p4 p5).length)), .unset] [(.int (1 : Int32))])) _
    refine XS.istore X26.here hx rfl (hb hby at_225) rfl (l' := #[.val (.int p1), .val (.int p2), .val (.int p3), .val (.int p4), .val (.int p5), .val (.int p6), .val (.int (own_v0 p1)), .val (.int (own_v1 p1 p2)), .val (.int (own_v2 p1 p2 p3)), .val (.int (own_v3 p1 p2 p3 p4)), .val (.int (p5 &&& (15 : Int32))), .val (.int (own_om p5)), .val (.int (own_fr p5)), .val (.int (own_of p5)), .val (.ref b7), .val (.ref b16), .val (.int (Int32.ofNat (own_xs p1 p2 p3 p4 p5).length)), .val (.int (Int32.ofNat (own_ys p1 p2 p3 p4 p5).length)), .val (.int (1 : Int32))]) rfl ?_
    show Steps p.tables e below (T26.setTop (mkF m 227 #[.val (.int p1), .val (.int p2), .val (.int p3), .val (.int p4), .val (.int p5), .val (.int p6), .val (.int (own_v0 p1)), .val (.int (own_v1 p1 p2)), .val (.int (own_v2 p1 p2 p3)), .val (.int (own_v3 p1 p2 p3 p4)), .val (.int (p5 &&& (15 : Int32))), .val (.int (own_om p5)), .val (.int (own_fr p5)), .val (.int (own_of p5)), .val (.ref b7), .val (.ref b16), .val (.int (Int32.ofNat (own_xs p1 p2 p3 p4 p5).length)), .val (.int (Int32.ofNat (own_ys p1 p2 p3 p4 p5).length)), .val (.int (1 : Int32))] [])) _
    refine XS.aload X26.here hx rfl (hb hby at_227) rfl rfl ?_
    show Steps p.tables e below (T26.setTop (mkF m 229 #[.val (.int p1), .val (.int p2), .val (.int p3), .val (.int p4), .val (.int p5), .val (.int p6), .val (.int (own_v0 p1)), .val (.int (own_v1 p1 p2)), .val (.int (own_v2 p1 p2 p3)), .val (.int (own_v3 p1 p2 p3 p4)), .val (.int (p5 &&& (15 : Int32))), .val (.int (own_om p5)), .val (.int (own_fr p5)), .val (.int (own_of p5)), .val (.ref b7), .val (.ref b16), .val (.int (Int32.ofNat (own_xs p1 p2 p3 p4 p5).length)), .val (.int (Int32.ofNat (own_ys p1 p2 p3 p4 p5).length)), .val (.int (1 : Int32))] [(.ref b7)])) _
    refine XS.iload X26.here hx rfl (hb hby at_229) rfl ?_
    show Steps p.tables e below (T26.setTop (mkF m 231 #[.val (.int p1), .val (.int p2), .val (.int p3), .val (.int p4), .val (.int p5), .val (.int p6), .val (.int (own_v0 p1)), .val (.int (own_v1 p1 p2)), .val (.int (own_v2 p1 p2 p3)), .val (.int (own_v3 p1 p2 p3 p4)), .val (.int (p5 &&& (15 : Int32))), .val (.int (own_om p5)), .val (.int (own_fr p5)), .val (.int (own_of p5)), .val (.ref b7), .val (.ref b16), .val (.int (Int32.ofNat (own_xs p1 p2 p3 p4 p5).length)), .val (.int (Int32.ofNat (own_ys p1 p2 p3 p4 p5).length)), .val (.int (1 : Int32))] [(.int (own_fr p5)), (.ref b7)])) _
    refine XS.iload X26.here hx rfl (hb hby at_231) rfl ?_
    show Steps p.tables e below (T26.setTop (mkF m 233 #[.val (.int p1), .val (.int p2), .val (.int p3), .val (.int p4), .val (.int p5), .val (.int p6), .val (.int (own_v0 p1)), .val (.int (own_v1 p1 p2)), .val (.int (own_v2 p1 p2 p3)), .val (.int (own_v3 p1 p2 p3 p4)), .val (.int (p5 &&& (15 : Int32))), .val (.int (own_om p5)), .val (.int (own_fr p5)), .val (.int (own_of p5)), .val (.ref b7), .val (.ref b16), .val (.int (Int32.ofNat (own_xs p1 p2 p3 p4 p5).length)), .val (.int (Int32.ofNat (own_ys p1 p2 p3 p4 p5).length)), .val (.int (1 : Int32))] [(.int (Int32.ofNat (own_xs p1 p2 p3 p4 p5).length)), (.int (own_fr p5)), (.ref b7)])) _
    refine XS.aload X26.here hx rfl (hb hby at_233) rfl rfl ?_
    show Steps p.tables e below (T26.setTop (mkF m 235 #[.val (.int p1), .val (.int p2), .val (.int p3), .val (.int p4), .val (.int p5), .val (.int p6), .val (.int (own_v0 p1)), .val (.int (own_v1 p1 p2)), .val (.int (own_v2 p1 p2 p3)), .val (.int (own_v3 p1 p2 p3 p4)), .val (.int (p5 &&& (15 : Int32))), .val (.int (own_om p5)), .val (.int (own_fr p5)), .val (.int (own_of p5)), .val (.ref b7), .val (.ref b16), .val (.int (Int32.ofNat (own_xs p1 p2 p3 p4 p5).length)), .val (.int (Int32.ofNat (own_ys p1 p2 p3 p4 p5).length)), .val (.int (1 : Int32))] [(.ref b16), (.int (Int32.ofNat (own_xs p1 p2 p3 p4 p5).length)), (.int (own_fr p5)), (.ref b7)])) _
    refine XS.iload X26.here hx rfl (hb hby at_235) rfl ?_
    show Steps p.tables e below (T26.setTop (mkF m 237 #[.val (.int p1), .val (.int p2), .val (.int p3), .val (.int p4), .val (.int p5), .val (.int p6), .val (.int (own_v0 p1)), .val (.int (own_v1 p1 p2)), .val (.int (own_v2 p1 p2 p3)), .val (.int (own_v3 p1 p2 p3 p4)), .val (.int (p5 &&& (15 : Int32))), .val (.int (own_om p5)), .val (.int (own_fr p5)), .val (.int (own_of p5)), .val (.ref b7), .val (.ref b16), .val (.int (Int32.ofNat (own_xs p1 p2 p3 p4 p5).length)), .val (.int (Int32.ofNat (own_ys p1 p2 p3 p4 p5).length)), .val (.int (1 : Int32))] [(.int (own_of p5)), (.ref b16), (.int (Int32.ofNat (own_xs p1 p2 p3 p4 p5).length)), (.int (own_fr p5)), (.ref b7)])) _
    refine XS.iload X26.here hx rfl (hb hby at_237) rfl ?_
    show Steps p.tables e below (T26.setTop (mkF m 239 #[.val (.int p1), .val (.int p2), .val (.int p3), .val (.int p4), .val (.int p5), .val (.int p6), .val (.int (own_v0 p1)), .val (.int (own_v1 p1 p2)), .val (.int (own_v2 p1 p2 p3)), .val (.int (own_v3 p1 p2 p3 p4)), .val (.int (p5 &&& (15 : Int32))), .val (.int (own_om p5)), .val (.int (own_fr p5)), .val (.int (own_of p5)), .val (.ref b7), .val (.ref b16), .val (.int (Int32.ofNat (own_xs p1 p2 p3 p4 p5).length)), .val (.int (Int32.ofNat (own_ys p1 p2 p3 p4 p5).length)), .val (.int (1 : Int32))] [(.int (Int32.ofNat (own_ys p1 p2 p3 p4 p5).length)), (.int (own_of p5)), (.ref b16), (.int (Int32.ofNat (own_xs p1 p2 p3 p4 p5).length)), (.int (own_fr p5)), (.ref b7)])) _
    refine st27 _ ?_
    show Steps p.tables e below (T27.setTop (mkF m 242 #[.val (.int p1), .val (.int p2), .val (.int p3), .val (.int p4), .val (.int p5), .val (.int p6), .val (.int (own_v0 p1)), .val (.int (own_v1 p1 p2)), .val (.int (own_v2 p1 p2 p3)), .val (.int (own_v3 p1 p2 p3 p4)), .val (.int (p5 &&& (15 : Int32))), .val (.int (own_om p5)), .val (.int (own_fr p5)), .val (.int (own_of p5)), .val (.ref b7), .val (.ref b16), .val (.int (Int32.ofNat (own_xs p1 p2 p3 p4 p5).length)), .val (.int (Int32.ofNat (own_ys p1 p2 p3 p4 p5).length)), .val (.int (1 : Int32))] [(.int (if own_sub (own_xs p1 p2 p3 p4 p5) (own_ys p1 p2 p3 p4 p5) = true then 1 else 0))])) _
    refine XS.iload X27.here hx rfl (hb hby at_242) rfl ?_
    show Steps p.tables e below (T27.setTop (mkF m 244 #[.val (.int p1), .val (.int p2), .val (.int p3), .val (.int p4), .val (.int p5), .val (.int p6), .val (.int (own_v0 p1)), .val (.int (own_v1 p1 p2)), .val (.int (own_v2 p1 p2 p3)), .val (.int (own_v3 p1 p2 p3 p4)), .val (.int (p5 &&& (15 : Int32))), .val (.int (own_om p5)), .val (.int (own_fr p5)), .val (.int (own_of p5)), .val (.ref b7), .val (.ref b16), .val (.int (Int32.ofNat (own_xs p1 p2 p3 p4 p5).length)), .val (.int (Int32.ofNat (own_ys p1 p2 p3 p4 p5).length)), .val (.int (1 : Int32))] [(.int (1 : Int32)), (.int (if own_sub (own_xs p1 p2 p3 p4 p5) (own_ys p1 p2 p3 p4 p5) = true then 1 else 0))])) _
    refine XS.icmpNo X27.here hx rfl (hb hby at_244) rfl (teq hres).2 ?_
    show Steps p.tables e below (T27.setTop (mkF m 247 #[.val (.int p1), .val (.int p2), .val (.int p3), .val (.int p4), .val (.int p5), .val (.int p6), .val (.int (own_v0 p1)), .val (.int (own_v1 p1 p2)), .val (.int (own_v2 p1 p2 p3)), .val (.int (own_v3 p1 p2 p3 p4)), .val (.int (p5 &&& (15 : Int32))), .val (.int (own_om p5)), .val (.int (own_fr p5)), .val (.int (own_of p5)), .val (.ref b7), .val (.ref b16), .val (.int (Int32.ofNat (own_xs p1 p2 p3 p4 p5).length)), .val (.int (Int32.ofNat (own_ys p1 p2 p3 p4 p5).length)), .val (.int (1 : Int32))] [])) _
    refine XS.iconst X27.here hx rfl (hb hby at_247) ?_
    show Steps p.tables e below (T27.setTop (mkF m 248 #[.val (.int p1), .val (.int p2), .val (.int p3), .val (.int p4), .val (.int p5), .val (.int p6), .val (.int (own_v0 p1)), .val (.int (own_v1 p1 p2)), .val (.int (own_v2 p1 p2 p3)), .val (.int (own_v3 p1 p2 p3 p4)), .val (.int (p5 &&& (15 : Int32))), .val (.int (own_om p5)), .val (.int (own_fr p5)), .val (.int (own_of p5)), .val (.ref b7), .val (.ref b16), .val (.int (Int32.ofNat (own_xs p1 p2 p3 p4 p5).length)), .val (.int (Int32.ofNat (own_ys p1 p2 p3 p4 p5).length)), .val (.int (1 : Int32))] [(.int (1 : Int32))])) _
    refine XS.goto X27.here hx rfl (pc0 := 248) (pc' := 252) rfl (hb hby at_248) (by decide) (by decide) ?_
    show Steps p.tables e below (T27.setTop (mkF m 252 #[.val (.int p1), .val (.int p2), .val (.int p3), .val (.int p4), .val (.int p5), .val (.int p6), .val (.int (own_v0 p1)), .val (.int (own_v1 p1 p2)), .val (.int (own_v2 p1 p2 p3)), .val (.int (own_v3 p1 p2 p3 p4)), .val (.int (p5 &&& (15 : Int32))), .val (.int (own_om p5)), .val (.int (own_fr p5)), .val (.int (own_of p5)), .val (.ref b7), .val (.ref b16), .val (.int (Int32.ofNat (own_xs p1 p2 p3 p4 p5).length)), .val (.int (Int32.ofNat (own_ys p1 p2 p3 p4 p5).length)), .val (.int (1 : Int32))] [(.int (1 : Int32))])) _
    exact retN X27 hx (t := .boolean) Bd.returns (by simp) (hb hby at_252) hr
  · show Q0 n0 _ T27.heap _
    exact ⟨rfl, N27⟩
set_option maxRecDepth 65536 in
set_option maxHeartbeats 40000000 in
theorem rm0_tf (l : Launch) (Z : State) (a0 : Array Value) (hw : ∀ d ∈ tables_1, d.before a0 Z = true) (ws : List Jvm.Cond) (p1 : Int32) (p2 : Int32) (p3 : Int32) (p4 : Int32) (p5 : Int32) (p6 : Int32) (h0 : Heap) (n0 : Nat) (Z0 : n0 ≤ h0.size) (hc217 : ¬ (((p5 &&& (15 : Int32)) &&& ((own_om p5) ^^^ (-1 : Int32))) = (0 : Int32))) :
    MetFree l x (head1 (Jvm.Cond.code x code maxLocals ret :: ws) room_1) (fun a U => a = #[(.int p1), (.int p2), (.int p3), (.int p4), (.int p5), (.int p6)] ∧ Z.Warmed39 U.vm ∧ U.heap = h0) (fun _ _ _ _ _ => True) (fun _ U o U' => ∃ v L, o = .returned v ∧ Q0 n0 v U'.heap L ∧ FrameEnd U o U' L room_1.cells room_1.slots) := by
  refine MetFree.of_bodySF (plainFor_of_name pn_0) hisR ?_
  intro p e s m args below meth c s₁ Bd hml0 hP hK
  obtain ⟨rfl, hZ, hh⟩ := hP
  have hx := Bd.exec
  have hby := Bd.bytes
  have hml : c.maxLocals = 19 := hml0
  have hown : s.vm.findClass "com/example/godwit/godwit/faults/SymbolsIsSubsetPinLaw" = some m.cls := findClass_of_methodNamed Bd.named
  have hnm := (name_of_methodNamed Bd.named Bd.method).1
  have X0 : Stand p l e room_1 s m #[(.int p1), (.int p2), (.int p3), (.int p4), (.int p5), (.int p6)] below meth c s₁ [] 0 0 := Stand.of_body Bd
  have e0 : s₁.heap = h0 := by rw [← hh, Bd.state]; rfl
  have N0 := Fr.nil n0
  have pre0 : ∀ t, Steps p.tables e below (s₁.setTop (mkF m 0 #[.val (.int p1), .val (.int p2), .val (.int p3), .val (.int p4), .val (.int p5), .val (.int p6), .unset, .unset, .unset, .unset, .unset, .unset, .unset, .unset, .unset, .unset, .unset, .unset, .unset] [])) t → Steps p.tables e below (s₁.setTop (entryFrame m #[(.int p1), (.int p2), (.int p3), (.int p4), (.int p5), (.int p6)] maxLocals)) t := fun t k => castTop (ef_0 m p1 p2 p3 p4 p5 p6) k
  obtain ⟨T7, h7, k7, X7, e7, E7, A7, st7⟩ := newP X0 hx hZ (hw _ (List.mem_of_getElem? (i := 3) rfl)) e0 (g := (mkF m 78 #[.val (.int p1), .val (.int p2), .val (.int p3), .val (.int p4), .val (.int p5), .val (.int p6), .val (.int (own_v0 p1)), .val (.int (own_v1 p1 p2)), .val (.int (own_v2 p1 p2 p3)), .val (.int (own_v3 p1 p2 p3 p4)), .val (.int (p5 &&& (15 : Int32))), .val (.int (own_om p5)), .val (.int (own_fr p5)), .val (.int (own_of p5)), .unset, .unset, .unset, .unset, .unset] [(.int (8 : Int32))])) rfl (hb hby at_78) rfl (by decide) (cap := 8) (by decide) (by decide) (by decide) (by decide)
  obtain ⟨b7, g7⟩ : ∃ z, z = h0.size := ⟨_, rfl⟩
  rw [← g7] at A7 st7
  have V_b7 : Arv Z h7 b7 k7 .int (8 : Int32) [(.int (0 : Int32)), (.int (0 : Int32)), (.int (0 : Int32)), (.int (0 : Int32)), (.int (0 : Int32)), (.int (0 : Int32)), (.int (0 : Int32)), (.int (0 : Int32))] (.int (0 : Int32)) := (Arv.new A7 (by decide)).pad (pad_rep [] (.int (0 : Int32)) 8)
  have g_b7 : n0 ≤ b7 := Nat.le_trans Z0 (Nat.le_of_eq g7.symm)
  have sz_b7 : h0.size ≤ b7 := (Nat.le_trans (Keep.refl h0 []).1 (Nat.le_of_eq g7.symm))
  have K7 : Keep h0 h7 [] := (Keep.refl h0 []).ext E7
  obtain ⟨cl_b7_84, Ar_b7, q_b7, S_b7, N_b7, H_b7, G_b7⟩ := V_b7
  have hin84 : ¬ ((0 : Int32) < 0 ∨ cl_b7_84.slots.size ≤ ((0 : Int32)).toNatClampNeg) := inb_of S_b7 ⟨by decide, by decide⟩
  obtain ⟨T8, h8, X8, e8, W8, st8⟩ := stI X7 hx hZ e7 Ar_b7 (j := (0 : Int32)) hin84 (g := (mkF m 84 #[.val (.int p1), .val (.int p2), .val (.int p3), .val (.int p4), .val (.int p5), .val (.int p6), .val (.int (own_v0 p1)), .val (.int (own_v1 p1 p2)), .val (.int (own_v2 p1 p2 p3)), .val (.int (own_v3 p1 p2 p3 p4)), .val (.int (p5 &&& (15 : Int32))), .val (.int (own_om p5)), .val (.int (own_fr p5)), .val (.int (own_of p5)), .unset, .unset, .unset, .unset, .unset] [(.int p6), (.int (0 : Int32)), (.ref b7), (.ref b7)])) rfl rfl (hb hby at_84)
  have V_b7_8 := Arv.set Ar_b7 q_b7 S_b7 N_b7 H_b7 G_b7 rfl W8 0 rfl (Nat.le_of_ble_eq_true rfl)
  have K8 : Keep h0 h8 [] := K7.wr W8 (Or.inr sz_b7)
  have N8 := Fr.snoc X8 N0 g_b7
  obtain ⟨cl_b7_89, Ar_b7, q_b7, S_b7, N_b7, H_b7, G_b7⟩ := V_b7_8
  have hin89 : ¬ ((1 : Int32) < 0 ∨ cl_b7_89.slots.size ≤ ((1 : Int32)).toNatClampNeg) := inb_of S_b7 ⟨by decide, by decide⟩
  obtain ⟨T9, h9, X9, e9, W9, st9⟩ := stI X8 hx hZ e8 Ar_b7 (j := (1 : Int32)) hin89 (g := (mkF m 89 #[.val (.int p1), .val (.int p2), .val (.int p3), .val (.int p4), .val (.int p5), .val (.int p6), .val (.int (own_v0 p1)), .val (.int (own_v1 p1 p2)), .val (.int (own_v2 p1 p2 p3)), .val (.int (own_v3 p1 p2 p3 p4)), .val (.int (p5 &&& (15 : Int32))), .val (.int (own_om p5)), .val (.int (own_fr p5)), .val (.int (own_of p5)), .unset, .unset, .unset, .unset, .unset] [(.int p6), (.int (1 : Int32)), (.ref b7), (.ref b7)])) rfl rfl (hb hby at_89)
  have V_b7_9 := Arv.set Ar_b7 q_b7 S_b7 N_b7 H_b7 G_b7 rfl W9 1 rfl (Nat.le_of_ble_eq_true rfl)
  have K9 : Keep h0 h9 [] := K8.wr W9 (Or.inr sz_b7)
  have N9 := Fr.snoc X9 N8 g_b7
  obtain ⟨cl_b7_94, Ar_b7, q_b7, S_b7, N_b7, H_b7, G_b7⟩ := V_b7_9
  have hin94 : ¬ ((2 : Int32) < 0 ∨ cl_b7_94.slots.size ≤ ((2 : Int32)).toNatClampNeg) := inb_of S_b7 ⟨by decide, by decide⟩
  obtain ⟨T10, h10, X10, e10, W10, st10⟩ := stI X9 hx hZ e9 Ar_b7 (j := (2 : Int32)) hin94 (g := (mkF m 94 #[.val (.int p1), .val (.int p2), .val (.int p3), .val (.int p4), .val (.int p5), .val (.int p6), .val (.int (own_v0 p1)), .val (.int (own_v1 p1 p2)), .val (.int (own_v2 p1 p2 p3)), .val (.int (own_v3 p1 p2 p3 p4)), .val (.int (p5 &&& (15 : Int32))), .val (.int (own_om p5)), .val (.int (own_fr p5)), .val (.int (own_of p5)), .unset, .unset, .unset, .unset, .unset] [(.int p6), (.int (2 : Int32)), (.ref b7), (.ref b7)])) rfl rfl (hb hby at_94)
  have V_b7_10 := Arv.set Ar_b7 q_b7 S_b7 N_b7 H_b7 G_b7 rfl W10 2 rfl (Nat.le_of_ble_eq_true rfl)
  have K10 : Keep h0 h10 [] := K9.wr W10 (Or.inr sz_b7)
  have N10 := Fr.snoc X10 N9 g_b7
  obtain ⟨cl_b7_99, Ar_b7, q_b7, S_b7, N_b7, H_b7, G_b7⟩ := V_b7_10
  have hin99 : ¬ ((3 : Int32) < 0 ∨ cl_b7_99.slots.size ≤ ((3 : Int32)).toNatClampNeg) := inb_of S_b7 ⟨by decide, by decide⟩
  obtain ⟨T11, h11, X11, e11, W11, st11⟩ := stI X10 hx hZ e10 Ar_b7 (j := (3 : Int32)) hin99 (g := (mkF m 99 #[.val (.int p1), .val (.int p2), .val (.int p3), .val (.int p4), .val (.int p5), .val (.int p6), .val (.int (own_v0 p1)), .val (.int (own_v1 p1 p2)), .val (.int (own_v2 p1 p2 p3)), .val (.int (own_v3 p1 p2 p3 p4)), .val (.int (p5 &&& (15 : Int32))), .val (.int (own_om p5)), .val (.int (own_fr p5)), .val (.int (own_of p5)), .unset, .unset, .unset, .unset, .unset] [(.int p6), (.int (3 : Int32)), (.ref b7), (.ref b7)])) rfl rfl (hb hby at_99)
  have V_b7_11 := Arv.set Ar_b7 q_b7 S_b7 N_b7 H_b7 G_b7 rfl W11 3 rfl (Nat.le_of_ble_eq_true rfl)
  have K11 : Keep h0 h11 [] := K10.wr W11 (Or.inr sz_b7)
  have N11 := Fr.snoc X11 N10 g_b7
  obtain ⟨cl_b7_104, Ar_b7, q_b7, S_b7, N_b7, H_b7, G_b7⟩ := V_b7_11
  have hin104 : ¬ ((4 : Int32) < 0 ∨ cl_b7_104.slots.size ≤ ((4 : Int32)).toNatClampNeg) := inb_of S_b7 ⟨by decide, by decide⟩
  obtain ⟨T12, h12, X12, e12, W12, st12⟩ := stI X11 hx hZ e11 Ar_b7 (j := (4 : Int32)) hin104 (g := (mkF m 104 #[.val (.int p1), .val (.int p2), .val (.int p3), .val (.int p4), .val (.int p5), .val (.int p6), .val (.int (own_v0 p1)), .val (.int (own_v1 p1 p2)), .val (.int (own_v2 p1 p2 p3)), .val (.int (own_v3 p1 p2 p3 p4)), .val (.int (p5 &&& (15 : Int32))), .val (.int (own_om p5)), .val (.int (own_fr p5)), .val (.int (own_of p5)), .unset, .unset, .unset, .unset, .unset] [(.int p6), (.int (4 : Int32)), (.ref b7), (.ref b7)])) rfl rfl (hb hby at_104)
  have V_b7_12 := Arv.set Ar_b7 q_b7 S_b7 N_b7 H_b7 G_b7 rfl W12 4 rfl (Nat.le_of_ble_eq_true rfl)
  have K12 : Keep h0 h12 [] := K11.wr W12 (Or.inr sz_b7)
  have N12 := Fr.snoc X12 N11 g_b7
  obtain ⟨cl_b7_109, Ar_b7, q_b7, S_b7, N_b7, H_b7, G_b7⟩ := V_b7_12
  have hin109 : ¬ ((5 : Int32) < 0 ∨ cl_b7_109.slots.size ≤ ((5 : Int32)).toNatClampNeg) := inb_of S_b7 ⟨by decide, by decide⟩
  obtain ⟨T13, h13, X13, e13, W13, st13⟩ := stI X12 hx hZ e12 Ar_b7 (j := (5 : Int32)) hin109 (g := (mkF m 109 #[.val (.int p1), .val (.int p2), .val (.int p3), .val (.int p4), .val (.int p5), .val (.int p6), .val (.int (own_v0 p1)), .val (.int (own_v1 p1 p2)), .val (.int (own_v2 p1 p2 p3)), .val (.int (own_v3 p1 p2 p3 p4)), .val (.int (p5 &&& (15 : Int32))), .val (.int (own_om p5)), .val (.int (own_fr p5)), .val (.int (own_of p5)), .unset, .unset, .unset, .unset, .unset] [(.int p6), (.int (5 : Int32)), (.ref b7), (.ref b7)])) rfl rfl (hb hby at_109)
  have V_b7_13 := Arv.set Ar_b7 q_b7 S_b7 N_b7 H_b7 G_b7 rfl W13 5 rfl (Nat.le_of_ble_eq_true rfl)
  have K13 : Keep h0 h13 [] := K12.wr W13 (Or.inr sz_b7)
  have N13 := Fr.snoc X13 N12 g_b7
  obtain ⟨cl_b7_115, Ar_b7, q_b7, S_b7, N_b7, H_b7, G_b7⟩ := V_b7_13
  have hin115 : ¬ ((6 : Int32) < 0 ∨ cl_b7_115.slots.size ≤ ((6 : Int32)).toNatClampNeg) := inb_of S_b7 ⟨by decide, by decide⟩
  obtain ⟨T14, h14, X14, e14, W14, st14⟩ := stI X13 hx hZ e13 Ar_b7 (j := (6 : Int32)) hin115 (g := (mkF m 115 #[.val (.int p1), .val (.int p2), .val (.int p3), .val (.int p4), .val (.int p5), .val (.int p6), .val (.int (own_v0 p1)), .val (.int (own_v1 p1 p2)), .val (.int (own_v2 p1 p2 p3)), .val (.int (own_v3 p1 p2 p3 p4)), .val (.int (p5 &&& (15 : Int32))), .val (.int (own_om p5)), .val (.int (own_fr p5)), .val (.int (own_of p5)), .unset, .unset, .unset, .unset, .unset] [(.int p6), (.int (6 : Int32)), (.ref b7), (.ref b7)])) rfl rfl (hb hby at_115)
  have V_b7_14 := Arv.set Ar_b7 q_b7 S_b7 N_b7 H_b7 G_b7 rfl W14 6 rfl (Nat.le_of_ble_eq_true rfl)
  have K14 : Keep h0 h14 [] := K13.wr W14 (Or.inr sz_b7)
  have N14 := Fr.snoc X14 N13 g_b7
  obtain ⟨cl_b7_121, Ar_b7, q_b7, S_b7, N_b7, H_b7, G_b7⟩ := V_b7_14
  have hin121 : ¬ ((7 : Int32) < 0 ∨ cl_b7_121.slots.size ≤ ((7 : Int32)).toNatClampNeg) := inb_of S_b7 ⟨by decide, by decide⟩
  obtain ⟨T15, h15, X15, e15, W15, st15⟩ := stI X14 hx hZ e14 Ar_b7 (j := (7 : Int32)) hin121 (g := (mkF m 121 #[.val (.int p1), .val (.int p2), .val (.int p3), .val (.int p4), .val (.int p5), .val (.int p6), .val (.int (own_v0 p1)), .val (.int (own_v1 p1 p2)), .val (.int (own_v2 p1 p2 p3)), .val (.int (own_v3 p1 p2 p3 p4)), .val (.int (p5 &&& (15 : Int32))), .val (.int (own_om p5)), .val (.int (own_fr p5)), .val (.int (own_of p5)), .unset, .unset, .unset, .unset, .unset] [(.int p6), (.int (7 : Int32)), (.ref b7), (.ref b7)])) rfl rfl (hb hby at_121)
  have V_b7_15 := Arv.set Ar_b7 q_b7 S_b7 N_b7 H_b7 G_b7 rfl W15 7 rfl (Nat.le_of_ble_eq_true rfl)
  have K15 : Keep h0 h15 [] := K14.wr W15 (Or.inr sz_b7)
  have N15 := Fr.snoc X15 N14 g_b7
  obtain ⟨T16, h16, k16, X16, e16, E16, A16, st16⟩ := newP X15 hx hZ (hw _ (List.mem_of_getElem? (i := 3) rfl)) e15 (g := (mkF m 126 #[.val (.int p1), .val (.int p2), .val (.int p3), .val (.int p4), .val (.int p5), .val (.int p6), .val (.int (own_v0 p1)), .val (.int (own_v1 p1 p2)), .val (.int (own_v2 p1 p2 p3)), .val (.int (own_v3 p1 p2 p3 p4)), .val (.int (p5 &&& (15 : Int32))), .val (.int (own_om p5)), .val (.int (own_fr p5)), .val (.int (own_of p5)), .val (.ref b7), .unset, .unset, .unset, .unset] [(.int (8 : Int32))])) rfl (hb hby at_126) rfl (by decide) (cap := 8) (by decide) (by decide) (by decide) (by decide)
  obtain ⟨b16, g16⟩ : ∃ z, z = h15.size := ⟨_, rfl⟩
  rw [← g16] at A16 st16
  have V_b16 : Arv Z h16 b16 k16 .int (8 : Int32) [(.int (0 : Int32)), (.int (0 : Int32)), (.int (0 : Int32)), (.int (0 : Int32)), (.int (0 : Int32)), (.int (0 : Int32)), (.int (0 : Int32)), (.int (0 : Int32))] (.int (0 : Int32)) := (Arv.new A16 (by decide)).pad (pad_rep [] (.int (0 : Int32)) 8)
  have g_b16 : n0 ≤ b16 := Nat.le_trans (Nat.le_trans (Nat.le_trans (Nat.le_trans (Nat.le_trans (Nat.le_trans (Nat.le_trans (Nat.le_trans (Nat.le_trans (Nat.le_trans Z0 E7.1) (Keep.of_wr W8).1) (Keep.of_wr W9).1) (Keep.of_wr W10).1) (Keep.of_wr W11).1) (Keep.of_wr W12).1) (Keep.of_wr W13).1) (Keep.of_wr W14).1) (Keep.of_wr W15).1) (Nat.le_of_eq g16.symm)
  have sz_b16 : h0.size ≤ b16 := (Nat.le_trans K15.1 (Nat.le_of_eq g16.symm))
  have K16 : Keep h0 h16 [] := K15.ext E16
  obtain ⟨cl_b16_132, Ar_b16, q_b16, S_b16, N_b16, H_b16, G_b16⟩ := V_b16
  have hin132 : ¬ ((0 : Int32) < 0 ∨ cl_b16_132.slots.size ≤ ((0 : Int32)).toNatClampNeg) := inb_of S_b16 ⟨by decide, by decide⟩
  obtain ⟨T17, h17, X17, e17, W17, st17⟩ := stI X16 hx hZ e16 Ar_b16 (j := (0 : Int32)) hin132 (g := (mkF m 132 #[.val (.int p1), .val (.int p2), .val (.int p3), .val (.int p4), .val (.int p5), .val (.int p6), .val (.int (own_v0 p1)), .val (.int (own_v1 p1 p2)), .val (.int (own_v2 p1 p2 p3)), .val (.int (own_v3 p1 p2 p3 p4)), .val (.int (p5 &&& (15 : Int32))), .val (.int (own_om p5)), .val (.int (own_fr p5)), .val (.int (own_of p5)), .val (.ref b7), .unset, .unset, .unset, .unset] [(.int p6), (.int (0 : Int32)), (.ref b16), (.ref b16)])) rfl rfl (hb hby at_132)
  have V_b16_17 := Arv.set Ar_b16 q_b16 S_b16 N_b16 H_b16 G_b16 rfl W17 0 rfl (Nat.le_of_ble_eq_true rfl)
  have K17 : Keep h0 h17 [] := K16.wr W17 (Or.inr sz_b16)
  have N17 := Fr.snoc X17 N15 g_b16
  obtain ⟨cl_b16_137, Ar_b16, q_b16, S_b16, N_b16, H_b16, G_b16⟩ := V_b16_17
  have hin137 : ¬ ((1 : Int32) < 0 ∨ cl_b16_137.slots.size ≤ ((1 : Int32)).toNatClampNeg) := inb_of S_b16 ⟨by decide, by decide⟩
  obtain ⟨T18, h18, X18, e18, W18, st18⟩ := stI X17 hx hZ e17 Ar_b16 (j := (1 : Int32)) hin137 (g := (mkF m 137 #[.val (.int p1), .val (.int p2), .val (.int p3), .val (.int p4), .val (.int p5), .val (.int p6), .val (.int (own_v0 p1)), .val (.int (own_v1 p1 p2)), .val (.int (own_v2 p1 p2 p3)), .val (.int (own_v3 p1 p2 p3 p4)), .val (.int (p5 &&& (15 : Int32))), .val (.int (own_om p5)), .val (.int (own_fr p5)), .val (.int (own_of p5)), .val (.ref b7), .unset, .unset, .unset, .unset] [(.int p6), (.int (1 : Int32)), (.ref b16), (.ref b16)])) rfl rfl (hb hby at_137)
  have V_b16_18 := Arv.set Ar_b16 q_b16 S_b16 N_b16 H_b16 G_b16 rfl W18 1 rfl (Nat.le_of_ble_eq_true rfl)
  have K18 : Keep h0 h18 [] := K17.wr W18 (Or.inr sz_b16)
  have N18 := Fr.snoc X18 N17 g_b16
  obtain ⟨cl_b16_142, Ar_b16, q_b16, S_b16, N_b16, H_b16, G_b16⟩ := V_b16_18
  have hin142 : ¬ ((2 : Int32) < 0 ∨ cl_b16_142.slots.size ≤ ((2 : Int32)).toNatClampNeg) := inb_of S_b16 ⟨by decide, by decide⟩
  obtain ⟨T19, h19, X19, e19, W19, st19⟩ := stI X18 hx hZ e18 Ar_b16 (j := (2 : Int32)) hin142 (g := (mkF m 142 #[.val (.int p1), .val (.int p2), .val (.int p3), .val (.int p4), .val (.int p5), .val (.int p6), .val (.int (own_v0 p1)), .val (.int (own_v1 p1 p2)), .val (.int (own_v2 p1 p2 p3)), .val (.int (own_v3 p1 p2 p3 p4)), .val (.int (p5 &&& (15 : Int32))), .val (.int (own_om p5)), .val (.int (own_fr p5)), .val (.int (own_of p5)), .val (.ref b7), .unset, .unset, .unset, .unset] [(.int p6), (.int (2 : Int32)), (.ref b16), (.ref b16)])) rfl rfl (hb hby at_142)
  have V_b16_19 := Arv.set Ar_b16 q_b16 S_b16 N_b16 H_b16 G_b16 rfl W19 2 rfl (Nat.le_of_ble_eq_true rfl)
  have K19 : Keep h0 h19 [] := K18.wr W19 (Or.inr sz_b16)
  have N19 := Fr.snoc X19 N18 g_b16
  obtain ⟨cl_b16_147, Ar_b16, q_b16, S_b16, N_b16, H_b16, G_b16⟩ := V_b16_19
  have hin147 : ¬ ((3 : Int32) < 0 ∨ cl_b16_147.slots.size ≤ ((3 : Int32)).toNatClampNeg) := inb_of S_b16 ⟨by decide, by decide⟩
  obtain ⟨T20, h20, X20, e20, W20, st20⟩ := stI X19 hx hZ e19 Ar_b16 (j := (3 : Int32)) hin147 (g := (mkF m 147 #[.val (.int p1), .val (.int p2), .val (.int p3), .val (.int p4), .val (.int p5), .val (.int p6), .val (.int (own_v0 p1)), .val (.int (own_v1 p1 p2)), .val (.int (own_v2 p1 p2 p3)), .val (.int (own_v3 p1 p2 p3 p4)), .val (.int (p5 &&& (15 : Int32))), .val (.int (own_om p5)), .val (.int (own_fr p5)), .val (.int (own_of p5)), .val (.ref b7), .unset, .unset, .unset, .unset] [(.int p6), (.int (3 : Int32)), (.ref b16), (.ref b16)])) rfl rfl (hb hby at_147)
  have V_b16_20 := Arv.set Ar_b16 q_b16 S_b16 N_b16 H_b16 G_b16 rfl W20 3 rfl (Nat.le_of_ble_eq_true rfl)
  have K20 : Keep h0 h20 [] := K19.wr W20 (Or.inr sz_b16)
  have N20 := Fr.snoc X20 N19 g_b16
  obtain ⟨cl_b16_152, Ar_b16, q_b16, S_b16, N_b16, H_b16, G_b16⟩ := V_b16_20
  have hin152 : ¬ ((4 : Int32) < 0 ∨ cl_b16_152.slots.size ≤ ((4 : Int32)).toNatClampNeg) := inb_of S_b16 ⟨by decide, by decide⟩
  obtain ⟨T21, h21, X21, e21, W21, st21⟩ := stI X20 hx hZ e20 Ar_b16 (j := (4 : Int32)) hin152 (g := (mkF m 152 #[.val (.int p1), .val (.int p2), .val (.int p3), .val (.int p4), .val (.int p5), .val (.int p6), .val (.int (own_v0 p1)), .val (.int (own_v1 p1 p2)), .val (.int (own_v2 p1 p2 p3)), .val (.int (own_v3 p1 p2 p3 p4)), .val (.int (p5 &&& (15 : Int32))), .val (.int (own_om p5)), .val (.int (own_fr p5)), .val (.int (own_of p5)), .val (.ref b7), .unset, .unset, .unset, .unset] [(.int p6), (.int (4 : Int32)), (.ref b16), (.ref b16)])) rfl rfl (hb hby at_152)
  have V_b16_21 := Arv.set Ar_b16 q_b16 S_b16 N_b16 H_b16 G_b16 rfl W21 4 rfl (Nat.le_of_ble_eq_true rfl)
  have K21 : Keep h0 h21 [] := K20.wr W21 (Or.inr sz_b16)
  have N21 := Fr.snoc X21 N20 g_b16
  obtain ⟨cl_b16_157, Ar_b16, q_b16, S_b16, N_b16, H_b16, G_b16⟩ := V_b16_21
  have hin157 : ¬ ((5 : Int32) < 0 ∨ cl_b16_157.slots.size ≤ ((5 : Int32)).toNatClampNeg) := inb_of S_b16 ⟨by decide, by decide⟩
  obtain ⟨T22, h22, X22, e22, W22, st22⟩ := stI X21 hx hZ e21 Ar_b16 (j := (5 : Int32)) hin157 (g := (mkF m 157 #[.val (.int p1), .val (.int p2), .val (.int p3), .val (.int p4), .val (.int p5), .val (.int p6), .val (.int (own_v0 p1)), .val (.int (own_v1 p1 p2)), .val (.int (own_v2 p1 p2 p3)), .val (.int (own_v3 p1 p2 p3 p4)), .val (.int (p5 &&& (15 : Int32))), .val (.int (own_om p5)), .val (.int (own_fr p5)), .val (.int (own_of p5)), .val (.ref b7), .unset, .unset, .unset, .unset] [(.int p6), (.int (5 : Int32)), (.ref b16), (.ref b16)])) rfl rfl (hb hby at_157)
  have V_b16_22 := Arv.set Ar_b16 q_b16 S_b16 N_b16 H_b16 G_b16 rfl W22 5 rfl (Nat.le_of_ble_eq_true rfl)
  have K22 : Keep h0 h22 [] := K21.wr W22 (Or.inr sz_b16)
  have N22 := Fr.snoc X22 N21 g_b16
  obtain ⟨cl_b16_163, Ar_b16, q_b16, S_b16, N_b16, H_b16, G_b16⟩ := V_b16_22
  have hin163 : ¬ ((6 : Int32) < 0 ∨ cl_b16_163.slots.size ≤ ((6 : Int32)).toNatClampNeg) := inb_of S_b16 ⟨by decide, by decide⟩
  obtain ⟨T23, h23, X23, e23, W23, st23⟩ := stI X22 hx hZ e22 Ar_b16 (j := (6 : Int32)) hin163 (g := (mkF m 163 #[.val (.int p1), .val (.int p2), .val (.int p3), .val (.int p4), .val (.int p5), .val (.int p6), .val (.int (own_v0 p1)), .val (.int (own_v1 p1 p2)), .val (.int (own_v2 p1 p2 p3)), .val (.int (own_v3 p1 p2 p3 p4)), .val (.int (p5 &&& (15 : Int32))), .val (.int (own_om p5)), .val (.int (own_fr p5)), .val (.int (own_of p5)), .val (.ref b7), .unset, .unset, .unset, .unset] [(.int p6), (.int (6 : Int32)), (.ref b16), (.ref b16)])) rfl rfl (hb hby at_163)
  have V_b16_23 := Arv.set Ar_b16 q_b16 S_b16 N_b16 H_b16 G_b16 rfl W23 6 rfl (Nat.le_of_ble_eq_true rfl)
  have K23 : Keep h0 h23 [] := K22.wr W23 (Or.inr sz_b16)
  have N23 := Fr.snoc X23 N22 g_b16
  obtain ⟨cl_b16_169, Ar_b16, q_b16, S_b16, N_b16, H_b16, G_b16⟩ := V_b16_23
  have hin169 : ¬ ((7 : Int32) < 0 ∨ cl_b16_169.slots.size ≤ ((7 : Int32)).toNatClampNeg) := inb_of S_b16 ⟨by decide, by decide⟩
  obtain ⟨T24, h24, X24, e24, W24, st24⟩ := stI X23 hx hZ e23 Ar_b16 (j := (7 : Int32)) hin169 (g := (mkF m 169 #[.val (.int p1), .val (.int p2), .val (.int p3), .val (.int p4), .val (.int p5), .val (.int p6), .val (.int (own_v0 p1)), .val (.int (own_v1 p1 p2)), .val (.int (own_v2 p1 p2 p3)), .val (.int (own_v3 p1 p2 p3 p4)), .val (.int (p5 &&& (15 : Int32))), .val (.int (own_om p5)), .val (.int (own_fr p5)), .val (.int (own_of p5)), .val (.ref b7), .unset, .unset, .unset, .unset] [(.int p6), (.int (7 : Int32)), (.ref b16), (.ref b16)])) rfl rfl (hb hby at_169)
  have V_b16_24 := Arv.set Ar_b16 q_b16 S_b16 N_b16 H_b16 G_b16 rfl W24 7 rfl (Nat.le_of_ble_eq_true rfl)
  have K24 : Keep h0 h24 [] := K23.wr W24 (Or.inr sz_b16)
  have N24 := Fr.snoc X24 N23 g_b16
  have neB : b7 ≠ b16 := Nat.ne_of_lt (Nat.lt_of_lt_of_le (Arv.own_lt V_b7_15) (Nat.le_of_eq g16.symm))
  have FA : OwnA Z h24 b7 (fun _ => p6) := OwnA.of_arv (((((((((V_b7_15.ext E16).other W17 neB).other W18 neB).other W19 neB).other W20 neB).other W21 neB).other W22 neB).other W23 neB).other W24 neB) (fun _ => p6) own_f8
  have FB : OwnA Z h24 b16 (fun _ => p6) := OwnA.of_arv V_b16_24 (fun _ => p6) own_f8
  obtain ⟨nA, hnA, eA⟩ := own_and3n ((p5.toUInt32 >>> ((8 : Int32) &&& 31).toUInt32).toInt32)
  obtain ⟨nB, hnB, eB⟩ := own_and3n ((p5.toUInt32 >>> ((10 : Int32) &&& 31).toUInt32).toInt32)
  have hxl : (own_xs p1 p2 p3 p4 p5).length ≤ 4 := own_sel_len _ _ _ _ _ _ _ _
  have hyl : (own_ys p1 p2 p3 p4 p5).length ≤ 4 := own_sel_len _ _ _ _ _ _ _ _
  have Z24 : n0 ≤ h24.size := Nat.le_trans Z0 K24.1
  have hres : (if own_sub (own_xs p1 p2 p3 p4 p5) (own_ys p1 p2 p3 p4 p5) = true then (1 : Int32) else 0) = (0 : Int32) := by rw [own_res]; rw [if_neg (by rw [decide_eq_false hc217]; exact Bool.false_ne_true)]
  obtain ⟨_, _, ⟨T25, L25, k25, n25⟩, -, X25, ⟨Lc25, hQ25, l25, y25, z25⟩, st25⟩ := Jvm.LawKit.callS X24 hx (y := (⟨"com/example/godwit/godwit/faults/SymbolsIsSubsetPinLaw", "place", "([IIIIIII)I"⟩ : MethodName)) hown (mvT hZ (hw _ (List.mem_of_getElem? (i := 4) rfl))) (mvT hZ (hw _ (List.mem_of_getElem? (i := 5) rfl))) (mvT hZ (hw _ (List.mem_of_getElem? (i := 6) rfl))) (mvT hZ (hw _ (List.mem_of_getElem? (i := 7) rfl))) (by decide) (backOf (W := 0) (rm1 l Z a0 hw [] b7 (own_fr p5) (p5 &&& (15 : Int32)) (own_v0 p1) (own_v1 p1 p2) (own_v2 p1 p2 p3) (own_v3 p1 p2 p3 p4) h24 n0 Z24 nA (fun _ => p6) eA hnA FA g_b7) hZ (hw _ (List.mem_of_getElem? (i := 7) rfl)) (hw _ (List.mem_of_getElem? (i := 6) rfl)) (by decide) (by decide)) (g := (mkF m 186 #[.val (.int p1), .val (.int p2), .val (.int p3), .val (.int p4), .val (.int p5), .val (.int p6), .val (.int (own_v0 p1)), .val (.int (own_v1 p1 p2)), .val (.int (own_v2 p1 p2 p3)), .val (.int (own_v3 p1 p2 p3 p4)), .val (.int (p5 &&& (15 : Int32))), .val (.int (own_om p5)), .val (.int (own_fr p5)), .val (.int (own_of p5)), .val (.ref b7), .val (.ref b16), .unset, .unset, .unset] [(.int (own_v3 p1 p2 p3 p4)), (.int (own_v2 p1 p2 p3)), (.int (own_v1 p1 p2)), (.int (own_v0 p1)), (.int (p5 &&& (15 : Int32))), (.int (own_fr p5)), (.ref b7)])) rfl (by rw [hml]; rfl) (argsL := [(.ref b7), (.int (own_fr p5)), (.int (p5 &&& (15 : Int32))), (.int (own_v0 p1)), (.int (own_v1 p1 p2)), (.int (own_v2 p1 p2 p3)), (.int (own_v3 p1 p2 p3 p4))]) (rest := []) (lenOf pd_0_0 rfl) rfl (by show 2 * 0 + _ ≤ _; exact Nat.le_of_eq rfl) (hb hby at_186) (fun _ _ => ⟨rfl, e24, (by decide : 2 + 0 ≤ _), (by decide : 16 + 0 ≤ _)⟩)
  dsimp only [Pt.U, Pt.locs, Pt.cells, Pt.slots] at X25 l25 y25 z25 st25 hQ25
  subst l25 y25 z25
  obtain ⟨rfl, N25q, KA, fA, FA', VA⟩ := hQ25
  have N25 := Fr.app N24 N25q
  obtain ⟨_, _, ⟨T26, L26, k26, n26⟩, -, X26, ⟨Lc26, hQ26, l26, y26, z26⟩, st26⟩ := Jvm.LawKit.callS X25 hx (y := (⟨"com/example/godwit/godwit/faults/SymbolsIsSubsetPinLaw", "place", "([IIIIIII)I"⟩ : MethodName)) hown (mvT hZ (hw _ (List.mem_of_getElem? (i := 4) rfl))) (mvT hZ (hw _ (List.mem_of_getElem? (i := 5) rfl))) (mvT hZ (hw _ (List.mem_of_getElem? (i := 6) rfl))) (mvT hZ (hw _ (List.mem_of_getElem? (i := 7) rfl))) (by decide) (backOf (W := 0) (rm1 l Z a0 hw [] b16 (own_of p5) (own_om p5) (own_v0 p1) (own_v1 p1 p2) (own_v2 p1 p2 p3) (own_v3 p1 p2 p3 p4) T25.heap n0 (Nat.le_trans Z24 KA.1) nB (fun _ => p6) eB hnB (FB.keep KA (fun q => neB (List.mem_singleton.mp q).symm)) g_b16) hZ (hw _ (List.mem_of_getElem? (i := 7) rfl)) (hw _ (List.mem_of_getElem? (i := 6) rfl)) (by decide) (by decide)) (g := (mkF m 205 #[.val (.int p1), .val (.int p2), .val (.int p3), .val (.int p4), .val (.int p5), .val (.int p6), .val (.int (own_v0 p1)), .val (.int (own_v1 p1 p2)), .val (.int (own_v2 p1 p2 p3)), .val (.int (own_v3 p1 p2 p3 p4)), .val (.int (p5 &&& (15 : Int32))), .val (.int (own_om p5)), .val (.int (own_fr p5)), .val (.int (own_of p5)), .val (.ref b7), .val (.ref b16), .val (.int (Int32.ofNat (own_xs p1 p2 p3 p4 p5).length)), .unset, .unset] [(.int (own_v3 p1 p2 p3 p4)), (.int (own_v2 p1 p2 p3)), (.int (own_v1 p1 p2)), (.int (own_v0 p1)), (.int (own_om p5)), (.int (own_of p5)), (.ref b16)])) rfl (by rw [hml]; rfl) (argsL := [(.ref b16), (.int (own_of p5)), (.int (own_om p5)), (.int (own_v0 p1)), (.int (own_v1 p1 p2)), (.int (own_v2 p1 p2 p3)), (.int (own_v3 p1 p2 p3 p4))]) (rest := []) (lenOf pd_0_0 rfl) rfl (by show 2 * 0 + _ ≤ _; exact Nat.le_of_eq rfl) (hb hby at_205) (fun _ _ => ⟨rfl, rfl, (by decide : 2 + 0 ≤ _), (by decide : 16 + 0 ≤ _)⟩)
  dsimp only [Pt.U, Pt.locs, Pt.cells, Pt.slots] at X26 l26 y26 z26 st26 hQ26
  subst l26 y26 z26
  obtain ⟨rfl, N26q, KB, fB, FB', VB⟩ := hQ26
  have N26 := Fr.app N25 N26q
  obtain ⟨_, _, ⟨T27, L27, k27, n27⟩, -, X27, ⟨Lc27, hQ27, l27, y27, z27⟩, st27⟩ := Jvm.LawKit.callS X26 hx (y := (⟨"com/example/godwit/godwit/faults/Symbols", "isSubset", "([III[III)Z"⟩ : MethodName)) hown (mvT hZ (hw _ (List.mem_of_getElem? (i := 8) rfl))) (mvT hZ (hw _ (List.mem_of_getElem? (i := 9) rfl))) (mvT hZ (hw _ (List.mem_of_getElem? (i := 10) rfl))) (mvT hZ (hw _ (List.mem_of_getElem? (i := 11) rfl))) (by decide) (backOf (W := 0) (rm2 l Z a0 hw [] b7 (own_fr p5) (Int32.ofNat (own_xs p1 p2 p3 p4 p5).length) b16 (own_of p5) (Int32.ofNat (own_ys p1 p2 p3 p4 p5).length) T26.heap n0 (Nat.le_trans (Nat.le_trans Z24 KA.1) KB.1) nA nB (own_xs p1 p2 p3 p4 p5) (own_ys p1 p2 p3 p4 p5) fA fB eA rfl eB rfl (FA'.keep KB (fun q => neB (List.mem_singleton.mp q))) VA (by omega) FB' VB (by omega)) hZ (hw _ (List.mem_of_getElem? (i := 11) rfl)) (hw _ (List.mem_of_getElem? (i := 10) rfl)) (by decide) (by decide)) (g := (mkF m 239 #[.val (.int p1), .val (.int p2), .val (.int p3), .val (.int p4), .val (.int p5), .val (.int p6), .val (.int (own_v0 p1)), .val (.int (own_v1 p1 p2)), .val (.int (own_v2 p1 p2 p3)), .val (.int (own_v3 p1 p2 p3 p4)), .val (.int (p5 &&& (15 : Int32))), .val (.int (own_om p5)), .val (.int (own_fr p5)), .val (.int (own_of p5)), .val (.ref b7), .val (.ref b16), .val (.int (Int32.ofNat (own_xs p1 p2 p3 p4 p5).length)), .val (.int (Int32.ofNat (own_ys p1 p2 p3 p4 p5).length)), .val (.int (0 : Int32))] [(.int (Int32.ofNat (own_ys p1 p2 p3 p4 p5).length)), (.int (own_of p5)), (.ref b16), (.int (Int32.ofNat (own_xs p1 p2 p3 p4 p5).length)), (.int (own_fr p5)), (.ref b7)])) rfl (by rw [hml]; rfl) (argsL := [(.ref b7), (.int (own_fr p5)), (.int (Int32.ofNat (own_xs p1 p2 p3 p4 p5).length)), (.ref b16), (.int (own_of p5)), (.int (Int32.ofNat (own_ys p1 p2 p3 p4 p5).length))]) (rest := []) (lenOf pd_0_1 rfl) rfl (by show 2 * 0 + _ ≤ _; exact Nat.le_of_eq rfl) (hb hby at_239) (fun _ _ => ⟨rfl, rfl, (by decide : 2 + 0 ≤ _), (by decide : 16 + 0 ≤ _)⟩)
  dsimp only [Pt.U, Pt.locs, Pt.cells, Pt.slots] at X27 l27 y27 z27 st27 hQ27
  subst l27 y27 z27
  obtain ⟨rfl, N27q, eh27⟩ := hQ27
  have N27 := Fr.app N26 N27q
  obtain ⟨fs, hr, hrun, hended, hW, hsame⟩ := X27.leave (v := some (.int (1 : Int32))) (fun h => by rw [Bd.returns] at h; cases h)
  refine ⟨_, _, pre0 _ ?_, hrun, hended, _, _, rfl, ?_, ⟨_, rfl⟩, hW, hsame.mono (by decide) (by decide)⟩
  · show Steps p.tables e below (s₁.setTop (mkF m 0 #[.val (.int p1), .val (.int p2), .val (.int p3), .val (.int p4), .val (.int p5), .val (.int p6), .unset, .unset, .unset, .unset, .unset, .unset, .unset, .unset, .unset, .unset, .unset, .unset, .unset] [])) _
    refine X0.ldcInt hx hown (mvT hZ (hw _ (List.mem_of_getElem? (i := 0) rfl))) (g := (mkF m 0 #[.val (.int p1), .val (.int p2), .val (.int p3), .val (.int p4), .val (.int p5), .val (.int p6), .unset, .unset, .unset, .unset, .unset, .unset, .unset, .unset, .unset, .unset, .unset, .unset, .unset] [])) rfl (hb hby at_0) _ ?_
    show Steps p.tables e below (s₁.setTop (mkF m 2 #[.val (.int p1), .val (.int p2), .val (.int p3), .val (.int p4), .val (.int p5), .val (.int p6), .unset, .unset, .unset, .unset, .unset, .unset, .unset, .unset, .unset, .unset, .unset, .unset, .unset] [(.int (-2147483648 : Int32))])) _
    refine XS.iloadN X0.here hx rfl (hb hby at_2) rfl ?_
    show Steps p.tables e below (s₁.setTop (mkF m 3 #[.val (.int p1), .val (.int p2), .val (.int p3), .val (.int p4), .val (.int p5), .val (.int p6), .unset, .unset, .unset, .unset, .unset, .unset, .unset, .unset, .unset, .unset, .unset, .unset, .unset] [(.int p1), (.int (-2147483648 : Int32))])) _
    refine X0.ldcInt hx hown (mvT hZ (hw _ (List.mem_of_getElem? (i := 1) rfl))) (g := (mkF m 3 #[.val (.int p1), .val (.int p2), .val (.int p3), .val (.int p4), .val (.int p5), .val (.int p6), .unset, .unset, .unset, .unset, .unset, .unset, .unset, .unset, .unset, .unset, .unset, .unset, .unset] [(.int p1), (.int (-2147483648 : Int32))])) rfl (hb hby at_3) _ ?_
    show Steps p.tables e below (s₁.setTop (mkF m 5 #[.val (.int p1), .val (.int p2), .val (.int p3), .val (.int p4), .val (.int p5), .val (.int p6), .unset, .unset, .unset, .unset, .unset, .unset, .unset, .unset, .unset, .unset, .unset, .unset, .unset] [(.int (1073741823 : Int32)), (.int p1), (.int (-2147483648 : Int32))])) _
    refine XS.iand X0.here hx rfl (hb hby at_5) rfl ?_
    show Steps p.tables e below (s₁.setTop (mkF m 6 #[.val (.int p1), .val (.int p2), .val (.int p3), .val (.int p4), .val (.int p5), .val (.int p6), .unset, .unset, .unset, .unset, .unset, .unset, .unset, .unset, .unset, .unset, .unset, .unset, .unset] [(.int (p1 &&& (1073741823 : Int32))), (.int (-2147483648 : Int32))])) _
    refine XS.iadd X0.here hx rfl (hb hby at_6) rfl ?_
    show Steps p.tables e below (s₁.setTop (mkF m 7 #[.val (.int p1), .val (.int p2), .val (.int p3), .val (.int p4), .val (.int p5), .val (.int p6), .unset, .unset, .unset, .unset, .unset, .unset, .unset, .unset, .unset, .unset, .unset, .unset, .unset] [(.int (own_v0 p1))])) _
    refine XS.istore X0.here hx rfl (hb hby at_7) rfl (l' := #[.val (.int p1), .val (.int p2), .val (.int p3), .val (.int p4), .val (.int p5), .val (.int p6), .val (.int (own_v0 p1)), .unset, .unset, .unset, .unset, .unset, .unset, .unset, .unset, .unset, .unset, .unset, .unset]) rfl ?_
    show Steps p.tables e below (s₁.setTop (mkF m 9 #[.val (.int p1), .val (.int p2), .val (.int p3), .val (.int p4), .val (.int p5), .val (.int p6), .val (.int (own_v0 p1)), .unset, .unset, .unset, .unset, .unset, .unset, .unset, .unset, .unset, .unset, .unset, .unset] [])) _
    refine XS.iload X0.here hx rfl (hb hby at_9) rfl ?_
    show Steps p.tables e below (s₁.setTop (mkF m 11 #[.val (.int p1), .val (.int p2), .val (.int p3), .val (.int p4), .val (.int p5), .val (.int p6), .val (.int (own_v0 p1)), .unset, .unset, .unset, .unset, .unset, .unset, .unset, .unset, .unset, .unset, .unset, .unset] [(.int (own_v0 p1))])) _
    refine XS.iconst X0.here hx rfl (hb hby at_11) ?_
    show Steps p.tables e below (s₁.setTop (mkF m 12 #[.val (.int p1), .val (.int p2), .val (.int p3), .val (.int p4), .val (.int p5), .val (.int p6), .val (.int (own_v0 p1)), .unset, .unset, .unset, .unset, .unset, .unset, .unset, .unset, .unset, .unset, .unset, .unset] [(.int (1 : Int32)), (.int (own_v0 p1))])) _
    refine XS.iadd X0.here hx rfl (hb hby at_12) rfl ?_
    show Steps p.tables e below (s₁.setTop (mkF m 13 #[.val (.int p1), .val (.int p2), .val (.int p3), .val (.int p4), .val (.int p5), .val (.int p6), .val (.int (own_v0 p1)), .unset, .unset, .unset, .unset, .unset, .unset, .unset, .unset, .unset, .unset, .unset, .unset] [(.int ((own_v0 p1) + (1 : Int32)))])) _
    refine XS.iloadN X0.here hx rfl (hb hby at_13) rfl ?_
    show Steps p.tables e below (s₁.setTop (mkF m 14 #[.val (.int p1), .val (.int p2), .val (.int p3), .val (.int p4), .val (.int p5), .val (.int p6), .val (.int (own_v0 p1)), .unset, .unset, .unset, .unset, .unset, .unset, .unset, .unset, .unset, .unset, .unset, .unset] [(.int p2), (.int ((own_v0 p1) + (1 : Int32)))])) _
    refine X0.ldcInt hx hown (mvT hZ (hw _ (List.mem_of_getElem? (i := 1) rfl))) (g := (mkF m 14 #[.val (.int p1), .val (.int p2), .val (.int p3), .val (.int p4), .val (.int p5), .val (.int p6), .val (.int (own_v0 p1)), .unset, .unset, .unset, .unset, .unset, .unset, .unset, .unset, .unset, .unset, .unset, .unset] [(.int p2), (.int ((own_v0 p1) + (1 : Int32)))])) rfl (hb hby at_14) _ ?_
    show Steps p.tables e below (s₁.setTop (mkF m 16 #[.val (.int p1), .val (.int p2), .val (.int p3), .val (.int p4), .val (.int p5), .val (.int p6), .val (.int (own_v0 p1)), .unset, .unset, .unset, .unset, .unset, .unset, .unset, .unset, .unset, .unset, .unset, .unset] [(.int (1073741823 : Int32)), (.int p2), (.int ((own_v0 p1) + (1 : Int32)))])) _
    refine XS.iand X0.here hx rfl (hb hby at_16) rfl ?_
    show Steps p.tables e below (s₁.setTop (mkF m 17 #[.val (.int p1), .val (.int p2), .val (.int p3), .val (.int p4), .val (.int p5), .val (.int p6), .val (.int (own_v0 p1)), .unset, .unset, .unset, .unset, .unset, .unset, .unset, .unset, .unset, .unset, .unset, .unset] [(.int (p2 &&& (1073741823 : Int32))), (.int ((own_v0 p1) + (1 : Int32)))])) _
    refine XS.iadd X0.here hx rfl (hb hby at_17) rfl ?_
    show Steps p.tables e below (s₁.setTop (mkF m 18 #[.val (.int p1), .val (.int p2), .val (.int p3), .val (.int p4), .val (.int p5), .val (.int p6), .val (.int (own_v0 p1)), .unset, .unset, .unset, .unset, .unset, .unset, .unset, .unset, .unset, .unset, .unset, .unset] [(.int (own_v1 p1 p2))])) _
    refine XS.istore X0.here hx rfl (hb hby at_18) rfl (l' := #[.val (.int p1), .val (.int p2), .val (.int p3), .val (.int p4), .val (.int p5), .val (.int p6), .val (.int (own_v0 p1)), .val (.int (own_v1 p1 p2)), .unset, .unset, .unset, .unset, .unset, .unset, .unset, .unset, .unset, .unset, .unset]) rfl ?_
    show Steps p.tables e below (s₁.setTop (mkF m 20 #[.val (.int p1), .val (.int p2), .val (.int p3), .val (.int p4), .val (.int p5), .val (.int p6), .val (.int (own_v0 p1)), .val (.int (own_v1 p1 p2)), .unset, .unset, .unset, .unset, .unset, .unset, .unset, .unset, .unset, .unset, .unset] [])) _
    refine XS.iload X0.here hx rfl (hb hby at_20) rfl ?_
    show Steps p.tables e below (s₁.setTop (mkF m 22 #[.val (.int p1), .val (.int p2), .val (.int p3), .val (.int p4), .val (.int p5), .val (.int p6), .val (.int (own_v0 p1)), .val (.int (own_v1 p1 p2)), .unset, .unset, .unset, .unset, .unset, .unset, .unset, .unset, .unset, .unset, .unset] [(.int (own_v1 p1 p2))])) _
    refine XS.iconst X0.here hx rfl (hb hby at_22) ?_
    show Steps p.tables e below (s₁.setTop (mkF m 23 #[.val (.int p1), .val (.int p2), .val (.int p3), .val (.int p4), .val (.int p5), .val (.int p6), .val (.int (own_v0 p1)), .val (.int (own_v1 p1 p2)), .unset, .unset, .unset, .unset, .unset, .unset, .unset, .unset, .unset, .unset, .unset] [(.int (1 : Int32)), (.int (own_v1 p1 p2))])) _
    refine XS.iadd X0.here hx rfl (hb hby at_23) rfl ?_
    show Steps p.tables e below (s₁.setTop (mkF m 24 #[.val (.int p1), .val (.int p2), .val (.int p3), .val (.int p4), .val (.int p5), .val (.int p6), .val (.int (own_v0 p1)), .val (.int (own_v1 p1 p2)), .unset, .unset, .unset, .unset, .unset, .unset, .unset, .unset, .unset, .unset, .unset] [(.int ((own_v1 p1 p2) + (1 : Int32)))])) _
    refine XS.iloadN X0.here hx rfl (hb hby at_24) rfl ?_
    show Steps p.tables e below (s₁.setTop (mkF m 25 #[.val (.int p1), .val (.int p2), .val (.int p3), .val (.int p4), .val (.int p5), .val (.int p6), .val (.int (own_v0 p1)), .val (.int (own_v1 p1 p2)), .unset, .unset, .unset, .unset, .unset, .unset, .unset, .unset, .unset, .unset, .unset] [(.int p3), (.int ((own_v1 p1 p2) + (1 : Int32)))])) _
    refine X0.ldcInt hx hown (mvT hZ (hw _ (List.mem_of_getElem? (i := 1) rfl))) (g := (mkF m 25 #[.val (.int p1), .val (.int p2), .val (.int p3), .val (.int p4), .val (.int p5), .val (.int p6), .val (.int (own_v0 p1)), .val (.int (own_v1 p1 p2)), .unset, .unset, .unset, .unset, .unset, .unset, .unset, .unset, .unset, .unset, .unset] [(.int p3), (.int ((own_v1 p1 p2) + (1 : Int32)))])) rfl (hb hby at_25) _ ?_
    show Steps p.tables e below (s₁.setTop (mkF m 27 #[.val (.int p1), .val (.int p2), .val (.int p3), .val (.int p4), .val (.int p5), .val (.int p6), .val (.int (own_v0 p1)), .val (.int (own_v1 p1 p2)), .unset, .unset, .unset, .unset, .unset, .unset, .unset, .unset, .unset, .unset, .unset] [(.int (1073741823 : Int32)), (.int p3), (.int ((own_v1 p1 p2) + (1 : Int32)))])) _
    refine XS.iand X0.here hx rfl (hb hby at_27) rfl ?_
    show Steps p.tables e below (s₁.setTop (mkF m 28 #[.val (.int p1), .val (.int p2), .val (.int p3), .val (.int p4), .val (.int p5), .val (.int p6), .val (.int (own_v0 p1)), .val (.int (own_v1 p1 p2)), .unset, .unset, .unset, .unset, .unset, .unset, .unset, .unset, .unset, .unset, .unset] [(.int (p3 &&& (1073741823 : Int32))), (.int ((own_v1 p1 p2) + (1 : Int32)))])) _
    refine XS.iadd X0.here hx rfl (hb hby at_28) rfl ?_
    show Steps p.tables e below (s₁.setTop (mkF m 29 #[.val (.int p1), .val (.int p2), .val (.int p3), .val (.int p4), .val (.int p5), .val (.int p6), .val (.int (own_v0 p1)), .val (.int (own_v1 p1 p2)), .unset, .unset, .unset, .unset, .unset, .unset, .unset, .unset, .unset, .unset, .unset] [(.int (own_v2 p1 p2 p3))])) _
    refine XS.istore X0.here hx rfl (hb hby at_29) rfl (l' := #[.val (.int p1), .val (.int p2), .val (.int p3), .val (.int p4), .val (.int p5), .val (.int p6), .val (.int (own_v0 p1)), .val (.int (own_v1 p1 p2)), .val (.int (own_v2 p1 p2 p3)), .unset, .unset, .unset, .unset, .unset, .unset, .unset, .unset, .unset, .unset]) rfl ?_
    show Steps p.tables e below (s₁.setTop (mkF m 31 #[.val (.int p1), .val (.int p2), .val (.int p3), .val (.int p4), .val (.int p5), .val (.int p6), .val (.int (own_v0 p1)), .val (.int (own_v1 p1 p2)), .val (.int (own_v2 p1 p2 p3)), .unset, .unset, .unset, .unset, .unset, .unset, .unset, .unset, .unset, .unset] [])) _
    refine XS.iload X0.here hx rfl (hb hby at_31) rfl ?_
    show Steps p.tables e below (s₁.setTop (mkF m 33 #[.val (.int p1), .val (.int p2), .val (.int p3), .val (.int p4), .val (.int p5), .val (.int p6), .val (.int (own_v0 p1)), .val (.int (own_v1 p1 p2)), .val (.int (own_v2 p1 p2 p3)), .unset, .unset, .unset, .unset, .unset, .unset, .unset, .unset, .unset, .unset] [(.int (own_v2 p1 p2 p3))])) _
    refine XS.iconst X0.here hx rfl (hb hby at_33) ?_
    show Steps p.tables e below (s₁.setTop (mkF m 34 #[.val (.int p1), .val (.int p2), .val (.int p3), .val (.int p4), .val (.int p5), .val (.int p6), .val (.int (own_v0 p1)), .val (.int (own_v1 p1 p2)), .val (.int (own_v2 p1 p2 p3)), .unset, .unset, .unset, .unset, .unset, .unset, .unset, .unset, .unset, .unset] [(.int (1 : Int32)), (.int (own_v2 p1 p2 p3))])) _
    refine XS.iadd X0.here hx rfl (hb hby at_34) rfl ?_
    show Steps p.tables e below (s₁.setTop (mkF m 35 #[.val (.int p1), .val (.int p2), .val (.int p3), .val (.int p4), .val (.int p5), .val (.int p6), .val (.int (own_v0 p1)), .val (.int (own_v1 p1 p2)), .val (.int (own_v2 p1 p2 p3)), .unset, .unset, .unset, .unset, .unset, .unset, .unset, .unset, .unset, .unset] [(.int ((own_v2 p1 p2 p3) + (1 : Int32)))])) _
    refine XS.iloadN X0.here hx rfl (hb hby at_35) rfl ?_
    show Steps p.tables e below (s₁.setTop (mkF m 36 #[.val (.int p1), .val (.int p2), .val (.int p3), .val (.int p4), .val (.int p5), .val (.int p6), .val (.int (own_v0 p1)), .val (.int (own_v1 p1 p2)), .val (.int (own_v2 p1 p2 p3)), .unset, .unset, .unset, .unset, .unset, .unset, .unset, .unset, .unset, .unset] [(.int p4), (.int ((own_v2 p1 p2 p3) + (1 : Int32)))])) _
    refine X0.ldcInt hx hown (mvT hZ (hw _ (List.mem_of_getElem? (i := 2) rfl))) (g := (mkF m 36 #[.val (.int p1), .val (.int p2), .val (.int p3), .val (.int p4), .val (.int p5), .val (.int p6), .val (.int (own_v0 p1)), .val (.int (own_v1 p1 p2)), .val (.int (own_v2 p1 p2 p3)), .unset, .unset, .unset, .unset, .unset, .unset, .unset, .unset, .unset, .unset] [(.int p4), (.int ((own_v2 p1 p2 p3) + (1 : Int32)))])) rfl (hb hby at_36) _ ?_
    show Steps p.tables e below (s₁.setTop (mkF m 38 #[.val (.int p1), .val (.int p2), .val (.int p3), .val (.int p4), .val (.int p5), .val (.int p6), .val (.int (own_v0 p1)), .val (.int (own_v1 p1 p2)), .val (.int (own_v2 p1 p2 p3)), .unset, .unset, .unset, .unset, .unset, .unset, .unset, .unset, .unset, .unset] [(.int (1073741822 : Int32)), (.int p4), (.int ((own_v2 p1 p2 p3) + (1 : Int32)))])) _
    refine XS.iand X0.here hx rfl (hb hby at_38) rfl ?_
    show Steps p.tables e below (s₁.setTop (mkF m 39 #[.val (.int p1), .val (.int p2), .val (.int p3), .val (.int p4), .val (.int p5), .val (.int p6), .val (.int (own_v0 p1)), .val (.int (own_v1 p1 p2)), .val (.int (own_v2 p1 p2 p3)), .unset, .unset, .unset, .unset, .unset, .unset, .unset, .unset, .unset, .unset] [(.int (p4 &&& (1073741822 : Int32))), (.int ((own_v2 p1 p2 p3) + (1 : Int32)))])) _
    refine XS.iadd X0.here hx rfl (hb hby at_39) rfl ?_
    show Steps p.tables e below (s₁.setTop (mkF m 40 #[.val (.int p1), .val (.int p2), .val (.int p3), .val (.int p4), .val (.int p5), .val (.int p6), .val (.int (own_v0 p1)), .val (.int (own_v1 p1 p2)), .val (.int (own_v2 p1 p2 p3)), .unset, .unset, .unset, .unset, .unset, .unset, .unset, .unset, .unset, .unset] [(.int (own_v3 p1 p2 p3 p4))])) _
    refine XS.istore X0.here hx rfl (hb hby at_40) rfl (l' := #[.val (.int p1), .val (.int p2), .val (.int p3), .val (.int p4), .val (.int p5), .val (.int p6), .val (.int (own_v0 p1)), .val (.int (own_v1 p1 p2)), .val (.int (own_v2 p1 p2 p3)), .val (.int (own_v3 p1 p2 p3 p4)), .unset, .unset, .unset, .unset, .unset, .unset, .unset, .unset, .unset]) rfl ?_
    show Steps p.tables e below (s₁.setTop (mkF m 42 #[.val (.int p1), .val (.int p2), .val (.int p3), .val (.int p4), .val (.int p5), .val (.int p6), .val (.int (own_v0 p1)), .val (.int (own_v1 p1 p2)), .val (.int (own_v2 p1 p2 p3)), .val (.int (own_v3 p1 p2 p3 p4)), .unset, .unset, .unset, .unset, .unset, .unset, .unset, .unset, .unset] [])) _
    refine XS.iload X0.here hx rfl (hb hby at_42) rfl ?_
    show Steps p.tables e below (s₁.setTop (mkF m 44 #[.val (.int p1), .val (.int p2), .val (.int p3), .val (.int p4), .val (.int p5), .val (.int p6), .val (.int (own_v0 p1)), .val (.int (own_v1 p1 p2)), .val (.int (own_v2 p1 p2 p3)), .val (.int (own_v3 p1 p2 p3 p4)), .unset, .unset, .unset, .unset, .unset, .unset, .unset, .unset, .unset] [(.int p5)])) _
    refine XS.bipush X0.here hx rfl (hb hby at_44) ?_
    show Steps p.tables e below (s₁.setTop (mkF m 46 #[.val (.int p1), .val (.int p2), .val (.int p3), .val (.int p4), .val (.int p5), .val (.int p6), .val (.int (own_v0 p1)), .val (.int (own_v1 p1 p2)), .val (.int (own_v2 p1 p2 p3)), .val (.int (own_v3 p1 p2 p3 p4)), .unset, .unset, .unset, .unset, .unset, .unset, .unset, .unset, .unset] [(.int (15 : Int32)), (.int p5)])) _
    refine XS.iand X0.here hx rfl (hb hby at_46) rfl ?_
    show Steps p.tables e below (s₁.setTop (mkF m 47 #[.val (.int p1), .val (.int p2), .val (.int p3), .val (.int p4), .val (.int p5), .val (.int p6), .val (.int (own_v0 p1)), .val (.int (own_v1 p1 p2)), .val (.int (own_v2 p1 p2 p3)), .val (.int (own_v3 p1 p2 p3 p4)), .unset, .unset, .unset, .unset, .unset, .unset, .unset, .unset, .unset] [(.int (p5 &&& (15 : Int32)))])) _
    refine XS.istore X0.here hx rfl (hb hby at_47) rfl (l' := #[.val (.int p1), .val (.int p2), .val (.int p3), .val (.int p4), .val (.int p5), .val (.int p6), .val (.int (own_v0 p1)), .val (.int (own_v1 p1 p2)), .val (.int (own_v2 p1 p2 p3)), .val (.int (own_v3 p1 p2 p3 p4)), .val (.int (p5 &&& (15 : Int32))), .unset, .unset, .unset, .unset, .unset, .unset, .unset, .unset]) rfl ?_
    show Steps p.tables e below (s₁.setTop (mkF m 49 #[.val (.int p1), .val (.int p2), .val (.int p3), .val (.int p4), .val (.int p5), .val (.int p6), .val (.int (own_v0 p1)), .val (.int (own_v1 p1 p2)), .val (.int (own_v2 p1 p2 p3)), .val (.int (own_v3 p1 p2 p3 p4)), .val (.int (p5 &&& (15 : Int32))), .unset, .unset, .unset, .unset, .unset, .unset, .unset, .unset] [])) _
    refine XS.iload X0.here hx rfl (hb hby at_49) rfl ?_
    show Steps p.tables e below (s₁.setTop (mkF m 51 #[.val (.int p1), .val (.int p2), .val (.int p3), .val (.int p4), .val (.int p5), .val (.int p6), .val (.int (own_v0 p1)), .val (.int (own_v1 p1 p2)), .val (.int (own_v2 p1 p2 p3)), .val (.int (own_v3 p1 p2 p3 p4)), .val (.int (p5 &&& (15 : Int32))), .unset, .unset, .unset, .unset, .unset, .unset, .unset, .unset] [(.int p5)])) _
    refine XS.iconst X0.here hx rfl (hb hby at_51) ?_
    show Steps p.tables e below (s₁.setTop (mkF m 52 #[.val (.int p1), .val (.int p2), .val (.int p3), .val (.int p4), .val (.int p5), .val (.int p6), .val (.int (own_v0 p1)), .val (.int (own_v1 p1 p2)), .val (.int (own_v2 p1 p2 p3)), .val (.int (own_v3 p1 p2 p3 p4)), .val (.int (p5 &&& (15 : Int32))), .unset, .unset, .unset, .unset, .unset, .unset, .unset, .unset] [(.int (4 : Int32)), (.int p5)])) _
    refine XS.iushr X0.here hx rfl (hb hby at_52) rfl ?_
    show Steps p.tables e below (s₁.setTop (mkF m 53 #[.val (.int p1), .val (.int p2), .val (.int p3), .val (.int p4), .val (.int p5), .val (.int p6), .val (.int (own_v0 p1)), .val (.int (own_v1 p1 p2)), .val (.int (own_v2 p1 p2 p3)), .val (.int (own_v3 p1 p2 p3 p4)), .val (.int (p5 &&& (15 : Int32))), .unset, .unset, .unset, .unset, .unset, .unset, .unset, .unset] [(.int ((p5.toUInt32 >>> ((4 : Int32) &&& 31).toUInt32).toInt32))])) _
    refine XS.bipush X0.here hx rfl (hb hby at_53) ?_
    show Steps p.tables e below (s₁.setTop (mkF m 55 #[.val (.int p1), .val (.int p2), .val (.int p3), .val (.int p4), .val (.int p5), .val (.int p6), .val (.int (own_v0 p1)), .val (.int (own_v1 p1 p2)), .val (.int (own_v2 p1 p2 p3)), .val (.int (own_v3 p1 p2 p3 p4)), .val (.int (p5 &&& (15 : Int32))), .unset, .unset, .unset, .unset, .unset, .unset, .unset, .unset] [(.int (15 : Int32)), (.int ((p5.toUInt32 >>> ((4 : Int32) &&& 31).toUInt32).toInt32))])) _
    refine XS.iand X0.here hx rfl (hb hby at_55) rfl ?_
    show Steps p.tables e below (s₁.setTop (mkF m 56 #[.val (.int p1), .val (.int p2), .val (.int p3), .val (.int p4), .val (.int p5), .val (.int p6), .val (.int (own_v0 p1)), .val (.int (own_v1 p1 p2)), .val (.int (own_v2 p1 p2 p3)), .val (.int (own_v3 p1 p2 p3 p4)), .val (.int (p5 &&& (15 : Int32))), .unset, .unset, .unset, .unset, .unset, .unset, .unset, .unset] [(.int (own_om p5))])) _
    refine XS.istore X0.here hx rfl (hb hby at_56) rfl (l' := #[.val (.int p1), .val (.int p2), .val (.int p3), .val (.int p4), .val (.int p5), .val (.int p6), .val (.int (own_v0 p1)), .val (.int (own_v1 p1 p2)), .val (.int (own_v2 p1 p2 p3)), .val (.int (own_v3 p1 p2 p3 p4)), .val (.int (p5 &&& (15 : Int32))), .val (.int (own_om p5)), .unset, .unset, .unset, .unset, .unset, .unset, .unset]) rfl ?_
    show Steps p.tables e below (s₁.setTop (mkF m 58 #[.val (.int p1), .val (.int p2), .val (.int p3), .val (.int p4), .val (.int p5), .val (.int p6), .val (.int (own_v0 p1)), .val (.int (own_v1 p1 p2)), .val (.int (own_v2 p1 p2 p3)), .val (.int (own_v3 p1 p2 p3 p4)), .val (.int (p5 &&& (15 : Int32))), .val (.int (own_om p5)), .unset, .unset, .unset, .unset, .unset, .unset, .unset] [])) _
    refine XS.iload X0.here hx rfl (hb hby at_58) rfl ?_
    show Steps p.tables e below (s₁.setTop (mkF m 60 #[.val (.int p1), .val (.int p2), .val (.int p3), .val (.int p4), .val (.int p5), .val (.int p6), .val (.int (own_v0 p1)), .val (.int (own_v1 p1 p2)), .val (.int (own_v2 p1 p2 p3)), .val (.int (own_v3 p1 p2 p3 p4)), .val (.int (p5 &&& (15 : Int32))), .val (.int (own_om p5)), .unset, .unset, .unset, .unset, .unset, .unset, .unset] [(.int p5)])) _
    refine XS.bipush X0.here hx rfl (hb hby at_60) ?_
    show Steps p.tables e below (s₁.setTop (mkF m 62 #[.val (.int p1), .val (.int p2), .val (.int p3), .val (.int p4), .val (.int p5), .val (.int p6), .val (.int (own_v0 p1)), .val (.int (own_v1 p1 p2)), .val (.int (own_v2 p1 p2 p3)), .val (.int (own_v3 p1 p2 p3 p4)), .val (.int (p5 &&& (15 : Int32))), .val (.int (own_om p5)), .unset, .unset, .unset, .unset, .unset, .unset, .unset] [(.int (8 : Int32)), (.int p5)])) _
    refine XS.iushr X0.here hx rfl (hb hby at_62) rfl ?_
    show Steps p.tables e below (s₁.setTop (mkF m 63 #[.val (.int p1), .val (.int p2), .val (.int p3), .val (.int p4), .val (.int p5), .val (.int p6), .val (.int (own_v0 p1)), .val (.int (own_v1 p1 p2)), .val (.int (own_v2 p1 p2 p3)), .val (.int (own_v3 p1 p2 p3 p4)), .val (.int (p5 &&& (15 : Int32))), .val (.int (own_om p5)), .unset, .unset, .unset, .unset, .unset, .unset, .unset] [(.int ((p5.toUInt32 >>> ((8 : Int32) &&& 31).toUInt32).toInt32))])) _
    refine XS.iconst X0.here hx rfl (hb hby at_63) ?_
    show Steps p.tables e below (s₁.setTop (mkF m 64 #[.val (.int p1), .val (.int p2), .val (.int p3), .val (.int p4), .val (.int p5), .val (.int p6), .val (.int (own_v0 p1)), .val (.int (own_v1 p1 p2)), .val (.int (own_v2 p1 p2 p3)), .val (.int (own_v3 p1 p2 p3 p4)), .val (.int (p5 &&& (15 : Int32))), .val (.int (own_om p5)), .unset, .unset, .unset, .unset, .unset, .unset, .unset] [(.int (3 : Int32)), (.int ((p5.toUInt32 >>> ((8 : Int32) &&& 31).toUInt32).toInt32))])) _
    refine XS.iand X0.here hx rfl (hb hby at_64) rfl ?_
    show Steps p.tables e below (s₁.setTop (mkF m 65 #[.val (.int p1), .val (.int p2), .val (.int p3), .val (.int p4), .val (.int p5), .val (.int p6), .val (.int (own_v0 p1)), .val (.int (own_v1 p1 p2)), .val (.int (own_v2 p1 p2 p3)), .val (.int (own_v3 p1 p2 p3 p4)), .val (.int (p5 &&& (15 : Int32))), .val (.int (own_om p5)), .unset, .unset, .unset, .unset, .unset, .unset, .unset] [(.int (own_fr p5))])) _
    refine XS.istore X0.here hx rfl (hb hby at_65) rfl (l' := #[.val (.int p1), .val (.int p2), .val (.int p3), .val (.int p4), .val (.int p5), .val (.int p6), .val (.int (own_v0 p1)), .val (.int (own_v1 p1 p2)), .val (.int (own_v2 p1 p2 p3)), .val (.int (own_v3 p1 p2 p3 p4)), .val (.int (p5 &&& (15 : Int32))), .val (.int (own_om p5)), .val (.int (own_fr p5)), .unset, .unset, .unset, .unset, .unset, .unset]) rfl ?_
    show Steps p.tables e below (s₁.setTop (mkF m 67 #[.val (.int p1), .val (.int p2), .val (.int p3), .val (.int p4), .val (.int p5), .val (.int p6), .val (.int (own_v0 p1)), .val (.int (own_v1 p1 p2)), .val (.int (own_v2 p1 p2 p3)), .val (.int (own_v3 p1 p2 p3 p4)), .val (.int (p5 &&& (15 : Int32))), .val (.int (own_om p5)), .val (.int (own_fr p5)), .unset, .unset, .unset, .unset, .unset, .unset] [])) _
    refine XS.iload X0.here hx rfl (hb hby at_67) rfl ?_
    show Steps p.tables e below (s₁.setTop (mkF m 69 #[.val (.int p1), .val (.int p2), .val (.int p3), .val (.int p4), .val (.int p5), .val (.int p6), .val (.int (own_v0 p1)), .val (.int (own_v1 p1 p2)), .val (.int (own_v2 p1 p2 p3)), .val (.int (own_v3 p1 p2 p3 p4)), .val (.int (p5 &&& (15 : Int32))), .val (.int (own_om p5)), .val (.int (own_fr p5)), .unset, .unset, .unset, .unset, .unset, .unset] [(.int p5)])) _
    refine XS.bipush X0.here hx rfl (hb hby at_69) ?_
    show Steps p.tables e below (s₁.setTop (mkF m 71 #[.val (.int p1), .val (.int p2), .val (.int p3), .val (.int p4), .val (.int p5), .val (.int p6), .val (.int (own_v0 p1)), .val (.int (own_v1 p1 p2)), .val (.int (own_v2 p1 p2 p3)), .val (.int (own_v3 p1 p2 p3 p4)), .val (.int (p5 &&& (15 : Int32))), .val (.int (own_om p5)), .val (.int (own_fr p5)), .unset, .unset, .unset, .unset, .unset, .unset] [(.int (10 : Int32)), (.int p5)])) _
    refine XS.iushr X0.here hx rfl (hb hby at_71) rfl ?_
    show Steps p.tables e below (s₁.setTop (mkF m 72 #[.val (.int p1), .val (.int p2), .val (.int p3), .val (.int p4), .val (.int p5), .val (.int p6), .val (.int (own_v0 p1)), .val (.int (own_v1 p1 p2)), .val (.int (own_v2 p1 p2 p3)), .val (.int (own_v3 p1 p2 p3 p4)), .val (.int (p5 &&& (15 : Int32))), .val (.int (own_om p5)), .val (.int (own_fr p5)), .unset, .unset, .unset, .unset, .unset, .unset] [(.int ((p5.toUInt32 >>> ((10 : Int32) &&& 31).toUInt32).toInt32))])) _
    refine XS.iconst X0.here hx rfl (hb hby at_72) ?_
    show Steps p.tables e below (s₁.setTop (mkF m 73 #[.val (.int p1), .val (.int p2), .val (.int p3), .val (.int p4), .val (.int p5), .val (.int p6), .val (.int (own_v0 p1)), .val (.int (own_v1 p1 p2)), .val (.int (own_v2 p1 p2 p3)), .val (.int (own_v3 p1 p2 p3 p4)), .val (.int (p5 &&& (15 : Int32))), .val (.int (own_om p5)), .val (.int (own_fr p5)), .unset, .unset, .unset, .unset, .unset, .unset] [(.int (3 : Int32)), (.int ((p5.toUInt32 >>> ((10 : Int32) &&& 31).toUInt32).toInt32))])) _
    refine XS.iand X0.here hx rfl (hb hby at_73) rfl ?_
    show Steps p.tables e below (s₁.setTop (mkF m 74 #[.val (.int p1), .val (.int p2), .val (.int p3), .val (.int p4), .val (.int p5), .val (.int p6), .val (.int (own_v0 p1)), .val (.int (own_v1 p1 p2)), .val (.int (own_v2 p1 p2 p3)), .val (.int (own_v3 p1 p2 p3 p4)), .val (.int (p5 &&& (15 : Int32))), .val (.int (own_om p5)), .val (.int (own_fr p5)), .unset, .unset, .unset, .unset, .unset, .unset] [(.int (own_of p5))])) _
    refine XS.istore X0.here hx rfl (hb hby at_74) rfl (l' := #[.val (.int p1), .val (.int p2), .val (.int p3), .val (.int p4), .val (.int p5), .val (.int p6), .val (.int (own_v0 p1)), .val (.int (own_v1 p1 p2)), .val (.int (own_v2 p1 p2 p3)), .val (.int (own_v3 p1 p2 p3 p4)), .val (.int (p5 &&& (15 : Int32))), .val (.int (own_om p5)), .val (.int (own_fr p5)), .val (.int (own_of p5)), .unset, .unset, .unset, .unset, .unset]) rfl ?_
    show Steps p.tables e below (s₁.setTop (mkF m 76 #[.val (.int p1), .val (.int p2), .val (.int p3), .val (.int p4), .val (.int p5), .val (.int p6), .val (.int (own_v0 p1)), .val (.int (own_v1 p1 p2)), .val (.int (own_v2 p1 p2 p3)), .val (.int (own_v3 p1 p2 p3 p4)), .val (.int (p5 &&& (15 : Int32))), .val (.int (own_om p5)), .val (.int (own_fr p5)), .val (.int (own_of p5)), .unset, .unset, .unset, .unset, .unset] [])) _
    refine XS.bipush X0.here hx rfl (hb hby at_76) ?_
    show Steps p.tables e below (s₁.setTop (mkF m 78 #[.val (.int p1), .val (.int p2), .val (.int p3), .val (.int p4), .val (.int p5), .val (.int p6), .val (.int (own_v0 p1)), .val (.int (own_v1 p1 p2)), .val (.int (own_v2 p1 p2 p3)), .val (.int (own_v3 p1 p2 p3 p4)), .val (.int (p5 &&& (15 : Int32))), .val (.int (own_om p5)), .val (.int (own_fr p5)), .val (.int (own_of p5)), .unset, .unset, .unset, .unset, .unset] [(.int (8 : Int32))])) _
    refine st7 _ ?_
    show Steps p.tables e below (T7.setTop (mkF m 80 #[.val (.int p1), .val (.int p2), .val (.int p3), .val (.int p4), .val (.int p5), .val (.int p6), .val (.int (own_v0 p1)), .val (.int (own_v1 p1 p2)), .val (.int (own_v2 p1 p2 p3)), .val (.int (own_v3 p1 p2 p3 p4)), .val (.int (p5 &&& (15 : Int32))), .val (.int (own_om p5)), .val (.int (own_fr p5)), .val (.int (own_of p5)), .unset, .unset, .unset, .unset, .unset] [(.ref b7)])) _
    refine XS.dup X7.here hx rfl (hb hby at_80) rfl rfl ?_
    show Steps p.tables e below (T7.setTop (mkF m 81 #[.val (.int p1), .val (.int p2), .val (.int p3), .val (.int p4), .val (.int p5), .val (.int p6), .val (.int (own_v0 p1)), .val (.int (own_v1 p1 p2)), .val (.int (own_v2 p1 p2 p3)), .val (.int (own_v3 p1 p2 p3 p4)), .val (.int (p5 &&& (15 : Int32))), .val (.int (own_om p5)), .val (.int (own_fr p5)), .val (.int (own_of p5)), .unset, .unset, .unset, .unset, .unset] [(.ref b7), (.ref b7)])) _
    refine XS.iconst X7.here hx rfl (hb hby at_81) ?_
    show Steps p.tables e below (T7.setTop (mkF m 82 #[.val (.int p1), .val (.int p2), .val (.int p3), .val (.int p4), .val (.int p5), .val (.int p6), .val (.int (own_v0 p1)), .val (.int (own_v1 p1 p2)), .val (.int (own_v2 p1 p2 p3)), .val (.int (own_v3 p1 p2 p3 p4)), .val (.int (p5 &&& (15 : Int32))), .val (.int (own_om p5)), .val (.int (own_fr p5)), .val (.int (own_of p5)), .unset, .unset, .unset, .unset, .unset] [(.int (0 : Int32)), (.ref b7), (.ref b7)])) _
    refine XS.iload X7.here hx rfl (hb hby at_82) rfl ?_
    show Steps p.tables e below (T7.setTop (mkF m 84 #[.val (.int p1), .val (.int p2), .val (.int p3), .val (.int p4), .val (.int p5), .val (.int p6), .val (.int (own_v0 p1)), .val (.int (own_v1 p1 p2)), .val (.int (own_v2 p1 p2 p3)), .val (.int (own_v3 p1 p2 p3 p4)), .val (.int (p5 &&& (15 : Int32))), .val (.int (own_om p5)), .val (.int (own_fr p5)), .val (.int (own_of p5)), .unset, .unset, .unset, .unset, .unset] [(.int p6), (.int (0 : Int32)), (.ref b7), (.ref b7)])) _
    refine st8 _ ?_
    show Steps p.tables e below (T8.setTop (mkF m 85 #[.val (.int p1), .val (.int p2), .val (.int p3), .val (.int p4), .val (.int p5), .val (.int p6), .val (.int (own_v0 p1)), .val (.int (own_v1 p1 p2)), .val (.int (own_v2 p1 p2 p3)), .val (.int (own_v3 p1 p2 p3 p4)), .val (.int (p5 &&& (15 : Int32))), .val (.int (own_om p5)), .val (.int (own_fr p5)), .val (.int (own_of p5)), .unset, .unset, .unset, .unset, .unset] [(.ref b7)])) _
    refine XS.dup X8.here hx rfl (hb hby at_85) rfl rfl ?_
    show Steps p.tables e below (T8.setTop (mkF m 86 #[.val (.int p1), .val (.int p2), .val (.int p3), .val (.int p4), .val (.int p5), .val (.int p6), .val (.int (own_v0 p1)), .val (.int (own_v1 p1 p2)), .val (.int (own_v2 p1 p2 p3)), .val (.int (own_v3 p1 p2 p3 p4)), .val (.int (p5 &&& (15 : Int32))), .val (.int (own_om p5)), .val (.int (own_fr p5)), .val (.int (own_of p5)), .unset, .unset, .unset, .unset, .unset] [(.ref b7), (.ref b7)])) _
    refine XS.iconst X8.here hx rfl (hb hby at_86) ?_
    show Steps p.tables e below (T8.setTop (mkF m 87 #[.val (.int p1), .val (.int p2), .val (.int p3), .val (.int p4), .val (.int p5), .val (.int p6), .val (.int (own_v0 p1)), .val (.int (own_v1 p1 p2)), .val (.int (own_v2 p1 p2 p3)), .val (.int (own_v3 p1 p2 p3 p4)), .val (.int (p5 &&& (15 : Int32))), .val (.int (own_om p5)), .val (.int (own_fr p5)), .val (.int (own_of p5)), .unset, .unset, .unset, .unset, .unset] [(.int (1 : Int32)), (.ref b7), (.ref b7)])) _
    refine XS.iload X8.here hx rfl (hb hby at_87) rfl ?_
    show Steps p.tables e below (T8.setTop (mkF m 89 #[.val (.int p1), .val (.int p2), .val (.int p3), .val (.int p4), .val (.int p5), .val (.int p6), .val (.int (own_v0 p1)), .val (.int (own_v1 p1 p2)), .val (.int (own_v2 p1 p2 p3)), .val (.int (own_v3 p1 p2 p3 p4)), .val (.int (p5 &&& (15 : Int32))), .val (.int (own_om p5)), .val (.int (own_fr p5)), .val (.int (own_of p5)), .unset, .unset, .unset, .unset, .unset] [(.int p6), (.int (1 : Int32)), (.ref b7), (.ref b7)])) _
    refine st9 _ ?_
    show Steps p.tables e below (T9.setTop (mkF m 90 #[.val (.int p1), .val (.int p2), .val (.int p3), .val (.int p4), .val (.int p5), .val (.int p6), .val (.int (own_v0 p1)), .val (.int (own_v1 p1 p2)), .val (.int (own_v2 p1 p2 p3)), .val (.int (own_v3 p1 p2 p3 p4)), .val (.int (p5 &&& (15 : Int32))), .val (.int (own_om p5)), .val (.int (own_fr p5)), .val (.int (own_of p5)), .unset, .unset, .unset, .unset, .unset] [(.ref b7)])) _
    refine XS.dup X9.here hx rfl (hb hby at_90) rfl rfl ?_
    show Steps p.tables e below (T9.setTop (mkF m 91 #[.val (.int p1), .val (.int p2), .val (.int p3), .val (.int p4), .val (.int p5), .val (.int p6), .val (.int (own_v0 p1)), .val (.int (own_v1 p1 p2)), .val (.int (own_v2 p1 p2 p3)), .val (.int (own_v3 p1 p2 p3 p4)), .val (.int (p5 &&& (15 : Int32))), .val (.int (own_om p5)), .val (.int (own_fr p5)), .val (.int (own_of p5)), .unset, .unset, .unset, .unset, .unset] [(.ref b7), (.ref b7)])) _
    refine XS.iconst X9.here hx rfl (hb hby at_91) ?_
    show Steps p.tables e below (T9.setTop (mkF m 92 #[.val (.int p1), .val (.int p2), .val (.int p3), .val (.int p4), .val (.int p5), .val (.int p6), .val (.int (own_v0 p1)), .val (.int (own_v1 p1 p2)), .val (.int (own_v2 p1 p2 p3)), .val (.int (own_v3 p1 p2 p3 p4)), .val (.int (p5 &&& (15 : Int32))), .val (.int (own_om p5)), .val (.int (own_fr p5)), .val (.int (own_of p5)), .unset, .unset, .unset, .unset, .unset] [(.int (2 : Int32)), (.ref b7), (.ref b7)])) _
    refine XS.iload X9.here hx rfl (hb hby at_92) rfl ?_
    show Steps p.tables e below (T9.setTop (mkF m 94 #[.val (.int p1), .val (.int p2), .val (.int p3), .val (.int p4), .val (.int p5), .val (.int p6), .val (.int (own_v0 p1)), .val (.int (own_v1 p1 p2)), .val (.int (own_v2 p1 p2 p3)), .val (.int (own_v3 p1 p2 p3 p4)), .val (.int (p5 &&& (15 : Int32))), .val (.int (own_om p5)), .val (.int (own_fr p5)), .val (.int (own_of p5)), .unset, .unset, .unset, .unset, .unset] [(.int p6), (.int (2 : Int32)), (.ref b7), (.ref b7)])) _
    refine st10 _ ?_
    show Steps p.tables e below (T10.setTop (mkF m 95 #[.val (.int p1), .val (.int p2), .val (.int p3), .val (.int p4), .val (.int p5), .val (.int p6), .val (.int (own_v0 p1)), .val (.int (own_v1 p1 p2)), .val (.int (own_v2 p1 p2 p3)), .val (.int (own_v3 p1 p2 p3 p4)), .val (.int (p5 &&& (15 : Int32))), .val (.int (own_om p5)), .val (.int (own_fr p5)), .val (.int (own_of p5)), .unset, .unset, .unset, .unset, .unset] [(.ref b7)])) _
    refine XS.dup X10.here hx rfl (hb hby at_95) rfl rfl ?_
    show Steps p.tables e below (T10.setTop (mkF m 96 #[.val (.int p1), .val (.int p2), .val (.int p3), .val (.int p4), .val (.int p5), .val (.int p6), .val (.int (own_v0 p1)), .val (.int (own_v1 p1 p2)), .val (.int (own_v2 p1 p2 p3)), .val (.int (own_v3 p1 p2 p3 p4)), .val (.int (p5 &&& (15 : Int32))), .val (.int (own_om p5)), .val (.int (own_fr p5)), .val (.int (own_of p5)), .unset, .unset, .unset, .unset, .unset] [(.ref b7), (.ref b7)])) _
    refine XS.iconst X10.here hx rfl (hb hby at_96) ?_
    show Steps p.tables e below (T10.setTop (mkF m 97 #[.val (.int p1), .val (.int p2), .val (.int p3), .val (.int p4), .val (.int p5), .val (.int p6), .val (.int (own_v0 p1)), .val (.int (own_v1 p1 p2)), .val (.int (own_v2 p1 p2 p3)), .val (.int (own_v3 p1 p2 p3 p4)), .val (.int (p5 &&& (15 : Int32))), .val (.int (own_om p5)), .val (.int (own_fr p5)), .val (.int (own_of p5)), .unset, .unset, .unset, .unset, .unset] [(.int (3 : Int32)), (.ref b7), (.ref b7)])) _
    refine XS.iload X10.here hx rfl (hb hby at_97) rfl ?_
    show Steps p.tables e below (T10.setTop (mkF m 99 #[.val (.int p1), .val (.int p2), .val (.int p3), .val (.int p4), .val (.int p5), .val (.int p6), .val (.int (own_v0 p1)), .val (.int (own_v1 p1 p2)), .val (.int (own_v2 p1 p2 p3)), .val (.int (own_v3 p1 p2 p3 p4)), .val (.int (p5 &&& (15 : Int32))), .val (.int (own_om p5)), .val (.int (own_fr p5)), .val (.int (own_of p5)), .unset, .unset, .unset, .unset, .unset] [(.int p6), (.int (3 : Int32)), (.ref b7), (.ref b7)])) _
    refine st11 _ ?_
    show Steps p.tables e below (T11.setTop (mkF m 100 #[.val (.int p1), .val (.int p2), .val (.int p3), .val (.int p4), .val (.int p5), .val (.int p6), .val (.int (own_v0 p1)), .val (.int (own_v1 p1 p2)), .val (.int (own_v2 p1 p2 p3)), .val (.int (own_v3 p1 p2 p3 p4)), .val (.int (p5 &&& (15 : Int32))), .val (.int (own_om p5)), .val (.int (own_fr p5)), .val (.int (own_of p5)), .unset, .unset, .unset, .unset, .unset] [(.ref b7)])) _
    refine XS.dup X11.here hx rfl (hb hby at_100) rfl rfl ?_
    show Steps p.tables e below (T11.setTop (mkF m 101 #[.val (.int p1), .val (.int p2), .val (.int p3), .val (.int p4), .val (.int p5), .val (.int p6), .val (.int (own_v0 p1)), .val (.int (own_v1 p1 p2)), .val (.int (own_v2 p1 p2 p3)), .val (.int (own_v3 p1 p2 p3 p4)), .val (.int (p5 &&& (15 : Int32))), .val (.int (own_om p5)), .val (.int (own_fr p5)), .val (.int (own_of p5)), .unset, .unset, .unset, .unset, .unset] [(.ref b7), (.ref b7)])) _
    refine XS.iconst X11.here hx rfl (hb hby at_101) ?_
    show Steps p.tables e below (T11.setTop (mkF m 102 #[.val (.int p1), .val (.int p2), .val (.int p3), .val (.int p4), .val (.int p5), .val (.int p6), .val (.int (own_v0 p1)), .val (.int (own_v1 p1 p2)), .val (.int (own_v2 p1 p2 p3)), .val (.int (own_v3 p1 p2 p3 p4)), .val (.int (p5 &&& (15 : Int32))), .val (.int (own_om p5)), .val (.int (own_fr p5)), .val (.int (own_of p5)), .unset, .unset, .unset, .unset, .unset] [(.int (4 : Int32)), (.ref b7), (.ref b7)])) _
    refine XS.iload X11.here hx rfl (hb hby at_102) rfl ?_
    show Steps p.tables e below (T11.setTop (mkF m 104 #[.val (.int p1), .val (.int p2), .val (.int p3), .val (.int p4), .val (.int p5), .val (.int p6), .val (.int (own_v0 p1)), .val (.int (own_v1 p1 p2)), .val (.int (own_v2 p1 p2 p3)), .val (.int (own_v3 p1 p2 p3 p4)), .val (.int (p5 &&& (15 : Int32))), .val (.int (own_om p5)), .val (.int (own_fr p5)), .val (.int (own_of p5)), .unset, .unset, .unset, .unset, .unset] [(.int p6), (.int (4 : Int32)), (.ref b7), (.ref b7)])) _
    refine st12 _ ?_
    show Steps p.tables e below (T12.setTop (mkF m 105 #[.val (.int p1), .val (.int p2), .val (.int p3), .val (.int p4), .val (.int p5), .val (.int p6), .val (.int (own_v0 p1)), .val (.int (own_v1 p1 p2)), .val (.int (own_v2 p1 p2 p3)), .val (.int (own_v3 p1 p2 p3 p4)), .val (.int (p5 &&& (15 : Int32))), .val (.int (own_om p5)), .val (.int (own_fr p5)), .val (.int (own_of p5)), .unset, .unset, .unset, .unset, .unset] [(.ref b7)])) _
    refine XS.dup X12.here hx rfl (hb hby at_105) rfl rfl ?_
    show Steps p.tables e below (T12.setTop (mkF m 106 #[.val (.int p1), .val (.int p2), .val (.int p3), .val (.int p4), .val (.int p5), .val (.int p6), .val (.int (own_v0 p1)), .val (.int (own_v1 p1 p2)), .val (.int (own_v2 p1 p2 p3)), .val (.int (own_v3 p1 p2 p3 p4)), .val (.int (p5 &&& (15 : Int32))), .val (.int (own_om p5)), .val (.int (own_fr p5)), .val (.int (own_of p5)), .unset, .unset, .unset, .unset, .unset] [(.ref b7), (.ref b7)])) _
    refine XS.iconst X12.here hx rfl (hb hby at_106) ?_
    show Steps p.tables e below (T12.setTop (mkF m 107 #[.val (.int p1), .val (.int p2), .val (.int p3), .val (.int p4), .val (.int p5), .val (.int p6), .val (.int (own_v0 p1)), .val (.int (own_v1 p1 p2)), .val (.int (own_v2 p1 p2 p3)), .val (.int (own_v3 p1 p2 p3 p4)), .val (.int (p5 &&& (15 : Int32))), .val (.int (own_om p5)), .val (.int (own_fr p5)), .val (.int (own_of p5)), .unset, .unset, .unset, .unset, .unset] [(.int (5 : Int32)), (.ref b7), (.ref b7)])) _
    refine XS.iload X12.here hx rfl (hb hby at_107) rfl ?_
    show Steps p.tables e below (T12.setTop (mkF m 109 #[.val (.int p1), .val (.int p2), .val (.int p3), .val (.int p4), .val (.int p5), .val (.int p6), .val (.int (own_v0 p1)), .val (.int (own_v1 p1 p2)), .val (.int (own_v2 p1 p2 p3)), .val (.int (own_v3 p1 p2 p3 p4)), .val (.int (p5 &&& (15 : Int32))), .val (.int (own_om p5)), .val (.int (own_fr p5)), .val (.int (own_of p5)), .unset, .unset, .unset, .unset, .unset] [(.int p6), (.int (5 : Int32)), (.ref b7), (.ref b7)])) _
    refine st13 _ ?_
    show Steps p.tables e below (T13.setTop (mkF m 110 #[.val (.int p1), .val (.int p2), .val (.int p3), .val (.int p4), .val (.int p5), .val (.int p6), .val (.int (own_v0 p1)), .val (.int (own_v1 p1 p2)), .val (.int (own_v2 p1 p2 p3)), .val (.int (own_v3 p1 p2 p3 p4)), .val (.int (p5 &&& (15 : Int32))), .val (.int (own_om p5)), .val (.int (own_fr p5)), .val (.int (own_of p5)), .unset, .unset, .unset, .unset, .unset] [(.ref b7)])) _
    refine XS.dup X13.here hx rfl (hb hby at_110) rfl rfl ?_
    show Steps p.tables e below (T13.setTop (mkF m 111 #[.val (.int p1), .val (.int p2), .val (.int p3), .val (.int p4), .val (.int p5), .val (.int p6), .val (.int (own_v0 p1)), .val (.int (own_v1 p1 p2)), .val (.int (own_v2 p1 p2 p3)), .val (.int (own_v3 p1 p2 p3 p4)), .val (.int (p5 &&& (15 : Int32))), .val (.int (own_om p5)), .val (.int (own_fr p5)), .val (.int (own_of p5)), .unset, .unset, .unset, .unset, .unset] [(.ref b7), (.ref b7)])) _
    refine XS.bipush X13.here hx rfl (hb hby at_111) ?_
    show Steps p.tables e below (T13.setTop (mkF m 113 #[.val (.int p1), .val (.int p2), .val (.int p3), .val (.int p4), .val (.int p5), .val (.int p6), .val (.int (own_v0 p1)), .val (.int (own_v1 p1 p2)), .val (.int (own_v2 p1 p2 p3)), .val (.int (own_v3 p1 p2 p3 p4)), .val (.int (p5 &&& (15 : Int32))), .val (.int (own_om p5)), .val (.int (own_fr p5)), .val (.int (own_of p5)), .unset, .unset, .unset, .unset, .unset] [(.int (6 : Int32)), (.ref b7), (.ref b7)])) _
    refine XS.iload X13.here hx rfl (hb hby at_113) rfl ?_
    show Steps p.tables e below (T13.setTop (mkF m 115 #[.val (.int p1), .val (.int p2), .val (.int p3), .val (.int p4), .val (.int p5), .val (.int p6), .val (.int (own_v0 p1)), .val (.int (own_v1 p1 p2)), .val (.int (own_v2 p1 p2 p3)), .val (.int (own_v3 p1 p2 p3 p4)), .val (.int (p5 &&& (15 : Int32))), .val (.int (own_om p5)), .val (.int (own_fr p5)), .val (.int (own_of p5)), .unset, .unset, .unset, .unset, .unset] [(.int p6), (.int (6 : Int32)), (.ref b7), (.ref b7)])) _
    refine st14 _ ?_
    show Steps p.tables e below (T14.setTop (mkF m 116 #[.val (.int p1), .val (.int p2), .val (.int p3), .val (.int p4), .val (.int p5), .val (.int p6), .val (.int (own_v0 p1)), .val (.int (own_v1 p1 p2)), .val (.int (own_v2 p1 p2 p3)), .val (.int (own_v3 p1 p2 p3 p4)), .val (.int (p5 &&& (15 : Int32))), .val (.int (own_om p5)), .val (.int (own_fr p5)), .val (.int (own_of p5)), .unset, .unset, .unset, .unset, .unset] [(.ref b7)])) _
    refine XS.dup X14.here hx rfl (hb hby at_116) rfl rfl ?_
    show Steps p.tables e below (T14.setTop (mkF m 117 #[.val (.int p1), .val (.int p2), .val (.int p3), .val (.int p4), .val (.int p5), .val (.int p6), .val (.int (own_v0 p1)), .val (.int (own_v1 p1 p2)), .val (.int (own_v2 p1 p2 p3)), .val (.int (own_v3 p1 p2 p3 p4)), .val (.int (p5 &&& (15 : Int32))), .val (.int (own_om p5)), .val (.int (own_fr p5)), .val (.int (own_of p5)), .unset, .unset, .unset, .unset, .unset] [(.ref b7), (.ref b7)])) _
    refine XS.bipush X14.here hx rfl (hb hby at_117) ?_
    show Steps p.tables e below (T14.setTop (mkF m 119 #[.val (.int p1), .val (.int p2), .val (.int p3), .val (.int p4), .val (.int p5), .val (.int p6), .val (.int (own_v0 p1)), .val (.int (own_v1 p1 p2)), .val (.int (own_v2 p1 p2 p3)), .val (.int (own_v3 p1 p2 p3 p4)), .val (.int (p5 &&& (15 : Int32))), .val (.int (own_om p5)), .val (.int (own_fr p5)), .val (.int (own_of p5)), .unset, .unset, .unset, .unset, .unset] [(.int (7 : Int32)), (.ref b7), (.ref b7)])) _
    refine XS.iload X14.here hx rfl (hb hby at_119) rfl ?_
    show Steps p.tables e below (T14.setTop (mkF m 121 #[.val (.int p1), .val (.int p2), .val (.int p3), .val (.int p4), .val (.int p5), .val (.int p6), .val (.int (own_v0 p1)), .val (.int (own_v1 p1 p2)), .val (.int (own_v2 p1 p2 p3)), .val (.int (own_v3 p1 p2 p3 p4)), .val (.int (p5 &&& (15 : Int32))), .val (.int (own_om p5)), .val (.int (own_fr p5)), .val (.int (own_of p5)), .unset, .unset, .unset, .unset, .unset] [(.int p6), (.int (7 : Int32)), (.ref b7), (.ref b7)])) _
    refine st15 _ ?_
    show Steps p.tables e below (T15.setTop (mkF m 122 #[.val (.int p1), .val (.int p2), .val (.int p3), .val (.int p4), .val (.int p5), .val (.int p6), .val (.int (own_v0 p1)), .val (.int (own_v1 p1 p2)), .val (.int (own_v2 p1 p2 p3)), .val (.int (own_v3 p1 p2 p3 p4)), .val (.int (p5 &&& (15 : Int32))), .val (.int (own_om p5)), .val (.int (own_fr p5)), .val (.int (own_of p5)), .unset, .unset, .unset, .unset, .unset] [(.ref b7)])) _
    refine XS.astore X15.here hx rfl (hb hby at_122) rfl rfl (l' := #[.val (.int p1), .val (.int p2), .val (.int p3), .val (.int p4), .val (.int p5), .val (.int p6), .val (.int (own_v0 p1)), .val (.int (own_v1 p1 p2)), .val (.int (own_v2 p1 p2 p3)), .val (.int (own_v3 p1 p2 p3 p4)), .val (.int (p5 &&& (15 : Int32))), .val (.int (own_om p5)), .val (.int (own_fr p5)), .val (.int (own_of p5)), .val (.ref b7), .unset, .unset, .unset, .unset]) rfl ?_
    show Steps p.tables e below (T15.setTop (mkF m 124 #[.val (.int p1), .val (.int p2), .val (.int p3), .val (.int p4), .val (.int p5), .val (.int p6), .val (.int (own_v0 p1)), .val (.int (own_v1 p1 p2)), .val (.int (own_v2 p1 p2 p3)), .val (.int (own_v3 p1 p2 p3 p4)), .val (.int (p5 &&& (15 : Int32))), .val (.int (own_om p5)), .val (.int (own_fr p5)), .val (.int (own_of p5)), .val (.ref b7), .unset, .unset, .unset, .unset] [])) _
    refine XS.bipush X15.here hx rfl (hb hby at_124) ?_
    show Steps p.tables e below (T15.setTop (mkF m 126 #[.val (.int p1), .val (.int p2), .val (.int p3), .val (.int p4), .val (.int p5), .val (.int p6), .val (.int (own_v0 p1)), .val (.int (own_v1 p1 p2)), .val (.int (own_v2 p1 p2 p3)), .val (.int (own_v3 p1 p2 p3 p4)), .val (.int (p5 &&& (15 : Int32))), .val (.int (own_om p5)), .val (.int (own_fr p5)), .val (.int (own_of p5)), .val (.ref b7), .unset, .unset, .unset, .unset] [(.int (8 : Int32))])) _
    refine st16 _ ?_
    show Steps p.tables e below (T16.setTop (mkF m 128 #[.val (.int p1), .val (.int p2), .val (.int p3), .val (.int p4), .val (.int p5), .val (.int p6), .val (.int (own_v0 p1)), .val (.int (own_v1 p1 p2)), .val (.int (own_v2 p1 p2 p3)), .val (.int (own_v3 p1 p2 p3 p4)), .val (.int (p5 &&& (15 : Int32))), .val (.int (own_om p5)), .val (.int (own_fr p5)), .val (.int (own_of p5)), .val (.ref b7), .unset, .unset, .unset, .unset] [(.ref b16)])) _
    refine XS.dup X16.here hx rfl (hb hby at_128) rfl rfl ?_
    show Steps p.tables e below (T16.setTop (mkF m 129 #[.val (.int p1), .val (.int p2), .val (.int p3), .val (.int p4), .val (.int p5), .val (.int p6), .val (.int (own_v0 p1)), .val (.int (own_v1 p1 p2)), .val (.int (own_v2 p1 p2 p3)), .val (.int (own_v3 p1 p2 p3 p4)), .val (.int (p5 &&& (15 : Int32))), .val (.int (own_om p5)), .val (.int (own_fr p5)), .val (.int (own_of p5)), .val (.ref b7), .unset, .unset, .unset, .unset] [(.ref b16), (.ref b16)])) _
    refine XS.iconst X16.here hx rfl (hb hby at_129) ?_
    show Steps p.tables e below (T16.setTop (mkF m 130 #[.val (.int p1), .val (.int p2), .val (.int p3), .val (.int p4), .val (.int p5), .val (.int p6), .val (.int (own_v0 p1)), .val (.int (own_v1 p1 p2)), .val (.int (own_v2 p1 p2 p3)), .val (.int (own_v3 p1 p2 p3 p4)), .val (.int (p5 &&& (15 : Int32))), .val (.int (own_om p5)), .val (.int (own_fr p5)), .val (.int (own_of p5)), .val (.ref b7), .unset, .unset, .unset, .unset] [(.int (0 : Int32)), (.ref b16), (.ref b16)])) _
    refine XS.iload X16.here hx rfl (hb hby at_130) rfl ?_
    show Steps p.tables e below (T16.setTop (mkF m 132 #[.val (.int p1), .val (.int p2), .val (.int p3), .val (.int p4), .val (.int p5), .val (.int p6), .val (.int (own_v0 p1)), .val (.int (own_v1 p1 p2)), .val (.int (own_v2 p1 p2 p3)), .val (.int (own_v3 p1 p2 p3 p4)), .val (.int (p5 &&& (15 : Int32))), .val (.int (own_om p5)), .val (.int (own_fr p5)), .val (.int (own_of p5)), .val (.ref b7), .unset, .unset, .unset, .unset] [(.int p6), (.int (0 : Int32)), (.ref b16), (.ref b16)])) _
    refine st17 _ ?_
    show Steps p.tables e below (T17.setTop (mkF m 133 #[.val (.int p1), .val (.int p2), .val (.int p3), .val (.int p4), .val (.int p5), .val (.int p6), .val (.int (own_v0 p1)), .val (.int (own_v1 p1 p2)), .val (.int (own_v2 p1 p2 p3)), .val (.int (own_v3 p1 p2 p3 p4)), .val (.int (p5 &&& (15 : Int32))), .val (.int (own_om p5)), .val (.int (own_fr p5)), .val (.int (own_of p5)), .val (.ref b7), .unset, .unset, .unset, .unset] [(.ref b16)])) _
    refine XS.dup X17.here hx rfl (hb hby at_133) rfl rfl ?_
    show Steps p.tables e below (T17.setTop (mkF m 134 #[.val (.int p1), .val (.int p2), .val (.int p3), .val (.int p4), .val (.int p5), .val (.int p6), .val (.int (own_v0 p1)), .val (.int (own_v1 p1 p2)), .val (.int (own_v2 p1 p2 p3)), .val (.int (own_v3 p1 p2 p3 p4)), .val (.int (p5 &&& (15 : Int32))), .val (.int (own_om p5)), .val (.int (own_fr p5)), .val (.int (own_of p5)), .val (.ref b7), .unset, .unset, .unset, .unset] [(.ref b16), (.ref b16)])) _
    refine XS.iconst X17.here hx rfl (hb hby at_134) ?_
    show Steps p.tables e below (T17.setTop (mkF m 135 #[.val (.int p1), .val (.int p2), .val (.int p3), .val (.int p4), .val (.int p5), .val (.int p6), .val (.int (own_v0 p1)), .val (.int (own_v1 p1 p2)), .val (.int (own_v2 p1 p2 p3)), .val (.int (own_v3 p1 p2 p3 p4)), .val (.int (p5 &&& (15 : Int32))), .val (.int (own_om p5)), .val (.int (own_fr p5)), .val (.int (own_of p5)), .val (.ref b7), .unset, .unset, .unset, .unset] [(.int (1 : Int32)), (.ref b16), (.ref b16)])) _
    refine XS.iload X17.here hx rfl (hb hby at_135) rfl ?_
    show Steps p.tables e below (T17.setTop (mkF m 137 #[.val (.int p1), .val (.int p2), .val (.int p3), .val (.int p4), .val (.int p5), .val (.int p6), .val (.int (own_v0 p1)), .val (.int (own_v1 p1 p2)), .val (.int (own_v2 p1 p2 p3)), .val (.int (own_v3 p1 p2 p3 p4)), .val (.int (p5 &&& (15 : Int32))), .val (.int (own_om p5)), .val (.int (own_fr p5)), .val (.int (own_of p5)), .val (.ref b7), .unset, .unset, .unset, .unset] [(.int p6), (.int (1 : Int32)), (.ref b16), (.ref b16)])) _
    refine st18 _ ?_
    show Steps p.tables e below (T18.setTop (mkF m 138 #[.val (.int p1), .val (.int p2), .val (.int p3), .val (.int p4), .val (.int p5), .val (.int p6), .val (.int (own_v0 p1)), .val (.int (own_v1 p1 p2)), .val (.int (own_v2 p1 p2 p3)), .val (.int (own_v3 p1 p2 p3 p4)), .val (.int (p5 &&& (15 : Int32))), .val (.int (own_om p5)), .val (.int (own_fr p5)), .val (.int (own_of p5)), .val (.ref b7), .unset, .unset, .unset, .unset] [(.ref b16)])) _
    refine XS.dup X18.here hx rfl (hb hby at_138) rfl rfl ?_
    show Steps p.tables e below (T18.setTop (mkF m 139 #[.val (.int p1), .val (.int p2), .val (.int p3), .val (.int p4), .val (.int p5), .val (.int p6), .val (.int (own_v0 p1)), .val (.int (own_v1 p1 p2)), .val (.int (own_v2 p1 p2 p3)), .val (.int (own_v3 p1 p2 p3 p4)), .val (.int (p5 &&& (15 : Int32))), .val (.int (own_om p5)), .val (.int (own_fr p5)), .val (.int (own_of p5)), .val (.ref b7), .unset, .unset, .unset, .unset] [(.ref b16), (.ref b16)])) _
    refine XS.iconst X18.here hx rfl (hb hby at_139) ?_
    show Steps p.tables e below (T18.setTop (mkF m 140 #[.val (.int p1), .val (.int p2), .val (.int p3), .val (.int p4), .val (.int p5), .val (.int p6), .val (.int (own_v0 p1)), .val (.int (own_v1 p1 p2)), .val (.int (own_v2 p1 p2 p3)), .val (.int (own_v3 p1 p2 p3 p4)), .val (.int (p5 &&& (15 : Int32))), .val (.int (own_om p5)), .val (.int (own_fr p5)), .val (.int (own_of p5)), .val (.ref b7), .unset, .unset, .unset, .unset] [(.int (2 : Int32)), (.ref b16), (.ref b16)])) _
    refine XS.iload X18.here hx rfl (hb hby at_140) rfl ?_
    show Steps p.tables e below (T18.setTop (mkF m 142 #[.val (.int p1), .val (.int p2), .val (.int p3), .val (.int p4), .val (.int p5), .val (.int p6), .val (.int (own_v0 p1)), .val (.int (own_v1 p1 p2)), .val (.int (own_v2 p1 p2 p3)), .val (.int (own_v3 p1 p2 p3 p4)), .val (.int (p5 &&& (15 : Int32))), .val (.int (own_om p5)), .val (.int (own_fr p5)), .val (.int (own_of p5)), .val (.ref b7), .unset, .unset, .unset, .unset] [(.int p6), (.int (2 : Int32)), (.ref b16), (.ref b16)])) _
    refine st19 _ ?_
    show Steps p.tables e below (T19.setTop (mkF m 143 #[.val (.int p1), .val (.int p2), .val (.int p3), .val (.int p4), .val (.int p5), .val (.int p6), .val (.int (own_v0 p1)), .val (.int (own_v1 p1 p2)), .val (.int (own_v2 p1 p2 p3)), .val (.int (own_v3 p1 p2 p3 p4)), .val (.int (p5 &&& (15 : Int32))), .val (.int (own_om p5)), .val (.int (own_fr p5)), .val (.int (own_of p5)), .val (.ref b7), .unset, .unset, .unset, .unset] [(.ref b16)])) _
    refine XS.dup X19.here hx rfl (hb hby at_143) rfl rfl ?_
    show Steps p.tables e below (T19.setTop (mkF m 144 #[.val (.int p1), .val (.int p2), .val (.int p3), .val (.int p4), .val (.int p5), .val (.int p6), .val (.int (own_v0 p1)), .val (.int (own_v1 p1 p2)), .val (.int (own_v2 p1 p2 p3)), .val (.int (own_v3 p1 p2 p3 p4)), .val (.int (p5 &&& (15 : Int32))), .val (.int (own_om p5)), .val (.int (own_fr p5)), .val (.int (own_of p5)), .val (.ref b7), .unset, .unset, .unset, .unset] [(.ref b16), (.ref b16)])) _
    refine XS.iconst X19.here hx rfl (hb hby at_144) ?_
    show Steps p.tables e below (T19.setTop (mkF m 145 #[.val (.int p1), .val (.int p2), .val (.int p3), .val (.int p4), .val (.int p5), .val (.int p6), .val (.int (own_v0 p1)), .val (.int (own_v1 p1 p2)), .val (.int (own_v2 p1 p2 p3)), .val (.int (own_v3 p1 p2 p3 p4)), .val (.int (p5 &&& (15 : Int32))), .val (.int (own_om p5)), .val (.int (own_fr p5)), .val (.int (own_of p5)), .val (.ref b7), .unset, .unset, .unset, .unset] [(.int (3 : Int32)), (.ref b16), (.ref b16)])) _
    refine XS.iload X19.here hx rfl (hb hby at_145) rfl ?_
    show Steps p.tables e below (T19.setTop (mkF m 147 #[.val (.int p1), .val (.int p2), .val (.int p3), .val (.int p4), .val (.int p5), .val (.int p6), .val (.int (own_v0 p1)), .val (.int (own_v1 p1 p2)), .val (.int (own_v2 p1 p2 p3)), .val (.int (own_v3 p1 p2 p3 p4)), .val (.int (p5 &&& (15 : Int32))), .val (.int (own_om p5)), .val (.int (own_fr p5)), .val (.int (own_of p5)), .val (.ref b7), .unset, .unset, .unset, .unset] [(.int p6), (.int (3 : Int32)), (.ref b16), (.ref b16)])) _
    refine st20 _ ?_
    show Steps p.tables e below (T20.setTop (mkF m 148 #[.val (.int p1), .val (.int p2), .val (.int p3), .val (.int p4), .val (.int p5), .val (.int p6), .val (.int (own_v0 p1)), .val (.int (own_v1 p1 p2)), .val (.int (own_v2 p1 p2 p3)), .val (.int (own_v3 p1 p2 p3 p4)), .val (.int (p5 &&& (15 : Int32))), .val (.int (own_om p5)), .val (.int (own_fr p5)), .val (.int (own_of p5)), .val (.ref b7), .unset, .unset, .unset, .unset] [(.ref b16)])) _
    refine XS.dup X20.here hx rfl (hb hby at_148) rfl rfl ?_
    show Steps p.tables e below (T20.setTop (mkF m 149 #[.val (.int p1), .val (.int p2), .val (.int p3), .val (.int p4), .val (.int p5), .val (.int p6), .val (.int (own_v0 p1)), .val (.int (own_v1 p1 p2)), .val (.int (own_v2 p1 p2 p3)), .val (.int (own_v3 p1 p2 p3 p4)), .val (.int (p5 &&& (15 : Int32))), .val (.int (own_om p5)), .val (.int (own_fr p5)), .val (.int (own_of p5)), .val (.ref b7), .unset, .unset, .unset, .unset] [(.ref b16), (.ref b16)])) _
    refine XS.iconst X20.here hx rfl (hb hby at_149) ?_
    show Steps p.tables e below (T20.setTop (mkF m 150 #[.val (.int p1), .val (.int p2), .val (.int p3), .val (.int p4), .val (.int p5), .val (.int p6), .val (.int (own_v0 p1)), .val (.int (own_v1 p1 p2)), .val (.int (own_v2 p1 p2 p3)), .val (.int (own_v3 p1 p2 p3 p4)), .val (.int (p5 &&& (15 : Int32))), .val (.int (own_om p5)), .val (.int (own_fr p5)), .val (.int (own_of p5)), .val (.ref b7), .unset, .unset, .unset, .unset] [(.int (4 : Int32)), (.ref b16), (.ref b16)])) _
    refine XS.iload X20.here hx rfl (hb hby at_150) rfl ?_
    show Steps p.tables e below (T20.setTop (mkF m 152 #[.val (.int p1), .val (.int p2), .val (.int p3), .val (.int p4), .val (.int p5), .val (.int p6), .val (.int (own_v0 p1)), .val (.int (own_v1 p1 p2)), .val (.int (own_v2 p1 p2 p3)), .val (.int (own_v3 p1 p2 p3 p4)), .val (.int (p5 &&& (15 : Int32))), .val (.int (own_om p5)), .val (.int (own_fr p5)), .val (.int (own_of p5)), .val (.ref b7), .unset, .unset, .unset, .unset] [(.int p6), (.int (4 : Int32)), (.ref b16), (.ref b16)])) _
    refine st21 _ ?_
    show Steps p.tables e below (T21.setTop (mkF m 153 #[.val (.int p1), .val (.int p2), .val (.int p3), .val (.int p4), .val (.int p5), .val (.int p6), .val (.int (own_v0 p1)), .val (.int (own_v1 p1 p2)), .val (.int (own_v2 p1 p2 p3)), .val (.int (own_v3 p1 p2 p3 p4)), .val (.int (p5 &&& (15 : Int32))), .val (.int (own_om p5)), .val (.int (own_fr p5)), .val (.int (own_of p5)), .val (.ref b7), .unset, .unset, .unset, .unset] [(.ref b16)])) _
    refine XS.dup X21.here hx rfl (hb hby at_153) rfl rfl ?_
    show Steps p.tables e below (T21.setTop (mkF m 154 #[.val (.int p1), .val (.int p2), .val (.int p3), .val (.int p4), .val (.int p5), .val (.int p6), .val (.int (own_v0 p1)), .val (.int (own_v1 p1 p2)), .val (.int (own_v2 p1 p2 p3)), .val (.int (own_v3 p1 p2 p3 p4)), .val (.int (p5 &&& (15 : Int32))), .val (.int (own_om p5)), .val (.int (own_fr p5)), .val (.int (own_of p5)), .val (.ref b7), .unset, .unset, .unset, .unset] [(.ref b16), (.ref b16)])) _
    refine XS.iconst X21.here hx rfl (hb hby at_154) ?_
    show Steps p.tables e below (T21.setTop (mkF m 155 #[.val (.int p1), .val (.int p2), .val (.int p3), .val (.int p4), .val (.int p5), .val (.int p6), .val (.int (own_v0 p1)), .val (.int (own_v1 p1 p2)), .val (.int (own_v2 p1 p2 p3)), .val (.int (own_v3 p1 p2 p3 p4)), .val (.int (p5 &&& (15 : Int32))), .val (.int (own_om p5)), .val (.int (own_fr p5)), .val (.int (own_of p5)), .val (.ref b7), .unset, .unset, .unset, .unset] [(.int (5 : Int32)), (.ref b16), (.ref b16)])) _
    refine XS.iload X21.here hx rfl (hb hby at_155) rfl ?_
    show Steps p.tables e below (T21.setTop (mkF m 157 #[.val (.int p1), .val (.int p2), .val (.int p3), .val (.int p4), .val (.int p5), .val (.int p6), .val (.int (own_v0 p1)), .val (.int (own_v1 p1 p2)), .val (.int (own_v2 p1 p2 p3)), .val (.int (own_v3 p1 p2 p3 p4)), .val (.int (p5 &&& (15 : Int32))), .val (.int (own_om p5)), .val (.int (own_fr p5)), .val (.int (own_of p5)), .val (.ref b7), .unset, .unset, .unset, .unset] [(.int p6), (.int (5 : Int32)), (.ref b16), (.ref b16)])) _
    refine st22 _ ?_
    show Steps p.tables e below (T22.setTop (mkF m 158 #[.val (.int p1), .val (.int p2), .val (.int p3), .val (.int p4), .val (.int p5), .val (.int p6), .val (.int (own_v0 p1)), .val (.int (own_v1 p1 p2)), .val (.int (own_v2 p1 p2 p3)), .val (.int (own_v3 p1 p2 p3 p4)), .val (.int (p5 &&& (15 : Int32))), .val (.int (own_om p5)), .val (.int (own_fr p5)), .val (.int (own_of p5)), .val (.ref b7), .unset, .unset, .unset, .unset] [(.ref b16)])) _
    refine XS.dup X22.here hx rfl (hb hby at_158) rfl rfl ?_
    show Steps p.tables e below (T22.setTop (mkF m 159 #[.val (.int p1), .val (.int p2), .val (.int p3), .val (.int p4), .val (.int p5), .val (.int p6), .val (.int (own_v0 p1)), .val (.int (own_v1 p1 p2)), .val (.int (own_v2 p1 p2 p3)), .val (.int (own_v3 p1 p2 p3 p4)), .val (.int (p5 &&& (15 : Int32))), .val (.int (own_om p5)), .val (.int (own_fr p5)), .val (.int (own_of p5)), .val (.ref b7), .unset, .unset, .unset, .unset] [(.ref b16), (.ref b16)])) _
    refine XS.bipush X22.here hx rfl (hb hby at_159) ?_
    show Steps p.tables e below (T22.setTop (mkF m 161 #[.val (.int p1), .val (.int p2), .val (.int p3), .val (.int p4), .val (.int p5), .val (.int p6), .val (.int (own_v0 p1)), .val (.int (own_v1 p1 p2)), .val (.int (own_v2 p1 p2 p3)), .val (.int (own_v3 p1 p2 p3 p4)), .val (.int (p5 &&& (15 : Int32))), .val (.int (own_om p5)), .val (.int (own_fr p5)), .val (.int (own_of p5)), .val (.ref b7), .unset, .unset, .unset, .unset] [(.int (6 : Int32)), (.ref b16), (.ref b16)])) _
    refine XS.iload X22.here hx rfl (hb hby at_161) rfl ?_
    show Steps p.tables e below (T22.setTop (mkF m 163 #[.val (.int p1), .val (.int p2), .val (.int p3), .val (.int p4), .val (.int p5), .val (.int p6), .val (.int (own_v0 p1)), .val (.int (own_v1 p1 p2)), .val (.int (own_v2 p1 p2 p3)), .val (.int (own_v3 p1 p2 p3 p4)), .val (.int (p5 &&& (15 : Int32))), .val (.int (own_om p5)), .val (.int (own_fr p5)), .val (.int (own_of p5)), .val (.ref b7), .unset, .unset, .unset, .unset] [(.int p6), (.int (6 : Int32)), (.ref b16), (.ref b16)])) _
    refine st23 _ ?_
    show Steps p.tables e below (T23.setTop (mkF m 164 #[.val (.int p1), .val (.int p2), .val (.int p3), .val (.int p4), .val (.int p5), .val (.int p6), .val (.int (own_v0 p1)), .val (.int (own_v1 p1 p2)), .val (.int (own_v2 p1 p2 p3)), .val (.int (own_v3 p1 p2 p3 p4)), .val (.int (p5 &&& (15 : Int32))), .val (.int (own_om p5)), .val (.int (own_fr p5)), .val (.int (own_of p5)), .val (.ref b7), .unset, .unset, .unset, .unset] [(.ref b16)])) _
    refine XS.dup X23.here hx rfl (hb hby at_164) rfl rfl ?_
    show Steps p.tables e below (T23.setTop (mkF m 165 #[.val (.int p1), .val (.int p2), .val (.int p3), .val (.int p4), .val (.int p5), .val (.int p6), .val (.int (own_v0 p1)), .val (.int (own_v1 p1 p2)), .val (.int (own_v2 p1 p2 p3)), .val (.int (own_v3 p1 p2 p3 p4)), .val (.int (p5 &&& (15 : Int32))), .val (.int (own_om p5)), .val (.int (own_fr p5)), .val (.int (own_of p5)), .val (.ref b7), .unset, .unset, .unset, .unset] [(.ref b16), (.ref b16)])) _
    refine XS.bipush X23.here hx rfl (hb hby at_165) ?_
    show Steps p.tables e below (T23.setTop (mkF m 167 #[.val (.int p1), .val (.int p2), .val (.int p3), .val (.int p4), .val (.int p5), .val (.int p6), .val (.int (own_v0 p1)), .val (.int (own_v1 p1 p2)), .val (.int (own_v2 p1 p2 p3)), .val (.int (own_v3 p1 p2 p3 p4)), .val (.int (p5 &&& (15 : Int32))), .val (.int (own_om p5)), .val (.int (own_fr p5)), .val (.int (own_of p5)), .val (.ref b7), .unset, .unset, .unset, .unset] [(.int (7 : Int32)), (.ref b16), (.ref b16)])) _
    refine XS.iload X23.here hx rfl (hb hby at_167) rfl ?_
    show Steps p.tables e below (T23.setTop (mkF m 169 #[.val (.int p1), .val (.int p2), .val (.int p3), .val (.int p4), .val (.int p5), .val (.int p6), .val (.int (own_v0 p1)), .val (.int (own_v1 p1 p2)), .val (.int (own_v2 p1 p2 p3)), .val (.int (own_v3 p1 p2 p3 p4)), .val (.int (p5 &&& (15 : Int32))), .val (.int (own_om p5)), .val (.int (own_fr p5)), .val (.int (own_of p5)), .val (.ref b7), .unset, .unset, .unset, .unset] [(.int p6), (.int (7 : Int32)), (.ref b16), (.ref b16)])) _
    refine st24 _ ?_
    show Steps p.tables e below (T24.setTop (mkF m 170 #[.val (.int p1), .val (.int p2), .val (.int p3), .val (.int p4), .val (.int p5), .val (.int p6), .val (.int (own_v0 p1)), .val (.int (own_v1 p1 p2)), .val (.int (own_v2 p1 p2 p3)), .val (.int (own_v3 p1 p2 p3 p4)), .val (.int (p5 &&& (15 : Int32))), .val (.int (own_om p5)), .val (.int (own_fr p5)), .val (.int (own_of p5)), .val (.ref b7), .unset, .unset, .unset, .unset] [(.ref b16)])) _
    refine XS.astore X24.here hx rfl (hb hby at_170) rfl rfl (l' := #[.val (.int p1), .val (.int p2), .val (.int p3), .val (.int p4), .val (.int p5), .val (.int p6), .val (.int (own_v0 p1)), .val (.int (own_v1 p1 p2)), .val (.int (own_v2 p1 p2 p3)), .val (.int (own_v3 p1 p2 p3 p4)), .val (.int (p5 &&& (15 : Int32))), .val (.int (own_om p5)), .val (.int (own_fr p5)), .val (.int (own_of p5)), .val (.ref b7), .val (.ref b16), .unset, .unset, .unset]) rfl ?_
    show Steps p.tables e below (T24.setTop (mkF m 172 #[.val (.int p1), .val (.int p2), .val (.int p3), .val (.int p4), .val (.int p5), .val (.int p6), .val (.int (own_v0 p1)), .val (.int (own_v1 p1 p2)), .val (.int (own_v2 p1 p2 p3)), .val (.int (own_v3 p1 p2 p3 p4)), .val (.int (p5 &&& (15 : Int32))), .val (.int (own_om p5)), .val (.int (own_fr p5)), .val (.int (own_of p5)), .val (.ref b7), .val (.ref b16), .unset, .unset, .unset] [])) _
    refine XS.aload X24.here hx rfl (hb hby at_172) rfl rfl ?_
    show Steps p.tables e below (T24.setTop (mkF m 174 #[.val (.int p1), .val (.int p2), .val (.int p3), .val (.int p4), .val (.int p5), .val (.int p6), .val (.int (own_v0 p1)), .val (.int (own_v1 p1 p2)), .val (.int (own_v2 p1 p2 p3)), .val (.int (own_v3 p1 p2 p3 p4)), .val (.int (p5 &&& (15 : Int32))), .val (.int (own_om p5)), .val (.int (own_fr p5)), .val (.int (own_of p5)), .val (.ref b7), .val (.ref b16), .unset, .unset, .unset] [(.ref b7)])) _
    refine XS.iload X24.here hx rfl (hb hby at_174) rfl ?_
    show Steps p.tables e below (T24.setTop (mkF m 176 #[.val (.int p1), .val (.int p2), .val (.int p3), .val (.int p4), .val (.int p5), .val (.int p6), .val (.int (own_v0 p1)), .val (.int (own_v1 p1 p2)), .val (.int (own_v2 p1 p2 p3)), .val (.int (own_v3 p1 p2 p3 p4)), .val (.int (p5 &&& (15 : Int32))), .val (.int (own_om p5)), .val (.int (own_fr p5)), .val (.int (own_of p5)), .val (.ref b7), .val (.ref b16), .unset, .unset, .unset] [(.int (own_fr p5)), (.ref b7)])) _
    refine XS.iload X24.here hx rfl (hb hby at_176) rfl ?_
    show Steps p.tables e below (T24.setTop (mkF m 178 #[.val (.int p1), .val (.int p2), .val (.int p3), .val (.int p4), .val (.int p5), .val (.int p6), .val (.int (own_v0 p1)), .val (.int (own_v1 p1 p2)), .val (.int (own_v2 p1 p2 p3)), .val (.int (own_v3 p1 p2 p3 p4)), .val (.int (p5 &&& (15 : Int32))), .val (.int (own_om p5)), .val (.int (own_fr p5)), .val (.int (own_of p5)), .val (.ref b7), .val (.ref b16), .unset, .unset, .unset] [(.int (p5 &&& (15 : Int32))), (.int (own_fr p5)), (.ref b7)])) _
    refine XS.iload X24.here hx rfl (hb hby at_178) rfl ?_
    show Steps p.tables e below (T24.setTop (mkF m 180 #[.val (.int p1), .val (.int p2), .val (.int p3), .val (.int p4), .val (.int p5), .val (.int p6), .val (.int (own_v0 p1)), .val (.int (own_v1 p1 p2)), .val (.int (own_v2 p1 p2 p3)), .val (.int (own_v3 p1 p2 p3 p4)), .val (.int (p5 &&& (15 : Int32))), .val (.int (own_om p5)), .val (.int (own_fr p5)), .val (.int (own_of p5)), .val (.ref b7), .val (.ref b16), .unset, .unset, .unset] [(.int (own_v0 p1)), (.int (p5 &&& (15 : Int32))), (.int (own_fr p5)), (.ref b7)])) _
    refine XS.iload X24.here hx rfl (hb hby at_180) rfl ?_
    show Steps p.tables e below (T24.setTop (mkF m 182 #[.val (.int p1), .val (.int p2), .val (.int p3), .val (.int p4), .val (.int p5), .val (.int p6), .val (.int (own_v0 p1)), .val (.int (own_v1 p1 p2)), .val (.int (own_v2 p1 p2 p3)), .val (.int (own_v3 p1 p2 p3 p4)), .val (.int (p5 &&& (15 : Int32))), .val (.int (own_om p5)), .val (.int (own_fr p5)), .val (.int (own_of p5)), .val (.ref b7), .val (.ref b16), .unset, .unset, .unset] [(.int (own_v1 p1 p2)), (.int (own_v0 p1)), (.int (p5 &&& (15 : Int32))), (.int (own_fr p5)), (.ref b7)])) _
    refine XS.iload X24.here hx rfl (hb hby at_182) rfl ?_
    show Steps p.tables e below (T24.setTop (mkF m 184 #[.val (.int p1), .val (.int p2), .val (.int p3), .val (.int p4), .val (.int p5), .val (.int p6), .val (.int (own_v0 p1)), .val (.int (own_v1 p1 p2)), .val (.int (own_v2 p1 p2 p3)), .val (.int (own_v3 p1 p2 p3 p4)), .val (.int (p5 &&& (15 : Int32))), .val (.int (own_om p5)), .val (.int (own_fr p5)), .val (.int (own_of p5)), .val (.ref b7), .val (.ref b16), .unset, .unset, .unset] [(.int (own_v2 p1 p2 p3)), (.int (own_v1 p1 p2)), (.int (own_v0 p1)), (.int (p5 &&& (15 : Int32))), (.int (own_fr p5)), (.ref b7)])) _
    refine XS.iload X24.here hx rfl (hb hby at_184) rfl ?_
    show Steps p.tables e below (T24.setTop (mkF m 186 #[.val (.int p1), .val (.int p2), .val (.int p3), .val (.int p4), .val (.int p5), .val (.int p6), .val (.int (own_v0 p1)), .val (.int (own_v1 p1 p2)), .val (.int (own_v2 p1 p2 p3)), .val (.int (own_v3 p1 p2 p3 p4)), .val (.int (p5 &&& (15 : Int32))), .val (.int (own_om p5)), .val (.int (own_fr p5)), .val (.int (own_of p5)), .val (.ref b7), .val (.ref b16), .unset, .unset, .unset] [(.int (own_v3 p1 p2 p3 p4)), (.int (own_v2 p1 p2 p3)), (.int (own_v1 p1 p2)), (.int (own_v0 p1)), (.int (p5 &&& (15 : Int32))), (.int (own_fr p5)), (.ref b7)])) _
    refine st25 _ ?_
    show Steps p.tables e below (T25.setTop (mkF m 189 #[.val (.int p1), .val (.int p2), .val (.int p3), .val (.int p4), .val (.int p5), .val (.int p6), .val (.int (own_v0 p1)), .val (.int (own_v1 p1 p2)), .val (.int (own_v2 p1 p2 p3)), .val (.int (own_v3 p1 p2 p3 p4)), .val (.int (p5 &&& (15 : Int32))), .val (.int (own_om p5)), .val (.int (own_fr p5)), .val (.int (own_of p5)), .val (.ref b7), .val (.ref b16), .unset, .unset, .unset] [(.int (Int32.ofNat (own_xs p1 p2 p3 p4 p5).length))])) _
    refine XS.istore X25.here hx rfl (hb hby at_189) rfl (l' := #[.val (.int p1), .val (.int p2), .val (.int p3), .val (.int p4), .val (.int p5), .val (.int p6), .val (.int (own_v0 p1)), .val (.int (own_v1 p1 p2)), .val (.int (own_v2 p1 p2 p3)), .val (.int (own_v3 p1 p2 p3 p4)), .val (.int (p5 &&& (15 : Int32))), .val (.int (own_om p5)), .val (.int (own_fr p5)), .val (.int (own_of p5)), .val (.ref b7), .val (.ref b16), .val (.int (Int32.ofNat (own_xs p1 p2 p3 p4 p5).length)), .unset, .unset]) rfl ?_
    show Steps p.tables e below (T25.setTop (mkF m 191 #[.val (.int p1), .val (.int p2), .val (.int p3), .val (.int p4), .val (.int p5), .val (.int p6), .val (.int (own_v0 p1)), .val (.int (own_v1 p1 p2)), .val (.int (own_v2 p1 p2 p3)), .val (.int (own_v3 p1 p2 p3 p4)), .val (.int (p5 &&& (15 : Int32))), .val (.int (own_om p5)), .val (.int (own_fr p5)), .val (.int (own_of p5)), .val (.ref b7), .val (.ref b16), .val (.int (Int32.ofNat (own_xs p1 p2 p3 p4 p5).length)), .unset, .unset] [])) _
    refine XS.aload X25.here hx rfl (hb hby at_191) rfl rfl ?_
    show Steps p.tables e below (T25.setTop (mkF m 193 #[.val (.int p1), .val (.int p2), .val (.int p3), .val (.int p4), .val (.int p5), .val (.int p6), .val (.int (own_v0 p1)), .val (.int (own_v1 p1 p2)), .val (.int (own_v2 p1 p2 p3)), .val (.int (own_v3 p1 p2 p3 p4)), .val (.int (p5 &&& (15 : Int32))), .val (.int (own_om p5)), .val (.int (own_fr p5)), .val (.int (own_of p5)), .val (.ref b7), .val (.ref b16), .val (.int (Int32.ofNat (own_xs p1 p2 p3 p4 p5).length)), .unset, .unset] [(.ref b16)])) _
    refine XS.iload X25.here hx rfl (hb hby at_193) rfl ?_
    show Steps p.tables e below (T25.setTop (mkF m 195 #[.val (.int p1), .val (.int p2), .val (.int p3), .val (.int p4), .val (.int p5), .val (.int p6), .val (.int (own_v0 p1)), .val (.int (own_v1 p1 p2)), .val (.int (own_v2 p1 p2 p3)), .val (.int (own_v3 p1 p2 p3 p4)), .val (.int (p5 &&& (15 : Int32))), .val (.int (own_om p5)), .val (.int (own_fr p5)), .val (.int (own_of p5)), .val (.ref b7), .val (.ref b16), .val (.int (Int32.ofNat (own_xs p1 p2 p3 p4 p5).length)), .unset, .unset] [(.int (own_of p5)), (.ref b16)])) _
    refine XS.iload X25.here hx rfl (hb hby at_195) rfl ?_
    show Steps p.tables e below (T25.setTop (mkF m 197 #[.val (.int p1), .val (.int p2), .val (.int p3), .val (.int p4), .val (.int p5), .val (.int p6), .val (.int (own_v0 p1)), .val (.int (own_v1 p1 p2)), .val (.int (own_v2 p1 p2 p3)), .val (.int (own_v3 p1 p2 p3 p4)), .val (.int (p5 &&& (15 : Int32))), .val (.int (own_om p5)), .val (.int (own_fr p5)), .val (.int (own_of p5)), .val (.ref b7), .val (.ref b16), .val (.int (Int32.ofNat (own_xs p1 p2 p3 p4 p5).length)), .unset, .unset] [(.int (own_om p5)), (.int (own_of p5)), (.ref b16)])) _
    refine XS.iload X25.here hx rfl (hb hby at_197) rfl ?_
    show Steps p.tables e below (T25.setTop (mkF m 199 #[.val (.int p1), .val (.int p2), .val (.int p3), .val (.int p4), .val (.int p5), .val (.int p6), .val (.int (own_v0 p1)), .val (.int (own_v1 p1 p2)), .val (.int (own_v2 p1 p2 p3)), .val (.int (own_v3 p1 p2 p3 p4)), .val (.int (p5 &&& (15 : Int32))), .val (.int (own_om p5)), .val (.int (own_fr p5)), .val (.int (own_of p5)), .val (.ref b7), .val (.ref b16), .val (.int (Int32.ofNat (own_xs p1 p2 p3 p4 p5).length)), .unset, .unset] [(.int (own_v0 p1)), (.int (own_om p5)), (.int (own_of p5)), (.ref b16)])) _
    refine XS.iload X25.here hx rfl (hb hby at_199) rfl ?_
    show Steps p.tables e below (T25.setTop (mkF m 201 #[.val (.int p1), .val (.int p2), .val (.int p3), .val (.int p4), .val (.int p5), .val (.int p6), .val (.int (own_v0 p1)), .val (.int (own_v1 p1 p2)), .val (.int (own_v2 p1 p2 p3)), .val (.int (own_v3 p1 p2 p3 p4)), .val (.int (p5 &&& (15 : Int32))), .val (.int (own_om p5)), .val (.int (own_fr p5)), .val (.int (own_of p5)), .val (.ref b7), .val (.ref b16), .val (.int (Int32.ofNat (own_xs p1 p2 p3 p4 p5).length)), .unset, .unset] [(.int (own_v1 p1 p2)), (.int (own_v0 p1)), (.int (own_om p5)), (.int (own_of p5)), (.ref b16)])) _
    refine XS.iload X25.here hx rfl (hb hby at_201) rfl ?_
    show Steps p.tables e below (T25.setTop (mkF m 203 #[.val (.int p1), .val (.int p2), .val (.int p3), .val (.int p4), .val (.int p5), .val (.int p6), .val (.int (own_v0 p1)), .val (.int (own_v1 p1 p2)), .val (.int (own_v2 p1 p2 p3)), .val (.int (own_v3 p1 p2 p3 p4)), .val (.int (p5 &&& (15 : Int32))), .val (.int (own_om p5)), .val (.int (own_fr p5)), .val (.int (own_of p5)), .val (.ref b7), .val (.ref b16), .val (.int (Int32.ofNat (own_xs p1 p2 p3 p4 p5).length)), .unset, .unset] [(.int (own_v2 p1 p2 p3)), (.int (own_v1 p1 p2)), (.int (own_v0 p1)), (.int (own_om p5)), (.int (own_of p5)), (.ref b16)])) _
    refine XS.iload X25.here hx rfl (hb hby at_203) rfl ?_
    show Steps p.tables e below (T25.setTop (mkF m 205 #[.val (.int p1), .val (.int p2), .val (.int p3), .val (.int p4), .val (.int p5), .val (.int p6), .val (.int (own_v0 p1)), .val (.int (own_v1 p1 p2)), .val (.int (own_v2 p1 p2 p3)), .val (.int (own_v3 p1 p2 p3 p4)), .val (.int (p5 &&& (15 : Int32))), .val (.int (own_om p5)), .val (.int (own_fr p5)), .val (.int (own_of p5)), .val (.ref b7), .val (.ref b16), .val (.int (Int32.ofNat (own_xs p1 p2 p3 p4 p5).length)), .unset, .unset] [(.int (own_v3 p1 p2 p3 p4)), (.int (own_v2 p1 p2 p3)), (.int (own_v1 p1 p2)), (.int (own_v0 p1)), (.int (own_om p5)), (.int (own_of p5)), (.ref b16)])) _
    refine st26 _ ?_
    show Steps p.tables e below (T26.setTop (mkF m 208 #[.val (.int p1), .val (.int p2), .val (.int p3), .val (.int p4), .val (.int p5), .val (.int p6), .val (.int (own_v0 p1)), .val (.int (own_v1 p1 p2)), .val (.int (own_v2 p1 p2 p3)), .val (.int (own_v3 p1 p2 p3 p4)), .val (.int (p5 &&& (15 : Int32))), .val (.int (own_om p5)), .val (.int (own_fr p5)), .val (.int (own_of p5)), .val (.ref b7), .val (.ref b16), .val (.int (Int32.ofNat (own_xs p1 p2 p3 p4 p5).length)), .unset, .unset] [(.int (Int32.ofNat (own_ys p1 p2 p3 p4 p5).length))])) _
    refine XS.istore X26.here hx rfl (hb hby at_208) rfl (l' := #[.val (.int p1), .val (.int p2), .val (.int p3), .val (.int p4), .val (.int p5), .val (.int p6), .val (.int (own_v0 p1)), .val (.int (own_v1 p1 p2)), .val (.int (own_v2 p1 p2 p3)), .val (.int (own_v3 p1 p2 p3 p4)), .val (.int (p5 &&& (15 : Int32))), .val (.int (own_om p5)), .val (.int (own_fr p5)), .val (.int (own_of p5)), .val (.ref b7), .val (.ref b16), .val (.int (Int32.ofNat (own_xs p1 p2 p3 p4 p5).length)), .val (.int (Int32.ofNat (own_ys p1 p2 p3 p4 p5).length)), .unset]) rfl ?_
    show Steps p.tables e below (T26.setTop (mkF m 210 #[.val (.int p1), .val (.int p2), .val (.int p3), .val (.int p4), .val (.int p5), .val (.int p6), .val (.int (own_v0 p1)), .val (.int (own_v1 p1 p2)), .val (.int (own_v2 p1 p2 p3)), .val (.int (own_v3 p1 p2 p3 p4)), .val (.int (p5 &&& (15 : Int32))), .val (.int (own_om p5)), .val (.int (own_fr p5)), .val (.int (own_of p5)), .val (.ref b7), .val (.ref b16), .val (.int (Int32.ofNat (own_xs p1 p2 p3 p4 p5).length)), .val (.int (Int32.ofNat (own_ys p1 p2 p3 p4 p5).length)), .unset] [])) _
    refine XS.iload X26.here hx rfl (hb hby at_210) rfl ?_
    show Steps p.tables e below (T26.setTop (mkF m 212 #[.val (.int p1), .val (.int p2), .val (.int p3), .val (.int p4), .val (.int p5), .val (.int p6), .val (.int (own_v0 p1)), .val (.int (own_v1 p1 p2)), .val (.int (own_v2 p1 p2 p3)), .val (.int (own_v3 p1 p2 p3 p4)), .val (.int (p5 &&& (15 : Int32))), .val (.int (own_om p5)), .val (.int (own_fr p5)), .val (.int (own_of p5)), .val (.ref b7), .val (.ref b16), .val (.int (Int32.ofNat (own_xs p1 p2 p3 p4 p5).length)), .val (.int (Int32.ofNat (own_ys p1 p2 p3 p4 p5).length)), .unset] [(.int (p5 &&& (15 : Int32)))])) _
    refine XS.iload X26.here hx rfl (hb hby at_212) rfl ?_
    show Steps p.tables e below (T26.setTop (mkF m 214 #[.val (.int p1), .val (.int p2), .val (.int p3), .val (.int p4), .val (.int p5), .val (.int p6), .val (.int (own_v0 p1)), .val (.int (own_v1 p1 p2)), .val (.int (own_v2 p1 p2 p3)), .val (.int (own_v3 p1 p2 p3 p4)), .val (.int (p5 &&& (15 : Int32))), .val (.int (own_om p5)), .val (.int (own_fr p5)), .val (.int (own_of p5)), .val (.ref b7), .val (.ref b16), .val (.int (Int32.ofNat (own_xs p1 p2 p3 p4 p5).length)), .val (.int (Int32.ofNat (own_ys p1 p2 p3 p4 p5).length)), .unset] [(.int (own_om p5)), (.int (p5 &&& (15 : Int32)))])) _
    refine XS.iconst X26.here hx rfl (hb hby at_214) ?_
    show Steps p.tables e below (T26.setTop (mkF m 215 #[.val (.int p1), .val (.int p2), .val (.int p3), .val (.int p4), .val (.int p5), .val (.int p6), .val (.int (own_v0 p1)), .val (.int (own_v1 p1 p2)), .val (.int (own_v2 p1 p2 p3)), .val (.int (own_v3 p1 p2 p3 p4)), .val (.int (p5 &&& (15 : Int32))), .val (.int (own_om p5)), .val (.int (own_fr p5)), .val (.int (own_of p5)), .val (.ref b7), .val (.ref b16), .val (.int (Int32.ofNat (own_xs p1 p2 p3 p4 p5).length)), .val (.int (Int32.ofNat (own_ys p1 p2 p3 p4 p5).length)), .unset] [(.int (-1 : Int32)), (.int (own_om p5)), (.int (p5 &&& (15 : Int32)))])) _
    refine XS.ixor X26.here hx rfl (hb hby at_215) rfl ?_
    show Steps p.tables e below (T26.setTop (mkF m 216 #[.val (.int p1), .val (.int p2), .val (.int p3), .val (.int p4), .val (.int p5), .val (.int p6), .val (.int (own_v0 p1)), .val (.int (own_v1 p1 p2)), .val (.int (own_v2 p1 p2 p3)), .val (.int (own_v3 p1 p2 p3 p4)), .val (.int (p5 &&& (15 : Int32))), .val (.int (own_om p5)), .val (.int (own_fr p5)), .val (.int (own_of p5)), .val (.ref b7), .val (.ref b16), .val (.int (Int32.ofNat (own_xs p1 p2 p3 p4 p5).length)), .val (.int (Int32.ofNat (own_ys p1 p2 p3 p4 p5).length)), .unset] [(.int ((own_om p5) ^^^ (-1 : Int32))), (.int (p5 &&& (15 : Int32)))])) _
    refine XS.iand X26.here hx rfl (hb hby at_216) rfl ?_
    show Steps p.tables e below (T26.setTop (mkF m 217 #[.val (.int p1), .val (.int p2), .val (.int p3), .val (.int p4), .val (.int p5), .val (.int p6), .val (.int (own_v0 p1)), .val (.int (own_v1 p1 p2)), .val (.int (own_v2 p1 p2 p3)), .val (.int (own_v3 p1 p2 p3 p4)), .val (.int (p5 &&& (15 : Int32))), .val (.int (own_om p5)), .val (.int (own_fr p5)), .val (.int (own_of p5)), .val (.ref b7), .val (.ref b16), .val (.int (Int32.ofNat (own_xs p1 p2 p3 p4 p5).length)), .val (.int (Int32.ofNat (own_ys p1 p2 p3 p4 p5).length)), .unset] [(.int ((p5 &&& (15 : Int32)) &&& ((own_om p5) ^^^ (-1 : Int32))))])) _
    refine XS.ifYes X26.here hx rfl (pc0 := 217) (pc' := 224) rfl (hb hby at_217) rfl ((if0 _ _).trans (feq hc217).2) (by decide) (by decide) ?_
    show Steps p.tables e below (T26.setTop (mkF m 224 #[.val (.int p1), .val (.int p2), .val (.int p3), .val (.int p4), .val (.int p5), .val (.int p6), .val (.int (own_v0 p1)), .val (.int (own_v1 p1 p2)), .val (.int (own_v2 p1 p2 p3)), .val (.int (own_v3 p1 p2 p3 p4)), .val (.int (p5 &&& (15 : Int32))), .val (.int (own_om p5)), .val (.int (own_fr p5)), .val (.int (own_of p5)), .val (.ref b7), .val (.ref b16), .val (.int (Int32.ofNat (own_xs p1 p2 p3 p4 p5).length)), .val (.int (Int32.ofNat (own_ys p1 p2 p3 p4 p5).length)), .unset] [])) _
    refine XS.iconst X26.here hx rfl (hb hby at_224) ?_
    show Steps p.tables e below (T26.setTop (mkF m 225 #[.val (.int p1), .val (.int p2), .val (.int p3), .val (.int p4), .val (.int p5), .val (.int p6), .val (.int (own_v0 p1)), .val (.int (own_v1 p1 p2)), .val (.int (own_v2 p1 p2 p3)), .val (.int (own_v3 p1 p2 p3 p4)), .val (.int (p5 &&& (15 : Int32))), .val (.int (own_om p5)), .val (.int (own_fr p5)), .val (.int (own_of p5)), .val (.ref b7), .val (.ref b16), .val (.int (Int32.ofNat (own_xs p1 p2 p3 p4 p5).length)), .val (.int (Int32.ofNat (own_ys p1 p2 p3 p4 p5).length)), .unset] [(.int (0 : Int32))])) _
    refine XS.istore X26.here hx rfl (hb hby at_225) rfl (l' := #[.val (.int p1), .val (.int p2), .val (.int p3), .val (.int p4), .val (.int p5), .val (.int p6), .val (.int (own_v0 p1)), .val (.int (own_v1 p1 p2)), .val (.int (own_v2 p1 p2 p3)), .val (.int (own_v3 p1 p2 p3 p4)), .val (.int (p5 &&& (15 : Int32))), .val (.int (own_om p5)), .val (.int (own_fr p5)), .val (.int (own_of p5)), .val (.ref b7), .val (.ref b16), .val (.int (Int32.ofNat (own_xs p1 p2 p3 p4 p5).length)), .val (.int (Int32.ofNat (own_ys p1 p2 p3 p4 p5).length)), .val (.int (0 : Int32))]) rfl ?_
    show Steps p.tables e below (T26.setTop (mkF m 227 #[.val (.int p1), .val (.int p2), .val (.int p3), .val (.int p4), .val (.int p5), .val (.int p6), .val (.int (own_v0 p1)), .val (.int (own_v1 p1 p2)), .val (.int (own_v2 p1 p2 p3)), .val (.int (own_v3 p1 p2 p3 p4)), .val (.int (p5 &&& (15 : Int32))), .val (.int (own_om p5)), .val (.int (own_fr p5)), .val (.int (own_of p5)), .val (.ref b7), .val (.ref b16), .val (.int (Int32.ofNat (own_xs p1 p2 p3 p4 p5).length)), .val (.int (Int32.ofNat (own_ys p1 p2 p3 p4 p5).length)), .val (.int (0 : Int32))] [])) _
    refine XS.aload X26.here hx rfl (hb hby at_227) rfl rfl ?_
    show Steps p.tables e below (T26.setTop (mkF m 229 #[.val (.int p1), .val (.int p2), .val (.int p3), .val (.int p4), .val (.int p5), .val (.int p6), .val (.int (own_v0 p1)), .val (.int (own_v1 p1 p2)), .val (.int (own_v2 p1 p2 p3)), .val (.int (own_v3 p1 p2 p3 p4)), .val (.int (p5 &&& (15 : Int32))), .val (.int (own_om p5)), .val (.int (own_fr p5)), .val (.int (own_of p5)), .val (.ref b7), .val (.ref b16), .val (.int (Int32.ofNat (own_xs p1 p2 p3 p4 p5).length)), .val (.int (Int32.ofNat (own_ys p1 p2 p3 p4 p5).length)), .val (.int (0 : Int32))] [(.ref b7)])) _
    refine XS.iload X26.here hx rfl (hb hby at_229) rfl ?_
    show Steps p.tables e below (T26.setTop (mkF m 231 #[.val (.int p1), .val (.int p2), .val (.int p3), .val (.int p4), .val (.int p5), .val (.int p6), .val (.int (own_v0 p1)), .val (.int (own_v1 p1 p2)), .val (.int (own_v2 p1 p2 p3)), .val (.int (own_v3 p1 p2 p3 p4)), .val (.int (p5 &&& (15 : Int32))), .val (.int (own_om p5)), .val (.int (own_fr p5)), .val (.int (own_of p5)), .val (.ref b7), .val (.ref b16), .val (.int (Int32.ofNat (own_xs p1 p2 p3 p4 p5).length)), .val (.int (Int32.ofNat (own_ys p1 p2 p3 p4 p5).length)), .val (.int (0 : Int32))] [(.int (own_fr p5)), (.ref b7)])) _
    refine XS.iload X26.here hx rfl (hb hby at_231) rfl ?_
    show Steps p.tables e below (T26.setTop (mkF m 233 #[.val (.int p1), .val (.int p2), .val (.int p3), .val (.int p4), .val (.int p5), .val (.int p6), .val (.int (own_v0 p1)), .val (.int (own_v1 p1 p2)), .val (.int (own_v2 p1 p2 p3)), .val (.int (own_v3 p1 p2 p3 p4)), .val (.int (p5 &&& (15 : Int32))), .val (.int (own_om p5)), .val (.int (own_fr p5)), .val (.int (own_of p5)), .val (.ref b7), .val (.ref b16), .val (.int (Int32.ofNat (own_xs p1 p2 p3 p4 p5).length)), .val (.int (Int32.ofNat (own_ys p1 p2 p3 p4 p5).length)), .val (.int (0 : Int32))] [(.int (Int32.ofNat (own_xs p1 p2 p3 p4 p5).length)), (.int (own_fr p5)), (.ref b7)])) _
    refine XS.aload X26.here hx rfl (hb hby at_233) rfl rfl ?_
    show Steps p.tables e below (T26.setTop (mkF m 235 #[.val (.int p1), .val (.int p2), .val (.int p3), .val (.int p4), .val (.int p5), .val (.int p6), .val (.int (own_v0 p1)), .val (.int (own_v1 p1 p2)), .val (.int (own_v2 p1 p2 p3)), .val (.int (own_v3 p1 p2 p3 p4)), .val (.int (p5 &&& (15 : Int32))), .val (.int (own_om p5)), .val (.int (own_fr p5)), .val (.int (own_of p5)), .val (.ref b7), .val (.ref b16), .val (.int (Int32.ofNat (own_xs p1 p2 p3 p4 p5).length)), .val (.int (Int32.ofNat (own_ys p1 p2 p3 p4 p5).length)), .val (.int (0 : Int32))] [(.ref b16), (.int (Int32.ofNat (own_xs p1 p2 p3 p4 p5).length)), (.int (own_fr p5)), (.ref b7)])) _
    refine XS.iload X26.here hx rfl (hb hby at_235) rfl ?_
    show Steps p.tables e below (T26.setTop (mkF m 237 #[.val (.int p1), .val (.int p2), .val (.int p3), .val (.int p4), .val (.int p5), .val (.int p6), .val (.int (own_v0 p1)), .val (.int (own_v1 p1 p2)), .val (.int (own_v2 p1 p2 p3)), .val (.int (own_v3 p1 p2 p3 p4)), .val (.int (p5 &&& (15 : Int32))), .val (.int (own_om p5)), .val (.int (own_fr p5)), .val (.int (own_of p5)), .val (.ref b7), .val (.ref b16), .val (.int (Int32.ofNat (own_xs p1 p2 p3 p4 p5).length)), .val (.int (Int32.ofNat (own_ys p1 p2 p3 p4 p5).length)), .val (.int (0 : Int32))] [(.int (own_of p5)), (.ref b16), (.int (Int32.ofNat (own_xs p1 p2 p3 p4 p5).length)), (.int (own_fr p5)), (.ref b7)])) _
    refine XS.iload X26.here hx rfl (hb hby at_237) rfl ?_
    show Steps p.tables e below (T26.setTop (mkF m 239 #[.val (.int p1), .val (.int p2), .val (.int p3), .val (.int p4), .val (.int p5), .val (.int p6), .val (.int (own_v0 p1)), .val (.int (own_v1 p1 p2)), .val (.int (own_v2 p1 p2 p3)), .val (.int (own_v3 p1 p2 p3 p4)), .val (.int (p5 &&& (15 : Int32))), .val (.int (own_om p5)), .val (.int (own_fr p5)), .val (.int (own_of p5)), .val (.ref b7), .val (.ref b16), .val (.int (Int32.ofNat (own_xs p1 p2 p3 p4 p5).length)), .val (.int (Int32.ofNat (own_ys p1 p2 p3 p4 p5).length)), .val (.int (0 : Int32))] [(.int (Int32.ofNat (own_ys p1 p2 p3 p4 p5).length)), (.int (own_of p5)), (.ref b16), (.int (Int32.ofNat (own_xs p1 p2 p3 p4 p5).length)), (.int (own_fr p5)), (.ref b7)])) _
    refine st27 _ ?_
    show Steps p.tables e below (T27.setTop (mkF m 242 #[.val (.int p1), .val (.int p2), .val (.int p3), .val (.int p4), .val (.int p5), .val (.int p6), .val (.int (own_v0 p1)), .val (.int (own_v1 p1 p2)), .val (.int (own_v2 p1 p2 p3)), .val (.int (own_v3 p1 p2 p3 p4)), .val (.int (p5 &&& (15 : Int32))), .val (.int (own_om p5)), .val (.int (own_fr p5)), .val (.int (own_of p5)), .val (.ref b7), .val (.ref b16), .val (.int (Int32.ofNat (own_xs p1 p2 p3 p4 p5).length)), .val (.int (Int32.ofNat (own_ys p1 p2 p3 p4 p5).length)), .val (.int (0 : Int32))] [(.int (if own_sub (own_xs p1 p2 p3 p4 p5) (own_ys p1 p2 p3 p4 p5) = true then 1 else 0))])) _
    refine XS.iload X27.here hx rfl (hb hby at_242) rfl ?_
    show Steps p.tables e below (T27.setTop (mkF m 244 #[.val (.int p1), .val (.int p2), .val (.int p3), .val (.int p4), .val (.int p5), .val (.int p6), .val (.int (own_v0 p1)), .val (.int (own_v1 p1 p2)), .val (.int (own_v2 p1 p2 p3)), .val (.int (own_v3 p1 p2 p3 p4)), .val (.int (p5 &&& (15 : Int32))), .val (.int (own_om p5)), .val (.int (own_fr p5)), .val (.int (own_of p5)), .val (.ref b7), .val (.ref b16), .val (.int (Int32.ofNat (own_xs p1 p2 p3 p4 p5).length)), .val (.int (Int32.ofNat (own_ys p1 p2 p3 p4 p5).length)), .val (.int (0 : Int32))] [(.int (0 : Int32)), (.int (if own_sub (own_xs p1 p2 p3 p4 p5) (own_ys p1 p2 p3 p4 p5) = true then 1 else 0))])) _
    refine XS.icmpNo X27.here hx rfl (hb hby at_244) rfl (teq hres).2 ?_
    show Steps p.tables e below (T27.setTop (mkF m 247 #[.val (.int p1), .val (.int p2), .val (.int p3), .val (.int p4), .val (.int p5), .val (.int p6), .val (.int (own_v0 p1)), .val (.int (own_v1 p1 p2)), .val (.int (own_v2 p1 p2 p3)), .val (.int (own_v3 p1 p2 p3 p4)), .val (.int (p5 &&& (15 : Int32))), .val (.int (own_om p5)), .val (.int (own_fr p5)), .val (.int (own_of p5)), .val (.ref b7), .val (.ref b16), .val (.int (Int32.ofNat (own_xs p1 p2 p3 p4 p5).length)), .val (.int (Int32.ofNat (own_ys p1 p2 p3 p4 p5).length)), .val (.int (0 : Int32))] [])) _
    refine XS.iconst X27.here hx rfl (hb hby at_247) ?_
    show Steps p.tables e below (T27.setTop (mkF m 248 #[.val (.int p1), .val (.int p2), .val (.int p3), .val (.int p4), .val (.int p5), .val (.int p6), .val (.int (own_v0 p1)), .val (.int (own_v1 p1 p2)), .val (.int (own_v2 p1 p2 p3)), .val (.int (own_v3 p1 p2 p3 p4)), .val (.int (p5 &&& (15 : Int32))), .val (.int (own_om p5)), .val (.int (own_fr p5)), .val (.int (own_of p5)), .val (.ref b7), .val (.ref b16), .val (.int (Int32.ofNat (own_xs p1 p2 p3 p4 p5).length)), .val (.int (Int32.ofNat (own_ys p1 p2 p3 p4 p5).length)), .val (.int (0 : Int32))] [(.int (1 : Int32))])) _
    refine XS.goto X27.here hx rfl (pc0 := 248) (pc' := 252) rfl (hb hby at_248) (by decide) (by decide) ?_
    show Steps p.tables e below (T27.setTop (mkF m 252 #[.val (.int p1), .val (.int p2), .val (.int p3), .val (.int p4), .val (.int p5), .val (.int p6), .val (.int (own_v0 p1)), .val (.int (own_v1 p1 p2)), .val (.int (own_v2 p1 p2 p3)), .val (.int (own_v3 p1 p2 p3 p4)), .val (.int (p5 &&& (15 : Int32))), .val (.int (own_om p5)), .val (.int (own_fr p5)), .val (.int (own_of p5)), .val (.ref b7), .val (.ref b16), .val (.int (Int32.ofNat (own_xs p1 p2 p3 p4 p5).length)), .val (.int (Int32.ofNat (own_ys p1 p2 p3 p4 p5).length)), .val (.int (0 : Int32))] [(.int (1 : Int32))])) _
    exact retN X27 hx (t := .boolean) Bd.returns (by simp) (hb hby at_252) hr
  · show Q0 n0 _ T27.heap _
    exact ⟨rfl, N27⟩
set_option maxRecDepth 65536 in
set_option maxHeartbeats 40000000 in
theorem comes_1 {Post : Tables → Env → Array Value → State → Outcome → State → Prop} (hpost : ∀ tb e args s v u, (limb_1_1.after args s (.returned v) u = true ∧ limb_1_2.after args s (.returned v) u = true ∧ True) → FrameEnd s (.returned v) u (Jvm.fieldLocs frame_1_writes args s ++ Jvm.arrayLocs frame_1_arrays args s ++ Jvm.staticLocs frame_1_statics s) 16 128 → Post tb e args s (.returned v) u) :
    ArmFor flags0 classFile x code maxLocals ret World_1 tables_1 room_1 Calls_1 rest_1 Pre_1 Post := by
  intro l hfl _ _ p e ha hc hk s m args below hf hA hF happ hP
  obtain ⟨hcalls, hrest, hpre⟩ := hP
  obtain ⟨-, -, -, hnamed, -, -, -, hat⟩ := (Spec.applies_iff hf).mp happ
  obtain ⟨hg, hn⟩ := and_e (Cond.before_iff.mp (show (Jvm.Cond.and given_1 narrow_1).before args s = true from hpre))
  obtain ⟨g28, g29⟩ := and_e hg
  obtain ⟨g30, g31⟩ := and_e g29
  obtain ⟨g32, g33⟩ := and_e g31
  obtain ⟨g34, g35⟩ := and_e g33
  obtain ⟨g36, g37⟩ := and_e g35
  obtain ⟨g38, g39⟩ := and_e g37
  obtain ⟨w0, w1, w2, w3, w4, w5, rfl⟩ : ∃ w0 w1 w2 w3 w4 w5 : Value, args = #[w0, w1, w2, w3, w4, w5] := by
    have hs : args.size = 6 := by simpa [Cond.value, given_1] using g28
    obtain ⟨L⟩ := args
    match L, hs with
    | [w0, w1, w2, w3, w4, w5], _ => exact ⟨w0, w1, w2, w3, w4, w5, rfl⟩
  have hw := fun d (hd : d ∈ tables_1) => atoms_spec (ws := Jvm.Cond.code x code maxLocals ret :: tables_1) hat d (List.mem_cons_of_mem _ hd)
  have hfit : Fit s := fun {y c} hc i hi => by
    obtain ⟨ha, rfl⟩ := Array.getElem?_eq_some_iff.mp hc
    have q := List.all_eq_true.mp ((Array.all_eq_true_iff_forall_mem.mp hF) _ (Array.getElem_mem ha)) i (List.mem_range.mpr hi)
    simpa [Array.getElem?_eq_getElem hi] using q
  obtain ⟨i0, ei0⟩ := is_v g30
  obtain rfl : w0 = (.int i0) := Option.some.inj ei0
  obtain ⟨i1, ei1⟩ := is_v g32
  obtain rfl : w1 = (.int i1) := Option.some.inj ei1
  obtain ⟨i2, ei2⟩ := is_v g34
  obtain rfl : w2 = (.int i2) := Option.some.inj ei2
  obtain ⟨i3, ei3⟩ := is_v g36
  obtain rfl : w3 = (.int i3) := Option.some.inj ei3
  obtain ⟨i4, ei4⟩ := is_v g38
  obtain rfl : w4 = (.int i4) := Option.some.inj ei4
  obtain ⟨i5, ei5⟩ := is_v g39
  obtain rfl : w5 = (.int i5) := Option.some.inj ei5
  by_cases hb : ((i4 &&& 15) &&& (own_om i4 ^^^ (-1))) = 0
  · obtain ⟨n, o, h1, h2, h3, _, L, rfl, ⟨rfl, N⟩, hq⟩ := (rm0_ff l s _ hw tables_1 i0 i1 i2 i3 i4 i5 s.heap s.heap.size (Nat.le_refl _) hb) p e ha hc hk s m _ below hf ((Spec.applies_iff_loose hf).mp happ).1 ⟨rfl, State.Warmed39.refl s, rfl⟩ trivial
    refine ⟨n, _, h1, h2, h3, hpost _ _ _ _ _ _ ⟨Cond.after_iff.mpr rfl, Cond.after_iff.mpr (eq_i res_at (Term.int_eval (1)) rfl), trivial⟩ ⟨hq.1, hq.2.1, (hq.2.2.sift fun y hy => Or.inr (N y hy)).mono (by decide) (by decide)⟩⟩
  · obtain ⟨n, o, h1, h2, h3, _, L, rfl, ⟨rfl, N⟩, hq⟩ := (rm0_tf l s _ hw tables_1 i0 i1 i2 i3 i4 i5 s.heap s.heap.size (Nat.le_refl _) hb) p e ha hc hk s m _ below hf ((Spec.applies_iff_loose hf).mp happ).1 ⟨rfl, State.Warmed39.refl s, rfl⟩ trivial
    refine ⟨n, _, h1, h2, h3, hpost _ _ _ _ _ _ ⟨Cond.after_iff.mpr rfl, Cond.after_iff.mpr (eq_i res_at (Term.int_eval (1)) rfl), trivial⟩ ⟨hq.1, hq.2.1, (hq.2.2.sift fun y hy => Or.inr (N y hy)).mono (by decide) (by decide)⟩⟩
theorem main_1_1 : Claimed_1_1 := comes_1 fun _ _ _ _ _ _ h hF => ⟨h.1, hF⟩
theorem main_1_2 : Claimed_1_2 := comes_1 fun _ _ _ _ _ _ h hF => ⟨h.2.1, hF⟩
end Jvm.Pilot.@@N@@
namespace Jvm.Pilot.@@N@@
open Jvm Jvm.ClassFile Sem Op Lib Jvm.Free Jvm.Stand Jvm.Pilot.@@N@@.Jvm.D
/-! MADE BY PROGRAM (witnessworld.py) out of the Statement's table words and the real class files: 9 classes; the members and pool entries that the words name. The judged class is class 1, her method 1. -/
namespace start1
open Jvm.ClassFile
def u (s : String) : CpInfo := .utf8 (stringToUtf16 s)
/-- a pool by its gaps: so many unusable entries, then the entry; so many at the end -/
def gap : Nat → List CpInfo → List CpInfo
  | 0, r => r
  | n + 1, r => .unusable :: gap n r
def poolList (es : List (Nat × CpInfo)) (last : Nat) : List CpInfo := es.foldr (fun e r => gap e.1 (e.2 :: r)) (gap last [])
def pool (es : List (Nat × CpInfo)) (last : Nat) : Array CpInfo := ⟨poolList es last⟩
def fileOf (pool : Array CpInfo) (this : Nat) (attrs : Array Attribute := #[]) (ms : Array MethodInfo := #[]) (fl : Nat := 33) (sup : Nat := 0) (ifs : Array Nat := #[]) (fds : Array FieldInfo := #[]) : ClassFile where
  minorVersion := 0
  majorVersion := 65
  constantPool := pool
  accessFlags := fl
  thisClass := this
  superClass := sup
  interfaces := ifs
  fields := fds
  methods := ms
  attributes := attrs
def plain (name : String) (sup : Option ClassId) : Class where
  name := name
  kind := .ordinary
  loader := none
  accessFlags := 33
  super := sup
  interfaces := #[]
  cf := none
  fields := #[]
  methods := #[]
  instanceTypes := #[]
  staticTypes := #[]
  resolved := #[]
  callSites := []
  init := .initialized
  statics := none
  mirror := none

def pool0 : Array CpInfo := pool [(5, u "<init>"), (0, u "()V"), (1, .class_ 10), (1, u "java/lang/Object")] 113

def k0m0 : Method := { name := "<init>", desc := "()V", sig := { parameters := [], returnType := none }, accessFlags := 1, code := none }
/-- java/lang/Object -/
def k0 : Class := { plain "java/lang/Object" none with
  accessFlags := 33
  interfaces := #[]
  cf := some (fileOf pool0 8 #[] #[{ accessFlags := 1, nameIndex := 5, descriptorIndex := 6, attributes := #[] }] 33 0 #[] #[])
  fields := #[]
  methods := #[k0m0]
  instanceTypes := #[]
  staticTypes := #[]
  resolved := Array.replicate 124 none
  statics := none }

def pool1 : Array CpInfo := pool [(2, .class_ 4), (1, u "java/lang/Object"), (0, u "<init>"), (0, u "()V"), (2, .integer 2147483648), (0, .integer 1073741823), (0, .integer 1073741822), (0, .methodref 13 14), (0, .class_ 15), (0, .nameAndType 16 17), (0, u "com/example/godwit/godwit/faults/SymbolsIsSubsetPinLaw"), (0, u "place"), (0, u "([IIIIIII)I"), (0, .methodref 19 20), (0, .class_ 21), (0, .nameAndType 22 23), (0, u "com/example/godwit/godwit/faults/Symbols"), (0, u "isSubset"), (0, u "([III[III)Z"), (2, u "law"), (0, u "(IIIIII)Z")] 5

def k1m0 : Method := { name := "<init>", desc := "()V", sig := { parameters := [], returnType := none }, accessFlags := 1, code := none }
def k1c1 : Code := { maxStack := 7, maxLocals := 19, code := code, exceptionTable := #[], attributes := #[] }
def k1m1 : Method := { name := "law", desc := "(IIIIII)Z", sig := { parameters := [.int, .int, .int, .int, .int, .int], returnType := some .boolean }, accessFlags := 9, code := some k1c1 }
def k1c2 : Code := { maxStack := 3, maxLocals := 8, code := method_3_code, exceptionTable := #[], attributes := #[] }
def k1m2 : Method := { name := "place", desc := "([IIIIIII)I", sig := { parameters := [(.array .int), .int, .int, .int, .int, .int, .int], returnType := some .int }, accessFlags := 10, code := some k1c2 }
/-- com/example/godwit/godwit/faults/SymbolsIsSubsetPinLaw -/
def k1 : Class := { plain "com/example/godwit/godwit/faults/SymbolsIsSubsetPinLaw" (some 0) with
  accessFlags := 49
  interfaces := #[]
  cf := some (fileOf pool1 13 #[] #[{ accessFlags := 1, nameIndex := 5, descriptorIndex := 6, attributes := #[] }, { accessFlags := 9, nameIndex := 26, descriptorIndex := 27, attributes := #[] }, { accessFlags := 10, nameIndex := 16, descriptorIndex := 17, attributes := #[] }] 49 2 #[] #[])
  fields := #[]
  methods := #[k1m0, k1m1, k1m2]
  instanceTypes := #[]
  staticTypes := #[]
  resolved := Array.replicate 33 none
  statics := none }

def pool2 : Array CpInfo := pool [(2, .class_ 4), (1, u "java/lang/Object"), (3, .class_ 10), (1, u "com/example/godwit/godwit/faults/Symbols"), (0, u "entries"), (0, u "[Lcom/example/godwit/godwit/faults/Symbols$Entry;"), (7, .class_ 21), (0, u "com/example/godwit/godwit/faults/Symbols$Entry"), (103, u "NONE"), (0, u "Lcom/example/godwit/godwit/faults/Symbols;"), (21, u "isSubset"), (0, u "([III[III)Z")] 7

def k2c0 : Code := { maxStack := 3, maxLocals := 10, code := prog_87_method_18_code, exceptionTable := #[], attributes := #[] }
def k2m0 : Method := { name := "isSubset", desc := "([III[III)Z", sig := { parameters := [(.array .int), .int, .int, (.array .int), .int, .int], returnType := some .boolean }, accessFlags := 8, code := some k2c0 }
/-- com/example/godwit/godwit/faults/Symbols -/
def k2 : Class := { plain "com/example/godwit/godwit/faults/Symbols" (some 0) with
  accessFlags := 32
  interfaces := #[]
  cf := some (fileOf pool2 8 #[.nestMembers #[20]] #[{ accessFlags := 8, nameIndex := 148, descriptorIndex := 149, attributes := #[] }] 32 2 #[] #[{ accessFlags := 24, nameIndex := 125, descriptorIndex := 126, attributes := #[] }, { accessFlags := 18, nameIndex := 11, descriptorIndex := 12, attributes := #[] }])
  fields := #[{ name := "NONE", type := (.object "com/example/godwit/godwit/faults/Symbols"), accessFlags := 24, slot := 0, constantValue := 0 }, { name := "entries", type := (.array (.object "com/example/godwit/godwit/faults/Symbols$Entry")), accessFlags := 18, slot := 0, constantValue := 0 }]
  methods := #[k2m0]
  instanceTypes := #[(.array (.object "com/example/godwit/godwit/faults/Symbols$Entry"))]
  staticTypes := #[(.object "com/example/godwit/godwit/faults/Symbols")]
  resolved := Array.replicate 157 none
  statics := none }

def pool3 : Array CpInfo := pool [(1, u "java/lang/Cloneable"), (0, .class_ 1), (0, u "java/lang/Object"), (0, .class_ 3)] 3

/-- java/lang/Cloneable -/
def k3 : Class := { plain "java/lang/Cloneable" (some 0) with
  accessFlags := 1537
  interfaces := #[]
  cf := some (fileOf pool3 2 #[] #[] 1537 4 #[] #[])
  fields := #[]
  methods := #[]
  instanceTypes := #[]
  staticTypes := #[]
  resolved := Array.replicate 8 none
  statics := none }

def pool4 : Array CpInfo := pool [(1, u "java/io/Serializable"), (0, .class_ 1), (0, u "java/lang/Object"), (0, .class_ 3)] 3

/-- java/io/Serializable -/
def k4 : Class := { plain "java/io/Serializable" (some 0) with
  accessFlags := 1537
  interfaces := #[]
  cf := some (fileOf pool4 2 #[] #[] 1537 4 #[] #[])
  fields := #[]
  methods := #[]
  instanceTypes := #[]
  staticTypes := #[]
  resolved := Array.replicate 8 none
  statics := none }

/-- the primitive byte -/
def k5 : Class := { plain "byte" none with kind := .primitive 'B', accessFlags := 0x411 }
/-- [B -/
def k6 : Class := { plain "[B" (some 0) with kind := .array 5 .byte, interfaces := #[3, 4], accessFlags := 1041 }

/-- the primitive int -/
def k7 : Class := { plain "int" none with kind := .primitive 'I', accessFlags := 0x411 }
/-- [I -/
def k8 : Class := { plain "[I" (some 0) with kind := .array 7 .int, interfaces := #[3, 4], accessFlags := 1041 }

def heap : Heap := #[]
def classes : Array Class := #[k0, k1, k2, k3, k4, k5, k6, k7, k8]
def interned : List (Array UInt16 × Addr) := []
def slotsUsed : Nat := 0
def theMethod : MethodId := ⟨1, 1⟩
def args0 : Array Value := #[.int 1, .int 2, .int 3, .int 4, .int 4660, .int 6]
def aboutOver (below : List Frame) : State where
  vm := { classes := classes, interned := interned.toArray }
  heap := heap
  slotsUsed := slotsUsed
  threads := #[{ frames := .invoking theMethod args0 :: below }]
def below0 : List Frame := [.native { method := ⟨0, 0⟩, args := #[] }]
def about1 : State := aboutOver below0
def p0 : Program := .bare "" "" ""
def e0 : Env := launch0.env 0 0 0
theorem w_frames : about1.frames = Frame.invoking theMethod args0 :: below0 := rfl
set_option maxRecDepth 65536 in
theorem w_args : argsFit about1.vm theMethod args0 = true := by decide +kernel
set_option maxRecDepth 65536 in
theorem w_heap : heapFits about1 = true := by decide +kernel
set_option maxRecDepth 65536 in
theorem w_runnable : about1.curStatus? = some .runnable := by decide +kernel
set_option maxRecDepth 65536 in
theorem w_alone : about1.alone = true := by decide +kernel
set_option maxRecDepth 65536 in
theorem w_named : about1.methodNamed? x = some theMethod := by decide +kernel
set_option maxRecDepth 65536 in
theorem w_hears : about1.hears theMethod below0 = true := by decide +kernel
set_option maxRecDepth 65536 in
theorem w_ripe : about1.ripe theMethod args0 below0 = true := by decide +kernel
theorem w_running : about1.status = .running := rfl
set_option maxRecDepth 65536 in
theorem w_room : about1.hasRoom e0.platform room_1 = true :=
  launch0.hasRoom_least _ room_1 (by decide +kernel) (by decide +kernel) (by decide +kernel) (by decide +kernel) (by decide +kernel) (by decide +kernel)
theorem allAtoms_all (ts : List Jvm.Cond) (a : Array Jvm.Value) (st : Jvm.State) : (allAtoms ts).before a st = ts.all (fun c => c.before a st) := by
  induction ts with
  | nil => rfl
  | cons c t ih =>
    show (Jvm.Cond.and c (allAtoms t)).before a st = _
    rw [Jvm.Cond.before_and, ih, List.all_cons]
def words1 : List Jvm.Cond := Jvm.Cond.code x code maxLocals ret :: tables_1
/-- a 'code' word, met by the world's own term for the bytes: nothing is compared byte by byte -/
theorem code_word {y : MethodName} {bytes : ByteArray} {mx : Nat} {rt : Option FieldType} {a : Array Value} {s : State} {m : MethodId} {meth : Method} {c : Code} (h1 : s.methodNamed? y = some m) (h2 : s.vm.method? m = some meth) (h3 : meth.code = some c) (h4 : c.code = bytes)
    (h5 : (c.maxLocals == mx && c.exceptionTable.isEmpty && decide (c.maxStack ≤ mostOperands) && decide (meth.sig.returnType = rt) && !meth.locks && decide (parseMethodDescriptor y.desc = some meth.sig)) = true) : (Jvm.Cond.code y bytes mx rt).before a s = true := by
  simp only [Bool.and_eq_true, beq_iff_eq, Bool.not_eq_true', decide_eq_true_eq] at h5
  obtain ⟨⟨⟨⟨⟨g1, g2⟩, g3⟩, g4⟩, g5⟩, g6⟩ := h5
  simp [Cond.before, Cond.holds, Cond.value, h1, h2, h3, h4, g1, g2, g3, g4, g5, g6]
def isCode : Jvm.Cond → Bool
  | .code _ _ _ _ => true
  | _ => false
theorem all_split {L : List Jvm.Cond} {P : Jvm.Cond → Bool} (h1 : L.all (fun c => isCode c || P c) = true) (h2 : ∀ c ∈ L.filter isCode, P c = true) : L.all P = true := by
  refine List.all_eq_true.mpr fun c hc => ?_
  have h := List.all_eq_true.mp h1 c hc
  rcases Bool.eq_false_or_eq_true (isCode c) with hi | hi
  · exact h2 c (List.mem_filter.mpr ⟨hc, hi⟩)
  · simpa [hi] using h
set_option maxRecDepth 65536 in
theorem w_c0 : (Jvm.Cond.code x code maxLocals ret).before args0 about1 = true := code_word (m := ⟨1, 1⟩) (meth := k1m1) (c := k1c1) (by decide +kernel) rfl rfl rfl (by decide +kernel)
set_option maxRecDepth 65536 in
theorem w_c1 : (Jvm.Cond.code ({ cls := "com/example/godwit/godwit/faults/SymbolsIsSubsetPinLaw", name := "place", desc := "([IIIIIII)I" } : Jvm.MethodName) method_3_code (8 : Nat) (Option.some Jvm.ClassFile.FieldType.int)).before args0 about1 = true := code_word (m := ⟨1, 2⟩) (meth := k1m2) (c := k1c2) (by decide +kernel) rfl rfl rfl (by decide +kernel)
set_option maxRecDepth 65536 in
theorem w_c2 : (Jvm.Cond.code ({ cls := "com/example/godwit/godwit/faults/Symbols", name := "isSubset", desc := "([III[III)Z" } : Jvm.MethodName) prog_87_method_18_code (10 : Nat) (Option.some Jvm.ClassFile.FieldType.boolean)).before args0 about1 = true := code_word (m := ⟨2, 0⟩) (meth := k2m0) (c := k2c0) (by decide +kernel) rfl rfl rfl (by decide +kernel)
def codes1 : List Jvm.Cond := [Jvm.Cond.code x code maxLocals ret, Jvm.Cond.code ({ cls := "com/example/godwit/godwit/faults/SymbolsIsSubsetPinLaw", name := "place", desc := "([IIIIIII)I" } : Jvm.MethodName) method_3_code (8 : Nat) (Option.some Jvm.ClassFile.FieldType.int), Jvm.Cond.code ({ cls := "com/example/godwit/godwit/faults/Symbols", name := "isSubset", desc := "([III[III)Z" } : Jvm.MethodName) prog_87_method_18_code (10 : Nat) (Option.some Jvm.ClassFile.FieldType.boolean)]
set_option maxRecDepth 65536 in
theorem codes_eq : words1.filter isCode = codes1 := rfl
theorem w_codes : ∀ c ∈ words1.filter isCode, c.before args0 about1 = true := by
  rw [codes_eq]
  intro c hc
  simp only [codes1, List.mem_cons, List.not_mem_nil, or_false] at hc
  rcases hc with rfl | rfl | rfl
  · exact w_c0
  · exact w_c1
  · exact w_c2
set_option maxRecDepth 65536 in
theorem w_t1 : words1.all (fun c => isCode c || c.before args0 about1) = true := by decide +kernel
theorem w_tables : (allAtoms (Jvm.Cond.code x code maxLocals ret :: tables_1)).before args0 about1 = true := by
  rw [allAtoms_all]
  show words1.all (fun c => c.before args0 about1) = true
  refine all_split ?_ w_codes
  rw [w_t1]
set_option maxRecDepth 65536 in
theorem w_case : (Jvm.Cond.and given_1 narrow_1).before args0 about1 = true := by decide +kernel
theorem w_applies : (headSpec (Jvm.Cond.code x code maxLocals ret :: tables_1) room_1).applies x e0.platform about1 = true :=
  (Spec.applies_iff w_frames).mpr ⟨w_running, w_runnable, w_alone, w_named, w_hears, w_ripe, w_room, w_tables⟩
theorem atStart : AtStart classFile x code maxLocals ret World_1 tables_1 room_1 Calls_1 rest_1 Pre_1 launch0 p0 e0 about1 theMethod args0 below0 :=
  ⟨lists_1, trivial, launch0.admits_env _ _ _, launch0.least_env, fairChoices_fair.cas, fairChoices_fair.clock, w_frames, w_args, w_heap, w_applies, trivial, trivial, w_case⟩
end start1
theorem witness_1 : WitnessClaimed_1 := ⟨start1.p0, start1.e0, start1.about1, start1.theMethod, start1.args0, start1.below0, start1.atStart⟩
end Jvm.Pilot.@@N@@
