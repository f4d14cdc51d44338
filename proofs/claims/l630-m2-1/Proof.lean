import JvmDerived
import JvmDerived.Pilot.@@N@@Statement
import JvmDerived.Pilot.@@N@@Code
set_option linter.unusedVariables false
set_option linter.unusedSimpArgs false
namespace Jvm.Pilot.@@N@@
open Jvm Jvm.ClassFile Sem Op Lib Jvm.Free Jvm.Stand Jvm.LawKit Jvm.RoadKit Bundle Jvm.Pilot.@@N@@.Jvm.D
section Own
variable {p : Program} {l : Launch} {e : Env} {R : Room} {s : State} {m : MethodId} {args : Array Value} {below : List Frame} {meth : Method} {c : Code} {T : State} {locs : List Loc} {cells slots : Nat} {k n : Nat} {P : Option Value → Heap → List Loc → Prop} {A B : State}
/-- from S0 the run comes to a return with what P says -/
def OG (p : Program) (e : Env) (below : List Frame) (s : State) (k n : Nat) (P : Option Value → Heap → List Loc → Prop) (S0 : State) : Prop :=
  ∃ s₂ o, Steps p.tables e below S0 s₂ ∧ s₂.status = .running ∧ Ended s₂ below o ∧ ∃ v L, o = .returned v ∧ P v s₂.heap L ∧ FrameEnd s o s₂ L k n
theorem OG.trans (h : Steps p.tables e below B A) (g : OG p e below s k n P A) : OG p e below s k n P B := by
  obtain ⟨s₂, o, h1, r⟩ := g
  exact ⟨s₂, o, h.trans h1, r⟩
theorem OG.of (h : ∀ t, Steps p.tables e below A t → Steps p.tables e below B t) (g : OG p e below s k n P A) : OG p e below s k n P B := by
  obtain ⟨s₂, o, h1, r⟩ := g
  exact ⟨s₂, o, h _ h1, r⟩
theorem OG.retN (X : Stand p l e R s m args below meth c T locs cells slots) (hx : p.tables.exec = Jvm.exec) {pc : Nat} {Ls : Array Slot} {z : Int32} {t : FieldType} {rest : List Value} (hret : meth.sig.returnType = some t) (ht : t = .boolean ∨ t = .byte ∨ t = .char ∨ t = .short) (hd : decode c.code pc = .ok (.ireturn, 1)) (hlk : meth.locks = false)
    (hP : P (some (.int (nar t z))) T.heap locs) (hc : cells ≤ k) (hs : slots ≤ n) : OG p e below s k n P (T.setTop (mkF m pc Ls (.int z :: rest))) := by
  obtain ⟨fs, hr, hrun, hended, hW, hsame⟩ := X.leave (v := some (.int (nar t z))) (fun h => by rw [hret] at h; cases h) hlk
  exact ⟨_, _, Jvm.RoadKit.retN X hx hret ht hd hr, hrun, hended, _, _, rfl, hP, ⟨_, rfl⟩, hW, hsame.mono hc hs⟩
theorem OG.retI (X : Stand p l e R s m args below meth c T locs cells slots) (hx : p.tables.exec = Jvm.exec) {pc : Nat} {Ls : Array Slot} {z : Int32} {rest : List Value} (hret : meth.sig.returnType = some .int) (hd : decode c.code pc = .ok (.ireturn, 1)) (hlk : meth.locks = false)
    (hP : P (some (.int z)) T.heap locs) (hc : cells ≤ k) (hs : slots ≤ n) : OG p e below s k n P (T.setTop (mkF m pc Ls (.int z :: rest))) := by
  obtain ⟨fs, hr, hrun, hended, hW, hsame⟩ := X.leave (v := some (.int z)) (fun h => by rw [hret] at h; cases h) hlk
  exact ⟨_, _, retOut X hx hret rfl (Or.inl ⟨rfl, Or.inl rfl, _, rfl⟩) hd hr, hrun, hended, _, _, rfl, hP, ⟨_, rfl⟩, hW, hsame.mono hc hs⟩
theorem OG.retJ (X : Stand p l e R s m args below meth c T locs cells slots) (hx : p.tables.exec = Jvm.exec) {pc : Nat} {Ls : Array Slot} {z : Int64} {rest : List Value} (hret : meth.sig.returnType = some .long) (hd : decode c.code pc = .ok (.lreturn, 1)) (hlk : meth.locks = false)
    (hP : P (some (.long z)) T.heap locs) (hc : cells ≤ k) (hs : slots ≤ n) : OG p e below s k n P (T.setTop (mkF m pc Ls (.long z :: rest))) := by
  obtain ⟨fs, hr, hrun, hended, hW, hsame⟩ := X.leave (v := some (.long z)) (fun h => by rw [hret] at h; cases h) hlk
  exact ⟨_, _, retOut X hx hret rfl (Or.inr (Or.inl ⟨rfl, rfl, _, rfl⟩)) hd hr, hrun, hended, _, _, rfl, hP, ⟨_, rfl⟩, hW, hsame.mono hc hs⟩
theorem OG.retA (X : Stand p l e R s m args below meth c T locs cells slots) (hx : p.tables.exec = Jvm.exec) {pc : Nat} {Ls : Array Slot} {w : Value} {t : FieldType} {rest : List Value} (hret : meth.sig.returnType = some t) (ht : t.isReference = true) (hw : w.isRef = true) (hd : decode c.code pc = .ok (.areturn, 1)) (hlk : meth.locks = false)
    (hP : P (some w) T.heap locs) (hc : cells ≤ k) (hs : slots ≤ n) : OG p e below s k n P (T.setTop (mkF m pc Ls (w :: rest))) := by
  obtain ⟨fs, hr, hrun, hended, hW, hsame⟩ := X.leave (v := some w) (fun h => by rw [hret] at h; cases h) hlk
  have hn : narrow t w = w := by cases t <;> first | (cases ht; done) | rfl
  exact ⟨_, _, retOut X hx hret hn (Or.inr (Or.inr (Or.inr (Or.inr ⟨rfl, ht, hw⟩)))) hd hr, hrun, hended, _, _, rfl, hP, ⟨_, rfl⟩, hW, hsame.mono hc hs⟩
theorem OG.retV (X : Stand p l e R s m args below meth c T locs cells slots) (hx : p.tables.exec = Jvm.exec) {pc : Nat} {Ls : Array Slot} (hret : meth.sig.returnType = none) (hd : decode c.code pc = .ok (.return_, 1)) (hlk : meth.locks = false)
    (hP : P none T.heap locs) (hc : cells ≤ k) (hs : slots ≤ n) : OG p e below s k n P (T.setTop (mkF m pc Ls [])) := by
  obtain ⟨fs, hr, hrun, hended, hW, hsame⟩ := X.leave (v := none) (fun _ => rfl) hlk
  exact ⟨_, _, X.returnOut hx hret hd hr, hrun, hended, _, _, rfl, hP, ⟨_, rfl⟩, hW, hsame.mono hc hs⟩
theorem own_catI (x : Int32) : (Value.int x).category = 1 := rfl
theorem own_catJ (x : Int64) : (Value.long x).category = 2 := rfl
theorem own_catR (x : Addr) : (Value.ref x).category = 1 := rfl
theorem own_catN : Value.null.category = 1 := rfl
theorem own_narB {z : Int32} (h : z = 0 ∨ z = 1) : nar .boolean z = z := by rcases h with rfl | rfl <;> rfl
theorem own_ite01 {c : Prop} [Decidable c] : (if c then (1 : Int32) else 0) = 0 ∨ (if c then (1 : Int32) else 0) = 1 := by by_cases h : c <;> simp [h]
theorem own_eqI {args : Array Value} {first st : State} {o : Option Outcome} {idx : List Nat} {t : Term} {x : Int32} (h : (Jvm.Cond.eq t (.int x)).value args first o st idx = some true) : t.eval args first o idx st = some (.int x) := by
  obtain ⟨a, b, ha, hb, k1, k2⟩ := cmp_v (Or.inl h)
  obtain rfl : Value.int x = b := Option.some.inj hb
  obtain ⟨z, rfl⟩ := k2
  have hz := gotT (P := z = x) (by simp [Cond.value, ha, hb]) h
  rw [ha, hz]
/-- the array at a (of the kind ty) holds v at the place j -/
def ORd (Z : State) (h : Heap) (a : Addr) (ty : FieldType) (j : Int32) (v : Value) : Prop := ∃ cl : Cell, Arr Z h a cl ty ∧ ¬ (j < 0 ∨ cl.slots.size ≤ j.toNatClampNeg) ∧ cl.slots[j.toNatClampNeg]? = some v
theorem own_rd {Z : State} {h : Heap} {a : Addr} {kc : ClassId} {ty : FieldType} {z j : Int32} {vs : List Value} {d v : Value} (F : Arv Z h a kc ty z vs d) (hj : ¬ j < 0 ∧ j < z) (hv : vs.getD j.toNatClampNeg d = v) : ORd Z h a ty j v := by
  obtain ⟨cl, A, -, S, -, H, -⟩ := F
  exact ⟨cl, A, inb_of S hj, H.at (inb_of S hj) hv⟩
theorem ORd.ext {Z : State} {h h' : Heap} {a : Addr} {ty : FieldType} {j : Int32} {v : Value} (F : ORd Z h a ty j v) (E : Ext h h') : ORd Z h' a ty j v := by
  obtain ⟨cl, A, r⟩ := F; exact ⟨cl, A.ext E, r⟩
theorem ORd.other {Z : State} {h h' : Heap} {a b : Addr} {ty : FieldType} {j : Int32} {v w : Value} {sl : Nat} (F : ORd Z h a ty j v) (W : Wr h h' b sl w) (q : a ≠ b) : ORd Z h' a ty j v := by
  obtain ⟨cl, A, r⟩ := F; exact ⟨cl, A.other W q, r⟩
theorem ORd.keep {Z : State} {h h' : Heap} {a : Addr} {ty : FieldType} {j : Int32} {v : Value} {ws : List Addr} (F : ORd Z h a ty j v) (K : Keep h h' ws) (q : a ∉ ws) : ORd Z h' a ty j v := by
  obtain ⟨cl, A, r⟩ := F; exact ⟨cl, ⟨K.2.1 a cl A.1 q, A.2⟩, r⟩
theorem ORd.lt {Z : State} {h : Heap} {a : Addr} {ty : FieldType} {j : Int32} {v : Value} (F : ORd Z h a ty j v) : a < h.size := by
  obtain ⟨cl, A, r⟩ := F; exact A.lt
theorem ORd.start {Z : State} {args : Array Value} {t : Term} {a : Addr} {ty : FieldType} {j : Int32} {v : Value} (ev : t.eval args Z none [] Z = some (.ref a)) (hx : (Jvm.Cond.arrayOf t ty).value args Z none Z [] = some true) (hj : ¬ j < 0) (he : (Term.elem t (.int j)).eval args Z none [] Z = some v) : ORd Z Z.heap a ty j v := by
  obtain ⟨c, A⟩ := Arr.start ev hx
  have hA : Z.arrayAt? a = some c := Arr.fin (Vm.Alike.refl _) A
  rw [elem_f ev (Term.int_eval j) hA hj] at he
  exact ⟨c, A, fun q => q.elim hj fun q => (by rw [Array.getElem?_eq_none q] at he; cases he), he⟩
end Own

section OwnW
variable {p : Program} {l : Launch} {e : Env} {R : Room} {s : State} {vm0 : Vm} {k0 : Nat} {m : MethodId} {args : Array Value} {below : List Frame} {meth : Method} {c : Code} {T : State} {locs : List Loc} {cells slots : Nat} {k n : Nat} {P : Option Value → Heap → List Loc → Prop} {A B : State} {Z : State} {EL : List (String × Nat)}
/-- the same, where literals may have been loaded meanwhile -/
def OGW (Z : State) (EL : List (String × Nat)) (p : Program) (e : Env) (below : List Frame) (s : State) (k n : Nat) (P : Option Value → Heap → List Loc → Prop) (S0 : State) : Prop :=
  ∃ s₂ o, Steps p.tables e below S0 s₂ ∧ s₂.status = .running ∧ Ended s₂ below o ∧ ∃ v L, o = .returned v ∧ P v s₂.heap L ∧ CHr Z EL s.vm s.heap s₂.vm s₂.heap ∧ ReturnedEndW s o s₂ L k n
theorem OGW.trans (h : Steps p.tables e below B A) (g : OGW Z EL p e below s k n P A) : OGW Z EL p e below s k n P B := by
  obtain ⟨s₂, o, h1, r⟩ := g
  exact ⟨s₂, o, h.trans h1, r⟩
theorem OGW.of (h : ∀ t, Steps p.tables e below A t → Steps p.tables e below B t) (g : OGW Z EL p e below s k n P A) : OGW Z EL p e below s k n P B := by
  obtain ⟨s₂, o, h1, r⟩ := g
  exact ⟨s₂, o, h _ h1, r⟩
theorem own_RW {s t : State} {o : Outcome} {L : List Loc} (h : ReturnedEndW s o t L cells slots) (hc : cells ≤ k) (hs : slots ≤ n) : ReturnedEndW s o t L k n := ⟨h.1, h.2.1, h.2.2.1, h.2.2.2.mono hc hs⟩
theorem OGW.retN (X : Stand p l e R (s.setVm vm0) m args below meth c T locs cells slots) (hx : p.tables.exec = Jvm.exec) {pc : Nat} {Ls : Array Slot} {z : Int32} {t : FieldType} {rest : List Value} (hret : meth.sig.returnType = some t) (ht : t = .boolean ∨ t = .byte ∨ t = .char ∨ t = .short) (hd : decode c.code pc = .ok (.ireturn, 1)) (hlk : meth.locks = false)
    (hS : s.Since vm0 k0) (hk : k0 ≤ T.heap.size) (hC : CHr Z EL s.vm s.heap T.vm T.heap) (hP : P (some (.int (nar t z))) T.heap locs) (hc : cells ≤ k) (hs : slots ≤ n) : OGW Z EL p e below s k n P (T.setTop (mkF m pc Ls (.int z :: rest))) := by
  obtain ⟨fs, hr, hrun, hended, hW⟩ := X.leaveW hS hk (v := some (.int (nar t z))) (fun h => by rw [hret] at h; cases h) hlk
  exact ⟨_, _, Jvm.RoadKit.retN X hx hret ht hd hr, hrun, hended, _, _, rfl, hP, hC, own_RW hW hc hs⟩
theorem OGW.retA (X : Stand p l e R (s.setVm vm0) m args below meth c T locs cells slots) (hx : p.tables.exec = Jvm.exec) {pc : Nat} {Ls : Array Slot} {w : Value} {t : FieldType} {rest : List Value} (hret : meth.sig.returnType = some t) (ht : t.isReference = true) (hw : w.isRef = true) (hd : decode c.code pc = .ok (.areturn, 1)) (hlk : meth.locks = false)
    (hS : s.Since vm0 k0) (hk : k0 ≤ T.heap.size) (hC : CHr Z EL s.vm s.heap T.vm T.heap) (hP : P (some w) T.heap locs) (hc : cells ≤ k) (hs : slots ≤ n) : OGW Z EL p e below s k n P (T.setTop (mkF m pc Ls (w :: rest))) := by
  obtain ⟨fs, hr, hrun, hended, hW⟩ := X.leaveW hS hk (v := some w) (fun h => by rw [hret] at h; cases h) hlk
  have hn : narrow t w = w := by cases t <;> first | (cases ht; done) | rfl
  exact ⟨_, _, retOut X hx hret hn (Or.inr (Or.inr (Or.inr (Or.inr ⟨rfl, ht, hw⟩)))) hd hr, hrun, hended, _, _, rfl, hP, hC, own_RW hW hc hs⟩
end OwnW


abbrev OEL : List (String × Nat) := [("com/example/kind4/kind4/model/SqlTokenIsDigitPinLaw", 7)]
theorem own_EW {Z : State} {a0 : Array Value} (hw : ∀ d ∈ tables_1, d.before a0 Z = true) : EW Z a0 OEL := EW.cons (hw _ (List.mem_of_getElem? (i := 5) rfl)) (by decide) EW.nil
theorem own_wS {Z : State} {a0 : Array Value} (hw : ∀ d ∈ tables_1, d.before a0 Z = true) : ∀ a ∈ Bundle.stringAtoms, a.before a0 Z = true := fun d hd => hw d ((by decide +kernel : ∀ d ∈ Bundle.stringAtoms, d ∈ tables_1) d hd)
theorem own_mem_7 : (("com/example/kind4/kind4/model/SqlTokenIsDigitPinLaw", 7) : String × Nat) ∈ OEL := List.mem_cons_self
theorem own_n10 {i : Int32} (h0 : ¬ i < (0 : Int32)) (h1 : i < (10 : Int32)) : ∃ j : Nat, j < 10 ∧ i = Int32.ofNat j := by
  rw [Int32.lt_iff_toInt_lt] at h0 h1
  refine ⟨i.toInt.toNat, by have : (10 : Int32).toInt = 10 := rfl; have : (0 : Int32).toInt = 0 := rfl; omega, ?_⟩
  apply Int32.toInt_inj.mp
  have : (10 : Int32).toInt = 10 := rfl
  have : (0 : Int32).toInt = 0 := rfl
  rw [Int32.toInt_ofNat_of_lt (by omega)]; omega
theorem own_dig {i : Int32} (h0 : ¬ i < (0 : Int32)) (h1 : i < (10 : Int32)) : ([(.int (48 : Int32)), (.int (49 : Int32)), (.int (50 : Int32)), (.int (51 : Int32)), (.int (52 : Int32)), (.int (53 : Int32)), (.int (54 : Int32)), (.int (55 : Int32)), (.int (56 : Int32)), (.int (57 : Int32))] : List Value).getD i.toNatClampNeg (.int (0 : Int32)) = .int (48 + i) := by
  obtain ⟨j, hj, rfl⟩ := own_n10 h0 h1
  match j, hj with
  | 0, _ => rfl
  | 1, _ => rfl
  | 2, _ => rfl
  | 3, _ => rfl
  | 4, _ => rfl
  | 5, _ => rfl
  | 6, _ => rfl
  | 7, _ => rfl
  | 8, _ => rfl
  | 9, _ => rfl
theorem own_chr {i : Int32} (h0 : ¬ i < (0 : Int32)) (h1 : i < (10 : Int32)) : nar .char (((48 + i) &&& (255 : Int32)).toUInt32.toUInt16.toUInt32.toInt32) = 48 + i := by
  obtain ⟨j, hj, rfl⟩ := own_n10 h0 h1
  exact (by decide +kernel : ∀ j, j < 10 → nar .char (((48 + Int32.ofNat j) &&& (255 : Int32)).toUInt32.toUInt16.toUInt32.toInt32) = 48 + Int32.ofNat j) j hj
theorem own_chr2 {i : Int32} (h0 : ¬ i < (0 : Int32)) (h1 : i < (10 : Int32)) : nar .char (48 + i) = 48 + i := by
  obtain ⟨j, hj, rfl⟩ := own_n10 h0 h1
  exact (by decide +kernel : ∀ j, j < 10 → nar .char (48 + Int32.ofNat j) = 48 + Int32.ofNat j) j hj
theorem own_sub (x0 : Int32) : (x0.toInt64 - (48 : Int64)).toInt = x0.toInt - 48 := by
  have h1 := x0.toInt_lt; have h2 := x0.le_toInt
  rw [XT.sub64 (by rw [Int32.toInt_toInt64]; exact ⟨by have : (48 : Int64).toInt = 48 := rfl; omega, by have : (48 : Int64).toInt = 48 := rfl; omega⟩), Int32.toInt_toInt64]; rfl
theorem own_neg (x0 : Int32) : (x0.toInt64 - (48 : Int64)) < (0 : Int64) ↔ x0.toInt < 48 := by
  rw [Int64.lt_iff_toInt_lt, own_sub, show (0 : Int64).toInt = 0 from rfl]; omega
theorem own_ten (x0 : Int32) : (x0.toInt64 - (48 : Int64)) < (10 : Int32).toInt64 ↔ x0.toInt < 58 := by
  rw [Int64.lt_iff_toInt_lt, own_sub, show ((10 : Int32).toInt64).toInt = 10 from rfl]; omega
theorem own_idx {x0 : Int32} (h1 : ¬ (x0.toInt64 - (48 : Int64)) < (0 : Int64)) (h2 : (x0.toInt64 - (48 : Int64)) < (10 : Int32).toInt64) : (x0.toInt64 - (48 : Int64)).toInt32.toInt = x0.toInt - 48 := by
  rw [own_neg] at h1; rw [own_ten] at h2
  rw [XT.narrowInt (by rw [own_sub]; exact ⟨by omega, by omega⟩), own_sub]
theorem own_r0 {x0 : Int32} (h1 : ¬ (x0.toInt64 - (48 : Int64)) < (0 : Int64)) (h2 : (x0.toInt64 - (48 : Int64)) < (10 : Int32).toInt64) : ¬ (x0.toInt64 - (48 : Int64)).toInt32 < (0 : Int32) := by
  have e := own_idx h1 h2
  rw [own_neg] at h1
  rw [Int32.lt_iff_toInt_lt, e, show (0 : Int32).toInt = 0 from rfl]; omega
theorem own_r1 {x0 : Int32} (h1 : ¬ (x0.toInt64 - (48 : Int64)) < (0 : Int64)) (h2 : (x0.toInt64 - (48 : Int64)) < (10 : Int32).toInt64) : (x0.toInt64 - (48 : Int64)).toInt32 < (10 : Int32) := by
  have e := own_idx h1 h2
  rw [own_ten] at h2
  rw [Int32.lt_iff_toInt_lt, e, show (10 : Int32).toInt = 10 from rfl]; omega
theorem own_back {x0 : Int32} (h1 : ¬ (x0.toInt64 - (48 : Int64)) < (0 : Int64)) (h2 : (x0.toInt64 - (48 : Int64)) < (10 : Int32).toInt64) : 48 + (x0.toInt64 - (48 : Int64)).toInt32 = x0 := by
  have e := own_idx h1 h2
  rw [own_neg] at h1; rw [own_ten] at h2
  have e48 : (48 : Int32).toInt = 48 := rfl
  apply Int32.toInt_inj.mp
  rw [XT.add32 ⟨by omega, by omega⟩, e]; omega

def own_isd (x0 : Int32) : Int32 :=
  if x0 < (48 : Int32) then
    (0 : Int32)
  else
    if (57 : Int32) < x0 then
      (0 : Int32)
    else
      (1 : Int32)

theorem own_d1 {x0 : Int32} (h : (x0.toInt64 - (48 : Int64)) < (0 : Int64)) : own_isd x0 = 0 := by
  rw [own_neg] at h
  rw [own_isd, if_pos (by rw [Int32.lt_iff_toInt_lt]; exact h)]
theorem own_d2 {x0 : Int32} (h : ¬ (x0.toInt64 - (48 : Int64)) < (10 : Int32).toInt64) : own_isd x0 = 0 := by
  rw [own_ten] at h
  have e : (48 : Int32).toInt = 48 := rfl
  have e' : (57 : Int32).toInt = 57 := rfl
  rw [own_isd, if_neg (by rw [Int32.lt_iff_toInt_lt]; omega), if_pos (by rw [Int32.lt_iff_toInt_lt]; omega)]
theorem own_d3 {x0 : Int32} (h1 : ¬ (x0.toInt64 - (48 : Int64)) < (0 : Int64)) (h2 : (x0.toInt64 - (48 : Int64)) < (10 : Int32).toInt64) : own_isd x0 = 1 := by
  rw [own_neg] at h1; rw [own_ten] at h2
  have e : (48 : Int32).toInt = 48 := rfl
  have e' : (57 : Int32).toInt = 57 := rfl
  rw [own_isd, if_neg (by rw [Int32.lt_iff_toInt_lt]; omega), if_neg (by rw [Int32.lt_iff_toInt_lt]; omega)]

theorem dC_0 : decode jdk_42_method_152_code 0 = .ok (.getstatic 38, 3) := by decide +kernel
theorem dC_3 : decode jdk_42_method_152_code 3 = .ok (.ifCond .eq 10, 3) := by decide +kernel
theorem dC_6 : decode jdk_42_method_152_code 6 = .ok (.aload_n 0, 1) := by decide +kernel
theorem dC_7 : decode jdk_42_method_152_code 7 = .ok (.getfield 15, 3) := by decide +kernel
theorem dC_10 : decode jdk_42_method_152_code 10 = .ok (.goto 4, 3) := by decide +kernel
theorem dC_14 : decode jdk_42_method_152_code 14 = .ok (.ireturn, 1) := by decide +kernel
theorem pn_C : plainName "java/lang/String" = true := by first | (simp [plainName, overriddenIn]; done) | decide +kernel
theorem ef_C (m : MethodId) (x0 : Addr) : entryFrame m #[(.ref x0)] 1 = mkF m 0 #[.val (.ref x0)] [] := by first | (simp [entryFrame, mkF, argsToLocals, Value.category]; done) | rfl
def QC (Z : State) (a : Addr) (zc : Int32) (h0 : Heap) (n0 : Nat) (v : Option Value) (h : Heap) (L : List Loc) : Prop := v = some (.int (0 : Int32)) ∧ Fr n0 L ∧ h = h0
set_option maxRecDepth 65536 in
set_option maxHeartbeats 40000000 in
theorem rmC (l : Launch) (Z : State) (a0 : Array Value) (hw : ∀ d ∈ tables_1, d.before a0 Z = true) (ws : List Jvm.Cond) (a : Addr) (zc : Int32) (h0 : Heap) (n0 : Nat) (Z0 : n0 ≤ h0.size) (hO : Old Z n0 h0) (SC : Sta Z Z.heap "java/lang/String" "COMPACT_STRINGS" "Z" (.int zc)) (hzc : ¬ zc = (0 : Int32)) (F_c : Fld Z h0 a "java/lang/String" "coder" "B" (.int (0 : Int32))) :
    MetFree l (⟨"java/lang/String", "coder", "()B"⟩ : MethodName) (head1 (Jvm.Cond.code (⟨"java/lang/String", "coder", "()B"⟩ : MethodName) jdk_42_method_152_code 1 (some .byte) :: ws) ({ frames := 0, cells := 0, slots := 0, locals := 0 } : Room)) (fun aA oU => aA = #[(.ref a)] ∧ Z.Warmed39 oU.vm ∧ oU.heap = h0) (fun _ _ _ _ _ => True) (fun _ oU oO oU' => ∃ oV oL, oO = .returned oV ∧ QC Z a zc h0 n0 oV oU'.heap oL ∧ FrameEnd oU oO oU' oL ({ frames := 0, cells := 0, slots := 0, locals := 0 } : Room).cells ({ frames := 0, cells := 0, slots := 0, locals := 0 } : Room).slots) := by
  refine MetFree.of_bodySF (plainFor_of_name pn_C) hisR ?_
  intro p e s m args below meth c s₁ Bd hml0 hP hK
  obtain ⟨rfl, hZ, hh⟩ := hP
  have hx := Bd.exec
  have hby := Bd.bytes
  have hlk := BodyLoose.notSynchronized Bd
  have hml : c.maxLocals = 1 := hml0
  have hown : s.vm.findClass "java/lang/String" = some m.cls := findClass_of_methodNamed Bd.named
  have hnm := (name_of_methodNamed Bd.named Bd.method).1
  have X0 : Stand p l e ({ frames := 0, cells := 0, slots := 0, locals := 0 } : Room) s m #[(.ref a)] below meth c s₁ [] 0 0 := Stand.of_body Bd
  have e0 : s₁.heap = h0 := by rw [← hh, Bd.state]; rfl
  have N0 := Fr.nil n0
  show OG p e below s ({ frames := 0, cells := 0, slots := 0, locals := 0 } : Room).cells ({ frames := 0, cells := 0, slots := 0, locals := 0 } : Room).slots (QC Z a zc h0 n0) _
  refine OG.of (fun oT oK => castTop (ef_C m a) oK) ?_
  show OG p e below s _ _ _ (s₁.setTop (mkF m 0 #[.val (.ref a)] []))
  obtain ⟨T1, X1, e1, st1⟩ := getS2 X0 hx hZ hown (host := "") (Or.inl (hw _ (List.mem_of_getElem? (i := 29) rfl))) Via.refl e0 (SC.ext (hO).2) (g := (mkF m 0 #[.val (.ref a)] [])) rfl (hb hby dC_0)
  refine OG.of st1 ?_
  show OG _ _ _ _ _ _ _ (T1.setTop (mkF m 3 #[.val (.ref a)] [(.int zc)]))
  refine OG.of (A := T1.setTop (mkF m 7 #[.val (.ref a)] [(.ref a)])) (fun oT oK => ?_) ?_
  · show Steps p.tables e below (T1.setTop (mkF m 3 #[.val (.ref a)] [(.int zc)])) oT
    refine XS.ifNo X1.here hx rfl (hb hby dC_3) rfl (XT.i0_eq_f hzc) ?_
    show Steps p.tables e below (T1.setTop (mkF m 6 #[.val (.ref a)] [])) _
    refine XS.aloadN X1.here hx rfl (hb hby dC_6) rfl rfl  ?_
    exact oK
  show OG _ _ _ _ _ _ _ (T1.setTop (mkF m 7 #[.val (.ref a)] [(.ref a)]))
  obtain ⟨T2, X2, e2, st2⟩ := getF X1 hx hZ hown (host := "") (Or.inl (hw _ (List.mem_of_getElem? (i := 30) rfl))) Via.refl e1 F_c (g := (mkF m 7 #[.val (.ref a)] [(.ref a)])) rfl rfl (hb hby dC_7)
  refine OG.of st2 ?_
  show OG _ _ _ _ _ _ _ (T2.setTop (mkF m 10 #[.val (.ref a)] [(.int (0 : Int32))]))
  refine OG.of (A := T2.setTop (mkF m 14 #[.val (.ref a)] [(.int (0 : Int32))])) (fun oT oK => ?_) ?_
  · show Steps p.tables e below (T2.setTop (mkF m 10 #[.val (.ref a)] [(.int (0 : Int32))])) oT
    refine XS.goto X2.here hx rfl (pc0 := 10) (pc' := 14) rfl (hb hby dC_10) (by decide) (by decide) ?_
    exact oK
  show OG _ _ _ _ _ _ _ (T2.setTop (mkF m 14 #[.val (.ref a)] [(.int (0 : Int32))]))
  refine OG.retN X2 hx (t := .byte) Bd.returns (by simp) (hb hby dC_14) hlk ?_ (by decide) (by decide)
  try rw [e2]
  exact ⟨rfl, N0, rfl⟩
theorem dL_0 : decode jdk_42_method_154_code 0 = .ok (.getstatic 38, 3) := by decide +kernel
theorem dL_3 : decode jdk_42_method_154_code 3 = .ok (.ifCond .eq 14, 3) := by decide +kernel
theorem dL_6 : decode jdk_42_method_154_code 6 = .ok (.aload_n 0, 1) := by decide +kernel
theorem dL_7 : decode jdk_42_method_154_code 7 = .ok (.getfield 15, 3) := by decide +kernel
theorem dL_10 : decode jdk_42_method_154_code 10 = .ok (.ifCond .ne 7, 3) := by decide +kernel
theorem dL_13 : decode jdk_42_method_154_code 13 = .ok (.iconst 1, 1) := by decide +kernel
theorem dL_14 : decode jdk_42_method_154_code 14 = .ok (.goto 4, 3) := by decide +kernel
theorem dL_18 : decode jdk_42_method_154_code 18 = .ok (.ireturn, 1) := by decide +kernel
theorem pn_L : plainName "java/lang/String" = true := by first | (simp [plainName, overriddenIn]; done) | decide +kernel
theorem ef_L (m : MethodId) (x0 : Addr) : entryFrame m #[(.ref x0)] 1 = mkF m 0 #[.val (.ref x0)] [] := by first | (simp [entryFrame, mkF, argsToLocals, Value.category]; done) | rfl
def QL (Z : State) (a : Addr) (zc : Int32) (h0 : Heap) (n0 : Nat) (v : Option Value) (h : Heap) (L : List Loc) : Prop := v = some (.int (1 : Int32)) ∧ Fr n0 L ∧ h = h0
set_option maxRecDepth 65536 in
set_option maxHeartbeats 40000000 in
theorem rmL (l : Launch) (Z : State) (a0 : Array Value) (hw : ∀ d ∈ tables_1, d.before a0 Z = true) (ws : List Jvm.Cond) (a : Addr) (zc : Int32) (h0 : Heap) (n0 : Nat) (Z0 : n0 ≤ h0.size) (hO : Old Z n0 h0) (SC : Sta Z Z.heap "java/lang/String" "COMPACT_STRINGS" "Z" (.int zc)) (hzc : ¬ zc = (0 : Int32)) (F_c : Fld Z h0 a "java/lang/String" "coder" "B" (.int (0 : Int32))) :
    MetFree l (⟨"java/lang/String", "isLatin1", "()Z"⟩ : MethodName) (head1 (Jvm.Cond.code (⟨"java/lang/String", "isLatin1", "()Z"⟩ : MethodName) jdk_42_method_154_code 1 (some .boolean) :: ws) ({ frames := 0, cells := 0, slots := 0, locals := 0 } : Room)) (fun aA oU => aA = #[(.ref a)] ∧ Z.Warmed39 oU.vm ∧ oU.heap = h0) (fun _ _ _ _ _ => True) (fun _ oU oO oU' => ∃ oV oL, oO = .returned oV ∧ QL Z a zc h0 n0 oV oU'.heap oL ∧ FrameEnd oU oO oU' oL ({ frames := 0, cells := 0, slots := 0, locals := 0 } : Room).cells ({ frames := 0, cells := 0, slots := 0, locals := 0 } : Room).slots) := by
  refine MetFree.of_bodySF (plainFor_of_name pn_L) hisR ?_
  intro p e s m args below meth c s₁ Bd hml0 hP hK
  obtain ⟨rfl, hZ, hh⟩ := hP
  have hx := Bd.exec
  have hby := Bd.bytes
  have hlk := BodyLoose.notSynchronized Bd
  have hml : c.maxLocals = 1 := hml0
  have hown : s.vm.findClass "java/lang/String" = some m.cls := findClass_of_methodNamed Bd.named
  have hnm := (name_of_methodNamed Bd.named Bd.method).1
  have X0 : Stand p l e ({ frames := 0, cells := 0, slots := 0, locals := 0 } : Room) s m #[(.ref a)] below meth c s₁ [] 0 0 := Stand.of_body Bd
  have e0 : s₁.heap = h0 := by rw [← hh, Bd.state]; rfl
  have N0 := Fr.nil n0
  show OG p e below s ({ frames := 0, cells := 0, slots := 0, locals := 0 } : Room).cells ({ frames := 0, cells := 0, slots := 0, locals := 0 } : Room).slots (QL Z a zc h0 n0) _
  refine OG.of (fun oT oK => castTop (ef_L m a) oK) ?_
  show OG p e below s _ _ _ (s₁.setTop (mkF m 0 #[.val (.ref a)] []))
  obtain ⟨T1, X1, e1, st1⟩ := getS2 X0 hx hZ hown (host := "") (Or.inl (hw _ (List.mem_of_getElem? (i := 29) rfl))) Via.refl e0 (SC.ext (hO).2) (g := (mkF m 0 #[.val (.ref a)] [])) rfl (hb hby dL_0)
  refine OG.of st1 ?_
  show OG _ _ _ _ _ _ _ (T1.setTop (mkF m 3 #[.val (.ref a)] [(.int zc)]))
  refine OG.of (A := T1.setTop (mkF m 7 #[.val (.ref a)] [(.ref a)])) (fun oT oK => ?_) ?_
  · show Steps p.tables e below (T1.setTop (mkF m 3 #[.val (.ref a)] [(.int zc)])) oT
    refine XS.ifNo X1.here hx rfl (hb hby dL_3) rfl (XT.i0_eq_f hzc) ?_
    show Steps p.tables e below (T1.setTop (mkF m 6 #[.val (.ref a)] [])) _
    refine XS.aloadN X1.here hx rfl (hb hby dL_6) rfl rfl  ?_
    exact oK
  show OG _ _ _ _ _ _ _ (T1.setTop (mkF m 7 #[.val (.ref a)] [(.ref a)]))
  obtain ⟨T2, X2, e2, st2⟩ := getF X1 hx hZ hown (host := "") (Or.inl (hw _ (List.mem_of_getElem? (i := 30) rfl))) Via.refl e1 F_c (g := (mkF m 7 #[.val (.ref a)] [(.ref a)])) rfl rfl (hb hby dL_7)
  refine OG.of st2 ?_
  show OG _ _ _ _ _ _ _ (T2.setTop (mkF m 10 #[.val (.ref a)] [(.int (0 : Int32))]))
  refine OG.of (A := T2.setTop (mkF m 18 #[.val (.ref a)] [(.int (1 : Int32))])) (fun oT oK => ?_) ?_
  · show Steps p.tables e below (T2.setTop (mkF m 10 #[.val (.ref a)] [(.int (0 : Int32))])) oT
    refine XS.ifNo X2.here hx rfl (hb hby dL_10) rfl (XT.i0_ne_f rfl) ?_
    show Steps p.tables e below (T2.setTop (mkF m 13 #[.val (.ref a)] [])) _
    refine XS.iconst X2.here hx rfl (hb hby dL_13) ?_
    show Steps p.tables e below (T2.setTop (mkF m 14 #[.val (.ref a)] [(.int (1 : Int32))])) _
    refine XS.goto X2.here hx rfl (pc0 := 14) (pc' := 18) rfl (hb hby dL_14) (by decide) (by decide) ?_
    exact oK
  show OG _ _ _ _ _ _ _ (T2.setTop (mkF m 18 #[.val (.ref a)] [(.int (1 : Int32))]))
  refine OG.retN X2 hx (t := .boolean) Bd.returns (by simp) (hb hby dL_18) hlk ?_ (by decide) (by decide)
  try rw [e2]
  exact ⟨rfl, N0, rfl⟩
theorem dN_0 : decode jdk_42_method_54_code 0 = .ok (.aload_n 0, 1) := by decide +kernel
theorem dN_1 : decode jdk_42_method_54_code 1 = .ok (.getfield 9, 3) := by decide +kernel
theorem dN_4 : decode jdk_42_method_54_code 4 = .ok (.arraylength, 1) := by decide +kernel
theorem dN_5 : decode jdk_42_method_54_code 5 = .ok (.aload_n 0, 1) := by decide +kernel
theorem dN_6 : decode jdk_42_method_54_code 6 = .ok (.invokevirtual 335, 3) := by decide +kernel
theorem pd___B : parseMethodDescriptor "()B" = some ⟨[], some .byte⟩ := by decide +kernel
theorem dN_9 : decode jdk_42_method_54_code 9 = .ok (.ishr, 1) := by decide +kernel
theorem dN_10 : decode jdk_42_method_54_code 10 = .ok (.ireturn, 1) := by decide +kernel
theorem pn_N : plainName "java/lang/String" = true := by first | (simp [plainName, overriddenIn]; done) | decide +kernel
theorem ef_N (m : MethodId) (x0 : Addr) : entryFrame m #[(.ref x0)] 1 = mkF m 0 #[.val (.ref x0)] [] := by first | (simp [entryFrame, mkF, argsToLocals, Value.category]; done) | rfl
def QN (Z : State) (a : Addr) (zc : Int32) (t : Addr) (kc : ClassId) (h0 : Heap) (n0 : Nat) (v : Option Value) (h : Heap) (L : List Loc) : Prop := v = some (.int (10 : Int32)) ∧ Fr n0 L ∧ h = h0
set_option maxRecDepth 65536 in
set_option maxHeartbeats 40000000 in
theorem rmN (l : Launch) (Z : State) (a0 : Array Value) (hw : ∀ d ∈ tables_1, d.before a0 Z = true) (ws : List Jvm.Cond) (a : Addr) (zc : Int32) (t : Addr) (kc : ClassId) (h0 : Heap) (n0 : Nat) (Z0 : n0 ≤ h0.size) (hO : Old Z n0 h0) (SC : Sta Z Z.heap "java/lang/String" "COMPACT_STRINGS" "Z" (.int zc)) (hzc : ¬ zc = (0 : Int32)) (F_c : Fld Z h0 a "java/lang/String" "coder" "B" (.int (0 : Int32))) (E_a : Exa Z h0 a "java/lang/String") (F_v : Fld Z h0 a "java/lang/String" "value" "[B" (.ref t)) (V_t : Arv Z h0 t kc .byte (10 : Int32) [(.int (48 : Int32)), (.int (49 : Int32)), (.int (50 : Int32)), (.int (51 : Int32)), (.int (52 : Int32)), (.int (53 : Int32)), (.int (54 : Int32)), (.int (55 : Int32)), (.int (56 : Int32)), (.int (57 : Int32))] (.int (0 : Int32))) :
    MetFree l (⟨"java/lang/String", "length", "()I"⟩ : MethodName) (head1 (Jvm.Cond.code (⟨"java/lang/String", "length", "()I"⟩ : MethodName) jdk_42_method_54_code 1 (some .int) :: ws) ({ frames := 1, cells := 0, slots := 0, locals := 13 } : Room)) (fun aA oU => aA = #[(.ref a)] ∧ Z.Warmed39 oU.vm ∧ oU.heap = h0) (fun _ _ _ _ _ => True) (fun _ oU oO oU' => ∃ oV oL, oO = .returned oV ∧ QN Z a zc t kc h0 n0 oV oU'.heap oL ∧ FrameEnd oU oO oU' oL ({ frames := 1, cells := 0, slots := 0, locals := 13 } : Room).cells ({ frames := 1, cells := 0, slots := 0, locals := 13 } : Room).slots) := by
  refine MetFree.of_bodySF (plainFor_of_name pn_N) hisR ?_
  intro p e s m args below meth c s₁ Bd hml0 hP hK
  obtain ⟨rfl, hZ, hh⟩ := hP
  have hx := Bd.exec
  have hby := Bd.bytes
  have hlk := BodyLoose.notSynchronized Bd
  have hml : c.maxLocals = 1 := hml0
  have hown : s.vm.findClass "java/lang/String" = some m.cls := findClass_of_methodNamed Bd.named
  have hnm := (name_of_methodNamed Bd.named Bd.method).1
  have X0 : Stand p l e ({ frames := 1, cells := 0, slots := 0, locals := 13 } : Room) s m #[(.ref a)] below meth c s₁ [] 0 0 := Stand.of_body Bd
  have e0 : s₁.heap = h0 := by rw [← hh, Bd.state]; rfl
  have N0 := Fr.nil n0
  show OG p e below s ({ frames := 1, cells := 0, slots := 0, locals := 13 } : Room).cells ({ frames := 1, cells := 0, slots := 0, locals := 13 } : Room).slots (QN Z a zc t kc h0 n0) _
  refine OG.of (fun oT oK => castTop (ef_N m a) oK) ?_
  show OG p e below s _ _ _ (s₁.setTop (mkF m 0 #[.val (.ref a)] []))
  refine OG.of (A := s₁.setTop (mkF m 1 #[.val (.ref a)] [(.ref a)])) (fun oT oK => ?_) ?_
  · show Steps p.tables e below (s₁.setTop (mkF m 0 #[.val (.ref a)] [])) oT
    refine XS.aloadN X0.here hx rfl (hb hby dN_0) rfl rfl  ?_
    exact oK
  show OG _ _ _ _ _ _ _ (s₁.setTop (mkF m 1 #[.val (.ref a)] [(.ref a)]))
  obtain ⟨T1, X1, e1, st1⟩ := getF X0 hx hZ hown (host := "") (Or.inl (hw _ (List.mem_of_getElem? (i := 23) rfl))) Via.refl e0 F_v (g := (mkF m 1 #[.val (.ref a)] [(.ref a)])) rfl rfl (hb hby dN_1)
  refine OG.of st1 ?_
  show OG _ _ _ _ _ _ _ (T1.setTop (mkF m 4 #[.val (.ref a)] [(.ref t)]))
  have cf1 := V_t
  obtain ⟨clf1, Arf1, qf1, Sf1, Mf1, Hf1, Gf1⟩ := cf1
  refine OG.of (X1.arraylength hx (by rw [e1]; exact Arf1.1) (State.isArrayOf_alike hZ.alike Arf1.2.1) (g := (mkF m 4 #[.val (.ref a)] [(.ref t)])) rfl rfl (hb hby dN_4)) ?_
  rw [len_of Sf1 Mf1]
  show OG _ _ _ _ _ _ _ (T1.setTop (mkF m 5 #[.val (.ref a)] [(.int (10 : Int32))]))
  refine OG.of (A := T1.setTop (mkF m 6 #[.val (.ref a)] [(.ref a), (.int (10 : Int32))])) (fun oT oK => ?_) ?_
  · show Steps p.tables e below (T1.setTop (mkF m 5 #[.val (.ref a)] [(.int (10 : Int32))])) oT
    refine XS.aloadN X1.here hx rfl (hb hby dN_5) rfl rfl  ?_
    exact oK
  show OG _ _ _ _ _ _ _ (T1.setTop (mkF m 6 #[.val (.ref a)] [(.ref a), (.int (10 : Int32))]))
  obtain ⟨cq2, kq2, q2a, q2b, q2c⟩ := isOf hZ e1 (E_a)
  obtain ⟨_, _, ⟨T2, L2, k2, n2⟩, -, X2, ⟨Lc2, hQ2, l2, y2, z2⟩, st2⟩ := X1.virtualBack hx (y := (⟨"java/lang/String", "coder", "()B"⟩ : MethodName)) (z := (⟨"java/lang/String", "coder", "()B"⟩ : MethodName)) hown (mvT hZ (hw _ (List.mem_of_getElem? (i := 24) rfl))) (mvT hZ (hw _ (List.mem_of_getElem? (i := 25) rfl))) (notFace_of_selects (args := #[]) (mvT hZ (hw _ (List.mem_of_getElem? (i := 27) rfl)))) (mvT hZ (hw _ (List.mem_of_getElem? (i := 27) rfl))) (mvT hZ (hw _ (List.mem_of_getElem? (i := 26) rfl))) (by decide) (backOf (W := 1) (rmC l Z a0 hw [] a zc h0 n0 (Z0) hO SC hzc F_c) hZ (hw _ (List.mem_of_getElem? (i := 28) rfl)) (hw _ (List.mem_of_getElem? (i := 6) rfl)) (by decide) (by decide)) q2a q2c (g := (mkF m 6 #[.val (.ref a)] [(.ref a), (.int (10 : Int32))])) rfl (by rw [hml]; rfl) (Steps.refl _) (argsL := []) (rest := [(.int (10 : Int32))]) (lenOf pd___B rfl) rfl (by show 2 * 0 + _ ≤ _; exact Nat.le_of_eq rfl) (hb hby dN_6) (fun _ _ => ⟨rfl, e1, (by decide : 0 + 0 ≤ _), (by decide : 0 + 0 ≤ _)⟩)
  dsimp only [Pt.U, Pt.locs, Pt.cells, Pt.slots] at X2 l2 y2 z2 st2 hQ2
  subst l2 y2 z2
  obtain ⟨hv2, N2q, e2⟩ := hQ2
  obtain rfl := hv2.trans (show _ = some (.int (0 : Int32)) from rfl)
  have N2 := Fr.app N0 N2q
  refine OG.trans st2 ?_
  show OG _ _ _ _ _ _ _ (T2.setTop (mkF m 9 #[.val (.ref a)] [(.int (0 : Int32)), (.int (10 : Int32))]))
  refine OG.of (A := T2.setTop (mkF m 10 #[.val (.ref a)] [(.int ((10 : Int32) >>> ((0 : Int32) &&& 31)))])) (fun oT oK => ?_) ?_
  · show Steps p.tables e below (T2.setTop (mkF m 9 #[.val (.ref a)] [(.int (0 : Int32)), (.int (10 : Int32))])) oT
    refine XT.ishr X2.here hx rfl (hb hby dN_9) rfl ?_
    exact oK
  show OG _ _ _ _ _ _ _ (T2.setTop (mkF m 10 #[.val (.ref a)] [(.int ((10 : Int32) >>> ((0 : Int32) &&& 31)))]))
  refine OG.retI X2 hx Bd.returns (hb hby dN_10) hlk ?_ (by decide) (by decide)
  try rw [e2]
  exact ⟨rfl, N2, rfl⟩
theorem dP_0 : decode jdk_41_method_11_code 0 = .ok (.iload_n 0, 1) := by decide +kernel
theorem dP_1 : decode jdk_41_method_11_code 1 = .ok (.ifCond .lt 8, 3) := by decide +kernel
theorem dP_4 : decode jdk_41_method_11_code 4 = .ok (.iload_n 0, 1) := by decide +kernel
theorem dP_5 : decode jdk_41_method_11_code 5 = .ok (.iload_n 1, 1) := by decide +kernel
theorem dP_6 : decode jdk_41_method_11_code 6 = .ok (.if_icmp .lt 10, 3) := by decide +kernel
theorem dP_16 : decode jdk_41_method_11_code 16 = .ok (.iload_n 0, 1) := by decide +kernel
theorem dP_17 : decode jdk_41_method_11_code 17 = .ok (.ireturn, 1) := by decide +kernel
theorem pn_P : plainName "jdk/internal/util/Preconditions" = true := by first | (simp [plainName, overriddenIn]; done) | decide +kernel
theorem ef_P (m : MethodId) (x0 : Int32) (x1 : Int32) (x2 : Value) (hx2 : x2.isRef = true) : entryFrame m #[(.int x0), (.int x1), x2] 3 = mkF m 0 #[.val (.int x0), .val (.int x1), .val x2] [] := by first | (simp [entryFrame, mkF, argsToLocals, own_catI, own_catJ, own_catR, own_catN, XT.cat1 hx2]; done) | rfl
def QP (Z : State) (i : Int32) (n : Int32) (fm : Value) (h0 : Heap) (n0 : Nat) (v : Option Value) (h : Heap) (L : List Loc) : Prop := v = some (.int i) ∧ Fr n0 L ∧ h = h0
set_option maxRecDepth 65536 in
set_option maxHeartbeats 40000000 in
theorem rmP (l : Launch) (Z : State) (a0 : Array Value) (hw : ∀ d ∈ tables_1, d.before a0 Z = true) (ws : List Jvm.Cond) (i : Int32) (n : Int32) (fm : Value) (h0 : Heap) (n0 : Nat) (Z0 : n0 ≤ h0.size) (hfm : fm.isRef = true) (hi0 : ¬ i < (0 : Int32)) (hin : i < n) :
    MetFree l (⟨"jdk/internal/util/Preconditions", "checkIndex", "(IILjava/util/function/BiFunction;)I"⟩ : MethodName) (head1 (Jvm.Cond.code (⟨"jdk/internal/util/Preconditions", "checkIndex", "(IILjava/util/function/BiFunction;)I"⟩ : MethodName) jdk_41_method_11_code 3 (some .int) :: ws) ({ frames := 0, cells := 0, slots := 0, locals := 0 } : Room)) (fun aA oU => aA = #[(.int i), (.int n), fm] ∧ Z.Warmed39 oU.vm ∧ oU.heap = h0) (fun _ _ _ _ _ => True) (fun _ oU oO oU' => ∃ oV oL, oO = .returned oV ∧ QP Z i n fm h0 n0 oV oU'.heap oL ∧ FrameEnd oU oO oU' oL ({ frames := 0, cells := 0, slots := 0, locals := 0 } : Room).cells ({ frames := 0, cells := 0, slots := 0, locals := 0 } : Room).slots) := by
  refine MetFree.of_bodySF (plainFor_of_name pn_P) hisR ?_
  intro p e s m args below meth c s₁ Bd hml0 hP hK
  obtain ⟨rfl, hZ, hh⟩ := hP
  have hx := Bd.exec
  have hby := Bd.bytes
  have hlk := BodyLoose.notSynchronized Bd
  have hml : c.maxLocals = 3 := hml0
  have hown : s.vm.findClass "jdk/internal/util/Preconditions" = some m.cls := findClass_of_methodNamed Bd.named
  have hnm := (name_of_methodNamed Bd.named Bd.method).1
  have X0 : Stand p l e ({ frames := 0, cells := 0, slots := 0, locals := 0 } : Room) s m #[(.int i), (.int n), fm] below meth c s₁ [] 0 0 := Stand.of_body Bd
  have e0 : s₁.heap = h0 := by rw [← hh, Bd.state]; rfl
  have N0 := Fr.nil n0
  show OG p e below s ({ frames := 0, cells := 0, slots := 0, locals := 0 } : Room).cells ({ frames := 0, cells := 0, slots := 0, locals := 0 } : Room).slots (QP Z i n fm h0 n0) _
  refine OG.of (fun oT oK => castTop (ef_P m i n fm hfm) oK) ?_
  show OG p e below s _ _ _ (s₁.setTop (mkF m 0 #[.val (.int i), .val (.int n), .val fm] []))
  refine OG.of (A := s₁.setTop (mkF m 17 #[.val (.int i), .val (.int n), .val fm] [(.int i)])) (fun oT oK => ?_) ?_
  · show Steps p.tables e below (s₁.setTop (mkF m 0 #[.val (.int i), .val (.int n), .val fm] [])) oT
    refine XS.iloadN X0.here hx rfl (hb hby dP_0) rfl  ?_
    show Steps p.tables e below (s₁.setTop (mkF m 1 #[.val (.int i), .val (.int n), .val fm] [(.int i)])) _
    refine XS.ifNo X0.here hx rfl (hb hby dP_1) rfl (XT.i0_lt_f hi0) ?_
    show Steps p.tables e below (s₁.setTop (mkF m 4 #[.val (.int i), .val (.int n), .val fm] [])) _
    refine XS.iloadN X0.here hx rfl (hb hby dP_4) rfl  ?_
    show Steps p.tables e below (s₁.setTop (mkF m 5 #[.val (.int i), .val (.int n), .val fm] [(.int i)])) _
    refine XS.iloadN X0.here hx rfl (hb hby dP_5) rfl  ?_
    show Steps p.tables e below (s₁.setTop (mkF m 6 #[.val (.int i), .val (.int n), .val fm] [(.int n), (.int i)])) _
    refine XS.icmpYes X0.here hx rfl (pc0 := 6) (pc' := 16) rfl (hb hby dP_6) rfl (XT.ii_lt_t hin) (by decide) (by decide) ?_
    show Steps p.tables e below (s₁.setTop (mkF m 16 #[.val (.int i), .val (.int n), .val fm] [])) _
    refine XS.iloadN X0.here hx rfl (hb hby dP_16) rfl  ?_
    exact oK
  show OG _ _ _ _ _ _ _ (s₁.setTop (mkF m 17 #[.val (.int i), .val (.int n), .val fm] [(.int i)]))
  refine OG.retI X0 hx Bd.returns (hb hby dP_17) hlk ?_ (by decide) (by decide)
  try rw [e0]
  exact ⟨rfl, N0, rfl⟩
theorem dK_0 : decode jdk_42_method_155_code 0 = .ok (.iload_n 0, 1) := by decide +kernel
theorem dK_1 : decode jdk_42_method_155_code 1 = .ok (.iload_n 1, 1) := by decide +kernel
theorem dK_2 : decode jdk_42_method_155_code 2 = .ok (.getstatic 1053, 3) := by decide +kernel
theorem dK_5 : decode jdk_42_method_155_code 5 = .ok (.invokestatic 1059, 3) := by decide +kernel
theorem pd__IILjava_util_function_BiFunction__I : parseMethodDescriptor "(IILjava/util/function/BiFunction;)I" = some ⟨[.int, .int, (.object "java/util/function/BiFunction")], some .int⟩ := by decide +kernel
theorem dK_8 : decode jdk_42_method_155_code 8 = .ok (.pop, 1) := by decide +kernel
theorem dK_9 : decode jdk_42_method_155_code 9 = .ok (.return_, 1) := by decide +kernel
theorem pn_K : plainName "java/lang/String" = true := by first | (simp [plainName, overriddenIn]; done) | decide +kernel
theorem ef_K (m : MethodId) (x0 : Int32) (x1 : Int32) : entryFrame m #[(.int x0), (.int x1)] 2 = mkF m 0 #[.val (.int x0), .val (.int x1)] [] := by first | (simp [entryFrame, mkF, argsToLocals, Value.category]; done) | rfl
def QK (Z : State) (i : Int32) (n : Int32) (fm : Value) (h0 : Heap) (n0 : Nat) (v : Option Value) (h : Heap) (L : List Loc) : Prop := v = none ∧ Fr n0 L ∧ h = h0
set_option maxRecDepth 65536 in
set_option maxHeartbeats 40000000 in
theorem rmK (l : Launch) (Z : State) (a0 : Array Value) (hw : ∀ d ∈ tables_1, d.before a0 Z = true) (ws : List Jvm.Cond) (i : Int32) (n : Int32) (fm : Value) (h0 : Heap) (n0 : Nat) (Z0 : n0 ≤ h0.size) (hO : Old Z n0 h0) (SF : Sta Z Z.heap "jdk/internal/util/Preconditions" "SIOOBE_FORMATTER" "Ljava/util/function/BiFunction;" fm) (hfm : fm.isRef = true) (hi0 : ¬ i < (0 : Int32)) (hin : i < n) :
    MetFree l (⟨"java/lang/String", "checkIndex", "(II)V"⟩ : MethodName) (head1 (Jvm.Cond.code (⟨"java/lang/String", "checkIndex", "(II)V"⟩ : MethodName) jdk_42_method_155_code 2 none :: ws) ({ frames := 1, cells := 0, slots := 0, locals := 14 } : Room)) (fun aA oU => aA = #[(.int i), (.int n)] ∧ Z.Warmed39 oU.vm ∧ oU.heap = h0) (fun _ _ _ _ _ => True) (fun _ oU oO oU' => ∃ oV oL, oO = .returned oV ∧ QK Z i n fm h0 n0 oV oU'.heap oL ∧ FrameEnd oU oO oU' oL ({ frames := 1, cells := 0, slots := 0, locals := 14 } : Room).cells ({ frames := 1, cells := 0, slots := 0, locals := 14 } : Room).slots) := by
  refine MetFree.of_bodySF (plainFor_of_name pn_K) hisR ?_
  intro p e s m args below meth c s₁ Bd hml0 hP hK
  obtain ⟨rfl, hZ, hh⟩ := hP
  have hx := Bd.exec
  have hby := Bd.bytes
  have hlk := BodyLoose.notSynchronized Bd
  have hml : c.maxLocals = 2 := hml0
  have hown : s.vm.findClass "java/lang/String" = some m.cls := findClass_of_methodNamed Bd.named
  have hnm := (name_of_methodNamed Bd.named Bd.method).1
  have X0 : Stand p l e ({ frames := 1, cells := 0, slots := 0, locals := 14 } : Room) s m #[(.int i), (.int n)] below meth c s₁ [] 0 0 := Stand.of_body Bd
  have e0 : s₁.heap = h0 := by rw [← hh, Bd.state]; rfl
  have N0 := Fr.nil n0
  show OG p e below s ({ frames := 1, cells := 0, slots := 0, locals := 14 } : Room).cells ({ frames := 1, cells := 0, slots := 0, locals := 14 } : Room).slots (QK Z i n fm h0 n0) _
  refine OG.of (fun oT oK => castTop (ef_K m i n) oK) ?_
  show OG p e below s _ _ _ (s₁.setTop (mkF m 0 #[.val (.int i), .val (.int n)] []))
  refine OG.of (A := s₁.setTop (mkF m 2 #[.val (.int i), .val (.int n)] [(.int n), (.int i)])) (fun oT oK => ?_) ?_
  · show Steps p.tables e below (s₁.setTop (mkF m 0 #[.val (.int i), .val (.int n)] [])) oT
    refine XS.iloadN X0.here hx rfl (hb hby dK_0) rfl  ?_
    show Steps p.tables e below (s₁.setTop (mkF m 1 #[.val (.int i), .val (.int n)] [(.int i)])) _
    refine XS.iloadN X0.here hx rfl (hb hby dK_1) rfl  ?_
    exact oK
  show OG _ _ _ _ _ _ _ (s₁.setTop (mkF m 2 #[.val (.int i), .val (.int n)] [(.int n), (.int i)]))
  obtain ⟨T1, X1, e1, st1⟩ := getS2 X0 hx hZ hown (host := "") (Or.inl (hw _ (List.mem_of_getElem? (i := 48) rfl))) Via.refl e0 (SF.ext (hO).2) (g := (mkF m 2 #[.val (.int i), .val (.int n)] [(.int n), (.int i)])) rfl (hb hby dK_2)
  refine OG.of st1 ?_
  show OG _ _ _ _ _ _ _ (T1.setTop (mkF m 5 #[.val (.int i), .val (.int n)] [fm, (.int n), (.int i)]))
  obtain ⟨_, _, ⟨T2, L2, k2, n2⟩, -, X2, ⟨Lc2, hQ2, l2, y2, z2⟩, st2⟩ := Jvm.LawKit.callS X1 hx (y := (⟨"jdk/internal/util/Preconditions", "checkIndex", "(IILjava/util/function/BiFunction;)I"⟩ : MethodName)) hown (mvT hZ (hw _ (List.mem_of_getElem? (i := 50) rfl))) (mvT hZ (hw _ (List.mem_of_getElem? (i := 51) rfl))) (mvT hZ (hw _ (List.mem_of_getElem? (i := 49) rfl))) (mvT hZ (hw _ (List.mem_of_getElem? (i := 52) rfl))) (by decide) (backOf (W := 0) (rmP l Z a0 hw [] i n fm  h0 n0 (Z0) hfm hi0 hin) hZ (hw _ (List.mem_of_getElem? (i := 52) rfl)) (hw _ (List.mem_of_getElem? (i := 49) rfl)) (by decide) (by decide)) (g := (mkF m 5 #[.val (.int i), .val (.int n)] [fm, (.int n), (.int i)])) rfl (by rw [hml]; rfl) (argsL := [(.int i), (.int n), fm]) (rest := []) (lenOf pd__IILjava_util_function_BiFunction__I rfl) rfl (by show 2 * 0 + _ ≤ _; exact Nat.le_of_eq rfl) (hb hby dK_5) (fun _ _ => ⟨rfl, e1, (by decide : 0 + 0 ≤ _), (by decide : 0 + 0 ≤ _)⟩)
  dsimp only [Pt.U, Pt.locs, Pt.cells, Pt.slots] at X2 l2 y2 z2 st2 hQ2
  subst l2 y2 z2
  obtain ⟨hv2, N2q, e2⟩ := hQ2
  obtain rfl := hv2.trans (show _ = some (.int i) from rfl)
  have N2 := Fr.app N0 N2q
  refine OG.of st2 ?_
  show OG _ _ _ _ _ _ _ (T2.setTop (mkF m 8 #[.val (.int i), .val (.int n)] [(.int i)]))
  refine OG.of (A := T2.setTop (mkF m 9 #[.val (.int i), .val (.int n)] [])) (fun oT oK => ?_) ?_
  · show Steps p.tables e below (T2.setTop (mkF m 8 #[.val (.int i), .val (.int n)] [(.int i)])) oT
    refine XT.pop X2.here hx rfl (hb hby dK_8) rfl rfl ?_
    exact oK
  show OG _ _ _ _ _ _ _ (T2.setTop (mkF m 9 #[.val (.int i), .val (.int n)] []))
  refine OG.retV X2 hx Bd.returns (hb hby dK_9) hlk ?_ (by decide) (by decide)
  try rw [e2]
  exact ⟨rfl, N2, rfl⟩
theorem dA_0 : decode jdk_43_method_2_code 0 = .ok (.iload_n 1, 1) := by decide +kernel
theorem dA_1 : decode jdk_43_method_2_code 1 = .ok (.aload_n 0, 1) := by decide +kernel
theorem dA_2 : decode jdk_43_method_2_code 2 = .ok (.arraylength, 1) := by decide +kernel
theorem dA_3 : decode jdk_43_method_2_code 3 = .ok (.invokestatic 9, 3) := by decide +kernel
theorem pd__II_V : parseMethodDescriptor "(II)V" = some ⟨[.int, .int], none⟩ := by decide +kernel
theorem dA_6 : decode jdk_43_method_2_code 6 = .ok (.aload_n 0, 1) := by decide +kernel
theorem dA_7 : decode jdk_43_method_2_code 7 = .ok (.iload_n 1, 1) := by decide +kernel
theorem dA_8 : decode jdk_43_method_2_code 8 = .ok (.baload, 1) := by decide +kernel
theorem dA_9 : decode jdk_43_method_2_code 9 = .ok (.sipush 255, 3) := by decide +kernel
theorem dA_12 : decode jdk_43_method_2_code 12 = .ok (.iand, 1) := by decide +kernel
theorem dA_13 : decode jdk_43_method_2_code 13 = .ok (.i2c, 1) := by decide +kernel
theorem dA_14 : decode jdk_43_method_2_code 14 = .ok (.ireturn, 1) := by decide +kernel
theorem pn_A : plainName "java/lang/StringLatin1" = true := by first | (simp [plainName, overriddenIn]; done) | decide +kernel
theorem ef_A (m : MethodId) (x0 : Addr) (x1 : Int32) : entryFrame m #[(.ref x0), (.int x1)] 2 = mkF m 0 #[.val (.ref x0), .val (.int x1)] [] := by first | (simp [entryFrame, mkF, argsToLocals, Value.category]; done) | rfl
def QA (Z : State) (t : Addr) (i : Int32) (kc : ClassId) (fm : Value) (h0 : Heap) (n0 : Nat) (v : Option Value) (h : Heap) (L : List Loc) : Prop := v = some (.int (48 + i)) ∧ Fr n0 L ∧ h = h0
set_option maxRecDepth 65536 in
set_option maxHeartbeats 40000000 in
theorem rmA (l : Launch) (Z : State) (a0 : Array Value) (hw : ∀ d ∈ tables_1, d.before a0 Z = true) (ws : List Jvm.Cond) (t : Addr) (i : Int32) (kc : ClassId) (fm : Value) (h0 : Heap) (n0 : Nat) (Z0 : n0 ≤ h0.size) (hO : Old Z n0 h0) (SF : Sta Z Z.heap "jdk/internal/util/Preconditions" "SIOOBE_FORMATTER" "Ljava/util/function/BiFunction;" fm) (hfm : fm.isRef = true) (hi0 : ¬ i < (0 : Int32)) (hin : i < (10 : Int32)) (V_t : Arv Z h0 t kc .byte (10 : Int32) [(.int (48 : Int32)), (.int (49 : Int32)), (.int (50 : Int32)), (.int (51 : Int32)), (.int (52 : Int32)), (.int (53 : Int32)), (.int (54 : Int32)), (.int (55 : Int32)), (.int (56 : Int32)), (.int (57 : Int32))] (.int (0 : Int32))) :
    MetFree l (⟨"java/lang/StringLatin1", "charAt", "([BI)C"⟩ : MethodName) (head1 (Jvm.Cond.code (⟨"java/lang/StringLatin1", "charAt", "([BI)C"⟩ : MethodName) jdk_43_method_2_code 2 (some .char) :: ws) ({ frames := 2, cells := 0, slots := 0, locals := 27 } : Room)) (fun aA oU => aA = #[(.ref t), (.int i)] ∧ Z.Warmed39 oU.vm ∧ oU.heap = h0) (fun _ _ _ _ _ => True) (fun _ oU oO oU' => ∃ oV oL, oO = .returned oV ∧ QA Z t i kc fm h0 n0 oV oU'.heap oL ∧ FrameEnd oU oO oU' oL ({ frames := 2, cells := 0, slots := 0, locals := 27 } : Room).cells ({ frames := 2, cells := 0, slots := 0, locals := 27 } : Room).slots) := by
  refine MetFree.of_bodySF (plainFor_of_name pn_A) hisR ?_
  intro p e s m args below meth c s₁ Bd hml0 hP hK
  obtain ⟨rfl, hZ, hh⟩ := hP
  have hx := Bd.exec
  have hby := Bd.bytes
  have hlk := BodyLoose.notSynchronized Bd
  have hml : c.maxLocals = 2 := hml0
  have hown : s.vm.findClass "java/lang/StringLatin1" = some m.cls := findClass_of_methodNamed Bd.named
  have hnm := (name_of_methodNamed Bd.named Bd.method).1
  have X0 : Stand p l e ({ frames := 2, cells := 0, slots := 0, locals := 27 } : Room) s m #[(.ref t), (.int i)] below meth c s₁ [] 0 0 := Stand.of_body Bd
  have e0 : s₁.heap = h0 := by rw [← hh, Bd.state]; rfl
  have N0 := Fr.nil n0
  show OG p e below s ({ frames := 2, cells := 0, slots := 0, locals := 27 } : Room).cells ({ frames := 2, cells := 0, slots := 0, locals := 27 } : Room).slots (QA Z t i kc fm h0 n0) _
  refine OG.of (fun oT oK => castTop (ef_A m t i) oK) ?_
  show OG p e below s _ _ _ (s₁.setTop (mkF m 0 #[.val (.ref t), .val (.int i)] []))
  refine OG.of (A := s₁.setTop (mkF m 2 #[.val (.ref t), .val (.int i)] [(.ref t), (.int i)])) (fun oT oK => ?_) ?_
  · show Steps p.tables e below (s₁.setTop (mkF m 0 #[.val (.ref t), .val (.int i)] [])) oT
    refine XS.iloadN X0.here hx rfl (hb hby dA_0) rfl  ?_
    show Steps p.tables e below (s₁.setTop (mkF m 1 #[.val (.ref t), .val (.int i)] [(.int i)])) _
    refine XS.aloadN X0.here hx rfl (hb hby dA_1) rfl rfl  ?_
    exact oK
  show OG _ _ _ _ _ _ _ (s₁.setTop (mkF m 2 #[.val (.ref t), .val (.int i)] [(.ref t), (.int i)]))
  have cf1 := V_t
  obtain ⟨clf1, Arf1, qf1, Sf1, Mf1, Hf1, Gf1⟩ := cf1
  refine OG.of (X0.arraylength hx (by rw [e0]; exact Arf1.1) (State.isArrayOf_alike hZ.alike Arf1.2.1) (g := (mkF m 2 #[.val (.ref t), .val (.int i)] [(.ref t), (.int i)])) rfl rfl (hb hby dA_2)) ?_
  rw [len_of Sf1 Mf1]
  show OG _ _ _ _ _ _ _ (s₁.setTop (mkF m 3 #[.val (.ref t), .val (.int i)] [(.int (10 : Int32)), (.int i)]))
  obtain ⟨_, _, ⟨T1, L1, k1, n1⟩, -, X1, ⟨Lc1, hQ1, l1, y1, z1⟩, st1⟩ := Jvm.LawKit.callS X0 hx (y := (⟨"java/lang/String", "checkIndex", "(II)V"⟩ : MethodName)) hown (mvT hZ (hw _ (List.mem_of_getElem? (i := 45) rfl))) (mvT hZ (hw _ (List.mem_of_getElem? (i := 46) rfl))) (mvT hZ (hw _ (List.mem_of_getElem? (i := 6) rfl))) (mvT hZ (hw _ (List.mem_of_getElem? (i := 47) rfl))) (by decide) (backOf (W := 0) (rmK l Z a0 hw [] i (10 : Int32) fm h0 n0 (Z0) hO SF hfm hi0 hin) hZ (hw _ (List.mem_of_getElem? (i := 47) rfl)) (hw _ (List.mem_of_getElem? (i := 6) rfl)) (by decide) (by decide)) (g := (mkF m 3 #[.val (.ref t), .val (.int i)] [(.int (10 : Int32)), (.int i)])) rfl (by rw [hml]; rfl) (argsL := [(.int i), (.int (10 : Int32))]) (rest := []) (lenOf pd__II_V rfl) rfl (by show 2 * 0 + _ ≤ _; exact Nat.le_of_eq rfl) (hb hby dA_3) (fun _ _ => ⟨rfl, e0, (by decide : 0 + 0 ≤ _), (by decide : 0 + 0 ≤ _)⟩)
  dsimp only [Pt.U, Pt.locs, Pt.cells, Pt.slots] at X1 l1 y1 z1 st1 hQ1
  subst l1 y1 z1
  obtain ⟨rfl, N1q, e1⟩ := hQ1
  have N1 := Fr.app N0 N1q
  refine OG.of st1 ?_
  show OG _ _ _ _ _ _ _ (T1.setTop (mkF m 6 #[.val (.ref t), .val (.int i)] []))
  refine OG.of (A := T1.setTop (mkF m 8 #[.val (.ref t), .val (.int i)] [(.int i), (.ref t)])) (fun oT oK => ?_) ?_
  · show Steps p.tables e below (T1.setTop (mkF m 6 #[.val (.ref t), .val (.int i)] [])) oT
    refine XS.aloadN X1.here hx rfl (hb hby dA_6) rfl rfl  ?_
    show Steps p.tables e below (T1.setTop (mkF m 7 #[.val (.ref t), .val (.int i)] [(.ref t)])) _
    refine XS.iloadN X1.here hx rfl (hb hby dA_7) rfl  ?_
    exact oK
  show OG _ _ _ _ _ _ _ (T1.setTop (mkF m 8 #[.val (.ref t), .val (.int i)] [(.int i), (.ref t)]))
  have cf2 := (own_rd V_t ⟨hi0, hin⟩ (own_dig hi0 hin))
  obtain ⟨clf2, Arf2, If2, Hf2⟩ := cf2
  refine OG.of (X1.baloadBytes hx (j := i) (v := (.int (48 + i))) (by rw [e1]; exact Arf2.1) (State.isArrayOf_alike hZ.alike Arf2.2.1) Arf2.2.2 If2 Hf2 (g := (mkF m 8 #[.val (.ref t), .val (.int i)] [(.int i), (.ref t)])) rfl rfl (hb hby dA_8)) ?_
  show OG _ _ _ _ _ _ _ (T1.setTop (mkF m 9 #[.val (.ref t), .val (.int i)] [(.int (48 + i))]))
  refine OG.of (A := T1.setTop (mkF m 14 #[.val (.ref t), .val (.int i)] [(.int ((48 + i) &&& (255 : Int32)).toUInt32.toUInt16.toUInt32.toInt32)])) (fun oT oK => ?_) ?_
  · show Steps p.tables e below (T1.setTop (mkF m 9 #[.val (.ref t), .val (.int i)] [(.int (48 + i))])) oT
    refine XS.sipush X1.here hx rfl (hb hby dA_9) ?_
    show Steps p.tables e below (T1.setTop (mkF m 12 #[.val (.ref t), .val (.int i)] [(.int (255 : Int32)), (.int (48 + i))])) _
    refine XS.iand X1.here hx rfl (hb hby dA_12) rfl ?_
    show Steps p.tables e below (T1.setTop (mkF m 13 #[.val (.ref t), .val (.int i)] [(.int ((48 + i) &&& (255 : Int32)))])) _
    refine XT.i2c X1.here hx rfl (hb hby dA_13) rfl ?_
    exact oK
  show OG _ _ _ _ _ _ _ (T1.setTop (mkF m 14 #[.val (.ref t), .val (.int i)] [(.int ((48 + i) &&& (255 : Int32)).toUInt32.toUInt16.toUInt32.toInt32)]))
  refine OG.retN X1 hx (t := .char) Bd.returns (by simp) (hb hby dA_14) hlk ?_ (by decide) (by decide)
  try rw [e1]
  exact ⟨congrArg (fun z => some (Value.int z)) (own_chr hi0 hin), N1, rfl⟩
theorem dH_0 : decode jdk_42_method_56_code 0 = .ok (.aload_n 0, 1) := by decide +kernel
theorem dH_1 : decode jdk_42_method_56_code 1 = .ok (.invokevirtual 492, 3) := by decide +kernel
theorem pd___Z : parseMethodDescriptor "()Z" = some ⟨[], some .boolean⟩ := by decide +kernel
theorem dH_4 : decode jdk_42_method_56_code 4 = .ok (.ifCond .eq 12, 3) := by decide +kernel
theorem dH_7 : decode jdk_42_method_56_code 7 = .ok (.aload_n 0, 1) := by decide +kernel
theorem dH_8 : decode jdk_42_method_56_code 8 = .ok (.getfield 9, 3) := by decide +kernel
theorem dH_11 : decode jdk_42_method_56_code 11 = .ok (.iload_n 1, 1) := by decide +kernel
theorem dH_12 : decode jdk_42_method_56_code 12 = .ok (.invokestatic 495, 3) := by decide +kernel
theorem pd___BI_C : parseMethodDescriptor "([BI)C" = some ⟨[(.array .byte), .int], some .char⟩ := by decide +kernel
theorem dH_15 : decode jdk_42_method_56_code 15 = .ok (.ireturn, 1) := by decide +kernel
theorem pn_H : plainName "java/lang/String" = true := by first | (simp [plainName, overriddenIn]; done) | decide +kernel
theorem ef_H (m : MethodId) (x0 : Addr) (x1 : Int32) : entryFrame m #[(.ref x0), (.int x1)] 2 = mkF m 0 #[.val (.ref x0), .val (.int x1)] [] := by first | (simp [entryFrame, mkF, argsToLocals, Value.category]; done) | rfl
def QH (Z : State) (a : Addr) (i : Int32) (zc : Int32) (t : Addr) (kc : ClassId) (fm : Value) (h0 : Heap) (n0 : Nat) (v : Option Value) (h : Heap) (L : List Loc) : Prop := v = some (.int (48 + i)) ∧ Fr n0 L ∧ h = h0
set_option maxRecDepth 65536 in
set_option maxHeartbeats 40000000 in
theorem rmH (l : Launch) (Z : State) (a0 : Array Value) (hw : ∀ d ∈ tables_1, d.before a0 Z = true) (ws : List Jvm.Cond) (a : Addr) (i : Int32) (zc : Int32) (t : Addr) (kc : ClassId) (fm : Value) (h0 : Heap) (n0 : Nat) (Z0 : n0 ≤ h0.size) (hO : Old Z n0 h0) (SC : Sta Z Z.heap "java/lang/String" "COMPACT_STRINGS" "Z" (.int zc)) (hzc : ¬ zc = (0 : Int32)) (F_c : Fld Z h0 a "java/lang/String" "coder" "B" (.int (0 : Int32))) (E_a : Exa Z h0 a "java/lang/String") (F_v : Fld Z h0 a "java/lang/String" "value" "[B" (.ref t)) (V_t : Arv Z h0 t kc .byte (10 : Int32) [(.int (48 : Int32)), (.int (49 : Int32)), (.int (50 : Int32)), (.int (51 : Int32)), (.int (52 : Int32)), (.int (53 : Int32)), (.int (54 : Int32)), (.int (55 : Int32)), (.int (56 : Int32)), (.int (57 : Int32))] (.int (0 : Int32))) (SF : Sta Z Z.heap "jdk/internal/util/Preconditions" "SIOOBE_FORMATTER" "Ljava/util/function/BiFunction;" fm) (hfm : fm.isRef = true) (hi0 : ¬ i < (0 : Int32)) (hin : i < (10 : Int32)) :
    MetFree l (⟨"java/lang/String", "charAt", "(I)C"⟩ : MethodName) (head1 (Jvm.Cond.code (⟨"java/lang/String", "charAt", "(I)C"⟩ : MethodName) jdk_42_method_56_code 2 (some .char) :: ws) ({ frames := 3, cells := 0, slots := 0, locals := 40 } : Room)) (fun aA oU => aA = #[(.ref a), (.int i)] ∧ Z.Warmed39 oU.vm ∧ oU.heap = h0) (fun _ _ _ _ _ => True) (fun _ oU oO oU' => ∃ oV oL, oO = .returned oV ∧ QH Z a i zc t kc fm h0 n0 oV oU'.heap oL ∧ FrameEnd oU oO oU' oL ({ frames := 3, cells := 0, slots := 0, locals := 40 } : Room).cells ({ frames := 3, cells := 0, slots := 0, locals := 40 } : Room).slots) := by
  refine MetFree.of_bodySF (plainFor_of_name pn_H) hisR ?_
  intro p e s m args below meth c s₁ Bd hml0 hP hK
  obtain ⟨rfl, hZ, hh⟩ := hP
  have hx := Bd.exec
  have hby := Bd.bytes
  have hlk := BodyLoose.notSynchronized Bd
  have hml : c.maxLocals = 2 := hml0
  have hown : s.vm.findClass "java/lang/String" = some m.cls := findClass_of_methodNamed Bd.named
  have hnm := (name_of_methodNamed Bd.named Bd.method).1
  have X0 : Stand p l e ({ frames := 3, cells := 0, slots := 0, locals := 40 } : Room) s m #[(.ref a), (.int i)] below meth c s₁ [] 0 0 := Stand.of_body Bd
  have e0 : s₁.heap = h0 := by rw [← hh, Bd.state]; rfl
  have N0 := Fr.nil n0
  show OG p e below s ({ frames := 3, cells := 0, slots := 0, locals := 40 } : Room).cells ({ frames := 3, cells := 0, slots := 0, locals := 40 } : Room).slots (QH Z a i zc t kc fm h0 n0) _
  refine OG.of (fun oT oK => castTop (ef_H m a i) oK) ?_
  show OG p e below s _ _ _ (s₁.setTop (mkF m 0 #[.val (.ref a), .val (.int i)] []))
  refine OG.of (A := s₁.setTop (mkF m 1 #[.val (.ref a), .val (.int i)] [(.ref a)])) (fun oT oK => ?_) ?_
  · show Steps p.tables e below (s₁.setTop (mkF m 0 #[.val (.ref a), .val (.int i)] [])) oT
    refine XS.aloadN X0.here hx rfl (hb hby dH_0) rfl rfl  ?_
    exact oK
  show OG _ _ _ _ _ _ _ (s₁.setTop (mkF m 1 #[.val (.ref a), .val (.int i)] [(.ref a)]))
  obtain ⟨cq1, kq1, q1a, q1b, q1c⟩ := isOf hZ e0 (E_a)
  obtain ⟨_, _, ⟨T1, L1, k1, n1⟩, -, X1, ⟨Lc1, hQ1, l1, y1, z1⟩, st1⟩ := X0.virtualBack hx (y := (⟨"java/lang/String", "isLatin1", "()Z"⟩ : MethodName)) (z := (⟨"java/lang/String", "isLatin1", "()Z"⟩ : MethodName)) hown (mvT hZ (hw _ (List.mem_of_getElem? (i := 36) rfl))) (mvT hZ (hw _ (List.mem_of_getElem? (i := 37) rfl))) (notFace_of_selects (args := #[]) (mvT hZ (hw _ (List.mem_of_getElem? (i := 39) rfl)))) (mvT hZ (hw _ (List.mem_of_getElem? (i := 39) rfl))) (mvT hZ (hw _ (List.mem_of_getElem? (i := 38) rfl))) (by decide) (backOf (W := 0) (rmL l Z a0 hw [] a zc h0 n0 (Z0) hO SC hzc F_c) hZ (hw _ (List.mem_of_getElem? (i := 40) rfl)) (hw _ (List.mem_of_getElem? (i := 6) rfl)) (by decide) (by decide)) q1a q1c (g := (mkF m 1 #[.val (.ref a), .val (.int i)] [(.ref a)])) rfl (by rw [hml]; rfl) (Steps.refl _) (argsL := []) (rest := []) (lenOf pd___Z rfl) rfl (by show 2 * 0 + _ ≤ _; exact Nat.le_of_eq rfl) (hb hby dH_1) (fun _ _ => ⟨rfl, e0, (by decide : 0 + 0 ≤ _), (by decide : 0 + 0 ≤ _)⟩)
  dsimp only [Pt.U, Pt.locs, Pt.cells, Pt.slots] at X1 l1 y1 z1 st1 hQ1
  subst l1 y1 z1
  obtain ⟨hv1, N1q, e1⟩ := hQ1
  obtain rfl := hv1.trans (show _ = some (.int (1 : Int32)) from rfl)
  have N1 := Fr.app N0 N1q
  refine OG.trans st1 ?_
  show OG _ _ _ _ _ _ _ (T1.setTop (mkF m 4 #[.val (.ref a), .val (.int i)] [(.int (1 : Int32))]))
  refine OG.of (A := T1.setTop (mkF m 8 #[.val (.ref a), .val (.int i)] [(.ref a)])) (fun oT oK => ?_) ?_
  · show Steps p.tables e below (T1.setTop (mkF m 4 #[.val (.ref a), .val (.int i)] [(.int (1 : Int32))])) oT
    refine XS.ifNo X1.here hx rfl (hb hby dH_4) rfl (XT.i0_eq_f (by decide)) ?_
    show Steps p.tables e below (T1.setTop (mkF m 7 #[.val (.ref a), .val (.int i)] [])) _
    refine XS.aloadN X1.here hx rfl (hb hby dH_7) rfl rfl  ?_
    exact oK
  show OG _ _ _ _ _ _ _ (T1.setTop (mkF m 8 #[.val (.ref a), .val (.int i)] [(.ref a)]))
  obtain ⟨T2, X2, e2, st2⟩ := getF X1 hx hZ hown (host := "") (Or.inl (hw _ (List.mem_of_getElem? (i := 23) rfl))) Via.refl e1 F_v (g := (mkF m 8 #[.val (.ref a), .val (.int i)] [(.ref a)])) rfl rfl (hb hby dH_8)
  refine OG.of st2 ?_
  show OG _ _ _ _ _ _ _ (T2.setTop (mkF m 11 #[.val (.ref a), .val (.int i)] [(.ref t)]))
  refine OG.of (A := T2.setTop (mkF m 12 #[.val (.ref a), .val (.int i)] [(.int i), (.ref t)])) (fun oT oK => ?_) ?_
  · show Steps p.tables e below (T2.setTop (mkF m 11 #[.val (.ref a), .val (.int i)] [(.ref t)])) oT
    refine XS.iloadN X2.here hx rfl (hb hby dH_11) rfl  ?_
    exact oK
  show OG _ _ _ _ _ _ _ (T2.setTop (mkF m 12 #[.val (.ref a), .val (.int i)] [(.int i), (.ref t)]))
  obtain ⟨_, _, ⟨T3, L3, k3, n3⟩, -, X3, ⟨Lc3, hQ3, l3, y3, z3⟩, st3⟩ := Jvm.LawKit.callS X2 hx (y := (⟨"java/lang/StringLatin1", "charAt", "([BI)C"⟩ : MethodName)) hown (mvT hZ (hw _ (List.mem_of_getElem? (i := 41) rfl))) (mvT hZ (hw _ (List.mem_of_getElem? (i := 42) rfl))) (mvT hZ (hw _ (List.mem_of_getElem? (i := 43) rfl))) (mvT hZ (hw _ (List.mem_of_getElem? (i := 44) rfl))) (by decide) (backOf (W := 0) (rmA l Z a0 hw [] t i kc fm h0 n0 (Z0) hO SF hfm hi0 hin V_t) hZ (hw _ (List.mem_of_getElem? (i := 44) rfl)) (hw _ (List.mem_of_getElem? (i := 43) rfl)) (by decide) (by decide)) (g := (mkF m 12 #[.val (.ref a), .val (.int i)] [(.int i), (.ref t)])) rfl (by rw [hml]; rfl) (argsL := [(.ref t), (.int i)]) (rest := []) (lenOf pd___BI_C rfl) rfl (by show 2 * 0 + _ ≤ _; exact Nat.le_of_eq rfl) (hb hby dH_12) (fun _ _ => ⟨rfl, e2, (by decide : 0 + 0 ≤ _), (by decide : 0 + 0 ≤ _)⟩)
  dsimp only [Pt.U, Pt.locs, Pt.cells, Pt.slots] at X3 l3 y3 z3 st3 hQ3
  subst l3 y3 z3
  obtain ⟨hv3, N3q, e3⟩ := hQ3
  obtain rfl := hv3.trans (show _ = some (.int (48 + i)) from rfl)
  have N3 := Fr.app N1 N3q
  refine OG.of st3 ?_
  show OG _ _ _ _ _ _ _ (T3.setTop (mkF m 15 #[.val (.ref a), .val (.int i)] [(.int (48 + i))]))
  refine OG.retN X3 hx (t := .char) Bd.returns (by simp) (hb hby dH_15) hlk ?_ (by decide) (by decide)
  try rw [e3]
  exact ⟨congrArg (fun z => some (Value.int z)) (own_chr2 hi0 hin), N3, rfl⟩
theorem dD_0 : decode prog_74_method_4_code 0 = .ok (.iload_n 0, 1) := by decide +kernel
theorem dD_1 : decode prog_74_method_4_code 1 = .ok (.bipush 48, 2) := by decide +kernel
theorem dD_3 : decode prog_74_method_4_code 3 = .ok (.if_icmp .lt 13, 3) := by decide +kernel
theorem dD_16 : decode prog_74_method_4_code 16 = .ok (.iconst 0, 1) := by decide +kernel
theorem dD_17 : decode prog_74_method_4_code 17 = .ok (.ireturn, 1) := by decide +kernel
theorem dD_6 : decode prog_74_method_4_code 6 = .ok (.iload_n 0, 1) := by decide +kernel
theorem dD_7 : decode prog_74_method_4_code 7 = .ok (.bipush 57, 2) := by decide +kernel
theorem dD_9 : decode prog_74_method_4_code 9 = .ok (.if_icmp .gt 7, 3) := by decide +kernel
theorem dD_12 : decode prog_74_method_4_code 12 = .ok (.iconst 1, 1) := by decide +kernel
theorem dD_13 : decode prog_74_method_4_code 13 = .ok (.goto 4, 3) := by decide +kernel
theorem pn_D : plainName "com/example/kind4/kind4/model/SqlToken" = true := by first | (simp [plainName, overriddenIn]; done) | decide +kernel
theorem ef_D (m : MethodId) (x0 : Int32) : entryFrame m #[(.int x0)] 1 = mkF m 0 #[.val (.int x0)] [] := by first | (simp [entryFrame, mkF, argsToLocals, Value.category]; done) | rfl
def QD (Z : State) (x0 : Int32) (h0 : Heap) (n0 : Nat) (v : Option Value) (h : Heap) (L : List Loc) : Prop := v = some (.int (own_isd x0)) ∧ Fr n0 L ∧ h = h0
set_option maxRecDepth 65536 in
set_option maxHeartbeats 40000000 in
theorem rmD (l : Launch) (Z : State) (a0 : Array Value) (hw : ∀ d ∈ tables_1, d.before a0 Z = true) (ws : List Jvm.Cond) (x0 : Int32) (h0 : Heap) (n0 : Nat) (Z0 : n0 ≤ h0.size) :
    MetFree l (⟨"com/example/kind4/kind4/model/SqlToken", "isDigit", "(I)Z"⟩ : MethodName) (head1 (Jvm.Cond.code (⟨"com/example/kind4/kind4/model/SqlToken", "isDigit", "(I)Z"⟩ : MethodName) prog_74_method_4_code 1 (some .boolean) :: ws) ({ frames := 0, cells := 0, slots := 0, locals := 0 } : Room)) (fun aA oU => aA = #[(.int x0)] ∧ Z.Warmed39 oU.vm ∧ oU.heap = h0) (fun _ _ _ _ _ => True) (fun _ oU oO oU' => ∃ oV oL, oO = .returned oV ∧ QD Z x0 h0 n0 oV oU'.heap oL ∧ FrameEnd oU oO oU' oL ({ frames := 0, cells := 0, slots := 0, locals := 0 } : Room).cells ({ frames := 0, cells := 0, slots := 0, locals := 0 } : Room).slots) := by
  refine MetFree.of_bodySF (plainFor_of_name pn_D) hisR ?_
  intro p e s m args below meth c s₁ Bd hml0 hP hK
  obtain ⟨rfl, hZ, hh⟩ := hP
  have hx := Bd.exec
  have hby := Bd.bytes
  have hlk := BodyLoose.notSynchronized Bd
  have hml : c.maxLocals = 1 := hml0
  have hown : s.vm.findClass "com/example/kind4/kind4/model/SqlToken" = some m.cls := findClass_of_methodNamed Bd.named
  have hnm := (name_of_methodNamed Bd.named Bd.method).1
  have X0 : Stand p l e ({ frames := 0, cells := 0, slots := 0, locals := 0 } : Room) s m #[(.int x0)] below meth c s₁ [] 0 0 := Stand.of_body Bd
  have e0 : s₁.heap = h0 := by rw [← hh, Bd.state]; rfl
  have N0 := Fr.nil n0
  show OG p e below s ({ frames := 0, cells := 0, slots := 0, locals := 0 } : Room).cells ({ frames := 0, cells := 0, slots := 0, locals := 0 } : Room).slots (QD Z x0 h0 n0) _
  refine OG.of (fun oT oK => castTop (ef_D m x0) oK) ?_
  show OG p e below s _ _ _ (s₁.setTop (mkF m 0 #[.val (.int x0)] []))
  refine OG.of (A := s₁.setTop (mkF m 3 #[.val (.int x0)] [(.int (48 : Int32)), (.int x0)])) (fun oT oK => ?_) ?_
  · show Steps p.tables e below (s₁.setTop (mkF m 0 #[.val (.int x0)] [])) oT
    refine XS.iloadN X0.here hx rfl (hb hby dD_0) rfl  ?_
    show Steps p.tables e below (s₁.setTop (mkF m 1 #[.val (.int x0)] [(.int x0)])) _
    refine XS.bipush X0.here hx rfl (hb hby dD_1) ?_
    exact oK
  show OG _ _ _ _ _ _ _ (s₁.setTop (mkF m 3 #[.val (.int x0)] [(.int (48 : Int32)), (.int x0)]))
  by_cases hc3_1 : x0 < (48 : Int32)
  · refine OG.of (fun oT oK => XS.icmpYes X0.here hx rfl (pc0 := 3) (pc' := 16) rfl (hb hby dD_3) rfl (XT.ii_lt_t hc3_1) (by decide) (by decide) oK) ?_
    show OG _ _ _ _ _ _ _ (s₁.setTop (mkF m 16 #[.val (.int x0)] []))
    refine OG.of (A := s₁.setTop (mkF m 17 #[.val (.int x0)] [(.int (0 : Int32))])) (fun oT oK => ?_) ?_
    · show Steps p.tables e below (s₁.setTop (mkF m 16 #[.val (.int x0)] [])) oT
      refine XS.iconst X0.here hx rfl (hb hby dD_16) ?_
      exact oK
    show OG _ _ _ _ _ _ _ (s₁.setTop (mkF m 17 #[.val (.int x0)] [(.int (0 : Int32))]))
    refine OG.retN X0 hx (t := .boolean) Bd.returns (by simp) (hb hby dD_17) hlk ?_ (by decide) (by decide)
    try rw [e0]
    exact ⟨by rw [own_isd, if_pos hc3_1] <;> rfl, N0, rfl⟩
  · refine OG.of (fun oT oK => XS.icmpNo X0.here hx rfl (hb hby dD_3) rfl (XT.ii_lt_f hc3_1) oK) ?_
    show OG _ _ _ _ _ _ _ (s₁.setTop (mkF m 6 #[.val (.int x0)] []))
    refine OG.of (A := s₁.setTop (mkF m 9 #[.val (.int x0)] [(.int (57 : Int32)), (.int x0)])) (fun oT oK => ?_) ?_
    · show Steps p.tables e below (s₁.setTop (mkF m 6 #[.val (.int x0)] [])) oT
      refine XS.iloadN X0.here hx rfl (hb hby dD_6) rfl  ?_
      show Steps p.tables e below (s₁.setTop (mkF m 7 #[.val (.int x0)] [(.int x0)])) _
      refine XS.bipush X0.here hx rfl (hb hby dD_7) ?_
      exact oK
    show OG _ _ _ _ _ _ _ (s₁.setTop (mkF m 9 #[.val (.int x0)] [(.int (57 : Int32)), (.int x0)]))
    by_cases hc9_2 : (57 : Int32) < x0
    · refine OG.of (fun oT oK => XS.icmpYes X0.here hx rfl (pc0 := 9) (pc' := 16) rfl (hb hby dD_9) rfl (XT.ii_gt_t hc9_2) (by decide) (by decide) oK) ?_
      show OG _ _ _ _ _ _ _ (s₁.setTop (mkF m 16 #[.val (.int x0)] []))
      refine OG.of (A := s₁.setTop (mkF m 17 #[.val (.int x0)] [(.int (0 : Int32))])) (fun oT oK => ?_) ?_
      · show Steps p.tables e below (s₁.setTop (mkF m 16 #[.val (.int x0)] [])) oT
        refine XS.iconst X0.here hx rfl (hb hby dD_16) ?_
        exact oK
      show OG _ _ _ _ _ _ _ (s₁.setTop (mkF m 17 #[.val (.int x0)] [(.int (0 : Int32))]))
      refine OG.retN X0 hx (t := .boolean) Bd.returns (by simp) (hb hby dD_17) hlk ?_ (by decide) (by decide)
      try rw [e0]
      exact ⟨by rw [own_isd, if_neg hc3_1, if_pos hc9_2] <;> rfl, N0, rfl⟩
    · refine OG.of (fun oT oK => XS.icmpNo X0.here hx rfl (hb hby dD_9) rfl (XT.ii_gt_f hc9_2) oK) ?_
      show OG _ _ _ _ _ _ _ (s₁.setTop (mkF m 12 #[.val (.int x0)] []))
      refine OG.of (A := s₁.setTop (mkF m 17 #[.val (.int x0)] [(.int (1 : Int32))])) (fun oT oK => ?_) ?_
      · show Steps p.tables e below (s₁.setTop (mkF m 12 #[.val (.int x0)] [])) oT
        refine XS.iconst X0.here hx rfl (hb hby dD_12) ?_
        show Steps p.tables e below (s₁.setTop (mkF m 13 #[.val (.int x0)] [(.int (1 : Int32))])) _
        refine XS.goto X0.here hx rfl (pc0 := 13) (pc' := 17) rfl (hb hby dD_13) (by decide) (by decide) ?_
        exact oK
      show OG _ _ _ _ _ _ _ (s₁.setTop (mkF m 17 #[.val (.int x0)] [(.int (1 : Int32))]))
      refine OG.retN X0 hx (t := .boolean) Bd.returns (by simp) (hb hby dD_17) hlk ?_ (by decide) (by decide)
      try rw [e0]
      exact ⟨by rw [own_isd, if_neg hc3_1, if_neg hc9_2] <;> rfl, N0, rfl⟩
theorem dM_0 : decode method_2_code 0 = .ok (.ldc 7, 2) := by decide +kernel
theorem dM_2 : decode method_2_code 2 = .ok (.astore_n 1, 1) := by decide +kernel
theorem dM_3 : decode method_2_code 3 = .ok (.iload_n 0, 1) := by decide +kernel
theorem dM_4 : decode method_2_code 4 = .ok (.i2l, 1) := by decide +kernel
theorem dM_5 : decode method_2_code 5 = .ok (.ldc2_w 9, 3) := by decide +kernel
theorem dM_8 : decode method_2_code 8 = .ok (.lsub, 1) := by decide +kernel
theorem dM_9 : decode method_2_code 9 = .ok (.lstore_n 2, 1) := by decide +kernel
theorem dM_10 : decode method_2_code 10 = .ok (.lload_n 2, 1) := by decide +kernel
theorem dM_11 : decode method_2_code 11 = .ok (.lconst 0, 1) := by decide +kernel
theorem dM_12 : decode method_2_code 12 = .ok (.lcmp, 1) := by decide +kernel
theorem dM_13 : decode method_2_code 13 = .ok (.ifCond .lt 27, 3) := by decide +kernel
theorem dM_40 : decode method_2_code 40 = .ok (.iconst 0, 1) := by decide +kernel
theorem dM_41 : decode method_2_code 41 = .ok (.istore 4, 2) := by decide +kernel
theorem dM_43 : decode method_2_code 43 = .ok (.iload_n 0, 1) := by decide +kernel
theorem dM_44 : decode method_2_code 44 = .ok (.invokestatic 21, 3) := by decide +kernel
theorem pd__I_Z : parseMethodDescriptor "(I)Z" = some ⟨[.int], some .boolean⟩ := by decide +kernel
theorem dM_47 : decode method_2_code 47 = .ok (.iload 4, 2) := by decide +kernel
theorem dM_49 : decode method_2_code 49 = .ok (.if_icmp .ne 7, 3) := by decide +kernel
theorem dM_52 : decode method_2_code 52 = .ok (.iconst 1, 1) := by decide +kernel
theorem dM_53 : decode method_2_code 53 = .ok (.goto 4, 3) := by decide +kernel
theorem dM_57 : decode method_2_code 57 = .ok (.ireturn, 1) := by decide +kernel
theorem dM_16 : decode method_2_code 16 = .ok (.lload_n 2, 1) := by decide +kernel
theorem dM_17 : decode method_2_code 17 = .ok (.aload_n 1, 1) := by decide +kernel
theorem dM_18 : decode method_2_code 18 = .ok (.invokevirtual 11, 3) := by decide +kernel
theorem pd___I : parseMethodDescriptor "()I" = some ⟨[], some .int⟩ := by decide +kernel
theorem dM_21 : decode method_2_code 21 = .ok (.i2l, 1) := by decide +kernel
theorem dM_22 : decode method_2_code 22 = .ok (.lcmp, 1) := by decide +kernel
theorem dM_23 : decode method_2_code 23 = .ok (.ifCond .ge 17, 3) := by decide +kernel
theorem dM_26 : decode method_2_code 26 = .ok (.aload_n 1, 1) := by decide +kernel
theorem dM_27 : decode method_2_code 27 = .ok (.lload_n 2, 1) := by decide +kernel
theorem dM_28 : decode method_2_code 28 = .ok (.l2i, 1) := by decide +kernel
theorem dM_29 : decode method_2_code 29 = .ok (.invokevirtual 17, 3) := by decide +kernel
theorem pd__I_C : parseMethodDescriptor "(I)C" = some ⟨[.int], some .char⟩ := by decide +kernel
theorem dM_32 : decode method_2_code 32 = .ok (.iload_n 0, 1) := by decide +kernel
theorem dM_33 : decode method_2_code 33 = .ok (.if_icmp .ne 7, 3) := by decide +kernel
theorem dM_36 : decode method_2_code 36 = .ok (.iconst 1, 1) := by decide +kernel
theorem dM_37 : decode method_2_code 37 = .ok (.goto 4, 3) := by decide +kernel
theorem pn_M : plainName "com/example/kind4/kind4/model/SqlTokenIsDigitPinLaw" = true := by first | (simp [plainName, overriddenIn]; done) | decide +kernel
theorem ef_M (m : MethodId) (x0 : Int32) : entryFrame m #[(.int x0)] 5 = mkF m 0 #[.val (.int x0), .unset, .unset, .unset, .unset] [] := by first | (simp [entryFrame, mkF, argsToLocals, Value.category]; done) | rfl
def QM (Z : State) (x0 : Int32) (zc : Int32) (fm : Value) (h0 : Heap) (n0 : Nat) (v : Option Value) (h : Heap) (L : List Loc) : Prop := v = some (.int (1 : Int32)) ∧ Fr n0 L ∧ Keep h0 h []
set_option maxRecDepth 65536 in
set_option maxHeartbeats 40000000 in
theorem rmM (l : Launch) (Z : State) (a0 : Array Value) (hw : ∀ d ∈ tables_1, d.before a0 Z = true) (ws : List Jvm.Cond) (x0 : Int32) (zc : Int32) (fm : Value) (h0 : Heap) (n0 : Nat) (Z0 : n0 ≤ h0.size) (hO : Old Z n0 h0) (SC : Sta Z Z.heap "java/lang/String" "COMPACT_STRINGS" "Z" (.int zc)) (hzc : ¬ zc = (0 : Int32)) (SF : Sta Z Z.heap "jdk/internal/util/Preconditions" "SIOOBE_FORMATTER" "Ljava/util/function/BiFunction;" fm) (hfm : fm.isRef = true) :
    MetFree l (⟨"com/example/kind4/kind4/model/SqlTokenIsDigitPinLaw", "matches", "(I)Z"⟩ : MethodName) (head1 (Jvm.Cond.code (⟨"com/example/kind4/kind4/model/SqlTokenIsDigitPinLaw", "matches", "(I)Z"⟩ : MethodName) method_2_code 5 (some .boolean) :: ws) ({ frames := 4, cells := 2, slots := 44, locals := 53 } : Room)) (fun aA oU => aA = #[(.int x0)] ∧ Z.Warmed39 oU.vm ∧ oU.heap = h0 ∧ CHv Z OEL oU.vm h0) (fun _ _ _ _ _ => True) (fun _ oU oO oU' => ∃ oV oL, oO = .returned oV ∧ QM Z x0 zc fm h0 n0 oV oU'.heap oL ∧ CHr Z OEL oU.vm oU.heap oU'.vm oU'.heap ∧ ReturnedEndW oU oO oU' oL ({ frames := 4, cells := 2, slots := 44, locals := 53 } : Room).cells ({ frames := 4, cells := 2, slots := 44, locals := 53 } : Room).slots) := by
  refine MetFree.of_bodySF (plainFor_of_name pn_M) hisR ?_
  intro p e s m args below meth c s₁ Bd hml0 hP hK
  obtain ⟨rfl, hZ, hh, hCV⟩ := hP
  have hx := Bd.exec
  have hby := Bd.bytes
  have hlk := BodyLoose.notSynchronized Bd
  have hml : c.maxLocals = 5 := hml0
  have hown : s.vm.findClass "com/example/kind4/kind4/model/SqlTokenIsDigitPinLaw" = some m.cls := findClass_of_methodNamed Bd.named
  have hnm := (name_of_methodNamed Bd.named Bd.method).1
  have X0 : Stand p l e ({ frames := 4, cells := 2, slots := 44, locals := 53 } : Room) s m #[(.int x0)] below meth c s₁ [] 0 0 := Stand.of_body Bd
  have e0 : s₁.heap = h0 := by rw [← hh, Bd.state]; rfl
  have N0 := Fr.nil n0
  have X0 : Stand p l e ({ frames := 4, cells := 2, slots := 44, locals := 53 } : Room) (s.setVm s.vm) m #[(.int x0)] below meth c s₁ [] 0 0 := X0
  have hS : s.Since s.vm s.heap.size := (State.WarmedH.refl s).since s.heap.size
  have hkS : s.heap.size ≤ h0.size := by rw [← hh]; exact Nat.le_refl _
  have hCR : CHr Z OEL s.vm s.heap s.vm h0 := by rw [hh]; exact CHr.refl hCV
  have hEL := own_EW hw
  show OGW Z OEL p e below s ({ frames := 4, cells := 2, slots := 44, locals := 53 } : Room).cells ({ frames := 4, cells := 2, slots := 44, locals := 53 } : Room).slots (QM Z x0 zc fm h0 n0) _
  refine OGW.of (fun oT oK => castTop (ef_M m x0) oK) ?_
  show OGW _ _ p e below s _ _ _ (s₁.setTop (mkF m 0 #[.val (.int x0), .unset, .unset, .unset, .unset] []))
  obtain ⟨a1, T1, h1, k1, b1, kc1, X1, e1, E1, hS, hkS, hZ, hown, A1, FC1, FV1, V1, -, -, hC1, -, sf1, st1⟩ := ldcCH X0 hx hZ hown (hw _ (List.mem_of_getElem? (i := 5) rfl)) (own_wS hw) e0 hS hkS hEL (own_mem_7) hCR.1 (vs := [(.int (48 : Int32)), (.int (49 : Int32)), (.int (50 : Int32)), (.int (51 : Int32)), (.int (52 : Int32)), (.int (53 : Int32)), (.int (54 : Int32)), (.int (55 : Int32)), (.int (56 : Int32)), (.int (57 : Int32))]) (z := (10 : Int32)) (by decide +kernel) (by decide) (by decide) (g := (mkF m 0 #[.val (.int x0), .unset, .unset, .unset, .unset] [])) rfl (hb hby dM_0) (n := 40) (by decide) (by decide) (by decide) (by decide)
  have f1 := (hO).ext E1
  have hCR := hCR.trans hC1
  have Z1 : n0 ≤ h1.size := Nat.le_trans Z0 E1.1
  have K1 : Keep h0 h1 [] := (Keep.refl h0 []).ext E1
  refine OGW.of st1 ?_
  show OGW _ _ _ _ _ _ _ _ _ (T1.setTop (mkF m 2 #[.val (.int x0), .unset, .unset, .unset, .unset] [(.ref a1)]))
  refine OGW.of (A := T1.setTop (mkF m 13 #[.val (.int x0), .val (.ref a1), .val (.long (x0.toInt64 - (48 : Int64))), .second, .unset] [(.int (XT.cmpL (x0.toInt64 - (48 : Int64)) (0 : Int64)))])) (fun oT oK => ?_) ?_
  · show Steps p.tables e below (T1.setTop (mkF m 2 #[.val (.int x0), .unset, .unset, .unset, .unset] [(.ref a1)])) oT
    refine XS.astoreN X1.here hx rfl (hb hby dM_2) rfl rfl (l' := #[.val (.int x0), .val (.ref a1), .unset, .unset, .unset]) rfl ?_
    show Steps p.tables e below (T1.setTop (mkF m 3 #[.val (.int x0), .val (.ref a1), .unset, .unset, .unset] [])) _
    refine XS.iloadN X1.here hx rfl (hb hby dM_3) rfl  ?_
    show Steps p.tables e below (T1.setTop (mkF m 4 #[.val (.int x0), .val (.ref a1), .unset, .unset, .unset] [(.int x0)])) _
    refine XT.i2l X1.here hx rfl (hb hby dM_4) rfl ?_
    show Steps p.tables e below (T1.setTop (mkF m 5 #[.val (.int x0), .val (.ref a1), .unset, .unset, .unset] [(.long x0.toInt64)])) _
    refine X1.ldc2Long hx hown (mvT hZ (hw _ (List.mem_of_getElem? (i := 13) rfl))) (g := (mkF m 5 #[.val (.int x0), .val (.ref a1), .unset, .unset, .unset] [(.long x0.toInt64)])) rfl (hb hby dM_5) _ ?_
    show Steps p.tables e below (T1.setTop (mkF m 8 #[.val (.int x0), .val (.ref a1), .unset, .unset, .unset] [(.long (48 : Int64)), (.long x0.toInt64)])) _
    refine XT.lsub X1.here hx rfl (hb hby dM_8) rfl ?_
    show Steps p.tables e below (T1.setTop (mkF m 9 #[.val (.int x0), .val (.ref a1), .unset, .unset, .unset] [(.long (x0.toInt64 - (48 : Int64)))])) _
    refine XT.lstoreN X1.here hx rfl (hb hby dM_9) rfl (l' := #[.val (.int x0), .val (.ref a1), .val (.long (x0.toInt64 - (48 : Int64))), .second, .unset]) rfl ?_
    show Steps p.tables e below (T1.setTop (mkF m 10 #[.val (.int x0), .val (.ref a1), .val (.long (x0.toInt64 - (48 : Int64))), .second, .unset] [])) _
    refine XT.lloadN X1.here hx rfl (hb hby dM_10) rfl  ?_
    show Steps p.tables e below (T1.setTop (mkF m 11 #[.val (.int x0), .val (.ref a1), .val (.long (x0.toInt64 - (48 : Int64))), .second, .unset] [(.long (x0.toInt64 - (48 : Int64)))])) _
    refine XT.lconst X1.here hx rfl (hb hby dM_11) ?_
    show Steps p.tables e below (T1.setTop (mkF m 12 #[.val (.int x0), .val (.ref a1), .val (.long (x0.toInt64 - (48 : Int64))), .second, .unset] [(.long (0 : Int64)), (.long (x0.toInt64 - (48 : Int64)))])) _
    refine XT.lcmp X1.here hx rfl (hb hby dM_12) rfl ?_
    exact oK
  show OGW _ _ _ _ _ _ _ _ _ (T1.setTop (mkF m 13 #[.val (.int x0), .val (.ref a1), .val (.long (x0.toInt64 - (48 : Int64))), .second, .unset] [(.int (XT.cmpL (x0.toInt64 - (48 : Int64)) (0 : Int64)))]))
  by_cases hc13_2 : (x0.toInt64 - (48 : Int64)) < (0 : Int64)
  · refine OGW.of (fun oT oK => XS.ifYes X1.here hx rfl (pc0 := 13) (pc' := 40) rfl (hb hby dM_13) rfl (XT.ll_lt_t hc13_2) (by decide) (by decide) oK) ?_
    show OGW _ _ _ _ _ _ _ _ _ (T1.setTop (mkF m 40 #[.val (.int x0), .val (.ref a1), .val (.long (x0.toInt64 - (48 : Int64))), .second, .unset] []))
    refine OGW.of (A := T1.setTop (mkF m 44 #[.val (.int x0), .val (.ref a1), .val (.long (x0.toInt64 - (48 : Int64))), .second, .val (.int (0 : Int32))] [(.int x0)])) (fun oT oK => ?_) ?_
    · show Steps p.tables e below (T1.setTop (mkF m 40 #[.val (.int x0), .val (.ref a1), .val (.long (x0.toInt64 - (48 : Int64))), .second, .unset] [])) oT
      refine XS.iconst X1.here hx rfl (hb hby dM_40) ?_
      show Steps p.tables e below (T1.setTop (mkF m 41 #[.val (.int x0), .val (.ref a1), .val (.long (x0.toInt64 - (48 : Int64))), .second, .unset] [(.int (0 : Int32))])) _
      refine XS.istore X1.here hx rfl (hb hby dM_41) rfl (l' := #[.val (.int x0), .val (.ref a1), .val (.long (x0.toInt64 - (48 : Int64))), .second, .val (.int (0 : Int32))]) rfl ?_
      show Steps p.tables e below (T1.setTop (mkF m 43 #[.val (.int x0), .val (.ref a1), .val (.long (x0.toInt64 - (48 : Int64))), .second, .val (.int (0 : Int32))] [])) _
      refine XS.iloadN X1.here hx rfl (hb hby dM_43) rfl  ?_
      exact oK
    show OGW _ _ _ _ _ _ _ _ _ (T1.setTop (mkF m 44 #[.val (.int x0), .val (.ref a1), .val (.long (x0.toInt64 - (48 : Int64))), .second, .val (.int (0 : Int32))] [(.int x0)]))
    obtain ⟨_, _, ⟨T2, L2, k2, n2⟩, -, X2, ⟨Lc2, hQ2, l2, y2, z2⟩, st2⟩ := Jvm.LawKit.callS X1 hx (y := (⟨"com/example/kind4/kind4/model/SqlToken", "isDigit", "(I)Z"⟩ : MethodName)) hown (mvT hZ (hw _ (List.mem_of_getElem? (i := 14) rfl))) (mvT hZ (hw _ (List.mem_of_getElem? (i := 15) rfl))) (mvT hZ (hw _ (List.mem_of_getElem? (i := 16) rfl))) (mvT hZ (hw _ (List.mem_of_getElem? (i := 17) rfl))) (by decide) (backOf (W := 0) (rmD l Z a0 hw [] x0  h1 n0 (Z1)) hZ (hw _ (List.mem_of_getElem? (i := 17) rfl)) (hw _ (List.mem_of_getElem? (i := 16) rfl)) (by decide) (by decide)) (g := (mkF m 44 #[.val (.int x0), .val (.ref a1), .val (.long (x0.toInt64 - (48 : Int64))), .second, .val (.int (0 : Int32))] [(.int x0)])) rfl (by rw [hml]; rfl) (argsL := [(.int x0)]) (rest := []) (lenOf pd__I_Z rfl) rfl (by show 2 * 0 + _ ≤ _; exact Nat.le_of_eq rfl) (hb hby dM_44) (fun _ _ => ⟨rfl, e1, (by decide : 2 + 0 ≤ _), (by decide : 44 + 0 ≤ _)⟩)
    dsimp only [Pt.U, Pt.locs, Pt.cells, Pt.slots] at X2 l2 y2 z2 st2 hQ2
    subst l2 y2 z2
    obtain ⟨hv2, N2q, e2⟩ := hQ2
    obtain rfl := hv2.trans (show _ = some (.int (0 : Int32)) from congrArg (fun z => some (Value.int z)) (own_d1 hc13_2))
    have N2 := Fr.app N0 N2q
    refine OGW.of st2 ?_
    show OGW _ _ _ _ _ _ _ _ _ (T2.setTop (mkF m 47 #[.val (.int x0), .val (.ref a1), .val (.long (x0.toInt64 - (48 : Int64))), .second, .val (.int (0 : Int32))] [(.int (0 : Int32))]))
    refine OGW.of (A := T2.setTop (mkF m 57 #[.val (.int x0), .val (.ref a1), .val (.long (x0.toInt64 - (48 : Int64))), .second, .val (.int (0 : Int32))] [(.int (1 : Int32))])) (fun oT oK => ?_) ?_
    · show Steps p.tables e below (T2.setTop (mkF m 47 #[.val (.int x0), .val (.ref a1), .val (.long (x0.toInt64 - (48 : Int64))), .second, .val (.int (0 : Int32))] [(.int (0 : Int32))])) oT
      refine XS.iload X2.here hx rfl (hb hby dM_47) rfl  ?_
      show Steps p.tables e below (T2.setTop (mkF m 49 #[.val (.int x0), .val (.ref a1), .val (.long (x0.toInt64 - (48 : Int64))), .second, .val (.int (0 : Int32))] [(.int (0 : Int32)), (.int (0 : Int32))])) _
      refine XS.icmpNo X2.here hx rfl (hb hby dM_49) rfl (XT.ii_ne_f rfl) ?_
      show Steps p.tables e below (T2.setTop (mkF m 52 #[.val (.int x0), .val (.ref a1), .val (.long (x0.toInt64 - (48 : Int64))), .second, .val (.int (0 : Int32))] [])) _
      refine XS.iconst X2.here hx rfl (hb hby dM_52) ?_
      show Steps p.tables e below (T2.setTop (mkF m 53 #[.val (.int x0), .val (.ref a1), .val (.long (x0.toInt64 - (48 : Int64))), .second, .val (.int (0 : Int32))] [(.int (1 : Int32))])) _
      refine XS.goto X2.here hx rfl (pc0 := 53) (pc' := 57) rfl (hb hby dM_53) (by decide) (by decide) ?_
      exact oK
    show OGW _ _ _ _ _ _ _ _ _ (T2.setTop (mkF m 57 #[.val (.int x0), .val (.ref a1), .val (.long (x0.toInt64 - (48 : Int64))), .second, .val (.int (0 : Int32))] [(.int (1 : Int32))]))
    refine OGW.retN X2 hx (t := .boolean) Bd.returns (by simp) (hb hby dM_57) hlk hS (by rw [e2]; exact hkS) (by rw [e2]; exact hCR.trans (CHv.at X2 hZ hEL hCR.1)) ?_ (by decide) (by decide)
    try rw [e2]
    exact ⟨rfl, N2, K1⟩
  · refine OGW.of (fun oT oK => XS.ifNo X1.here hx rfl (hb hby dM_13) rfl (XT.ll_lt_f hc13_2) oK) ?_
    show OGW _ _ _ _ _ _ _ _ _ (T1.setTop (mkF m 16 #[.val (.int x0), .val (.ref a1), .val (.long (x0.toInt64 - (48 : Int64))), .second, .unset] []))
    refine OGW.of (A := T1.setTop (mkF m 18 #[.val (.int x0), .val (.ref a1), .val (.long (x0.toInt64 - (48 : Int64))), .second, .unset] [(.ref a1), (.long (x0.toInt64 - (48 : Int64)))])) (fun oT oK => ?_) ?_
    · show Steps p.tables e below (T1.setTop (mkF m 16 #[.val (.int x0), .val (.ref a1), .val (.long (x0.toInt64 - (48 : Int64))), .second, .unset] [])) oT
      refine XT.lloadN X1.here hx rfl (hb hby dM_16) rfl  ?_
      show Steps p.tables e below (T1.setTop (mkF m 17 #[.val (.int x0), .val (.ref a1), .val (.long (x0.toInt64 - (48 : Int64))), .second, .unset] [(.long (x0.toInt64 - (48 : Int64)))])) _
      refine XS.aloadN X1.here hx rfl (hb hby dM_17) rfl rfl  ?_
      exact oK
    show OGW _ _ _ _ _ _ _ _ _ (T1.setTop (mkF m 18 #[.val (.int x0), .val (.ref a1), .val (.long (x0.toInt64 - (48 : Int64))), .second, .unset] [(.ref a1), (.long (x0.toInt64 - (48 : Int64)))]))
    obtain ⟨cq3, kq3, q3a, q3b, q3c⟩ := isOf hZ e1 (A1)
    obtain ⟨_, _, ⟨T3, L3, k3, n3⟩, -, X3, ⟨Lc3, hQ3, l3, y3, z3⟩, st3⟩ := X1.virtualBack hx (y := (⟨"java/lang/String", "length", "()I"⟩ : MethodName)) (z := (⟨"java/lang/String", "length", "()I"⟩ : MethodName)) hown (mvT hZ (hw _ (List.mem_of_getElem? (i := 18) rfl))) (mvT hZ (hw _ (List.mem_of_getElem? (i := 19) rfl))) (notFace_of_selects (args := #[]) (mvT hZ (hw _ (List.mem_of_getElem? (i := 21) rfl)))) (mvT hZ (hw _ (List.mem_of_getElem? (i := 21) rfl))) (mvT hZ (hw _ (List.mem_of_getElem? (i := 20) rfl))) (by decide) (backOf (W := 2) (rmN l Z a0 hw [] a1 zc b1 kc1 h1 n0 (Z1) f1 SC hzc FC1 A1 FV1 V1) hZ (hw _ (List.mem_of_getElem? (i := 22) rfl)) (hw _ (List.mem_of_getElem? (i := 6) rfl)) (by decide) (by decide)) q3a q3c (g := (mkF m 18 #[.val (.int x0), .val (.ref a1), .val (.long (x0.toInt64 - (48 : Int64))), .second, .unset] [(.ref a1), (.long (x0.toInt64 - (48 : Int64)))])) rfl (by rw [hml]; rfl) (Steps.refl _) (argsL := []) (rest := [(.long (x0.toInt64 - (48 : Int64)))]) (lenOf pd___I rfl) rfl (by show 2 * 0 + _ ≤ _; exact Nat.le_of_eq rfl) (hb hby dM_18) (fun _ _ => ⟨rfl, e1, (by decide : 2 + 0 ≤ _), (by decide : 44 + 0 ≤ _)⟩)
    dsimp only [Pt.U, Pt.locs, Pt.cells, Pt.slots] at X3 l3 y3 z3 st3 hQ3
    subst l3 y3 z3
    obtain ⟨hv3, N3q, e3⟩ := hQ3
    obtain rfl := hv3.trans (show _ = some (.int (10 : Int32)) from rfl)
    have N3 := Fr.app N0 N3q
    refine OGW.trans st3 ?_
    show OGW _ _ _ _ _ _ _ _ _ (T3.setTop (mkF m 21 #[.val (.int x0), .val (.ref a1), .val (.long (x0.toInt64 - (48 : Int64))), .second, .unset] [(.int (10 : Int32)), (.long (x0.toInt64 - (48 : Int64)))]))
    refine OGW.of (A := T3.setTop (mkF m 23 #[.val (.int x0), .val (.ref a1), .val (.long (x0.toInt64 - (48 : Int64))), .second, .unset] [(.int (XT.cmpL (x0.toInt64 - (48 : Int64)) (10 : Int32).toInt64))])) (fun oT oK => ?_) ?_
    · show Steps p.tables e below (T3.setTop (mkF m 21 #[.val (.int x0), .val (.ref a1), .val (.long (x0.toInt64 - (48 : Int64))), .second, .unset] [(.int (10 : Int32)), (.long (x0.toInt64 - (48 : Int64)))])) oT
      refine XT.i2l X3.here hx rfl (hb hby dM_21) rfl ?_
      show Steps p.tables e below (T3.setTop (mkF m 22 #[.val (.int x0), .val (.ref a1), .val (.long (x0.toInt64 - (48 : Int64))), .second, .unset] [(.long (10 : Int32).toInt64), (.long (x0.toInt64 - (48 : Int64)))])) _
      refine XT.lcmp X3.here hx rfl (hb hby dM_22) rfl ?_
      exact oK
    show OGW _ _ _ _ _ _ _ _ _ (T3.setTop (mkF m 23 #[.val (.int x0), .val (.ref a1), .val (.long (x0.toInt64 - (48 : Int64))), .second, .unset] [(.int (XT.cmpL (x0.toInt64 - (48 : Int64)) (10 : Int32).toInt64))]))
    by_cases hc23_3 : (x0.toInt64 - (48 : Int64)) < (10 : Int32).toInt64
    · refine OGW.of (fun oT oK => XS.ifNo X3.here hx rfl (hb hby dM_23) rfl (XT.ll_ge_f hc23_3) oK) ?_
      show OGW _ _ _ _ _ _ _ _ _ (T3.setTop (mkF m 26 #[.val (.int x0), .val (.ref a1), .val (.long (x0.toInt64 - (48 : Int64))), .second, .unset] []))
      refine OGW.of (A := T3.setTop (mkF m 29 #[.val (.int x0), .val (.ref a1), .val (.long (x0.toInt64 - (48 : Int64))), .second, .unset] [(.int (x0.toInt64 - (48 : Int64)).toInt32), (.ref a1)])) (fun oT oK => ?_) ?_
      · show Steps p.tables e below (T3.setTop (mkF m 26 #[.val (.int x0), .val (.ref a1), .val (.long (x0.toInt64 - (48 : Int64))), .second, .unset] [])) oT
        refine XS.aloadN X3.here hx rfl (hb hby dM_26) rfl rfl  ?_
        show Steps p.tables e below (T3.setTop (mkF m 27 #[.val (.int x0), .val (.ref a1), .val (.long (x0.toInt64 - (48 : Int64))), .second, .unset] [(.ref a1)])) _
        refine XT.lloadN X3.here hx rfl (hb hby dM_27) rfl  ?_
        show Steps p.tables e below (T3.setTop (mkF m 28 #[.val (.int x0), .val (.ref a1), .val (.long (x0.toInt64 - (48 : Int64))), .second, .unset] [(.long (x0.toInt64 - (48 : Int64))), (.ref a1)])) _
        refine XT.l2i X3.here hx rfl (hb hby dM_28) rfl ?_
        exact oK
      show OGW _ _ _ _ _ _ _ _ _ (T3.setTop (mkF m 29 #[.val (.int x0), .val (.ref a1), .val (.long (x0.toInt64 - (48 : Int64))), .second, .unset] [(.int (x0.toInt64 - (48 : Int64)).toInt32), (.ref a1)]))
      have hi0 := own_r0 hc13_2 hc23_3
      have hin := own_r1 hc13_2 hc23_3
      obtain ⟨cq4, kq4, q4a, q4b, q4c⟩ := isOf hZ e3 (A1)
      obtain ⟨_, _, ⟨T4, L4, k4, n4⟩, -, X4, ⟨Lc4, hQ4, l4, y4, z4⟩, st4⟩ := X3.virtualBack hx (y := (⟨"java/lang/String", "charAt", "(I)C"⟩ : MethodName)) (z := (⟨"java/lang/String", "charAt", "(I)C"⟩ : MethodName)) hown (mvT hZ (hw _ (List.mem_of_getElem? (i := 31) rfl))) (mvT hZ (hw _ (List.mem_of_getElem? (i := 32) rfl))) (notFace_of_selects (args := #[]) (mvT hZ (hw _ (List.mem_of_getElem? (i := 34) rfl)))) (mvT hZ (hw _ (List.mem_of_getElem? (i := 34) rfl))) (mvT hZ (hw _ (List.mem_of_getElem? (i := 33) rfl))) (by decide) (backOf (W := 0) (rmH l Z a0 hw [] a1 (x0.toInt64 - (48 : Int64)).toInt32 zc b1 kc1 fm h1 n0 (Z1) f1 SC hzc FC1 A1 FV1 V1 SF hfm hi0 hin) hZ (hw _ (List.mem_of_getElem? (i := 35) rfl)) (hw _ (List.mem_of_getElem? (i := 6) rfl)) (by decide) (by decide)) q4a q4c (g := (mkF m 29 #[.val (.int x0), .val (.ref a1), .val (.long (x0.toInt64 - (48 : Int64))), .second, .unset] [(.int (x0.toInt64 - (48 : Int64)).toInt32), (.ref a1)])) rfl (by rw [hml]; rfl) (Steps.refl _) (argsL := [(.int (x0.toInt64 - (48 : Int64)).toInt32)]) (rest := []) (lenOf pd__I_C rfl) rfl (by show 2 * 0 + _ ≤ _; exact Nat.le_of_eq rfl) (hb hby dM_29) (fun _ _ => ⟨rfl, e3, (by decide : 2 + 0 ≤ _), (by decide : 44 + 0 ≤ _)⟩)
      dsimp only [Pt.U, Pt.locs, Pt.cells, Pt.slots] at X4 l4 y4 z4 st4 hQ4
      subst l4 y4 z4
      obtain ⟨hv4, N4q, e4⟩ := hQ4
      obtain rfl := hv4.trans (show _ = some (.int x0) from congrArg (fun z => some (Value.int z)) (own_back hc13_2 hc23_3))
      have N4 := Fr.app N3 N4q
      refine OGW.trans st4 ?_
      show OGW _ _ _ _ _ _ _ _ _ (T4.setTop (mkF m 32 #[.val (.int x0), .val (.ref a1), .val (.long (x0.toInt64 - (48 : Int64))), .second, .unset] [(.int x0)]))
      refine OGW.of (A := T4.setTop (mkF m 44 #[.val (.int x0), .val (.ref a1), .val (.long (x0.toInt64 - (48 : Int64))), .second, .val (.int (1 : Int32))] [(.int x0)])) (fun oT oK => ?_) ?_
      · show Steps p.tables e below (T4.setTop (mkF m 32 #[.val (.int x0), .val (.ref a1), .val (.long (x0.toInt64 - (48 : Int64))), .second, .unset] [(.int x0)])) oT
        refine XS.iloadN X4.here hx rfl (hb hby dM_32) rfl  ?_
        show Steps p.tables e below (T4.setTop (mkF m 33 #[.val (.int x0), .val (.ref a1), .val (.long (x0.toInt64 - (48 : Int64))), .second, .unset] [(.int x0), (.int x0)])) _
        refine XS.icmpNo X4.here hx rfl (hb hby dM_33) rfl (XT.ii_ne_f rfl) ?_
        show Steps p.tables e below (T4.setTop (mkF m 36 #[.val (.int x0), .val (.ref a1), .val (.long (x0.toInt64 - (48 : Int64))), .second, .unset] [])) _
        refine XS.iconst X4.here hx rfl (hb hby dM_36) ?_
        show Steps p.tables e below (T4.setTop (mkF m 37 #[.val (.int x0), .val (.ref a1), .val (.long (x0.toInt64 - (48 : Int64))), .second, .unset] [(.int (1 : Int32))])) _
        refine XS.goto X4.here hx rfl (pc0 := 37) (pc' := 41) rfl (hb hby dM_37) (by decide) (by decide) ?_
        show Steps p.tables e below (T4.setTop (mkF m 41 #[.val (.int x0), .val (.ref a1), .val (.long (x0.toInt64 - (48 : Int64))), .second, .unset] [(.int (1 : Int32))])) _
        refine XS.istore X4.here hx rfl (hb hby dM_41) rfl (l' := #[.val (.int x0), .val (.ref a1), .val (.long (x0.toInt64 - (48 : Int64))), .second, .val (.int (1 : Int32))]) rfl ?_
        show Steps p.tables e below (T4.setTop (mkF m 43 #[.val (.int x0), .val (.ref a1), .val (.long (x0.toInt64 - (48 : Int64))), .second, .val (.int (1 : Int32))] [])) _
        refine XS.iloadN X4.here hx rfl (hb hby dM_43) rfl  ?_
        exact oK
      show OGW _ _ _ _ _ _ _ _ _ (T4.setTop (mkF m 44 #[.val (.int x0), .val (.ref a1), .val (.long (x0.toInt64 - (48 : Int64))), .second, .val (.int (1 : Int32))] [(.int x0)]))
      obtain ⟨_, _, ⟨T5, L5, k5, n5⟩, -, X5, ⟨Lc5, hQ5, l5, y5, z5⟩, st5⟩ := Jvm.LawKit.callS X4 hx (y := (⟨"com/example/kind4/kind4/model/SqlToken", "isDigit", "(I)Z"⟩ : MethodName)) hown (mvT hZ (hw _ (List.mem_of_getElem? (i := 14) rfl))) (mvT hZ (hw _ (List.mem_of_getElem? (i := 15) rfl))) (mvT hZ (hw _ (List.mem_of_getElem? (i := 16) rfl))) (mvT hZ (hw _ (List.mem_of_getElem? (i := 17) rfl))) (by decide) (backOf (W := 0) (rmD l Z a0 hw [] x0  h1 n0 (Z1)) hZ (hw _ (List.mem_of_getElem? (i := 17) rfl)) (hw _ (List.mem_of_getElem? (i := 16) rfl)) (by decide) (by decide)) (g := (mkF m 44 #[.val (.int x0), .val (.ref a1), .val (.long (x0.toInt64 - (48 : Int64))), .second, .val (.int (1 : Int32))] [(.int x0)])) rfl (by rw [hml]; rfl) (argsL := [(.int x0)]) (rest := []) (lenOf pd__I_Z rfl) rfl (by show 2 * 0 + _ ≤ _; exact Nat.le_of_eq rfl) (hb hby dM_44) (fun _ _ => ⟨rfl, e4, (by decide : 2 + 0 ≤ _), (by decide : 44 + 0 ≤ _)⟩)
      dsimp only [Pt.U, Pt.locs, Pt.cells, Pt.slots] at X5 l5 y5 z5 st5 hQ5
      subst l5 y5 z5
      obtain ⟨hv5, N5q, e5⟩ := hQ5
      obtain rfl := hv5.trans (show _ = some (.int (1 : Int32)) from congrArg (fun z => some (Value.int z)) (own_d3 hc13_2 hc23_3))
      have N5 := Fr.app N4 N5q
      refine OGW.of st5 ?_
      show OGW _ _ _ _ _ _ _ _ _ (T5.setTop (mkF m 47 #[.val (.int x0), .val (.ref a1), .val (.long (x0.toInt64 - (48 : Int64))), .second, .val (.int (1 : Int32))] [(.int (1 : Int32))]))
      refine OGW.of (A := T5.setTop (mkF m 57 #[.val (.int x0), .val (.ref a1), .val (.long (x0.toInt64 - (48 : Int64))), .second, .val (.int (1 : Int32))] [(.int (1 : Int32))])) (fun oT oK => ?_) ?_
      · show Steps p.tables e below (T5.setTop (mkF m 47 #[.val (.int x0), .val (.ref a1), .val (.long (x0.toInt64 - (48 : Int64))), .second, .val (.int (1 : Int32))] [(.int (1 : Int32))])) oT
        refine XS.iload X5.here hx rfl (hb hby dM_47) rfl  ?_
        show Steps p.tables e below (T5.setTop (mkF m 49 #[.val (.int x0), .val (.ref a1), .val (.long (x0.toInt64 - (48 : Int64))), .second, .val (.int (1 : Int32))] [(.int (1 : Int32)), (.int (1 : Int32))])) _
        refine XS.icmpNo X5.here hx rfl (hb hby dM_49) rfl (XT.ii_ne_f rfl) ?_
        show Steps p.tables e below (T5.setTop (mkF m 52 #[.val (.int x0), .val (.ref a1), .val (.long (x0.toInt64 - (48 : Int64))), .second, .val (.int (1 : Int32))] [])) _
        refine XS.iconst X5.here hx rfl (hb hby dM_52) ?_
        show Steps p.tables e below (T5.setTop (mkF m 53 #[.val (.int x0), .val (.ref a1), .val (.long (x0.toInt64 - (48 : Int64))), .second, .val (.int (1 : Int32))] [(.int (1 : Int32))])) _
        refine XS.goto X5.here hx rfl (pc0 := 53) (pc' := 57) rfl (hb hby dM_53) (by decide) (by decide) ?_
        exact oK
      show OGW _ _ _ _ _ _ _ _ _ (T5.setTop (mkF m 57 #[.val (.int x0), .val (.ref a1), .val (.long (x0.toInt64 - (48 : Int64))), .second, .val (.int (1 : Int32))] [(.int (1 : Int32))]))
      refine OGW.retN X5 hx (t := .boolean) Bd.returns (by simp) (hb hby dM_57) hlk hS (by rw [e5]; exact hkS) (by rw [e5]; exact hCR.trans (CHv.at X5 hZ hEL hCR.1)) ?_ (by decide) (by decide)
      try rw [e5]
      exact ⟨rfl, N5, K1⟩
    · refine OGW.of (fun oT oK => XS.ifYes X3.here hx rfl (pc0 := 23) (pc' := 40) rfl (hb hby dM_23) rfl (XT.ll_ge_t hc23_3) (by decide) (by decide) oK) ?_
      show OGW _ _ _ _ _ _ _ _ _ (T3.setTop (mkF m 40 #[.val (.int x0), .val (.ref a1), .val (.long (x0.toInt64 - (48 : Int64))), .second, .unset] []))
      refine OGW.of (A := T3.setTop (mkF m 44 #[.val (.int x0), .val (.ref a1), .val (.long (x0.toInt64 - (48 : Int64))), .second, .val (.int (0 : Int32))] [(.int x0)])) (fun oT oK => ?_) ?_
      · show Steps p.tables e below (T3.setTop (mkF m 40 #[.val (.int x0), .val (.ref a1), .val (.long (x0.toInt64 - (48 : Int64))), .second, .unset] [])) oT
        refine XS.iconst X3.here hx rfl (hb hby dM_40) ?_
        show Steps p.tables e below (T3.setTop (mkF m 41 #[.val (.int x0), .val (.ref a1), .val (.long (x0.toInt64 - (48 : Int64))), .second, .unset] [(.int (0 : Int32))])) _
        refine XS.istore X3.here hx rfl (hb hby dM_41) rfl (l' := #[.val (.int x0), .val (.ref a1), .val (.long (x0.toInt64 - (48 : Int64))), .second, .val (.int (0 : Int32))]) rfl ?_
        show Steps p.tables e below (T3.setTop (mkF m 43 #[.val (.int x0), .val (.ref a1), .val (.long (x0.toInt64 - (48 : Int64))), .second, .val (.int (0 : Int32))] [])) _
        refine XS.iloadN X3.here hx rfl (hb hby dM_43) rfl  ?_
        exact oK
      show OGW _ _ _ _ _ _ _ _ _ (T3.setTop (mkF m 44 #[.val (.int x0), .val (.ref a1), .val (.long (x0.toInt64 - (48 : Int64))), .second, .val (.int (0 : Int32))] [(.int x0)]))
      obtain ⟨_, _, ⟨T6, L6, k6, n6⟩, -, X6, ⟨Lc6, hQ6, l6, y6, z6⟩, st6⟩ := Jvm.LawKit.callS X3 hx (y := (⟨"com/example/kind4/kind4/model/SqlToken", "isDigit", "(I)Z"⟩ : MethodName)) hown (mvT hZ (hw _ (List.mem_of_getElem? (i := 14) rfl))) (mvT hZ (hw _ (List.mem_of_getElem? (i := 15) rfl))) (mvT hZ (hw _ (List.mem_of_getElem? (i := 16) rfl))) (mvT hZ (hw _ (List.mem_of_getElem? (i := 17) rfl))) (by decide) (backOf (W := 0) (rmD l Z a0 hw [] x0  h1 n0 (Z1)) hZ (hw _ (List.mem_of_getElem? (i := 17) rfl)) (hw _ (List.mem_of_getElem? (i := 16) rfl)) (by decide) (by decide)) (g := (mkF m 44 #[.val (.int x0), .val (.ref a1), .val (.long (x0.toInt64 - (48 : Int64))), .second, .val (.int (0 : Int32))] [(.int x0)])) rfl (by rw [hml]; rfl) (argsL := [(.int x0)]) (rest := []) (lenOf pd__I_Z rfl) rfl (by show 2 * 0 + _ ≤ _; exact Nat.le_of_eq rfl) (hb hby dM_44) (fun _ _ => ⟨rfl, e3, (by decide : 2 + 0 ≤ _), (by decide : 44 + 0 ≤ _)⟩)
      dsimp only [Pt.U, Pt.locs, Pt.cells, Pt.slots] at X6 l6 y6 z6 st6 hQ6
      subst l6 y6 z6
      obtain ⟨hv6, N6q, e6⟩ := hQ6
      obtain rfl := hv6.trans (show _ = some (.int (0 : Int32)) from congrArg (fun z => some (Value.int z)) (own_d2 hc23_3))
      have N6 := Fr.app N3 N6q
      refine OGW.of st6 ?_
      show OGW _ _ _ _ _ _ _ _ _ (T6.setTop (mkF m 47 #[.val (.int x0), .val (.ref a1), .val (.long (x0.toInt64 - (48 : Int64))), .second, .val (.int (0 : Int32))] [(.int (0 : Int32))]))
      refine OGW.of (A := T6.setTop (mkF m 57 #[.val (.int x0), .val (.ref a1), .val (.long (x0.toInt64 - (48 : Int64))), .second, .val (.int (0 : Int32))] [(.int (1 : Int32))])) (fun oT oK => ?_) ?_
      · show Steps p.tables e below (T6.setTop (mkF m 47 #[.val (.int x0), .val (.ref a1), .val (.long (x0.toInt64 - (48 : Int64))), .second, .val (.int (0 : Int32))] [(.int (0 : Int32))])) oT
        refine XS.iload X6.here hx rfl (hb hby dM_47) rfl  ?_
        show Steps p.tables e below (T6.setTop (mkF m 49 #[.val (.int x0), .val (.ref a1), .val (.long (x0.toInt64 - (48 : Int64))), .second, .val (.int (0 : Int32))] [(.int (0 : Int32)), (.int (0 : Int32))])) _
        refine XS.icmpNo X6.here hx rfl (hb hby dM_49) rfl (XT.ii_ne_f rfl) ?_
        show Steps p.tables e below (T6.setTop (mkF m 52 #[.val (.int x0), .val (.ref a1), .val (.long (x0.toInt64 - (48 : Int64))), .second, .val (.int (0 : Int32))] [])) _
        refine XS.iconst X6.here hx rfl (hb hby dM_52) ?_
        show Steps p.tables e below (T6.setTop (mkF m 53 #[.val (.int x0), .val (.ref a1), .val (.long (x0.toInt64 - (48 : Int64))), .second, .val (.int (0 : Int32))] [(.int (1 : Int32))])) _
        refine XS.goto X6.here hx rfl (pc0 := 53) (pc' := 57) rfl (hb hby dM_53) (by decide) (by decide) ?_
        exact oK
      show OGW _ _ _ _ _ _ _ _ _ (T6.setTop (mkF m 57 #[.val (.int x0), .val (.ref a1), .val (.long (x0.toInt64 - (48 : Int64))), .second, .val (.int (0 : Int32))] [(.int (1 : Int32))]))
      refine OGW.retN X6 hx (t := .boolean) Bd.returns (by simp) (hb hby dM_57) hlk hS (by rw [e6]; exact hkS) (by rw [e6]; exact hCR.trans (CHv.at X6 hZ hEL hCR.1)) ?_ (by decide) (by decide)
      try rw [e6]
      exact ⟨rfl, N6, K1⟩
theorem pn_0 : plainName "com/example/kind4/kind4/model/SqlTokenIsDigitPinLaw" = true := by first | (simp [plainName, overriddenIn]; done) | decide +kernel
theorem ef_0 (m : MethodId) (x0 : Int32) (x1 : Int32) : entryFrame m #[(.int x0), (.int x1)] maxLocals = mkF m 0 #[.val (.int x0), .val (.int x1), .unset, .unset] [] := by first | (simp [entryFrame, mkF, argsToLocals, Value.category, maxLocals]; done) | rfl
def Q0 (Z : State) (p0 : Int32) (p1 : Int32) (zc : Int32) (fm : Value) (h0 : Heap) (n0 : Nat) (v : Option Value) (h : Heap) (L : List Loc) : Prop := v = some (.int 1) ∧ Fr n0 L
set_option maxRecDepth 65536 in
set_option maxHeartbeats 40000000 in
theorem rm0 (l : Launch) (Z : State) (a0 : Array Value) (hw : ∀ d ∈ tables_1, d.before a0 Z = true) (ws : List Jvm.Cond) (p0 : Int32) (p1 : Int32) (zc : Int32) (fm : Value) (h0 : Heap) (n0 : Nat) (Z0 : n0 ≤ h0.size) (hO : Old Z n0 h0) (SC : Sta Z Z.heap "java/lang/String" "COMPACT_STRINGS" "Z" (.int zc)) (hzc : ¬ zc = (0 : Int32)) (SF : Sta Z Z.heap "jdk/internal/util/Preconditions" "SIOOBE_FORMATTER" "Ljava/util/function/BiFunction;" fm) (hfm : fm.isRef = true) :
    MetFree l x (head1 (Jvm.Cond.code x code maxLocals ret :: ws) room_1) (fun aA oU => aA = #[(.int p0), (.int p1)] ∧ Z.Warmed39 oU.vm ∧ oU.heap = h0 ∧ CHv Z OEL oU.vm h0) (fun _ _ _ _ _ => True) (fun _ oU oO oU' => ∃ oV oL, oO = .returned oV ∧ Q0 Z p0 p1 zc fm h0 n0 oV oU'.heap oL ∧ CHr Z OEL oU.vm oU.heap oU'.vm oU'.heap ∧ ReturnedEndW oU oO oU' oL 8 1088) := by
  refine MetFree.of_bodySF (plainFor_of_name pn_0) hisR ?_
  intro p e s m args below meth c s₁ Bd hml0 hP hK
  obtain ⟨rfl, hZ, hh, hCV⟩ := hP
  have hx := Bd.exec
  have hby := Bd.bytes
  have hlk := BodyLoose.notSynchronized Bd
  have hml : c.maxLocals = 4 := hml0
  have hown : s.vm.findClass "com/example/kind4/kind4/model/SqlTokenIsDigitPinLaw" = some m.cls := findClass_of_methodNamed Bd.named
  have hnm := (name_of_methodNamed Bd.named Bd.method).1
  have X0 : Stand p l e room_1 s m #[(.int p0), (.int p1)] below meth c s₁ [] 0 0 := Stand.of_body Bd
  have e0 : s₁.heap = h0 := by rw [← hh, Bd.state]; rfl
  have N0 := Fr.nil n0
  have X0 : Stand p l e room_1 (s.setVm s.vm) m #[(.int p0), (.int p1)] below meth c s₁ [] 0 0 := X0
  have hS : s.Since s.vm s.heap.size := (State.WarmedH.refl s).since s.heap.size
  have hkS : s.heap.size ≤ h0.size := by rw [← hh]; exact Nat.le_refl _
  have hCR : CHr Z OEL s.vm s.heap s.vm h0 := by rw [hh]; exact CHr.refl hCV
  have hEL := own_EW hw
  show OGW Z OEL p e below s 8 1088 (Q0 Z p0 p1 zc fm h0 n0) _
  refine OGW.of (fun oT oK => castTop (ef_0 m p0 p1) oK) ?_
  show OGW _ _ p e below s _ _ _ (s₁.setTop (mkF m 0 #[.val (.int p0), .val (.int p1), .unset, .unset] []))
  refine OGW.of (A := s₁.setTop (mkF m 14 #[.val (.int p0), .val (.int p1), .val (.int ((p1 &&& (2147483647 : Int32)) % (12 : Int32))), .val (.int ((47 : Int32) + ((p1 &&& (2147483647 : Int32)) % (12 : Int32))))] [(.int p0)])) (fun oT oK => ?_) ?_
  · show Steps p.tables e below (s₁.setTop (mkF m 0 #[.val (.int p0), .val (.int p1), .unset, .unset] [])) oT
    refine XS.iloadN X0.here hx rfl (hb hby at_0) rfl  ?_
    show Steps p.tables e below (s₁.setTop (mkF m 1 #[.val (.int p0), .val (.int p1), .unset, .unset] [(.int p1)])) _
    refine X0.ldcInt hx hown (mvT hZ (hw _ (List.mem_of_getElem? (i := 0) rfl))) (g := (mkF m 1 #[.val (.int p0), .val (.int p1), .unset, .unset] [(.int p1)])) rfl (hb hby at_1) _ ?_
    show Steps p.tables e below (s₁.setTop (mkF m 3 #[.val (.int p0), .val (.int p1), .unset, .unset] [(.int (2147483647 : Int32)), (.int p1)])) _
    refine XS.iand X0.here hx rfl (hb hby at_3) rfl ?_
    show Steps p.tables e below (s₁.setTop (mkF m 4 #[.val (.int p0), .val (.int p1), .unset, .unset] [(.int (p1 &&& (2147483647 : Int32)))])) _
    refine XS.bipush X0.here hx rfl (hb hby at_4) ?_
    show Steps p.tables e below (s₁.setTop (mkF m 6 #[.val (.int p0), .val (.int p1), .unset, .unset] [(.int (12 : Int32)), (.int (p1 &&& (2147483647 : Int32)))])) _
    refine Jvm.RoadKit.iremM X0 hx rfl (hb hby at_6) rfl (by decide) ?_
    show Steps p.tables e below (s₁.setTop (mkF m 7 #[.val (.int p0), .val (.int p1), .unset, .unset] [(.int ((p1 &&& (2147483647 : Int32)) % (12 : Int32)))])) _
    refine XS.istoreN X0.here hx rfl (hb hby at_7) rfl (l' := #[.val (.int p0), .val (.int p1), .val (.int ((p1 &&& (2147483647 : Int32)) % (12 : Int32))), .unset]) rfl ?_
    show Steps p.tables e below (s₁.setTop (mkF m 8 #[.val (.int p0), .val (.int p1), .val (.int ((p1 &&& (2147483647 : Int32)) % (12 : Int32))), .unset] [])) _
    refine XS.bipush X0.here hx rfl (hb hby at_8) ?_
    show Steps p.tables e below (s₁.setTop (mkF m 10 #[.val (.int p0), .val (.int p1), .val (.int ((p1 &&& (2147483647 : Int32)) % (12 : Int32))), .unset] [(.int (47 : Int32))])) _
    refine XS.iloadN X0.here hx rfl (hb hby at_10) rfl  ?_
    show Steps p.tables e below (s₁.setTop (mkF m 11 #[.val (.int p0), .val (.int p1), .val (.int ((p1 &&& (2147483647 : Int32)) % (12 : Int32))), .unset] [(.int ((p1 &&& (2147483647 : Int32)) % (12 : Int32))), (.int (47 : Int32))])) _
    refine XS.iadd X0.here hx rfl (hb hby at_11) rfl ?_
    show Steps p.tables e below (s₁.setTop (mkF m 12 #[.val (.int p0), .val (.int p1), .val (.int ((p1 &&& (2147483647 : Int32)) % (12 : Int32))), .unset] [(.int ((47 : Int32) + ((p1 &&& (2147483647 : Int32)) % (12 : Int32))))])) _
    refine XS.istoreN X0.here hx rfl (hb hby at_12) rfl (l' := #[.val (.int p0), .val (.int p1), .val (.int ((p1 &&& (2147483647 : Int32)) % (12 : Int32))), .val (.int ((47 : Int32) + ((p1 &&& (2147483647 : Int32)) % (12 : Int32))))]) rfl ?_
    show Steps p.tables e below (s₁.setTop (mkF m 13 #[.val (.int p0), .val (.int p1), .val (.int ((p1 &&& (2147483647 : Int32)) % (12 : Int32))), .val (.int ((47 : Int32) + ((p1 &&& (2147483647 : Int32)) % (12 : Int32))))] [])) _
    refine XS.iloadN X0.here hx rfl (hb hby at_13) rfl  ?_
    exact oK
  show OGW _ _ _ _ _ _ _ _ _ (s₁.setTop (mkF m 14 #[.val (.int p0), .val (.int p1), .val (.int ((p1 &&& (2147483647 : Int32)) % (12 : Int32))), .val (.int ((47 : Int32) + ((p1 &&& (2147483647 : Int32)) % (12 : Int32))))] [(.int p0)]))
  obtain ⟨_, _, ⟨T1, L1, k1, n1⟩, -, X1, hS1, hg1, ⟨Lc1, hQ1, l1, y1, z1, hC1⟩, st1⟩ := callSS X0 hx (y := (⟨"com/example/kind4/kind4/model/SqlTokenIsDigitPinLaw", "matches", "(I)Z"⟩ : MethodName)) hown (mvT hZ (hw _ (List.mem_of_getElem? (i := 1) rfl))) (mvT hZ (hw _ (List.mem_of_getElem? (i := 2) rfl))) (mvT hZ (hw _ (List.mem_of_getElem? (i := 3) rfl))) (mvT hZ (hw _ (List.mem_of_getElem? (i := 4) rfl))) (by decide) (backOfSH (W := 0) (rmM l Z a0 hw [] p0 zc fm h0 n0 (Z0) hO SC hzc SF hfm) hZ (hw _ (List.mem_of_getElem? (i := 4) rfl)) (hw _ (List.mem_of_getElem? (i := 3) rfl)) (by decide) (by decide) hEL hCR.1) (g := (mkF m 14 #[.val (.int p0), .val (.int p1), .val (.int ((p1 &&& (2147483647 : Int32)) % (12 : Int32))), .val (.int ((47 : Int32) + ((p1 &&& (2147483647 : Int32)) % (12 : Int32))))] [(.int p0)])) rfl (by rw [hml]; rfl) (argsL := [(.int p0)]) (rest := []) (lenOf pd__I_Z rfl) rfl (by show 2 * 0 + _ ≤ _; exact Nat.le_of_eq rfl) (hb hby at_14) (fun _ _ => ⟨rfl, e0, (by decide : 0 + 2 ≤ _), (by decide : 0 + 44 ≤ _)⟩)
  dsimp only [Pt.U, Pt.locs, Pt.cells, Pt.slots] at X1 l1 y1 z1 st1 hQ1 hS1 hg1 hC1
  subst l1 y1 z1
  obtain ⟨X1, hS, hZ, hown⟩ := rebS hS (show _ ≤ s₁.heap.size by rw [e0]; exact hkS) X1 hS1 hg1 hZ hown
  have hCR := hCR.trans hC1
  have hkS : T1.heap.size ≤ T1.heap.size := Nat.le_refl _
  obtain ⟨rfl, N1q, Kc1⟩ := hQ1
  have N1 := Fr.app N0 N1q
  have O1 := (hO).keep Kc1 all0
  have Z1 : n0 ≤ T1.heap.size := Nat.le_trans Z0 Kc1.1
  refine OGW.trans st1 ?_
  show OGW _ _ _ _ _ _ _ _ _ (T1.setTop (mkF m 17 #[.val (.int p0), .val (.int p1), .val (.int ((p1 &&& (2147483647 : Int32)) % (12 : Int32))), .val (.int ((47 : Int32) + ((p1 &&& (2147483647 : Int32)) % (12 : Int32))))] [(.int (1 : Int32))]))
  refine OGW.of (A := T1.setTop (mkF m 21 #[.val (.int p0), .val (.int p1), .val (.int ((p1 &&& (2147483647 : Int32)) % (12 : Int32))), .val (.int ((47 : Int32) + ((p1 &&& (2147483647 : Int32)) % (12 : Int32))))] [(.int ((47 : Int32) + ((p1 &&& (2147483647 : Int32)) % (12 : Int32))))])) (fun oT oK => ?_) ?_
  · show Steps p.tables e below (T1.setTop (mkF m 17 #[.val (.int p0), .val (.int p1), .val (.int ((p1 &&& (2147483647 : Int32)) % (12 : Int32))), .val (.int ((47 : Int32) + ((p1 &&& (2147483647 : Int32)) % (12 : Int32))))] [(.int (1 : Int32))])) oT
    refine XS.ifNo X1.here hx rfl (hb hby at_17) rfl (XT.i0_eq_f (by decide)) ?_
    show Steps p.tables e below (T1.setTop (mkF m 20 #[.val (.int p0), .val (.int p1), .val (.int ((p1 &&& (2147483647 : Int32)) % (12 : Int32))), .val (.int ((47 : Int32) + ((p1 &&& (2147483647 : Int32)) % (12 : Int32))))] [])) _
    refine XS.iloadN X1.here hx rfl (hb hby at_20) rfl  ?_
    exact oK
  show OGW _ _ _ _ _ _ _ _ _ (T1.setTop (mkF m 21 #[.val (.int p0), .val (.int p1), .val (.int ((p1 &&& (2147483647 : Int32)) % (12 : Int32))), .val (.int ((47 : Int32) + ((p1 &&& (2147483647 : Int32)) % (12 : Int32))))] [(.int ((47 : Int32) + ((p1 &&& (2147483647 : Int32)) % (12 : Int32))))]))
  obtain ⟨_, _, ⟨T2, L2, k2, n2⟩, -, X2, hS2, hg2, ⟨Lc2, hQ2, l2, y2, z2, hC2⟩, st2⟩ := callSS X1 hx (y := (⟨"com/example/kind4/kind4/model/SqlTokenIsDigitPinLaw", "matches", "(I)Z"⟩ : MethodName)) hown (mvT hZ (hw _ (List.mem_of_getElem? (i := 1) rfl))) (mvT hZ (hw _ (List.mem_of_getElem? (i := 2) rfl))) (mvT hZ (hw _ (List.mem_of_getElem? (i := 3) rfl))) (mvT hZ (hw _ (List.mem_of_getElem? (i := 4) rfl))) (by decide) (backOfSH (W := 0) (rmM l Z a0 hw [] ((47 : Int32) + ((p1 &&& (2147483647 : Int32)) % (12 : Int32))) zc fm T1.heap n0 (Z1) O1 SC hzc SF hfm) hZ (hw _ (List.mem_of_getElem? (i := 4) rfl)) (hw _ (List.mem_of_getElem? (i := 3) rfl)) (by decide) (by decide) hEL hCR.1) (g := (mkF m 21 #[.val (.int p0), .val (.int p1), .val (.int ((p1 &&& (2147483647 : Int32)) % (12 : Int32))), .val (.int ((47 : Int32) + ((p1 &&& (2147483647 : Int32)) % (12 : Int32))))] [(.int ((47 : Int32) + ((p1 &&& (2147483647 : Int32)) % (12 : Int32))))])) rfl (by rw [hml]; rfl) (argsL := [(.int ((47 : Int32) + ((p1 &&& (2147483647 : Int32)) % (12 : Int32))))]) (rest := []) (lenOf pd__I_Z rfl) rfl (by show 2 * 0 + _ ≤ _; exact Nat.le_of_eq rfl) (hb hby at_21) (fun _ _ => ⟨rfl, rfl, (by decide : 2 + 2 ≤ _), (by decide : 44 + 44 ≤ _)⟩)
  dsimp only [Pt.U, Pt.locs, Pt.cells, Pt.slots] at X2 l2 y2 z2 st2 hQ2 hS2 hg2 hC2
  subst l2 y2 z2
  obtain ⟨X2, hS, hZ, hown⟩ := rebS hS (show _ ≤ T1.heap.size by exact hkS) X2 hS2 hg2 hZ hown
  have hCR := hCR.trans hC2
  have hkS : T2.heap.size ≤ T2.heap.size := Nat.le_refl _
  obtain ⟨rfl, N2q, Kc2⟩ := hQ2
  have N2 := Fr.app N1 N2q
  have O2 := (O1).keep Kc2 all0
  have Z2 : n0 ≤ T2.heap.size := Nat.le_trans Z1 Kc2.1
  refine OGW.trans st2 ?_
  show OGW _ _ _ _ _ _ _ _ _ (T2.setTop (mkF m 24 #[.val (.int p0), .val (.int p1), .val (.int ((p1 &&& (2147483647 : Int32)) % (12 : Int32))), .val (.int ((47 : Int32) + ((p1 &&& (2147483647 : Int32)) % (12 : Int32))))] [(.int (1 : Int32))]))
  refine OGW.of (A := T2.setTop (mkF m 31 #[.val (.int p0), .val (.int p1), .val (.int ((p1 &&& (2147483647 : Int32)) % (12 : Int32))), .val (.int ((47 : Int32) + ((p1 &&& (2147483647 : Int32)) % (12 : Int32))))] [(.int (p0 - (48 : Int32)))])) (fun oT oK => ?_) ?_
  · show Steps p.tables e below (T2.setTop (mkF m 24 #[.val (.int p0), .val (.int p1), .val (.int ((p1 &&& (2147483647 : Int32)) % (12 : Int32))), .val (.int ((47 : Int32) + ((p1 &&& (2147483647 : Int32)) % (12 : Int32))))] [(.int (1 : Int32))])) oT
    refine XS.ifNo X2.here hx rfl (hb hby at_24) rfl (XT.i0_eq_f (by decide)) ?_
    show Steps p.tables e below (T2.setTop (mkF m 27 #[.val (.int p0), .val (.int p1), .val (.int ((p1 &&& (2147483647 : Int32)) % (12 : Int32))), .val (.int ((47 : Int32) + ((p1 &&& (2147483647 : Int32)) % (12 : Int32))))] [])) _
    refine XS.iloadN X2.here hx rfl (hb hby at_27) rfl  ?_
    show Steps p.tables e below (T2.setTop (mkF m 28 #[.val (.int p0), .val (.int p1), .val (.int ((p1 &&& (2147483647 : Int32)) % (12 : Int32))), .val (.int ((47 : Int32) + ((p1 &&& (2147483647 : Int32)) % (12 : Int32))))] [(.int p0)])) _
    refine XS.bipush X2.here hx rfl (hb hby at_28) ?_
    show Steps p.tables e below (T2.setTop (mkF m 30 #[.val (.int p0), .val (.int p1), .val (.int ((p1 &&& (2147483647 : Int32)) % (12 : Int32))), .val (.int ((47 : Int32) + ((p1 &&& (2147483647 : Int32)) % (12 : Int32))))] [(.int (48 : Int32)), (.int p0)])) _
    refine XS.isub X2.here hx rfl (hb hby at_30) rfl ?_
    exact oK
  show OGW _ _ _ _ _ _ _ _ _ (T2.setTop (mkF m 31 #[.val (.int p0), .val (.int p1), .val (.int ((p1 &&& (2147483647 : Int32)) % (12 : Int32))), .val (.int ((47 : Int32) + ((p1 &&& (2147483647 : Int32)) % (12 : Int32))))] [(.int (p0 - (48 : Int32)))]))
  obtain ⟨_, _, ⟨T3, L3, k3, n3⟩, -, X3, hS3, hg3, ⟨Lc3, hQ3, l3, y3, z3, hC3⟩, st3⟩ := callSS X2 hx (y := (⟨"com/example/kind4/kind4/model/SqlTokenIsDigitPinLaw", "matches", "(I)Z"⟩ : MethodName)) hown (mvT hZ (hw _ (List.mem_of_getElem? (i := 1) rfl))) (mvT hZ (hw _ (List.mem_of_getElem? (i := 2) rfl))) (mvT hZ (hw _ (List.mem_of_getElem? (i := 3) rfl))) (mvT hZ (hw _ (List.mem_of_getElem? (i := 4) rfl))) (by decide) (backOfSH (W := 0) (rmM l Z a0 hw [] (p0 - (48 : Int32)) zc fm T2.heap n0 (Z2) O2 SC hzc SF hfm) hZ (hw _ (List.mem_of_getElem? (i := 4) rfl)) (hw _ (List.mem_of_getElem? (i := 3) rfl)) (by decide) (by decide) hEL hCR.1) (g := (mkF m 31 #[.val (.int p0), .val (.int p1), .val (.int ((p1 &&& (2147483647 : Int32)) % (12 : Int32))), .val (.int ((47 : Int32) + ((p1 &&& (2147483647 : Int32)) % (12 : Int32))))] [(.int (p0 - (48 : Int32)))])) rfl (by rw [hml]; rfl) (argsL := [(.int (p0 - (48 : Int32)))]) (rest := []) (lenOf pd__I_Z rfl) rfl (by show 2 * 0 + _ ≤ _; exact Nat.le_of_eq rfl) (hb hby at_31) (fun _ _ => ⟨rfl, rfl, (by decide : 4 + 2 ≤ _), (by decide : 88 + 44 ≤ _)⟩)
  dsimp only [Pt.U, Pt.locs, Pt.cells, Pt.slots] at X3 l3 y3 z3 st3 hQ3 hS3 hg3 hC3
  subst l3 y3 z3
  obtain ⟨X3, hS, hZ, hown⟩ := rebS hS (show _ ≤ T2.heap.size by exact hkS) X3 hS3 hg3 hZ hown
  have hCR := hCR.trans hC3
  have hkS : T3.heap.size ≤ T3.heap.size := Nat.le_refl _
  obtain ⟨rfl, N3q, Kc3⟩ := hQ3
  have N3 := Fr.app N2 N3q
  have O3 := (O2).keep Kc3 all0
  have Z3 : n0 ≤ T3.heap.size := Nat.le_trans Z2 Kc3.1
  refine OGW.trans st3 ?_
  show OGW _ _ _ _ _ _ _ _ _ (T3.setTop (mkF m 34 #[.val (.int p0), .val (.int p1), .val (.int ((p1 &&& (2147483647 : Int32)) % (12 : Int32))), .val (.int ((47 : Int32) + ((p1 &&& (2147483647 : Int32)) % (12 : Int32))))] [(.int (1 : Int32))]))
  refine OGW.of (A := T3.setTop (mkF m 42 #[.val (.int p0), .val (.int p1), .val (.int ((p1 &&& (2147483647 : Int32)) % (12 : Int32))), .val (.int ((47 : Int32) + ((p1 &&& (2147483647 : Int32)) % (12 : Int32))))] [(.int (1 : Int32))])) (fun oT oK => ?_) ?_
  · show Steps p.tables e below (T3.setTop (mkF m 34 #[.val (.int p0), .val (.int p1), .val (.int ((p1 &&& (2147483647 : Int32)) % (12 : Int32))), .val (.int ((47 : Int32) + ((p1 &&& (2147483647 : Int32)) % (12 : Int32))))] [(.int (1 : Int32))])) oT
    refine XS.ifNo X3.here hx rfl (hb hby at_34) rfl (XT.i0_eq_f (by decide)) ?_
    show Steps p.tables e below (T3.setTop (mkF m 37 #[.val (.int p0), .val (.int p1), .val (.int ((p1 &&& (2147483647 : Int32)) % (12 : Int32))), .val (.int ((47 : Int32) + ((p1 &&& (2147483647 : Int32)) % (12 : Int32))))] [])) _
    refine XS.iconst X3.here hx rfl (hb hby at_37) ?_
    show Steps p.tables e below (T3.setTop (mkF m 38 #[.val (.int p0), .val (.int p1), .val (.int ((p1 &&& (2147483647 : Int32)) % (12 : Int32))), .val (.int ((47 : Int32) + ((p1 &&& (2147483647 : Int32)) % (12 : Int32))))] [(.int (1 : Int32))])) _
    refine XS.goto X3.here hx rfl (pc0 := 38) (pc' := 42) rfl (hb hby at_38) (by decide) (by decide) ?_
    exact oK
  show OGW _ _ _ _ _ _ _ _ _ (T3.setTop (mkF m 42 #[.val (.int p0), .val (.int p1), .val (.int ((p1 &&& (2147483647 : Int32)) % (12 : Int32))), .val (.int ((47 : Int32) + ((p1 &&& (2147483647 : Int32)) % (12 : Int32))))] [(.int (1 : Int32))]))
  refine OGW.retN X3 hx (t := .boolean) Bd.returns (by simp) (hb hby at_42) hlk hS hkS (hCR.trans (CHv.at X3 hZ hEL hCR.1)) ?_ (by decide) (by decide)
  exact ⟨rfl, N3⟩
set_option maxRecDepth 65536 in
set_option maxHeartbeats 40000000 in
theorem comes_1 {Post : Tables → Env → Array Value → State → Outcome → State → Prop} (hpost : ∀ tb e args s v u, (limb_1_1.after args s (.returned v) u = true ∧ limb_1_2.after args s (.returned v) u = true ∧ True) → ReturnedEndW s (.returned v) u (Jvm.fieldLocs frame_1_writes args s ++ Jvm.arrayLocs frame_1_arrays args s ++ Jvm.staticLocs frame_1_statics s) 8 1088 → Post tb e args s (.returned v) u) :
    ArmFor flags0 classFile x code maxLocals ret World_1 tables_1 room_1 Calls_1 rest_1 Pre_1 Post := by
  intro l hfl _ _ p e ha hc hk s m args below hf hA hF happ hP
  obtain ⟨hcalls, hrest, hpre⟩ := hP
  obtain ⟨-, -, -, hnamed, -, -, -, hat⟩ := (Spec.applies_iff hf).mp happ
  obtain ⟨hg, hn⟩ := and_e (Cond.before_iff.mp (show (Jvm.Cond.and given_1 narrow_1).before args s = true from hpre))
  obtain ⟨g1, g2⟩ := and_e hg
  obtain ⟨g3, g4⟩ := and_e g2
  obtain ⟨w0, w1, rfl⟩ : ∃ w0 w1 : Value, args = #[w0, w1] := by
    have hs : args.size = 2 := by simpa [Cond.value, given_1] using g1
    obtain ⟨L⟩ := args
    match L, hs with
    | [w0, w1], _ => exact ⟨w0, w1, rfl⟩
  have hw := fun d (hd : d ∈ tables_1) => atoms_spec (ws := Jvm.Cond.code x code maxLocals ret :: tables_1) hat d (List.mem_cons_of_mem _ hd)
  have hfit : Fit s := fun {y c} hc i hi => by
    obtain ⟨ha, rfl⟩ := Array.getElem?_eq_some_iff.mp hc
    have q := List.all_eq_true.mp ((Array.all_eq_true_iff_forall_mem.mp hF) _ (Array.getElem_mem ha)) i (List.mem_range.mpr hi)
    simpa [Array.getElem?_eq_getElem hi] using q
  obtain ⟨hsets, hown0⟩ := atoms_of _ (rest_1_c_eq ▸ (show rest_1_c.before _ s = true from hrest))
  have hr0 := Cond.before_iff.mp hown0
  obtain ⟨i0, ei0⟩ := is_v g3
  obtain rfl : w0 = (.int i0) := Option.some.inj ei0
  obtain ⟨i1, ei1⟩ := is_v g4
  obtain rfl : w1 = (.int i1) := Option.some.inj ei1
  obtain ⟨zc, evc⟩ := is_v (Cond.before_iff.mp (hsets _ (List.mem_of_getElem? (i := 1) rfl)))
  have SC := Sta.start evc (Or.inl (hsets _ (List.mem_of_getElem? (i := 0) rfl)))
  have hzc : ¬ zc = (0 : Int32) := fun q => by
    have h9 := not_v (Cond.before_iff.mp (hsets _ (List.mem_of_getElem? (i := 2) rfl)))
    have h8 := eq_i (args := #[.int i0, .int i1]) (first := s) (o := none) (idx := []) (s := s) evc (Term.int_eval (0 : Int32)) (congrArg Value.int q)
    rw [h8] at h9; cases h9
  obtain ⟨fm, evf, hfm⟩ := isR_v (Cond.before_iff.mp (hsets _ (List.mem_of_getElem? (i := 8) rfl)))
  have SF := Sta.start evf (Or.inl (hsets _ (List.mem_of_getElem? (i := 7) rfl)))
  have hCV : CHv s OEL s.vm s.heap := CHv.start (own_EW hw) hcalls.1 (hsets _ (List.mem_of_getElem? (i := 2) rfl)) (hw _ (List.mem_of_getElem? (i := 8) rfl)) (hw _ (List.mem_of_getElem? (i := 7) rfl))
  obtain ⟨n, o, h1, h2, h3, _, L, rfl, ⟨rfl, N⟩, -, hq⟩ := rm0 l s _ hw tables_1 i0 i1 zc fm s.heap s.heap.size (Nat.le_refl _) (Old.start s) SC hzc SF hfm p e ha hc hk s m _ below hf ((Spec.applies_iff_loose hf).mp happ).1 ⟨rfl, State.Warmed39.refl s, rfl, hCV⟩ trivial
  refine ⟨n, _, h1, h2, h3, hpost _ _ _ _ _ _ ⟨Cond.after_iff.mpr rfl, Cond.after_iff.mpr (eq_i res_at (Term.int_eval (1)) rfl), trivial⟩ ⟨hq.1, hq.2.1, hq.2.2.1, (hq.2.2.2.sift fun y hy => Or.inr (N y hy)).mono (by decide) (by decide)⟩⟩
theorem main_1_1 : Claimed_1_1 := comes_1 fun _ _ _ _ _ _ h hF => ⟨h.1, hF⟩
theorem main_1_2 : Claimed_1_2 := comes_1 fun _ _ _ _ _ _ h hF => ⟨h.2.1, hF⟩
end Jvm.Pilot.@@N@@
namespace Jvm.Pilot.@@N@@
open Jvm Jvm.ClassFile Sem Op Lib Jvm.Free Jvm.Stand Jvm.Pilot.@@N@@.Jvm.D
/-! MADE BY PROGRAM (witnessworld.py) out of the Statement's table words and the real class files: 18 classes; the members and pool entries that the words name. The judged class is class 1, her method 2. -/
namespace start1
open Jvm.ClassFile
def u (s : String) : CpInfo := .utf8 (stringToUtf16 s)
/-- a pool by its gaps: so many unusable entries, then the entry; so many at the end -/
def gap : Nat → List CpInfo → List CpInfo
  | 0, r => r
  | n + 1, r => .unusable :: gap n r
def poolList (es : List (Nat × CpInfo)) (last : Nat) : List CpInfo := es.foldr (fun e r => gap e.1 (e.2 :: r)) (gap last [])
def pool (es : List (Nat × CpInfo)) (last : Nat) : Array CpInfo := ⟨poolList es last⟩
def fileOf (pool : Array CpInfo) (this : Nat) (attrs : Array Attribute := #[]) (ms : Array MethodInfo := #[]) (fl : Nat := 33) (sup : Nat := 0) (ifs : Array Nat := #[]) (fds : Array FieldInfo := #[]) : ClassFile where
  minorVersion := 0
  majorVersion := 65
  constantPool := pool
  accessFlags := fl
  thisClass := this
  superClass := sup
  interfaces := ifs
  fields := fds
  methods := ms
  attributes := attrs
def plain (name : String) (sup : Option ClassId) : Class where
  name := name
  kind := .ordinary
  loader := none
  accessFlags := 33
  super := sup
  interfaces := #[]
  cf := none
  fields := #[]
  methods := #[]
  instanceTypes := #[]
  staticTypes := #[]
  resolved := #[]
  callSites := []
  init := .initialized
  statics := none
  mirror := none

def pool0 : Array CpInfo := pool [(5, u "<init>"), (0, u "()V"), (1, .class_ 10), (1, u "java/lang/Object")] 113

def k0m0 : Method := { name := "<init>", desc := "()V", sig := { parameters := [], returnType := none }, accessFlags := 1, code := none }
/-- java/lang/Object -/
def k0 : Class := { plain "java/lang/Object" none with
  accessFlags := 33
  interfaces := #[]
  cf := some (fileOf pool0 8 #[] #[{ accessFlags := 1, nameIndex := 5, descriptorIndex := 6, attributes := #[] }] 33 0 #[] #[])
  fields := #[]
  methods := #[k0m0]
  instanceTypes := #[]
  staticTypes := #[]
  resolved := Array.replicate 124 none
  statics := none }

def pool1 : Array CpInfo := pool [(2, .class_ 4), (1, u "java/lang/Object"), (0, u "<init>"), (0, u "()V"), (0, .string 8), (0, u "0123456789"), (0, .long 48), (1, .methodref 12 13), (0, .class_ 14), (0, .nameAndType 15 16), (0, u "java/lang/String"), (0, u "length"), (0, u "()I"), (0, .methodref 12 18), (0, .nameAndType 19 20), (0, u "charAt"), (0, u "(I)C"), (0, .methodref 22 23), (0, .class_ 24), (0, .nameAndType 25 26), (0, u "com/example/kind4/kind4/model/SqlToken"), (0, u "isDigit"), (0, u "(I)Z"), (0, .integer 2147483647), (0, .methodref 29 30), (0, .class_ 31), (0, .nameAndType 32 26), (0, u "com/example/kind4/kind4/model/SqlTokenIsDigitPinLaw"), (0, u "matches"), (3, u "law"), (0, u "(II)Z")] 2

def k1m0 : Method := { name := "<init>", desc := "()V", sig := { parameters := [], returnType := none }, accessFlags := 2, code := none }
def k1c1 : Code := { maxStack := 4, maxLocals := 5, code := method_2_code, exceptionTable := #[], attributes := #[] }
def k1m1 : Method := { name := "matches", desc := "(I)Z", sig := { parameters := [.int], returnType := some .boolean }, accessFlags := 10, code := some k1c1 }
def k1c2 : Code := { maxStack := 2, maxLocals := 4, code := code, exceptionTable := #[], attributes := #[] }
def k1m2 : Method := { name := "law", desc := "(II)Z", sig := { parameters := [.int, .int], returnType := some .boolean }, accessFlags := 9, code := some k1c2 }
/-- com/example/kind4/kind4/model/SqlTokenIsDigitPinLaw -/
def k1 : Class := { plain "com/example/kind4/kind4/model/SqlTokenIsDigitPinLaw" (some 0) with
  accessFlags := 49
  interfaces := #[]
  cf := some (fileOf pool1 29 #[] #[{ accessFlags := 2, nameIndex := 5, descriptorIndex := 6, attributes := #[] }, { accessFlags := 10, nameIndex := 32, descriptorIndex := 26, attributes := #[] }, { accessFlags := 9, nameIndex := 36, descriptorIndex := 37, attributes := #[] }] 49 2 #[] #[])
  fields := #[]
  methods := #[k1m0, k1m1, k1m2]
  instanceTypes := #[]
  staticTypes := #[]
  resolved := Array.replicate 40 none
  statics := none }

def pool2 : Array CpInfo := pool [(1, .class_ 2), (0, u "java/io/Serializable"), (0, .class_ 4), (0, u "java/lang/Object")] 2

/-- java/io/Serializable -/
def k2 : Class := { plain "java/io/Serializable" (some 0) with
  accessFlags := 1537
  interfaces := #[]
  cf := some (fileOf pool2 1 #[] #[] 1537 3 #[] #[])
  fields := #[]
  methods := #[]
  instanceTypes := #[]
  staticTypes := #[]
  resolved := Array.replicate 7 none
  statics := none }

def pool3 : Array CpInfo := pool [(1, .class_ 2), (0, u "java/lang/Comparable"), (0, .class_ 4), (0, u "java/lang/Object")] 7

/-- java/lang/Comparable -/
def k3 : Class := { plain "java/lang/Comparable" (some 0) with
  accessFlags := 1537
  interfaces := #[]
  cf := some (fileOf pool3 1 #[] #[] 1537 3 #[] #[])
  fields := #[]
  methods := #[]
  instanceTypes := #[]
  staticTypes := #[]
  resolved := Array.replicate 12 none
  statics := none }

def pool4 : Array CpInfo := pool [(2, .class_ 4), (1, u "java/lang/CharSequence"), (42, .class_ 48), (0, u "java/lang/CharSequence$1CodePointIterator"), (10, .class_ 60), (0, u "java/lang/CharSequence$1CharIterator"), (5, .class_ 67), (0, u "java/lang/Object")] 63

/-- java/lang/CharSequence -/
def k4 : Class := { plain "java/lang/CharSequence" (some 0) with
  accessFlags := 1537
  interfaces := #[]
  cf := some (fileOf pool4 2 #[.nestMembers #[47, 59]] #[] 1537 66 #[] #[])
  fields := #[]
  methods := #[]
  instanceTypes := #[]
  staticTypes := #[]
  resolved := Array.replicate 131 none
  statics := none }

def pool5 : Array CpInfo := pool [(1, .class_ 2), (0, u "java/lang/constant/Constable"), (0, .class_ 4), (0, u "java/lang/Object")] 6

/-- java/lang/constant/Constable -/
def k5 : Class := { plain "java/lang/constant/Constable" (some 0) with
  accessFlags := 1537
  interfaces := #[]
  cf := some (fileOf pool5 1 #[] #[] 1537 3 #[] #[])
  fields := #[]
  methods := #[]
  instanceTypes := #[]
  staticTypes := #[]
  resolved := Array.replicate 11 none
  statics := none }

def pool6 : Array CpInfo := pool [(1, .class_ 2), (0, u "java/lang/constant/ConstantDesc"), (0, .class_ 4), (0, u "java/lang/Object")] 32

/-- java/lang/constant/ConstantDesc -/
def k6 : Class := { plain "java/lang/constant/ConstantDesc" (some 0) with
  accessFlags := 1537
  interfaces := #[]
  cf := some (fileOf pool6 1 #[] #[] 1537 3 #[] #[])
  fields := #[]
  methods := #[]
  instanceTypes := #[]
  staticTypes := #[]
  resolved := Array.replicate 37 none
  statics := none }

def pool7 : Array CpInfo := pool [(2, .class_ 4), (1, u "java/lang/Object"), (0, u "<init>"), (0, u "()V"), (2, .fieldref 10 11), (0, .class_ 12), (0, .nameAndType 13 14), (0, u "java/lang/String"), (0, u "value"), (0, u "[B"), (0, .fieldref 10 16), (0, .nameAndType 17 18), (0, u "coder"), (0, u "B"), (2, u "hash"), (0, u "I"), (2, u "hashIsZero"), (0, u "Z"), (11, .fieldref 10 39), (0, .nameAndType 40 26), (0, u "COMPACT_STRINGS"), (66, .class_ 109), (1, u "java/lang/StringLatin1"), (32, u "()Z"), (191, u "()I"), (0, .methodref 10 336), (0, .nameAndType 17 337), (0, u "()B"), (25, u "([BI)C"), (27, u "(II)V"), (35, u "(I)C"), (64, .methodref 10 493), (0, .nameAndType 494 142), (0, u "isLatin1"), (0, .methodref 107 496), (0, .nameAndType 497 363), (0, u "charAt"), (3, u "checkIndex"), (5, u "length"), (67, .class_ 576), (0, u "java/lang/CharSequence"), (22, u "CASE_INSENSITIVE_ORDER"), (0, u "Ljava/util/Comparator;"), (452, .fieldref 1054 1055), (0, .class_ 1056), (0, .nameAndType 1057 1058), (0, u "jdk/internal/util/Preconditions"), (0, u "SIOOBE_FORMATTER"), (0, u "Ljava/util/function/BiFunction;"), (0, .methodref 1054 1060), (0, .nameAndType 501 1061), (0, u "(IILjava/util/function/BiFunction;)I"), (39, u "serialPersistentFields"), (0, u "[Ljava/io/ObjectStreamField;"), (0, .class_ 1104), (0, u "java/lang/String$CaseInsensitiveComparator"), (1, .class_ 1107), (0, u "java/io/Serializable"), (0, .class_ 1109), (0, u "java/lang/Comparable"), (0, .class_ 1111), (0, u "java/lang/constant/Constable"), (0, .class_ 1113), (0, u "java/lang/constant/ConstantDesc"), (2, u "serialVersionUID"), (0, u "J"), (3, u "REPL"), (0, u "C"), (2, u "LATIN1"), (1, u "UTF16")] 323

def k7m0 : Method := { name := "<init>", desc := "()V", sig := { parameters := [], returnType := none }, accessFlags := 1, code := none }
def k7c1 : Code := { maxStack := 2, maxLocals := 1, code := jdk_42_method_54_code, exceptionTable := #[], attributes := #[] }
def k7m1 : Method := { name := "length", desc := "()I", sig := { parameters := [], returnType := some .int }, accessFlags := 1, code := some k7c1 }
def k7c2 : Code := { maxStack := 2, maxLocals := 2, code := jdk_42_method_56_code, exceptionTable := #[], attributes := #[] }
def k7m2 : Method := { name := "charAt", desc := "(I)C", sig := { parameters := [.int], returnType := some .char }, accessFlags := 1, code := some k7c2 }
def k7c3 : Code := { maxStack := 1, maxLocals := 1, code := jdk_42_method_152_code, exceptionTable := #[], attributes := #[] }
def k7m3 : Method := { name := "coder", desc := "()B", sig := { parameters := [], returnType := some .byte }, accessFlags := 0, code := some k7c3 }
def k7c4 : Code := { maxStack := 1, maxLocals := 1, code := jdk_42_method_154_code, exceptionTable := #[], attributes := #[] }
def k7m4 : Method := { name := "isLatin1", desc := "()Z", sig := { parameters := [], returnType := some .boolean }, accessFlags := 0, code := some k7c4 }
def k7c5 : Code := { maxStack := 3, maxLocals := 2, code := jdk_42_method_155_code, exceptionTable := #[], attributes := #[] }
def k7m5 : Method := { name := "checkIndex", desc := "(II)V", sig := { parameters := [.int, .int], returnType := none }, accessFlags := 8, code := some k7c5 }
/-- java/lang/String -/
def k7 : Class := { plain "java/lang/String" (some 0) with
  accessFlags := 49
  interfaces := #[2, 3, 4, 5, 6]
  cf := some (fileOf pool7 10 #[.nestMembers #[1103]] #[{ accessFlags := 1, nameIndex := 5, descriptorIndex := 6, attributes := #[] }, { accessFlags := 1, nameIndex := 507, descriptorIndex := 334, attributes := #[] }, { accessFlags := 1, nameIndex := 497, descriptorIndex := 427, attributes := #[] }, { accessFlags := 0, nameIndex := 17, descriptorIndex := 337, attributes := #[] }, { accessFlags := 0, nameIndex := 494, descriptorIndex := 142, attributes := #[] }, { accessFlags := 8, nameIndex := 501, descriptorIndex := 391, attributes := #[] }] 49 2 #[1106, 1108, 575, 1110, 1112] #[{ accessFlags := 18, nameIndex := 13, descriptorIndex := 14, attributes := #[] }, { accessFlags := 18, nameIndex := 17, descriptorIndex := 18, attributes := #[] }, { accessFlags := 2, nameIndex := 21, descriptorIndex := 22, attributes := #[] }, { accessFlags := 2, nameIndex := 25, descriptorIndex := 26, attributes := #[] }, { accessFlags := 26, nameIndex := 1116, descriptorIndex := 1117, attributes := #[] }, { accessFlags := 24, nameIndex := 40, descriptorIndex := 26, attributes := #[] }, { accessFlags := 26, nameIndex := 1101, descriptorIndex := 1102, attributes := #[] }, { accessFlags := 26, nameIndex := 1121, descriptorIndex := 1122, attributes := #[] }, { accessFlags := 25, nameIndex := 599, descriptorIndex := 600, attributes := #[] }, { accessFlags := 24, nameIndex := 1125, descriptorIndex := 18, attributes := #[] }, { accessFlags := 24, nameIndex := 1127, descriptorIndex := 18, attributes := #[] }])
  fields := #[{ name := "value", type := (.array .byte), accessFlags := 18, slot := 0, constantValue := 0 }, { name := "coder", type := .byte, accessFlags := 18, slot := 1, constantValue := 0 }, { name := "hash", type := .int, accessFlags := 2, slot := 2, constantValue := 0 }, { name := "hashIsZero", type := .boolean, accessFlags := 2, slot := 3, constantValue := 0 }, { name := "serialVersionUID", type := .long, accessFlags := 26, slot := 0, constantValue := 0 }, { name := "COMPACT_STRINGS", type := .boolean, accessFlags := 24, slot := 1, constantValue := 0 }, { name := "serialPersistentFields", type := (.array (.object "java/io/ObjectStreamField")), accessFlags := 26, slot := 2, constantValue := 0 }, { name := "REPL", type := .char, accessFlags := 26, slot := 3, constantValue := 0 }, { name := "CASE_INSENSITIVE_ORDER", type := (.object "java/util/Comparator"), accessFlags := 25, slot := 4, constantValue := 0 }, { name := "LATIN1", type := .byte, accessFlags := 24, slot := 5, constantValue := 0 }, { name := "UTF16", type := .byte, accessFlags := 24, slot := 6, constantValue := 0 }]
  methods := #[k7m0, k7m1, k7m2, k7m3, k7m4, k7m5]
  instanceTypes := #[(.array .byte), .byte, .int, .boolean]
  staticTypes := #[.long, .boolean, (.array (.object "java/io/ObjectStreamField")), .char, (.object "java/util/Comparator"), .byte, .byte]
  resolved := Array.replicate 1451 none
  statics := some 0 }

def pool8 : Array CpInfo := pool [(2, .class_ 4), (1, u "java/lang/Object"), (0, u "<init>"), (0, u "()V"), (0, .class_ 8), (0, u "java/lang/Record")] 13

def k8m0 : Method := { name := "<init>", desc := "()V", sig := { parameters := [], returnType := none }, accessFlags := 4, code := none }
/-- java/lang/Record -/
def k8 : Class := { plain "java/lang/Record" (some 0) with
  accessFlags := 1057
  interfaces := #[]
  cf := some (fileOf pool8 7 #[] #[{ accessFlags := 4, nameIndex := 5, descriptorIndex := 6, attributes := #[] }] 1057 2 #[] #[])
  fields := #[]
  methods := #[k8m0]
  instanceTypes := #[]
  staticTypes := #[]
  resolved := Array.replicate 22 none
  statics := none }

def pool9 : Array CpInfo := pool [(2, .class_ 4), (1, u "java/lang/Record"), (3, .class_ 10), (1, u "com/example/kind4/kind4/model/SqlToken"), (0, u "kind"), (0, u "Lcom/example/kind4/kind4/model/SqlToken$Kind;"), (2, u "start"), (0, u "I"), (2, u "end"), (23, .class_ 45), (1, u "com/example/kind4/kind4/model/SqlToken$Rules"), (19, u "(I)Z"), (1, .class_ 69), (1, u "com/example/kind4/kind4/model/SqlToken$Kind"), (10, u "isDigit")] 68

def k9c0 : Code := { maxStack := 2, maxLocals := 1, code := prog_74_method_4_code, exceptionTable := #[], attributes := #[] }
def k9m0 : Method := { name := "isDigit", desc := "(I)Z", sig := { parameters := [.int], returnType := some .boolean }, accessFlags := 9, code := some k9c0 }
/-- com/example/kind4/kind4/model/SqlToken -/
def k9 : Class := { plain "com/example/kind4/kind4/model/SqlToken" (some 8) with
  accessFlags := 49
  interfaces := #[]
  cf := some (fileOf pool9 8 #[.nestMembers #[43, 67]] #[{ accessFlags := 9, nameIndex := 80, descriptorIndex := 65, attributes := #[] }] 49 2 #[] #[{ accessFlags := 18, nameIndex := 11, descriptorIndex := 12, attributes := #[] }, { accessFlags := 18, nameIndex := 15, descriptorIndex := 16, attributes := #[] }, { accessFlags := 18, nameIndex := 19, descriptorIndex := 16, attributes := #[] }])
  fields := #[{ name := "kind", type := (.object "com/example/kind4/kind4/model/SqlToken$Kind"), accessFlags := 18, slot := 0, constantValue := 0 }, { name := "start", type := .int, accessFlags := 18, slot := 1, constantValue := 0 }, { name := "end", type := .int, accessFlags := 18, slot := 2, constantValue := 0 }]
  methods := #[k9m0]
  instanceTypes := #[(.object "com/example/kind4/kind4/model/SqlToken$Kind"), .int, .int]
  staticTypes := #[]
  resolved := Array.replicate 149 none
  statics := none }

def pool10 : Array CpInfo := pool [(1, .class_ 2), (0, u "java/lang/String"), (1, .class_ 6), (1, u "java/lang/Object"), (0, u "<init>"), (0, u "()V"), (0, .methodref 1 10), (0, .nameAndType 11 12), (0, u "checkIndex"), (0, u "(II)V"), (1, .class_ 16), (1, u "java/lang/StringLatin1"), (36, u "([BI)C"), (67, u "$assertionsDisabled"), (0, u "Z"), (98, .class_ 223), (1, u "java/lang/StringLatin1$LinesSpliterator"), (28, u "charAt"), (137, .class_ 391), (0, u "java/lang/StringLatin1$CharsSpliterator")] 3

def k10m0 : Method := { name := "<init>", desc := "()V", sig := { parameters := [], returnType := none }, accessFlags := 0, code := none }
def k10c1 : Code := { maxStack := 2, maxLocals := 2, code := jdk_43_method_2_code, exceptionTable := #[], attributes := #[] }
def k10m1 : Method := { name := "charAt", desc := "([BI)C", sig := { parameters := [(.array .byte), .int], returnType := some .char }, accessFlags := 9, code := some k10c1 }
/-- java/lang/StringLatin1 -/
def k10 : Class := { plain "java/lang/StringLatin1" (some 0) with
  accessFlags := 48
  interfaces := #[]
  cf := some (fileOf pool10 14 #[.nestMembers #[390, 221]] #[{ accessFlags := 0, nameIndex := 7, descriptorIndex := 8, attributes := #[] }, { accessFlags := 9, nameIndex := 252, descriptorIndex := 53, attributes := #[] }] 48 4 #[] #[{ accessFlags := 4120, nameIndex := 121, descriptorIndex := 122, attributes := #[] }])
  fields := #[{ name := "$assertionsDisabled", type := .boolean, accessFlags := 4120, slot := 0, constantValue := 0 }]
  methods := #[k10m0, k10m1]
  instanceTypes := #[]
  staticTypes := #[.boolean]
  resolved := Array.replicate 395 none
  statics := none }

def pool11 : Array CpInfo := pool [(2, .class_ 4), (1, u "java/lang/Object"), (0, u "<init>"), (0, u "()V"), (17, .class_ 26), (1, u "jdk/internal/util/Preconditions"), (6, u "checkIndex"), (21, .class_ 56), (0, u "jdk/internal/util/Preconditions$4"), (57, .class_ 115), (0, u "jdk/internal/util/Preconditions$1"), (7, u "SIOOBE_FORMATTER"), (0, u "Ljava/util/function/BiFunction;"), (0, .class_ 126), (0, u "jdk/internal/util/Preconditions$2"), (3, u "AIOOBE_FORMATTER"), (0, .class_ 132), (0, u "jdk/internal/util/Preconditions$3"), (3, u "IOOBE_FORMATTER"), (41, u "(IILjava/util/function/BiFunction;)I")] 15

def k11m0 : Method := { name := "<init>", desc := "()V", sig := { parameters := [], returnType := none }, accessFlags := 1, code := none }
def k11c1 : Code := { maxStack := 3, maxLocals := 3, code := jdk_41_method_11_code, exceptionTable := #[], attributes := #[] }
def k11m1 : Method := { name := "checkIndex", desc := "(IILjava/util/function/BiFunction;)I", sig := { parameters := [.int, .int, (.object "java/util/function/BiFunction")], returnType := some .int }, accessFlags := 9, code := some k11c1 }
/-- jdk/internal/util/Preconditions -/
def k11 : Class := { plain "jdk/internal/util/Preconditions" (some 0) with
  accessFlags := 33
  interfaces := #[]
  cf := some (fileOf pool11 24 #[.nestMembers #[55, 131, 125, 114]] #[{ accessFlags := 1, nameIndex := 5, descriptorIndex := 6, attributes := #[] }, { accessFlags := 9, nameIndex := 33, descriptorIndex := 178, attributes := #[] }] 33 2 #[] #[{ accessFlags := 25, nameIndex := 123, descriptorIndex := 124, attributes := #[] }, { accessFlags := 25, nameIndex := 130, descriptorIndex := 124, attributes := #[] }, { accessFlags := 25, nameIndex := 136, descriptorIndex := 124, attributes := #[] }])
  fields := #[{ name := "SIOOBE_FORMATTER", type := (.object "java/util/function/BiFunction"), accessFlags := 25, slot := 0, constantValue := 0 }, { name := "AIOOBE_FORMATTER", type := (.object "java/util/function/BiFunction"), accessFlags := 25, slot := 1, constantValue := 0 }, { name := "IOOBE_FORMATTER", type := (.object "java/util/function/BiFunction"), accessFlags := 25, slot := 2, constantValue := 0 }]
  methods := #[k11m0, k11m1]
  instanceTypes := #[]
  staticTypes := #[(.object "java/util/function/BiFunction"), (.object "java/util/function/BiFunction"), (.object "java/util/function/BiFunction")]
  resolved := Array.replicate 194 none
  statics := some 1 }

def pool12 : Array CpInfo := pool [(9, u "<init>"), (6, .class_ 18), (1, u "java/lang/Object"), (0, u "()V"), (1, .class_ 23), (1, u "jdk/internal/util/ArraysSupport"), (0, u "LOG2_ARRAY_LONG_INDEX_SCALE"), (0, u "I"), (2, u "U"), (0, u "Ljdk/internal/misc/Unsafe;"), (8, u "BIG_ENDIAN"), (0, u "Z"), (8, u "LOG2_BYTE_BIT_SIZE"), (4, u "LOG2_ARRAY_INT_INDEX_SCALE"), (54, u "JLA"), (0, u "Ljdk/internal/access/JavaLangAccess;"), (11, u "LOG2_ARRAY_BOOLEAN_INDEX_SCALE"), (9, u "LOG2_ARRAY_BYTE_INDEX_SCALE"), (5, u "LOG2_ARRAY_CHAR_INDEX_SCALE"), (5, u "LOG2_ARRAY_SHORT_INDEX_SCALE"), (18, u "LOG2_ARRAY_FLOAT_INDEX_SCALE"), (24, u "LOG2_ARRAY_DOUBLE_INDEX_SCALE"), (89, u "T_BOOLEAN"), (2, u "T_CHAR"), (1, u "T_FLOAT"), (1, u "T_DOUBLE"), (1, u "T_BYTE"), (1, u "T_SHORT"), (1, u "T_INT"), (1, u "T_LONG"), (1, u "SOFT_MAX_ARRAY_LENGTH")] 83

def k12m0 : Method := { name := "<init>", desc := "()V", sig := { parameters := [], returnType := none }, accessFlags := 2, code := none }
/-- jdk/internal/util/ArraysSupport -/
def k12 : Class := { plain "jdk/internal/util/ArraysSupport" (some 0) with
  accessFlags := 33
  interfaces := #[]
  cf := some (fileOf pool12 21 #[] #[{ accessFlags := 2, nameIndex := 9, descriptorIndex := 19, attributes := #[] }] 33 16 #[] #[{ accessFlags := 24, nameIndex := 28, descriptorIndex := 29, attributes := #[] }, { accessFlags := 26, nameIndex := 38, descriptorIndex := 39, attributes := #[] }, { accessFlags := 25, nameIndex := 121, descriptorIndex := 25, attributes := #[] }, { accessFlags := 25, nameIndex := 131, descriptorIndex := 25, attributes := #[] }, { accessFlags := 25, nameIndex := 137, descriptorIndex := 25, attributes := #[] }, { accessFlags := 25, nameIndex := 143, descriptorIndex := 25, attributes := #[] }, { accessFlags := 25, nameIndex := 53, descriptorIndex := 25, attributes := #[] }, { accessFlags := 25, nameIndex := 24, descriptorIndex := 25, attributes := #[] }, { accessFlags := 25, nameIndex := 162, descriptorIndex := 25, attributes := #[] }, { accessFlags := 25, nameIndex := 187, descriptorIndex := 25, attributes := #[] }, { accessFlags := 26, nameIndex := 48, descriptorIndex := 25, attributes := #[] }, { accessFlags := 25, nameIndex := 277, descriptorIndex := 25, attributes := #[] }, { accessFlags := 25, nameIndex := 280, descriptorIndex := 25, attributes := #[] }, { accessFlags := 25, nameIndex := 282, descriptorIndex := 25, attributes := #[] }, { accessFlags := 25, nameIndex := 284, descriptorIndex := 25, attributes := #[] }, { accessFlags := 25, nameIndex := 286, descriptorIndex := 25, attributes := #[] }, { accessFlags := 25, nameIndex := 288, descriptorIndex := 25, attributes := #[] }, { accessFlags := 25, nameIndex := 290, descriptorIndex := 25, attributes := #[] }, { accessFlags := 25, nameIndex := 292, descriptorIndex := 25, attributes := #[] }, { accessFlags := 26, nameIndex := 108, descriptorIndex := 109, attributes := #[] }, { accessFlags := 25, nameIndex := 294, descriptorIndex := 25, attributes := #[] }])
  fields := #[{ name := "U", type := (.object "jdk/internal/misc/Unsafe"), accessFlags := 24, slot := 0, constantValue := 0 }, { name := "BIG_ENDIAN", type := .boolean, accessFlags := 26, slot := 1, constantValue := 0 }, { name := "LOG2_ARRAY_BOOLEAN_INDEX_SCALE", type := .int, accessFlags := 25, slot := 2, constantValue := 0 }, { name := "LOG2_ARRAY_BYTE_INDEX_SCALE", type := .int, accessFlags := 25, slot := 3, constantValue := 0 }, { name := "LOG2_ARRAY_CHAR_INDEX_SCALE", type := .int, accessFlags := 25, slot := 4, constantValue := 0 }, { name := "LOG2_ARRAY_SHORT_INDEX_SCALE", type := .int, accessFlags := 25, slot := 5, constantValue := 0 }, { name := "LOG2_ARRAY_INT_INDEX_SCALE", type := .int, accessFlags := 25, slot := 6, constantValue := 0 }, { name := "LOG2_ARRAY_LONG_INDEX_SCALE", type := .int, accessFlags := 25, slot := 7, constantValue := 0 }, { name := "LOG2_ARRAY_FLOAT_INDEX_SCALE", type := .int, accessFlags := 25, slot := 8, constantValue := 0 }, { name := "LOG2_ARRAY_DOUBLE_INDEX_SCALE", type := .int, accessFlags := 25, slot := 9, constantValue := 0 }, { name := "LOG2_BYTE_BIT_SIZE", type := .int, accessFlags := 26, slot := 10, constantValue := 0 }, { name := "T_BOOLEAN", type := .int, accessFlags := 25, slot := 11, constantValue := 0 }, { name := "T_CHAR", type := .int, accessFlags := 25, slot := 12, constantValue := 0 }, { name := "T_FLOAT", type := .int, accessFlags := 25, slot := 13, constantValue := 0 }, { name := "T_DOUBLE", type := .int, accessFlags := 25, slot := 14, constantValue := 0 }, { name := "T_BYTE", type := .int, accessFlags := 25, slot := 15, constantValue := 0 }, { name := "T_SHORT", type := .int, accessFlags := 25, slot := 16, constantValue := 0 }, { name := "T_INT", type := .int, accessFlags := 25, slot := 17, constantValue := 0 }, { name := "T_LONG", type := .int, accessFlags := 25, slot := 18, constantValue := 0 }, { name := "JLA", type := (.object "jdk/internal/access/JavaLangAccess"), accessFlags := 26, slot := 19, constantValue := 0 }, { name := "SOFT_MAX_ARRAY_LENGTH", type := .int, accessFlags := 25, slot := 20, constantValue := 0 }]
  methods := #[k12m0]
  instanceTypes := #[]
  staticTypes := #[(.object "jdk/internal/misc/Unsafe"), .boolean, .int, .int, .int, .int, .int, .int, .int, .int, .int, .int, .int, .int, .int, .int, .int, .int, .int, (.object "jdk/internal/access/JavaLangAccess"), .int]
  resolved := Array.replicate 378 none
  statics := none }

def pool13 : Array CpInfo := pool [(1, u "java/lang/Cloneable"), (0, .class_ 1), (0, u "java/lang/Object"), (0, .class_ 3)] 3

/-- java/lang/Cloneable -/
def k13 : Class := { plain "java/lang/Cloneable" (some 0) with
  accessFlags := 1537
  interfaces := #[]
  cf := some (fileOf pool13 2 #[] #[] 1537 4 #[] #[])
  fields := #[]
  methods := #[]
  instanceTypes := #[]
  staticTypes := #[]
  resolved := Array.replicate 8 none
  statics := none }

/-- the primitive byte -/
def k14 : Class := { plain "byte" none with kind := .primitive 'B', accessFlags := 0x411 }
/-- [B -/
def k15 : Class := { plain "[B" (some 0) with kind := .array 14 .byte, interfaces := #[13, 2], accessFlags := 1041 }

/-- the primitive int -/
def k16 : Class := { plain "int" none with kind := .primitive 'I', accessFlags := 0x411 }
/-- [I -/
def k17 : Class := { plain "[I" (some 0) with kind := .array 16 .int, interfaces := #[13, 2], accessFlags := 1041 }

def heap : Heap := #[{ cls := 7, slots := #[.long 0, .int 1, .null, .int 0, .null, .int 0, .int 0], vm := .statics 7 },
  { cls := 11, slots := #[.null, .null, .null], vm := .statics 11 }]
def classes : Array Class := #[k0, k1, k2, k3, k4, k5, k6, k7, k8, k9, k10, k11, k12, k13, k14, k15, k16, k17]
def interned : List (Array UInt16 × Addr) := []
def slotsUsed : Nat := 10
def theMethod : MethodId := ⟨1, 2⟩
def args0 : Array Value := #[.int 5, .int 3]
def aboutOver (below : List Frame) : State where
  vm := { classes := classes, interned := interned.toArray }
  heap := heap
  slotsUsed := slotsUsed
  threads := #[{ frames := .invoking theMethod args0 :: below }]
def below0 : List Frame := [.native { method := ⟨0, 0⟩, args := #[] }]
def about1 : State := aboutOver below0
def p0 : Program := .bare "" "" ""
def e0 : Env := launch0.env 0 0 0
theorem w_frames : about1.frames = Frame.invoking theMethod args0 :: below0 := rfl
set_option maxRecDepth 65536 in
theorem w_args : argsFit about1.vm theMethod args0 = true := by decide +kernel
set_option maxRecDepth 65536 in
theorem w_heap : heapFits about1 = true := by decide +kernel
set_option maxRecDepth 65536 in
theorem w_runnable : about1.curStatus? = some .runnable := by decide +kernel
set_option maxRecDepth 65536 in
theorem w_alone : about1.alone = true := by decide +kernel
set_option maxRecDepth 65536 in
theorem w_named : about1.methodNamed? x = some theMethod := by decide +kernel
set_option maxRecDepth 65536 in
theorem w_hears : about1.hears theMethod below0 = true := by decide +kernel
set_option maxRecDepth 65536 in
theorem w_ripe : about1.ripe theMethod args0 below0 = true := by decide +kernel
theorem w_running : about1.status = .running := rfl
set_option maxRecDepth 65536 in
theorem w_room : about1.hasRoom e0.platform room_1 = true :=
  launch0.hasRoom_least _ room_1 (by decide +kernel) (by decide +kernel) (by decide +kernel) (by decide +kernel) (by decide +kernel) (by decide +kernel)
theorem allAtoms_all (ts : List Jvm.Cond) (a : Array Jvm.Value) (st : Jvm.State) : (allAtoms ts).before a st = ts.all (fun c => c.before a st) := by
  induction ts with
  | nil => rfl
  | cons c t ih =>
    show (Jvm.Cond.and c (allAtoms t)).before a st = _
    rw [Jvm.Cond.before_and, ih, List.all_cons]
def words1 : List Jvm.Cond := Jvm.Cond.code x code maxLocals ret :: tables_1
/-- a 'code' word, met by the world's own term for the bytes: nothing is compared byte by byte -/
theorem code_word {y : MethodName} {bytes : ByteArray} {mx : Nat} {rt : Option FieldType} {a : Array Value} {s : State} {m : MethodId} {meth : Method} {c : Code} (h1 : s.methodNamed? y = some m) (h2 : s.vm.method? m = some meth) (h3 : meth.code = some c) (h4 : c.code = bytes)
    (h5 : (c.maxLocals == mx && c.exceptionTable.isEmpty && decide (c.maxStack ≤ mostOperands) && decide (meth.sig.returnType = rt) && !meth.locks && decide (parseMethodDescriptor y.desc = some meth.sig)) = true) : (Jvm.Cond.code y bytes mx rt).before a s = true := by
  simp only [Bool.and_eq_true, beq_iff_eq, Bool.not_eq_true', decide_eq_true_eq] at h5
  obtain ⟨⟨⟨⟨⟨g1, g2⟩, g3⟩, g4⟩, g5⟩, g6⟩ := h5
  simp [Cond.before, Cond.holds, Cond.value, h1, h2, h3, h4, g1, g2, g3, g4, g5, g6]
def isCode : Jvm.Cond → Bool
  | .code _ _ _ _ => true
  | _ => false
theorem all_split {L : List Jvm.Cond} {P : Jvm.Cond → Bool} (h1 : L.all (fun c => isCode c || P c) = true) (h2 : ∀ c ∈ L.filter isCode, P c = true) : L.all P = true := by
  refine List.all_eq_true.mpr fun c hc => ?_
  have h := List.all_eq_true.mp h1 c hc
  rcases Bool.eq_false_or_eq_true (isCode c) with hi | hi
  · exact h2 c (List.mem_filter.mpr ⟨hc, hi⟩)
  · simpa [hi] using h
set_option maxRecDepth 65536 in
theorem w_c0 : (Jvm.Cond.code x code maxLocals ret).before args0 about1 = true := code_word (m := ⟨1, 2⟩) (meth := k1m2) (c := k1c2) (by decide +kernel) rfl rfl rfl (by decide +kernel)
set_option maxRecDepth 65536 in
theorem w_c1 : (Jvm.Cond.code ({ cls := "com/example/kind4/kind4/model/SqlTokenIsDigitPinLaw", name := "matches", desc := "(I)Z" } : Jvm.MethodName) method_2_code (5 : Nat) (Option.some Jvm.ClassFile.FieldType.boolean)).before args0 about1 = true := code_word (m := ⟨1, 1⟩) (meth := k1m1) (c := k1c1) (by decide +kernel) rfl rfl rfl (by decide +kernel)
set_option maxRecDepth 65536 in
theorem w_c2 : (Jvm.Cond.code ({ cls := "com/example/kind4/kind4/model/SqlToken", name := "isDigit", desc := "(I)Z" } : Jvm.MethodName) prog_74_method_4_code (1 : Nat) (Option.some Jvm.ClassFile.FieldType.boolean)).before args0 about1 = true := code_word (m := ⟨9, 0⟩) (meth := k9m0) (c := k9c0) (by decide +kernel) rfl rfl rfl (by decide +kernel)
set_option maxRecDepth 65536 in
theorem w_c3 : (Jvm.Cond.code ({ cls := "java/lang/String", name := "length", desc := "()I" } : Jvm.MethodName) jdk_42_method_54_code (1 : Nat) (Option.some Jvm.ClassFile.FieldType.int)).before args0 about1 = true := code_word (m := ⟨7, 1⟩) (meth := k7m1) (c := k7c1) (by decide +kernel) rfl rfl rfl (by decide +kernel)
set_option maxRecDepth 65536 in
theorem w_c4 : (Jvm.Cond.code ({ cls := "java/lang/String", name := "coder", desc := "()B" } : Jvm.MethodName) jdk_42_method_152_code (1 : Nat) (Option.some Jvm.ClassFile.FieldType.byte)).before args0 about1 = true := code_word (m := ⟨7, 3⟩) (meth := k7m3) (c := k7c3) (by decide +kernel) rfl rfl rfl (by decide +kernel)
set_option maxRecDepth 65536 in
theorem w_c5 : (Jvm.Cond.code ({ cls := "java/lang/String", name := "charAt", desc := "(I)C" } : Jvm.MethodName) jdk_42_method_56_code (2 : Nat) (Option.some Jvm.ClassFile.FieldType.char)).before args0 about1 = true := code_word (m := ⟨7, 2⟩) (meth := k7m2) (c := k7c2) (by decide +kernel) rfl rfl rfl (by decide +kernel)
set_option maxRecDepth 65536 in
theorem w_c6 : (Jvm.Cond.code ({ cls := "java/lang/String", name := "isLatin1", desc := "()Z" } : Jvm.MethodName) jdk_42_method_154_code (1 : Nat) (Option.some Jvm.ClassFile.FieldType.boolean)).before args0 about1 = true := code_word (m := ⟨7, 4⟩) (meth := k7m4) (c := k7c4) (by decide +kernel) rfl rfl rfl (by decide +kernel)
set_option maxRecDepth 65536 in
theorem w_c7 : (Jvm.Cond.code ({ cls := "java/lang/StringLatin1", name := "charAt", desc := "([BI)C" } : Jvm.MethodName) jdk_43_method_2_code (2 : Nat) (Option.some Jvm.ClassFile.FieldType.char)).before args0 about1 = true := code_word (m := ⟨10, 1⟩) (meth := k10m1) (c := k10c1) (by decide +kernel) rfl rfl rfl (by decide +kernel)
set_option maxRecDepth 65536 in
theorem w_c8 : (Jvm.Cond.code ({ cls := "java/lang/String", name := "checkIndex", desc := "(II)V" } : Jvm.MethodName) jdk_42_method_155_code (2 : Nat) (Option.none : Option Jvm.ClassFile.FieldType)).before args0 about1 = true := code_word (m := ⟨7, 5⟩) (meth := k7m5) (c := k7c5) (by decide +kernel) rfl rfl rfl (by decide +kernel)
set_option maxRecDepth 65536 in
theorem w_c9 : (Jvm.Cond.code ({ cls := "jdk/internal/util/Preconditions", name := "checkIndex", desc := "(IILjava/util/function/BiFunction;)I" } : Jvm.MethodName) jdk_41_method_11_code (3 : Nat) (Option.some Jvm.ClassFile.FieldType.int)).before args0 about1 = true := code_word (m := ⟨11, 1⟩) (meth := k11m1) (c := k11c1) (by decide +kernel) rfl rfl rfl (by decide +kernel)
def codes1 : List Jvm.Cond := [Jvm.Cond.code x code maxLocals ret, Jvm.Cond.code ({ cls := "com/example/kind4/kind4/model/SqlTokenIsDigitPinLaw", name := "matches", desc := "(I)Z" } : Jvm.MethodName) method_2_code (5 : Nat) (Option.some Jvm.ClassFile.FieldType.boolean), Jvm.Cond.code ({ cls := "com/example/kind4/kind4/model/SqlToken", name := "isDigit", desc := "(I)Z" } : Jvm.MethodName) prog_74_method_4_code (1 : Nat) (Option.some Jvm.ClassFile.FieldType.boolean), Jvm.Cond.code ({ cls := "java/lang/String", name := "length", desc := "()I" } : Jvm.MethodName) jdk_42_method_54_code (1 : Nat) (Option.some Jvm.ClassFile.FieldType.int), Jvm.Cond.code ({ cls := "java/lang/String", name := "coder", desc := "()B" } : Jvm.MethodName) jdk_42_method_152_code (1 : Nat) (Option.some Jvm.ClassFile.FieldType.byte), Jvm.Cond.code ({ cls := "java/lang/String", name := "charAt", desc := "(I)C" } : Jvm.MethodName) jdk_42_method_56_code (2 : Nat) (Option.some Jvm.ClassFile.FieldType.char), Jvm.Cond.code ({ cls := "java/lang/String", name := "isLatin1", desc := "()Z" } : Jvm.MethodName) jdk_42_method_154_code (1 : Nat) (Option.some Jvm.ClassFile.FieldType.boolean), Jvm.Cond.code ({ cls := "java/lang/StringLatin1", name := "charAt", desc := "([BI)C" } : Jvm.MethodName) jdk_43_method_2_code (2 : Nat) (Option.some Jvm.ClassFile.FieldType.char), Jvm.Cond.code ({ cls := "java/lang/String", name := "checkIndex", desc := "(II)V" } : Jvm.MethodName) jdk_42_method_155_code (2 : Nat) (Option.none : Option Jvm.ClassFile.FieldType), Jvm.Cond.code ({ cls := "jdk/internal/util/Preconditions", name := "checkIndex", desc := "(IILjava/util/function/BiFunction;)I" } : Jvm.MethodName) jdk_41_method_11_code (3 : Nat) (Option.some Jvm.ClassFile.FieldType.int)]
set_option maxRecDepth 65536 in
theorem codes_eq : words1.filter isCode = codes1 := rfl
theorem w_codes : ∀ c ∈ words1.filter isCode, c.before args0 about1 = true := by
  rw [codes_eq]
  intro c hc
  simp only [codes1, List.mem_cons, List.not_mem_nil, or_false] at hc
  rcases hc with rfl | rfl | rfl | rfl | rfl | rfl | rfl | rfl | rfl | rfl
  · exact w_c0
  · exact w_c1
  · exact w_c2
  · exact w_c3
  · exact w_c4
  · exact w_c5
  · exact w_c6
  · exact w_c7
  · exact w_c8
  · exact w_c9
set_option maxRecDepth 65536 in
theorem w_t1 : (words1.take 24).all (fun c => isCode c || c.before args0 about1) = true := by decide +kernel
set_option maxRecDepth 65536 in
theorem w_t2 : ((words1.drop 24).take 24).all (fun c => isCode c || c.before args0 about1) = true := by decide +kernel
set_option maxRecDepth 65536 in
theorem w_t3 : ((words1.drop 24).drop 24).all (fun c => isCode c || c.before args0 about1) = true := by decide +kernel
theorem w_tables : (allAtoms (Jvm.Cond.code x code maxLocals ret :: tables_1)).before args0 about1 = true := by
  rw [allAtoms_all]
  show words1.all (fun c => c.before args0 about1) = true
  refine all_split ?_ w_codes
  rw [← List.take_append_drop 24 words1, List.all_append, w_t1, ← List.take_append_drop 24 (words1.drop 24), List.all_append, w_t2, w_t3]
  rfl
set_option maxRecDepth 65536 in
theorem w_rest : rest_1_c.before args0 about1 = true := by decide +kernel
set_option maxRecDepth 65536 in
theorem w_case : (Jvm.Cond.and given_1 narrow_1).before args0 about1 = true := by decide +kernel
set_option maxRecDepth 65536 in
theorem w_consts : constsHeld consts_1 about1 := Jvm.Lit.constsHeldB_iff.mp (by decide +kernel)
theorem w_applies : (headSpec (Jvm.Cond.code x code maxLocals ret :: tables_1) room_1).applies x e0.platform about1 = true :=
  (Spec.applies_iff w_frames).mpr ⟨w_running, w_runnable, w_alone, w_named, w_hears, w_ripe, w_room, w_tables⟩
theorem atStart : AtStart classFile x code maxLocals ret World_1 tables_1 room_1 Calls_1 rest_1 Pre_1 launch0 p0 e0 about1 theMethod args0 below0 :=
  ⟨lists_1, trivial, launch0.admits_env _ _ _, launch0.least_env, fairChoices_fair.cas, fairChoices_fair.clock, w_frames, w_args, w_heap, w_applies, ⟨w_consts, trivial⟩, w_rest, w_case⟩
end start1
theorem witness_1 : WitnessClaimed_1 := ⟨start1.p0, start1.e0, start1.about1, start1.theMethod, start1.args0, start1.below0, start1.atStart⟩
end Jvm.Pilot.@@N@@
