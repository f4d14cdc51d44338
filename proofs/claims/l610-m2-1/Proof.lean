import JvmDerived
import JvmDerived.Pilot.@@N@@Statement
import JvmDerived.Pilot.@@N@@Code
set_option linter.unusedVariables false
set_option linter.unusedSimpArgs false
namespace Jvm.Pilot.@@N@@
open Jvm Jvm.ClassFile Sem Op Lib Jvm.Free Jvm.Stand Jvm.LawKit Jvm.RoadKit Bundle Jvm.Pilot.@@N@@.Jvm.D
section Own
variable {p : Program} {l : Launch} {e : Env} {R : Room} {s : State} {m : MethodId} {args : Array Value} {below : List Frame} {meth : Method} {c : Code} {T : State} {locs : List Loc} {cells slots : Nat} {k n : Nat} {P : Option Value → Heap → List Loc → Prop} {A B : State}
/-- from S0 the run comes to a return with what P says -/
def OG (p : Program) (e : Env) (below : List Frame) (s : State) (k n : Nat) (P : Option Value → Heap → List Loc → Prop) (S0 : State) : Prop :=
  ∃ s₂ o, Steps p.tables e below S0 s₂ ∧ s₂.status = .running ∧ Ended s₂ below o ∧ ∃ v L, o = .returned v ∧ P v s₂.heap L ∧ FrameEnd s o s₂ L k n
theorem OG.trans (h : Steps p.tables e below B A) (g : OG p e below s k n P A) : OG p e below s k n P B := by
  obtain ⟨s₂, o, h1, r⟩ := g
  exact ⟨s₂, o, h.trans h1, r⟩
theorem OG.of (h : ∀ t, Steps p.tables e below A t → Steps p.tables e below B t) (g : OG p e below s k n P A) : OG p e below s k n P B := by
  obtain ⟨s₂, o, h1, r⟩ := g
  exact ⟨s₂, o, h _ h1, r⟩
theorem OG.retN (X : Stand p l e R s m args below meth c T locs cells slots) (hx : p.tables.exec = Jvm.exec) {pc : Nat} {Ls : Array Slot} {z : Int32} {t : FieldType} {rest : List Value} (hret : meth.sig.returnType = some t) (ht : t = .boolean ∨ t = .byte ∨ t = .char ∨ t = .short) (hd : decode c.code pc = .ok (.ireturn, 1)) (hlk : meth.locks = false)
    (hP : P (some (.int (nar t z))) T.heap locs) (hc : cells ≤ k) (hs : slots ≤ n) : OG p e below s k n P (T.setTop (mkF m pc Ls (.int z :: rest))) := by
  obtain ⟨fs, hr, hrun, hended, hW, hsame⟩ := X.leave (v := some (.int (nar t z))) (fun h => by rw [hret] at h; cases h) hlk
  exact ⟨_, _, Jvm.RoadKit.retN X hx hret ht hd hr, hrun, hended, _, _, rfl, hP, ⟨_, rfl⟩, hW, hsame.mono hc hs⟩
theorem OG.retI (X : Stand p l e R s m args below meth c T locs cells slots) (hx : p.tables.exec = Jvm.exec) {pc : Nat} {Ls : Array Slot} {z : Int32} {rest : List Value} (hret : meth.sig.returnType = some .int) (hd : decode c.code pc = .ok (.ireturn, 1)) (hlk : meth.locks = false)
    (hP : P (some (.int z)) T.heap locs) (hc : cells ≤ k) (hs : slots ≤ n) : OG p e below s k n P (T.setTop (mkF m pc Ls (.int z :: rest))) := by
  obtain ⟨fs, hr, hrun, hended, hW, hsame⟩ := X.leave (v := some (.int z)) (fun h => by rw [hret] at h; cases h) hlk
  exact ⟨_, _, retOut X hx hret rfl (Or.inl ⟨rfl, Or.inl rfl, _, rfl⟩) hd hr, hrun, hended, _, _, rfl, hP, ⟨_, rfl⟩, hW, hsame.mono hc hs⟩
theorem OG.retJ (X : Stand p l e R s m args below meth c T locs cells slots) (hx : p.tables.exec = Jvm.exec) {pc : Nat} {Ls : Array Slot} {z : Int64} {rest : List Value} (hret : meth.sig.returnType = some .long) (hd : decode c.code pc = .ok (.lreturn, 1)) (hlk : meth.locks = false)
    (hP : P (some (.long z)) T.heap locs) (hc : cells ≤ k) (hs : slots ≤ n) : OG p e below s k n P (T.setTop (mkF m pc Ls (.long z :: rest))) := by
  obtain ⟨fs, hr, hrun, hended, hW, hsame⟩ := X.leave (v := some (.long z)) (fun h => by rw [hret] at h; cases h) hlk
  exact ⟨_, _, retOut X hx hret rfl (Or.inr (Or.inl ⟨rfl, rfl, _, rfl⟩)) hd hr, hrun, hended, _, _, rfl, hP, ⟨_, rfl⟩, hW, hsame.mono hc hs⟩
theorem OG.retA (X : Stand p l e R s m args below meth c T locs cells slots) (hx : p.tables.exec = Jvm.exec) {pc : Nat} {Ls : Array Slot} {w : Value} {t : FieldType} {rest : List Value} (hret : meth.sig.returnType = some t) (ht : t.isReference = true) (hw : w.isRef = true) (hd : decode c.code pc = .ok (.areturn, 1)) (hlk : meth.locks = false)
    (hP : P (some w) T.heap locs) (hc : cells ≤ k) (hs : slots ≤ n) : OG p e below s k n P (T.setTop (mkF m pc Ls (w :: rest))) := by
  obtain ⟨fs, hr, hrun, hended, hW, hsame⟩ := X.leave (v := some w) (fun h => by rw [hret] at h; cases h) hlk
  have hn : narrow t w = w := by cases t <;> first | (cases ht; done) | rfl
  exact ⟨_, _, retOut X hx hret hn (Or.inr (Or.inr (Or.inr (Or.inr ⟨rfl, ht, hw⟩)))) hd hr, hrun, hended, _, _, rfl, hP, ⟨_, rfl⟩, hW, hsame.mono hc hs⟩
theorem OG.retV (X : Stand p l e R s m args below meth c T locs cells slots) (hx : p.tables.exec = Jvm.exec) {pc : Nat} {Ls : Array Slot} (hret : meth.sig.returnType = none) (hd : decode c.code pc = .ok (.return_, 1)) (hlk : meth.locks = false)
    (hP : P none T.heap locs) (hc : cells ≤ k) (hs : slots ≤ n) : OG p e below s k n P (T.setTop (mkF m pc Ls [])) := by
  obtain ⟨fs, hr, hrun, hended, hW, hsame⟩ := X.leave (v := none) (fun _ => rfl) hlk
  exact ⟨_, _, X.returnOut hx hret hd hr, hrun, hended, _, _, rfl, hP, ⟨_, rfl⟩, hW, hsame.mono hc hs⟩
theorem own_catI (x : Int32) : (Value.int x).category = 1 := rfl
theorem own_catJ (x : Int64) : (Value.long x).category = 2 := rfl
theorem own_catR (x : Addr) : (Value.ref x).category = 1 := rfl
theorem own_catN : Value.null.category = 1 := rfl
theorem own_narB {z : Int32} (h : z = 0 ∨ z = 1) : nar .boolean z = z := by rcases h with rfl | rfl <;> rfl
theorem own_ite01 {c : Prop} [Decidable c] : (if c then (1 : Int32) else 0) = 0 ∨ (if c then (1 : Int32) else 0) = 1 := by by_cases h : c <;> simp [h]
theorem own_eqI {args : Array Value} {first st : State} {o : Option Outcome} {idx : List Nat} {t : Term} {x : Int32} (h : (Jvm.Cond.eq t (.int x)).value args first o st idx = some true) : t.eval args first o idx st = some (.int x) := by
  obtain ⟨a, b, ha, hb, k1, k2⟩ := cmp_v (Or.inl h)
  obtain rfl : Value.int x = b := Option.some.inj hb
  obtain ⟨z, rfl⟩ := k2
  have hz := gotT (P := z = x) (by simp [Cond.value, ha, hb]) h
  rw [ha, hz]
/-- the array at a (of the kind ty) holds v at the place j -/
def ORd (Z : State) (h : Heap) (a : Addr) (ty : FieldType) (j : Int32) (v : Value) : Prop := ∃ cl : Cell, Arr Z h a cl ty ∧ ¬ (j < 0 ∨ cl.slots.size ≤ j.toNatClampNeg) ∧ cl.slots[j.toNatClampNeg]? = some v
theorem own_rd {Z : State} {h : Heap} {a : Addr} {kc : ClassId} {ty : FieldType} {z j : Int32} {vs : List Value} {d v : Value} (F : Arv Z h a kc ty z vs d) (hj : ¬ j < 0 ∧ j < z) (hv : vs.getD j.toNatClampNeg d = v) : ORd Z h a ty j v := by
  obtain ⟨cl, A, -, S, -, H, -⟩ := F
  exact ⟨cl, A, inb_of S hj, H.at (inb_of S hj) hv⟩
theorem ORd.ext {Z : State} {h h' : Heap} {a : Addr} {ty : FieldType} {j : Int32} {v : Value} (F : ORd Z h a ty j v) (E : Ext h h') : ORd Z h' a ty j v := by
  obtain ⟨cl, A, r⟩ := F; exact ⟨cl, A.ext E, r⟩
theorem ORd.other {Z : State} {h h' : Heap} {a b : Addr} {ty : FieldType} {j : Int32} {v w : Value} {sl : Nat} (F : ORd Z h a ty j v) (W : Wr h h' b sl w) (q : a ≠ b) : ORd Z h' a ty j v := by
  obtain ⟨cl, A, r⟩ := F; exact ⟨cl, A.other W q, r⟩
theorem ORd.keep {Z : State} {h h' : Heap} {a : Addr} {ty : FieldType} {j : Int32} {v : Value} {ws : List Addr} (F : ORd Z h a ty j v) (K : Keep h h' ws) (q : a ∉ ws) : ORd Z h' a ty j v := by
  obtain ⟨cl, A, r⟩ := F; exact ⟨cl, ⟨K.2.1 a cl A.1 q, A.2⟩, r⟩
theorem ORd.lt {Z : State} {h : Heap} {a : Addr} {ty : FieldType} {j : Int32} {v : Value} (F : ORd Z h a ty j v) : a < h.size := by
  obtain ⟨cl, A, r⟩ := F; exact A.lt
theorem ORd.start {Z : State} {args : Array Value} {t : Term} {a : Addr} {ty : FieldType} {j : Int32} {v : Value} (ev : t.eval args Z none [] Z = some (.ref a)) (hx : (Jvm.Cond.arrayOf t ty).value args Z none Z [] = some true) (hj : ¬ j < 0) (he : (Term.elem t (.int j)).eval args Z none [] Z = some v) : ORd Z Z.heap a ty j v := by
  obtain ⟨c, A⟩ := Arr.start ev hx
  have hA : Z.arrayAt? a = some c := Arr.fin (Vm.Alike.refl _) A
  rw [elem_f ev (Term.int_eval j) hA hj] at he
  exact ⟨c, A, fun q => q.elim hj fun q => (by rw [Array.getElem?_eq_none q] at he; cases he), he⟩
end Own

section OwnW
variable {p : Program} {l : Launch} {e : Env} {R : Room} {s : State} {vm0 : Vm} {k0 : Nat} {m : MethodId} {args : Array Value} {below : List Frame} {meth : Method} {c : Code} {T : State} {locs : List Loc} {cells slots : Nat} {k n : Nat} {P : Option Value → Heap → List Loc → Prop} {A B : State} {Z : State} {EL : List (String × Nat)}
/-- the same, where literals may have been loaded meanwhile -/
def OGW (Z : State) (EL : List (String × Nat)) (p : Program) (e : Env) (below : List Frame) (s : State) (k n : Nat) (P : Option Value → Heap → List Loc → Prop) (S0 : State) : Prop :=
  ∃ s₂ o, Steps p.tables e below S0 s₂ ∧ s₂.status = .running ∧ Ended s₂ below o ∧ ∃ v L, o = .returned v ∧ P v s₂.heap L ∧ CHr Z EL s.vm s.heap s₂.vm s₂.heap ∧ ReturnedEndW s o s₂ L k n
theorem OGW.trans (h : Steps p.tables e below B A) (g : OGW Z EL p e below s k n P A) : OGW Z EL p e below s k n P B := by
  obtain ⟨s₂, o, h1, r⟩ := g
  exact ⟨s₂, o, h.trans h1, r⟩
theorem OGW.of (h : ∀ t, Steps p.tables e below A t → Steps p.tables e below B t) (g : OGW Z EL p e below s k n P A) : OGW Z EL p e below s k n P B := by
  obtain ⟨s₂, o, h1, r⟩ := g
  exact ⟨s₂, o, h _ h1, r⟩
theorem own_RW {s t : State} {o : Outcome} {L : List Loc} (h : ReturnedEndW s o t L cells slots) (hc : cells ≤ k) (hs : slots ≤ n) : ReturnedEndW s o t L k n := ⟨h.1, h.2.1, h.2.2.1, h.2.2.2.mono hc hs⟩
theorem OGW.retN (X : Stand p l e R (s.setVm vm0) m args below meth c T locs cells slots) (hx : p.tables.exec = Jvm.exec) {pc : Nat} {Ls : Array Slot} {z : Int32} {t : FieldType} {rest : List Value} (hret : meth.sig.returnType = some t) (ht : t = .boolean ∨ t = .byte ∨ t = .char ∨ t = .short) (hd : decode c.code pc = .ok (.ireturn, 1)) (hlk : meth.locks = false)
    (hS : s.Since vm0 k0) (hk : k0 ≤ T.heap.size) (hC : CHr Z EL s.vm s.heap T.vm T.heap) (hP : P (some (.int (nar t z))) T.heap locs) (hc : cells ≤ k) (hs : slots ≤ n) : OGW Z EL p e below s k n P (T.setTop (mkF m pc Ls (.int z :: rest))) := by
  obtain ⟨fs, hr, hrun, hended, hW⟩ := X.leaveW hS hk (v := some (.int (nar t z))) (fun h => by rw [hret] at h; cases h) hlk
  exact ⟨_, _, Jvm.RoadKit.retN X hx hret ht hd hr, hrun, hended, _, _, rfl, hP, hC, own_RW hW hc hs⟩
theorem OGW.retA (X : Stand p l e R (s.setVm vm0) m args below meth c T locs cells slots) (hx : p.tables.exec = Jvm.exec) {pc : Nat} {Ls : Array Slot} {w : Value} {t : FieldType} {rest : List Value} (hret : meth.sig.returnType = some t) (ht : t.isReference = true) (hw : w.isRef = true) (hd : decode c.code pc = .ok (.areturn, 1)) (hlk : meth.locks = false)
    (hS : s.Since vm0 k0) (hk : k0 ≤ T.heap.size) (hC : CHr Z EL s.vm s.heap T.vm T.heap) (hP : P (some w) T.heap locs) (hc : cells ≤ k) (hs : slots ≤ n) : OGW Z EL p e below s k n P (T.setTop (mkF m pc Ls (w :: rest))) := by
  obtain ⟨fs, hr, hrun, hended, hW⟩ := X.leaveW hS hk (v := some w) (fun h => by rw [hret] at h; cases h) hlk
  have hn : narrow t w = w := by cases t <;> first | (cases ht; done) | rfl
  exact ⟨_, _, retOut X hx hret hn (Or.inr (Or.inr (Or.inr (Or.inr ⟨rfl, ht, hw⟩)))) hd hr, hrun, hended, _, _, rfl, hP, hC, own_RW hW hc hs⟩
theorem OGW.retV (X : Stand p l e R (s.setVm vm0) m args below meth c T locs cells slots) (hx : p.tables.exec = Jvm.exec) {pc : Nat} {Ls : Array Slot} (hret : meth.sig.returnType = none) (hd : decode c.code pc = .ok (.return_, 1)) (hlk : meth.locks = false)
    (hS : s.Since vm0 k0) (hk : k0 ≤ T.heap.size) (hC : CHr Z EL s.vm s.heap T.vm T.heap) (hP : P none T.heap locs) (hc : cells ≤ k) (hs : slots ≤ n) : OGW Z EL p e below s k n P (T.setTop (mkF m pc Ls [])) := by
  obtain ⟨fs, hr, hrun, hended, hW⟩ := X.leaveW hS hk (v := none) (fun _ => rfl) hlk
  exact ⟨_, _, X.returnOut hx hret hd hr, hrun, hended, _, _, rfl, hP, hC, own_RW hW hc hs⟩
/-- the same, the invariant of the literals left out -/
def OGV (p : Program) (e : Env) (below : List Frame) (s : State) (k n : Nat) (P : Option Value → Heap → List Loc → Prop) (S0 : State) : Prop :=
  ∃ s₂ o, Steps p.tables e below S0 s₂ ∧ s₂.status = .running ∧ Ended s₂ below o ∧ ∃ v L, o = .returned v ∧ P v s₂.heap L ∧ ReturnedEndW s o s₂ L k n
theorem OGV.trans (h : Steps p.tables e below B A) (g : OGV p e below s k n P A) : OGV p e below s k n P B := by
  obtain ⟨s₂, o, h1, r⟩ := g
  exact ⟨s₂, o, h.trans h1, r⟩
theorem OGV.of (h : ∀ t, Steps p.tables e below A t → Steps p.tables e below B t) (g : OGV p e below s k n P A) : OGV p e below s k n P B := by
  obtain ⟨s₂, o, h1, r⟩ := g
  exact ⟨s₂, o, h _ h1, r⟩
theorem OGV.of_OG {P' : Option Value → Heap → List Loc → Prop} (g : OG p e below s k n P A) (hP : ∀ v h L, P v h L → P' v h L) : OGV p e below s k n P' A := by
  obtain ⟨s₂, o, h1, h2, h3, v, L, h4, h5, h6⟩ := g
  exact ⟨s₂, o, h1, h2, h3, v, L, h4, hP _ _ _ h5, ReturnedEndW.of_narrow h6.1 h6.2.1 h6.2.2⟩
theorem OGV.since {P' : Option Value → Heap → List Loc → Prop} (hS : s.Since vm0 k0) (g : OG p e below (s.setVm vm0) k n P A) (hP : ∀ v h L, P v h L → P' v h L ∧ k0 ≤ h.size) : OGV p e below s k n P' A := by
  obtain ⟨s₂, o, h1, h2, h3, v, L, h4, h5, h6⟩ := g
  obtain ⟨a, b, c'⟩ := hS.ended (U := s₂) h6.2.1 (hP _ _ _ h5).2 h6.2.2
  exact ⟨s₂, o, h1, h2, h3, v, L, h4, (hP _ _ _ h5).1, h6.1, a, b, c'⟩
end OwnW

end Jvm.Pilot.@@N@@
/- laws to paste: Road.backV, Road.eqW, Road.codOf (cut by pick.py; bodies as the Statement names them) -/
namespace Jvm.Pilot.@@N@@
namespace StrChars
open Jvm Sem ClassFile Op Lib Jvm.Stand Jvm.Free.XT Jvm.Free.ALB Jvm.Free.JM Jvm.Free
open Jvm.Lib.Cold (StaticIs)
/-- a char array whose places are chars -/
def Ch (a : Addr) (A : Cell) (U : State) : Prop := Arr .char a A U ∧ Typed .char A
theorem Ch.mv {a : Addr} {A : Cell} {U U' : State} (h : Ch a A U) (hal : U.vm.Alike U'.vm) (hh : U'.heap = U.heap) : Ch a A U' := ⟨h.1.mv hal hh, h.2⟩
theorem Ch.keep {a : Addr} {A : Cell} {U U' : State} (h : Ch a A U) (hal : U.vm.Alike U'.vm) (hk : U'.heap[a]? = some A) : Ch a A U' := ⟨h.1.keep hal hk, h.2⟩
/-- what place i of a char[]'s cell holds -/
def cv (A : Cell) (i : Nat) : Int32 := match A.slots[i]? with | some (.int x) => x | _ => 0
theorem Ch.get {a : Addr} {A : Cell} {U : State} (h : Ch a A U) {i : Nat} (hi : i < A.slots.size) : A.slots[i]? = some (.int (cv A i)) := by
  have e := Array.getElem?_eq_getElem hi
  have f := h.2 i _ e
  unfold cv; rw [e]
  generalize A.slots[i] = v at f
  cases v <;> simp [fits] at f ⊢
/-- the byte that i2b leaves of a char -/
def lo8 (x : Int32) : Int32 := x.toInt8.toInt32
theorem fits_lo8 (y : Int32) : fits .byte (.int (lo8 y)) = true := by
  have h1 := y.toInt8.le_toInt
  have h2 := y.toInt8.toInt_lt
  simp only [lo8, fits, Bool.and_eq_true, decide_eq_true_eq, Int32.le_iff_toInt_le, Int8.toInt_toInt32, show (-128 : Int32).toInt = -128 from by decide, show (127 : Int32).toInt = 127 from by decide]
  omega
/-- A' is A but that each place j of lo .. hi - 1 holds f j -/
def Laid (A A' : Cell) (lo hi : Nat) (f : Nat → Value) : Prop := A'.cls = A.cls ∧ A'.vm = A.vm ∧ A'.slots.size = A.slots.size ∧ ∀ i, A'.slots[i]? = if lo ≤ i ∧ i < hi then some (f i) else A.slots[i]?
theorem Laid.zero (A : Cell) (lo : Nat) (f : Nat → Value) : Laid A A lo (lo + 0) f := ⟨rfl, rfl, rfl, fun i => by rw [if_neg (by omega)]⟩
theorem Laid.step {A Ak : Cell} {lo k : Nat} {f : Nat → Value} {v : Value} (h : Laid A Ak lo k f) (hlo : lo ≤ k) (hk : k < Ak.slots.size) (hv : v = f k) : Laid A (Ak.setSlot k v) lo (k + 1) f := by
  refine ⟨h.1, h.2.1, by simpa [Cell.setSlot] using h.2.2.1, fun i => ?_⟩
  by_cases e : k = i
  · subst e; rw [Cell.slots_setSlot_self v hk, if_pos (by omega), hv]
  · rw [Cell.slots_setSlot_ne v e, h.2.2.2 i]
    by_cases q : lo ≤ i ∧ i < k
    · rw [if_pos q, if_pos (by omega)]
    · rw [if_neg q, if_neg (by omega)]
def U16 : String := "java/lang/StringUTF16"
namespace Cmp5
def yN : MethodName := ⟨"java/lang/StringUTF16", "compress", "([CI[BII)I"⟩
abbrev yB : ByteArray := jdk_52_method_21_code
theorem d0 : decode yB 0 = .ok (.iconst 0, 1) := by decide +kernel
theorem d1 : decode yB 1 = .ok (.istore 5, 2) := by decide +kernel
theorem d3 : decode yB 3 = .ok (.iload 5, 2) := by decide +kernel
theorem d5 : decode yB 5 = .ok (.iload 4, 2) := by decide +kernel
theorem d7 : decode yB 7 = .ok (.if_icmp (.ge) 37, 3) := by decide +kernel
theorem d10 : decode yB 10 = .ok (.aload_n 0, 1) := by decide +kernel
theorem d11 : decode yB 11 = .ok (.iload_n 1, 1) := by decide +kernel
theorem d12 : decode yB 12 = .ok (.caload, 1) := by decide +kernel
theorem d13 : decode yB 13 = .ok (.istore 6, 2) := by decide +kernel
theorem d15 : decode yB 15 = .ok (.iload 6, 2) := by decide +kernel
theorem d17 : decode yB 17 = .ok (.sipush 255, 3) := by decide +kernel
theorem d20 : decode yB 20 = .ok (.if_icmp (.le) 6, 3) := by decide +kernel
theorem d26 : decode yB 26 = .ok (.aload_n 2, 1) := by decide +kernel
theorem d27 : decode yB 27 = .ok (.iload_n 3, 1) := by decide +kernel
theorem d28 : decode yB 28 = .ok (.iload 6, 2) := by decide +kernel
theorem d30 : decode yB 30 = .ok (.i2b, 1) := by decide +kernel
theorem d31 : decode yB 31 = .ok (.bastore, 1) := by decide +kernel
theorem d32 : decode yB 32 = .ok (.iinc 1 1, 3) := by decide +kernel
theorem d35 : decode yB 35 = .ok (.iinc 3 1, 3) := by decide +kernel
theorem d38 : decode yB 38 = .ok (.iinc 5 1, 3) := by decide +kernel
theorem d41 : decode yB 41 = .ok (.goto (-38), 3) := by decide +kernel
theorem d44 : decode yB 44 = .ok (.iload 4, 2) := by decide +kernel
theorem d46 : decode yB 46 = .ok (.ireturn, 1) := by decide +kernel
def site : List Cond := []
def tab : Cond := tabOf yN yB 7 (some .int) site
def P (b : Addr) (A : Cell) (d : Addr) (B : Cell) (o q len : Nat) (args : Array Value) (s : State) : Prop := args = #[.ref b, .int (Int32.ofNat o), .ref d, .int (Int32.ofNat q), .int (Int32.ofNat len)] ∧ Ch b A s ∧ Arr .byte d B s ∧ b ≠ d ∧ o + len ≤ A.slots.size ∧ q + len ≤ B.slots.size ∧ ∀ i, i < len → ¬ 255 < cv A (o + i)
def E (b : Addr) (A : Cell) (d : Addr) (B : Cell) (o q len : Nat) (r : Option Value) (s u : State) : Prop := r = some (.int (Int32.ofNat len)) ∧ ∃ B', Put d B' s u ∧ Laid B B' q (q + len) (fun j => Value.int (lo8 (cv A (o + (j - q)))))
/-- no char of the range above 255: len; the places written hold each char's low byte -/
theorem law (l : Launch) (b : Addr) (A : Cell) (d : Addr) (B : Cell) (o q len : Nat) : Law l yN 5 5 0 0 yB 7 (some .int) site (P b A d B o q len) (E b A d B o q len) (copyLocs d q len) 0 0 := by
  refine Law.of_walk (plainFor_of_name (by decide +kernel)) (by decide +kernel) (by decide +kernel) (by decide) (fun _ _ h => by rw [h.1]; rfl) (fun _ U U' hal hh h => ⟨h.1, h.2.1.mv hal hh, h.2.2.1.mv hal hh, h.2.2.2⟩) (fun r U U' V V' h1 hal h2 h => ⟨h.1, h.2.elim fun B' q => ⟨B', q.1.mv h1 h2, q.2⟩⟩) ?_
  intro p e s m args below meth c s₁ X0 hexec hbytes hml hret hlk hnm hown hh0 W hP
  obtain ⟨rfl, hA, hB, hne, l1, l2, hp⟩ := hP
  have c1 : Steps p.tables e below (s₁.setTop (entryFrame m #[.ref b, .int (Int32.ofNat o), .ref d, .int (Int32.ofNat q), .int (Int32.ofNat len)] 7)) (s₁.setTop (mkF m 0 #[.val (.ref b), .val (.int (Int32.ofNat o)), .val (.ref d), .val (.int (Int32.ofNat q)), .val (.int (Int32.ofNat len)), .unset, .unset] [])) := entry rfl
  have hA0 := hA.1.mv X0.warmed.alike hh0
  have hB0 := hB.mv X0.warmed.alike hh0
  have a31 := hA.1.2.2.2
  have c2 : Steps p.tables e below (s₁.setTop (entryFrame m #[.ref b, .int (Int32.ofNat o), .ref d, .int (Int32.ofNat q), .int (Int32.ofNat len)] 7)) (s₁.setTop (mkF m 3 #[.val (.ref b), .val (.int (Int32.ofNat o)), .val (.ref d), .val (.int (Int32.ofNat q)), .val (.int (Int32.ofNat len)), .val (.int 0), .unset] [])) := c1.trans (by
    refine iconstV X0.here hexec rfl 0 (hb hbytes d0) (by decide) ?_
    refine XS.istore X0.here hexec rfl (hb hbytes d1) rfl rfl ?_
    exact Steps.refl _)
  have loop : ∀ (r i : Nat), i + r = len → ∀ (z : Slot), (z = .unset ∨ ∃ w, z = .val w ∧ w.category = 1) → ∀ (Tl : State) (Bk : Cell), Stand p l e { frames := 0, locals := 0, cells := 0, slots := 0 } s m #[.ref b, .int (Int32.ofNat o), .ref d, .int (Int32.ofNat q), .int (Int32.ofNat len)] below meth c Tl ([] ++ copyLocs d q i) 0 0 → Put d Bk s₁ Tl → Laid B Bk q (q + i) (fun j => Value.int (lo8 (cv A (o + (j - q))))) →
      Steps p.tables e below (s₁.setTop (entryFrame m #[.ref b, .int (Int32.ofNat o), .ref d, .int (Int32.ofNat q), .int (Int32.ofNat len)] 7)) (Tl.setTop (mkF m 3 #[.val (.ref b), .val (.int (Int32.ofNat (o + i))), .val (.ref d), .val (.int (Int32.ofNat (q + i))), .val (.int (Int32.ofNat len)), .val (.int (Int32.ofNat i)), z] [])) → ∃ (T' : State) (B' : Cell) (z' : Slot), Stand p l e { frames := 0, locals := 0, cells := 0, slots := 0 } s m #[.ref b, .int (Int32.ofNat o), .ref d, .int (Int32.ofNat q), .int (Int32.ofNat len)] below meth c T' ([] ++ copyLocs d q len) 0 0 ∧ Put d B' s₁ T' ∧ Laid B B' q (q + len) (fun j => Value.int (lo8 (cv A (o + (j - q))))) ∧
      Steps p.tables e below (s₁.setTop (entryFrame m #[.ref b, .int (Int32.ofNat o), .ref d, .int (Int32.ofNat q), .int (Int32.ofNat len)] 7)) (T'.setTop (mkF m 3 #[.val (.ref b), .val (.int (Int32.ofNat (o + len))), .val (.ref d), .val (.int (Int32.ofNat (q + len))), .val (.int (Int32.ofNat len)), .val (.int (Int32.ofNat len)), z'] [])) := by
    intro r
    induction r with
    | zero =>
      intro i hi z hz Tl Bk Xl pl fl cl
      have hil : i = len := by omega
      rw [hil] at Xl fl cl
      exact ⟨Tl, Bk, z, Xl, pl, fl, cl⟩
    | succ r ih =>
      intro i hi z hz Tl Bk Xl pl fl cl
      have all := X0.warmed.alike.symm.trans Xl.warmed.alike
      have hAl := hA0.keep all (pl.other hne hA0.1)
      have hBk := hB0.like all pl.1 fl.1 fl.2.1 fl.2.2.1
      have hlt : q + i < Bk.slots.size := by rw [fl.2.2.1]; omega
      have c3 : Steps p.tables e below (s₁.setTop (entryFrame m #[.ref b, .int (Int32.ofNat o), .ref d, .int (Int32.ofNat q), .int (Int32.ofNat len)] 7)) (Tl.setTop (mkF m 12 #[.val (.ref b), .val (.int (Int32.ofNat (o + i))), .val (.ref d), .val (.int (Int32.ofNat (q + i))), .val (.int (Int32.ofNat len)), .val (.int (Int32.ofNat i)), z] [.int (Int32.ofNat (o + i)), .ref b])) := cl.trans (by
        refine XS.iload Xl.here hexec rfl (hb hbytes d3) rfl ?_
        refine XS.iload Xl.here hexec rfl (hb hbytes d5) rfl ?_
        refine XS.icmpNo Xl.here hexec rfl (hb hbytes d7) rfl (ii_ge_f (lt32 (by omega) (by omega))) ?_
        refine XS.aloadN Xl.here hexec rfl (hb hbytes d10) rfl rfl ?_
        refine XS.iloadN Xl.here hexec rfl (hb hbytes d11) rfl ?_
        exact Steps.refl _)
      have c4 : Steps p.tables e below (s₁.setTop (entryFrame m #[.ref b, .int (Int32.ofNat o), .ref d, .int (Int32.ofNat q), .int (Int32.ofNat len)] 7)) (Tl.setTop (mkF m 13 #[.val (.ref b), .val (.int (Int32.ofNat (o + i))), .val (.ref d), .val (.int (Int32.ofNat (q + i))), .val (.int (Int32.ofNat len)), .val (.int (Int32.ofNat i)), z] [.int (cv A (o + i))])) := c3.trans (by
        refine Xl.aget hexec hAl rfl (hA.get (i := o + i) (by omega)) rfl rfl (hb hbytes d12) ?_
        exact Steps.refl _)
      have c5 : Steps p.tables e below (s₁.setTop (entryFrame m #[.ref b, .int (Int32.ofNat o), .ref d, .int (Int32.ofNat q), .int (Int32.ofNat len)] 7)) (Tl.setTop (mkF m 15 #[.val (.ref b), .val (.int (Int32.ofNat (o + i))), .val (.ref d), .val (.int (Int32.ofNat (q + i))), .val (.int (Int32.ofNat len)), .val (.int (Int32.ofNat i)), .val (.int (cv A (o + i)))] [])) := c4.trans (by
        refine XS.istoreS Xl.here hexec rfl (hb hbytes d13) rfl rfl hz ?_
        exact Steps.refl _)
      have c6 : Steps p.tables e below (s₁.setTop (entryFrame m #[.ref b, .int (Int32.ofNat o), .ref d, .int (Int32.ofNat q), .int (Int32.ofNat len)] 7)) (Tl.setTop (mkF m 31 #[.val (.ref b), .val (.int (Int32.ofNat (o + i))), .val (.ref d), .val (.int (Int32.ofNat (q + i))), .val (.int (Int32.ofNat len)), .val (.int (Int32.ofNat i)), .val (.int (cv A (o + i)))] [.int (lo8 (cv A (o + i))), .int (Int32.ofNat (q + i)), .ref d])) := c5.trans (by
        refine XS.iload Xl.here hexec rfl (hb hbytes d15) rfl ?_
        refine sipushV Xl.here hexec rfl 255 (hb hbytes d17) (by decide) ?_
        refine XS.icmpYes Xl.here hexec rfl (pc0 := 20) rfl (hb hbytes d20) rfl (ii_le_t (hp i (by omega))) (by decide) rfl ?_
        refine XS.aloadN Xl.here hexec rfl (hb hbytes d26) rfl rfl ?_
        refine XS.iloadN Xl.here hexec rfl (hb hbytes d27) rfl ?_
        refine XS.iload Xl.here hexec rfl (hb hbytes d28) rfl ?_
        refine i2b Xl.here hexec rfl (hb hbytes d30) rfl ?_
        exact Steps.refl _)
      obtain ⟨T7, X7, p7, st7⟩ := Xl.aput hexec hBk rfl hlt rfl (fits_lo8 (cv A (o + i))) (g := (mkF m 31 #[.val (.ref b), .val (.int (Int32.ofNat (o + i))), .val (.ref d), .val (.int (Int32.ofNat (q + i))), .val (.int (Int32.ofNat len)), .val (.int (Int32.ofNat i)), .val (.int (cv A (o + i)))] [.int (lo8 (cv A (o + i))), .int (Int32.ofNat (q + i)), .ref d])) rfl (rest := []) rfl (hb hbytes d31)
      have c8 : Steps p.tables e below (s₁.setTop (entryFrame m #[.ref b, .int (Int32.ofNat o), .ref d, .int (Int32.ofNat q), .int (Int32.ofNat len)] 7)) (T7.setTop (mkF m 32 #[.val (.ref b), .val (.int (Int32.ofNat (o + i))), .val (.ref d), .val (.int (Int32.ofNat (q + i))), .val (.int (Int32.ofNat len)), .val (.int (Int32.ofNat i)), .val (.int (cv A (o + i)))] [])) := c6.trans (st7 _ (Steps.refl _))
      have c9 : Steps p.tables e below (s₁.setTop (entryFrame m #[.ref b, .int (Int32.ofNat o), .ref d, .int (Int32.ofNat q), .int (Int32.ofNat len)] 7)) (T7.setTop (mkF m 3 #[.val (.ref b), .val (.int (Int32.ofNat (o + i) + 1)), .val (.ref d), .val (.int (Int32.ofNat (q + i) + 1)), .val (.int (Int32.ofNat len)), .val (.int (Int32.ofNat i + 1)), .val (.int (cv A (o + i)))] [])) := c8.trans (by
        refine iincV X7.here hexec rfl 1 (hb hbytes d32) (by decide) rfl rfl ?_
        refine iincV X7.here hexec rfl 1 (hb hbytes d35) (by decide) rfl rfl ?_
        refine iincV X7.here hexec rfl 1 (hb hbytes d38) (by decide) rfl rfl ?_
        refine XS.goto X7.here hexec rfl (pc0 := 41) rfl (hb hbytes d41) (by decide) rfl ?_
        exact Steps.refl _)
      have c10 : Steps p.tables e below (s₁.setTop (entryFrame m #[.ref b, .int (Int32.ofNat o), .ref d, .int (Int32.ofNat q), .int (Int32.ofNat len)] 7)) (T7.setTop (mkF m 3 #[.val (.ref b), .val (.int (Int32.ofNat (o + (i + 1)))), .val (.ref d), .val (.int (Int32.ofNat (q + (i + 1)))), .val (.int (Int32.ofNat len)), .val (.int (Int32.ofNat (i + 1))), .val (.int (cv A (o + i)))] [])) := by
        have := c9
        rw [succ32, succ32, succ32] at this
        exact this
      exact ih (i + 1) (by omega) _ (Or.inr ⟨_, rfl, rfl⟩) T7 _ (by rw [copyLocs_step, ← List.append_assoc]; exact X7) (pl.trans p7) (fl.step (by omega) hlt (by simp)) c10
  obtain ⟨T9, B9, z9, X9, p9, f9, g9⟩ := loop len 0 (by omega) .unset (Or.inl rfl) s₁ B (by simpa [copyLocs] using X0) ⟨hB0.1, fun _ _ => rfl, rfl⟩ (Laid.zero _ _ _) c2
  have c11 : Steps p.tables e below (s₁.setTop (entryFrame m #[.ref b, .int (Int32.ofNat o), .ref d, .int (Int32.ofNat q), .int (Int32.ofNat len)] 7)) (T9.setTop (mkF m 46 #[.val (.ref b), .val (.int (Int32.ofNat (o + len))), .val (.ref d), .val (.int (Int32.ofNat (q + len))), .val (.int (Int32.ofNat len)), .val (.int (Int32.ofNat len)), z9] [.int (Int32.ofNat len)])) := g9.trans (by
    refine XS.iload X9.here hexec rfl (hb hbytes d3) rfl ?_
    refine XS.iload X9.here hexec rfl (hb hbytes d5) rfl ?_
    refine XS.icmpYes X9.here hexec rfl (pc0 := 7) rfl (hb hbytes d7) rfl (ii_ge_t (nlt32 (by omega) (Nat.le_refl _))) (by decide) rfl ?_
    refine XS.iload X9.here hexec rfl (hb hbytes d44) rfl ?_
    exact Steps.refl _)
  exact ⟨T9, some (.int (Int32.ofNat len)), _, _, _, X9, by simp, rfl, rfl, (fun h => by cases h), ⟨rfl, B9, p9.from hh0, f9⟩, fun fs hl => c11.trans (X9.ireturnOut hexec hret rfl (Or.inl rfl) (hb hbytes d46) hl)⟩
end Cmp5
namespace Cmp3
def yN : MethodName := ⟨"java/lang/StringUTF16", "compress", "([CII)[B"⟩
abbrev yB : ByteArray := jdk_52_method_16_code
theorem d0 : decode yB 0 = .ok (.iload_n 2, 1) := by decide +kernel
theorem d1 : decode yB 1 = .ok (.newarray .byte, 2) := by decide +kernel
theorem d3 : decode yB 3 = .ok (.astore_n 3, 1) := by decide +kernel
theorem d4 : decode yB 4 = .ok (.aload_n 0, 1) := by decide +kernel
theorem d5 : decode yB 5 = .ok (.iload_n 1, 1) := by decide +kernel
theorem d6 : decode yB 6 = .ok (.aload_n 3, 1) := by decide +kernel
theorem d7 : decode yB 7 = .ok (.iconst 0, 1) := by decide +kernel
theorem d8 : decode yB 8 = .ok (.iload_n 2, 1) := by decide +kernel
theorem d9 : decode yB 9 = .ok (.invokestatic 115, 3) := by decide +kernel
theorem d12 : decode yB 12 = .ok (.istore 4, 2) := by decide +kernel
theorem d14 : decode yB 14 = .ok (.iload 4, 2) := by decide +kernel
theorem d16 : decode yB 16 = .ok (.iload_n 2, 1) := by decide +kernel
theorem d17 : decode yB 17 = .ok (.if_icmp (.eq) 40, 3) := by decide +kernel
theorem d57 : decode yB 57 = .ok (.aload_n 3, 1) := by decide +kernel
theorem d58 : decode yB 58 = .ok (.areturn, 1) := by decide +kernel
def site : List Cond := [.arrayClass .byte, Cmp5.tab] ++ staticW U16 115 Cmp5.yN
def tab : Cond := tabOf yN yB 6 (some (.array .byte)) site
def P (b : Addr) (A : Cell) (o len : Nat) (args : Array Value) (s : State) : Prop := args = #[.ref b, .int (Int32.ofNat o), .int (Int32.ofNat len)] ∧ Ch b A s ∧ o + len ≤ A.slots.size ∧ len ≤ 536870912 ∧ ∀ i, i < len → ¬ 255 < cv A (o + i)
def E (b : Addr) (A : Cell) (o len : Nat) (r : Option Value) (s u : State) : Prop := NewArr .byte "[B" len (fun j => .int (lo8 (cv A (o + j)))) r s u ∧ u.heap.size = s.heap.size + 1
/-- no char of the range above 255: a new byte[] of their low bytes -/
theorem law (l : Launch) (b : Addr) (A : Cell) (o len : Nat) : Law l yN 3 3 1 18 yB 6 (some (.array .byte)) site (P b A o len) (E b A o len) [] 1 len := by
  refine Law.of_walk (plainFor_of_name (by decide +kernel)) (by decide +kernel) (by decide +kernel) (by decide) (fun _ _ h => by rw [h.1]; rfl) (fun _ U U' hal hh h => ⟨h.1, h.2.1.mv hal hh, h.2.2⟩) (fun r U U' V V' h1 hal h2 h => ⟨NewArr.mv r U U' V V' h1 hal h2 h.1, by rw [h1, h2]; exact h.2⟩) ?_
  intro p e s m args below meth c s₁ X0 hexec hbytes hml hret hlk hnm hown hh0 W hP
  obtain ⟨rfl, hA, l1, l2, hp⟩ := hP
  have a31 := hA.1.2.2.2
  have c1 : Steps p.tables e below (s₁.setTop (entryFrame m #[.ref b, .int (Int32.ofNat o), .int (Int32.ofNat len)] 6)) (s₁.setTop (mkF m 0 #[.val (.ref b), .val (.int (Int32.ofNat o)), .val (.int (Int32.ofNat len)), .unset, .unset, .unset] [])) := entry rfl
  have c2 : Steps p.tables e below (s₁.setTop (entryFrame m #[.ref b, .int (Int32.ofNat o), .int (Int32.ofNat len)] 6)) (s₁.setTop (mkF m 1 #[.val (.ref b), .val (.int (Int32.ofNat o)), .val (.int (Int32.ofNat len)), .unset, .unset, .unset] [.int (Int32.ofNat len)])) := c1.trans (by
    refine XS.iloadN X0.here hexec rfl (hb hbytes d0) rfl ?_
    exact Steps.refl _)
  obtain ⟨T3, B3, X3, ba3, bs3, bv3, bh3, bf3, st3⟩ := X0.anew hexec (atype := .byte) (wk W (.arrayClass .byte)) rfl (by show len * 1 ≤ _; omega) (by omega) (g := (mkF m 1 #[.val (.ref b), .val (.int (Int32.ofNat o)), .val (.int (Int32.ofNat len)), .unset, .unset, .unset] [.int (Int32.ofNat len)])) rfl (hb hbytes d1) (rest := []) rfl (Nat.le_refl _) (by show 0 + len ≤ len; omega)
  rw [hh0] at ba3 st3
  have kp3 : XT.Kept s T3 := (XT.Kept.of_eq hh0).push bh3
  have hA3 := hA.keep X3.warmed.alike (kp3 _ _ hA.1.1)
  have hne : b ≠ s.heap.size := hA.1.ne
  have c4 : Steps p.tables e below (s₁.setTop (entryFrame m #[.ref b, .int (Int32.ofNat o), .int (Int32.ofNat len)] 6)) (T3.setTop (mkF m 3 #[.val (.ref b), .val (.int (Int32.ofNat o)), .val (.int (Int32.ofNat len)), .unset, .unset, .unset] [.ref s.heap.size])) := c2.trans (st3 _ (Steps.refl _))
  have c5 : Steps p.tables e below (s₁.setTop (entryFrame m #[.ref b, .int (Int32.ofNat o), .int (Int32.ofNat len)] 6)) (T3.setTop (mkF m 9 #[.val (.ref b), .val (.int (Int32.ofNat o)), .val (.int (Int32.ofNat len)), .val (.ref s.heap.size), .unset, .unset] [.int (Int32.ofNat len), .int 0, .ref s.heap.size, .int (Int32.ofNat o), .ref b])) := c4.trans (by
    refine XS.astoreN X3.here hexec rfl (hb hbytes d3) rfl rfl rfl ?_
    refine XS.aloadN X3.here hexec rfl (hb hbytes d4) rfl rfl ?_
    refine XS.iloadN X3.here hexec rfl (hb hbytes d5) rfl ?_
    refine XS.aloadN X3.here hexec rfl (hb hbytes d6) rfl rfl ?_
    refine iconstV X3.here hexec rfl 0 (hb hbytes d7) (by decide) ?_
    refine XS.iloadN X3.here hexec rfl (hb hbytes d8) rfl ?_
    exact Steps.refl _)
  obtain ⟨v6, T6, X6, E6, g6⟩ := X3.callS hexec (Cmp5.law l b A s.heap.size B3 o 0 len) hown (wks W (staticW U16 115 Cmp5.yN)) (wk W Cmp5.tab) (W := 0) (Nat.le_of_ble_eq_true rfl) (Nat.le_of_ble_eq_true rfl) (Nat.le_refl _) (by show 0 + len + 0 ≤ len; omega) (g := (mkF m 9 #[.val (.ref b), .val (.int (Int32.ofNat o)), .val (.int (Int32.ofNat len)), .val (.ref s.heap.size), .unset, .unset] [.int (Int32.ofNat len), .int (Int32.ofNat 0), .ref s.heap.size, .int (Int32.ofNat o), .ref b])) rfl (by rw [hml]; rfl) c5 (argsL := [.ref b, .int (Int32.ofNat o), .ref s.heap.size, .int (Int32.ofNat 0), .int (Int32.ofNat len)]) (rest := []) rfl rfl (by show 2 * 0 + 0 ≤ _; decide) (hb hbytes d9) (⟨rfl, hA3, ba3, hne, l1, by rw [bs3]; simp, hp⟩)
  obtain ⟨rfl, B6, p6, f6⟩ := E6
  have c7 : Steps p.tables e below (s₁.setTop (entryFrame m #[.ref b, .int (Int32.ofNat o), .int (Int32.ofNat len)] 6)) (T6.setTop (mkF m 12 #[.val (.ref b), .val (.int (Int32.ofNat o)), .val (.int (Int32.ofNat len)), .val (.ref s.heap.size), .unset, .unset] [.int (Int32.ofNat len)])) := g6
  have c8 : Steps p.tables e below (s₁.setTop (entryFrame m #[.ref b, .int (Int32.ofNat o), .int (Int32.ofNat len)] 6)) (T6.setTop (mkF m 58 #[.val (.ref b), .val (.int (Int32.ofNat o)), .val (.int (Int32.ofNat len)), .val (.ref s.heap.size), .val (.int (Int32.ofNat len)), .unset] [.ref s.heap.size])) := c7.trans (by
    refine XS.istore X6.here hexec rfl (hb hbytes d12) rfl rfl ?_
    refine XS.iload X6.here hexec rfl (hb hbytes d14) rfl ?_
    refine XS.iloadN X6.here hexec rfl (hb hbytes d16) rfl ?_
    refine XS.icmpYes X6.here hexec rfl (pc0 := 17) rfl (hb hbytes d17) rfl (ii_eq_t rfl) (by decide) rfl ?_
    refine XS.aloadN X6.here hexec rfl (hb hbytes d57) rfl rfl ?_
    exact Steps.refl _)
  have X8 := X6.wide (L' := []) (cells' := 1) (slots' := len) (fun x hx hlt => by
    simp only [List.nil_append, copyLocs, List.mem_map, List.mem_range] at hx
    obtain ⟨i, -, rfl⟩ := hx
    exact absurd hlt (Nat.lt_irrefl _)) (Nat.le_refl _) (by omega)
  exact ⟨T6, some (.ref s.heap.size), _, _, _, X8, rfl, rfl, rfl, (fun h => by cases h), ⟨⟨rfl, B6, ba3.like (X3.warmed.alike.symm.trans X6.warmed.alike) p6.1 f6.1 f6.2.1 f6.2.2.1, f6.2.1.trans bv3, by rw [X6.warmed.alike.findClass, f6.1]; exact bf3, by rw [f6.2.2.1, bs3]; simp, fun j hj => by rw [f6.2.2.2 j, if_pos (by omega)]; rfl, kp3.put p6 (Nat.le_refl _)⟩, by rw [p6.2.2, bh3, hh0]; simp⟩, fun fs hl => c8.trans (X8.areturnOut hexec rfl hret rfl (hb hbytes d58) hl)⟩
end Cmp3
namespace CodL
def yN : MethodName := ⟨"java/lang/StringUTF16", "coderFromArrayLen", "([BI)B"⟩
abbrev yB : ByteArray := jdk_52_method_15_code
theorem d0 : decode yB 0 = .ok (.iload_n 1, 1) := by decide +kernel
theorem d1 : decode yB 1 = .ok (.aload_n 0, 1) := by decide +kernel
theorem d2 : decode yB 2 = .ok (.arraylength, 1) := by decide +kernel
theorem d3 : decode yB 3 = .ok (.isub, 1) := by decide +kernel
theorem d4 : decode yB 4 = .ok (.bipush 31, 2) := by decide +kernel
theorem d6 : decode yB 6 = .ok (.iushr, 1) := by decide +kernel
theorem d7 : decode yB 7 = .ok (.i2b, 1) := by decide +kernel
theorem d8 : decode yB 8 = .ok (.ireturn, 1) := by decide +kernel
def site : List Cond := []
def tab : Cond := tabOf yN yB 2 (some .byte) site
def P (d : Addr) (B : Cell) (args : Array Value) (s : State) : Prop := args = #[.ref d, .int (Int32.ofNat B.slots.size)] ∧ Arr .byte d B s
def E (r : Option Value) (s u : State) : Prop := XT.PureE (some (.int 0)) r s u
/-- an array as long as the number of chars: LATIN1 -/
theorem law (l : Launch) (d : Addr) (B : Cell) : Law l yN 2 2 0 0 yB 2 (some .byte) site (P d B) E [] 0 0 := by
  refine Law.of_walk (plainFor_of_name (by decide +kernel)) (by decide +kernel) (by decide +kernel) (by decide) (fun _ _ h => by rw [h.1]; rfl) (fun _ U U' hal hh h => ⟨h.1, h.2.mv hal hh⟩) (fun r U U' V V' h1 hal h2 h => XT.PureE.mv r U U' V V' h1 hal h2 h) ?_
  intro p e s m args below meth c s₁ X0 hexec hbytes hml hret hlk hnm hown hh0 W hP
  obtain ⟨rfl, hB⟩ := hP
  have hB0 := hB.mv X0.warmed.alike hh0
  have c1 : Steps p.tables e below (s₁.setTop (entryFrame m #[.ref d, .int (Int32.ofNat B.slots.size)] 2)) (s₁.setTop (mkF m 0 #[.val (.ref d), .val (.int (Int32.ofNat B.slots.size))] [])) := entry rfl
  have c2 : Steps p.tables e below (s₁.setTop (entryFrame m #[.ref d, .int (Int32.ofNat B.slots.size)] 2)) (s₁.setTop (mkF m 2 #[.val (.ref d), .val (.int (Int32.ofNat B.slots.size))] [.ref d, .int (Int32.ofNat B.slots.size)])) := c1.trans (by
    refine XS.iloadN X0.here hexec rfl (hb hbytes d0) rfl ?_
    refine XS.aloadN X0.here hexec rfl (hb hbytes d1) rfl rfl ?_
    exact Steps.refl _)
  have c3 : Steps p.tables e below (s₁.setTop (entryFrame m #[.ref d, .int (Int32.ofNat B.slots.size)] 2)) (s₁.setTop (mkF m 8 #[.val (.ref d), .val (.int (Int32.ofNat B.slots.size))] [.int (lo8 (ushr (Int32.ofNat B.slots.size - Int32.ofNat B.slots.size) 31))])) := c2.trans (by
    refine X0.alen hexec hB0 rfl rfl (hb hbytes d2) ?_
    refine XS.isub X0.here hexec rfl (hb hbytes d3) rfl ?_
    refine bipushV X0.here hexec rfl 31 (hb hbytes d4) (by decide) ?_
    refine iushr X0.here hexec rfl (hb hbytes d6) rfl ?_
    refine i2b X0.here hexec rfl (hb hbytes d7) rfl ?_
    exact Steps.refl _)
  have e0 : lo8 (ushr (Int32.ofNat B.slots.size - Int32.ofNat B.slots.size) 31) = 0 := by rw [Int32.sub_self]; decide
  rw [e0] at c3
  exact ⟨s₁, some (.int 0), _, _, _, X0, rfl, rfl, rfl, (fun h => by cases h), ⟨rfl, hh0⟩, fun fs hl => c3.trans (X0.ireturnOut hexec hret rfl (Or.inr (Or.inr (Or.inl rfl))) (hb hbytes d8) hl)⟩
end CodL
/-- the String at a is Latin-1 over a new byte[] (the heap's one new cell): the low bytes of the len chars of A from o on; every cell but a is kept -/
def Got (a : Addr) (D : Cell) (fV fC : Field) (A : Cell) (o len : Nat) (r : Option Value) (s u : State) : Prop := r = none ∧ ∃ D' V : Cell, Blank "java/lang/String" a D' u ∧ Same D D' [fV.slot, fC.slot] ∧ D'.slots[fV.slot]? = some (.ref s.heap.size) ∧ D'.slots[fC.slot]? = some (.int 0) ∧ Arr .byte s.heap.size V u ∧ V.vm = .none ∧ u.vm.findClass "[B" = some V.cls ∧ V.slots.size = len ∧ (∀ j, j < len → V.slots[j]? = some (.int (lo8 (cv A (o + j))))) ∧ (∀ (y : Addr) (c : Cell), y ≠ a → s.heap[y]? = some c → u.heap[y]? = some c) ∧ u.heap.size = s.heap.size + 1
theorem Got.mv {a : Addr} {D A : Cell} {fV fC : Field} {o len : Nat} : ∀ r (U U' V V' : State), U'.heap = U.heap → V.vm.Alike V'.vm → V'.heap = V.heap → Got a D fV fC A o len r U V → Got a D fV fC A o len r U' V' :=
  fun r U U' V V' h1 hal h2 ⟨e0, D', X, a1, a2, a3, a4, a5, a6, a7, a8, a9, a10, a11⟩ => ⟨e0, D', X, a1.mv hal h2, a2, by rw [h1]; exact a3, a4, by rw [h1]; exact a5.mv hal h2, a6, by rw [hal.findClass]; exact a7, a8, a9, by rw [h1, h2]; exact a10, by rw [h1, h2]; exact a11⟩
namespace New4
def yN : MethodName := ⟨"java/lang/String", "<init>", "([CIILjava/lang/Void;)V"⟩
abbrev yB : ByteArray := jdk_42_method_149_code
theorem d0 : decode yB 0 = .ok (.aload_n 0, 1) := by decide +kernel
theorem d1 : decode yB 1 = .ok (.invokespecial 1, 3) := by decide +kernel
theorem d4 : decode yB 4 = .ok (.iload_n 3, 1) := by decide +kernel
theorem d5 : decode yB 5 = .ok (.ifCond (.ne) 22, 3) := by decide +kernel
theorem d27 : decode yB 27 = .ok (.getstatic 38, 3) := by decide +kernel
theorem d30 : decode yB 30 = .ok (.ifCond (.eq) 28, 3) := by decide +kernel
theorem d33 : decode yB 33 = .ok (.aload_n 1, 1) := by decide +kernel
theorem d34 : decode yB 34 = .ok (.iload_n 2, 1) := by decide +kernel
theorem d35 : decode yB 35 = .ok (.iload_n 3, 1) := by decide +kernel
theorem d36 : decode yB 36 = .ok (.invokestatic 177, 3) := by decide +kernel
theorem d39 : decode yB 39 = .ok (.astore 5, 2) := by decide +kernel
theorem d41 : decode yB 41 = .ok (.aload_n 0, 1) := by decide +kernel
theorem d42 : decode yB 42 = .ok (.aload 5, 2) := by decide +kernel
theorem d44 : decode yB 44 = .ok (.iload_n 3, 1) := by decide +kernel
theorem d45 : decode yB 45 = .ok (.invokestatic 47, 3) := by decide +kernel
theorem d48 : decode yB 48 = .ok (.putfield 15, 3) := by decide +kernel
theorem d51 : decode yB 51 = .ok (.aload_n 0, 1) := by decide +kernel
theorem d52 : decode yB 52 = .ok (.aload 5, 2) := by decide +kernel
theorem d54 : decode yB 54 = .ok (.putfield 9, 3) := by decide +kernel
theorem d57 : decode yB 57 = .ok (.return_, 1) := by decide +kernel
def site : List Cond := [.fieldLink "java/lang/String" 38 "java/lang/String" "COMPACT_STRINGS" "Z", Cmp3.tab, CodL.tab, .laysFinal "java/lang/String" "java/lang/String" "value" "[B", .fieldLink "java/lang/String" 9 "java/lang/String" "value" "[B", .laysFinal "java/lang/String" "java/lang/String" "coder" "B", .fieldLink "java/lang/String" 15 "java/lang/String" "coder" "B"] ++ objW "java/lang/String" 1 ++ staticW "java/lang/String" 177 Cmp3.yN ++ staticW "java/lang/String" 47 CodL.yN
def tab : Cond := tabOf yN yB 6 none site
def P (a : Addr) (D : Cell) (fV fC : Field) (b : Addr) (A : Cell) (z : Int32) (o len : Nat) (args : Array Value) (s : State) : Prop := args = #[.ref a, .ref b, .int (Int32.ofNat o), .int (Int32.ofNat len), .null] ∧ Blank "java/lang/String" a D s ∧ Found "java/lang/String" "value" "[B" fV s ∧ Found "java/lang/String" "coder" "B" fC s ∧ Ch b A s ∧ StaticIs s "java/lang/String" "COMPACT_STRINGS" "Z" (.int z) ∧ ¬ z = 0 ∧ 0 < len ∧ o + len ≤ A.slots.size ∧ len ≤ 536870912 ∧ ∀ i, i < len → ¬ 255 < cv A (o + i)
def E (a : Addr) (D : Cell) (fV fC : Field) (A : Cell) (o len : Nat) (r : Option Value) (s u : State) : Prop := Got a D fV fC A o len r s u
/-- len > 0, no char of the range above 255: a Latin-1 String of their low bytes -/
theorem law (l : Launch) (a : Addr) (D : Cell) (fV fC : Field) (b : Addr) (A : Cell) (z : Int32) (o len : Nat) : Law l yN 5 4 2 35 yB 6 none site (P a D fV fC b A z o len) (E a D fV fC A o len) [⟨a, fC.slot⟩, ⟨a, fV.slot⟩] 1 len := by
  refine Law.of_walk (plainFor_of_name (by decide +kernel)) (by decide +kernel) (by decide +kernel) (by decide) (fun _ _ h => by rw [h.1]; rfl) (fun _ U U' hal hh h => ⟨h.1, h.2.1.mv hal hh, h.2.2.1.al hal, h.2.2.2.1.al hal, h.2.2.2.2.1.mv hal hh, h.2.2.2.2.2.1.there hal hh, h.2.2.2.2.2.2⟩) (fun r U U' V V' h1 hal h2 h => Got.mv r U U' V V' h1 hal h2 h) ?_
  intro p e s m args below meth c s₁ X0 hexec hbytes hml hret hlk hnm hown hh0 W hP
  obtain ⟨rfl, hB, f1, f2, hA, s1, hz, l0, l1, l2, hp⟩ := hP
  have a31 := hA.1.2.2.2
  have c1 : Steps p.tables e below (s₁.setTop (entryFrame m #[.ref a, .ref b, .int (Int32.ofNat o), .int (Int32.ofNat len), .null] 6)) (s₁.setTop (mkF m 0 #[.val (.ref a), .val (.ref b), .val (.int (Int32.ofNat o)), .val (.int (Int32.ofNat len)), .val .null, .unset] [])) := entry rfl
  have c2 : Steps p.tables e below (s₁.setTop (entryFrame m #[.ref a, .ref b, .int (Int32.ofNat o), .int (Int32.ofNat len), .null] 6)) (s₁.setTop (mkF m 1 #[.val (.ref a), .val (.ref b), .val (.int (Int32.ofNat o)), .val (.int (Int32.ofNat len)), .val .null, .unset] [.ref a])) := c1.trans (by
    refine XS.aloadN X0.here hexec rfl (hb hbytes d0) rfl rfl ?_
    exact Steps.refl _)
  obtain ⟨T3, X3, q3, st3⟩ := X0.oinit hexec hown (wks W (objW "java/lang/String" 1)) (g := (mkF m 1 #[.val (.ref a), .val (.ref b), .val (.int (Int32.ofNat o)), .val (.int (Int32.ofNat len)), .val .null, .unset] [.ref a])) rfl (by rw [hml]; rfl) (rest := []) rfl (hb hbytes d1) (W := 0) (by show 2 * 0 + 0 ≤ _; decide) (Nat.le_of_ble_eq_true rfl) (Nat.le_of_ble_eq_true rfl)
  have hh3 := q3.trans hh0
  have c4 : Steps p.tables e below (s₁.setTop (entryFrame m #[.ref a, .ref b, .int (Int32.ofNat o), .int (Int32.ofNat len), .null] 6)) (T3.setTop (mkF m 27 #[.val (.ref a), .val (.ref b), .val (.int (Int32.ofNat o)), .val (.int (Int32.ofNat len)), .val .null, .unset] [])) := (c2.trans (st3 _ (Steps.refl _))).trans (by
    refine XS.iloadN X3.here hexec rfl (hb hbytes d4) rfl ?_
    refine XS.ifYes X3.here hexec rfl (pc0 := 5) rfl (hb hbytes d5) rfl (i0_ne_t (nz32 (by omega) l0)) (by decide) rfl ?_
    exact Steps.refl _)
  obtain ⟨T5, X5, q5, st5⟩ := X3.sget hexec hown (wk W (.fieldLink "java/lang/String" 38 "java/lang/String" "COMPACT_STRINGS" "Z")) s1 (fun _ _ h => by rw [hh3]; exact h) (g := (mkF m 27 #[.val (.ref a), .val (.ref b), .val (.int (Int32.ofNat o)), .val (.int (Int32.ofNat len)), .val .null, .unset] [])) rfl (hb hbytes d27)
  have hh5 := q5.trans hh3
  have c6 : Steps p.tables e below (s₁.setTop (entryFrame m #[.ref a, .ref b, .int (Int32.ofNat o), .int (Int32.ofNat len), .null] 6)) (T5.setTop (mkF m 30 #[.val (.ref a), .val (.ref b), .val (.int (Int32.ofNat o)), .val (.int (Int32.ofNat len)), .val .null, .unset] [.int z])) := c4.trans (st5 _ (Steps.refl _))
  have c7 : Steps p.tables e below (s₁.setTop (entryFrame m #[.ref a, .ref b, .int (Int32.ofNat o), .int (Int32.ofNat len), .null] 6)) (T5.setTop (mkF m 36 #[.val (.ref a), .val (.ref b), .val (.int (Int32.ofNat o)), .val (.int (Int32.ofNat len)), .val .null, .unset] [.int (Int32.ofNat len), .int (Int32.ofNat o), .ref b])) := c6.trans (by
    refine XS.ifNo X5.here hexec rfl (hb hbytes d30) rfl (i0_eq_f hz) ?_
    refine XS.aloadN X5.here hexec rfl (hb hbytes d33) rfl rfl ?_
    refine XS.iloadN X5.here hexec rfl (hb hbytes d34) rfl ?_
    refine XS.iloadN X5.here hexec rfl (hb hbytes d35) rfl ?_
    exact Steps.refl _)
  obtain ⟨v8, T8, X8, E8, g8⟩ := X5.callS hexec (Cmp3.law l b A o len) hown (wks W (staticW "java/lang/String" 177 Cmp3.yN)) (wk W Cmp3.tab) (W := 0) (Nat.le_of_ble_eq_true rfl) (Nat.le_of_ble_eq_true rfl) (Nat.le_refl _) (by show 0 + len ≤ len; omega) (g := (mkF m 36 #[.val (.ref a), .val (.ref b), .val (.int (Int32.ofNat o)), .val (.int (Int32.ofNat len)), .val .null, .unset] [.int (Int32.ofNat len), .int (Int32.ofNat o), .ref b])) rfl (by rw [hml]; rfl) c7 (argsL := [.ref b, .int (Int32.ofNat o), .int (Int32.ofNat len)]) (rest := []) rfl rfl (by show 2 * 0 + 0 ≤ _; decide) (hb hbytes d36) (⟨rfl, hA.mv X5.warmed.alike hh5, l1, l2, hp⟩)
  obtain ⟨e8, z8⟩ := E8
  obtain ⟨rfl, N, n1, n2, n3, n4, n5, n6⟩ := NewArr.mv _ T5 s _ _ hh5.symm (Vm.Alike.refl _) rfl e8
  rw [hh5] at z8
  have hB1 := hB.keep X8.warmed.alike (n6 _ _ hB.1)
  have hne : s.heap.size ≠ a := (Nat.ne_of_lt (Array.getElem?_eq_some_iff.mp hB.1).1).symm
  have c9 : Steps p.tables e below (s₁.setTop (entryFrame m #[.ref a, .ref b, .int (Int32.ofNat o), .int (Int32.ofNat len), .null] 6)) (T8.setTop (mkF m 39 #[.val (.ref a), .val (.ref b), .val (.int (Int32.ofNat o)), .val (.int (Int32.ofNat len)), .val .null, .unset] [.ref s.heap.size])) := g8
  have c10 : Steps p.tables e below (s₁.setTop (entryFrame m #[.ref a, .ref b, .int (Int32.ofNat o), .int (Int32.ofNat len), .null] 6)) (T8.setTop (mkF m 45 #[.val (.ref a), .val (.ref b), .val (.int (Int32.ofNat o)), .val (.int (Int32.ofNat len)), .val .null, .val (.ref s.heap.size)] [.int (Int32.ofNat N.slots.size), .ref s.heap.size, .ref a])) := by
    have hc : Steps p.tables e below (s₁.setTop (entryFrame m #[.ref a, .ref b, .int (Int32.ofNat o), .int (Int32.ofNat len), .null] 6)) (T8.setTop (mkF m 45 #[.val (.ref a), .val (.ref b), .val (.int (Int32.ofNat o)), .val (.int (Int32.ofNat len)), .val .null, .val (.ref s.heap.size)] [.int (Int32.ofNat len), .ref s.heap.size, .ref a])) := c9.trans (by
      refine XS.astore X8.here hexec rfl (hb hbytes d39) rfl rfl rfl ?_
      refine XS.aloadN X8.here hexec rfl (hb hbytes d41) rfl rfl ?_
      refine XS.aload X8.here hexec rfl (hb hbytes d42) rfl rfl ?_
      refine XS.iloadN X8.here hexec rfl (hb hbytes d44) rfl ?_
      exact Steps.refl _)
    rw [n4]; exact hc
  obtain ⟨v11, T11, X11, E11, g11⟩ := X8.callS hexec (CodL.law l s.heap.size N) hown (wks W (staticW "java/lang/String" 47 CodL.yN)) (wk W CodL.tab) (W := 1) (Nat.le_of_ble_eq_true rfl) (Nat.le_of_ble_eq_true rfl) (Nat.le_refl _) (by show 0 + len + 0 ≤ len; omega) (g := (mkF m 45 #[.val (.ref a), .val (.ref b), .val (.int (Int32.ofNat o)), .val (.int (Int32.ofNat len)), .val .null, .val (.ref s.heap.size)] [.int (Int32.ofNat N.slots.size), .ref s.heap.size, .ref a])) rfl (by rw [hml]; rfl) c10 (argsL := [.ref s.heap.size, .int (Int32.ofNat N.slots.size)]) (rest := [.ref a]) rfl rfl (by show 2 * 0 + (1 + 0) ≤ _; decide) (hb hbytes d45) (⟨rfl, n1⟩)
  obtain ⟨rfl, q11⟩ := E11
  have hB11 := hB1.mv (X8.warmed.alike.symm.trans X11.warmed.alike) q11
  have c12 : Steps p.tables e below (s₁.setTop (entryFrame m #[.ref a, .ref b, .int (Int32.ofNat o), .int (Int32.ofNat len), .null] 6)) (T11.setTop (mkF m 48 #[.val (.ref a), .val (.ref b), .val (.int (Int32.ofNat o)), .val (.int (Int32.ofNat len)), .val .null, .val (.ref s.heap.size)] [.int 0, .ref a])) := g11
  obtain ⟨T13, X13, p13, bl13, sl13, st13⟩ := X11.finit hexec hown (wk W (.fieldLink "java/lang/String" 15 "java/lang/String" "coder" "B")) (Or.inr ⟨_, (wk W (.laysFinal "java/lang/String" "java/lang/String" "coder" "B"))⟩) (Or.inl ⟨rfl, hnm⟩) f2 (Or.inl rfl) hB11 (t := .byte) (by decide +kernel) rfl (g := (mkF m 48 #[.val (.ref a), .val (.ref b), .val (.int (Int32.ofNat o)), .val (.int (Int32.ofNat len)), .val .null, .val (.ref s.heap.size)] [.int 0, .ref a])) rfl (rest := []) rfl (hb hbytes d48)
  have c14 : Steps p.tables e below (s₁.setTop (entryFrame m #[.ref a, .ref b, .int (Int32.ofNat o), .int (Int32.ofNat len), .null] 6)) (T13.setTop (mkF m 54 #[.val (.ref a), .val (.ref b), .val (.int (Int32.ofNat o)), .val (.int (Int32.ofNat len)), .val .null, .val (.ref s.heap.size)] [.ref s.heap.size, .ref a])) := (c12.trans (st13 _ (Steps.refl _))).trans (by
    refine XS.aloadN X13.here hexec rfl (hb hbytes d51) rfl rfl ?_
    refine XS.aload X13.here hexec rfl (hb hbytes d52) rfl rfl ?_
    exact Steps.refl _)
  obtain ⟨T15, X15, p15, bl15, sl15, st15⟩ := X13.finit hexec hown (wk W (.fieldLink "java/lang/String" 9 "java/lang/String" "value" "[B")) (Or.inr ⟨_, (wk W (.laysFinal "java/lang/String" "java/lang/String" "value" "[B"))⟩) (Or.inl ⟨rfl, hnm⟩) f1 (Or.inl rfl) bl13 (t := (.array .byte)) (by decide +kernel) rfl (g := (mkF m 54 #[.val (.ref a), .val (.ref b), .val (.int (Int32.ofNat o)), .val (.int (Int32.ofNat len)), .val .null, .val (.ref s.heap.size)] [.ref s.heap.size, .ref a])) rfl (rest := []) rfl (hb hbytes d54)
  have c16 : Steps p.tables e below (s₁.setTop (entryFrame m #[.ref a, .ref b, .int (Int32.ofNat o), .int (Int32.ofNat len), .null] 6)) (T15.setTop (mkF m 57 #[.val (.ref a), .val (.ref b), .val (.int (Int32.ofNat o)), .val (.int (Int32.ofNat len)), .val .null, .val (.ref s.heap.size)] [])) := c14.trans (st15 _ (Steps.refl _))
  have ap := apart (Or.inr ⟨_, (wk W (.laysFinal "java/lang/String" "java/lang/String" "value" "[B"))⟩) (Or.inr ⟨_, (wk W (.laysFinal "java/lang/String" "java/lang/String" "coder" "B"))⟩) f1 f2 (t₁ := .array .byte) (t₂ := .byte) (by decide +kernel) (by decide +kernel) (by decide)
  have al := X8.warmed.alike.symm.trans X15.warmed.alike
  have n7 : T11.heap[s.heap.size]? = some N := by rw [q11]; exact n1.1
  exact ⟨T15, none, _, _, _, X15, by simp, rfl, by omega, (fun _ => rfl), ⟨rfl, _, N, bl15, ((Same.refl D _).set _ (by simp)).set _ (by simp), sl15, (Cell.slots_setSlot_ne _ ap).trans sl13, n1.keep al (p15.other hne (p13.other hne n7)), n2, by rw [al.findClass]; exact n3, n4, n5, fun y c h1 h2 => p15.other h1 (p13.other h1 (by rw [q11]; exact n6 y c h2)), by rw [p15.2.2, p13.2.2, q11]; exact z8⟩, fun fs hl => c16.trans (X15.returnOut hexec hret (hb hbytes d57) hl)⟩
end New4
namespace New1
def yN : MethodName := ⟨"java/lang/String", "<init>", "([C)V"⟩
abbrev yB : ByteArray := jdk_42_method_3_code
theorem d0 : decode yB 0 = .ok (.aload_n 0, 1) := by decide +kernel
theorem d1 : decode yB 1 = .ok (.aload_n 1, 1) := by decide +kernel
theorem d2 : decode yB 2 = .ok (.iconst 0, 1) := by decide +kernel
theorem d3 : decode yB 3 = .ok (.aload_n 1, 1) := by decide +kernel
theorem d4 : decode yB 4 = .ok (.arraylength, 1) := by decide +kernel
theorem d5 : decode yB 5 = .ok (.aconst_null, 1) := by decide +kernel
theorem d6 : decode yB 6 = .ok (.invokespecial 27, 3) := by decide +kernel
theorem d9 : decode yB 9 = .ok (.return_, 1) := by decide +kernel
def site : List Cond := [New4.tab] ++ initW "java/lang/String" 27 New4.yN
def tab : Cond := tabOf yN yB 2 none site
def P (a : Addr) (D : Cell) (fV fC : Field) (b : Addr) (A : Cell) (z : Int32) (args : Array Value) (s : State) : Prop := args = #[.ref a, .ref b] ∧ Blank "java/lang/String" a D s ∧ Found "java/lang/String" "value" "[B" fV s ∧ Found "java/lang/String" "coder" "B" fC s ∧ Ch b A s ∧ StaticIs s "java/lang/String" "COMPACT_STRINGS" "Z" (.int z) ∧ ¬ z = 0 ∧ 0 < A.slots.size ∧ A.slots.size ≤ 536870912 ∧ ∀ i, i < A.slots.size → ¬ 255 < cv A i
def E (a : Addr) (D : Cell) (fV fC : Field) (A : Cell) (r : Option Value) (s u : State) : Prop := Got a D fV fC A 0 A.slots.size r s u
/-- new String(chars), not empty, no char above 255: a Latin-1 String of their low bytes -/
theorem law (l : Launch) (a : Addr) (D : Cell) (fV fC : Field) (b : Addr) (A : Cell) (z : Int32) : Law l yN 2 1 3 52 yB 2 none site (P a D fV fC b A z) (E a D fV fC A) [⟨a, fC.slot⟩, ⟨a, fV.slot⟩] 1 A.slots.size := by
  refine Law.of_walk (plainFor_of_name (by decide +kernel)) (by decide +kernel) (by decide +kernel) (by decide) (fun _ _ h => by rw [h.1]; rfl) (fun _ U U' hal hh h => ⟨h.1, h.2.1.mv hal hh, h.2.2.1.al hal, h.2.2.2.1.al hal, h.2.2.2.2.1.mv hal hh, h.2.2.2.2.2.1.there hal hh, h.2.2.2.2.2.2⟩) (fun r U U' V V' h1 hal h2 h => Got.mv r U U' V V' h1 hal h2 h) ?_
  intro p e s m args below meth c s₁ X0 hexec hbytes hml hret hlk hnm hown hh0 W hP
  obtain ⟨rfl, hB, f1, f2, hA, s1, hz, l0, l2, hp⟩ := hP
  have c1 : Steps p.tables e below (s₁.setTop (entryFrame m #[.ref a, .ref b] 2)) (s₁.setTop (mkF m 0 #[.val (.ref a), .val (.ref b)] [])) := entry rfl
  have c2 : Steps p.tables e below (s₁.setTop (entryFrame m #[.ref a, .ref b] 2)) (s₁.setTop (mkF m 6 #[.val (.ref a), .val (.ref b)] [.null, .int (Int32.ofNat A.slots.size), .int 0, .ref b, .ref a])) := c1.trans (by
    refine XS.aloadN X0.here hexec rfl (hb hbytes d0) rfl rfl ?_
    refine XS.aloadN X0.here hexec rfl (hb hbytes d1) rfl rfl ?_
    refine iconstV X0.here hexec rfl 0 (hb hbytes d2) (by decide) ?_
    refine XS.aloadN X0.here hexec rfl (hb hbytes d3) rfl rfl ?_
    refine X0.alen hexec (hA.1.mv X0.warmed.alike hh0) rfl rfl (hb hbytes d4) ?_
    refine XS.aconstNull X0.here hexec rfl (hb hbytes d5) ?_
    exact Steps.refl _)
  obtain ⟨v3, T3, X3, E3, g3⟩ := X0.callN hexec (New4.law l a D fV fC b A z 0 A.slots.size) rfl hown (wks W (initW "java/lang/String" 27 New4.yN)) (W New4.tab (by simp only [site, List.mem_cons, List.mem_append, true_or, or_true])) (W := 0) (Nat.le_of_ble_eq_true rfl) (Nat.le_of_ble_eq_true rfl) (Nat.le_refl _) (by show 0 + A.slots.size ≤ A.slots.size; omega) (g := (mkF m 6 #[.val (.ref a), .val (.ref b)] [.null, .int (Int32.ofNat A.slots.size), .int (Int32.ofNat 0), .ref b, .ref a])) rfl (by rw [hml]; rfl) c2 (argsL := [.ref b, .int (Int32.ofNat 0), .int (Int32.ofNat A.slots.size), .null]) (rest := []) rfl rfl (by show 2 * 0 + 0 ≤ _; decide) (hb hbytes d6) (⟨rfl, hB.mv X0.warmed.alike hh0, f1.al X0.warmed.alike, f2.al X0.warmed.alike, hA.mv X0.warmed.alike hh0, s1.there X0.warmed.alike hh0, hz, l0, by omega, l2, fun i hi => by rw [Nat.zero_add]; exact hp i hi⟩)
  have e0 := Got.mv _ s₁ s _ _ hh0.symm (Vm.Alike.refl _) rfl E3
  obtain rfl := e0.1
  have c4 : Steps p.tables e below (s₁.setTop (entryFrame m #[.ref a, .ref b] 2)) (T3.setTop (mkF m 9 #[.val (.ref a), .val (.ref b)] [])) := g3
  exact ⟨T3, none, _, _, _, X3, by simp, rfl, by omega, (fun _ => rfl), e0, fun fs hl => c4.trans (X3.returnOut hexec hret (hb hbytes d9) hl)⟩
theorem pays {l : Launch} {R : Room} {p : Program} {e : Env} {below : List Frame} {s : State} {sargs : Array Value} {len W : Nat} (a : Addr) (D : Cell) (fV fC : Field) (b : Addr) (A : Cell) (z : Int32) (htab : tab.before sargs s = true) (hfr : 4 ≤ R.frames) (hlo : W + 65 ≤ R.locals) :
    Back l R p e below s sargs yN len W (fun A₁ a₁ => A₁.cells + 1 ≤ R.cells ∧ A₁.slots + A.slots.size ≤ R.slots ∧ P a D fV fC b A z a₁ A₁.U) (fun A₁ _ v₁ B₁ => E a D fV fC A v₁ A₁.U B₁.U ∧ B₁.locs = A₁.locs ++ [⟨a, fC.slot⟩, ⟨a, fV.slot⟩] ∧ B₁.cells = A₁.cells + 1 ∧ B₁.slots = A₁.slots + A.slots.size) :=
  (law l a D fV fC b A z).pays htab hfr (by omega)
end New1
/-- the byte, read back as charAt reads it, is the char -/
theorem lo8_mask {x : Int32} (h0 : ¬ x < 0) (h1 : ¬ 255 < x) : lo8 x &&& 255 = x := by
  have t : ∀ k : Fin 256, lo8 (Int32.ofNat k.val) &&& 255 = Int32.ofNat k.val := by decide +kernel
  rw [Int32.lt_iff_toInt_lt] at h0 h1
  have e0 : (0 : Int32).toInt = 0 := rfl
  have e1 : (255 : Int32).toInt = 255 := rfl
  obtain ⟨k, hk⟩ : ∃ k : Nat, x.toInt = k := ⟨x.toInt.toNat, by omega⟩
  have hx : x = Int32.ofNat k := Int32.toInt_inj.mp (by rw [hk, Int32.toInt_ofNat_small (by omega)])
  rw [hx]
  exact t ⟨k, by omega⟩
end StrChars
namespace StrChars.Road
open Jvm Sem ClassFile Op Lib Jvm.Stand Jvm.Free Jvm.Free.XT
open Jvm.Lib.Cold (StaticIs)
abbrev ST : String := "java/lang/String"
/-- every table word that New1's law asks, flat -/
abbrev words : List Jvm.Cond := [.code New1.yN New1.yB 2 none, .initialized ST, .methodLink ST 27 New4.yN, .instanceMethod New4.yN,
  .code New4.yN New4.yB 6 none, .fieldLink ST 38 ST "COMPACT_STRINGS" "Z", .laysFinal ST ST "value" "[B", .fieldLink ST 9 ST "value" "[B", .laysFinal ST ST "coder" "B", .fieldLink ST 15 ST "coder" "B",
  .methodLink ST 1 Lib.objectInit, .instanceMethod Lib.objectInit, .code Lib.objectInit ⟨#[0xb1]⟩ 1 none, .methodLink ST 177 Cmp3.yN, .static Cmp3.yN, .methodLink ST 47 CodL.yN, .static CodL.yN,
  .code Cmp3.yN Cmp3.yB 6 (some (.array .byte)), .initialized U16, .arrayClass .byte, .methodLink U16 115 Cmp5.yN, .static Cmp5.yN, .code Cmp5.yN Cmp5.yB 7 (some .int), .code CodL.yN CodL.yB 2 (some .byte)]
theorem tab_of {a : Array Value} {s : State} (h : ∀ w ∈ words, w.before a s = true) : New1.tab.before a s = true := by
  have h5 : Cmp5.tab.before a s = true := unparts (wk h (.code Cmp5.yN Cmp5.yB 7 (some .int))) (wks h (.initialized Cmp5.yN.cls :: Cmp5.site))
  have hc : CodL.tab.before a s = true := unparts (wk h (.code CodL.yN CodL.yB 2 (some .byte))) (wks h (.initialized CodL.yN.cls :: CodL.site))
  have q5 : ∀ w ∈ Cmp5.tab :: words, w.before a s = true := fun w hw => (List.mem_cons.mp hw).elim (fun e => e ▸ h5) (h w)
  have h3 : Cmp3.tab.before a s = true := unparts (wk q5 (.code Cmp3.yN Cmp3.yB 6 (some (.array .byte)))) (wks q5 (.initialized Cmp3.yN.cls :: Cmp3.site))
  have q3 : ∀ w ∈ Cmp3.tab :: CodL.tab :: words, w.before a s = true := fun w hw => (List.mem_cons.mp hw).elim (fun e => e ▸ h3) fun hw => (List.mem_cons.mp hw).elim (fun e => e ▸ hc) (h w)
  have h4 : New4.tab.before a s = true := unparts (wk q3 (.code New4.yN New4.yB 6 none)) (wks q3 (.initialized New4.yN.cls :: New4.site))
  have q4 : ∀ w ∈ New4.tab :: words, w.before a s = true := fun w hw => (List.mem_cons.mp hw).elim (fun e => e ▸ h4) (h w)
  exact unparts (wk q4 (.code New1.yN New1.yB 2 none)) (wks q4 (.initialized New1.yN.cls :: New1.site))
/-- the words ride from the start Z to the walk's own state -/
theorem moved {Z s : State} {a0 args : Array Value} (hZ : Z.Warmed39 s.vm) (hw : ∀ d ∈ words, d.before a0 Z = true) : ∀ d ∈ words, d.before args s = true := fun d hd => by
  have q := hw d hd
  have t : ∀ d ∈ words, d = .arrayClass .byte ∨ (d.onTables && d.keepsFace) = true := by decide +kernel
  rcases t d hd with rfl | t
  · exact RoadKit.mvA hZ q
  · exact RoadKit.mv hZ q t
/-- WHAT COMES BACK, over the tables of the start Z: h the heap at the call, h' behind it -/
def Q (Z : State) (x : Addr) (A : Cell) (h : Heap) (v : Option Value) (h' : Heap) (L : List Loc) : Prop := v = none ∧ (∀ y ∈ L, y.base = x) ∧ RoadKit.Keep h h' [x] ∧ h'.size = h.size + 1 ∧ RoadKit.Exa Z h' x ST ∧ RoadKit.Fld Z h' x ST "value" "[B" (.ref h.size) ∧ RoadKit.Fld Z h' x ST "coder" "B" (.int 0) ∧
  (∃ V : Cell, RoadKit.Arr Z h' h.size V .byte ∧ V.vm = .none ∧ Z.vm.findClass "[B" = some V.cls ∧ V.slots.size = A.slots.size ∧ ∀ j, j < A.slots.size → V.slots[j]? = some (.int (lo8 (cv A j)))) ∧
  ∀ (O n d : String) (w : Value), RoadKit.Fld Z h x O n d w → RoadKit.slotOf Z O n d ≠ RoadKit.slotOf Z ST "value" "[B" → RoadKit.slotOf Z O n d ≠ RoadKit.slotOf Z ST "coder" "B" → RoadKit.Fld Z h' x O n d w
/-- **new String(chars) AT A CALL, IN THE ROAD'S FORM**: for specialBack behind newO: x the fresh String, b the char[] with the cell A -/
theorem back {p : Program} {l : Launch} {e : Env} {R : Room} {s : State} {args : Array Value} {below : List Frame} {len W : Nat} {Z : State} {a0 : Array Value} {h : Heap} (hZ : Z.Warmed39 s.vm) (hw : ∀ d ∈ words, d.before a0 Z = true) {kI : Nat} (wi : (Jvm.Cond.instantiable ST kI).before a0 Z = true)
    {x b : Addr} {A : Cell} {z : Int32} {v0 c0 : Value} (E : RoadKit.Exa Z h x ST) (V : RoadKit.Fld Z h x ST "value" "[B" v0) (C : RoadKit.Fld Z h x ST "coder" "B" c0) (K : RoadKit.Arr Z h b A .char) (hty : Typed .char A) (S : RoadKit.Sta Z h ST "COMPACT_STRINGS" "Z" (.int z)) (hz : ¬ z = 0)
    (l0 : 0 < A.slots.size) (l2 : A.slots.size ≤ 536870912) (hp : ∀ i, i < A.slots.size → ¬ 255 < cv A i) (hfr : 4 ≤ R.frames) (hlo : W + 65 ≤ R.locals) :
    Back l R p e below s args New1.yN len W (fun P a => a = #[.ref x, .ref b] ∧ P.U.heap = h ∧ P.cells + 1 ≤ R.cells ∧ P.slots + A.slots.size ≤ R.slots)
      (fun P _ v B => ∃ L, Q Z x A h v B.U.heap L ∧ B.locs = P.locs ++ L ∧ B.cells = P.cells + 1 ∧ B.slots = P.slots + A.slots.size) := by
  intro m meth c P g ig mk a X hg hsize hdg hW hn hp'
  obtain ⟨rfl, rfl, r1, r2⟩ := hp'
  have al : Z.vm.Alike P.U.vm := hZ.alike.trans X.warmed.alike
  obtain ⟨D, cfV, kV, iV, fV, hD, gV, stV, knV, obV, asV, slV⟩ := id V
  obtain ⟨D', cfC, kC, iC, fC, hD', gC, stC, -, -, asC, slC⟩ := id C
  cases hD.symm.trans hD'
  obtain ⟨D2, kD, e1, e2, e3, e4, e5⟩ := id E
  cases hD.symm.trans e1
  obtain ⟨c2, k2, i1, i2, i3, -⟩ := Cond.instantiable_spec wi
  cases e2.symm.trans i1
  cases e3.symm.trans i2
  obtain ⟨kU, u1, u2⟩ := al.2.2 _ _ e3
  have hB : Blank ST x D P.U := ⟨hD, ⟨knV, fun q hq => by rw [hq] at obV; cases obV⟩, by rw [al.findClass]; exact e2, kU, u1, by rw [u2]; exact i3, by rw [u2]; exact e5 i3⟩
  have F1 : Found ST "value" "[B" fV P.U := ⟨SBG.found_only al ⟨cfV, kV, iV, gV⟩, stV⟩
  have F2 : Found ST "coder" "B" fC P.U := ⟨SBG.found_only al ⟨cfC, kC, iC, gC⟩, stC⟩
  have hA : Ch b A P.U := ⟨⟨K.1, State.isArrayOf_alike al K.2.1, K.2.2, by omega⟩, hty⟩
  have hS : StaticIs P.U ST "COMPACT_STRINGS" "Z" (.int z) := by
    obtain ⟨cfS, iS, kS, fS, st, cS, t1, t2, t3, t4, t5, t6, t7⟩ := S
    exact StaticIs.there (s := { Z with heap := P.U.heap }) ⟨cfS, iS, kS, fS, st, cS, t1, t2, t3, t4, t5, (fun q => by rw [q] at t6; cases t6), t7⟩ al rfl
  obtain ⟨v, B, X', ⟨⟨hv, E', V', q1, q2, q3, q4, q5, q6, q7, q8, q9, q10, q11⟩, hl, hc, hs⟩, st⟩ := New1.pays x D fV fC b A z (tab_of (moved hZ hw)) hfr hlo m meth c P g ig mk _ X hg hsize hdg hW hn ⟨r1, r2, rfl, hB, F1, F2, hA, hS, hz, l0, l2, hp⟩
  have al' : Z.vm.Alike B.U.vm := hZ.alike.trans X'.warmed.alike
  have hsz : E'.slots.size = D.slots.size := by
    obtain ⟨-, -, -, kB, w1, w2, w3⟩ := q1
    obtain ⟨kB', y1, y2⟩ := al'.2.2 _ _ e3
    rw [q2.2.1] at w1
    cases w1.symm.trans y1
    rw [w3, e5 i3, y2]
  refine ⟨v, B, X', ⟨_, ⟨hv, ?_, ⟨by omega, fun y cy hy hn' => q10 y cy (by simpa using hn') hy, fun y cy hy => ?_⟩, q11, ⟨E', _, q1.1, by rw [q2.2.1]; exact e2, by rw [q2.2.1]; exact e3, by rw [q2.1]; exact obV, fun _ => by rw [hsz]; exact e5 i3⟩,
    ⟨E', cfV, kV, iV, fV, q1.1, gV, stV, by rw [q2.1]; exact knV, by rw [q2.1]; exact obV, by rw [q2.2.1]; exact asV, q3⟩, ⟨E', cfC, kC, iC, fC, q1.1, gC, stC, by rw [q2.1]; exact knV, by rw [q2.1]; exact obV, by rw [q2.2.1]; exact asC, q4⟩,
    ⟨V', ⟨q5.1, State.isArrayOf_alike al'.symm q5.2.1, q5.2.2.1⟩, q6, by rw [← al'.findClass]; exact q7, q8, fun j hj => by have := q9 j hj; rwa [Nat.zero_add] at this⟩, fun O n d w F n1 n2 => ?_⟩, hl, hc, hs⟩, st⟩
  · intro y hy
    simp only [List.mem_cons, List.not_mem_nil, or_false] at hy
    rcases hy with rfl | rfl <;> rfl
  · by_cases q : y = x
    · subst q
      cases hD.symm.trans hy
      exact ⟨E', q1.1, q2.2.1, q2.1, hsz⟩
    · exact ⟨cy, q10 y cy q hy, rfl, rfl, rfl⟩
  · obtain ⟨D3, cf, k, i, f, g1, g2, g3, g4, g5, g6, g7⟩ := F
    cases hD.symm.trans g1
    simp only [RoadKit.slotOf, g2, gV, gC, Option.map_some, Option.getD_some] at n1 n2
    exact ⟨E', cf, k, i, f, q1.1, g2, g3, by rw [q2.1]; exact g4, by rw [q2.1]; exact g5, by rw [q2.2.1]; exact g6, by rw [q2.2.2 f.slot (by simp [n1, n2])]; exact g7⟩
end StrChars.Road
namespace StrChars.Road
open Jvm Sem ClassFile Op Lib Jvm.Stand Jvm.Free Jvm.Free.XT
/-- WHAT COMES BACK, the byte[] as a list of values -/
def QA (Z : State) (x : Addr) (zn : Int32) (cs : List Int32) (h : Heap) (v : Option Value) (h' : Heap) (L : List Loc) : Prop := v = none ∧ (∀ y ∈ L, y.base = x) ∧ RoadKit.Keep h h' [x] ∧ h'.size = h.size + 1 ∧ RoadKit.Exa Z h' x ST ∧ RoadKit.Fld Z h' x ST "value" "[B" (.ref h.size) ∧ RoadKit.Fld Z h' x ST "coder" "B" (.int 0) ∧
  (∃ kb, Z.vm.findClass "[B" = some kb ∧ RoadKit.Arv Z h' h.size kb .byte zn (cs.map fun c => .int (lo8 c)) (.int 0)) ∧
  ∀ (O n d : String) (w : Value), RoadKit.Fld Z h x O n d w → RoadKit.slotOf Z O n d ≠ RoadKit.slotOf Z ST "value" "[B" → RoadKit.slotOf Z O n d ≠ RoadKit.slotOf Z ST "coder" "B" → RoadKit.Fld Z h' x O n d w
/-- **new String(chars) AT A CALL, THE ARRAYS AS LISTS**: the char[] at b holds cs, not empty, no char above 255 -/
theorem backArv {p : Program} {l : Launch} {e : Env} {R : Room} {s : State} {args : Array Value} {below : List Frame} {len W : Nat} {Z : State} {a0 : Array Value} {h : Heap} (hZ : Z.Warmed39 s.vm) (hw : ∀ d ∈ words, d.before a0 Z = true) {kI : Nat} (wi : (Jvm.Cond.instantiable ST kI).before a0 Z = true)
    {x b : Addr} {k : ClassId} {zn z : Int32} {cs : List Int32} {dv v0 c0 : Value} (E : RoadKit.Exa Z h x ST) (V : RoadKit.Fld Z h x ST "value" "[B" v0) (C : RoadKit.Fld Z h x ST "coder" "B" c0) (K : RoadKit.Arv Z h b k .char zn (cs.map Value.int) dv) (S : RoadKit.Sta Z h ST "COMPACT_STRINGS" "Z" (.int z)) (hz : ¬ z = 0)
    (hlen : zn.toNatClampNeg = cs.length) (h0 : 0 < cs.length) (hbig : cs.length ≤ 536870912) (hall : ∀ c ∈ cs, ¬ 255 < c) (hfr : 4 ≤ R.frames) (hlo : W + 65 ≤ R.locals) :
    Back l R p e below s args New1.yN len W (fun P a => a = #[.ref x, .ref b] ∧ P.U.heap = h ∧ P.cells + 1 ≤ R.cells ∧ P.slots + cs.length ≤ R.slots)
      (fun P _ v B => ∃ L, QA Z x zn cs h v B.U.heap L ∧ B.locs = P.locs ++ L ∧ B.cells = P.cells + 1 ∧ B.slots = P.slots + cs.length) := by
  obtain ⟨A, K1, K2, K3, K4, K5, K6⟩ := K
  have e : A.slots.size = cs.length := K3.trans hlen
  have hat : ∀ (i : Nat) (hi : i < cs.length), A.slots[i]? = some (.int cs[i]) := fun i hi => by rw [K5 i (by omega)]; simp [List.getD_eq_getElem?_getD, hi]
  have hcv : ∀ (i : Nat) (hi : i < cs.length), cv A i = cs[i] := fun i hi => by unfold cv; rw [hat i hi]
  have hty : Typed .char A := fun i v hv => by
    have hi : i < A.slots.size := (Array.getElem?_eq_some_iff.mp hv).1
    have q := K5 i hi
    rw [hv] at q
    rw [Option.some.inj q]
    exact K6 i hi
  refine Back.mono (back hZ hw wi E V C K1 hty S hz (by omega) (by omega) (fun i hi => by rw [hcv i (by omega)]; exact hall _ (List.getElem_mem _)) hfr hlo) (fun P a hp => ⟨hp.1, hp.2.1, hp.2.2.1, by rw [e]; exact hp.2.2.2⟩) (fun P a v B hp hq => ?_)
  obtain ⟨L, ⟨q1, q2, q3, q4, q5, q6, q7, ⟨V', v1, v2, v3, v4, v5⟩, q9⟩, hl, hc, hs⟩ := hq
  refine ⟨L, ⟨q1, q2, q3, q4, q5, q6, q7, ⟨V'.cls, v3, V', v1, rfl, by rw [v4, e, hlen], K4, fun i hi => ?_, fun i hi => ?_⟩, q9⟩, hl, hc, by rw [hs, e]⟩
  · have hi' : i < cs.length := by omega
    rw [v5 i (by omega), hcv i hi']; simp [List.getD_eq_getElem?_getD, hi']
  · have hi' : i < cs.length := by omega
    simp only [List.getD_eq_getElem?_getD, List.getElem?_map, List.getElem?_eq_getElem hi', Option.map_some, Option.getD_some]
    exact fits_lo8 _
end StrChars.Road
namespace StrChars.Road
open Jvm Sem ClassFile Op Lib Jvm.Stand Jvm.Free Jvm.Free.XT
/-- WHAT COMES BACK, in the writer's own shape -/
def QV (Z : State) (x : Addr) (N : Int32) (bs : List Int32) (h : Heap) (n0 : Nat) (v : Option Value) (h' : Heap) (L : List Loc) : Prop := v = none ∧ RoadKit.Fr n0 L ∧ RoadKit.Keep h h' [x] ∧ RoadKit.Exa Z h' x ST ∧ RoadKit.Fld Z h' x ST "coder" "B" (.int 0) ∧
  ∃ (t : Addr) (kb : ClassId), n0 ≤ t ∧ h.size ≤ t ∧ ¬ t = x ∧ RoadKit.Fld Z h' x ST "value" "[B" (.ref t) ∧ RoadKit.Arv Z h' t kb .byte N (bs.map Value.int) (.int 0)
/-- **new String(chars) AT A CALL, FOR THE WRITER**: a char[] of n known ints, each 0 to 255 -/
theorem backV {p : Program} {l : Launch} {e : Env} {R : Room} {s : State} {args : Array Value} {below : List Frame} {len W : Nat} {Z : State} {a0 : Array Value} {h : Heap} (hZ : Z.Warmed39 s.vm) (hw : ∀ d ∈ words, d.before a0 Z = true) {kI : Nat} (wi : (Jvm.Cond.instantiable ST kI).before a0 Z = true)
    {x b : Addr} {kC : ClassId} {cs bs : List Int32} {d v0 c0 : Value} {z N : Int32} {n n0 : Nat} (hx0 : n0 ≤ x) (hh0 : n0 ≤ h.size) (E : RoadKit.Exa Z h x ST) (V : RoadKit.Fld Z h x ST "value" "[B" v0) (C : RoadKit.Fld Z h x ST "coder" "B" c0) (K : RoadKit.Arv Z h b kC .char N (cs.map Value.int) d) (S : RoadKit.Sta Z h ST "COMPACT_STRINGS" "Z" (.int z)) (hz : ¬ z = 0)
    (hn : cs.length = n) (hN : N = Int32.ofNat n) (l0 : 0 < n) (l2 : n ≤ 4000) (hp : ∀ c ∈ cs, ¬ c < 0 ∧ ¬ (255 : Int32) < c) (hb : bs = cs.map (fun c => c.toInt8.toInt32)) (hfr : 4 ≤ R.frames) (hlo : W + 65 ≤ R.locals) :
    Back l R p e below s args (⟨"java/lang/String", "<init>", "([C)V"⟩ : MethodName) len W (fun P a => a = #[.ref x, .ref b] ∧ P.U.heap = h ∧ P.cells + 1 ≤ R.cells ∧ P.slots + n ≤ R.slots)
      (fun P _ v B => ∃ L, QV Z x N bs h n0 v B.U.heap L ∧ B.locs = P.locs ++ L ∧ B.cells = P.cells + 1 ∧ B.slots = P.slots + n) := by
  subst hn hN hb
  refine Back.mono (backArv hZ hw wi E V C K S hz (n32 (by omega)) l0 (by omega) (fun c hc => (hp c hc).2) hfr hlo) (fun P a hp => hp) (fun P a v B hp hq => ?_)
  obtain ⟨L, ⟨q1, q2, q3, q4, q5, q6, q7, ⟨kb, v1, v2⟩, q9⟩, hl, hc, hs⟩ := hq
  exact ⟨L, ⟨q1, fun y hy => by rw [q2 y hy]; exact hx0, q3, q5, q7, h.size, kb, hh0, Nat.le_refl _, Nat.ne_of_gt E.lt, q6, by rw [List.map_map]; exact v2⟩, hl, hc, hs⟩
end StrChars.Road
namespace StrChars
open Jvm Sem ClassFile Op Lib Jvm.Stand Jvm.Free.XT Jvm.Free.ALB Jvm.Free.JM Jvm.Free
open Jvm.Lib.Cold (StaticIs)
def hi8 (x : Int32) : Int32 := lo8 (x >>> ((8 : Int32) &&& 31))
/-- what StringUTF16.getChar makes of two bytes -/
def pairCh (u v : Int32) : Int32 := (((u &&& 255) <<< ((0 : Int32) &&& 31)) ||| ((v &&& 255) <<< ((8 : Int32) &&& 31))).toUInt32.toUInt16.toUInt32.toInt32
theorem lo8_and (x : Int32) : (lo8 x &&& 255).toBitVec.toNat = x.toBitVec.toNat % 256 := by
  have h : (lo8 x).toBitVec = (x.toBitVec.signExtend 8).signExtend 32 := by rw [lo8, Int8.toBitVec_toInt32, Int32.toBitVec_toInt8]
  rw [Int32.toBitVec_and, BitVec.toNat_and, h]
  have e : ((x.toBitVec.signExtend 8).signExtend 32).toNat % 256 = x.toBitVec.toNat % 256 := by
    rw [BitVec.toNat_signExtend]
    have hlt := x.toBitVec.isLt
    simp only [BitVec.toNat_setWidth, BitVec.toNat_signExtend]
    split <;> split <;> omega
  rw [← e]
  exact Nat.and_two_pow_sub_one_eq_mod _ 8
theorem pair_says {c : Int32} (h0 : ¬ c < 0) (h1 : ¬ 65535 < c) : pairCh (lo8 c) (hi8 c) = c := by
  rw [Int32.lt_iff_toInt_lt] at h0 h1
  have e0 : (0 : Int32).toInt = 0 := rfl
  have e1 : (65535 : Int32).toInt = 65535 := rfl
  have hc : c.toInt = c.toBitVec.toNat := by
    have := c.toBitVec.isLt
    have e : c.toInt = c.toBitVec.toInt := rfl
    rw [e] at h0 h1
    rw [e]
    rw [BitVec.toInt_eq_toNat_cond] at h0 h1 ⊢
    split at h0 <;> split <;> omega
  have hn : c.toBitVec.toNat < 65536 := by omega
  have a1 := lo8_and c
  have a2 : (hi8 c &&& 255).toBitVec.toNat = c.toBitVec.toNat / 256 := by
    rw [hi8, lo8_and]
    have e : ((8 : Int32) &&& 31) = 8 := by decide
    rw [e, Int32.toBitVec_shiftRight]
    have e2 : ((8 : Int32).toBitVec.smod 32) = 8#32 := by decide
    rw [e2, BitVec.sshiftRight_eq', BitVec.toNat_sshiftRight_of_msb_false (by rw [BitVec.msb_eq_false_iff_two_mul_lt]; omega)]
    show c.toBitVec.toNat >>> 8 % 256 = _
    rw [Nat.shiftRight_eq_div_pow]
    omega
  unfold pairCh
  apply Int32.toBitVec_inj.mp
  apply BitVec.eq_of_toNat_eq
  have f0 : ((0 : Int32) &&& 31) = 0 := by decide
  have f8 : ((8 : Int32) &&& 31) = 8 := by decide
  rw [f0, f8]
  have g : (((lo8 c &&& 255) <<< (0 : Int32)) ||| ((hi8 c &&& 255) <<< (8 : Int32))).toBitVec.toNat = c.toBitVec.toNat := by
    rw [Int32.toBitVec_or, Int32.toBitVec_shiftLeft, Int32.toBitVec_shiftLeft]
    have s0 : ((0 : Int32).toBitVec.smod 32) = 0#32 := by decide
    have s8 : ((8 : Int32).toBitVec.smod 32) = 8#32 := by decide
    rw [s0, s8, BitVec.toNat_or]
    simp only [BitVec.shiftLeft_eq', BitVec.toNat_shiftLeft, a1, a2]
    show (c.toBitVec.toNat % 256) <<< 0 % 2 ^ 32 ||| (c.toBitVec.toNat / 256) <<< 8 % 2 ^ 32 = _
    rw [Nat.shiftLeft_zero, Nat.mod_eq_of_lt (show c.toBitVec.toNat % 256 < 2 ^ 32 by omega), Nat.mod_eq_of_lt (show (c.toBitVec.toNat / 256) <<< 8 < 2 ^ 32 by rw [Nat.shiftLeft_eq]; omega), Nat.or_comm, ← Nat.shiftLeft_add_eq_or_of_lt (by omega), Nat.shiftLeft_eq]
    omega
  show BitVec.toNat (((((lo8 c &&& 255) <<< (0 : Int32)) ||| ((hi8 c &&& 255) <<< (8 : Int32))).toBitVec.setWidth 16).setWidth 32) = _
  rw [BitVec.toNat_setWidth, BitVec.toNat_setWidth, g]
  omega
end StrChars
namespace StrChars
open Jvm Sem ClassFile Op Lib Jvm.Stand Jvm.Free.XT Jvm.Free.ALB Jvm.Free.JM Jvm.Free
open Jvm.Lib.Cold (StaticIs)
/-- the array's cell V codes the n chars f 0 .. f (n - 1) by the coder cd, as the JDK does: coder 1 just where some char is above 255 -/
def Cod (cd : Int32) (n : Nat) (f : Nat → Int32) (V : Cell) : Prop := (cd = 0 ∧ V.slots.size = n ∧ ∀ j, j < n → V.slots[j]? = some (.int (lo8 (f j))) ∧ ¬ 255 < f j) ∨ (cd = 1 ∧ V.slots.size = 2 * n ∧ (∀ j, j < n → V.slots[2 * j]? = some (.int (lo8 (f j))) ∧ V.slots[2 * j + 1]? = some (.int (hi8 (f j)))) ∧ ∃ j, j < n ∧ 255 < f j)
/-- **x is a String of the n chars f 0 .. f (n - 1)**, Latin-1 or UTF-16; its array at t has the cell V -/
def Txt (x t : Addr) (V : Cell) (cd : Int32) (n : Nat) (f : Nat → Int32) (U : State) : Prop := Exact "java/lang/String" x U ∧ Has x "java/lang/String" "value" "[B" (.ref t) U ∧ Has x "java/lang/String" "coder" "B" (.int cd) U ∧ XT.Arr .byte t V U ∧ Cod cd n f V ∧ ∀ j, j < n → ¬ f j < 0 ∧ ¬ 65535 < f j
theorem Txt.mv {x t : Addr} {V : Cell} {cd : Int32} {n : Nat} {f : Nat → Int32} {U U' : State} (h : Txt x t V cd n f U) (hal : U.vm.Alike U'.vm) (hh : U'.heap = U.heap) : Txt x t V cd n f U' := ⟨h.1.mv hal hh, h.2.1.mv hal hh, h.2.2.1.mv hal hh, h.2.2.2.1.mv hal hh, h.2.2.2.2⟩
end StrChars
namespace StrChars.Road
open Jvm Sem ClassFile Op Lib Jvm.Stand Jvm.Free Jvm.Free.XT
open Jvm.Lib.Cold (StaticIs)
theorem consq {a : Array Value} {s : State} {c : Jvm.Cond} {L : List Jvm.Cond} (h0 : c.before a s = true) (h : ∀ w ∈ L, w.before a s = true) : ∀ w ∈ c :: L, w.before a s = true := fun w hw => (List.mem_cons.mp hw).elim (fun e => e ▸ h0) (h w)
/-- the bytes of the chars cs, low before high -/
def wideBytes : List Int32 → List Value
  | [] => []
  | c :: cs => .int (lo8 c) :: .int (hi8 c) :: wideBytes cs
theorem wide_lo (d : Value) : ∀ (cs : List Int32) (j : Nat), j < cs.length → (wideBytes cs).getD (2 * j) d = .int (lo8 (cs.getD j 0))
  | [], j, h => absurd h (Nat.not_lt_zero j)
  | c :: cs, 0, _ => rfl
  | c :: cs, j + 1, h => by
    have q := wide_lo d cs j (by simpa using h)
    rw [show 2 * (j + 1) = 2 * j + 1 + 1 from by omega]
    simpa [wideBytes] using q
theorem wide_hi (d : Value) : ∀ (cs : List Int32) (j : Nat), j < cs.length → (wideBytes cs).getD (2 * j + 1) d = .int (hi8 (cs.getD j 0))
  | [], j, h => absurd h (Nat.not_lt_zero j)
  | c :: cs, 0, _ => rfl
  | c :: cs, j + 1, h => by
    have q := wide_hi d cs j (by simpa using h)
    rw [show 2 * (j + 1) + 1 = 2 * j + 1 + 1 + 1 from by omega]
    simpa [wideBytes] using q
theorem low_at (d : Value) (cs : List Int32) (j : Nat) (h : j < cs.length) : (cs.map fun c => Value.int (lo8 c)).getD j d = .int (lo8 (cs.getD j 0)) := by
  simp [List.getD_eq_getElem?_getD, h]
/-- an array of N2 bytes vs codes the chars cs by the coder cd -/
def CodA (cs : List Int32) (cd N2 : Int32) (vs : List Value) : Prop := (cd = 0 ∧ N2 = Int32.ofNat cs.length ∧ vs = (cs.map fun c => Value.int (lo8 c)) ∧ ∀ c ∈ cs, ¬ 255 < c) ∨ (cd = 1 ∧ N2 = Int32.ofNat (2 * cs.length) ∧ vs = wideBytes cs ∧ ∃ c ∈ cs, 255 < c)
theorem CodA.cod {cs : List Int32} {cd N2 : Int32} {vs : List Value} {V : Cell} (h : CodA cs cd N2 vs) (hn : 2 * cs.length < 2 ^ 31) (hs : V.slots.size = N2.toNatClampNeg) (hv : RoadKit.Has V vs (.int 0)) : Cod cd cs.length (fun j => cs.getD j 0) V := by
  rcases h with ⟨rfl, rfl, rfl, h⟩ | ⟨rfl, rfl, rfl, c, hc, hw⟩
  · rw [n32 (by omega)] at hs
    exact Or.inl ⟨rfl, hs, fun j hj => ⟨by rw [hv j (by omega), low_at _ _ _ hj], by
      have e : cs.getD j 0 = cs[j] := by simp [List.getD_eq_getElem?_getD, hj]
      show ¬ 255 < cs.getD j 0
      rw [e]; exact h _ (List.getElem_mem _)⟩⟩
  · rw [n32 (by omega)] at hs
    obtain ⟨j, hj, rfl⟩ := List.getElem_of_mem hc
    exact Or.inr ⟨rfl, hs, fun j hj => ⟨by rw [hv _ (by omega), wide_lo _ _ _ hj], by rw [hv _ (by omega), wide_hi _ _ _ hj]⟩, j, hj, by
      have e : cs.getD j 0 = cs[j] := by simp [List.getD_eq_getElem?_getD, hj]
      show 255 < cs.getD j 0
      rw [e]; exact hw⟩
/-- an object of exactly java/lang/String, its two fields found: as the laws ask it -/
theorem strObj {Z U : State} {a0 : Array Value} {kI : Nat} (wi : (Jvm.Cond.instantiable ST kI).before a0 Z = true) (al : Z.vm.Alike U.vm) {x : Addr} {v0 c0 : Value} (E : RoadKit.Exa Z U.heap x ST) (V : RoadKit.Fld Z U.heap x ST "value" "[B" v0) (C : RoadKit.Fld Z U.heap x ST "coder" "B" c0) :
    ∃ (D : Cell) (fV fC : Field), Blank ST x D U ∧ Found ST "value" "[B" fV U ∧ Found ST "coder" "B" fC U ∧ D.slots[fV.slot]? = some v0 ∧ D.slots[fC.slot]? = some c0 ∧ RoadKit.slotOf Z ST "value" "[B" = fV.slot ∧ RoadKit.slotOf Z ST "coder" "B" = fC.slot := by
  obtain ⟨D, cfV, kV, iV, fV, hD, gV, stV, knV, obV, asV, slV⟩ := V
  obtain ⟨D', cfC, kC, iC, fC, hD', gC, stC, -, -, asC, slC⟩ := C
  cases hD.symm.trans hD'
  obtain ⟨D2, kD, e1, e2, e3, e4, e5⟩ := E
  cases hD.symm.trans e1
  obtain ⟨c2, k2, i1, i2, i3, -⟩ := Cond.instantiable_spec wi
  cases e2.symm.trans i1
  cases e3.symm.trans i2
  obtain ⟨kU, u1, u2⟩ := al.2.2 _ _ e3
  exact ⟨D, fV, fC, ⟨hD, ⟨knV, fun q hq => by rw [hq] at obV; cases obV⟩, by rw [al.findClass]; exact e2, kU, u1, by rw [u2]; exact i3, by rw [u2]; exact e5 i3⟩, ⟨SBG.found_only al ⟨cfV, kV, iV, gV⟩, stV⟩, ⟨SBG.found_only al ⟨cfC, kC, iC, gC⟩, stC⟩, slV, slC, by simp [RoadKit.slotOf, gV], by simp [RoadKit.slotOf, gC]⟩
theorem sta_is {Z U : State} (al : Z.vm.Alike U.vm) {C n d : String} {v : Value} (S : RoadKit.Sta Z U.heap C n d v) : StaticIs U C n d v := by
  obtain ⟨cfS, iS, kS, fS, st, cS, t1, t2, t3, t4, t5, t6, t7⟩ := S
  exact StaticIs.there (s := { Z with heap := U.heap }) ⟨cfS, iS, kS, fS, st, cS, t1, t2, t3, t4, t5, (fun q => by rw [q] at t6; cases t6), t7⟩ al rfl
end StrChars.Road
namespace StrChars
open Jvm Sem ClassFile Op Lib Jvm.Stand Jvm.Free.XT Jvm.Free.ALB Jvm.Free.JM Jvm.Free
open Jvm.Lib.Cold (StaticIs)
/-- what place i of a byte[]'s cell holds -/
def yv (A : Cell) (i : Nat) : Int32 := match A.slots[i]? with | some (.int x) => x | _ => 0
theorem yv_get {a : Addr} {A : Cell} {U : State} (h : XT.Arr .byte a A U) (ht : Typed .byte A) {i : Nat} (hi : i < A.slots.size) : A.slots[i]? = some (.int (yv A i)) := by
  have e := Array.getElem?_eq_getElem hi
  have f := ht i _ e
  unfold yv; rw [e]
  generalize A.slots[i] = v at f
  cases v <;> simp [fits] at f ⊢
/-- the two arrays are equal, place for place -/
def EqC (A B : Cell) : Prop := A.slots.size = B.slots.size ∧ ∀ i, i < A.slots.size → yv A i = yv B i
/-- a boolean that says whether p -/
def Says01 (q : Prop) (r : Option Value) (s u : State) : Prop := ∃ v : Int32, r = some (.int v) ∧ u.heap = s.heap ∧ ((v = 1 ∧ q) ∨ (v = 0 ∧ ¬ q))
theorem Says01.mv {q : Prop} : ∀ r (U U' V V' : State), U'.heap = U.heap → V.vm.Alike V'.vm → V'.heap = V.heap → Says01 q r U V → Says01 q r U' V' :=
  fun r U U' V V' h1 _ h2 ⟨v, a, b, c⟩ => ⟨v, a, by rw [h1, h2]; exact b, c⟩
namespace LEq
def yN : MethodName := ⟨"java/lang/StringLatin1", "equals", "([B[B)Z"⟩
abbrev yB : ByteArray := jdk_43_method_13_code
theorem d0 : decode yB 0 = .ok (.aload_n 0, 1) := by decide +kernel
theorem d1 : decode yB 1 = .ok (.arraylength, 1) := by decide +kernel
theorem d2 : decode yB 2 = .ok (.aload_n 1, 1) := by decide +kernel
theorem d3 : decode yB 3 = .ok (.arraylength, 1) := by decide +kernel
theorem d4 : decode yB 4 = .ok (.if_icmp (.ne) 30, 3) := by decide +kernel
theorem d7 : decode yB 7 = .ok (.iconst 0, 1) := by decide +kernel
theorem d8 : decode yB 8 = .ok (.istore_n 2, 1) := by decide +kernel
theorem d9 : decode yB 9 = .ok (.iload_n 2, 1) := by decide +kernel
theorem d10 : decode yB 10 = .ok (.aload_n 0, 1) := by decide +kernel
theorem d11 : decode yB 11 = .ok (.arraylength, 1) := by decide +kernel
theorem d12 : decode yB 12 = .ok (.if_icmp (.ge) 20, 3) := by decide +kernel
theorem d15 : decode yB 15 = .ok (.aload_n 0, 1) := by decide +kernel
theorem d16 : decode yB 16 = .ok (.iload_n 2, 1) := by decide +kernel
theorem d17 : decode yB 17 = .ok (.baload, 1) := by decide +kernel
theorem d18 : decode yB 18 = .ok (.aload_n 1, 1) := by decide +kernel
theorem d19 : decode yB 19 = .ok (.iload_n 2, 1) := by decide +kernel
theorem d20 : decode yB 20 = .ok (.baload, 1) := by decide +kernel
theorem d21 : decode yB 21 = .ok (.if_icmp (.eq) 5, 3) := by decide +kernel
theorem d24 : decode yB 24 = .ok (.iconst 0, 1) := by decide +kernel
theorem d25 : decode yB 25 = .ok (.ireturn, 1) := by decide +kernel
theorem d26 : decode yB 26 = .ok (.iinc 2 1, 3) := by decide +kernel
theorem d29 : decode yB 29 = .ok (.goto (-20), 3) := by decide +kernel
theorem d32 : decode yB 32 = .ok (.iconst 1, 1) := by decide +kernel
theorem d33 : decode yB 33 = .ok (.ireturn, 1) := by decide +kernel
theorem d34 : decode yB 34 = .ok (.iconst 0, 1) := by decide +kernel
theorem d35 : decode yB 35 = .ok (.ireturn, 1) := by decide +kernel
def site : List Cond := []
def tab : Cond := tabOf yN yB 3 (some .boolean) site
def P (a : Addr) (A : Cell) (b : Addr) (B : Cell) (args : Array Value) (s : State) : Prop := args = #[.ref a, .ref b] ∧ XT.Arr .byte a A s ∧ Typed .byte A ∧ XT.Arr .byte b B s ∧ Typed .byte B
/-- whether two byte[] are equal, place for place -/
theorem law (l : Launch) (a : Addr) (A : Cell) (b : Addr) (B : Cell) : Law l yN 2 2 0 0 yB 3 (some .boolean) site (P a A b B) (Says01 (EqC A B)) [] 0 0 := by
  refine Law.of_walk (plainFor_of_name (by decide +kernel)) (by decide +kernel) (by decide +kernel) (by decide) (fun _ _ h => by rw [h.1]; rfl) (fun _ U U' hal hh h => ⟨h.1, h.2.1.mv hal hh, h.2.2.1, h.2.2.2.1.mv hal hh, h.2.2.2.2⟩) (fun r U U' V V' h1 hal h2 h => Says01.mv r U U' V V' h1 hal h2 h) ?_
  intro p e s m args below meth c s₁ X0 hexec hbytes hml hret hlk hnm hown hh0 W hP
  obtain ⟨rfl, hA, tA, hB, tB⟩ := hP
  have a31 := hA.2.2.2
  have b31 := hB.2.2.2
  have hA0 := hA.mv X0.warmed.alike hh0
  have hB0 := hB.mv X0.warmed.alike hh0
  have c1 : Steps p.tables e below (s₁.setTop (entryFrame m #[.ref a, .ref b] 3)) (s₁.setTop (mkF m 0 #[.val (.ref a), .val (.ref b), .unset] [])) := entry rfl
  have c2 : Steps p.tables e below (s₁.setTop (entryFrame m #[.ref a, .ref b] 3)) (s₁.setTop (mkF m 4 #[.val (.ref a), .val (.ref b), .unset] [.int (Int32.ofNat B.slots.size), .int (Int32.ofNat A.slots.size)])) := c1.trans (by
    refine XS.aloadN X0.here hexec rfl (hb hbytes d0) rfl rfl ?_
    refine X0.alen hexec hA0 rfl rfl (hb hbytes d1) ?_
    refine XS.aloadN X0.here hexec rfl (hb hbytes d2) rfl rfl ?_
    refine X0.alen hexec hB0 rfl rfl (hb hbytes d3) ?_
    exact Steps.refl _)
  by_cases hs : A.slots.size = B.slots.size
  · have c3 : Steps p.tables e below (s₁.setTop (entryFrame m #[.ref a, .ref b] 3)) (s₁.setTop (mkF m 9 #[.val (.ref a), .val (.ref b), .val (.int 0)] [])) := c2.trans (by
      refine XS.icmpNo X0.here hexec rfl (hb hbytes d4) rfl (ii_ne_f (by rw [hs])) ?_
      refine iconstV X0.here hexec rfl 0 (hb hbytes d7) (by decide) ?_
      refine XS.istoreN X0.here hexec rfl (hb hbytes d8) rfl rfl ?_
      exact Steps.refl _)
    have loop : ∀ (r i : Nat), i + r = A.slots.size → (∀ j, j < i → yv A j = yv B j) → Steps p.tables e below (s₁.setTop (entryFrame m #[.ref a, .ref b] 3)) (s₁.setTop (mkF m 9 #[.val (.ref a), .val (.ref b), .val (.int (Int32.ofNat i))] [])) → ∃ (pc : Nat) (Ls : Array Slot) (v : Int32), (pc = 25 ∨ pc = 33) ∧ ((v = 1 ∧ EqC A B) ∨ (v = 0 ∧ ¬ EqC A B)) ∧ Steps p.tables e below (s₁.setTop (entryFrame m #[.ref a, .ref b] 3)) (s₁.setTop (mkF m pc Ls [.int v])) := by
      intro r
      induction r with
      | zero =>
        intro i hi he cl
        exact ⟨33, _, 1, Or.inr rfl, Or.inl ⟨rfl, hs, fun j hj => he j (by omega)⟩, cl.trans (by
          refine XS.iloadN X0.here hexec rfl (hb hbytes d9) rfl ?_
          refine XS.aloadN X0.here hexec rfl (hb hbytes d10) rfl rfl ?_
          refine X0.alen hexec hA0 rfl rfl (hb hbytes d11) ?_
          refine XS.icmpYes X0.here hexec rfl (pc0 := 12) rfl (hb hbytes d12) rfl (ii_ge_t (nlt32 (by omega) (by omega))) (by decide) rfl ?_
          refine iconstV X0.here hexec rfl 1 (hb hbytes d32) (by decide) ?_
          exact Steps.refl _)⟩
      | succ r ih =>
        intro i hi he cl
        have c4 : Steps p.tables e below (s₁.setTop (entryFrame m #[.ref a, .ref b] 3)) (s₁.setTop (mkF m 21 #[.val (.ref a), .val (.ref b), .val (.int (Int32.ofNat i))] [.int (yv B i), .int (yv A i)])) := cl.trans (by
          refine XS.iloadN X0.here hexec rfl (hb hbytes d9) rfl ?_
          refine XS.aloadN X0.here hexec rfl (hb hbytes d10) rfl rfl ?_
          refine X0.alen hexec hA0 rfl rfl (hb hbytes d11) ?_
          refine XS.icmpNo X0.here hexec rfl (hb hbytes d12) rfl (ii_ge_f (lt32 (by omega) (by omega))) ?_
          refine XS.aloadN X0.here hexec rfl (hb hbytes d15) rfl rfl ?_
          refine XS.iloadN X0.here hexec rfl (hb hbytes d16) rfl ?_
          refine X0.aget hexec hA0 rfl (yv_get hA tA (i := i) (by omega)) rfl rfl (hb hbytes d17) ?_
          refine XS.aloadN X0.here hexec rfl (hb hbytes d18) rfl rfl ?_
          refine XS.iloadN X0.here hexec rfl (hb hbytes d19) rfl ?_
          refine X0.aget hexec hB0 rfl (yv_get hB tB (i := i) (by omega)) rfl rfl (hb hbytes d20) ?_
          exact Steps.refl _)
        by_cases hv : yv A i = yv B i
        · have c5 : Steps p.tables e below (s₁.setTop (entryFrame m #[.ref a, .ref b] 3)) (s₁.setTop (mkF m 9 #[.val (.ref a), .val (.ref b), .val (.int (Int32.ofNat i + 1))] [])) := c4.trans (by
            refine XS.icmpYes X0.here hexec rfl (pc0 := 21) rfl (hb hbytes d21) rfl (ii_eq_t hv) (by decide) rfl ?_
            refine iincV X0.here hexec rfl 1 (hb hbytes d26) (by decide) rfl rfl ?_
            refine XS.goto X0.here hexec rfl (pc0 := 29) rfl (hb hbytes d29) (by decide) rfl ?_
            exact Steps.refl _)
          rw [succ32] at c5
          exact ih (i + 1) (by omega) (fun j hj => by
            by_cases e : j = i
            · rw [e]; exact hv
            · exact he j (by omega)) c5
        · exact ⟨25, _, 0, Or.inl rfl, Or.inr ⟨rfl, fun q => hv (q.2 i (by omega))⟩, c4.trans (by
            refine XS.icmpNo X0.here hexec rfl (hb hbytes d21) rfl (ii_eq_f hv) ?_
            refine iconstV X0.here hexec rfl 0 (hb hbytes d24) (by decide) ?_
            exact Steps.refl _)⟩
    obtain ⟨pc, Ls, v, hpc, hv, cz⟩ := loop A.slots.size 0 (by omega) (fun j hj => absurd hj (Nat.not_lt_zero j)) c3
    have nv : narrow .boolean (.int v) = .int v := by rcases hv with ⟨rfl, -⟩ | ⟨rfl, -⟩ <;> rfl
    rcases hpc with rfl | rfl
    · exact ⟨s₁, some (.int v), _, _, _, X0, rfl, rfl, rfl, (fun h => by cases h), ⟨v, rfl, hh0, hv⟩, fun fs hl => cz.trans (X0.ireturnOut hexec hret nv (Or.inr (Or.inl rfl)) (hb hbytes d25) hl)⟩
    · exact ⟨s₁, some (.int v), _, _, _, X0, rfl, rfl, rfl, (fun h => by cases h), ⟨v, rfl, hh0, hv⟩, fun fs hl => cz.trans (X0.ireturnOut hexec hret nv (Or.inr (Or.inl rfl)) (hb hbytes d33) hl)⟩
  · have c3 : Steps p.tables e below (s₁.setTop (entryFrame m #[.ref a, .ref b] 3)) (s₁.setTop (mkF m 35 #[.val (.ref a), .val (.ref b), .unset] [.int 0])) := c2.trans (by
      refine XS.icmpYes X0.here hexec rfl (pc0 := 4) rfl (hb hbytes d4) rfl (ii_ne_t (ne32 a31 b31 hs)) (by decide) rfl ?_
      refine iconstV X0.here hexec rfl 0 (hb hbytes d34) (by decide) ?_
      exact Steps.refl _)
    exact ⟨s₁, some (.int 0), _, _, _, X0, rfl, rfl, rfl, (fun h => by cases h), ⟨0, rfl, hh0, Or.inr ⟨rfl, fun q => hs q.1⟩⟩, fun fs hl => c3.trans (X0.ireturnOut hexec hret rfl (Or.inr (Or.inl rfl)) (hb hbytes d35) hl)⟩
end LEq
theorem Cod.ty {cd : Int32} {n : Nat} {f : Nat → Int32} {V : Cell} (h : Cod cd n f V) : Typed .byte V := fun i v hv => by
  have hi : i < V.slots.size := (Array.getElem?_eq_some_iff.mp hv).1
  rcases h with ⟨-, k1, k2⟩ | ⟨-, k1, k2, -⟩
  · rw [(k2 i (by omega)).1] at hv; cases hv; exact fits_lo8 _
  · rcases Nat.mod_two_eq_zero_or_one i with e | e
    · obtain ⟨j, rfl⟩ : ∃ j, i = 2 * j := ⟨i / 2, by omega⟩
      rw [(k2 j (by omega)).1] at hv; cases hv; exact fits_lo8 _
    · obtain ⟨j, rfl⟩ : ∃ j, i = 2 * j + 1 := ⟨i / 2, by omega⟩
      rw [(k2 j (by omega)).2] at hv; cases hv; exact fits_lo8 _
/-- the same text -/
def SameT (n : Nat) (f : Nat → Int32) (k : Nat) (g : Nat → Int32) : Prop := n = k ∧ ∀ j, j < n → f j = g j
theorem lo8_inj {x y : Int32} (h0 : ¬ x < 0) (h1 : ¬ 255 < x) (k0 : ¬ y < 0) (k1 : ¬ 255 < y) (h : lo8 x = lo8 y) : x = y := by
  rw [← lo8_mask h0 h1, ← lo8_mask k0 k1, h]
/-- arrays coded by one coder are equal just where the texts are -/
theorem Cod.eqv {cd : Int32} {n k : Nat} {f g : Nat → Int32} {V V' : Cell} (h : Cod cd n f V) (h' : Cod cd k g V') (hf : ∀ j, j < n → ¬ f j < 0 ∧ ¬ 65535 < f j) (hg : ∀ j, j < k → ¬ g j < 0 ∧ ¬ 65535 < g j) : EqC V V' ↔ SameT n f k g := by
  have yvv : ∀ {W : Cell} {i : Nat} {x : Int32}, W.slots[i]? = some (.int x) → yv W i = x := fun q => by unfold yv; rw [q]
  rcases h with ⟨rfl, k1, k2⟩ | ⟨rfl, k1, k2, -⟩
  · rcases h' with ⟨-, m1, m2⟩ | ⟨e, -⟩
    · constructor
      · rintro ⟨e1, e2⟩
        refine ⟨by omega, fun j hj => ?_⟩
        have q := e2 j (by omega)
        rw [yvv (k2 j hj).1, yvv (m2 j (by omega)).1] at q
        exact lo8_inj (hf j hj).1 (k2 j hj).2 (hg j (by omega)).1 (m2 j (by omega)).2 q
      · rintro ⟨rfl, e2⟩
        refine ⟨by omega, fun j hj => ?_⟩
        rw [yvv (k2 j (by omega)).1, yvv (m2 j (by omega)).1, e2 j (by omega)]
    · exact absurd e (by decide)
  · rcases h' with ⟨e, -⟩ | ⟨-, m1, m2, -⟩
    · exact absurd e (by decide)
    · constructor
      · rintro ⟨e1, e2⟩
        refine ⟨by omega, fun j hj => ?_⟩
        have q1 := e2 (2 * j) (by omega)
        have q2 := e2 (2 * j + 1) (by omega)
        rw [yvv (k2 j hj).1, yvv (m2 j (by omega)).1] at q1
        rw [yvv (k2 j hj).2, yvv (m2 j (by omega)).2] at q2
        rw [← pair_says (hf j hj).1 (hf j hj).2, ← pair_says (hg j (by omega)).1 (hg j (by omega)).2, q1, q2]
      · rintro ⟨rfl, e2⟩
        refine ⟨by omega, fun i hi => ?_⟩
        rcases Nat.mod_two_eq_zero_or_one i with e | e
        · obtain ⟨j, rfl⟩ : ∃ j, i = 2 * j := ⟨i / 2, by omega⟩
          rw [yvv (k2 j (by omega)).1, yvv (m2 j (by omega)).1, e2 j (by omega)]
        · obtain ⟨j, rfl⟩ : ∃ j, i = 2 * j + 1 := ⟨i / 2, by omega⟩
          rw [yvv (k2 j (by omega)).2, yvv (m2 j (by omega)).2, e2 j (by omega)]
/-- two codings differ: so do the texts -/
theorem Cod.dif {cd cd' : Int32} {n k : Nat} {f g : Nat → Int32} {V V' : Cell} (h : Cod cd n f V) (h' : Cod cd' k g V') (hne : ¬ cd = cd') : ¬ SameT n f k g := by
  rintro ⟨rfl, e⟩
  rcases h with ⟨rfl, -, k2⟩ | ⟨rfl, -, -, j, hj, hw⟩
  · rcases h' with ⟨rfl, -⟩ | ⟨-, -, -, j, hj, hw⟩
    · exact hne rfl
    · exact (k2 j hj).2 (by rw [e j hj]; exact hw)
  · rcases h' with ⟨-, -, m2⟩ | ⟨rfl, -⟩
    · exact (m2 j hj).2 (by rw [← e j hj]; exact hw)
    · exact hne rfl
/-- an object of exactly C is an instance of C -/
theorem cinst {p : Program} {l : Launch} {e : Env} {R : Room} {s : State} {m : MethodId} {args : Array Value} {below : List Frame} {meth : Method} {c : Code} {T : State} {locs : List Loc} {cells slots : Nat} (X : Stand p l e R s m args below meth c T locs cells slots) (hexec : p.tables.exec = Jvm.exec) {own C : String} {index : Nat} (hown : s.vm.findClass own = some m.cls) (hlink : (Cond.classLink own index C).before args s = true) {a : Addr} (hE : Exact C a T)
    {g : JFrame} (hg : g.method = m) {rest : List Value} (hstack : g.stack = .ref a :: rest) (hdg : decode c.code g.pc = .ok (.instanceof index, 3)) :
    ∃ T', Stand p l e R s m args below meth c T' locs cells slots ∧ T'.heap = T.heap ∧ ∀ target, Steps p.tables e below (T'.setTop { g with pc := g.pc + 3, stack := .int 1 :: rest }) target → Steps p.tables e below (T.setTop g) target := by
  obtain ⟨cB, h1, D, h2, h3, h4⟩ := hE
  have h1' : s.vm.findClass C = some cB := by rw [← X.warmed.alike.findClass]; exact h1
  obtain ⟨vm', X', st⟩ := X.instanceofYes hexec hown hlink h2 h4 h1' (by rw [h3]; exact Jvm.Free.SB.assignable_self _ _) hg hstack hdg
  exact ⟨_, X', rfl, st⟩
theorem cself {p : Program} {l : Launch} {e : Env} {R : Room} {s : State} {m : MethodId} {args : Array Value} {below : List Frame} {meth : Method} {c : Code} {T : State} {locs : List Loc} {cells slots : Nat} (X : Stand p l e R s m args below meth c T locs cells slots) (hexec : p.tables.exec = Jvm.exec) {own C : String} {index : Nat} (hown : s.vm.findClass own = some m.cls) (hlink : (Cond.classLink own index C).before args s = true) {a : Addr} (hE : Exact C a T)
    {g : JFrame} (hg : g.method = m) {rest : List Value} (hstack : g.stack = .ref a :: rest) (hdg : decode c.code g.pc = .ok (.checkcast index, 3)) :
    ∃ T', Stand p l e R s m args below meth c T' locs cells slots ∧ T'.heap = T.heap ∧ ∀ target, Steps p.tables e below (T'.setTop { g with pc := g.pc + 3, stack := .ref a :: rest }) target → Steps p.tables e below (T.setTop g) target := by
  obtain ⟨cB, h1, D, h2, h3, h4⟩ := hE
  have h1' : s.vm.findClass C = some cB := by rw [← X.warmed.alike.findClass]; exact h1
  obtain ⟨vm', X', st⟩ := X.checkcastYes hexec hown hlink h2 h4 h1' (by rw [h3]; exact Jvm.Free.SB.assignable_self _ _) hg hstack hdg
  exact ⟨_, X', rfl, fun t h => st t (by rw [← hstack] at h; exact h)⟩
namespace SEq
def yN : MethodName := ⟨"java/lang/String", "equals", "(Ljava/lang/Object;)Z"⟩
abbrev yB : ByteArray := jdk_42_method_66_code
theorem d0 : decode yB 0 = .ok (.aload_n 0, 1) := by decide +kernel
theorem d1 : decode yB 1 = .ok (.aload_n 1, 1) := by decide +kernel
theorem d2 : decode yB 2 = .ok (.if_acmp (.ne) 5, 3) := by decide +kernel
theorem d5 : decode yB 5 = .ok (.iconst 1, 1) := by decide +kernel
theorem d6 : decode yB 6 = .ok (.ireturn, 1) := by decide +kernel
theorem d7 : decode yB 7 = .ok (.aload_n 1, 1) := by decide +kernel
theorem d8 : decode yB 8 = .ok (.instanceof 10, 3) := by decide +kernel
theorem d11 : decode yB 11 = .ok (.ifCond (.eq) 43, 3) := by decide +kernel
theorem d14 : decode yB 14 = .ok (.aload_n 1, 1) := by decide +kernel
theorem d15 : decode yB 15 = .ok (.checkcast 10, 3) := by decide +kernel
theorem d18 : decode yB 18 = .ok (.astore_n 2, 1) := by decide +kernel
theorem d19 : decode yB 19 = .ok (.getstatic 38, 3) := by decide +kernel
theorem d22 : decode yB 22 = .ok (.ifCond (.eq) 14, 3) := by decide +kernel
theorem d25 : decode yB 25 = .ok (.aload_n 0, 1) := by decide +kernel
theorem d26 : decode yB 26 = .ok (.getfield 15, 3) := by decide +kernel
theorem d29 : decode yB 29 = .ok (.aload_n 2, 1) := by decide +kernel
theorem d30 : decode yB 30 = .ok (.getfield 15, 3) := by decide +kernel
theorem d33 : decode yB 33 = .ok (.if_icmp (.ne) 21, 3) := by decide +kernel
theorem d36 : decode yB 36 = .ok (.aload_n 0, 1) := by decide +kernel
theorem d37 : decode yB 37 = .ok (.getfield 9, 3) := by decide +kernel
theorem d40 : decode yB 40 = .ok (.aload_n 2, 1) := by decide +kernel
theorem d41 : decode yB 41 = .ok (.getfield 9, 3) := by decide +kernel
theorem d44 : decode yB 44 = .ok (.invokestatic 541, 3) := by decide +kernel
theorem d47 : decode yB 47 = .ok (.ifCond (.eq) 7, 3) := by decide +kernel
theorem d50 : decode yB 50 = .ok (.iconst 1, 1) := by decide +kernel
theorem d51 : decode yB 51 = .ok (.goto 4, 3) := by decide +kernel
theorem d54 : decode yB 54 = .ok (.iconst 0, 1) := by decide +kernel
theorem d55 : decode yB 55 = .ok (.ireturn, 1) := by decide +kernel
def site : List Cond := [.classLink "java/lang/String" 10 "java/lang/String", .fieldLink "java/lang/String" 38 "java/lang/String" "COMPACT_STRINGS" "Z", .fieldLink "java/lang/String" 15 "java/lang/String" "coder" "B", .fieldLink "java/lang/String" 9 "java/lang/String" "value" "[B", LEq.tab] ++ staticW "java/lang/String" 541 LEq.yN
def tab : Cond := tabOf yN yB 3 (some .boolean) site
def P (x t : Addr) (V : Cell) (cd : Int32) (n : Nat) (f : Nat → Int32) (y t' : Addr) (V' : Cell) (cd' : Int32) (k : Nat) (g : Nat → Int32) (z : Int32) (args : Array Value) (s : State) : Prop := args = #[.ref x, .ref y] ∧ Txt x t V cd n f s ∧ Txt y t' V' cd' k g s ∧ StaticIs s "java/lang/String" "COMPACT_STRINGS" "Z" (.int z) ∧ ¬ z = 0
/-- equals(Object) of two Strings: whether the texts are the same -/
theorem law (l : Launch) (x t : Addr) (V : Cell) (cd : Int32) (n : Nat) (f : Nat → Int32) (y t' : Addr) (V' : Cell) (cd' : Int32) (k : Nat) (g : Nat → Int32) (z : Int32) : Law l yN 2 1 1 14 yB 3 (some .boolean) site (P x t V cd n f y t' V' cd' k g z) (Says01 (SameT n f k g)) [] 0 0 := by
  refine Law.of_walk (plainFor_of_name (by decide +kernel)) (by decide +kernel) (by decide +kernel) (by decide) (fun _ _ h => by rw [h.1]; rfl) (fun _ U U' hal hh h => ⟨h.1, h.2.1.mv hal hh, h.2.2.1.mv hal hh, h.2.2.2.1.there hal hh, h.2.2.2.2⟩) (fun r U U' V V' h1 hal h2 h => Says01.mv r U U' V V' h1 hal h2 h) ?_
  intro p e s m args below meth c s₁ X0 hexec hbytes hml hret hlk hnm hown hh0 W hP
  obtain ⟨rfl, hx, hy, s1, hz⟩ := hP
  have c1 : Steps p.tables e below (s₁.setTop (entryFrame m #[.ref x, .ref y] 3)) (s₁.setTop (mkF m 2 #[.val (.ref x), .val (.ref y), .unset] [.ref y, .ref x])) := Steps.trans (entry rfl) (by
    show Steps p.tables e below (s₁.setTop (mkF m 0 #[.val (.ref x), .val (.ref y), .unset] [])) _
    refine XS.aloadN X0.here hexec rfl (hb hbytes d0) rfl rfl ?_
    refine XS.aloadN X0.here hexec rfl (hb hbytes d1) rfl rfl ?_
    exact Steps.refl _)
  by_cases hxy : x = y
  · have c2 : Steps p.tables e below (s₁.setTop (entryFrame m #[.ref x, .ref y] 3)) (s₁.setTop (mkF m 6 #[.val (.ref x), .val (.ref y), .unset] [.int 1])) := c1.trans (by
      refine acmpNo X0.here hexec rfl (hb hbytes d2) rfl rfl rfl (by simp [acmp, hxy]) ?_
      refine iconstV X0.here hexec rfl 1 (hb hbytes d5) (by decide) ?_
      exact Steps.refl _)
    subst hxy
    have ec : cd = cd' := by
      obtain ⟨D, fd, a1, a2, a3⟩ := hx.2.2.1
      obtain ⟨D', fd', b1, b2, b3⟩ := hy.2.2.1
      cases a1.symm.trans b1
      obtain ⟨q1, q2, q3, q4⟩ := a2.1
      obtain ⟨r1, r2, r3, r4⟩ := b2.1
      cases q4.symm.trans r4
      cases a3.symm.trans b3; rfl
    have et : t = t' := by
      obtain ⟨D, fd, a1, a2, a3⟩ := hx.2.1
      obtain ⟨D', fd', b1, b2, b3⟩ := hy.2.1
      cases a1.symm.trans b1
      obtain ⟨q1, q2, q3, q4⟩ := a2.1
      obtain ⟨r1, r2, r3, r4⟩ := b2.1
      cases q4.symm.trans r4
      cases a3.symm.trans b3; rfl
    subst ec et
    have ev : V = V' := by cases hx.2.2.2.1.1.symm.trans hy.2.2.2.1.1; rfl
    subst ev
    have hs : SameT n f k g := (Cod.eqv hx.2.2.2.2.1 hy.2.2.2.2.1 hx.2.2.2.2.2 hy.2.2.2.2.2).mp ⟨rfl, fun _ _ => rfl⟩
    exact ⟨s₁, some (.int 1), _, _, _, X0, rfl, rfl, rfl, (fun h => by cases h), ⟨1, rfl, hh0, Or.inl ⟨rfl, hs⟩⟩, fun fs hl => c2.trans (X0.ireturnOut hexec hret rfl (Or.inr (Or.inl rfl)) (hb hbytes d6) hl)⟩
  · have c2 : Steps p.tables e below (s₁.setTop (entryFrame m #[.ref x, .ref y] 3)) (s₁.setTop (mkF m 8 #[.val (.ref x), .val (.ref y), .unset] [.ref y])) := c1.trans (by
      refine acmpYes X0.here hexec rfl (pc0 := 2) rfl (hb hbytes d2) rfl rfl rfl (by simp [acmp, hxy]) (by decide) rfl ?_
      refine XS.aloadN X0.here hexec rfl (hb hbytes d7) rfl rfl ?_
      exact Steps.refl _)
    obtain ⟨T3, X3, q3, st3⟩ := cinst X0 hexec hown (wk W (.classLink "java/lang/String" 10 "java/lang/String")) (hy.mv X0.warmed.alike hh0).1 (g := (mkF m 8 #[.val (.ref x), .val (.ref y), .unset] [.ref y])) rfl (rest := []) rfl (hb hbytes d8)
    have hh3 := q3.trans hh0
    have c4 : Steps p.tables e below (s₁.setTop (entryFrame m #[.ref x, .ref y] 3)) (T3.setTop (mkF m 15 #[.val (.ref x), .val (.ref y), .unset] [.ref y])) := (c2.trans (st3 _ (Steps.refl _))).trans (by
      refine XS.ifNo X3.here hexec rfl (hb hbytes d11) rfl (i0_eq_f (by decide)) ?_
      refine XS.aloadN X3.here hexec rfl (hb hbytes d14) rfl rfl ?_
      exact Steps.refl _)
    obtain ⟨T5, X5, q5, st5⟩ := cself X3 hexec hown (wk W (.classLink "java/lang/String" 10 "java/lang/String")) (hy.mv X3.warmed.alike hh3).1 (g := (mkF m 15 #[.val (.ref x), .val (.ref y), .unset] [.ref y])) rfl (rest := []) rfl (hb hbytes d15)
    have hh5 := q5.trans hh3
    have c6 : Steps p.tables e below (s₁.setTop (entryFrame m #[.ref x, .ref y] 3)) (T5.setTop (mkF m 19 #[.val (.ref x), .val (.ref y), .val (.ref y)] [])) := (c4.trans (st5 _ (Steps.refl _))).trans (by
      refine XS.astoreN X5.here hexec rfl (hb hbytes d18) rfl rfl rfl ?_
      exact Steps.refl _)
    obtain ⟨T7, X7, q7, st7⟩ := X5.sget hexec hown (wk W (.fieldLink "java/lang/String" 38 "java/lang/String" "COMPACT_STRINGS" "Z")) s1 (fun _ _ h => by rw [hh5]; exact h) (g := (mkF m 19 #[.val (.ref x), .val (.ref y), .val (.ref y)] [])) rfl (hb hbytes d19)
    have hh7 := q7.trans hh5
    have c8 : Steps p.tables e below (s₁.setTop (entryFrame m #[.ref x, .ref y] 3)) (T7.setTop (mkF m 26 #[.val (.ref x), .val (.ref y), .val (.ref y)] [.ref x])) := (c6.trans (st7 _ (Steps.refl _))).trans (by
      refine XS.ifNo X7.here hexec rfl (hb hbytes d22) rfl (i0_eq_f hz) ?_
      refine XS.aloadN X7.here hexec rfl (hb hbytes d25) rfl rfl ?_
      exact Steps.refl _)
    obtain ⟨T9, X9, q9, st9⟩ := X7.hget hexec hown (wk W (.fieldLink "java/lang/String" 15 "java/lang/String" "coder" "B")) (hx.mv X7.warmed.alike hh7).2.2.1 (g := (mkF m 26 #[.val (.ref x), .val (.ref y), .val (.ref y)] [.ref x])) rfl (rest := []) rfl (hb hbytes d26)
    have hh9 := q9.trans hh7
    have c10 : Steps p.tables e below (s₁.setTop (entryFrame m #[.ref x, .ref y] 3)) (T9.setTop (mkF m 30 #[.val (.ref x), .val (.ref y), .val (.ref y)] [.ref y, .int cd])) := (c8.trans (st9 _ (Steps.refl _))).trans (by
      refine XS.aloadN X9.here hexec rfl (hb hbytes d29) rfl rfl ?_
      exact Steps.refl _)
    obtain ⟨T11, X11, q11, st11⟩ := X9.hget hexec hown (wk W (.fieldLink "java/lang/String" 15 "java/lang/String" "coder" "B")) (hy.mv X9.warmed.alike hh9).2.2.1 (g := (mkF m 30 #[.val (.ref x), .val (.ref y), .val (.ref y)] [.ref y, .int cd])) rfl (rest := [.int cd]) rfl (hb hbytes d30)
    have hh11 := q11.trans hh9
    have c12 : Steps p.tables e below (s₁.setTop (entryFrame m #[.ref x, .ref y] 3)) (T11.setTop (mkF m 33 #[.val (.ref x), .val (.ref y), .val (.ref y)] [.int cd', .int cd])) := c10.trans (st11 _ (Steps.refl _))
    by_cases hcd : cd = cd'
    · subst hcd
      have c13 : Steps p.tables e below (s₁.setTop (entryFrame m #[.ref x, .ref y] 3)) (T11.setTop (mkF m 37 #[.val (.ref x), .val (.ref y), .val (.ref y)] [.ref x])) := c12.trans (by
        refine XS.icmpNo X11.here hexec rfl (hb hbytes d33) rfl (ii_ne_f rfl) ?_
        refine XS.aloadN X11.here hexec rfl (hb hbytes d36) rfl rfl ?_
        exact Steps.refl _)
      obtain ⟨T14, X14, q14, st14⟩ := X11.hget hexec hown (wk W (.fieldLink "java/lang/String" 9 "java/lang/String" "value" "[B")) (hx.mv X11.warmed.alike hh11).2.1 (g := (mkF m 37 #[.val (.ref x), .val (.ref y), .val (.ref y)] [.ref x])) rfl (rest := []) rfl (hb hbytes d37)
      have hh14 := q14.trans hh11
      have c15 : Steps p.tables e below (s₁.setTop (entryFrame m #[.ref x, .ref y] 3)) (T14.setTop (mkF m 41 #[.val (.ref x), .val (.ref y), .val (.ref y)] [.ref y, .ref t])) := (c13.trans (st14 _ (Steps.refl _))).trans (by
        refine XS.aloadN X14.here hexec rfl (hb hbytes d40) rfl rfl ?_
        exact Steps.refl _)
      obtain ⟨T16, X16, q16, st16⟩ := X14.hget hexec hown (wk W (.fieldLink "java/lang/String" 9 "java/lang/String" "value" "[B")) (hy.mv X14.warmed.alike hh14).2.1 (g := (mkF m 41 #[.val (.ref x), .val (.ref y), .val (.ref y)] [.ref y, .ref t])) rfl (rest := [.ref t]) rfl (hb hbytes d41)
      have hh16 := q16.trans hh14
      have c17 : Steps p.tables e below (s₁.setTop (entryFrame m #[.ref x, .ref y] 3)) (T16.setTop (mkF m 44 #[.val (.ref x), .val (.ref y), .val (.ref y)] [.ref t', .ref t])) := c15.trans (st16 _ (Steps.refl _))
      obtain ⟨v18, T18, X18, E18, g18⟩ := X16.callS hexec (LEq.law l t V t' V') hown (wks W (staticW "java/lang/String" 541 LEq.yN)) (wk W LEq.tab) (W := 0) (Nat.le_of_ble_eq_true rfl) (Nat.le_of_ble_eq_true rfl) (Nat.le_refl _) (Nat.le_refl _) (g := (mkF m 44 #[.val (.ref x), .val (.ref y), .val (.ref y)] [.ref t', .ref t])) rfl (by rw [hml]; rfl) c17 (argsL := [.ref t, .ref t']) (rest := []) rfl rfl (by show 2 * 0 + 0 ≤ _; decide) (hb hbytes d44) (⟨rfl, hx.2.2.2.1.mv X16.warmed.alike hh16, hx.2.2.2.2.1.ty, hy.2.2.2.1.mv X16.warmed.alike hh16, hy.2.2.2.2.1.ty⟩)
      obtain ⟨v, rfl, q18, hv⟩ := E18
      have iff := Cod.eqv hx.2.2.2.2.1 hy.2.2.2.2.1 hx.2.2.2.2.2 hy.2.2.2.2.2
      rcases hv with ⟨rfl, he⟩ | ⟨rfl, he⟩
      · have c19 : Steps p.tables e below (s₁.setTop (entryFrame m #[.ref x, .ref y] 3)) (T18.setTop (mkF m 55 #[.val (.ref x), .val (.ref y), .val (.ref y)] [.int 1])) := Steps.trans g18 (by
          refine XS.ifNo X18.here hexec rfl (hb hbytes d47) rfl (i0_eq_f (by decide)) ?_
          refine iconstV X18.here hexec rfl 1 (hb hbytes d50) (by decide) ?_
          refine XS.goto X18.here hexec rfl (pc0 := 51) rfl (hb hbytes d51) (by decide) rfl ?_
          exact Steps.refl _)
        exact ⟨T18, some (.int 1), _, _, _, X18, rfl, rfl, rfl, (fun h => by cases h), ⟨1, rfl, q18.trans hh16, Or.inl ⟨rfl, iff.mp he⟩⟩, fun fs hl => c19.trans (X18.ireturnOut hexec hret rfl (Or.inr (Or.inl rfl)) (hb hbytes d55) hl)⟩
      · have c19 : Steps p.tables e below (s₁.setTop (entryFrame m #[.ref x, .ref y] 3)) (T18.setTop (mkF m 55 #[.val (.ref x), .val (.ref y), .val (.ref y)] [.int 0])) := Steps.trans g18 (by
          refine XS.ifYes X18.here hexec rfl (pc0 := 47) rfl (hb hbytes d47) rfl (i0_eq_t rfl) (by decide) rfl ?_
          refine iconstV X18.here hexec rfl 0 (hb hbytes d54) (by decide) ?_
          exact Steps.refl _)
        exact ⟨T18, some (.int 0), _, _, _, X18, rfl, rfl, rfl, (fun h => by cases h), ⟨0, rfl, q18.trans hh16, Or.inr ⟨rfl, fun q => he (iff.mpr q)⟩⟩, fun fs hl => c19.trans (X18.ireturnOut hexec hret rfl (Or.inr (Or.inl rfl)) (hb hbytes d55) hl)⟩
    · have c13 : Steps p.tables e below (s₁.setTop (entryFrame m #[.ref x, .ref y] 3)) (T11.setTop (mkF m 55 #[.val (.ref x), .val (.ref y), .val (.ref y)] [.int 0])) := c12.trans (by
        refine XS.icmpYes X11.here hexec rfl (pc0 := 33) rfl (hb hbytes d33) rfl (ii_ne_t hcd) (by decide) rfl ?_
        refine iconstV X11.here hexec rfl 0 (hb hbytes d54) (by decide) ?_
        exact Steps.refl _)
      exact ⟨T11, some (.int 0), _, _, _, X11, rfl, rfl, rfl, (fun h => by cases h), ⟨0, rfl, hh11, Or.inr ⟨rfl, Cod.dif hx.2.2.2.2.1 hy.2.2.2.2.1 hcd⟩⟩, fun fs hl => c13.trans (X11.ireturnOut hexec hret rfl (Or.inr (Or.inl rfl)) (hb hbytes d55) hl)⟩
theorem pays {l : Launch} {R : Room} {p : Program} {e : Env} {below : List Frame} {s : State} {sargs : Array Value} {len W : Nat} (x t : Addr) (V : Cell) (cd : Int32) (n : Nat) (f : Nat → Int32) (y t' : Addr) (V' : Cell) (cd' : Int32) (k : Nat) (g : Nat → Int32) (z : Int32) (htab : tab.before sargs s = true) (hfr : 2 ≤ R.frames) (hlo : W + 28 ≤ R.locals) :
    Back l R p e below s sargs yN len W (fun A₁ a₁ => A₁.cells + 0 ≤ R.cells ∧ A₁.slots + 0 ≤ R.slots ∧ P x t V cd n f y t' V' cd' k g z a₁ A₁.U) (fun A₁ _ v₁ B₁ => Says01 (SameT n f k g) v₁ A₁.U B₁.U ∧ B₁.locs = A₁.locs ++ [] ∧ B₁.cells = A₁.cells + 0 ∧ B₁.slots = A₁.slots + 0) :=
  (law l x t V cd n f y t' V' cd' k g z).pays htab hfr (by omega)
end SEq
end StrChars
namespace StrChars.Road
open Jvm Sem ClassFile Op Lib Jvm.Stand Jvm.Free Jvm.Free.XT
open Jvm.Lib.Cold (StaticIs)
/-- the words of String.equals(Object) -/
abbrev wordsEq : List Jvm.Cond := [.code SEq.yN SEq.yB 3 (some .boolean), .initialized ST, .classLink ST 10 ST, .fieldLink ST 38 ST "COMPACT_STRINGS" "Z", .fieldLink ST 15 ST "coder" "B", .fieldLink ST 9 ST "value" "[B", .methodLink ST 541 LEq.yN, .static LEq.yN, .code LEq.yN LEq.yB 3 (some .boolean), .initialized "java/lang/StringLatin1"]
theorem tabEq_of {a : Array Value} {s : State} (h : ∀ w ∈ wordsEq, w.before a s = true) : SEq.tab.before a s = true := by
  have hl : LEq.tab.before a s = true := unparts (wk h (.code LEq.yN LEq.yB 3 (some .boolean))) (wks h (.initialized LEq.yN.cls :: LEq.site))
  have q := consq hl h
  exact unparts (wk q (.code SEq.yN SEq.yB 3 (some .boolean))) (wks q (.initialized SEq.yN.cls :: SEq.site))
theorem movedEq {Z s : State} {a0 args : Array Value} (hZ : Z.Warmed39 s.vm) (hw : ∀ d ∈ wordsEq, d.before a0 Z = true) : ∀ d ∈ wordsEq, d.before args s = true := fun d hd => by
  have t : ∀ d ∈ wordsEq, (d.onTables && d.keepsFace) = true := by decide +kernel
  exact RoadKit.mv hZ (hw d hd) (t d hd)
/-- the road's facts of a String, as the laws ask it -/
theorem txt_of {Z U : State} {a0 : Array Value} {kI : Nat} (wi : (Jvm.Cond.instantiable ST kI).before a0 Z = true) (al : Z.vm.Alike U.vm) {x t : Addr} {kb : ClassId} {cs : List Int32} {cd N2 : Int32} {vs : List Value} (E : RoadKit.Exa Z U.heap x ST) (V : RoadKit.Fld Z U.heap x ST "value" "[B" (.ref t)) (C : RoadKit.Fld Z U.heap x ST "coder" "B" (.int cd)) (K : RoadKit.Arv Z U.heap t kb .byte N2 vs (.int 0)) (hc : CodA cs cd N2 vs) (hb : ∀ c ∈ cs, ¬ c < 0 ∧ ¬ (65535 : Int32) < c) (l2 : cs.length ≤ 4000) :
    ∃ A, Txt x t A cd cs.length (fun j => cs.getD j 0) U := by
  obtain ⟨A, K1, K2, K3, K4, K5, K6⟩ := K
  have hcod := hc.cod (by omega) K3 K5
  obtain ⟨D, fV, fC, hB, F1, F2, g1, g2, -, -⟩ := strObj wi al E V C
  exact ⟨A, ⟨_, hB.2.2.1, D, hB.1, rfl, by cases q : D.vm <;> first | rfl | exact absurd q (hB.2.1.2 _)⟩, Has.of hB F1 g1, Has.of hB F2 g2, ⟨K1.1, State.isArrayOf_alike al K1.2.1, K1.2.2, by rcases hcod with ⟨-, q, -⟩ | ⟨-, q, -⟩ <;> omega⟩, hcod, fun j hj => by
    have e : cs.getD j 0 = cs[j] := by simp [List.getD_eq_getElem?_getD, hj]
    show ¬ cs.getD j 0 < 0 ∧ ¬ 65535 < cs.getD j 0
    rw [e]; exact hb _ (List.getElem_mem _)⟩
theorem same_list (cs ds : List Int32) : SameT cs.length (fun j => cs.getD j 0) ds.length (fun j => ds.getD j 0) ↔ cs = ds := by
  constructor
  · rintro ⟨e, q⟩
    refine List.ext_getElem e fun j h1 h2 => ?_
    have := q j h1
    simpa [List.getD_eq_getElem?_getD, h1, h2] using this
  · rintro rfl
    exact ⟨rfl, fun _ _ => rfl⟩
/-- **equals(Object) OF TWO SUCH STRINGS**: 1 just where the chars are the same -/
theorem eqW {p : Program} {l : Launch} {e : Env} {R : Room} {s : State} {args : Array Value} {below : List Frame} {len W : Nat} {Z : State} {a0 : Array Value} {h : Heap} (hZ : Z.Warmed39 s.vm) (hw : ∀ d ∈ wordsEq, d.before a0 Z = true) {kI : Nat} (wi : (Jvm.Cond.instantiable ST kI).before a0 Z = true)
    {x t : Addr} {kb : ClassId} {cs : List Int32} {cd N2 : Int32} {vs : List Value} (E : RoadKit.Exa Z h x ST) (V : RoadKit.Fld Z h x ST "value" "[B" (.ref t)) (C : RoadKit.Fld Z h x ST "coder" "B" (.int cd)) (K : RoadKit.Arv Z h t kb .byte N2 vs (.int 0)) (hc : CodA cs cd N2 vs) (hb : ∀ c ∈ cs, ¬ c < 0 ∧ ¬ (65535 : Int32) < c) (l2 : cs.length ≤ 4000)
    {y t' : Addr} {kb' : ClassId} {ds : List Int32} {cd' N2' : Int32} {vs' : List Value} (E' : RoadKit.Exa Z h y ST) (V' : RoadKit.Fld Z h y ST "value" "[B" (.ref t')) (C' : RoadKit.Fld Z h y ST "coder" "B" (.int cd')) (K' : RoadKit.Arv Z h t' kb' .byte N2' vs' (.int 0)) (hc' : CodA ds cd' N2' vs') (hb' : ∀ c ∈ ds, ¬ c < 0 ∧ ¬ (65535 : Int32) < c) (l2' : ds.length ≤ 4000)
    {z : Int32} (S : RoadKit.Sta Z h ST "COMPACT_STRINGS" "Z" (.int z)) (hz : ¬ z = 0) (hfr : 2 ≤ R.frames) (hlo : W + 28 ≤ R.locals) :
    Back l R p e below s args (⟨"java/lang/String", "equals", "(Ljava/lang/Object;)Z"⟩ : MethodName) len W (fun P a => a = #[.ref x, .ref y] ∧ P.U.heap = h ∧ P.cells + 0 ≤ R.cells ∧ P.slots + 0 ≤ R.slots)
      (fun P _ v B => ∃ L, (((v = some (.int 1) ∧ cs = ds) ∨ (v = some (.int 0) ∧ ¬ cs = ds)) ∧ L = [] ∧ B.U.heap = h) ∧ B.locs = P.locs ++ L ∧ B.cells = P.cells + 0 ∧ B.slots = P.slots + 0) := by
  intro m meth c P g ig mk a X hg hsize hdg hW hn hp'
  obtain ⟨rfl, rfl, r1, r2⟩ := hp'
  have al : Z.vm.Alike P.U.vm := hZ.alike.trans X.warmed.alike
  obtain ⟨A, hx⟩ := txt_of wi al E V C K hc hb l2
  obtain ⟨A', hy⟩ := txt_of wi al E' V' C' K' hc' hb' l2'
  obtain ⟨v, B, X', ⟨⟨w, hv, hh, hq⟩, hl, hk, hs⟩, st⟩ := SEq.pays x t A cd cs.length (fun j => cs.getD j 0) y t' A' cd' ds.length (fun j => ds.getD j 0) z (tabEq_of (movedEq hZ hw)) hfr hlo m meth c P g ig mk _ X hg hsize hdg hW hn ⟨r1, r2, rfl, hx, hy, sta_is al S, hz⟩
  refine ⟨v, B, X', ⟨[], ⟨?_, rfl, hh⟩, hl, hk, hs⟩, st⟩
  rcases hq with ⟨rfl, q⟩ | ⟨rfl, q⟩
  · exact Or.inl ⟨hv, (same_list cs ds).mp q⟩
  · exact Or.inr ⟨hv, fun e => q ((same_list cs ds).mpr e)⟩
end StrChars.Road
namespace StrChars.Road
open Jvm Sem ClassFile Op Lib Jvm.Stand Jvm.Free Jvm.Free.XT
open Jvm.Lib.Cold (StaticIs)
/-- what backV says of its String, as the contracts of this text ask it: cs's low bytes, coder 0 -/
theorem codOf {cs : List Int32} {n : Nat} (hn : cs.length = n) (hb : ∀ c ∈ cs, ¬ 255 < c) : CodA cs 0 (Int32.ofNat n) ((cs.map lo8).map Value.int) := Or.inl ⟨rfl, by rw [hn], by simp [List.map_map, Function.comp_def], hb⟩
end StrChars.Road
end Jvm.Pilot.@@N@@

namespace Jvm.Pilot.@@N@@
open Jvm Jvm.ClassFile Sem Op Lib Jvm.Free Jvm.Stand Jvm.LawKit Jvm.RoadKit Bundle Jvm.Pilot.@@N@@.Jvm.D

theorem own_at {a0 : Array Value} {Z : State} (hw : ∀ d ∈ tables_1, d.before a0 Z = true) (i : Nat) {d : Jvm.Cond} (h : tables_1[i]? = some d) : d.before a0 Z = true := hw _ (List.mem_of_getElem? h)
abbrev own_L0 (y0 : Int32) : Array Slot := #[.val (.int y0)]
abbrev own_L1 (y0 : Int32) (y1 : Int32) : Array Slot := #[.val (.int y0), .val (.int y1)]
abbrev own_L2 (y0 : Addr) (y1 : Addr) (y2 : Int32) : Array Slot := #[.val (.ref y0), .val (.ref y1), .val (.int y2)]
abbrev own_L3 (y0 : Addr) : Array Slot := #[.val (.ref y0)]
abbrev own_L4  : Array Slot := #[.unset]
abbrev own_L5 (y0 : Addr) (y1 : Addr) : Array Slot := #[.val (.ref y0), .val (.ref y1)]
abbrev own_L6 (y0 : Value) (y1 : Value) : Array Slot := #[.val y0, .val y1]
abbrev own_L7 (y0 : Addr) (y1 : Addr) : Array Slot := #[.val (.ref y0), .val (.ref y1), .unset]
abbrev own_L8 (y0 : Addr) (y1 : Addr) (y2 : Addr) : Array Slot := #[.val (.ref y0), .val (.ref y1), .val (.ref y2)]
abbrev own_L9 (y0 : Addr) : Array Slot := #[.val (.ref y0), .unset]
abbrev own_L10 (y0 : Addr) (y1 : Addr) (y2 : Int32) (y3 : Int32) (y4 : Value) : Array Slot := #[.val (.ref y0), .val (.ref y1), .val (.int y2), .val (.int y3), .val y4, .unset]
abbrev own_L11 (y0 : Int32) (y1 : Int32) (y2 : Int32) (y3 : Int32) : Array Slot := #[.val (.int y0), .val (.int y1), .val (.int y2), .val (.int y3), .unset, .unset, .unset, .unset, .unset, .unset, .unset, .unset, .unset, .unset, .unset, .unset]
abbrev own_L12 (y0 : Int32) (y1 : Int32) (y2 : Int32) : Array Slot := #[.val (.int y0), .val (.int y1), .val (.int y2), .unset, .unset, .unset, .unset, .unset, .unset, .unset, .unset, .unset, .unset, .unset, .unset, .unset]
abbrev own_L13 (y0 : Int32) (y1 : Int32) (y2 : Int32) (y3 : Int32) (y4 : Int32) : Array Slot := #[.val (.int y0), .val (.int y1), .val (.int y2), .val (.int y3), .val (.int y4), .unset, .unset, .unset, .unset, .unset, .unset, .unset, .unset, .unset, .unset, .unset]
abbrev own_L14 (y0 : Int32) (y1 : Int32) (y2 : Int32) (y3 : Int32) (y4 : Int32) (y5 : Int32) : Array Slot := #[.val (.int y0), .val (.int y1), .val (.int y2), .val (.int y3), .val (.int y4), .val (.int y5), .unset, .unset, .unset, .unset, .unset, .unset, .unset, .unset, .unset, .unset]
abbrev own_L15 (y0 : Int32) (y1 : Int32) (y2 : Int32) (y3 : Int32) (y4 : Int32) (y5 : Int32) (y6 : Addr) : Array Slot := #[.val (.int y0), .val (.int y1), .val (.int y2), .val (.int y3), .val (.int y4), .val (.int y5), .val (.ref y6), .unset, .unset, .unset, .unset, .unset, .unset, .unset, .unset, .unset]
abbrev own_L16 (y0 : Int32) (y1 : Int32) (y2 : Int32) (y3 : Int32) (y4 : Int32) (y5 : Int32) (y6 : Addr) (y7 : Int32) : Array Slot := #[.val (.int y0), .val (.int y1), .val (.int y2), .val (.int y3), .val (.int y4), .val (.int y5), .val (.ref y6), .val (.int y7), .unset, .unset, .unset, .unset, .unset, .unset, .unset, .unset]
abbrev own_L17 (y0 : Int32) (y1 : Int32) (y2 : Int32) (y3 : Int32) (y4 : Int32) (y5 : Int32) (y6 : Addr) (y7 : Int32) (y8 : Int32) : Array Slot := #[.val (.int y0), .val (.int y1), .val (.int y2), .val (.int y3), .val (.int y4), .val (.int y5), .val (.ref y6), .val (.int y7), .val (.int y8), .unset, .unset, .unset, .unset, .unset, .unset, .unset]
abbrev own_L18 (y0 : Int32) (y1 : Int32) (y2 : Int32) (y3 : Int32) (y4 : Int32) (y5 : Int32) (y6 : Addr) (y7 : Int32) (y8 : Int32) (y9 : Int32) : Array Slot := #[.val (.int y0), .val (.int y1), .val (.int y2), .val (.int y3), .val (.int y4), .val (.int y5), .val (.ref y6), .val (.int y7), .val (.int y8), .val (.int y9), .unset, .unset, .unset, .unset, .unset, .unset]
abbrev own_L19 (y0 : Int32) (y1 : Int32) (y2 : Int32) (y3 : Int32) (y4 : Int32) (y5 : Int32) (y6 : Addr) (y7 : Int32) (y8 : Int32) (y9 : Int32) (y10 : Addr) : Array Slot := #[.val (.int y0), .val (.int y1), .val (.int y2), .val (.int y3), .val (.int y4), .val (.int y5), .val (.ref y6), .val (.int y7), .val (.int y8), .val (.int y9), .val (.ref y10), .unset, .unset, .unset, .unset, .unset]
abbrev own_L20 (y0 : Int32) (y1 : Int32) (y2 : Int32) (y3 : Int32) (y4 : Int32) (y5 : Int32) (y6 : Addr) (y7 : Int32) (y8 : Int32) (y9 : Int32) (y10 : Addr) (y11 : Addr) : Array Slot := #[.val (.int y0), .val (.int y1), .val (.int y2), .val (.int y3), .val (.int y4), .val (.int y5), .val (.ref y6), .val (.int y7), .val (.int y8), .val (.int y9), .val (.ref y10), .val (.ref y11), .unset, .unset, .unset, .unset]
abbrev own_L21 (y0 : Int32) (y1 : Int32) (y2 : Int32) (y3 : Int32) (y4 : Int32) (y5 : Int32) (y6 : Addr) (y7 : Int32) (y8 : Int32) (y9 : Int32) (y10 : Addr) (y11 : Addr) (y12 : Addr) : Array Slot := #[.val (.int y0), .val (.int y1), .val (.int y2), .val (.int y3), .val (.int y4), .val (.int y5), .val (.ref y6), .val (.int y7), .val (.int y8), .val (.int y9), .val (.ref y10), .val (.ref y11), .val (.ref y12), .unset, .unset, .unset]
abbrev own_L22 (y0 : Int32) (y1 : Int32) (y2 : Int32) (y3 : Int32) (y4 : Int32) (y5 : Int32) (y6 : Addr) (y7 : Int32) (y8 : Int32) (y9 : Int32) (y10 : Int32) : Array Slot := #[.val (.int y0), .val (.int y1), .val (.int y2), .val (.int y3), .val (.int y4), .val (.int y5), .val (.ref y6), .val (.int y7), .val (.int y8), .val (.int y9), .unset, .val (.int y10), .unset, .unset, .unset, .unset]
abbrev own_L23 (y0 : Int32) (y1 : Int32) (y2 : Int32) (y3 : Int32) (y4 : Int32) (y5 : Int32) (y6 : Addr) (y7 : Int32) (y8 : Int32) (y9 : Int32) (y10 : Addr) (y11 : Int32) : Array Slot := #[.val (.int y0), .val (.int y1), .val (.int y2), .val (.int y3), .val (.int y4), .val (.int y5), .val (.ref y6), .val (.int y7), .val (.int y8), .val (.int y9), .val (.ref y10), .val (.int y11), .unset, .unset, .unset, .unset]
abbrev own_L24 (y0 : Int32) (y1 : Int32) (y2 : Int32) (y3 : Int32) (y4 : Int32) (y5 : Int32) (y6 : Addr) (y7 : Int32) (y8 : Int32) (y9 : Int32) (y10 : Int32) (y11 : Int32) : Array Slot := #[.val (.int y0), .val (.int y1), .val (.int y2), .val (.int y3), .val (.int y4), .val (.int y5), .val (.ref y6), .val (.int y7), .val (.int y8), .val (.int y9), .unset, .val (.int y10), .val (.int y11), .unset, .unset, .unset]
abbrev own_L25 (y0 : Int32) (y1 : Int32) (y2 : Int32) (y3 : Int32) (y4 : Int32) (y5 : Int32) (y6 : Addr) (y7 : Int32) (y8 : Int32) (y9 : Int32) (y10 : Int32) (y11 : Int32) (y12 : Int32) : Array Slot := #[.val (.int y0), .val (.int y1), .val (.int y2), .val (.int y3), .val (.int y4), .val (.int y5), .val (.ref y6), .val (.int y7), .val (.int y8), .val (.int y9), .unset, .val (.int y10), .val (.int y11), .val (.int y12), .unset, .unset]
abbrev own_L26 (y0 : Int32) (y1 : Int32) (y2 : Int32) (y3 : Int32) (y4 : Int32) (y5 : Int32) (y6 : Addr) (y7 : Int32) (y8 : Int32) (y9 : Int32) (y10 : Int32) (y11 : Int32) (y12 : Int32) (y13 : Int32) : Array Slot := #[.val (.int y0), .val (.int y1), .val (.int y2), .val (.int y3), .val (.int y4), .val (.int y5), .val (.ref y6), .val (.int y7), .val (.int y8), .val (.int y9), .unset, .val (.int y10), .val (.int y11), .val (.int y12), .val (.int y13), .unset]
abbrev own_L27 (y0 : Int32) (y1 : Int32) (y2 : Int32) (y3 : Int32) (y4 : Int32) (y5 : Int32) (y6 : Addr) (y7 : Int32) (y8 : Int32) (y9 : Int32) (y10 : Int32) (y11 : Int32) (y12 : Int32) (y13 : Int32) (y14 : Int32) : Array Slot := #[.val (.int y0), .val (.int y1), .val (.int y2), .val (.int y3), .val (.int y4), .val (.int y5), .val (.ref y6), .val (.int y7), .val (.int y8), .val (.int y9), .unset, .val (.int y10), .val (.int y11), .val (.int y12), .val (.int y13), .val (.int y14)]
abbrev own_L28 (y0 : Int32) (y1 : Int32) (y2 : Int32) (y3 : Int32) (y4 : Int32) (y5 : Int32) (y6 : Addr) (y7 : Int32) (y8 : Int32) (y9 : Int32) (y10 : Addr) (y11 : Int32) (y12 : Int32) (y13 : Int32) (y14 : Int32) (y15 : Int32) : Array Slot := #[.val (.int y0), .val (.int y1), .val (.int y2), .val (.int y3), .val (.int y4), .val (.int y5), .val (.ref y6), .val (.int y7), .val (.int y8), .val (.int y9), .val (.ref y10), .val (.int y11), .val (.int y12), .val (.int y13), .val (.int y14), .val (.int y15)]
abbrev own_L29 (y0 : Int32) (y1 : Int32) (y2 : Int32) (y3 : Int32) (y4 : Int32) (y5 : Int32) (y6 : Addr) (y7 : Int32) (y8 : Int32) (y9 : Int32) (y10 : Addr) (y11 : Addr) (y12 : Int32) (y13 : Int32) (y14 : Int32) (y15 : Int32) : Array Slot := #[.val (.int y0), .val (.int y1), .val (.int y2), .val (.int y3), .val (.int y4), .val (.int y5), .val (.ref y6), .val (.int y7), .val (.int y8), .val (.int y9), .val (.ref y10), .val (.ref y11), .val (.int y12), .val (.int y13), .val (.int y14), .val (.int y15)]
abbrev own_L30 (y0 : Int32) (y1 : Int32) (y2 : Int32) (y3 : Int32) (y4 : Int32) (y5 : Int32) (y6 : Addr) (y7 : Int32) (y8 : Int32) (y9 : Int32) (y10 : Addr) (y11 : Addr) (y12 : Addr) (y13 : Int32) (y14 : Int32) (y15 : Int32) : Array Slot := #[.val (.int y0), .val (.int y1), .val (.int y2), .val (.int y3), .val (.int y4), .val (.int y5), .val (.ref y6), .val (.int y7), .val (.int y8), .val (.int y9), .val (.ref y10), .val (.ref y11), .val (.ref y12), .val (.int y13), .val (.int y14), .val (.int y15)]

abbrev OEL : List (String × Nat) := [("java/lang/String", 7)]
theorem own_EW {Z : State} {a0 : Array Value} (hw : ∀ d ∈ tables_1, d.before a0 Z = true) : EW Z a0 OEL := EW.cons (hw _ (List.mem_of_getElem? (i := 107) rfl)) (by decide) EW.nil
theorem own_wS {Z : State} {a0 : Array Value} (hw : ∀ d ∈ tables_1, d.before a0 Z = true) : ∀ a ∈ Bundle.stringAtoms, a.before a0 Z = true := fun d hd => hw d ((by decide +kernel : ∀ d ∈ Bundle.stringAtoms, d ∈ tables_1) d hd)
theorem own_mem_7 : (("java/lang/String", 7) : String × Nat) ∈ OEL := List.mem_cons_self
theorem own_wsV {Z : State} {a0 : Array Value} (hw : ∀ d ∈ tables_1, d.before a0 Z = true) : ∀ d ∈ StrChars.Road.words, d.before a0 Z = true := fun d hd => hw d ((by decide +kernel : ∀ d ∈ StrChars.Road.words, d ∈ tables_1) d hd)
theorem own_wsE {Z : State} {a0 : Array Value} (hw : ∀ d ∈ tables_1, d.before a0 Z = true) : ∀ d ∈ StrChars.Road.wordsEq, d.before a0 Z = true := fun d hd => hw d ((by decide +kernel : ∀ d ∈ StrChars.Road.wordsEq, d ∈ tables_1) d hd)
abbrev OGL : List Int32 := [103, 117, 101, 115, 116]
abbrev ORL : List Int32 := [114, 101, 103, 105, 115, 116, 101, 114, 101, 100]
abbrev own_ch (c : Int32) : Prop := ¬ c < 0 ∧ ¬ (255 : Int32) < c
/-- at x lies a String whose chars are cs -/
def OTx (Z : State) (h : Heap) (x : Addr) (cs : List Int32) : Prop := ∃ (t : Addr) (kb : ClassId) (N : Int32) (vs : List Value), Exa Z h x "java/lang/String" ∧ Fld Z h x "java/lang/String" "value" "[B" (.ref t) ∧ Fld Z h x "java/lang/String" "coder" "B" (.int (0 : Int32)) ∧ Arv Z h t kb .byte N vs (.int (0 : Int32)) ∧ StrChars.Road.CodA cs 0 N vs ∧ (∀ c ∈ cs, own_ch c) ∧ cs.length ≤ 4000
theorem OTx.ext {Z : State} {h h' : Heap} {x : Addr} {cs : List Int32} (F : OTx Z h x cs) (E : Ext h h') : OTx Z h' x cs := by
  obtain ⟨t, kb, N, vs, f1, f2, f3, f4, r⟩ := F
  exact ⟨t, kb, N, vs, f1.ext E, f2.ext E, f3.ext E, f4.ext E, r⟩
theorem OTx.keep0 {Z : State} {h h' : Heap} {x : Addr} {cs : List Int32} (F : OTx Z h x cs) (K : Keep h h' []) : OTx Z h' x cs := F.ext ⟨K.1, fun a c q => K.2.1 a c q (by simp)⟩
theorem own_65 {cs : List Int32} (h : ∀ c ∈ cs, own_ch c) : ∀ c ∈ cs, ¬ c < 0 ∧ ¬ (65535 : Int32) < c := fun c hc => by
  obtain ⟨h1, h2⟩ := h c hc
  refine ⟨h1, ?_⟩
  rw [Int32.lt_iff_toInt_lt] at *
  have e1 : (255 : Int32).toInt = 255 := rfl
  have e2 : (65535 : Int32).toInt = 65535 := rfl
  omega
def OSt (Z : State) (wG wR uG uR wE : Addr) (zc : Int32) : Prop :=
  Sta Z Z.heap "com/example/vett/vett/Grantee" "GUEST" "Lcom/example/vett/vett/Grantee;" (.ref wG) ∧ Sta Z Z.heap "com/example/vett/vett/Grantee" "REGISTERED" "Lcom/example/vett/vett/Grantee;" (.ref wR) ∧ Sta Z Z.heap "java/util/Optional" "EMPTY" "Ljava/util/Optional;" (.ref wE) ∧ Sta Z Z.heap "java/lang/String" "COMPACT_STRINGS" "Z" (.int zc) ∧ (¬ zc = (0 : Int32)) ∧
  Exa Z Z.heap wG "com/example/vett/vett/Grantee" ∧ Exa Z Z.heap wR "com/example/vett/vett/Grantee" ∧ Fld Z Z.heap wG "com/example/vett/vett/Grantee" "userType" "Ljava/lang/String;" (.ref uG) ∧ Fld Z Z.heap wR "com/example/vett/vett/Grantee" "userType" "Ljava/lang/String;" (.ref uR) ∧ Fld Z Z.heap wG "com/example/vett/vett/Grantee" "groupId" "Lcom/example/vett/vett/ConceptId;" .null ∧ Fld Z Z.heap wR "com/example/vett/vett/Grantee" "groupId" "Lcom/example/vett/vett/ConceptId;" .null ∧
  OTx Z Z.heap uG OGL ∧ OTx Z Z.heap uR ORL ∧ Exa Z Z.heap wE "java/util/Optional" ∧ Fld Z Z.heap wE "java/util/Optional" "value" "Ljava/lang/Object;" .null
abbrev OEx (cs : List Int32) (ex : Int32) : Prop := (cs = OGL ∧ ex = (1 : Int32)) ∨ (cs = ORL ∧ ex = (2 : Int32)) ∨ (¬ cs = OGL ∧ ¬ cs = ORL ∧ ex = (0 : Int32))
def OCs (cs : List Int32) (w : Value) (wG wR : Addr) : Prop := (cs = OGL ∧ w = .ref wG) ∨ (¬ cs = OGL ∧ cs = ORL ∧ w = .ref wR) ∨ (¬ cs = OGL ∧ ¬ cs = ORL ∧ w = .null)
theorem own_join {cs : List Int32} {ex : Int32} {w : Value} {wG wR : Addr} (a : OEx cs ex) (b : OCs cs w wG wR) : (ex = (1 : Int32) ∧ w = .ref wG) ∨ (ex = (2 : Int32) ∧ w = .ref wR) ∨ (ex = (0 : Int32) ∧ w = .null) := by
  rcases a with ⟨a1, a2⟩ | ⟨a1, a2⟩ | ⟨a1, a2, a3⟩
  · rcases b with ⟨b1, b2⟩ | ⟨b1, b2, b3⟩ | ⟨b1, b2, b3⟩
    · exact Or.inl ⟨a2, b2⟩
    · exact absurd a1 b1
    · exact absurd a1 b1
  · rcases b with ⟨b1, b2⟩ | ⟨b1, b2, b3⟩ | ⟨b1, b2, b3⟩
    · exact absurd (a1.symm.trans b1) (by decide)
    · exact Or.inr (Or.inl ⟨a2, b3⟩)
    · exact absurd a1 b2
  · rcases b with ⟨b1, b2⟩ | ⟨b1, b2, b3⟩ | ⟨b1, b2, b3⟩
    · exact absurd b1 a1
    · exact absurd b2 a2
    · exact Or.inr (Or.inr ⟨a3, b3⟩)
theorem own_exl {cs : List Int32} (h1 : cs.length ≠ 5) (h2 : cs.length ≠ 10) : OEx cs (0 : Int32) := Or.inr (Or.inr ⟨fun q => h1 (by rw [q]; rfl), fun q => h2 (by rw [q]; rfl), rfl⟩)
theorem own_exG {cs : List Int32} (i : Nat) (h1 : cs.length = 5) (h2 : ¬ cs.getD i 0 = OGL.getD i 0) : OEx cs (0 : Int32) := Or.inr (Or.inr ⟨fun q => h2 (by rw [q]), fun q => absurd (show ORL.length = 5 by rw [← q]; exact h1) (by decide), rfl⟩)
theorem own_exR {cs : List Int32} (i : Nat) (h1 : cs.length = 10) (h2 : ¬ cs.getD i 0 = ORL.getD i 0) : OEx cs (0 : Int32) := Or.inr (Or.inr ⟨fun q => absurd (show OGL.length = 10 by rw [← q]; exact h1) (by decide), fun q => h2 (by rw [q]), rfl⟩)
theorem own_an : ∀ c ∈ ([] : List Int32), own_ch c := fun _ h => nomatch h
theorem own_ac {x : Int32} {l : List Int32} (h : own_ch x) (r : ∀ c ∈ l, own_ch c) : ∀ c ∈ x :: l, own_ch c := fun c q => by
  rcases List.mem_cons.mp q with rfl | q
  · exact h
  · exact r c q
theorem own_and255 (x : Int32) : own_ch (x &&& 255) := by
  have h1 : (x &&& 255).toBitVec.toNat ≤ 255 := by
    rw [Int32.toBitVec_and, BitVec.toNat_and]
    exact Nat.and_le_right
  have h2 : (x &&& 255).toInt = ((x &&& 255).toBitVec.toNat : Int) := by
    show (x &&& 255).toBitVec.toInt = _
    rw [BitVec.toInt_eq_toNat_of_lt (by omega)]
  have e0 : (0 : Int32).toInt = 0 := rfl
  have e255 : (255 : Int32).toInt = 255 := rfl
  rw [own_ch, Int32.lt_iff_toInt_lt, Int32.lt_iff_toInt_lt]
  omega
theorem own_chr (x : Int32) : own_ch (x &&& (255 : Int32)).toUInt32.toUInt16.toUInt32.toInt32 := by
  rw [show (x &&& (255 : Int32)).toUInt32.toUInt16.toUInt32.toInt32 = x &&& 255 from by simp only [i2c_mask]]
  exact own_and255 x
theorem own_cn {c : Int32} (h : own_ch c) : ∃ j : Nat, j < 256 ∧ c = Int32.ofNat j := by
  obtain ⟨h0, h1⟩ := h
  rw [Int32.lt_iff_toInt_lt] at h0 h1
  have e1 : (255 : Int32).toInt = 255 := rfl
  have e2 : (0 : Int32).toInt = 0 := rfl
  refine ⟨c.toInt.toNat, by omega, ?_⟩
  apply Int32.toInt_inj.mp
  rw [Int32.toInt_ofNat_of_lt (by omega)]; omega
theorem own_nc {c : Int32} (h : own_ch c) : nar .char c = c := by
  obtain ⟨j, hj, rfl⟩ := own_cn h
  exact (by decide +kernel : ∀ j, j < 256 → nar .char (Int32.ofNat j) = Int32.ofNat j) j hj
theorem own_ncb {c : Int32} (h : own_ch c) : own_ch (nar .char c) := by rw [own_nc h]; exact h
theorem own_b2 (x : Int32) : x.toInt8.toInt32.toInt8.toInt32 = x.toInt8.toInt32 := by simp
theorem own_modn (n : Nat) (hn : 0 < n) (hb : n < 2 ^ 31) (x : Int32) : ∃ j : Nat, j < n ∧ ((x &&& (2147483647 : Int32)) % (Int32.ofNat n)) = Int32.ofNat j := by
  have h1 : (x &&& 2147483647).toBitVec.toNat < 2 ^ 31 := by
    rw [Int32.toBitVec_and, BitVec.toNat_and]
    exact Nat.lt_of_le_of_lt Nat.and_le_right (by decide)
  have h2 : (x &&& 2147483647).toInt = ((x &&& 2147483647).toBitVec.toNat : Int) := by
    show (x &&& 2147483647).toBitVec.toInt = _
    rw [BitVec.toInt_eq_toNat_of_lt (by omega)]
  have h3 : ((x &&& 2147483647) % (Int32.ofNat n)).toInt = (x &&& 2147483647).toInt % n := by
    rw [Int32.toInt_mod, Int.tmod_eq_emod_of_nonneg (by omega), Int32.toInt_ofNat_of_lt hb]
  have h4 : 0 ≤ (x &&& 2147483647).toInt % (n : Int) := Int.emod_nonneg _ (by omega)
  have h5 : (x &&& 2147483647).toInt % (n : Int) < n := Int.emod_lt_of_pos _ (by omega)
  refine ⟨((x &&& 2147483647) % (Int32.ofNat n)).toInt.toNat, by omega, ?_⟩
  apply Int32.toInt_inj.mp
  rw [Int32.toInt_ofNat_of_lt (by omega)]
  omega
/-- an array of n chars, its list, and what the law expects of a String of them -/
def OAr (Z : State) (h : Heap) (r : Addr) (cs : List Int32) (n : Nat) (ex : Int32) : Prop := (∃ kr : ClassId, Arv Z h r kr .char (Int32.ofNat n) (cs.map Value.int) (.int (0 : Int32))) ∧ cs.length = n ∧ 0 < n ∧ n ≤ 11 ∧ (∀ c ∈ cs, own_ch c) ∧ OEx cs ex
theorem own_ni {i n : Nat} (hi : i < n) (hn : n ≤ 11) : ¬ Int32.ofNat i < 0 ∧ Int32.ofNat i < Int32.ofNat n := by
  have e0 : (0 : Int32).toInt = 0 := rfl
  rw [Int32.lt_iff_toInt_lt, Int32.lt_iff_toInt_lt, Int32.toInt_ofNat_of_lt (by omega), Int32.toInt_ofNat_of_lt (by omega)]
  omega
theorem own_nn {i : Nat} (h : i < 256) : (Int32.ofNat i).toNatClampNeg = i := by
  rw [Int32.toNatClampNeg, Int32.toInt_ofNat_of_lt (by omega)]; rfl
theorem own_rdC {Z : State} {h : Heap} {a : Addr} {kc : ClassId} {vs : List Int32} {n : Nat} (F : Arv Z h a kc .char (Int32.ofNat n) (vs.map Value.int) (.int (0 : Int32))) (hl : vs.length = n) (hn : n ≤ 11) {i : Nat} (hi : i < n) : ORd Z h a .char (Int32.ofNat i) (.int (vs.getD i 0)) := by
  refine own_rd F (own_ni hi hn) ?_
  rw [own_nn (by omega)]
  simp [List.getD_eq_getElem?_getD, hl, hi]
theorem own_stC {p : Program} {l : Launch} {e : Env} {R : Room} {s : State} {m : MethodId} {args : Array Value} {below : List Frame} {meth : Method} {c : Code} {T : State} {locs : List Loc} {cells slots : Nat} {Z : State} {h : Heap}
    (X : Stand p l e R s m args below meth c T locs cells slots) (hx : p.tables.exec = Jvm.exec) (hZ : Z.Warmed39 s.vm) (eT : T.heap = h) {a : Addr} {kc : ClassId} {vs : List Int32} {n : Nat} (F : Arv Z h a kc .char (Int32.ofNat n) (vs.map Value.int) (.int (0 : Int32))) (hl : vs.length = n) (hn : n ≤ 11) {j : Int32} {i : Nat} (hj : j = Int32.ofNat i) (hi : i < n)
    {x : Int32} {g : JFrame} (hg : g.method = m) {rest : List Value} (hs : g.stack = .int x :: .int j :: .ref a :: rest) (hd : decode c.code g.pc = .ok (.castore, 1)) :
    ∃ T' h', Stand p l e R s m args below meth c T' (locs ++ [⟨a, j.toNatClampNeg⟩]) cells slots ∧ T'.heap = h' ∧ Wr h h' a j.toNatClampNeg (.int (nar .char x)) ∧ Arv Z h' a kc .char (Int32.ofNat n) ((vs.set i (nar .char x)).map Value.int) (.int (0 : Int32)) ∧ ∀ target, Steps p.tables e below (T'.setTop { g with pc := g.pc + 1, stack := rest }) target → Steps p.tables e below (T.setTop g) target := by
  subst hj
  obtain ⟨cl, A, q1, S, q3, H, G⟩ := F
  obtain ⟨T', h', X', e', W, st⟩ := stC X hx hZ eT A (inb_of S (own_ni hi hn)) hg hs hd
  refine ⟨T', h', X', e', W, ?_, st⟩
  rw [List.map_set]
  exact Arv.set A q1 S q3 H G (fits_nar_char _) W i (own_nn (by omega)) (by simp [hl, hi])
theorem own_set_ch {cs : List Int32} {x : Int32} (h : ∀ c ∈ cs, own_ch c) (hx : own_ch x) (j : Nat) : ∀ c ∈ cs.set j x, own_ch c := fun c hc => by
  rcases List.mem_or_eq_of_mem_set hc with q | rfl
  · exact h c q
  · exact hx
theorem own_oex {cs ds : List Int32} {ex : Int32} (h : OEx cs ex) (hl : ds.length = cs.length) (hne : ¬ ds = cs) (h0 : cs.length = 5 ∨ cs.length = 10) : ¬ ex = (0 : Int32) → OEx ds (0 : Int32) := fun hx => by
  rcases h with ⟨a, -⟩ | ⟨a, -⟩ | ⟨-, -, a⟩
  · subst a
    exact Or.inr (Or.inr ⟨hne, fun q => absurd (show ORL.length = OGL.length by rw [← q]; exact hl) (by decide), rfl⟩)
  · subst a
    exact Or.inr (Or.inr ⟨fun q => absurd (show OGL.length = ORL.length by rw [← q]; exact hl) (by decide), hne, rfl⟩)
  · exact absurd a hx
theorem own_ex1 {bl : List Int32} {ex0 c : Int32} {n j : Nat} (h : OEx bl ex0) (hx : ¬ ex0 = (0 : Int32)) (hc : own_ch c) (hl : bl.length = n) (hj : j < n) : OEx (bl.set j (nar .char c)) (if c = (bl.getD j 0) then ex0 else (0 : Int32)) := by
  rw [own_nc hc]
  have hb : bl.getD j 0 = bl[j]'(by omega) := by simp [List.getD_eq_getElem?_getD, hl, hj]
  have h5 : bl.length = 5 ∨ bl.length = 10 := by
    rcases h with ⟨a, -⟩ | ⟨a, -⟩ | ⟨-, -, a⟩
    · left; rw [a]; rfl
    · right; rw [a]; rfl
    · exact absurd a hx
  by_cases q : c = bl.getD j 0
  · rw [if_pos q, q, hb, List.set_getElem_self]; exact h
  · rw [if_neg q]
    refine own_oex h (List.length_set ..) (fun e => q ?_) h5 hx
    have := congrArg (fun z => z.getD j 0) e
    simpa [List.getD_eq_getElem?_getD, hl, hj] using this
theorem own_ex7 {c0 c1 c2 c3 c4 : Int32} (h0 : own_ch c0) (h1 : own_ch c1) (h2 : own_ch c2) (h3 : own_ch c3) (h4 : own_ch c4) : OEx [nar .char c0, nar .char c1, nar .char c2, nar .char c3, nar .char c4] (if c0 = (103 : Int32) then (if c1 = (117 : Int32) then (if c2 = (101 : Int32) then (if c3 = (115 : Int32) then (if c4 = (116 : Int32) then (1 : Int32) else (0 : Int32)) else (0 : Int32)) else (0 : Int32)) else (0 : Int32)) else (0 : Int32)) := by
  rw [own_nc h0, own_nc h1, own_nc h2, own_nc h3, own_nc h4]
  by_cases a0 : c0 = (103 : Int32)
  · rw [if_pos a0]
    by_cases a1 : c1 = (117 : Int32)
    · rw [if_pos a1]
      by_cases a2 : c2 = (101 : Int32)
      · rw [if_pos a2]
        by_cases a3 : c3 = (115 : Int32)
        · rw [if_pos a3]
          by_cases a4 : c4 = (116 : Int32)
          · rw [if_pos a4]; exact Or.inl ⟨by rw [a0, a1, a2, a3, a4], rfl⟩
          · rw [if_neg a4]; exact own_exG 4 rfl a4
        · rw [if_neg a3]; exact own_exG 3 rfl a3
      · rw [if_neg a2]; exact own_exG 2 rfl a2
    · rw [if_neg a1]; exact own_exG 1 rfl a1
  · rw [if_neg a0]; exact own_exG 0 rfl a0
theorem own_g12 (g : Int32) : ¬ (if g = (0 : Int32) then (2 : Int32) else (1 : Int32)) = (0 : Int32) := by
  by_cases h : g = (0 : Int32)
  · rw [if_pos h]; decide
  · rw [if_neg h]; decide
theorem own_nnz {n : Nat} (h : 0 < n) (hn : n ≤ 11) : (Int32.ofNat n) ≠ 0 := fun q => by
  have := congrArg Int32.toInt q
  rw [Int32.toInt_ofNat_of_lt (by omega), show (0 : Int32).toInt = 0 from rfl] at this
  omega
/-- a String whose value isn't set yet is no booked one -/
theorem own_safe {Z : State} {EL : List (String × Nat)} {vm : Vm} {h : Heap} {x : Addr} (hal : Z.vm.Alike vm) (E : Exa Z h x "java/lang/String") (F : Fld Z h x "java/lang/String" "value" "[B" .null) : Safe Z EL vm h x := fun B => by
  obtain ⟨p, -, u, a, -, q, -, S, hy⟩ := B
  obtain ⟨cell, cf, k, i, f, g1, g2, -, -, -, -, g7⟩ := F
  rcases hy with rfl | rfl
  · cases (show h[q.sa]? = some q.sC from S.ha).symm.trans g1
    obtain ⟨cS, ⟨⟨s1, s2, s3, ⟨cv, kv, iv, s4, s4'⟩, ⟨cc, kc, ic, s5, s5'⟩, s6, s7, s8, -⟩, -, -⟩, -⟩ := S
    obtain ⟨kv', z4⟩ := ff_back (U := Wst Z vm h) hal s4
    cases z4.symm.trans g2
    cases s8.symm.trans g7
  · obtain ⟨cell2, k2, e1, e2, e3, -, -⟩ := E
    cases (show h[q.sd]? = some q.SA from S.hd).symm.trans e1
    obtain ⟨cS, -, -, f2, -⟩ := S
    have f3 : vm.findClass "[B" = some q.SA.cls := f2
    rw [hal.findClass] at f3
    obtain ⟨k3, q1, q2⟩ := Vm.findClass_spec f3
    obtain ⟨k4, q3, q4⟩ := Vm.findClass_spec e2
    cases q1.symm.trans q3
    exact absurd (q2.symm.trans q4) (by decide)


/-- the elements of an array, as the words say them -/
def OEl (args : Array Value) (s : State) (t : Term) : Nat → List Int32 → Prop
  | _, [] => True
  | i, c :: cs => (Term.elem t (.int (Int32.ofNat i))).eval args s none [] s = some (.int c) ∧ OEl args s t (i + 1) cs
theorem own_hasL {args : Array Value} {s : State} {t : Term} {x : Addr} {cl : Cell} (ev : t.eval args s none [] s = some (.ref x)) (hA : s.arrayAt? x = some cl) : ∀ (cs : List Int32) (i : Nat), i + cs.length < 1000 → OEl args s t i cs → HasL cl i (cs.map Value.int)
  | [], _, _, _ => trivial
  | c :: cs, i, hb, h => by
    obtain ⟨h1, h2⟩ := h
    have hi : i + (cs.length + 1) < 1000 := hb
    have e1 : (Int32.ofNat i).toInt = i := Int32.toInt_ofNat_of_lt (by omega)
    have e0 : ¬ (Int32.ofNat i) < 0 := by rw [Int32.lt_iff_toInt_lt, e1, show (0 : Int32).toInt = 0 from rfl]; omega
    have e2 : (Int32.ofNat i).toNatClampNeg = i := by simp only [Int32.toNatClampNeg, e1]; rfl
    rw [elem_f ev (Term.int_eval _) hA e0, e2] at h1
    exact ⟨h1, own_hasL ev hA cs (i + 1) (by omega) h2⟩
theorem own_txt {args : Array Value} {s : State} {t : Term} {x b : Addr} {cs : List Int32} {N : Int32} (hf : Fit s) (E : Exa s s.heap x "java/lang/String") (FV : Fld s s.heap x "java/lang/String" "value" "[B" (.ref b)) (FC : Fld s s.heap x "java/lang/String" "coder" "B" (.int (0 : Int32))) (ev : t.eval args s none [] s = some (.ref b)) (hx : (Jvm.Cond.arrayOf t .byte).value args s none s [] = some true)
    (hl : (Term.length t).eval args s none [] s = some (.int N)) (hN : N = Int32.ofNat cs.length) (h1 : cs.length < 900) (h2 : ∀ c ∈ cs, StrChars.lo8 c = c) (h3 : ∀ c ∈ cs, own_ch c) (he : OEl args s t 0 cs) : OTx s s.heap x cs := by
  obtain ⟨c, A⟩ := Arr.start ev hx
  have hA : s.arrayAt? b = some c := Arr.fin (Vm.Alike.refl _) A
  have hsz : c.slots.size < 2 ^ 31 := by
    by_cases q : c.slots.size < 2 ^ 31
    · exact q
    · simp [Term.eval, ev, hA, q] at hl
  rw [len_f ev hA hsz] at hl
  have e : c.slots.size.toInt32 = N := by injection hl with hl; injection hl
  have eN : N.toInt = cs.length := by rw [hN]; exact Int32.toInt_ofNat_of_lt (by omega)
  have V := Arv.start (dv := .int (0 : Int32)) (vs := cs.map Value.int) hf A hsz e (by rw [Int32.lt_iff_toInt_lt, eN, show (0 : Int32).toInt = 0 from rfl]; omega) (by rw [List.length_map]; simp only [Int32.toNatClampNeg, eN]; rfl) (own_hasL ev hA cs 0 (by omega) he)
  exact ⟨b, _, N, _, E, FV, FC, V, Or.inl ⟨rfl, hN, (List.map_congr_left fun c hc => by rw [h2 c hc]).symm, fun c hc => (h3 c hc).2⟩, h3, by omega⟩

theorem pd__C_Z : parseMethodDescriptor "(C)Z" = some ⟨[.char], some .boolean⟩ := by decide +kernel
theorem pd__C__B : parseMethodDescriptor "(C)[B" = some ⟨[.char], some (.array .byte)⟩ := by decide +kernel
theorem pd___BB_V : parseMethodDescriptor "([BB)V" = some ⟨[(.array .byte), .byte], none⟩ := by decide +kernel
theorem pd__Ljava_lang_Object__Ljava_lang_Object_ : parseMethodDescriptor "(Ljava/lang/Object;)Ljava/lang/Object;" = some ⟨[(.object "java/lang/Object")], some (.object "java/lang/Object")⟩ := by decide +kernel
theorem pd__Ljava_lang_Object__V : parseMethodDescriptor "(Ljava/lang/Object;)V" = some ⟨[(.object "java/lang/Object")], none⟩ := by decide +kernel
theorem pd__Ljava_lang_Object_Ljava_lang_Object__Z : parseMethodDescriptor "(Ljava/lang/Object;Ljava/lang/Object;)Z" = some ⟨[(.object "java/lang/Object"), (.object "java/lang/Object")], some .boolean⟩ := by decide +kernel
theorem pd___Ljava_util_Optional_ : parseMethodDescriptor "()Ljava/util/Optional;" = some ⟨[], some (.object "java/util/Optional")⟩ := by decide +kernel
theorem pd__Ljava_lang_Object__Z : parseMethodDescriptor "(Ljava/lang/Object;)Z" = some ⟨[(.object "java/lang/Object")], some .boolean⟩ := by decide +kernel
theorem pd__Ljava_lang_Object__Ljava_util_Optional_ : parseMethodDescriptor "(Ljava/lang/Object;)Ljava/util/Optional;" = some ⟨[(.object "java/lang/Object")], some (.object "java/util/Optional")⟩ := by decide +kernel
theorem pd___CIILjava_lang_Void__V : parseMethodDescriptor "([CIILjava/lang/Void;)V" = some ⟨[(.array .char), .int, .int, (.object "java/lang/Void")], none⟩ := by decide +kernel
theorem pd__Ljava_lang_String__Ljava_util_Optional_ : parseMethodDescriptor "(Ljava/lang/String;)Ljava/util/Optional;" = some ⟨[(.object "java/lang/String")], some (.object "java/util/Optional")⟩ := by decide +kernel
theorem pd___Z : parseMethodDescriptor "()Z" = some ⟨[], some .boolean⟩ := by decide +kernel
theorem pd___Ljava_lang_Object_ : parseMethodDescriptor "()Ljava/lang/Object;" = some ⟨[], some (.object "java/lang/Object")⟩ := by decide +kernel
theorem pd___C_V : parseMethodDescriptor "([C)V" = some ⟨[(.array .char)], none⟩ := by decide +kernel
theorem pd__ZC__C : parseMethodDescriptor "(ZC)[C" = some ⟨[.boolean, .char], some (.array .char)⟩ := by decide +kernel
theorem pd__C_Ljava_lang_String_ : parseMethodDescriptor "(C)Ljava/lang/String;" = some ⟨[.char], some (.object "java/lang/String")⟩ := by decide +kernel
theorem pd__Z__C : parseMethodDescriptor "(Z)[C" = some ⟨[.boolean], some (.array .char)⟩ := by decide +kernel
theorem dB_0 : decode method_2_code 0 = .ok (.iload_n 0, 1) := by decide +kernel
theorem dB_1 : decode method_2_code 1 = .ok (.ifCond .eq 32, 3) := by decide +kernel
theorem dB_33 : decode method_2_code 33 = .ok (.bipush 10, 2) := by decide +kernel
theorem dB_35 : decode method_2_code 35 = .ok (.newarray .char, 2) := by decide +kernel
theorem dB_37 : decode method_2_code 37 = .ok (.dup, 1) := by decide +kernel
theorem dB_38 : decode method_2_code 38 = .ok (.iconst 0, 1) := by decide +kernel
theorem dB_39 : decode method_2_code 39 = .ok (.bipush 114, 2) := by decide +kernel
theorem dB_41 : decode method_2_code 41 = .ok (.castore, 1) := by decide +kernel
theorem dB_42 : decode method_2_code 42 = .ok (.dup, 1) := by decide +kernel
theorem dB_43 : decode method_2_code 43 = .ok (.iconst 1, 1) := by decide +kernel
theorem dB_44 : decode method_2_code 44 = .ok (.bipush 101, 2) := by decide +kernel
theorem dB_46 : decode method_2_code 46 = .ok (.castore, 1) := by decide +kernel
theorem dB_47 : decode method_2_code 47 = .ok (.dup, 1) := by decide +kernel
theorem dB_48 : decode method_2_code 48 = .ok (.iconst 2, 1) := by decide +kernel
theorem dB_49 : decode method_2_code 49 = .ok (.bipush 103, 2) := by decide +kernel
theorem dB_51 : decode method_2_code 51 = .ok (.castore, 1) := by decide +kernel
theorem dB_52 : decode method_2_code 52 = .ok (.dup, 1) := by decide +kernel
theorem dB_53 : decode method_2_code 53 = .ok (.iconst 3, 1) := by decide +kernel
theorem dB_54 : decode method_2_code 54 = .ok (.bipush 105, 2) := by decide +kernel
theorem dB_56 : decode method_2_code 56 = .ok (.castore, 1) := by decide +kernel
theorem dB_57 : decode method_2_code 57 = .ok (.dup, 1) := by decide +kernel
theorem dB_58 : decode method_2_code 58 = .ok (.iconst 4, 1) := by decide +kernel
theorem dB_59 : decode method_2_code 59 = .ok (.bipush 115, 2) := by decide +kernel
theorem dB_61 : decode method_2_code 61 = .ok (.castore, 1) := by decide +kernel
theorem dB_62 : decode method_2_code 62 = .ok (.dup, 1) := by decide +kernel
theorem dB_63 : decode method_2_code 63 = .ok (.iconst 5, 1) := by decide +kernel
theorem dB_64 : decode method_2_code 64 = .ok (.bipush 116, 2) := by decide +kernel
theorem dB_66 : decode method_2_code 66 = .ok (.castore, 1) := by decide +kernel
theorem dB_67 : decode method_2_code 67 = .ok (.dup, 1) := by decide +kernel
theorem dB_68 : decode method_2_code 68 = .ok (.bipush 6, 2) := by decide +kernel
theorem dB_70 : decode method_2_code 70 = .ok (.bipush 101, 2) := by decide +kernel
theorem dB_72 : decode method_2_code 72 = .ok (.castore, 1) := by decide +kernel
theorem dB_73 : decode method_2_code 73 = .ok (.dup, 1) := by decide +kernel
theorem dB_74 : decode method_2_code 74 = .ok (.bipush 7, 2) := by decide +kernel
theorem dB_76 : decode method_2_code 76 = .ok (.bipush 114, 2) := by decide +kernel
theorem dB_78 : decode method_2_code 78 = .ok (.castore, 1) := by decide +kernel
theorem dB_79 : decode method_2_code 79 = .ok (.dup, 1) := by decide +kernel
theorem dB_80 : decode method_2_code 80 = .ok (.bipush 8, 2) := by decide +kernel
theorem dB_82 : decode method_2_code 82 = .ok (.bipush 101, 2) := by decide +kernel
theorem dB_84 : decode method_2_code 84 = .ok (.castore, 1) := by decide +kernel
theorem dB_85 : decode method_2_code 85 = .ok (.dup, 1) := by decide +kernel
theorem dB_86 : decode method_2_code 86 = .ok (.bipush 9, 2) := by decide +kernel
theorem dB_88 : decode method_2_code 88 = .ok (.bipush 100, 2) := by decide +kernel
theorem dB_90 : decode method_2_code 90 = .ok (.castore, 1) := by decide +kernel
theorem dB_91 : decode method_2_code 91 = .ok (.areturn, 1) := by decide +kernel
theorem dB_4 : decode method_2_code 4 = .ok (.iconst 5, 1) := by decide +kernel
theorem dB_5 : decode method_2_code 5 = .ok (.newarray .char, 2) := by decide +kernel
theorem dB_7 : decode method_2_code 7 = .ok (.dup, 1) := by decide +kernel
theorem dB_8 : decode method_2_code 8 = .ok (.iconst 0, 1) := by decide +kernel
theorem dB_9 : decode method_2_code 9 = .ok (.bipush 103, 2) := by decide +kernel
theorem dB_11 : decode method_2_code 11 = .ok (.castore, 1) := by decide +kernel
theorem dB_12 : decode method_2_code 12 = .ok (.dup, 1) := by decide +kernel
theorem dB_13 : decode method_2_code 13 = .ok (.iconst 1, 1) := by decide +kernel
theorem dB_14 : decode method_2_code 14 = .ok (.bipush 117, 2) := by decide +kernel
theorem dB_16 : decode method_2_code 16 = .ok (.castore, 1) := by decide +kernel
theorem dB_17 : decode method_2_code 17 = .ok (.dup, 1) := by decide +kernel
theorem dB_18 : decode method_2_code 18 = .ok (.iconst 2, 1) := by decide +kernel
theorem dB_19 : decode method_2_code 19 = .ok (.bipush 101, 2) := by decide +kernel
theorem dB_21 : decode method_2_code 21 = .ok (.castore, 1) := by decide +kernel
theorem dB_22 : decode method_2_code 22 = .ok (.dup, 1) := by decide +kernel
theorem dB_23 : decode method_2_code 23 = .ok (.iconst 3, 1) := by decide +kernel
theorem dB_24 : decode method_2_code 24 = .ok (.bipush 115, 2) := by decide +kernel
theorem dB_26 : decode method_2_code 26 = .ok (.castore, 1) := by decide +kernel
theorem dB_27 : decode method_2_code 27 = .ok (.dup, 1) := by decide +kernel
theorem dB_28 : decode method_2_code 28 = .ok (.iconst 4, 1) := by decide +kernel
theorem dB_29 : decode method_2_code 29 = .ok (.bipush 116, 2) := by decide +kernel
theorem dB_31 : decode method_2_code 31 = .ok (.castore, 1) := by decide +kernel
theorem dB_32 : decode method_2_code 32 = .ok (.areturn, 1) := by decide +kernel
theorem pn_B : plainName "com/example/vett/vett/GranteeUserTypePinLaw" = true := by first | (simp [plainName, overriddenIn]; done) | decide +kernel
theorem ef_B (m : MethodId) (x0 : Int32) : entryFrame m #[(.int x0)] 1 = mkF m 0 #[.val (.int x0)] [] := by first | (simp [entryFrame, mkF, argsToLocals, Value.category]; done) | rfl
def QB (Z : State) (g : Int32) (h0 : Heap) (n0 : Nat) (v : Option Value) (h : Heap) (L : List Loc) : Prop := ∃ (r : Addr) (cs : List Int32) (n : Nat), v = some (.ref r) ∧ Fr n0 L ∧ Keep h0 h [] ∧ n0 ≤ r ∧ h0.size ≤ r ∧ OAr Z h r cs n (if g = (0 : Int32) then (2 : Int32) else (1 : Int32))
set_option maxRecDepth 65536 in
set_option maxHeartbeats 40000000 in
theorem rmB (l : Launch) (Z : State) (a0 : Array Value) (hw : ∀ d ∈ tables_1, d.before a0 Z = true) (ws : List Jvm.Cond) (g : Int32) (h0 : Heap) (n0 : Nat) (Z0 : n0 ≤ h0.size) :
    MetFree l (⟨"com/example/vett/vett/GranteeUserTypePinLaw", "base", "(Z)[C"⟩ : MethodName) (head1 (Jvm.Cond.code (⟨"com/example/vett/vett/GranteeUserTypePinLaw", "base", "(Z)[C"⟩ : MethodName) method_2_code 1 (some (.array .char)) :: ws) ({ frames := 0, cells := 1, slots := 10, locals := 0 } : Room)) (fun aA oU => aA = #[(.int g)] ∧ Z.Warmed39 oU.vm ∧ oU.heap = h0) (fun _ _ _ _ _ => True) (fun _ oU oO oU' => ∃ oV oL, oO = .returned oV ∧ QB Z g h0 n0 oV oU'.heap oL ∧ FrameEnd oU oO oU' oL ({ frames := 0, cells := 1, slots := 10, locals := 0 } : Room).cells ({ frames := 0, cells := 1, slots := 10, locals := 0 } : Room).slots) := by
  refine MetFree.of_bodySF (plainFor_of_name pn_B) hisR ?_
  intro p e s m args below meth c s₁ Bd hml0 hP hK
  obtain ⟨rfl, hZ, hh⟩ := hP
  have hx := Bd.exec
  have hby := Bd.bytes
  have hlk := BodyLoose.notSynchronized Bd
  have hml : c.maxLocals = 1 := hml0
  have hown : s.vm.findClass "com/example/vett/vett/GranteeUserTypePinLaw" = some m.cls := findClass_of_methodNamed Bd.named
  have hnm := (name_of_methodNamed Bd.named Bd.method).1
  have X0 : Stand p l e ({ frames := 0, cells := 1, slots := 10, locals := 0 } : Room) s m #[(.int g)] below meth c s₁ [] 0 0 := Stand.of_body Bd
  have e0 : s₁.heap = h0 := by rw [← hh, Bd.state]; rfl
  have N0 := Fr.nil n0
  show OG p e below s ({ frames := 0, cells := 1, slots := 10, locals := 0 } : Room).cells ({ frames := 0, cells := 1, slots := 10, locals := 0 } : Room).slots (QB Z g h0 n0) _
  refine OG.of (fun oT oK => castTop (ef_B m g) oK) ?_
  show OG p e below s _ _ _ (s₁.setTop (mkF m 0 (own_L0 g) []))
  refine OG.of (A := s₁.setTop (mkF m 1 (own_L0 g) [(.int g)])) (fun oT oK => ?_) ?_
  · skip
    refine XS.iloadN X0.here hx rfl (hb hby dB_0) rfl  ?_
    exact oK
  by_cases hc1_1 : g = (0 : Int32)
  · refine OG.of (fun oT oK => XS.ifYes X0.here hx rfl (pc0 := 1) (pc' := 33) rfl (hb hby dB_1) rfl (XT.i0_eq_t hc1_1) (by decide) (by decide) oK) ?_
    show OG _ _ _ _ _ _ _ (s₁.setTop (mkF m 33 (own_L0 g) []))
    refine OG.of (A := s₁.setTop (mkF m 35 (own_L0 g) [(.int (10 : Int32))])) (fun oT oK => ?_) ?_
    · skip
      refine XS.bipush X0.here hx rfl (hb hby dB_33) ?_
      exact oK
    obtain ⟨T1, h1, kc1, X1, e1, E1, A1, st1⟩ := newP X0 hx hZ (own_at hw 4 rfl) e0 (g := (mkF m 35 (own_L0 g) [(.int (10 : Int32))])) rfl (hb hby dB_35) rfl (by decide) (cap := 10) (by decide) (by decide) (by decide) (by decide)
    obtain ⟨b1, g1⟩ : ∃ z, z = (h0).size := ⟨_, rfl⟩
    have gn_b1 : n0 ≤ b1 := Nat.le_trans Z0 (Nat.le_of_eq g1.symm)
    have sz_b1 : h0.size ≤ b1 := Nat.le_trans (Keep.refl h0 []).1 (Nat.le_of_eq g1.symm)
    rw [← g1] at A1 st1
    have K1 : Keep h0 h1 [] := (Keep.refl h0 []).ext E1
    have Z1 : n0 ≤ h1.size := Nat.le_trans Z0 E1.1
    have V1 : Arv Z h1 b1 kc1 .char (10 : Int32) [(.int (0 : Int32)), (.int (0 : Int32)), (.int (0 : Int32)), (.int (0 : Int32)), (.int (0 : Int32)), (.int (0 : Int32)), (.int (0 : Int32)), (.int (0 : Int32)), (.int (0 : Int32)), (.int (0 : Int32))] (.int (0 : Int32)) := (Arv.new A1 (by decide)).pad (pad_rep [] (.int (0 : Int32)) 10)
    refine OG.of st1 ?_
    show OG _ _ _ _ _ _ _ (T1.setTop (mkF m 37 (own_L0 g) [(.ref b1)]))
    refine OG.of (A := T1.setTop (mkF m 41 (own_L0 g) [(.int (114 : Int32)), (.int (0 : Int32)), (.ref b1), (.ref b1)])) (fun oT oK => ?_) ?_
    · skip
      refine XS.dup X1.here hx rfl (hb hby dB_37) rfl rfl ?_
      show Steps p.tables e below (T1.setTop (mkF m 38 (own_L0 g) [(.ref b1), (.ref b1)])) _
      refine XS.iconst X1.here hx rfl (hb hby dB_38) ?_
      refine XS.bipush X1.here hx rfl (hb hby dB_39) ?_
      exact oK
    have cf2 := V1
    obtain ⟨clf2, Arf2, qf2, Sf2, Mf2, Hf2, Gf2⟩ := cf2
    obtain ⟨T2, h2, X2, e2, W2, st2⟩ := stC X1 hx hZ e1 Arf2 (j := (0 : Int32)) (inb_of Sf2 ⟨by decide, by decide⟩) (g := (mkF m 41 (own_L0 g) [(.int (114 : Int32)), (.int (0 : Int32)), (.ref b1), (.ref b1)])) rfl rfl (hb hby dB_41)
    have V2 : Arv Z h2 b1 kc1 .char (10 : Int32) [(.int (nar .char (114 : Int32))), (.int (0 : Int32)), (.int (0 : Int32)), (.int (0 : Int32)), (.int (0 : Int32)), (.int (0 : Int32)), (.int (0 : Int32)), (.int (0 : Int32)), (.int (0 : Int32)), (.int (0 : Int32))] (.int (0 : Int32)) := Arv.set Arf2 qf2 Sf2 Mf2 Hf2 Gf2 (fits_nar_char _) W2 0 rfl (Nat.le_of_ble_eq_true rfl)
    have K2 : Keep h0 h2 [] := (K1).wr W2 (Or.inr sz_b1)
    have Z2 : n0 ≤ h2.size := Nat.le_trans Z1 (Keep.of_wr W2).1
    have N2 := Fr.snoc X2 N0 gn_b1
    refine OG.of st2 ?_
    show OG _ _ _ _ _ _ _ (T2.setTop (mkF m 42 (own_L0 g) [(.ref b1)]))
    refine OG.of (A := T2.setTop (mkF m 46 (own_L0 g) [(.int (101 : Int32)), (.int (1 : Int32)), (.ref b1), (.ref b1)])) (fun oT oK => ?_) ?_
    · skip
      refine XS.dup X2.here hx rfl (hb hby dB_42) rfl rfl ?_
      show Steps p.tables e below (T2.setTop (mkF m 43 (own_L0 g) [(.ref b1), (.ref b1)])) _
      refine XS.iconst X2.here hx rfl (hb hby dB_43) ?_
      refine XS.bipush X2.here hx rfl (hb hby dB_44) ?_
      exact oK
    have cf4 := V2
    obtain ⟨clf4, Arf4, qf4, Sf4, Mf4, Hf4, Gf4⟩ := cf4
    obtain ⟨T3, h3, X3, e3, W3, st3⟩ := stC X2 hx hZ e2 Arf4 (j := (1 : Int32)) (inb_of Sf4 ⟨by decide, by decide⟩) (g := (mkF m 46 (own_L0 g) [(.int (101 : Int32)), (.int (1 : Int32)), (.ref b1), (.ref b1)])) rfl rfl (hb hby dB_46)
    have V3 : Arv Z h3 b1 kc1 .char (10 : Int32) [(.int (nar .char (114 : Int32))), (.int (nar .char (101 : Int32))), (.int (0 : Int32)), (.int (0 : Int32)), (.int (0 : Int32)), (.int (0 : Int32)), (.int (0 : Int32)), (.int (0 : Int32)), (.int (0 : Int32)), (.int (0 : Int32))] (.int (0 : Int32)) := Arv.set Arf4 qf4 Sf4 Mf4 Hf4 Gf4 (fits_nar_char _) W3 1 rfl (Nat.le_of_ble_eq_true rfl)
    have K3 : Keep h0 h3 [] := (K2).wr W3 (Or.inr sz_b1)
    have Z3 : n0 ≤ h3.size := Nat.le_trans Z2 (Keep.of_wr W3).1
    have N3 := Fr.snoc X3 N2 gn_b1
    refine OG.of st3 ?_
    show OG _ _ _ _ _ _ _ (T3.setTop (mkF m 47 (own_L0 g) [(.ref b1)]))
    refine OG.of (A := T3.setTop (mkF m 51 (own_L0 g) [(.int (103 : Int32)), (.int (2 : Int32)), (.ref b1), (.ref b1)])) (fun oT oK => ?_) ?_
    · skip
      refine XS.dup X3.here hx rfl (hb hby dB_47) rfl rfl ?_
      show Steps p.tables e below (T3.setTop (mkF m 48 (own_L0 g) [(.ref b1), (.ref b1)])) _
      refine XS.iconst X3.here hx rfl (hb hby dB_48) ?_
      refine XS.bipush X3.here hx rfl (hb hby dB_49) ?_
      exact oK
    have cf6 := V3
    obtain ⟨clf6, Arf6, qf6, Sf6, Mf6, Hf6, Gf6⟩ := cf6
    obtain ⟨T4, h4, X4, e4, W4, st4⟩ := stC X3 hx hZ e3 Arf6 (j := (2 : Int32)) (inb_of Sf6 ⟨by decide, by decide⟩) (g := (mkF m 51 (own_L0 g) [(.int (103 : Int32)), (.int (2 : Int32)), (.ref b1), (.ref b1)])) rfl rfl (hb hby dB_51)
    have V4 : Arv Z h4 b1 kc1 .char (10 : Int32) [(.int (nar .char (114 : Int32))), (.int (nar .char (101 : Int32))), (.int (nar .char (103 : Int32))), (.int (0 : Int32)), (.int (0 : Int32)), (.int (0 : Int32)), (.int (0 : Int32)), (.int (0 : Int32)), (.int (0 : Int32)), (.int (0 : Int32))] (.int (0 : Int32)) := Arv.set Arf6 qf6 Sf6 Mf6 Hf6 Gf6 (fits_nar_char _) W4 2 rfl (Nat.le_of_ble_eq_true rfl)
    have K4 : Keep h0 h4 [] := (K3).wr W4 (Or.inr sz_b1)
    have Z4 : n0 ≤ h4.size := Nat.le_trans Z3 (Keep.of_wr W4).1
    have N4 := Fr.snoc X4 N3 gn_b1
    refine OG.of st4 ?_
    show OG _ _ _ _ _ _ _ (T4.setTop (mkF m 52 (own_L0 g) [(.ref b1)]))
    refine OG.of (A := T4.setTop (mkF m 56 (own_L0 g) [(.int (105 : Int32)), (.int (3 : Int32)), (.ref b1), (.ref b1)])) (fun oT oK => ?_) ?_
    · skip
      refine XS.dup X4.here hx rfl (hb hby dB_52) rfl rfl ?_
      show Steps p.tables e below (T4.setTop (mkF m 53 (own_L0 g) [(.ref b1), (.ref b1)])) _
      refine XS.iconst X4.here hx rfl (hb hby dB_53) ?_
      refine XS.bipush X4.here hx rfl (hb hby dB_54) ?_
      exact oK
    have cf8 := V4
    obtain ⟨clf8, Arf8, qf8, Sf8, Mf8, Hf8, Gf8⟩ := cf8
    obtain ⟨T5, h5, X5, e5, W5, st5⟩ := stC X4 hx hZ e4 Arf8 (j := (3 : Int32)) (inb_of Sf8 ⟨by decide, by decide⟩) (g := (mkF m 56 (own_L0 g) [(.int (105 : Int32)), (.int (3 : Int32)), (.ref b1), (.ref b1)])) rfl rfl (hb hby dB_56)
    have V5 : Arv Z h5 b1 kc1 .char (10 : Int32) [(.int (nar .char (114 : Int32))), (.int (nar .char (101 : Int32))), (.int (nar .char (103 : Int32))), (.int (nar .char (105 : Int32))), (.int (0 : Int32)), (.int (0 : Int32)), (.int (0 : Int32)), (.int (0 : Int32)), (.int (0 : Int32)), (.int (0 : Int32))] (.int (0 : Int32)) := Arv.set Arf8 qf8 Sf8 Mf8 Hf8 Gf8 (fits_nar_char _) W5 3 rfl (Nat.le_of_ble_eq_true rfl)
    have K5 : Keep h0 h5 [] := (K4).wr W5 (Or.inr sz_b1)
    have Z5 : n0 ≤ h5.size := Nat.le_trans Z4 (Keep.of_wr W5).1
    have N5 := Fr.snoc X5 N4 gn_b1
    refine OG.of st5 ?_
    show OG _ _ _ _ _ _ _ (T5.setTop (mkF m 57 (own_L0 g) [(.ref b1)]))
    refine OG.of (A := T5.setTop (mkF m 61 (own_L0 g) [(.int (115 : Int32)), (.int (4 : Int32)), (.ref b1), (.ref b1)])) (fun oT oK => ?_) ?_
    · skip
      refine XS.dup X5.here hx rfl (hb hby dB_57) rfl rfl ?_
      show Steps p.tables e below (T5.setTop (mkF m 58 (own_L0 g) [(.ref b1), (.ref b1)])) _
      refine XS.iconst X5.here hx rfl (hb hby dB_58) ?_
      refine XS.bipush X5.here hx rfl (hb hby dB_59) ?_
      exact oK
    have cf10 := V5
    obtain ⟨clf10, Arf10, qf10, Sf10, Mf10, Hf10, Gf10⟩ := cf10
    obtain ⟨T6, h6, X6, e6, W6, st6⟩ := stC X5 hx hZ e5 Arf10 (j := (4 : Int32)) (inb_of Sf10 ⟨by decide, by decide⟩) (g := (mkF m 61 (own_L0 g) [(.int (115 : Int32)), (.int (4 : Int32)), (.ref b1), (.ref b1)])) rfl rfl (hb hby dB_61)
    have V6 : Arv Z h6 b1 kc1 .char (10 : Int32) [(.int (nar .char (114 : Int32))), (.int (nar .char (101 : Int32))), (.int (nar .char (103 : Int32))), (.int (nar .char (105 : Int32))), (.int (nar .char (115 : Int32))), (.int (0 : Int32)), (.int (0 : Int32)), (.int (0 : Int32)), (.int (0 : Int32)), (.int (0 : Int32))] (.int (0 : Int32)) := Arv.set Arf10 qf10 Sf10 Mf10 Hf10 Gf10 (fits_nar_char _) W6 4 rfl (Nat.le_of_ble_eq_true rfl)
    have K6 : Keep h0 h6 [] := (K5).wr W6 (Or.inr sz_b1)
    have Z6 : n0 ≤ h6.size := Nat.le_trans Z5 (Keep.of_wr W6).1
    have N6 := Fr.snoc X6 N5 gn_b1
    refine OG.of st6 ?_
    show OG _ _ _ _ _ _ _ (T6.setTop (mkF m 62 (own_L0 g) [(.ref b1)]))
    refine OG.of (A := T6.setTop (mkF m 66 (own_L0 g) [(.int (116 : Int32)), (.int (5 : Int32)), (.ref b1), (.ref b1)])) (fun oT oK => ?_) ?_
    · skip
      refine XS.dup X6.here hx rfl (hb hby dB_62) rfl rfl ?_
      show Steps p.tables e below (T6.setTop (mkF m 63 (own_L0 g) [(.ref b1), (.ref b1)])) _
      refine XS.iconst X6.here hx rfl (hb hby dB_63) ?_
      refine XS.bipush X6.here hx rfl (hb hby dB_64) ?_
      exact oK
    have cf12 := V6
    obtain ⟨clf12, Arf12, qf12, Sf12, Mf12, Hf12, Gf12⟩ := cf12
    obtain ⟨T7, h7, X7, e7, W7, st7⟩ := stC X6 hx hZ e6 Arf12 (j := (5 : Int32)) (inb_of Sf12 ⟨by decide, by decide⟩) (g := (mkF m 66 (own_L0 g) [(.int (116 : Int32)), (.int (5 : Int32)), (.ref b1), (.ref b1)])) rfl rfl (hb hby dB_66)
    have V7 : Arv Z h7 b1 kc1 .char (10 : Int32) [(.int (nar .char (114 : Int32))), (.int (nar .char (101 : Int32))), (.int (nar .char (103 : Int32))), (.int (nar .char (105 : Int32))), (.int (nar .char (115 : Int32))), (.int (nar .char (116 : Int32))), (.int (0 : Int32)), (.int (0 : Int32)), (.int (0 : Int32)), (.int (0 : Int32))] (.int (0 : Int32)) := Arv.set Arf12 qf12 Sf12 Mf12 Hf12 Gf12 (fits_nar_char _) W7 5 rfl (Nat.le_of_ble_eq_true rfl)
    have K7 : Keep h0 h7 [] := (K6).wr W7 (Or.inr sz_b1)
    have Z7 : n0 ≤ h7.size := Nat.le_trans Z6 (Keep.of_wr W7).1
    have N7 := Fr.snoc X7 N6 gn_b1
    refine OG.of st7 ?_
    show OG _ _ _ _ _ _ _ (T7.setTop (mkF m 67 (own_L0 g) [(.ref b1)]))
    refine OG.of (A := T7.setTop (mkF m 72 (own_L0 g) [(.int (101 : Int32)), (.int (6 : Int32)), (.ref b1), (.ref b1)])) (fun oT oK => ?_) ?_
    · skip
      refine XS.dup X7.here hx rfl (hb hby dB_67) rfl rfl ?_
      show Steps p.tables e below (T7.setTop (mkF m 68 (own_L0 g) [(.ref b1), (.ref b1)])) _
      refine XS.bipush X7.here hx rfl (hb hby dB_68) ?_
      refine XS.bipush X7.here hx rfl (hb hby dB_70) ?_
      exact oK
    have cf14 := V7
    obtain ⟨clf14, Arf14, qf14, Sf14, Mf14, Hf14, Gf14⟩ := cf14
    obtain ⟨T8, h8, X8, e8, W8, st8⟩ := stC X7 hx hZ e7 Arf14 (j := (6 : Int32)) (inb_of Sf14 ⟨by decide, by decide⟩) (g := (mkF m 72 (own_L0 g) [(.int (101 : Int32)), (.int (6 : Int32)), (.ref b1), (.ref b1)])) rfl rfl (hb hby dB_72)
    have V8 : Arv Z h8 b1 kc1 .char (10 : Int32) [(.int (nar .char (114 : Int32))), (.int (nar .char (101 : Int32))), (.int (nar .char (103 : Int32))), (.int (nar .char (105 : Int32))), (.int (nar .char (115 : Int32))), (.int (nar .char (116 : Int32))), (.int (nar .char (101 : Int32))), (.int (0 : Int32)), (.int (0 : Int32)), (.int (0 : Int32))] (.int (0 : Int32)) := Arv.set Arf14 qf14 Sf14 Mf14 Hf14 Gf14 (fits_nar_char _) W8 6 rfl (Nat.le_of_ble_eq_true rfl)
    have K8 : Keep h0 h8 [] := (K7).wr W8 (Or.inr sz_b1)
    have Z8 : n0 ≤ h8.size := Nat.le_trans Z7 (Keep.of_wr W8).1
    have N8 := Fr.snoc X8 N7 gn_b1
    refine OG.of st8 ?_
    show OG _ _ _ _ _ _ _ (T8.setTop (mkF m 73 (own_L0 g) [(.ref b1)]))
    refine OG.of (A := T8.setTop (mkF m 78 (own_L0 g) [(.int (114 : Int32)), (.int (7 : Int32)), (.ref b1), (.ref b1)])) (fun oT oK => ?_) ?_
    · skip
      refine XS.dup X8.here hx rfl (hb hby dB_73) rfl rfl ?_
      show Steps p.tables e below (T8.setTop (mkF m 74 (own_L0 g) [(.ref b1), (.ref b1)])) _
      refine XS.bipush X8.here hx rfl (hb hby dB_74) ?_
      refine XS.bipush X8.here hx rfl (hb hby dB_76) ?_
      exact oK
    have cf16 := V8
    obtain ⟨clf16, Arf16, qf16, Sf16, Mf16, Hf16, Gf16⟩ := cf16
    obtain ⟨T9, h9, X9, e9, W9, st9⟩ := stC X8 hx hZ e8 Arf16 (j := (7 : Int32)) (inb_of Sf16 ⟨by decide, by decide⟩) (g := (mkF m 78 (own_L0 g) [(.int (114 : Int32)), (.int (7 : Int32)), (.ref b1), (.ref b1)])) rfl rfl (hb hby dB_78)
    have V9 : Arv Z h9 b1 kc1 .char (10 : Int32) [(.int (nar .char (114 : Int32))), (.int (nar .char (101 : Int32))), (.int (nar .char (103 : Int32))), (.int (nar .char (105 : Int32))), (.int (nar .char (115 : Int32))), (.int (nar .char (116 : Int32))), (.int (nar .char (101 : Int32))), (.int (nar .char (114 : Int32))), (.int (0 : Int32)), (.int (0 : Int32))] (.int (0 : Int32)) := Arv.set Arf16 qf16 Sf16 Mf16 Hf16 Gf16 (fits_nar_char _) W9 7 rfl (Nat.le_of_ble_eq_true rfl)
    have K9 : Keep h0 h9 [] := (K8).wr W9 (Or.inr sz_b1)
    have Z9 : n0 ≤ h9.size := Nat.le_trans Z8 (Keep.of_wr W9).1
    have N9 := Fr.snoc X9 N8 gn_b1
    refine OG.of st9 ?_
    show OG _ _ _ _ _ _ _ (T9.setTop (mkF m 79 (own_L0 g) [(.ref b1)]))
    refine OG.of (A := T9.setTop (mkF m 84 (own_L0 g) [(.int (101 : Int32)), (.int (8 : Int32)), (.ref b1), (.ref b1)])) (fun oT oK => ?_) ?_
    · skip
      refine XS.dup X9.here hx rfl (hb hby dB_79) rfl rfl ?_
      show Steps p.tables e below (T9.setTop (mkF m 80 (own_L0 g) [(.ref b1), (.ref b1)])) _
      refine XS.bipush X9.here hx rfl (hb hby dB_80) ?_
      refine XS.bipush X9.here hx rfl (hb hby dB_82) ?_
      exact oK
    have cf18 := V9
    obtain ⟨clf18, Arf18, qf18, Sf18, Mf18, Hf18, Gf18⟩ := cf18
    obtain ⟨T10, h10, X10, e10, W10, st10⟩ := stC X9 hx hZ e9 Arf18 (j := (8 : Int32)) (inb_of Sf18 ⟨by decide, by decide⟩) (g := (mkF m 84 (own_L0 g) [(.int (101 : Int32)), (.int (8 : Int32)), (.ref b1), (.ref b1)])) rfl rfl (hb hby dB_84)
    have V10 : Arv Z h10 b1 kc1 .char (10 : Int32) [(.int (nar .char (114 : Int32))), (.int (nar .char (101 : Int32))), (.int (nar .char (103 : Int32))), (.int (nar .char (105 : Int32))), (.int (nar .char (115 : Int32))), (.int (nar .char (116 : Int32))), (.int (nar .char (101 : Int32))), (.int (nar .char (114 : Int32))), (.int (nar .char (101 : Int32))), (.int (0 : Int32))] (.int (0 : Int32)) := Arv.set Arf18 qf18 Sf18 Mf18 Hf18 Gf18 (fits_nar_char _) W10 8 rfl (Nat.le_of_ble_eq_true rfl)
    have K10 : Keep h0 h10 [] := (K9).wr W10 (Or.inr sz_b1)
    have Z10 : n0 ≤ h10.size := Nat.le_trans Z9 (Keep.of_wr W10).1
    have N10 := Fr.snoc X10 N9 gn_b1
    refine OG.of st10 ?_
    show OG _ _ _ _ _ _ _ (T10.setTop (mkF m 85 (own_L0 g) [(.ref b1)]))
    refine OG.of (A := T10.setTop (mkF m 90 (own_L0 g) [(.int (100 : Int32)), (.int (9 : Int32)), (.ref b1), (.ref b1)])) (fun oT oK => ?_) ?_
    · skip
      refine XS.dup X10.here hx rfl (hb hby dB_85) rfl rfl ?_
      show Steps p.tables e below (T10.setTop (mkF m 86 (own_L0 g) [(.ref b1), (.ref b1)])) _
      refine XS.bipush X10.here hx rfl (hb hby dB_86) ?_
      refine XS.bipush X10.here hx rfl (hb hby dB_88) ?_
      exact oK
    have cf20 := V10
    obtain ⟨clf20, Arf20, qf20, Sf20, Mf20, Hf20, Gf20⟩ := cf20
    obtain ⟨T11, h11, X11, e11, W11, st11⟩ := stC X10 hx hZ e10 Arf20 (j := (9 : Int32)) (inb_of Sf20 ⟨by decide, by decide⟩) (g := (mkF m 90 (own_L0 g) [(.int (100 : Int32)), (.int (9 : Int32)), (.ref b1), (.ref b1)])) rfl rfl (hb hby dB_90)
    have V11 : Arv Z h11 b1 kc1 .char (10 : Int32) [(.int (nar .char (114 : Int32))), (.int (nar .char (101 : Int32))), (.int (nar .char (103 : Int32))), (.int (nar .char (105 : Int32))), (.int (nar .char (115 : Int32))), (.int (nar .char (116 : Int32))), (.int (nar .char (101 : Int32))), (.int (nar .char (114 : Int32))), (.int (nar .char (101 : Int32))), (.int (nar .char (100 : Int32)))] (.int (0 : Int32)) := Arv.set Arf20 qf20 Sf20 Mf20 Hf20 Gf20 (fits_nar_char _) W11 9 rfl (Nat.le_of_ble_eq_true rfl)
    have K11 : Keep h0 h11 [] := (K10).wr W11 (Or.inr sz_b1)
    have Z11 : n0 ≤ h11.size := Nat.le_trans Z10 (Keep.of_wr W11).1
    have N11 := Fr.snoc X11 N10 gn_b1
    refine OG.of st11 ?_
    show OG _ _ _ _ _ _ _ (T11.setTop (mkF m 91 (own_L0 g) [(.ref b1)]))
    refine OG.retA X11 hx Bd.returns rfl rfl (hb hby dB_91) hlk ?_ (by decide) (by decide)
    try rw [e11]
    exact ⟨b1, [(nar .char (114 : Int32)), (nar .char (101 : Int32)), (nar .char (103 : Int32)), (nar .char (105 : Int32)), (nar .char (115 : Int32)), (nar .char (116 : Int32)), (nar .char (101 : Int32)), (nar .char (114 : Int32)), (nar .char (101 : Int32)), (nar .char (100 : Int32))], 10, rfl, N11, K11, gn_b1, sz_b1, ⟨kc1, V11⟩, rfl, (by decide), (by decide), (own_ac (by decide +kernel) (own_ac (by decide +kernel) (own_ac (by decide +kernel) (own_ac (by decide +kernel) (own_ac (by decide +kernel) (own_ac (by decide +kernel) (own_ac (by decide +kernel) (own_ac (by decide +kernel) (own_ac (by decide +kernel) (own_ac (by decide +kernel) own_an)))))))))), (by rw [if_pos hc1_1]; decide +kernel)⟩
  · refine OG.of (fun oT oK => XS.ifNo X0.here hx rfl (hb hby dB_1) rfl (XT.i0_eq_f hc1_1) oK) ?_
    show OG _ _ _ _ _ _ _ (s₁.setTop (mkF m 4 (own_L0 g) []))
    refine OG.of (A := s₁.setTop (mkF m 5 (own_L0 g) [(.int (5 : Int32))])) (fun oT oK => ?_) ?_
    · skip
      refine XS.iconst X0.here hx rfl (hb hby dB_4) ?_
      exact oK
    obtain ⟨T12, h12, kc12, X12, e12, E12, A12, st12⟩ := newP X0 hx hZ (own_at hw 4 rfl) e0 (g := (mkF m 5 (own_L0 g) [(.int (5 : Int32))])) rfl (hb hby dB_5) rfl (by decide) (cap := 5) (by decide) (by decide) (by decide) (by decide)
    obtain ⟨b12, g12⟩ : ∃ z, z = (h0).size := ⟨_, rfl⟩
    have gn_b12 : n0 ≤ b12 := Nat.le_trans Z0 (Nat.le_of_eq g12.symm)
    have sz_b12 : h0.size ≤ b12 := Nat.le_trans (Keep.refl h0 []).1 (Nat.le_of_eq g12.symm)
    rw [← g12] at A12 st12
    have K12 : Keep h0 h12 [] := (Keep.refl h0 []).ext E12
    have Z12 : n0 ≤ h12.size := Nat.le_trans Z0 E12.1
    have V12 : Arv Z h12 b12 kc12 .char (5 : Int32) [(.int (0 : Int32)), (.int (0 : Int32)), (.int (0 : Int32)), (.int (0 : Int32)), (.int (0 : Int32))] (.int (0 : Int32)) := (Arv.new A12 (by decide)).pad (pad_rep [] (.int (0 : Int32)) 5)
    refine OG.of st12 ?_
    show OG _ _ _ _ _ _ _ (T12.setTop (mkF m 7 (own_L0 g) [(.ref b12)]))
    refine OG.of (A := T12.setTop (mkF m 11 (own_L0 g) [(.int (103 : Int32)), (.int (0 : Int32)), (.ref b12), (.ref b12)])) (fun oT oK => ?_) ?_
    · skip
      refine XS.dup X12.here hx rfl (hb hby dB_7) rfl rfl ?_
      show Steps p.tables e below (T12.setTop (mkF m 8 (own_L0 g) [(.ref b12), (.ref b12)])) _
      refine XS.iconst X12.here hx rfl (hb hby dB_8) ?_
      refine XS.bipush X12.here hx rfl (hb hby dB_9) ?_
      exact oK
    have cf22 := V12
    obtain ⟨clf22, Arf22, qf22, Sf22, Mf22, Hf22, Gf22⟩ := cf22
    obtain ⟨T13, h13, X13, e13, W13, st13⟩ := stC X12 hx hZ e12 Arf22 (j := (0 : Int32)) (inb_of Sf22 ⟨by decide, by decide⟩) (g := (mkF m 11 (own_L0 g) [(.int (103 : Int32)), (.int (0 : Int32)), (.ref b12), (.ref b12)])) rfl rfl (hb hby dB_11)
    have V13 : Arv Z h13 b12 kc12 .char (5 : Int32) [(.int (nar .char (103 : Int32))), (.int (0 : Int32)), (.int (0 : Int32)), (.int (0 : Int32)), (.int (0 : Int32))] (.int (0 : Int32)) := Arv.set Arf22 qf22 Sf22 Mf22 Hf22 Gf22 (fits_nar_char _) W13 0 rfl (Nat.le_of_ble_eq_true rfl)
    have K13 : Keep h0 h13 [] := (K12).wr W13 (Or.inr sz_b12)
    have Z13 : n0 ≤ h13.size := Nat.le_trans Z12 (Keep.of_wr W13).1
    have N13 := Fr.snoc X13 N0 gn_b12
    refine OG.of st13 ?_
    show OG _ _ _ _ _ _ _ (T13.setTop (mkF m 12 (own_L0 g) [(.ref b12)]))
    refine OG.of (A := T13.setTop (mkF m 16 (own_L0 g) [(.int (117 : Int32)), (.int (1 : Int32)), (.ref b12), (.ref b12)])) (fun oT oK => ?_) ?_
    · skip
      refine XS.dup X13.here hx rfl (hb hby dB_12) rfl rfl ?_
      show Steps p.tables e below (T13.setTop (mkF m 13 (own_L0 g) [(.ref b12), (.ref b12)])) _
      refine XS.iconst X13.here hx rfl (hb hby dB_13) ?_
      refine XS.bipush X13.here hx rfl (hb hby dB_14) ?_
      exact oK
    have cf24 := V13
    obtain ⟨clf24, Arf24, qf24, Sf24, Mf24, Hf24, Gf24⟩ := cf24
    obtain ⟨T14, h14, X14, e14, W14, st14⟩ := stC X13 hx hZ e13 Arf24 (j := (1 : Int32)) (inb_of Sf24 ⟨by decide, by decide⟩) (g := (mkF m 16 (own_L0 g) [(.int (117 : Int32)), (.int (1 : Int32)), (.ref b12), (.ref b12)])) rfl rfl (hb hby dB_16)
    have V14 : Arv Z h14 b12 kc12 .char (5 : Int32) [(.int (nar .char (103 : Int32))), (.int (nar .char (117 : Int32))), (.int (0 : Int32)), (.int (0 : Int32)), (.int (0 : Int32))] (.int (0 : Int32)) := Arv.set Arf24 qf24 Sf24 Mf24 Hf24 Gf24 (fits_nar_char _) W14 1 rfl (Nat.le_of_ble_eq_true rfl)
    have K14 : Keep h0 h14 [] := (K13).wr W14 (Or.inr sz_b12)
    have Z14 : n0 ≤ h14.size := Nat.le_trans Z13 (Keep.of_wr W14).1
    have N14 := Fr.snoc X14 N13 gn_b12
    refine OG.of st14 ?_
    show OG _ _ _ _ _ _ _ (T14.setTop (mkF m 17 (own_L0 g) [(.ref b12)]))
    refine OG.of (A := T14.setTop (mkF m 21 (own_L0 g) [(.int (101 : Int32)), (.int (2 : Int32)), (.ref b12), (.ref b12)])) (fun oT oK => ?_) ?_
    · skip
      refine XS.dup X14.here hx rfl (hb hby dB_17) rfl rfl ?_
      show Steps p.tables e below (T14.setTop (mkF m 18 (own_L0 g) [(.ref b12), (.ref b12)])) _
      refine XS.iconst X14.here hx rfl (hb hby dB_18) ?_
      refine XS.bipush X14.here hx rfl (hb hby dB_19) ?_
      exact oK
    have cf26 := V14
    obtain ⟨clf26, Arf26, qf26, Sf26, Mf26, Hf26, Gf26⟩ := cf26
    obtain ⟨T15, h15, X15, e15, W15, st15⟩ := stC X14 hx hZ e14 Arf26 (j := (2 : Int32)) (inb_of Sf26 ⟨by decide, by decide⟩) (g := (mkF m 21 (own_L0 g) [(.int (101 : Int32)), (.int (2 : Int32)), (.ref b12), (.ref b12)])) rfl rfl (hb hby dB_21)
    have V15 : Arv Z h15 b12 kc12 .char (5 : Int32) [(.int (nar .char (103 : Int32))), (.int (nar .char (117 : Int32))), (.int (nar .char (101 : Int32))), (.int (0 : Int32)), (.int (0 : Int32))] (.int (0 : Int32)) := Arv.set Arf26 qf26 Sf26 Mf26 Hf26 Gf26 (fits_nar_char _) W15 2 rfl (Nat.le_of_ble_eq_true rfl)
    have K15 : Keep h0 h15 [] := (K14).wr W15 (Or.inr sz_b12)
    have Z15 : n0 ≤ h15.size := Nat.le_trans Z14 (Keep.of_wr W15).1
    have N15 := Fr.snoc X15 N14 gn_b12
    refine OG.of st15 ?_
    show OG _ _ _ _ _ _ _ (T15.setTop (mkF m 22 (own_L0 g) [(.ref b12)]))
    refine OG.of (A := T15.setTop (mkF m 26 (own_L0 g) [(.int (115 : Int32)), (.int (3 : Int32)), (.ref b12), (.ref b12)])) (fun oT oK => ?_) ?_
    · skip
      refine XS.dup X15.here hx rfl (hb hby dB_22) rfl rfl ?_
      show Steps p.tables e below (T15.setTop (mkF m 23 (own_L0 g) [(.ref b12), (.ref b12)])) _
      refine XS.iconst X15.here hx rfl (hb hby dB_23) ?_
      refine XS.bipush X15.here hx rfl (hb hby dB_24) ?_
      exact oK
    have cf28 := V15
    obtain ⟨clf28, Arf28, qf28, Sf28, Mf28, Hf28, Gf28⟩ := cf28
    obtain ⟨T16, h16, X16, e16, W16, st16⟩ := stC X15 hx hZ e15 Arf28 (j := (3 : Int32)) (inb_of Sf28 ⟨by decide, by decide⟩) (g := (mkF m 26 (own_L0 g) [(.int (115 : Int32)), (.int (3 : Int32)), (.ref b12), (.ref b12)])) rfl rfl (hb hby dB_26)
    have V16 : Arv Z h16 b12 kc12 .char (5 : Int32) [(.int (nar .char (103 : Int32))), (.int (nar .char (117 : Int32))), (.int (nar .char (101 : Int32))), (.int (nar .char (115 : Int32))), (.int (0 : Int32))] (.int (0 : Int32)) := Arv.set Arf28 qf28 Sf28 Mf28 Hf28 Gf28 (fits_nar_char _) W16 3 rfl (Nat.le_of_ble_eq_true rfl)
    have K16 : Keep h0 h16 [] := (K15).wr W16 (Or.inr sz_b12)
    have Z16 : n0 ≤ h16.size := Nat.le_trans Z15 (Keep.of_wr W16).1
    have N16 := Fr.snoc X16 N15 gn_b12
    refine OG.of st16 ?_
    show OG _ _ _ _ _ _ _ (T16.setTop (mkF m 27 (own_L0 g) [(.ref b12)]))
    refine OG.of (A := T16.setTop (mkF m 31 (own_L0 g) [(.int (116 : Int32)), (.int (4 : Int32)), (.ref b12), (.ref b12)])) (fun oT oK => ?_) ?_
    · skip
      refine XS.dup X16.here hx rfl (hb hby dB_27) rfl rfl ?_
      show Steps p.tables e below (T16.setTop (mkF m 28 (own_L0 g) [(.ref b12), (.ref b12)])) _
      refine XS.iconst X16.here hx rfl (hb hby dB_28) ?_
      refine XS.bipush X16.here hx rfl (hb hby dB_29) ?_
      exact oK
    have cf30 := V16
    obtain ⟨clf30, Arf30, qf30, Sf30, Mf30, Hf30, Gf30⟩ := cf30
    obtain ⟨T17, h17, X17, e17, W17, st17⟩ := stC X16 hx hZ e16 Arf30 (j := (4 : Int32)) (inb_of Sf30 ⟨by decide, by decide⟩) (g := (mkF m 31 (own_L0 g) [(.int (116 : Int32)), (.int (4 : Int32)), (.ref b12), (.ref b12)])) rfl rfl (hb hby dB_31)
    have V17 : Arv Z h17 b12 kc12 .char (5 : Int32) [(.int (nar .char (103 : Int32))), (.int (nar .char (117 : Int32))), (.int (nar .char (101 : Int32))), (.int (nar .char (115 : Int32))), (.int (nar .char (116 : Int32)))] (.int (0 : Int32)) := Arv.set Arf30 qf30 Sf30 Mf30 Hf30 Gf30 (fits_nar_char _) W17 4 rfl (Nat.le_of_ble_eq_true rfl)
    have K17 : Keep h0 h17 [] := (K16).wr W17 (Or.inr sz_b12)
    have Z17 : n0 ≤ h17.size := Nat.le_trans Z16 (Keep.of_wr W17).1
    have N17 := Fr.snoc X17 N16 gn_b12
    refine OG.of st17 ?_
    show OG _ _ _ _ _ _ _ (T17.setTop (mkF m 32 (own_L0 g) [(.ref b12)]))
    refine OG.retA X17 hx Bd.returns rfl rfl (hb hby dB_32) hlk ?_ (by decide) (by decide)
    try rw [e17]
    exact ⟨b12, [(nar .char (103 : Int32)), (nar .char (117 : Int32)), (nar .char (101 : Int32)), (nar .char (115 : Int32)), (nar .char (116 : Int32))], 5, rfl, N17, K17, gn_b12, sz_b12, ⟨kc12, V17⟩, rfl, (by decide), (by decide), (own_ac (by decide +kernel) (own_ac (by decide +kernel) (own_ac (by decide +kernel) (own_ac (by decide +kernel) (own_ac (by decide +kernel) own_an))))), (by rw [if_neg hc1_1]; decide +kernel)⟩
theorem dL_0 : decode method_4_code 0 = .ok (.iload_n 0, 1) := by decide +kernel
theorem dL_1 : decode method_4_code 1 = .ok (.ifCond .eq 27, 3) := by decide +kernel
theorem dL_28 : decode method_4_code 28 = .ok (.bipush 9, 2) := by decide +kernel
theorem dL_30 : decode method_4_code 30 = .ok (.newarray .char, 2) := by decide +kernel
theorem dL_32 : decode method_4_code 32 = .ok (.dup, 1) := by decide +kernel
theorem dL_33 : decode method_4_code 33 = .ok (.iconst 0, 1) := by decide +kernel
theorem dL_34 : decode method_4_code 34 = .ok (.bipush 114, 2) := by decide +kernel
theorem dL_36 : decode method_4_code 36 = .ok (.castore, 1) := by decide +kernel
theorem dL_37 : decode method_4_code 37 = .ok (.dup, 1) := by decide +kernel
theorem dL_38 : decode method_4_code 38 = .ok (.iconst 1, 1) := by decide +kernel
theorem dL_39 : decode method_4_code 39 = .ok (.bipush 101, 2) := by decide +kernel
theorem dL_41 : decode method_4_code 41 = .ok (.castore, 1) := by decide +kernel
theorem dL_42 : decode method_4_code 42 = .ok (.dup, 1) := by decide +kernel
theorem dL_43 : decode method_4_code 43 = .ok (.iconst 2, 1) := by decide +kernel
theorem dL_44 : decode method_4_code 44 = .ok (.bipush 103, 2) := by decide +kernel
theorem dL_46 : decode method_4_code 46 = .ok (.castore, 1) := by decide +kernel
theorem dL_47 : decode method_4_code 47 = .ok (.dup, 1) := by decide +kernel
theorem dL_48 : decode method_4_code 48 = .ok (.iconst 3, 1) := by decide +kernel
theorem dL_49 : decode method_4_code 49 = .ok (.bipush 105, 2) := by decide +kernel
theorem dL_51 : decode method_4_code 51 = .ok (.castore, 1) := by decide +kernel
theorem dL_52 : decode method_4_code 52 = .ok (.dup, 1) := by decide +kernel
theorem dL_53 : decode method_4_code 53 = .ok (.iconst 4, 1) := by decide +kernel
theorem dL_54 : decode method_4_code 54 = .ok (.bipush 115, 2) := by decide +kernel
theorem dL_56 : decode method_4_code 56 = .ok (.castore, 1) := by decide +kernel
theorem dL_57 : decode method_4_code 57 = .ok (.dup, 1) := by decide +kernel
theorem dL_58 : decode method_4_code 58 = .ok (.iconst 5, 1) := by decide +kernel
theorem dL_59 : decode method_4_code 59 = .ok (.bipush 116, 2) := by decide +kernel
theorem dL_61 : decode method_4_code 61 = .ok (.castore, 1) := by decide +kernel
theorem dL_62 : decode method_4_code 62 = .ok (.dup, 1) := by decide +kernel
theorem dL_63 : decode method_4_code 63 = .ok (.bipush 6, 2) := by decide +kernel
theorem dL_65 : decode method_4_code 65 = .ok (.bipush 101, 2) := by decide +kernel
theorem dL_67 : decode method_4_code 67 = .ok (.castore, 1) := by decide +kernel
theorem dL_68 : decode method_4_code 68 = .ok (.dup, 1) := by decide +kernel
theorem dL_69 : decode method_4_code 69 = .ok (.bipush 7, 2) := by decide +kernel
theorem dL_71 : decode method_4_code 71 = .ok (.bipush 114, 2) := by decide +kernel
theorem dL_73 : decode method_4_code 73 = .ok (.castore, 1) := by decide +kernel
theorem dL_74 : decode method_4_code 74 = .ok (.dup, 1) := by decide +kernel
theorem dL_75 : decode method_4_code 75 = .ok (.bipush 8, 2) := by decide +kernel
theorem dL_77 : decode method_4_code 77 = .ok (.bipush 101, 2) := by decide +kernel
theorem dL_79 : decode method_4_code 79 = .ok (.castore, 1) := by decide +kernel
theorem dL_80 : decode method_4_code 80 = .ok (.areturn, 1) := by decide +kernel
theorem dL_4 : decode method_4_code 4 = .ok (.iconst 4, 1) := by decide +kernel
theorem dL_5 : decode method_4_code 5 = .ok (.newarray .char, 2) := by decide +kernel
theorem dL_7 : decode method_4_code 7 = .ok (.dup, 1) := by decide +kernel
theorem dL_8 : decode method_4_code 8 = .ok (.iconst 0, 1) := by decide +kernel
theorem dL_9 : decode method_4_code 9 = .ok (.bipush 103, 2) := by decide +kernel
theorem dL_11 : decode method_4_code 11 = .ok (.castore, 1) := by decide +kernel
theorem dL_12 : decode method_4_code 12 = .ok (.dup, 1) := by decide +kernel
theorem dL_13 : decode method_4_code 13 = .ok (.iconst 1, 1) := by decide +kernel
theorem dL_14 : decode method_4_code 14 = .ok (.bipush 117, 2) := by decide +kernel
theorem dL_16 : decode method_4_code 16 = .ok (.castore, 1) := by decide +kernel
theorem dL_17 : decode method_4_code 17 = .ok (.dup, 1) := by decide +kernel
theorem dL_18 : decode method_4_code 18 = .ok (.iconst 2, 1) := by decide +kernel
theorem dL_19 : decode method_4_code 19 = .ok (.bipush 101, 2) := by decide +kernel
theorem dL_21 : decode method_4_code 21 = .ok (.castore, 1) := by decide +kernel
theorem dL_22 : decode method_4_code 22 = .ok (.dup, 1) := by decide +kernel
theorem dL_23 : decode method_4_code 23 = .ok (.iconst 3, 1) := by decide +kernel
theorem dL_24 : decode method_4_code 24 = .ok (.bipush 115, 2) := by decide +kernel
theorem dL_26 : decode method_4_code 26 = .ok (.castore, 1) := by decide +kernel
theorem dL_27 : decode method_4_code 27 = .ok (.areturn, 1) := by decide +kernel
theorem pn_L : plainName "com/example/vett/vett/GranteeUserTypePinLaw" = true := by first | (simp [plainName, overriddenIn]; done) | decide +kernel
theorem ef_L (m : MethodId) (x0 : Int32) : entryFrame m #[(.int x0)] 1 = mkF m 0 #[.val (.int x0)] [] := by first | (simp [entryFrame, mkF, argsToLocals, Value.category]; done) | rfl
def QL (Z : State) (g : Int32) (h0 : Heap) (n0 : Nat) (v : Option Value) (h : Heap) (L : List Loc) : Prop := ∃ (r : Addr) (cs : List Int32) (n : Nat), v = some (.ref r) ∧ Fr n0 L ∧ Keep h0 h [] ∧ n0 ≤ r ∧ h0.size ≤ r ∧ OAr Z h r cs n (0 : Int32)
set_option maxRecDepth 65536 in
set_option maxHeartbeats 40000000 in
theorem rmL (l : Launch) (Z : State) (a0 : Array Value) (hw : ∀ d ∈ tables_1, d.before a0 Z = true) (ws : List Jvm.Cond) (g : Int32) (h0 : Heap) (n0 : Nat) (Z0 : n0 ≤ h0.size) :
    MetFree l (⟨"com/example/vett/vett/GranteeUserTypePinLaw", "dropLast", "(Z)[C"⟩ : MethodName) (head1 (Jvm.Cond.code (⟨"com/example/vett/vett/GranteeUserTypePinLaw", "dropLast", "(Z)[C"⟩ : MethodName) method_4_code 1 (some (.array .char)) :: ws) ({ frames := 0, cells := 1, slots := 9, locals := 0 } : Room)) (fun aA oU => aA = #[(.int g)] ∧ Z.Warmed39 oU.vm ∧ oU.heap = h0) (fun _ _ _ _ _ => True) (fun _ oU oO oU' => ∃ oV oL, oO = .returned oV ∧ QL Z g h0 n0 oV oU'.heap oL ∧ FrameEnd oU oO oU' oL ({ frames := 0, cells := 1, slots := 9, locals := 0 } : Room).cells ({ frames := 0, cells := 1, slots := 9, locals := 0 } : Room).slots) := by
  refine MetFree.of_bodySF (plainFor_of_name pn_L) hisR ?_
  intro p e s m args below meth c s₁ Bd hml0 hP hK
  obtain ⟨rfl, hZ, hh⟩ := hP
  have hx := Bd.exec
  have hby := Bd.bytes
  have hlk := BodyLoose.notSynchronized Bd
  have hml : c.maxLocals = 1 := hml0
  have hown : s.vm.findClass "com/example/vett/vett/GranteeUserTypePinLaw" = some m.cls := findClass_of_methodNamed Bd.named
  have hnm := (name_of_methodNamed Bd.named Bd.method).1
  have X0 : Stand p l e ({ frames := 0, cells := 1, slots := 9, locals := 0 } : Room) s m #[(.int g)] below meth c s₁ [] 0 0 := Stand.of_body Bd
  have e0 : s₁.heap = h0 := by rw [← hh, Bd.state]; rfl
  have N0 := Fr.nil n0
  show OG p e below s ({ frames := 0, cells := 1, slots := 9, locals := 0 } : Room).cells ({ frames := 0, cells := 1, slots := 9, locals := 0 } : Room).slots (QL Z g h0 n0) _
  refine OG.of (fun oT oK => castTop (ef_L m g) oK) ?_
  show OG p e below s _ _ _ (s₁.setTop (mkF m 0 (own_L0 g) []))
  refine OG.of (A := s₁.setTop (mkF m 1 (own_L0 g) [(.int g)])) (fun oT oK => ?_) ?_
  · skip
    refine XS.iloadN X0.here hx rfl (hb hby dL_0) rfl  ?_
    exact oK
  by_cases hc1_1 : g = (0 : Int32)
  · refine OG.of (fun oT oK => XS.ifYes X0.here hx rfl (pc0 := 1) (pc' := 28) rfl (hb hby dL_1) rfl (XT.i0_eq_t hc1_1) (by decide) (by decide) oK) ?_
    show OG _ _ _ _ _ _ _ (s₁.setTop (mkF m 28 (own_L0 g) []))
    refine OG.of (A := s₁.setTop (mkF m 30 (own_L0 g) [(.int (9 : Int32))])) (fun oT oK => ?_) ?_
    · skip
      refine XS.bipush X0.here hx rfl (hb hby dL_28) ?_
      exact oK
    obtain ⟨T1, h1, kc1, X1, e1, E1, A1, st1⟩ := newP X0 hx hZ (own_at hw 4 rfl) e0 (g := (mkF m 30 (own_L0 g) [(.int (9 : Int32))])) rfl (hb hby dL_30) rfl (by decide) (cap := 9) (by decide) (by decide) (by decide) (by decide)
    obtain ⟨b1, g1⟩ : ∃ z, z = (h0).size := ⟨_, rfl⟩
    have gn_b1 : n0 ≤ b1 := Nat.le_trans Z0 (Nat.le_of_eq g1.symm)
    have sz_b1 : h0.size ≤ b1 := Nat.le_trans (Keep.refl h0 []).1 (Nat.le_of_eq g1.symm)
    rw [← g1] at A1 st1
    have K1 : Keep h0 h1 [] := (Keep.refl h0 []).ext E1
    have Z1 : n0 ≤ h1.size := Nat.le_trans Z0 E1.1
    have V1 : Arv Z h1 b1 kc1 .char (9 : Int32) [(.int (0 : Int32)), (.int (0 : Int32)), (.int (0 : Int32)), (.int (0 : Int32)), (.int (0 : Int32)), (.int (0 : Int32)), (.int (0 : Int32)), (.int (0 : Int32)), (.int (0 : Int32))] (.int (0 : Int32)) := (Arv.new A1 (by decide)).pad (pad_rep [] (.int (0 : Int32)) 9)
    refine OG.of st1 ?_
    show OG _ _ _ _ _ _ _ (T1.setTop (mkF m 32 (own_L0 g) [(.ref b1)]))
    refine OG.of (A := T1.setTop (mkF m 36 (own_L0 g) [(.int (114 : Int32)), (.int (0 : Int32)), (.ref b1), (.ref b1)])) (fun oT oK => ?_) ?_
    · skip
      refine XS.dup X1.here hx rfl (hb hby dL_32) rfl rfl ?_
      show Steps p.tables e below (T1.setTop (mkF m 33 (own_L0 g) [(.ref b1), (.ref b1)])) _
      refine XS.iconst X1.here hx rfl (hb hby dL_33) ?_
      refine XS.bipush X1.here hx rfl (hb hby dL_34) ?_
      exact oK
    have cf2 := V1
    obtain ⟨clf2, Arf2, qf2, Sf2, Mf2, Hf2, Gf2⟩ := cf2
    obtain ⟨T2, h2, X2, e2, W2, st2⟩ := stC X1 hx hZ e1 Arf2 (j := (0 : Int32)) (inb_of Sf2 ⟨by decide, by decide⟩) (g := (mkF m 36 (own_L0 g) [(.int (114 : Int32)), (.int (0 : Int32)), (.ref b1), (.ref b1)])) rfl rfl (hb hby dL_36)
    have V2 : Arv Z h2 b1 kc1 .char (9 : Int32) [(.int (nar .char (114 : Int32))), (.int (0 : Int32)), (.int (0 : Int32)), (.int (0 : Int32)), (.int (0 : Int32)), (.int (0 : Int32)), (.int (0 : Int32)), (.int (0 : Int32)), (.int (0 : Int32))] (.int (0 : Int32)) := Arv.set Arf2 qf2 Sf2 Mf2 Hf2 Gf2 (fits_nar_char _) W2 0 rfl (Nat.le_of_ble_eq_true rfl)
    have K2 : Keep h0 h2 [] := (K1).wr W2 (Or.inr sz_b1)
    have Z2 : n0 ≤ h2.size := Nat.le_trans Z1 (Keep.of_wr W2).1
    have N2 := Fr.snoc X2 N0 gn_b1
    refine OG.of st2 ?_
    show OG _ _ _ _ _ _ _ (T2.setTop (mkF m 37 (own_L0 g) [(.ref b1)]))
    refine OG.of (A := T2.setTop (mkF m 41 (own_L0 g) [(.int (101 : Int32)), (.int (1 : Int32)), (.ref b1), (.ref b1)])) (fun oT oK => ?_) ?_
    · skip
      refine XS.dup X2.here hx rfl (hb hby dL_37) rfl rfl ?_
      show Steps p.tables e below (T2.setTop (mkF m 38 (own_L0 g) [(.ref b1), (.ref b1)])) _
      refine XS.iconst X2.here hx rfl (hb hby dL_38) ?_
      refine XS.bipush X2.here hx rfl (hb hby dL_39) ?_
      exact oK
    have cf4 := V2
    obtain ⟨clf4, Arf4, qf4, Sf4, Mf4, Hf4, Gf4⟩ := cf4
    obtain ⟨T3, h3, X3, e3, W3, st3⟩ := stC X2 hx hZ e2 Arf4 (j := (1 : Int32)) (inb_of Sf4 ⟨by decide, by decide⟩) (g := (mkF m 41 (own_L0 g) [(.int (101 : Int32)), (.int (1 : Int32)), (.ref b1), (.ref b1)])) rfl rfl (hb hby dL_41)
    have V3 : Arv Z h3 b1 kc1 .char (9 : Int32) [(.int (nar .char (114 : Int32))), (.int (nar .char (101 : Int32))), (.int (0 : Int32)), (.int (0 : Int32)), (.int (0 : Int32)), (.int (0 : Int32)), (.int (0 : Int32)), (.int (0 : Int32)), (.int (0 : Int32))] (.int (0 : Int32)) := Arv.set Arf4 qf4 Sf4 Mf4 Hf4 Gf4 (fits_nar_char _) W3 1 rfl (Nat.le_of_ble_eq_true rfl)
    have K3 : Keep h0 h3 [] := (K2).wr W3 (Or.inr sz_b1)
    have Z3 : n0 ≤ h3.size := Nat.le_trans Z2 (Keep.of_wr W3).1
    have N3 := Fr.snoc X3 N2 gn_b1
    refine OG.of st3 ?_
    show OG _ _ _ _ _ _ _ (T3.setTop (mkF m 42 (own_L0 g) [(.ref b1)]))
    refine OG.of (A := T3.setTop (mkF m 46 (own_L0 g) [(.int (103 : Int32)), (.int (2 : Int32)), (.ref b1), (.ref b1)])) (fun oT oK => ?_) ?_
    · skip
      refine XS.dup X3.here hx rfl (hb hby dL_42) rfl rfl ?_
      show Steps p.tables e below (T3.setTop (mkF m 43 (own_L0 g) [(.ref b1), (.ref b1)])) _
      refine XS.iconst X3.here hx rfl (hb hby dL_43) ?_
      refine XS.bipush X3.here hx rfl (hb hby dL_44) ?_
      exact oK
    have cf6 := V3
    obtain ⟨clf6, Arf6, qf6, Sf6, Mf6, Hf6, Gf6⟩ := cf6
    obtain ⟨T4, h4, X4, e4, W4, st4⟩ := stC X3 hx hZ e3 Arf6 (j := (2 : Int32)) (inb_of Sf6 ⟨by decide, by decide⟩) (g := (mkF m 46 (own_L0 g) [(.int (103 : Int32)), (.int (2 : Int32)), (.ref b1), (.ref b1)])) rfl rfl (hb hby dL_46)
    have V4 : Arv Z h4 b1 kc1 .char (9 : Int32) [(.int (nar .char (114 : Int32))), (.int (nar .char (101 : Int32))), (.int (nar .char (103 : Int32))), (.int (0 : Int32)), (.int (0 : Int32)), (.int (0 : Int32)), (.int (0 : Int32)), (.int (0 : Int32)), (.int (0 : Int32))] (.int (0 : Int32)) := Arv.set Arf6 qf6 Sf6 Mf6 Hf6 Gf6 (fits_nar_char _) W4 2 rfl (Nat.le_of_ble_eq_true rfl)
    have K4 : Keep h0 h4 [] := (K3).wr W4 (Or.inr sz_b1)
    have Z4 : n0 ≤ h4.size := Nat.le_trans Z3 (Keep.of_wr W4).1
    have N4 := Fr.snoc X4 N3 gn_b1
    refine OG.of st4 ?_
    show OG _ _ _ _ _ _ _ (T4.setTop (mkF m 47 (own_L0 g) [(.ref b1)]))
    refine OG.of (A := T4.setTop (mkF m 51 (own_L0 g) [(.int (105 : Int32)), (.int (3 : Int32)), (.ref b1), (.ref b1)])) (fun oT oK => ?_) ?_
    · skip
      refine XS.dup X4.here hx rfl (hb hby dL_47) rfl rfl ?_
      show Steps p.tables e below (T4.setTop (mkF m 48 (own_L0 g) [(.ref b1), (.ref b1)])) _
      refine XS.iconst X4.here hx rfl (hb hby dL_48) ?_
      refine XS.bipush X4.here hx rfl (hb hby dL_49) ?_
      exact oK
    have cf8 := V4
    obtain ⟨clf8, Arf8, qf8, Sf8, Mf8, Hf8, Gf8⟩ := cf8
    obtain ⟨T5, h5, X5, e5, W5, st5⟩ := stC X4 hx hZ e4 Arf8 (j := (3 : Int32)) (inb_of Sf8 ⟨by decide, by decide⟩) (g := (mkF m 51 (own_L0 g) [(.int (105 : Int32)), (.int (3 : Int32)), (.ref b1), (.ref b1)])) rfl rfl (hb hby dL_51)
    have V5 : Arv Z h5 b1 kc1 .char (9 : Int32) [(.int (nar .char (114 : Int32))), (.int (nar .char (101 : Int32))), (.int (nar .char (103 : Int32))), (.int (nar .char (105 : Int32))), (.int (0 : Int32)), (.int (0 : Int32)), (.int (0 : Int32)), (.int (0 : Int32)), (.int (0 : Int32))] (.int (0 : Int32)) := Arv.set Arf8 qf8 Sf8 Mf8 Hf8 Gf8 (fits_nar_char _) W5 3 rfl (Nat.le_of_ble_eq_true rfl)
    have K5 : Keep h0 h5 [] := (K4).wr W5 (Or.inr sz_b1)
    have Z5 : n0 ≤ h5.size := Nat.le_trans Z4 (Keep.of_wr W5).1
    have N5 := Fr.snoc X5 N4 gn_b1
    refine OG.of st5 ?_
    show OG _ _ _ _ _ _ _ (T5.setTop (mkF m 52 (own_L0 g) [(.ref b1)]))
    refine OG.of (A := T5.setTop (mkF m 56 (own_L0 g) [(.int (115 : Int32)), (.int (4 : Int32)), (.ref b1), (.ref b1)])) (fun oT oK => ?_) ?_
    · skip
      refine XS.dup X5.here hx rfl (hb hby dL_52) rfl rfl ?_
      show Steps p.tables e below (T5.setTop (mkF m 53 (own_L0 g) [(.ref b1), (.ref b1)])) _
      refine XS.iconst X5.here hx rfl (hb hby dL_53) ?_
      refine XS.bipush X5.here hx rfl (hb hby dL_54) ?_
      exact oK
    have cf10 := V5
    obtain ⟨clf10, Arf10, qf10, Sf10, Mf10, Hf10, Gf10⟩ := cf10
    obtain ⟨T6, h6, X6, e6, W6, st6⟩ := stC X5 hx hZ e5 Arf10 (j := (4 : Int32)) (inb_of Sf10 ⟨by decide, by decide⟩) (g := (mkF m 56 (own_L0 g) [(.int (115 : Int32)), (.int (4 : Int32)), (.ref b1), (.ref b1)])) rfl rfl (hb hby dL_56)
    have V6 : Arv Z h6 b1 kc1 .char (9 : Int32) [(.int (nar .char (114 : Int32))), (.int (nar .char (101 : Int32))), (.int (nar .char (103 : Int32))), (.int (nar .char (105 : Int32))), (.int (nar .char (115 : Int32))), (.int (0 : Int32)), (.int (0 : Int32)), (.int (0 : Int32)), (.int (0 : Int32))] (.int (0 : Int32)) := Arv.set Arf10 qf10 Sf10 Mf10 Hf10 Gf10 (fits_nar_char _) W6 4 rfl (Nat.le_of_ble_eq_true rfl)
    have K6 : Keep h0 h6 [] := (K5).wr W6 (Or.inr sz_b1)
    have Z6 : n0 ≤ h6.size := Nat.le_trans Z5 (Keep.of_wr W6).1
    have N6 := Fr.snoc X6 N5 gn_b1
    refine OG.of st6 ?_
    show OG _ _ _ _ _ _ _ (T6.setTop (mkF m 57 (own_L0 g) [(.ref b1)]))
    refine OG.of (A := T6.setTop (mkF m 61 (own_L0 g) [(.int (116 : Int32)), (.int (5 : Int32)), (.ref b1), (.ref b1)])) (fun oT oK => ?_) ?_
    · skip
      refine XS.dup X6.here hx rfl (hb hby dL_57) rfl rfl ?_
      show Steps p.tables e below (T6.setTop (mkF m 58 (own_L0 g) [(.ref b1), (.ref b1)])) _
      refine XS.iconst X6.here hx rfl (hb hby dL_58) ?_
      refine XS.bipush X6.here hx rfl (hb hby dL_59) ?_
      exact oK
    have cf12 := V6
    obtain ⟨clf12, Arf12, qf12, Sf12, Mf12, Hf12, Gf12⟩ := cf12
    obtain ⟨T7, h7, X7, e7, W7, st7⟩ := stC X6 hx hZ e6 Arf12 (j := (5 : Int32)) (inb_of Sf12 ⟨by decide, by decide⟩) (g := (mkF m 61 (own_L0 g) [(.int (116 : Int32)), (.int (5 : Int32)), (.ref b1), (.ref b1)])) rfl rfl (hb hby dL_61)
    have V7 : Arv Z h7 b1 kc1 .char (9 : Int32) [(.int (nar .char (114 : Int32))), (.int (nar .char (101 : Int32))), (.int (nar .char (103 : Int32))), (.int (nar .char (105 : Int32))), (.int (nar .char (115 : Int32))), (.int (nar .char (116 : Int32))), (.int (0 : Int32)), (.int (0 : Int32)), (.int (0 : Int32))] (.int (0 : Int32)) := Arv.set Arf12 qf12 Sf12 Mf12 Hf12 Gf12 (fits_nar_char _) W7 5 rfl (Nat.le_of_ble_eq_true rfl)
    have K7 : Keep h0 h7 [] := (K6).wr W7 (Or.inr sz_b1)
    have Z7 : n0 ≤ h7.size := Nat.le_trans Z6 (Keep.of_wr W7).1
    have N7 := Fr.snoc X7 N6 gn_b1
    refine OG.of st7 ?_
    show OG _ _ _ _ _ _ _ (T7.setTop (mkF m 62 (own_L0 g) [(.ref b1)]))
    refine OG.of (A := T7.setTop (mkF m 67 (own_L0 g) [(.int (101 : Int32)), (.int (6 : Int32)), (.ref b1), (.ref b1)])) (fun oT oK => ?_) ?_
    · skip
      refine XS.dup X7.here hx rfl (hb hby dL_62) rfl rfl ?_
      show Steps p.tables e below (T7.setTop (mkF m 63 (own_L0 g) [(.ref b1), (.ref b1)])) _
      refine XS.bipush X7.here hx rfl (hb hby dL_63) ?_
      refine XS.bipush X7.here hx rfl (hb hby dL_65) ?_
      exact oK
    have cf14 := V7
    obtain ⟨clf14, Arf14, qf14, Sf14, Mf14, Hf14, Gf14⟩ := cf14
    obtain ⟨T8, h8, X8, e8, W8, st8⟩ := stC X7 hx hZ e7 Arf14 (j := (6 : Int32)) (inb_of Sf14 ⟨by decide, by decide⟩) (g := (mkF m 67 (own_L0 g) [(.int (101 : Int32)), (.int (6 : Int32)), (.ref b1), (.ref b1)])) rfl rfl (hb hby dL_67)
    have V8 : Arv Z h8 b1 kc1 .char (9 : Int32) [(.int (nar .char (114 : Int32))), (.int (nar .char (101 : Int32))), (.int (nar .char (103 : Int32))), (.int (nar .char (105 : Int32))), (.int (nar .char (115 : Int32))), (.int (nar .char (116 : Int32))), (.int (nar .char (101 : Int32))), (.int (0 : Int32)), (.int (0 : Int32))] (.int (0 : Int32)) := Arv.set Arf14 qf14 Sf14 Mf14 Hf14 Gf14 (fits_nar_char _) W8 6 rfl (Nat.le_of_ble_eq_true rfl)
    have K8 : Keep h0 h8 [] := (K7).wr W8 (Or.inr sz_b1)
    have Z8 : n0 ≤ h8.size := Nat.le_trans Z7 (Keep.of_wr W8).1
    have N8 := Fr.snoc X8 N7 gn_b1
    refine OG.of st8 ?_
    show OG _ _ _ _ _ _ _ (T8.setTop (mkF m 68 (own_L0 g) [(.ref b1)]))
    refine OG.of (A := T8.setTop (mkF m 73 (own_L0 g) [(.int (114 : Int32)), (.int (7 : Int32)), (.ref b1), (.ref b1)])) (fun oT oK => ?_) ?_
    · skip
      refine XS.dup X8.here hx rfl (hb hby dL_68) rfl rfl ?_
      show Steps p.tables e below (T8.setTop (mkF m 69 (own_L0 g) [(.ref b1), (.ref b1)])) _
      refine XS.bipush X8.here hx rfl (hb hby dL_69) ?_
      refine XS.bipush X8.here hx rfl (hb hby dL_71) ?_
      exact oK
    have cf16 := V8
    obtain ⟨clf16, Arf16, qf16, Sf16, Mf16, Hf16, Gf16⟩ := cf16
    obtain ⟨T9, h9, X9, e9, W9, st9⟩ := stC X8 hx hZ e8 Arf16 (j := (7 : Int32)) (inb_of Sf16 ⟨by decide, by decide⟩) (g := (mkF m 73 (own_L0 g) [(.int (114 : Int32)), (.int (7 : Int32)), (.ref b1), (.ref b1)])) rfl rfl (hb hby dL_73)
    have V9 : Arv Z h9 b1 kc1 .char (9 : Int32) [(.int (nar .char (114 : Int32))), (.int (nar .char (101 : Int32))), (.int (nar .char (103 : Int32))), (.int (nar .char (105 : Int32))), (.int (nar .char (115 : Int32))), (.int (nar .char (116 : Int32))), (.int (nar .char (101 : Int32))), (.int (nar .char (114 : Int32))), (.int (0 : Int32))] (.int (0 : Int32)) := Arv.set Arf16 qf16 Sf16 Mf16 Hf16 Gf16 (fits_nar_char _) W9 7 rfl (Nat.le_of_ble_eq_true rfl)
    have K9 : Keep h0 h9 [] := (K8).wr W9 (Or.inr sz_b1)
    have Z9 : n0 ≤ h9.size := Nat.le_trans Z8 (Keep.of_wr W9).1
    have N9 := Fr.snoc X9 N8 gn_b1
    refine OG.of st9 ?_
    show OG _ _ _ _ _ _ _ (T9.setTop (mkF m 74 (own_L0 g) [(.ref b1)]))
    refine OG.of (A := T9.setTop (mkF m 79 (own_L0 g) [(.int (101 : Int32)), (.int (8 : Int32)), (.ref b1), (.ref b1)])) (fun oT oK => ?_) ?_
    · skip
      refine XS.dup X9.here hx rfl (hb hby dL_74) rfl rfl ?_
      show Steps p.tables e below (T9.setTop (mkF m 75 (own_L0 g) [(.ref b1), (.ref b1)])) _
      refine XS.bipush X9.here hx rfl (hb hby dL_75) ?_
      refine XS.bipush X9.here hx rfl (hb hby dL_77) ?_
      exact oK
    have cf18 := V9
    obtain ⟨clf18, Arf18, qf18, Sf18, Mf18, Hf18, Gf18⟩ := cf18
    obtain ⟨T10, h10, X10, e10, W10, st10⟩ := stC X9 hx hZ e9 Arf18 (j := (8 : Int32)) (inb_of Sf18 ⟨by decide, by decide⟩) (g := (mkF m 79 (own_L0 g) [(.int (101 : Int32)), (.int (8 : Int32)), (.ref b1), (.ref b1)])) rfl rfl (hb hby dL_79)
    have V10 : Arv Z h10 b1 kc1 .char (9 : Int32) [(.int (nar .char (114 : Int32))), (.int (nar .char (101 : Int32))), (.int (nar .char (103 : Int32))), (.int (nar .char (105 : Int32))), (.int (nar .char (115 : Int32))), (.int (nar .char (116 : Int32))), (.int (nar .char (101 : Int32))), (.int (nar .char (114 : Int32))), (.int (nar .char (101 : Int32)))] (.int (0 : Int32)) := Arv.set Arf18 qf18 Sf18 Mf18 Hf18 Gf18 (fits_nar_char _) W10 8 rfl (Nat.le_of_ble_eq_true rfl)
    have K10 : Keep h0 h10 [] := (K9).wr W10 (Or.inr sz_b1)
    have Z10 : n0 ≤ h10.size := Nat.le_trans Z9 (Keep.of_wr W10).1
    have N10 := Fr.snoc X10 N9 gn_b1
    refine OG.of st10 ?_
    show OG _ _ _ _ _ _ _ (T10.setTop (mkF m 80 (own_L0 g) [(.ref b1)]))
    refine OG.retA X10 hx Bd.returns rfl rfl (hb hby dL_80) hlk ?_ (by decide) (by decide)
    try rw [e10]
    exact ⟨b1, [(nar .char (114 : Int32)), (nar .char (101 : Int32)), (nar .char (103 : Int32)), (nar .char (105 : Int32)), (nar .char (115 : Int32)), (nar .char (116 : Int32)), (nar .char (101 : Int32)), (nar .char (114 : Int32)), (nar .char (101 : Int32))], 9, rfl, N10, K10, gn_b1, sz_b1, ⟨kc1, V10⟩, rfl, (by decide), (by decide), (own_ac (by decide +kernel) (own_ac (by decide +kernel) (own_ac (by decide +kernel) (own_ac (by decide +kernel) (own_ac (by decide +kernel) (own_ac (by decide +kernel) (own_ac (by decide +kernel) (own_ac (by decide +kernel) (own_ac (by decide +kernel) own_an))))))))), (own_exl (by simp) (by simp))⟩
  · refine OG.of (fun oT oK => XS.ifNo X0.here hx rfl (hb hby dL_1) rfl (XT.i0_eq_f hc1_1) oK) ?_
    show OG _ _ _ _ _ _ _ (s₁.setTop (mkF m 4 (own_L0 g) []))
    refine OG.of (A := s₁.setTop (mkF m 5 (own_L0 g) [(.int (4 : Int32))])) (fun oT oK => ?_) ?_
    · skip
      refine XS.iconst X0.here hx rfl (hb hby dL_4) ?_
      exact oK
    obtain ⟨T11, h11, kc11, X11, e11, E11, A11, st11⟩ := newP X0 hx hZ (own_at hw 4 rfl) e0 (g := (mkF m 5 (own_L0 g) [(.int (4 : Int32))])) rfl (hb hby dL_5) rfl (by decide) (cap := 4) (by decide) (by decide) (by decide) (by decide)
    obtain ⟨b11, g11⟩ : ∃ z, z = (h0).size := ⟨_, rfl⟩
    have gn_b11 : n0 ≤ b11 := Nat.le_trans Z0 (Nat.le_of_eq g11.symm)
    have sz_b11 : h0.size ≤ b11 := Nat.le_trans (Keep.refl h0 []).1 (Nat.le_of_eq g11.symm)
    rw [← g11] at A11 st11
    have K11 : Keep h0 h11 [] := (Keep.refl h0 []).ext E11
    have Z11 : n0 ≤ h11.size := Nat.le_trans Z0 E11.1
    have V11 : Arv Z h11 b11 kc11 .char (4 : Int32) [(.int (0 : Int32)), (.int (0 : Int32)), (.int (0 : Int32)), (.int (0 : Int32))] (.int (0 : Int32)) := (Arv.new A11 (by decide)).pad (pad_rep [] (.int (0 : Int32)) 4)
    refine OG.of st11 ?_
    show OG _ _ _ _ _ _ _ (T11.setTop (mkF m 7 (own_L0 g) [(.ref b11)]))
    refine OG.of (A := T11.setTop (mkF m 11 (own_L0 g) [(.int (103 : Int32)), (.int (0 : Int32)), (.ref b11), (.ref b11)])) (fun oT oK => ?_) ?_
    · skip
      refine XS.dup X11.here hx rfl (hb hby dL_7) rfl rfl ?_
      show Steps p.tables e below (T11.setTop (mkF m 8 (own_L0 g) [(.ref b11), (.ref b11)])) _
      refine XS.iconst X11.here hx rfl (hb hby dL_8) ?_
      refine XS.bipush X11.here hx rfl (hb hby dL_9) ?_
      exact oK
    have cf20 := V11
    obtain ⟨clf20, Arf20, qf20, Sf20, Mf20, Hf20, Gf20⟩ := cf20
    obtain ⟨T12, h12, X12, e12, W12, st12⟩ := stC X11 hx hZ e11 Arf20 (j := (0 : Int32)) (inb_of Sf20 ⟨by decide, by decide⟩) (g := (mkF m 11 (own_L0 g) [(.int (103 : Int32)), (.int (0 : Int32)), (.ref b11), (.ref b11)])) rfl rfl (hb hby dL_11)
    have V12 : Arv Z h12 b11 kc11 .char (4 : Int32) [(.int (nar .char (103 : Int32))), (.int (0 : Int32)), (.int (0 : Int32)), (.int (0 : Int32))] (.int (0 : Int32)) := Arv.set Arf20 qf20 Sf20 Mf20 Hf20 Gf20 (fits_nar_char _) W12 0 rfl (Nat.le_of_ble_eq_true rfl)
    have K12 : Keep h0 h12 [] := (K11).wr W12 (Or.inr sz_b11)
    have Z12 : n0 ≤ h12.size := Nat.le_trans Z11 (Keep.of_wr W12).1
    have N12 := Fr.snoc X12 N0 gn_b11
    refine OG.of st12 ?_
    show OG _ _ _ _ _ _ _ (T12.setTop (mkF m 12 (own_L0 g) [(.ref b11)]))
    refine OG.of (A := T12.setTop (mkF m 16 (own_L0 g) [(.int (117 : Int32)), (.int (1 : Int32)), (.ref b11), (.ref b11)])) (fun oT oK => ?_) ?_
    · skip
      refine XS.dup X12.here hx rfl (hb hby dL_12) rfl rfl ?_
      show Steps p.tables e below (T12.setTop (mkF m 13 (own_L0 g) [(.ref b11), (.ref b11)])) _
      refine XS.iconst X12.here hx rfl (hb hby dL_13) ?_
      refine XS.bipush X12.here hx rfl (hb hby dL_14) ?_
      exact oK
    have cf22 := V12
    obtain ⟨clf22, Arf22, qf22, Sf22, Mf22, Hf22, Gf22⟩ := cf22
    obtain ⟨T13, h13, X13, e13, W13, st13⟩ := stC X12 hx hZ e12 Arf22 (j := (1 : Int32)) (inb_of Sf22 ⟨by decide, by decide⟩) (g := (mkF m 16 (own_L0 g) [(.int (117 : Int32)), (.int (1 : Int32)), (.ref b11), (.ref b11)])) rfl rfl (hb hby dL_16)
    have V13 : Arv Z h13 b11 kc11 .char (4 : Int32) [(.int (nar .char (103 : Int32))), (.int (nar .char (117 : Int32))), (.int (0 : Int32)), (.int (0 : Int32))] (.int (0 : Int32)) := Arv.set Arf22 qf22 Sf22 Mf22 Hf22 Gf22 (fits_nar_char _) W13 1 rfl (Nat.le_of_ble_eq_true rfl)
    have K13 : Keep h0 h13 [] := (K12).wr W13 (Or.inr sz_b11)
    have Z13 : n0 ≤ h13.size := Nat.le_trans Z12 (Keep.of_wr W13).1
    have N13 := Fr.snoc X13 N12 gn_b11
    refine OG.of st13 ?_
    show OG _ _ _ _ _ _ _ (T13.setTop (mkF m 17 (own_L0 g) [(.ref b11)]))
    refine OG.of (A := T13.setTop (mkF m 21 (own_L0 g) [(.int (101 : Int32)), (.int (2 : Int32)), (.ref b11), (.ref b11)])) (fun oT oK => ?_) ?_
    · skip
      refine XS.dup X13.here hx rfl (hb hby dL_17) rfl rfl ?_
      show Steps p.tables e below (T13.setTop (mkF m 18 (own_L0 g) [(.ref b11), (.ref b11)])) _
      refine XS.iconst X13.here hx rfl (hb hby dL_18) ?_
      refine XS.bipush X13.here hx rfl (hb hby dL_19) ?_
      exact oK
    have cf24 := V13
    obtain ⟨clf24, Arf24, qf24, Sf24, Mf24, Hf24, Gf24⟩ := cf24
    obtain ⟨T14, h14, X14, e14, W14, st14⟩ := stC X13 hx hZ e13 Arf24 (j := (2 : Int32)) (inb_of Sf24 ⟨by decide, by decide⟩) (g := (mkF m 21 (own_L0 g) [(.int (101 : Int32)), (.int (2 : Int32)), (.ref b11), (.ref b11)])) rfl rfl (hb hby dL_21)
    have V14 : Arv Z h14 b11 kc11 .char (4 : Int32) [(.int (nar .char (103 : Int32))), (.int (nar .char (117 : Int32))), (.int (nar .char (101 : Int32))), (.int (0 : Int32))] (.int (0 : Int32)) := Arv.set Arf24 qf24 Sf24 Mf24 Hf24 Gf24 (fits_nar_char _) W14 2 rfl (Nat.le_of_ble_eq_true rfl)
    have K14 : Keep h0 h14 [] := (K13).wr W14 (Or.inr sz_b11)
    have Z14 : n0 ≤ h14.size := Nat.le_trans Z13 (Keep.of_wr W14).1
    have N14 := Fr.snoc X14 N13 gn_b11
    refine OG.of st14 ?_
    show OG _ _ _ _ _ _ _ (T14.setTop (mkF m 22 (own_L0 g) [(.ref b11)]))
    refine OG.of (A := T14.setTop (mkF m 26 (own_L0 g) [(.int (115 : Int32)), (.int (3 : Int32)), (.ref b11), (.ref b11)])) (fun oT oK => ?_) ?_
    · skip
      refine XS.dup X14.here hx rfl (hb hby dL_22) rfl rfl ?_
      show Steps p.tables e below (T14.setTop (mkF m 23 (own_L0 g) [(.ref b11), (.ref b11)])) _
      refine XS.iconst X14.here hx rfl (hb hby dL_23) ?_
      refine XS.bipush X14.here hx rfl (hb hby dL_24) ?_
      exact oK
    have cf26 := V14
    obtain ⟨clf26, Arf26, qf26, Sf26, Mf26, Hf26, Gf26⟩ := cf26
    obtain ⟨T15, h15, X15, e15, W15, st15⟩ := stC X14 hx hZ e14 Arf26 (j := (3 : Int32)) (inb_of Sf26 ⟨by decide, by decide⟩) (g := (mkF m 26 (own_L0 g) [(.int (115 : Int32)), (.int (3 : Int32)), (.ref b11), (.ref b11)])) rfl rfl (hb hby dL_26)
    have V15 : Arv Z h15 b11 kc11 .char (4 : Int32) [(.int (nar .char (103 : Int32))), (.int (nar .char (117 : Int32))), (.int (nar .char (101 : Int32))), (.int (nar .char (115 : Int32)))] (.int (0 : Int32)) := Arv.set Arf26 qf26 Sf26 Mf26 Hf26 Gf26 (fits_nar_char _) W15 3 rfl (Nat.le_of_ble_eq_true rfl)
    have K15 : Keep h0 h15 [] := (K14).wr W15 (Or.inr sz_b11)
    have Z15 : n0 ≤ h15.size := Nat.le_trans Z14 (Keep.of_wr W15).1
    have N15 := Fr.snoc X15 N14 gn_b11
    refine OG.of st15 ?_
    show OG _ _ _ _ _ _ _ (T15.setTop (mkF m 27 (own_L0 g) [(.ref b11)]))
    refine OG.retA X15 hx Bd.returns rfl rfl (hb hby dL_27) hlk ?_ (by decide) (by decide)
    try rw [e15]
    exact ⟨b11, [(nar .char (103 : Int32)), (nar .char (117 : Int32)), (nar .char (101 : Int32)), (nar .char (115 : Int32))], 4, rfl, N15, K15, gn_b11, sz_b11, ⟨kc11, V15⟩, rfl, (by decide), (by decide), (own_ac (by decide +kernel) (own_ac (by decide +kernel) (own_ac (by decide +kernel) (own_ac (by decide +kernel) own_an)))), (own_exl (by simp) (by simp))⟩
theorem dF_0 : decode method_5_code 0 = .ok (.iload_n 0, 1) := by decide +kernel
theorem dF_1 : decode method_5_code 1 = .ok (.ifCond .eq 27, 3) := by decide +kernel
theorem dF_28 : decode method_5_code 28 = .ok (.bipush 9, 2) := by decide +kernel
theorem dF_30 : decode method_5_code 30 = .ok (.newarray .char, 2) := by decide +kernel
theorem dF_32 : decode method_5_code 32 = .ok (.dup, 1) := by decide +kernel
theorem dF_33 : decode method_5_code 33 = .ok (.iconst 0, 1) := by decide +kernel
theorem dF_34 : decode method_5_code 34 = .ok (.bipush 101, 2) := by decide +kernel
theorem dF_36 : decode method_5_code 36 = .ok (.castore, 1) := by decide +kernel
theorem dF_37 : decode method_5_code 37 = .ok (.dup, 1) := by decide +kernel
theorem dF_38 : decode method_5_code 38 = .ok (.iconst 1, 1) := by decide +kernel
theorem dF_39 : decode method_5_code 39 = .ok (.bipush 103, 2) := by decide +kernel
theorem dF_41 : decode method_5_code 41 = .ok (.castore, 1) := by decide +kernel
theorem dF_42 : decode method_5_code 42 = .ok (.dup, 1) := by decide +kernel
theorem dF_43 : decode method_5_code 43 = .ok (.iconst 2, 1) := by decide +kernel
theorem dF_44 : decode method_5_code 44 = .ok (.bipush 105, 2) := by decide +kernel
theorem dF_46 : decode method_5_code 46 = .ok (.castore, 1) := by decide +kernel
theorem dF_47 : decode method_5_code 47 = .ok (.dup, 1) := by decide +kernel
theorem dF_48 : decode method_5_code 48 = .ok (.iconst 3, 1) := by decide +kernel
theorem dF_49 : decode method_5_code 49 = .ok (.bipush 115, 2) := by decide +kernel
theorem dF_51 : decode method_5_code 51 = .ok (.castore, 1) := by decide +kernel
theorem dF_52 : decode method_5_code 52 = .ok (.dup, 1) := by decide +kernel
theorem dF_53 : decode method_5_code 53 = .ok (.iconst 4, 1) := by decide +kernel
theorem dF_54 : decode method_5_code 54 = .ok (.bipush 116, 2) := by decide +kernel
theorem dF_56 : decode method_5_code 56 = .ok (.castore, 1) := by decide +kernel
theorem dF_57 : decode method_5_code 57 = .ok (.dup, 1) := by decide +kernel
theorem dF_58 : decode method_5_code 58 = .ok (.iconst 5, 1) := by decide +kernel
theorem dF_59 : decode method_5_code 59 = .ok (.bipush 101, 2) := by decide +kernel
theorem dF_61 : decode method_5_code 61 = .ok (.castore, 1) := by decide +kernel
theorem dF_62 : decode method_5_code 62 = .ok (.dup, 1) := by decide +kernel
theorem dF_63 : decode method_5_code 63 = .ok (.bipush 6, 2) := by decide +kernel
theorem dF_65 : decode method_5_code 65 = .ok (.bipush 114, 2) := by decide +kernel
theorem dF_67 : decode method_5_code 67 = .ok (.castore, 1) := by decide +kernel
theorem dF_68 : decode method_5_code 68 = .ok (.dup, 1) := by decide +kernel
theorem dF_69 : decode method_5_code 69 = .ok (.bipush 7, 2) := by decide +kernel
theorem dF_71 : decode method_5_code 71 = .ok (.bipush 101, 2) := by decide +kernel
theorem dF_73 : decode method_5_code 73 = .ok (.castore, 1) := by decide +kernel
theorem dF_74 : decode method_5_code 74 = .ok (.dup, 1) := by decide +kernel
theorem dF_75 : decode method_5_code 75 = .ok (.bipush 8, 2) := by decide +kernel
theorem dF_77 : decode method_5_code 77 = .ok (.bipush 100, 2) := by decide +kernel
theorem dF_79 : decode method_5_code 79 = .ok (.castore, 1) := by decide +kernel
theorem dF_80 : decode method_5_code 80 = .ok (.areturn, 1) := by decide +kernel
theorem dF_4 : decode method_5_code 4 = .ok (.iconst 4, 1) := by decide +kernel
theorem dF_5 : decode method_5_code 5 = .ok (.newarray .char, 2) := by decide +kernel
theorem dF_7 : decode method_5_code 7 = .ok (.dup, 1) := by decide +kernel
theorem dF_8 : decode method_5_code 8 = .ok (.iconst 0, 1) := by decide +kernel
theorem dF_9 : decode method_5_code 9 = .ok (.bipush 117, 2) := by decide +kernel
theorem dF_11 : decode method_5_code 11 = .ok (.castore, 1) := by decide +kernel
theorem dF_12 : decode method_5_code 12 = .ok (.dup, 1) := by decide +kernel
theorem dF_13 : decode method_5_code 13 = .ok (.iconst 1, 1) := by decide +kernel
theorem dF_14 : decode method_5_code 14 = .ok (.bipush 101, 2) := by decide +kernel
theorem dF_16 : decode method_5_code 16 = .ok (.castore, 1) := by decide +kernel
theorem dF_17 : decode method_5_code 17 = .ok (.dup, 1) := by decide +kernel
theorem dF_18 : decode method_5_code 18 = .ok (.iconst 2, 1) := by decide +kernel
theorem dF_19 : decode method_5_code 19 = .ok (.bipush 115, 2) := by decide +kernel
theorem dF_21 : decode method_5_code 21 = .ok (.castore, 1) := by decide +kernel
theorem dF_22 : decode method_5_code 22 = .ok (.dup, 1) := by decide +kernel
theorem dF_23 : decode method_5_code 23 = .ok (.iconst 3, 1) := by decide +kernel
theorem dF_24 : decode method_5_code 24 = .ok (.bipush 116, 2) := by decide +kernel
theorem dF_26 : decode method_5_code 26 = .ok (.castore, 1) := by decide +kernel
theorem dF_27 : decode method_5_code 27 = .ok (.areturn, 1) := by decide +kernel
theorem pn_F : plainName "com/example/vett/vett/GranteeUserTypePinLaw" = true := by first | (simp [plainName, overriddenIn]; done) | decide +kernel
theorem ef_F (m : MethodId) (x0 : Int32) : entryFrame m #[(.int x0)] 1 = mkF m 0 #[.val (.int x0)] [] := by first | (simp [entryFrame, mkF, argsToLocals, Value.category]; done) | rfl
def QF (Z : State) (g : Int32) (h0 : Heap) (n0 : Nat) (v : Option Value) (h : Heap) (L : List Loc) : Prop := ∃ (r : Addr) (cs : List Int32) (n : Nat), v = some (.ref r) ∧ Fr n0 L ∧ Keep h0 h [] ∧ n0 ≤ r ∧ h0.size ≤ r ∧ OAr Z h r cs n (0 : Int32)
set_option maxRecDepth 65536 in
set_option maxHeartbeats 40000000 in
theorem rmF (l : Launch) (Z : State) (a0 : Array Value) (hw : ∀ d ∈ tables_1, d.before a0 Z = true) (ws : List Jvm.Cond) (g : Int32) (h0 : Heap) (n0 : Nat) (Z0 : n0 ≤ h0.size) :
    MetFree l (⟨"com/example/vett/vett/GranteeUserTypePinLaw", "dropFirst", "(Z)[C"⟩ : MethodName) (head1 (Jvm.Cond.code (⟨"com/example/vett/vett/GranteeUserTypePinLaw", "dropFirst", "(Z)[C"⟩ : MethodName) method_5_code 1 (some (.array .char)) :: ws) ({ frames := 0, cells := 1, slots := 9, locals := 0 } : Room)) (fun aA oU => aA = #[(.int g)] ∧ Z.Warmed39 oU.vm ∧ oU.heap = h0) (fun _ _ _ _ _ => True) (fun _ oU oO oU' => ∃ oV oL, oO = .returned oV ∧ QF Z g h0 n0 oV oU'.heap oL ∧ FrameEnd oU oO oU' oL ({ frames := 0, cells := 1, slots := 9, locals := 0 } : Room).cells ({ frames := 0, cells := 1, slots := 9, locals := 0 } : Room).slots) := by
  refine MetFree.of_bodySF (plainFor_of_name pn_F) hisR ?_
  intro p e s m args below meth c s₁ Bd hml0 hP hK
  obtain ⟨rfl, hZ, hh⟩ := hP
  have hx := Bd.exec
  have hby := Bd.bytes
  have hlk := BodyLoose.notSynchronized Bd
  have hml : c.maxLocals = 1 := hml0
  have hown : s.vm.findClass "com/example/vett/vett/GranteeUserTypePinLaw" = some m.cls := findClass_of_methodNamed Bd.named
  have hnm := (name_of_methodNamed Bd.named Bd.method).1
  have X0 : Stand p l e ({ frames := 0, cells := 1, slots := 9, locals := 0 } : Room) s m #[(.int g)] below meth c s₁ [] 0 0 := Stand.of_body Bd
  have e0 : s₁.heap = h0 := by rw [← hh, Bd.state]; rfl
  have N0 := Fr.nil n0
  show OG p e below s ({ frames := 0, cells := 1, slots := 9, locals := 0 } : Room).cells ({ frames := 0, cells := 1, slots := 9, locals := 0 } : Room).slots (QF Z g h0 n0) _
  refine OG.of (fun oT oK => castTop (ef_F m g) oK) ?_
  show OG p e below s _ _ _ (s₁.setTop (mkF m 0 (own_L0 g) []))
  refine OG.of (A := s₁.setTop (mkF m 1 (own_L0 g) [(.int g)])) (fun oT oK => ?_) ?_
  · skip
    refine XS.iloadN X0.here hx rfl (hb hby dF_0) rfl  ?_
    exact oK
  by_cases hc1_1 : g = (0 : Int32)
  · refine OG.of (fun oT oK => XS.ifYes X0.here hx rfl (pc0 := 1) (pc' := 28) rfl (hb hby dF_1) rfl (XT.i0_eq_t hc1_1) (by decide) (by decide) oK) ?_
    show OG _ _ _ _ _ _ _ (s₁.setTop (mkF m 28 (own_L0 g) []))
    refine OG.of (A := s₁.setTop (mkF m 30 (own_L0 g) [(.int (9 : Int32))])) (fun oT oK => ?_) ?_
    · skip
      refine XS.bipush X0.here hx rfl (hb hby dF_28) ?_
      exact oK
    obtain ⟨T1, h1, kc1, X1, e1, E1, A1, st1⟩ := newP X0 hx hZ (own_at hw 4 rfl) e0 (g := (mkF m 30 (own_L0 g) [(.int (9 : Int32))])) rfl (hb hby dF_30) rfl (by decide) (cap := 9) (by decide) (by decide) (by decide) (by decide)
    obtain ⟨b1, g1⟩ : ∃ z, z = (h0).size := ⟨_, rfl⟩
    have gn_b1 : n0 ≤ b1 := Nat.le_trans Z0 (Nat.le_of_eq g1.symm)
    have sz_b1 : h0.size ≤ b1 := Nat.le_trans (Keep.refl h0 []).1 (Nat.le_of_eq g1.symm)
    rw [← g1] at A1 st1
    have K1 : Keep h0 h1 [] := (Keep.refl h0 []).ext E1
    have Z1 : n0 ≤ h1.size := Nat.le_trans Z0 E1.1
    have V1 : Arv Z h1 b1 kc1 .char (9 : Int32) [(.int (0 : Int32)), (.int (0 : Int32)), (.int (0 : Int32)), (.int (0 : Int32)), (.int (0 : Int32)), (.int (0 : Int32)), (.int (0 : Int32)), (.int (0 : Int32)), (.int (0 : Int32))] (.int (0 : Int32)) := (Arv.new A1 (by decide)).pad (pad_rep [] (.int (0 : Int32)) 9)
    refine OG.of st1 ?_
    show OG _ _ _ _ _ _ _ (T1.setTop (mkF m 32 (own_L0 g) [(.ref b1)]))
    refine OG.of (A := T1.setTop (mkF m 36 (own_L0 g) [(.int (101 : Int32)), (.int (0 : Int32)), (.ref b1), (.ref b1)])) (fun oT oK => ?_) ?_
    · skip
      refine XS.dup X1.here hx rfl (hb hby dF_32) rfl rfl ?_
      show Steps p.tables e below (T1.setTop (mkF m 33 (own_L0 g) [(.ref b1), (.ref b1)])) _
      refine XS.iconst X1.here hx rfl (hb hby dF_33) ?_
      refine XS.bipush X1.here hx rfl (hb hby dF_34) ?_
      exact oK
    have cf2 := V1
    obtain ⟨clf2, Arf2, qf2, Sf2, Mf2, Hf2, Gf2⟩ := cf2
    obtain ⟨T2, h2, X2, e2, W2, st2⟩ := stC X1 hx hZ e1 Arf2 (j := (0 : Int32)) (inb_of Sf2 ⟨by decide, by decide⟩) (g := (mkF m 36 (own_L0 g) [(.int (101 : Int32)), (.int (0 : Int32)), (.ref b1), (.ref b1)])) rfl rfl (hb hby dF_36)
    have V2 : Arv Z h2 b1 kc1 .char (9 : Int32) [(.int (nar .char (101 : Int32))), (.int (0 : Int32)), (.int (0 : Int32)), (.int (0 : Int32)), (.int (0 : Int32)), (.int (0 : Int32)), (.int (0 : Int32)), (.int (0 : Int32)), (.int (0 : Int32))] (.int (0 : Int32)) := Arv.set Arf2 qf2 Sf2 Mf2 Hf2 Gf2 (fits_nar_char _) W2 0 rfl (Nat.le_of_ble_eq_true rfl)
    have K2 : Keep h0 h2 [] := (K1).wr W2 (Or.inr sz_b1)
    have Z2 : n0 ≤ h2.size := Nat.le_trans Z1 (Keep.of_wr W2).1
    have N2 := Fr.snoc X2 N0 gn_b1
    refine OG.of st2 ?_
    show OG _ _ _ _ _ _ _ (T2.setTop (mkF m 37 (own_L0 g) [(.ref b1)]))
    refine OG.of (A := T2.setTop (mkF m 41 (own_L0 g) [(.int (103 : Int32)), (.int (1 : Int32)), (.ref b1), (.ref b1)])) (fun oT oK => ?_) ?_
    · skip
      refine XS.dup X2.here hx rfl (hb hby dF_37) rfl rfl ?_
      show Steps p.tables e below (T2.setTop (mkF m 38 (own_L0 g) [(.ref b1), (.ref b1)])) _
      refine XS.iconst X2.here hx rfl (hb hby dF_38) ?_
      refine XS.bipush X2.here hx rfl (hb hby dF_39) ?_
      exact oK
    have cf4 := V2
    obtain ⟨clf4, Arf4, qf4, Sf4, Mf4, Hf4, Gf4⟩ := cf4
    obtain ⟨T3, h3, X3, e3, W3, st3⟩ := stC X2 hx hZ e2 Arf4 (j := (1 : Int32)) (inb_of Sf4 ⟨by decide, by decide⟩) (g := (mkF m 41 (own_L0 g) [(.int (103 : Int32)), (.int (1 : Int32)), (.ref b1), (.ref b1)])) rfl rfl (hb hby dF_41)
    have V3 : Arv Z h3 b1 kc1 .char (9 : Int32) [(.int (nar .char (101 : Int32))), (.int (nar .char (103 : Int32))), (.int (0 : Int32)), (.int (0 : Int32)), (.int (0 : Int32)), (.int (0 : Int32)), (.int (0 : Int32)), (.int (0 : Int32)), (.int (0 : Int32))] (.int (0 : Int32)) := Arv.set Arf4 qf4 Sf4 Mf4 Hf4 Gf4 (fits_nar_char _) W3 1 rfl (Nat.le_of_ble_eq_true rfl)
    have K3 : Keep h0 h3 [] := (K2).wr W3 (Or.inr sz_b1)
    have Z3 : n0 ≤ h3.size := Nat.le_trans Z2 (Keep.of_wr W3).1
    have N3 := Fr.snoc X3 N2 gn_b1
    refine OG.of st3 ?_
    show OG _ _ _ _ _ _ _ (T3.setTop (mkF m 42 (own_L0 g) [(.ref b1)]))
    refine OG.of (A := T3.setTop (mkF m 46 (own_L0 g) [(.int (105 : Int32)), (.int (2 : Int32)), (.ref b1), (.ref b1)])) (fun oT oK => ?_) ?_
    · skip
      refine XS.dup X3.here hx rfl (hb hby dF_42) rfl rfl ?_
      show Steps p.tables e below (T3.setTop (mkF m 43 (own_L0 g) [(.ref b1), (.ref b1)])) _
      refine XS.iconst X3.here hx rfl (hb hby dF_43) ?_
      refine XS.bipush X3.here hx rfl (hb hby dF_44) ?_
      exact oK
    have cf6 := V3
    obtain ⟨clf6, Arf6, qf6, Sf6, Mf6, Hf6, Gf6⟩ := cf6
    obtain ⟨T4, h4, X4, e4, W4, st4⟩ := stC X3 hx hZ e3 Arf6 (j := (2 : Int32)) (inb_of Sf6 ⟨by decide, by decide⟩) (g := (mkF m 46 (own_L0 g) [(.int (105 : Int32)), (.int (2 : Int32)), (.ref b1), (.ref b1)])) rfl rfl (hb hby dF_46)
    have V4 : Arv Z h4 b1 kc1 .char (9 : Int32) [(.int (nar .char (101 : Int32))), (.int (nar .char (103 : Int32))), (.int (nar .char (105 : Int32))), (.int (0 : Int32)), (.int (0 : Int32)), (.int (0 : Int32)), (.int (0 : Int32)), (.int (0 : Int32)), (.int (0 : Int32))] (.int (0 : Int32)) := Arv.set Arf6 qf6 Sf6 Mf6 Hf6 Gf6 (fits_nar_char _) W4 2 rfl (Nat.le_of_ble_eq_true rfl)
    have K4 : Keep h0 h4 [] := (K3).wr W4 (Or.inr sz_b1)
    have Z4 : n0 ≤ h4.size := Nat.le_trans Z3 (Keep.of_wr W4).1
    have N4 := Fr.snoc X4 N3 gn_b1
    refine OG.of st4 ?_
    show OG _ _ _ _ _ _ _ (T4.setTop (mkF m 47 (own_L0 g) [(.ref b1)]))
    refine OG.of (A := T4.setTop (mkF m 51 (own_L0 g) [(.int (115 : Int32)), (.int (3 : Int32)), (.ref b1), (.ref b1)])) (fun oT oK => ?_) ?_
    · skip
      refine XS.dup X4.here hx rfl (hb hby dF_47) rfl rfl ?_
      show Steps p.tables e below (T4.setTop (mkF m 48 (own_L0 g) [(.ref b1), (.ref b1)])) _
      refine XS.iconst X4.here hx rfl (hb hby dF_48) ?_
      refine XS.bipush X4.here hx rfl (hb hby dF_49) ?_
      exact oK
    have cf8 := V4
    obtain ⟨clf8, Arf8, qf8, Sf8, Mf8, Hf8, Gf8⟩ := cf8
    obtain ⟨T5, h5, X5, e5, W5, st5⟩ := stC X4 hx hZ e4 Arf8 (j := (3 : Int32)) (inb_of Sf8 ⟨by decide, by decide⟩) (g := (mkF m 51 (own_L0 g) [(.int (115 : Int32)), (.int (3 : Int32)), (.ref b1), (.ref b1)])) rfl rfl (hb hby dF_51)
    have V5 : Arv Z h5 b1 kc1 .char (9 : Int32) [(.int (nar .char (101 : Int32))), (.int (nar .char (103 : Int32))), (.int (nar .char (105 : Int32))), (.int (nar .char (115 : Int32))), (.int (0 : Int32)), (.int (0 : Int32)), (.int (0 : Int32)), (.int (0 : Int32)), (.int (0 : Int32))] (.int (0 : Int32)) := Arv.set Arf8 qf8 Sf8 Mf8 Hf8 Gf8 (fits_nar_char _) W5 3 rfl (Nat.le_of_ble_eq_true rfl)
    have K5 : Keep h0 h5 [] := (K4).wr W5 (Or.inr sz_b1)
    have Z5 : n0 ≤ h5.size := Nat.le_trans Z4 (Keep.of_wr W5).1
    have N5 := Fr.snoc X5 N4 gn_b1
    refine OG.of st5 ?_
    show OG _ _ _ _ _ _ _ (T5.setTop (mkF m 52 (own_L0 g) [(.ref b1)]))
    refine OG.of (A := T5.setTop (mkF m 56 (own_L0 g) [(.int (116 : Int32)), (.int (4 : Int32)), (.ref b1), (.ref b1)])) (fun oT oK => ?_) ?_
    · skip
      refine XS.dup X5.here hx rfl (hb hby dF_52) rfl rfl ?_
      show Steps p.tables e below (T5.setTop (mkF m 53 (own_L0 g) [(.ref b1), (.ref b1)])) _
      refine XS.iconst X5.here hx rfl (hb hby dF_53) ?_
      refine XS.bipush X5.here hx rfl (hb hby dF_54) ?_
      exact oK
    have cf10 := V5
    obtain ⟨clf10, Arf10, qf10, Sf10, Mf10, Hf10, Gf10⟩ := cf10
    obtain ⟨T6, h6, X6, e6, W6, st6⟩ := stC X5 hx hZ e5 Arf10 (j := (4 : Int32)) (inb_of Sf10 ⟨by decide, by decide⟩) (g := (mkF m 56 (own_L0 g) [(.int (116 : Int32)), (.int (4 : Int32)), (.ref b1), (.ref b1)])) rfl rfl (hb hby dF_56)
    have V6 : Arv Z h6 b1 kc1 .char (9 : Int32) [(.int (nar .char (101 : Int32))), (.int (nar .char (103 : Int32))), (.int (nar .char (105 : Int32))), (.int (nar .char (115 : Int32))), (.int (nar .char (116 : Int32))), (.int (0 : Int32)), (.int (0 : Int32)), (.int (0 : Int32)), (.int (0 : Int32))] (.int (0 : Int32)) := Arv.set Arf10 qf10 Sf10 Mf10 Hf10 Gf10 (fits_nar_char _) W6 4 rfl (Nat.le_of_ble_eq_true rfl)
    have K6 : Keep h0 h6 [] := (K5).wr W6 (Or.inr sz_b1)
    have Z6 : n0 ≤ h6.size := Nat.le_trans Z5 (Keep.of_wr W6).1
    have N6 := Fr.snoc X6 N5 gn_b1
    refine OG.of st6 ?_
    show OG _ _ _ _ _ _ _ (T6.setTop (mkF m 57 (own_L0 g) [(.ref b1)]))
    refine OG.of (A := T6.setTop (mkF m 61 (own_L0 g) [(.int (101 : Int32)), (.int (5 : Int32)), (.ref b1), (.ref b1)])) (fun oT oK => ?_) ?_
    · skip
      refine XS.dup X6.here hx rfl (hb hby dF_57) rfl rfl ?_
      show Steps p.tables e below (T6.setTop (mkF m 58 (own_L0 g) [(.ref b1), (.ref b1)])) _
      refine XS.iconst X6.here hx rfl (hb hby dF_58) ?_
      refine XS.bipush X6.here hx rfl (hb hby dF_59) ?_
      exact oK
    have cf12 := V6
    obtain ⟨clf12, Arf12, qf12, Sf12, Mf12, Hf12, Gf12⟩ := cf12
    obtain ⟨T7, h7, X7, e7, W7, st7⟩ := stC X6 hx hZ e6 Arf12 (j := (5 : Int32)) (inb_of Sf12 ⟨by decide, by decide⟩) (g := (mkF m 61 (own_L0 g) [(.int (101 : Int32)), (.int (5 : Int32)), (.ref b1), (.ref b1)])) rfl rfl (hb hby dF_61)
    have V7 : Arv Z h7 b1 kc1 .char (9 : Int32) [(.int (nar .char (101 : Int32))), (.int (nar .char (103 : Int32))), (.int (nar .char (105 : Int32))), (.int (nar .char (115 : Int32))), (.int (nar .char (116 : Int32))), (.int (nar .char (101 : Int32))), (.int (0 : Int32)), (.int (0 : Int32)), (.int (0 : Int32))] (.int (0 : Int32)) := Arv.set Arf12 qf12 Sf12 Mf12 Hf12 Gf12 (fits_nar_char _) W7 5 rfl (Nat.le_of_ble_eq_true rfl)
    have K7 : Keep h0 h7 [] := (K6).wr W7 (Or.inr sz_b1)
    have Z7 : n0 ≤ h7.size := Nat.le_trans Z6 (Keep.of_wr W7).1
    have N7 := Fr.snoc X7 N6 gn_b1
    refine OG.of st7 ?_
    show OG _ _ _ _ _ _ _ (T7.setTop (mkF m 62 (own_L0 g) [(.ref b1)]))
    refine OG.of (A := T7.setTop (mkF m 67 (own_L0 g) [(.int (114 : Int32)), (.int (6 : Int32)), (.ref b1), (.ref b1)])) (fun oT oK => ?_) ?_
    · skip
      refine XS.dup X7.here hx rfl (hb hby dF_62) rfl rfl ?_
      show Steps p.tables e below (T7.setTop (mkF m 63 (own_L0 g) [(.ref b1), (.ref b1)])) _
      refine XS.bipush X7.here hx rfl (hb hby dF_63) ?_
      refine XS.bipush X7.here hx rfl (hb hby dF_65) ?_
      exact oK
    have cf14 := V7
    obtain ⟨clf14, Arf14, qf14, Sf14, Mf14, Hf14, Gf14⟩ := cf14
    obtain ⟨T8, h8, X8, e8, W8, st8⟩ := stC X7 hx hZ e7 Arf14 (j := (6 : Int32)) (inb_of Sf14 ⟨by decide, by decide⟩) (g := (mkF m 67 (own_L0 g) [(.int (114 : Int32)), (.int (6 : Int32)), (.ref b1), (.ref b1)])) rfl rfl (hb hby dF_67)
    have V8 : Arv Z h8 b1 kc1 .char (9 : Int32) [(.int (nar .char (101 : Int32))), (.int (nar .char (103 : Int32))), (.int (nar .char (105 : Int32))), (.int (nar .char (115 : Int32))), (.int (nar .char (116 : Int32))), (.int (nar .char (101 : Int32))), (.int (nar .char (114 : Int32))), (.int (0 : Int32)), (.int (0 : Int32))] (.int (0 : Int32)) := Arv.set Arf14 qf14 Sf14 Mf14 Hf14 Gf14 (fits_nar_char _) W8 6 rfl (Nat.le_of_ble_eq_true rfl)
    have K8 : Keep h0 h8 [] := (K7).wr W8 (Or.inr sz_b1)
    have Z8 : n0 ≤ h8.size := Nat.le_trans Z7 (Keep.of_wr W8).1
    have N8 := Fr.snoc X8 N7 gn_b1
    refine OG.of st8 ?_
    show OG _ _ _ _ _ _ _ (T8.setTop (mkF m 68 (own_L0 g) [(.ref b1)]))
    refine OG.of (A := T8.setTop (mkF m 73 (own_L0 g) [(.int (101 : Int32)), (.int (7 : Int32)), (.ref b1), (.ref b1)])) (fun oT oK => ?_) ?_
    · skip
      refine XS.dup X8.here hx rfl (hb hby dF_68) rfl rfl ?_
      show Steps p.tables e below (T8.setTop (mkF m 69 (own_L0 g) [(.ref b1), (.ref b1)])) _
      refine XS.bipush X8.here hx rfl (hb hby dF_69) ?_
      refine XS.bipush X8.here hx rfl (hb hby dF_71) ?_
      exact oK
    have cf16 := V8
    obtain ⟨clf16, Arf16, qf16, Sf16, Mf16, Hf16, Gf16⟩ := cf16
    obtain ⟨T9, h9, X9, e9, W9, st9⟩ := stC X8 hx hZ e8 Arf16 (j := (7 : Int32)) (inb_of Sf16 ⟨by decide, by decide⟩) (g := (mkF m 73 (own_L0 g) [(.int (101 : Int32)), (.int (7 : Int32)), (.ref b1), (.ref b1)])) rfl rfl (hb hby dF_73)
    have V9 : Arv Z h9 b1 kc1 .char (9 : Int32) [(.int (nar .char (101 : Int32))), (.int (nar .char (103 : Int32))), (.int (nar .char (105 : Int32))), (.int (nar .char (115 : Int32))), (.int (nar .char (116 : Int32))), (.int (nar .char (101 : Int32))), (.int (nar .char (114 : Int32))), (.int (nar .char (101 : Int32))), (.int (0 : Int32))] (.int (0 : Int32)) := Arv.set Arf16 qf16 Sf16 Mf16 Hf16 Gf16 (fits_nar_char _) W9 7 rfl (Nat.le_of_ble_eq_true rfl)
    have K9 : Keep h0 h9 [] := (K8).wr W9 (Or.inr sz_b1)
    have Z9 : n0 ≤ h9.size := Nat.le_trans Z8 (Keep.of_wr W9).1
    have N9 := Fr.snoc X9 N8 gn_b1
    refine OG.of st9 ?_
    show OG _ _ _ _ _ _ _ (T9.setTop (mkF m 74 (own_L0 g) [(.ref b1)]))
    refine OG.of (A := T9.setTop (mkF m 79 (own_L0 g) [(.int (100 : Int32)), (.int (8 : Int32)), (.ref b1), (.ref b1)])) (fun oT oK => ?_) ?_
    · skip
      refine XS.dup X9.here hx rfl (hb hby dF_74) rfl rfl ?_
      show Steps p.tables e below (T9.setTop (mkF m 75 (own_L0 g) [(.ref b1), (.ref b1)])) _
      refine XS.bipush X9.here hx rfl (hb hby dF_75) ?_
      refine XS.bipush X9.here hx rfl (hb hby dF_77) ?_
      exact oK
    have cf18 := V9
    obtain ⟨clf18, Arf18, qf18, Sf18, Mf18, Hf18, Gf18⟩ := cf18
    obtain ⟨T10, h10, X10, e10, W10, st10⟩ := stC X9 hx hZ e9 Arf18 (j := (8 : Int32)) (inb_of Sf18 ⟨by decide, by decide⟩) (g := (mkF m 79 (own_L0 g) [(.int (100 : Int32)), (.int (8 : Int32)), (.ref b1), (.ref b1)])) rfl rfl (hb hby dF_79)
    have V10 : Arv Z h10 b1 kc1 .char (9 : Int32) [(.int (nar .char (101 : Int32))), (.int (nar .char (103 : Int32))), (.int (nar .char (105 : Int32))), (.int (nar .char (115 : Int32))), (.int (nar .char (116 : Int32))), (.int (nar .char (101 : Int32))), (.int (nar .char (114 : Int32))), (.int (nar .char (101 : Int32))), (.int (nar .char (100 : Int32)))] (.int (0 : Int32)) := Arv.set Arf18 qf18 Sf18 Mf18 Hf18 Gf18 (fits_nar_char _) W10 8 rfl (Nat.le_of_ble_eq_true rfl)
    have K10 : Keep h0 h10 [] := (K9).wr W10 (Or.inr sz_b1)
    have Z10 : n0 ≤ h10.size := Nat.le_trans Z9 (Keep.of_wr W10).1
    have N10 := Fr.snoc X10 N9 gn_b1
    refine OG.of st10 ?_
    show OG _ _ _ _ _ _ _ (T10.setTop (mkF m 80 (own_L0 g) [(.ref b1)]))
    refine OG.retA X10 hx Bd.returns rfl rfl (hb hby dF_80) hlk ?_ (by decide) (by decide)
    try rw [e10]
    exact ⟨b1, [(nar .char (101 : Int32)), (nar .char (103 : Int32)), (nar .char (105 : Int32)), (nar .char (115 : Int32)), (nar .char (116 : Int32)), (nar .char (101 : Int32)), (nar .char (114 : Int32)), (nar .char (101 : Int32)), (nar .char (100 : Int32))], 9, rfl, N10, K10, gn_b1, sz_b1, ⟨kc1, V10⟩, rfl, (by decide), (by decide), (own_ac (by decide +kernel) (own_ac (by decide +kernel) (own_ac (by decide +kernel) (own_ac (by decide +kernel) (own_ac (by decide +kernel) (own_ac (by decide +kernel) (own_ac (by decide +kernel) (own_ac (by decide +kernel) (own_ac (by decide +kernel) own_an))))))))), (own_exl (by simp) (by simp))⟩
  · refine OG.of (fun oT oK => XS.ifNo X0.here hx rfl (hb hby dF_1) rfl (XT.i0_eq_f hc1_1) oK) ?_
    show OG _ _ _ _ _ _ _ (s₁.setTop (mkF m 4 (own_L0 g) []))
    refine OG.of (A := s₁.setTop (mkF m 5 (own_L0 g) [(.int (4 : Int32))])) (fun oT oK => ?_) ?_
    · skip
      refine XS.iconst X0.here hx rfl (hb hby dF_4) ?_
      exact oK
    obtain ⟨T11, h11, kc11, X11, e11, E11, A11, st11⟩ := newP X0 hx hZ (own_at hw 4 rfl) e0 (g := (mkF m 5 (own_L0 g) [(.int (4 : Int32))])) rfl (hb hby dF_5) rfl (by decide) (cap := 4) (by decide) (by decide) (by decide) (by decide)
    obtain ⟨b11, g11⟩ : ∃ z, z = (h0).size := ⟨_, rfl⟩
    have gn_b11 : n0 ≤ b11 := Nat.le_trans Z0 (Nat.le_of_eq g11.symm)
    have sz_b11 : h0.size ≤ b11 := Nat.le_trans (Keep.refl h0 []).1 (Nat.le_of_eq g11.symm)
    rw [← g11] at A11 st11
    have K11 : Keep h0 h11 [] := (Keep.refl h0 []).ext E11
    have Z11 : n0 ≤ h11.size := Nat.le_trans Z0 E11.1
    have V11 : Arv Z h11 b11 kc11 .char (4 : Int32) [(.int (0 : Int32)), (.int (0 : Int32)), (.int (0 : Int32)), (.int (0 : Int32))] (.int (0 : Int32)) := (Arv.new A11 (by decide)).pad (pad_rep [] (.int (0 : Int32)) 4)
    refine OG.of st11 ?_
    show OG _ _ _ _ _ _ _ (T11.setTop (mkF m 7 (own_L0 g) [(.ref b11)]))
    refine OG.of (A := T11.setTop (mkF m 11 (own_L0 g) [(.int (117 : Int32)), (.int (0 : Int32)), (.ref b11), (.ref b11)])) (fun oT oK => ?_) ?_
    · skip
      refine XS.dup X11.here hx rfl (hb hby dF_7) rfl rfl ?_
      show Steps p.tables e below (T11.setTop (mkF m 8 (own_L0 g) [(.ref b11), (.ref b11)])) _
      refine XS.iconst X11.here hx rfl (hb hby dF_8) ?_
      refine XS.bipush X11.here hx rfl (hb hby dF_9) ?_
      exact oK
    have cf20 := V11
    obtain ⟨clf20, Arf20, qf20, Sf20, Mf20, Hf20, Gf20⟩ := cf20
    obtain ⟨T12, h12, X12, e12, W12, st12⟩ := stC X11 hx hZ e11 Arf20 (j := (0 : Int32)) (inb_of Sf20 ⟨by decide, by decide⟩) (g := (mkF m 11 (own_L0 g) [(.int (117 : Int32)), (.int (0 : Int32)), (.ref b11), (.ref b11)])) rfl rfl (hb hby dF_11)
    have V12 : Arv Z h12 b11 kc11 .char (4 : Int32) [(.int (nar .char (117 : Int32))), (.int (0 : Int32)), (.int (0 : Int32)), (.int (0 : Int32))] (.int (0 : Int32)) := Arv.set Arf20 qf20 Sf20 Mf20 Hf20 Gf20 (fits_nar_char _) W12 0 rfl (Nat.le_of_ble_eq_true rfl)
    have K12 : Keep h0 h12 [] := (K11).wr W12 (Or.inr sz_b11)
    have Z12 : n0 ≤ h12.size := Nat.le_trans Z11 (Keep.of_wr W12).1
    have N12 := Fr.snoc X12 N0 gn_b11
    refine OG.of st12 ?_
    show OG _ _ _ _ _ _ _ (T12.setTop (mkF m 12 (own_L0 g) [(.ref b11)]))
    refine OG.of (A := T12.setTop (mkF m 16 (own_L0 g) [(.int (101 : Int32)), (.int (1 : Int32)), (.ref b11), (.ref b11)])) (fun oT oK => ?_) ?_
    · skip
      refine XS.dup X12.here hx rfl (hb hby dF_12) rfl rfl ?_
      show Steps p.tables e below (T12.setTop (mkF m 13 (own_L0 g) [(.ref b11), (.ref b11)])) _
      refine XS.iconst X12.here hx rfl (hb hby dF_13) ?_
      refine XS.bipush X12.here hx rfl (hb hby dF_14) ?_
      exact oK
    have cf22 := V12
    obtain ⟨clf22, Arf22, qf22, Sf22, Mf22, Hf22, Gf22⟩ := cf22
    obtain ⟨T13, h13, X13, e13, W13, st13⟩ := stC X12 hx hZ e12 Arf22 (j := (1 : Int32)) (inb_of Sf22 ⟨by decide, by decide⟩) (g := (mkF m 16 (own_L0 g) [(.int (101 : Int32)), (.int (1 : Int32)), (.ref b11), (.ref b11)])) rfl rfl (hb hby dF_16)
    have V13 : Arv Z h13 b11 kc11 .char (4 : Int32) [(.int (nar .char (117 : Int32))), (.int (nar .char (101 : Int32))), (.int (0 : Int32)), (.int (0 : Int32))] (.int (0 : Int32)) := Arv.set Arf22 qf22 Sf22 Mf22 Hf22 Gf22 (fits_nar_char _) W13 1 rfl (Nat.le_of_ble_eq_true rfl)
    have K13 : Keep h0 h13 [] := (K12).wr W13 (Or.inr sz_b11)
    have Z13 : n0 ≤ h13.size := Nat.le_trans Z12 (Keep.of_wr W13).1
    have N13 := Fr.snoc X13 N12 gn_b11
    refine OG.of st13 ?_
    show OG _ _ _ _ _ _ _ (T13.setTop (mkF m 17 (own_L0 g) [(.ref b11)]))
    refine OG.of (A := T13.setTop (mkF m 21 (own_L0 g) [(.int (115 : Int32)), (.int (2 : Int32)), (.ref b11), (.ref b11)])) (fun oT oK => ?_) ?_
    · skip
      refine XS.dup X13.here hx rfl (hb hby dF_17) rfl rfl ?_
      show Steps p.tables e below (T13.setTop (mkF m 18 (own_L0 g) [(.ref b11), (.ref b11)])) _
      refine XS.iconst X13.here hx rfl (hb hby dF_18) ?_
      refine XS.bipush X13.here hx rfl (hb hby dF_19) ?_
      exact oK
    have cf24 := V13
    obtain ⟨clf24, Arf24, qf24, Sf24, Mf24, Hf24, Gf24⟩ := cf24
    obtain ⟨T14, h14, X14, e14, W14, st14⟩ := stC X13 hx hZ e13 Arf24 (j := (2 : Int32)) (inb_of Sf24 ⟨by decide, by decide⟩) (g := (mkF m 21 (own_L0 g) [(.int (115 : Int32)), (.int (2 : Int32)), (.ref b11), (.ref b11)])) rfl rfl (hb hby dF_21)
    have V14 : Arv Z h14 b11 kc11 .char (4 : Int32) [(.int (nar .char (117 : Int32))), (.int (nar .char (101 : Int32))), (.int (nar .char (115 : Int32))), (.int (0 : Int32))] (.int (0 : Int32)) := Arv.set Arf24 qf24 Sf24 Mf24 Hf24 Gf24 (fits_nar_char _) W14 2 rfl (Nat.le_of_ble_eq_true rfl)
    have K14 : Keep h0 h14 [] := (K13).wr W14 (Or.inr sz_b11)
    have Z14 : n0 ≤ h14.size := Nat.le_trans Z13 (Keep.of_wr W14).1
    have N14 := Fr.snoc X14 N13 gn_b11
    refine OG.of st14 ?_
    show OG _ _ _ _ _ _ _ (T14.setTop (mkF m 22 (own_L0 g) [(.ref b11)]))
    refine OG.of (A := T14.setTop (mkF m 26 (own_L0 g) [(.int (116 : Int32)), (.int (3 : Int32)), (.ref b11), (.ref b11)])) (fun oT oK => ?_) ?_
    · skip
      refine XS.dup X14.here hx rfl (hb hby dF_22) rfl rfl ?_
      show Steps p.tables e below (T14.setTop (mkF m 23 (own_L0 g) [(.ref b11), (.ref b11)])) _
      refine XS.iconst X14.here hx rfl (hb hby dF_23) ?_
      refine XS.bipush X14.here hx rfl (hb hby dF_24) ?_
      exact oK
    have cf26 := V14
    obtain ⟨clf26, Arf26, qf26, Sf26, Mf26, Hf26, Gf26⟩ := cf26
    obtain ⟨T15, h15, X15, e15, W15, st15⟩ := stC X14 hx hZ e14 Arf26 (j := (3 : Int32)) (inb_of Sf26 ⟨by decide, by decide⟩) (g := (mkF m 26 (own_L0 g) [(.int (116 : Int32)), (.int (3 : Int32)), (.ref b11), (.ref b11)])) rfl rfl (hb hby dF_26)
    have V15 : Arv Z h15 b11 kc11 .char (4 : Int32) [(.int (nar .char (117 : Int32))), (.int (nar .char (101 : Int32))), (.int (nar .char (115 : Int32))), (.int (nar .char (116 : Int32)))] (.int (0 : Int32)) := Arv.set Arf26 qf26 Sf26 Mf26 Hf26 Gf26 (fits_nar_char _) W15 3 rfl (Nat.le_of_ble_eq_true rfl)
    have K15 : Keep h0 h15 [] := (K14).wr W15 (Or.inr sz_b11)
    have Z15 : n0 ≤ h15.size := Nat.le_trans Z14 (Keep.of_wr W15).1
    have N15 := Fr.snoc X15 N14 gn_b11
    refine OG.of st15 ?_
    show OG _ _ _ _ _ _ _ (T15.setTop (mkF m 27 (own_L0 g) [(.ref b11)]))
    refine OG.retA X15 hx Bd.returns rfl rfl (hb hby dF_27) hlk ?_ (by decide) (by decide)
    try rw [e15]
    exact ⟨b11, [(nar .char (117 : Int32)), (nar .char (101 : Int32)), (nar .char (115 : Int32)), (nar .char (116 : Int32))], 4, rfl, N15, K15, gn_b11, sz_b11, ⟨kc11, V15⟩, rfl, (by decide), (by decide), (own_ac (by decide +kernel) (own_ac (by decide +kernel) (own_ac (by decide +kernel) (own_ac (by decide +kernel) own_an)))), (own_exl (by simp) (by simp))⟩
theorem dA_0 : decode method_3_code 0 = .ok (.iload_n 0, 1) := by decide +kernel
theorem dA_1 : decode method_3_code 1 = .ok (.ifCond .eq 37, 3) := by decide +kernel
theorem dA_38 : decode method_3_code 38 = .ok (.bipush 11, 2) := by decide +kernel
theorem dA_40 : decode method_3_code 40 = .ok (.newarray .char, 2) := by decide +kernel
theorem dA_42 : decode method_3_code 42 = .ok (.dup, 1) := by decide +kernel
theorem dA_43 : decode method_3_code 43 = .ok (.iconst 0, 1) := by decide +kernel
theorem dA_44 : decode method_3_code 44 = .ok (.bipush 114, 2) := by decide +kernel
theorem dA_46 : decode method_3_code 46 = .ok (.castore, 1) := by decide +kernel
theorem dA_47 : decode method_3_code 47 = .ok (.dup, 1) := by decide +kernel
theorem dA_48 : decode method_3_code 48 = .ok (.iconst 1, 1) := by decide +kernel
theorem dA_49 : decode method_3_code 49 = .ok (.bipush 101, 2) := by decide +kernel
theorem dA_51 : decode method_3_code 51 = .ok (.castore, 1) := by decide +kernel
theorem dA_52 : decode method_3_code 52 = .ok (.dup, 1) := by decide +kernel
theorem dA_53 : decode method_3_code 53 = .ok (.iconst 2, 1) := by decide +kernel
theorem dA_54 : decode method_3_code 54 = .ok (.bipush 103, 2) := by decide +kernel
theorem dA_56 : decode method_3_code 56 = .ok (.castore, 1) := by decide +kernel
theorem dA_57 : decode method_3_code 57 = .ok (.dup, 1) := by decide +kernel
theorem dA_58 : decode method_3_code 58 = .ok (.iconst 3, 1) := by decide +kernel
theorem dA_59 : decode method_3_code 59 = .ok (.bipush 105, 2) := by decide +kernel
theorem dA_61 : decode method_3_code 61 = .ok (.castore, 1) := by decide +kernel
theorem dA_62 : decode method_3_code 62 = .ok (.dup, 1) := by decide +kernel
theorem dA_63 : decode method_3_code 63 = .ok (.iconst 4, 1) := by decide +kernel
theorem dA_64 : decode method_3_code 64 = .ok (.bipush 115, 2) := by decide +kernel
theorem dA_66 : decode method_3_code 66 = .ok (.castore, 1) := by decide +kernel
theorem dA_67 : decode method_3_code 67 = .ok (.dup, 1) := by decide +kernel
theorem dA_68 : decode method_3_code 68 = .ok (.iconst 5, 1) := by decide +kernel
theorem dA_69 : decode method_3_code 69 = .ok (.bipush 116, 2) := by decide +kernel
theorem dA_71 : decode method_3_code 71 = .ok (.castore, 1) := by decide +kernel
theorem dA_72 : decode method_3_code 72 = .ok (.dup, 1) := by decide +kernel
theorem dA_73 : decode method_3_code 73 = .ok (.bipush 6, 2) := by decide +kernel
theorem dA_75 : decode method_3_code 75 = .ok (.bipush 101, 2) := by decide +kernel
theorem dA_77 : decode method_3_code 77 = .ok (.castore, 1) := by decide +kernel
theorem dA_78 : decode method_3_code 78 = .ok (.dup, 1) := by decide +kernel
theorem dA_79 : decode method_3_code 79 = .ok (.bipush 7, 2) := by decide +kernel
theorem dA_81 : decode method_3_code 81 = .ok (.bipush 114, 2) := by decide +kernel
theorem dA_83 : decode method_3_code 83 = .ok (.castore, 1) := by decide +kernel
theorem dA_84 : decode method_3_code 84 = .ok (.dup, 1) := by decide +kernel
theorem dA_85 : decode method_3_code 85 = .ok (.bipush 8, 2) := by decide +kernel
theorem dA_87 : decode method_3_code 87 = .ok (.bipush 101, 2) := by decide +kernel
theorem dA_89 : decode method_3_code 89 = .ok (.castore, 1) := by decide +kernel
theorem dA_90 : decode method_3_code 90 = .ok (.dup, 1) := by decide +kernel
theorem dA_91 : decode method_3_code 91 = .ok (.bipush 9, 2) := by decide +kernel
theorem dA_93 : decode method_3_code 93 = .ok (.bipush 100, 2) := by decide +kernel
theorem dA_95 : decode method_3_code 95 = .ok (.castore, 1) := by decide +kernel
theorem dA_96 : decode method_3_code 96 = .ok (.dup, 1) := by decide +kernel
theorem dA_97 : decode method_3_code 97 = .ok (.bipush 10, 2) := by decide +kernel
theorem dA_99 : decode method_3_code 99 = .ok (.iload_n 1, 1) := by decide +kernel
theorem dA_100 : decode method_3_code 100 = .ok (.castore, 1) := by decide +kernel
theorem dA_101 : decode method_3_code 101 = .ok (.areturn, 1) := by decide +kernel
theorem dA_4 : decode method_3_code 4 = .ok (.bipush 6, 2) := by decide +kernel
theorem dA_6 : decode method_3_code 6 = .ok (.newarray .char, 2) := by decide +kernel
theorem dA_8 : decode method_3_code 8 = .ok (.dup, 1) := by decide +kernel
theorem dA_9 : decode method_3_code 9 = .ok (.iconst 0, 1) := by decide +kernel
theorem dA_10 : decode method_3_code 10 = .ok (.bipush 103, 2) := by decide +kernel
theorem dA_12 : decode method_3_code 12 = .ok (.castore, 1) := by decide +kernel
theorem dA_13 : decode method_3_code 13 = .ok (.dup, 1) := by decide +kernel
theorem dA_14 : decode method_3_code 14 = .ok (.iconst 1, 1) := by decide +kernel
theorem dA_15 : decode method_3_code 15 = .ok (.bipush 117, 2) := by decide +kernel
theorem dA_17 : decode method_3_code 17 = .ok (.castore, 1) := by decide +kernel
theorem dA_18 : decode method_3_code 18 = .ok (.dup, 1) := by decide +kernel
theorem dA_19 : decode method_3_code 19 = .ok (.iconst 2, 1) := by decide +kernel
theorem dA_20 : decode method_3_code 20 = .ok (.bipush 101, 2) := by decide +kernel
theorem dA_22 : decode method_3_code 22 = .ok (.castore, 1) := by decide +kernel
theorem dA_23 : decode method_3_code 23 = .ok (.dup, 1) := by decide +kernel
theorem dA_24 : decode method_3_code 24 = .ok (.iconst 3, 1) := by decide +kernel
theorem dA_25 : decode method_3_code 25 = .ok (.bipush 115, 2) := by decide +kernel
theorem dA_27 : decode method_3_code 27 = .ok (.castore, 1) := by decide +kernel
theorem dA_28 : decode method_3_code 28 = .ok (.dup, 1) := by decide +kernel
theorem dA_29 : decode method_3_code 29 = .ok (.iconst 4, 1) := by decide +kernel
theorem dA_30 : decode method_3_code 30 = .ok (.bipush 116, 2) := by decide +kernel
theorem dA_32 : decode method_3_code 32 = .ok (.castore, 1) := by decide +kernel
theorem dA_33 : decode method_3_code 33 = .ok (.dup, 1) := by decide +kernel
theorem dA_34 : decode method_3_code 34 = .ok (.iconst 5, 1) := by decide +kernel
theorem dA_35 : decode method_3_code 35 = .ok (.iload_n 1, 1) := by decide +kernel
theorem dA_36 : decode method_3_code 36 = .ok (.castore, 1) := by decide +kernel
theorem dA_37 : decode method_3_code 37 = .ok (.areturn, 1) := by decide +kernel
theorem pn_A : plainName "com/example/vett/vett/GranteeUserTypePinLaw" = true := by first | (simp [plainName, overriddenIn]; done) | decide +kernel
theorem ef_A (m : MethodId) (x0 : Int32) (x1 : Int32) : entryFrame m #[(.int x0), (.int x1)] 2 = mkF m 0 #[.val (.int x0), .val (.int x1)] [] := by first | (simp [entryFrame, mkF, argsToLocals, Value.category]; done) | rfl
def QA (Z : State) (g : Int32) (cx : Int32) (h0 : Heap) (n0 : Nat) (v : Option Value) (h : Heap) (L : List Loc) : Prop := ∃ (r : Addr) (cs : List Int32) (n : Nat), v = some (.ref r) ∧ Fr n0 L ∧ Keep h0 h [] ∧ n0 ≤ r ∧ h0.size ≤ r ∧ OAr Z h r cs n (0 : Int32)
set_option maxRecDepth 65536 in
set_option maxHeartbeats 40000000 in
theorem rmA (l : Launch) (Z : State) (a0 : Array Value) (hw : ∀ d ∈ tables_1, d.before a0 Z = true) (ws : List Jvm.Cond) (g : Int32) (cx : Int32) (h0 : Heap) (n0 : Nat) (Z0 : n0 ≤ h0.size) (hcx : own_ch cx) :
    MetFree l (⟨"com/example/vett/vett/GranteeUserTypePinLaw", "appended", "(ZC)[C"⟩ : MethodName) (head1 (Jvm.Cond.code (⟨"com/example/vett/vett/GranteeUserTypePinLaw", "appended", "(ZC)[C"⟩ : MethodName) method_3_code 2 (some (.array .char)) :: ws) ({ frames := 0, cells := 1, slots := 11, locals := 0 } : Room)) (fun aA oU => aA = #[(.int g), (.int cx)] ∧ Z.Warmed39 oU.vm ∧ oU.heap = h0) (fun _ _ _ _ _ => True) (fun _ oU oO oU' => ∃ oV oL, oO = .returned oV ∧ QA Z g cx h0 n0 oV oU'.heap oL ∧ FrameEnd oU oO oU' oL ({ frames := 0, cells := 1, slots := 11, locals := 0 } : Room).cells ({ frames := 0, cells := 1, slots := 11, locals := 0 } : Room).slots) := by
  refine MetFree.of_bodySF (plainFor_of_name pn_A) hisR ?_
  intro p e s m args below meth c s₁ Bd hml0 hP hK
  obtain ⟨rfl, hZ, hh⟩ := hP
  have hx := Bd.exec
  have hby := Bd.bytes
  have hlk := BodyLoose.notSynchronized Bd
  have hml : c.maxLocals = 2 := hml0
  have hown : s.vm.findClass "com/example/vett/vett/GranteeUserTypePinLaw" = some m.cls := findClass_of_methodNamed Bd.named
  have hnm := (name_of_methodNamed Bd.named Bd.method).1
  have X0 : Stand p l e ({ frames := 0, cells := 1, slots := 11, locals := 0 } : Room) s m #[(.int g), (.int cx)] below meth c s₁ [] 0 0 := Stand.of_body Bd
  have e0 : s₁.heap = h0 := by rw [← hh, Bd.state]; rfl
  have N0 := Fr.nil n0
  show OG p e below s ({ frames := 0, cells := 1, slots := 11, locals := 0 } : Room).cells ({ frames := 0, cells := 1, slots := 11, locals := 0 } : Room).slots (QA Z g cx h0 n0) _
  refine OG.of (fun oT oK => castTop (ef_A m g cx) oK) ?_
  show OG p e below s _ _ _ (s₁.setTop (mkF m 0 (own_L1 g cx) []))
  refine OG.of (A := s₁.setTop (mkF m 1 (own_L1 g cx) [(.int g)])) (fun oT oK => ?_) ?_
  · skip
    refine XS.iloadN X0.here hx rfl (hb hby dA_0) rfl  ?_
    exact oK
  by_cases hc1_1 : g = (0 : Int32)
  · refine OG.of (fun oT oK => XS.ifYes X0.here hx rfl (pc0 := 1) (pc' := 38) rfl (hb hby dA_1) rfl (XT.i0_eq_t hc1_1) (by decide) (by decide) oK) ?_
    show OG _ _ _ _ _ _ _ (s₁.setTop (mkF m 38 (own_L1 g cx) []))
    refine OG.of (A := s₁.setTop (mkF m 40 (own_L1 g cx) [(.int (11 : Int32))])) (fun oT oK => ?_) ?_
    · skip
      refine XS.bipush X0.here hx rfl (hb hby dA_38) ?_
      exact oK
    obtain ⟨T1, h1, kc1, X1, e1, E1, A1, st1⟩ := newP X0 hx hZ (own_at hw 4 rfl) e0 (g := (mkF m 40 (own_L1 g cx) [(.int (11 : Int32))])) rfl (hb hby dA_40) rfl (by decide) (cap := 11) (by decide) (by decide) (by decide) (by decide)
    obtain ⟨b1, g1⟩ : ∃ z, z = (h0).size := ⟨_, rfl⟩
    have gn_b1 : n0 ≤ b1 := Nat.le_trans Z0 (Nat.le_of_eq g1.symm)
    have sz_b1 : h0.size ≤ b1 := Nat.le_trans (Keep.refl h0 []).1 (Nat.le_of_eq g1.symm)
    rw [← g1] at A1 st1
    have K1 : Keep h0 h1 [] := (Keep.refl h0 []).ext E1
    have Z1 : n0 ≤ h1.size := Nat.le_trans Z0 E1.1
    have V1 : Arv Z h1 b1 kc1 .char (11 : Int32) [(.int (0 : Int32)), (.int (0 : Int32)), (.int (0 : Int32)), (.int (0 : Int32)), (.int (0 : Int32)), (.int (0 : Int32)), (.int (0 : Int32)), (.int (0 : Int32)), (.int (0 : Int32)), (.int (0 : Int32)), (.int (0 : Int32))] (.int (0 : Int32)) := (Arv.new A1 (by decide)).pad (pad_rep [] (.int (0 : Int32)) 11)
    refine OG.of st1 ?_
    show OG _ _ _ _ _ _ _ (T1.setTop (mkF m 42 (own_L1 g cx) [(.ref b1)]))
    refine OG.of (A := T1.setTop (mkF m 46 (own_L1 g cx) [(.int (114 : Int32)), (.int (0 : Int32)), (.ref b1), (.ref b1)])) (fun oT oK => ?_) ?_
    · skip
      refine XS.dup X1.here hx rfl (hb hby dA_42) rfl rfl ?_
      show Steps p.tables e below (T1.setTop (mkF m 43 (own_L1 g cx) [(.ref b1), (.ref b1)])) _
      refine XS.iconst X1.here hx rfl (hb hby dA_43) ?_
      refine XS.bipush X1.here hx rfl (hb hby dA_44) ?_
      exact oK
    have cf2 := V1
    obtain ⟨clf2, Arf2, qf2, Sf2, Mf2, Hf2, Gf2⟩ := cf2
    obtain ⟨T2, h2, X2, e2, W2, st2⟩ := stC X1 hx hZ e1 Arf2 (j := (0 : Int32)) (inb_of Sf2 ⟨by decide, by decide⟩) (g := (mkF m 46 (own_L1 g cx) [(.int (114 : Int32)), (.int (0 : Int32)), (.ref b1), (.ref b1)])) rfl rfl (hb hby dA_46)
    have V2 : Arv Z h2 b1 kc1 .char (11 : Int32) [(.int (nar .char (114 : Int32))), (.int (0 : Int32)), (.int (0 : Int32)), (.int (0 : Int32)), (.int (0 : Int32)), (.int (0 : Int32)), (.int (0 : Int32)), (.int (0 : Int32)), (.int (0 : Int32)), (.int (0 : Int32)), (.int (0 : Int32))] (.int (0 : Int32)) := Arv.set Arf2 qf2 Sf2 Mf2 Hf2 Gf2 (fits_nar_char _) W2 0 rfl (Nat.le_of_ble_eq_true rfl)
    have K2 : Keep h0 h2 [] := (K1).wr W2 (Or.inr sz_b1)
    have Z2 : n0 ≤ h2.size := Nat.le_trans Z1 (Keep.of_wr W2).1
    have N2 := Fr.snoc X2 N0 gn_b1
    refine OG.of st2 ?_
    show OG _ _ _ _ _ _ _ (T2.setTop (mkF m 47 (own_L1 g cx) [(.ref b1)]))
    refine OG.of (A := T2.setTop (mkF m 51 (own_L1 g cx) [(.int (101 : Int32)), (.int (1 : Int32)), (.ref b1), (.ref b1)])) (fun oT oK => ?_) ?_
    · skip
      refine XS.dup X2.here hx rfl (hb hby dA_47) rfl rfl ?_
      show Steps p.tables e below (T2.setTop (mkF m 48 (own_L1 g cx) [(.ref b1), (.ref b1)])) _
      refine XS.iconst X2.here hx rfl (hb hby dA_48) ?_
      refine XS.bipush X2.here hx rfl (hb hby dA_49) ?_
      exact oK
    have cf4 := V2
    obtain ⟨clf4, Arf4, qf4, Sf4, Mf4, Hf4, Gf4⟩ := cf4
    obtain ⟨T3, h3, X3, e3, W3, st3⟩ := stC X2 hx hZ e2 Arf4 (j := (1 : Int32)) (inb_of Sf4 ⟨by decide, by decide⟩) (g := (mkF m 51 (own_L1 g cx) [(.int (101 : Int32)), (.int (1 : Int32)), (.ref b1), (.ref b1)])) rfl rfl (hb hby dA_51)
    have V3 : Arv Z h3 b1 kc1 .char (11 : Int32) [(.int (nar .char (114 : Int32))), (.int (nar .char (101 : Int32))), (.int (0 : Int32)), (.int (0 : Int32)), (.int (0 : Int32)), (.int (0 : Int32)), (.int (0 : Int32)), (.int (0 : Int32)), (.int (0 : Int32)), (.int (0 : Int32)), (.int (0 : Int32))] (.int (0 : Int32)) := Arv.set Arf4 qf4 Sf4 Mf4 Hf4 Gf4 (fits_nar_char _) W3 1 rfl (Nat.le_of_ble_eq_true rfl)
    have K3 : Keep h0 h3 [] := (K2).wr W3 (Or.inr sz_b1)
    have Z3 : n0 ≤ h3.size := Nat.le_trans Z2 (Keep.of_wr W3).1
    have N3 := Fr.snoc X3 N2 gn_b1
    refine OG.of st3 ?_
    show OG _ _ _ _ _ _ _ (T3.setTop (mkF m 52 (own_L1 g cx) [(.ref b1)]))
    refine OG.of (A := T3.setTop (mkF m 56 (own_L1 g cx) [(.int (103 : Int32)), (.int (2 : Int32)), (.ref b1), (.ref b1)])) (fun oT oK => ?_) ?_
    · skip
      refine XS.dup X3.here hx rfl (hb hby dA_52) rfl rfl ?_
      show Steps p.tables e below (T3.setTop (mkF m 53 (own_L1 g cx) [(.ref b1), (.ref b1)])) _
      refine XS.iconst X3.here hx rfl (hb hby dA_53) ?_
      refine XS.bipush X3.here hx rfl (hb hby dA_54) ?_
      exact oK
    have cf6 := V3
    obtain ⟨clf6, Arf6, qf6, Sf6, Mf6, Hf6, Gf6⟩ := cf6
    obtain ⟨T4, h4, X4, e4, W4, st4⟩ := stC X3 hx hZ e3 Arf6 (j := (2 : Int32)) (inb_of Sf6 ⟨by decide, by decide⟩) (g := (mkF m 56 (own_L1 g cx) [(.int (103 : Int32)), (.int (2 : Int32)), (.ref b1), (.ref b1)])) rfl rfl (hb hby dA_56)
    have V4 : Arv Z h4 b1 kc1 .char (11 : Int32) [(.int (nar .char (114 : Int32))), (.int (nar .char (101 : Int32))), (.int (nar .char (103 : Int32))), (.int (0 : Int32)), (.int (0 : Int32)), (.int (0 : Int32)), (.int (0 : Int32)), (.int (0 : Int32)), (.int (0 : Int32)), (.int (0 : Int32)), (.int (0 : Int32))] (.int (0 : Int32)) := Arv.set Arf6 qf6 Sf6 Mf6 Hf6 Gf6 (fits_nar_char _) W4 2 rfl (Nat.le_of_ble_eq_true rfl)
    have K4 : Keep h0 h4 [] := (K3).wr W4 (Or.inr sz_b1)
    have Z4 : n0 ≤ h4.size := Nat.le_trans Z3 (Keep.of_wr W4).1
    have N4 := Fr.snoc X4 N3 gn_b1
    refine OG.of st4 ?_
    show OG _ _ _ _ _ _ _ (T4.setTop (mkF m 57 (own_L1 g cx) [(.ref b1)]))
    refine OG.of (A := T4.setTop (mkF m 61 (own_L1 g cx) [(.int (105 : Int32)), (.int (3 : Int32)), (.ref b1), (.ref b1)])) (fun oT oK => ?_) ?_
    · skip
      refine XS.dup X4.here hx rfl (hb hby dA_57) rfl rfl ?_
      show Steps p.tables e below (T4.setTop (mkF m 58 (own_L1 g cx) [(.ref b1), (.ref b1)])) _
      refine XS.iconst X4.here hx rfl (hb hby dA_58) ?_
      refine XS.bipush X4.here hx rfl (hb hby dA_59) ?_
      exact oK
    have cf8 := V4
    obtain ⟨clf8, Arf8, qf8, Sf8, Mf8, Hf8, Gf8⟩ := cf8
    obtain ⟨T5, h5, X5, e5, W5, st5⟩ := stC X4 hx hZ e4 Arf8 (j := (3 : Int32)) (inb_of Sf8 ⟨by decide, by decide⟩) (g := (mkF m 61 (own_L1 g cx) [(.int (105 : Int32)), (.int (3 : Int32)), (.ref b1), (.ref b1)])) rfl rfl (hb hby dA_61)
    have V5 : Arv Z h5 b1 kc1 .char (11 : Int32) [(.int (nar .char (114 : Int32))), (.int (nar .char (101 : Int32))), (.int (nar .char (103 : Int32))), (.int (nar .char (105 : Int32))), (.int (0 : Int32)), (.int (0 : Int32)), (.int (0 : Int32)), (.int (0 : Int32)), (.int (0 : Int32)), (.int (0 : Int32)), (.int (0 : Int32))] (.int (0 : Int32)) := Arv.set Arf8 qf8 Sf8 Mf8 Hf8 Gf8 (fits_nar_char _) W5 3 rfl (Nat.le_of_ble_eq_true rfl)
    have K5 : Keep h0 h5 [] := (K4).wr W5 (Or.inr sz_b1)
    have Z5 : n0 ≤ h5.size := Nat.le_trans Z4 (Keep.of_wr W5).1
    have N5 := Fr.snoc X5 N4 gn_b1
    refine OG.of st5 ?_
    show OG _ _ _ _ _ _ _ (T5.setTop (mkF m 62 (own_L1 g cx) [(.ref b1)]))
    refine OG.of (A := T5.setTop (mkF m 66 (own_L1 g cx) [(.int (115 : Int32)), (.int (4 : Int32)), (.ref b1), (.ref b1)])) (fun oT oK => ?_) ?_
    · skip
      refine XS.dup X5.here hx rfl (hb hby dA_62) rfl rfl ?_
      show Steps p.tables e below (T5.setTop (mkF m 63 (own_L1 g cx) [(.ref b1), (.ref b1)])) _
      refine XS.iconst X5.here hx rfl (hb hby dA_63) ?_
      refine XS.bipush X5.here hx rfl (hb hby dA_64) ?_
      exact oK
    have cf10 := V5
    obtain ⟨clf10, Arf10, qf10, Sf10, Mf10, Hf10, Gf10⟩ := cf10
    obtain ⟨T6, h6, X6, e6, W6, st6⟩ := stC X5 hx hZ e5 Arf10 (j := (4 : Int32)) (inb_of Sf10 ⟨by decide, by decide⟩) (g := (mkF m 66 (own_L1 g cx) [(.int (115 : Int32)), (.int (4 : Int32)), (.ref b1), (.ref b1)])) rfl rfl (hb hby dA_66)
    have V6 : Arv Z h6 b1 kc1 .char (11 : Int32) [(.int (nar .char (114 : Int32))), (.int (nar .char (101 : Int32))), (.int (nar .char (103 : Int32))), (.int (nar .char (105 : Int32))), (.int (nar .char (115 : Int32))), (.int (0 : Int32)), (.int (0 : Int32)), (.int (0 : Int32)), (.int (0 : Int32)), (.int (0 : Int32)), (.int (0 : Int32))] (.int (0 : Int32)) := Arv.set Arf10 qf10 Sf10 Mf10 Hf10 Gf10 (fits_nar_char _) W6 4 rfl (Nat.le_of_ble_eq_true rfl)
    have K6 : Keep h0 h6 [] := (K5).wr W6 (Or.inr sz_b1)
    have Z6 : n0 ≤ h6.size := Nat.le_trans Z5 (Keep.of_wr W6).1
    have N6 := Fr.snoc X6 N5 gn_b1
    refine OG.of st6 ?_
    show OG _ _ _ _ _ _ _ (T6.setTop (mkF m 67 (own_L1 g cx) [(.ref b1)]))
    refine OG.of (A := T6.setTop (mkF m 71 (own_L1 g cx) [(.int (116 : Int32)), (.int (5 : Int32)), (.ref b1), (.ref b1)])) (fun oT oK => ?_) ?_
    · skip
      refine XS.dup X6.here hx rfl (hb hby dA_67) rfl rfl ?_
      show Steps p.tables e below (T6.setTop (mkF m 68 (own_L1 g cx) [(.ref b1), (.ref b1)])) _
      refine XS.iconst X6.here hx rfl (hb hby dA_68) ?_
      refine XS.bipush X6.here hx rfl (hb hby dA_69) ?_
      exact oK
    have cf12 := V6
    obtain ⟨clf12, Arf12, qf12, Sf12, Mf12, Hf12, Gf12⟩ := cf12
    obtain ⟨T7, h7, X7, e7, W7, st7⟩ := stC X6 hx hZ e6 Arf12 (j := (5 : Int32)) (inb_of Sf12 ⟨by decide, by decide⟩) (g := (mkF m 71 (own_L1 g cx) [(.int (116 : Int32)), (.int (5 : Int32)), (.ref b1), (.ref b1)])) rfl rfl (hb hby dA_71)
    have V7 : Arv Z h7 b1 kc1 .char (11 : Int32) [(.int (nar .char (114 : Int32))), (.int (nar .char (101 : Int32))), (.int (nar .char (103 : Int32))), (.int (nar .char (105 : Int32))), (.int (nar .char (115 : Int32))), (.int (nar .char (116 : Int32))), (.int (0 : Int32)), (.int (0 : Int32)), (.int (0 : Int32)), (.int (0 : Int32)), (.int (0 : Int32))] (.int (0 : Int32)) := Arv.set Arf12 qf12 Sf12 Mf12 Hf12 Gf12 (fits_nar_char _) W7 5 rfl (Nat.le_of_ble_eq_true rfl)
    have K7 : Keep h0 h7 [] := (K6).wr W7 (Or.inr sz_b1)
    have Z7 : n0 ≤ h7.size := Nat.le_trans Z6 (Keep.of_wr W7).1
    have N7 := Fr.snoc X7 N6 gn_b1
    refine OG.of st7 ?_
    show OG _ _ _ _ _ _ _ (T7.setTop (mkF m 72 (own_L1 g cx) [(.ref b1)]))
    refine OG.of (A := T7.setTop (mkF m 77 (own_L1 g cx) [(.int (101 : Int32)), (.int (6 : Int32)), (.ref b1), (.ref b1)])) (fun oT oK => ?_) ?_
    · skip
      refine XS.dup X7.here hx rfl (hb hby dA_72) rfl rfl ?_
      show Steps p.tables e below (T7.setTop (mkF m 73 (own_L1 g cx) [(.ref b1), (.ref b1)])) _
      refine XS.bipush X7.here hx rfl (hb hby dA_73) ?_
      refine XS.bipush X7.here hx rfl (hb hby dA_75) ?_
      exact oK
    have cf14 := V7
    obtain ⟨clf14, Arf14, qf14, Sf14, Mf14, Hf14, Gf14⟩ := cf14
    obtain ⟨T8, h8, X8, e8, W8, st8⟩ := stC X7 hx hZ e7 Arf14 (j := (6 : Int32)) (inb_of Sf14 ⟨by decide, by decide⟩) (g := (mkF m 77 (own_L1 g cx) [(.int (101 : Int32)), (.int (6 : Int32)), (.ref b1), (.ref b1)])) rfl rfl (hb hby dA_77)
    have V8 : Arv Z h8 b1 kc1 .char (11 : Int32) [(.int (nar .char (114 : Int32))), (.int (nar .char (101 : Int32))), (.int (nar .char (103 : Int32))), (.int (nar .char (105 : Int32))), (.int (nar .char (115 : Int32))), (.int (nar .char (116 : Int32))), (.int (nar .char (101 : Int32))), (.int (0 : Int32)), (.int (0 : Int32)), (.int (0 : Int32)), (.int (0 : Int32))] (.int (0 : Int32)) := Arv.set Arf14 qf14 Sf14 Mf14 Hf14 Gf14 (fits_nar_char _) W8 6 rfl (Nat.le_of_ble_eq_true rfl)
    have K8 : Keep h0 h8 [] := (K7).wr W8 (Or.inr sz_b1)
    have Z8 : n0 ≤ h8.size := Nat.le_trans Z7 (Keep.of_wr W8).1
    have N8 := Fr.snoc X8 N7 gn_b1
    refine OG.of st8 ?_
    show OG _ _ _ _ _ _ _ (T8.setTop (mkF m 78 (own_L1 g cx) [(.ref b1)]))
    refine OG.of (A := T8.setTop (mkF m 83 (own_L1 g cx) [(.int (114 : Int32)), (.int (7 : Int32)), (.ref b1), (.ref b1)])) (fun oT oK => ?_) ?_
    · skip
      refine XS.dup X8.here hx rfl (hb hby dA_78) rfl rfl ?_
      show Steps p.tables e below (T8.setTop (mkF m 79 (own_L1 g cx) [(.ref b1), (.ref b1)])) _
      refine XS.bipush X8.here hx rfl (hb hby dA_79) ?_
      refine XS.bipush X8.here hx rfl (hb hby dA_81) ?_
      exact oK
    have cf16 := V8
    obtain ⟨clf16, Arf16, qf16, Sf16, Mf16, Hf16, Gf16⟩ := cf16
    obtain ⟨T9, h9, X9, e9, W9, st9⟩ := stC X8 hx hZ e8 Arf16 (j := (7 : Int32)) (inb_of Sf16 ⟨by decide, by decide⟩) (g := (mkF m 83 (own_L1 g cx) [(.int (114 : Int32)), (.int (7 : Int32)), (.ref b1), (.ref b1)])) rfl rfl (hb hby dA_83)
    have V9 : Arv Z h9 b1 kc1 .char (11 : Int32) [(.int (nar .char (114 : Int32))), (.int (nar .char (101 : Int32))), (.int (nar .char (103 : Int32))), (.int (nar .char (105 : Int32))), (.int (nar .char (115 : Int32))), (.int (nar .char (116 : Int32))), (.int (nar .char (101 : Int32))), (.int (nar .char (114 : Int32))), (.int (0 : Int32)), (.int (0 : Int32)), (.int (0 : Int32))] (.int (0 : Int32)) := Arv.set Arf16 qf16 Sf16 Mf16 Hf16 Gf16 (fits_nar_char _) W9 7 rfl (Nat.le_of_ble_eq_true rfl)
    have K9 : Keep h0 h9 [] := (K8).wr W9 (Or.inr sz_b1)
    have Z9 : n0 ≤ h9.size := Nat.le_trans Z8 (Keep.of_wr W9).1
    have N9 := Fr.snoc X9 N8 gn_b1
    refine OG.of st9 ?_
    show OG _ _ _ _ _ _ _ (T9.setTop (mkF m 84 (own_L1 g cx) [(.ref b1)]))
    refine OG.of (A := T9.setTop (mkF m 89 (own_L1 g cx) [(.int (101 : Int32)), (.int (8 : Int32)), (.ref b1), (.ref b1)])) (fun oT oK => ?_) ?_
    · skip
      refine XS.dup X9.here hx rfl (hb hby dA_84) rfl rfl ?_
      show Steps p.tables e below (T9.setTop (mkF m 85 (own_L1 g cx) [(.ref b1), (.ref b1)])) _
      refine XS.bipush X9.here hx rfl (hb hby dA_85) ?_
      refine XS.bipush X9.here hx rfl (hb hby dA_87) ?_
      exact oK
    have cf18 := V9
    obtain ⟨clf18, Arf18, qf18, Sf18, Mf18, Hf18, Gf18⟩ := cf18
    obtain ⟨T10, h10, X10, e10, W10, st10⟩ := stC X9 hx hZ e9 Arf18 (j := (8 : Int32)) (inb_of Sf18 ⟨by decide, by decide⟩) (g := (mkF m 89 (own_L1 g cx) [(.int (101 : Int32)), (.int (8 : Int32)), (.ref b1), (.ref b1)])) rfl rfl (hb hby dA_89)
    have V10 : Arv Z h10 b1 kc1 .char (11 : Int32) [(.int (nar .char (114 : Int32))), (.int (nar .char (101 : Int32))), (.int (nar .char (103 : Int32))), (.int (nar .char (105 : Int32))), (.int (nar .char (115 : Int32))), (.int (nar .char (116 : Int32))), (.int (nar .char (101 : Int32))), (.int (nar .char (114 : Int32))), (.int (nar .char (101 : Int32))), (.int (0 : Int32)), (.int (0 : Int32))] (.int (0 : Int32)) := Arv.set Arf18 qf18 Sf18 Mf18 Hf18 Gf18 (fits_nar_char _) W10 8 rfl (Nat.le_of_ble_eq_true rfl)
    have K10 : Keep h0 h10 [] := (K9).wr W10 (Or.inr sz_b1)
    have Z10 : n0 ≤ h10.size := Nat.le_trans Z9 (Keep.of_wr W10).1
    have N10 := Fr.snoc X10 N9 gn_b1
    refine OG.of st10 ?_
    show OG _ _ _ _ _ _ _ (T10.setTop (mkF m 90 (own_L1 g cx) [(.ref b1)]))
    refine OG.of (A := T10.setTop (mkF m 95 (own_L1 g cx) [(.int (100 : Int32)), (.int (9 : Int32)), (.ref b1), (.ref b1)])) (fun oT oK => ?_) ?_
    · skip
      refine XS.dup X10.here hx rfl (hb hby dA_90) rfl rfl ?_
      show Steps p.tables e below (T10.setTop (mkF m 91 (own_L1 g cx) [(.ref b1), (.ref b1)])) _
      refine XS.bipush X10.here hx rfl (hb hby dA_91) ?_
      refine XS.bipush X10.here hx rfl (hb hby dA_93) ?_
      exact oK
    have cf20 := V10
    obtain ⟨clf20, Arf20, qf20, Sf20, Mf20, Hf20, Gf20⟩ := cf20
    obtain ⟨T11, h11, X11, e11, W11, st11⟩ := stC X10 hx hZ e10 Arf20 (j := (9 : Int32)) (inb_of Sf20 ⟨by decide, by decide⟩) (g := (mkF m 95 (own_L1 g cx) [(.int (100 : Int32)), (.int (9 : Int32)), (.ref b1), (.ref b1)])) rfl rfl (hb hby dA_95)
    have V11 : Arv Z h11 b1 kc1 .char (11 : Int32) [(.int (nar .char (114 : Int32))), (.int (nar .char (101 : Int32))), (.int (nar .char (103 : Int32))), (.int (nar .char (105 : Int32))), (.int (nar .char (115 : Int32))), (.int (nar .char (116 : Int32))), (.int (nar .char (101 : Int32))), (.int (nar .char (114 : Int32))), (.int (nar .char (101 : Int32))), (.int (nar .char (100 : Int32))), (.int (0 : Int32))] (.int (0 : Int32)) := Arv.set Arf20 qf20 Sf20 Mf20 Hf20 Gf20 (fits_nar_char _) W11 9 rfl (Nat.le_of_ble_eq_true rfl)
    have K11 : Keep h0 h11 [] := (K10).wr W11 (Or.inr sz_b1)
    have Z11 : n0 ≤ h11.size := Nat.le_trans Z10 (Keep.of_wr W11).1
    have N11 := Fr.snoc X11 N10 gn_b1
    refine OG.of st11 ?_
    show OG _ _ _ _ _ _ _ (T11.setTop (mkF m 96 (own_L1 g cx) [(.ref b1)]))
    refine OG.of (A := T11.setTop (mkF m 100 (own_L1 g cx) [(.int cx), (.int (10 : Int32)), (.ref b1), (.ref b1)])) (fun oT oK => ?_) ?_
    · skip
      refine XS.dup X11.here hx rfl (hb hby dA_96) rfl rfl ?_
      show Steps p.tables e below (T11.setTop (mkF m 97 (own_L1 g cx) [(.ref b1), (.ref b1)])) _
      refine XS.bipush X11.here hx rfl (hb hby dA_97) ?_
      refine XS.iloadN X11.here hx rfl (hb hby dA_99) rfl  ?_
      exact oK
    have cf22 := V11
    obtain ⟨clf22, Arf22, qf22, Sf22, Mf22, Hf22, Gf22⟩ := cf22
    obtain ⟨T12, h12, X12, e12, W12, st12⟩ := stC X11 hx hZ e11 Arf22 (j := (10 : Int32)) (inb_of Sf22 ⟨by decide, by decide⟩) (g := (mkF m 100 (own_L1 g cx) [(.int cx), (.int (10 : Int32)), (.ref b1), (.ref b1)])) rfl rfl (hb hby dA_100)
    have V12 : Arv Z h12 b1 kc1 .char (11 : Int32) [(.int (nar .char (114 : Int32))), (.int (nar .char (101 : Int32))), (.int (nar .char (103 : Int32))), (.int (nar .char (105 : Int32))), (.int (nar .char (115 : Int32))), (.int (nar .char (116 : Int32))), (.int (nar .char (101 : Int32))), (.int (nar .char (114 : Int32))), (.int (nar .char (101 : Int32))), (.int (nar .char (100 : Int32))), (.int (nar .char cx))] (.int (0 : Int32)) := Arv.set Arf22 qf22 Sf22 Mf22 Hf22 Gf22 (fits_nar_char _) W12 10 rfl (Nat.le_of_ble_eq_true rfl)
    have K12 : Keep h0 h12 [] := (K11).wr W12 (Or.inr sz_b1)
    have Z12 : n0 ≤ h12.size := Nat.le_trans Z11 (Keep.of_wr W12).1
    have N12 := Fr.snoc X12 N11 gn_b1
    refine OG.of st12 ?_
    show OG _ _ _ _ _ _ _ (T12.setTop (mkF m 101 (own_L1 g cx) [(.ref b1)]))
    refine OG.retA X12 hx Bd.returns rfl rfl (hb hby dA_101) hlk ?_ (by decide) (by decide)
    try rw [e12]
    exact ⟨b1, [(nar .char (114 : Int32)), (nar .char (101 : Int32)), (nar .char (103 : Int32)), (nar .char (105 : Int32)), (nar .char (115 : Int32)), (nar .char (116 : Int32)), (nar .char (101 : Int32)), (nar .char (114 : Int32)), (nar .char (101 : Int32)), (nar .char (100 : Int32)), (nar .char cx)], 11, rfl, N12, K12, gn_b1, sz_b1, ⟨kc1, V12⟩, rfl, (by decide), (by decide), (own_ac (by decide +kernel) (own_ac (by decide +kernel) (own_ac (by decide +kernel) (own_ac (by decide +kernel) (own_ac (by decide +kernel) (own_ac (by decide +kernel) (own_ac (by decide +kernel) (own_ac (by decide +kernel) (own_ac (by decide +kernel) (own_ac (by decide +kernel) (own_ac (own_ncb hcx) own_an))))))))))), (own_exl (by simp) (by simp))⟩
  · refine OG.of (fun oT oK => XS.ifNo X0.here hx rfl (hb hby dA_1) rfl (XT.i0_eq_f hc1_1) oK) ?_
    show OG _ _ _ _ _ _ _ (s₁.setTop (mkF m 4 (own_L1 g cx) []))
    refine OG.of (A := s₁.setTop (mkF m 6 (own_L1 g cx) [(.int (6 : Int32))])) (fun oT oK => ?_) ?_
    · skip
      refine XS.bipush X0.here hx rfl (hb hby dA_4) ?_
      exact oK
    obtain ⟨T13, h13, kc13, X13, e13, E13, A13, st13⟩ := newP X0 hx hZ (own_at hw 4 rfl) e0 (g := (mkF m 6 (own_L1 g cx) [(.int (6 : Int32))])) rfl (hb hby dA_6) rfl (by decide) (cap := 6) (by decide) (by decide) (by decide) (by decide)
    obtain ⟨b13, g13⟩ : ∃ z, z = (h0).size := ⟨_, rfl⟩
    have gn_b13 : n0 ≤ b13 := Nat.le_trans Z0 (Nat.le_of_eq g13.symm)
    have sz_b13 : h0.size ≤ b13 := Nat.le_trans (Keep.refl h0 []).1 (Nat.le_of_eq g13.symm)
    rw [← g13] at A13 st13
    have K13 : Keep h0 h13 [] := (Keep.refl h0 []).ext E13
    have Z13 : n0 ≤ h13.size := Nat.le_trans Z0 E13.1
    have V13 : Arv Z h13 b13 kc13 .char (6 : Int32) [(.int (0 : Int32)), (.int (0 : Int32)), (.int (0 : Int32)), (.int (0 : Int32)), (.int (0 : Int32)), (.int (0 : Int32))] (.int (0 : Int32)) := (Arv.new A13 (by decide)).pad (pad_rep [] (.int (0 : Int32)) 6)
    refine OG.of st13 ?_
    show OG _ _ _ _ _ _ _ (T13.setTop (mkF m 8 (own_L1 g cx) [(.ref b13)]))
    refine OG.of (A := T13.setTop (mkF m 12 (own_L1 g cx) [(.int (103 : Int32)), (.int (0 : Int32)), (.ref b13), (.ref b13)])) (fun oT oK => ?_) ?_
    · skip
      refine XS.dup X13.here hx rfl (hb hby dA_8) rfl rfl ?_
      show Steps p.tables e below (T13.setTop (mkF m 9 (own_L1 g cx) [(.ref b13), (.ref b13)])) _
      refine XS.iconst X13.here hx rfl (hb hby dA_9) ?_
      refine XS.bipush X13.here hx rfl (hb hby dA_10) ?_
      exact oK
    have cf24 := V13
    obtain ⟨clf24, Arf24, qf24, Sf24, Mf24, Hf24, Gf24⟩ := cf24
    obtain ⟨T14, h14, X14, e14, W14, st14⟩ := stC X13 hx hZ e13 Arf24 (j := (0 : Int32)) (inb_of Sf24 ⟨by decide, by decide⟩) (g := (mkF m 12 (own_L1 g cx) [(.int (103 : Int32)), (.int (0 : Int32)), (.ref b13), (.ref b13)])) rfl rfl (hb hby dA_12)
    have V14 : Arv Z h14 b13 kc13 .char (6 : Int32) [(.int (nar .char (103 : Int32))), (.int (0 : Int32)), (.int (0 : Int32)), (.int (0 : Int32)), (.int (0 : Int32)), (.int (0 : Int32))] (.int (0 : Int32)) := Arv.set Arf24 qf24 Sf24 Mf24 Hf24 Gf24 (fits_nar_char _) W14 0 rfl (Nat.le_of_ble_eq_true rfl)
    have K14 : Keep h0 h14 [] := (K13).wr W14 (Or.inr sz_b13)
    have Z14 : n0 ≤ h14.size := Nat.le_trans Z13 (Keep.of_wr W14).1
    have N14 := Fr.snoc X14 N0 gn_b13
    refine OG.of st14 ?_
    show OG _ _ _ _ _ _ _ (T14.setTop (mkF m 13 (own_L1 g cx) [(.ref b13)]))
    refine OG.of (A := T14.setTop (mkF m 17 (own_L1 g cx) [(.int (117 : Int32)), (.int (1 : Int32)), (.ref b13), (.ref b13)])) (fun oT oK => ?_) ?_
    · skip
      refine XS.dup X14.here hx rfl (hb hby dA_13) rfl rfl ?_
      show Steps p.tables e below (T14.setTop (mkF m 14 (own_L1 g cx) [(.ref b13), (.ref b13)])) _
      refine XS.iconst X14.here hx rfl (hb hby dA_14) ?_
      refine XS.bipush X14.here hx rfl (hb hby dA_15) ?_
      exact oK
    have cf26 := V14
    obtain ⟨clf26, Arf26, qf26, Sf26, Mf26, Hf26, Gf26⟩ := cf26
    obtain ⟨T15, h15, X15, e15, W15, st15⟩ := stC X14 hx hZ e14 Arf26 (j := (1 : Int32)) (inb_of Sf26 ⟨by decide, by decide⟩) (g := (mkF m 17 (own_L1 g cx) [(.int (117 : Int32)), (.int (1 : Int32)), (.ref b13), (.ref b13)])) rfl rfl (hb hby dA_17)
    have V15 : Arv Z h15 b13 kc13 .char (6 : Int32) [(.int (nar .char (103 : Int32))), (.int (nar .char (117 : Int32))), (.int (0 : Int32)), (.int (0 : Int32)), (.int (0 : Int32)), (.int (0 : Int32))] (.int (0 : Int32)) := Arv.set Arf26 qf26 Sf26 Mf26 Hf26 Gf26 (fits_nar_char _) W15 1 rfl (Nat.le_of_ble_eq_true rfl)
    have K15 : Keep h0 h15 [] := (K14).wr W15 (Or.inr sz_b13)
    have Z15 : n0 ≤ h15.size := Nat.le_trans Z14 (Keep.of_wr W15).1
    have N15 := Fr.snoc X15 N14 gn_b13
    refine OG.of st15 ?_
    show OG _ _ _ _ _ _ _ (T15.setTop (mkF m 18 (own_L1 g cx) [(.ref b13)]))
    refine OG.of (A := T15.setTop (mkF m 22 (own_L1 g cx) [(.int (101 : Int32)), (.int (2 : Int32)), (.ref b13), (.ref b13)])) (fun oT oK => ?_) ?_
    · skip
      refine XS.dup X15.here hx rfl (hb hby dA_18) rfl rfl ?_
      show Steps p.tables e below (T15.setTop (mkF m 19 (own_L1 g cx) [(.ref b13), (.ref b13)])) _
      refine XS.iconst X15.here hx rfl (hb hby dA_19) ?_
      refine XS.bipush X15.here hx rfl (hb hby dA_20) ?_
      exact oK
    have cf28 := V15
    obtain ⟨clf28, Arf28, qf28, Sf28, Mf28, Hf28, Gf28⟩ := cf28
    obtain ⟨T16, h16, X16, e16, W16, st16⟩ := stC X15 hx hZ e15 Arf28 (j := (2 : Int32)) (inb_of Sf28 ⟨by decide, by decide⟩) (g := (mkF m 22 (own_L1 g cx) [(.int (101 : Int32)), (.int (2 : Int32)), (.ref b13), (.ref b13)])) rfl rfl (hb hby dA_22)
    have V16 : Arv Z h16 b13 kc13 .char (6 : Int32) [(.int (nar .char (103 : Int32))), (.int (nar .char (117 : Int32))), (.int (nar .char (101 : Int32))), (.int (0 : Int32)), (.int (0 : Int32)), (.int (0 : Int32))] (.int (0 : Int32)) := Arv.set Arf28 qf28 Sf28 Mf28 Hf28 Gf28 (fits_nar_char _) W16 2 rfl (Nat.le_of_ble_eq_true rfl)
    have K16 : Keep h0 h16 [] := (K15).wr W16 (Or.inr sz_b13)
    have Z16 : n0 ≤ h16.size := Nat.le_trans Z15 (Keep.of_wr W16).1
    have N16 := Fr.snoc X16 N15 gn_b13
    refine OG.of st16 ?_
    show OG _ _ _ _ _ _ _ (T16.setTop (mkF m 23 (own_L1 g cx) [(.ref b13)]))
    refine OG.of (A := T16.setTop (mkF m 27 (own_L1 g cx) [(.int (115 : Int32)), (.int (3 : Int32)), (.ref b13), (.ref b13)])) (fun oT oK => ?_) ?_
    · skip
      refine XS.dup X16.here hx rfl (hb hby dA_23) rfl rfl ?_
      show Steps p.tables e below (T16.setTop (mkF m 24 (own_L1 g cx) [(.ref b13), (.ref b13)])) _
      refine XS.iconst X16.here hx rfl (hb hby dA_24) ?_
      refine XS.bipush X16.here hx rfl (hb hby dA_25) ?_
      exact oK
    have cf30 := V16
    obtain ⟨clf30, Arf30, qf30, Sf30, Mf30, Hf30, Gf30⟩ := cf30
    obtain ⟨T17, h17, X17, e17, W17, st17⟩ := stC X16 hx hZ e16 Arf30 (j := (3 : Int32)) (inb_of Sf30 ⟨by decide, by decide⟩) (g := (mkF m 27 (own_L1 g cx) [(.int (115 : Int32)), (.int (3 : Int32)), (.ref b13), (.ref b13)])) rfl rfl (hb hby dA_27)
    have V17 : Arv Z h17 b13 kc13 .char (6 : Int32) [(.int (nar .char (103 : Int32))), (.int (nar .char (117 : Int32))), (.int (nar .char (101 : Int32))), (.int (nar .char (115 : Int32))), (.int (0 : Int32)), (.int (0 : Int32))] (.int (0 : Int32)) := Arv.set Arf30 qf30 Sf30 Mf30 Hf30 Gf30 (fits_nar_char _) W17 3 rfl (Nat.le_of_ble_eq_true rfl)
    have K17 : Keep h0 h17 [] := (K16).wr W17 (Or.inr sz_b13)
    have Z17 : n0 ≤ h17.size := Nat.le_trans Z16 (Keep.of_wr W17).1
    have N17 := Fr.snoc X17 N16 gn_b13
    refine OG.of st17 ?_
    show OG _ _ _ _ _ _ _ (T17.setTop (mkF m 28 (own_L1 g cx) [(.ref b13)]))
    refine OG.of (A := T17.setTop (mkF m 32 (own_L1 g cx) [(.int (116 : Int32)), (.int (4 : Int32)), (.ref b13), (.ref b13)])) (fun oT oK => ?_) ?_
    · skip
      refine XS.dup X17.here hx rfl (hb hby dA_28) rfl rfl ?_
      show Steps p.tables e below (T17.setTop (mkF m 29 (own_L1 g cx) [(.ref b13), (.ref b13)])) _
      refine XS.iconst X17.here hx rfl (hb hby dA_29) ?_
      refine XS.bipush X17.here hx rfl (hb hby dA_30) ?_
      exact oK
    have cf32 := V17
    obtain ⟨clf32, Arf32, qf32, Sf32, Mf32, Hf32, Gf32⟩ := cf32
    obtain ⟨T18, h18, X18, e18, W18, st18⟩ := stC X17 hx hZ e17 Arf32 (j := (4 : Int32)) (inb_of Sf32 ⟨by decide, by decide⟩) (g := (mkF m 32 (own_L1 g cx) [(.int (116 : Int32)), (.int (4 : Int32)), (.ref b13), (.ref b13)])) rfl rfl (hb hby dA_32)
    have V18 : Arv Z h18 b13 kc13 .char (6 : Int32) [(.int (nar .char (103 : Int32))), (.int (nar .char (117 : Int32))), (.int (nar .char (101 : Int32))), (.int (nar .char (115 : Int32))), (.int (nar .char (116 : Int32))), (.int (0 : Int32))] (.int (0 : Int32)) := Arv.set Arf32 qf32 Sf32 Mf32 Hf32 Gf32 (fits_nar_char _) W18 4 rfl (Nat.le_of_ble_eq_true rfl)
    have K18 : Keep h0 h18 [] := (K17).wr W18 (Or.inr sz_b13)
    have Z18 : n0 ≤ h18.size := Nat.le_trans Z17 (Keep.of_wr W18).1
    have N18 := Fr.snoc X18 N17 gn_b13
    refine OG.of st18 ?_
    show OG _ _ _ _ _ _ _ (T18.setTop (mkF m 33 (own_L1 g cx) [(.ref b13)]))
    refine OG.of (A := T18.setTop (mkF m 36 (own_L1 g cx) [(.int cx), (.int (5 : Int32)), (.ref b13), (.ref b13)])) (fun oT oK => ?_) ?_
    · skip
      refine XS.dup X18.here hx rfl (hb hby dA_33) rfl rfl ?_
      show Steps p.tables e below (T18.setTop (mkF m 34 (own_L1 g cx) [(.ref b13), (.ref b13)])) _
      refine XS.iconst X18.here hx rfl (hb hby dA_34) ?_
      refine XS.iloadN X18.here hx rfl (hb hby dA_35) rfl  ?_
      exact oK
    have cf34 := V18
    obtain ⟨clf34, Arf34, qf34, Sf34, Mf34, Hf34, Gf34⟩ := cf34
    obtain ⟨T19, h19, X19, e19, W19, st19⟩ := stC X18 hx hZ e18 Arf34 (j := (5 : Int32)) (inb_of Sf34 ⟨by decide, by decide⟩) (g := (mkF m 36 (own_L1 g cx) [(.int cx), (.int (5 : Int32)), (.ref b13), (.ref b13)])) rfl rfl (hb hby dA_36)
    have V19 : Arv Z h19 b13 kc13 .char (6 : Int32) [(.int (nar .char (103 : Int32))), (.int (nar .char (117 : Int32))), (.int (nar .char (101 : Int32))), (.int (nar .char (115 : Int32))), (.int (nar .char (116 : Int32))), (.int (nar .char cx))] (.int (0 : Int32)) := Arv.set Arf34 qf34 Sf34 Mf34 Hf34 Gf34 (fits_nar_char _) W19 5 rfl (Nat.le_of_ble_eq_true rfl)
    have K19 : Keep h0 h19 [] := (K18).wr W19 (Or.inr sz_b13)
    have Z19 : n0 ≤ h19.size := Nat.le_trans Z18 (Keep.of_wr W19).1
    have N19 := Fr.snoc X19 N18 gn_b13
    refine OG.of st19 ?_
    show OG _ _ _ _ _ _ _ (T19.setTop (mkF m 37 (own_L1 g cx) [(.ref b13)]))
    refine OG.retA X19 hx Bd.returns rfl rfl (hb hby dA_37) hlk ?_ (by decide) (by decide)
    try rw [e19]
    exact ⟨b13, [(nar .char (103 : Int32)), (nar .char (117 : Int32)), (nar .char (101 : Int32)), (nar .char (115 : Int32)), (nar .char (116 : Int32)), (nar .char cx)], 6, rfl, N19, K19, gn_b13, sz_b13, ⟨kc13, V19⟩, rfl, (by decide), (by decide), (own_ac (by decide +kernel) (own_ac (by decide +kernel) (own_ac (by decide +kernel) (own_ac (by decide +kernel) (own_ac (by decide +kernel) (own_ac (own_ncb hcx) own_an)))))), (own_exl (by simp) (by simp))⟩
theorem dK_0 : decode jdk_43_method_3_code 0 = .ok (.iload_n 0, 1) := by decide +kernel
theorem dK_1 : decode jdk_43_method_3_code 1 = .ok (.sipush 255, 3) := by decide +kernel
theorem dK_4 : decode jdk_43_method_3_code 4 = .ok (.if_icmp .gt 7, 3) := by decide +kernel
theorem dK_7 : decode jdk_43_method_3_code 7 = .ok (.iconst 1, 1) := by decide +kernel
theorem dK_8 : decode jdk_43_method_3_code 8 = .ok (.goto 4, 3) := by decide +kernel
theorem dK_12 : decode jdk_43_method_3_code 12 = .ok (.ireturn, 1) := by decide +kernel
theorem pn_K : plainName "java/lang/StringLatin1" = true := by first | (simp [plainName, overriddenIn]; done) | decide +kernel
theorem ef_K (m : MethodId) (x0 : Int32) : entryFrame m #[(.int x0)] 1 = mkF m 0 #[.val (.int x0)] [] := by first | (simp [entryFrame, mkF, argsToLocals, Value.category]; done) | rfl
def QK (Z : State) (cx : Int32) (h0 : Heap) (n0 : Nat) (v : Option Value) (h : Heap) (L : List Loc) : Prop := v = some (.int (1 : Int32)) ∧ Fr n0 L ∧ h = h0
set_option maxRecDepth 65536 in
set_option maxHeartbeats 40000000 in
theorem rmK (l : Launch) (Z : State) (a0 : Array Value) (hw : ∀ d ∈ tables_1, d.before a0 Z = true) (ws : List Jvm.Cond) (cx : Int32) (h0 : Heap) (n0 : Nat) (Z0 : n0 ≤ h0.size) (hcx : own_ch cx) :
    MetFree l (⟨"java/lang/StringLatin1", "canEncode", "(C)Z"⟩ : MethodName) (head1 (Jvm.Cond.code (⟨"java/lang/StringLatin1", "canEncode", "(C)Z"⟩ : MethodName) jdk_43_method_3_code 1 (some .boolean) :: ws) ({ frames := 0, cells := 0, slots := 0, locals := 0 } : Room)) (fun aA oU => aA = #[(.int cx)] ∧ Z.Warmed39 oU.vm ∧ oU.heap = h0) (fun _ _ _ _ _ => True) (fun _ oU oO oU' => ∃ oV oL, oO = .returned oV ∧ QK Z cx h0 n0 oV oU'.heap oL ∧ FrameEnd oU oO oU' oL ({ frames := 0, cells := 0, slots := 0, locals := 0 } : Room).cells ({ frames := 0, cells := 0, slots := 0, locals := 0 } : Room).slots) := by
  refine MetFree.of_bodySF (plainFor_of_name pn_K) hisR ?_
  intro p e s m args below meth c s₁ Bd hml0 hP hK
  obtain ⟨rfl, hZ, hh⟩ := hP
  have hx := Bd.exec
  have hby := Bd.bytes
  have hlk := BodyLoose.notSynchronized Bd
  have hml : c.maxLocals = 1 := hml0
  have hown : s.vm.findClass "java/lang/StringLatin1" = some m.cls := findClass_of_methodNamed Bd.named
  have hnm := (name_of_methodNamed Bd.named Bd.method).1
  have X0 : Stand p l e ({ frames := 0, cells := 0, slots := 0, locals := 0 } : Room) s m #[(.int cx)] below meth c s₁ [] 0 0 := Stand.of_body Bd
  have e0 : s₁.heap = h0 := by rw [← hh, Bd.state]; rfl
  have N0 := Fr.nil n0
  show OG p e below s ({ frames := 0, cells := 0, slots := 0, locals := 0 } : Room).cells ({ frames := 0, cells := 0, slots := 0, locals := 0 } : Room).slots (QK Z cx h0 n0) _
  refine OG.of (fun oT oK => castTop (ef_K m cx) oK) ?_
  show OG p e below s _ _ _ (s₁.setTop (mkF m 0 (own_L0 cx) []))
  refine OG.of (A := s₁.setTop (mkF m 12 (own_L0 cx) [(.int (1 : Int32))])) (fun oT oK => ?_) ?_
  · skip
    refine XS.iloadN X0.here hx rfl (hb hby dK_0) rfl  ?_
    show Steps p.tables e below (s₁.setTop (mkF m 1 (own_L0 cx) [(.int cx)])) _
    refine XS.sipush X0.here hx rfl (hb hby dK_1) ?_
    show Steps p.tables e below (s₁.setTop (mkF m 4 (own_L0 cx) [(.int (255 : Int32)), (.int cx)])) _
    refine XS.icmpNo X0.here hx rfl (hb hby dK_4) rfl (XT.ii_gt_f hcx.2) ?_
    show Steps p.tables e below (s₁.setTop (mkF m 7 (own_L0 cx) [])) _
    refine XS.iconst X0.here hx rfl (hb hby dK_7) ?_
    refine XS.goto X0.here hx rfl (pc0 := 8) (pc' := 12) rfl (hb hby dK_8) (by decide) (by decide) ?_
    exact oK
  refine OG.retN X0 hx (t := .boolean) Bd.returns (by simp) (hb hby dK_12) hlk ?_ (by decide) (by decide)
  try rw [e0]
  exact ⟨rfl, N0, rfl⟩
theorem dT_0 : decode jdk_43_method_46_code 0 = .ok (.iconst 1, 1) := by decide +kernel
theorem dT_1 : decode jdk_43_method_46_code 1 = .ok (.newarray .byte, 2) := by decide +kernel
theorem dT_3 : decode jdk_43_method_46_code 3 = .ok (.dup, 1) := by decide +kernel
theorem dT_4 : decode jdk_43_method_46_code 4 = .ok (.iconst 0, 1) := by decide +kernel
theorem dT_5 : decode jdk_43_method_46_code 5 = .ok (.iload_n 0, 1) := by decide +kernel
theorem dT_6 : decode jdk_43_method_46_code 6 = .ok (.i2b, 1) := by decide +kernel
theorem dT_7 : decode jdk_43_method_46_code 7 = .ok (.bastore, 1) := by decide +kernel
theorem dT_8 : decode jdk_43_method_46_code 8 = .ok (.areturn, 1) := by decide +kernel
theorem pn_T : plainName "java/lang/StringLatin1" = true := by first | (simp [plainName, overriddenIn]; done) | decide +kernel
theorem ef_T (m : MethodId) (x0 : Int32) : entryFrame m #[(.int x0)] 1 = mkF m 0 #[.val (.int x0)] [] := by first | (simp [entryFrame, mkF, argsToLocals, Value.category]; done) | rfl
def QT (Z : State) (cx : Int32) (h0 : Heap) (n0 : Nat) (v : Option Value) (h : Heap) (L : List Loc) : Prop := ∃ (r : Addr) (kr : ClassId), v = some (.ref r) ∧ Fr n0 L ∧ Keep h0 h [] ∧ n0 ≤ r ∧ h0.size ≤ r ∧ Arv Z h r kr .byte (1 : Int32) [(.int cx.toInt8.toInt32)] (.int (0 : Int32))
set_option maxRecDepth 65536 in
set_option maxHeartbeats 40000000 in
theorem rmT (l : Launch) (Z : State) (a0 : Array Value) (hw : ∀ d ∈ tables_1, d.before a0 Z = true) (ws : List Jvm.Cond) (cx : Int32) (h0 : Heap) (n0 : Nat) (Z0 : n0 ≤ h0.size) :
    MetFree l (⟨"java/lang/StringLatin1", "toBytes", "(C)[B"⟩ : MethodName) (head1 (Jvm.Cond.code (⟨"java/lang/StringLatin1", "toBytes", "(C)[B"⟩ : MethodName) jdk_43_method_46_code 1 (some (.array .byte)) :: ws) ({ frames := 0, cells := 1, slots := 1, locals := 0 } : Room)) (fun aA oU => aA = #[(.int cx)] ∧ Z.Warmed39 oU.vm ∧ oU.heap = h0) (fun _ _ _ _ _ => True) (fun _ oU oO oU' => ∃ oV oL, oO = .returned oV ∧ QT Z cx h0 n0 oV oU'.heap oL ∧ FrameEnd oU oO oU' oL ({ frames := 0, cells := 1, slots := 1, locals := 0 } : Room).cells ({ frames := 0, cells := 1, slots := 1, locals := 0 } : Room).slots) := by
  refine MetFree.of_bodySF (plainFor_of_name pn_T) hisR ?_
  intro p e s m args below meth c s₁ Bd hml0 hP hK
  obtain ⟨rfl, hZ, hh⟩ := hP
  have hx := Bd.exec
  have hby := Bd.bytes
  have hlk := BodyLoose.notSynchronized Bd
  have hml : c.maxLocals = 1 := hml0
  have hown : s.vm.findClass "java/lang/StringLatin1" = some m.cls := findClass_of_methodNamed Bd.named
  have hnm := (name_of_methodNamed Bd.named Bd.method).1
  have X0 : Stand p l e ({ frames := 0, cells := 1, slots := 1, locals := 0 } : Room) s m #[(.int cx)] below meth c s₁ [] 0 0 := Stand.of_body Bd
  have e0 : s₁.heap = h0 := by rw [← hh, Bd.state]; rfl
  have N0 := Fr.nil n0
  show OG p e below s ({ frames := 0, cells := 1, slots := 1, locals := 0 } : Room).cells ({ frames := 0, cells := 1, slots := 1, locals := 0 } : Room).slots (QT Z cx h0 n0) _
  refine OG.of (fun oT oK => castTop (ef_T m cx) oK) ?_
  show OG p e below s _ _ _ (s₁.setTop (mkF m 0 (own_L0 cx) []))
  refine OG.of (A := s₁.setTop (mkF m 1 (own_L0 cx) [(.int (1 : Int32))])) (fun oT oK => ?_) ?_
  · skip
    refine XS.iconst X0.here hx rfl (hb hby dT_0) ?_
    exact oK
  obtain ⟨T1, h1, kc1, X1, e1, E1, A1, st1⟩ := newP X0 hx hZ (own_at hw 24 rfl) e0 (g := (mkF m 1 (own_L0 cx) [(.int (1 : Int32))])) rfl (hb hby dT_1) rfl (by decide) (cap := 1) (by decide) (by decide) (by decide) (by decide)
  obtain ⟨b1, g1⟩ : ∃ z, z = (h0).size := ⟨_, rfl⟩
  have gn_b1 : n0 ≤ b1 := Nat.le_trans Z0 (Nat.le_of_eq g1.symm)
  have sz_b1 : h0.size ≤ b1 := Nat.le_trans (Keep.refl h0 []).1 (Nat.le_of_eq g1.symm)
  rw [← g1] at A1 st1
  have K1 : Keep h0 h1 [] := (Keep.refl h0 []).ext E1
  have Z1 : n0 ≤ h1.size := Nat.le_trans Z0 E1.1
  have V1 : Arv Z h1 b1 kc1 .byte (1 : Int32) [(.int (0 : Int32))] (.int (0 : Int32)) := (Arv.new A1 (by decide)).pad (pad_rep [] (.int (0 : Int32)) 1)
  refine OG.of st1 ?_
  show OG _ _ _ _ _ _ _ (T1.setTop (mkF m 3 (own_L0 cx) [(.ref b1)]))
  refine OG.of (A := T1.setTop (mkF m 7 (own_L0 cx) [(.int cx.toInt8.toInt32), (.int (0 : Int32)), (.ref b1), (.ref b1)])) (fun oT oK => ?_) ?_
  · skip
    refine XS.dup X1.here hx rfl (hb hby dT_3) rfl rfl ?_
    show Steps p.tables e below (T1.setTop (mkF m 4 (own_L0 cx) [(.ref b1), (.ref b1)])) _
    refine XS.iconst X1.here hx rfl (hb hby dT_4) ?_
    refine XS.iloadN X1.here hx rfl (hb hby dT_5) rfl  ?_
    show Steps p.tables e below (T1.setTop (mkF m 6 (own_L0 cx) [(.int cx), (.int (0 : Int32)), (.ref b1), (.ref b1)])) _
    refine XT.i2b X1.here hx rfl (hb hby dT_6) rfl ?_
    exact oK
  have cf1 := V1
  obtain ⟨clf1, Arf1, qf1, Sf1, Mf1, Hf1, Gf1⟩ := cf1
  obtain ⟨T2, h2, X2, e2, W2, st2⟩ := stB X1 hx hZ e1 Arf1 (j := (0 : Int32)) (inb_of Sf1 ⟨by decide, by decide⟩) (g := (mkF m 7 (own_L0 cx) [(.int cx.toInt8.toInt32), (.int (0 : Int32)), (.ref b1), (.ref b1)])) rfl rfl (hb hby dT_7)
  have V2 : Arv Z h2 b1 kc1 .byte (1 : Int32) [(.int (cx.toInt8.toInt32).toInt8.toInt32)] (.int (0 : Int32)) := Arv.set Arf1 qf1 Sf1 Mf1 Hf1 Gf1 (fits_nar_byte _) W2 0 rfl (Nat.le_of_ble_eq_true rfl)
  have K2 : Keep h0 h2 [] := (K1).wr W2 (Or.inr sz_b1)
  have Z2 : n0 ≤ h2.size := Nat.le_trans Z1 (Keep.of_wr W2).1
  have N2 := Fr.snoc X2 N0 gn_b1
  refine OG.of st2 ?_
  show OG _ _ _ _ _ _ _ (T2.setTop (mkF m 8 (own_L0 cx) [(.ref b1)]))
  refine OG.retA X2 hx Bd.returns rfl rfl (hb hby dT_8) hlk ?_ (by decide) (by decide)
  try rw [e2]
  exact ⟨b1, kc1, rfl, N2, K2, gn_b1, sz_b1, (by have q := V2; rw [own_b2] at q; exact q)⟩
theorem dI_0 : decode jdk_42_method_151_code 0 = .ok (.aload_n 0, 1) := by decide +kernel
theorem dI_1 : decode jdk_42_method_151_code 1 = .ok (.invokespecial 1, 3) := by decide +kernel
theorem dI_4 : decode jdk_42_method_151_code 4 = .ok (.aload_n 0, 1) := by decide +kernel
theorem dI_5 : decode jdk_42_method_151_code 5 = .ok (.aload_n 1, 1) := by decide +kernel
theorem dI_6 : decode jdk_42_method_151_code 6 = .ok (.putfield 9, 3) := by decide +kernel
theorem dI_9 : decode jdk_42_method_151_code 9 = .ok (.aload_n 0, 1) := by decide +kernel
theorem dI_10 : decode jdk_42_method_151_code 10 = .ok (.iload_n 2, 1) := by decide +kernel
theorem dI_11 : decode jdk_42_method_151_code 11 = .ok (.putfield 15, 3) := by decide +kernel
theorem dI_14 : decode jdk_42_method_151_code 14 = .ok (.return_, 1) := by decide +kernel
theorem pn_I : plainName "java/lang/String" = true := by first | (simp [plainName, overriddenIn]; done) | decide +kernel
theorem ef_I (m : MethodId) (x0 : Addr) (x1 : Addr) (x2 : Int32) : entryFrame m #[(.ref x0), (.ref x1), (.int x2)] 3 = mkF m 0 #[.val (.ref x0), .val (.ref x1), .val (.int x2)] [] := by first | (simp [entryFrame, mkF, argsToLocals, Value.category]; done) | rfl
def QI (Z : State) (a : Addr) (t : Addr) (h0 : Heap) (n0 : Nat) (v : Option Value) (h : Heap) (L : List Loc) : Prop := v = none ∧ Fr n0 L ∧ Keep h0 h [a] ∧ Exa Z h a "java/lang/String" ∧ Fld Z h a "java/lang/String" "value" "[B" (.ref t) ∧ Fld Z h a "java/lang/String" "coder" "B" (.int (0 : Int32))
set_option maxRecDepth 65536 in
set_option maxHeartbeats 40000000 in
theorem rmI (l : Launch) (Z : State) (a0 : Array Value) (hw : ∀ d ∈ tables_1, d.before a0 Z = true) (ws : List Jvm.Cond) (a : Addr) (t : Addr) (h0 : Heap) (n0 : Nat) (Z0 : n0 ≤ h0.size) (E_a : Exa Z h0 a "java/lang/String") (F_a_value : Fld Z h0 a "java/lang/String" "value" "[B" .null) (F_a_coder : Fld Z h0 a "java/lang/String" "coder" "B" (.int (0 : Int32))) (g_a : n0 ≤ a) :
    MetFree l (⟨"java/lang/String", "<init>", "([BB)V"⟩ : MethodName) (head1 (Jvm.Cond.code (⟨"java/lang/String", "<init>", "([BB)V"⟩ : MethodName) jdk_42_method_151_code 3 none :: ws) ({ frames := 1, cells := 0, slots := 0, locals := 12 } : Room)) (fun aA oU => aA = #[(.ref a), (.ref t), (.int (0 : Int32))] ∧ Z.Warmed39 oU.vm ∧ oU.heap = h0) (fun _ _ _ _ _ => True) (fun _ oU oO oU' => ∃ oV oL, oO = .returned oV ∧ QI Z a t h0 n0 oV oU'.heap oL ∧ FrameEnd oU oO oU' oL ({ frames := 1, cells := 0, slots := 0, locals := 12 } : Room).cells ({ frames := 1, cells := 0, slots := 0, locals := 12 } : Room).slots) := by
  refine MetFree.of_bodySF (plainFor_of_name pn_I) hisR ?_
  intro p e s m args below meth c s₁ Bd hml0 hP hK
  obtain ⟨rfl, hZ, hh⟩ := hP
  have hx := Bd.exec
  have hby := Bd.bytes
  have hlk := BodyLoose.notSynchronized Bd
  have hml : c.maxLocals = 3 := hml0
  have hown : s.vm.findClass "java/lang/String" = some m.cls := findClass_of_methodNamed Bd.named
  have hnm := (name_of_methodNamed Bd.named Bd.method).1
  have X0 : Stand p l e ({ frames := 1, cells := 0, slots := 0, locals := 12 } : Room) s m #[(.ref a), (.ref t), (.int (0 : Int32))] below meth c s₁ [] 0 0 := Stand.of_body Bd
  have e0 : s₁.heap = h0 := by rw [← hh, Bd.state]; rfl
  have N0 := Fr.nil n0
  show OG p e below s ({ frames := 1, cells := 0, slots := 0, locals := 12 } : Room).cells ({ frames := 1, cells := 0, slots := 0, locals := 12 } : Room).slots (QI Z a t h0 n0) _
  refine OG.of (fun oT oK => castTop (ef_I m a t (0 : Int32)) oK) ?_
  show OG p e below s _ _ _ (s₁.setTop (mkF m 0 (own_L2 a t (0 : Int32)) []))
  refine OG.of (A := s₁.setTop (mkF m 1 (own_L2 a t (0 : Int32)) [(.ref a)])) (fun oT oK => ?_) ?_
  · skip
    refine XS.aloadN X0.here hx rfl (hb hby dI_0) rfl rfl  ?_
    exact oK
  obtain ⟨T1, X1, e1, st1⟩ := initO X0 hx hZ hown (own_at hw 16 rfl) (own_at hw 17 rfl) (own_at hw 18 rfl) e0 (g := (mkF m 1 (own_L2 a t (0 : Int32)) [(.ref a)])) rfl (by rw [hml]; rfl) rfl (hb hby dI_1) (by decide) (W := 0) (by show 2 * 0 + _ ≤ _; exact Nat.le_of_eq rfl) (by decide)
  refine OG.of st1 ?_
  show OG _ _ _ _ _ _ _ (T1.setTop (mkF m 4 (own_L2 a t (0 : Int32)) []))
  refine OG.of (A := T1.setTop (mkF m 6 (own_L2 a t (0 : Int32)) [(.ref t), (.ref a)])) (fun oT oK => ?_) ?_
  · skip
    refine XS.aloadN X1.here hx rfl (hb hby dI_4) rfl rfl  ?_
    show Steps p.tables e below (T1.setTop (mkF m 5 (own_L2 a t (0 : Int32)) [(.ref a)])) _
    refine XS.aloadN X1.here hx rfl (hb hby dI_5) rfl rfl  ?_
    exact oK
  obtain ⟨T2, h2, X2, e2, W2, st2⟩ := putF X1 hx hZ hown (host := "") (Or.inl (own_at hw 33 rfl)) Via.refl e1 F_a_value E_a (Or.inr ⟨(own_at hw 34 rfl), rfl, hnm⟩) (own_at hw 7 rfl) (ty := (.array .byte)) (by decide) rfl rfl (g := (mkF m 6 (own_L2 a t (0 : Int32)) [(.ref t), (.ref a)])) rfl rfl (hb hby dI_6)
  have f1 := (E_a).wr W2
  have f2 := (F_a_value).same W2
  have f3 := (F_a_coder).other W2 (Or.inr (slot_ne (Or.inr (own_at hw 32 rfl)) (Or.inr (own_at hw 34 rfl)) (by decide) (t := .byte) (t' := (.array .byte)) (by decide) (by decide)))
  have K2 : Keep h0 h2 [a] := (Keep.refl h0 [a]).wr W2 (Or.inl (by simp))
  have Z2 : n0 ≤ h2.size := Nat.le_trans Z0 (Keep.of_wr W2).1
  have N2 := Fr.snoc X2 N0 g_a
  refine OG.of st2 ?_
  show OG _ _ _ _ _ _ _ (T2.setTop (mkF m 9 (own_L2 a t (0 : Int32)) []))
  refine OG.of (A := T2.setTop (mkF m 11 (own_L2 a t (0 : Int32)) [(.int (0 : Int32)), (.ref a)])) (fun oT oK => ?_) ?_
  · skip
    refine XS.aloadN X2.here hx rfl (hb hby dI_9) rfl rfl  ?_
    show Steps p.tables e below (T2.setTop (mkF m 10 (own_L2 a t (0 : Int32)) [(.ref a)])) _
    refine XS.iloadN X2.here hx rfl (hb hby dI_10) rfl  ?_
    exact oK
  obtain ⟨T3, h3, X3, e3, W3, st3⟩ := putFN X2 hx hZ hown (own_at hw 31 rfl) Via.refl e2 f3 f1 (Or.inr ⟨(own_at hw 32 rfl), rfl, hnm⟩) (own_at hw 7 rfl) (ty := .byte) (v' := (.int (0 : Int32))) (by decide) rfl (by decide) (g := (mkF m 11 (own_L2 a t (0 : Int32)) [(.int (0 : Int32)), (.ref a)])) rfl rfl (hb hby dI_11)
  have f4 := (f1).wr W3
  have f5 := (f2).other W3 (Or.inr (slot_ne (Or.inr (own_at hw 34 rfl)) (Or.inr (own_at hw 32 rfl)) (by decide) (t := (.array .byte)) (t' := .byte) (by decide) (by decide)))
  have f6 := (f3).same W3
  have K3 : Keep h0 h3 [a] := (K2).wr W3 (Or.inl (by simp))
  have Z3 : n0 ≤ h3.size := Nat.le_trans Z2 (Keep.of_wr W3).1
  have N3 := Fr.snoc X3 N2 g_a
  refine OG.of st3 ?_
  show OG _ _ _ _ _ _ _ (T3.setTop (mkF m 14 (own_L2 a t (0 : Int32)) []))
  refine OG.retV X3 hx Bd.returns (hb hby dI_14) hlk ?_ (by decide) (by decide)
  try rw [e3]
  exact ⟨rfl, N3, K3, f4, f5, f6⟩
theorem dV_0 : decode jdk_42_method_139_code 0 = .ok (.getstatic 38, 3) := by decide +kernel
theorem dV_3 : decode jdk_42_method_139_code 3 = .ok (.ifCond .eq 23, 3) := by decide +kernel
theorem dV_6 : decode jdk_42_method_139_code 6 = .ok (.iload_n 0, 1) := by decide +kernel
theorem dV_7 : decode jdk_42_method_139_code 7 = .ok (.invokestatic 1015, 3) := by decide +kernel
theorem dV_10 : decode jdk_42_method_139_code 10 = .ok (.ifCond .eq 16, 3) := by decide +kernel
theorem dV_13 : decode jdk_42_method_139_code 13 = .ok (.new 10, 3) := by decide +kernel
theorem dV_16 : decode jdk_42_method_139_code 16 = .ok (.dup, 1) := by decide +kernel
theorem dV_17 : decode jdk_42_method_139_code 17 = .ok (.iload_n 0, 1) := by decide +kernel
theorem dV_18 : decode jdk_42_method_139_code 18 = .ok (.invokestatic 1018, 3) := by decide +kernel
theorem dV_21 : decode jdk_42_method_139_code 21 = .ok (.iconst 0, 1) := by decide +kernel
theorem dV_22 : decode jdk_42_method_139_code 22 = .ok (.invokespecial 209, 3) := by decide +kernel
theorem dV_25 : decode jdk_42_method_139_code 25 = .ok (.areturn, 1) := by decide +kernel
theorem pn_V : plainName "java/lang/String" = true := by first | (simp [plainName, overriddenIn]; done) | decide +kernel
theorem ef_V (m : MethodId) (x0 : Int32) : entryFrame m #[(.int x0)] 1 = mkF m 0 #[.val (.int x0)] [] := by first | (simp [entryFrame, mkF, argsToLocals, Value.category]; done) | rfl
def QV (Z : State) (cx : Int32) (wG : Addr) (wR : Addr) (uG : Addr) (uR : Addr) (wE : Addr) (zc : Int32) (h0 : Heap) (n0 : Nat) (v : Option Value) (h : Heap) (L : List Loc) : Prop := ∃ (r t : Addr) (kc : ClassId), v = some (.ref r) ∧ Fr n0 L ∧ Keep h0 h [] ∧ Exa Z h r "java/lang/String" ∧ Fld Z h r "java/lang/String" "value" "[B" (.ref t) ∧ Fld Z h r "java/lang/String" "coder" "B" (.int (0 : Int32)) ∧ Arv Z h t kc .byte (1 : Int32) [.int cx.toInt8.toInt32] (.int (0 : Int32))
set_option maxRecDepth 65536 in
set_option maxHeartbeats 40000000 in
theorem rmV (l : Launch) (Z : State) (a0 : Array Value) (hw : ∀ d ∈ tables_1, d.before a0 Z = true) (ws : List Jvm.Cond) (cx : Int32) (wG : Addr) (wR : Addr) (uG : Addr) (uR : Addr) (wE : Addr) (zc : Int32) (h0 : Heap) (n0 : Nat) (Z0 : n0 ≤ h0.size) (hO : Old Z n0 h0) (hst : OSt Z wG wR uG uR wE zc) (hcx : own_ch cx) :
    MetFree l (⟨"java/lang/String", "valueOf", "(C)Ljava/lang/String;"⟩ : MethodName) (head1 (Jvm.Cond.code (⟨"java/lang/String", "valueOf", "(C)Ljava/lang/String;"⟩ : MethodName) jdk_42_method_139_code 1 (some (.object "java/lang/String")) :: ws) ({ frames := 2, cells := 2, slots := 5, locals := 27 } : Room)) (fun aA oU => aA = #[(.int cx)] ∧ Z.Warmed39 oU.vm ∧ oU.heap = h0) (fun _ _ _ _ _ => True) (fun _ oU oO oU' => ∃ oV oL, oO = .returned oV ∧ QV Z cx wG wR uG uR wE zc h0 n0 oV oU'.heap oL ∧ FrameEnd oU oO oU' oL ({ frames := 2, cells := 2, slots := 5, locals := 27 } : Room).cells ({ frames := 2, cells := 2, slots := 5, locals := 27 } : Room).slots) := by
  refine MetFree.of_bodySF (plainFor_of_name pn_V) hisR ?_
  intro p e s m args below meth c s₁ Bd hml0 hP hK
  obtain ⟨rfl, hZ, hh⟩ := hP
  have hx := Bd.exec
  have hby := Bd.bytes
  have hlk := BodyLoose.notSynchronized Bd
  have hml : c.maxLocals = 1 := hml0
  have hown : s.vm.findClass "java/lang/String" = some m.cls := findClass_of_methodNamed Bd.named
  have hnm := (name_of_methodNamed Bd.named Bd.method).1
  have X0 : Stand p l e ({ frames := 2, cells := 2, slots := 5, locals := 27 } : Room) s m #[(.int cx)] below meth c s₁ [] 0 0 := Stand.of_body Bd
  have e0 : s₁.heap = h0 := by rw [← hh, Bd.state]; rfl
  have N0 := Fr.nil n0
  show OG p e below s ({ frames := 2, cells := 2, slots := 5, locals := 27 } : Room).cells ({ frames := 2, cells := 2, slots := 5, locals := 27 } : Room).slots (QV Z cx wG wR uG uR wE zc h0 n0) _
  refine OG.of (fun oT oK => castTop (ef_V m cx) oK) ?_
  show OG p e below s _ _ _ (s₁.setTop (mkF m 0 (own_L0 cx) []))
  obtain ⟨SG, SR, SE, SC, hzc, EG, ER, FGu, FRu, FGg, FRg, TG, TR, EE, FE⟩ := id hst
  obtain ⟨T1, X1, e1, st1⟩ := getS2 X0 hx hZ hown (host := "") (Or.inl (own_at hw 19 rfl)) Via.refl e0 (SC.ext (hO).2) (g := (mkF m 0 (own_L0 cx) [])) rfl (hb hby dV_0)
  refine OG.of st1 ?_
  show OG _ _ _ _ _ _ _ (T1.setTop (mkF m 3 (own_L0 cx) [(.int zc)]))
  refine OG.of (A := T1.setTop (mkF m 7 (own_L0 cx) [(.int cx)])) (fun oT oK => ?_) ?_
  · skip
    refine XS.ifNo X1.here hx rfl (hb hby dV_3) rfl (XT.i0_eq_f hzc) ?_
    show Steps p.tables e below (T1.setTop (mkF m 6 (own_L0 cx) [])) _
    refine XS.iloadN X1.here hx rfl (hb hby dV_6) rfl  ?_
    exact oK
  obtain ⟨_, _, ⟨T2, L2, k2, n2⟩, -, X2, ⟨Lc2, hQ2, l2, y2, z2⟩, st2⟩ := Jvm.LawKit.callS X1 hx (y := (⟨"java/lang/StringLatin1", "canEncode", "(C)Z"⟩ : MethodName)) hown (mvT hZ (own_at hw 113 rfl)) (mvT hZ (own_at hw 114 rfl)) (mvT hZ (own_at hw 56 rfl)) (mvT hZ (own_at hw 115 rfl)) (by decide) (backOf (W := 0) (rmK l Z a0 hw [] cx  h0 n0 (Z0) hcx) hZ (own_at hw 115 rfl) (own_at hw 56 rfl) (by decide) (by decide)) (g := (mkF m 7 (own_L0 cx) [(.int cx)])) rfl (by rw [hml]; rfl) (argsL := [(.int cx)]) (rest := []) (lenOf pd__C_Z rfl) rfl (by show 2 * 0 + _ ≤ _; exact Nat.le_of_eq rfl) (hb hby dV_7) (fun _ _ => ⟨rfl, e1, (by decide : 0 + 0 ≤ _), (by decide : 0 + 0 ≤ _)⟩)
  dsimp only [Pt.U, Pt.locs, Pt.cells, Pt.slots] at X2 l2 y2 z2 st2 hQ2
  subst l2 y2 z2
  obtain ⟨hv2, N2q, e2⟩ := hQ2
  obtain rfl := hv2.trans (show _ = some (.int (1 : Int32)) from rfl)
  have N2 := Fr.app N0 N2q
  refine OG.of st2 ?_
  show OG _ _ _ _ _ _ _ (T2.setTop (mkF m 10 (own_L0 cx) [(.int (1 : Int32))]))
  refine OG.of (A := T2.setTop (mkF m 13 (own_L0 cx) [])) (fun oT oK => ?_) ?_
  · skip
    refine XS.ifNo X2.here hx rfl (hb hby dV_10) rfl (XT.i0_eq_f (by decide)) ?_
    exact oK
  obtain ⟨T3, h3, X3, e3, E3, A3, D3, -, st3⟩ := newO X2 hx hZ hown (own_at hw 53 rfl) (own_at hw 7 rfl) (own_at hw 8 rfl) e2 (g := (mkF m 13 (own_L0 cx) [])) rfl (hb hby dV_13) (by decide) (by decide)
  obtain ⟨b3, g3⟩ : ∃ z, z = (h0).size := ⟨_, rfl⟩
  have gn_b3 : n0 ≤ b3 := Nat.le_trans Z0 (Nat.le_of_eq g3.symm)
  have sz_b3 : h0.size ≤ b3 := Nat.le_trans (Keep.refl h0 []).1 (Nat.le_of_eq g3.symm)
  rw [← g3] at A3 D3 st3
  have f1 := (hO).ext E3
  have K3 : Keep h0 h3 [] := (Keep.refl h0 []).ext E3
  have Z3 : n0 ≤ h3.size := Nat.le_trans Z0 E3.1
  have F3_coder : Fld Z h3 b3 "java/lang/String" "coder" "B" (.int (0 : Int32)) := D3 (Or.inr (own_at hw 32 rfl)) (ty := .byte) (by decide)
  have F3_value : Fld Z h3 b3 "java/lang/String" "value" "[B" .null := D3 (Or.inr (own_at hw 34 rfl)) (ty := (.array .byte)) (by decide)
  refine OG.of st3 ?_
  show OG _ _ _ _ _ _ _ (T3.setTop (mkF m 16 (own_L0 cx) [(.ref b3)]))
  refine OG.of (A := T3.setTop (mkF m 18 (own_L0 cx) [(.int cx), (.ref b3), (.ref b3)])) (fun oT oK => ?_) ?_
  · skip
    refine XS.dup X3.here hx rfl (hb hby dV_16) rfl rfl ?_
    show Steps p.tables e below (T3.setTop (mkF m 17 (own_L0 cx) [(.ref b3), (.ref b3)])) _
    refine XS.iloadN X3.here hx rfl (hb hby dV_17) rfl  ?_
    exact oK
  obtain ⟨_, _, ⟨T4, L4, k4, n4⟩, -, X4, ⟨Lc4, hQ4, l4, y4, z4⟩, st4⟩ := Jvm.LawKit.callS X3 hx (y := (⟨"java/lang/StringLatin1", "toBytes", "(C)[B"⟩ : MethodName)) hown (mvT hZ (own_at hw 116 rfl)) (mvT hZ (own_at hw 117 rfl)) (mvT hZ (own_at hw 56 rfl)) (mvT hZ (own_at hw 118 rfl)) (by decide) (backOf (W := 2) (rmT l Z a0 hw [] cx h3 n0 (Z3)) hZ (own_at hw 118 rfl) (own_at hw 56 rfl) (by decide) (by decide)) (g := (mkF m 18 (own_L0 cx) [(.int cx), (.ref b3), (.ref b3)])) rfl (by rw [hml]; rfl) (argsL := [(.int cx)]) (rest := [(.ref b3), (.ref b3)]) (lenOf pd__C__B rfl) rfl (by show 2 * 0 + _ ≤ _; exact Nat.le_of_eq rfl) (hb hby dV_18) (fun _ _ => ⟨rfl, e3, (by decide : 1 + 1 ≤ _), (by decide : 4 + 1 ≤ _)⟩)
  dsimp only [Pt.U, Pt.locs, Pt.cells, Pt.slots] at X4 l4 y4 z4 st4 hQ4
  subst l4 y4 z4
  obtain ⟨r4, kr4, rfl, N4q, Kc4, gn_r4, gs4, fA4⟩ := hQ4
  have N4 := Fr.app N2 N4q
  have sz_r4 : h0.size ≤ r4 := Nat.le_trans (K3).1 gs4
  have ne_b3_r4 : b3 ≠ r4 := Nat.ne_of_lt (Nat.lt_of_lt_of_le (A3).lt gs4)
  have f2 := (A3).keep Kc4
  have f3 := (F3_coder).keep Kc4 nin0
  have f4 := (F3_value).keep Kc4 nin0
  have f5 := (f1).keep Kc4 all0
  have K4 : Keep h0 T4.heap [] := (K3).trans Kc4 all0
  have Z4 : n0 ≤ T4.heap.size := Nat.le_trans Z3 Kc4.1
  refine OG.of st4 ?_
  show OG _ _ _ _ _ _ _ (T4.setTop (mkF m 21 (own_L0 cx) [(.ref r4), (.ref b3), (.ref b3)]))
  refine OG.of (A := T4.setTop (mkF m 22 (own_L0 cx) [(.int (0 : Int32)), (.ref r4), (.ref b3), (.ref b3)])) (fun oT oK => ?_) ?_
  · skip
    refine XS.iconst X4.here hx rfl (hb hby dV_21) ?_
    exact oK
  obtain ⟨_, _, ⟨T5, L5, k5, n5⟩, -, X5, ⟨Lc5, hQ5, l5, y5, z5⟩, st5⟩ := X4.specialBack hx (y := (⟨"java/lang/String", "<init>", "([BB)V"⟩ : MethodName)) rfl hown (mvT hZ (own_at hw 119 rfl)) (mvT hZ (own_at hw 120 rfl)) (mvT hZ (own_at hw 121 rfl)) (by decide) (backOf (W := 1) (rmI l Z a0 hw [] b3 r4 T4.heap n0 (Z4) f2 f4 f3 gn_b3) hZ (own_at hw 121 rfl) (own_at hw 8 rfl) (by decide) (by decide)) (g := (mkF m 22 (own_L0 cx) [(.int (0 : Int32)), (.ref r4), (.ref b3), (.ref b3)])) rfl (by rw [hml]; rfl) (Steps.refl _) (a := b3) (argsL := [(.ref r4), (.int (0 : Int32))]) (rest := [(.ref b3)]) (lenOf pd___BB_V rfl) rfl (by show 2 * 0 + _ ≤ _; exact Nat.le_of_eq rfl) (hb hby dV_22) (fun _ _ => ⟨rfl, rfl, (by decide : 2 + 0 ≤ _), (by decide : 5 + 0 ≤ _)⟩)
  dsimp only [Pt.U, Pt.locs, Pt.cells, Pt.slots] at X5 l5 y5 z5 st5 hQ5
  subst l5 y5 z5
  obtain ⟨rfl, N5q, Kc5, f6, f7, f8⟩ := hQ5
  have N5 := Fr.app N4 N5q
  have f9 := (f2).keep Kc5
  have f12 := (fA4).keep Kc5 (ninS (Ne.symm ne_b3_r4) nin0)
  have f13 := (f5).keep Kc5 (allS gn_b3 all0)
  have K5 : Keep h0 T5.heap [] := (K4).trans Kc5 (allS (Or.inr sz_b3) all0)
  have Z5 : n0 ≤ T5.heap.size := Nat.le_trans Z4 Kc5.1
  refine OG.trans st5 ?_
  show OG _ _ _ _ _ _ _ (T5.setTop (mkF m 25 (own_L0 cx) [(.ref b3)]))
  refine OG.retA X5 hx Bd.returns rfl rfl (hb hby dV_25) hlk ?_ (by decide) (by decide)
  exact ⟨b3, r4, kr4, rfl, N5, K5, f6, f7, f8, f12⟩
theorem dN_0 : decode jdk_31_method_10_code 0 = .ok (.aload_n 0, 1) := by decide +kernel
theorem dN_1 : decode jdk_31_method_10_code 1 = .ok (.ifnonnull 11, 3) := by decide +kernel
theorem dN_12 : decode jdk_31_method_10_code 12 = .ok (.aload_n 0, 1) := by decide +kernel
theorem dN_13 : decode jdk_31_method_10_code 13 = .ok (.areturn, 1) := by decide +kernel
theorem pn_N : plainName "java/util/Objects" = true := by first | (simp [plainName, overriddenIn]; done) | decide +kernel
theorem ef_N (m : MethodId) (x0 : Addr) : entryFrame m #[(.ref x0)] 1 = mkF m 0 #[.val (.ref x0)] [] := by first | (simp [entryFrame, mkF, argsToLocals, Value.category]; done) | rfl
def QN (Z : State) (w : Addr) (h0 : Heap) (n0 : Nat) (v : Option Value) (h : Heap) (L : List Loc) : Prop := v = some (.ref w) ∧ Fr n0 L ∧ h = h0
set_option maxRecDepth 65536 in
set_option maxHeartbeats 40000000 in
theorem rmN (l : Launch) (Z : State) (a0 : Array Value) (hw : ∀ d ∈ tables_1, d.before a0 Z = true) (ws : List Jvm.Cond) (w : Addr) (h0 : Heap) (n0 : Nat) (Z0 : n0 ≤ h0.size) :
    MetFree l (⟨"java/util/Objects", "requireNonNull", "(Ljava/lang/Object;)Ljava/lang/Object;"⟩ : MethodName) (head1 (Jvm.Cond.code (⟨"java/util/Objects", "requireNonNull", "(Ljava/lang/Object;)Ljava/lang/Object;"⟩ : MethodName) jdk_31_method_10_code 1 (some (.object "java/lang/Object")) :: ws) ({ frames := 0, cells := 0, slots := 0, locals := 0 } : Room)) (fun aA oU => aA = #[(.ref w)] ∧ Z.Warmed39 oU.vm ∧ oU.heap = h0) (fun _ _ _ _ _ => True) (fun _ oU oO oU' => ∃ oV oL, oO = .returned oV ∧ QN Z w h0 n0 oV oU'.heap oL ∧ FrameEnd oU oO oU' oL ({ frames := 0, cells := 0, slots := 0, locals := 0 } : Room).cells ({ frames := 0, cells := 0, slots := 0, locals := 0 } : Room).slots) := by
  refine MetFree.of_bodySF (plainFor_of_name pn_N) hisR ?_
  intro p e s m args below meth c s₁ Bd hml0 hP hK
  obtain ⟨rfl, hZ, hh⟩ := hP
  have hx := Bd.exec
  have hby := Bd.bytes
  have hlk := BodyLoose.notSynchronized Bd
  have hml : c.maxLocals = 1 := hml0
  have hown : s.vm.findClass "java/util/Objects" = some m.cls := findClass_of_methodNamed Bd.named
  have hnm := (name_of_methodNamed Bd.named Bd.method).1
  have X0 : Stand p l e ({ frames := 0, cells := 0, slots := 0, locals := 0 } : Room) s m #[(.ref w)] below meth c s₁ [] 0 0 := Stand.of_body Bd
  have e0 : s₁.heap = h0 := by rw [← hh, Bd.state]; rfl
  have N0 := Fr.nil n0
  show OG p e below s ({ frames := 0, cells := 0, slots := 0, locals := 0 } : Room).cells ({ frames := 0, cells := 0, slots := 0, locals := 0 } : Room).slots (QN Z w h0 n0) _
  refine OG.of (fun oT oK => castTop (ef_N m w) oK) ?_
  show OG p e below s _ _ _ (s₁.setTop (mkF m 0 (own_L3 w) []))
  refine OG.of (A := s₁.setTop (mkF m 13 (own_L3 w) [(.ref w)])) (fun oT oK => ?_) ?_
  · skip
    refine XS.aloadN X0.here hx rfl (hb hby dN_0) rfl rfl  ?_
    show Steps p.tables e below (s₁.setTop (mkF m 1 (own_L3 w) [(.ref w)])) _
    refine XT.ifnonnullYes X0.here hx rfl (pc0 := 1) (pc' := 12) rfl (hb hby dN_1) rfl (by decide) (by decide) ?_
    refine XS.aloadN X0.here hx rfl (hb hby dN_12) rfl rfl  ?_
    exact oK
  refine OG.retA X0 hx Bd.returns rfl rfl (hb hby dN_13) hlk ?_ (by decide) (by decide)
  try rw [e0]
  exact ⟨rfl, N0, rfl⟩
theorem dE_0 : decode jdk_32_method_1_code 0 = .ok (.getstatic 1, 3) := by decide +kernel
theorem dE_3 : decode jdk_32_method_1_code 3 = .ok (.astore_n 0, 1) := by decide +kernel
theorem dE_4 : decode jdk_32_method_1_code 4 = .ok (.aload_n 0, 1) := by decide +kernel
theorem dE_5 : decode jdk_32_method_1_code 5 = .ok (.areturn, 1) := by decide +kernel
theorem pn_E : plainName "java/util/Optional" = true := by first | (simp [plainName, overriddenIn]; done) | decide +kernel
theorem ef_E (m : MethodId)  : entryFrame m #[] 1 = mkF m 0 #[.unset] [] := by first | (simp [entryFrame, mkF, argsToLocals, Value.category]; done) | rfl
def QE (Z : State) (wG : Addr) (wR : Addr) (uG : Addr) (uR : Addr) (wE : Addr) (zc : Int32) (h0 : Heap) (n0 : Nat) (v : Option Value) (h : Heap) (L : List Loc) : Prop := v = some (.ref wE) ∧ Fr n0 L ∧ h = h0
set_option maxRecDepth 65536 in
set_option maxHeartbeats 40000000 in
theorem rmE (l : Launch) (Z : State) (a0 : Array Value) (hw : ∀ d ∈ tables_1, d.before a0 Z = true) (ws : List Jvm.Cond) (wG : Addr) (wR : Addr) (uG : Addr) (uR : Addr) (wE : Addr) (zc : Int32) (h0 : Heap) (n0 : Nat) (Z0 : n0 ≤ h0.size) (hO : Old Z n0 h0) (hst : OSt Z wG wR uG uR wE zc) :
    MetFree l (⟨"java/util/Optional", "empty", "()Ljava/util/Optional;"⟩ : MethodName) (head1 (Jvm.Cond.code (⟨"java/util/Optional", "empty", "()Ljava/util/Optional;"⟩ : MethodName) jdk_32_method_1_code 1 (some (.object "java/util/Optional")) :: ws) ({ frames := 0, cells := 0, slots := 0, locals := 0 } : Room)) (fun aA oU => aA = #[] ∧ Z.Warmed39 oU.vm ∧ oU.heap = h0) (fun _ _ _ _ _ => True) (fun _ oU oO oU' => ∃ oV oL, oO = .returned oV ∧ QE Z wG wR uG uR wE zc h0 n0 oV oU'.heap oL ∧ FrameEnd oU oO oU' oL ({ frames := 0, cells := 0, slots := 0, locals := 0 } : Room).cells ({ frames := 0, cells := 0, slots := 0, locals := 0 } : Room).slots) := by
  refine MetFree.of_bodySF (plainFor_of_name pn_E) hisR ?_
  intro p e s m args below meth c s₁ Bd hml0 hP hK
  obtain ⟨rfl, hZ, hh⟩ := hP
  have hx := Bd.exec
  have hby := Bd.bytes
  have hlk := BodyLoose.notSynchronized Bd
  have hml : c.maxLocals = 1 := hml0
  have hown : s.vm.findClass "java/util/Optional" = some m.cls := findClass_of_methodNamed Bd.named
  have hnm := (name_of_methodNamed Bd.named Bd.method).1
  have X0 : Stand p l e ({ frames := 0, cells := 0, slots := 0, locals := 0 } : Room) s m #[] below meth c s₁ [] 0 0 := Stand.of_body Bd
  have e0 : s₁.heap = h0 := by rw [← hh, Bd.state]; rfl
  have N0 := Fr.nil n0
  show OG p e below s ({ frames := 0, cells := 0, slots := 0, locals := 0 } : Room).cells ({ frames := 0, cells := 0, slots := 0, locals := 0 } : Room).slots (QE Z wG wR uG uR wE zc h0 n0) _
  refine OG.of (fun oT oK => castTop (ef_E m ) oK) ?_
  show OG p e below s _ _ _ (s₁.setTop (mkF m 0 (own_L4 ) []))
  obtain ⟨SG, SR, SE, SC, hzc, EG, ER, FGu, FRu, FGg, FRg, TG, TR, EE, FE⟩ := id hst
  obtain ⟨T1, X1, e1, st1⟩ := getS2 X0 hx hZ hown (host := "") (Or.inl (own_at hw 43 rfl)) Via.refl e0 (SE.ext (hO).2) (g := (mkF m 0 (own_L4 ) [])) rfl (hb hby dE_0)
  refine OG.of st1 ?_
  show OG _ _ _ _ _ _ _ (T1.setTop (mkF m 3 (own_L4 ) [(.ref wE)]))
  refine OG.of (A := T1.setTop (mkF m 5 (own_L3 wE) [(.ref wE)])) (fun oT oK => ?_) ?_
  · skip
    refine XS.astoreN X1.here hx rfl (hb hby dE_3) rfl rfl (l' := (own_L3 wE)) rfl ?_
    show Steps p.tables e below (T1.setTop (mkF m 4 (own_L3 wE) [])) _
    refine XS.aloadN X1.here hx rfl (hb hby dE_4) rfl rfl  ?_
    exact oK
  refine OG.retA X1 hx Bd.returns rfl rfl (hb hby dE_5) hlk ?_ (by decide) (by decide)
  try rw [e1]
  exact ⟨rfl, N0, rfl⟩
theorem dO_0 : decode jdk_32_method_2_code 0 = .ok (.aload_n 0, 1) := by decide +kernel
theorem dO_1 : decode jdk_32_method_2_code 1 = .ok (.invokespecial 7, 3) := by decide +kernel
theorem dO_4 : decode jdk_32_method_2_code 4 = .ok (.aload_n 0, 1) := by decide +kernel
theorem dO_5 : decode jdk_32_method_2_code 5 = .ok (.aload_n 1, 1) := by decide +kernel
theorem dO_6 : decode jdk_32_method_2_code 6 = .ok (.putfield 13, 3) := by decide +kernel
theorem dO_9 : decode jdk_32_method_2_code 9 = .ok (.return_, 1) := by decide +kernel
theorem pn_O : plainName "java/util/Optional" = true := by first | (simp [plainName, overriddenIn]; done) | decide +kernel
theorem ef_O (m : MethodId) (x0 : Addr) (x1 : Addr) : entryFrame m #[(.ref x0), (.ref x1)] 2 = mkF m 0 #[.val (.ref x0), .val (.ref x1)] [] := by first | (simp [entryFrame, mkF, argsToLocals, Value.category]; done) | rfl
def QO (Z : State) (a : Addr) (w : Addr) (h0 : Heap) (n0 : Nat) (v : Option Value) (h : Heap) (L : List Loc) : Prop := v = none ∧ Fr n0 L ∧ Keep h0 h [a] ∧ Exa Z h a "java/util/Optional" ∧ Fld Z h a "java/util/Optional" "value" "Ljava/lang/Object;" (.ref w)
set_option maxRecDepth 65536 in
set_option maxHeartbeats 40000000 in
theorem rmO (l : Launch) (Z : State) (a0 : Array Value) (hw : ∀ d ∈ tables_1, d.before a0 Z = true) (ws : List Jvm.Cond) (a : Addr) (w : Addr) (h0 : Heap) (n0 : Nat) (Z0 : n0 ≤ h0.size) (E_a : Exa Z h0 a "java/util/Optional") (F_a_value : Fld Z h0 a "java/util/Optional" "value" "Ljava/lang/Object;" .null) (g_a : n0 ≤ a) :
    MetFree l (⟨"java/util/Optional", "<init>", "(Ljava/lang/Object;)V"⟩ : MethodName) (head1 (Jvm.Cond.code (⟨"java/util/Optional", "<init>", "(Ljava/lang/Object;)V"⟩ : MethodName) jdk_32_method_2_code 2 none :: ws) ({ frames := 1, cells := 0, slots := 0, locals := 12 } : Room)) (fun aA oU => aA = #[(.ref a), (.ref w)] ∧ Z.Warmed39 oU.vm ∧ oU.heap = h0) (fun _ _ _ _ _ => True) (fun _ oU oO oU' => ∃ oV oL, oO = .returned oV ∧ QO Z a w h0 n0 oV oU'.heap oL ∧ FrameEnd oU oO oU' oL ({ frames := 1, cells := 0, slots := 0, locals := 12 } : Room).cells ({ frames := 1, cells := 0, slots := 0, locals := 12 } : Room).slots) := by
  refine MetFree.of_bodySF (plainFor_of_name pn_O) hisR ?_
  intro p e s m args below meth c s₁ Bd hml0 hP hK
  obtain ⟨rfl, hZ, hh⟩ := hP
  have hx := Bd.exec
  have hby := Bd.bytes
  have hlk := BodyLoose.notSynchronized Bd
  have hml : c.maxLocals = 2 := hml0
  have hown : s.vm.findClass "java/util/Optional" = some m.cls := findClass_of_methodNamed Bd.named
  have hnm := (name_of_methodNamed Bd.named Bd.method).1
  have X0 : Stand p l e ({ frames := 1, cells := 0, slots := 0, locals := 12 } : Room) s m #[(.ref a), (.ref w)] below meth c s₁ [] 0 0 := Stand.of_body Bd
  have e0 : s₁.heap = h0 := by rw [← hh, Bd.state]; rfl
  have N0 := Fr.nil n0
  show OG p e below s ({ frames := 1, cells := 0, slots := 0, locals := 12 } : Room).cells ({ frames := 1, cells := 0, slots := 0, locals := 12 } : Room).slots (QO Z a w h0 n0) _
  refine OG.of (fun oT oK => castTop (ef_O m a w) oK) ?_
  show OG p e below s _ _ _ (s₁.setTop (mkF m 0 (own_L5 a w) []))
  refine OG.of (A := s₁.setTop (mkF m 1 (own_L5 a w) [(.ref a)])) (fun oT oK => ?_) ?_
  · skip
    refine XS.aloadN X0.here hx rfl (hb hby dO_0) rfl rfl  ?_
    exact oK
  obtain ⟨T1, X1, e1, st1⟩ := initO X0 hx hZ hown (own_at hw 71 rfl) (own_at hw 17 rfl) (own_at hw 18 rfl) e0 (g := (mkF m 1 (own_L5 a w) [(.ref a)])) rfl (by rw [hml]; rfl) rfl (hb hby dO_1) (by decide) (W := 0) (by show 2 * 0 + _ ≤ _; exact Nat.le_of_eq rfl) (by decide)
  refine OG.of st1 ?_
  show OG _ _ _ _ _ _ _ (T1.setTop (mkF m 4 (own_L5 a w) []))
  refine OG.of (A := T1.setTop (mkF m 6 (own_L5 a w) [(.ref w), (.ref a)])) (fun oT oK => ?_) ?_
  · skip
    refine XS.aloadN X1.here hx rfl (hb hby dO_4) rfl rfl  ?_
    show Steps p.tables e below (T1.setTop (mkF m 5 (own_L5 a w) [(.ref a)])) _
    refine XS.aloadN X1.here hx rfl (hb hby dO_5) rfl rfl  ?_
    exact oK
  obtain ⟨T2, h2, X2, e2, W2, st2⟩ := putF X1 hx hZ hown (host := "") (Or.inl (own_at hw 72 rfl)) Via.refl e1 F_a_value E_a (Or.inr ⟨(own_at hw 73 rfl), rfl, hnm⟩) (own_at hw 62 rfl) (ty := (.object "java/lang/Object")) (by decide) rfl rfl (g := (mkF m 6 (own_L5 a w) [(.ref w), (.ref a)])) rfl rfl (hb hby dO_6)
  have f1 := (E_a).wr W2
  have f2 := (F_a_value).same W2
  have K2 : Keep h0 h2 [a] := (Keep.refl h0 [a]).wr W2 (Or.inl (by simp))
  have Z2 : n0 ≤ h2.size := Nat.le_trans Z0 (Keep.of_wr W2).1
  have N2 := Fr.snoc X2 N0 g_a
  refine OG.of st2 ?_
  show OG _ _ _ _ _ _ _ (T2.setTop (mkF m 9 (own_L5 a w) []))
  refine OG.retV X2 hx Bd.returns (hb hby dO_9) hlk ?_ (by decide) (by decide)
  try rw [e2]
  exact ⟨rfl, N2, K2, f1, f2⟩
theorem dY_0 : decode jdk_32_method_3_code 0 = .ok (.new 2, 3) := by decide +kernel
theorem dY_3 : decode jdk_32_method_3_code 3 = .ok (.dup, 1) := by decide +kernel
theorem dY_4 : decode jdk_32_method_3_code 4 = .ok (.aload_n 0, 1) := by decide +kernel
theorem dY_5 : decode jdk_32_method_3_code 5 = .ok (.invokestatic 17, 3) := by decide +kernel
theorem dY_8 : decode jdk_32_method_3_code 8 = .ok (.invokespecial 23, 3) := by decide +kernel
theorem dY_11 : decode jdk_32_method_3_code 11 = .ok (.areturn, 1) := by decide +kernel
theorem pn_Y : plainName "java/util/Optional" = true := by first | (simp [plainName, overriddenIn]; done) | decide +kernel
theorem ef_Y (m : MethodId) (x0 : Addr) : entryFrame m #[(.ref x0)] 1 = mkF m 0 #[.val (.ref x0)] [] := by first | (simp [entryFrame, mkF, argsToLocals, Value.category]; done) | rfl
def QY (Z : State) (w : Addr) (h0 : Heap) (n0 : Nat) (v : Option Value) (h : Heap) (L : List Loc) : Prop := ∃ r : Addr, v = some (.ref r) ∧ Fr n0 L ∧ Keep h0 h [] ∧ Exa Z h r "java/util/Optional" ∧ Fld Z h r "java/util/Optional" "value" "Ljava/lang/Object;" (.ref w)
set_option maxRecDepth 65536 in
set_option maxHeartbeats 40000000 in
theorem rmY (l : Launch) (Z : State) (a0 : Array Value) (hw : ∀ d ∈ tables_1, d.before a0 Z = true) (ws : List Jvm.Cond) (w : Addr) (h0 : Heap) (n0 : Nat) (Z0 : n0 ≤ h0.size) :
    MetFree l (⟨"java/util/Optional", "of", "(Ljava/lang/Object;)Ljava/util/Optional;"⟩ : MethodName) (head1 (Jvm.Cond.code (⟨"java/util/Optional", "of", "(Ljava/lang/Object;)Ljava/util/Optional;"⟩ : MethodName) jdk_32_method_3_code 1 (some (.object "java/util/Optional")) :: ws) ({ frames := 2, cells := 1, slots := 1, locals := 26 } : Room)) (fun aA oU => aA = #[(.ref w)] ∧ Z.Warmed39 oU.vm ∧ oU.heap = h0) (fun _ _ _ _ _ => True) (fun _ oU oO oU' => ∃ oV oL, oO = .returned oV ∧ QY Z w h0 n0 oV oU'.heap oL ∧ FrameEnd oU oO oU' oL ({ frames := 2, cells := 1, slots := 1, locals := 26 } : Room).cells ({ frames := 2, cells := 1, slots := 1, locals := 26 } : Room).slots) := by
  refine MetFree.of_bodySF (plainFor_of_name pn_Y) hisR ?_
  intro p e s m args below meth c s₁ Bd hml0 hP hK
  obtain ⟨rfl, hZ, hh⟩ := hP
  have hx := Bd.exec
  have hby := Bd.bytes
  have hlk := BodyLoose.notSynchronized Bd
  have hml : c.maxLocals = 1 := hml0
  have hown : s.vm.findClass "java/util/Optional" = some m.cls := findClass_of_methodNamed Bd.named
  have hnm := (name_of_methodNamed Bd.named Bd.method).1
  have X0 : Stand p l e ({ frames := 2, cells := 1, slots := 1, locals := 26 } : Room) s m #[(.ref w)] below meth c s₁ [] 0 0 := Stand.of_body Bd
  have e0 : s₁.heap = h0 := by rw [← hh, Bd.state]; rfl
  have N0 := Fr.nil n0
  show OG p e below s ({ frames := 2, cells := 1, slots := 1, locals := 26 } : Room).cells ({ frames := 2, cells := 1, slots := 1, locals := 26 } : Room).slots (QY Z w h0 n0) _
  refine OG.of (fun oT oK => castTop (ef_Y m w) oK) ?_
  show OG p e below s _ _ _ (s₁.setTop (mkF m 0 (own_L3 w) []))
  obtain ⟨T1, h1, X1, e1, E1, A1, D1, -, st1⟩ := newO X0 hx hZ hown (own_at hw 61 rfl) (own_at hw 62 rfl) (own_at hw 41 rfl) e0 (g := (mkF m 0 (own_L3 w) [])) rfl (hb hby dY_0) (by decide) (by decide)
  obtain ⟨b1, g1⟩ : ∃ z, z = (h0).size := ⟨_, rfl⟩
  have gn_b1 : n0 ≤ b1 := Nat.le_trans Z0 (Nat.le_of_eq g1.symm)
  have sz_b1 : h0.size ≤ b1 := Nat.le_trans (Keep.refl h0 []).1 (Nat.le_of_eq g1.symm)
  rw [← g1] at A1 D1 st1
  have K1 : Keep h0 h1 [] := (Keep.refl h0 []).ext E1
  have Z1 : n0 ≤ h1.size := Nat.le_trans Z0 E1.1
  have F1_value : Fld Z h1 b1 "java/util/Optional" "value" "Ljava/lang/Object;" .null := D1 (Or.inr (own_at hw 73 rfl)) (ty := (.object "java/lang/Object")) (by decide)
  refine OG.of st1 ?_
  show OG _ _ _ _ _ _ _ (T1.setTop (mkF m 3 (own_L3 w) [(.ref b1)]))
  refine OG.of (A := T1.setTop (mkF m 5 (own_L3 w) [(.ref w), (.ref b1), (.ref b1)])) (fun oT oK => ?_) ?_
  · skip
    refine XS.dup X1.here hx rfl (hb hby dY_3) rfl rfl ?_
    show Steps p.tables e below (T1.setTop (mkF m 4 (own_L3 w) [(.ref b1), (.ref b1)])) _
    refine XS.aloadN X1.here hx rfl (hb hby dY_4) rfl rfl  ?_
    exact oK
  obtain ⟨_, _, ⟨T2, L2, k2, n2⟩, -, X2, ⟨Lc2, hQ2, l2, y2, z2⟩, st2⟩ := Jvm.LawKit.callS X1 hx (y := (⟨"java/util/Objects", "requireNonNull", "(Ljava/lang/Object;)Ljava/lang/Object;"⟩ : MethodName)) hown (mvT hZ (own_at hw 63 rfl)) (mvT hZ (own_at hw 64 rfl)) (mvT hZ (own_at hw 65 rfl)) (mvT hZ (own_at hw 66 rfl)) (by decide) (backOf (W := 2) (rmN l Z a0 hw [] w  h1 n0 (Z1)) hZ (own_at hw 66 rfl) (own_at hw 65 rfl) (by decide) (by decide)) (g := (mkF m 5 (own_L3 w) [(.ref w), (.ref b1), (.ref b1)])) rfl (by rw [hml]; rfl) (argsL := [(.ref w)]) (rest := [(.ref b1), (.ref b1)]) (lenOf pd__Ljava_lang_Object__Ljava_lang_Object_ rfl) rfl (by show 2 * 0 + _ ≤ _; exact Nat.le_of_eq rfl) (hb hby dY_5) (fun _ _ => ⟨rfl, e1, (by decide : 1 + 0 ≤ _), (by decide : 1 + 0 ≤ _)⟩)
  dsimp only [Pt.U, Pt.locs, Pt.cells, Pt.slots] at X2 l2 y2 z2 st2 hQ2
  subst l2 y2 z2
  obtain ⟨hv2, N2q, e2⟩ := hQ2
  obtain rfl := hv2.trans (show _ = some (.ref w) from rfl)
  have N2 := Fr.app N0 N2q
  refine OG.of st2 ?_
  show OG _ _ _ _ _ _ _ (T2.setTop (mkF m 8 (own_L3 w) [(.ref w), (.ref b1), (.ref b1)]))
  obtain ⟨_, _, ⟨T3, L3, k3, n3⟩, -, X3, ⟨Lc3, hQ3, l3, y3, z3⟩, st3⟩ := X2.specialBack hx (y := (⟨"java/util/Optional", "<init>", "(Ljava/lang/Object;)V"⟩ : MethodName)) rfl hown (mvT hZ (own_at hw 67 rfl)) (mvT hZ (own_at hw 68 rfl)) (mvT hZ (own_at hw 70 rfl)) (by decide) (backOf (W := 1) (rmO l Z a0 hw [] b1 w h1 n0 (Z1) A1 F1_value gn_b1) hZ (own_at hw 70 rfl) (own_at hw 41 rfl) (by decide) (by decide)) (g := (mkF m 8 (own_L3 w) [(.ref w), (.ref b1), (.ref b1)])) rfl (by rw [hml]; rfl) (Steps.refl _) (a := b1) (argsL := [(.ref w)]) (rest := [(.ref b1)]) (lenOf pd__Ljava_lang_Object__V rfl) rfl (by show 2 * 0 + _ ≤ _; exact Nat.le_of_eq rfl) (hb hby dY_8) (fun _ _ => ⟨rfl, e2, (by decide : 1 + 0 ≤ _), (by decide : 1 + 0 ≤ _)⟩)
  dsimp only [Pt.U, Pt.locs, Pt.cells, Pt.slots] at X3 l3 y3 z3 st3 hQ3
  subst l3 y3 z3
  obtain ⟨rfl, N3q, Kc3, f1, f2⟩ := hQ3
  have N3 := Fr.app N2 N3q
  have f3 := (A1).keep Kc3
  have K3 : Keep h0 T3.heap [] := (K1).trans Kc3 (allS (Or.inr sz_b1) all0)
  have Z3 : n0 ≤ T3.heap.size := Nat.le_trans Z1 Kc3.1
  refine OG.trans st3 ?_
  show OG _ _ _ _ _ _ _ (T3.setTop (mkF m 11 (own_L3 w) [(.ref b1)]))
  refine OG.retA X3 hx Bd.returns rfl rfl (hb hby dY_11) hlk ?_ (by decide) (by decide)
  exact ⟨b1, rfl, N3, K3, f1, f2⟩
theorem dPn_0 : decode jdk_32_method_6_code 0 = .ok (.aload_n 0, 1) := by decide +kernel
theorem dPn_1 : decode jdk_32_method_6_code 1 = .ok (.getfield 13, 3) := by decide +kernel
theorem dPn_4 : decode jdk_32_method_6_code 4 = .ok (.ifnull 7, 3) := by decide +kernel
theorem dPn_11 : decode jdk_32_method_6_code 11 = .ok (.iconst 0, 1) := by decide +kernel
theorem dPn_12 : decode jdk_32_method_6_code 12 = .ok (.ireturn, 1) := by decide +kernel
theorem pn_Pn : plainName "java/util/Optional" = true := by first | (simp [plainName, overriddenIn]; done) | decide +kernel
theorem ef_Pn (m : MethodId) (x0 : Addr) : entryFrame m #[(.ref x0)] 1 = mkF m 0 #[.val (.ref x0)] [] := by first | (simp [entryFrame, mkF, argsToLocals, Value.category]; done) | rfl
def QPn (Z : State) (a : Addr) (h0 : Heap) (n0 : Nat) (v : Option Value) (h : Heap) (L : List Loc) : Prop := v = some (.int (0 : Int32)) ∧ Fr n0 L ∧ h = h0
set_option maxRecDepth 65536 in
set_option maxHeartbeats 40000000 in
theorem rmPn (l : Launch) (Z : State) (a0 : Array Value) (hw : ∀ d ∈ tables_1, d.before a0 Z = true) (ws : List Jvm.Cond) (a : Addr) (h0 : Heap) (n0 : Nat) (Z0 : n0 ≤ h0.size) (F_a : Fld Z h0 a "java/util/Optional" "value" "Ljava/lang/Object;" .null) :
    MetFree l (⟨"java/util/Optional", "isPresent", "()Z"⟩ : MethodName) (head1 (Jvm.Cond.code (⟨"java/util/Optional", "isPresent", "()Z"⟩ : MethodName) jdk_32_method_6_code 1 (some .boolean) :: ws) ({ frames := 0, cells := 0, slots := 0, locals := 0 } : Room)) (fun aA oU => aA = #[(.ref a)] ∧ Z.Warmed39 oU.vm ∧ oU.heap = h0) (fun _ _ _ _ _ => True) (fun _ oU oO oU' => ∃ oV oL, oO = .returned oV ∧ QPn Z a h0 n0 oV oU'.heap oL ∧ FrameEnd oU oO oU' oL ({ frames := 0, cells := 0, slots := 0, locals := 0 } : Room).cells ({ frames := 0, cells := 0, slots := 0, locals := 0 } : Room).slots) := by
  refine MetFree.of_bodySF (plainFor_of_name pn_Pn) hisR ?_
  intro p e s m args below meth c s₁ Bd hml0 hP hK
  obtain ⟨rfl, hZ, hh⟩ := hP
  have hx := Bd.exec
  have hby := Bd.bytes
  have hlk := BodyLoose.notSynchronized Bd
  have hml : c.maxLocals = 1 := hml0
  have hown : s.vm.findClass "java/util/Optional" = some m.cls := findClass_of_methodNamed Bd.named
  have hnm := (name_of_methodNamed Bd.named Bd.method).1
  have X0 : Stand p l e ({ frames := 0, cells := 0, slots := 0, locals := 0 } : Room) s m #[(.ref a)] below meth c s₁ [] 0 0 := Stand.of_body Bd
  have e0 : s₁.heap = h0 := by rw [← hh, Bd.state]; rfl
  have N0 := Fr.nil n0
  show OG p e below s ({ frames := 0, cells := 0, slots := 0, locals := 0 } : Room).cells ({ frames := 0, cells := 0, slots := 0, locals := 0 } : Room).slots (QPn Z a h0 n0) _
  refine OG.of (fun oT oK => castTop (ef_Pn m a) oK) ?_
  show OG p e below s _ _ _ (s₁.setTop (mkF m 0 (own_L3 a) []))
  refine OG.of (A := s₁.setTop (mkF m 1 (own_L3 a) [(.ref a)])) (fun oT oK => ?_) ?_
  · skip
    refine XS.aloadN X0.here hx rfl (hb hby dPn_0) rfl rfl  ?_
    exact oK
  obtain ⟨T1, X1, e1, st1⟩ := getF X0 hx hZ hown (host := "") (Or.inl (own_at hw 72 rfl)) Via.refl e0 F_a (g := (mkF m 1 (own_L3 a) [(.ref a)])) rfl rfl (hb hby dPn_1)
  refine OG.of st1 ?_
  show OG _ _ _ _ _ _ _ (T1.setTop (mkF m 4 (own_L3 a) [.null]))
  refine OG.of (A := T1.setTop (mkF m 12 (own_L3 a) [(.int (0 : Int32))])) (fun oT oK => ?_) ?_
  · skip
    refine XS.ifnullYes X1.here hx rfl (pc0 := 4) (pc' := 11) rfl (hb hby dPn_4) rfl (by decide) (by decide) ?_
    show Steps p.tables e below (T1.setTop (mkF m 11 (own_L3 a) [])) _
    refine XS.iconst X1.here hx rfl (hb hby dPn_11) ?_
    exact oK
  refine OG.retN X1 hx (t := .boolean) Bd.returns (by simp) (hb hby dPn_12) hlk ?_ (by decide) (by decide)
  try rw [e1]
  exact ⟨rfl, N0, rfl⟩
theorem dPr_0 : decode jdk_32_method_6_code 0 = .ok (.aload_n 0, 1) := by decide +kernel
theorem dPr_1 : decode jdk_32_method_6_code 1 = .ok (.getfield 13, 3) := by decide +kernel
theorem dPr_4 : decode jdk_32_method_6_code 4 = .ok (.ifnull 7, 3) := by decide +kernel
theorem dPr_7 : decode jdk_32_method_6_code 7 = .ok (.iconst 1, 1) := by decide +kernel
theorem dPr_8 : decode jdk_32_method_6_code 8 = .ok (.goto 4, 3) := by decide +kernel
theorem dPr_12 : decode jdk_32_method_6_code 12 = .ok (.ireturn, 1) := by decide +kernel
theorem pn_Pr : plainName "java/util/Optional" = true := by first | (simp [plainName, overriddenIn]; done) | decide +kernel
theorem ef_Pr (m : MethodId) (x0 : Addr) : entryFrame m #[(.ref x0)] 1 = mkF m 0 #[.val (.ref x0)] [] := by first | (simp [entryFrame, mkF, argsToLocals, Value.category]; done) | rfl
def QPr (Z : State) (a : Addr) (w : Addr) (h0 : Heap) (n0 : Nat) (v : Option Value) (h : Heap) (L : List Loc) : Prop := v = some (.int (1 : Int32)) ∧ Fr n0 L ∧ h = h0
set_option maxRecDepth 65536 in
set_option maxHeartbeats 40000000 in
theorem rmPr (l : Launch) (Z : State) (a0 : Array Value) (hw : ∀ d ∈ tables_1, d.before a0 Z = true) (ws : List Jvm.Cond) (a : Addr) (w : Addr) (h0 : Heap) (n0 : Nat) (Z0 : n0 ≤ h0.size) (F_a : Fld Z h0 a "java/util/Optional" "value" "Ljava/lang/Object;" (.ref w)) :
    MetFree l (⟨"java/util/Optional", "isPresent", "()Z"⟩ : MethodName) (head1 (Jvm.Cond.code (⟨"java/util/Optional", "isPresent", "()Z"⟩ : MethodName) jdk_32_method_6_code 1 (some .boolean) :: ws) ({ frames := 0, cells := 0, slots := 0, locals := 0 } : Room)) (fun aA oU => aA = #[(.ref a)] ∧ Z.Warmed39 oU.vm ∧ oU.heap = h0) (fun _ _ _ _ _ => True) (fun _ oU oO oU' => ∃ oV oL, oO = .returned oV ∧ QPr Z a w h0 n0 oV oU'.heap oL ∧ FrameEnd oU oO oU' oL ({ frames := 0, cells := 0, slots := 0, locals := 0 } : Room).cells ({ frames := 0, cells := 0, slots := 0, locals := 0 } : Room).slots) := by
  refine MetFree.of_bodySF (plainFor_of_name pn_Pr) hisR ?_
  intro p e s m args below meth c s₁ Bd hml0 hP hK
  obtain ⟨rfl, hZ, hh⟩ := hP
  have hx := Bd.exec
  have hby := Bd.bytes
  have hlk := BodyLoose.notSynchronized Bd
  have hml : c.maxLocals = 1 := hml0
  have hown : s.vm.findClass "java/util/Optional" = some m.cls := findClass_of_methodNamed Bd.named
  have hnm := (name_of_methodNamed Bd.named Bd.method).1
  have X0 : Stand p l e ({ frames := 0, cells := 0, slots := 0, locals := 0 } : Room) s m #[(.ref a)] below meth c s₁ [] 0 0 := Stand.of_body Bd
  have e0 : s₁.heap = h0 := by rw [← hh, Bd.state]; rfl
  have N0 := Fr.nil n0
  show OG p e below s ({ frames := 0, cells := 0, slots := 0, locals := 0 } : Room).cells ({ frames := 0, cells := 0, slots := 0, locals := 0 } : Room).slots (QPr Z a w h0 n0) _
  refine OG.of (fun oT oK => castTop (ef_Pr m a) oK) ?_
  show OG p e below s _ _ _ (s₁.setTop (mkF m 0 (own_L3 a) []))
  refine OG.of (A := s₁.setTop (mkF m 1 (own_L3 a) [(.ref a)])) (fun oT oK => ?_) ?_
  · skip
    refine XS.aloadN X0.here hx rfl (hb hby dPr_0) rfl rfl  ?_
    exact oK
  obtain ⟨T1, X1, e1, st1⟩ := getF X0 hx hZ hown (host := "") (Or.inl (own_at hw 72 rfl)) Via.refl e0 F_a (g := (mkF m 1 (own_L3 a) [(.ref a)])) rfl rfl (hb hby dPr_1)
  refine OG.of st1 ?_
  show OG _ _ _ _ _ _ _ (T1.setTop (mkF m 4 (own_L3 a) [(.ref w)]))
  refine OG.of (A := T1.setTop (mkF m 12 (own_L3 a) [(.int (1 : Int32))])) (fun oT oK => ?_) ?_
  · skip
    refine XS.ifnullNo X1.here hx rfl (hb hby dPr_4) rfl ?_
    show Steps p.tables e below (T1.setTop (mkF m 7 (own_L3 a) [])) _
    refine XS.iconst X1.here hx rfl (hb hby dPr_7) ?_
    refine XS.goto X1.here hx rfl (pc0 := 8) (pc' := 12) rfl (hb hby dPr_8) (by decide) (by decide) ?_
    exact oK
  refine OG.retN X1 hx (t := .boolean) Bd.returns (by simp) (hb hby dPr_12) hlk ?_ (by decide) (by decide)
  try rw [e1]
  exact ⟨rfl, N0, rfl⟩
theorem dG_0 : decode jdk_32_method_5_code 0 = .ok (.aload_n 0, 1) := by decide +kernel
theorem dG_1 : decode jdk_32_method_5_code 1 = .ok (.getfield 13, 3) := by decide +kernel
theorem dG_4 : decode jdk_32_method_5_code 4 = .ok (.ifnonnull 13, 3) := by decide +kernel
theorem dG_17 : decode jdk_32_method_5_code 17 = .ok (.aload_n 0, 1) := by decide +kernel
theorem dG_18 : decode jdk_32_method_5_code 18 = .ok (.getfield 13, 3) := by decide +kernel
theorem dG_21 : decode jdk_32_method_5_code 21 = .ok (.areturn, 1) := by decide +kernel
theorem pn_G : plainName "java/util/Optional" = true := by first | (simp [plainName, overriddenIn]; done) | decide +kernel
theorem ef_G (m : MethodId) (x0 : Addr) : entryFrame m #[(.ref x0)] 1 = mkF m 0 #[.val (.ref x0)] [] := by first | (simp [entryFrame, mkF, argsToLocals, Value.category]; done) | rfl
def QG (Z : State) (a : Addr) (w : Addr) (h0 : Heap) (n0 : Nat) (v : Option Value) (h : Heap) (L : List Loc) : Prop := v = some (.ref w) ∧ Fr n0 L ∧ h = h0
set_option maxRecDepth 65536 in
set_option maxHeartbeats 40000000 in
theorem rmG (l : Launch) (Z : State) (a0 : Array Value) (hw : ∀ d ∈ tables_1, d.before a0 Z = true) (ws : List Jvm.Cond) (a : Addr) (w : Addr) (h0 : Heap) (n0 : Nat) (Z0 : n0 ≤ h0.size) (F_a : Fld Z h0 a "java/util/Optional" "value" "Ljava/lang/Object;" (.ref w)) :
    MetFree l (⟨"java/util/Optional", "get", "()Ljava/lang/Object;"⟩ : MethodName) (head1 (Jvm.Cond.code (⟨"java/util/Optional", "get", "()Ljava/lang/Object;"⟩ : MethodName) jdk_32_method_5_code 1 (some (.object "java/lang/Object")) :: ws) ({ frames := 0, cells := 0, slots := 0, locals := 0 } : Room)) (fun aA oU => aA = #[(.ref a)] ∧ Z.Warmed39 oU.vm ∧ oU.heap = h0) (fun _ _ _ _ _ => True) (fun _ oU oO oU' => ∃ oV oL, oO = .returned oV ∧ QG Z a w h0 n0 oV oU'.heap oL ∧ FrameEnd oU oO oU' oL ({ frames := 0, cells := 0, slots := 0, locals := 0 } : Room).cells ({ frames := 0, cells := 0, slots := 0, locals := 0 } : Room).slots) := by
  refine MetFree.of_bodySF (plainFor_of_name pn_G) hisR ?_
  intro p e s m args below meth c s₁ Bd hml0 hP hK
  obtain ⟨rfl, hZ, hh⟩ := hP
  have hx := Bd.exec
  have hby := Bd.bytes
  have hlk := BodyLoose.notSynchronized Bd
  have hml : c.maxLocals = 1 := hml0
  have hown : s.vm.findClass "java/util/Optional" = some m.cls := findClass_of_methodNamed Bd.named
  have hnm := (name_of_methodNamed Bd.named Bd.method).1
  have X0 : Stand p l e ({ frames := 0, cells := 0, slots := 0, locals := 0 } : Room) s m #[(.ref a)] below meth c s₁ [] 0 0 := Stand.of_body Bd
  have e0 : s₁.heap = h0 := by rw [← hh, Bd.state]; rfl
  have N0 := Fr.nil n0
  show OG p e below s ({ frames := 0, cells := 0, slots := 0, locals := 0 } : Room).cells ({ frames := 0, cells := 0, slots := 0, locals := 0 } : Room).slots (QG Z a w h0 n0) _
  refine OG.of (fun oT oK => castTop (ef_G m a) oK) ?_
  show OG p e below s _ _ _ (s₁.setTop (mkF m 0 (own_L3 a) []))
  refine OG.of (A := s₁.setTop (mkF m 1 (own_L3 a) [(.ref a)])) (fun oT oK => ?_) ?_
  · skip
    refine XS.aloadN X0.here hx rfl (hb hby dG_0) rfl rfl  ?_
    exact oK
  obtain ⟨T1, X1, e1, st1⟩ := getF X0 hx hZ hown (host := "") (Or.inl (own_at hw 72 rfl)) Via.refl e0 F_a (g := (mkF m 1 (own_L3 a) [(.ref a)])) rfl rfl (hb hby dG_1)
  refine OG.of st1 ?_
  show OG _ _ _ _ _ _ _ (T1.setTop (mkF m 4 (own_L3 a) [(.ref w)]))
  refine OG.of (A := T1.setTop (mkF m 18 (own_L3 a) [(.ref a)])) (fun oT oK => ?_) ?_
  · skip
    refine XT.ifnonnullYes X1.here hx rfl (pc0 := 4) (pc' := 17) rfl (hb hby dG_4) rfl (by decide) (by decide) ?_
    show Steps p.tables e below (T1.setTop (mkF m 17 (own_L3 a) [])) _
    refine XS.aloadN X1.here hx rfl (hb hby dG_17) rfl rfl  ?_
    exact oK
  obtain ⟨T2, X2, e2, st2⟩ := getF X1 hx hZ hown (host := "") (Or.inl (own_at hw 72 rfl)) Via.refl e1 F_a (g := (mkF m 18 (own_L3 a) [(.ref a)])) rfl rfl (hb hby dG_18)
  refine OG.of st2 ?_
  show OG _ _ _ _ _ _ _ (T2.setTop (mkF m 21 (own_L3 a) [(.ref w)]))
  refine OG.retA X2 hx Bd.returns rfl rfl (hb hby dG_21) hlk ?_ (by decide) (by decide)
  try rw [e2]
  exact ⟨rfl, N0, rfl⟩
theorem dQn_0 : decode jdk_31_method_2_code 0 = .ok (.aload_n 0, 1) := by decide +kernel
theorem dQn_1 : decode jdk_31_method_2_code 1 = .ok (.aload_n 1, 1) := by decide +kernel
theorem dQn_2 : decode jdk_31_method_2_code 2 = .ok (.if_acmp .eq 15, 3) := by decide +kernel
theorem dQn_17 : decode jdk_31_method_2_code 17 = .ok (.iconst 1, 1) := by decide +kernel
theorem dQn_18 : decode jdk_31_method_2_code 18 = .ok (.goto 4, 3) := by decide +kernel
theorem dQn_22 : decode jdk_31_method_2_code 22 = .ok (.ireturn, 1) := by decide +kernel
theorem pn_Qn : plainName "java/util/Objects" = true := by first | (simp [plainName, overriddenIn]; done) | decide +kernel
theorem ef_Qn (m : MethodId)  : entryFrame m #[.null, .null] 2 = mkF m 0 #[.val .null, .val .null] [] := by first | (simp [entryFrame, mkF, argsToLocals, Value.category]; done) | rfl
def QQn (Z : State)  (h0 : Heap) (n0 : Nat) (v : Option Value) (h : Heap) (L : List Loc) : Prop := v = some (.int (1 : Int32)) ∧ Fr n0 L ∧ h = h0
set_option maxRecDepth 65536 in
set_option maxHeartbeats 40000000 in
theorem rmQn (l : Launch) (Z : State) (a0 : Array Value) (hw : ∀ d ∈ tables_1, d.before a0 Z = true) (ws : List Jvm.Cond)  (h0 : Heap) (n0 : Nat) (Z0 : n0 ≤ h0.size) :
    MetFree l (⟨"java/util/Objects", "equals", "(Ljava/lang/Object;Ljava/lang/Object;)Z"⟩ : MethodName) (head1 (Jvm.Cond.code (⟨"java/util/Objects", "equals", "(Ljava/lang/Object;Ljava/lang/Object;)Z"⟩ : MethodName) jdk_31_method_2_code 2 (some .boolean) :: ws) ({ frames := 0, cells := 0, slots := 0, locals := 0 } : Room)) (fun aA oU => aA = #[.null, .null] ∧ Z.Warmed39 oU.vm ∧ oU.heap = h0) (fun _ _ _ _ _ => True) (fun _ oU oO oU' => ∃ oV oL, oO = .returned oV ∧ QQn Z  h0 n0 oV oU'.heap oL ∧ FrameEnd oU oO oU' oL ({ frames := 0, cells := 0, slots := 0, locals := 0 } : Room).cells ({ frames := 0, cells := 0, slots := 0, locals := 0 } : Room).slots) := by
  refine MetFree.of_bodySF (plainFor_of_name pn_Qn) hisR ?_
  intro p e s m args below meth c s₁ Bd hml0 hP hK
  obtain ⟨rfl, hZ, hh⟩ := hP
  have hx := Bd.exec
  have hby := Bd.bytes
  have hlk := BodyLoose.notSynchronized Bd
  have hml : c.maxLocals = 2 := hml0
  have hown : s.vm.findClass "java/util/Objects" = some m.cls := findClass_of_methodNamed Bd.named
  have hnm := (name_of_methodNamed Bd.named Bd.method).1
  have X0 : Stand p l e ({ frames := 0, cells := 0, slots := 0, locals := 0 } : Room) s m #[.null, .null] below meth c s₁ [] 0 0 := Stand.of_body Bd
  have e0 : s₁.heap = h0 := by rw [← hh, Bd.state]; rfl
  have N0 := Fr.nil n0
  show OG p e below s ({ frames := 0, cells := 0, slots := 0, locals := 0 } : Room).cells ({ frames := 0, cells := 0, slots := 0, locals := 0 } : Room).slots (QQn Z  h0 n0) _
  refine OG.of (fun oT oK => castTop (ef_Qn m ) oK) ?_
  show OG p e below s _ _ _ (s₁.setTop (mkF m 0 (own_L6 .null .null) []))
  refine OG.of (A := s₁.setTop (mkF m 22 (own_L6 .null .null) [(.int (1 : Int32))])) (fun oT oK => ?_) ?_
  · skip
    refine XS.aloadN X0.here hx rfl (hb hby dQn_0) rfl rfl  ?_
    show Steps p.tables e below (s₁.setTop (mkF m 1 (own_L6 .null .null) [.null])) _
    refine XS.aloadN X0.here hx rfl (hb hby dQn_1) rfl rfl  ?_
    show Steps p.tables e below (s₁.setTop (mkF m 2 (own_L6 .null .null) [.null, .null])) _
    refine XT.acmpYes X0.here hx rfl (pc0 := 2) (pc' := 17) rfl (hb hby dQn_2) rfl rfl rfl (XT.aa_eq_t rfl) (by decide) (by decide) ?_
    show Steps p.tables e below (s₁.setTop (mkF m 17 (own_L6 .null .null) [])) _
    refine XS.iconst X0.here hx rfl (hb hby dQn_17) ?_
    refine XS.goto X0.here hx rfl (pc0 := 18) (pc' := 22) rfl (hb hby dQn_18) (by decide) (by decide) ?_
    exact oK
  refine OG.retN X0 hx (t := .boolean) Bd.returns (by simp) (hb hby dQn_22) hlk ?_ (by decide) (by decide)
  try rw [e0]
  exact ⟨rfl, N0, rfl⟩
theorem dQr_0 : decode jdk_31_method_2_code 0 = .ok (.aload_n 0, 1) := by decide +kernel
theorem dQr_1 : decode jdk_31_method_2_code 1 = .ok (.aload_n 1, 1) := by decide +kernel
theorem dQr_2 : decode jdk_31_method_2_code 2 = .ok (.if_acmp .eq 15, 3) := by decide +kernel
theorem dQr_17 : decode jdk_31_method_2_code 17 = .ok (.iconst 1, 1) := by decide +kernel
theorem dQr_18 : decode jdk_31_method_2_code 18 = .ok (.goto 4, 3) := by decide +kernel
theorem dQr_22 : decode jdk_31_method_2_code 22 = .ok (.ireturn, 1) := by decide +kernel
theorem pn_Qr : plainName "java/util/Objects" = true := by first | (simp [plainName, overriddenIn]; done) | decide +kernel
theorem ef_Qr (m : MethodId) (x0 : Addr) (x1 : Addr) : entryFrame m #[(.ref x0), (.ref x1)] 2 = mkF m 0 #[.val (.ref x0), .val (.ref x1)] [] := by first | (simp [entryFrame, mkF, argsToLocals, Value.category]; done) | rfl
def QQr (Z : State) (u : Addr) (h0 : Heap) (n0 : Nat) (v : Option Value) (h : Heap) (L : List Loc) : Prop := v = some (.int (1 : Int32)) ∧ Fr n0 L ∧ h = h0
set_option maxRecDepth 65536 in
set_option maxHeartbeats 40000000 in
theorem rmQr (l : Launch) (Z : State) (a0 : Array Value) (hw : ∀ d ∈ tables_1, d.before a0 Z = true) (ws : List Jvm.Cond) (u : Addr) (h0 : Heap) (n0 : Nat) (Z0 : n0 ≤ h0.size) :
    MetFree l (⟨"java/util/Objects", "equals", "(Ljava/lang/Object;Ljava/lang/Object;)Z"⟩ : MethodName) (head1 (Jvm.Cond.code (⟨"java/util/Objects", "equals", "(Ljava/lang/Object;Ljava/lang/Object;)Z"⟩ : MethodName) jdk_31_method_2_code 2 (some .boolean) :: ws) ({ frames := 0, cells := 0, slots := 0, locals := 0 } : Room)) (fun aA oU => aA = #[(.ref u), (.ref u)] ∧ Z.Warmed39 oU.vm ∧ oU.heap = h0) (fun _ _ _ _ _ => True) (fun _ oU oO oU' => ∃ oV oL, oO = .returned oV ∧ QQr Z u h0 n0 oV oU'.heap oL ∧ FrameEnd oU oO oU' oL ({ frames := 0, cells := 0, slots := 0, locals := 0 } : Room).cells ({ frames := 0, cells := 0, slots := 0, locals := 0 } : Room).slots) := by
  refine MetFree.of_bodySF (plainFor_of_name pn_Qr) hisR ?_
  intro p e s m args below meth c s₁ Bd hml0 hP hK
  obtain ⟨rfl, hZ, hh⟩ := hP
  have hx := Bd.exec
  have hby := Bd.bytes
  have hlk := BodyLoose.notSynchronized Bd
  have hml : c.maxLocals = 2 := hml0
  have hown : s.vm.findClass "java/util/Objects" = some m.cls := findClass_of_methodNamed Bd.named
  have hnm := (name_of_methodNamed Bd.named Bd.method).1
  have X0 : Stand p l e ({ frames := 0, cells := 0, slots := 0, locals := 0 } : Room) s m #[(.ref u), (.ref u)] below meth c s₁ [] 0 0 := Stand.of_body Bd
  have e0 : s₁.heap = h0 := by rw [← hh, Bd.state]; rfl
  have N0 := Fr.nil n0
  show OG p e below s ({ frames := 0, cells := 0, slots := 0, locals := 0 } : Room).cells ({ frames := 0, cells := 0, slots := 0, locals := 0 } : Room).slots (QQr Z u h0 n0) _
  refine OG.of (fun oT oK => castTop (ef_Qr m u u) oK) ?_
  show OG p e below s _ _ _ (s₁.setTop (mkF m 0 (own_L5 u u) []))
  refine OG.of (A := s₁.setTop (mkF m 22 (own_L5 u u) [(.int (1 : Int32))])) (fun oT oK => ?_) ?_
  · skip
    refine XS.aloadN X0.here hx rfl (hb hby dQr_0) rfl rfl  ?_
    show Steps p.tables e below (s₁.setTop (mkF m 1 (own_L5 u u) [(.ref u)])) _
    refine XS.aloadN X0.here hx rfl (hb hby dQr_1) rfl rfl  ?_
    show Steps p.tables e below (s₁.setTop (mkF m 2 (own_L5 u u) [(.ref u), (.ref u)])) _
    refine XT.acmpYes X0.here hx rfl (pc0 := 2) (pc' := 17) rfl (hb hby dQr_2) rfl rfl rfl (XT.aa_eq_t rfl) (by decide) (by decide) ?_
    show Steps p.tables e below (s₁.setTop (mkF m 17 (own_L5 u u) [])) _
    refine XS.iconst X0.here hx rfl (hb hby dQr_17) ?_
    refine XS.goto X0.here hx rfl (pc0 := 18) (pc' := 22) rfl (hb hby dQr_18) (by decide) (by decide) ?_
    exact oK
  refine OG.retN X0 hx (t := .boolean) Bd.returns (by simp) (hb hby dQr_22) hlk ?_ (by decide) (by decide)
  try rw [e0]
  exact ⟨rfl, N0, rfl⟩
theorem dH_0 : decode prog_4_method_6_code 0 = .ok (.aload_n 1, 1) := by decide +kernel
theorem dH_1 : decode prog_4_method_6_code 1 = .ok (.instanceof 8, 3) := by decide +kernel
theorem dH_4 : decode prog_4_method_6_code 4 = .ok (.ifCond .eq 40, 3) := by decide +kernel
theorem dH_7 : decode prog_4_method_6_code 7 = .ok (.aload_n 1, 1) := by decide +kernel
theorem dH_8 : decode prog_4_method_6_code 8 = .ok (.checkcast 8, 3) := by decide +kernel
theorem dH_11 : decode prog_4_method_6_code 11 = .ok (.astore_n 2, 1) := by decide +kernel
theorem dH_12 : decode prog_4_method_6_code 12 = .ok (.aload_n 2, 1) := by decide +kernel
theorem dH_13 : decode prog_4_method_6_code 13 = .ok (.getfield 7, 3) := by decide +kernel
theorem dH_16 : decode prog_4_method_6_code 16 = .ok (.aload_n 0, 1) := by decide +kernel
theorem dH_17 : decode prog_4_method_6_code 17 = .ok (.getfield 7, 3) := by decide +kernel
theorem dH_20 : decode prog_4_method_6_code 20 = .ok (.invokestatic 56, 3) := by decide +kernel
theorem dH_23 : decode prog_4_method_6_code 23 = .ok (.ifCond .eq 21, 3) := by decide +kernel
theorem dH_26 : decode prog_4_method_6_code 26 = .ok (.aload_n 2, 1) := by decide +kernel
theorem dH_27 : decode prog_4_method_6_code 27 = .ok (.getfield 13, 3) := by decide +kernel
theorem dH_30 : decode prog_4_method_6_code 30 = .ok (.aload_n 0, 1) := by decide +kernel
theorem dH_31 : decode prog_4_method_6_code 31 = .ok (.getfield 13, 3) := by decide +kernel
theorem dH_34 : decode prog_4_method_6_code 34 = .ok (.invokestatic 56, 3) := by decide +kernel
theorem dH_37 : decode prog_4_method_6_code 37 = .ok (.ifCond .eq 7, 3) := by decide +kernel
theorem dH_40 : decode prog_4_method_6_code 40 = .ok (.iconst 1, 1) := by decide +kernel
theorem dH_41 : decode prog_4_method_6_code 41 = .ok (.goto 4, 3) := by decide +kernel
theorem dH_45 : decode prog_4_method_6_code 45 = .ok (.ireturn, 1) := by decide +kernel
theorem pn_H : plainName "com/example/vett/vett/Grantee" = true := by first | (simp [plainName, overriddenIn]; done) | decide +kernel
theorem ef_H (m : MethodId) (x0 : Addr) (x1 : Addr) : entryFrame m #[(.ref x0), (.ref x1)] 3 = mkF m 0 #[.val (.ref x0), .val (.ref x1), .unset] [] := by first | (simp [entryFrame, mkF, argsToLocals, Value.category]; done) | rfl
def QH (Z : State) (a : Addr) (u : Addr) (h0 : Heap) (n0 : Nat) (v : Option Value) (h : Heap) (L : List Loc) : Prop := v = some (.int (1 : Int32)) ∧ Fr n0 L ∧ h = h0
set_option maxRecDepth 65536 in
set_option maxHeartbeats 40000000 in
theorem rmH (l : Launch) (Z : State) (a0 : Array Value) (hw : ∀ d ∈ tables_1, d.before a0 Z = true) (ws : List Jvm.Cond) (a : Addr) (u : Addr) (h0 : Heap) (n0 : Nat) (Z0 : n0 ≤ h0.size) (E_a : Exa Z h0 a "com/example/vett/vett/Grantee") (F_u : Fld Z h0 a "com/example/vett/vett/Grantee" "userType" "Ljava/lang/String;" (.ref u)) (F_g : Fld Z h0 a "com/example/vett/vett/Grantee" "groupId" "Lcom/example/vett/vett/ConceptId;" .null) :
    MetFree l (⟨"com/example/vett/vett/Grantee", "equals", "(Ljava/lang/Object;)Z"⟩ : MethodName) (head1 (Jvm.Cond.code (⟨"com/example/vett/vett/Grantee", "equals", "(Ljava/lang/Object;)Z"⟩ : MethodName) prog_4_method_6_code 3 (some .boolean) :: ws) ({ frames := 1, cells := 0, slots := 0, locals := 13 } : Room)) (fun aA oU => aA = #[(.ref a), (.ref a)] ∧ Z.Warmed39 oU.vm ∧ oU.heap = h0) (fun _ _ _ _ _ => True) (fun _ oU oO oU' => ∃ oV oL, oO = .returned oV ∧ QH Z a u h0 n0 oV oU'.heap oL ∧ FrameEnd oU oO oU' oL ({ frames := 1, cells := 0, slots := 0, locals := 13 } : Room).cells ({ frames := 1, cells := 0, slots := 0, locals := 13 } : Room).slots) := by
  refine MetFree.of_bodySF (plainFor_of_name pn_H) hisR ?_
  intro p e s m args below meth c s₁ Bd hml0 hP hK
  obtain ⟨rfl, hZ, hh⟩ := hP
  have hx := Bd.exec
  have hby := Bd.bytes
  have hlk := BodyLoose.notSynchronized Bd
  have hml : c.maxLocals = 3 := hml0
  have hown : s.vm.findClass "com/example/vett/vett/Grantee" = some m.cls := findClass_of_methodNamed Bd.named
  have hnm := (name_of_methodNamed Bd.named Bd.method).1
  have X0 : Stand p l e ({ frames := 1, cells := 0, slots := 0, locals := 13 } : Room) s m #[(.ref a), (.ref a)] below meth c s₁ [] 0 0 := Stand.of_body Bd
  have e0 : s₁.heap = h0 := by rw [← hh, Bd.state]; rfl
  have N0 := Fr.nil n0
  show OG p e below s ({ frames := 1, cells := 0, slots := 0, locals := 13 } : Room).cells ({ frames := 1, cells := 0, slots := 0, locals := 13 } : Room).slots (QH Z a u h0 n0) _
  refine OG.of (fun oT oK => castTop (ef_H m a a) oK) ?_
  show OG p e below s _ _ _ (s₁.setTop (mkF m 0 (own_L7 a a) []))
  refine OG.of (A := s₁.setTop (mkF m 1 (own_L7 a a) [(.ref a)])) (fun oT oK => ?_) ?_
  · skip
    refine XS.aloadN X0.here hx rfl (hb hby dH_0) rfl rfl  ?_
    exact oK
  obtain ⟨T1, X1, e1, st1⟩ := instY X0 hx hZ hown (own_at hw 92 rfl) e0 (Ins.self E_a) (g := (mkF m 1 (own_L7 a a) [(.ref a)])) rfl rfl (hb hby dH_1)
  refine OG.of st1 ?_
  show OG _ _ _ _ _ _ _ (T1.setTop (mkF m 4 (own_L7 a a) [(.int (1 : Int32))]))
  refine OG.of (A := T1.setTop (mkF m 8 (own_L7 a a) [(.ref a)])) (fun oT oK => ?_) ?_
  · skip
    refine XS.ifNo X1.here hx rfl (hb hby dH_4) rfl (XT.i0_eq_f (by decide)) ?_
    show Steps p.tables e below (T1.setTop (mkF m 7 (own_L7 a a) [])) _
    refine XS.aloadN X1.here hx rfl (hb hby dH_7) rfl rfl  ?_
    exact oK
  obtain ⟨T2, X2, e2, st2⟩ := castY X1 hx hZ hown (own_at hw 92 rfl) e1 (Ins.self E_a) (g := (mkF m 8 (own_L7 a a) [(.ref a)])) rfl rfl (hb hby dH_8)
  refine OG.of st2 ?_
  show OG _ _ _ _ _ _ _ (T2.setTop (mkF m 11 (own_L7 a a) [(.ref a)]))
  refine OG.of (A := T2.setTop (mkF m 13 (own_L8 a a a) [(.ref a)])) (fun oT oK => ?_) ?_
  · skip
    refine XS.astoreN X2.here hx rfl (hb hby dH_11) rfl rfl (l' := (own_L8 a a a)) rfl ?_
    show Steps p.tables e below (T2.setTop (mkF m 12 (own_L8 a a a) [])) _
    refine XS.aloadN X2.here hx rfl (hb hby dH_12) rfl rfl  ?_
    exact oK
  obtain ⟨T3, X3, e3, st3⟩ := getF X2 hx hZ hown (host := "") (Or.inl (own_at hw 46 rfl)) Via.refl e2 F_u (g := (mkF m 13 (own_L8 a a a) [(.ref a)])) rfl rfl (hb hby dH_13)
  refine OG.of st3 ?_
  show OG _ _ _ _ _ _ _ (T3.setTop (mkF m 16 (own_L8 a a a) [(.ref u)]))
  refine OG.of (A := T3.setTop (mkF m 17 (own_L8 a a a) [(.ref a), (.ref u)])) (fun oT oK => ?_) ?_
  · skip
    refine XS.aloadN X3.here hx rfl (hb hby dH_16) rfl rfl  ?_
    exact oK
  obtain ⟨T4, X4, e4, st4⟩ := getF X3 hx hZ hown (host := "") (Or.inl (own_at hw 46 rfl)) Via.refl e3 F_u (g := (mkF m 17 (own_L8 a a a) [(.ref a), (.ref u)])) rfl rfl (hb hby dH_17)
  refine OG.of st4 ?_
  show OG _ _ _ _ _ _ _ (T4.setTop (mkF m 20 (own_L8 a a a) [(.ref u), (.ref u)]))
  obtain ⟨_, _, ⟨T5, L5, k5, n5⟩, -, X5, ⟨Lc5, hQ5, l5, y5, z5⟩, st5⟩ := Jvm.LawKit.callS X4 hx (y := (⟨"java/util/Objects", "equals", "(Ljava/lang/Object;Ljava/lang/Object;)Z"⟩ : MethodName)) hown (mvT hZ (own_at hw 93 rfl)) (mvT hZ (own_at hw 94 rfl)) (mvT hZ (own_at hw 65 rfl)) (mvT hZ (own_at hw 95 rfl)) (by decide) (backOf (W := 0) (rmQr l Z a0 hw [] u  h0 n0 (Z0)) hZ (own_at hw 95 rfl) (own_at hw 65 rfl) (by decide) (by decide)) (g := (mkF m 20 (own_L8 a a a) [(.ref u), (.ref u)])) rfl (by rw [hml]; rfl) (argsL := [(.ref u), (.ref u)]) (rest := []) (lenOf pd__Ljava_lang_Object_Ljava_lang_Object__Z rfl) rfl (by show 2 * 0 + _ ≤ _; exact Nat.le_of_eq rfl) (hb hby dH_20) (fun _ _ => ⟨rfl, e4, (by decide : 0 + 0 ≤ _), (by decide : 0 + 0 ≤ _)⟩)
  dsimp only [Pt.U, Pt.locs, Pt.cells, Pt.slots] at X5 l5 y5 z5 st5 hQ5
  subst l5 y5 z5
  obtain ⟨hv5, N5q, e5⟩ := hQ5
  obtain rfl := hv5.trans (show _ = some (.int (1 : Int32)) from rfl)
  have N5 := Fr.app N0 N5q
  refine OG.of st5 ?_
  show OG _ _ _ _ _ _ _ (T5.setTop (mkF m 23 (own_L8 a a a) [(.int (1 : Int32))]))
  refine OG.of (A := T5.setTop (mkF m 27 (own_L8 a a a) [(.ref a)])) (fun oT oK => ?_) ?_
  · skip
    refine XS.ifNo X5.here hx rfl (hb hby dH_23) rfl (XT.i0_eq_f (by decide)) ?_
    show Steps p.tables e below (T5.setTop (mkF m 26 (own_L8 a a a) [])) _
    refine XS.aloadN X5.here hx rfl (hb hby dH_26) rfl rfl  ?_
    exact oK
  obtain ⟨T6, X6, e6, st6⟩ := getF X5 hx hZ hown (host := "") (Or.inl (own_at hw 96 rfl)) Via.refl e5 F_g (g := (mkF m 27 (own_L8 a a a) [(.ref a)])) rfl rfl (hb hby dH_27)
  refine OG.of st6 ?_
  show OG _ _ _ _ _ _ _ (T6.setTop (mkF m 30 (own_L8 a a a) [.null]))
  refine OG.of (A := T6.setTop (mkF m 31 (own_L8 a a a) [(.ref a), .null])) (fun oT oK => ?_) ?_
  · skip
    refine XS.aloadN X6.here hx rfl (hb hby dH_30) rfl rfl  ?_
    exact oK
  obtain ⟨T7, X7, e7, st7⟩ := getF X6 hx hZ hown (host := "") (Or.inl (own_at hw 96 rfl)) Via.refl e6 F_g (g := (mkF m 31 (own_L8 a a a) [(.ref a), .null])) rfl rfl (hb hby dH_31)
  refine OG.of st7 ?_
  show OG _ _ _ _ _ _ _ (T7.setTop (mkF m 34 (own_L8 a a a) [.null, .null]))
  obtain ⟨_, _, ⟨T8, L8, k8, n8⟩, -, X8, ⟨Lc8, hQ8, l8, y8, z8⟩, st8⟩ := Jvm.LawKit.callS X7 hx (y := (⟨"java/util/Objects", "equals", "(Ljava/lang/Object;Ljava/lang/Object;)Z"⟩ : MethodName)) hown (mvT hZ (own_at hw 93 rfl)) (mvT hZ (own_at hw 94 rfl)) (mvT hZ (own_at hw 65 rfl)) (mvT hZ (own_at hw 95 rfl)) (by decide) (backOf (W := 0) (rmQn l Z a0 hw []   h0 n0 (Z0)) hZ (own_at hw 95 rfl) (own_at hw 65 rfl) (by decide) (by decide)) (g := (mkF m 34 (own_L8 a a a) [.null, .null])) rfl (by rw [hml]; rfl) (argsL := [.null, .null]) (rest := []) (lenOf pd__Ljava_lang_Object_Ljava_lang_Object__Z rfl) rfl (by show 2 * 0 + _ ≤ _; exact Nat.le_of_eq rfl) (hb hby dH_34) (fun _ _ => ⟨rfl, e7, (by decide : 0 + 0 ≤ _), (by decide : 0 + 0 ≤ _)⟩)
  dsimp only [Pt.U, Pt.locs, Pt.cells, Pt.slots] at X8 l8 y8 z8 st8 hQ8
  subst l8 y8 z8
  obtain ⟨hv8, N8q, e8⟩ := hQ8
  obtain rfl := hv8.trans (show _ = some (.int (1 : Int32)) from rfl)
  have N8 := Fr.app N5 N8q
  refine OG.of st8 ?_
  show OG _ _ _ _ _ _ _ (T8.setTop (mkF m 37 (own_L8 a a a) [(.int (1 : Int32))]))
  refine OG.of (A := T8.setTop (mkF m 45 (own_L8 a a a) [(.int (1 : Int32))])) (fun oT oK => ?_) ?_
  · skip
    refine XS.ifNo X8.here hx rfl (hb hby dH_37) rfl (XT.i0_eq_f (by decide)) ?_
    show Steps p.tables e below (T8.setTop (mkF m 40 (own_L8 a a a) [])) _
    refine XS.iconst X8.here hx rfl (hb hby dH_40) ?_
    refine XS.goto X8.here hx rfl (pc0 := 41) (pc' := 45) rfl (hb hby dH_41) (by decide) (by decide) ?_
    exact oK
  refine OG.retN X8 hx (t := .boolean) Bd.returns (by simp) (hb hby dH_45) hlk ?_ (by decide) (by decide)
  try rw [e8]
  exact ⟨rfl, N8, rfl⟩
theorem dU_0 : decode prog_4_method_2_code 0 = .ok (.invokestatic 17, 3) := by decide +kernel
theorem dU_3 : decode prog_4_method_2_code 3 = .ok (.astore_n 1, 1) := by decide +kernel
theorem dU_4 : decode prog_4_method_2_code 4 = .ok (.getstatic 23, 3) := by decide +kernel
theorem dU_7 : decode prog_4_method_2_code 7 = .ok (.getfield 7, 3) := by decide +kernel
theorem dU_10 : decode prog_4_method_2_code 10 = .ok (.aload_n 0, 1) := by decide +kernel
theorem dU_11 : decode prog_4_method_2_code 11 = .ok (.invokevirtual 27, 3) := by decide +kernel
theorem dU_14 : decode prog_4_method_2_code 14 = .ok (.ifCond .eq 13, 3) := by decide +kernel
theorem dU_17 : decode prog_4_method_2_code 17 = .ok (.getstatic 23, 3) := by decide +kernel
theorem dU_20 : decode prog_4_method_2_code 20 = .ok (.invokestatic 33, 3) := by decide +kernel
theorem dU_23 : decode prog_4_method_2_code 23 = .ok (.astore_n 1, 1) := by decide +kernel
theorem dU_24 : decode prog_4_method_2_code 24 = .ok (.goto 23, 3) := by decide +kernel
theorem dU_47 : decode prog_4_method_2_code 47 = .ok (.aload_n 1, 1) := by decide +kernel
theorem dU_48 : decode prog_4_method_2_code 48 = .ok (.areturn, 1) := by decide +kernel
theorem dU_27 : decode prog_4_method_2_code 27 = .ok (.getstatic 37, 3) := by decide +kernel
theorem dU_30 : decode prog_4_method_2_code 30 = .ok (.getfield 7, 3) := by decide +kernel
theorem dU_33 : decode prog_4_method_2_code 33 = .ok (.aload_n 0, 1) := by decide +kernel
theorem dU_34 : decode prog_4_method_2_code 34 = .ok (.invokevirtual 27, 3) := by decide +kernel
theorem dU_37 : decode prog_4_method_2_code 37 = .ok (.ifCond .eq 10, 3) := by decide +kernel
theorem dU_40 : decode prog_4_method_2_code 40 = .ok (.getstatic 37, 3) := by decide +kernel
theorem dU_43 : decode prog_4_method_2_code 43 = .ok (.invokestatic 33, 3) := by decide +kernel
theorem dU_46 : decode prog_4_method_2_code 46 = .ok (.astore_n 1, 1) := by decide +kernel
theorem pn_U : plainName "com/example/vett/vett/Grantee" = true := by first | (simp [plainName, overriddenIn]; done) | decide +kernel
theorem ef_U (m : MethodId) (x0 : Addr) : entryFrame m #[(.ref x0)] 2 = mkF m 0 #[.val (.ref x0), .unset] [] := by first | (simp [entryFrame, mkF, argsToLocals, Value.category]; done) | rfl
def QU (Z : State) (sx : Addr) (cs : List Int32) (wG : Addr) (wR : Addr) (uG : Addr) (uR : Addr) (wE : Addr) (zc : Int32) (h0 : Heap) (n0 : Nat) (v : Option Value) (h : Heap) (L : List Loc) : Prop := ∃ (r : Addr) (w : Value), v = some (.ref r) ∧ Fr n0 L ∧ Keep h0 h [] ∧ Exa Z h r "java/util/Optional" ∧ Fld Z h r "java/util/Optional" "value" "Ljava/lang/Object;" w ∧ OCs cs w wG wR
set_option maxRecDepth 65536 in
set_option maxHeartbeats 40000000 in
theorem rmU (l : Launch) (Z : State) (a0 : Array Value) (hw : ∀ d ∈ tables_1, d.before a0 Z = true) (ws : List Jvm.Cond) (sx : Addr) (cs : List Int32) (wG : Addr) (wR : Addr) (uG : Addr) (uR : Addr) (wE : Addr) (zc : Int32) (h0 : Heap) (n0 : Nat) (Z0 : n0 ≤ h0.size) (hO : Old Z n0 h0) (hst : OSt Z wG wR uG uR wE zc) (hT : OTx Z h0 sx cs) :
    MetFree l (⟨"com/example/vett/vett/Grantee", "userType", "(Ljava/lang/String;)Ljava/util/Optional;"⟩ : MethodName) (head1 (Jvm.Cond.code (⟨"com/example/vett/vett/Grantee", "userType", "(Ljava/lang/String;)Ljava/util/Optional;"⟩ : MethodName) prog_4_method_2_code 2 (some (.object "java/util/Optional")) :: ws) ({ frames := 3, cells := 1, slots := 1, locals := 38 } : Room)) (fun aA oU => aA = #[(.ref sx)] ∧ Z.Warmed39 oU.vm ∧ oU.heap = h0) (fun _ _ _ _ _ => True) (fun _ oU oO oU' => ∃ oV oL, oO = .returned oV ∧ QU Z sx cs wG wR uG uR wE zc h0 n0 oV oU'.heap oL ∧ FrameEnd oU oO oU' oL ({ frames := 3, cells := 1, slots := 1, locals := 38 } : Room).cells ({ frames := 3, cells := 1, slots := 1, locals := 38 } : Room).slots) := by
  refine MetFree.of_bodySF (plainFor_of_name pn_U) hisR ?_
  intro p e s m args below meth c s₁ Bd hml0 hP hK
  obtain ⟨rfl, hZ, hh⟩ := hP
  have hx := Bd.exec
  have hby := Bd.bytes
  have hlk := BodyLoose.notSynchronized Bd
  have hml : c.maxLocals = 2 := hml0
  have hown : s.vm.findClass "com/example/vett/vett/Grantee" = some m.cls := findClass_of_methodNamed Bd.named
  have hnm := (name_of_methodNamed Bd.named Bd.method).1
  have X0 : Stand p l e ({ frames := 3, cells := 1, slots := 1, locals := 38 } : Room) s m #[(.ref sx)] below meth c s₁ [] 0 0 := Stand.of_body Bd
  have e0 : s₁.heap = h0 := by rw [← hh, Bd.state]; rfl
  have N0 := Fr.nil n0
  show OG p e below s ({ frames := 3, cells := 1, slots := 1, locals := 38 } : Room).cells ({ frames := 3, cells := 1, slots := 1, locals := 38 } : Room).slots (QU Z sx cs wG wR uG uR wE zc h0 n0) _
  refine OG.of (fun oT oK => castTop (ef_U m sx) oK) ?_
  show OG p e below s _ _ _ (s₁.setTop (mkF m 0 (own_L9 sx) []))
  obtain ⟨SG, SR, SE, SC, hzc, EG, ER, FGu, FRu, FGg, FRg, TG, TR, EE, FE⟩ := id hst
  obtain ⟨_, _, ⟨T1, L1, k1, n1⟩, -, X1, ⟨Lc1, hQ1, l1, y1, z1⟩, st1⟩ := Jvm.LawKit.callS X0 hx (y := (⟨"java/util/Optional", "empty", "()Ljava/util/Optional;"⟩ : MethodName)) hown (mvT hZ (own_at hw 39 rfl)) (mvT hZ (own_at hw 40 rfl)) (mvT hZ (own_at hw 41 rfl)) (mvT hZ (own_at hw 42 rfl)) (by decide) (backOf (W := 0) (rmE l Z a0 hw []  wG wR uG uR wE zc h0 n0 (Z0) hO hst) hZ (own_at hw 42 rfl) (own_at hw 41 rfl) (by decide) (by decide)) (g := (mkF m 0 (own_L9 sx) [])) rfl (by rw [hml]; rfl) (argsL := []) (rest := []) (lenOf pd___Ljava_util_Optional_ rfl) rfl (by show 2 * 0 + _ ≤ _; exact Nat.le_of_eq rfl) (hb hby dU_0) (fun _ _ => ⟨rfl, e0, (by decide : 0 + 0 ≤ _), (by decide : 0 + 0 ≤ _)⟩)
  dsimp only [Pt.U, Pt.locs, Pt.cells, Pt.slots] at X1 l1 y1 z1 st1 hQ1
  subst l1 y1 z1
  obtain ⟨hv1, N1q, e1⟩ := hQ1
  obtain rfl := hv1.trans (show _ = some (.ref wE) from rfl)
  have N1 := Fr.app N0 N1q
  refine OG.of st1 ?_
  show OG _ _ _ _ _ _ _ (T1.setTop (mkF m 3 (own_L9 sx) [(.ref wE)]))
  refine OG.of (A := T1.setTop (mkF m 4 (own_L5 sx wE) [])) (fun oT oK => ?_) ?_
  · skip
    refine XS.astoreN X1.here hx rfl (hb hby dU_3) rfl rfl (l' := (own_L5 sx wE)) rfl ?_
    exact oK
  obtain ⟨T2, X2, e2, st2⟩ := getS2 X1 hx hZ hown (host := "") (Or.inl (own_at hw 44 rfl)) Via.refl e1 (SG.ext (hO).2) (g := (mkF m 4 (own_L5 sx wE) [])) rfl (hb hby dU_4)
  refine OG.of st2 ?_
  show OG _ _ _ _ _ _ _ (T2.setTop (mkF m 7 (own_L5 sx wE) [(.ref wG)]))
  obtain ⟨T3, X3, e3, st3⟩ := getF X2 hx hZ hown (host := "") (Or.inl (own_at hw 46 rfl)) Via.refl e2 (FGu.ext (hO).2) (g := (mkF m 7 (own_L5 sx wE) [(.ref wG)])) rfl rfl (hb hby dU_7)
  refine OG.of st3 ?_
  show OG _ _ _ _ _ _ _ (T3.setTop (mkF m 10 (own_L5 sx wE) [(.ref uG)]))
  refine OG.of (A := T3.setTop (mkF m 11 (own_L5 sx wE) [(.ref sx), (.ref uG)])) (fun oT oK => ?_) ?_
  · skip
    refine XS.aloadN X3.here hx rfl (hb hby dU_10) rfl rfl  ?_
    exact oK
  obtain ⟨ta4, ka4, Na4, va4, Ea4, Va4, Ca4, Aa4, ha4, ba4, la4⟩ := TG.ext (hO).2
  obtain ⟨tb4, kb4, Nb4, vb4, Eb4, Vb4, Cb4, Ab4, hb4, bb4, lb4⟩ := id hT
  obtain ⟨cq4, kq4, q4a, q4b, q4c⟩ := isOf hZ e3 Ea4
  obtain ⟨_, _, ⟨T4, L4, k4, n4⟩, -, X4, ⟨Lc4, hQ4, l4, y4, z4⟩, st4⟩ := X3.virtualBack hx (y := (⟨"java/lang/String", "equals", "(Ljava/lang/Object;)Z"⟩ : MethodName)) (z := (⟨"java/lang/String", "equals", "(Ljava/lang/Object;)Z"⟩ : MethodName)) hown (mvT hZ (own_at hw 48 rfl)) (mvT hZ (own_at hw 49 rfl)) (notFace_of_selects (args := #[]) (mvT hZ (own_at hw 51 rfl))) (mvT hZ (own_at hw 51 rfl)) (mvT hZ (own_at hw 50 rfl)) (by decide) (StrChars.Road.eqW (W := 0) hZ (own_wsE hw) (kI := 4) (own_at hw 7 rfl) Ea4 Va4 Ca4 Aa4 ha4 (own_65 ba4) la4 Eb4 Vb4 Cb4 Ab4 hb4 (own_65 bb4) lb4 (SC.ext (hO).2) hzc (by decide) (by decide)) q4a q4c (g := (mkF m 11 (own_L5 sx wE) [(.ref sx), (.ref uG)])) rfl (by rw [hml]; rfl) (Steps.refl _) (argsL := [(.ref sx)]) (rest := []) (lenOf pd__Ljava_lang_Object__Z rfl) rfl (by show 2 * 0 + _ ≤ _; exact Nat.le_of_eq rfl) (hb hby dU_11) (fun _ _ => ⟨rfl, e3, (by decide : 0 + 0 ≤ _), (by decide : 0 + 0 ≤ _)⟩)
  dsimp only [Pt.U, Pt.locs, Pt.cells, Pt.slots] at X4 l4 y4 z4 st4 hQ4
  subst l4 y4 z4
  obtain ⟨hv4, hl4, eh4⟩ := hQ4
  subst hl4
  have N4 := Fr.app N1 (Fr.nil n0)
  rcases hv4 with ⟨rfl, hs4⟩ | ⟨rfl, hs4⟩
  · refine OG.trans st4 ?_
    show OG _ _ _ _ _ _ _ (T4.setTop (mkF m 14 (own_L5 sx wE) [(.int (1 : Int32))]))
    refine OG.of (A := T4.setTop (mkF m 17 (own_L5 sx wE) [])) (fun oT oK => ?_) ?_
    · skip
      refine XS.ifNo X4.here hx rfl (hb hby dU_14) rfl (XT.i0_eq_f (by decide)) ?_
      exact oK
    obtain ⟨T5, X5, e5, st5⟩ := getS2 X4 hx hZ hown (host := "") (Or.inl (own_at hw 44 rfl)) Via.refl eh4 (SG.ext (hO).2) (g := (mkF m 17 (own_L5 sx wE) [])) rfl (hb hby dU_17)
    refine OG.of st5 ?_
    show OG _ _ _ _ _ _ _ (T5.setTop (mkF m 20 (own_L5 sx wE) [(.ref wG)]))
    obtain ⟨_, _, ⟨T6, L6, k6, n6⟩, -, X6, ⟨Lc6, hQ6, l6, y6, z6⟩, st6⟩ := Jvm.LawKit.callS X5 hx (y := (⟨"java/util/Optional", "of", "(Ljava/lang/Object;)Ljava/util/Optional;"⟩ : MethodName)) hown (mvT hZ (own_at hw 58 rfl)) (mvT hZ (own_at hw 59 rfl)) (mvT hZ (own_at hw 41 rfl)) (mvT hZ (own_at hw 60 rfl)) (by decide) (backOf (W := 0) (rmY l Z a0 hw [] wG h0 n0 (Z0)) hZ (own_at hw 60 rfl) (own_at hw 41 rfl) (by decide) (by decide)) (g := (mkF m 20 (own_L5 sx wE) [(.ref wG)])) rfl (by rw [hml]; rfl) (argsL := [(.ref wG)]) (rest := []) (lenOf pd__Ljava_lang_Object__Ljava_util_Optional_ rfl) rfl (by show 2 * 0 + _ ≤ _; exact Nat.le_of_eq rfl) (hb hby dU_20) (fun _ _ => ⟨rfl, e5, (by decide : 0 + 1 ≤ _), (by decide : 0 + 1 ≤ _)⟩)
    dsimp only [Pt.U, Pt.locs, Pt.cells, Pt.slots] at X6 l6 y6 z6 st6 hQ6
    subst l6 y6 z6
    obtain ⟨r6, rfl, N6q, Kc6, fE6, fV6⟩ := hQ6
    have N6 := Fr.app N4 N6q
    have f1 := (hT).keep0 Kc6
    have f2 := (hO).keep Kc6 all0
    have K6 : Keep h0 T6.heap [] := (Keep.refl h0 []).trans Kc6 all0
    have Z6 : n0 ≤ T6.heap.size := Nat.le_trans Z0 Kc6.1
    refine OG.of st6 ?_
    show OG _ _ _ _ _ _ _ (T6.setTop (mkF m 23 (own_L5 sx wE) [(.ref r6)]))
    refine OG.of (A := T6.setTop (mkF m 48 (own_L5 sx r6) [(.ref r6)])) (fun oT oK => ?_) ?_
    · skip
      refine XS.astoreN X6.here hx rfl (hb hby dU_23) rfl rfl (l' := (own_L5 sx r6)) rfl ?_
      show Steps p.tables e below (T6.setTop (mkF m 24 (own_L5 sx r6) [])) _
      refine XS.goto X6.here hx rfl (pc0 := 24) (pc' := 47) rfl (hb hby dU_24) (by decide) (by decide) ?_
      refine XS.aloadN X6.here hx rfl (hb hby dU_47) rfl rfl  ?_
      exact oK
    refine OG.retA X6 hx Bd.returns rfl rfl (hb hby dU_48) hlk ?_ (by decide) (by decide)
    exact ⟨r6, _, rfl, N6, K6, fE6, fV6, Or.inl ⟨hs4.symm, rfl⟩⟩
  · refine OG.trans st4 ?_
    show OG _ _ _ _ _ _ _ (T4.setTop (mkF m 14 (own_L5 sx wE) [(.int (0 : Int32))]))
    refine OG.of (A := T4.setTop (mkF m 27 (own_L5 sx wE) [])) (fun oT oK => ?_) ?_
    · skip
      refine XS.ifYes X4.here hx rfl (pc0 := 14) (pc' := 27) rfl (hb hby dU_14) rfl (XT.i0_eq_t rfl) (by decide) (by decide) ?_
      exact oK
    obtain ⟨T7, X7, e7, st7⟩ := getS2 X4 hx hZ hown (host := "") (Or.inl (own_at hw 98 rfl)) Via.refl eh4 (SR.ext (hO).2) (g := (mkF m 27 (own_L5 sx wE) [])) rfl (hb hby dU_27)
    refine OG.of st7 ?_
    show OG _ _ _ _ _ _ _ (T7.setTop (mkF m 30 (own_L5 sx wE) [(.ref wR)]))
    obtain ⟨T8, X8, e8, st8⟩ := getF X7 hx hZ hown (host := "") (Or.inl (own_at hw 46 rfl)) Via.refl e7 (FRu.ext (hO).2) (g := (mkF m 30 (own_L5 sx wE) [(.ref wR)])) rfl rfl (hb hby dU_30)
    refine OG.of st8 ?_
    show OG _ _ _ _ _ _ _ (T8.setTop (mkF m 33 (own_L5 sx wE) [(.ref uR)]))
    refine OG.of (A := T8.setTop (mkF m 34 (own_L5 sx wE) [(.ref sx), (.ref uR)])) (fun oT oK => ?_) ?_
    · skip
      refine XS.aloadN X8.here hx rfl (hb hby dU_33) rfl rfl  ?_
      exact oK
    obtain ⟨ta9, ka9, Na9, va9, Ea9, Va9, Ca9, Aa9, ha9, ba9, la9⟩ := TR.ext (hO).2
    obtain ⟨tb9, kb9, Nb9, vb9, Eb9, Vb9, Cb9, Ab9, hb9, bb9, lb9⟩ := id hT
    obtain ⟨cq9, kq9, q9a, q9b, q9c⟩ := isOf hZ e8 Ea9
    obtain ⟨_, _, ⟨T9, L9, k9, n9⟩, -, X9, ⟨Lc9, hQ9, l9, y9, z9⟩, st9⟩ := X8.virtualBack hx (y := (⟨"java/lang/String", "equals", "(Ljava/lang/Object;)Z"⟩ : MethodName)) (z := (⟨"java/lang/String", "equals", "(Ljava/lang/Object;)Z"⟩ : MethodName)) hown (mvT hZ (own_at hw 48 rfl)) (mvT hZ (own_at hw 49 rfl)) (notFace_of_selects (args := #[]) (mvT hZ (own_at hw 51 rfl))) (mvT hZ (own_at hw 51 rfl)) (mvT hZ (own_at hw 50 rfl)) (by decide) (StrChars.Road.eqW (W := 0) hZ (own_wsE hw) (kI := 4) (own_at hw 7 rfl) Ea9 Va9 Ca9 Aa9 ha9 (own_65 ba9) la9 Eb9 Vb9 Cb9 Ab9 hb9 (own_65 bb9) lb9 (SC.ext (hO).2) hzc (by decide) (by decide)) q9a q9c (g := (mkF m 34 (own_L5 sx wE) [(.ref sx), (.ref uR)])) rfl (by rw [hml]; rfl) (Steps.refl _) (argsL := [(.ref sx)]) (rest := []) (lenOf pd__Ljava_lang_Object__Z rfl) rfl (by show 2 * 0 + _ ≤ _; exact Nat.le_of_eq rfl) (hb hby dU_34) (fun _ _ => ⟨rfl, e8, (by decide : 0 + 0 ≤ _), (by decide : 0 + 0 ≤ _)⟩)
    dsimp only [Pt.U, Pt.locs, Pt.cells, Pt.slots] at X9 l9 y9 z9 st9 hQ9
    subst l9 y9 z9
    obtain ⟨hv9, hl9, eh9⟩ := hQ9
    subst hl9
    have N9 := Fr.app N4 (Fr.nil n0)
    rcases hv9 with ⟨rfl, hs9⟩ | ⟨rfl, hs9⟩
    · refine OG.trans st9 ?_
      show OG _ _ _ _ _ _ _ (T9.setTop (mkF m 37 (own_L5 sx wE) [(.int (1 : Int32))]))
      refine OG.of (A := T9.setTop (mkF m 40 (own_L5 sx wE) [])) (fun oT oK => ?_) ?_
      · skip
        refine XS.ifNo X9.here hx rfl (hb hby dU_37) rfl (XT.i0_eq_f (by decide)) ?_
        exact oK
      obtain ⟨T10, X10, e10, st10⟩ := getS2 X9 hx hZ hown (host := "") (Or.inl (own_at hw 98 rfl)) Via.refl eh9 (SR.ext (hO).2) (g := (mkF m 40 (own_L5 sx wE) [])) rfl (hb hby dU_40)
      refine OG.of st10 ?_
      show OG _ _ _ _ _ _ _ (T10.setTop (mkF m 43 (own_L5 sx wE) [(.ref wR)]))
      obtain ⟨_, _, ⟨T11, L11, k11, n11⟩, -, X11, ⟨Lc11, hQ11, l11, y11, z11⟩, st11⟩ := Jvm.LawKit.callS X10 hx (y := (⟨"java/util/Optional", "of", "(Ljava/lang/Object;)Ljava/util/Optional;"⟩ : MethodName)) hown (mvT hZ (own_at hw 58 rfl)) (mvT hZ (own_at hw 59 rfl)) (mvT hZ (own_at hw 41 rfl)) (mvT hZ (own_at hw 60 rfl)) (by decide) (backOf (W := 0) (rmY l Z a0 hw [] wR h0 n0 (Z0)) hZ (own_at hw 60 rfl) (own_at hw 41 rfl) (by decide) (by decide)) (g := (mkF m 43 (own_L5 sx wE) [(.ref wR)])) rfl (by rw [hml]; rfl) (argsL := [(.ref wR)]) (rest := []) (lenOf pd__Ljava_lang_Object__Ljava_util_Optional_ rfl) rfl (by show 2 * 0 + _ ≤ _; exact Nat.le_of_eq rfl) (hb hby dU_43) (fun _ _ => ⟨rfl, e10, (by decide : 0 + 1 ≤ _), (by decide : 0 + 1 ≤ _)⟩)
      dsimp only [Pt.U, Pt.locs, Pt.cells, Pt.slots] at X11 l11 y11 z11 st11 hQ11
      subst l11 y11 z11
      obtain ⟨r11, rfl, N11q, Kc11, fE11, fV11⟩ := hQ11
      have N11 := Fr.app N9 N11q
      have f3 := (hT).keep0 Kc11
      have f4 := (hO).keep Kc11 all0
      have K11 : Keep h0 T11.heap [] := (Keep.refl h0 []).trans Kc11 all0
      have Z11 : n0 ≤ T11.heap.size := Nat.le_trans Z0 Kc11.1
      refine OG.of st11 ?_
      show OG _ _ _ _ _ _ _ (T11.setTop (mkF m 46 (own_L5 sx wE) [(.ref r11)]))
      refine OG.of (A := T11.setTop (mkF m 48 (own_L5 sx r11) [(.ref r11)])) (fun oT oK => ?_) ?_
      · skip
        refine XS.astoreN X11.here hx rfl (hb hby dU_46) rfl rfl (l' := (own_L5 sx r11)) rfl ?_
        show Steps p.tables e below (T11.setTop (mkF m 47 (own_L5 sx r11) [])) _
        refine XS.aloadN X11.here hx rfl (hb hby dU_47) rfl rfl  ?_
        exact oK
      refine OG.retA X11 hx Bd.returns rfl rfl (hb hby dU_48) hlk ?_ (by decide) (by decide)
      exact ⟨r11, _, rfl, N11, K11, fE11, fV11, Or.inr (Or.inl ⟨fun q => hs4 q.symm, hs9.symm, rfl⟩)⟩
    · refine OG.trans st9 ?_
      show OG _ _ _ _ _ _ _ (T9.setTop (mkF m 37 (own_L5 sx wE) [(.int (0 : Int32))]))
      refine OG.of (A := T9.setTop (mkF m 48 (own_L5 sx wE) [(.ref wE)])) (fun oT oK => ?_) ?_
      · skip
        refine XS.ifYes X9.here hx rfl (pc0 := 37) (pc' := 47) rfl (hb hby dU_37) rfl (XT.i0_eq_t rfl) (by decide) (by decide) ?_
        show Steps p.tables e below (T9.setTop (mkF m 47 (own_L5 sx wE) [])) _
        refine XS.aloadN X9.here hx rfl (hb hby dU_47) rfl rfl  ?_
        exact oK
      refine OG.retA X9 hx Bd.returns rfl rfl (hb hby dU_48) hlk ?_ (by decide) (by decide)
      try rw [eh9]
      exact ⟨wE, _, rfl, N9, Keep.refl h0 [], (EE.ext (hO).2), (FE.ext (hO).2), Or.inr (Or.inr ⟨fun q => hs4 q.symm, fun q => hs9 q.symm, rfl⟩)⟩
theorem dW_0 : decode jdk_42_method_149_code 0 = .ok (.aload_n 0, 1) := by decide +kernel
theorem dW_1 : decode jdk_42_method_149_code 1 = .ok (.invokespecial 1, 3) := by decide +kernel
theorem dW_4 : decode jdk_42_method_149_code 4 = .ok (.iload_n 3, 1) := by decide +kernel
theorem dW_5 : decode jdk_42_method_149_code 5 = .ok (.ifCond .ne 22, 3) := by decide +kernel
theorem dW_8 : decode jdk_42_method_149_code 8 = .ok (.aload_n 0, 1) := by decide +kernel
theorem dW_9 : decode jdk_42_method_149_code 9 = .ok (.ldc 7, 2) := by decide +kernel
theorem dW_11 : decode jdk_42_method_149_code 11 = .ok (.getfield 9, 3) := by decide +kernel
theorem dW_14 : decode jdk_42_method_149_code 14 = .ok (.putfield 9, 3) := by decide +kernel
theorem dW_17 : decode jdk_42_method_149_code 17 = .ok (.aload_n 0, 1) := by decide +kernel
theorem dW_18 : decode jdk_42_method_149_code 18 = .ok (.ldc 7, 2) := by decide +kernel
theorem dW_20 : decode jdk_42_method_149_code 20 = .ok (.getfield 15, 3) := by decide +kernel
theorem dW_23 : decode jdk_42_method_149_code 23 = .ok (.putfield 15, 3) := by decide +kernel
theorem dW_26 : decode jdk_42_method_149_code 26 = .ok (.return_, 1) := by decide +kernel
theorem pn_W : plainName "java/lang/String" = true := by first | (simp [plainName, overriddenIn]; done) | decide +kernel
theorem ef_W (m : MethodId) (x0 : Addr) (x1 : Addr) (x2 : Int32) (x3 : Int32) : entryFrame m #[(.ref x0), (.ref x1), (.int x2), (.int x3), .null] 6 = mkF m 0 #[.val (.ref x0), .val (.ref x1), .val (.int x2), .val (.int x3), .val .null, .unset] [] := by first | (simp [entryFrame, mkF, argsToLocals, Value.category]; done) | rfl
def QW (Z : State) (a : Addr) (b : Addr) (h0 : Heap) (n0 : Nat) (v : Option Value) (h : Heap) (L : List Loc) : Prop := v = none ∧ Fr n0 L ∧ Keep h0 h [a] ∧ ∃ (t : Addr) (kc : ClassId), Exa Z h a "java/lang/String" ∧ Fld Z h a "java/lang/String" "value" "[B" (.ref t) ∧ Fld Z h a "java/lang/String" "coder" "B" (.int (0 : Int32)) ∧ Arv Z h t kc .byte (0 : Int32) [] (.int (0 : Int32))
set_option maxRecDepth 65536 in
set_option maxHeartbeats 40000000 in
theorem rmW (l : Launch) (Z : State) (a0 : Array Value) (hw : ∀ d ∈ tables_1, d.before a0 Z = true) (ws : List Jvm.Cond) (a : Addr) (b : Addr) (h0 : Heap) (n0 : Nat) (Z0 : n0 ≤ h0.size) (E_a : Exa Z h0 a "java/lang/String") (F_v : Fld Z h0 a "java/lang/String" "value" "[B" .null) (F_c : Fld Z h0 a "java/lang/String" "coder" "B" (.int (0 : Int32))) (g_a : n0 ≤ a) :
    MetFree l (⟨"java/lang/String", "<init>", "([CIILjava/lang/Void;)V"⟩ : MethodName) (head1 (Jvm.Cond.code (⟨"java/lang/String", "<init>", "([CIILjava/lang/Void;)V"⟩ : MethodName) jdk_42_method_149_code 6 none :: ws) ({ frames := 1, cells := 4, slots := 8, locals := 12 } : Room)) (fun aA oU => aA = #[(.ref a), (.ref b), (.int (0 : Int32)), (.int (0 : Int32)), .null] ∧ Z.Warmed39 oU.vm ∧ oU.heap = h0 ∧ CHv Z OEL oU.vm h0) (fun _ _ _ _ _ => True) (fun _ oU oO oU' => ∃ oV oL, oO = .returned oV ∧ QW Z a b h0 n0 oV oU'.heap oL ∧ CHr Z OEL oU.vm oU.heap oU'.vm oU'.heap ∧ ReturnedEndW oU oO oU' oL ({ frames := 1, cells := 4, slots := 8, locals := 12 } : Room).cells ({ frames := 1, cells := 4, slots := 8, locals := 12 } : Room).slots) := by
  refine MetFree.of_bodySF (plainFor_of_name pn_W) hisR ?_
  intro p e s m args below meth c s₁ Bd hml0 hP hK
  obtain ⟨rfl, hZ, hh, hCV⟩ := hP
  have hx := Bd.exec
  have hby := Bd.bytes
  have hlk := BodyLoose.notSynchronized Bd
  have hml : c.maxLocals = 6 := hml0
  have hown : s.vm.findClass "java/lang/String" = some m.cls := findClass_of_methodNamed Bd.named
  have hnm := (name_of_methodNamed Bd.named Bd.method).1
  have X0 : Stand p l e ({ frames := 1, cells := 4, slots := 8, locals := 12 } : Room) s m #[(.ref a), (.ref b), (.int (0 : Int32)), (.int (0 : Int32)), .null] below meth c s₁ [] 0 0 := Stand.of_body Bd
  have e0 : s₁.heap = h0 := by rw [← hh, Bd.state]; rfl
  have N0 := Fr.nil n0
  have X0 : Stand p l e ({ frames := 1, cells := 4, slots := 8, locals := 12 } : Room) (s.setVm s.vm) m #[(.ref a), (.ref b), (.int (0 : Int32)), (.int (0 : Int32)), .null] below meth c s₁ [] 0 0 := X0
  have hS : s.Since s.vm s.heap.size := (State.WarmedH.refl s).since s.heap.size
  have hkS : s.heap.size ≤ h0.size := by rw [← hh]; exact Nat.le_refl _
  have hCR : CHr Z OEL s.vm s.heap s.vm h0 := by rw [hh]; exact CHr.refl hCV
  have hEL := own_EW hw
  show OGW Z OEL p e below s ({ frames := 1, cells := 4, slots := 8, locals := 12 } : Room).cells ({ frames := 1, cells := 4, slots := 8, locals := 12 } : Room).slots (QW Z a b h0 n0) _
  refine OGW.of (fun oT oK => castTop (ef_W m a b (0 : Int32) (0 : Int32)) oK) ?_
  show OGW _ _ p e below s _ _ _ (s₁.setTop (mkF m 0 (own_L10 a b (0 : Int32) (0 : Int32) .null) []))
  have hsf : Safe Z OEL s.vm h0 a := own_safe hZ.alike E_a F_v
  refine OGW.of (A := s₁.setTop (mkF m 1 (own_L10 a b (0 : Int32) (0 : Int32) .null) [(.ref a)])) (fun oT oK => ?_) ?_
  · skip
    refine XS.aloadN X0.here hx rfl (hb hby dW_0) rfl rfl  ?_
    exact oK
  obtain ⟨T1, X1, e1, st1⟩ := initO X0 hx hZ hown (own_at hw 16 rfl) (own_at hw 17 rfl) (own_at hw 18 rfl) e0 (g := (mkF m 1 (own_L10 a b (0 : Int32) (0 : Int32) .null) [(.ref a)])) rfl (by rw [hml]; rfl) rfl (hb hby dW_1) (by decide) (W := 0) (by show 2 * 0 + _ ≤ _; exact Nat.le_of_eq rfl) (by decide)
  refine OGW.of st1 ?_
  show OGW _ _ _ _ _ _ _ _ _ (T1.setTop (mkF m 4 (own_L10 a b (0 : Int32) (0 : Int32) .null) []))
  refine OGW.of (A := T1.setTop (mkF m 9 (own_L10 a b (0 : Int32) (0 : Int32) .null) [(.ref a)])) (fun oT oK => ?_) ?_
  · skip
    refine XS.iloadN X1.here hx rfl (hb hby dW_4) rfl  ?_
    show Steps p.tables e below (T1.setTop (mkF m 5 (own_L10 a b (0 : Int32) (0 : Int32) .null) [(.int (0 : Int32))])) _
    refine XS.ifNo X1.here hx rfl (hb hby dW_5) rfl (XT.i0_ne_f rfl) ?_
    refine XS.aloadN X1.here hx rfl (hb hby dW_8) rfl rfl  ?_
    exact oK
  obtain ⟨a2, T2, h2, k2, b2, kc2, X2, e2, E2, hS, hkS, hZ, hown, A2, FC2, FV2, V2, -, -, hC2, -, sf2, st2⟩ := ldcCH X1 hx hZ hown (own_at hw 107 rfl) (own_wS hw) e1 hS hkS hEL (own_mem_7) hCR.1 (vs := []) (z := (0 : Int32)) (by decide +kernel) (by decide) (by decide) (g := (mkF m 9 (own_L10 a b (0 : Int32) (0 : Int32) .null) [(.ref a)])) rfl (hb hby dW_9) (n := 0) (by decide) (by decide) (by decide) (by decide)
  have f1 := (E_a).ext E2
  have f2 := (F_v).ext E2
  have f3 := (F_c).ext E2
  have f4 := hC2.safe (E_a).lt hsf
  have ne_a_a2 := (sf2 _ f4).1
  have ne_a_b2 := (sf2 _ f4).2
  have hCR := hCR.trans hC2
  have Z2 : n0 ≤ h2.size := Nat.le_trans Z0 E2.1
  have K2 : Keep h0 h2 [a] := (Keep.refl h0 [a]).ext E2
  refine OGW.of st2 ?_
  show OGW _ _ _ _ _ _ _ _ _ (T2.setTop (mkF m 11 (own_L10 a b (0 : Int32) (0 : Int32) .null) [(.ref a2), (.ref a)]))
  obtain ⟨T3, X3, e3, st3⟩ := getF X2 hx hZ hown (host := "") (Or.inl (own_at hw 33 rfl)) Via.refl e2 FV2 (g := (mkF m 11 (own_L10 a b (0 : Int32) (0 : Int32) .null) [(.ref a2), (.ref a)])) rfl rfl (hb hby dW_11)
  refine OGW.of st3 ?_
  show OGW _ _ _ _ _ _ _ _ _ (T3.setTop (mkF m 14 (own_L10 a b (0 : Int32) (0 : Int32) .null) [(.ref b2), (.ref a)]))
  obtain ⟨T4, h4, X4, e4, W4, st4⟩ := putF X3 hx hZ hown (host := "") (Or.inl (own_at hw 33 rfl)) Via.refl e3 f2 f1 (Or.inr ⟨(own_at hw 34 rfl), rfl, hnm⟩) (own_at hw 7 rfl) (ty := (.array .byte)) (by decide) rfl rfl (g := (mkF m 14 (own_L10 a b (0 : Int32) (0 : Int32) .null) [(.ref b2), (.ref a)])) rfl rfl (hb hby dW_14)
  have f5 := (f1).wr W4
  have f6 := (f2).same W4
  have f7 := (f3).other W4 (Or.inr (slot_ne (Or.inr (own_at hw 32 rfl)) (Or.inr (own_at hw 34 rfl)) (by decide) (t := .byte) (t' := (.array .byte)) (by decide) (by decide)))
  have f8 := (A2).wr W4
  have f9 := (FC2).other W4 (Or.inl (Ne.symm ne_a_a2))
  have f10 := (FV2).other W4 (Or.inl (Ne.symm ne_a_a2))
  have f11 := (V2).other W4 (Ne.symm ne_a_b2)
  have K4 : Keep h0 h4 [a] := (K2).wr W4 (Or.inl (by simp))
  have Z4 : n0 ≤ h4.size := Nat.le_trans Z2 (Keep.of_wr W4).1
  have f12 := Safe.wr W4 f4 hCR.1 f4
  have hkS := Nat.le_trans hkS (Keep.of_wr W4).1
  have hCR := hCR.trans (CHr.wr W4 f4 hCR.1)
  have N4 := Fr.snoc X4 N0 g_a
  refine OGW.of st4 ?_
  show OGW _ _ _ _ _ _ _ _ _ (T4.setTop (mkF m 17 (own_L10 a b (0 : Int32) (0 : Int32) .null) []))
  refine OGW.of (A := T4.setTop (mkF m 18 (own_L10 a b (0 : Int32) (0 : Int32) .null) [(.ref a)])) (fun oT oK => ?_) ?_
  · skip
    refine XS.aloadN X4.here hx rfl (hb hby dW_17) rfl rfl  ?_
    exact oK
  obtain ⟨a5, T5, h5, k5, b5, kc5, X5, e5, E5, hS, hkS, hZ, hown, A5, FC5, FV5, V5, -, -, hC5, -, sf5, st5⟩ := ldcCH X4 hx hZ hown (own_at hw 107 rfl) (own_wS hw) e4 hS hkS hEL (own_mem_7) hCR.1 (vs := []) (z := (0 : Int32)) (by decide +kernel) (by decide) (by decide) (g := (mkF m 18 (own_L10 a b (0 : Int32) (0 : Int32) .null) [(.ref a)])) rfl (hb hby dW_18) (n := 0) (by decide) (by decide) (by decide) (by decide)
  have f13 := (f5).ext E5
  have f14 := (f6).ext E5
  have f15 := (f7).ext E5
  have f16 := (f8).ext E5
  have f17 := (f9).ext E5
  have f18 := (f10).ext E5
  have f19 := (f11).ext E5
  have f20 := hC5.safe (f5).lt f12
  have ne_a_a5 := (sf5 _ f20).1
  have ne_a_b5 := (sf5 _ f20).2
  have hCR := hCR.trans hC5
  have Z5 : n0 ≤ h5.size := Nat.le_trans Z4 E5.1
  have K5 : Keep h0 h5 [a] := (K4).ext E5
  refine OGW.of st5 ?_
  show OGW _ _ _ _ _ _ _ _ _ (T5.setTop (mkF m 20 (own_L10 a b (0 : Int32) (0 : Int32) .null) [(.ref a5), (.ref a)]))
  obtain ⟨T6, X6, e6, st6⟩ := getF X5 hx hZ hown (host := "") (Or.inl (own_at hw 31 rfl)) Via.refl e5 FC5 (g := (mkF m 20 (own_L10 a b (0 : Int32) (0 : Int32) .null) [(.ref a5), (.ref a)])) rfl rfl (hb hby dW_20)
  refine OGW.of st6 ?_
  show OGW _ _ _ _ _ _ _ _ _ (T6.setTop (mkF m 23 (own_L10 a b (0 : Int32) (0 : Int32) .null) [(.int (0 : Int32)), (.ref a)]))
  obtain ⟨T7, h7, X7, e7, W7, st7⟩ := putFN X6 hx hZ hown (own_at hw 31 rfl) Via.refl e6 f15 f13 (Or.inr ⟨(own_at hw 32 rfl), rfl, hnm⟩) (own_at hw 7 rfl) (ty := .byte) (v' := (.int (0 : Int32))) (by decide) rfl (by decide) (g := (mkF m 23 (own_L10 a b (0 : Int32) (0 : Int32) .null) [(.int (0 : Int32)), (.ref a)])) rfl rfl (hb hby dW_23)
  have f21 := (f13).wr W7
  have f22 := (f14).other W7 (Or.inr (slot_ne (Or.inr (own_at hw 34 rfl)) (Or.inr (own_at hw 32 rfl)) (by decide) (t := (.array .byte)) (t' := .byte) (by decide) (by decide)))
  have f23 := (f15).same W7
  have f24 := (f16).wr W7
  have f25 := (f17).other W7 (Or.inl (Ne.symm ne_a_a2))
  have f26 := (f18).other W7 (Or.inl (Ne.symm ne_a_a2))
  have f27 := (f19).other W7 (Ne.symm ne_a_b2)
  have f28 := (A5).wr W7
  have f29 := (FC5).other W7 (Or.inl (Ne.symm ne_a_a5))
  have f30 := (FV5).other W7 (Or.inl (Ne.symm ne_a_a5))
  have f31 := (V5).other W7 (Ne.symm ne_a_b5)
  have K7 : Keep h0 h7 [a] := (K5).wr W7 (Or.inl (by simp))
  have Z7 : n0 ≤ h7.size := Nat.le_trans Z5 (Keep.of_wr W7).1
  have f32 := Safe.wr W7 f20 hCR.1 f20
  have hkS := Nat.le_trans hkS (Keep.of_wr W7).1
  have hCR := hCR.trans (CHr.wr W7 f20 hCR.1)
  have N7 := Fr.snoc X7 N4 g_a
  refine OGW.of st7 ?_
  show OGW _ _ _ _ _ _ _ _ _ (T7.setTop (mkF m 26 (own_L10 a b (0 : Int32) (0 : Int32) .null) []))
  refine OGW.retV X7 hx Bd.returns (hb hby dW_26) hlk hS (by rw [e7]; exact hkS) (by rw [e7]; exact hCR.trans (CHv.at X7 hZ hEL hCR.1)) ?_ (by decide) (by decide)
  try rw [e7]
  exact ⟨rfl, N7, K7, b2, kc2, f21, f22, f23, f27⟩
theorem dX_0 : decode jdk_42_method_3_code 0 = .ok (.aload_n 0, 1) := by decide +kernel
theorem dX_1 : decode jdk_42_method_3_code 1 = .ok (.aload_n 1, 1) := by decide +kernel
theorem dX_2 : decode jdk_42_method_3_code 2 = .ok (.iconst 0, 1) := by decide +kernel
theorem dX_3 : decode jdk_42_method_3_code 3 = .ok (.aload_n 1, 1) := by decide +kernel
theorem dX_4 : decode jdk_42_method_3_code 4 = .ok (.arraylength, 1) := by decide +kernel
theorem dX_5 : decode jdk_42_method_3_code 5 = .ok (.aconst_null, 1) := by decide +kernel
theorem dX_6 : decode jdk_42_method_3_code 6 = .ok (.invokespecial 27, 3) := by decide +kernel
theorem dX_9 : decode jdk_42_method_3_code 9 = .ok (.return_, 1) := by decide +kernel
theorem pn_X : plainName "java/lang/String" = true := by first | (simp [plainName, overriddenIn]; done) | decide +kernel
theorem ef_X (m : MethodId) (x0 : Addr) (x1 : Addr) : entryFrame m #[(.ref x0), (.ref x1)] 2 = mkF m 0 #[.val (.ref x0), .val (.ref x1)] [] := by first | (simp [entryFrame, mkF, argsToLocals, Value.category]; done) | rfl
def QX (Z : State) (a : Addr) (b : Addr) (kb : ClassId) (h0 : Heap) (n0 : Nat) (v : Option Value) (h : Heap) (L : List Loc) : Prop := v = none ∧ Fr n0 L ∧ Keep h0 h [a] ∧ ∃ (t : Addr) (kc : ClassId), Exa Z h a "java/lang/String" ∧ Fld Z h a "java/lang/String" "value" "[B" (.ref t) ∧ Fld Z h a "java/lang/String" "coder" "B" (.int (0 : Int32)) ∧ Arv Z h t kc .byte (0 : Int32) [] (.int (0 : Int32))
set_option maxRecDepth 65536 in
set_option maxHeartbeats 40000000 in
theorem rmX (l : Launch) (Z : State) (a0 : Array Value) (hw : ∀ d ∈ tables_1, d.before a0 Z = true) (ws : List Jvm.Cond) (a : Addr) (b : Addr) (kb : ClassId) (h0 : Heap) (n0 : Nat) (Z0 : n0 ≤ h0.size) (E_a : Exa Z h0 a "java/lang/String") (F_v : Fld Z h0 a "java/lang/String" "value" "[B" .null) (F_c : Fld Z h0 a "java/lang/String" "coder" "B" (.int (0 : Int32))) (g_a : n0 ≤ a) (V_b : Arv Z h0 b kb .char (0 : Int32) [] (.int (0 : Int32))) :
    MetFree l (⟨"java/lang/String", "<init>", "([C)V"⟩ : MethodName) (head1 (Jvm.Cond.code (⟨"java/lang/String", "<init>", "([C)V"⟩ : MethodName) jdk_42_method_3_code 2 none :: ws) ({ frames := 2, cells := 4, slots := 8, locals := 29 } : Room)) (fun aA oU => aA = #[(.ref a), (.ref b)] ∧ Z.Warmed39 oU.vm ∧ oU.heap = h0 ∧ CHv Z OEL oU.vm h0) (fun _ _ _ _ _ => True) (fun _ oU oO oU' => ∃ oV oL, oO = .returned oV ∧ QX Z a b kb h0 n0 oV oU'.heap oL ∧ CHr Z OEL oU.vm oU.heap oU'.vm oU'.heap ∧ ReturnedEndW oU oO oU' oL ({ frames := 2, cells := 4, slots := 8, locals := 29 } : Room).cells ({ frames := 2, cells := 4, slots := 8, locals := 29 } : Room).slots) := by
  refine MetFree.of_bodySF (plainFor_of_name pn_X) hisR ?_
  intro p e s m args below meth c s₁ Bd hml0 hP hK
  obtain ⟨rfl, hZ, hh, hCV⟩ := hP
  have hx := Bd.exec
  have hby := Bd.bytes
  have hlk := BodyLoose.notSynchronized Bd
  have hml : c.maxLocals = 2 := hml0
  have hown : s.vm.findClass "java/lang/String" = some m.cls := findClass_of_methodNamed Bd.named
  have hnm := (name_of_methodNamed Bd.named Bd.method).1
  have X0 : Stand p l e ({ frames := 2, cells := 4, slots := 8, locals := 29 } : Room) s m #[(.ref a), (.ref b)] below meth c s₁ [] 0 0 := Stand.of_body Bd
  have e0 : s₁.heap = h0 := by rw [← hh, Bd.state]; rfl
  have N0 := Fr.nil n0
  have X0 : Stand p l e ({ frames := 2, cells := 4, slots := 8, locals := 29 } : Room) (s.setVm s.vm) m #[(.ref a), (.ref b)] below meth c s₁ [] 0 0 := X0
  have hS : s.Since s.vm s.heap.size := (State.WarmedH.refl s).since s.heap.size
  have hkS : s.heap.size ≤ h0.size := by rw [← hh]; exact Nat.le_refl _
  have hCR : CHr Z OEL s.vm s.heap s.vm h0 := by rw [hh]; exact CHr.refl hCV
  have hEL := own_EW hw
  show OGW Z OEL p e below s ({ frames := 2, cells := 4, slots := 8, locals := 29 } : Room).cells ({ frames := 2, cells := 4, slots := 8, locals := 29 } : Room).slots (QX Z a b kb h0 n0) _
  refine OGW.of (fun oT oK => castTop (ef_X m a b) oK) ?_
  show OGW _ _ p e below s _ _ _ (s₁.setTop (mkF m 0 (own_L5 a b) []))
  refine OGW.of (A := s₁.setTop (mkF m 4 (own_L5 a b) [(.ref b), (.int (0 : Int32)), (.ref b), (.ref a)])) (fun oT oK => ?_) ?_
  · skip
    refine XS.aloadN X0.here hx rfl (hb hby dX_0) rfl rfl  ?_
    show Steps p.tables e below (s₁.setTop (mkF m 1 (own_L5 a b) [(.ref a)])) _
    refine XS.aloadN X0.here hx rfl (hb hby dX_1) rfl rfl  ?_
    refine XS.iconst X0.here hx rfl (hb hby dX_2) ?_
    show Steps p.tables e below (s₁.setTop (mkF m 3 (own_L5 a b) [(.int (0 : Int32)), (.ref b), (.ref a)])) _
    refine XS.aloadN X0.here hx rfl (hb hby dX_3) rfl rfl  ?_
    exact oK
  have cf1 := V_b
  obtain ⟨clf1, Arf1, qf1, Sf1, Mf1, Hf1, Gf1⟩ := cf1
  refine OGW.of (X0.arraylength hx (by rw [e0]; exact Arf1.1) (State.isArrayOf_alike hZ.alike Arf1.2.1) (g := (mkF m 4 (own_L5 a b) [(.ref b), (.int (0 : Int32)), (.ref b), (.ref a)])) rfl rfl (hb hby dX_4)) ?_
  rw [len_of Sf1 Mf1]
  show OGW _ _ _ _ _ _ _ _ _ (s₁.setTop (mkF m 5 (own_L5 a b) [(.int (0 : Int32)), (.int (0 : Int32)), (.ref b), (.ref a)]))
  refine OGW.of (A := s₁.setTop (mkF m 6 (own_L5 a b) [.null, (.int (0 : Int32)), (.int (0 : Int32)), (.ref b), (.ref a)])) (fun oT oK => ?_) ?_
  · skip
    refine XS.aconstNull X0.here hx rfl (hb hby dX_5) ?_
    exact oK
  obtain ⟨_, _, ⟨T1, L1, k1, n1⟩, -, X1, hS1, hg1, ⟨Lc1, hQ1, l1, y1, z1, hC1⟩, st1⟩ := X0.specialBackS hx (y := (⟨"java/lang/String", "<init>", "([CIILjava/lang/Void;)V"⟩ : MethodName)) rfl hown (mvT hZ (own_at hw 12 rfl)) (mvT hZ (own_at hw 13 rfl)) (mvT hZ (own_at hw 15 rfl)) (by decide) (backOfSH (W := 0) (rmW l Z a0 hw [] a b h0 n0 (Z0) E_a F_v F_c g_a) hZ (own_at hw 15 rfl) (own_at hw 8 rfl) (by decide) (by decide) hEL hCR.1) (g := (mkF m 6 (own_L5 a b) [.null, (.int (0 : Int32)), (.int (0 : Int32)), (.ref b), (.ref a)])) rfl (by rw [hml]; rfl) (Steps.refl _) (a := a) (argsL := [(.ref b), (.int (0 : Int32)), (.int (0 : Int32)), .null]) (rest := []) (lenOf pd___CIILjava_lang_Void__V rfl) rfl (by show 2 * 0 + _ ≤ _; exact Nat.le_of_eq rfl) (hb hby dX_6) (fun _ _ => ⟨rfl, e0, (by decide : 0 + 4 ≤ _), (by decide : 0 + 8 ≤ _)⟩)
  dsimp only [Pt.U, Pt.locs, Pt.cells, Pt.slots] at X1 l1 y1 z1 st1 hQ1 hS1 hg1 hC1
  subst l1 y1 z1
  obtain ⟨X1, hS, hZ, hown⟩ := rebS hS (show _ ≤ s₁.heap.size by rw [e0]; exact hkS) X1 hS1 hg1 hZ hown
  have hCR := hCR.trans hC1
  have hkS : T1.heap.size ≤ T1.heap.size := Nat.le_refl _
  obtain ⟨rfl, N1q, Kc1, t1, kt1, fE1, fV1, fC1, fA1⟩ := hQ1
  have N1 := Fr.app N0 N1q
  have Z1 : n0 ≤ T1.heap.size := Nat.le_trans Z0 Kc1.1
  have K1 : Keep h0 T1.heap [a] := (Keep.refl h0 [a]).trans Kc1 (allS (Or.inl (by simp)) all0)
  refine OGW.trans st1 ?_
  show OGW _ _ _ _ _ _ _ _ _ (T1.setTop (mkF m 9 (own_L5 a b) []))
  refine OGW.retV X1 hx Bd.returns (hb hby dX_9) hlk hS hkS (hCR.trans (CHv.at X1 hZ hEL hCR.1)) ?_ (by decide) (by decide)
  exact ⟨rfl, N1, K1, t1, kt1, fE1, fV1, fC1, fA1⟩
set_option maxRecDepth 65536 in
set_option maxHeartbeats 40000000 in
theorem own_tail0 {p : Program} {l : Launch} {e : Env} {s : State} {m : MethodId} {args : Array Value} {below : List Frame} {meth : Method} {c : Code} {T0 : State} {locs : List Loc} {Z : State} {a0 : Array Value} {h1 : Heap} {n0 : Nat} (y0 : Int32) (y1 : Int32) (y2 : Int32) (y3 : Int32) (y4 : Int32) (y5 : Int32) (y6 : Addr) (y7 : Int32) (y8 : Int32) (ex : Int32) (sx : Addr) (cs : List Int32) (wG : Addr) (wR : Addr) (uG : Addr) (uR : Addr) (wE : Addr) (zc : Int32)
    (X0 : Stand p l e room_1 s m args below meth c T0 locs 8 60) (hx : p.tables.exec = Jvm.exec) (hZ : Z.Warmed39 s.vm) (hw : ∀ d ∈ tables_1, d.before a0 Z = true) (hby : c.code = code) (hml : c.maxLocals = 16) (hown : s.vm.findClass "com/example/vett/vett/GranteeUserTypePinLaw" = some m.cls) (hlk : meth.locks = false) (hret : meth.sig.returnType = some .boolean) (e0 : T0.heap = h1) (N0 : Fr n0 locs) (Z0 : n0 ≤ h1.size) (hO : Old Z n0 h1) (hst : OSt Z wG wR uG uR wE zc) (hT : OTx Z h1 sx cs) (hex : OEx cs ex) :
    OG p e below s 24 1216 (fun v h L => v = some (.int 1) ∧ Fr n0 L ∧ h1.size ≤ h.size) (T0.setTop (mkF m 366 (own_L19 y0 y1 y2 y3 y4 y5 y6 y7 y8 ex sx) [])) := by
  obtain ⟨SG, SR, SE, SC, hzc, EG, ER, FGu, FRu, FGg, FRg, TG, TR, EE, FE⟩ := id hst
  refine OG.of (A := T0.setTop (mkF m 368 (own_L19 y0 y1 y2 y3 y4 y5 y6 y7 y8 ex sx) [(.ref sx)])) (fun oT oK => ?_) ?_
  · skip
    refine XS.aload X0.here hx rfl (hb hby at_366) rfl rfl  ?_
    exact oK
  obtain ⟨_, _, ⟨T51, L51, k51, n51⟩, -, X51, ⟨Lc51, hQ51, l51, y51, z51⟩, st51⟩ := Jvm.LawKit.callS X0 hx (y := (⟨"com/example/vett/vett/Grantee", "userType", "(Ljava/lang/String;)Ljava/util/Optional;"⟩ : MethodName)) hown (mvT hZ (own_at hw 35 rfl)) (mvT hZ (own_at hw 36 rfl)) (mvT hZ (own_at hw 37 rfl)) (mvT hZ (own_at hw 38 rfl)) (by decide) (backOf (W := 0) (rmU l Z a0 hw [] sx cs wG wR uG uR wE zc h1 n0 (Z0) hO hst hT) hZ (own_at hw 38 rfl) (own_at hw 37 rfl) (by decide) (by decide)) (g := (mkF m 368 (own_L19 y0 y1 y2 y3 y4 y5 y6 y7 y8 ex sx) [(.ref sx)])) rfl (by rw [hml]; rfl) (argsL := [(.ref sx)]) (rest := []) (lenOf pd__Ljava_lang_String__Ljava_util_Optional_ rfl) rfl (by show 2 * 0 + _ ≤ _; exact Nat.le_of_eq rfl) (hb hby at_368) (fun _ _ => ⟨rfl, e0, (by decide : 8 + 1 ≤ _), (by decide : 60 + 1 ≤ _)⟩)
  dsimp only [Pt.U, Pt.locs, Pt.cells, Pt.slots] at X51 l51 y51 z51 st51 hQ51
  subst l51 y51 z51
  obtain ⟨r51, w51, rfl, N51q, Kc51, fE51, fV51, hcs51⟩ := hQ51
  have N51 := Fr.app N0 N51q
  have f1 := (hT).keep0 Kc51
  have f2 := (hO).keep Kc51 all0
  have K51 : Keep h1 T51.heap [] := ((Keep.refl h1 [])).trans Kc51 all0
  have Z51 : n0 ≤ T51.heap.size := Nat.le_trans Z0 Kc51.1
  refine OG.of st51 ?_
  rcases own_join hex hcs51 with ⟨rfl, rfl⟩ | ⟨rfl, rfl⟩ | ⟨rfl, rfl⟩
  · skip
    show OG _ _ _ _ _ _ _ (T51.setTop (mkF m 371 (own_L19 y0 y1 y2 y3 y4 y5 y6 y7 y8 (1 : Int32) sx) [(.ref r51)]))
    refine OG.of (A := T51.setTop (mkF m 405 (own_L20 y0 y1 y2 y3 y4 y5 y6 y7 y8 (1 : Int32) sx r51) [])) (fun oT oK => ?_) ?_
    · skip
      refine XS.astore X51.here hx rfl (hb hby at_371) rfl rfl (l' := (own_L20 y0 y1 y2 y3 y4 y5 y6 y7 y8 (1 : Int32) sx r51)) rfl ?_
      show Steps p.tables e below (T51.setTop (mkF m 373 (own_L20 y0 y1 y2 y3 y4 y5 y6 y7 y8 (1 : Int32) sx r51) [])) _
      refine XS.aload X51.here hx rfl (hb hby at_373) rfl rfl  ?_
      show Steps p.tables e below (T51.setTop (mkF m 375 (own_L20 y0 y1 y2 y3 y4 y5 y6 y7 y8 (1 : Int32) sx r51) [(.ref r51)])) _
      refine XT.ifnonnullYes X51.here hx rfl (pc0 := 375) (pc' := 380) rfl (hb hby at_375) rfl (by decide) (by decide) ?_
      show Steps p.tables e below (T51.setTop (mkF m 380 (own_L20 y0 y1 y2 y3 y4 y5 y6 y7 y8 (1 : Int32) sx r51) [])) _
      refine XS.iload X51.here hx rfl (hb hby at_380) rfl  ?_
      show Steps p.tables e below (T51.setTop (mkF m 382 (own_L20 y0 y1 y2 y3 y4 y5 y6 y7 y8 (1 : Int32) sx r51) [(.int (1 : Int32))])) _
      refine XS.ifYes X51.here hx rfl (pc0 := 382) (pc' := 399) rfl (hb hby at_382) rfl (XT.i0_ne_t (by decide)) (by decide) (by decide) ?_
      show Steps p.tables e below (T51.setTop (mkF m 399 (own_L20 y0 y1 y2 y3 y4 y5 y6 y7 y8 (1 : Int32) sx r51) [])) _
      refine XS.iload X51.here hx rfl (hb hby at_399) rfl  ?_
      refine XS.iconst X51.here hx rfl (hb hby at_401) ?_
      show Steps p.tables e below (T51.setTop (mkF m 402 (own_L20 y0 y1 y2 y3 y4 y5 y6 y7 y8 (1 : Int32) sx r51) [(.int (1 : Int32)), (.int (1 : Int32))])) _
      refine XS.icmpNo X51.here hx rfl (hb hby at_402) rfl (XT.ii_ne_f rfl) ?_
      exact oK
    obtain ⟨T52, X52, e52, st52⟩ := getS2 X51 hx hZ hown (host := "") (Or.inl (own_at hw 74 rfl)) Via.refl rfl (SG.ext (f2).2) (g := (mkF m 405 (own_L20 y0 y1 y2 y3 y4 y5 y6 y7 y8 (1 : Int32) sx r51) [])) rfl (hb hby at_405)
    refine OG.of st52 ?_
    show OG _ _ _ _ _ _ _ (T52.setTop (mkF m 408 (own_L20 y0 y1 y2 y3 y4 y5 y6 y7 y8 (1 : Int32) sx r51) [(.ref wG)]))
    refine OG.of (A := T52.setTop (mkF m 418 (own_L21 y0 y1 y2 y3 y4 y5 y6 y7 y8 (1 : Int32) sx r51 wG) [(.ref r51)])) (fun oT oK => ?_) ?_
    · skip
      refine XS.goto X52.here hx rfl (pc0 := 408) (pc' := 414) rfl (hb hby at_408) (by decide) (by decide) ?_
      show Steps p.tables e below (T52.setTop (mkF m 414 (own_L20 y0 y1 y2 y3 y4 y5 y6 y7 y8 (1 : Int32) sx r51) [(.ref wG)])) _
      refine XS.astore X52.here hx rfl (hb hby at_414) rfl rfl (l' := (own_L21 y0 y1 y2 y3 y4 y5 y6 y7 y8 (1 : Int32) sx r51 wG)) rfl ?_
      refine XS.aload X52.here hx rfl (hb hby at_416) rfl rfl  ?_
      exact oK
    obtain ⟨cq53, kq53, q53a, q53b, q53c⟩ := isOf hZ e52 (fE51)
    obtain ⟨_, _, ⟨T53, L53, k53, n53⟩, -, X53, ⟨Lc53, hQ53, l53, y53, z53⟩, st53⟩ := X52.virtualBack hx (y := (⟨"java/util/Optional", "isPresent", "()Z"⟩ : MethodName)) (z := (⟨"java/util/Optional", "isPresent", "()Z"⟩ : MethodName)) hown (mvT hZ (own_at hw 75 rfl)) (mvT hZ (own_at hw 76 rfl)) (notFace_of_selects (args := #[]) (mvT hZ (own_at hw 78 rfl))) (mvT hZ (own_at hw 78 rfl)) (mvT hZ (own_at hw 77 rfl)) (by decide) (backOf (W := 0) (rmPr l Z a0 hw [] r51 wG T51.heap n0 (Z51) fV51) hZ (own_at hw 79 rfl) (own_at hw 41 rfl) (by decide) (by decide)) q53a q53c (g := (mkF m 418 (own_L21 y0 y1 y2 y3 y4 y5 y6 y7 y8 (1 : Int32) sx r51 wG) [(.ref r51)])) rfl (by rw [hml]; rfl) (Steps.refl _) (argsL := []) (rest := []) (lenOf pd___Z rfl) rfl (by show 2 * 0 + _ ≤ _; exact Nat.le_of_eq rfl) (hb hby at_418) (fun _ _ => ⟨rfl, e52, (by decide : 9 + 0 ≤ _), (by decide : 61 + 0 ≤ _)⟩)
    dsimp only [Pt.U, Pt.locs, Pt.cells, Pt.slots] at X53 l53 y53 z53 st53 hQ53
    subst l53 y53 z53
    obtain ⟨hv53, N53q, e53⟩ := hQ53
    obtain rfl := hv53.trans (show _ = some (.int (1 : Int32)) from rfl)
    have N53 := Fr.app N51 N53q
    refine OG.trans st53 ?_
    show OG _ _ _ _ _ _ _ (T53.setTop (mkF m 421 (own_L21 y0 y1 y2 y3 y4 y5 y6 y7 y8 (1 : Int32) sx r51 wG) [(.int (1 : Int32))]))
    refine OG.of (A := T53.setTop (mkF m 426 (own_L21 y0 y1 y2 y3 y4 y5 y6 y7 y8 (1 : Int32) sx r51 wG) [(.ref r51)])) (fun oT oK => ?_) ?_
    · skip
      refine XS.ifNo X53.here hx rfl (hb hby at_421) rfl (XT.i0_eq_f (by decide)) ?_
      show Steps p.tables e below (T53.setTop (mkF m 424 (own_L21 y0 y1 y2 y3 y4 y5 y6 y7 y8 (1 : Int32) sx r51 wG) [])) _
      refine XS.aload X53.here hx rfl (hb hby at_424) rfl rfl  ?_
      exact oK
    obtain ⟨cq54, kq54, q54a, q54b, q54c⟩ := isOf hZ e53 (fE51)
    obtain ⟨_, _, ⟨T54, L54, k54, n54⟩, -, X54, ⟨Lc54, hQ54, l54, y54, z54⟩, st54⟩ := X53.virtualBack hx (y := (⟨"java/util/Optional", "get", "()Ljava/lang/Object;"⟩ : MethodName)) (z := (⟨"java/util/Optional", "get", "()Ljava/lang/Object;"⟩ : MethodName)) hown (mvT hZ (own_at hw 80 rfl)) (mvT hZ (own_at hw 81 rfl)) (notFace_of_selects (args := #[]) (mvT hZ (own_at hw 83 rfl))) (mvT hZ (own_at hw 83 rfl)) (mvT hZ (own_at hw 82 rfl)) (by decide) (backOf (W := 0) (rmG l Z a0 hw [] r51 wG T51.heap n0 (Z51) fV51) hZ (own_at hw 84 rfl) (own_at hw 41 rfl) (by decide) (by decide)) q54a q54c (g := (mkF m 426 (own_L21 y0 y1 y2 y3 y4 y5 y6 y7 y8 (1 : Int32) sx r51 wG) [(.ref r51)])) rfl (by rw [hml]; rfl) (Steps.refl _) (argsL := []) (rest := []) (lenOf pd___Ljava_lang_Object_ rfl) rfl (by show 2 * 0 + _ ≤ _; exact Nat.le_of_eq rfl) (hb hby at_426) (fun _ _ => ⟨rfl, e53, (by decide : 9 + 0 ≤ _), (by decide : 61 + 0 ≤ _)⟩)
    dsimp only [Pt.U, Pt.locs, Pt.cells, Pt.slots] at X54 l54 y54 z54 st54 hQ54
    subst l54 y54 z54
    obtain ⟨hv54, N54q, e54⟩ := hQ54
    obtain rfl := hv54.trans (show _ = some (.ref wG) from rfl)
    have N54 := Fr.app N53 N54q
    refine OG.trans st54 ?_
    show OG _ _ _ _ _ _ _ (T54.setTop (mkF m 429 (own_L21 y0 y1 y2 y3 y4 y5 y6 y7 y8 (1 : Int32) sx r51 wG) [(.ref wG)]))
    obtain ⟨T55, X55, e55, st55⟩ := castY X54 hx hZ hown (own_at hw 85 rfl) e54 (Ins.self (EG.ext (f2).2)) (g := (mkF m 429 (own_L21 y0 y1 y2 y3 y4 y5 y6 y7 y8 (1 : Int32) sx r51 wG) [(.ref wG)])) rfl rfl (hb hby at_429)
    refine OG.of st55 ?_
    show OG _ _ _ _ _ _ _ (T55.setTop (mkF m 432 (own_L21 y0 y1 y2 y3 y4 y5 y6 y7 y8 (1 : Int32) sx r51 wG) [(.ref wG)]))
    refine OG.of (A := T55.setTop (mkF m 434 (own_L21 y0 y1 y2 y3 y4 y5 y6 y7 y8 (1 : Int32) sx r51 wG) [(.ref wG), (.ref wG)])) (fun oT oK => ?_) ?_
    · skip
      refine XS.aload X55.here hx rfl (hb hby at_432) rfl rfl  ?_
      exact oK
    obtain ⟨cq56, kq56, q56a, q56b, q56c⟩ := isOf hZ e55 ((EG.ext (f2).2))
    obtain ⟨_, _, ⟨T56, L56, k56, n56⟩, -, X56, ⟨Lc56, hQ56, l56, y56, z56⟩, st56⟩ := X55.virtualBack hx (y := (⟨"com/example/vett/vett/Grantee", "equals", "(Ljava/lang/Object;)Z"⟩ : MethodName)) (z := (⟨"com/example/vett/vett/Grantee", "equals", "(Ljava/lang/Object;)Z"⟩ : MethodName)) hown (mvT hZ (own_at hw 87 rfl)) (mvT hZ (own_at hw 88 rfl)) (notFace_of_selects (args := #[]) (mvT hZ (own_at hw 90 rfl))) (mvT hZ (own_at hw 90 rfl)) (mvT hZ (own_at hw 89 rfl)) (by decide) (backOf (W := 0) (rmH l Z a0 hw [] wG uG T51.heap n0 (Z51) (EG.ext (f2).2) (FGu.ext (f2).2) (FGg.ext (f2).2)) hZ (own_at hw 91 rfl) (own_at hw 37 rfl) (by decide) (by decide)) q56a q56c (g := (mkF m 434 (own_L21 y0 y1 y2 y3 y4 y5 y6 y7 y8 (1 : Int32) sx r51 wG) [(.ref wG), (.ref wG)])) rfl (by rw [hml]; rfl) (Steps.refl _) (argsL := [(.ref wG)]) (rest := []) (lenOf pd__Ljava_lang_Object__Z rfl) rfl (by show 2 * 0 + _ ≤ _; exact Nat.le_of_eq rfl) (hb hby at_434) (fun _ _ => ⟨rfl, e55, (by decide : 9 + 0 ≤ _), (by decide : 61 + 0 ≤ _)⟩)
    dsimp only [Pt.U, Pt.locs, Pt.cells, Pt.slots] at X56 l56 y56 z56 st56 hQ56
    subst l56 y56 z56
    obtain ⟨hv56, N56q, e56⟩ := hQ56
    obtain rfl := hv56.trans (show _ = some (.int (1 : Int32)) from rfl)
    have N56 := Fr.app N54 N56q
    refine OG.trans st56 ?_
    show OG _ _ _ _ _ _ _ (T56.setTop (mkF m 437 (own_L21 y0 y1 y2 y3 y4 y5 y6 y7 y8 (1 : Int32) sx r51 wG) [(.int (1 : Int32))]))
    refine OG.of (A := T56.setTop (mkF m 445 (own_L21 y0 y1 y2 y3 y4 y5 y6 y7 y8 (1 : Int32) sx r51 wG) [(.int (1 : Int32))])) (fun oT oK => ?_) ?_
    · skip
      refine XS.ifNo X56.here hx rfl (hb hby at_437) rfl (XT.i0_eq_f (by decide)) ?_
      show Steps p.tables e below (T56.setTop (mkF m 440 (own_L21 y0 y1 y2 y3 y4 y5 y6 y7 y8 (1 : Int32) sx r51 wG) [])) _
      refine XS.iconst X56.here hx rfl (hb hby at_440) ?_
      refine XS.goto X56.here hx rfl (pc0 := 441) (pc' := 445) rfl (hb hby at_441) (by decide) (by decide) ?_
      exact oK
    refine OG.retN X56 hx (t := .boolean) hret (by simp) (hb hby at_445) hlk ?_ (by decide) (by decide)
    try rw [e56]
    exact ⟨rfl, N56, (K51).1⟩
  · skip
    show OG _ _ _ _ _ _ _ (T51.setTop (mkF m 371 (own_L19 y0 y1 y2 y3 y4 y5 y6 y7 y8 (2 : Int32) sx) [(.ref r51)]))
    refine OG.of (A := T51.setTop (mkF m 411 (own_L20 y0 y1 y2 y3 y4 y5 y6 y7 y8 (2 : Int32) sx r51) [])) (fun oT oK => ?_) ?_
    · skip
      refine XS.astore X51.here hx rfl (hb hby at_371) rfl rfl (l' := (own_L20 y0 y1 y2 y3 y4 y5 y6 y7 y8 (2 : Int32) sx r51)) rfl ?_
      show Steps p.tables e below (T51.setTop (mkF m 373 (own_L20 y0 y1 y2 y3 y4 y5 y6 y7 y8 (2 : Int32) sx r51) [])) _
      refine XS.aload X51.here hx rfl (hb hby at_373) rfl rfl  ?_
      show Steps p.tables e below (T51.setTop (mkF m 375 (own_L20 y0 y1 y2 y3 y4 y5 y6 y7 y8 (2 : Int32) sx r51) [(.ref r51)])) _
      refine XT.ifnonnullYes X51.here hx rfl (pc0 := 375) (pc' := 380) rfl (hb hby at_375) rfl (by decide) (by decide) ?_
      show Steps p.tables e below (T51.setTop (mkF m 380 (own_L20 y0 y1 y2 y3 y4 y5 y6 y7 y8 (2 : Int32) sx r51) [])) _
      refine XS.iload X51.here hx rfl (hb hby at_380) rfl  ?_
      show Steps p.tables e below (T51.setTop (mkF m 382 (own_L20 y0 y1 y2 y3 y4 y5 y6 y7 y8 (2 : Int32) sx r51) [(.int (2 : Int32))])) _
      refine XS.ifYes X51.here hx rfl (pc0 := 382) (pc' := 399) rfl (hb hby at_382) rfl (XT.i0_ne_t (by decide)) (by decide) (by decide) ?_
      show Steps p.tables e below (T51.setTop (mkF m 399 (own_L20 y0 y1 y2 y3 y4 y5 y6 y7 y8 (2 : Int32) sx r51) [])) _
      refine XS.iload X51.here hx rfl (hb hby at_399) rfl  ?_
      refine XS.iconst X51.here hx rfl (hb hby at_401) ?_
      show Steps p.tables e below (T51.setTop (mkF m 402 (own_L20 y0 y1 y2 y3 y4 y5 y6 y7 y8 (2 : Int32) sx r51) [(.int (1 : Int32)), (.int (2 : Int32))])) _
      refine XS.icmpYes X51.here hx rfl (pc0 := 402) (pc' := 411) rfl (hb hby at_402) rfl (XT.ii_ne_t (by decide)) (by decide) (by decide) ?_
      exact oK
    obtain ⟨T57, X57, e57, st57⟩ := getS2 X51 hx hZ hown (host := "") (Or.inl (own_at hw 100 rfl)) Via.refl rfl (SR.ext (f2).2) (g := (mkF m 411 (own_L20 y0 y1 y2 y3 y4 y5 y6 y7 y8 (2 : Int32) sx r51) [])) rfl (hb hby at_411)
    refine OG.of st57 ?_
    show OG _ _ _ _ _ _ _ (T57.setTop (mkF m 414 (own_L20 y0 y1 y2 y3 y4 y5 y6 y7 y8 (2 : Int32) sx r51) [(.ref wR)]))
    refine OG.of (A := T57.setTop (mkF m 418 (own_L21 y0 y1 y2 y3 y4 y5 y6 y7 y8 (2 : Int32) sx r51 wR) [(.ref r51)])) (fun oT oK => ?_) ?_
    · skip
      refine XS.astore X57.here hx rfl (hb hby at_414) rfl rfl (l' := (own_L21 y0 y1 y2 y3 y4 y5 y6 y7 y8 (2 : Int32) sx r51 wR)) rfl ?_
      show Steps p.tables e below (T57.setTop (mkF m 416 (own_L21 y0 y1 y2 y3 y4 y5 y6 y7 y8 (2 : Int32) sx r51 wR) [])) _
      refine XS.aload X57.here hx rfl (hb hby at_416) rfl rfl  ?_
      exact oK
    obtain ⟨cq58, kq58, q58a, q58b, q58c⟩ := isOf hZ e57 (fE51)
    obtain ⟨_, _, ⟨T58, L58, k58, n58⟩, -, X58, ⟨Lc58, hQ58, l58, y58, z58⟩, st58⟩ := X57.virtualBack hx (y := (⟨"java/util/Optional", "isPresent", "()Z"⟩ : MethodName)) (z := (⟨"java/util/Optional", "isPresent", "()Z"⟩ : MethodName)) hown (mvT hZ (own_at hw 75 rfl)) (mvT hZ (own_at hw 76 rfl)) (notFace_of_selects (args := #[]) (mvT hZ (own_at hw 78 rfl))) (mvT hZ (own_at hw 78 rfl)) (mvT hZ (own_at hw 77 rfl)) (by decide) (backOf (W := 0) (rmPr l Z a0 hw [] r51 wR T51.heap n0 (Z51) fV51) hZ (own_at hw 79 rfl) (own_at hw 41 rfl) (by decide) (by decide)) q58a q58c (g := (mkF m 418 (own_L21 y0 y1 y2 y3 y4 y5 y6 y7 y8 (2 : Int32) sx r51 wR) [(.ref r51)])) rfl (by rw [hml]; rfl) (Steps.refl _) (argsL := []) (rest := []) (lenOf pd___Z rfl) rfl (by show 2 * 0 + _ ≤ _; exact Nat.le_of_eq rfl) (hb hby at_418) (fun _ _ => ⟨rfl, e57, (by decide : 9 + 0 ≤ _), (by decide : 61 + 0 ≤ _)⟩)
    dsimp only [Pt.U, Pt.locs, Pt.cells, Pt.slots] at X58 l58 y58 z58 st58 hQ58
    subst l58 y58 z58
    obtain ⟨hv58, N58q, e58⟩ := hQ58
    obtain rfl := hv58.trans (show _ = some (.int (1 : Int32)) from rfl)
    have N58 := Fr.app N51 N58q
    refine OG.trans st58 ?_
    show OG _ _ _ _ _ _ _ (T58.setTop (mkF m 421 (own_L21 y0 y1 y2 y3 y4 y5 y6 y7 y8 (2 : Int32) sx r51 wR) [(.int (1 : Int32))]))
    refine OG.of (A := T58.setTop (mkF m 426 (own_L21 y0 y1 y2 y3 y4 y5 y6 y7 y8 (2 : Int32) sx r51 wR) [(.ref r51)])) (fun oT oK => ?_) ?_
    · skip
      refine XS.ifNo X58.here hx rfl (hb hby at_421) rfl (XT.i0_eq_f (by decide)) ?_
      show Steps p.tables e below (T58.setTop (mkF m 424 (own_L21 y0 y1 y2 y3 y4 y5 y6 y7 y8 (2 : Int32) sx r51 wR) [])) _
      refine XS.aload X58.here hx rfl (hb hby at_424) rfl rfl  ?_
      exact oK
    obtain ⟨cq59, kq59, q59a, q59b, q59c⟩ := isOf hZ e58 (fE51)
    obtain ⟨_, _, ⟨T59, L59, k59, n59⟩, -, X59, ⟨Lc59, hQ59, l59, y59, z59⟩, st59⟩ := X58.virtualBack hx (y := (⟨"java/util/Optional", "get", "()Ljava/lang/Object;"⟩ : MethodName)) (z := (⟨"java/util/Optional", "get", "()Ljava/lang/Object;"⟩ : MethodName)) hown (mvT hZ (own_at hw 80 rfl)) (mvT hZ (own_at hw 81 rfl)) (notFace_of_selects (args := #[]) (mvT hZ (own_at hw 83 rfl))) (mvT hZ (own_at hw 83 rfl)) (mvT hZ (own_at hw 82 rfl)) (by decide) (backOf (W := 0) (rmG l Z a0 hw [] r51 wR T51.heap n0 (Z51) fV51) hZ (own_at hw 84 rfl) (own_at hw 41 rfl) (by decide) (by decide)) q59a q59c (g := (mkF m 426 (own_L21 y0 y1 y2 y3 y4 y5 y6 y7 y8 (2 : Int32) sx r51 wR) [(.ref r51)])) rfl (by rw [hml]; rfl) (Steps.refl _) (argsL := []) (rest := []) (lenOf pd___Ljava_lang_Object_ rfl) rfl (by show 2 * 0 + _ ≤ _; exact Nat.le_of_eq rfl) (hb hby at_426) (fun _ _ => ⟨rfl, e58, (by decide : 9 + 0 ≤ _), (by decide : 61 + 0 ≤ _)⟩)
    dsimp only [Pt.U, Pt.locs, Pt.cells, Pt.slots] at X59 l59 y59 z59 st59 hQ59
    subst l59 y59 z59
    obtain ⟨hv59, N59q, e59⟩ := hQ59
    obtain rfl := hv59.trans (show _ = some (.ref wR) from rfl)
    have N59 := Fr.app N58 N59q
    refine OG.trans st59 ?_
    show OG _ _ _ _ _ _ _ (T59.setTop (mkF m 429 (own_L21 y0 y1 y2 y3 y4 y5 y6 y7 y8 (2 : Int32) sx r51 wR) [(.ref wR)]))
    obtain ⟨T60, X60, e60, st60⟩ := castY X59 hx hZ hown (own_at hw 85 rfl) e59 (Ins.self (ER.ext (f2).2)) (g := (mkF m 429 (own_L21 y0 y1 y2 y3 y4 y5 y6 y7 y8 (2 : Int32) sx r51 wR) [(.ref wR)])) rfl rfl (hb hby at_429)
    refine OG.of st60 ?_
    show OG _ _ _ _ _ _ _ (T60.setTop (mkF m 432 (own_L21 y0 y1 y2 y3 y4 y5 y6 y7 y8 (2 : Int32) sx r51 wR) [(.ref wR)]))
    refine OG.of (A := T60.setTop (mkF m 434 (own_L21 y0 y1 y2 y3 y4 y5 y6 y7 y8 (2 : Int32) sx r51 wR) [(.ref wR), (.ref wR)])) (fun oT oK => ?_) ?_
    · skip
      refine XS.aload X60.here hx rfl (hb hby at_432) rfl rfl  ?_
      exact oK
    obtain ⟨cq61, kq61, q61a, q61b, q61c⟩ := isOf hZ e60 ((ER.ext (f2).2))
    obtain ⟨_, _, ⟨T61, L61, k61, n61⟩, -, X61, ⟨Lc61, hQ61, l61, y61, z61⟩, st61⟩ := X60.virtualBack hx (y := (⟨"com/example/vett/vett/Grantee", "equals", "(Ljava/lang/Object;)Z"⟩ : MethodName)) (z := (⟨"com/example/vett/vett/Grantee", "equals", "(Ljava/lang/Object;)Z"⟩ : MethodName)) hown (mvT hZ (own_at hw 87 rfl)) (mvT hZ (own_at hw 88 rfl)) (notFace_of_selects (args := #[]) (mvT hZ (own_at hw 90 rfl))) (mvT hZ (own_at hw 90 rfl)) (mvT hZ (own_at hw 89 rfl)) (by decide) (backOf (W := 0) (rmH l Z a0 hw [] wR uR T51.heap n0 (Z51) (ER.ext (f2).2) (FRu.ext (f2).2) (FRg.ext (f2).2)) hZ (own_at hw 91 rfl) (own_at hw 37 rfl) (by decide) (by decide)) q61a q61c (g := (mkF m 434 (own_L21 y0 y1 y2 y3 y4 y5 y6 y7 y8 (2 : Int32) sx r51 wR) [(.ref wR), (.ref wR)])) rfl (by rw [hml]; rfl) (Steps.refl _) (argsL := [(.ref wR)]) (rest := []) (lenOf pd__Ljava_lang_Object__Z rfl) rfl (by show 2 * 0 + _ ≤ _; exact Nat.le_of_eq rfl) (hb hby at_434) (fun _ _ => ⟨rfl, e60, (by decide : 9 + 0 ≤ _), (by decide : 61 + 0 ≤ _)⟩)
    dsimp only [Pt.U, Pt.locs, Pt.cells, Pt.slots] at X61 l61 y61 z61 st61 hQ61
    subst l61 y61 z61
    obtain ⟨hv61, N61q, e61⟩ := hQ61
    obtain rfl := hv61.trans (show _ = some (.int (1 : Int32)) from rfl)
    have N61 := Fr.app N59 N61q
    refine OG.trans st61 ?_
    show OG _ _ _ _ _ _ _ (T61.setTop (mkF m 437 (own_L21 y0 y1 y2 y3 y4 y5 y6 y7 y8 (2 : Int32) sx r51 wR) [(.int (1 : Int32))]))
    refine OG.of (A := T61.setTop (mkF m 445 (own_L21 y0 y1 y2 y3 y4 y5 y6 y7 y8 (2 : Int32) sx r51 wR) [(.int (1 : Int32))])) (fun oT oK => ?_) ?_
    · skip
      refine XS.ifNo X61.here hx rfl (hb hby at_437) rfl (XT.i0_eq_f (by decide)) ?_
      show Steps p.tables e below (T61.setTop (mkF m 440 (own_L21 y0 y1 y2 y3 y4 y5 y6 y7 y8 (2 : Int32) sx r51 wR) [])) _
      refine XS.iconst X61.here hx rfl (hb hby at_440) ?_
      refine XS.goto X61.here hx rfl (pc0 := 441) (pc' := 445) rfl (hb hby at_441) (by decide) (by decide) ?_
      exact oK
    refine OG.retN X61 hx (t := .boolean) hret (by simp) (hb hby at_445) hlk ?_ (by decide) (by decide)
    try rw [e61]
    exact ⟨rfl, N61, (K51).1⟩
  · skip
    show OG _ _ _ _ _ _ _ (T51.setTop (mkF m 371 (own_L19 y0 y1 y2 y3 y4 y5 y6 y7 y8 (0 : Int32) sx) [(.ref r51)]))
    refine OG.of (A := T51.setTop (mkF m 387 (own_L20 y0 y1 y2 y3 y4 y5 y6 y7 y8 (0 : Int32) sx r51) [(.ref r51)])) (fun oT oK => ?_) ?_
    · skip
      refine XS.astore X51.here hx rfl (hb hby at_371) rfl rfl (l' := (own_L20 y0 y1 y2 y3 y4 y5 y6 y7 y8 (0 : Int32) sx r51)) rfl ?_
      show Steps p.tables e below (T51.setTop (mkF m 373 (own_L20 y0 y1 y2 y3 y4 y5 y6 y7 y8 (0 : Int32) sx r51) [])) _
      refine XS.aload X51.here hx rfl (hb hby at_373) rfl rfl  ?_
      show Steps p.tables e below (T51.setTop (mkF m 375 (own_L20 y0 y1 y2 y3 y4 y5 y6 y7 y8 (0 : Int32) sx r51) [(.ref r51)])) _
      refine XT.ifnonnullYes X51.here hx rfl (pc0 := 375) (pc' := 380) rfl (hb hby at_375) rfl (by decide) (by decide) ?_
      show Steps p.tables e below (T51.setTop (mkF m 380 (own_L20 y0 y1 y2 y3 y4 y5 y6 y7 y8 (0 : Int32) sx r51) [])) _
      refine XS.iload X51.here hx rfl (hb hby at_380) rfl  ?_
      show Steps p.tables e below (T51.setTop (mkF m 382 (own_L20 y0 y1 y2 y3 y4 y5 y6 y7 y8 (0 : Int32) sx r51) [(.int (0 : Int32))])) _
      refine XS.ifNo X51.here hx rfl (hb hby at_382) rfl (XT.i0_ne_f rfl) ?_
      show Steps p.tables e below (T51.setTop (mkF m 385 (own_L20 y0 y1 y2 y3 y4 y5 y6 y7 y8 (0 : Int32) sx r51) [])) _
      refine XS.aload X51.here hx rfl (hb hby at_385) rfl rfl  ?_
      exact oK
    obtain ⟨cq62, kq62, q62a, q62b, q62c⟩ := isOf hZ rfl (fE51)
    obtain ⟨_, _, ⟨T62, L62, k62, n62⟩, -, X62, ⟨Lc62, hQ62, l62, y62, z62⟩, st62⟩ := X51.virtualBack hx (y := (⟨"java/util/Optional", "isPresent", "()Z"⟩ : MethodName)) (z := (⟨"java/util/Optional", "isPresent", "()Z"⟩ : MethodName)) hown (mvT hZ (own_at hw 75 rfl)) (mvT hZ (own_at hw 76 rfl)) (notFace_of_selects (args := #[]) (mvT hZ (own_at hw 78 rfl))) (mvT hZ (own_at hw 78 rfl)) (mvT hZ (own_at hw 77 rfl)) (by decide) (backOf (W := 0) (rmPn l Z a0 hw [] r51  T51.heap n0 (Z51) fV51) hZ (own_at hw 79 rfl) (own_at hw 41 rfl) (by decide) (by decide)) q62a q62c (g := (mkF m 387 (own_L20 y0 y1 y2 y3 y4 y5 y6 y7 y8 (0 : Int32) sx r51) [(.ref r51)])) rfl (by rw [hml]; rfl) (Steps.refl _) (argsL := []) (rest := []) (lenOf pd___Z rfl) rfl (by show 2 * 0 + _ ≤ _; exact Nat.le_of_eq rfl) (hb hby at_387) (fun _ _ => ⟨rfl, rfl, (by decide : 9 + 0 ≤ _), (by decide : 61 + 0 ≤ _)⟩)
    dsimp only [Pt.U, Pt.locs, Pt.cells, Pt.slots] at X62 l62 y62 z62 st62 hQ62
    subst l62 y62 z62
    obtain ⟨hv62, N62q, e62⟩ := hQ62
    obtain rfl := hv62.trans (show _ = some (.int (0 : Int32)) from rfl)
    have N62 := Fr.app N51 N62q
    refine OG.trans st62 ?_
    show OG _ _ _ _ _ _ _ (T62.setTop (mkF m 390 (own_L20 y0 y1 y2 y3 y4 y5 y6 y7 y8 (0 : Int32) sx r51) [(.int (0 : Int32))]))
    refine OG.of (A := T62.setTop (mkF m 398 (own_L20 y0 y1 y2 y3 y4 y5 y6 y7 y8 (0 : Int32) sx r51) [(.int (1 : Int32))])) (fun oT oK => ?_) ?_
    · skip
      refine XS.ifNo X62.here hx rfl (hb hby at_390) rfl (XT.i0_ne_f rfl) ?_
      show Steps p.tables e below (T62.setTop (mkF m 393 (own_L20 y0 y1 y2 y3 y4 y5 y6 y7 y8 (0 : Int32) sx r51) [])) _
      refine XS.iconst X62.here hx rfl (hb hby at_393) ?_
      refine XS.goto X62.here hx rfl (pc0 := 394) (pc' := 398) rfl (hb hby at_394) (by decide) (by decide) ?_
      exact oK
    refine OG.retN X62 hx (t := .boolean) hret (by simp) (hb hby at_398) hlk ?_ (by decide) (by decide)
    try rw [e62]
    exact ⟨rfl, N62, (K51).1⟩
set_option maxRecDepth 65536 in
set_option maxHeartbeats 40000000 in
theorem own_tail1 {p : Program} {l : Launch} {e : Env} {s : State} {m : MethodId} {args : Array Value} {below : List Frame} {meth : Method} {c : Code} {T0 : State} {locs : List Loc} {Z : State} {a0 : Array Value} {h1 : Heap} {n0 : Nat} (y0 : Int32) (y1 : Int32) (y2 : Int32) (y3 : Int32) (y4 : Int32) (y5 : Int32) (y6 : Addr) (y7 : Int32) (y8 : Int32) (ex : Int32) (sx : Addr) (y11 : Int32) (cs : List Int32) (wG : Addr) (wR : Addr) (uG : Addr) (uR : Addr) (wE : Addr) (zc : Int32)
    (X0 : Stand p l e room_1 s m args below meth c T0 locs 8 60) (hx : p.tables.exec = Jvm.exec) (hZ : Z.Warmed39 s.vm) (hw : ∀ d ∈ tables_1, d.before a0 Z = true) (hby : c.code = code) (hml : c.maxLocals = 16) (hown : s.vm.findClass "com/example/vett/vett/GranteeUserTypePinLaw" = some m.cls) (hlk : meth.locks = false) (hret : meth.sig.returnType = some .boolean) (e0 : T0.heap = h1) (N0 : Fr n0 locs) (Z0 : n0 ≤ h1.size) (hO : Old Z n0 h1) (hst : OSt Z wG wR uG uR wE zc) (hT : OTx Z h1 sx cs) (hex : OEx cs ex) :
    OG p e below s 24 1216 (fun v h L => v = some (.int 1) ∧ Fr n0 L ∧ h1.size ≤ h.size) (T0.setTop (mkF m 366 (own_L23 y0 y1 y2 y3 y4 y5 y6 y7 y8 ex sx y11) [])) := by
  obtain ⟨SG, SR, SE, SC, hzc, EG, ER, FGu, FRu, FGg, FRg, TG, TR, EE, FE⟩ := id hst
  refine OG.of (A := T0.setTop (mkF m 368 (own_L23 y0 y1 y2 y3 y4 y5 y6 y7 y8 ex sx y11) [(.ref sx)])) (fun oT oK => ?_) ?_
  · skip
    refine XS.aload X0.here hx rfl (hb hby at_366) rfl rfl  ?_
    exact oK
  obtain ⟨_, _, ⟨T51, L51, k51, n51⟩, -, X51, ⟨Lc51, hQ51, l51, y51, z51⟩, st51⟩ := Jvm.LawKit.callS X0 hx (y := (⟨"com/example/vett/vett/Grantee", "userType", "(Ljava/lang/String;)Ljava/util/Optional;"⟩ : MethodName)) hown (mvT hZ (own_at hw 35 rfl)) (mvT hZ (own_at hw 36 rfl)) (mvT hZ (own_at hw 37 rfl)) (mvT hZ (own_at hw 38 rfl)) (by decide) (backOf (W := 0) (rmU l Z a0 hw [] sx cs wG wR uG uR wE zc h1 n0 (Z0) hO hst hT) hZ (own_at hw 38 rfl) (own_at hw 37 rfl) (by decide) (by decide)) (g := (mkF m 368 (own_L23 y0 y1 y2 y3 y4 y5 y6 y7 y8 ex sx y11) [(.ref sx)])) rfl (by rw [hml]; rfl) (argsL := [(.ref sx)]) (rest := []) (lenOf pd__Ljava_lang_String__Ljava_util_Optional_ rfl) rfl (by show 2 * 0 + _ ≤ _; exact Nat.le_of_eq rfl) (hb hby at_368) (fun _ _ => ⟨rfl, e0, (by decide : 8 + 1 ≤ _), (by decide : 60 + 1 ≤ _)⟩)
  dsimp only [Pt.U, Pt.locs, Pt.cells, Pt.slots] at X51 l51 y51 z51 st51 hQ51
  subst l51 y51 z51
  obtain ⟨r51, w51, rfl, N51q, Kc51, fE51, fV51, hcs51⟩ := hQ51
  have N51 := Fr.app N0 N51q
  have f1 := (hT).keep0 Kc51
  have f2 := (hO).keep Kc51 all0
  have K51 : Keep h1 T51.heap [] := ((Keep.refl h1 [])).trans Kc51 all0
  have Z51 : n0 ≤ T51.heap.size := Nat.le_trans Z0 Kc51.1
  refine OG.of st51 ?_
  rcases own_join hex hcs51 with ⟨rfl, rfl⟩ | ⟨rfl, rfl⟩ | ⟨rfl, rfl⟩
  · skip
    show OG _ _ _ _ _ _ _ (T51.setTop (mkF m 371 (own_L23 y0 y1 y2 y3 y4 y5 y6 y7 y8 (1 : Int32) sx y11) [(.ref r51)]))
    refine OG.of (A := T51.setTop (mkF m 405 (own_L20 y0 y1 y2 y3 y4 y5 y6 y7 y8 (1 : Int32) sx r51) [])) (fun oT oK => ?_) ?_
    · skip
      refine XS.astore X51.here hx rfl (hb hby at_371) rfl rfl (l' := (own_L20 y0 y1 y2 y3 y4 y5 y6 y7 y8 (1 : Int32) sx r51)) rfl ?_
      show Steps p.tables e below (T51.setTop (mkF m 373 (own_L20 y0 y1 y2 y3 y4 y5 y6 y7 y8 (1 : Int32) sx r51) [])) _
      refine XS.aload X51.here hx rfl (hb hby at_373) rfl rfl  ?_
      show Steps p.tables e below (T51.setTop (mkF m 375 (own_L20 y0 y1 y2 y3 y4 y5 y6 y7 y8 (1 : Int32) sx r51) [(.ref r51)])) _
      refine XT.ifnonnullYes X51.here hx rfl (pc0 := 375) (pc' := 380) rfl (hb hby at_375) rfl (by decide) (by decide) ?_
      show Steps p.tables e below (T51.setTop (mkF m 380 (own_L20 y0 y1 y2 y3 y4 y5 y6 y7 y8 (1 : Int32) sx r51) [])) _
      refine XS.iload X51.here hx rfl (hb hby at_380) rfl  ?_
      show Steps p.tables e below (T51.setTop (mkF m 382 (own_L20 y0 y1 y2 y3 y4 y5 y6 y7 y8 (1 : Int32) sx r51) [(.int (1 : Int32))])) _
      refine XS.ifYes X51.here hx rfl (pc0 := 382) (pc' := 399) rfl (hb hby at_382) rfl (XT.i0_ne_t (by decide)) (by decide) (by decide) ?_
      show Steps p.tables e below (T51.setTop (mkF m 399 (own_L20 y0 y1 y2 y3 y4 y5 y6 y7 y8 (1 : Int32) sx r51) [])) _
      refine XS.iload X51.here hx rfl (hb hby at_399) rfl  ?_
      refine XS.iconst X51.here hx rfl (hb hby at_401) ?_
      show Steps p.tables e below (T51.setTop (mkF m 402 (own_L20 y0 y1 y2 y3 y4 y5 y6 y7 y8 (1 : Int32) sx r51) [(.int (1 : Int32)), (.int (1 : Int32))])) _
      refine XS.icmpNo X51.here hx rfl (hb hby at_402) rfl (XT.ii_ne_f rfl) ?_
      exact oK
    obtain ⟨T52, X52, e52, st52⟩ := getS2 X51 hx hZ hown (host := "") (Or.inl (own_at hw 74 rfl)) Via.refl rfl (SG.ext (f2).2) (g := (mkF m 405 (own_L20 y0 y1 y2 y3 y4 y5 y6 y7 y8 (1 : Int32) sx r51) [])) rfl (hb hby at_405)
    refine OG.of st52 ?_
    show OG _ _ _ _ _ _ _ (T52.setTop (mkF m 408 (own_L20 y0 y1 y2 y3 y4 y5 y6 y7 y8 (1 : Int32) sx r51) [(.ref wG)]))
    refine OG.of (A := T52.setTop (mkF m 418 (own_L21 y0 y1 y2 y3 y4 y5 y6 y7 y8 (1 : Int32) sx r51 wG) [(.ref r51)])) (fun oT oK => ?_) ?_
    · skip
      refine XS.goto X52.here hx rfl (pc0 := 408) (pc' := 414) rfl (hb hby at_408) (by decide) (by decide) ?_
      show Steps p.tables e below (T52.setTop (mkF m 414 (own_L20 y0 y1 y2 y3 y4 y5 y6 y7 y8 (1 : Int32) sx r51) [(.ref wG)])) _
      refine XS.astore X52.here hx rfl (hb hby at_414) rfl rfl (l' := (own_L21 y0 y1 y2 y3 y4 y5 y6 y7 y8 (1 : Int32) sx r51 wG)) rfl ?_
      refine XS.aload X52.here hx rfl (hb hby at_416) rfl rfl  ?_
      exact oK
    obtain ⟨cq53, kq53, q53a, q53b, q53c⟩ := isOf hZ e52 (fE51)
    obtain ⟨_, _, ⟨T53, L53, k53, n53⟩, -, X53, ⟨Lc53, hQ53, l53, y53, z53⟩, st53⟩ := X52.virtualBack hx (y := (⟨"java/util/Optional", "isPresent", "()Z"⟩ : MethodName)) (z := (⟨"java/util/Optional", "isPresent", "()Z"⟩ : MethodName)) hown (mvT hZ (own_at hw 75 rfl)) (mvT hZ (own_at hw 76 rfl)) (notFace_of_selects (args := #[]) (mvT hZ (own_at hw 78 rfl))) (mvT hZ (own_at hw 78 rfl)) (mvT hZ (own_at hw 77 rfl)) (by decide) (backOf (W := 0) (rmPr l Z a0 hw [] r51 wG T51.heap n0 (Z51) fV51) hZ (own_at hw 79 rfl) (own_at hw 41 rfl) (by decide) (by decide)) q53a q53c (g := (mkF m 418 (own_L21 y0 y1 y2 y3 y4 y5 y6 y7 y8 (1 : Int32) sx r51 wG) [(.ref r51)])) rfl (by rw [hml]; rfl) (Steps.refl _) (argsL := []) (rest := []) (lenOf pd___Z rfl) rfl (by show 2 * 0 + _ ≤ _; exact Nat.le_of_eq rfl) (hb hby at_418) (fun _ _ => ⟨rfl, e52, (by decide : 9 + 0 ≤ _), (by decide : 61 + 0 ≤ _)⟩)
    dsimp only [Pt.U, Pt.locs, Pt.cells, Pt.slots] at X53 l53 y53 z53 st53 hQ53
    subst l53 y53 z53
    obtain ⟨hv53, N53q, e53⟩ := hQ53
    obtain rfl := hv53.trans (show _ = some (.int (1 : Int32)) from rfl)
    have N53 := Fr.app N51 N53q
    refine OG.trans st53 ?_
    show OG _ _ _ _ _ _ _ (T53.setTop (mkF m 421 (own_L21 y0 y1 y2 y3 y4 y5 y6 y7 y8 (1 : Int32) sx r51 wG) [(.int (1 : Int32))]))
    refine OG.of (A := T53.setTop (mkF m 426 (own_L21 y0 y1 y2 y3 y4 y5 y6 y7 y8 (1 : Int32) sx r51 wG) [(.ref r51)])) (fun oT oK => ?_) ?_
    · skip
      refine XS.ifNo X53.here hx rfl (hb hby at_421) rfl (XT.i0_eq_f (by decide)) ?_
      show Steps p.tables e below (T53.setTop (mkF m 424 (own_L21 y0 y1 y2 y3 y4 y5 y6 y7 y8 (1 : Int32) sx r51 wG) [])) _
      refine XS.aload X53.here hx rfl (hb hby at_424) rfl rfl  ?_
      exact oK
    obtain ⟨cq54, kq54, q54a, q54b, q54c⟩ := isOf hZ e53 (fE51)
    obtain ⟨_, _, ⟨T54, L54, k54, n54⟩, -, X54, ⟨Lc54, hQ54, l54, y54, z54⟩, st54⟩ := X53.virtualBack hx (y := (⟨"java/util/Optional", "get", "()Ljava/lang/Object;"⟩ : MethodName)) (z := (⟨"java/util/Optional", "get", "()Ljava/lang/Object;"⟩ : MethodName)) hown (mvT hZ (own_at hw 80 rfl)) (mvT hZ (own_at hw 81 rfl)) (notFace_of_selects (args := #[]) (mvT hZ (own_at hw 83 rfl))) (mvT hZ (own_at hw 83 rfl)) (mvT hZ (own_at hw 82 rfl)) (by decide) (backOf (W := 0) (rmG l Z a0 hw [] r51 wG T51.heap n0 (Z51) fV51) hZ (own_at hw 84 rfl) (own_at hw 41 rfl) (by decide) (by decide)) q54a q54c (g := (mkF m 426 (own_L21 y0 y1 y2 y3 y4 y5 y6 y7 y8 (1 : Int32) sx r51 wG) [(.ref r51)])) rfl (by rw [hml]; rfl) (Steps.refl _) (argsL := []) (rest := []) (lenOf pd___Ljava_lang_Object_ rfl) rfl (by show 2 * 0 + _ ≤ _; exact Nat.le_of_eq rfl) (hb hby at_426) (fun _ _ => ⟨rfl, e53, (by decide : 9 + 0 ≤ _), (by decide : 61 + 0 ≤ _)⟩)
    dsimp only [Pt.U, Pt.locs, Pt.cells, Pt.slots] at X54 l54 y54 z54 st54 hQ54
    subst l54 y54 z54
    obtain ⟨hv54, N54q, e54⟩ := hQ54
    obtain rfl := hv54.trans (show _ = some (.ref wG) from rfl)
    have N54 := Fr.app N53 N54q
    refine OG.trans st54 ?_
    show OG _ _ _ _ _ _ _ (T54.setTop (mkF m 429 (own_L21 y0 y1 y2 y3 y4 y5 y6 y7 y8 (1 : Int32) sx r51 wG) [(.ref wG)]))
    obtain ⟨T55, X55, e55, st55⟩ := castY X54 hx hZ hown (own_at hw 85 rfl) e54 (Ins.self (EG.ext (f2).2)) (g := (mkF m 429 (own_L21 y0 y1 y2 y3 y4 y5 y6 y7 y8 (1 : Int32) sx r51 wG) [(.ref wG)])) rfl rfl (hb hby at_429)
    refine OG.of st55 ?_
    show OG _ _ _ _ _ _ _ (T55.setTop (mkF m 432 (own_L21 y0 y1 y2 y3 y4 y5 y6 y7 y8 (1 : Int32) sx r51 wG) [(.ref wG)]))
    refine OG.of (A := T55.setTop (mkF m 434 (own_L21 y0 y1 y2 y3 y4 y5 y6 y7 y8 (1 : Int32) sx r51 wG) [(.ref wG), (.ref wG)])) (fun oT oK => ?_) ?_
    · skip
      refine XS.aload X55.here hx rfl (hb hby at_432) rfl rfl  ?_
      exact oK
    obtain ⟨cq56, kq56, q56a, q56b, q56c⟩ := isOf hZ e55 ((EG.ext (f2).2))
    obtain ⟨_, _, ⟨T56, L56, k56, n56⟩, -, X56, ⟨Lc56, hQ56, l56, y56, z56⟩, st56⟩ := X55.virtualBack hx (y := (⟨"com/example/vett/vett/Grantee", "equals", "(Ljava/lang/Object;)Z"⟩ : MethodName)) (z := (⟨"com/example/vett/vett/Grantee", "equals", "(Ljava/lang/Object;)Z"⟩ : MethodName)) hown (mvT hZ (own_at hw 87 rfl)) (mvT hZ (own_at hw 88 rfl)) (notFace_of_selects (args := #[]) (mvT hZ (own_at hw 90 rfl))) (mvT hZ (own_at hw 90 rfl)) (mvT hZ (own_at hw 89 rfl)) (by decide) (backOf (W := 0) (rmH l Z a0 hw [] wG uG T51.heap n0 (Z51) (EG.ext (f2).2) (FGu.ext (f2).2) (FGg.ext (f2).2)) hZ (own_at hw 91 rfl) (own_at hw 37 rfl) (by decide) (by decide)) q56a q56c (g := (mkF m 434 (own_L21 y0 y1 y2 y3 y4 y5 y6 y7 y8 (1 : Int32) sx r51 wG) [(.ref wG), (.ref wG)])) rfl (by rw [hml]; rfl) (Steps.refl _) (argsL := [(.ref wG)]) (rest := []) (lenOf pd__Ljava_lang_Object__Z rfl) rfl (by show 2 * 0 + _ ≤ _; exact Nat.le_of_eq rfl) (hb hby at_434) (fun _ _ => ⟨rfl, e55, (by decide : 9 + 0 ≤ _), (by decide : 61 + 0 ≤ _)⟩)
    dsimp only [Pt.U, Pt.locs, Pt.cells, Pt.slots] at X56 l56 y56 z56 st56 hQ56
    subst l56 y56 z56
    obtain ⟨hv56, N56q, e56⟩ := hQ56
    obtain rfl := hv56.trans (show _ = some (.int (1 : Int32)) from rfl)
    have N56 := Fr.app N54 N56q
    refine OG.trans st56 ?_
    show OG _ _ _ _ _ _ _ (T56.setTop (mkF m 437 (own_L21 y0 y1 y2 y3 y4 y5 y6 y7 y8 (1 : Int32) sx r51 wG) [(.int (1 : Int32))]))
    refine OG.of (A := T56.setTop (mkF m 445 (own_L21 y0 y1 y2 y3 y4 y5 y6 y7 y8 (1 : Int32) sx r51 wG) [(.int (1 : Int32))])) (fun oT oK => ?_) ?_
    · skip
      refine XS.ifNo X56.here hx rfl (hb hby at_437) rfl (XT.i0_eq_f (by decide)) ?_
      show Steps p.tables e below (T56.setTop (mkF m 440 (own_L21 y0 y1 y2 y3 y4 y5 y6 y7 y8 (1 : Int32) sx r51 wG) [])) _
      refine XS.iconst X56.here hx rfl (hb hby at_440) ?_
      refine XS.goto X56.here hx rfl (pc0 := 441) (pc' := 445) rfl (hb hby at_441) (by decide) (by decide) ?_
      exact oK
    refine OG.retN X56 hx (t := .boolean) hret (by simp) (hb hby at_445) hlk ?_ (by decide) (by decide)
    try rw [e56]
    exact ⟨rfl, N56, (K51).1⟩
  · skip
    show OG _ _ _ _ _ _ _ (T51.setTop (mkF m 371 (own_L23 y0 y1 y2 y3 y4 y5 y6 y7 y8 (2 : Int32) sx y11) [(.ref r51)]))
    refine OG.of (A := T51.setTop (mkF m 411 (own_L20 y0 y1 y2 y3 y4 y5 y6 y7 y8 (2 : Int32) sx r51) [])) (fun oT oK => ?_) ?_
    · skip
      refine XS.astore X51.here hx rfl (hb hby at_371) rfl rfl (l' := (own_L20 y0 y1 y2 y3 y4 y5 y6 y7 y8 (2 : Int32) sx r51)) rfl ?_
      show Steps p.tables e below (T51.setTop (mkF m 373 (own_L20 y0 y1 y2 y3 y4 y5 y6 y7 y8 (2 : Int32) sx r51) [])) _
      refine XS.aload X51.here hx rfl (hb hby at_373) rfl rfl  ?_
      show Steps p.tables e below (T51.setTop (mkF m 375 (own_L20 y0 y1 y2 y3 y4 y5 y6 y7 y8 (2 : Int32) sx r51) [(.ref r51)])) _
      refine XT.ifnonnullYes X51.here hx rfl (pc0 := 375) (pc' := 380) rfl (hb hby at_375) rfl (by decide) (by decide) ?_
      show Steps p.tables e below (T51.setTop (mkF m 380 (own_L20 y0 y1 y2 y3 y4 y5 y6 y7 y8 (2 : Int32) sx r51) [])) _
      refine XS.iload X51.here hx rfl (hb hby at_380) rfl  ?_
      show Steps p.tables e below (T51.setTop (mkF m 382 (own_L20 y0 y1 y2 y3 y4 y5 y6 y7 y8 (2 : Int32) sx r51) [(.int (2 : Int32))])) _
      refine XS.ifYes X51.here hx rfl (pc0 := 382) (pc' := 399) rfl (hb hby at_382) rfl (XT.i0_ne_t (by decide)) (by decide) (by decide) ?_
      show Steps p.tables e below (T51.setTop (mkF m 399 (own_L20 y0 y1 y2 y3 y4 y5 y6 y7 y8 (2 : Int32) sx r51) [])) _
      refine XS.iload X51.here hx rfl (hb hby at_399) rfl  ?_
      refine XS.iconst X51.here hx rfl (hb hby at_401) ?_
      show Steps p.tables e below (T51.setTop (mkF m 402 (own_L20 y0 y1 y2 y3 y4 y5 y6 y7 y8 (2 : Int32) sx r51) [(.int (1 : Int32)), (.int (2 : Int32))])) _
      refine XS.icmpYes X51.here hx rfl (pc0 := 402) (pc' := 411) rfl (hb hby at_402) rfl (XT.ii_ne_t (by decide)) (by decide) (by decide) ?_
      exact oK
    obtain ⟨T57, X57, e57, st57⟩ := getS2 X51 hx hZ hown (host := "") (Or.inl (own_at hw 100 rfl)) Via.refl rfl (SR.ext (f2).2) (g := (mkF m 411 (own_L20 y0 y1 y2 y3 y4 y5 y6 y7 y8 (2 : Int32) sx r51) [])) rfl (hb hby at_411)
    refine OG.of st57 ?_
    show OG _ _ _ _ _ _ _ (T57.setTop (mkF m 414 (own_L20 y0 y1 y2 y3 y4 y5 y6 y7 y8 (2 : Int32) sx r51) [(.ref wR)]))
    refine OG.of (A := T57.setTop (mkF m 418 (own_L21 y0 y1 y2 y3 y4 y5 y6 y7 y8 (2 : Int32) sx r51 wR) [(.ref r51)])) (fun oT oK => ?_) ?_
    · skip
      refine XS.astore X57.here hx rfl (hb hby at_414) rfl rfl (l' := (own_L21 y0 y1 y2 y3 y4 y5 y6 y7 y8 (2 : Int32) sx r51 wR)) rfl ?_
      show Steps p.tables e below (T57.setTop (mkF m 416 (own_L21 y0 y1 y2 y3 y4 y5 y6 y7 y8 (2 : Int32) sx r51 wR) [])) _
      refine XS.aload X57.here hx rfl (hb hby at_416) rfl rfl  ?_
      exact oK
    obtain ⟨cq58, kq58, q58a, q58b, q58c⟩ := isOf hZ e57 (fE51)
    obtain ⟨_, _, ⟨T58, L58, k58, n58⟩, -, X58, ⟨Lc58, hQ58, l58, y58, z58⟩, st58⟩ := X57.virtualBack hx (y := (⟨"java/util/Optional", "isPresent", "()Z"⟩ : MethodName)) (z := (⟨"java/util/Optional", "isPresent", "()Z"⟩ : MethodName)) hown (mvT hZ (own_at hw 75 rfl)) (mvT hZ (own_at hw 76 rfl)) (notFace_of_selects (args := #[]) (mvT hZ (own_at hw 78 rfl))) (mvT hZ (own_at hw 78 rfl)) (mvT hZ (own_at hw 77 rfl)) (by decide) (backOf (W := 0) (rmPr l Z a0 hw [] r51 wR T51.heap n0 (Z51) fV51) hZ (own_at hw 79 rfl) (own_at hw 41 rfl) (by decide) (by decide)) q58a q58c (g := (mkF m 418 (own_L21 y0 y1 y2 y3 y4 y5 y6 y7 y8 (2 : Int32) sx r51 wR) [(.ref r51)])) rfl (by rw [hml]; rfl) (Steps.refl _) (argsL := []) (rest := []) (lenOf pd___Z rfl) rfl (by show 2 * 0 + _ ≤ _; exact Nat.le_of_eq rfl) (hb hby at_418) (fun _ _ => ⟨rfl, e57, (by decide : 9 + 0 ≤ _), (by decide : 61 + 0 ≤ _)⟩)
    dsimp only [Pt.U, Pt.locs, Pt.cells, Pt.slots] at X58 l58 y58 z58 st58 hQ58
    subst l58 y58 z58
    obtain ⟨hv58, N58q, e58⟩ := hQ58
    obtain rfl := hv58.trans (show _ = some (.int (1 : Int32)) from rfl)
    have N58 := Fr.app N51 N58q
    refine OG.trans st58 ?_
    show OG _ _ _ _ _ _ _ (T58.setTop (mkF m 421 (own_L21 y0 y1 y2 y3 y4 y5 y6 y7 y8 (2 : Int32) sx r51 wR) [(.int (1 : Int32))]))
    refine OG.of (A := T58.setTop (mkF m 426 (own_L21 y0 y1 y2 y3 y4 y5 y6 y7 y8 (2 : Int32) sx r51 wR) [(.ref r51)])) (fun oT oK => ?_) ?_
    · skip
      refine XS.ifNo X58.here hx rfl (hb hby at_421) rfl (XT.i0_eq_f (by decide)) ?_
      show Steps p.tables e below (T58.setTop (mkF m 424 (own_L21 y0 y1 y2 y3 y4 y5 y6 y7 y8 (2 : Int32) sx r51 wR) [])) _
      refine XS.aload X58.here hx rfl (hb hby at_424) rfl rfl  ?_
      exact oK
    obtain ⟨cq59, kq59, q59a, q59b, q59c⟩ := isOf hZ e58 (fE51)
    obtain ⟨_, _, ⟨T59, L59, k59, n59⟩, -, X59, ⟨Lc59, hQ59, l59, y59, z59⟩, st59⟩ := X58.virtualBack hx (y := (⟨"java/util/Optional", "get", "()Ljava/lang/Object;"⟩ : MethodName)) (z := (⟨"java/util/Optional", "get", "()Ljava/lang/Object;"⟩ : MethodName)) hown (mvT hZ (own_at hw 80 rfl)) (mvT hZ (own_at hw 81 rfl)) (notFace_of_selects (args := #[]) (mvT hZ (own_at hw 83 rfl))) (mvT hZ (own_at hw 83 rfl)) (mvT hZ (own_at hw 82 rfl)) (by decide) (backOf (W := 0) (rmG l Z a0 hw [] r51 wR T51.heap n0 (Z51) fV51) hZ (own_at hw 84 rfl) (own_at hw 41 rfl) (by decide) (by decide)) q59a q59c (g := (mkF m 426 (own_L21 y0 y1 y2 y3 y4 y5 y6 y7 y8 (2 : Int32) sx r51 wR) [(.ref r51)])) rfl (by rw [hml]; rfl) (Steps.refl _) (argsL := []) (rest := []) (lenOf pd___Ljava_lang_Object_ rfl) rfl (by show 2 * 0 + _ ≤ _; exact Nat.le_of_eq rfl) (hb hby at_426) (fun _ _ => ⟨rfl, e58, (by decide : 9 + 0 ≤ _), (by decide : 61 + 0 ≤ _)⟩)
    dsimp only [Pt.U, Pt.locs, Pt.cells, Pt.slots] at X59 l59 y59 z59 st59 hQ59
    subst l59 y59 z59
    obtain ⟨hv59, N59q, e59⟩ := hQ59
    obtain rfl := hv59.trans (show _ = some (.ref wR) from rfl)
    have N59 := Fr.app N58 N59q
    refine OG.trans st59 ?_
    show OG _ _ _ _ _ _ _ (T59.setTop (mkF m 429 (own_L21 y0 y1 y2 y3 y4 y5 y6 y7 y8 (2 : Int32) sx r51 wR) [(.ref wR)]))
    obtain ⟨T60, X60, e60, st60⟩ := castY X59 hx hZ hown (own_at hw 85 rfl) e59 (Ins.self (ER.ext (f2).2)) (g := (mkF m 429 (own_L21 y0 y1 y2 y3 y4 y5 y6 y7 y8 (2 : Int32) sx r51 wR) [(.ref wR)])) rfl rfl (hb hby at_429)
    refine OG.of st60 ?_
    show OG _ _ _ _ _ _ _ (T60.setTop (mkF m 432 (own_L21 y0 y1 y2 y3 y4 y5 y6 y7 y8 (2 : Int32) sx r51 wR) [(.ref wR)]))
    refine OG.of (A := T60.setTop (mkF m 434 (own_L21 y0 y1 y2 y3 y4 y5 y6 y7 y8 (2 : Int32) sx r51 wR) [(.ref wR), (.ref wR)])) (fun oT oK => ?_) ?_
    · skip
      refine XS.aload X60.here hx rfl (hb hby at_432) rfl rfl  ?_
      exact oK
    obtain ⟨cq61, kq61, q61a, q61b, q61c⟩ := isOf hZ e60 ((ER.ext (f2).2))
    obtain ⟨_, _, ⟨T61, L61, k61, n61⟩, -, X61, ⟨Lc61, hQ61, l61, y61, z61⟩, st61⟩ := X60.virtualBack hx (y := (⟨"com/example/vett/vett/Grantee", "equals", "(Ljava/lang/Object;)Z"⟩ : MethodName)) (z := (⟨"com/example/vett/vett/Grantee", "equals", "(Ljava/lang/Object;)Z"⟩ : MethodName)) hown (mvT hZ (own_at hw 87 rfl)) (mvT hZ (own_at hw 88 rfl)) (notFace_of_selects (args := #[]) (mvT hZ (own_at hw 90 rfl))) (mvT hZ (own_at hw 90 rfl)) (mvT hZ (own_at hw 89 rfl)) (by decide) (backOf (W := 0) (rmH l Z a0 hw [] wR uR T51.heap n0 (Z51) (ER.ext (f2).2) (FRu.ext (f2).2) (FRg.ext (f2).2)) hZ (own_at hw 91 rfl) (own_at hw 37 rfl) (by decide) (by decide)) q61a q61c (g := (mkF m 434 (own_L21 y0 y1 y2 y3 y4 y5 y6 y7 y8 (2 : Int32) sx r51 wR) [(.ref wR), (.ref wR)])) rfl (by rw [hml]; rfl) (Steps.refl _) (argsL := [(.ref wR)]) (rest := []) (lenOf pd__Ljava_lang_Object__Z rfl) rfl (by show 2 * 0 + _ ≤ _; exact Nat.le_of_eq rfl) (hb hby at_434) (fun _ _ => ⟨rfl, e60, (by decide : 9 + 0 ≤ _), (by decide : 61 + 0 ≤ _)⟩)
    dsimp only [Pt.U, Pt.locs, Pt.cells, Pt.slots] at X61 l61 y61 z61 st61 hQ61
    subst l61 y61 z61
    obtain ⟨hv61, N61q, e61⟩ := hQ61
    obtain rfl := hv61.trans (show _ = some (.int (1 : Int32)) from rfl)
    have N61 := Fr.app N59 N61q
    refine OG.trans st61 ?_
    show OG _ _ _ _ _ _ _ (T61.setTop (mkF m 437 (own_L21 y0 y1 y2 y3 y4 y5 y6 y7 y8 (2 : Int32) sx r51 wR) [(.int (1 : Int32))]))
    refine OG.of (A := T61.setTop (mkF m 445 (own_L21 y0 y1 y2 y3 y4 y5 y6 y7 y8 (2 : Int32) sx r51 wR) [(.int (1 : Int32))])) (fun oT oK => ?_) ?_
    · skip
      refine XS.ifNo X61.here hx rfl (hb hby at_437) rfl (XT.i0_eq_f (by decide)) ?_
      show Steps p.tables e below (T61.setTop (mkF m 440 (own_L21 y0 y1 y2 y3 y4 y5 y6 y7 y8 (2 : Int32) sx r51 wR) [])) _
      refine XS.iconst X61.here hx rfl (hb hby at_440) ?_
      refine XS.goto X61.here hx rfl (pc0 := 441) (pc' := 445) rfl (hb hby at_441) (by decide) (by decide) ?_
      exact oK
    refine OG.retN X61 hx (t := .boolean) hret (by simp) (hb hby at_445) hlk ?_ (by decide) (by decide)
    try rw [e61]
    exact ⟨rfl, N61, (K51).1⟩
  · skip
    show OG _ _ _ _ _ _ _ (T51.setTop (mkF m 371 (own_L23 y0 y1 y2 y3 y4 y5 y6 y7 y8 (0 : Int32) sx y11) [(.ref r51)]))
    refine OG.of (A := T51.setTop (mkF m 387 (own_L20 y0 y1 y2 y3 y4 y5 y6 y7 y8 (0 : Int32) sx r51) [(.ref r51)])) (fun oT oK => ?_) ?_
    · skip
      refine XS.astore X51.here hx rfl (hb hby at_371) rfl rfl (l' := (own_L20 y0 y1 y2 y3 y4 y5 y6 y7 y8 (0 : Int32) sx r51)) rfl ?_
      show Steps p.tables e below (T51.setTop (mkF m 373 (own_L20 y0 y1 y2 y3 y4 y5 y6 y7 y8 (0 : Int32) sx r51) [])) _
      refine XS.aload X51.here hx rfl (hb hby at_373) rfl rfl  ?_
      show Steps p.tables e below (T51.setTop (mkF m 375 (own_L20 y0 y1 y2 y3 y4 y5 y6 y7 y8 (0 : Int32) sx r51) [(.ref r51)])) _
      refine XT.ifnonnullYes X51.here hx rfl (pc0 := 375) (pc' := 380) rfl (hb hby at_375) rfl (by decide) (by decide) ?_
      show Steps p.tables e below (T51.setTop (mkF m 380 (own_L20 y0 y1 y2 y3 y4 y5 y6 y7 y8 (0 : Int32) sx r51) [])) _
      refine XS.iload X51.here hx rfl (hb hby at_380) rfl  ?_
      show Steps p.tables e below (T51.setTop (mkF m 382 (own_L20 y0 y1 y2 y3 y4 y5 y6 y7 y8 (0 : Int32) sx r51) [(.int (0 : Int32))])) _
      refine XS.ifNo X51.here hx rfl (hb hby at_382) rfl (XT.i0_ne_f rfl) ?_
      show Steps p.tables e below (T51.setTop (mkF m 385 (own_L20 y0 y1 y2 y3 y4 y5 y6 y7 y8 (0 : Int32) sx r51) [])) _
      refine XS.aload X51.here hx rfl (hb hby at_385) rfl rfl  ?_
      exact oK
    obtain ⟨cq62, kq62, q62a, q62b, q62c⟩ := isOf hZ rfl (fE51)
    obtain ⟨_, _, ⟨T62, L62, k62, n62⟩, -, X62, ⟨Lc62, hQ62, l62, y62, z62⟩, st62⟩ := X51.virtualBack hx (y := (⟨"java/util/Optional", "isPresent", "()Z"⟩ : MethodName)) (z := (⟨"java/util/Optional", "isPresent", "()Z"⟩ : MethodName)) hown (mvT hZ (own_at hw 75 rfl)) (mvT hZ (own_at hw 76 rfl)) (notFace_of_selects (args := #[]) (mvT hZ (own_at hw 78 rfl))) (mvT hZ (own_at hw 78 rfl)) (mvT hZ (own_at hw 77 rfl)) (by decide) (backOf (W := 0) (rmPn l Z a0 hw [] r51  T51.heap n0 (Z51) fV51) hZ (own_at hw 79 rfl) (own_at hw 41 rfl) (by decide) (by decide)) q62a q62c (g := (mkF m 387 (own_L20 y0 y1 y2 y3 y4 y5 y6 y7 y8 (0 : Int32) sx r51) [(.ref r51)])) rfl (by rw [hml]; rfl) (Steps.refl _) (argsL := []) (rest := []) (lenOf pd___Z rfl) rfl (by show 2 * 0 + _ ≤ _; exact Nat.le_of_eq rfl) (hb hby at_387) (fun _ _ => ⟨rfl, rfl, (by decide : 9 + 0 ≤ _), (by decide : 61 + 0 ≤ _)⟩)
    dsimp only [Pt.U, Pt.locs, Pt.cells, Pt.slots] at X62 l62 y62 z62 st62 hQ62
    subst l62 y62 z62
    obtain ⟨hv62, N62q, e62⟩ := hQ62
    obtain rfl := hv62.trans (show _ = some (.int (0 : Int32)) from rfl)
    have N62 := Fr.app N51 N62q
    refine OG.trans st62 ?_
    show OG _ _ _ _ _ _ _ (T62.setTop (mkF m 390 (own_L20 y0 y1 y2 y3 y4 y5 y6 y7 y8 (0 : Int32) sx r51) [(.int (0 : Int32))]))
    refine OG.of (A := T62.setTop (mkF m 398 (own_L20 y0 y1 y2 y3 y4 y5 y6 y7 y8 (0 : Int32) sx r51) [(.int (1 : Int32))])) (fun oT oK => ?_) ?_
    · skip
      refine XS.ifNo X62.here hx rfl (hb hby at_390) rfl (XT.i0_ne_f rfl) ?_
      show Steps p.tables e below (T62.setTop (mkF m 393 (own_L20 y0 y1 y2 y3 y4 y5 y6 y7 y8 (0 : Int32) sx r51) [])) _
      refine XS.iconst X62.here hx rfl (hb hby at_393) ?_
      refine XS.goto X62.here hx rfl (pc0 := 394) (pc' := 398) rfl (hb hby at_394) (by decide) (by decide) ?_
      exact oK
    refine OG.retN X62 hx (t := .boolean) hret (by simp) (hb hby at_398) hlk ?_ (by decide) (by decide)
    try rw [e62]
    exact ⟨rfl, N62, (K51).1⟩
set_option maxRecDepth 65536 in
set_option maxHeartbeats 40000000 in
theorem own_tail2 {p : Program} {l : Launch} {e : Env} {s : State} {m : MethodId} {args : Array Value} {below : List Frame} {meth : Method} {c : Code} {T0 : State} {locs : List Loc} {Z : State} {a0 : Array Value} {h1 : Heap} {n0 : Nat} (y0 : Int32) (y1 : Int32) (y2 : Int32) (y3 : Int32) (y4 : Int32) (y5 : Int32) (y6 : Addr) (y7 : Int32) (y8 : Int32) (ex : Int32) (sx : Addr) (y11 : Int32) (y12 : Int32) (y13 : Int32) (y14 : Int32) (y15 : Int32) (cs : List Int32) (wG : Addr) (wR : Addr) (uG : Addr) (uR : Addr) (wE : Addr) (zc : Int32)
    (X0 : Stand p l e room_1 s m args below meth c T0 locs 8 60) (hx : p.tables.exec = Jvm.exec) (hZ : Z.Warmed39 s.vm) (hw : ∀ d ∈ tables_1, d.before a0 Z = true) (hby : c.code = code) (hml : c.maxLocals = 16) (hown : s.vm.findClass "com/example/vett/vett/GranteeUserTypePinLaw" = some m.cls) (hlk : meth.locks = false) (hret : meth.sig.returnType = some .boolean) (e0 : T0.heap = h1) (N0 : Fr n0 locs) (Z0 : n0 ≤ h1.size) (hO : Old Z n0 h1) (hst : OSt Z wG wR uG uR wE zc) (hT : OTx Z h1 sx cs) (hex : OEx cs ex) :
    OG p e below s 24 1216 (fun v h L => v = some (.int 1) ∧ Fr n0 L ∧ h1.size ≤ h.size) (T0.setTop (mkF m 366 (own_L28 y0 y1 y2 y3 y4 y5 y6 y7 y8 ex sx y11 y12 y13 y14 y15) [])) := by
  obtain ⟨SG, SR, SE, SC, hzc, EG, ER, FGu, FRu, FGg, FRg, TG, TR, EE, FE⟩ := id hst
  refine OG.of (A := T0.setTop (mkF m 368 (own_L28 y0 y1 y2 y3 y4 y5 y6 y7 y8 ex sx y11 y12 y13 y14 y15) [(.ref sx)])) (fun oT oK => ?_) ?_
  · skip
    refine XS.aload X0.here hx rfl (hb hby at_366) rfl rfl  ?_
    exact oK
  obtain ⟨_, _, ⟨T51, L51, k51, n51⟩, -, X51, ⟨Lc51, hQ51, l51, y51, z51⟩, st51⟩ := Jvm.LawKit.callS X0 hx (y := (⟨"com/example/vett/vett/Grantee", "userType", "(Ljava/lang/String;)Ljava/util/Optional;"⟩ : MethodName)) hown (mvT hZ (own_at hw 35 rfl)) (mvT hZ (own_at hw 36 rfl)) (mvT hZ (own_at hw 37 rfl)) (mvT hZ (own_at hw 38 rfl)) (by decide) (backOf (W := 0) (rmU l Z a0 hw [] sx cs wG wR uG uR wE zc h1 n0 (Z0) hO hst hT) hZ (own_at hw 38 rfl) (own_at hw 37 rfl) (by decide) (by decide)) (g := (mkF m 368 (own_L28 y0 y1 y2 y3 y4 y5 y6 y7 y8 ex sx y11 y12 y13 y14 y15) [(.ref sx)])) rfl (by rw [hml]; rfl) (argsL := [(.ref sx)]) (rest := []) (lenOf pd__Ljava_lang_String__Ljava_util_Optional_ rfl) rfl (by show 2 * 0 + _ ≤ _; exact Nat.le_of_eq rfl) (hb hby at_368) (fun _ _ => ⟨rfl, e0, (by decide : 8 + 1 ≤ _), (by decide : 60 + 1 ≤ _)⟩)
  dsimp only [Pt.U, Pt.locs, Pt.cells, Pt.slots] at X51 l51 y51 z51 st51 hQ51
  subst l51 y51 z51
  obtain ⟨r51, w51, rfl, N51q, Kc51, fE51, fV51, hcs51⟩ := hQ51
  have N51 := Fr.app N0 N51q
  have f1 := (hT).keep0 Kc51
  have f2 := (hO).keep Kc51 all0
  have K51 : Keep h1 T51.heap [] := ((Keep.refl h1 [])).trans Kc51 all0
  have Z51 : n0 ≤ T51.heap.size := Nat.le_trans Z0 Kc51.1
  refine OG.of st51 ?_
  rcases own_join hex hcs51 with ⟨rfl, rfl⟩ | ⟨rfl, rfl⟩ | ⟨rfl, rfl⟩
  · skip
    show OG _ _ _ _ _ _ _ (T51.setTop (mkF m 371 (own_L28 y0 y1 y2 y3 y4 y5 y6 y7 y8 (1 : Int32) sx y11 y12 y13 y14 y15) [(.ref r51)]))
    refine OG.of (A := T51.setTop (mkF m 405 (own_L29 y0 y1 y2 y3 y4 y5 y6 y7 y8 (1 : Int32) sx r51 y12 y13 y14 y15) [])) (fun oT oK => ?_) ?_
    · skip
      refine XS.astore X51.here hx rfl (hb hby at_371) rfl rfl (l' := (own_L29 y0 y1 y2 y3 y4 y5 y6 y7 y8 (1 : Int32) sx r51 y12 y13 y14 y15)) rfl ?_
      show Steps p.tables e below (T51.setTop (mkF m 373 (own_L29 y0 y1 y2 y3 y4 y5 y6 y7 y8 (1 : Int32) sx r51 y12 y13 y14 y15) [])) _
      refine XS.aload X51.here hx rfl (hb hby at_373) rfl rfl  ?_
      show Steps p.tables e below (T51.setTop (mkF m 375 (own_L29 y0 y1 y2 y3 y4 y5 y6 y7 y8 (1 : Int32) sx r51 y12 y13 y14 y15) [(.ref r51)])) _
      refine XT.ifnonnullYes X51.here hx rfl (pc0 := 375) (pc' := 380) rfl (hb hby at_375) rfl (by decide) (by decide) ?_
      show Steps p.tables e below (T51.setTop (mkF m 380 (own_L29 y0 y1 y2 y3 y4 y5 y6 y7 y8 (1 : Int32) sx r51 y12 y13 y14 y15) [])) _
      refine XS.iload X51.here hx rfl (hb hby at_380) rfl  ?_
      show Steps p.tables e below (T51.setTop (mkF m 382 (own_L29 y0 y1 y2 y3 y4 y5 y6 y7 y8 (1 : Int32) sx r51 y12 y13 y14 y15) [(.int (1 : Int32))])) _
      refine XS.ifYes X51.here hx rfl (pc0 := 382) (pc' := 399) rfl (hb hby at_382) rfl (XT.i0_ne_t (by decide)) (by decide) (by decide) ?_
      show Steps p.tables e below (T51.setTop (mkF m 399 (own_L29 y0 y1 y2 y3 y4 y5 y6 y7 y8 (1 : Int32) sx r51 y12 y13 y14 y15) [])) _
      refine XS.iload X51.here hx rfl (hb hby at_399) rfl  ?_
      refine XS.iconst X51.here hx rfl (hb hby at_401) ?_
      show Steps p.tables e below (T51.setTop (mkF m 402 (own_L29 y0 y1 y2 y3 y4 y5 y6 y7 y8 (1 : Int32) sx r51 y12 y13 y14 y15) [(.int (1 : Int32)), (.int (1 : Int32))])) _
      refine XS.icmpNo X51.here hx rfl (hb hby at_402) rfl (XT.ii_ne_f rfl) ?_
      exact oK
    obtain ⟨T52, X52, e52, st52⟩ := getS2 X51 hx hZ hown (host := "") (Or.inl (own_at hw 74 rfl)) Via.refl rfl (SG.ext (f2).2) (g := (mkF m 405 (own_L29 y0 y1 y2 y3 y4 y5 y6 y7 y8 (1 : Int32) sx r51 y12 y13 y14 y15) [])) rfl (hb hby at_405)
    refine OG.of st52 ?_
    show OG _ _ _ _ _ _ _ (T52.setTop (mkF m 408 (own_L29 y0 y1 y2 y3 y4 y5 y6 y7 y8 (1 : Int32) sx r51 y12 y13 y14 y15) [(.ref wG)]))
    refine OG.of (A := T52.setTop (mkF m 418 (own_L30 y0 y1 y2 y3 y4 y5 y6 y7 y8 (1 : Int32) sx r51 wG y13 y14 y15) [(.ref r51)])) (fun oT oK => ?_) ?_
    · skip
      refine XS.goto X52.here hx rfl (pc0 := 408) (pc' := 414) rfl (hb hby at_408) (by decide) (by decide) ?_
      show Steps p.tables e below (T52.setTop (mkF m 414 (own_L29 y0 y1 y2 y3 y4 y5 y6 y7 y8 (1 : Int32) sx r51 y12 y13 y14 y15) [(.ref wG)])) _
      refine XS.astore X52.here hx rfl (hb hby at_414) rfl rfl (l' := (own_L30 y0 y1 y2 y3 y4 y5 y6 y7 y8 (1 : Int32) sx r51 wG y13 y14 y15)) rfl ?_
      refine XS.aload X52.here hx rfl (hb hby at_416) rfl rfl  ?_
      exact oK
    obtain ⟨cq53, kq53, q53a, q53b, q53c⟩ := isOf hZ e52 (fE51)
    obtain ⟨_, _, ⟨T53, L53, k53, n53⟩, -, X53, ⟨Lc53, hQ53, l53, y53, z53⟩, st53⟩ := X52.virtualBack hx (y := (⟨"java/util/Optional", "isPresent", "()Z"⟩ : MethodName)) (z := (⟨"java/util/Optional", "isPresent", "()Z"⟩ : MethodName)) hown (mvT hZ (own_at hw 75 rfl)) (mvT hZ (own_at hw 76 rfl)) (notFace_of_selects (args := #[]) (mvT hZ (own_at hw 78 rfl))) (mvT hZ (own_at hw 78 rfl)) (mvT hZ (own_at hw 77 rfl)) (by decide) (backOf (W := 0) (rmPr l Z a0 hw [] r51 wG T51.heap n0 (Z51) fV51) hZ (own_at hw 79 rfl) (own_at hw 41 rfl) (by decide) (by decide)) q53a q53c (g := (mkF m 418 (own_L30 y0 y1 y2 y3 y4 y5 y6 y7 y8 (1 : Int32) sx r51 wG y13 y14 y15) [(.ref r51)])) rfl (by rw [hml]; rfl) (Steps.refl _) (argsL := []) (rest := []) (lenOf pd___Z rfl) rfl (by show 2 * 0 + _ ≤ _; exact Nat.le_of_eq rfl) (hb hby at_418) (fun _ _ => ⟨rfl, e52, (by decide : 9 + 0 ≤ _), (by decide : 61 + 0 ≤ _)⟩)
    dsimp only [Pt.U, Pt.locs, Pt.cells, Pt.slots] at X53 l53 y53 z53 st53 hQ53
    subst l53 y53 z53
    obtain ⟨hv53, N53q, e53⟩ := hQ53
    obtain rfl := hv53.trans (show _ = some (.int (1 : Int32)) from rfl)
    have N53 := Fr.app N51 N53q
    refine OG.trans st53 ?_
    show OG _ _ _ _ _ _ _ (T53.setTop (mkF m 421 (own_L30 y0 y1 y2 y3 y4 y5 y6 y7 y8 (1 : Int32) sx r51 wG y13 y14 y15) [(.int (1 : Int32))]))
    refine OG.of (A := T53.setTop (mkF m 426 (own_L30 y0 y1 y2 y3 y4 y5 y6 y7 y8 (1 : Int32) sx r51 wG y13 y14 y15) [(.ref r51)])) (fun oT oK => ?_) ?_
    · skip
      refine XS.ifNo X53.here hx rfl (hb hby at_421) rfl (XT.i0_eq_f (by decide)) ?_
      show Steps p.tables e below (T53.setTop (mkF m 424 (own_L30 y0 y1 y2 y3 y4 y5 y6 y7 y8 (1 : Int32) sx r51 wG y13 y14 y15) [])) _
      refine XS.aload X53.here hx rfl (hb hby at_424) rfl rfl  ?_
      exact oK
    obtain ⟨cq54, kq54, q54a, q54b, q54c⟩ := isOf hZ e53 (fE51)
    obtain ⟨_, _, ⟨T54, L54, k54, n54⟩, -, X54, ⟨Lc54, hQ54, l54, y54, z54⟩, st54⟩ := X53.virtualBack hx (y := (⟨"java/util/Optional", "get", "()Ljava/lang/Object;"⟩ : MethodName)) (z := (⟨"java/util/Optional", "get", "()Ljava/lang/Object;"⟩ : MethodName)) hown (mvT hZ (own_at hw 80 rfl)) (mvT hZ (own_at hw 81 rfl)) (notFace_of_selects (args := #[]) (mvT hZ (own_at hw 83 rfl))) (mvT hZ (own_at hw 83 rfl)) (mvT hZ (own_at hw 82 rfl)) (by decide) (backOf (W := 0) (rmG l Z a0 hw [] r51 wG T51.heap n0 (Z51) fV51) hZ (own_at hw 84 rfl) (own_at hw 41 rfl) (by decide) (by decide)) q54a q54c (g := (mkF m 426 (own_L30 y0 y1 y2 y3 y4 y5 y6 y7 y8 (1 : Int32) sx r51 wG y13 y14 y15) [(.ref r51)])) rfl (by rw [hml]; rfl) (Steps.refl _) (argsL := []) (rest := []) (lenOf pd___Ljava_lang_Object_ rfl) rfl (by show 2 * 0 + _ ≤ _; exact Nat.le_of_eq rfl) (hb hby at_426) (fun _ _ => ⟨rfl, e53, (by decide : 9 + 0 ≤ _), (by decide : 61 + 0 ≤ _)⟩)
    dsimp only [Pt.U, Pt.locs, Pt.cells, Pt.slots] at X54 l54 y54 z54 st54 hQ54
    subst l54 y54 z54
    obtain ⟨hv54, N54q, e54⟩ := hQ54
    obtain rfl := hv54.trans (show _ = some (.ref wG) from rfl)
    have N54 := Fr.app N53 N54q
    refine OG.trans st54 ?_
    show OG _ _ _ _ _ _ _ (T54.setTop (mkF m 429 (own_L30 y0 y1 y2 y3 y4 y5 y6 y7 y8 (1 : Int32) sx r51 wG y13 y14 y15) [(.ref wG)]))
    obtain ⟨T55, X55, e55, st55⟩ := castY X54 hx hZ hown (own_at hw 85 rfl) e54 (Ins.self (EG.ext (f2).2)) (g := (mkF m 429 (own_L30 y0 y1 y2 y3 y4 y5 y6 y7 y8 (1 : Int32) sx r51 wG y13 y14 y15) [(.ref wG)])) rfl rfl (hb hby at_429)
    refine OG.of st55 ?_
    show OG _ _ _ _ _ _ _ (T55.setTop (mkF m 432 (own_L30 y0 y1 y2 y3 y4 y5 y6 y7 y8 (1 : Int32) sx r51 wG y13 y14 y15) [(.ref wG)]))
    refine OG.of (A := T55.setTop (mkF m 434 (own_L30 y0 y1 y2 y3 y4 y5 y6 y7 y8 (1 : Int32) sx r51 wG y13 y14 y15) [(.ref wG), (.ref wG)])) (fun oT oK => ?_) ?_
    · skip
      refine XS.aload X55.here hx rfl (hb hby at_432) rfl rfl  ?_
      exact oK
    obtain ⟨cq56, kq56, q56a, q56b, q56c⟩ := isOf hZ e55 ((EG.ext (f2).2))
    obtain ⟨_, _, ⟨T56, L56, k56, n56⟩, -, X56, ⟨Lc56, hQ56, l56, y56, z56⟩, st56⟩ := X55.virtualBack hx (y := (⟨"com/example/vett/vett/Grantee", "equals", "(Ljava/lang/Object;)Z"⟩ : MethodName)) (z := (⟨"com/example/vett/vett/Grantee", "equals", "(Ljava/lang/Object;)Z"⟩ : MethodName)) hown (mvT hZ (own_at hw 87 rfl)) (mvT hZ (own_at hw 88 rfl)) (notFace_of_selects (args := #[]) (mvT hZ (own_at hw 90 rfl))) (mvT hZ (own_at hw 90 rfl)) (mvT hZ (own_at hw 89 rfl)) (by decide) (backOf (W := 0) (rmH l Z a0 hw [] wG uG T51.heap n0 (Z51) (EG.ext (f2).2) (FGu.ext (f2).2) (FGg.ext (f2).2)) hZ (own_at hw 91 rfl) (own_at hw 37 rfl) (by decide) (by decide)) q56a q56c (g := (mkF m 434 (own_L30 y0 y1 y2 y3 y4 y5 y6 y7 y8 (1 : Int32) sx r51 wG y13 y14 y15) [(.ref wG), (.ref wG)])) rfl (by rw [hml]; rfl) (Steps.refl _) (argsL := [(.ref wG)]) (rest := []) (lenOf pd__Ljava_lang_Object__Z rfl) rfl (by show 2 * 0 + _ ≤ _; exact Nat.le_of_eq rfl) (hb hby at_434) (fun _ _ => ⟨rfl, e55, (by decide : 9 + 0 ≤ _), (by decide : 61 + 0 ≤ _)⟩)
    dsimp only [Pt.U, Pt.locs, Pt.cells, Pt.slots] at X56 l56 y56 z56 st56 hQ56
    subst l56 y56 z56
    obtain ⟨hv56, N56q, e56⟩ := hQ56
    obtain rfl := hv56.trans (show _ = some (.int (1 : Int32)) from rfl)
    have N56 := Fr.app N54 N56q
    refine OG.trans st56 ?_
    show OG _ _ _ _ _ _ _ (T56.setTop (mkF m 437 (own_L30 y0 y1 y2 y3 y4 y5 y6 y7 y8 (1 : Int32) sx r51 wG y13 y14 y15) [(.int (1 : Int32))]))
    refine OG.of (A := T56.setTop (mkF m 445 (own_L30 y0 y1 y2 y3 y4 y5 y6 y7 y8 (1 : Int32) sx r51 wG y13 y14 y15) [(.int (1 : Int32))])) (fun oT oK => ?_) ?_
    · skip
      refine XS.ifNo X56.here hx rfl (hb hby at_437) rfl (XT.i0_eq_f (by decide)) ?_
      show Steps p.tables e below (T56.setTop (mkF m 440 (own_L30 y0 y1 y2 y3 y4 y5 y6 y7 y8 (1 : Int32) sx r51 wG y13 y14 y15) [])) _
      refine XS.iconst X56.here hx rfl (hb hby at_440) ?_
      refine XS.goto X56.here hx rfl (pc0 := 441) (pc' := 445) rfl (hb hby at_441) (by decide) (by decide) ?_
      exact oK
    refine OG.retN X56 hx (t := .boolean) hret (by simp) (hb hby at_445) hlk ?_ (by decide) (by decide)
    try rw [e56]
    exact ⟨rfl, N56, (K51).1⟩
  · skip
    show OG _ _ _ _ _ _ _ (T51.setTop (mkF m 371 (own_L28 y0 y1 y2 y3 y4 y5 y6 y7 y8 (2 : Int32) sx y11 y12 y13 y14 y15) [(.ref r51)]))
    refine OG.of (A := T51.setTop (mkF m 411 (own_L29 y0 y1 y2 y3 y4 y5 y6 y7 y8 (2 : Int32) sx r51 y12 y13 y14 y15) [])) (fun oT oK => ?_) ?_
    · skip
      refine XS.astore X51.here hx rfl (hb hby at_371) rfl rfl (l' := (own_L29 y0 y1 y2 y3 y4 y5 y6 y7 y8 (2 : Int32) sx r51 y12 y13 y14 y15)) rfl ?_
      show Steps p.tables e below (T51.setTop (mkF m 373 (own_L29 y0 y1 y2 y3 y4 y5 y6 y7 y8 (2 : Int32) sx r51 y12 y13 y14 y15) [])) _
      refine XS.aload X51.here hx rfl (hb hby at_373) rfl rfl  ?_
      show Steps p.tables e below (T51.setTop (mkF m 375 (own_L29 y0 y1 y2 y3 y4 y5 y6 y7 y8 (2 : Int32) sx r51 y12 y13 y14 y15) [(.ref r51)])) _
      refine XT.ifnonnullYes X51.here hx rfl (pc0 := 375) (pc' := 380) rfl (hb hby at_375) rfl (by decide) (by decide) ?_
      show Steps p.tables e below (T51.setTop (mkF m 380 (own_L29 y0 y1 y2 y3 y4 y5 y6 y7 y8 (2 : Int32) sx r51 y12 y13 y14 y15) [])) _
      refine XS.iload X51.here hx rfl (hb hby at_380) rfl  ?_
      show Steps p.tables e below (T51.setTop (mkF m 382 (own_L29 y0 y1 y2 y3 y4 y5 y6 y7 y8 (2 : Int32) sx r51 y12 y13 y14 y15) [(.int (2 : Int32))])) _
      refine XS.ifYes X51.here hx rfl (pc0 := 382) (pc' := 399) rfl (hb hby at_382) rfl (XT.i0_ne_t (by decide)) (by decide) (by decide) ?_
      show Steps p.tables e below (T51.setTop (mkF m 399 (own_L29 y0 y1 y2 y3 y4 y5 y6 y7 y8 (2 : Int32) sx r51 y12 y13 y14 y15) [])) _
      refine XS.iload X51.here hx rfl (hb hby at_399) rfl  ?_
      refine XS.iconst X51.here hx rfl (hb hby at_401) ?_
      show Steps p.tables e below (T51.setTop (mkF m 402 (own_L29 y0 y1 y2 y3 y4 y5 y6 y7 y8 (2 : Int32) sx r51 y12 y13 y14 y15) [(.int (1 : Int32)), (.int (2 : Int32))])) _
      refine XS.icmpYes X51.here hx rfl (pc0 := 402) (pc' := 411) rfl (hb hby at_402) rfl (XT.ii_ne_t (by decide)) (by decide) (by decide) ?_
      exact oK
    obtain ⟨T57, X57, e57, st57⟩ := getS2 X51 hx hZ hown (host := "") (Or.inl (own_at hw 100 rfl)) Via.refl rfl (SR.ext (f2).2) (g := (mkF m 411 (own_L29 y0 y1 y2 y3 y4 y5 y6 y7 y8 (2 : Int32) sx r51 y12 y13 y14 y15) [])) rfl (hb hby at_411)
    refine OG.of st57 ?_
    show OG _ _ _ _ _ _ _ (T57.setTop (mkF m 414 (own_L29 y0 y1 y2 y3 y4 y5 y6 y7 y8 (2 : Int32) sx r51 y12 y13 y14 y15) [(.ref wR)]))
    refine OG.of (A := T57.setTop (mkF m 418 (own_L30 y0 y1 y2 y3 y4 y5 y6 y7 y8 (2 : Int32) sx r51 wR y13 y14 y15) [(.ref r51)])) (fun oT oK => ?_) ?_
    · skip
      refine XS.astore X57.here hx rfl (hb hby at_414) rfl rfl (l' := (own_L30 y0 y1 y2 y3 y4 y5 y6 y7 y8 (2 : Int32) sx r51 wR y13 y14 y15)) rfl ?_
      show Steps p.tables e below (T57.setTop (mkF m 416 (own_L30 y0 y1 y2 y3 y4 y5 y6 y7 y8 (2 : Int32) sx r51 wR y13 y14 y15) [])) _
      refine XS.aload X57.here hx rfl (hb hby at_416) rfl rfl  ?_
      exact oK
    obtain ⟨cq58, kq58, q58a, q58b, q58c⟩ := isOf hZ e57 (fE51)
    obtain ⟨_, _, ⟨T58, L58, k58, n58⟩, -, X58, ⟨Lc58, hQ58, l58, y58, z58⟩, st58⟩ := X57.virtualBack hx (y := (⟨"java/util/Optional", "isPresent", "()Z"⟩ : MethodName)) (z := (⟨"java/util/Optional", "isPresent", "()Z"⟩ : MethodName)) hown (mvT hZ (own_at hw 75 rfl)) (mvT hZ (own_at hw 76 rfl)) (notFace_of_selects (args := #[]) (mvT hZ (own_at hw 78 rfl))) (mvT hZ (own_at hw 78 rfl)) (mvT hZ (own_at hw 77 rfl)) (by decide) (backOf (W := 0) (rmPr l Z a0 hw [] r51 wR T51.heap n0 (Z51) fV51) hZ (own_at hw 79 rfl) (own_at hw 41 rfl) (by decide) (by decide)) q58a q58c (g := (mkF m 418 (own_L30 y0 y1 y2 y3 y4 y5 y6 y7 y8 (2 : Int32) sx r51 wR y13 y14 y15) [(.ref r51)])) rfl (by rw [hml]; rfl) (Steps.refl _) (argsL := []) (rest := []) (lenOf pd___Z rfl) rfl (by show 2 * 0 + _ ≤ _; exact Nat.le_of_eq rfl) (hb hby at_418) (fun _ _ => ⟨rfl, e57, (by decide : 9 + 0 ≤ _), (by decide : 61 + 0 ≤ _)⟩)
    dsimp only [Pt.U, Pt.locs, Pt.cells, Pt.slots] at X58 l58 y58 z58 st58 hQ58
    subst l58 y58 z58
    obtain ⟨hv58, N58q, e58⟩ := hQ58
    obtain rfl := hv58.trans (show _ = some (.int (1 : Int32)) from rfl)
    have N58 := Fr.app N51 N58q
    refine OG.trans st58 ?_
    show OG _ _ _ _ _ _ _ (T58.setTop (mkF m 421 (own_L30 y0 y1 y2 y3 y4 y5 y6 y7 y8 (2 : Int32) sx r51 wR y13 y14 y15) [(.int (1 : Int32))]))
    refine OG.of (A := T58.setTop (mkF m 426 (own_L30 y0 y1 y2 y3 y4 y5 y6 y7 y8 (2 : Int32) sx r51 wR y13 y14 y15) [(.ref r51)])) (fun oT oK => ?_) ?_
    · skip
      refine XS.ifNo X58.here hx rfl (hb hby at_421) rfl (XT.i0_eq_f (by decide)) ?_
      show Steps p.tables e below (T58.setTop (mkF m 424 (own_L30 y0 y1 y2 y3 y4 y5 y6 y7 y8 (2 : Int32) sx r51 wR y13 y14 y15) [])) _
      refine XS.aload X58.here hx rfl (hb hby at_424) rfl rfl  ?_
      exact oK
    obtain ⟨cq59, kq59, q59a, q59b, q59c⟩ := isOf hZ e58 (fE51)
    obtain ⟨_, _, ⟨T59, L59, k59, n59⟩, -, X59, ⟨Lc59, hQ59, l59, y59, z59⟩, st59⟩ := X58.virtualBack hx (y := (⟨"java/util/Optional", "get", "()Ljava/lang/Object;"⟩ : MethodName)) (z := (⟨"java/util/Optional", "get", "()Ljava/lang/Object;"⟩ : MethodName)) hown (mvT hZ (own_at hw 80 rfl)) (mvT hZ (own_at hw 81 rfl)) (notFace_of_selects (args := #[]) (mvT hZ (own_at hw 83 rfl))) (mvT hZ (own_at hw 83 rfl)) (mvT hZ (own_at hw 82 rfl)) (by decide) (backOf (W := 0) (rmG l Z a0 hw [] r51 wR T51.heap n0 (Z51) fV51) hZ (own_at hw 84 rfl) (own_at hw 41 rfl) (by decide) (by decide)) q59a q59c (g := (mkF m 426 (own_L30 y0 y1 y2 y3 y4 y5 y6 y7 y8 (2 : Int32) sx r51 wR y13 y14 y15) [(.ref r51)])) rfl (by rw [hml]; rfl) (Steps.refl _) (argsL := []) (rest := []) (lenOf pd___Ljava_lang_Object_ rfl) rfl (by show 2 * 0 + _ ≤ _; exact Nat.le_of_eq rfl) (hb hby at_426) (fun _ _ => ⟨rfl, e58, (by decide : 9 + 0 ≤ _), (by decide : 61 + 0 ≤ _)⟩)
    dsimp only [Pt.U, Pt.locs, Pt.cells, Pt.slots] at X59 l59 y59 z59 st59 hQ59
    subst l59 y59 z59
    obtain ⟨hv59, N59q, e59⟩ := hQ59
    obtain rfl := hv59.trans (show _ = some (.ref wR) from rfl)
    have N59 := Fr.app N58 N59q
    refine OG.trans st59 ?_
    show OG _ _ _ _ _ _ _ (T59.setTop (mkF m 429 (own_L30 y0 y1 y2 y3 y4 y5 y6 y7 y8 (2 : Int32) sx r51 wR y13 y14 y15) [(.ref wR)]))
    obtain ⟨T60, X60, e60, st60⟩ := castY X59 hx hZ hown (own_at hw 85 rfl) e59 (Ins.self (ER.ext (f2).2)) (g := (mkF m 429 (own_L30 y0 y1 y2 y3 y4 y5 y6 y7 y8 (2 : Int32) sx r51 wR y13 y14 y15) [(.ref wR)])) rfl rfl (hb hby at_429)
    refine OG.of st60 ?_
    show OG _ _ _ _ _ _ _ (T60.setTop (mkF m 432 (own_L30 y0 y1 y2 y3 y4 y5 y6 y7 y8 (2 : Int32) sx r51 wR y13 y14 y15) [(.ref wR)]))
    refine OG.of (A := T60.setTop (mkF m 434 (own_L30 y0 y1 y2 y3 y4 y5 y6 y7 y8 (2 : Int32) sx r51 wR y13 y14 y15) [(.ref wR), (.ref wR)])) (fun oT oK => ?_) ?_
    · skip
      refine XS.aload X60.here hx rfl (hb hby at_432) rfl rfl  ?_
      exact oK
    obtain ⟨cq61, kq61, q61a, q61b, q61c⟩ := isOf hZ e60 ((ER.ext (f2).2))
    obtain ⟨_, _, ⟨T61, L61, k61, n61⟩, -, X61, ⟨Lc61, hQ61, l61, y61, z61⟩, st61⟩ := X60.virtualBack hx (y := (⟨"com/example/vett/vett/Grantee", "equals", "(Ljava/lang/Object;)Z"⟩ : MethodName)) (z := (⟨"com/example/vett/vett/Grantee", "equals", "(Ljava/lang/Object;)Z"⟩ : MethodName)) hown (mvT hZ (own_at hw 87 rfl)) (mvT hZ (own_at hw 88 rfl)) (notFace_of_selects (args := #[]) (mvT hZ (own_at hw 90 rfl))) (mvT hZ (own_at hw 90 rfl)) (mvT hZ (own_at hw 89 rfl)) (by decide) (backOf (W := 0) (rmH l Z a0 hw [] wR uR T51.heap n0 (Z51) (ER.ext (f2).2) (FRu.ext (f2).2) (FRg.ext (f2).2)) hZ (own_at hw 91 rfl) (own_at hw 37 rfl) (by decide) (by decide)) q61a q61c (g := (mkF m 434 (own_L30 y0 y1 y2 y3 y4 y5 y6 y7 y8 (2 : Int32) sx r51 wR y13 y14 y15) [(.ref wR), (.ref wR)])) rfl (by rw [hml]; rfl) (Steps.refl _) (argsL := [(.ref wR)]) (rest := []) (lenOf pd__Ljava_lang_Object__Z rfl) rfl (by show 2 * 0 + _ ≤ _; exact Nat.le_of_eq rfl) (hb hby at_434) (fun _ _ => ⟨rfl, e60, (by decide : 9 + 0 ≤ _), (by decide : 61 + 0 ≤ _)⟩)
    dsimp only [Pt.U, Pt.locs, Pt.cells, Pt.slots] at X61 l61 y61 z61 st61 hQ61
    subst l61 y61 z61
    obtain ⟨hv61, N61q, e61⟩ := hQ61
    obtain rfl := hv61.trans (show _ = some (.int (1 : Int32)) from rfl)
    have N61 := Fr.app N59 N61q
    refine OG.trans st61 ?_
    show OG _ _ _ _ _ _ _ (T61.setTop (mkF m 437 (own_L30 y0 y1 y2 y3 y4 y5 y6 y7 y8 (2 : Int32) sx r51 wR y13 y14 y15) [(.int (1 : Int32))]))
    refine OG.of (A := T61.setTop (mkF m 445 (own_L30 y0 y1 y2 y3 y4 y5 y6 y7 y8 (2 : Int32) sx r51 wR y13 y14 y15) [(.int (1 : Int32))])) (fun oT oK => ?_) ?_
    · skip
      refine XS.ifNo X61.here hx rfl (hb hby at_437) rfl (XT.i0_eq_f (by decide)) ?_
      show Steps p.tables e below (T61.setTop (mkF m 440 (own_L30 y0 y1 y2 y3 y4 y5 y6 y7 y8 (2 : Int32) sx r51 wR y13 y14 y15) [])) _
      refine XS.iconst X61.here hx rfl (hb hby at_440) ?_
      refine XS.goto X61.here hx rfl (pc0 := 441) (pc' := 445) rfl (hb hby at_441) (by decide) (by decide) ?_
      exact oK
    refine OG.retN X61 hx (t := .boolean) hret (by simp) (hb hby at_445) hlk ?_ (by decide) (by decide)
    try rw [e61]
    exact ⟨rfl, N61, (K51).1⟩
  · skip
    show OG _ _ _ _ _ _ _ (T51.setTop (mkF m 371 (own_L28 y0 y1 y2 y3 y4 y5 y6 y7 y8 (0 : Int32) sx y11 y12 y13 y14 y15) [(.ref r51)]))
    refine OG.of (A := T51.setTop (mkF m 387 (own_L29 y0 y1 y2 y3 y4 y5 y6 y7 y8 (0 : Int32) sx r51 y12 y13 y14 y15) [(.ref r51)])) (fun oT oK => ?_) ?_
    · skip
      refine XS.astore X51.here hx rfl (hb hby at_371) rfl rfl (l' := (own_L29 y0 y1 y2 y3 y4 y5 y6 y7 y8 (0 : Int32) sx r51 y12 y13 y14 y15)) rfl ?_
      show Steps p.tables e below (T51.setTop (mkF m 373 (own_L29 y0 y1 y2 y3 y4 y5 y6 y7 y8 (0 : Int32) sx r51 y12 y13 y14 y15) [])) _
      refine XS.aload X51.here hx rfl (hb hby at_373) rfl rfl  ?_
      show Steps p.tables e below (T51.setTop (mkF m 375 (own_L29 y0 y1 y2 y3 y4 y5 y6 y7 y8 (0 : Int32) sx r51 y12 y13 y14 y15) [(.ref r51)])) _
      refine XT.ifnonnullYes X51.here hx rfl (pc0 := 375) (pc' := 380) rfl (hb hby at_375) rfl (by decide) (by decide) ?_
      show Steps p.tables e below (T51.setTop (mkF m 380 (own_L29 y0 y1 y2 y3 y4 y5 y6 y7 y8 (0 : Int32) sx r51 y12 y13 y14 y15) [])) _
      refine XS.iload X51.here hx rfl (hb hby at_380) rfl  ?_
      show Steps p.tables e below (T51.setTop (mkF m 382 (own_L29 y0 y1 y2 y3 y4 y5 y6 y7 y8 (0 : Int32) sx r51 y12 y13 y14 y15) [(.int (0 : Int32))])) _
      refine XS.ifNo X51.here hx rfl (hb hby at_382) rfl (XT.i0_ne_f rfl) ?_
      show Steps p.tables e below (T51.setTop (mkF m 385 (own_L29 y0 y1 y2 y3 y4 y5 y6 y7 y8 (0 : Int32) sx r51 y12 y13 y14 y15) [])) _
      refine XS.aload X51.here hx rfl (hb hby at_385) rfl rfl  ?_
      exact oK
    obtain ⟨cq62, kq62, q62a, q62b, q62c⟩ := isOf hZ rfl (fE51)
    obtain ⟨_, _, ⟨T62, L62, k62, n62⟩, -, X62, ⟨Lc62, hQ62, l62, y62, z62⟩, st62⟩ := X51.virtualBack hx (y := (⟨"java/util/Optional", "isPresent", "()Z"⟩ : MethodName)) (z := (⟨"java/util/Optional", "isPresent", "()Z"⟩ : MethodName)) hown (mvT hZ (own_at hw 75 rfl)) (mvT hZ (own_at hw 76 rfl)) (notFace_of_selects (args := #[]) (mvT hZ (own_at hw 78 rfl))) (mvT hZ (own_at hw 78 rfl)) (mvT hZ (own_at hw 77 rfl)) (by decide) (backOf (W := 0) (rmPn l Z a0 hw [] r51  T51.heap n0 (Z51) fV51) hZ (own_at hw 79 rfl) (own_at hw 41 rfl) (by decide) (by decide)) q62a q62c (g := (mkF m 387 (own_L29 y0 y1 y2 y3 y4 y5 y6 y7 y8 (0 : Int32) sx r51 y12 y13 y14 y15) [(.ref r51)])) rfl (by rw [hml]; rfl) (Steps.refl _) (argsL := []) (rest := []) (lenOf pd___Z rfl) rfl (by show 2 * 0 + _ ≤ _; exact Nat.le_of_eq rfl) (hb hby at_387) (fun _ _ => ⟨rfl, rfl, (by decide : 9 + 0 ≤ _), (by decide : 61 + 0 ≤ _)⟩)
    dsimp only [Pt.U, Pt.locs, Pt.cells, Pt.slots] at X62 l62 y62 z62 st62 hQ62
    subst l62 y62 z62
    obtain ⟨hv62, N62q, e62⟩ := hQ62
    obtain rfl := hv62.trans (show _ = some (.int (0 : Int32)) from rfl)
    have N62 := Fr.app N51 N62q
    refine OG.trans st62 ?_
    show OG _ _ _ _ _ _ _ (T62.setTop (mkF m 390 (own_L29 y0 y1 y2 y3 y4 y5 y6 y7 y8 (0 : Int32) sx r51 y12 y13 y14 y15) [(.int (0 : Int32))]))
    refine OG.of (A := T62.setTop (mkF m 398 (own_L29 y0 y1 y2 y3 y4 y5 y6 y7 y8 (0 : Int32) sx r51 y12 y13 y14 y15) [(.int (1 : Int32))])) (fun oT oK => ?_) ?_
    · skip
      refine XS.ifNo X62.here hx rfl (hb hby at_390) rfl (XT.i0_ne_f rfl) ?_
      show Steps p.tables e below (T62.setTop (mkF m 393 (own_L29 y0 y1 y2 y3 y4 y5 y6 y7 y8 (0 : Int32) sx r51 y12 y13 y14 y15) [])) _
      refine XS.iconst X62.here hx rfl (hb hby at_393) ?_
      refine XS.goto X62.here hx rfl (pc0 := 394) (pc' := 398) rfl (hb hby at_394) (by decide) (by decide) ?_
      exact oK
    refine OG.retN X62 hx (t := .boolean) hret (by simp) (hb hby at_398) hlk ?_ (by decide) (by decide)
    try rw [e62]
    exact ⟨rfl, N62, (K51).1⟩
set_option maxRecDepth 65536 in
set_option maxHeartbeats 40000000 in
theorem own_leg0 {p : Program} {l : Launch} {e : Env} {s : State} {m : MethodId} {args : Array Value} {below : List Frame} {meth : Method} {c : Code} {T0 : State} {locs : List Loc} {Z : State} {a0 : Array Value} {h1 : Heap} {n0 : Nat} (p0 : Int32) (p1 : Int32) (p2 : Int32) (g : Int32) (cx : Int32) (r1 : Addr) (cs1 : List Int32) (nn1 : Nat) (kr1 : ClassId) (wG : Addr) (wR : Addr) (uG : Addr) (uR : Addr) (wE : Addr) (zc : Int32)
    (X0 : Stand p l e room_1 s m args below meth c T0 locs 1 10) (hx : p.tables.exec = Jvm.exec) (hZ : Z.Warmed39 s.vm) (hw : ∀ d ∈ tables_1, d.before a0 Z = true) (hby : c.code = code) (hml : c.maxLocals = 16) (hown : s.vm.findClass "com/example/vett/vett/GranteeUserTypePinLaw" = some m.cls) (hlk : meth.locks = false) (hret : meth.sig.returnType = some .boolean) (e0 : T0.heap = h1) (N0 : Fr n0 locs) (Z0 : n0 ≤ h1.size) (hO : Old Z n0 h1) (hst : OSt Z wG wR uG uR wE zc) (hcx : own_ch cx) (gn_r1 : n0 ≤ r1) (fA1 : Arv Z h1 r1 kr1 .char (Int32.ofNat nn1) (cs1.map Value.int) (.int (0 : Int32))) (hl1 : cs1.length = nn1) (hp1 : 0 < nn1) (h111 : nn1 ≤ 11) (hch1 : ∀ c ∈ cs1, own_ch c) (hex1 : OEx cs1 (if g = (0 : Int32) then (2 : Int32) else (1 : Int32))) :
    OGV p e below s 24 1216 (fun v h L => v = some (.int 1) ∧ Fr n0 L) (T0.setTop (mkF m 64 (own_L18 p0 p1 p2 g ((XT.ushr p0 (1 : Int32)) &&& (7 : Int32)) cx r1 (Int32.ofNat nn1) ((p1 &&& (2147483647 : Int32)) % (Int32.ofNat nn1)) (if g = (0 : Int32) then (2 : Int32) else (1 : Int32))) [])) := by
  obtain ⟨SG, SR, SE, SC, hzc, EG, ER, FGu, FRu, FGg, FRg, TG, TR, EE, FE⟩ := id hst
  have hws := own_wsV hw
  obtain ⟨T51, h51, X51, e51, E51, A51, D51, -, st51⟩ := newO X0 hx hZ hown (own_at hw 6 rfl) (own_at hw 7 rfl) (own_at hw 8 rfl) e0 (g := (mkF m 64 (own_L18 p0 p1 p2 g ((XT.ushr p0 (1 : Int32)) &&& (7 : Int32)) cx r1 (Int32.ofNat nn1) ((p1 &&& (2147483647 : Int32)) % (Int32.ofNat nn1)) (if g = (0 : Int32) then (2 : Int32) else (1 : Int32))) [])) rfl (hb hby at_64) (by decide) (by decide)
  obtain ⟨b51, g51⟩ : ∃ z, z = (h1).size := ⟨_, rfl⟩
  have ne_r1_b51 : r1 ≠ b51 := Nat.ne_of_lt (Nat.lt_of_lt_of_le (fA1).lt (Nat.le_of_eq g51.symm))
  have gn_b51 : n0 ≤ b51 := Nat.le_trans Z0 (Nat.le_of_eq g51.symm)
  have sz_b51 : h1.size ≤ b51 := Nat.le_trans ((Keep.refl h1 [r1])).1 (Nat.le_of_eq g51.symm)
  rw [← g51] at A51 D51 st51
  have f1 := (fA1).ext E51
  have f2 := (hO).ext E51
  have K51 : Keep h1 h51 [r1] := ((Keep.refl h1 [r1])).ext E51
  have Z51 : n0 ≤ h51.size := Nat.le_trans Z0 E51.1
  have F51_coder : Fld Z h51 b51 "java/lang/String" "coder" "B" (.int (0 : Int32)) := D51 (Or.inr (own_at hw 32 rfl)) (ty := .byte) (by decide)
  have F51_value : Fld Z h51 b51 "java/lang/String" "value" "[B" .null := D51 (Or.inr (own_at hw 34 rfl)) (ty := (.array .byte)) (by decide)
  refine OGV.of st51 ?_
  show OGV _ _ _ _ _ _ _ (T51.setTop (mkF m 67 (own_L18 p0 p1 p2 g ((XT.ushr p0 (1 : Int32)) &&& (7 : Int32)) cx r1 (Int32.ofNat nn1) ((p1 &&& (2147483647 : Int32)) % (Int32.ofNat nn1)) (if g = (0 : Int32) then (2 : Int32) else (1 : Int32))) [(.ref b51)]))
  refine OGV.of (A := T51.setTop (mkF m 70 (own_L18 p0 p1 p2 g ((XT.ushr p0 (1 : Int32)) &&& (7 : Int32)) cx r1 (Int32.ofNat nn1) ((p1 &&& (2147483647 : Int32)) % (Int32.ofNat nn1)) (if g = (0 : Int32) then (2 : Int32) else (1 : Int32))) [(.ref r1), (.ref b51), (.ref b51)])) (fun oT oK => ?_) ?_
  · skip
    refine XS.dup X51.here hx rfl (hb hby at_67) rfl rfl ?_
    show Steps p.tables e below (T51.setTop (mkF m 68 (own_L18 p0 p1 p2 g ((XT.ushr p0 (1 : Int32)) &&& (7 : Int32)) cx r1 (Int32.ofNat nn1) ((p1 &&& (2147483647 : Int32)) % (Int32.ofNat nn1)) (if g = (0 : Int32) then (2 : Int32) else (1 : Int32))) [(.ref b51), (.ref b51)])) _
    refine XS.aload X51.here hx rfl (hb hby at_68) rfl rfl  ?_
    exact oK
  have hlc52 : ∀ zz ∈ cs1, own_ch zz := hch1
  have hlen52 : (cs1 : List Int32).length = nn1 := hl1
  have hle52 : nn1 ≤ 11 := h111
  obtain ⟨_, _, ⟨T52, L52, k52, n52⟩, -, X52, ⟨Lc52, hQ52, l52, y52, z52⟩, st52⟩ := X51.specialBack hx (y := (⟨"java/lang/String", "<init>", "([C)V"⟩ : MethodName)) rfl hown (mvT hZ (own_at hw 9 rfl)) (mvT hZ (own_at hw 10 rfl)) (mvT hZ (own_at hw 11 rfl)) (by decide) (StrChars.Road.backV (W := 1) hZ hws (kI := 4) (own_at hw 7 rfl) (cs := cs1) (bs := cs1.map (fun c => c.toInt8.toInt32)) (n := nn1) gn_b51 (Z51) A51 F51_value F51_coder f1 (SC.ext (f2).2) hzc hlen52 rfl hp1 (Nat.le_trans hle52 (by decide)) hlc52 rfl (by decide) (by decide)) (g := (mkF m 70 (own_L18 p0 p1 p2 g ((XT.ushr p0 (1 : Int32)) &&& (7 : Int32)) cx r1 (Int32.ofNat nn1) ((p1 &&& (2147483647 : Int32)) % (Int32.ofNat nn1)) (if g = (0 : Int32) then (2 : Int32) else (1 : Int32))) [(.ref r1), (.ref b51), (.ref b51)])) rfl (by rw [hml]; rfl) (Steps.refl _) (a := b51) (argsL := [(.ref r1)]) (rest := [(.ref b51)]) (lenOf pd___C_V rfl) rfl (by show 2 * 0 + _ ≤ _; exact Nat.le_of_eq rfl) (hb hby at_70) (fun _ _ => ⟨rfl, e51, (by decide : 2 + 1 ≤ _), Nat.le_trans (Nat.add_le_add_left hle52 _) (by decide : 14 + 11 ≤ _)⟩)
  dsimp only [Pt.U, Pt.locs, Pt.cells, Pt.slots] at X52 l52 y52 z52 st52 hQ52
  subst l52 y52 z52
  have X52 := X52.mono (Nat.le_refl _) (Nat.add_le_add_left hle52 _)
  obtain ⟨rfl, N52q, Kc52, fE52, fC52, t52, kb52, gn_t52, gs52, nx52, fV52, fA52⟩ := hQ52
  have N52 := Fr.app N0 N52q
  have O52 := (f2).keep Kc52 (allS gn_b51 all0)
  have K52 : Keep h1 T52.heap [r1] := (K51).trans Kc52 (allS (Or.inr sz_b51) all0)
  have Z52 : n0 ≤ T52.heap.size := Nat.le_trans Z51 Kc52.1
  have hT52 : OTx Z T52.heap b51 cs1 := ⟨t52, kb52, _, _, fE52, fV52, fC52, fA52, StrChars.Road.codOf hlen52 (fun c h => (hlc52 c h).2), hlc52, Nat.le_trans (Nat.le_of_eq hlen52) (Nat.le_trans hle52 (by decide))⟩
  refine OGV.trans st52 ?_
  show OGV _ _ _ _ _ _ _ (T52.setTop (mkF m 73 (own_L18 p0 p1 p2 g ((XT.ushr p0 (1 : Int32)) &&& (7 : Int32)) cx r1 (Int32.ofNat nn1) ((p1 &&& (2147483647 : Int32)) % (Int32.ofNat nn1)) (if g = (0 : Int32) then (2 : Int32) else (1 : Int32))) [(.ref b51)]))
  refine OGV.of (A := T52.setTop (mkF m 366 (own_L19 p0 p1 p2 g ((XT.ushr p0 (1 : Int32)) &&& (7 : Int32)) cx r1 (Int32.ofNat nn1) ((p1 &&& (2147483647 : Int32)) % (Int32.ofNat nn1)) (if g = (0 : Int32) then (2 : Int32) else (1 : Int32)) b51) [])) (fun oT oK => ?_) ?_
  · skip
    refine XS.astore X52.here hx rfl (hb hby at_73) rfl rfl (l' := (own_L19 p0 p1 p2 g ((XT.ushr p0 (1 : Int32)) &&& (7 : Int32)) cx r1 (Int32.ofNat nn1) ((p1 &&& (2147483647 : Int32)) % (Int32.ofNat nn1)) (if g = (0 : Int32) then (2 : Int32) else (1 : Int32)) b51)) rfl ?_
    show Steps p.tables e below (T52.setTop (mkF m 75 (own_L19 p0 p1 p2 g ((XT.ushr p0 (1 : Int32)) &&& (7 : Int32)) cx r1 (Int32.ofNat nn1) ((p1 &&& (2147483647 : Int32)) % (Int32.ofNat nn1)) (if g = (0 : Int32) then (2 : Int32) else (1 : Int32)) b51) [])) _
    refine XS.goto X52.here hx rfl (pc0 := 75) (pc' := 366) rfl (hb hby at_75) (by decide) (by decide) ?_
    exact oK
  exact OGV.of_OG (own_tail0 p0 p1 p2 g ((XT.ushr p0 (1 : Int32)) &&& (7 : Int32)) cx r1 (Int32.ofNat nn1) ((p1 &&& (2147483647 : Int32)) % (Int32.ofNat nn1)) (if g = (0 : Int32) then (2 : Int32) else (1 : Int32)) b51 cs1 wG wR uG uR wE zc (X52.mono (by decide) (by decide)) hx hZ hw hby hml hown hlk hret rfl N52 Z52 O52 hst hT52 hex1) (fun _ _ _ q => ⟨q.1, q.2.1⟩)
set_option maxRecDepth 65536 in
set_option maxHeartbeats 40000000 in
theorem own_leg1 {p : Program} {l : Launch} {e : Env} {s : State} {m : MethodId} {args : Array Value} {below : List Frame} {meth : Method} {c : Code} {T0 : State} {locs : List Loc} {Z : State} {a0 : Array Value} {h1 : Heap} {n0 : Nat} (p0 : Int32) (p1 : Int32) (p2 : Int32) (g : Int32) (cx : Int32) (r1 : Addr) (cs1 : List Int32) (nn1 : Nat) (kr1 : ClassId) (wG : Addr) (wR : Addr) (uG : Addr) (uR : Addr) (wE : Addr) (zc : Int32)
    (X0 : Stand p l e room_1 s m args below meth c T0 locs 1 10) (hx : p.tables.exec = Jvm.exec) (hZ : Z.Warmed39 s.vm) (hw : ∀ d ∈ tables_1, d.before a0 Z = true) (hby : c.code = code) (hml : c.maxLocals = 16) (hown : s.vm.findClass "com/example/vett/vett/GranteeUserTypePinLaw" = some m.cls) (hlk : meth.locks = false) (hret : meth.sig.returnType = some .boolean) (e0 : T0.heap = h1) (N0 : Fr n0 locs) (Z0 : n0 ≤ h1.size) (hO : Old Z n0 h1) (hst : OSt Z wG wR uG uR wE zc) (hcx : own_ch cx) (gn_r1 : n0 ≤ r1) (fA1 : Arv Z h1 r1 kr1 .char (Int32.ofNat nn1) (cs1.map Value.int) (.int (0 : Int32))) (hl1 : cs1.length = nn1) (hp1 : 0 < nn1) (h111 : nn1 ≤ 11) (hch1 : ∀ c ∈ cs1, own_ch c) (hex1 : OEx cs1 (if g = (0 : Int32) then (2 : Int32) else (1 : Int32))) :
    OGV p e below s 24 1216 (fun v h L => v = some (.int 1) ∧ Fr n0 L) (T0.setTop (mkF m 84 (own_L18 p0 p1 p2 g ((XT.ushr p0 (1 : Int32)) &&& (7 : Int32)) cx r1 (Int32.ofNat nn1) ((p1 &&& (2147483647 : Int32)) % (Int32.ofNat nn1)) (if g = (0 : Int32) then (2 : Int32) else (1 : Int32))) [])) := by
  obtain ⟨SG, SR, SE, SC, hzc, EG, ER, FGu, FRu, FGg, FRg, TG, TR, EE, FE⟩ := id hst
  have hws := own_wsV hw
  obtain ⟨j, hj, ej⟩ := own_modn nn1 hp1 (Nat.lt_of_le_of_lt h111 (by decide)) p1
  rw [ej]
  show OGV _ _ _ _ _ _ _ (T0.setTop (mkF m 84 (own_L18 p0 p1 p2 g ((XT.ushr p0 (1 : Int32)) &&& (7 : Int32)) cx r1 (Int32.ofNat nn1) (Int32.ofNat j) (if g = (0 : Int32) then (2 : Int32) else (1 : Int32))) []))
  refine OGV.of (A := T0.setTop (mkF m 88 (own_L18 p0 p1 p2 g ((XT.ushr p0 (1 : Int32)) &&& (7 : Int32)) cx r1 (Int32.ofNat nn1) (Int32.ofNat j) (if g = (0 : Int32) then (2 : Int32) else (1 : Int32))) [(.int (Int32.ofNat j)), (.ref r1)])) (fun oT oK => ?_) ?_
  · skip
    refine XS.aload X0.here hx rfl (hb hby at_84) rfl rfl  ?_
    show Steps p.tables e below (T0.setTop (mkF m 86 (own_L18 p0 p1 p2 g ((XT.ushr p0 (1 : Int32)) &&& (7 : Int32)) cx r1 (Int32.ofNat nn1) (Int32.ofNat j) (if g = (0 : Int32) then (2 : Int32) else (1 : Int32))) [(.ref r1)])) _
    refine XS.iload X0.here hx rfl (hb hby at_86) rfl  ?_
    exact oK
  have cf1 := (own_rdC fA1 hl1 h111 hj)
  obtain ⟨clf1, Arf1, If1, Hf1⟩ := cf1
  refine OGV.of (X0.caload hx (j := (Int32.ofNat j)) (v := (.int (cs1.getD j 0))) (by rw [e0]; exact Arf1.1) (State.isArrayOf_alike hZ.alike Arf1.2.1) Arf1.2.2 If1 Hf1 (g := (mkF m 88 (own_L18 p0 p1 p2 g ((XT.ushr p0 (1 : Int32)) &&& (7 : Int32)) cx r1 (Int32.ofNat nn1) (Int32.ofNat j) (if g = (0 : Int32) then (2 : Int32) else (1 : Int32))) [(.int (Int32.ofNat j)), (.ref r1)])) rfl rfl (hb hby at_88)) ?_
  show OGV _ _ _ _ _ _ _ (T0.setTop (mkF m 89 (own_L18 p0 p1 p2 g ((XT.ushr p0 (1 : Int32)) &&& (7 : Int32)) cx r1 (Int32.ofNat nn1) (Int32.ofNat j) (if g = (0 : Int32) then (2 : Int32) else (1 : Int32))) [(.int (cs1.getD j 0))]))
  refine OGV.of (A := T0.setTop (mkF m 97 (own_L22 p0 p1 p2 g ((XT.ushr p0 (1 : Int32)) &&& (7 : Int32)) cx r1 (Int32.ofNat nn1) (Int32.ofNat j) (if g = (0 : Int32) then (2 : Int32) else (1 : Int32)) (cs1.getD j 0)) [(.int cx), (.int (Int32.ofNat j)), (.ref r1)])) (fun oT oK => ?_) ?_
  · skip
    refine XS.istore X0.here hx rfl (hb hby at_89) rfl (l' := (own_L22 p0 p1 p2 g ((XT.ushr p0 (1 : Int32)) &&& (7 : Int32)) cx r1 (Int32.ofNat nn1) (Int32.ofNat j) (if g = (0 : Int32) then (2 : Int32) else (1 : Int32)) (cs1.getD j 0))) rfl ?_
    show Steps p.tables e below (T0.setTop (mkF m 91 (own_L22 p0 p1 p2 g ((XT.ushr p0 (1 : Int32)) &&& (7 : Int32)) cx r1 (Int32.ofNat nn1) (Int32.ofNat j) (if g = (0 : Int32) then (2 : Int32) else (1 : Int32)) (cs1.getD j 0)) [])) _
    refine XS.aload X0.here hx rfl (hb hby at_91) rfl rfl  ?_
    refine XS.iload X0.here hx rfl (hb hby at_93) rfl  ?_
    show Steps p.tables e below (T0.setTop (mkF m 95 (own_L22 p0 p1 p2 g ((XT.ushr p0 (1 : Int32)) &&& (7 : Int32)) cx r1 (Int32.ofNat nn1) (Int32.ofNat j) (if g = (0 : Int32) then (2 : Int32) else (1 : Int32)) (cs1.getD j 0)) [(.int (Int32.ofNat j)), (.ref r1)])) _
    refine XS.iload X0.here hx rfl (hb hby at_95) rfl  ?_
    exact oK
  obtain ⟨T51, h51, X51, e51, W51, V51, st51⟩ := own_stC X0 hx hZ e0 fA1 hl1 h111 (j := (Int32.ofNat j)) (i := j) rfl hj (g := (mkF m 97 (own_L22 p0 p1 p2 g ((XT.ushr p0 (1 : Int32)) &&& (7 : Int32)) cx r1 (Int32.ofNat nn1) (Int32.ofNat j) (if g = (0 : Int32) then (2 : Int32) else (1 : Int32)) (cs1.getD j 0)) [(.int cx), (.int (Int32.ofNat j)), (.ref r1)])) rfl rfl (hb hby at_97)
  have f4 := (hO).wr W51 gn_r1
  have K51 : Keep h1 h51 [r1] := ((Keep.refl h1 [r1])).wr W51 (Or.inl (by simp))
  have Z51 : n0 ≤ h51.size := Nat.le_trans Z0 (Keep.of_wr W51).1
  have N51 := Fr.snoc X51 N0 gn_r1
  refine OGV.of st51 ?_
  show OGV _ _ _ _ _ _ _ (T51.setTop (mkF m 98 (own_L22 p0 p1 p2 g ((XT.ushr p0 (1 : Int32)) &&& (7 : Int32)) cx r1 (Int32.ofNat nn1) (Int32.ofNat j) (if g = (0 : Int32) then (2 : Int32) else (1 : Int32)) (cs1.getD j 0)) []))
  obtain ⟨T52, h52, X52, e52, E52, A52, D52, -, st52⟩ := newO X51 hx hZ hown (own_at hw 6 rfl) (own_at hw 7 rfl) (own_at hw 8 rfl) e51 (g := (mkF m 98 (own_L22 p0 p1 p2 g ((XT.ushr p0 (1 : Int32)) &&& (7 : Int32)) cx r1 (Int32.ofNat nn1) (Int32.ofNat j) (if g = (0 : Int32) then (2 : Int32) else (1 : Int32)) (cs1.getD j 0)) [])) rfl (hb hby at_98) (by decide) (by decide)
  obtain ⟨b52, g52⟩ : ∃ z, z = (h51).size := ⟨_, rfl⟩
  have ne_r1_b52 : r1 ≠ b52 := Nat.ne_of_lt (Nat.lt_of_lt_of_le (V51).lt (Nat.le_of_eq g52.symm))
  have gn_b52 : n0 ≤ b52 := Nat.le_trans Z51 (Nat.le_of_eq g52.symm)
  have sz_b52 : h1.size ≤ b52 := Nat.le_trans (K51).1 (Nat.le_of_eq g52.symm)
  rw [← g52] at A52 D52 st52
  have f5 := (V51).ext E52
  have f6 := (f4).ext E52
  have K52 : Keep h1 h52 [r1] := (K51).ext E52
  have Z52 : n0 ≤ h52.size := Nat.le_trans Z51 E52.1
  have F52_coder : Fld Z h52 b52 "java/lang/String" "coder" "B" (.int (0 : Int32)) := D52 (Or.inr (own_at hw 32 rfl)) (ty := .byte) (by decide)
  have F52_value : Fld Z h52 b52 "java/lang/String" "value" "[B" .null := D52 (Or.inr (own_at hw 34 rfl)) (ty := (.array .byte)) (by decide)
  refine OGV.of st52 ?_
  show OGV _ _ _ _ _ _ _ (T52.setTop (mkF m 101 (own_L22 p0 p1 p2 g ((XT.ushr p0 (1 : Int32)) &&& (7 : Int32)) cx r1 (Int32.ofNat nn1) (Int32.ofNat j) (if g = (0 : Int32) then (2 : Int32) else (1 : Int32)) (cs1.getD j 0)) [(.ref b52)]))
  refine OGV.of (A := T52.setTop (mkF m 104 (own_L22 p0 p1 p2 g ((XT.ushr p0 (1 : Int32)) &&& (7 : Int32)) cx r1 (Int32.ofNat nn1) (Int32.ofNat j) (if g = (0 : Int32) then (2 : Int32) else (1 : Int32)) (cs1.getD j 0)) [(.ref r1), (.ref b52), (.ref b52)])) (fun oT oK => ?_) ?_
  · skip
    refine XS.dup X52.here hx rfl (hb hby at_101) rfl rfl ?_
    show Steps p.tables e below (T52.setTop (mkF m 102 (own_L22 p0 p1 p2 g ((XT.ushr p0 (1 : Int32)) &&& (7 : Int32)) cx r1 (Int32.ofNat nn1) (Int32.ofNat j) (if g = (0 : Int32) then (2 : Int32) else (1 : Int32)) (cs1.getD j 0)) [(.ref b52), (.ref b52)])) _
    refine XS.aload X52.here hx rfl (hb hby at_102) rfl rfl  ?_
    exact oK
  have hlc53 : ∀ zz ∈ (cs1.set j (nar .char cx)), own_ch zz := (own_set_ch hch1 (own_ncb hcx) _)
  have hlen53 : ((cs1.set j (nar .char cx)) : List Int32).length = nn1 := ((List.length_set ..).trans hl1)
  have hle53 : nn1 ≤ 11 := h111
  obtain ⟨_, _, ⟨T53, L53, k53, n53⟩, -, X53, ⟨Lc53, hQ53, l53, y53, z53⟩, st53⟩ := X52.specialBack hx (y := (⟨"java/lang/String", "<init>", "([C)V"⟩ : MethodName)) rfl hown (mvT hZ (own_at hw 9 rfl)) (mvT hZ (own_at hw 10 rfl)) (mvT hZ (own_at hw 11 rfl)) (by decide) (StrChars.Road.backV (W := 1) hZ hws (kI := 4) (own_at hw 7 rfl) (cs := (cs1.set j (nar .char cx))) (bs := (cs1.set j (nar .char cx)).map (fun c => c.toInt8.toInt32)) (n := nn1) gn_b52 (Z52) A52 F52_value F52_coder f5 (SC.ext (f6).2) hzc hlen53 rfl hp1 (Nat.le_trans hle53 (by decide)) hlc53 rfl (by decide) (by decide)) (g := (mkF m 104 (own_L22 p0 p1 p2 g ((XT.ushr p0 (1 : Int32)) &&& (7 : Int32)) cx r1 (Int32.ofNat nn1) (Int32.ofNat j) (if g = (0 : Int32) then (2 : Int32) else (1 : Int32)) (cs1.getD j 0)) [(.ref r1), (.ref b52), (.ref b52)])) rfl (by rw [hml]; rfl) (Steps.refl _) (a := b52) (argsL := [(.ref r1)]) (rest := [(.ref b52)]) (lenOf pd___C_V rfl) rfl (by show 2 * 0 + _ ≤ _; exact Nat.le_of_eq rfl) (hb hby at_104) (fun _ _ => ⟨rfl, e52, (by decide : 2 + 1 ≤ _), Nat.le_trans (Nat.add_le_add_left hle53 _) (by decide : 14 + 11 ≤ _)⟩)
  dsimp only [Pt.U, Pt.locs, Pt.cells, Pt.slots] at X53 l53 y53 z53 st53 hQ53
  subst l53 y53 z53
  have X53 := X53.mono (Nat.le_refl _) (Nat.add_le_add_left hle53 _)
  obtain ⟨rfl, N53q, Kc53, fE53, fC53, t53, kb53, gn_t53, gs53, nx53, fV53, fA53⟩ := hQ53
  have N53 := Fr.app N51 N53q
  have O53 := (f6).keep Kc53 (allS gn_b52 all0)
  have K53 : Keep h1 T53.heap [r1] := (K52).trans Kc53 (allS (Or.inr sz_b52) all0)
  have Z53 : n0 ≤ T53.heap.size := Nat.le_trans Z52 Kc53.1
  have hT53 : OTx Z T53.heap b52 (cs1.set j (nar .char cx)) := ⟨t53, kb53, _, _, fE53, fV53, fC53, fA53, StrChars.Road.codOf hlen53 (fun c h => (hlc53 c h).2), hlc53, Nat.le_trans (Nat.le_of_eq hlen53) (Nat.le_trans hle53 (by decide))⟩
  refine OGV.trans st53 ?_
  show OGV _ _ _ _ _ _ _ (T53.setTop (mkF m 107 (own_L22 p0 p1 p2 g ((XT.ushr p0 (1 : Int32)) &&& (7 : Int32)) cx r1 (Int32.ofNat nn1) (Int32.ofNat j) (if g = (0 : Int32) then (2 : Int32) else (1 : Int32)) (cs1.getD j 0)) [(.ref b52)]))
  refine OGV.of (A := T53.setTop (mkF m 366 (own_L23 p0 p1 p2 g ((XT.ushr p0 (1 : Int32)) &&& (7 : Int32)) cx r1 (Int32.ofNat nn1) (Int32.ofNat j) (if cx = (cs1.getD j 0) then (if g = (0 : Int32) then (2 : Int32) else (1 : Int32)) else (0 : Int32)) b52 (cs1.getD j 0)) [])) (fun oT oK => ?_) ?_
  · skip
    refine XS.astore X53.here hx rfl (hb hby at_107) rfl rfl (l' := (own_L23 p0 p1 p2 g ((XT.ushr p0 (1 : Int32)) &&& (7 : Int32)) cx r1 (Int32.ofNat nn1) (Int32.ofNat j) (if g = (0 : Int32) then (2 : Int32) else (1 : Int32)) b52 (cs1.getD j 0))) rfl ?_
    show Steps p.tables e below (T53.setTop (mkF m 109 (own_L23 p0 p1 p2 g ((XT.ushr p0 (1 : Int32)) &&& (7 : Int32)) cx r1 (Int32.ofNat nn1) (Int32.ofNat j) (if g = (0 : Int32) then (2 : Int32) else (1 : Int32)) b52 (cs1.getD j 0)) [])) _
    refine XS.iload X53.here hx rfl (hb hby at_109) rfl  ?_
    refine XS.iload X53.here hx rfl (hb hby at_111) rfl  ?_
    show Steps p.tables e below (T53.setTop (mkF m 113 (own_L23 p0 p1 p2 g ((XT.ushr p0 (1 : Int32)) &&& (7 : Int32)) cx r1 (Int32.ofNat nn1) (Int32.ofNat j) (if g = (0 : Int32) then (2 : Int32) else (1 : Int32)) b52 (cs1.getD j 0)) [(.int (cs1.getD j 0)), (.int cx)])) _
    refine (show ∀ oT, Steps p.tables e below (T53.setTop (mkF m 119 (own_L23 p0 p1 p2 g ((XT.ushr p0 (1 : Int32)) &&& (7 : Int32)) cx r1 (Int32.ofNat nn1) (Int32.ofNat j) (if cx = (cs1.getD j 0) then (if g = (0 : Int32) then (2 : Int32) else (1 : Int32)) else (0 : Int32)) b52 (cs1.getD j 0)) [])) oT → Steps p.tables e below (T53.setTop (mkF m 113 (own_L23 p0 p1 p2 g ((XT.ushr p0 (1 : Int32)) &&& (7 : Int32)) cx r1 (Int32.ofNat nn1) (Int32.ofNat j) (if g = (0 : Int32) then (2 : Int32) else (1 : Int32)) b52 (cs1.getD j 0)) [(.int (cs1.getD j 0)), (.int cx)])) oT from fun oT oK => ?_) _ ?_
    · skip
      show Steps p.tables e below (T53.setTop (mkF m 113 (own_L23 p0 p1 p2 g ((XT.ushr p0 (1 : Int32)) &&& (7 : Int32)) cx r1 (Int32.ofNat nn1) (Int32.ofNat j) (if g = (0 : Int32) then (2 : Int32) else (1 : Int32)) b52 (cs1.getD j 0)) [(.int (cs1.getD j 0)), (.int cx)])) _
      by_cases hj113_8 : cx = (cs1.getD j 0)
      · try simp only [if_pos hj113_8] at oK
        refine XS.icmpYes X53.here hx rfl (pc0 := 113) (pc' := 119) rfl (hb hby at_113) rfl (XT.ii_eq_t hj113_8) (by decide) (by decide) ?_
        exact oK
      · try simp only [if_neg hj113_8] at oK
        refine XS.icmpNo X53.here hx rfl (hb hby at_113) rfl (XT.ii_eq_f hj113_8) ?_
        show Steps p.tables e below (T53.setTop (mkF m 116 (own_L23 p0 p1 p2 g ((XT.ushr p0 (1 : Int32)) &&& (7 : Int32)) cx r1 (Int32.ofNat nn1) (Int32.ofNat j) (if g = (0 : Int32) then (2 : Int32) else (1 : Int32)) b52 (cs1.getD j 0)) [])) _
        refine XS.iconst X53.here hx rfl (hb hby at_116) ?_
        show Steps p.tables e below (T53.setTop (mkF m 117 (own_L23 p0 p1 p2 g ((XT.ushr p0 (1 : Int32)) &&& (7 : Int32)) cx r1 (Int32.ofNat nn1) (Int32.ofNat j) (if g = (0 : Int32) then (2 : Int32) else (1 : Int32)) b52 (cs1.getD j 0)) [(.int (0 : Int32))])) _
        refine XS.istore X53.here hx rfl (hb hby at_117) rfl (l' := (own_L23 p0 p1 p2 g ((XT.ushr p0 (1 : Int32)) &&& (7 : Int32)) cx r1 (Int32.ofNat nn1) (Int32.ofNat j) (0 : Int32) b52 (cs1.getD j 0))) rfl ?_
        exact oK
    refine XS.goto X53.here hx rfl (pc0 := 119) (pc' := 366) rfl (hb hby at_119) (by decide) (by decide) ?_
    exact oK
  exact OGV.of_OG (own_tail1 p0 p1 p2 g ((XT.ushr p0 (1 : Int32)) &&& (7 : Int32)) cx r1 (Int32.ofNat nn1) (Int32.ofNat j) (if cx = (cs1.getD j 0) then (if g = (0 : Int32) then (2 : Int32) else (1 : Int32)) else (0 : Int32)) b52 (cs1.getD j 0) (cs1.set j (nar .char cx)) wG wR uG uR wE zc (X53.mono (by decide) (by decide)) hx hZ hw hby hml hown hlk hret rfl N53 Z53 O53 hst hT53 (own_ex1 hex1 (own_g12 g) hcx hl1 hj)) (fun _ _ _ q => ⟨q.1, q.2.1⟩)
set_option maxRecDepth 65536 in
set_option maxHeartbeats 40000000 in
theorem own_leg2 {p : Program} {l : Launch} {e : Env} {s : State} {m : MethodId} {args : Array Value} {below : List Frame} {meth : Method} {c : Code} {T0 : State} {locs : List Loc} {Z : State} {a0 : Array Value} {h1 : Heap} {n0 : Nat} (p0 : Int32) (p1 : Int32) (p2 : Int32) (g : Int32) (cx : Int32) (r1 : Addr) (cs1 : List Int32) (nn1 : Nat) (kr1 : ClassId) (wG : Addr) (wR : Addr) (uG : Addr) (uR : Addr) (wE : Addr) (zc : Int32)
    (X0 : Stand p l e room_1 s m args below meth c T0 locs 1 10) (hx : p.tables.exec = Jvm.exec) (hZ : Z.Warmed39 s.vm) (hw : ∀ d ∈ tables_1, d.before a0 Z = true) (hby : c.code = code) (hml : c.maxLocals = 16) (hown : s.vm.findClass "com/example/vett/vett/GranteeUserTypePinLaw" = some m.cls) (hlk : meth.locks = false) (hret : meth.sig.returnType = some .boolean) (e0 : T0.heap = h1) (N0 : Fr n0 locs) (Z0 : n0 ≤ h1.size) (hO : Old Z n0 h1) (hst : OSt Z wG wR uG uR wE zc) (hcx : own_ch cx) (gn_r1 : n0 ≤ r1) (fA1 : Arv Z h1 r1 kr1 .char (Int32.ofNat nn1) (cs1.map Value.int) (.int (0 : Int32))) (hl1 : cs1.length = nn1) (hp1 : 0 < nn1) (h111 : nn1 ≤ 11) (hch1 : ∀ c ∈ cs1, own_ch c) (hex1 : OEx cs1 (if g = (0 : Int32) then (2 : Int32) else (1 : Int32))) :
    OGV p e below s 24 1216 (fun v h L => v = some (.int 1) ∧ Fr n0 L) (T0.setTop (mkF m 128 (own_L18 p0 p1 p2 g ((XT.ushr p0 (1 : Int32)) &&& (7 : Int32)) cx r1 (Int32.ofNat nn1) ((p1 &&& (2147483647 : Int32)) % (Int32.ofNat nn1)) (if g = (0 : Int32) then (2 : Int32) else (1 : Int32))) [])) := by
  obtain ⟨SG, SR, SE, SC, hzc, EG, ER, FGu, FRu, FGg, FRg, TG, TR, EE, FE⟩ := id hst
  have hws := own_wsV hw
  obtain ⟨T51, h51, X51, e51, E51, A51, D51, -, st51⟩ := newO X0 hx hZ hown (own_at hw 6 rfl) (own_at hw 7 rfl) (own_at hw 8 rfl) e0 (g := (mkF m 128 (own_L18 p0 p1 p2 g ((XT.ushr p0 (1 : Int32)) &&& (7 : Int32)) cx r1 (Int32.ofNat nn1) ((p1 &&& (2147483647 : Int32)) % (Int32.ofNat nn1)) (if g = (0 : Int32) then (2 : Int32) else (1 : Int32))) [])) rfl (hb hby at_128) (by decide) (by decide)
  obtain ⟨b51, g51⟩ : ∃ z, z = (h1).size := ⟨_, rfl⟩
  have ne_r1_b51 : r1 ≠ b51 := Nat.ne_of_lt (Nat.lt_of_lt_of_le (fA1).lt (Nat.le_of_eq g51.symm))
  have gn_b51 : n0 ≤ b51 := Nat.le_trans Z0 (Nat.le_of_eq g51.symm)
  have sz_b51 : h1.size ≤ b51 := Nat.le_trans ((Keep.refl h1 [r1])).1 (Nat.le_of_eq g51.symm)
  rw [← g51] at A51 D51 st51
  have f1 := (fA1).ext E51
  have f2 := (hO).ext E51
  have K51 : Keep h1 h51 [r1] := ((Keep.refl h1 [r1])).ext E51
  have Z51 : n0 ≤ h51.size := Nat.le_trans Z0 E51.1
  have F51_coder : Fld Z h51 b51 "java/lang/String" "coder" "B" (.int (0 : Int32)) := D51 (Or.inr (own_at hw 32 rfl)) (ty := .byte) (by decide)
  have F51_value : Fld Z h51 b51 "java/lang/String" "value" "[B" .null := D51 (Or.inr (own_at hw 34 rfl)) (ty := (.array .byte)) (by decide)
  refine OGV.of st51 ?_
  show OGV _ _ _ _ _ _ _ (T51.setTop (mkF m 131 (own_L18 p0 p1 p2 g ((XT.ushr p0 (1 : Int32)) &&& (7 : Int32)) cx r1 (Int32.ofNat nn1) ((p1 &&& (2147483647 : Int32)) % (Int32.ofNat nn1)) (if g = (0 : Int32) then (2 : Int32) else (1 : Int32))) [(.ref b51)]))
  refine OGV.of (A := T51.setTop (mkF m 135 (own_L18 p0 p1 p2 g ((XT.ushr p0 (1 : Int32)) &&& (7 : Int32)) cx r1 (Int32.ofNat nn1) ((p1 &&& (2147483647 : Int32)) % (Int32.ofNat nn1)) (if g = (0 : Int32) then (2 : Int32) else (1 : Int32))) [(.int cx), (.int g), (.ref b51), (.ref b51)])) (fun oT oK => ?_) ?_
  · skip
    refine XS.dup X51.here hx rfl (hb hby at_131) rfl rfl ?_
    show Steps p.tables e below (T51.setTop (mkF m 132 (own_L18 p0 p1 p2 g ((XT.ushr p0 (1 : Int32)) &&& (7 : Int32)) cx r1 (Int32.ofNat nn1) ((p1 &&& (2147483647 : Int32)) % (Int32.ofNat nn1)) (if g = (0 : Int32) then (2 : Int32) else (1 : Int32))) [(.ref b51), (.ref b51)])) _
    refine XS.iloadN X51.here hx rfl (hb hby at_132) rfl  ?_
    refine XS.iload X51.here hx rfl (hb hby at_133) rfl  ?_
    exact oK
  obtain ⟨_, _, ⟨T52, L52, k52, n52⟩, -, X52, ⟨Lc52, hQ52, l52, y52, z52⟩, st52⟩ := Jvm.LawKit.callS X51 hx (y := (⟨"com/example/vett/vett/GranteeUserTypePinLaw", "appended", "(ZC)[C"⟩ : MethodName)) hown (mvT hZ (own_at hw 101 rfl)) (mvT hZ (own_at hw 102 rfl)) (mvT hZ (own_at hw 2 rfl)) (mvT hZ (own_at hw 103 rfl)) (by decide) (backOf (W := 2) (rmA l Z a0 hw [] g cx h51 n0 (Z51) hcx) hZ (own_at hw 103 rfl) (own_at hw 2 rfl) (by decide) (by decide)) (g := (mkF m 135 (own_L18 p0 p1 p2 g ((XT.ushr p0 (1 : Int32)) &&& (7 : Int32)) cx r1 (Int32.ofNat nn1) ((p1 &&& (2147483647 : Int32)) % (Int32.ofNat nn1)) (if g = (0 : Int32) then (2 : Int32) else (1 : Int32))) [(.int cx), (.int g), (.ref b51), (.ref b51)])) rfl (by rw [hml]; rfl) (argsL := [(.int g), (.int cx)]) (rest := [(.ref b51), (.ref b51)]) (lenOf pd__ZC__C rfl) rfl (by show 2 * 0 + _ ≤ _; exact Nat.le_of_eq rfl) (hb hby at_135) (fun _ _ => ⟨rfl, e51, (by decide : 2 + 1 ≤ _), (by decide : 14 + 11 ≤ _)⟩)
  dsimp only [Pt.U, Pt.locs, Pt.cells, Pt.slots] at X52 l52 y52 z52 st52 hQ52
  subst l52 y52 z52
  obtain ⟨r52, cs52, nn52, rfl, N52q, Kc52, gn_r52, gs52, ⟨kr52, fA52⟩, hl52, hp52, h1152, hch52, hex52⟩ := hQ52
  have N52 := Fr.app N0 N52q
  have sz_r52 : h1.size ≤ r52 := Nat.le_trans (K51).1 gs52
  have ne_r1_r52 : r1 ≠ r52 := Nat.ne_of_lt (Nat.lt_of_lt_of_le (f1).lt gs52)
  have ne_b51_r52 : b51 ≠ r52 := Nat.ne_of_lt (Nat.lt_of_lt_of_le (A51).lt gs52)
  have f3 := (f1).keep Kc52 nin0
  have f4 := (A51).keep Kc52
  have f5 := (F51_coder).keep Kc52 nin0
  have f6 := (F51_value).keep Kc52 nin0
  have f7 := (f2).keep Kc52 all0
  have K52 : Keep h1 T52.heap [r1] := (K51).trans Kc52 all0
  have Z52 : n0 ≤ T52.heap.size := Nat.le_trans Z51 Kc52.1
  refine OGV.of st52 ?_
  show OGV _ _ _ _ _ _ _ (T52.setTop (mkF m 138 (own_L18 p0 p1 p2 g ((XT.ushr p0 (1 : Int32)) &&& (7 : Int32)) cx r1 (Int32.ofNat nn1) ((p1 &&& (2147483647 : Int32)) % (Int32.ofNat nn1)) (if g = (0 : Int32) then (2 : Int32) else (1 : Int32))) [(.ref r52), (.ref b51), (.ref b51)]))
  have hlc53 : ∀ zz ∈ cs52, own_ch zz := hch52
  have hlen53 : (cs52 : List Int32).length = nn52 := hl52
  have hle53 : nn52 ≤ 11 := h1152
  obtain ⟨_, _, ⟨T53, L53, k53, n53⟩, -, X53, ⟨Lc53, hQ53, l53, y53, z53⟩, st53⟩ := X52.specialBack hx (y := (⟨"java/lang/String", "<init>", "([C)V"⟩ : MethodName)) rfl hown (mvT hZ (own_at hw 9 rfl)) (mvT hZ (own_at hw 10 rfl)) (mvT hZ (own_at hw 11 rfl)) (by decide) (StrChars.Road.backV (W := 1) hZ hws (kI := 4) (own_at hw 7 rfl) (cs := cs52) (bs := cs52.map (fun c => c.toInt8.toInt32)) (n := nn52) gn_b51 (Z52) f4 f6 f5 fA52 (SC.ext (f7).2) hzc hlen53 rfl hp52 (Nat.le_trans hle53 (by decide)) hlc53 rfl (by decide) (by decide)) (g := (mkF m 138 (own_L18 p0 p1 p2 g ((XT.ushr p0 (1 : Int32)) &&& (7 : Int32)) cx r1 (Int32.ofNat nn1) ((p1 &&& (2147483647 : Int32)) % (Int32.ofNat nn1)) (if g = (0 : Int32) then (2 : Int32) else (1 : Int32))) [(.ref r52), (.ref b51), (.ref b51)])) rfl (by rw [hml]; rfl) (Steps.refl _) (a := b51) (argsL := [(.ref r52)]) (rest := [(.ref b51)]) (lenOf pd___C_V rfl) rfl (by show 2 * 0 + _ ≤ _; exact Nat.le_of_eq rfl) (hb hby at_138) (fun _ _ => ⟨rfl, rfl, (by decide : 3 + 1 ≤ _), Nat.le_trans (Nat.add_le_add_left hle53 _) (by decide : 25 + 11 ≤ _)⟩)
  dsimp only [Pt.U, Pt.locs, Pt.cells, Pt.slots] at X53 l53 y53 z53 st53 hQ53
  subst l53 y53 z53
  have X53 := X53.mono (Nat.le_refl _) (Nat.add_le_add_left hle53 _)
  obtain ⟨rfl, N53q, Kc53, fE53, fC53, t53, kb53, gn_t53, gs53, nx53, fV53, fA53⟩ := hQ53
  have N53 := Fr.app N52 N53q
  have O53 := (f7).keep Kc53 (allS gn_b51 all0)
  have K53 : Keep h1 T53.heap [r1] := (K52).trans Kc53 (allS (Or.inr sz_b51) all0)
  have Z53 : n0 ≤ T53.heap.size := Nat.le_trans Z52 Kc53.1
  have hT53 : OTx Z T53.heap b51 cs52 := ⟨t53, kb53, _, _, fE53, fV53, fC53, fA53, StrChars.Road.codOf hlen53 (fun c h => (hlc53 c h).2), hlc53, Nat.le_trans (Nat.le_of_eq hlen53) (Nat.le_trans hle53 (by decide))⟩
  refine OGV.trans st53 ?_
  show OGV _ _ _ _ _ _ _ (T53.setTop (mkF m 141 (own_L18 p0 p1 p2 g ((XT.ushr p0 (1 : Int32)) &&& (7 : Int32)) cx r1 (Int32.ofNat nn1) ((p1 &&& (2147483647 : Int32)) % (Int32.ofNat nn1)) (if g = (0 : Int32) then (2 : Int32) else (1 : Int32))) [(.ref b51)]))
  refine OGV.of (A := T53.setTop (mkF m 366 (own_L19 p0 p1 p2 g ((XT.ushr p0 (1 : Int32)) &&& (7 : Int32)) cx r1 (Int32.ofNat nn1) ((p1 &&& (2147483647 : Int32)) % (Int32.ofNat nn1)) (0 : Int32) b51) [])) (fun oT oK => ?_) ?_
  · skip
    refine XS.astore X53.here hx rfl (hb hby at_141) rfl rfl (l' := (own_L19 p0 p1 p2 g ((XT.ushr p0 (1 : Int32)) &&& (7 : Int32)) cx r1 (Int32.ofNat nn1) ((p1 &&& (2147483647 : Int32)) % (Int32.ofNat nn1)) (if g = (0 : Int32) then (2 : Int32) else (1 : Int32)) b51)) rfl ?_
    show Steps p.tables e below (T53.setTop (mkF m 143 (own_L19 p0 p1 p2 g ((XT.ushr p0 (1 : Int32)) &&& (7 : Int32)) cx r1 (Int32.ofNat nn1) ((p1 &&& (2147483647 : Int32)) % (Int32.ofNat nn1)) (if g = (0 : Int32) then (2 : Int32) else (1 : Int32)) b51) [])) _
    refine XS.iconst X53.here hx rfl (hb hby at_143) ?_
    refine XS.istore X53.here hx rfl (hb hby at_144) rfl (l' := (own_L19 p0 p1 p2 g ((XT.ushr p0 (1 : Int32)) &&& (7 : Int32)) cx r1 (Int32.ofNat nn1) ((p1 &&& (2147483647 : Int32)) % (Int32.ofNat nn1)) (0 : Int32) b51)) rfl ?_
    show Steps p.tables e below (T53.setTop (mkF m 146 (own_L19 p0 p1 p2 g ((XT.ushr p0 (1 : Int32)) &&& (7 : Int32)) cx r1 (Int32.ofNat nn1) ((p1 &&& (2147483647 : Int32)) % (Int32.ofNat nn1)) (0 : Int32) b51) [])) _
    refine XS.goto X53.here hx rfl (pc0 := 146) (pc' := 366) rfl (hb hby at_146) (by decide) (by decide) ?_
    exact oK
  exact OGV.of_OG (own_tail0 p0 p1 p2 g ((XT.ushr p0 (1 : Int32)) &&& (7 : Int32)) cx r1 (Int32.ofNat nn1) ((p1 &&& (2147483647 : Int32)) % (Int32.ofNat nn1)) (0 : Int32) b51 cs52 wG wR uG uR wE zc (X53.mono (by decide) (by decide)) hx hZ hw hby hml hown hlk hret rfl N53 Z53 O53 hst hT53 hex52) (fun _ _ _ q => ⟨q.1, q.2.1⟩)
set_option maxRecDepth 65536 in
set_option maxHeartbeats 40000000 in
theorem own_leg3 {p : Program} {l : Launch} {e : Env} {s : State} {m : MethodId} {args : Array Value} {below : List Frame} {meth : Method} {c : Code} {T0 : State} {locs : List Loc} {Z : State} {a0 : Array Value} {h1 : Heap} {n0 : Nat} (p0 : Int32) (p1 : Int32) (p2 : Int32) (g : Int32) (cx : Int32) (r1 : Addr) (cs1 : List Int32) (nn1 : Nat) (kr1 : ClassId) (wG : Addr) (wR : Addr) (uG : Addr) (uR : Addr) (wE : Addr) (zc : Int32)
    (X0 : Stand p l e room_1 s m args below meth c T0 locs 1 10) (hx : p.tables.exec = Jvm.exec) (hZ : Z.Warmed39 s.vm) (hw : ∀ d ∈ tables_1, d.before a0 Z = true) (hby : c.code = code) (hml : c.maxLocals = 16) (hown : s.vm.findClass "com/example/vett/vett/GranteeUserTypePinLaw" = some m.cls) (hlk : meth.locks = false) (hret : meth.sig.returnType = some .boolean) (e0 : T0.heap = h1) (N0 : Fr n0 locs) (Z0 : n0 ≤ h1.size) (hO : Old Z n0 h1) (hst : OSt Z wG wR uG uR wE zc) (hcx : own_ch cx) (gn_r1 : n0 ≤ r1) (fA1 : Arv Z h1 r1 kr1 .char (Int32.ofNat nn1) (cs1.map Value.int) (.int (0 : Int32))) (hl1 : cs1.length = nn1) (hp1 : 0 < nn1) (h111 : nn1 ≤ 11) (hch1 : ∀ c ∈ cs1, own_ch c) (hex1 : OEx cs1 (if g = (0 : Int32) then (2 : Int32) else (1 : Int32))) :
    OGV p e below s 24 1216 (fun v h L => v = some (.int 1) ∧ Fr n0 L) (T0.setTop (mkF m 155 (own_L18 p0 p1 p2 g ((XT.ushr p0 (1 : Int32)) &&& (7 : Int32)) cx r1 (Int32.ofNat nn1) ((p1 &&& (2147483647 : Int32)) % (Int32.ofNat nn1)) (if g = (0 : Int32) then (2 : Int32) else (1 : Int32))) [])) := by
  obtain ⟨SG, SR, SE, SC, hzc, EG, ER, FGu, FRu, FGg, FRg, TG, TR, EE, FE⟩ := id hst
  have hws := own_wsV hw
  obtain ⟨T51, h51, X51, e51, E51, A51, D51, -, st51⟩ := newO X0 hx hZ hown (own_at hw 6 rfl) (own_at hw 7 rfl) (own_at hw 8 rfl) e0 (g := (mkF m 155 (own_L18 p0 p1 p2 g ((XT.ushr p0 (1 : Int32)) &&& (7 : Int32)) cx r1 (Int32.ofNat nn1) ((p1 &&& (2147483647 : Int32)) % (Int32.ofNat nn1)) (if g = (0 : Int32) then (2 : Int32) else (1 : Int32))) [])) rfl (hb hby at_155) (by decide) (by decide)
  obtain ⟨b51, g51⟩ : ∃ z, z = (h1).size := ⟨_, rfl⟩
  have ne_r1_b51 : r1 ≠ b51 := Nat.ne_of_lt (Nat.lt_of_lt_of_le (fA1).lt (Nat.le_of_eq g51.symm))
  have gn_b51 : n0 ≤ b51 := Nat.le_trans Z0 (Nat.le_of_eq g51.symm)
  have sz_b51 : h1.size ≤ b51 := Nat.le_trans ((Keep.refl h1 [r1])).1 (Nat.le_of_eq g51.symm)
  rw [← g51] at A51 D51 st51
  have f1 := (fA1).ext E51
  have f2 := (hO).ext E51
  have K51 : Keep h1 h51 [r1] := ((Keep.refl h1 [r1])).ext E51
  have Z51 : n0 ≤ h51.size := Nat.le_trans Z0 E51.1
  have F51_coder : Fld Z h51 b51 "java/lang/String" "coder" "B" (.int (0 : Int32)) := D51 (Or.inr (own_at hw 32 rfl)) (ty := .byte) (by decide)
  have F51_value : Fld Z h51 b51 "java/lang/String" "value" "[B" .null := D51 (Or.inr (own_at hw 34 rfl)) (ty := (.array .byte)) (by decide)
  refine OGV.of st51 ?_
  show OGV _ _ _ _ _ _ _ (T51.setTop (mkF m 158 (own_L18 p0 p1 p2 g ((XT.ushr p0 (1 : Int32)) &&& (7 : Int32)) cx r1 (Int32.ofNat nn1) ((p1 &&& (2147483647 : Int32)) % (Int32.ofNat nn1)) (if g = (0 : Int32) then (2 : Int32) else (1 : Int32))) [(.ref b51)]))
  refine OGV.of (A := T51.setTop (mkF m 160 (own_L18 p0 p1 p2 g ((XT.ushr p0 (1 : Int32)) &&& (7 : Int32)) cx r1 (Int32.ofNat nn1) ((p1 &&& (2147483647 : Int32)) % (Int32.ofNat nn1)) (if g = (0 : Int32) then (2 : Int32) else (1 : Int32))) [(.int g), (.ref b51), (.ref b51)])) (fun oT oK => ?_) ?_
  · skip
    refine XS.dup X51.here hx rfl (hb hby at_158) rfl rfl ?_
    show Steps p.tables e below (T51.setTop (mkF m 159 (own_L18 p0 p1 p2 g ((XT.ushr p0 (1 : Int32)) &&& (7 : Int32)) cx r1 (Int32.ofNat nn1) ((p1 &&& (2147483647 : Int32)) % (Int32.ofNat nn1)) (if g = (0 : Int32) then (2 : Int32) else (1 : Int32))) [(.ref b51), (.ref b51)])) _
    refine XS.iloadN X51.here hx rfl (hb hby at_159) rfl  ?_
    exact oK
  obtain ⟨_, _, ⟨T52, L52, k52, n52⟩, -, X52, ⟨Lc52, hQ52, l52, y52, z52⟩, st52⟩ := Jvm.LawKit.callS X51 hx (y := (⟨"com/example/vett/vett/GranteeUserTypePinLaw", "dropLast", "(Z)[C"⟩ : MethodName)) hown (mvT hZ (own_at hw 122 rfl)) (mvT hZ (own_at hw 123 rfl)) (mvT hZ (own_at hw 2 rfl)) (mvT hZ (own_at hw 124 rfl)) (by decide) (backOf (W := 2) (rmL l Z a0 hw [] g h51 n0 (Z51)) hZ (own_at hw 124 rfl) (own_at hw 2 rfl) (by decide) (by decide)) (g := (mkF m 160 (own_L18 p0 p1 p2 g ((XT.ushr p0 (1 : Int32)) &&& (7 : Int32)) cx r1 (Int32.ofNat nn1) ((p1 &&& (2147483647 : Int32)) % (Int32.ofNat nn1)) (if g = (0 : Int32) then (2 : Int32) else (1 : Int32))) [(.int g), (.ref b51), (.ref b51)])) rfl (by rw [hml]; rfl) (argsL := [(.int g)]) (rest := [(.ref b51), (.ref b51)]) (lenOf pd__Z__C rfl) rfl (by show 2 * 0 + _ ≤ _; exact Nat.le_of_eq rfl) (hb hby at_160) (fun _ _ => ⟨rfl, e51, (by decide : 2 + 1 ≤ _), (by decide : 14 + 9 ≤ _)⟩)
  dsimp only [Pt.U, Pt.locs, Pt.cells, Pt.slots] at X52 l52 y52 z52 st52 hQ52
  subst l52 y52 z52
  obtain ⟨r52, cs52, nn52, rfl, N52q, Kc52, gn_r52, gs52, ⟨kr52, fA52⟩, hl52, hp52, h1152, hch52, hex52⟩ := hQ52
  have N52 := Fr.app N0 N52q
  have sz_r52 : h1.size ≤ r52 := Nat.le_trans (K51).1 gs52
  have ne_r1_r52 : r1 ≠ r52 := Nat.ne_of_lt (Nat.lt_of_lt_of_le (f1).lt gs52)
  have ne_b51_r52 : b51 ≠ r52 := Nat.ne_of_lt (Nat.lt_of_lt_of_le (A51).lt gs52)
  have f3 := (f1).keep Kc52 nin0
  have f4 := (A51).keep Kc52
  have f5 := (F51_coder).keep Kc52 nin0
  have f6 := (F51_value).keep Kc52 nin0
  have f7 := (f2).keep Kc52 all0
  have K52 : Keep h1 T52.heap [r1] := (K51).trans Kc52 all0
  have Z52 : n0 ≤ T52.heap.size := Nat.le_trans Z51 Kc52.1
  refine OGV.of st52 ?_
  show OGV _ _ _ _ _ _ _ (T52.setTop (mkF m 163 (own_L18 p0 p1 p2 g ((XT.ushr p0 (1 : Int32)) &&& (7 : Int32)) cx r1 (Int32.ofNat nn1) ((p1 &&& (2147483647 : Int32)) % (Int32.ofNat nn1)) (if g = (0 : Int32) then (2 : Int32) else (1 : Int32))) [(.ref r52), (.ref b51), (.ref b51)]))
  have hlc53 : ∀ zz ∈ cs52, own_ch zz := hch52
  have hlen53 : (cs52 : List Int32).length = nn52 := hl52
  have hle53 : nn52 ≤ 11 := h1152
  obtain ⟨_, _, ⟨T53, L53, k53, n53⟩, -, X53, ⟨Lc53, hQ53, l53, y53, z53⟩, st53⟩ := X52.specialBack hx (y := (⟨"java/lang/String", "<init>", "([C)V"⟩ : MethodName)) rfl hown (mvT hZ (own_at hw 9 rfl)) (mvT hZ (own_at hw 10 rfl)) (mvT hZ (own_at hw 11 rfl)) (by decide) (StrChars.Road.backV (W := 1) hZ hws (kI := 4) (own_at hw 7 rfl) (cs := cs52) (bs := cs52.map (fun c => c.toInt8.toInt32)) (n := nn52) gn_b51 (Z52) f4 f6 f5 fA52 (SC.ext (f7).2) hzc hlen53 rfl hp52 (Nat.le_trans hle53 (by decide)) hlc53 rfl (by decide) (by decide)) (g := (mkF m 163 (own_L18 p0 p1 p2 g ((XT.ushr p0 (1 : Int32)) &&& (7 : Int32)) cx r1 (Int32.ofNat nn1) ((p1 &&& (2147483647 : Int32)) % (Int32.ofNat nn1)) (if g = (0 : Int32) then (2 : Int32) else (1 : Int32))) [(.ref r52), (.ref b51), (.ref b51)])) rfl (by rw [hml]; rfl) (Steps.refl _) (a := b51) (argsL := [(.ref r52)]) (rest := [(.ref b51)]) (lenOf pd___C_V rfl) rfl (by show 2 * 0 + _ ≤ _; exact Nat.le_of_eq rfl) (hb hby at_163) (fun _ _ => ⟨rfl, rfl, (by decide : 3 + 1 ≤ _), Nat.le_trans (Nat.add_le_add_left hle53 _) (by decide : 23 + 11 ≤ _)⟩)
  dsimp only [Pt.U, Pt.locs, Pt.cells, Pt.slots] at X53 l53 y53 z53 st53 hQ53
  subst l53 y53 z53
  have X53 := X53.mono (Nat.le_refl _) (Nat.add_le_add_left hle53 _)
  obtain ⟨rfl, N53q, Kc53, fE53, fC53, t53, kb53, gn_t53, gs53, nx53, fV53, fA53⟩ := hQ53
  have N53 := Fr.app N52 N53q
  have O53 := (f7).keep Kc53 (allS gn_b51 all0)
  have K53 : Keep h1 T53.heap [r1] := (K52).trans Kc53 (allS (Or.inr sz_b51) all0)
  have Z53 : n0 ≤ T53.heap.size := Nat.le_trans Z52 Kc53.1
  have hT53 : OTx Z T53.heap b51 cs52 := ⟨t53, kb53, _, _, fE53, fV53, fC53, fA53, StrChars.Road.codOf hlen53 (fun c h => (hlc53 c h).2), hlc53, Nat.le_trans (Nat.le_of_eq hlen53) (Nat.le_trans hle53 (by decide))⟩
  refine OGV.trans st53 ?_
  show OGV _ _ _ _ _ _ _ (T53.setTop (mkF m 166 (own_L18 p0 p1 p2 g ((XT.ushr p0 (1 : Int32)) &&& (7 : Int32)) cx r1 (Int32.ofNat nn1) ((p1 &&& (2147483647 : Int32)) % (Int32.ofNat nn1)) (if g = (0 : Int32) then (2 : Int32) else (1 : Int32))) [(.ref b51)]))
  refine OGV.of (A := T53.setTop (mkF m 366 (own_L19 p0 p1 p2 g ((XT.ushr p0 (1 : Int32)) &&& (7 : Int32)) cx r1 (Int32.ofNat nn1) ((p1 &&& (2147483647 : Int32)) % (Int32.ofNat nn1)) (0 : Int32) b51) [])) (fun oT oK => ?_) ?_
  · skip
    refine XS.astore X53.here hx rfl (hb hby at_166) rfl rfl (l' := (own_L19 p0 p1 p2 g ((XT.ushr p0 (1 : Int32)) &&& (7 : Int32)) cx r1 (Int32.ofNat nn1) ((p1 &&& (2147483647 : Int32)) % (Int32.ofNat nn1)) (if g = (0 : Int32) then (2 : Int32) else (1 : Int32)) b51)) rfl ?_
    show Steps p.tables e below (T53.setTop (mkF m 168 (own_L19 p0 p1 p2 g ((XT.ushr p0 (1 : Int32)) &&& (7 : Int32)) cx r1 (Int32.ofNat nn1) ((p1 &&& (2147483647 : Int32)) % (Int32.ofNat nn1)) (if g = (0 : Int32) then (2 : Int32) else (1 : Int32)) b51) [])) _
    refine XS.iconst X53.here hx rfl (hb hby at_168) ?_
    refine XS.istore X53.here hx rfl (hb hby at_169) rfl (l' := (own_L19 p0 p1 p2 g ((XT.ushr p0 (1 : Int32)) &&& (7 : Int32)) cx r1 (Int32.ofNat nn1) ((p1 &&& (2147483647 : Int32)) % (Int32.ofNat nn1)) (0 : Int32) b51)) rfl ?_
    show Steps p.tables e below (T53.setTop (mkF m 171 (own_L19 p0 p1 p2 g ((XT.ushr p0 (1 : Int32)) &&& (7 : Int32)) cx r1 (Int32.ofNat nn1) ((p1 &&& (2147483647 : Int32)) % (Int32.ofNat nn1)) (0 : Int32) b51) [])) _
    refine XS.goto X53.here hx rfl (pc0 := 171) (pc' := 366) rfl (hb hby at_171) (by decide) (by decide) ?_
    exact oK
  exact OGV.of_OG (own_tail0 p0 p1 p2 g ((XT.ushr p0 (1 : Int32)) &&& (7 : Int32)) cx r1 (Int32.ofNat nn1) ((p1 &&& (2147483647 : Int32)) % (Int32.ofNat nn1)) (0 : Int32) b51 cs52 wG wR uG uR wE zc (X53.mono (by decide) (by decide)) hx hZ hw hby hml hown hlk hret rfl N53 Z53 O53 hst hT53 hex52) (fun _ _ _ q => ⟨q.1, q.2.1⟩)
set_option maxRecDepth 65536 in
set_option maxHeartbeats 40000000 in
theorem own_leg4 {p : Program} {l : Launch} {e : Env} {s : State} {m : MethodId} {args : Array Value} {below : List Frame} {meth : Method} {c : Code} {T0 : State} {locs : List Loc} {Z : State} {a0 : Array Value} {h1 : Heap} {n0 : Nat} (p0 : Int32) (p1 : Int32) (p2 : Int32) (g : Int32) (cx : Int32) (r1 : Addr) (cs1 : List Int32) (nn1 : Nat) (kr1 : ClassId) (wG : Addr) (wR : Addr) (uG : Addr) (uR : Addr) (wE : Addr) (zc : Int32)
    (X0 : Stand p l e room_1 s m args below meth c T0 locs 1 10) (hx : p.tables.exec = Jvm.exec) (hZ : Z.Warmed39 s.vm) (hw : ∀ d ∈ tables_1, d.before a0 Z = true) (hby : c.code = code) (hml : c.maxLocals = 16) (hown : s.vm.findClass "com/example/vett/vett/GranteeUserTypePinLaw" = some m.cls) (hlk : meth.locks = false) (hret : meth.sig.returnType = some .boolean) (e0 : T0.heap = h1) (N0 : Fr n0 locs) (Z0 : n0 ≤ h1.size) (hO : Old Z n0 h1) (hst : OSt Z wG wR uG uR wE zc) (hcx : own_ch cx) (gn_r1 : n0 ≤ r1) (fA1 : Arv Z h1 r1 kr1 .char (Int32.ofNat nn1) (cs1.map Value.int) (.int (0 : Int32))) (hl1 : cs1.length = nn1) (hp1 : 0 < nn1) (h111 : nn1 ≤ 11) (hch1 : ∀ c ∈ cs1, own_ch c) (hex1 : OEx cs1 (if g = (0 : Int32) then (2 : Int32) else (1 : Int32))) :
    OGV p e below s 24 1216 (fun v h L => v = some (.int 1) ∧ Fr n0 L) (T0.setTop (mkF m 180 (own_L18 p0 p1 p2 g ((XT.ushr p0 (1 : Int32)) &&& (7 : Int32)) cx r1 (Int32.ofNat nn1) ((p1 &&& (2147483647 : Int32)) % (Int32.ofNat nn1)) (if g = (0 : Int32) then (2 : Int32) else (1 : Int32))) [])) := by
  obtain ⟨SG, SR, SE, SC, hzc, EG, ER, FGu, FRu, FGg, FRg, TG, TR, EE, FE⟩ := id hst
  have hws := own_wsV hw
  obtain ⟨T51, h51, X51, e51, E51, A51, D51, -, st51⟩ := newO X0 hx hZ hown (own_at hw 6 rfl) (own_at hw 7 rfl) (own_at hw 8 rfl) e0 (g := (mkF m 180 (own_L18 p0 p1 p2 g ((XT.ushr p0 (1 : Int32)) &&& (7 : Int32)) cx r1 (Int32.ofNat nn1) ((p1 &&& (2147483647 : Int32)) % (Int32.ofNat nn1)) (if g = (0 : Int32) then (2 : Int32) else (1 : Int32))) [])) rfl (hb hby at_180) (by decide) (by decide)
  obtain ⟨b51, g51⟩ : ∃ z, z = (h1).size := ⟨_, rfl⟩
  have ne_r1_b51 : r1 ≠ b51 := Nat.ne_of_lt (Nat.lt_of_lt_of_le (fA1).lt (Nat.le_of_eq g51.symm))
  have gn_b51 : n0 ≤ b51 := Nat.le_trans Z0 (Nat.le_of_eq g51.symm)
  have sz_b51 : h1.size ≤ b51 := Nat.le_trans ((Keep.refl h1 [r1])).1 (Nat.le_of_eq g51.symm)
  rw [← g51] at A51 D51 st51
  have f1 := (fA1).ext E51
  have f2 := (hO).ext E51
  have K51 : Keep h1 h51 [r1] := ((Keep.refl h1 [r1])).ext E51
  have Z51 : n0 ≤ h51.size := Nat.le_trans Z0 E51.1
  have F51_coder : Fld Z h51 b51 "java/lang/String" "coder" "B" (.int (0 : Int32)) := D51 (Or.inr (own_at hw 32 rfl)) (ty := .byte) (by decide)
  have F51_value : Fld Z h51 b51 "java/lang/String" "value" "[B" .null := D51 (Or.inr (own_at hw 34 rfl)) (ty := (.array .byte)) (by decide)
  refine OGV.of st51 ?_
  show OGV _ _ _ _ _ _ _ (T51.setTop (mkF m 183 (own_L18 p0 p1 p2 g ((XT.ushr p0 (1 : Int32)) &&& (7 : Int32)) cx r1 (Int32.ofNat nn1) ((p1 &&& (2147483647 : Int32)) % (Int32.ofNat nn1)) (if g = (0 : Int32) then (2 : Int32) else (1 : Int32))) [(.ref b51)]))
  refine OGV.of (A := T51.setTop (mkF m 185 (own_L18 p0 p1 p2 g ((XT.ushr p0 (1 : Int32)) &&& (7 : Int32)) cx r1 (Int32.ofNat nn1) ((p1 &&& (2147483647 : Int32)) % (Int32.ofNat nn1)) (if g = (0 : Int32) then (2 : Int32) else (1 : Int32))) [(.int g), (.ref b51), (.ref b51)])) (fun oT oK => ?_) ?_
  · skip
    refine XS.dup X51.here hx rfl (hb hby at_183) rfl rfl ?_
    show Steps p.tables e below (T51.setTop (mkF m 184 (own_L18 p0 p1 p2 g ((XT.ushr p0 (1 : Int32)) &&& (7 : Int32)) cx r1 (Int32.ofNat nn1) ((p1 &&& (2147483647 : Int32)) % (Int32.ofNat nn1)) (if g = (0 : Int32) then (2 : Int32) else (1 : Int32))) [(.ref b51), (.ref b51)])) _
    refine XS.iloadN X51.here hx rfl (hb hby at_184) rfl  ?_
    exact oK
  obtain ⟨_, _, ⟨T52, L52, k52, n52⟩, -, X52, ⟨Lc52, hQ52, l52, y52, z52⟩, st52⟩ := Jvm.LawKit.callS X51 hx (y := (⟨"com/example/vett/vett/GranteeUserTypePinLaw", "dropFirst", "(Z)[C"⟩ : MethodName)) hown (mvT hZ (own_at hw 104 rfl)) (mvT hZ (own_at hw 105 rfl)) (mvT hZ (own_at hw 2 rfl)) (mvT hZ (own_at hw 106 rfl)) (by decide) (backOf (W := 2) (rmF l Z a0 hw [] g h51 n0 (Z51)) hZ (own_at hw 106 rfl) (own_at hw 2 rfl) (by decide) (by decide)) (g := (mkF m 185 (own_L18 p0 p1 p2 g ((XT.ushr p0 (1 : Int32)) &&& (7 : Int32)) cx r1 (Int32.ofNat nn1) ((p1 &&& (2147483647 : Int32)) % (Int32.ofNat nn1)) (if g = (0 : Int32) then (2 : Int32) else (1 : Int32))) [(.int g), (.ref b51), (.ref b51)])) rfl (by rw [hml]; rfl) (argsL := [(.int g)]) (rest := [(.ref b51), (.ref b51)]) (lenOf pd__Z__C rfl) rfl (by show 2 * 0 + _ ≤ _; exact Nat.le_of_eq rfl) (hb hby at_185) (fun _ _ => ⟨rfl, e51, (by decide : 2 + 1 ≤ _), (by decide : 14 + 9 ≤ _)⟩)
  dsimp only [Pt.U, Pt.locs, Pt.cells, Pt.slots] at X52 l52 y52 z52 st52 hQ52
  subst l52 y52 z52
  obtain ⟨r52, cs52, nn52, rfl, N52q, Kc52, gn_r52, gs52, ⟨kr52, fA52⟩, hl52, hp52, h1152, hch52, hex52⟩ := hQ52
  have N52 := Fr.app N0 N52q
  have sz_r52 : h1.size ≤ r52 := Nat.le_trans (K51).1 gs52
  have ne_r1_r52 : r1 ≠ r52 := Nat.ne_of_lt (Nat.lt_of_lt_of_le (f1).lt gs52)
  have ne_b51_r52 : b51 ≠ r52 := Nat.ne_of_lt (Nat.lt_of_lt_of_le (A51).lt gs52)
  have f3 := (f1).keep Kc52 nin0
  have f4 := (A51).keep Kc52
  have f5 := (F51_coder).keep Kc52 nin0
  have f6 := (F51_value).keep Kc52 nin0
  have f7 := (f2).keep Kc52 all0
  have K52 : Keep h1 T52.heap [r1] := (K51).trans Kc52 all0
  have Z52 : n0 ≤ T52.heap.size := Nat.le_trans Z51 Kc52.1
  refine OGV.of st52 ?_
  show OGV _ _ _ _ _ _ _ (T52.setTop (mkF m 188 (own_L18 p0 p1 p2 g ((XT.ushr p0 (1 : Int32)) &&& (7 : Int32)) cx r1 (Int32.ofNat nn1) ((p1 &&& (2147483647 : Int32)) % (Int32.ofNat nn1)) (if g = (0 : Int32) then (2 : Int32) else (1 : Int32))) [(.ref r52), (.ref b51), (.ref b51)]))
  have hlc53 : ∀ zz ∈ cs52, own_ch zz := hch52
  have hlen53 : (cs52 : List Int32).length = nn52 := hl52
  have hle53 : nn52 ≤ 11 := h1152
  obtain ⟨_, _, ⟨T53, L53, k53, n53⟩, -, X53, ⟨Lc53, hQ53, l53, y53, z53⟩, st53⟩ := X52.specialBack hx (y := (⟨"java/lang/String", "<init>", "([C)V"⟩ : MethodName)) rfl hown (mvT hZ (own_at hw 9 rfl)) (mvT hZ (own_at hw 10 rfl)) (mvT hZ (own_at hw 11 rfl)) (by decide) (StrChars.Road.backV (W := 1) hZ hws (kI := 4) (own_at hw 7 rfl) (cs := cs52) (bs := cs52.map (fun c => c.toInt8.toInt32)) (n := nn52) gn_b51 (Z52) f4 f6 f5 fA52 (SC.ext (f7).2) hzc hlen53 rfl hp52 (Nat.le_trans hle53 (by decide)) hlc53 rfl (by decide) (by decide)) (g := (mkF m 188 (own_L18 p0 p1 p2 g ((XT.ushr p0 (1 : Int32)) &&& (7 : Int32)) cx r1 (Int32.ofNat nn1) ((p1 &&& (2147483647 : Int32)) % (Int32.ofNat nn1)) (if g = (0 : Int32) then (2 : Int32) else (1 : Int32))) [(.ref r52), (.ref b51), (.ref b51)])) rfl (by rw [hml]; rfl) (Steps.refl _) (a := b51) (argsL := [(.ref r52)]) (rest := [(.ref b51)]) (lenOf pd___C_V rfl) rfl (by show 2 * 0 + _ ≤ _; exact Nat.le_of_eq rfl) (hb hby at_188) (fun _ _ => ⟨rfl, rfl, (by decide : 3 + 1 ≤ _), Nat.le_trans (Nat.add_le_add_left hle53 _) (by decide : 23 + 11 ≤ _)⟩)
  dsimp only [Pt.U, Pt.locs, Pt.cells, Pt.slots] at X53 l53 y53 z53 st53 hQ53
  subst l53 y53 z53
  have X53 := X53.mono (Nat.le_refl _) (Nat.add_le_add_left hle53 _)
  obtain ⟨rfl, N53q, Kc53, fE53, fC53, t53, kb53, gn_t53, gs53, nx53, fV53, fA53⟩ := hQ53
  have N53 := Fr.app N52 N53q
  have O53 := (f7).keep Kc53 (allS gn_b51 all0)
  have K53 : Keep h1 T53.heap [r1] := (K52).trans Kc53 (allS (Or.inr sz_b51) all0)
  have Z53 : n0 ≤ T53.heap.size := Nat.le_trans Z52 Kc53.1
  have hT53 : OTx Z T53.heap b51 cs52 := ⟨t53, kb53, _, _, fE53, fV53, fC53, fA53, StrChars.Road.codOf hlen53 (fun c h => (hlc53 c h).2), hlc53, Nat.le_trans (Nat.le_of_eq hlen53) (Nat.le_trans hle53 (by decide))⟩
  refine OGV.trans st53 ?_
  show OGV _ _ _ _ _ _ _ (T53.setTop (mkF m 191 (own_L18 p0 p1 p2 g ((XT.ushr p0 (1 : Int32)) &&& (7 : Int32)) cx r1 (Int32.ofNat nn1) ((p1 &&& (2147483647 : Int32)) % (Int32.ofNat nn1)) (if g = (0 : Int32) then (2 : Int32) else (1 : Int32))) [(.ref b51)]))
  refine OGV.of (A := T53.setTop (mkF m 366 (own_L19 p0 p1 p2 g ((XT.ushr p0 (1 : Int32)) &&& (7 : Int32)) cx r1 (Int32.ofNat nn1) ((p1 &&& (2147483647 : Int32)) % (Int32.ofNat nn1)) (0 : Int32) b51) [])) (fun oT oK => ?_) ?_
  · skip
    refine XS.astore X53.here hx rfl (hb hby at_191) rfl rfl (l' := (own_L19 p0 p1 p2 g ((XT.ushr p0 (1 : Int32)) &&& (7 : Int32)) cx r1 (Int32.ofNat nn1) ((p1 &&& (2147483647 : Int32)) % (Int32.ofNat nn1)) (if g = (0 : Int32) then (2 : Int32) else (1 : Int32)) b51)) rfl ?_
    show Steps p.tables e below (T53.setTop (mkF m 193 (own_L19 p0 p1 p2 g ((XT.ushr p0 (1 : Int32)) &&& (7 : Int32)) cx r1 (Int32.ofNat nn1) ((p1 &&& (2147483647 : Int32)) % (Int32.ofNat nn1)) (if g = (0 : Int32) then (2 : Int32) else (1 : Int32)) b51) [])) _
    refine XS.iconst X53.here hx rfl (hb hby at_193) ?_
    refine XS.istore X53.here hx rfl (hb hby at_194) rfl (l' := (own_L19 p0 p1 p2 g ((XT.ushr p0 (1 : Int32)) &&& (7 : Int32)) cx r1 (Int32.ofNat nn1) ((p1 &&& (2147483647 : Int32)) % (Int32.ofNat nn1)) (0 : Int32) b51)) rfl ?_
    show Steps p.tables e below (T53.setTop (mkF m 196 (own_L19 p0 p1 p2 g ((XT.ushr p0 (1 : Int32)) &&& (7 : Int32)) cx r1 (Int32.ofNat nn1) ((p1 &&& (2147483647 : Int32)) % (Int32.ofNat nn1)) (0 : Int32) b51) [])) _
    refine XS.goto X53.here hx rfl (pc0 := 196) (pc' := 366) rfl (hb hby at_196) (by decide) (by decide) ?_
    exact oK
  exact OGV.of_OG (own_tail0 p0 p1 p2 g ((XT.ushr p0 (1 : Int32)) &&& (7 : Int32)) cx r1 (Int32.ofNat nn1) ((p1 &&& (2147483647 : Int32)) % (Int32.ofNat nn1)) (0 : Int32) b51 cs52 wG wR uG uR wE zc (X53.mono (by decide) (by decide)) hx hZ hw hby hml hown hlk hret rfl N53 Z53 O53 hst hT53 hex52) (fun _ _ _ q => ⟨q.1, q.2.1⟩)
set_option maxRecDepth 65536 in
set_option maxHeartbeats 40000000 in
theorem own_leg5 {p : Program} {l : Launch} {e : Env} {s : State} {m : MethodId} {args : Array Value} {below : List Frame} {meth : Method} {c : Code} {T0 : State} {locs : List Loc} {Z : State} {a0 : Array Value} {h1 : Heap} {n0 : Nat} (p0 : Int32) (p1 : Int32) (p2 : Int32) (g : Int32) (cx : Int32) (r1 : Addr) (cs1 : List Int32) (nn1 : Nat) (kr1 : ClassId) (wG : Addr) (wR : Addr) (uG : Addr) (uR : Addr) (wE : Addr) (zc : Int32)
    (X0 : Stand p l e room_1 s m args below meth c T0 locs 1 10) (hx : p.tables.exec = Jvm.exec) (hZ : Z.Warmed39 s.vm) (hw : ∀ d ∈ tables_1, d.before a0 Z = true) (hby : c.code = code) (hml : c.maxLocals = 16) (hown : s.vm.findClass "com/example/vett/vett/GranteeUserTypePinLaw" = some m.cls) (hlk : meth.locks = false) (hret : meth.sig.returnType = some .boolean) (e0 : T0.heap = h1) (N0 : Fr n0 locs) (Z0 : n0 ≤ h1.size) (hO : Old Z n0 h1) (hst : OSt Z wG wR uG uR wE zc) (hcx : own_ch cx) (gn_r1 : n0 ≤ r1) (fA1 : Arv Z h1 r1 kr1 .char (Int32.ofNat nn1) (cs1.map Value.int) (.int (0 : Int32))) (hl1 : cs1.length = nn1) (hp1 : 0 < nn1) (h111 : nn1 ≤ 11) (hch1 : ∀ c ∈ cs1, own_ch c) (hex1 : OEx cs1 (if g = (0 : Int32) then (2 : Int32) else (1 : Int32))) (hS : s.Since s.vm s.heap.size) (hkS : s.heap.size ≤ h1.size) (hCR : CHr Z OEL s.vm s.heap s.vm h1) :
    OGV p e below s 24 1216 (fun v h L => v = some (.int 1) ∧ Fr n0 L) (T0.setTop (mkF m 205 (own_L18 p0 p1 p2 g ((XT.ushr p0 (1 : Int32)) &&& (7 : Int32)) cx r1 (Int32.ofNat nn1) ((p1 &&& (2147483647 : Int32)) % (Int32.ofNat nn1)) (if g = (0 : Int32) then (2 : Int32) else (1 : Int32))) [])) := by
  obtain ⟨SG, SR, SE, SC, hzc, EG, ER, FGu, FRu, FGg, FRg, TG, TR, EE, FE⟩ := id hst
  have hws := own_wsV hw
  have hEL := own_EW hw
  obtain ⟨T51, h51, X51, e51, E51, A51, D51, -, st51⟩ := newO X0 hx hZ hown (own_at hw 6 rfl) (own_at hw 7 rfl) (own_at hw 8 rfl) e0 (g := (mkF m 205 (own_L18 p0 p1 p2 g ((XT.ushr p0 (1 : Int32)) &&& (7 : Int32)) cx r1 (Int32.ofNat nn1) ((p1 &&& (2147483647 : Int32)) % (Int32.ofNat nn1)) (if g = (0 : Int32) then (2 : Int32) else (1 : Int32))) [])) rfl (hb hby at_205) (by decide) (by decide)
  obtain ⟨b51, g51⟩ : ∃ z, z = (h1).size := ⟨_, rfl⟩
  have ne_r1_b51 : r1 ≠ b51 := Nat.ne_of_lt (Nat.lt_of_lt_of_le (fA1).lt (Nat.le_of_eq g51.symm))
  have gn_b51 : n0 ≤ b51 := Nat.le_trans Z0 (Nat.le_of_eq g51.symm)
  have sz_b51 : h1.size ≤ b51 := Nat.le_trans ((Keep.refl h1 [])).1 (Nat.le_of_eq g51.symm)
  rw [← g51] at A51 D51 st51
  have f1 := (fA1).ext E51
  have f2 := (hO).ext E51
  have K51 : Keep h1 h51 [] := ((Keep.refl h1 [])).ext E51
  have Z51 : n0 ≤ h51.size := Nat.le_trans Z0 E51.1
  have F51_coder : Fld Z h51 b51 "java/lang/String" "coder" "B" (.int (0 : Int32)) := D51 (Or.inr (own_at hw 32 rfl)) (ty := .byte) (by decide)
  have F51_value : Fld Z h51 b51 "java/lang/String" "value" "[B" .null := D51 (Or.inr (own_at hw 34 rfl)) (ty := (.array .byte)) (by decide)
  refine OGV.of st51 ?_
  show OGV _ _ _ _ _ _ _ (T51.setTop (mkF m 208 (own_L18 p0 p1 p2 g ((XT.ushr p0 (1 : Int32)) &&& (7 : Int32)) cx r1 (Int32.ofNat nn1) ((p1 &&& (2147483647 : Int32)) % (Int32.ofNat nn1)) (if g = (0 : Int32) then (2 : Int32) else (1 : Int32))) [(.ref b51)]))
  refine OGV.of (A := T51.setTop (mkF m 210 (own_L18 p0 p1 p2 g ((XT.ushr p0 (1 : Int32)) &&& (7 : Int32)) cx r1 (Int32.ofNat nn1) ((p1 &&& (2147483647 : Int32)) % (Int32.ofNat nn1)) (if g = (0 : Int32) then (2 : Int32) else (1 : Int32))) [(.int (0 : Int32)), (.ref b51), (.ref b51)])) (fun oT oK => ?_) ?_
  · skip
    refine XS.dup X51.here hx rfl (hb hby at_208) rfl rfl ?_
    show Steps p.tables e below (T51.setTop (mkF m 209 (own_L18 p0 p1 p2 g ((XT.ushr p0 (1 : Int32)) &&& (7 : Int32)) cx r1 (Int32.ofNat nn1) ((p1 &&& (2147483647 : Int32)) % (Int32.ofNat nn1)) (if g = (0 : Int32) then (2 : Int32) else (1 : Int32))) [(.ref b51), (.ref b51)])) _
    refine XS.iconst X51.here hx rfl (hb hby at_209) ?_
    exact oK
  obtain ⟨T52, h52, kc52, X52, e52, E52, A52, st52⟩ := newP X51 hx hZ (own_at hw 4 rfl) e51 (g := (mkF m 210 (own_L18 p0 p1 p2 g ((XT.ushr p0 (1 : Int32)) &&& (7 : Int32)) cx r1 (Int32.ofNat nn1) ((p1 &&& (2147483647 : Int32)) % (Int32.ofNat nn1)) (if g = (0 : Int32) then (2 : Int32) else (1 : Int32))) [(.int (0 : Int32)), (.ref b51), (.ref b51)])) rfl (hb hby at_210) rfl (by decide) (cap := 0) (by decide) (by decide) (by decide) (by decide)
  obtain ⟨b52, g52⟩ : ∃ z, z = (h51).size := ⟨_, rfl⟩
  have ne_r1_b52 : r1 ≠ b52 := Nat.ne_of_lt (Nat.lt_of_lt_of_le (f1).lt (Nat.le_of_eq g52.symm))
  have ne_b51_b52 : b51 ≠ b52 := Nat.ne_of_lt (Nat.lt_of_lt_of_le (A51).lt (Nat.le_of_eq g52.symm))
  have gn_b52 : n0 ≤ b52 := Nat.le_trans Z51 (Nat.le_of_eq g52.symm)
  have sz_b52 : h1.size ≤ b52 := Nat.le_trans (K51).1 (Nat.le_of_eq g52.symm)
  rw [← g52] at A52 st52
  have f3 := (f1).ext E52
  have f4 := (A51).ext E52
  have f5 := (F51_coder).ext E52
  have f6 := (F51_value).ext E52
  have f7 := (f2).ext E52
  have K52 : Keep h1 h52 [] := (K51).ext E52
  have Z52 : n0 ≤ h52.size := Nat.le_trans Z51 E52.1
  have V52 : Arv Z h52 b52 kc52 .char (0 : Int32) [] (.int (0 : Int32)) := Arv.new A52 (by decide)
  refine OGV.of st52 ?_
  show OGV _ _ _ _ _ _ _ (T52.setTop (mkF m 212 (own_L18 p0 p1 p2 g ((XT.ushr p0 (1 : Int32)) &&& (7 : Int32)) cx r1 (Int32.ofNat nn1) ((p1 &&& (2147483647 : Int32)) % (Int32.ofNat nn1)) (if g = (0 : Int32) then (2 : Int32) else (1 : Int32))) [(.ref b52), (.ref b51), (.ref b51)]))
  have X5 := (show Stand p l e _ (s.setVm s.vm) _ _ _ _ _ _ _ _ _ from X52)
  have hkS := Nat.le_trans hkS (K52).1
  have hCR := hCR.trans (CHr.keep (K52) sf0 hCR.1)
  obtain ⟨_, _, ⟨T53, L53, k53, n53⟩, -, X53, hS53, hg53, ⟨Lc53, hQ53, l53, y53, z53, hC53⟩, st53⟩ := X5.specialBackS hx (y := (⟨"java/lang/String", "<init>", "([C)V"⟩ : MethodName)) rfl hown (mvT hZ (own_at hw 9 rfl)) (mvT hZ (own_at hw 10 rfl)) (mvT hZ (own_at hw 11 rfl)) (by decide) (backOfSH (W := 1) (rmX l Z a0 hw [] b51 b52 kc52 h52 n0 (Z52) f4 f6 f5 gn_b51 V52) hZ (own_at hw 11 rfl) (own_at hw 8 rfl) (by decide) (by decide) hEL hCR.1) (g := (mkF m 212 (own_L18 p0 p1 p2 g ((XT.ushr p0 (1 : Int32)) &&& (7 : Int32)) cx r1 (Int32.ofNat nn1) ((p1 &&& (2147483647 : Int32)) % (Int32.ofNat nn1)) (if g = (0 : Int32) then (2 : Int32) else (1 : Int32))) [(.ref b52), (.ref b51), (.ref b51)])) rfl (by rw [hml]; rfl) (Steps.refl _) (a := b51) (argsL := [(.ref b52)]) (rest := [(.ref b51)]) (lenOf pd___C_V rfl) rfl (by show 2 * 0 + _ ≤ _; exact Nat.le_of_eq rfl) (hb hby at_212) (fun _ _ => ⟨rfl, e52, (by decide : 3 + 4 ≤ _), (by decide : 14 + 8 ≤ _)⟩)
  dsimp only [Pt.U, Pt.locs, Pt.cells, Pt.slots] at X53 l53 y53 z53 st53 hQ53 hS53 hg53 hC53
  subst l53 y53 z53
  obtain ⟨X53, hS, hZ, hown⟩ := rebS hS (show _ ≤ T52.heap.size by rw [e52]; exact hkS) X53 hS53 hg53 hZ hown
  have hCR := hCR.trans hC53
  have hkS : T53.heap.size ≤ T53.heap.size := Nat.le_refl _
  obtain ⟨rfl, N53q, Kc53, t53, kt53, fE53, fV53, fC53, fA53⟩ := hQ53
  have N53 := Fr.app N0 N53q
  have O53 := (f7).keep Kc53 (allS gn_b51 all0)
  have Z53 : n0 ≤ T53.heap.size := Nat.le_trans Z52 Kc53.1
  have K53 : Keep h1 T53.heap [] := (K52).trans Kc53 (allS (Or.inr sz_b51) all0)
  refine OGV.trans st53 ?_
  show OGV _ _ _ _ _ _ _ (T53.setTop (mkF m 215 (own_L18 p0 p1 p2 g ((XT.ushr p0 (1 : Int32)) &&& (7 : Int32)) cx r1 (Int32.ofNat nn1) ((p1 &&& (2147483647 : Int32)) % (Int32.ofNat nn1)) (if g = (0 : Int32) then (2 : Int32) else (1 : Int32))) [(.ref b51)]))
  have hT5 : OTx Z T53.heap b51 [] := ⟨t53, kt53, _, _, fE53, fV53, fC53, fA53, Or.inl ⟨rfl, rfl, rfl, fun x h => (own_an x h).2⟩, own_an, (by simp)⟩
  refine OGV.of (A := T53.setTop (mkF m 366 (own_L19 p0 p1 p2 g ((XT.ushr p0 (1 : Int32)) &&& (7 : Int32)) cx r1 (Int32.ofNat nn1) ((p1 &&& (2147483647 : Int32)) % (Int32.ofNat nn1)) (0 : Int32) b51) [])) (fun oT oK => ?_) ?_
  · skip
    refine XS.astore X53.here hx rfl (hb hby at_215) rfl rfl (l' := (own_L19 p0 p1 p2 g ((XT.ushr p0 (1 : Int32)) &&& (7 : Int32)) cx r1 (Int32.ofNat nn1) ((p1 &&& (2147483647 : Int32)) % (Int32.ofNat nn1)) (if g = (0 : Int32) then (2 : Int32) else (1 : Int32)) b51)) rfl ?_
    show Steps p.tables e below (T53.setTop (mkF m 217 (own_L19 p0 p1 p2 g ((XT.ushr p0 (1 : Int32)) &&& (7 : Int32)) cx r1 (Int32.ofNat nn1) ((p1 &&& (2147483647 : Int32)) % (Int32.ofNat nn1)) (if g = (0 : Int32) then (2 : Int32) else (1 : Int32)) b51) [])) _
    refine XS.iconst X53.here hx rfl (hb hby at_217) ?_
    refine XS.istore X53.here hx rfl (hb hby at_218) rfl (l' := (own_L19 p0 p1 p2 g ((XT.ushr p0 (1 : Int32)) &&& (7 : Int32)) cx r1 (Int32.ofNat nn1) ((p1 &&& (2147483647 : Int32)) % (Int32.ofNat nn1)) (0 : Int32) b51)) rfl ?_
    show Steps p.tables e below (T53.setTop (mkF m 220 (own_L19 p0 p1 p2 g ((XT.ushr p0 (1 : Int32)) &&& (7 : Int32)) cx r1 (Int32.ofNat nn1) ((p1 &&& (2147483647 : Int32)) % (Int32.ofNat nn1)) (0 : Int32) b51) [])) _
    refine XS.goto X53.here hx rfl (pc0 := 220) (pc' := 366) rfl (hb hby at_220) (by decide) (by decide) ?_
    exact oK
  exact OGV.since hS (own_tail0 p0 p1 p2 g ((XT.ushr p0 (1 : Int32)) &&& (7 : Int32)) cx r1 (Int32.ofNat nn1) ((p1 &&& (2147483647 : Int32)) % (Int32.ofNat nn1)) (0 : Int32) b51 [] wG wR uG uR wE zc (X53.mono (by decide) (by decide)) hx hZ hw hby hml hown hlk hret rfl N53 Z53 O53 hst hT5 (own_exl (by simp) (by simp))) (fun _ _ _ q => ⟨⟨q.1, q.2.1⟩, q.2.2⟩)
set_option maxRecDepth 65536 in
set_option maxHeartbeats 40000000 in
theorem own_leg6 {p : Program} {l : Launch} {e : Env} {s : State} {m : MethodId} {args : Array Value} {below : List Frame} {meth : Method} {c : Code} {T0 : State} {locs : List Loc} {Z : State} {a0 : Array Value} {h1 : Heap} {n0 : Nat} (p0 : Int32) (p1 : Int32) (p2 : Int32) (g : Int32) (cx : Int32) (r1 : Addr) (cs1 : List Int32) (nn1 : Nat) (kr1 : ClassId) (wG : Addr) (wR : Addr) (uG : Addr) (uR : Addr) (wE : Addr) (zc : Int32)
    (X0 : Stand p l e room_1 s m args below meth c T0 locs 1 10) (hx : p.tables.exec = Jvm.exec) (hZ : Z.Warmed39 s.vm) (hw : ∀ d ∈ tables_1, d.before a0 Z = true) (hby : c.code = code) (hml : c.maxLocals = 16) (hown : s.vm.findClass "com/example/vett/vett/GranteeUserTypePinLaw" = some m.cls) (hlk : meth.locks = false) (hret : meth.sig.returnType = some .boolean) (e0 : T0.heap = h1) (N0 : Fr n0 locs) (Z0 : n0 ≤ h1.size) (hO : Old Z n0 h1) (hst : OSt Z wG wR uG uR wE zc) (hcx : own_ch cx) (gn_r1 : n0 ≤ r1) (fA1 : Arv Z h1 r1 kr1 .char (Int32.ofNat nn1) (cs1.map Value.int) (.int (0 : Int32))) (hl1 : cs1.length = nn1) (hp1 : 0 < nn1) (h111 : nn1 ≤ 11) (hch1 : ∀ c ∈ cs1, own_ch c) (hex1 : OEx cs1 (if g = (0 : Int32) then (2 : Int32) else (1 : Int32))) :
    OGV p e below s 24 1216 (fun v h L => v = some (.int 1) ∧ Fr n0 L) (T0.setTop (mkF m 230 (own_L18 p0 p1 p2 g ((XT.ushr p0 (1 : Int32)) &&& (7 : Int32)) cx r1 (Int32.ofNat nn1) ((p1 &&& (2147483647 : Int32)) % (Int32.ofNat nn1)) (if g = (0 : Int32) then (2 : Int32) else (1 : Int32))) [])) := by
  obtain ⟨SG, SR, SE, SC, hzc, EG, ER, FGu, FRu, FGg, FRg, TG, TR, EE, FE⟩ := id hst
  have hws := own_wsV hw
  refine OGV.of (A := T0.setTop (mkF m 232 (own_L18 p0 p1 p2 g ((XT.ushr p0 (1 : Int32)) &&& (7 : Int32)) cx r1 (Int32.ofNat nn1) ((p1 &&& (2147483647 : Int32)) % (Int32.ofNat nn1)) (if g = (0 : Int32) then (2 : Int32) else (1 : Int32))) [(.int cx)])) (fun oT oK => ?_) ?_
  · skip
    refine XS.iload X0.here hx rfl (hb hby at_230) rfl  ?_
    exact oK
  obtain ⟨_, _, ⟨T51, L51, k51, n51⟩, -, X51, ⟨Lc51, hQ51, l51, y51, z51⟩, st51⟩ := Jvm.LawKit.callS X0 hx (y := (⟨"java/lang/String", "valueOf", "(C)Ljava/lang/String;"⟩ : MethodName)) hown (mvT hZ (own_at hw 110 rfl)) (mvT hZ (own_at hw 111 rfl)) (mvT hZ (own_at hw 8 rfl)) (mvT hZ (own_at hw 112 rfl)) (by decide) (backOf (W := 0) (rmV l Z a0 hw [] cx wG wR uG uR wE zc h1 n0 (Z0) hO hst hcx) hZ (own_at hw 112 rfl) (own_at hw 8 rfl) (by decide) (by decide)) (g := (mkF m 232 (own_L18 p0 p1 p2 g ((XT.ushr p0 (1 : Int32)) &&& (7 : Int32)) cx r1 (Int32.ofNat nn1) ((p1 &&& (2147483647 : Int32)) % (Int32.ofNat nn1)) (if g = (0 : Int32) then (2 : Int32) else (1 : Int32))) [(.int cx)])) rfl (by rw [hml]; rfl) (argsL := [(.int cx)]) (rest := []) (lenOf pd__C_Ljava_lang_String_ rfl) rfl (by show 2 * 0 + _ ≤ _; exact Nat.le_of_eq rfl) (hb hby at_232) (fun _ _ => ⟨rfl, e0, (by decide : 1 + 2 ≤ _), (by decide : 10 + 5 ≤ _)⟩)
  dsimp only [Pt.U, Pt.locs, Pt.cells, Pt.slots] at X51 l51 y51 z51 st51 hQ51
  subst l51 y51 z51
  obtain ⟨r51, t51, kt51, rfl, N51q, Kc51, fE51, fV51, fC51, fA51⟩ := hQ51
  have N51 := Fr.app N0 N51q
  have f1 := (fA1).keep Kc51 nin0
  have f2 := (hO).keep Kc51 all0
  have K51 : Keep h1 T51.heap [r1] := ((Keep.refl h1 [r1])).trans Kc51 all0
  have Z51 : n0 ≤ T51.heap.size := Nat.le_trans Z0 Kc51.1
  have hT51 : OTx Z T51.heap r51 [cx] := ⟨t51, kt51, _, _, fE51, fV51, fC51, fA51, Or.inl ⟨rfl, rfl, rfl, fun x h => (own_ac hcx own_an x h).2⟩, own_ac hcx own_an, (by simp)⟩
  refine OGV.of st51 ?_
  show OGV _ _ _ _ _ _ _ (T51.setTop (mkF m 235 (own_L18 p0 p1 p2 g ((XT.ushr p0 (1 : Int32)) &&& (7 : Int32)) cx r1 (Int32.ofNat nn1) ((p1 &&& (2147483647 : Int32)) % (Int32.ofNat nn1)) (if g = (0 : Int32) then (2 : Int32) else (1 : Int32))) [(.ref r51)]))
  refine OGV.of (A := T51.setTop (mkF m 366 (own_L19 p0 p1 p2 g ((XT.ushr p0 (1 : Int32)) &&& (7 : Int32)) cx r1 (Int32.ofNat nn1) ((p1 &&& (2147483647 : Int32)) % (Int32.ofNat nn1)) (0 : Int32) r51) [])) (fun oT oK => ?_) ?_
  · skip
    refine XS.astore X51.here hx rfl (hb hby at_235) rfl rfl (l' := (own_L19 p0 p1 p2 g ((XT.ushr p0 (1 : Int32)) &&& (7 : Int32)) cx r1 (Int32.ofNat nn1) ((p1 &&& (2147483647 : Int32)) % (Int32.ofNat nn1)) (if g = (0 : Int32) then (2 : Int32) else (1 : Int32)) r51)) rfl ?_
    show Steps p.tables e below (T51.setTop (mkF m 237 (own_L19 p0 p1 p2 g ((XT.ushr p0 (1 : Int32)) &&& (7 : Int32)) cx r1 (Int32.ofNat nn1) ((p1 &&& (2147483647 : Int32)) % (Int32.ofNat nn1)) (if g = (0 : Int32) then (2 : Int32) else (1 : Int32)) r51) [])) _
    refine XS.iconst X51.here hx rfl (hb hby at_237) ?_
    refine XS.istore X51.here hx rfl (hb hby at_238) rfl (l' := (own_L19 p0 p1 p2 g ((XT.ushr p0 (1 : Int32)) &&& (7 : Int32)) cx r1 (Int32.ofNat nn1) ((p1 &&& (2147483647 : Int32)) % (Int32.ofNat nn1)) (0 : Int32) r51)) rfl ?_
    show Steps p.tables e below (T51.setTop (mkF m 240 (own_L19 p0 p1 p2 g ((XT.ushr p0 (1 : Int32)) &&& (7 : Int32)) cx r1 (Int32.ofNat nn1) ((p1 &&& (2147483647 : Int32)) % (Int32.ofNat nn1)) (0 : Int32) r51) [])) _
    refine XS.goto X51.here hx rfl (pc0 := 240) (pc' := 366) rfl (hb hby at_240) (by decide) (by decide) ?_
    exact oK
  exact OGV.of_OG (own_tail0 p0 p1 p2 g ((XT.ushr p0 (1 : Int32)) &&& (7 : Int32)) cx r1 (Int32.ofNat nn1) ((p1 &&& (2147483647 : Int32)) % (Int32.ofNat nn1)) (0 : Int32) r51 [cx] wG wR uG uR wE zc (X51.mono (by decide) (by decide)) hx hZ hw hby hml hown hlk hret rfl N51 Z51 f2 hst hT51 (own_exl (by simp) (by simp))) (fun _ _ _ q => ⟨q.1, q.2.1⟩)
set_option maxRecDepth 65536 in
set_option maxHeartbeats 40000000 in
theorem own_leg7 {p : Program} {l : Launch} {e : Env} {s : State} {m : MethodId} {args : Array Value} {below : List Frame} {meth : Method} {c : Code} {T0 : State} {locs : List Loc} {Z : State} {a0 : Array Value} {h1 : Heap} {n0 : Nat} (p0 : Int32) (p1 : Int32) (p2 : Int32) (g : Int32) (cx : Int32) (r1 : Addr) (cs1 : List Int32) (nn1 : Nat) (kr1 : ClassId) (wG : Addr) (wR : Addr) (uG : Addr) (uR : Addr) (wE : Addr) (zc : Int32)
    (X0 : Stand p l e room_1 s m args below meth c T0 locs 1 10) (hx : p.tables.exec = Jvm.exec) (hZ : Z.Warmed39 s.vm) (hw : ∀ d ∈ tables_1, d.before a0 Z = true) (hby : c.code = code) (hml : c.maxLocals = 16) (hown : s.vm.findClass "com/example/vett/vett/GranteeUserTypePinLaw" = some m.cls) (hlk : meth.locks = false) (hret : meth.sig.returnType = some .boolean) (e0 : T0.heap = h1) (N0 : Fr n0 locs) (Z0 : n0 ≤ h1.size) (hO : Old Z n0 h1) (hst : OSt Z wG wR uG uR wE zc) (hcx : own_ch cx) (gn_r1 : n0 ≤ r1) (fA1 : Arv Z h1 r1 kr1 .char (Int32.ofNat nn1) (cs1.map Value.int) (.int (0 : Int32))) (hl1 : cs1.length = nn1) (hp1 : 0 < nn1) (h111 : nn1 ≤ 11) (hch1 : ∀ c ∈ cs1, own_ch c) (hex1 : OEx cs1 (if g = (0 : Int32) then (2 : Int32) else (1 : Int32))) :
    OGV p e below s 24 1216 (fun v h L => v = some (.int 1) ∧ Fr n0 L) (T0.setTop (mkF m 243 (own_L18 p0 p1 p2 g ((XT.ushr p0 (1 : Int32)) &&& (7 : Int32)) cx r1 (Int32.ofNat nn1) ((p1 &&& (2147483647 : Int32)) % (Int32.ofNat nn1)) (if g = (0 : Int32) then (2 : Int32) else (1 : Int32))) [])) := by
  obtain ⟨SG, SR, SE, SC, hzc, EG, ER, FGu, FRu, FGg, FRg, TG, TR, EE, FE⟩ := id hst
  have hws := own_wsV hw
  refine OGV.of (A := T0.setTop (mkF m 288 (own_L27 p0 p1 p2 g ((XT.ushr p0 (1 : Int32)) &&& (7 : Int32)) cx r1 (Int32.ofNat nn1) ((p1 &&& (2147483647 : Int32)) % (Int32.ofNat nn1)) (if g = (0 : Int32) then (2 : Int32) else (1 : Int32)) (p1 &&& (255 : Int32)).toUInt32.toUInt16.toUInt32.toInt32 ((XT.ushr p1 (8 : Int32)) &&& (255 : Int32)).toUInt32.toUInt16.toUInt32.toInt32 ((XT.ushr p1 (16 : Int32)) &&& (255 : Int32)).toUInt32.toUInt16.toUInt32.toInt32 ((XT.ushr p1 (24 : Int32)) &&& (255 : Int32)).toUInt32.toUInt16.toUInt32.toInt32 cx) [])) (fun oT oK => ?_) ?_
  · skip
    refine XS.iloadN X0.here hx rfl (hb hby at_243) rfl  ?_
    show Steps p.tables e below (T0.setTop (mkF m 244 (own_L18 p0 p1 p2 g ((XT.ushr p0 (1 : Int32)) &&& (7 : Int32)) cx r1 (Int32.ofNat nn1) ((p1 &&& (2147483647 : Int32)) % (Int32.ofNat nn1)) (if g = (0 : Int32) then (2 : Int32) else (1 : Int32))) [(.int p1)])) _
    refine XS.sipush X0.here hx rfl (hb hby at_244) ?_
    refine XS.iand X0.here hx rfl (hb hby at_247) rfl ?_
    show Steps p.tables e below (T0.setTop (mkF m 248 (own_L18 p0 p1 p2 g ((XT.ushr p0 (1 : Int32)) &&& (7 : Int32)) cx r1 (Int32.ofNat nn1) ((p1 &&& (2147483647 : Int32)) % (Int32.ofNat nn1)) (if g = (0 : Int32) then (2 : Int32) else (1 : Int32))) [(.int (p1 &&& (255 : Int32)))])) _
    refine XT.i2c X0.here hx rfl (hb hby at_248) rfl ?_
    refine XS.istore X0.here hx rfl (hb hby at_249) rfl (l' := (own_L22 p0 p1 p2 g ((XT.ushr p0 (1 : Int32)) &&& (7 : Int32)) cx r1 (Int32.ofNat nn1) ((p1 &&& (2147483647 : Int32)) % (Int32.ofNat nn1)) (if g = (0 : Int32) then (2 : Int32) else (1 : Int32)) (p1 &&& (255 : Int32)).toUInt32.toUInt16.toUInt32.toInt32)) rfl ?_
    show Steps p.tables e below (T0.setTop (mkF m 251 (own_L22 p0 p1 p2 g ((XT.ushr p0 (1 : Int32)) &&& (7 : Int32)) cx r1 (Int32.ofNat nn1) ((p1 &&& (2147483647 : Int32)) % (Int32.ofNat nn1)) (if g = (0 : Int32) then (2 : Int32) else (1 : Int32)) (p1 &&& (255 : Int32)).toUInt32.toUInt16.toUInt32.toInt32) [])) _
    refine XS.iloadN X0.here hx rfl (hb hby at_251) rfl  ?_
    refine XS.bipush X0.here hx rfl (hb hby at_252) ?_
    show Steps p.tables e below (T0.setTop (mkF m 254 (own_L22 p0 p1 p2 g ((XT.ushr p0 (1 : Int32)) &&& (7 : Int32)) cx r1 (Int32.ofNat nn1) ((p1 &&& (2147483647 : Int32)) % (Int32.ofNat nn1)) (if g = (0 : Int32) then (2 : Int32) else (1 : Int32)) (p1 &&& (255 : Int32)).toUInt32.toUInt16.toUInt32.toInt32) [(.int (8 : Int32)), (.int p1)])) _
    refine XT.iushr X0.here hx rfl (hb hby at_254) rfl ?_
    refine XS.sipush X0.here hx rfl (hb hby at_255) ?_
    show Steps p.tables e below (T0.setTop (mkF m 258 (own_L22 p0 p1 p2 g ((XT.ushr p0 (1 : Int32)) &&& (7 : Int32)) cx r1 (Int32.ofNat nn1) ((p1 &&& (2147483647 : Int32)) % (Int32.ofNat nn1)) (if g = (0 : Int32) then (2 : Int32) else (1 : Int32)) (p1 &&& (255 : Int32)).toUInt32.toUInt16.toUInt32.toInt32) [(.int (255 : Int32)), (.int (XT.ushr p1 (8 : Int32)))])) _
    refine XS.iand X0.here hx rfl (hb hby at_258) rfl ?_
    refine XT.i2c X0.here hx rfl (hb hby at_259) rfl ?_
    show Steps p.tables e below (T0.setTop (mkF m 260 (own_L22 p0 p1 p2 g ((XT.ushr p0 (1 : Int32)) &&& (7 : Int32)) cx r1 (Int32.ofNat nn1) ((p1 &&& (2147483647 : Int32)) % (Int32.ofNat nn1)) (if g = (0 : Int32) then (2 : Int32) else (1 : Int32)) (p1 &&& (255 : Int32)).toUInt32.toUInt16.toUInt32.toInt32) [(.int ((XT.ushr p1 (8 : Int32)) &&& (255 : Int32)).toUInt32.toUInt16.toUInt32.toInt32)])) _
    refine XS.istore X0.here hx rfl (hb hby at_260) rfl (l' := (own_L24 p0 p1 p2 g ((XT.ushr p0 (1 : Int32)) &&& (7 : Int32)) cx r1 (Int32.ofNat nn1) ((p1 &&& (2147483647 : Int32)) % (Int32.ofNat nn1)) (if g = (0 : Int32) then (2 : Int32) else (1 : Int32)) (p1 &&& (255 : Int32)).toUInt32.toUInt16.toUInt32.toInt32 ((XT.ushr p1 (8 : Int32)) &&& (255 : Int32)).toUInt32.toUInt16.toUInt32.toInt32)) rfl ?_
    refine XS.iloadN X0.here hx rfl (hb hby at_262) rfl  ?_
    show Steps p.tables e below (T0.setTop (mkF m 263 (own_L24 p0 p1 p2 g ((XT.ushr p0 (1 : Int32)) &&& (7 : Int32)) cx r1 (Int32.ofNat nn1) ((p1 &&& (2147483647 : Int32)) % (Int32.ofNat nn1)) (if g = (0 : Int32) then (2 : Int32) else (1 : Int32)) (p1 &&& (255 : Int32)).toUInt32.toUInt16.toUInt32.toInt32 ((XT.ushr p1 (8 : Int32)) &&& (255 : Int32)).toUInt32.toUInt16.toUInt32.toInt32) [(.int p1)])) _
    refine XS.bipush X0.here hx rfl (hb hby at_263) ?_
    refine XT.iushr X0.here hx rfl (hb hby at_265) rfl ?_
    show Steps p.tables e below (T0.setTop (mkF m 266 (own_L24 p0 p1 p2 g ((XT.ushr p0 (1 : Int32)) &&& (7 : Int32)) cx r1 (Int32.ofNat nn1) ((p1 &&& (2147483647 : Int32)) % (Int32.ofNat nn1)) (if g = (0 : Int32) then (2 : Int32) else (1 : Int32)) (p1 &&& (255 : Int32)).toUInt32.toUInt16.toUInt32.toInt32 ((XT.ushr p1 (8 : Int32)) &&& (255 : Int32)).toUInt32.toUInt16.toUInt32.toInt32) [(.int (XT.ushr p1 (16 : Int32)))])) _
    refine XS.sipush X0.here hx rfl (hb hby at_266) ?_
    refine XS.iand X0.here hx rfl (hb hby at_269) rfl ?_
    show Steps p.tables e below (T0.setTop (mkF m 270 (own_L24 p0 p1 p2 g ((XT.ushr p0 (1 : Int32)) &&& (7 : Int32)) cx r1 (Int32.ofNat nn1) ((p1 &&& (2147483647 : Int32)) % (Int32.ofNat nn1)) (if g = (0 : Int32) then (2 : Int32) else (1 : Int32)) (p1 &&& (255 : Int32)).toUInt32.toUInt16.toUInt32.toInt32 ((XT.ushr p1 (8 : Int32)) &&& (255 : Int32)).toUInt32.toUInt16.toUInt32.toInt32) [(.int ((XT.ushr p1 (16 : Int32)) &&& (255 : Int32)))])) _
    refine XT.i2c X0.here hx rfl (hb hby at_270) rfl ?_
    refine XS.istore X0.here hx rfl (hb hby at_271) rfl (l' := (own_L25 p0 p1 p2 g ((XT.ushr p0 (1 : Int32)) &&& (7 : Int32)) cx r1 (Int32.ofNat nn1) ((p1 &&& (2147483647 : Int32)) % (Int32.ofNat nn1)) (if g = (0 : Int32) then (2 : Int32) else (1 : Int32)) (p1 &&& (255 : Int32)).toUInt32.toUInt16.toUInt32.toInt32 ((XT.ushr p1 (8 : Int32)) &&& (255 : Int32)).toUInt32.toUInt16.toUInt32.toInt32 ((XT.ushr p1 (16 : Int32)) &&& (255 : Int32)).toUInt32.toUInt16.toUInt32.toInt32)) rfl ?_
    show Steps p.tables e below (T0.setTop (mkF m 273 (own_L25 p0 p1 p2 g ((XT.ushr p0 (1 : Int32)) &&& (7 : Int32)) cx r1 (Int32.ofNat nn1) ((p1 &&& (2147483647 : Int32)) % (Int32.ofNat nn1)) (if g = (0 : Int32) then (2 : Int32) else (1 : Int32)) (p1 &&& (255 : Int32)).toUInt32.toUInt16.toUInt32.toInt32 ((XT.ushr p1 (8 : Int32)) &&& (255 : Int32)).toUInt32.toUInt16.toUInt32.toInt32 ((XT.ushr p1 (16 : Int32)) &&& (255 : Int32)).toUInt32.toUInt16.toUInt32.toInt32) [])) _
    refine XS.iloadN X0.here hx rfl (hb hby at_273) rfl  ?_
    refine XS.bipush X0.here hx rfl (hb hby at_274) ?_
    show Steps p.tables e below (T0.setTop (mkF m 276 (own_L25 p0 p1 p2 g ((XT.ushr p0 (1 : Int32)) &&& (7 : Int32)) cx r1 (Int32.ofNat nn1) ((p1 &&& (2147483647 : Int32)) % (Int32.ofNat nn1)) (if g = (0 : Int32) then (2 : Int32) else (1 : Int32)) (p1 &&& (255 : Int32)).toUInt32.toUInt16.toUInt32.toInt32 ((XT.ushr p1 (8 : Int32)) &&& (255 : Int32)).toUInt32.toUInt16.toUInt32.toInt32 ((XT.ushr p1 (16 : Int32)) &&& (255 : Int32)).toUInt32.toUInt16.toUInt32.toInt32) [(.int (24 : Int32)), (.int p1)])) _
    refine XT.iushr X0.here hx rfl (hb hby at_276) rfl ?_
    refine XS.sipush X0.here hx rfl (hb hby at_277) ?_
    show Steps p.tables e below (T0.setTop (mkF m 280 (own_L25 p0 p1 p2 g ((XT.ushr p0 (1 : Int32)) &&& (7 : Int32)) cx r1 (Int32.ofNat nn1) ((p1 &&& (2147483647 : Int32)) % (Int32.ofNat nn1)) (if g = (0 : Int32) then (2 : Int32) else (1 : Int32)) (p1 &&& (255 : Int32)).toUInt32.toUInt16.toUInt32.toInt32 ((XT.ushr p1 (8 : Int32)) &&& (255 : Int32)).toUInt32.toUInt16.toUInt32.toInt32 ((XT.ushr p1 (16 : Int32)) &&& (255 : Int32)).toUInt32.toUInt16.toUInt32.toInt32) [(.int (255 : Int32)), (.int (XT.ushr p1 (24 : Int32)))])) _
    refine XS.iand X0.here hx rfl (hb hby at_280) rfl ?_
    refine XT.i2c X0.here hx rfl (hb hby at_281) rfl ?_
    show Steps p.tables e below (T0.setTop (mkF m 282 (own_L25 p0 p1 p2 g ((XT.ushr p0 (1 : Int32)) &&& (7 : Int32)) cx r1 (Int32.ofNat nn1) ((p1 &&& (2147483647 : Int32)) % (Int32.ofNat nn1)) (if g = (0 : Int32) then (2 : Int32) else (1 : Int32)) (p1 &&& (255 : Int32)).toUInt32.toUInt16.toUInt32.toInt32 ((XT.ushr p1 (8 : Int32)) &&& (255 : Int32)).toUInt32.toUInt16.toUInt32.toInt32 ((XT.ushr p1 (16 : Int32)) &&& (255 : Int32)).toUInt32.toUInt16.toUInt32.toInt32) [(.int ((XT.ushr p1 (24 : Int32)) &&& (255 : Int32)).toUInt32.toUInt16.toUInt32.toInt32)])) _
    refine XS.istore X0.here hx rfl (hb hby at_282) rfl (l' := (own_L26 p0 p1 p2 g ((XT.ushr p0 (1 : Int32)) &&& (7 : Int32)) cx r1 (Int32.ofNat nn1) ((p1 &&& (2147483647 : Int32)) % (Int32.ofNat nn1)) (if g = (0 : Int32) then (2 : Int32) else (1 : Int32)) (p1 &&& (255 : Int32)).toUInt32.toUInt16.toUInt32.toInt32 ((XT.ushr p1 (8 : Int32)) &&& (255 : Int32)).toUInt32.toUInt16.toUInt32.toInt32 ((XT.ushr p1 (16 : Int32)) &&& (255 : Int32)).toUInt32.toUInt16.toUInt32.toInt32 ((XT.ushr p1 (24 : Int32)) &&& (255 : Int32)).toUInt32.toUInt16.toUInt32.toInt32)) rfl ?_
    refine XS.iload X0.here hx rfl (hb hby at_284) rfl  ?_
    show Steps p.tables e below (T0.setTop (mkF m 286 (own_L26 p0 p1 p2 g ((XT.ushr p0 (1 : Int32)) &&& (7 : Int32)) cx r1 (Int32.ofNat nn1) ((p1 &&& (2147483647 : Int32)) % (Int32.ofNat nn1)) (if g = (0 : Int32) then (2 : Int32) else (1 : Int32)) (p1 &&& (255 : Int32)).toUInt32.toUInt16.toUInt32.toInt32 ((XT.ushr p1 (8 : Int32)) &&& (255 : Int32)).toUInt32.toUInt16.toUInt32.toInt32 ((XT.ushr p1 (16 : Int32)) &&& (255 : Int32)).toUInt32.toUInt16.toUInt32.toInt32 ((XT.ushr p1 (24 : Int32)) &&& (255 : Int32)).toUInt32.toUInt16.toUInt32.toInt32) [(.int cx)])) _
    refine XS.istore X0.here hx rfl (hb hby at_286) rfl (l' := (own_L27 p0 p1 p2 g ((XT.ushr p0 (1 : Int32)) &&& (7 : Int32)) cx r1 (Int32.ofNat nn1) ((p1 &&& (2147483647 : Int32)) % (Int32.ofNat nn1)) (if g = (0 : Int32) then (2 : Int32) else (1 : Int32)) (p1 &&& (255 : Int32)).toUInt32.toUInt16.toUInt32.toInt32 ((XT.ushr p1 (8 : Int32)) &&& (255 : Int32)).toUInt32.toUInt16.toUInt32.toInt32 ((XT.ushr p1 (16 : Int32)) &&& (255 : Int32)).toUInt32.toUInt16.toUInt32.toInt32 ((XT.ushr p1 (24 : Int32)) &&& (255 : Int32)).toUInt32.toUInt16.toUInt32.toInt32 cx)) rfl ?_
    exact oK
  obtain ⟨c0, hc0, ec0⟩ : ∃ z, own_ch z ∧ z = (p1 &&& (255 : Int32)).toUInt32.toUInt16.toUInt32.toInt32 := ⟨_, own_chr _, rfl⟩
  rw [← ec0]
  obtain ⟨c1, hc1, ec1⟩ : ∃ z, own_ch z ∧ z = ((XT.ushr p1 (8 : Int32)) &&& (255 : Int32)).toUInt32.toUInt16.toUInt32.toInt32 := ⟨_, own_chr _, rfl⟩
  rw [← ec1]
  obtain ⟨c2, hc2, ec2⟩ : ∃ z, own_ch z ∧ z = ((XT.ushr p1 (16 : Int32)) &&& (255 : Int32)).toUInt32.toUInt16.toUInt32.toInt32 := ⟨_, own_chr _, rfl⟩
  rw [← ec2]
  obtain ⟨c3, hc3, ec3⟩ : ∃ z, own_ch z ∧ z = ((XT.ushr p1 (24 : Int32)) &&& (255 : Int32)).toUInt32.toUInt16.toUInt32.toInt32 := ⟨_, own_chr _, rfl⟩
  rw [← ec3]
  show OGV _ _ _ _ _ _ _ (T0.setTop (mkF m 288 (own_L27 p0 p1 p2 g ((XT.ushr p0 (1 : Int32)) &&& (7 : Int32)) cx r1 (Int32.ofNat nn1) ((p1 &&& (2147483647 : Int32)) % (Int32.ofNat nn1)) (if g = (0 : Int32) then (2 : Int32) else (1 : Int32)) c0 c1 c2 c3 cx) []))
  obtain ⟨T51, h51, X51, e51, E51, A51, D51, -, st51⟩ := newO X0 hx hZ hown (own_at hw 6 rfl) (own_at hw 7 rfl) (own_at hw 8 rfl) e0 (g := (mkF m 288 (own_L27 p0 p1 p2 g ((XT.ushr p0 (1 : Int32)) &&& (7 : Int32)) cx r1 (Int32.ofNat nn1) ((p1 &&& (2147483647 : Int32)) % (Int32.ofNat nn1)) (if g = (0 : Int32) then (2 : Int32) else (1 : Int32)) c0 c1 c2 c3 cx) [])) rfl (hb hby at_288) (by decide) (by decide)
  obtain ⟨b51, g51⟩ : ∃ z, z = (h1).size := ⟨_, rfl⟩
  have ne_r1_b51 : r1 ≠ b51 := Nat.ne_of_lt (Nat.lt_of_lt_of_le (fA1).lt (Nat.le_of_eq g51.symm))
  have gn_b51 : n0 ≤ b51 := Nat.le_trans Z0 (Nat.le_of_eq g51.symm)
  have sz_b51 : h1.size ≤ b51 := Nat.le_trans ((Keep.refl h1 [r1])).1 (Nat.le_of_eq g51.symm)
  rw [← g51] at A51 D51 st51
  have f1 := (fA1).ext E51
  have f2 := (hO).ext E51
  have K51 : Keep h1 h51 [r1] := ((Keep.refl h1 [r1])).ext E51
  have Z51 : n0 ≤ h51.size := Nat.le_trans Z0 E51.1
  have F51_coder : Fld Z h51 b51 "java/lang/String" "coder" "B" (.int (0 : Int32)) := D51 (Or.inr (own_at hw 32 rfl)) (ty := .byte) (by decide)
  have F51_value : Fld Z h51 b51 "java/lang/String" "value" "[B" .null := D51 (Or.inr (own_at hw 34 rfl)) (ty := (.array .byte)) (by decide)
  refine OGV.of st51 ?_
  show OGV _ _ _ _ _ _ _ (T51.setTop (mkF m 291 (own_L27 p0 p1 p2 g ((XT.ushr p0 (1 : Int32)) &&& (7 : Int32)) cx r1 (Int32.ofNat nn1) ((p1 &&& (2147483647 : Int32)) % (Int32.ofNat nn1)) (if g = (0 : Int32) then (2 : Int32) else (1 : Int32)) c0 c1 c2 c3 cx) [(.ref b51)]))
  refine OGV.of (A := T51.setTop (mkF m 293 (own_L27 p0 p1 p2 g ((XT.ushr p0 (1 : Int32)) &&& (7 : Int32)) cx r1 (Int32.ofNat nn1) ((p1 &&& (2147483647 : Int32)) % (Int32.ofNat nn1)) (if g = (0 : Int32) then (2 : Int32) else (1 : Int32)) c0 c1 c2 c3 cx) [(.int (5 : Int32)), (.ref b51), (.ref b51)])) (fun oT oK => ?_) ?_
  · skip
    refine XS.dup X51.here hx rfl (hb hby at_291) rfl rfl ?_
    show Steps p.tables e below (T51.setTop (mkF m 292 (own_L27 p0 p1 p2 g ((XT.ushr p0 (1 : Int32)) &&& (7 : Int32)) cx r1 (Int32.ofNat nn1) ((p1 &&& (2147483647 : Int32)) % (Int32.ofNat nn1)) (if g = (0 : Int32) then (2 : Int32) else (1 : Int32)) c0 c1 c2 c3 cx) [(.ref b51), (.ref b51)])) _
    refine XS.iconst X51.here hx rfl (hb hby at_292) ?_
    exact oK
  obtain ⟨T52, h52, kc52, X52, e52, E52, A52, st52⟩ := newP X51 hx hZ (own_at hw 4 rfl) e51 (g := (mkF m 293 (own_L27 p0 p1 p2 g ((XT.ushr p0 (1 : Int32)) &&& (7 : Int32)) cx r1 (Int32.ofNat nn1) ((p1 &&& (2147483647 : Int32)) % (Int32.ofNat nn1)) (if g = (0 : Int32) then (2 : Int32) else (1 : Int32)) c0 c1 c2 c3 cx) [(.int (5 : Int32)), (.ref b51), (.ref b51)])) rfl (hb hby at_293) rfl (by decide) (cap := 5) (by decide) (by decide) (by decide) (by decide)
  obtain ⟨b52, g52⟩ : ∃ z, z = (h51).size := ⟨_, rfl⟩
  have ne_r1_b52 : r1 ≠ b52 := Nat.ne_of_lt (Nat.lt_of_lt_of_le (f1).lt (Nat.le_of_eq g52.symm))
  have ne_b51_b52 : b51 ≠ b52 := Nat.ne_of_lt (Nat.lt_of_lt_of_le (A51).lt (Nat.le_of_eq g52.symm))
  have gn_b52 : n0 ≤ b52 := Nat.le_trans Z51 (Nat.le_of_eq g52.symm)
  have sz_b52 : h1.size ≤ b52 := Nat.le_trans (K51).1 (Nat.le_of_eq g52.symm)
  rw [← g52] at A52 st52
  have f3 := (f1).ext E52
  have f4 := (A51).ext E52
  have f5 := (F51_coder).ext E52
  have f6 := (F51_value).ext E52
  have f7 := (f2).ext E52
  have K52 : Keep h1 h52 [r1] := (K51).ext E52
  have Z52 : n0 ≤ h52.size := Nat.le_trans Z51 E52.1
  have V52 : Arv Z h52 b52 kc52 .char (5 : Int32) [(.int (0 : Int32)), (.int (0 : Int32)), (.int (0 : Int32)), (.int (0 : Int32)), (.int (0 : Int32))] (.int (0 : Int32)) := (Arv.new A52 (by decide)).pad (pad_rep [] (.int (0 : Int32)) 5)
  refine OGV.of st52 ?_
  show OGV _ _ _ _ _ _ _ (T52.setTop (mkF m 295 (own_L27 p0 p1 p2 g ((XT.ushr p0 (1 : Int32)) &&& (7 : Int32)) cx r1 (Int32.ofNat nn1) ((p1 &&& (2147483647 : Int32)) % (Int32.ofNat nn1)) (if g = (0 : Int32) then (2 : Int32) else (1 : Int32)) c0 c1 c2 c3 cx) [(.ref b52), (.ref b51), (.ref b51)]))
  refine OGV.of (A := T52.setTop (mkF m 299 (own_L27 p0 p1 p2 g ((XT.ushr p0 (1 : Int32)) &&& (7 : Int32)) cx r1 (Int32.ofNat nn1) ((p1 &&& (2147483647 : Int32)) % (Int32.ofNat nn1)) (if g = (0 : Int32) then (2 : Int32) else (1 : Int32)) c0 c1 c2 c3 cx) [(.int c0), (.int (0 : Int32)), (.ref b52), (.ref b52), (.ref b51), (.ref b51)])) (fun oT oK => ?_) ?_
  · skip
    refine XS.dup X52.here hx rfl (hb hby at_295) rfl rfl ?_
    show Steps p.tables e below (T52.setTop (mkF m 296 (own_L27 p0 p1 p2 g ((XT.ushr p0 (1 : Int32)) &&& (7 : Int32)) cx r1 (Int32.ofNat nn1) ((p1 &&& (2147483647 : Int32)) % (Int32.ofNat nn1)) (if g = (0 : Int32) then (2 : Int32) else (1 : Int32)) c0 c1 c2 c3 cx) [(.ref b52), (.ref b52), (.ref b51), (.ref b51)])) _
    refine XS.iconst X52.here hx rfl (hb hby at_296) ?_
    refine XS.iload X52.here hx rfl (hb hby at_297) rfl  ?_
    exact oK
  have cf8 := V52
  obtain ⟨clf8, Arf8, qf8, Sf8, Mf8, Hf8, Gf8⟩ := cf8
  obtain ⟨T53, h53, X53, e53, W53, st53⟩ := stC X52 hx hZ e52 Arf8 (j := (0 : Int32)) (inb_of Sf8 ⟨by decide, by decide⟩) (g := (mkF m 299 (own_L27 p0 p1 p2 g ((XT.ushr p0 (1 : Int32)) &&& (7 : Int32)) cx r1 (Int32.ofNat nn1) ((p1 &&& (2147483647 : Int32)) % (Int32.ofNat nn1)) (if g = (0 : Int32) then (2 : Int32) else (1 : Int32)) c0 c1 c2 c3 cx) [(.int c0), (.int (0 : Int32)), (.ref b52), (.ref b52), (.ref b51), (.ref b51)])) rfl rfl (hb hby at_299)
  have f9 := (f3).other W53 ne_r1_b52
  have f10 := (f4).wr W53
  have f11 := (f5).other W53 (Or.inl ne_b51_b52)
  have f12 := (f6).other W53 (Or.inl ne_b51_b52)
  have V53 : Arv Z h53 b52 kc52 .char (5 : Int32) [(.int (nar .char c0)), (.int (0 : Int32)), (.int (0 : Int32)), (.int (0 : Int32)), (.int (0 : Int32))] (.int (0 : Int32)) := Arv.set Arf8 qf8 Sf8 Mf8 Hf8 Gf8 (fits_nar_char _) W53 0 rfl (Nat.le_of_ble_eq_true rfl)
  have f14 := (f7).wr W53 gn_b52
  have K53 : Keep h1 h53 [r1] := (K52).wr W53 (Or.inr sz_b52)
  have Z53 : n0 ≤ h53.size := Nat.le_trans Z52 (Keep.of_wr W53).1
  have N53 := Fr.snoc X53 N0 gn_b52
  refine OGV.of st53 ?_
  show OGV _ _ _ _ _ _ _ (T53.setTop (mkF m 300 (own_L27 p0 p1 p2 g ((XT.ushr p0 (1 : Int32)) &&& (7 : Int32)) cx r1 (Int32.ofNat nn1) ((p1 &&& (2147483647 : Int32)) % (Int32.ofNat nn1)) (if g = (0 : Int32) then (2 : Int32) else (1 : Int32)) c0 c1 c2 c3 cx) [(.ref b52), (.ref b51), (.ref b51)]))
  refine OGV.of (A := T53.setTop (mkF m 304 (own_L27 p0 p1 p2 g ((XT.ushr p0 (1 : Int32)) &&& (7 : Int32)) cx r1 (Int32.ofNat nn1) ((p1 &&& (2147483647 : Int32)) % (Int32.ofNat nn1)) (if g = (0 : Int32) then (2 : Int32) else (1 : Int32)) c0 c1 c2 c3 cx) [(.int c1), (.int (1 : Int32)), (.ref b52), (.ref b52), (.ref b51), (.ref b51)])) (fun oT oK => ?_) ?_
  · skip
    refine XS.dup X53.here hx rfl (hb hby at_300) rfl rfl ?_
    show Steps p.tables e below (T53.setTop (mkF m 301 (own_L27 p0 p1 p2 g ((XT.ushr p0 (1 : Int32)) &&& (7 : Int32)) cx r1 (Int32.ofNat nn1) ((p1 &&& (2147483647 : Int32)) % (Int32.ofNat nn1)) (if g = (0 : Int32) then (2 : Int32) else (1 : Int32)) c0 c1 c2 c3 cx) [(.ref b52), (.ref b52), (.ref b51), (.ref b51)])) _
    refine XS.iconst X53.here hx rfl (hb hby at_301) ?_
    refine XS.iload X53.here hx rfl (hb hby at_302) rfl  ?_
    exact oK
  have cf15 := V53
  obtain ⟨clf15, Arf15, qf15, Sf15, Mf15, Hf15, Gf15⟩ := cf15
  obtain ⟨T54, h54, X54, e54, W54, st54⟩ := stC X53 hx hZ e53 Arf15 (j := (1 : Int32)) (inb_of Sf15 ⟨by decide, by decide⟩) (g := (mkF m 304 (own_L27 p0 p1 p2 g ((XT.ushr p0 (1 : Int32)) &&& (7 : Int32)) cx r1 (Int32.ofNat nn1) ((p1 &&& (2147483647 : Int32)) % (Int32.ofNat nn1)) (if g = (0 : Int32) then (2 : Int32) else (1 : Int32)) c0 c1 c2 c3 cx) [(.int c1), (.int (1 : Int32)), (.ref b52), (.ref b52), (.ref b51), (.ref b51)])) rfl rfl (hb hby at_304)
  have f16 := (f9).other W54 ne_r1_b52
  have f17 := (f10).wr W54
  have f18 := (f11).other W54 (Or.inl ne_b51_b52)
  have f19 := (f12).other W54 (Or.inl ne_b51_b52)
  have V54 : Arv Z h54 b52 kc52 .char (5 : Int32) [(.int (nar .char c0)), (.int (nar .char c1)), (.int (0 : Int32)), (.int (0 : Int32)), (.int (0 : Int32))] (.int (0 : Int32)) := Arv.set Arf15 qf15 Sf15 Mf15 Hf15 Gf15 (fits_nar_char _) W54 1 rfl (Nat.le_of_ble_eq_true rfl)
  have f21 := (f14).wr W54 gn_b52
  have K54 : Keep h1 h54 [r1] := (K53).wr W54 (Or.inr sz_b52)
  have Z54 : n0 ≤ h54.size := Nat.le_trans Z53 (Keep.of_wr W54).1
  have N54 := Fr.snoc X54 N53 gn_b52
  refine OGV.of st54 ?_
  show OGV _ _ _ _ _ _ _ (T54.setTop (mkF m 305 (own_L27 p0 p1 p2 g ((XT.ushr p0 (1 : Int32)) &&& (7 : Int32)) cx r1 (Int32.ofNat nn1) ((p1 &&& (2147483647 : Int32)) % (Int32.ofNat nn1)) (if g = (0 : Int32) then (2 : Int32) else (1 : Int32)) c0 c1 c2 c3 cx) [(.ref b52), (.ref b51), (.ref b51)]))
  refine OGV.of (A := T54.setTop (mkF m 309 (own_L27 p0 p1 p2 g ((XT.ushr p0 (1 : Int32)) &&& (7 : Int32)) cx r1 (Int32.ofNat nn1) ((p1 &&& (2147483647 : Int32)) % (Int32.ofNat nn1)) (if g = (0 : Int32) then (2 : Int32) else (1 : Int32)) c0 c1 c2 c3 cx) [(.int c2), (.int (2 : Int32)), (.ref b52), (.ref b52), (.ref b51), (.ref b51)])) (fun oT oK => ?_) ?_
  · skip
    refine XS.dup X54.here hx rfl (hb hby at_305) rfl rfl ?_
    show Steps p.tables e below (T54.setTop (mkF m 306 (own_L27 p0 p1 p2 g ((XT.ushr p0 (1 : Int32)) &&& (7 : Int32)) cx r1 (Int32.ofNat nn1) ((p1 &&& (2147483647 : Int32)) % (Int32.ofNat nn1)) (if g = (0 : Int32) then (2 : Int32) else (1 : Int32)) c0 c1 c2 c3 cx) [(.ref b52), (.ref b52), (.ref b51), (.ref b51)])) _
    refine XS.iconst X54.here hx rfl (hb hby at_306) ?_
    refine XS.iload X54.here hx rfl (hb hby at_307) rfl  ?_
    exact oK
  have cf22 := V54
  obtain ⟨clf22, Arf22, qf22, Sf22, Mf22, Hf22, Gf22⟩ := cf22
  obtain ⟨T55, h55, X55, e55, W55, st55⟩ := stC X54 hx hZ e54 Arf22 (j := (2 : Int32)) (inb_of Sf22 ⟨by decide, by decide⟩) (g := (mkF m 309 (own_L27 p0 p1 p2 g ((XT.ushr p0 (1 : Int32)) &&& (7 : Int32)) cx r1 (Int32.ofNat nn1) ((p1 &&& (2147483647 : Int32)) % (Int32.ofNat nn1)) (if g = (0 : Int32) then (2 : Int32) else (1 : Int32)) c0 c1 c2 c3 cx) [(.int c2), (.int (2 : Int32)), (.ref b52), (.ref b52), (.ref b51), (.ref b51)])) rfl rfl (hb hby at_309)
  have f23 := (f16).other W55 ne_r1_b52
  have f24 := (f17).wr W55
  have f25 := (f18).other W55 (Or.inl ne_b51_b52)
  have f26 := (f19).other W55 (Or.inl ne_b51_b52)
  have V55 : Arv Z h55 b52 kc52 .char (5 : Int32) [(.int (nar .char c0)), (.int (nar .char c1)), (.int (nar .char c2)), (.int (0 : Int32)), (.int (0 : Int32))] (.int (0 : Int32)) := Arv.set Arf22 qf22 Sf22 Mf22 Hf22 Gf22 (fits_nar_char _) W55 2 rfl (Nat.le_of_ble_eq_true rfl)
  have f28 := (f21).wr W55 gn_b52
  have K55 : Keep h1 h55 [r1] := (K54).wr W55 (Or.inr sz_b52)
  have Z55 : n0 ≤ h55.size := Nat.le_trans Z54 (Keep.of_wr W55).1
  have N55 := Fr.snoc X55 N54 gn_b52
  refine OGV.of st55 ?_
  show OGV _ _ _ _ _ _ _ (T55.setTop (mkF m 310 (own_L27 p0 p1 p2 g ((XT.ushr p0 (1 : Int32)) &&& (7 : Int32)) cx r1 (Int32.ofNat nn1) ((p1 &&& (2147483647 : Int32)) % (Int32.ofNat nn1)) (if g = (0 : Int32) then (2 : Int32) else (1 : Int32)) c0 c1 c2 c3 cx) [(.ref b52), (.ref b51), (.ref b51)]))
  refine OGV.of (A := T55.setTop (mkF m 314 (own_L27 p0 p1 p2 g ((XT.ushr p0 (1 : Int32)) &&& (7 : Int32)) cx r1 (Int32.ofNat nn1) ((p1 &&& (2147483647 : Int32)) % (Int32.ofNat nn1)) (if g = (0 : Int32) then (2 : Int32) else (1 : Int32)) c0 c1 c2 c3 cx) [(.int c3), (.int (3 : Int32)), (.ref b52), (.ref b52), (.ref b51), (.ref b51)])) (fun oT oK => ?_) ?_
  · skip
    refine XS.dup X55.here hx rfl (hb hby at_310) rfl rfl ?_
    show Steps p.tables e below (T55.setTop (mkF m 311 (own_L27 p0 p1 p2 g ((XT.ushr p0 (1 : Int32)) &&& (7 : Int32)) cx r1 (Int32.ofNat nn1) ((p1 &&& (2147483647 : Int32)) % (Int32.ofNat nn1)) (if g = (0 : Int32) then (2 : Int32) else (1 : Int32)) c0 c1 c2 c3 cx) [(.ref b52), (.ref b52), (.ref b51), (.ref b51)])) _
    refine XS.iconst X55.here hx rfl (hb hby at_311) ?_
    refine XS.iload X55.here hx rfl (hb hby at_312) rfl  ?_
    exact oK
  have cf29 := V55
  obtain ⟨clf29, Arf29, qf29, Sf29, Mf29, Hf29, Gf29⟩ := cf29
  obtain ⟨T56, h56, X56, e56, W56, st56⟩ := stC X55 hx hZ e55 Arf29 (j := (3 : Int32)) (inb_of Sf29 ⟨by decide, by decide⟩) (g := (mkF m 314 (own_L27 p0 p1 p2 g ((XT.ushr p0 (1 : Int32)) &&& (7 : Int32)) cx r1 (Int32.ofNat nn1) ((p1 &&& (2147483647 : Int32)) % (Int32.ofNat nn1)) (if g = (0 : Int32) then (2 : Int32) else (1 : Int32)) c0 c1 c2 c3 cx) [(.int c3), (.int (3 : Int32)), (.ref b52), (.ref b52), (.ref b51), (.ref b51)])) rfl rfl (hb hby at_314)
  have f30 := (f23).other W56 ne_r1_b52
  have f31 := (f24).wr W56
  have f32 := (f25).other W56 (Or.inl ne_b51_b52)
  have f33 := (f26).other W56 (Or.inl ne_b51_b52)
  have V56 : Arv Z h56 b52 kc52 .char (5 : Int32) [(.int (nar .char c0)), (.int (nar .char c1)), (.int (nar .char c2)), (.int (nar .char c3)), (.int (0 : Int32))] (.int (0 : Int32)) := Arv.set Arf29 qf29 Sf29 Mf29 Hf29 Gf29 (fits_nar_char _) W56 3 rfl (Nat.le_of_ble_eq_true rfl)
  have f35 := (f28).wr W56 gn_b52
  have K56 : Keep h1 h56 [r1] := (K55).wr W56 (Or.inr sz_b52)
  have Z56 : n0 ≤ h56.size := Nat.le_trans Z55 (Keep.of_wr W56).1
  have N56 := Fr.snoc X56 N55 gn_b52
  refine OGV.of st56 ?_
  show OGV _ _ _ _ _ _ _ (T56.setTop (mkF m 315 (own_L27 p0 p1 p2 g ((XT.ushr p0 (1 : Int32)) &&& (7 : Int32)) cx r1 (Int32.ofNat nn1) ((p1 &&& (2147483647 : Int32)) % (Int32.ofNat nn1)) (if g = (0 : Int32) then (2 : Int32) else (1 : Int32)) c0 c1 c2 c3 cx) [(.ref b52), (.ref b51), (.ref b51)]))
  refine OGV.of (A := T56.setTop (mkF m 319 (own_L27 p0 p1 p2 g ((XT.ushr p0 (1 : Int32)) &&& (7 : Int32)) cx r1 (Int32.ofNat nn1) ((p1 &&& (2147483647 : Int32)) % (Int32.ofNat nn1)) (if g = (0 : Int32) then (2 : Int32) else (1 : Int32)) c0 c1 c2 c3 cx) [(.int cx), (.int (4 : Int32)), (.ref b52), (.ref b52), (.ref b51), (.ref b51)])) (fun oT oK => ?_) ?_
  · skip
    refine XS.dup X56.here hx rfl (hb hby at_315) rfl rfl ?_
    show Steps p.tables e below (T56.setTop (mkF m 316 (own_L27 p0 p1 p2 g ((XT.ushr p0 (1 : Int32)) &&& (7 : Int32)) cx r1 (Int32.ofNat nn1) ((p1 &&& (2147483647 : Int32)) % (Int32.ofNat nn1)) (if g = (0 : Int32) then (2 : Int32) else (1 : Int32)) c0 c1 c2 c3 cx) [(.ref b52), (.ref b52), (.ref b51), (.ref b51)])) _
    refine XS.iconst X56.here hx rfl (hb hby at_316) ?_
    refine XS.iload X56.here hx rfl (hb hby at_317) rfl  ?_
    exact oK
  have cf36 := V56
  obtain ⟨clf36, Arf36, qf36, Sf36, Mf36, Hf36, Gf36⟩ := cf36
  obtain ⟨T57, h57, X57, e57, W57, st57⟩ := stC X56 hx hZ e56 Arf36 (j := (4 : Int32)) (inb_of Sf36 ⟨by decide, by decide⟩) (g := (mkF m 319 (own_L27 p0 p1 p2 g ((XT.ushr p0 (1 : Int32)) &&& (7 : Int32)) cx r1 (Int32.ofNat nn1) ((p1 &&& (2147483647 : Int32)) % (Int32.ofNat nn1)) (if g = (0 : Int32) then (2 : Int32) else (1 : Int32)) c0 c1 c2 c3 cx) [(.int cx), (.int (4 : Int32)), (.ref b52), (.ref b52), (.ref b51), (.ref b51)])) rfl rfl (hb hby at_319)
  have f37 := (f30).other W57 ne_r1_b52
  have f38 := (f31).wr W57
  have f39 := (f32).other W57 (Or.inl ne_b51_b52)
  have f40 := (f33).other W57 (Or.inl ne_b51_b52)
  have V57 : Arv Z h57 b52 kc52 .char (5 : Int32) [(.int (nar .char c0)), (.int (nar .char c1)), (.int (nar .char c2)), (.int (nar .char c3)), (.int (nar .char cx))] (.int (0 : Int32)) := Arv.set Arf36 qf36 Sf36 Mf36 Hf36 Gf36 (fits_nar_char _) W57 4 rfl (Nat.le_of_ble_eq_true rfl)
  have f42 := (f35).wr W57 gn_b52
  have K57 : Keep h1 h57 [r1] := (K56).wr W57 (Or.inr sz_b52)
  have Z57 : n0 ≤ h57.size := Nat.le_trans Z56 (Keep.of_wr W57).1
  have N57 := Fr.snoc X57 N56 gn_b52
  refine OGV.of st57 ?_
  show OGV _ _ _ _ _ _ _ (T57.setTop (mkF m 320 (own_L27 p0 p1 p2 g ((XT.ushr p0 (1 : Int32)) &&& (7 : Int32)) cx r1 (Int32.ofNat nn1) ((p1 &&& (2147483647 : Int32)) % (Int32.ofNat nn1)) (if g = (0 : Int32) then (2 : Int32) else (1 : Int32)) c0 c1 c2 c3 cx) [(.ref b52), (.ref b51), (.ref b51)]))
  have vA58 : Arv Z h57 b52 kc52 .char (Int32.ofNat 5) ([(nar .char c0), (nar .char c1), (nar .char c2), (nar .char c3), (nar .char cx)].map Value.int) (.int (0 : Int32)) := V57
  have hA58 : ∀ zz ∈ ([(nar .char c0), (nar .char c1), (nar .char c2), (nar .char c3), (nar .char cx)] : List Int32), own_ch zz := (own_ac (own_ncb hc0) (own_ac (own_ncb hc1) (own_ac (own_ncb hc2) (own_ac (own_ncb hc3) (own_ac (own_ncb hcx) own_an)))))
  have hlc58 : ∀ zz ∈ ([(nar .char c0), (nar .char c1), (nar .char c2), (nar .char c3), (nar .char cx)] : List Int32), own_ch zz := hA58
  have hlen58 : ([(nar .char c0), (nar .char c1), (nar .char c2), (nar .char c3), (nar .char cx)] : List Int32).length = 5 := rfl
  have hle58 : 5 ≤ 11 := (by decide)
  obtain ⟨_, _, ⟨T58, L58, k58, n58⟩, -, X58, ⟨Lc58, hQ58, l58, y58, z58⟩, st58⟩ := X57.specialBack hx (y := (⟨"java/lang/String", "<init>", "([C)V"⟩ : MethodName)) rfl hown (mvT hZ (own_at hw 9 rfl)) (mvT hZ (own_at hw 10 rfl)) (mvT hZ (own_at hw 11 rfl)) (by decide) (StrChars.Road.backV (W := 1) hZ hws (kI := 4) (own_at hw 7 rfl) (cs := [(nar .char c0), (nar .char c1), (nar .char c2), (nar .char c3), (nar .char cx)]) (bs := [(nar .char c0), (nar .char c1), (nar .char c2), (nar .char c3), (nar .char cx)].map (fun c => c.toInt8.toInt32)) (n := 5) gn_b51 (Z57) f38 f40 f39 vA58 (SC.ext (f42).2) hzc hlen58 rfl (by decide) (Nat.le_trans hle58 (by decide)) hlc58 rfl (by decide) (by decide)) (g := (mkF m 320 (own_L27 p0 p1 p2 g ((XT.ushr p0 (1 : Int32)) &&& (7 : Int32)) cx r1 (Int32.ofNat nn1) ((p1 &&& (2147483647 : Int32)) % (Int32.ofNat nn1)) (if g = (0 : Int32) then (2 : Int32) else (1 : Int32)) c0 c1 c2 c3 cx) [(.ref b52), (.ref b51), (.ref b51)])) rfl (by rw [hml]; rfl) (Steps.refl _) (a := b51) (argsL := [(.ref b52)]) (rest := [(.ref b51)]) (lenOf pd___C_V rfl) rfl (by show 2 * 0 + _ ≤ _; exact Nat.le_of_eq rfl) (hb hby at_320) (fun _ _ => ⟨rfl, e57, (by decide : 3 + 1 ≤ _), Nat.le_trans (Nat.add_le_add_left hle58 _) (by decide : 19 + 11 ≤ _)⟩)
  dsimp only [Pt.U, Pt.locs, Pt.cells, Pt.slots] at X58 l58 y58 z58 st58 hQ58
  subst l58 y58 z58
  have X58 := X58.mono (Nat.le_refl _) (Nat.add_le_add_left hle58 _)
  obtain ⟨rfl, N58q, Kc58, fE58, fC58, t58, kb58, gn_t58, gs58, nx58, fV58, fA58⟩ := hQ58
  have N58 := Fr.app N57 N58q
  have O58 := (f42).keep Kc58 (allS gn_b51 all0)
  have K58 : Keep h1 T58.heap [r1] := (K57).trans Kc58 (allS (Or.inr sz_b51) all0)
  have Z58 : n0 ≤ T58.heap.size := Nat.le_trans Z57 Kc58.1
  have hT58 : OTx Z T58.heap b51 [(nar .char c0), (nar .char c1), (nar .char c2), (nar .char c3), (nar .char cx)] := ⟨t58, kb58, _, _, fE58, fV58, fC58, fA58, StrChars.Road.codOf hlen58 (fun c h => (hlc58 c h).2), hlc58, Nat.le_trans (Nat.le_of_eq hlen58) (Nat.le_trans hle58 (by decide))⟩
  refine OGV.trans st58 ?_
  show OGV _ _ _ _ _ _ _ (T58.setTop (mkF m 323 (own_L27 p0 p1 p2 g ((XT.ushr p0 (1 : Int32)) &&& (7 : Int32)) cx r1 (Int32.ofNat nn1) ((p1 &&& (2147483647 : Int32)) % (Int32.ofNat nn1)) (if g = (0 : Int32) then (2 : Int32) else (1 : Int32)) c0 c1 c2 c3 cx) [(.ref b51)]))
  refine OGV.of (A := T58.setTop (mkF m 366 (own_L28 p0 p1 p2 g ((XT.ushr p0 (1 : Int32)) &&& (7 : Int32)) cx r1 (Int32.ofNat nn1) ((p1 &&& (2147483647 : Int32)) % (Int32.ofNat nn1)) (if c0 = (103 : Int32) then (if c1 = (117 : Int32) then (if c2 = (101 : Int32) then (if c3 = (115 : Int32) then (if cx = (116 : Int32) then (1 : Int32) else (0 : Int32)) else (0 : Int32)) else (0 : Int32)) else (0 : Int32)) else (0 : Int32)) b51 c0 c1 c2 c3 cx) [])) (fun oT oK => ?_) ?_
  · skip
    refine XS.astore X58.here hx rfl (hb hby at_323) rfl rfl (l' := (own_L28 p0 p1 p2 g ((XT.ushr p0 (1 : Int32)) &&& (7 : Int32)) cx r1 (Int32.ofNat nn1) ((p1 &&& (2147483647 : Int32)) % (Int32.ofNat nn1)) (if g = (0 : Int32) then (2 : Int32) else (1 : Int32)) b51 c0 c1 c2 c3 cx)) rfl ?_
    show Steps p.tables e below (T58.setTop (mkF m 325 (own_L28 p0 p1 p2 g ((XT.ushr p0 (1 : Int32)) &&& (7 : Int32)) cx r1 (Int32.ofNat nn1) ((p1 &&& (2147483647 : Int32)) % (Int32.ofNat nn1)) (if g = (0 : Int32) then (2 : Int32) else (1 : Int32)) b51 c0 c1 c2 c3 cx) [])) _
    refine XS.iconst X58.here hx rfl (hb hby at_325) ?_
    refine XS.istore X58.here hx rfl (hb hby at_326) rfl (l' := (own_L28 p0 p1 p2 g ((XT.ushr p0 (1 : Int32)) &&& (7 : Int32)) cx r1 (Int32.ofNat nn1) ((p1 &&& (2147483647 : Int32)) % (Int32.ofNat nn1)) (0 : Int32) b51 c0 c1 c2 c3 cx)) rfl ?_
    show Steps p.tables e below (T58.setTop (mkF m 328 (own_L28 p0 p1 p2 g ((XT.ushr p0 (1 : Int32)) &&& (7 : Int32)) cx r1 (Int32.ofNat nn1) ((p1 &&& (2147483647 : Int32)) % (Int32.ofNat nn1)) (0 : Int32) b51 c0 c1 c2 c3 cx) [])) _
    refine XS.iload X58.here hx rfl (hb hby at_328) rfl  ?_
    refine XS.bipush X58.here hx rfl (hb hby at_330) ?_
    show Steps p.tables e below (T58.setTop (mkF m 332 (own_L28 p0 p1 p2 g ((XT.ushr p0 (1 : Int32)) &&& (7 : Int32)) cx r1 (Int32.ofNat nn1) ((p1 &&& (2147483647 : Int32)) % (Int32.ofNat nn1)) (0 : Int32) b51 c0 c1 c2 c3 cx) [(.int (103 : Int32)), (.int c0)])) _
    refine (show ∀ oT, Steps p.tables e below (T58.setTop (mkF m 366 (own_L28 p0 p1 p2 g ((XT.ushr p0 (1 : Int32)) &&& (7 : Int32)) cx r1 (Int32.ofNat nn1) ((p1 &&& (2147483647 : Int32)) % (Int32.ofNat nn1)) (if c0 = (103 : Int32) then (if c1 = (117 : Int32) then (if c2 = (101 : Int32) then (if c3 = (115 : Int32) then (if cx = (116 : Int32) then (1 : Int32) else (0 : Int32)) else (0 : Int32)) else (0 : Int32)) else (0 : Int32)) else (0 : Int32)) b51 c0 c1 c2 c3 cx) [])) oT → Steps p.tables e below (T58.setTop (mkF m 332 (own_L28 p0 p1 p2 g ((XT.ushr p0 (1 : Int32)) &&& (7 : Int32)) cx r1 (Int32.ofNat nn1) ((p1 &&& (2147483647 : Int32)) % (Int32.ofNat nn1)) (0 : Int32) b51 c0 c1 c2 c3 cx) [(.int (103 : Int32)), (.int c0)])) oT from fun oT oK => ?_) _ ?_
    · skip
      show Steps p.tables e below (T58.setTop (mkF m 332 (own_L28 p0 p1 p2 g ((XT.ushr p0 (1 : Int32)) &&& (7 : Int32)) cx r1 (Int32.ofNat nn1) ((p1 &&& (2147483647 : Int32)) % (Int32.ofNat nn1)) (0 : Int32) b51 c0 c1 c2 c3 cx) [(.int (103 : Int32)), (.int c0)])) _
      by_cases hj332_44 : c0 = (103 : Int32)
      · try simp only [if_pos hj332_44] at oK
        refine XS.icmpNo X58.here hx rfl (hb hby at_332) rfl (XT.ii_ne_f hj332_44) ?_
        show Steps p.tables e below (T58.setTop (mkF m 335 (own_L28 p0 p1 p2 g ((XT.ushr p0 (1 : Int32)) &&& (7 : Int32)) cx r1 (Int32.ofNat nn1) ((p1 &&& (2147483647 : Int32)) % (Int32.ofNat nn1)) (0 : Int32) b51 c0 c1 c2 c3 cx) [])) _
        refine XS.iload X58.here hx rfl (hb hby at_335) rfl  ?_
        show Steps p.tables e below (T58.setTop (mkF m 337 (own_L28 p0 p1 p2 g ((XT.ushr p0 (1 : Int32)) &&& (7 : Int32)) cx r1 (Int32.ofNat nn1) ((p1 &&& (2147483647 : Int32)) % (Int32.ofNat nn1)) (0 : Int32) b51 c0 c1 c2 c3 cx) [(.int c1)])) _
        refine XS.bipush X58.here hx rfl (hb hby at_337) ?_
        show Steps p.tables e below (T58.setTop (mkF m 339 (own_L28 p0 p1 p2 g ((XT.ushr p0 (1 : Int32)) &&& (7 : Int32)) cx r1 (Int32.ofNat nn1) ((p1 &&& (2147483647 : Int32)) % (Int32.ofNat nn1)) (0 : Int32) b51 c0 c1 c2 c3 cx) [(.int (117 : Int32)), (.int c1)])) _
        by_cases hj339_45 : c1 = (117 : Int32)
        · try simp only [if_pos hj339_45] at oK
          refine XS.icmpNo X58.here hx rfl (hb hby at_339) rfl (XT.ii_ne_f hj339_45) ?_
          show Steps p.tables e below (T58.setTop (mkF m 342 (own_L28 p0 p1 p2 g ((XT.ushr p0 (1 : Int32)) &&& (7 : Int32)) cx r1 (Int32.ofNat nn1) ((p1 &&& (2147483647 : Int32)) % (Int32.ofNat nn1)) (0 : Int32) b51 c0 c1 c2 c3 cx) [])) _
          refine XS.iload X58.here hx rfl (hb hby at_342) rfl  ?_
          show Steps p.tables e below (T58.setTop (mkF m 344 (own_L28 p0 p1 p2 g ((XT.ushr p0 (1 : Int32)) &&& (7 : Int32)) cx r1 (Int32.ofNat nn1) ((p1 &&& (2147483647 : Int32)) % (Int32.ofNat nn1)) (0 : Int32) b51 c0 c1 c2 c3 cx) [(.int c2)])) _
          refine XS.bipush X58.here hx rfl (hb hby at_344) ?_
          show Steps p.tables e below (T58.setTop (mkF m 346 (own_L28 p0 p1 p2 g ((XT.ushr p0 (1 : Int32)) &&& (7 : Int32)) cx r1 (Int32.ofNat nn1) ((p1 &&& (2147483647 : Int32)) % (Int32.ofNat nn1)) (0 : Int32) b51 c0 c1 c2 c3 cx) [(.int (101 : Int32)), (.int c2)])) _
          by_cases hj346_46 : c2 = (101 : Int32)
          · try simp only [if_pos hj346_46] at oK
            refine XS.icmpNo X58.here hx rfl (hb hby at_346) rfl (XT.ii_ne_f hj346_46) ?_
            show Steps p.tables e below (T58.setTop (mkF m 349 (own_L28 p0 p1 p2 g ((XT.ushr p0 (1 : Int32)) &&& (7 : Int32)) cx r1 (Int32.ofNat nn1) ((p1 &&& (2147483647 : Int32)) % (Int32.ofNat nn1)) (0 : Int32) b51 c0 c1 c2 c3 cx) [])) _
            refine XS.iload X58.here hx rfl (hb hby at_349) rfl  ?_
            show Steps p.tables e below (T58.setTop (mkF m 351 (own_L28 p0 p1 p2 g ((XT.ushr p0 (1 : Int32)) &&& (7 : Int32)) cx r1 (Int32.ofNat nn1) ((p1 &&& (2147483647 : Int32)) % (Int32.ofNat nn1)) (0 : Int32) b51 c0 c1 c2 c3 cx) [(.int c3)])) _
            refine XS.bipush X58.here hx rfl (hb hby at_351) ?_
            show Steps p.tables e below (T58.setTop (mkF m 353 (own_L28 p0 p1 p2 g ((XT.ushr p0 (1 : Int32)) &&& (7 : Int32)) cx r1 (Int32.ofNat nn1) ((p1 &&& (2147483647 : Int32)) % (Int32.ofNat nn1)) (0 : Int32) b51 c0 c1 c2 c3 cx) [(.int (115 : Int32)), (.int c3)])) _
            by_cases hj353_47 : c3 = (115 : Int32)
            · try simp only [if_pos hj353_47] at oK
              refine XS.icmpNo X58.here hx rfl (hb hby at_353) rfl (XT.ii_ne_f hj353_47) ?_
              show Steps p.tables e below (T58.setTop (mkF m 356 (own_L28 p0 p1 p2 g ((XT.ushr p0 (1 : Int32)) &&& (7 : Int32)) cx r1 (Int32.ofNat nn1) ((p1 &&& (2147483647 : Int32)) % (Int32.ofNat nn1)) (0 : Int32) b51 c0 c1 c2 c3 cx) [])) _
              refine XS.iload X58.here hx rfl (hb hby at_356) rfl  ?_
              show Steps p.tables e below (T58.setTop (mkF m 358 (own_L28 p0 p1 p2 g ((XT.ushr p0 (1 : Int32)) &&& (7 : Int32)) cx r1 (Int32.ofNat nn1) ((p1 &&& (2147483647 : Int32)) % (Int32.ofNat nn1)) (0 : Int32) b51 c0 c1 c2 c3 cx) [(.int cx)])) _
              refine XS.bipush X58.here hx rfl (hb hby at_358) ?_
              show Steps p.tables e below (T58.setTop (mkF m 360 (own_L28 p0 p1 p2 g ((XT.ushr p0 (1 : Int32)) &&& (7 : Int32)) cx r1 (Int32.ofNat nn1) ((p1 &&& (2147483647 : Int32)) % (Int32.ofNat nn1)) (0 : Int32) b51 c0 c1 c2 c3 cx) [(.int (116 : Int32)), (.int cx)])) _
              by_cases hj360_48 : cx = (116 : Int32)
              · try simp only [if_pos hj360_48] at oK
                refine XS.icmpNo X58.here hx rfl (hb hby at_360) rfl (XT.ii_ne_f hj360_48) ?_
                show Steps p.tables e below (T58.setTop (mkF m 363 (own_L28 p0 p1 p2 g ((XT.ushr p0 (1 : Int32)) &&& (7 : Int32)) cx r1 (Int32.ofNat nn1) ((p1 &&& (2147483647 : Int32)) % (Int32.ofNat nn1)) (0 : Int32) b51 c0 c1 c2 c3 cx) [])) _
                refine XS.iconst X58.here hx rfl (hb hby at_363) ?_
                show Steps p.tables e below (T58.setTop (mkF m 364 (own_L28 p0 p1 p2 g ((XT.ushr p0 (1 : Int32)) &&& (7 : Int32)) cx r1 (Int32.ofNat nn1) ((p1 &&& (2147483647 : Int32)) % (Int32.ofNat nn1)) (0 : Int32) b51 c0 c1 c2 c3 cx) [(.int (1 : Int32))])) _
                refine XS.istore X58.here hx rfl (hb hby at_364) rfl (l' := (own_L28 p0 p1 p2 g ((XT.ushr p0 (1 : Int32)) &&& (7 : Int32)) cx r1 (Int32.ofNat nn1) ((p1 &&& (2147483647 : Int32)) % (Int32.ofNat nn1)) (1 : Int32) b51 c0 c1 c2 c3 cx)) rfl ?_
                exact oK
              · try simp only [if_neg hj360_48] at oK
                refine XS.icmpYes X58.here hx rfl (pc0 := 360) (pc' := 366) rfl (hb hby at_360) rfl (XT.ii_ne_t hj360_48) (by decide) (by decide) ?_
                exact oK
            · try simp only [if_neg hj353_47] at oK
              refine XS.icmpYes X58.here hx rfl (pc0 := 353) (pc' := 366) rfl (hb hby at_353) rfl (XT.ii_ne_t hj353_47) (by decide) (by decide) ?_
              exact oK
          · try simp only [if_neg hj346_46] at oK
            refine XS.icmpYes X58.here hx rfl (pc0 := 346) (pc' := 366) rfl (hb hby at_346) rfl (XT.ii_ne_t hj346_46) (by decide) (by decide) ?_
            exact oK
        · try simp only [if_neg hj339_45] at oK
          refine XS.icmpYes X58.here hx rfl (pc0 := 339) (pc' := 366) rfl (hb hby at_339) rfl (XT.ii_ne_t hj339_45) (by decide) (by decide) ?_
          exact oK
      · try simp only [if_neg hj332_44] at oK
        refine XS.icmpYes X58.here hx rfl (pc0 := 332) (pc' := 366) rfl (hb hby at_332) rfl (XT.ii_ne_t hj332_44) (by decide) (by decide) ?_
        exact oK
    exact oK
  exact OGV.of_OG (own_tail2 p0 p1 p2 g ((XT.ushr p0 (1 : Int32)) &&& (7 : Int32)) cx r1 (Int32.ofNat nn1) ((p1 &&& (2147483647 : Int32)) % (Int32.ofNat nn1)) (if c0 = (103 : Int32) then (if c1 = (117 : Int32) then (if c2 = (101 : Int32) then (if c3 = (115 : Int32) then (if cx = (116 : Int32) then (1 : Int32) else (0 : Int32)) else (0 : Int32)) else (0 : Int32)) else (0 : Int32)) else (0 : Int32)) b51 c0 c1 c2 c3 cx [(nar .char c0), (nar .char c1), (nar .char c2), (nar .char c3), (nar .char cx)] wG wR uG uR wE zc (X58.mono (by decide) (by decide)) hx hZ hw hby hml hown hlk hret rfl N58 Z58 O58 hst hT58 (own_ex7 hc0 hc1 hc2 hc3 hcx)) (fun _ _ _ q => ⟨q.1, q.2.1⟩)
theorem pn_0 : plainName "com/example/vett/vett/GranteeUserTypePinLaw" = true := by first | (simp [plainName, overriddenIn]; done) | decide +kernel
theorem ef_0 (m : MethodId) (x0 : Int32) (x1 : Int32) (x2 : Int32) : entryFrame m #[(.int x0), (.int x1), (.int x2)] maxLocals = mkF m 0 #[.val (.int x0), .val (.int x1), .val (.int x2), .unset, .unset, .unset, .unset, .unset, .unset, .unset, .unset, .unset, .unset, .unset, .unset, .unset] [] := by first | (simp [entryFrame, mkF, argsToLocals, Value.category, maxLocals]; done) | rfl
def Q0 (Z : State) (p0 : Int32) (p1 : Int32) (p2 : Int32) (wG : Addr) (wR : Addr) (uG : Addr) (uR : Addr) (wE : Addr) (zc : Int32) (h0 : Heap) (n0 : Nat) (v : Option Value) (h : Heap) (L : List Loc) : Prop := v = some (.int 1) ∧ Fr n0 L
set_option maxRecDepth 65536 in
set_option maxHeartbeats 40000000 in
theorem rm0 (l : Launch) (Z : State) (a0 : Array Value) (hw : ∀ d ∈ tables_1, d.before a0 Z = true) (ws : List Jvm.Cond) (p0 : Int32) (p1 : Int32) (p2 : Int32) (wG : Addr) (wR : Addr) (uG : Addr) (uR : Addr) (wE : Addr) (zc : Int32) (h0 : Heap) (n0 : Nat) (Z0 : n0 ≤ h0.size) (hO : Old Z n0 h0) (hst : OSt Z wG wR uG uR wE zc) :
    MetFree l x (head1 (Jvm.Cond.code x code maxLocals ret :: ws) room_1) (fun aA oU => aA = #[(.int p0), (.int p1), (.int p2)] ∧ Z.Warmed39 oU.vm ∧ oU.heap = h0 ∧ CHv Z OEL oU.vm h0) (fun _ _ _ _ _ => True) (fun _ oU oO oU' => ∃ oV oL, oO = .returned oV ∧ Q0 Z p0 p1 p2 wG wR uG uR wE zc h0 n0 oV oU'.heap oL ∧ ReturnedEndW oU oO oU' oL 24 1216) := by
  refine MetFree.of_bodySF (plainFor_of_name pn_0) hisR ?_
  intro p e s m args below meth c s₁ Bd hml0 hP hK
  obtain ⟨rfl, hZ, hh, hCV⟩ := hP
  have hx := Bd.exec
  have hby := Bd.bytes
  have hlk := BodyLoose.notSynchronized Bd
  have hml : c.maxLocals = 16 := hml0
  have hown : s.vm.findClass "com/example/vett/vett/GranteeUserTypePinLaw" = some m.cls := findClass_of_methodNamed Bd.named
  have hnm := (name_of_methodNamed Bd.named Bd.method).1
  have X0 : Stand p l e room_1 s m #[(.int p0), (.int p1), (.int p2)] below meth c s₁ [] 0 0 := Stand.of_body Bd
  have e0 : s₁.heap = h0 := by rw [← hh, Bd.state]; rfl
  have N0 := Fr.nil n0
  have hS : s.Since s.vm s.heap.size := (State.WarmedH.refl s).since s.heap.size
  have hkS : s.heap.size ≤ h0.size := by rw [← hh]; exact Nat.le_refl _
  have hCR : CHr Z OEL s.vm s.heap s.vm h0 := by rw [hh]; exact CHr.refl hCV
  have hEL := own_EW hw
  show OGV p e below s 24 1216 (Q0 Z p0 p1 p2 wG wR uG uR wE zc h0 n0) _
  refine OGV.of (fun oT oK => castTop (ef_0 m p0 p1 p2) oK) ?_
  show OGV p e below s _ _ _ (s₁.setTop (mkF m 0 (own_L12 p0 p1 p2) []))
  obtain ⟨SG, SR, SE, SC, hzc, EG, ER, FGu, FRu, FGg, FRg, TG, TR, EE, FE⟩ := id hst
  have hws := own_wsV hw
  refine OGV.of (A := s₁.setTop (mkF m 12 (own_L11 p0 p1 p2 (if (p0 &&& (1 : Int32)) = (0 : Int32) then (1 : Int32) else (0 : Int32))) [])) (fun oT oK => ?_) ?_
  · skip
    refine XS.iloadN X0.here hx rfl (hb hby at_0) rfl  ?_
    show Steps p.tables e below (s₁.setTop (mkF m 1 (own_L12 p0 p1 p2) [(.int p0)])) _
    refine XS.iconst X0.here hx rfl (hb hby at_1) ?_
    refine XS.iand X0.here hx rfl (hb hby at_2) rfl ?_
    show Steps p.tables e below (s₁.setTop (mkF m 3 (own_L12 p0 p1 p2) [(.int (p0 &&& (1 : Int32)))])) _
    refine (show ∀ oT, Steps p.tables e below (s₁.setTop (mkF m 11 (own_L12 p0 p1 p2) [(.int (if (p0 &&& (1 : Int32)) = (0 : Int32) then (1 : Int32) else (0 : Int32)))])) oT → Steps p.tables e below (s₁.setTop (mkF m 3 (own_L12 p0 p1 p2) [(.int (p0 &&& (1 : Int32)))])) oT from fun oT oK => ?_) _ ?_
    · skip
      show Steps p.tables e below (s₁.setTop (mkF m 3 (own_L12 p0 p1 p2) [(.int (p0 &&& (1 : Int32)))])) _
      by_cases hj3_2 : (p0 &&& (1 : Int32)) = (0 : Int32)
      · try simp only [if_pos hj3_2] at oK
        refine XS.ifNo X0.here hx rfl (hb hby at_3) rfl (XT.i0_ne_f hj3_2) ?_
        show Steps p.tables e below (s₁.setTop (mkF m 6 (own_L12 p0 p1 p2) [])) _
        refine XS.iconst X0.here hx rfl (hb hby at_6) ?_
        show Steps p.tables e below (s₁.setTop (mkF m 7 (own_L12 p0 p1 p2) [(.int (1 : Int32))])) _
        refine XS.goto X0.here hx rfl (pc0 := 7) (pc' := 11) rfl (hb hby at_7) (by decide) (by decide) ?_
        exact oK
      · try simp only [if_neg hj3_2] at oK
        refine XS.ifYes X0.here hx rfl (pc0 := 3) (pc' := 10) rfl (hb hby at_3) rfl (XT.i0_ne_t hj3_2) (by decide) (by decide) ?_
        show Steps p.tables e below (s₁.setTop (mkF m 10 (own_L12 p0 p1 p2) [])) _
        refine XS.iconst X0.here hx rfl (hb hby at_10) ?_
        exact oK
    refine XS.istoreN X0.here hx rfl (hb hby at_11) rfl (l' := (own_L11 p0 p1 p2 (if (p0 &&& (1 : Int32)) = (0 : Int32) then (1 : Int32) else (0 : Int32)))) rfl ?_
    exact oK
  obtain ⟨g, eg⟩ : ∃ z, z = (if (p0 &&& (1 : Int32)) = (0 : Int32) then (1 : Int32) else (0 : Int32)) := ⟨_, rfl⟩
  rw [← eg]
  show OGV _ _ _ _ _ _ _ (s₁.setTop (mkF m 12 (own_L11 p0 p1 p2 g) []))
  refine OGV.of (A := s₁.setTop (mkF m 28 (own_L14 p0 p1 p2 g ((XT.ushr p0 (1 : Int32)) &&& (7 : Int32)) (p2 &&& (255 : Int32)).toUInt32.toUInt16.toUInt32.toInt32) [])) (fun oT oK => ?_) ?_
  · skip
    refine XS.iloadN X0.here hx rfl (hb hby at_12) rfl  ?_
    show Steps p.tables e below (s₁.setTop (mkF m 13 (own_L11 p0 p1 p2 g) [(.int p0)])) _
    refine XS.iconst X0.here hx rfl (hb hby at_13) ?_
    refine XT.iushr X0.here hx rfl (hb hby at_14) rfl ?_
    show Steps p.tables e below (s₁.setTop (mkF m 15 (own_L11 p0 p1 p2 g) [(.int (XT.ushr p0 (1 : Int32)))])) _
    refine XS.bipush X0.here hx rfl (hb hby at_15) ?_
    refine XS.iand X0.here hx rfl (hb hby at_17) rfl ?_
    show Steps p.tables e below (s₁.setTop (mkF m 18 (own_L11 p0 p1 p2 g) [(.int ((XT.ushr p0 (1 : Int32)) &&& (7 : Int32)))])) _
    refine XS.istore X0.here hx rfl (hb hby at_18) rfl (l' := (own_L13 p0 p1 p2 g ((XT.ushr p0 (1 : Int32)) &&& (7 : Int32)))) rfl ?_
    refine XS.iloadN X0.here hx rfl (hb hby at_20) rfl  ?_
    show Steps p.tables e below (s₁.setTop (mkF m 21 (own_L13 p0 p1 p2 g ((XT.ushr p0 (1 : Int32)) &&& (7 : Int32))) [(.int p2)])) _
    refine XS.sipush X0.here hx rfl (hb hby at_21) ?_
    refine XS.iand X0.here hx rfl (hb hby at_24) rfl ?_
    show Steps p.tables e below (s₁.setTop (mkF m 25 (own_L13 p0 p1 p2 g ((XT.ushr p0 (1 : Int32)) &&& (7 : Int32))) [(.int (p2 &&& (255 : Int32)))])) _
    refine XT.i2c X0.here hx rfl (hb hby at_25) rfl ?_
    refine XS.istore X0.here hx rfl (hb hby at_26) rfl (l' := (own_L14 p0 p1 p2 g ((XT.ushr p0 (1 : Int32)) &&& (7 : Int32)) (p2 &&& (255 : Int32)).toUInt32.toUInt16.toUInt32.toInt32)) rfl ?_
    exact oK
  obtain ⟨cx, hcx, ecx⟩ : ∃ z, own_ch z ∧ z = (p2 &&& (255 : Int32)).toUInt32.toUInt16.toUInt32.toInt32 := ⟨_, own_chr _, rfl⟩
  rw [← ecx]
  show OGV _ _ _ _ _ _ _ (s₁.setTop (mkF m 28 (own_L14 p0 p1 p2 g ((XT.ushr p0 (1 : Int32)) &&& (7 : Int32)) cx) []))
  refine OGV.of (A := s₁.setTop (mkF m 29 (own_L14 p0 p1 p2 g ((XT.ushr p0 (1 : Int32)) &&& (7 : Int32)) cx) [(.int g)])) (fun oT oK => ?_) ?_
  · skip
    refine XS.iloadN X0.here hx rfl (hb hby at_28) rfl  ?_
    exact oK
  obtain ⟨_, _, ⟨T1, L1, k1, n1⟩, -, X1, ⟨Lc1, hQ1, l1, y1, z1⟩, st1⟩ := Jvm.LawKit.callS X0 hx (y := (⟨"com/example/vett/vett/GranteeUserTypePinLaw", "base", "(Z)[C"⟩ : MethodName)) hown (mvT hZ (own_at hw 0 rfl)) (mvT hZ (own_at hw 1 rfl)) (mvT hZ (own_at hw 2 rfl)) (mvT hZ (own_at hw 3 rfl)) (by decide) (backOf (W := 0) (rmB l Z a0 hw [] g h0 n0 (Z0)) hZ (own_at hw 3 rfl) (own_at hw 2 rfl) (by decide) (by decide)) (g := (mkF m 29 (own_L14 p0 p1 p2 g ((XT.ushr p0 (1 : Int32)) &&& (7 : Int32)) cx) [(.int g)])) rfl (by rw [hml]; rfl) (argsL := [(.int g)]) (rest := []) (lenOf pd__Z__C rfl) rfl (by show 2 * 0 + _ ≤ _; exact Nat.le_of_eq rfl) (hb hby at_29) (fun _ _ => ⟨rfl, e0, (by decide : 0 + 1 ≤ _), (by decide : 0 + 10 ≤ _)⟩)
  dsimp only [Pt.U, Pt.locs, Pt.cells, Pt.slots] at X1 l1 y1 z1 st1 hQ1
  subst l1 y1 z1
  obtain ⟨r1, cs1, nn1, rfl, N1q, Kc1, gn_r1, gs1, ⟨kr1, fA1⟩, hl1, hp1, h111, hch1, hex1⟩ := hQ1
  have N1 := Fr.app N0 N1q
  have sz_r1 : h0.size ≤ r1 := Nat.le_trans (Keep.refl h0 []).1 gs1
  have f3 := (hO).keep Kc1 all0
  have K1 : Keep h0 T1.heap [] := (Keep.refl h0 []).trans Kc1 all0
  have Z1 : n0 ≤ T1.heap.size := Nat.le_trans Z0 Kc1.1
  refine OGV.of st1 ?_
  show OGV _ _ _ _ _ _ _ (T1.setTop (mkF m 32 (own_L14 p0 p1 p2 g ((XT.ushr p0 (1 : Int32)) &&& (7 : Int32)) cx) [(.ref r1)]))
  refine OGV.of (A := T1.setTop (mkF m 34 (own_L15 p0 p1 p2 g ((XT.ushr p0 (1 : Int32)) &&& (7 : Int32)) cx r1) [])) (fun oT oK => ?_) ?_
  · skip
    refine XS.astore X1.here hx rfl (hb hby at_32) rfl rfl (l' := (own_L15 p0 p1 p2 g ((XT.ushr p0 (1 : Int32)) &&& (7 : Int32)) cx r1)) rfl ?_
    exact oK
  have hnz := own_nnz hp1 h111
  refine OGV.of (A := T1.setTop (mkF m 36 (own_L15 p0 p1 p2 g ((XT.ushr p0 (1 : Int32)) &&& (7 : Int32)) cx r1) [(.ref r1)])) (fun oT oK => ?_) ?_
  · skip
    refine XS.aload X1.here hx rfl (hb hby at_34) rfl rfl  ?_
    exact oK
  have cf4 := fA1
  obtain ⟨clf4, Arf4, qf4, Sf4, Mf4, Hf4, Gf4⟩ := cf4
  refine OGV.of (X1.arraylength hx (by exact Arf4.1) (State.isArrayOf_alike hZ.alike Arf4.2.1) (g := (mkF m 36 (own_L15 p0 p1 p2 g ((XT.ushr p0 (1 : Int32)) &&& (7 : Int32)) cx r1) [(.ref r1)])) rfl rfl (hb hby at_36)) ?_
  rw [len_of Sf4 Mf4]
  show OGV _ _ _ _ _ _ _ (T1.setTop (mkF m 37 (own_L15 p0 p1 p2 g ((XT.ushr p0 (1 : Int32)) &&& (7 : Int32)) cx r1) [(.int (Int32.ofNat nn1))]))
  refine OGV.of (A := T1.setTop (mkF m 61 (own_L18 p0 p1 p2 g ((XT.ushr p0 (1 : Int32)) &&& (7 : Int32)) cx r1 (Int32.ofNat nn1) ((p1 &&& (2147483647 : Int32)) % (Int32.ofNat nn1)) (if g = (0 : Int32) then (2 : Int32) else (1 : Int32))) [(.int ((XT.ushr p0 (1 : Int32)) &&& (7 : Int32)))])) (fun oT oK => ?_) ?_
  · skip
    refine XS.istore X1.here hx rfl (hb hby at_37) rfl (l' := (own_L16 p0 p1 p2 g ((XT.ushr p0 (1 : Int32)) &&& (7 : Int32)) cx r1 (Int32.ofNat nn1))) rfl ?_
    show Steps p.tables e below (T1.setTop (mkF m 39 (own_L16 p0 p1 p2 g ((XT.ushr p0 (1 : Int32)) &&& (7 : Int32)) cx r1 (Int32.ofNat nn1)) [])) _
    refine XS.iloadN X1.here hx rfl (hb hby at_39) rfl  ?_
    refine X1.ldcInt hx hown (mvT hZ (own_at hw 5 rfl)) (g := (mkF m 40 (own_L16 p0 p1 p2 g ((XT.ushr p0 (1 : Int32)) &&& (7 : Int32)) cx r1 (Int32.ofNat nn1)) [(.int p1)])) rfl (hb hby at_40) _ ?_
    show Steps p.tables e below (T1.setTop (mkF m 42 (own_L16 p0 p1 p2 g ((XT.ushr p0 (1 : Int32)) &&& (7 : Int32)) cx r1 (Int32.ofNat nn1)) [(.int (2147483647 : Int32)), (.int p1)])) _
    refine XS.iand X1.here hx rfl (hb hby at_42) rfl ?_
    refine XS.iload X1.here hx rfl (hb hby at_43) rfl  ?_
    show Steps p.tables e below (T1.setTop (mkF m 45 (own_L16 p0 p1 p2 g ((XT.ushr p0 (1 : Int32)) &&& (7 : Int32)) cx r1 (Int32.ofNat nn1)) [(.int (Int32.ofNat nn1)), (.int (p1 &&& (2147483647 : Int32)))])) _
    refine Jvm.RoadKit.iremM X1 hx rfl (hb hby at_45) rfl hnz ?_
    refine XS.istore X1.here hx rfl (hb hby at_46) rfl (l' := (own_L17 p0 p1 p2 g ((XT.ushr p0 (1 : Int32)) &&& (7 : Int32)) cx r1 (Int32.ofNat nn1) ((p1 &&& (2147483647 : Int32)) % (Int32.ofNat nn1)))) rfl ?_
    show Steps p.tables e below (T1.setTop (mkF m 48 (own_L17 p0 p1 p2 g ((XT.ushr p0 (1 : Int32)) &&& (7 : Int32)) cx r1 (Int32.ofNat nn1) ((p1 &&& (2147483647 : Int32)) % (Int32.ofNat nn1))) [])) _
    refine XS.iloadN X1.here hx rfl (hb hby at_48) rfl  ?_
    show Steps p.tables e below (T1.setTop (mkF m 49 (own_L17 p0 p1 p2 g ((XT.ushr p0 (1 : Int32)) &&& (7 : Int32)) cx r1 (Int32.ofNat nn1) ((p1 &&& (2147483647 : Int32)) % (Int32.ofNat nn1))) [(.int g)])) _
    refine (show ∀ oT, Steps p.tables e below (T1.setTop (mkF m 57 (own_L17 p0 p1 p2 g ((XT.ushr p0 (1 : Int32)) &&& (7 : Int32)) cx r1 (Int32.ofNat nn1) ((p1 &&& (2147483647 : Int32)) % (Int32.ofNat nn1))) [(.int (if g = (0 : Int32) then (2 : Int32) else (1 : Int32)))])) oT → Steps p.tables e below (T1.setTop (mkF m 49 (own_L17 p0 p1 p2 g ((XT.ushr p0 (1 : Int32)) &&& (7 : Int32)) cx r1 (Int32.ofNat nn1) ((p1 &&& (2147483647 : Int32)) % (Int32.ofNat nn1))) [(.int g)])) oT from fun oT oK => ?_) _ ?_
    · skip
      show Steps p.tables e below (T1.setTop (mkF m 49 (own_L17 p0 p1 p2 g ((XT.ushr p0 (1 : Int32)) &&& (7 : Int32)) cx r1 (Int32.ofNat nn1) ((p1 &&& (2147483647 : Int32)) % (Int32.ofNat nn1))) [(.int g)])) _
      by_cases hj49_6 : g = (0 : Int32)
      · try simp only [if_pos hj49_6] at oK
        refine XS.ifYes X1.here hx rfl (pc0 := 49) (pc' := 56) rfl (hb hby at_49) rfl (XT.i0_eq_t hj49_6) (by decide) (by decide) ?_
        show Steps p.tables e below (T1.setTop (mkF m 56 (own_L17 p0 p1 p2 g ((XT.ushr p0 (1 : Int32)) &&& (7 : Int32)) cx r1 (Int32.ofNat nn1) ((p1 &&& (2147483647 : Int32)) % (Int32.ofNat nn1))) [])) _
        refine XS.iconst X1.here hx rfl (hb hby at_56) ?_
        exact oK
      · try simp only [if_neg hj49_6] at oK
        refine XS.ifNo X1.here hx rfl (hb hby at_49) rfl (XT.i0_eq_f hj49_6) ?_
        show Steps p.tables e below (T1.setTop (mkF m 52 (own_L17 p0 p1 p2 g ((XT.ushr p0 (1 : Int32)) &&& (7 : Int32)) cx r1 (Int32.ofNat nn1) ((p1 &&& (2147483647 : Int32)) % (Int32.ofNat nn1))) [])) _
        refine XS.iconst X1.here hx rfl (hb hby at_52) ?_
        show Steps p.tables e below (T1.setTop (mkF m 53 (own_L17 p0 p1 p2 g ((XT.ushr p0 (1 : Int32)) &&& (7 : Int32)) cx r1 (Int32.ofNat nn1) ((p1 &&& (2147483647 : Int32)) % (Int32.ofNat nn1))) [(.int (1 : Int32))])) _
        refine XS.goto X1.here hx rfl (pc0 := 53) (pc' := 57) rfl (hb hby at_53) (by decide) (by decide) ?_
        exact oK
    show Steps p.tables e below (T1.setTop (mkF m 57 (own_L17 p0 p1 p2 g ((XT.ushr p0 (1 : Int32)) &&& (7 : Int32)) cx r1 (Int32.ofNat nn1) ((p1 &&& (2147483647 : Int32)) % (Int32.ofNat nn1))) [(.int (if g = (0 : Int32) then (2 : Int32) else (1 : Int32)))])) _
    refine XS.istore X1.here hx rfl (hb hby at_57) rfl (l' := (own_L18 p0 p1 p2 g ((XT.ushr p0 (1 : Int32)) &&& (7 : Int32)) cx r1 (Int32.ofNat nn1) ((p1 &&& (2147483647 : Int32)) % (Int32.ofNat nn1)) (if g = (0 : Int32) then (2 : Int32) else (1 : Int32)))) rfl ?_
    refine XS.iload X1.here hx rfl (hb hby at_59) rfl  ?_
    exact oK
  by_cases hc61_7 : ((XT.ushr p0 (1 : Int32)) &&& (7 : Int32)) = (0 : Int32)
  · refine OGV.of (fun oT oK => XS.ifNo X1.here hx rfl (hb hby at_61) rfl (XT.i0_ne_f hc61_7) oK) ?_
    show OGV _ _ _ _ _ _ _ (T1.setTop (mkF m 64 (own_L18 p0 p1 p2 g ((XT.ushr p0 (1 : Int32)) &&& (7 : Int32)) cx r1 (Int32.ofNat nn1) ((p1 &&& (2147483647 : Int32)) % (Int32.ofNat nn1)) (if g = (0 : Int32) then (2 : Int32) else (1 : Int32))) []))
    exact own_leg0 p0 p1 p2 g cx r1 cs1 nn1 kr1 wG wR uG uR wE zc X1 hx hZ hw hby hml hown hlk Bd.returns rfl N1 Z1 (f3) (hst) (hcx) (gn_r1) (fA1) (hl1) (hp1) (h111) (hch1) (hex1)
  · refine OGV.of (fun oT oK => XS.ifYes X1.here hx rfl (pc0 := 61) (pc' := 78) rfl (hb hby at_61) rfl (XT.i0_ne_t hc61_7) (by decide) (by decide) oK) ?_
    show OGV _ _ _ _ _ _ _ (T1.setTop (mkF m 78 (own_L18 p0 p1 p2 g ((XT.ushr p0 (1 : Int32)) &&& (7 : Int32)) cx r1 (Int32.ofNat nn1) ((p1 &&& (2147483647 : Int32)) % (Int32.ofNat nn1)) (if g = (0 : Int32) then (2 : Int32) else (1 : Int32))) []))
    refine OGV.of (A := T1.setTop (mkF m 81 (own_L18 p0 p1 p2 g ((XT.ushr p0 (1 : Int32)) &&& (7 : Int32)) cx r1 (Int32.ofNat nn1) ((p1 &&& (2147483647 : Int32)) % (Int32.ofNat nn1)) (if g = (0 : Int32) then (2 : Int32) else (1 : Int32))) [(.int (1 : Int32)), (.int ((XT.ushr p0 (1 : Int32)) &&& (7 : Int32)))])) (fun oT oK => ?_) ?_
    · skip
      refine XS.iload X1.here hx rfl (hb hby at_78) rfl  ?_
      show Steps p.tables e below (T1.setTop (mkF m 80 (own_L18 p0 p1 p2 g ((XT.ushr p0 (1 : Int32)) &&& (7 : Int32)) cx r1 (Int32.ofNat nn1) ((p1 &&& (2147483647 : Int32)) % (Int32.ofNat nn1)) (if g = (0 : Int32) then (2 : Int32) else (1 : Int32))) [(.int ((XT.ushr p0 (1 : Int32)) &&& (7 : Int32)))])) _
      refine XS.iconst X1.here hx rfl (hb hby at_80) ?_
      exact oK
    by_cases hc81_8 : ((XT.ushr p0 (1 : Int32)) &&& (7 : Int32)) = (1 : Int32)
    · refine OGV.of (fun oT oK => XS.icmpNo X1.here hx rfl (hb hby at_81) rfl (XT.ii_ne_f hc81_8) oK) ?_
      show OGV _ _ _ _ _ _ _ (T1.setTop (mkF m 84 (own_L18 p0 p1 p2 g ((XT.ushr p0 (1 : Int32)) &&& (7 : Int32)) cx r1 (Int32.ofNat nn1) ((p1 &&& (2147483647 : Int32)) % (Int32.ofNat nn1)) (if g = (0 : Int32) then (2 : Int32) else (1 : Int32))) []))
      exact own_leg1 p0 p1 p2 g cx r1 cs1 nn1 kr1 wG wR uG uR wE zc X1 hx hZ hw hby hml hown hlk Bd.returns rfl N1 Z1 (f3) (hst) (hcx) (gn_r1) (fA1) (hl1) (hp1) (h111) (hch1) (hex1)
    · refine OGV.of (fun oT oK => XS.icmpYes X1.here hx rfl (pc0 := 81) (pc' := 122) rfl (hb hby at_81) rfl (XT.ii_ne_t hc81_8) (by decide) (by decide) oK) ?_
      show OGV _ _ _ _ _ _ _ (T1.setTop (mkF m 122 (own_L18 p0 p1 p2 g ((XT.ushr p0 (1 : Int32)) &&& (7 : Int32)) cx r1 (Int32.ofNat nn1) ((p1 &&& (2147483647 : Int32)) % (Int32.ofNat nn1)) (if g = (0 : Int32) then (2 : Int32) else (1 : Int32))) []))
      refine OGV.of (A := T1.setTop (mkF m 125 (own_L18 p0 p1 p2 g ((XT.ushr p0 (1 : Int32)) &&& (7 : Int32)) cx r1 (Int32.ofNat nn1) ((p1 &&& (2147483647 : Int32)) % (Int32.ofNat nn1)) (if g = (0 : Int32) then (2 : Int32) else (1 : Int32))) [(.int (2 : Int32)), (.int ((XT.ushr p0 (1 : Int32)) &&& (7 : Int32)))])) (fun oT oK => ?_) ?_
      · skip
        refine XS.iload X1.here hx rfl (hb hby at_122) rfl  ?_
        show Steps p.tables e below (T1.setTop (mkF m 124 (own_L18 p0 p1 p2 g ((XT.ushr p0 (1 : Int32)) &&& (7 : Int32)) cx r1 (Int32.ofNat nn1) ((p1 &&& (2147483647 : Int32)) % (Int32.ofNat nn1)) (if g = (0 : Int32) then (2 : Int32) else (1 : Int32))) [(.int ((XT.ushr p0 (1 : Int32)) &&& (7 : Int32)))])) _
        refine XS.iconst X1.here hx rfl (hb hby at_124) ?_
        exact oK
      by_cases hc125_9 : ((XT.ushr p0 (1 : Int32)) &&& (7 : Int32)) = (2 : Int32)
      · refine OGV.of (fun oT oK => XS.icmpNo X1.here hx rfl (hb hby at_125) rfl (XT.ii_ne_f hc125_9) oK) ?_
        show OGV _ _ _ _ _ _ _ (T1.setTop (mkF m 128 (own_L18 p0 p1 p2 g ((XT.ushr p0 (1 : Int32)) &&& (7 : Int32)) cx r1 (Int32.ofNat nn1) ((p1 &&& (2147483647 : Int32)) % (Int32.ofNat nn1)) (if g = (0 : Int32) then (2 : Int32) else (1 : Int32))) []))
        exact own_leg2 p0 p1 p2 g cx r1 cs1 nn1 kr1 wG wR uG uR wE zc X1 hx hZ hw hby hml hown hlk Bd.returns rfl N1 Z1 (f3) (hst) (hcx) (gn_r1) (fA1) (hl1) (hp1) (h111) (hch1) (hex1)
      · refine OGV.of (fun oT oK => XS.icmpYes X1.here hx rfl (pc0 := 125) (pc' := 149) rfl (hb hby at_125) rfl (XT.ii_ne_t hc125_9) (by decide) (by decide) oK) ?_
        show OGV _ _ _ _ _ _ _ (T1.setTop (mkF m 149 (own_L18 p0 p1 p2 g ((XT.ushr p0 (1 : Int32)) &&& (7 : Int32)) cx r1 (Int32.ofNat nn1) ((p1 &&& (2147483647 : Int32)) % (Int32.ofNat nn1)) (if g = (0 : Int32) then (2 : Int32) else (1 : Int32))) []))
        refine OGV.of (A := T1.setTop (mkF m 152 (own_L18 p0 p1 p2 g ((XT.ushr p0 (1 : Int32)) &&& (7 : Int32)) cx r1 (Int32.ofNat nn1) ((p1 &&& (2147483647 : Int32)) % (Int32.ofNat nn1)) (if g = (0 : Int32) then (2 : Int32) else (1 : Int32))) [(.int (3 : Int32)), (.int ((XT.ushr p0 (1 : Int32)) &&& (7 : Int32)))])) (fun oT oK => ?_) ?_
        · skip
          refine XS.iload X1.here hx rfl (hb hby at_149) rfl  ?_
          show Steps p.tables e below (T1.setTop (mkF m 151 (own_L18 p0 p1 p2 g ((XT.ushr p0 (1 : Int32)) &&& (7 : Int32)) cx r1 (Int32.ofNat nn1) ((p1 &&& (2147483647 : Int32)) % (Int32.ofNat nn1)) (if g = (0 : Int32) then (2 : Int32) else (1 : Int32))) [(.int ((XT.ushr p0 (1 : Int32)) &&& (7 : Int32)))])) _
          refine XS.iconst X1.here hx rfl (hb hby at_151) ?_
          exact oK
        by_cases hc152_10 : ((XT.ushr p0 (1 : Int32)) &&& (7 : Int32)) = (3 : Int32)
        · refine OGV.of (fun oT oK => XS.icmpNo X1.here hx rfl (hb hby at_152) rfl (XT.ii_ne_f hc152_10) oK) ?_
          show OGV _ _ _ _ _ _ _ (T1.setTop (mkF m 155 (own_L18 p0 p1 p2 g ((XT.ushr p0 (1 : Int32)) &&& (7 : Int32)) cx r1 (Int32.ofNat nn1) ((p1 &&& (2147483647 : Int32)) % (Int32.ofNat nn1)) (if g = (0 : Int32) then (2 : Int32) else (1 : Int32))) []))
          exact own_leg3 p0 p1 p2 g cx r1 cs1 nn1 kr1 wG wR uG uR wE zc X1 hx hZ hw hby hml hown hlk Bd.returns rfl N1 Z1 (f3) (hst) (hcx) (gn_r1) (fA1) (hl1) (hp1) (h111) (hch1) (hex1)
        · refine OGV.of (fun oT oK => XS.icmpYes X1.here hx rfl (pc0 := 152) (pc' := 174) rfl (hb hby at_152) rfl (XT.ii_ne_t hc152_10) (by decide) (by decide) oK) ?_
          show OGV _ _ _ _ _ _ _ (T1.setTop (mkF m 174 (own_L18 p0 p1 p2 g ((XT.ushr p0 (1 : Int32)) &&& (7 : Int32)) cx r1 (Int32.ofNat nn1) ((p1 &&& (2147483647 : Int32)) % (Int32.ofNat nn1)) (if g = (0 : Int32) then (2 : Int32) else (1 : Int32))) []))
          refine OGV.of (A := T1.setTop (mkF m 177 (own_L18 p0 p1 p2 g ((XT.ushr p0 (1 : Int32)) &&& (7 : Int32)) cx r1 (Int32.ofNat nn1) ((p1 &&& (2147483647 : Int32)) % (Int32.ofNat nn1)) (if g = (0 : Int32) then (2 : Int32) else (1 : Int32))) [(.int (4 : Int32)), (.int ((XT.ushr p0 (1 : Int32)) &&& (7 : Int32)))])) (fun oT oK => ?_) ?_
          · skip
            refine XS.iload X1.here hx rfl (hb hby at_174) rfl  ?_
            show Steps p.tables e below (T1.setTop (mkF m 176 (own_L18 p0 p1 p2 g ((XT.ushr p0 (1 : Int32)) &&& (7 : Int32)) cx r1 (Int32.ofNat nn1) ((p1 &&& (2147483647 : Int32)) % (Int32.ofNat nn1)) (if g = (0 : Int32) then (2 : Int32) else (1 : Int32))) [(.int ((XT.ushr p0 (1 : Int32)) &&& (7 : Int32)))])) _
            refine XS.iconst X1.here hx rfl (hb hby at_176) ?_
            exact oK
          by_cases hc177_11 : ((XT.ushr p0 (1 : Int32)) &&& (7 : Int32)) = (4 : Int32)
          · refine OGV.of (fun oT oK => XS.icmpNo X1.here hx rfl (hb hby at_177) rfl (XT.ii_ne_f hc177_11) oK) ?_
            show OGV _ _ _ _ _ _ _ (T1.setTop (mkF m 180 (own_L18 p0 p1 p2 g ((XT.ushr p0 (1 : Int32)) &&& (7 : Int32)) cx r1 (Int32.ofNat nn1) ((p1 &&& (2147483647 : Int32)) % (Int32.ofNat nn1)) (if g = (0 : Int32) then (2 : Int32) else (1 : Int32))) []))
            exact own_leg4 p0 p1 p2 g cx r1 cs1 nn1 kr1 wG wR uG uR wE zc X1 hx hZ hw hby hml hown hlk Bd.returns rfl N1 Z1 (f3) (hst) (hcx) (gn_r1) (fA1) (hl1) (hp1) (h111) (hch1) (hex1)
          · refine OGV.of (fun oT oK => XS.icmpYes X1.here hx rfl (pc0 := 177) (pc' := 199) rfl (hb hby at_177) rfl (XT.ii_ne_t hc177_11) (by decide) (by decide) oK) ?_
            show OGV _ _ _ _ _ _ _ (T1.setTop (mkF m 199 (own_L18 p0 p1 p2 g ((XT.ushr p0 (1 : Int32)) &&& (7 : Int32)) cx r1 (Int32.ofNat nn1) ((p1 &&& (2147483647 : Int32)) % (Int32.ofNat nn1)) (if g = (0 : Int32) then (2 : Int32) else (1 : Int32))) []))
            refine OGV.of (A := T1.setTop (mkF m 202 (own_L18 p0 p1 p2 g ((XT.ushr p0 (1 : Int32)) &&& (7 : Int32)) cx r1 (Int32.ofNat nn1) ((p1 &&& (2147483647 : Int32)) % (Int32.ofNat nn1)) (if g = (0 : Int32) then (2 : Int32) else (1 : Int32))) [(.int (5 : Int32)), (.int ((XT.ushr p0 (1 : Int32)) &&& (7 : Int32)))])) (fun oT oK => ?_) ?_
            · skip
              refine XS.iload X1.here hx rfl (hb hby at_199) rfl  ?_
              show Steps p.tables e below (T1.setTop (mkF m 201 (own_L18 p0 p1 p2 g ((XT.ushr p0 (1 : Int32)) &&& (7 : Int32)) cx r1 (Int32.ofNat nn1) ((p1 &&& (2147483647 : Int32)) % (Int32.ofNat nn1)) (if g = (0 : Int32) then (2 : Int32) else (1 : Int32))) [(.int ((XT.ushr p0 (1 : Int32)) &&& (7 : Int32)))])) _
              refine XS.iconst X1.here hx rfl (hb hby at_201) ?_
              exact oK
            by_cases hc202_12 : ((XT.ushr p0 (1 : Int32)) &&& (7 : Int32)) = (5 : Int32)
            · refine OGV.of (fun oT oK => XS.icmpNo X1.here hx rfl (hb hby at_202) rfl (XT.ii_ne_f hc202_12) oK) ?_
              show OGV _ _ _ _ _ _ _ (T1.setTop (mkF m 205 (own_L18 p0 p1 p2 g ((XT.ushr p0 (1 : Int32)) &&& (7 : Int32)) cx r1 (Int32.ofNat nn1) ((p1 &&& (2147483647 : Int32)) % (Int32.ofNat nn1)) (if g = (0 : Int32) then (2 : Int32) else (1 : Int32))) []))
              exact own_leg5 p0 p1 p2 g cx r1 cs1 nn1 kr1 wG wR uG uR wE zc X1 hx hZ hw hby hml hown hlk Bd.returns rfl N1 Z1 (f3) (hst) (hcx) (gn_r1) (fA1) (hl1) (hp1) (h111) (hch1) (hex1) (hS) ((Nat.le_trans hkS (K1).1)) ((hCR.trans (CHr.keep (K1) sf0 hCR.1)))
            · refine OGV.of (fun oT oK => XS.icmpYes X1.here hx rfl (pc0 := 202) (pc' := 223) rfl (hb hby at_202) rfl (XT.ii_ne_t hc202_12) (by decide) (by decide) oK) ?_
              show OGV _ _ _ _ _ _ _ (T1.setTop (mkF m 223 (own_L18 p0 p1 p2 g ((XT.ushr p0 (1 : Int32)) &&& (7 : Int32)) cx r1 (Int32.ofNat nn1) ((p1 &&& (2147483647 : Int32)) % (Int32.ofNat nn1)) (if g = (0 : Int32) then (2 : Int32) else (1 : Int32))) []))
              refine OGV.of (A := T1.setTop (mkF m 227 (own_L18 p0 p1 p2 g ((XT.ushr p0 (1 : Int32)) &&& (7 : Int32)) cx r1 (Int32.ofNat nn1) ((p1 &&& (2147483647 : Int32)) % (Int32.ofNat nn1)) (if g = (0 : Int32) then (2 : Int32) else (1 : Int32))) [(.int (6 : Int32)), (.int ((XT.ushr p0 (1 : Int32)) &&& (7 : Int32)))])) (fun oT oK => ?_) ?_
              · skip
                refine XS.iload X1.here hx rfl (hb hby at_223) rfl  ?_
                show Steps p.tables e below (T1.setTop (mkF m 225 (own_L18 p0 p1 p2 g ((XT.ushr p0 (1 : Int32)) &&& (7 : Int32)) cx r1 (Int32.ofNat nn1) ((p1 &&& (2147483647 : Int32)) % (Int32.ofNat nn1)) (if g = (0 : Int32) then (2 : Int32) else (1 : Int32))) [(.int ((XT.ushr p0 (1 : Int32)) &&& (7 : Int32)))])) _
                refine XS.bipush X1.here hx rfl (hb hby at_225) ?_
                exact oK
              by_cases hc227_13 : ((XT.ushr p0 (1 : Int32)) &&& (7 : Int32)) = (6 : Int32)
              · refine OGV.of (fun oT oK => XS.icmpNo X1.here hx rfl (hb hby at_227) rfl (XT.ii_ne_f hc227_13) oK) ?_
                show OGV _ _ _ _ _ _ _ (T1.setTop (mkF m 230 (own_L18 p0 p1 p2 g ((XT.ushr p0 (1 : Int32)) &&& (7 : Int32)) cx r1 (Int32.ofNat nn1) ((p1 &&& (2147483647 : Int32)) % (Int32.ofNat nn1)) (if g = (0 : Int32) then (2 : Int32) else (1 : Int32))) []))
                exact own_leg6 p0 p1 p2 g cx r1 cs1 nn1 kr1 wG wR uG uR wE zc X1 hx hZ hw hby hml hown hlk Bd.returns rfl N1 Z1 (f3) (hst) (hcx) (gn_r1) (fA1) (hl1) (hp1) (h111) (hch1) (hex1)
              · refine OGV.of (fun oT oK => XS.icmpYes X1.here hx rfl (pc0 := 227) (pc' := 243) rfl (hb hby at_227) rfl (XT.ii_ne_t hc227_13) (by decide) (by decide) oK) ?_
                show OGV _ _ _ _ _ _ _ (T1.setTop (mkF m 243 (own_L18 p0 p1 p2 g ((XT.ushr p0 (1 : Int32)) &&& (7 : Int32)) cx r1 (Int32.ofNat nn1) ((p1 &&& (2147483647 : Int32)) % (Int32.ofNat nn1)) (if g = (0 : Int32) then (2 : Int32) else (1 : Int32))) []))
                exact own_leg7 p0 p1 p2 g cx r1 cs1 nn1 kr1 wG wR uG uR wE zc X1 hx hZ hw hby hml hown hlk Bd.returns rfl N1 Z1 (f3) (hst) (hcx) (gn_r1) (fA1) (hl1) (hp1) (h111) (hch1) (hex1)
set_option maxRecDepth 65536 in
set_option maxHeartbeats 40000000 in
theorem comes_1 {Post : Tables → Env → Array Value → State → Outcome → State → Prop} (hpost : ∀ tb e args s v u, (limb_1_1.after args s (.returned v) u = true ∧ limb_1_2.after args s (.returned v) u = true ∧ True) → ReturnedEndW s (.returned v) u (Jvm.fieldLocs frame_1_writes args s ++ Jvm.arrayLocs frame_1_arrays args s ++ Jvm.staticLocs frame_1_statics s) 24 1216 → Post tb e args s (.returned v) u) :
    ArmFor flags0 classFile x code maxLocals ret World_1 tables_1 room_1 Calls_1 rest_1 Pre_1 Post := by
  intro l hfl _ _ p e ha hc hk s m args below hf hA hF happ hP
  obtain ⟨hcalls, hrest, hpre⟩ := hP
  obtain ⟨-, -, -, hnamed, -, -, -, hat⟩ := (Spec.applies_iff hf).mp happ
  obtain ⟨hg, hn⟩ := and_e (Cond.before_iff.mp (show (Jvm.Cond.and given_1 narrow_1).before args s = true from hpre))
  obtain ⟨g1, g2⟩ := and_e hg
  obtain ⟨g3, g4⟩ := and_e g2
  obtain ⟨g5, g6⟩ := and_e g4
  obtain ⟨w0, w1, w2, rfl⟩ : ∃ w0 w1 w2 : Value, args = #[w0, w1, w2] := by
    have hs : args.size = 3 := by simpa [Cond.value, given_1] using g1
    obtain ⟨L⟩ := args
    match L, hs with
    | [w0, w1, w2], _ => exact ⟨w0, w1, w2, rfl⟩
  have hw := fun d (hd : d ∈ tables_1) => atoms_spec (ws := Jvm.Cond.code x code maxLocals ret :: tables_1) hat d (List.mem_cons_of_mem _ hd)
  have hfit : Fit s := fun {y c} hc i hi => by
    obtain ⟨ha, rfl⟩ := Array.getElem?_eq_some_iff.mp hc
    have q := List.all_eq_true.mp ((Array.all_eq_true_iff_forall_mem.mp hF) _ (Array.getElem_mem ha)) i (List.mem_range.mpr hi)
    simpa [Array.getElem?_eq_getElem hi] using q
  obtain ⟨hsets, hown0⟩ := atoms_of _ (rest_1_c_eq ▸ (show rest_1_c.before _ s = true from hrest))
  have hr0 := Cond.before_iff.mp hown0
  obtain ⟨i0, ei0⟩ := is_v g3
  obtain rfl : w0 = (.int i0) := Option.some.inj ei0
  obtain ⟨i1, ei1⟩ := is_v g5
  obtain rfl : w1 = (.int i1) := Option.some.inj ei1
  obtain ⟨i2, ei2⟩ := is_v g6
  obtain rfl : w2 = (.int i2) := Option.some.inj ei2
  obtain ⟨na1, na2⟩ := and_e hn
  obtain ⟨na3, na4⟩ := and_e na2
  obtain ⟨na5, na6⟩ := and_e na4
  obtain ⟨na7, na8⟩ := and_e na6
  obtain ⟨na9, na10⟩ := and_e na8
  obtain ⟨na11, na12⟩ := and_e na10
  obtain ⟨na13, na14⟩ := and_e na12
  obtain ⟨na15, na16⟩ := and_e na14
  obtain ⟨na17, na18⟩ := and_e na16
  obtain ⟨na19, na20⟩ := and_e na18
  obtain ⟨na21, na22⟩ := and_e na20
  obtain ⟨na23, na24⟩ := and_e na22
  obtain ⟨na25, na26⟩ := and_e na24
  obtain ⟨na27, na28⟩ := and_e na26
  obtain ⟨na29, na30⟩ := and_e na28
  obtain ⟨na31, na32⟩ := and_e na30
  obtain ⟨na33, na34⟩ := and_e na32
  obtain ⟨na35, na36⟩ := and_e na34
  obtain ⟨na37, na38⟩ := and_e na36
  obtain ⟨na39, na40⟩ := and_e na38
  obtain ⟨na41, na42⟩ := and_e na40
  obtain ⟨na43, na44⟩ := and_e na42
  obtain ⟨na45, na46⟩ := and_e na44
  obtain ⟨na47, na48⟩ := and_e na46
  obtain ⟨na49, na50⟩ := and_e na48
  obtain ⟨na51, na52⟩ := and_e na50
  obtain ⟨wG, evG⟩ := exa_v na1
  have SG := Sta.start evG (Or.inr ⟨(own_at hw 37 rfl), (own_at hw 45 rfl)⟩)
  have EG := Exa.start evG na1
  obtain ⟨uG, euG⟩ := exa_v na3
  have EUG := Exa.start euG na3
  have fuG := euG
  rw [fld_at evG] at fuG
  have FGu := Fld.start fuG
  have fgG := null_v na11
  rw [fld_at evG] at fgG
  have FGg := Fld.start fgG
  have fcG := own_eqI na5
  rw [fld_at euG] at fcG
  have FCG := Fld.start fcG
  obtain ⟨tG, etG⟩ := arr_v na7
  have fvG := etG
  rw [fld_at euG] at fvG
  have FVG := Fld.start fvG
  have TG : OTx s s.heap uG OGL := own_txt hfit EUG FVG FCG etG na7 (own_eqI na9) (by decide) (by decide) (by decide) (by decide) ⟨own_eqI na25, own_eqI na27, own_eqI na29, own_eqI na31, own_eqI na33, trivial⟩
  obtain ⟨wR, evR⟩ := exa_v na13
  have SR := Sta.start evR (Or.inr ⟨(own_at hw 37 rfl), (own_at hw 99 rfl)⟩)
  have ER := Exa.start evR na13
  obtain ⟨uR, euR⟩ := exa_v na15
  have EUR := Exa.start euR na15
  have fuR := euR
  rw [fld_at evR] at fuR
  have FRu := Fld.start fuR
  have fgR := null_v na23
  rw [fld_at evR] at fgR
  have FRg := Fld.start fgR
  have fcR := own_eqI na17
  rw [fld_at euR] at fcR
  have FCR := Fld.start fcR
  obtain ⟨tR, etR⟩ := arr_v na19
  have fvR := etR
  rw [fld_at euR] at fvR
  have FVR := Fld.start fvR
  have TR : OTx s s.heap uR ORL := own_txt hfit EUR FVR FCR etR na19 (own_eqI na21) (by decide) (by decide) (by decide) (by decide) ⟨own_eqI na35, own_eqI na37, own_eqI na39, own_eqI na41, own_eqI na43, own_eqI na45, own_eqI na47, own_eqI na49, own_eqI na51, own_eqI na52, trivial⟩
  obtain ⟨zc, evc⟩ := is_v (Cond.before_iff.mp (hsets _ (List.mem_of_getElem? (i := 1) rfl)))
  have SC := Sta.start evc (Or.inl (hsets _ (List.mem_of_getElem? (i := 0) rfl)))
  have hzc : ¬ zc = (0 : Int32) := fun q => by
    have h9 := not_v (Cond.before_iff.mp (hsets _ (List.mem_of_getElem? (i := 2) rfl)))
    have h8 := eq_i (args := #[.int i0, .int i1, .int i2]) (first := s) (o := none) (idx := []) (s := s) evc (Term.int_eval (0 : Int32)) (congrArg Value.int q)
    rw [h8] at h9; cases h9
  have hE1 := Cond.before_iff.mp (hsets _ (List.mem_of_getElem? (i := 11) rfl))
  obtain ⟨wE, evE⟩ := exa_v hE1
  have SE := Sta.start evE (Or.inl (hsets _ (List.mem_of_getElem? (i := 10) rfl)))
  have EE := Exa.start evE hE1
  have fE := null_v (Cond.before_iff.mp (hsets _ (List.mem_of_getElem? (i := 12) rfl)))
  rw [fld_at evE] at fE
  have FE := Fld.start fE
  have hst : OSt s wG wR uG uR wE zc := ⟨SG, SR, SE, SC, hzc, EG, ER, FGu, FRu, FGg, FRg, TG, TR, EE, FE⟩
  have hCV : CHv s OEL s.vm s.heap := CHv.start (own_EW hw) hcalls.1 (hsets _ (List.mem_of_getElem? (i := 2) rfl)) (own_at hw 24 rfl) (own_at hw 7 rfl)
  obtain ⟨n, o, h1, h2, h3, _, L, rfl, ⟨rfl, N⟩, hq⟩ := rm0 l s _ hw tables_1 i0 i1 i2 wG wR uG uR wE zc s.heap s.heap.size (Nat.le_refl _) (Old.start s) hst p e ha hc hk s m _ below hf ((Spec.applies_iff_loose hf).mp happ).1 ⟨rfl, State.Warmed39.refl s, rfl, hCV⟩ trivial
  refine ⟨n, _, h1, h2, h3, hpost _ _ _ _ _ _ ⟨Cond.after_iff.mpr rfl, Cond.after_iff.mpr (eq_i res_at (Term.int_eval (1)) rfl), trivial⟩ ⟨hq.1, hq.2.1, hq.2.2.1, (hq.2.2.2.sift fun y hy => Or.inr (N y hy)).mono (by decide) (by decide)⟩⟩
theorem main_1_1 : Claimed_1_1 := comes_1 fun _ _ _ _ _ _ h hF => ⟨h.1, hF⟩
theorem main_1_2 : Claimed_1_2 := comes_1 fun _ _ _ _ _ _ h hF => ⟨h.2.1, hF⟩
end Jvm.Pilot.@@N@@
namespace Jvm.Pilot.@@N@@
open Jvm Jvm.ClassFile Sem Op Lib Jvm.Free Jvm.Stand Jvm.Pilot.@@N@@.Jvm.D
/-! MADE BY PROGRAM (witnessworld.py) out of the Statement's table words and the real class files: 22 classes; the members and pool entries that the words name. The judged class is class 1, her method 5. -/
namespace start1
open Jvm.ClassFile
def u (s : String) : CpInfo := .utf8 (stringToUtf16 s)
/-- a pool by its gaps: so many unusable entries, then the entry; so many at the end -/
def gap : Nat → List CpInfo → List CpInfo
  | 0, r => r
  | n + 1, r => .unusable :: gap n r
def poolList (es : List (Nat × CpInfo)) (last : Nat) : List CpInfo := es.foldr (fun e r => gap e.1 (e.2 :: r)) (gap last [])
def pool (es : List (Nat × CpInfo)) (last : Nat) : Array CpInfo := ⟨poolList es last⟩
def fileOf (pool : Array CpInfo) (this : Nat) (attrs : Array Attribute := #[]) (ms : Array MethodInfo := #[]) (fl : Nat := 33) (sup : Nat := 0) (ifs : Array Nat := #[]) (fds : Array FieldInfo := #[]) : ClassFile where
  minorVersion := 0
  majorVersion := 65
  constantPool := pool
  accessFlags := fl
  thisClass := this
  superClass := sup
  interfaces := ifs
  fields := fds
  methods := ms
  attributes := attrs
def plain (name : String) (sup : Option ClassId) : Class where
  name := name
  kind := .ordinary
  loader := none
  accessFlags := 33
  super := sup
  interfaces := #[]
  cf := none
  fields := #[]
  methods := #[]
  instanceTypes := #[]
  staticTypes := #[]
  resolved := #[]
  callSites := []
  init := .initialized
  statics := none
  mirror := none

def pool0 : Array CpInfo := pool [(5, u "<init>"), (0, u "()V"), (1, .class_ 10), (1, u "java/lang/Object")] 113

def k0c0 : Code := { maxStack := 0, maxLocals := 1, code := object_method_1_code, exceptionTable := #[], attributes := #[] }
def k0m0 : Method := { name := "<init>", desc := "()V", sig := { parameters := [], returnType := none }, accessFlags := 1, code := some k0c0 }
/-- java/lang/Object -/
def k0 : Class := { plain "java/lang/Object" none with
  accessFlags := 33
  interfaces := #[]
  cf := some (fileOf pool0 8 #[] #[{ accessFlags := 1, nameIndex := 5, descriptorIndex := 6, attributes := #[] }] 33 0 #[] #[])
  fields := #[]
  methods := #[k0m0]
  instanceTypes := #[]
  staticTypes := #[]
  resolved := Array.replicate 124 none
  statics := none }

def pool1 : Array CpInfo := pool [(2, .class_ 4), (1, u "java/lang/Object"), (0, u "<init>"), (0, u "()V"), (0, .methodref 8 9), (0, .class_ 10), (0, .nameAndType 11 12), (0, u "com/example/vett/vett/GranteeUserTypePinLaw"), (0, u "base"), (0, u "(Z)[C"), (0, .integer 2147483647), (0, .class_ 15), (0, u "java/lang/String"), (0, .methodref 14 17), (0, .nameAndType 5 18), (0, u "([C)V"), (0, .methodref 8 20), (0, .nameAndType 21 22), (0, u "appended"), (0, u "(ZC)[C"), (0, .methodref 8 24), (0, .nameAndType 25 12), (0, u "dropLast"), (0, .methodref 8 27), (0, .nameAndType 28 12), (0, u "dropFirst"), (0, .methodref 14 30), (0, .nameAndType 31 32), (0, u "valueOf"), (0, u "(C)Ljava/lang/String;"), (0, .methodref 34 35), (0, .class_ 36), (0, .nameAndType 37 38), (0, u "com/example/vett/vett/Grantee"), (0, u "userType"), (0, u "(Ljava/lang/String;)Ljava/util/Optional;"), (0, .methodref 40 41), (0, .class_ 42), (0, .nameAndType 43 44), (0, u "java/util/Optional"), (0, u "isPresent"), (0, u "()Z"), (0, .fieldref 34 46), (0, .nameAndType 47 48), (0, u "GUEST"), (0, u "Lcom/example/vett/vett/Grantee;"), (0, .fieldref 34 50), (0, .nameAndType 51 48), (0, u "REGISTERED"), (0, .methodref 40 53), (0, .nameAndType 54 55), (0, u "get"), (0, u "()Ljava/lang/Object;"), (0, .methodref 34 57), (0, .nameAndType 58 59), (0, u "equals"), (0, u "(Ljava/lang/Object;)Z"), (3, u "law"), (0, u "(III)Z")] 4

def k1m0 : Method := { name := "<init>", desc := "()V", sig := { parameters := [], returnType := none }, accessFlags := 1, code := none }
def k1c1 : Code := { maxStack := 4, maxLocals := 1, code := method_2_code, exceptionTable := #[], attributes := #[] }
def k1m1 : Method := { name := "base", desc := "(Z)[C", sig := { parameters := [.boolean], returnType := some (.array .char) }, accessFlags := 10, code := some k1c1 }
def k1c2 : Code := { maxStack := 4, maxLocals := 2, code := method_3_code, exceptionTable := #[], attributes := #[] }
def k1m2 : Method := { name := "appended", desc := "(ZC)[C", sig := { parameters := [.boolean, .char], returnType := some (.array .char) }, accessFlags := 10, code := some k1c2 }
def k1c3 : Code := { maxStack := 4, maxLocals := 1, code := method_4_code, exceptionTable := #[], attributes := #[] }
def k1m3 : Method := { name := "dropLast", desc := "(Z)[C", sig := { parameters := [.boolean], returnType := some (.array .char) }, accessFlags := 10, code := some k1c3 }
def k1c4 : Code := { maxStack := 4, maxLocals := 1, code := method_5_code, exceptionTable := #[], attributes := #[] }
def k1m4 : Method := { name := "dropFirst", desc := "(Z)[C", sig := { parameters := [.boolean], returnType := some (.array .char) }, accessFlags := 10, code := some k1c4 }
def k1c5 : Code := { maxStack := 6, maxLocals := 16, code := code, exceptionTable := #[], attributes := #[] }
def k1m5 : Method := { name := "law", desc := "(III)Z", sig := { parameters := [.int, .int, .int], returnType := some .boolean }, accessFlags := 9, code := some k1c5 }
/-- com/example/vett/vett/GranteeUserTypePinLaw -/
def k1 : Class := { plain "com/example/vett/vett/GranteeUserTypePinLaw" (some 0) with
  accessFlags := 49
  interfaces := #[]
  cf := some (fileOf pool1 8 #[] #[{ accessFlags := 1, nameIndex := 5, descriptorIndex := 6, attributes := #[] }, { accessFlags := 10, nameIndex := 11, descriptorIndex := 12, attributes := #[] }, { accessFlags := 10, nameIndex := 21, descriptorIndex := 22, attributes := #[] }, { accessFlags := 10, nameIndex := 25, descriptorIndex := 12, attributes := #[] }, { accessFlags := 10, nameIndex := 28, descriptorIndex := 12, attributes := #[] }, { accessFlags := 9, nameIndex := 63, descriptorIndex := 64, attributes := #[] }] 49 2 #[] #[])
  fields := #[]
  methods := #[k1m0, k1m1, k1m2, k1m3, k1m4, k1m5]
  instanceTypes := #[]
  staticTypes := #[]
  resolved := Array.replicate 69 none
  statics := none }

def pool2 : Array CpInfo := pool [(1, .class_ 2), (0, u "java/io/Serializable"), (0, .class_ 4), (0, u "java/lang/Object")] 2

/-- java/io/Serializable -/
def k2 : Class := { plain "java/io/Serializable" (some 0) with
  accessFlags := 1537
  interfaces := #[]
  cf := some (fileOf pool2 1 #[] #[] 1537 3 #[] #[])
  fields := #[]
  methods := #[]
  instanceTypes := #[]
  staticTypes := #[]
  resolved := Array.replicate 7 none
  statics := none }

def pool3 : Array CpInfo := pool [(1, .class_ 2), (0, u "java/lang/Comparable"), (0, .class_ 4), (0, u "java/lang/Object")] 7

/-- java/lang/Comparable -/
def k3 : Class := { plain "java/lang/Comparable" (some 0) with
  accessFlags := 1537
  interfaces := #[]
  cf := some (fileOf pool3 1 #[] #[] 1537 3 #[] #[])
  fields := #[]
  methods := #[]
  instanceTypes := #[]
  staticTypes := #[]
  resolved := Array.replicate 12 none
  statics := none }

def pool4 : Array CpInfo := pool [(2, .class_ 4), (1, u "java/lang/CharSequence"), (42, .class_ 48), (0, u "java/lang/CharSequence$1CodePointIterator"), (10, .class_ 60), (0, u "java/lang/CharSequence$1CharIterator"), (5, .class_ 67), (0, u "java/lang/Object")] 63

/-- java/lang/CharSequence -/
def k4 : Class := { plain "java/lang/CharSequence" (some 0) with
  accessFlags := 1537
  interfaces := #[]
  cf := some (fileOf pool4 2 #[.nestMembers #[47, 59]] #[] 1537 66 #[] #[])
  fields := #[]
  methods := #[]
  instanceTypes := #[]
  staticTypes := #[]
  resolved := Array.replicate 131 none
  statics := none }

def pool5 : Array CpInfo := pool [(1, .class_ 2), (0, u "java/lang/constant/Constable"), (0, .class_ 4), (0, u "java/lang/Object")] 6

/-- java/lang/constant/Constable -/
def k5 : Class := { plain "java/lang/constant/Constable" (some 0) with
  accessFlags := 1537
  interfaces := #[]
  cf := some (fileOf pool5 1 #[] #[] 1537 3 #[] #[])
  fields := #[]
  methods := #[]
  instanceTypes := #[]
  staticTypes := #[]
  resolved := Array.replicate 11 none
  statics := none }

def pool6 : Array CpInfo := pool [(1, .class_ 2), (0, u "java/lang/constant/ConstantDesc"), (0, .class_ 4), (0, u "java/lang/Object")] 32

/-- java/lang/constant/ConstantDesc -/
def k6 : Class := { plain "java/lang/constant/ConstantDesc" (some 0) with
  accessFlags := 1537
  interfaces := #[]
  cf := some (fileOf pool6 1 #[] #[] 1537 3 #[] #[])
  fields := #[]
  methods := #[]
  instanceTypes := #[]
  staticTypes := #[]
  resolved := Array.replicate 37 none
  statics := none }

def pool7 : Array CpInfo := pool [(1, .methodref 2 3), (0, .class_ 4), (0, .nameAndType 5 6), (0, u "java/lang/Object"), (0, u "<init>"), (0, u "()V"), (0, .string 8), (0, u ""), (0, .fieldref 10 11), (0, .class_ 12), (0, .nameAndType 13 14), (0, u "java/lang/String"), (0, u "value"), (0, u "[B"), (0, .fieldref 10 16), (0, .nameAndType 17 18), (0, u "coder"), (0, u "B"), (2, u "hash"), (0, u "I"), (2, u "hashIsZero"), (0, u "Z"), (0, .methodref 10 28), (0, .nameAndType 5 29), (0, u "([CIILjava/lang/Void;)V"), (8, .fieldref 10 39), (0, .nameAndType 40 26), (0, u "COMPACT_STRINGS"), (1, .class_ 44), (1, u "java/lang/StringUTF16"), (0, u "compress"), (1, .methodref 42 48), (0, .nameAndType 49 50), (0, u "coderFromArrayLen"), (0, u "([BI)B"), (2, u "toBytes"), (53, .class_ 109), (1, u "java/lang/StringLatin1"), (67, .methodref 42 178), (0, .nameAndType 45 179), (0, u "([CII)[B"), (29, .methodref 10 210), (0, .nameAndType 5 211), (0, u "([BB)V"), (157, u "(C)Z"), (171, .methodref 107 542), (0, .nameAndType 543 544), (0, u "equals"), (0, u "([B[B)Z"), (28, u "(Ljava/lang/Object;)Z"), (1, .class_ 576), (0, u "java/lang/CharSequence"), (22, u "CASE_INSENSITIVE_ORDER"), (0, u "Ljava/util/Comparator;"), (181, u "valueOf"), (0, u "(C)Ljava/lang/String;"), (226, u "([C)V"), (4, .methodref 107 1016), (0, .nameAndType 1017 369), (0, u "canEncode"), (0, .methodref 107 1019), (0, .nameAndType 53 1020), (0, u "(C)[B"), (80, u "serialPersistentFields"), (0, u "[Ljava/io/ObjectStreamField;"), (0, .class_ 1104), (0, u "java/lang/String$CaseInsensitiveComparator"), (1, .class_ 1107), (0, u "java/io/Serializable"), (0, .class_ 1109), (0, u "java/lang/Comparable"), (0, .class_ 1111), (0, u "java/lang/constant/Constable"), (0, .class_ 1113), (0, u "java/lang/constant/ConstantDesc"), (2, u "serialVersionUID"), (0, u "J"), (3, u "REPL"), (0, u "C"), (2, u "LATIN1"), (1, u "UTF16")] 323

def k7m0 : Method := { name := "<init>", desc := "()V", sig := { parameters := [], returnType := none }, accessFlags := 1, code := none }
def k7c1 : Code := { maxStack := 5, maxLocals := 2, code := jdk_42_method_3_code, exceptionTable := #[], attributes := #[] }
def k7m1 : Method := { name := "<init>", desc := "([C)V", sig := { parameters := [(.array .char)], returnType := none }, accessFlags := 1, code := some k7c1 }
def k7c2 : Code := { maxStack := 2, maxLocals := 3, code := jdk_42_method_66_code, exceptionTable := #[], attributes := #[] }
def k7m2 : Method := { name := "equals", desc := "(Ljava/lang/Object;)Z", sig := { parameters := [(.object "java/lang/Object")], returnType := some .boolean }, accessFlags := 1, code := some k7c2 }
def k7c3 : Code := { maxStack := 4, maxLocals := 1, code := jdk_42_method_139_code, exceptionTable := #[], attributes := #[] }
def k7m3 : Method := { name := "valueOf", desc := "(C)Ljava/lang/String;", sig := { parameters := [.char], returnType := some (.object "java/lang/String") }, accessFlags := 9, code := some k7c3 }
def k7c4 : Code := { maxStack := 4, maxLocals := 6, code := jdk_42_method_149_code, exceptionTable := #[], attributes := #[] }
def k7m4 : Method := { name := "<init>", desc := "([CIILjava/lang/Void;)V", sig := { parameters := [(.array .char), .int, .int, (.object "java/lang/Void")], returnType := none }, accessFlags := 2, code := some k7c4 }
def k7c5 : Code := { maxStack := 2, maxLocals := 3, code := jdk_42_method_151_code, exceptionTable := #[], attributes := #[] }
def k7m5 : Method := { name := "<init>", desc := "([BB)V", sig := { parameters := [(.array .byte), .byte], returnType := none }, accessFlags := 0, code := some k7c5 }
/-- java/lang/String -/
def k7 : Class := { plain "java/lang/String" (some 0) with
  accessFlags := 49
  interfaces := #[2, 3, 4, 5, 6]
  cf := some (fileOf pool7 10 #[.nestMembers #[1103]] #[{ accessFlags := 1, nameIndex := 5, descriptorIndex := 6, attributes := #[] }, { accessFlags := 1, nameIndex := 5, descriptorIndex := 1010, attributes := #[] }, { accessFlags := 1, nameIndex := 543, descriptorIndex := 573, attributes := #[] }, { accessFlags := 9, nameIndex := 782, descriptorIndex := 783, attributes := #[] }, { accessFlags := 2, nameIndex := 5, descriptorIndex := 29, attributes := #[] }, { accessFlags := 0, nameIndex := 5, descriptorIndex := 211, attributes := #[] }] 49 2 #[1106, 1108, 575, 1110, 1112] #[{ accessFlags := 18, nameIndex := 13, descriptorIndex := 14, attributes := #[] }, { accessFlags := 18, nameIndex := 17, descriptorIndex := 18, attributes := #[] }, { accessFlags := 2, nameIndex := 21, descriptorIndex := 22, attributes := #[] }, { accessFlags := 2, nameIndex := 25, descriptorIndex := 26, attributes := #[] }, { accessFlags := 26, nameIndex := 1116, descriptorIndex := 1117, attributes := #[] }, { accessFlags := 24, nameIndex := 40, descriptorIndex := 26, attributes := #[] }, { accessFlags := 26, nameIndex := 1101, descriptorIndex := 1102, attributes := #[] }, { accessFlags := 26, nameIndex := 1121, descriptorIndex := 1122, attributes := #[] }, { accessFlags := 25, nameIndex := 599, descriptorIndex := 600, attributes := #[] }, { accessFlags := 24, nameIndex := 1125, descriptorIndex := 18, attributes := #[] }, { accessFlags := 24, nameIndex := 1127, descriptorIndex := 18, attributes := #[] }])
  fields := #[{ name := "value", type := (.array .byte), accessFlags := 18, slot := 0, constantValue := 0 }, { name := "coder", type := .byte, accessFlags := 18, slot := 1, constantValue := 0 }, { name := "hash", type := .int, accessFlags := 2, slot := 2, constantValue := 0 }, { name := "hashIsZero", type := .boolean, accessFlags := 2, slot := 3, constantValue := 0 }, { name := "serialVersionUID", type := .long, accessFlags := 26, slot := 0, constantValue := 0 }, { name := "COMPACT_STRINGS", type := .boolean, accessFlags := 24, slot := 1, constantValue := 0 }, { name := "serialPersistentFields", type := (.array (.object "java/io/ObjectStreamField")), accessFlags := 26, slot := 2, constantValue := 0 }, { name := "REPL", type := .char, accessFlags := 26, slot := 3, constantValue := 0 }, { name := "CASE_INSENSITIVE_ORDER", type := (.object "java/util/Comparator"), accessFlags := 25, slot := 4, constantValue := 0 }, { name := "LATIN1", type := .byte, accessFlags := 24, slot := 5, constantValue := 0 }, { name := "UTF16", type := .byte, accessFlags := 24, slot := 6, constantValue := 0 }]
  methods := #[k7m0, k7m1, k7m2, k7m3, k7m4, k7m5]
  instanceTypes := #[(.array .byte), .byte, .int, .boolean]
  staticTypes := #[.long, .boolean, (.array (.object "java/io/ObjectStreamField")), .char, (.object "java/util/Comparator"), .byte, .byte]
  resolved := Array.replicate 1451 none
  statics := some 0 }

def pool8 : Array CpInfo := pool [(6, .class_ 8), (1, u "java/lang/Object"), (0, u "<init>"), (0, u "()V"), (1, .class_ 14), (1, u "java/lang/StringUTF16"), (31, u "$assertionsDisabled"), (0, u "Z"), (13, u "HI_BYTE_SHIFT"), (0, u "I"), (2, u "LO_BYTE_SHIFT"), (49, .methodref 12 116), (0, .nameAndType 117 118), (0, u "compress"), (0, u "([CI[BII)I"), (3, u "([CII)[B"), (138, u "coderFromArrayLen"), (0, u "([BI)B"), (106, .class_ 371), (1, u "java/lang/StringUTF16$LinesSpliterator"), (58, u "MAX_LENGTH"), (196, .class_ 628), (0, u "java/lang/StringUTF16$CodePointsSpliterator"), (0, .class_ 630), (0, u "java/lang/StringUTF16$CharsSpliterator")] 4

def k8m0 : Method := { name := "<init>", desc := "()V", sig := { parameters := [], returnType := none }, accessFlags := 0, code := none }
def k8c1 : Code := { maxStack := 2, maxLocals := 2, code := jdk_52_method_15_code, exceptionTable := #[], attributes := #[] }
def k8m1 : Method := { name := "coderFromArrayLen", desc := "([BI)B", sig := { parameters := [(.array .byte), .int], returnType := some .byte }, accessFlags := 8, code := some k8c1 }
def k8c2 : Code := { maxStack := 5, maxLocals := 6, code := jdk_52_method_16_code, exceptionTable := #[], attributes := #[] }
def k8m2 : Method := { name := "compress", desc := "([CII)[B", sig := { parameters := [(.array .char), .int, .int], returnType := some (.array .byte) }, accessFlags := 9, code := some k8c2 }
def k8c3 : Code := { maxStack := 3, maxLocals := 7, code := jdk_52_method_21_code, exceptionTable := #[], attributes := #[] }
def k8m3 : Method := { name := "compress", desc := "([CI[BII)I", sig := { parameters := [(.array .char), .int, (.array .byte), .int, .int], returnType := some .int }, accessFlags := 9, code := some k8c3 }
/-- java/lang/StringUTF16 -/
def k8 : Class := { plain "java/lang/StringUTF16" (some 0) with
  accessFlags := 48
  interfaces := #[]
  cf := some (fileOf pool8 12 #[.nestMembers #[627, 629, 369]] #[{ accessFlags := 0, nameIndex := 9, descriptorIndex := 10, attributes := #[] }, { accessFlags := 8, nameIndex := 261, descriptorIndex := 262, attributes := #[] }, { accessFlags := 9, nameIndex := 117, descriptorIndex := 122, attributes := #[] }, { accessFlags := 9, nameIndex := 117, descriptorIndex := 118, attributes := #[] }] 48 6 #[] #[{ accessFlags := 26, nameIndex := 61, descriptorIndex := 62, attributes := #[] }, { accessFlags := 26, nameIndex := 65, descriptorIndex := 62, attributes := #[] }, { accessFlags := 24, nameIndex := 430, descriptorIndex := 62, attributes := #[] }, { accessFlags := 4120, nameIndex := 46, descriptorIndex := 47, attributes := #[] }])
  fields := #[{ name := "HI_BYTE_SHIFT", type := .int, accessFlags := 26, slot := 0, constantValue := 0 }, { name := "LO_BYTE_SHIFT", type := .int, accessFlags := 26, slot := 1, constantValue := 0 }, { name := "MAX_LENGTH", type := .int, accessFlags := 24, slot := 2, constantValue := 0 }, { name := "$assertionsDisabled", type := .boolean, accessFlags := 4120, slot := 3, constantValue := 0 }]
  methods := #[k8m0, k8m1, k8m2, k8m3]
  instanceTypes := #[]
  staticTypes := #[.int, .int, .int, .boolean]
  resolved := Array.replicate 635 none
  statics := none }

def pool9 : Array CpInfo := pool [(2, .class_ 4), (1, u "java/lang/Object"), (2, .fieldref 8 9), (0, .class_ 10), (0, .nameAndType 11 12), (0, u "com/example/vett/vett/Grantee"), (0, u "userType"), (0, u "Ljava/lang/String;"), (0, .fieldref 8 14), (0, .nameAndType 15 16), (0, u "groupId"), (0, u "Lcom/example/vett/vett/ConceptId;"), (0, .methodref 18 19), (0, .class_ 20), (0, .nameAndType 21 22), (0, u "java/util/Optional"), (0, u "empty"), (0, u "()Ljava/util/Optional;"), (0, .fieldref 8 24), (0, .nameAndType 25 26), (0, u "GUEST"), (0, u "Lcom/example/vett/vett/Grantee;"), (0, .methodref 28 29), (0, .class_ 30), (0, .nameAndType 31 32), (0, u "java/lang/String"), (0, u "equals"), (0, u "(Ljava/lang/Object;)Z"), (0, .methodref 18 34), (0, .nameAndType 35 36), (0, u "of"), (0, u "(Ljava/lang/Object;)Ljava/util/Optional;"), (0, .fieldref 8 38), (0, .nameAndType 39 26), (0, u "REGISTERED"), (16, .methodref 57 58), (0, .class_ 59), (0, .nameAndType 31 60), (0, u "java/util/Objects"), (0, u "(Ljava/lang/Object;Ljava/lang/Object;)Z"), (13, u "(Ljava/lang/String;)Ljava/util/Optional;")] 11

def k9c0 : Code := { maxStack := 2, maxLocals := 2, code := prog_4_method_2_code, exceptionTable := #[], attributes := #[] }
def k9m0 : Method := { name := "userType", desc := "(Ljava/lang/String;)Ljava/util/Optional;", sig := { parameters := [(.object "java/lang/String")], returnType := some (.object "java/util/Optional") }, accessFlags := 8, code := some k9c0 }
def k9c1 : Code := { maxStack := 2, maxLocals := 3, code := prog_4_method_6_code, exceptionTable := #[], attributes := #[] }
def k9m1 : Method := { name := "equals", desc := "(Ljava/lang/Object;)Z", sig := { parameters := [(.object "java/lang/Object")], returnType := some .boolean }, accessFlags := 1, code := some k9c1 }
/-- com/example/vett/vett/Grantee -/
def k9 : Class := { plain "com/example/vett/vett/Grantee" (some 0) with
  accessFlags := 48
  interfaces := #[]
  cf := some (fileOf pool9 8 #[] #[{ accessFlags := 8, nameIndex := 11, descriptorIndex := 74, attributes := #[] }, { accessFlags := 1, nameIndex := 31, descriptorIndex := 32, attributes := #[] }] 48 2 #[] #[{ accessFlags := 24, nameIndex := 25, descriptorIndex := 26, attributes := #[] }, { accessFlags := 24, nameIndex := 39, descriptorIndex := 26, attributes := #[] }, { accessFlags := 18, nameIndex := 11, descriptorIndex := 12, attributes := #[] }, { accessFlags := 18, nameIndex := 15, descriptorIndex := 16, attributes := #[] }])
  fields := #[{ name := "GUEST", type := (.object "com/example/vett/vett/Grantee"), accessFlags := 24, slot := 0, constantValue := 0 }, { name := "REGISTERED", type := (.object "com/example/vett/vett/Grantee"), accessFlags := 24, slot := 1, constantValue := 0 }, { name := "userType", type := (.object "java/lang/String"), accessFlags := 18, slot := 0, constantValue := 0 }, { name := "groupId", type := (.object "com/example/vett/vett/ConceptId"), accessFlags := 18, slot := 1, constantValue := 0 }]
  methods := #[k9m0, k9m1]
  instanceTypes := #[(.object "java/lang/String"), (.object "com/example/vett/vett/ConceptId")]
  staticTypes := #[(.object "com/example/vett/vett/Grantee"), (.object "com/example/vett/vett/Grantee")]
  resolved := Array.replicate 86 none
  statics := some 1 }

def pool10 : Array CpInfo := pool [(1, .fieldref 2 3), (0, .class_ 4), (0, .nameAndType 5 6), (0, u "java/util/Optional"), (0, u "EMPTY"), (0, u "Ljava/util/Optional;"), (0, .methodref 8 9), (0, .class_ 10), (0, .nameAndType 11 12), (0, u "java/lang/Object"), (0, u "<init>"), (0, u "()V"), (0, .fieldref 2 14), (0, .nameAndType 15 16), (0, u "value"), (0, u "Ljava/lang/Object;"), (0, .methodref 18 19), (0, .class_ 20), (0, .nameAndType 21 22), (0, u "java/util/Objects"), (0, u "requireNonNull"), (0, u "(Ljava/lang/Object;)Ljava/lang/Object;"), (0, .methodref 2 24), (0, .nameAndType 11 25), (0, u "(Ljava/lang/Object;)V"), (20, u "()Z"), (8, u "empty"), (0, u "()Ljava/util/Optional;"), (8, u "(Ljava/lang/Object;)Ljava/util/Optional;"), (2, u "isPresent"), (4, u "get"), (0, u "()Ljava/lang/Object;"), (7, u "of")] 104

def k10c0 : Code := { maxStack := 1, maxLocals := 1, code := jdk_32_method_1_code, exceptionTable := #[], attributes := #[] }
def k10m0 : Method := { name := "empty", desc := "()Ljava/util/Optional;", sig := { parameters := [], returnType := some (.object "java/util/Optional") }, accessFlags := 9, code := some k10c0 }
def k10c1 : Code := { maxStack := 2, maxLocals := 2, code := jdk_32_method_2_code, exceptionTable := #[], attributes := #[] }
def k10m1 : Method := { name := "<init>", desc := "(Ljava/lang/Object;)V", sig := { parameters := [(.object "java/lang/Object")], returnType := none }, accessFlags := 2, code := some k10c1 }
def k10c2 : Code := { maxStack := 3, maxLocals := 1, code := jdk_32_method_3_code, exceptionTable := #[], attributes := #[] }
def k10m2 : Method := { name := "of", desc := "(Ljava/lang/Object;)Ljava/util/Optional;", sig := { parameters := [(.object "java/lang/Object")], returnType := some (.object "java/util/Optional") }, accessFlags := 9, code := some k10c2 }
def k10c3 : Code := { maxStack := 3, maxLocals := 1, code := jdk_32_method_5_code, exceptionTable := #[], attributes := #[] }
def k10m3 : Method := { name := "get", desc := "()Ljava/lang/Object;", sig := { parameters := [], returnType := some (.object "java/lang/Object") }, accessFlags := 1, code := some k10c3 }
def k10c4 : Code := { maxStack := 1, maxLocals := 1, code := jdk_32_method_6_code, exceptionTable := #[], attributes := #[] }
def k10m4 : Method := { name := "isPresent", desc := "()Z", sig := { parameters := [], returnType := some .boolean }, accessFlags := 1, code := some k10c4 }
/-- java/util/Optional -/
def k10 : Class := { plain "java/util/Optional" (some 0) with
  accessFlags := 49
  interfaces := #[]
  cf := some (fileOf pool10 2 #[] #[{ accessFlags := 9, nameIndex := 55, descriptorIndex := 56, attributes := #[] }, { accessFlags := 2, nameIndex := 11, descriptorIndex := 25, attributes := #[] }, { accessFlags := 9, nameIndex := 82, descriptorIndex := 65, attributes := #[] }, { accessFlags := 1, nameIndex := 73, descriptorIndex := 74, attributes := #[] }, { accessFlags := 1, nameIndex := 68, descriptorIndex := 46, attributes := #[] }] 49 8 #[] #[{ accessFlags := 26, nameIndex := 5, descriptorIndex := 6, attributes := #[] }, { accessFlags := 18, nameIndex := 15, descriptorIndex := 16, attributes := #[] }])
  fields := #[{ name := "EMPTY", type := (.object "java/util/Optional"), accessFlags := 26, slot := 0, constantValue := 0 }, { name := "value", type := (.object "java/lang/Object"), accessFlags := 18, slot := 0, constantValue := 0 }]
  methods := #[k10m0, k10m1, k10m2, k10m3, k10m4]
  instanceTypes := #[(.object "java/lang/Object")]
  staticTypes := #[(.object "java/util/Optional")]
  resolved := Array.replicate 187 none
  statics := some 2 }

def pool11 : Array CpInfo := pool [(4, .class_ 6), (1, u "java/lang/Object"), (0, u "<init>"), (0, u "()V"), (5, .class_ 16), (1, u "java/lang/StringLatin1"), (73, u "canEncode"), (14, u "(C)Z"), (15, u "$assertionsDisabled"), (0, u "Z"), (98, .class_ 223), (1, u "java/lang/StringLatin1$LinesSpliterator"), (57, u "equals"), (0, u "([B[B)Z"), (97, u "toBytes"), (1, u "(C)[B"), (7, .class_ 391), (0, u "java/lang/StringLatin1$CharsSpliterator")] 3

def k11m0 : Method := { name := "<init>", desc := "()V", sig := { parameters := [], returnType := none }, accessFlags := 0, code := none }
def k11c1 : Code := { maxStack := 2, maxLocals := 1, code := jdk_43_method_3_code, exceptionTable := #[], attributes := #[] }
def k11m1 : Method := { name := "canEncode", desc := "(C)Z", sig := { parameters := [.char], returnType := some .boolean }, accessFlags := 9, code := some k11c1 }
def k11c2 : Code := { maxStack := 3, maxLocals := 3, code := jdk_43_method_13_code, exceptionTable := #[], attributes := #[] }
def k11m2 : Method := { name := "equals", desc := "([B[B)Z", sig := { parameters := [(.array .byte), (.array .byte)], returnType := some .boolean }, accessFlags := 9, code := some k11c2 }
def k11c3 : Code := { maxStack := 4, maxLocals := 1, code := jdk_43_method_46_code, exceptionTable := #[], attributes := #[] }
def k11m3 : Method := { name := "toBytes", desc := "(C)[B", sig := { parameters := [.char], returnType := some (.array .byte) }, accessFlags := 9, code := some k11c3 }
/-- java/lang/StringLatin1 -/
def k11 : Class := { plain "java/lang/StringLatin1" (some 0) with
  accessFlags := 48
  interfaces := #[]
  cf := some (fileOf pool11 14 #[.nestMembers #[390, 221]] #[{ accessFlags := 0, nameIndex := 7, descriptorIndex := 8, attributes := #[] }, { accessFlags := 9, nameIndex := 90, descriptorIndex := 105, attributes := #[] }, { accessFlags := 9, nameIndex := 281, descriptorIndex := 282, attributes := #[] }, { accessFlags := 9, nameIndex := 380, descriptorIndex := 382, attributes := #[] }] 48 4 #[] #[{ accessFlags := 4120, nameIndex := 121, descriptorIndex := 122, attributes := #[] }])
  fields := #[{ name := "$assertionsDisabled", type := .boolean, accessFlags := 4120, slot := 0, constantValue := 0 }]
  methods := #[k11m0, k11m1, k11m2, k11m3]
  instanceTypes := #[]
  staticTypes := #[.boolean]
  resolved := Array.replicate 395 none
  statics := none }

def pool12 : Array CpInfo := pool [(2, .class_ 4), (1, u "java/lang/Object"), (0, u "<init>"), (0, u "()V"), (9, u "equals"), (6, u "(Ljava/lang/Object;Ljava/lang/Object;)Z"), (18, .class_ 44), (1, u "java/util/Objects"), (0, u "requireNonNull"), (0, u "(Ljava/lang/Object;)Ljava/lang/Object;")] 137

def k12m0 : Method := { name := "<init>", desc := "()V", sig := { parameters := [], returnType := none }, accessFlags := 2, code := none }
def k12c1 : Code := { maxStack := 2, maxLocals := 2, code := jdk_31_method_2_code, exceptionTable := #[], attributes := #[] }
def k12m1 : Method := { name := "equals", desc := "(Ljava/lang/Object;Ljava/lang/Object;)Z", sig := { parameters := [(.object "java/lang/Object"), (.object "java/lang/Object")], returnType := some .boolean }, accessFlags := 9, code := some k12c1 }
def k12c2 : Code := { maxStack := 2, maxLocals := 1, code := jdk_31_method_10_code, exceptionTable := #[], attributes := #[] }
def k12m2 : Method := { name := "requireNonNull", desc := "(Ljava/lang/Object;)Ljava/lang/Object;", sig := { parameters := [(.object "java/lang/Object")], returnType := some (.object "java/lang/Object") }, accessFlags := 9, code := some k12c2 }
/-- java/util/Objects -/
def k12 : Class := { plain "java/util/Objects" (some 0) with
  accessFlags := 49
  interfaces := #[]
  cf := some (fileOf pool12 42 #[] #[{ accessFlags := 2, nameIndex := 5, descriptorIndex := 6, attributes := #[] }, { accessFlags := 9, nameIndex := 16, descriptorIndex := 23, attributes := #[] }, { accessFlags := 9, nameIndex := 45, descriptorIndex := 46, attributes := #[] }] 49 2 #[] #[])
  fields := #[]
  methods := #[k12m0, k12m1, k12m2]
  instanceTypes := #[]
  staticTypes := #[]
  resolved := Array.replicate 184 none
  statics := none }

def pool13 : Array CpInfo := pool [(2, .class_ 4), (1, u "java/lang/Object"), (0, u "<init>"), (0, u "()V"), (17, .class_ 26), (1, u "jdk/internal/util/Preconditions"), (28, .class_ 56), (0, u "jdk/internal/util/Preconditions$4"), (57, .class_ 115), (0, u "jdk/internal/util/Preconditions$1"), (7, u "SIOOBE_FORMATTER"), (0, u "Ljava/util/function/BiFunction;"), (0, .class_ 126), (0, u "jdk/internal/util/Preconditions$2"), (3, u "AIOOBE_FORMATTER"), (0, .class_ 132), (0, u "jdk/internal/util/Preconditions$3"), (3, u "IOOBE_FORMATTER")] 57

def k13m0 : Method := { name := "<init>", desc := "()V", sig := { parameters := [], returnType := none }, accessFlags := 1, code := none }
/-- jdk/internal/util/Preconditions -/
def k13 : Class := { plain "jdk/internal/util/Preconditions" (some 0) with
  accessFlags := 33
  interfaces := #[]
  cf := some (fileOf pool13 24 #[.nestMembers #[55, 131, 125, 114]] #[{ accessFlags := 1, nameIndex := 5, descriptorIndex := 6, attributes := #[] }] 33 2 #[] #[{ accessFlags := 25, nameIndex := 123, descriptorIndex := 124, attributes := #[] }, { accessFlags := 25, nameIndex := 130, descriptorIndex := 124, attributes := #[] }, { accessFlags := 25, nameIndex := 136, descriptorIndex := 124, attributes := #[] }])
  fields := #[{ name := "SIOOBE_FORMATTER", type := (.object "java/util/function/BiFunction"), accessFlags := 25, slot := 0, constantValue := 0 }, { name := "AIOOBE_FORMATTER", type := (.object "java/util/function/BiFunction"), accessFlags := 25, slot := 1, constantValue := 0 }, { name := "IOOBE_FORMATTER", type := (.object "java/util/function/BiFunction"), accessFlags := 25, slot := 2, constantValue := 0 }]
  methods := #[k13m0]
  instanceTypes := #[]
  staticTypes := #[(.object "java/util/function/BiFunction"), (.object "java/util/function/BiFunction"), (.object "java/util/function/BiFunction")]
  resolved := Array.replicate 194 none
  statics := some 3 }

def pool14 : Array CpInfo := pool [(9, u "<init>"), (6, .class_ 18), (1, u "java/lang/Object"), (0, u "()V"), (1, .class_ 23), (1, u "jdk/internal/util/ArraysSupport"), (0, u "LOG2_ARRAY_LONG_INDEX_SCALE"), (0, u "I"), (2, u "U"), (0, u "Ljdk/internal/misc/Unsafe;"), (8, u "BIG_ENDIAN"), (0, u "Z"), (8, u "LOG2_BYTE_BIT_SIZE"), (4, u "LOG2_ARRAY_INT_INDEX_SCALE"), (54, u "JLA"), (0, u "Ljdk/internal/access/JavaLangAccess;"), (11, u "LOG2_ARRAY_BOOLEAN_INDEX_SCALE"), (9, u "LOG2_ARRAY_BYTE_INDEX_SCALE"), (5, u "LOG2_ARRAY_CHAR_INDEX_SCALE"), (5, u "LOG2_ARRAY_SHORT_INDEX_SCALE"), (18, u "LOG2_ARRAY_FLOAT_INDEX_SCALE"), (24, u "LOG2_ARRAY_DOUBLE_INDEX_SCALE"), (89, u "T_BOOLEAN"), (2, u "T_CHAR"), (1, u "T_FLOAT"), (1, u "T_DOUBLE"), (1, u "T_BYTE"), (1, u "T_SHORT"), (1, u "T_INT"), (1, u "T_LONG"), (1, u "SOFT_MAX_ARRAY_LENGTH")] 83

def k14m0 : Method := { name := "<init>", desc := "()V", sig := { parameters := [], returnType := none }, accessFlags := 2, code := none }
/-- jdk/internal/util/ArraysSupport -/
def k14 : Class := { plain "jdk/internal/util/ArraysSupport" (some 0) with
  accessFlags := 33
  interfaces := #[]
  cf := some (fileOf pool14 21 #[] #[{ accessFlags := 2, nameIndex := 9, descriptorIndex := 19, attributes := #[] }] 33 16 #[] #[{ accessFlags := 24, nameIndex := 28, descriptorIndex := 29, attributes := #[] }, { accessFlags := 26, nameIndex := 38, descriptorIndex := 39, attributes := #[] }, { accessFlags := 25, nameIndex := 121, descriptorIndex := 25, attributes := #[] }, { accessFlags := 25, nameIndex := 131, descriptorIndex := 25, attributes := #[] }, { accessFlags := 25, nameIndex := 137, descriptorIndex := 25, attributes := #[] }, { accessFlags := 25, nameIndex := 143, descriptorIndex := 25, attributes := #[] }, { accessFlags := 25, nameIndex := 53, descriptorIndex := 25, attributes := #[] }, { accessFlags := 25, nameIndex := 24, descriptorIndex := 25, attributes := #[] }, { accessFlags := 25, nameIndex := 162, descriptorIndex := 25, attributes := #[] }, { accessFlags := 25, nameIndex := 187, descriptorIndex := 25, attributes := #[] }, { accessFlags := 26, nameIndex := 48, descriptorIndex := 25, attributes := #[] }, { accessFlags := 25, nameIndex := 277, descriptorIndex := 25, attributes := #[] }, { accessFlags := 25, nameIndex := 280, descriptorIndex := 25, attributes := #[] }, { accessFlags := 25, nameIndex := 282, descriptorIndex := 25, attributes := #[] }, { accessFlags := 25, nameIndex := 284, descriptorIndex := 25, attributes := #[] }, { accessFlags := 25, nameIndex := 286, descriptorIndex := 25, attributes := #[] }, { accessFlags := 25, nameIndex := 288, descriptorIndex := 25, attributes := #[] }, { accessFlags := 25, nameIndex := 290, descriptorIndex := 25, attributes := #[] }, { accessFlags := 25, nameIndex := 292, descriptorIndex := 25, attributes := #[] }, { accessFlags := 26, nameIndex := 108, descriptorIndex := 109, attributes := #[] }, { accessFlags := 25, nameIndex := 294, descriptorIndex := 25, attributes := #[] }])
  fields := #[{ name := "U", type := (.object "jdk/internal/misc/Unsafe"), accessFlags := 24, slot := 0, constantValue := 0 }, { name := "BIG_ENDIAN", type := .boolean, accessFlags := 26, slot := 1, constantValue := 0 }, { name := "LOG2_ARRAY_BOOLEAN_INDEX_SCALE", type := .int, accessFlags := 25, slot := 2, constantValue := 0 }, { name := "LOG2_ARRAY_BYTE_INDEX_SCALE", type := .int, accessFlags := 25, slot := 3, constantValue := 0 }, { name := "LOG2_ARRAY_CHAR_INDEX_SCALE", type := .int, accessFlags := 25, slot := 4, constantValue := 0 }, { name := "LOG2_ARRAY_SHORT_INDEX_SCALE", type := .int, accessFlags := 25, slot := 5, constantValue := 0 }, { name := "LOG2_ARRAY_INT_INDEX_SCALE", type := .int, accessFlags := 25, slot := 6, constantValue := 0 }, { name := "LOG2_ARRAY_LONG_INDEX_SCALE", type := .int, accessFlags := 25, slot := 7, constantValue := 0 }, { name := "LOG2_ARRAY_FLOAT_INDEX_SCALE", type := .int, accessFlags := 25, slot := 8, constantValue := 0 }, { name := "LOG2_ARRAY_DOUBLE_INDEX_SCALE", type := .int, accessFlags := 25, slot := 9, constantValue := 0 }, { name := "LOG2_BYTE_BIT_SIZE", type := .int, accessFlags := 26, slot := 10, constantValue := 0 }, { name := "T_BOOLEAN", type := .int, accessFlags := 25, slot := 11, constantValue := 0 }, { name := "T_CHAR", type := .int, accessFlags := 25, slot := 12, constantValue := 0 }, { name := "T_FLOAT", type := .int, accessFlags := 25, slot := 13, constantValue := 0 }, { name := "T_DOUBLE", type := .int, accessFlags := 25, slot := 14, constantValue := 0 }, { name := "T_BYTE", type := .int, accessFlags := 25, slot := 15, constantValue := 0 }, { name := "T_SHORT", type := .int, accessFlags := 25, slot := 16, constantValue := 0 }, { name := "T_INT", type := .int, accessFlags := 25, slot := 17, constantValue := 0 }, { name := "T_LONG", type := .int, accessFlags := 25, slot := 18, constantValue := 0 }, { name := "JLA", type := (.object "jdk/internal/access/JavaLangAccess"), accessFlags := 26, slot := 19, constantValue := 0 }, { name := "SOFT_MAX_ARRAY_LENGTH", type := .int, accessFlags := 25, slot := 20, constantValue := 0 }]
  methods := #[k14m0]
  instanceTypes := #[]
  staticTypes := #[(.object "jdk/internal/misc/Unsafe"), .boolean, .int, .int, .int, .int, .int, .int, .int, .int, .int, .int, .int, .int, .int, .int, .int, .int, .int, (.object "jdk/internal/access/JavaLangAccess"), .int]
  resolved := Array.replicate 378 none
  statics := none }

def pool15 : Array CpInfo := pool [(1, u "java/lang/Cloneable"), (0, .class_ 1), (0, u "java/lang/Object"), (0, .class_ 3)] 3

/-- java/lang/Cloneable -/
def k15 : Class := { plain "java/lang/Cloneable" (some 0) with
  accessFlags := 1537
  interfaces := #[]
  cf := some (fileOf pool15 2 #[] #[] 1537 4 #[] #[])
  fields := #[]
  methods := #[]
  instanceTypes := #[]
  staticTypes := #[]
  resolved := Array.replicate 8 none
  statics := none }

/-- the primitive byte -/
def k16 : Class := { plain "byte" none with kind := .primitive 'B', accessFlags := 0x411 }
/-- [B -/
def k17 : Class := { plain "[B" (some 0) with kind := .array 16 .byte, interfaces := #[15, 2], accessFlags := 1041 }

/-- the primitive char -/
def k18 : Class := { plain "char" none with kind := .primitive 'C', accessFlags := 0x411 }
/-- [C -/
def k19 : Class := { plain "[C" (some 0) with kind := .array 18 .char, interfaces := #[15, 2], accessFlags := 1041 }

/-- the primitive int -/
def k20 : Class := { plain "int" none with kind := .primitive 'I', accessFlags := 0x411 }
/-- [I -/
def k21 : Class := { plain "[I" (some 0) with kind := .array 20 .int, interfaces := #[15, 2], accessFlags := 1041 }

def heap : Heap := #[{ cls := 7, slots := #[.long 0, .int 1, .null, .int 0, .null, .int 0, .int 0], vm := .statics 7 },
  { cls := 9, slots := #[.ref 8, .ref 9], vm := .statics 9 },
  { cls := 10, slots := #[.ref 10], vm := .statics 10 },
  { cls := 13, slots := #[.null, .null, .null], vm := .statics 13 },
  { cls := 17, slots := #[.int 103, .int 117, .int 101, .int 115, .int 116], vm := .none },
  { cls := 17, slots := #[.int 114, .int 101, .int 103, .int 105, .int 115, .int 116, .int 101, .int 114, .int 101, .int 100], vm := .none },
  { cls := 7, slots := #[.ref 4, .int 0, .int 0, .int 0], vm := .none },
  { cls := 7, slots := #[.ref 5, .int 0, .int 0, .int 0], vm := .none },
  { cls := 9, slots := #[.ref 6, .null], vm := .none },
  { cls := 9, slots := #[.ref 7, .null], vm := .none },
  { cls := 10, slots := #[.null], vm := .none }]
def classes : Array Class := #[k0, k1, k2, k3, k4, k5, k6, k7, k8, k9, k10, k11, k12, k13, k14, k15, k16, k17, k18, k19, k20, k21]
def interned : List (Array UInt16 × Addr) := []
def slotsUsed : Nat := 41
def theMethod : MethodId := ⟨1, 5⟩
def args0 : Array Value := #[.int 1, .int 2, .int 3]
def aboutOver (below : List Frame) : State where
  vm := { classes := classes, interned := interned.toArray }
  heap := heap
  slotsUsed := slotsUsed
  threads := #[{ frames := .invoking theMethod args0 :: below }]
def below0 : List Frame := [.native { method := ⟨0, 0⟩, args := #[] }]
def about1 : State := aboutOver below0
def p0 : Program := .bare "" "" ""
def e0 : Env := launch0.env 0 0 0
theorem w_frames : about1.frames = Frame.invoking theMethod args0 :: below0 := rfl
set_option maxRecDepth 65536 in
theorem w_args : argsFit about1.vm theMethod args0 = true := by decide +kernel
set_option maxRecDepth 65536 in
theorem w_heap : heapFits about1 = true := by decide +kernel
set_option maxRecDepth 65536 in
theorem w_runnable : about1.curStatus? = some .runnable := by decide +kernel
set_option maxRecDepth 65536 in
theorem w_alone : about1.alone = true := by decide +kernel
set_option maxRecDepth 65536 in
theorem w_named : about1.methodNamed? x = some theMethod := by decide +kernel
set_option maxRecDepth 65536 in
theorem w_hears : about1.hears theMethod below0 = true := by decide +kernel
set_option maxRecDepth 65536 in
theorem w_ripe : about1.ripe theMethod args0 below0 = true := by decide +kernel
theorem w_running : about1.status = .running := rfl
set_option maxRecDepth 65536 in
theorem w_room : about1.hasRoom e0.platform room_1 = true :=
  launch0.hasRoom_least _ room_1 (by decide +kernel) (by decide +kernel) (by decide +kernel) (by decide +kernel) (by decide +kernel) (by decide +kernel)
theorem allAtoms_all (ts : List Jvm.Cond) (a : Array Jvm.Value) (st : Jvm.State) : (allAtoms ts).before a st = ts.all (fun c => c.before a st) := by
  induction ts with
  | nil => rfl
  | cons c t ih =>
    show (Jvm.Cond.and c (allAtoms t)).before a st = _
    rw [Jvm.Cond.before_and, ih, List.all_cons]
def words1 : List Jvm.Cond := Jvm.Cond.code x code maxLocals ret :: tables_1
/-- a 'code' word, met by the world's own term for the bytes: nothing is compared byte by byte -/
theorem code_word {y : MethodName} {bytes : ByteArray} {mx : Nat} {rt : Option FieldType} {a : Array Value} {s : State} {m : MethodId} {meth : Method} {c : Code} (h1 : s.methodNamed? y = some m) (h2 : s.vm.method? m = some meth) (h3 : meth.code = some c) (h4 : c.code = bytes)
    (h5 : (c.maxLocals == mx && c.exceptionTable.isEmpty && decide (c.maxStack ≤ mostOperands) && decide (meth.sig.returnType = rt) && !meth.locks && decide (parseMethodDescriptor y.desc = some meth.sig)) = true) : (Jvm.Cond.code y bytes mx rt).before a s = true := by
  simp only [Bool.and_eq_true, beq_iff_eq, Bool.not_eq_true', decide_eq_true_eq] at h5
  obtain ⟨⟨⟨⟨⟨g1, g2⟩, g3⟩, g4⟩, g5⟩, g6⟩ := h5
  simp [Cond.before, Cond.holds, Cond.value, h1, h2, h3, h4, g1, g2, g3, g4, g5, g6]
def isCode : Jvm.Cond → Bool
  | .code _ _ _ _ => true
  | _ => false
theorem all_split {L : List Jvm.Cond} {P : Jvm.Cond → Bool} (h1 : L.all (fun c => isCode c || P c) = true) (h2 : ∀ c ∈ L.filter isCode, P c = true) : L.all P = true := by
  refine List.all_eq_true.mpr fun c hc => ?_
  have h := List.all_eq_true.mp h1 c hc
  rcases Bool.eq_false_or_eq_true (isCode c) with hi | hi
  · exact h2 c (List.mem_filter.mpr ⟨hc, hi⟩)
  · simpa [hi] using h
set_option maxRecDepth 65536 in
theorem w_c0 : (Jvm.Cond.code x code maxLocals ret).before args0 about1 = true := code_word (m := ⟨1, 5⟩) (meth := k1m5) (c := k1c5) (by decide +kernel) rfl rfl rfl (by decide +kernel)
set_option maxRecDepth 65536 in
theorem w_c1 : (Jvm.Cond.code ({ cls := "com/example/vett/vett/GranteeUserTypePinLaw", name := "base", desc := "(Z)[C" } : Jvm.MethodName) method_2_code (1 : Nat) (Option.some (Jvm.ClassFile.FieldType.array Jvm.ClassFile.FieldType.char))).before args0 about1 = true := code_word (m := ⟨1, 1⟩) (meth := k1m1) (c := k1c1) (by decide +kernel) rfl rfl rfl (by decide +kernel)
set_option maxRecDepth 65536 in
theorem w_c2 : (Jvm.Cond.code ({ cls := "java/lang/String", name := "<init>", desc := "([C)V" } : Jvm.MethodName) jdk_42_method_3_code (2 : Nat) (Option.none : Option Jvm.ClassFile.FieldType)).before args0 about1 = true := code_word (m := ⟨7, 1⟩) (meth := k7m1) (c := k7c1) (by decide +kernel) rfl rfl rfl (by decide +kernel)
set_option maxRecDepth 65536 in
theorem w_c3 : (Jvm.Cond.code ({ cls := "java/lang/String", name := "<init>", desc := "([CIILjava/lang/Void;)V" } : Jvm.MethodName) jdk_42_method_149_code (6 : Nat) (Option.none : Option Jvm.ClassFile.FieldType)).before args0 about1 = true := code_word (m := ⟨7, 4⟩) (meth := k7m4) (c := k7c4) (by decide +kernel) rfl rfl rfl (by decide +kernel)
set_option maxRecDepth 65536 in
theorem w_c4 : (Jvm.Cond.code ({ cls := "java/lang/Object", name := "<init>", desc := "()V" } : Jvm.MethodName) object_method_1_code (1 : Nat) (Option.none : Option Jvm.ClassFile.FieldType)).before args0 about1 = true := code_word (m := ⟨0, 0⟩) (meth := k0m0) (c := k0c0) (by decide +kernel) rfl rfl rfl (by decide +kernel)
set_option maxRecDepth 65536 in
theorem w_c5 : (Jvm.Cond.code ({ cls := "java/lang/StringUTF16", name := "compress", desc := "([CII)[B" } : Jvm.MethodName) jdk_52_method_16_code (6 : Nat) (Option.some (Jvm.ClassFile.FieldType.array Jvm.ClassFile.FieldType.byte))).before args0 about1 = true := code_word (m := ⟨8, 2⟩) (meth := k8m2) (c := k8c2) (by decide +kernel) rfl rfl rfl (by decide +kernel)
set_option maxRecDepth 65536 in
theorem w_c6 : (Jvm.Cond.code ({ cls := "java/lang/StringUTF16", name := "compress", desc := "([CI[BII)I" } : Jvm.MethodName) jdk_52_method_21_code (7 : Nat) (Option.some Jvm.ClassFile.FieldType.int)).before args0 about1 = true := code_word (m := ⟨8, 3⟩) (meth := k8m3) (c := k8c3) (by decide +kernel) rfl rfl rfl (by decide +kernel)
set_option maxRecDepth 65536 in
theorem w_c7 : (Jvm.Cond.code ({ cls := "java/lang/StringUTF16", name := "coderFromArrayLen", desc := "([BI)B" } : Jvm.MethodName) jdk_52_method_15_code (2 : Nat) (Option.some Jvm.ClassFile.FieldType.byte)).before args0 about1 = true := code_word (m := ⟨8, 1⟩) (meth := k8m1) (c := k8c1) (by decide +kernel) rfl rfl rfl (by decide +kernel)
set_option maxRecDepth 65536 in
theorem w_c8 : (Jvm.Cond.code ({ cls := "com/example/vett/vett/Grantee", name := "userType", desc := "(Ljava/lang/String;)Ljava/util/Optional;" } : Jvm.MethodName) prog_4_method_2_code (2 : Nat) (Option.some (Jvm.ClassFile.FieldType.object "java/util/Optional"))).before args0 about1 = true := code_word (m := ⟨9, 0⟩) (meth := k9m0) (c := k9c0) (by decide +kernel) rfl rfl rfl (by decide +kernel)
set_option maxRecDepth 65536 in
theorem w_c9 : (Jvm.Cond.code ({ cls := "java/util/Optional", name := "empty", desc := "()Ljava/util/Optional;" } : Jvm.MethodName) jdk_32_method_1_code (1 : Nat) (Option.some (Jvm.ClassFile.FieldType.object "java/util/Optional"))).before args0 about1 = true := code_word (m := ⟨10, 0⟩) (meth := k10m0) (c := k10c0) (by decide +kernel) rfl rfl rfl (by decide +kernel)
set_option maxRecDepth 65536 in
theorem w_c10 : (Jvm.Cond.code ({ cls := "java/lang/String", name := "equals", desc := "(Ljava/lang/Object;)Z" } : Jvm.MethodName) jdk_42_method_66_code (3 : Nat) (Option.some Jvm.ClassFile.FieldType.boolean)).before args0 about1 = true := code_word (m := ⟨7, 2⟩) (meth := k7m2) (c := k7c2) (by decide +kernel) rfl rfl rfl (by decide +kernel)
set_option maxRecDepth 65536 in
theorem w_c11 : (Jvm.Cond.code ({ cls := "java/lang/StringLatin1", name := "equals", desc := "([B[B)Z" } : Jvm.MethodName) jdk_43_method_13_code (3 : Nat) (Option.some Jvm.ClassFile.FieldType.boolean)).before args0 about1 = true := code_word (m := ⟨11, 2⟩) (meth := k11m2) (c := k11c2) (by decide +kernel) rfl rfl rfl (by decide +kernel)
set_option maxRecDepth 65536 in
theorem w_c12 : (Jvm.Cond.code ({ cls := "java/util/Optional", name := "of", desc := "(Ljava/lang/Object;)Ljava/util/Optional;" } : Jvm.MethodName) jdk_32_method_3_code (1 : Nat) (Option.some (Jvm.ClassFile.FieldType.object "java/util/Optional"))).before args0 about1 = true := code_word (m := ⟨10, 2⟩) (meth := k10m2) (c := k10c2) (by decide +kernel) rfl rfl rfl (by decide +kernel)
set_option maxRecDepth 65536 in
theorem w_c13 : (Jvm.Cond.code ({ cls := "java/util/Objects", name := "requireNonNull", desc := "(Ljava/lang/Object;)Ljava/lang/Object;" } : Jvm.MethodName) jdk_31_method_10_code (1 : Nat) (Option.some (Jvm.ClassFile.FieldType.object "java/lang/Object"))).before args0 about1 = true := code_word (m := ⟨12, 2⟩) (meth := k12m2) (c := k12c2) (by decide +kernel) rfl rfl rfl (by decide +kernel)
set_option maxRecDepth 65536 in
theorem w_c14 : (Jvm.Cond.code ({ cls := "java/util/Optional", name := "<init>", desc := "(Ljava/lang/Object;)V" } : Jvm.MethodName) jdk_32_method_2_code (2 : Nat) (Option.none : Option Jvm.ClassFile.FieldType)).before args0 about1 = true := code_word (m := ⟨10, 1⟩) (meth := k10m1) (c := k10c1) (by decide +kernel) rfl rfl rfl (by decide +kernel)
set_option maxRecDepth 65536 in
theorem w_c15 : (Jvm.Cond.code ({ cls := "java/util/Optional", name := "isPresent", desc := "()Z" } : Jvm.MethodName) jdk_32_method_6_code (1 : Nat) (Option.some Jvm.ClassFile.FieldType.boolean)).before args0 about1 = true := code_word (m := ⟨10, 4⟩) (meth := k10m4) (c := k10c4) (by decide +kernel) rfl rfl rfl (by decide +kernel)
set_option maxRecDepth 65536 in
theorem w_c16 : (Jvm.Cond.code ({ cls := "java/util/Optional", name := "get", desc := "()Ljava/lang/Object;" } : Jvm.MethodName) jdk_32_method_5_code (1 : Nat) (Option.some (Jvm.ClassFile.FieldType.object "java/lang/Object"))).before args0 about1 = true := code_word (m := ⟨10, 3⟩) (meth := k10m3) (c := k10c3) (by decide +kernel) rfl rfl rfl (by decide +kernel)
set_option maxRecDepth 65536 in
theorem w_c17 : (Jvm.Cond.code ({ cls := "com/example/vett/vett/Grantee", name := "equals", desc := "(Ljava/lang/Object;)Z" } : Jvm.MethodName) prog_4_method_6_code (3 : Nat) (Option.some Jvm.ClassFile.FieldType.boolean)).before args0 about1 = true := code_word (m := ⟨9, 1⟩) (meth := k9m1) (c := k9c1) (by decide +kernel) rfl rfl rfl (by decide +kernel)
set_option maxRecDepth 65536 in
theorem w_c18 : (Jvm.Cond.code ({ cls := "java/util/Objects", name := "equals", desc := "(Ljava/lang/Object;Ljava/lang/Object;)Z" } : Jvm.MethodName) jdk_31_method_2_code (2 : Nat) (Option.some Jvm.ClassFile.FieldType.boolean)).before args0 about1 = true := code_word (m := ⟨12, 1⟩) (meth := k12m1) (c := k12c1) (by decide +kernel) rfl rfl rfl (by decide +kernel)
set_option maxRecDepth 65536 in
theorem w_c19 : (Jvm.Cond.code ({ cls := "com/example/vett/vett/GranteeUserTypePinLaw", name := "appended", desc := "(ZC)[C" } : Jvm.MethodName) method_3_code (2 : Nat) (Option.some (Jvm.ClassFile.FieldType.array Jvm.ClassFile.FieldType.char))).before args0 about1 = true := code_word (m := ⟨1, 2⟩) (meth := k1m2) (c := k1c2) (by decide +kernel) rfl rfl rfl (by decide +kernel)
set_option maxRecDepth 65536 in
theorem w_c20 : (Jvm.Cond.code ({ cls := "com/example/vett/vett/GranteeUserTypePinLaw", name := "dropFirst", desc := "(Z)[C" } : Jvm.MethodName) method_5_code (1 : Nat) (Option.some (Jvm.ClassFile.FieldType.array Jvm.ClassFile.FieldType.char))).before args0 about1 = true := code_word (m := ⟨1, 4⟩) (meth := k1m4) (c := k1c4) (by decide +kernel) rfl rfl rfl (by decide +kernel)
set_option maxRecDepth 65536 in
theorem w_c21 : (Jvm.Cond.code ({ cls := "java/lang/String", name := "valueOf", desc := "(C)Ljava/lang/String;" } : Jvm.MethodName) jdk_42_method_139_code (1 : Nat) (Option.some (Jvm.ClassFile.FieldType.object "java/lang/String"))).before args0 about1 = true := code_word (m := ⟨7, 3⟩) (meth := k7m3) (c := k7c3) (by decide +kernel) rfl rfl rfl (by decide +kernel)
set_option maxRecDepth 65536 in
theorem w_c22 : (Jvm.Cond.code ({ cls := "java/lang/StringLatin1", name := "canEncode", desc := "(C)Z" } : Jvm.MethodName) jdk_43_method_3_code (1 : Nat) (Option.some Jvm.ClassFile.FieldType.boolean)).before args0 about1 = true := code_word (m := ⟨11, 1⟩) (meth := k11m1) (c := k11c1) (by decide +kernel) rfl rfl rfl (by decide +kernel)
set_option maxRecDepth 65536 in
theorem w_c23 : (Jvm.Cond.code ({ cls := "java/lang/StringLatin1", name := "toBytes", desc := "(C)[B" } : Jvm.MethodName) jdk_43_method_46_code (1 : Nat) (Option.some (Jvm.ClassFile.FieldType.array Jvm.ClassFile.FieldType.byte))).before args0 about1 = true := code_word (m := ⟨11, 3⟩) (meth := k11m3) (c := k11c3) (by decide +kernel) rfl rfl rfl (by decide +kernel)
set_option maxRecDepth 65536 in
theorem w_c24 : (Jvm.Cond.code ({ cls := "java/lang/String", name := "<init>", desc := "([BB)V" } : Jvm.MethodName) jdk_42_method_151_code (3 : Nat) (Option.none : Option Jvm.ClassFile.FieldType)).before args0 about1 = true := code_word (m := ⟨7, 5⟩) (meth := k7m5) (c := k7c5) (by decide +kernel) rfl rfl rfl (by decide +kernel)
set_option maxRecDepth 65536 in
theorem w_c25 : (Jvm.Cond.code ({ cls := "com/example/vett/vett/GranteeUserTypePinLaw", name := "dropLast", desc := "(Z)[C" } : Jvm.MethodName) method_4_code (1 : Nat) (Option.some (Jvm.ClassFile.FieldType.array Jvm.ClassFile.FieldType.char))).before args0 about1 = true := code_word (m := ⟨1, 3⟩) (meth := k1m3) (c := k1c3) (by decide +kernel) rfl rfl rfl (by decide +kernel)
def codes1 : List Jvm.Cond := [Jvm.Cond.code x code maxLocals ret, Jvm.Cond.code ({ cls := "com/example/vett/vett/GranteeUserTypePinLaw", name := "base", desc := "(Z)[C" } : Jvm.MethodName) method_2_code (1 : Nat) (Option.some (Jvm.ClassFile.FieldType.array Jvm.ClassFile.FieldType.char)), Jvm.Cond.code ({ cls := "java/lang/String", name := "<init>", desc := "([C)V" } : Jvm.MethodName) jdk_42_method_3_code (2 : Nat) (Option.none : Option Jvm.ClassFile.FieldType), Jvm.Cond.code ({ cls := "java/lang/String", name := "<init>", desc := "([CIILjava/lang/Void;)V" } : Jvm.MethodName) jdk_42_method_149_code (6 : Nat) (Option.none : Option Jvm.ClassFile.FieldType), Jvm.Cond.code ({ cls := "java/lang/Object", name := "<init>", desc := "()V" } : Jvm.MethodName) object_method_1_code (1 : Nat) (Option.none : Option Jvm.ClassFile.FieldType), Jvm.Cond.code ({ cls := "java/lang/StringUTF16", name := "compress", desc := "([CII)[B" } : Jvm.MethodName) jdk_52_method_16_code (6 : Nat) (Option.some (Jvm.ClassFile.FieldType.array Jvm.ClassFile.FieldType.byte)), Jvm.Cond.code ({ cls := "java/lang/StringUTF16", name := "compress", desc := "([CI[BII)I" } : Jvm.MethodName) jdk_52_method_21_code (7 : Nat) (Option.some Jvm.ClassFile.FieldType.int), Jvm.Cond.code ({ cls := "java/lang/StringUTF16", name := "coderFromArrayLen", desc := "([BI)B" } : Jvm.MethodName) jdk_52_method_15_code (2 : Nat) (Option.some Jvm.ClassFile.FieldType.byte), Jvm.Cond.code ({ cls := "com/example/vett/vett/Grantee", name := "userType", desc := "(Ljava/lang/String;)Ljava/util/Optional;" } : Jvm.MethodName) prog_4_method_2_code (2 : Nat) (Option.some (Jvm.ClassFile.FieldType.object "java/util/Optional")), Jvm.Cond.code ({ cls := "java/util/Optional", name := "empty", desc := "()Ljava/util/Optional;" } : Jvm.MethodName) jdk_32_method_1_code (1 : Nat) (Option.some (Jvm.ClassFile.FieldType.object "java/util/Optional")), Jvm.Cond.code ({ cls := "java/lang/String", name := "equals", desc := "(Ljava/lang/Object;)Z" } : Jvm.MethodName) jdk_42_method_66_code (3 : Nat) (Option.some Jvm.ClassFile.FieldType.boolean), Jvm.Cond.code ({ cls := "java/lang/StringLatin1", name := "equals", desc := "([B[B)Z" } : Jvm.MethodName) jdk_43_method_13_code (3 : Nat) (Option.some Jvm.ClassFile.FieldType.boolean), Jvm.Cond.code ({ cls := "java/util/Optional", name := "of", desc := "(Ljava/lang/Object;)Ljava/util/Optional;" } : Jvm.MethodName) jdk_32_method_3_code (1 : Nat) (Option.some (Jvm.ClassFile.FieldType.object "java/util/Optional")), Jvm.Cond.code ({ cls := "java/util/Objects", name := "requireNonNull", desc := "(Ljava/lang/Object;)Ljava/lang/Object;" } : Jvm.MethodName) jdk_31_method_10_code (1 : Nat) (Option.some (Jvm.ClassFile.FieldType.object "java/lang/Object")), Jvm.Cond.code ({ cls := "java/util/Optional", name := "<init>", desc := "(Ljava/lang/Object;)V" } : Jvm.MethodName) jdk_32_method_2_code (2 : Nat) (Option.none : Option Jvm.ClassFile.FieldType), Jvm.Cond.code ({ cls := "java/util/Optional", name := "isPresent", desc := "()Z" } : Jvm.MethodName) jdk_32_method_6_code (1 : Nat) (Option.some Jvm.ClassFile.FieldType.boolean), Jvm.Cond.code ({ cls := "java/util/Optional", name := "get", desc := "()Ljava/lang/Object;" } : Jvm.MethodName) jdk_32_method_5_code (1 : Nat) (Option.some (Jvm.ClassFile.FieldType.object "java/lang/Object")), Jvm.Cond.code ({ cls := "com/example/vett/vett/Grantee", name := "equals", desc := "(Ljava/lang/Object;)Z" } : Jvm.MethodName) prog_4_method_6_code (3 : Nat) (Option.some Jvm.ClassFile.FieldType.boolean), Jvm.Cond.code ({ cls := "java/util/Objects", name := "equals", desc := "(Ljava/lang/Object;Ljava/lang/Object;)Z" } : Jvm.MethodName) jdk_31_method_2_code (2 : Nat) (Option.some Jvm.ClassFile.FieldType.boolean), Jvm.Cond.code ({ cls := "com/example/vett/vett/GranteeUserTypePinLaw", name := "appended", desc := "(ZC)[C" } : Jvm.MethodName) method_3_code (2 : Nat) (Option.some (Jvm.ClassFile.FieldType.array Jvm.ClassFile.FieldType.char)), Jvm.Cond.code ({ cls := "com/example/vett/vett/GranteeUserTypePinLaw", name := "dropFirst", desc := "(Z)[C" } : Jvm.MethodName) method_5_code (1 : Nat) (Option.some (Jvm.ClassFile.FieldType.array Jvm.ClassFile.FieldType.char)), Jvm.Cond.code ({ cls := "java/lang/String", name := "valueOf", desc := "(C)Ljava/lang/String;" } : Jvm.MethodName) jdk_42_method_139_code (1 : Nat) (Option.some (Jvm.ClassFile.FieldType.object "java/lang/String")), Jvm.Cond.code ({ cls := "java/lang/StringLatin1", name := "canEncode", desc := "(C)Z" } : Jvm.MethodName) jdk_43_method_3_code (1 : Nat) (Option.some Jvm.ClassFile.FieldType.boolean), Jvm.Cond.code ({ cls := "java/lang/StringLatin1", name := "toBytes", desc := "(C)[B" } : Jvm.MethodName) jdk_43_method_46_code (1 : Nat) (Option.some (Jvm.ClassFile.FieldType.array Jvm.ClassFile.FieldType.byte)), Jvm.Cond.code ({ cls := "java/lang/String", name := "<init>", desc := "([BB)V" } : Jvm.MethodName) jdk_42_method_151_code (3 : Nat) (Option.none : Option Jvm.ClassFile.FieldType), Jvm.Cond.code ({ cls := "com/example/vett/vett/GranteeUserTypePinLaw", name := "dropLast", desc := "(Z)[C" } : Jvm.MethodName) method_4_code (1 : Nat) (Option.some (Jvm.ClassFile.FieldType.array Jvm.ClassFile.FieldType.char))]
set_option maxRecDepth 65536 in
theorem codes_eq : words1.filter isCode = codes1 := rfl
theorem w_codes : ∀ c ∈ words1.filter isCode, c.before args0 about1 = true := by
  rw [codes_eq]
  intro c hc
  simp only [codes1, List.mem_cons, List.not_mem_nil, or_false] at hc
  rcases hc with rfl | rfl | rfl | rfl | rfl | rfl | rfl | rfl | rfl | rfl | rfl | rfl | rfl | rfl | rfl | rfl | rfl | rfl | rfl | rfl | rfl | rfl | rfl | rfl | rfl | rfl
  · exact w_c0
  · exact w_c1
  · exact w_c2
  · exact w_c3
  · exact w_c4
  · exact w_c5
  · exact w_c6
  · exact w_c7
  · exact w_c8
  · exact w_c9
  · exact w_c10
  · exact w_c11
  · exact w_c12
  · exact w_c13
  · exact w_c14
  · exact w_c15
  · exact w_c16
  · exact w_c17
  · exact w_c18
  · exact w_c19
  · exact w_c20
  · exact w_c21
  · exact w_c22
  · exact w_c23
  · exact w_c24
  · exact w_c25
set_option maxRecDepth 65536 in
theorem w_t1 : (words1.take 24).all (fun c => isCode c || c.before args0 about1) = true := by decide +kernel
set_option maxRecDepth 65536 in
theorem w_t2 : ((words1.drop 24).take 24).all (fun c => isCode c || c.before args0 about1) = true := by decide +kernel
set_option maxRecDepth 65536 in
theorem w_t3 : (((words1.drop 24).drop 24).take 24).all (fun c => isCode c || c.before args0 about1) = true := by decide +kernel
set_option maxRecDepth 65536 in
theorem w_t4 : ((((words1.drop 24).drop 24).drop 24).take 24).all (fun c => isCode c || c.before args0 about1) = true := by decide +kernel
set_option maxRecDepth 65536 in
theorem w_t5 : (((((words1.drop 24).drop 24).drop 24).drop 24).take 24).all (fun c => isCode c || c.before args0 about1) = true := by decide +kernel
set_option maxRecDepth 65536 in
theorem w_t6 : (((((words1.drop 24).drop 24).drop 24).drop 24).drop 24).all (fun c => isCode c || c.before args0 about1) = true := by decide +kernel
theorem w_tables : (allAtoms (Jvm.Cond.code x code maxLocals ret :: tables_1)).before args0 about1 = true := by
  rw [allAtoms_all]
  show words1.all (fun c => c.before args0 about1) = true
  refine all_split ?_ w_codes
  rw [← List.take_append_drop 24 words1, List.all_append, w_t1, ← List.take_append_drop 24 (words1.drop 24), List.all_append, w_t2, ← List.take_append_drop 24 ((words1.drop 24).drop 24), List.all_append, w_t3, ← List.take_append_drop 24 (((words1.drop 24).drop 24).drop 24), List.all_append, w_t4, ← List.take_append_drop 24 ((((words1.drop 24).drop 24).drop 24).drop 24), List.all_append, w_t5, w_t6]
  rfl
set_option maxRecDepth 65536 in
theorem w_rest : rest_1_c.before args0 about1 = true := by decide +kernel
set_option maxRecDepth 65536 in
theorem w_case : (Jvm.Cond.and given_1 narrow_1).before args0 about1 = true := by decide +kernel
set_option maxRecDepth 65536 in
theorem w_consts : constsHeld consts_1 about1 := Jvm.Lit.constsHeldB_iff.mp (by decide +kernel)
theorem w_applies : (headSpec (Jvm.Cond.code x code maxLocals ret :: tables_1) room_1).applies x e0.platform about1 = true :=
  (Spec.applies_iff w_frames).mpr ⟨w_running, w_runnable, w_alone, w_named, w_hears, w_ripe, w_room, w_tables⟩
theorem atStart : AtStart classFile x code maxLocals ret World_1 tables_1 room_1 Calls_1 rest_1 Pre_1 launch0 p0 e0 about1 theMethod args0 below0 :=
  ⟨lists_1, trivial, launch0.admits_env _ _ _, launch0.least_env, fairChoices_fair.cas, fairChoices_fair.clock, w_frames, w_args, w_heap, w_applies, ⟨w_consts, trivial⟩, w_rest, w_case⟩
end start1
theorem witness_1 : WitnessClaimed_1 := ⟨start1.p0, start1.e0, start1.about1, start1.theMethod, start1.args0, start1.below0, start1.atStart⟩
end Jvm.Pilot.@@N@@
