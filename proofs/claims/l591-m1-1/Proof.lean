import JvmDerived
import JvmDerived.Pilot.@@N@@Statement
import JvmDerived.Pilot.@@N@@Code
set_option linter.unusedVariables false
set_option linter.unusedSimpArgs false
namespace Jvm.Pilot.@@N@@
open Jvm Jvm.ClassFile Sem Op Lib Jvm.Free Jvm.Stand Jvm.LawKit Jvm.RoadKit Bundle Jvm.Pilot.@@N@@.Jvm.D
section Own
variable {p : Program} {l : Launch} {e : Env} {R : Room} {s : State} {m : MethodId} {args : Array Value} {below : List Frame} {meth : Method} {c : Code} {T : State} {locs : List Loc} {cells slots : Nat} {k n : Nat} {P : Option Value → Heap → List Loc → Prop} {A B : State}
/-- from S0 the run comes to a return with what P says -/
def OG (p : Program) (e : Env) (below : List Frame) (s : State) (k n : Nat) (P : Option Value → Heap → List Loc → Prop) (S0 : State) : Prop :=
  ∃ s₂ o, Steps p.tables e below S0 s₂ ∧ s₂.status = .running ∧ Ended s₂ below o ∧ ∃ v L, o = .returned v ∧ P v s₂.heap L ∧ FrameEnd s o s₂ L k n
theorem OG.trans (h : Steps p.tables e below B A) (g : OG p e below s k n P A) : OG p e below s k n P B := by
  obtain ⟨s₂, o, h1, r⟩ := g
  exact ⟨s₂, o, h.trans h1, r⟩
theorem OG.of (h : ∀ t, Steps p.tables e below A t → Steps p.tables e below B t) (g : OG p e below s k n P A) : OG p e below s k n P B := by
  obtain ⟨s₂, o, h1, r⟩ := g
  exact ⟨s₂, o, h _ h1, r⟩
theorem OG.retN (X : Stand p l e R s m args below meth c T locs cells slots) (hx : p.tables.exec = Jvm.exec) {pc : Nat} {Ls : Array Slot} {z : Int32} {t : FieldType} {rest : List Value} (hret : meth.sig.returnType = some t) (ht : t = .boolean ∨ t = .byte ∨ t = .char ∨ t = .short) (hd : decode c.code pc = .ok (.ireturn, 1)) (hlk : meth.locks = false)
    (hP : P (some (.int (nar t z))) T.heap locs) (hc : cells ≤ k) (hs : slots ≤ n) : OG p e below s k n P (T.setTop (mkF m pc Ls (.int z :: rest))) := by
  obtain ⟨fs, hr, hrun, hended, hW, hsame⟩ := X.leave (v := some (.int (nar t z))) (fun h => by rw [hret] at h; cases h) hlk
  exact ⟨_, _, Jvm.RoadKit.retN X hx hret ht hd hr, hrun, hended, _, _, rfl, hP, ⟨_, rfl⟩, hW, hsame.mono hc hs⟩
theorem OG.retI (X : Stand p l e R s m args below meth c T locs cells slots) (hx : p.tables.exec = Jvm.exec) {pc : Nat} {Ls : Array Slot} {z : Int32} {rest : List Value} (hret : meth.sig.returnType = some .int) (hd : decode c.code pc = .ok (.ireturn, 1)) (hlk : meth.locks = false)
    (hP : P (some (.int z)) T.heap locs) (hc : cells ≤ k) (hs : slots ≤ n) : OG p e below s k n P (T.setTop (mkF m pc Ls (.int z :: rest))) := by
  obtain ⟨fs, hr, hrun, hended, hW, hsame⟩ := X.leave (v := some (.int z)) (fun h => by rw [hret] at h; cases h) hlk
  exact ⟨_, _, retOut X hx hret rfl (Or.inl ⟨rfl, Or.inl rfl, _, rfl⟩) hd hr, hrun, hended, _, _, rfl, hP, ⟨_, rfl⟩, hW, hsame.mono hc hs⟩
theorem OG.retJ (X : Stand p l e R s m args below meth c T locs cells slots) (hx : p.tables.exec = Jvm.exec) {pc : Nat} {Ls : Array Slot} {z : Int64} {rest : List Value} (hret : meth.sig.returnType = some .long) (hd : decode c.code pc = .ok (.lreturn, 1)) (hlk : meth.locks = false)
    (hP : P (some (.long z)) T.heap locs) (hc : cells ≤ k) (hs : slots ≤ n) : OG p e below s k n P (T.setTop (mkF m pc Ls (.long z :: rest))) := by
  obtain ⟨fs, hr, hrun, hended, hW, hsame⟩ := X.leave (v := some (.long z)) (fun h => by rw [hret] at h; cases h) hlk
  exact ⟨_, _, retOut X hx hret rfl (Or.inr (Or.inl ⟨rfl, rfl, _, rfl⟩)) hd hr, hrun, hended, _, _, rfl, hP, ⟨_, rfl⟩, hW, hsame.mono hc hs⟩
theorem OG.retA (X : Stand p l e R s m args below meth c T locs cells slots) (hx : p.tables.exec = Jvm.exec) {pc : Nat} {Ls : Array Slot} {w : Value} {t : FieldType} {rest : List Value} (hret : meth.sig.returnType = some t) (ht : t.isReference = true) (hw : w.isRef = true) (hd : decode c.code pc = .ok (.areturn, 1)) (hlk : meth.locks = false)
    (hP : P (some w) T.heap locs) (hc : cells ≤ k) (hs : slots ≤ n) : OG p e below s k n P (T.setTop (mkF m pc Ls (w :: rest))) := by
  obtain ⟨fs, hr, hrun, hended, hW, hsame⟩ := X.leave (v := some w) (fun h => by rw [hret] at h; cases h) hlk
  have hn : narrow t w = w := by cases t <;> first | (cases ht; done) | rfl
  exact ⟨_, _, retOut X hx hret hn (Or.inr (Or.inr (Or.inr (Or.inr ⟨rfl, ht, hw⟩)))) hd hr, hrun, hended, _, _, rfl, hP, ⟨_, rfl⟩, hW, hsame.mono hc hs⟩
theorem OG.retV (X : Stand p l e R s m args below meth c T locs cells slots) (hx : p.tables.exec = Jvm.exec) {pc : Nat} {Ls : Array Slot} (hret : meth.sig.returnType = none) (hd : decode c.code pc = .ok (.return_, 1)) (hlk : meth.locks = false)
    (hP : P none T.heap locs) (hc : cells ≤ k) (hs : slots ≤ n) : OG p e below s k n P (T.setTop (mkF m pc Ls [])) := by
  obtain ⟨fs, hr, hrun, hended, hW, hsame⟩ := X.leave (v := none) (fun _ => rfl) hlk
  exact ⟨_, _, X.returnOut hx hret hd hr, hrun, hended, _, _, rfl, hP, ⟨_, rfl⟩, hW, hsame.mono hc hs⟩
theorem own_catI (x : Int32) : (Value.int x).category = 1 := rfl
theorem own_catJ (x : Int64) : (Value.long x).category = 2 := rfl
theorem own_catR (x : Addr) : (Value.ref x).category = 1 := rfl
theorem own_catN : Value.null.category = 1 := rfl
theorem own_narB {z : Int32} (h : z = 0 ∨ z = 1) : nar .boolean z = z := by rcases h with rfl | rfl <;> rfl
theorem own_ite01 {c : Prop} [Decidable c] : (if c then (1 : Int32) else 0) = 0 ∨ (if c then (1 : Int32) else 0) = 1 := by by_cases h : c <;> simp [h]
theorem own_eqI {args : Array Value} {first st : State} {o : Option Outcome} {idx : List Nat} {t : Term} {x : Int32} (h : (Jvm.Cond.eq t (.int x)).value args first o st idx = some true) : t.eval args first o idx st = some (.int x) := by
  obtain ⟨a, b, ha, hb, k1, k2⟩ := cmp_v (Or.inl h)
  obtain rfl : Value.int x = b := Option.some.inj hb
  obtain ⟨z, rfl⟩ := k2
  have hz := gotT (P := z = x) (by simp [Cond.value, ha, hb]) h
  rw [ha, hz]
/-- the array at a (of the kind ty) holds v at the place j -/
def ORd (Z : State) (h : Heap) (a : Addr) (ty : FieldType) (j : Int32) (v : Value) : Prop := ∃ cl : Cell, Arr Z h a cl ty ∧ ¬ (j < 0 ∨ cl.slots.size ≤ j.toNatClampNeg) ∧ cl.slots[j.toNatClampNeg]? = some v
theorem own_rd {Z : State} {h : Heap} {a : Addr} {kc : ClassId} {ty : FieldType} {z j : Int32} {vs : List Value} {d v : Value} (F : Arv Z h a kc ty z vs d) (hj : ¬ j < 0 ∧ j < z) (hv : vs.getD j.toNatClampNeg d = v) : ORd Z h a ty j v := by
  obtain ⟨cl, A, -, S, -, H, -⟩ := F
  exact ⟨cl, A, inb_of S hj, H.at (inb_of S hj) hv⟩
theorem ORd.ext {Z : State} {h h' : Heap} {a : Addr} {ty : FieldType} {j : Int32} {v : Value} (F : ORd Z h a ty j v) (E : Ext h h') : ORd Z h' a ty j v := by
  obtain ⟨cl, A, r⟩ := F; exact ⟨cl, A.ext E, r⟩
theorem ORd.other {Z : State} {h h' : Heap} {a b : Addr} {ty : FieldType} {j : Int32} {v w : Value} {sl : Nat} (F : ORd Z h a ty j v) (W : Wr h h' b sl w) (q : a ≠ b) : ORd Z h' a ty j v := by
  obtain ⟨cl, A, r⟩ := F; exact ⟨cl, A.other W q, r⟩
theorem ORd.keep {Z : State} {h h' : Heap} {a : Addr} {ty : FieldType} {j : Int32} {v : Value} {ws : List Addr} (F : ORd Z h a ty j v) (K : Keep h h' ws) (q : a ∉ ws) : ORd Z h' a ty j v := by
  obtain ⟨cl, A, r⟩ := F; exact ⟨cl, ⟨K.2.1 a cl A.1 q, A.2⟩, r⟩
theorem ORd.lt {Z : State} {h : Heap} {a : Addr} {ty : FieldType} {j : Int32} {v : Value} (F : ORd Z h a ty j v) : a < h.size := by
  obtain ⟨cl, A, r⟩ := F; exact A.lt
theorem ORd.start {Z : State} {args : Array Value} {t : Term} {a : Addr} {ty : FieldType} {j : Int32} {v : Value} (ev : t.eval args Z none [] Z = some (.ref a)) (hx : (Jvm.Cond.arrayOf t ty).value args Z none Z [] = some true) (hj : ¬ j < 0) (he : (Term.elem t (.int j)).eval args Z none [] Z = some v) : ORd Z Z.heap a ty j v := by
  obtain ⟨c, A⟩ := Arr.start ev hx
  have hA : Z.arrayAt? a = some c := Arr.fin (Vm.Alike.refl _) A
  rw [elem_f ev (Term.int_eval j) hA hj] at he
  exact ⟨c, A, fun q => q.elim hj fun q => (by rw [Array.getElem?_eq_none q] at he; cases he), he⟩
end Own

theorem own_at {a0 : Array Value} {Z : State} (hw : ∀ d ∈ tables_1, d.before a0 Z = true) (i : Nat) {d : Jvm.Cond} (h : tables_1[i]? = some d) : d.before a0 Z = true := hw _ (List.mem_of_getElem? h)
abbrev own_L0 (y0 : Addr) (y1 : Int32) : Array Slot := #[.val (.ref y0), .val (.int y1), .unset, .unset, .unset, .unset, .unset, .unset, .unset]
abbrev own_L1 (y0 : Addr) (y1 : Int32) (y2 : Addr) : Array Slot := #[.val (.ref y0), .val (.int y1), .val (.ref y2), .unset, .unset, .unset, .unset, .unset, .unset]
abbrev own_L2 (y0 : Addr) (y1 : Int32) (y2 : Addr) (y3 : Int32) : Array Slot := #[.val (.ref y0), .val (.int y1), .val (.ref y2), .val (.int y3), .unset, .unset, .unset, .unset, .unset]
abbrev own_L3 (y0 : Addr) (y1 : Int32) (y2 : Addr) (y3 : Int32) (y4 : Int32) : Array Slot := #[.val (.ref y0), .val (.int y1), .val (.ref y2), .val (.int y3), .val (.int y4), .unset, .unset, .unset, .unset]
abbrev own_L4 (y0 : Addr) (y1 : Int32) (y2 : Addr) (y3 : Int32) (y4 : Int32) (y5 : Int32) : Array Slot := #[.val (.ref y0), .val (.int y1), .val (.ref y2), .val (.int y3), .val (.int y4), .val (.int y5), .unset, .unset, .unset]
abbrev own_L5 (y0 : Addr) (y1 : Int32) (y2 : Addr) (y3 : Int32) (y4 : Int32) (y5 : Int32) (y6 : Int32) : Array Slot := #[.val (.ref y0), .val (.int y1), .val (.ref y2), .val (.int y3), .val (.int y4), .val (.int y5), .val (.int y6), .unset, .unset]
abbrev own_L6 (y0 : Addr) (y1 : Int32) (y2 : Addr) (y3 : Int32) (y4 : Int32) (y5 : Int32) (y6 : Int32) (y7 : Int64) : Array Slot := #[.val (.ref y0), .val (.int y1), .val (.ref y2), .val (.int y3), .val (.int y4), .val (.int y5), .val (.int y6), .val (.long y7), .second]
abbrev own_L7 (y0 : Addr) (y1 : Addr) (y2 : Int64) (y3 : Addr) (y4 : Int64) (y5 : Int32) (y6 : Int32) (y7 : Int32) : Array Slot := #[.val (.ref y0), .val (.ref y1), .val (.long y2), .second, .val (.ref y3), .val (.long y4), .second, .val (.int y5), .val (.int y6), .val (.int y7)]
abbrev own_L8 (y0 : Addr) : Array Slot := #[.val (.ref y0), .unset, .unset, .unset, .unset, .unset, .unset, .unset, .unset, .unset]
abbrev own_L9 (y0 : Addr) (y1 : Addr) : Array Slot := #[.val (.ref y0), .val (.ref y1), .unset, .unset, .unset, .unset, .unset, .unset, .unset, .unset]
abbrev own_L10 (y0 : Addr) (y1 : Addr) (y2 : Int32) (y3 : Int32) (y4 : Slot) (y5 : Slot) : Array Slot := #[.val (.ref y0), .val (.ref y1), .val (.int y2), .val (.int y3), y4, y5, .unset, .unset, .unset, .unset]
abbrev own_L11 (y0 : Addr) (y1 : Addr) (y2 : Int32) (y3 : Int32) (y4 : Int64) : Array Slot := #[.val (.ref y0), .val (.ref y1), .val (.int y2), .val (.int y3), .val (.long y4), .second, .unset, .unset, .unset, .unset]
abbrev own_L12 (y0 : Addr) (y1 : Addr) (y2 : Int64) (y3 : Int32) (y4 : Slot) (y5 : Slot) : Array Slot := #[.val (.ref y0), .val (.ref y1), .val (.long y2), .second, .val (.int y3), y4, y5, .unset, .unset, .unset]
abbrev own_L13 (y0 : Addr) (y1 : Addr) (y2 : Int64) (y3 : Int32) (y4 : Int64) : Array Slot := #[.val (.ref y0), .val (.ref y1), .val (.long y2), .second, .val (.int y3), .val (.long y4), .second, .unset, .unset, .unset]
abbrev own_L14 (y0 : Addr) (y1 : Addr) (y2 : Int32) : Array Slot := #[.val (.ref y0), .val (.ref y1), .val (.int y2), .unset, .unset, .unset, .unset, .unset, .unset, .unset]
abbrev own_L15 (y0 : Addr) (y1 : Addr) (y2 : Int32) (y3 : Int32) : Array Slot := #[.val (.ref y0), .val (.ref y1), .val (.int y2), .val (.int y3), .unset, .unset, .unset, .unset, .unset, .unset]
abbrev own_L16 (y0 : Addr) (y1 : Addr) (y2 : Int64) (y3 : Slot) (y4 : Slot) : Array Slot := #[.val (.ref y0), .val (.ref y1), .val (.long y2), .second, y3, y4, .unset, .unset, .unset, .unset]
abbrev own_L17 (y0 : Addr) (y1 : Addr) (y2 : Int64) (y3 : Int32) : Array Slot := #[.val (.ref y0), .val (.ref y1), .val (.long y2), .second, .val (.int y3), .unset, .unset, .unset, .unset, .unset]
abbrev own_L18 (y0 : Addr) (y1 : Addr) (y2 : Int64) (y3 : Addr) (y4 : Slot) (y5 : Slot) : Array Slot := #[.val (.ref y0), .val (.ref y1), .val (.long y2), .second, .val (.ref y3), y4, y5, .unset, .unset, .unset]
abbrev own_L19 (y0 : Addr) (y1 : Addr) (y2 : Int64) (y3 : Addr) (y4 : Int64) : Array Slot := #[.val (.ref y0), .val (.ref y1), .val (.long y2), .second, .val (.ref y3), .val (.long y4), .second, .unset, .unset, .unset]
abbrev own_L20 (y0 : Addr) (y1 : Addr) (y2 : Int64) (y3 : Addr) (y4 : Int64) (y5 : Int32) : Array Slot := #[.val (.ref y0), .val (.ref y1), .val (.long y2), .second, .val (.ref y3), .val (.long y4), .second, .val (.int y5), .unset, .unset]
abbrev own_L21 (y0 : Addr) (y1 : Addr) (y2 : Int64) (y3 : Addr) (y4 : Int64) (y5 : Int32) (y6 : Int32) : Array Slot := #[.val (.ref y0), .val (.ref y1), .val (.long y2), .second, .val (.ref y3), .val (.long y4), .second, .val (.int y5), .val (.int y6), .unset]
abbrev own_L22 (y0 : Int64) (y1 : Int32) : Array Slot := #[.val (.long y0), .second, .val (.int y1), .unset]
abbrev own_L23 (y0 : Int64) (y1 : Int32) (y2 : Int32) : Array Slot := #[.val (.long y0), .second, .val (.int y1), .val (.int y2)]
abbrev own_L24 (y0 : Addr) (y1 : Int32) : Array Slot := #[.val (.ref y0), .val (.int y1)]
abbrev own_L25 (y0 : Int64) (y1 : Int64) (y2 : Int64) (y3 : Int64) (y4 : Int64) (y5 : Int32) (y6 : Int64) (y7 : Addr) : Array Slot := #[.val (.long y0), .second, .val (.long y1), .second, .val (.long y2), .second, .val (.long y3), .second, .val (.long y4), .second, .val (.int y5), .val (.long y6), .second, .val (.ref y7), .unset, .unset, .unset, .unset, .unset, .unset, .unset, .unset, .unset, .unset, .unset, .unset, .unset, .unset, .unset, .unset, .unset, .unset, .unset, .unset, .unset, .unset, .unset, .unset, .unset, .unset, .unset, .unset, .unset]
abbrev own_L26 (y0 : Int64) (y1 : Int64) (y2 : Int64) (y3 : Int64) (y4 : Int64) (y5 : Int32) (y6 : Int64) (y7 : Addr) (y8 : Int64) : Array Slot := #[.val (.long y0), .second, .val (.long y1), .second, .val (.long y2), .second, .val (.long y3), .second, .val (.long y4), .second, .val (.int y5), .val (.long y6), .second, .val (.ref y7), .val (.long y8), .second, .unset, .unset, .unset, .unset, .unset, .unset, .unset, .unset, .unset, .unset, .unset, .unset, .unset, .unset, .unset, .unset, .unset, .unset, .unset, .unset, .unset, .unset, .unset, .unset, .unset, .unset, .unset]
abbrev own_L27 (y0 : Int64) (y1 : Int64) (y2 : Int64) (y3 : Int64) (y4 : Int64) (y5 : Int32) (y6 : Int64) (y7 : Addr) (y8 : Int64) (y9 : Int64) : Array Slot := #[.val (.long y0), .second, .val (.long y1), .second, .val (.long y2), .second, .val (.long y3), .second, .val (.long y4), .second, .val (.int y5), .val (.long y6), .second, .val (.ref y7), .val (.long y8), .second, .val (.long y9), .second, .unset, .unset, .unset, .unset, .unset, .unset, .unset, .unset, .unset, .unset, .unset, .unset, .unset, .unset, .unset, .unset, .unset, .unset, .unset, .unset, .unset, .unset, .unset, .unset, .unset]
abbrev own_L28 (y0 : Int64) (y1 : Int64) (y2 : Int64) (y3 : Int64) (y4 : Int64) (y5 : Int32) (y6 : Int64) (y7 : Addr) (y8 : Int64) (y9 : Int64) (y10 : Int64) : Array Slot := #[.val (.long y0), .second, .val (.long y1), .second, .val (.long y2), .second, .val (.long y3), .second, .val (.long y4), .second, .val (.int y5), .val (.long y6), .second, .val (.ref y7), .val (.long y8), .second, .val (.long y9), .second, .val (.long y10), .second, .unset, .unset, .unset, .unset, .unset, .unset, .unset, .unset, .unset, .unset, .unset, .unset, .unset, .unset, .unset, .unset, .unset, .unset, .unset, .unset, .unset, .unset, .unset]
abbrev own_L29 (y0 : Int64) (y1 : Int64) (y2 : Int64) (y3 : Int64) (y4 : Int64) (y5 : Int32) (y6 : Int64) (y7 : Addr) (y8 : Int64) (y9 : Int64) (y10 : Int64) (y11 : Int64) : Array Slot := #[.val (.long y0), .second, .val (.long y1), .second, .val (.long y2), .second, .val (.long y3), .second, .val (.long y4), .second, .val (.int y5), .val (.long y6), .second, .val (.ref y7), .val (.long y8), .second, .val (.long y9), .second, .val (.long y10), .second, .val (.long y11), .second, .unset, .unset, .unset, .unset, .unset, .unset, .unset, .unset, .unset, .unset, .unset, .unset, .unset, .unset, .unset, .unset, .unset, .unset, .unset, .unset, .unset]
abbrev own_L30 (y0 : Int64) (y1 : Int64) (y2 : Int64) (y3 : Int64) (y4 : Int64) (y5 : Int32) (y6 : Int64) (y7 : Addr) (y8 : Int64) (y9 : Int64) (y10 : Int64) (y11 : Int64) (y12 : Int64) : Array Slot := #[.val (.long y0), .second, .val (.long y1), .second, .val (.long y2), .second, .val (.long y3), .second, .val (.long y4), .second, .val (.int y5), .val (.long y6), .second, .val (.ref y7), .val (.long y8), .second, .val (.long y9), .second, .val (.long y10), .second, .val (.long y11), .second, .val (.long y12), .second, .unset, .unset, .unset, .unset, .unset, .unset, .unset, .unset, .unset, .unset, .unset, .unset, .unset, .unset, .unset, .unset, .unset, .unset, .unset]
abbrev own_L31 (y0 : Int64) (y1 : Int64) (y2 : Int64) (y3 : Int64) (y4 : Int64) (y5 : Int32) (y6 : Int64) (y7 : Addr) (y8 : Int64) (y9 : Int64) (y10 : Int64) (y11 : Int64) (y12 : Int64) (y13 : Int64) : Array Slot := #[.val (.long y0), .second, .val (.long y1), .second, .val (.long y2), .second, .val (.long y3), .second, .val (.long y4), .second, .val (.int y5), .val (.long y6), .second, .val (.ref y7), .val (.long y8), .second, .val (.long y9), .second, .val (.long y10), .second, .val (.long y11), .second, .val (.long y12), .second, .val (.long y13), .second, .unset, .unset, .unset, .unset, .unset, .unset, .unset, .unset, .unset, .unset, .unset, .unset, .unset, .unset, .unset, .unset, .unset]
abbrev own_L32 (y0 : Int64) (y1 : Int64) (y2 : Int64) (y3 : Int64) (y4 : Int64) (y5 : Int32) (y6 : Int64) (y7 : Addr) (y8 : Int64) (y9 : Int64) (y10 : Int64) (y11 : Int64) (y12 : Int64) (y13 : Int64) (y14 : Int64) : Array Slot := #[.val (.long y0), .second, .val (.long y1), .second, .val (.long y2), .second, .val (.long y3), .second, .val (.long y4), .second, .val (.int y5), .val (.long y6), .second, .val (.ref y7), .val (.long y8), .second, .val (.long y9), .second, .val (.long y10), .second, .val (.long y11), .second, .val (.long y12), .second, .val (.long y13), .second, .val (.long y14), .second, .unset, .unset, .unset, .unset, .unset, .unset, .unset, .unset, .unset, .unset, .unset, .unset, .unset, .unset, .unset]
abbrev own_L33 (y0 : Int64) (y1 : Int64) (y2 : Int64) (y3 : Int64) (y4 : Int64) (y5 : Int32) (y6 : Int64) (y7 : Addr) (y8 : Int64) (y9 : Int64) (y10 : Int64) (y11 : Int64) (y12 : Int64) (y13 : Int64) (y14 : Int64) (y15 : Int64) : Array Slot := #[.val (.long y0), .second, .val (.long y1), .second, .val (.long y2), .second, .val (.long y3), .second, .val (.long y4), .second, .val (.int y5), .val (.long y6), .second, .val (.ref y7), .val (.long y8), .second, .val (.long y9), .second, .val (.long y10), .second, .val (.long y11), .second, .val (.long y12), .second, .val (.long y13), .second, .val (.long y14), .second, .val (.long y15), .second, .unset, .unset, .unset, .unset, .unset, .unset, .unset, .unset, .unset, .unset, .unset, .unset, .unset]
abbrev own_L34 (y0 : Int64) (y1 : Int64) (y2 : Int64) (y3 : Int64) (y4 : Int64) (y5 : Int32) (y6 : Int64) (y7 : Addr) (y8 : Int64) (y9 : Int64) (y10 : Int64) (y11 : Int64) (y12 : Int64) (y13 : Int64) (y14 : Int64) (y15 : Int64) (y16 : Int64) : Array Slot := #[.val (.long y0), .second, .val (.long y1), .second, .val (.long y2), .second, .val (.long y3), .second, .val (.long y4), .second, .val (.int y5), .val (.long y6), .second, .val (.ref y7), .val (.long y8), .second, .val (.long y9), .second, .val (.long y10), .second, .val (.long y11), .second, .val (.long y12), .second, .val (.long y13), .second, .val (.long y14), .second, .val (.long y15), .second, .val (.long y16), .second, .unset, .unset, .unset, .unset, .unset, .unset, .unset, .unset, .unset, .unset, .unset]
abbrev own_L35 (y0 : Int64) (y1 : Int64) (y2 : Int64) (y3 : Int64) (y4 : Int64) (y5 : Int32) (y6 : Int64) (y7 : Addr) (y8 : Int64) (y9 : Int64) (y10 : Int64) (y11 : Int64) (y12 : Int64) (y13 : Int64) (y14 : Int64) (y15 : Int64) (y16 : Int64) (y17 : Int64) : Array Slot := #[.val (.long y0), .second, .val (.long y1), .second, .val (.long y2), .second, .val (.long y3), .second, .val (.long y4), .second, .val (.int y5), .val (.long y6), .second, .val (.ref y7), .val (.long y8), .second, .val (.long y9), .second, .val (.long y10), .second, .val (.long y11), .second, .val (.long y12), .second, .val (.long y13), .second, .val (.long y14), .second, .val (.long y15), .second, .val (.long y16), .second, .val (.long y17), .second, .unset, .unset, .unset, .unset, .unset, .unset, .unset, .unset, .unset]
abbrev own_L36 (y0 : Int64) (y1 : Int64) (y2 : Int64) (y3 : Int64) (y4 : Int64) (y5 : Int32) (y6 : Int64) (y7 : Addr) (y8 : Int64) (y9 : Int64) (y10 : Int64) (y11 : Int64) (y12 : Int64) (y13 : Int64) (y14 : Int64) (y15 : Int64) (y16 : Int64) (y17 : Int64) (y18 : Addr) : Array Slot := #[.val (.long y0), .second, .val (.long y1), .second, .val (.long y2), .second, .val (.long y3), .second, .val (.long y4), .second, .val (.int y5), .val (.long y6), .second, .val (.ref y7), .val (.long y8), .second, .val (.long y9), .second, .val (.long y10), .second, .val (.long y11), .second, .val (.long y12), .second, .val (.long y13), .second, .val (.long y14), .second, .val (.long y15), .second, .val (.long y16), .second, .val (.long y17), .second, .val (.ref y18), .unset, .unset, .unset, .unset, .unset, .unset, .unset, .unset]
abbrev own_L37 (y0 : Int64) (y1 : Int64) (y2 : Int64) (y3 : Int64) (y4 : Int64) (y5 : Int32) (y6 : Int64) (y7 : Addr) (y8 : Int64) (y9 : Int64) (y10 : Int64) (y11 : Int64) (y12 : Int64) (y13 : Int64) (y14 : Int64) (y15 : Int64) (y16 : Int64) (y17 : Int64) (y18 : Addr) (y19 : Int64) : Array Slot := #[.val (.long y0), .second, .val (.long y1), .second, .val (.long y2), .second, .val (.long y3), .second, .val (.long y4), .second, .val (.int y5), .val (.long y6), .second, .val (.ref y7), .val (.long y8), .second, .val (.long y9), .second, .val (.long y10), .second, .val (.long y11), .second, .val (.long y12), .second, .val (.long y13), .second, .val (.long y14), .second, .val (.long y15), .second, .val (.long y16), .second, .val (.long y17), .second, .val (.ref y18), .val (.long y19), .second, .unset, .unset, .unset, .unset, .unset, .unset]
abbrev own_L38 (y0 : Int64) (y1 : Int64) (y2 : Int64) (y3 : Int64) (y4 : Int64) (y5 : Int32) (y6 : Int64) (y7 : Addr) (y8 : Int64) (y9 : Int64) (y10 : Int64) (y11 : Int64) (y12 : Int64) (y13 : Int64) (y14 : Int64) (y15 : Int64) (y16 : Int64) (y17 : Int64) (y18 : Addr) (y19 : Int64) (y20 : Int64) : Array Slot := #[.val (.long y0), .second, .val (.long y1), .second, .val (.long y2), .second, .val (.long y3), .second, .val (.long y4), .second, .val (.int y5), .val (.long y6), .second, .val (.ref y7), .val (.long y8), .second, .val (.long y9), .second, .val (.long y10), .second, .val (.long y11), .second, .val (.long y12), .second, .val (.long y13), .second, .val (.long y14), .second, .val (.long y15), .second, .val (.long y16), .second, .val (.long y17), .second, .val (.ref y18), .val (.long y19), .second, .val (.long y20), .second, .unset, .unset, .unset, .unset]
abbrev own_L39 (y0 : Int64) (y1 : Int64) (y2 : Int64) (y3 : Int64) (y4 : Int64) (y5 : Int32) (y6 : Int64) (y7 : Addr) (y8 : Int64) (y9 : Int64) (y10 : Int64) (y11 : Int64) (y12 : Int64) (y13 : Int64) (y14 : Int64) (y15 : Int64) (y16 : Int64) (y17 : Int64) (y18 : Addr) (y19 : Int64) (y20 : Int64) (y21 : Int64) : Array Slot := #[.val (.long y0), .second, .val (.long y1), .second, .val (.long y2), .second, .val (.long y3), .second, .val (.long y4), .second, .val (.int y5), .val (.long y6), .second, .val (.ref y7), .val (.long y8), .second, .val (.long y9), .second, .val (.long y10), .second, .val (.long y11), .second, .val (.long y12), .second, .val (.long y13), .second, .val (.long y14), .second, .val (.long y15), .second, .val (.long y16), .second, .val (.long y17), .second, .val (.ref y18), .val (.long y19), .second, .val (.long y20), .second, .val (.long y21), .second, .unset, .unset]
abbrev own_L40 (y0 : Int64) (y1 : Int64) (y2 : Int64) (y3 : Int64) (y4 : Int64) (y5 : Int32) (y6 : Int64) (y7 : Addr) (y8 : Int64) (y9 : Int64) (y10 : Int64) (y11 : Int64) (y12 : Int64) (y13 : Int64) (y14 : Int64) (y15 : Int64) (y16 : Int64) (y17 : Int64) (y18 : Addr) (y19 : Int64) (y20 : Int64) (y21 : Int64) (y22 : Int64) : Array Slot := #[.val (.long y0), .second, .val (.long y1), .second, .val (.long y2), .second, .val (.long y3), .second, .val (.long y4), .second, .val (.int y5), .val (.long y6), .second, .val (.ref y7), .val (.long y8), .second, .val (.long y9), .second, .val (.long y10), .second, .val (.long y11), .second, .val (.long y12), .second, .val (.long y13), .second, .val (.long y14), .second, .val (.long y15), .second, .val (.long y16), .second, .val (.long y17), .second, .val (.ref y18), .val (.long y19), .second, .val (.long y20), .second, .val (.long y21), .second, .val (.long y22), .second]
abbrev own_L41 (y0 : Int64) (y1 : Int64) (y2 : Int64) (y3 : Int64) (y4 : Int64) (y5 : Int32) : Array Slot := #[.val (.long y0), .second, .val (.long y1), .second, .val (.long y2), .second, .val (.long y3), .second, .val (.long y4), .second, .val (.int y5), .unset, .unset, .unset, .unset, .unset, .unset, .unset, .unset, .unset, .unset, .unset, .unset, .unset, .unset, .unset, .unset, .unset, .unset, .unset, .unset, .unset, .unset, .unset, .unset, .unset, .unset, .unset, .unset, .unset, .unset, .unset, .unset]
abbrev own_L42 (y0 : Int64) (y1 : Int64) (y2 : Int64) (y3 : Int64) (y4 : Int64) (y5 : Int32) (y6 : Int64) : Array Slot := #[.val (.long y0), .second, .val (.long y1), .second, .val (.long y2), .second, .val (.long y3), .second, .val (.long y4), .second, .val (.int y5), .val (.long y6), .second, .unset, .unset, .unset, .unset, .unset, .unset, .unset, .unset, .unset, .unset, .unset, .unset, .unset, .unset, .unset, .unset, .unset, .unset, .unset, .unset, .unset, .unset, .unset, .unset, .unset, .unset, .unset, .unset, .unset, .unset]
section OwnL
theorem own_n10 {i : Nat} (h : i < 256) : (Int32.ofNat i).toNatClampNeg = i := by
  rw [Int32.toNatClampNeg, Int32.toInt_ofNat_of_lt (by omega)]; rfl
theorem own_nl {i : Nat} (h : i < 10) : ¬ Int32.ofNat i < 0 ∧ Int32.ofNat i < (10 : Int32) := by
  have e0 : (0 : Int32).toInt = 0 := rfl
  have e10 : (10 : Int32).toInt = 10 := rfl
  rw [Int32.lt_iff_toInt_lt, Int32.lt_iff_toInt_lt, Int32.toInt_ofNat_of_lt (by omega)]
  omega
theorem own_rdL {Z : State} {h : Heap} {a : Addr} {kc : ClassId} {vs : List Int64} (F : Arv Z h a kc .long (10 : Int32) (vs.map Value.long) (.long (0 : Int64))) (hl : vs.length = 10) {j : Int32} {i : Nat} (hj : j = Int32.ofNat i) (hi : i < 10) : ORd Z h a .long j (.long (vs.getD i 0)) := by
  subst hj
  refine own_rd F (own_nl hi) ?_
  rw [own_n10 (by omega)]
  simp [List.getD_eq_getElem?_getD, hl, hi]
theorem own_stJ {p : Program} {l : Launch} {e : Env} {R : Room} {s : State} {m : MethodId} {args : Array Value} {below : List Frame} {meth : Method} {c : Code} {T : State} {locs : List Loc} {cells slots : Nat} {Z : State} {h : Heap}
    (X : Stand p l e R s m args below meth c T locs cells slots) (hx : p.tables.exec = Jvm.exec) (hZ : Z.Warmed39 s.vm) (eT : T.heap = h) {a : Addr} {kc : ClassId} {vs : List Int64} (F : Arv Z h a kc .long (10 : Int32) (vs.map Value.long) (.long (0 : Int64))) (hl : vs.length = 10) {j : Int32} {i : Nat} (hj : j = Int32.ofNat i) (hi : i < 10)
    {x : Int64} {g : JFrame} (hg : g.method = m) {rest : List Value} (hs : g.stack = .long x :: .int j :: .ref a :: rest) (hd : decode c.code g.pc = .ok (.lastore, 1)) :
    ∃ T' h', Stand p l e R s m args below meth c T' (locs ++ [⟨a, j.toNatClampNeg⟩]) cells slots ∧ T'.heap = h' ∧ Wr h h' a j.toNatClampNeg (.long x) ∧ Arv Z h' a kc .long (10 : Int32) ((vs.set i x).map Value.long) (.long (0 : Int64)) ∧ ∀ target, Steps p.tables e below (T'.setTop { g with pc := g.pc + 1, stack := rest }) target → Steps p.tables e below (T.setTop g) target := by
  subst hj
  obtain ⟨cl, A, q1, S, q3, H, G⟩ := F
  obtain ⟨T', h', X', e', W, st⟩ := stJ X hx hZ eT A (inb_of S (own_nl hi)) hg hs hd
  refine ⟨T', h', X', e', W, ?_, st⟩
  rw [List.map_set]
  exact Arv.set A q1 S q3 H G rfl W i (own_n10 (by omega)) (by simp [hl, hi])
def OTwo (s4 s5 : Slot) : Prop := (s4 = .unset ∧ s5 = .unset) ∨ ∃ q : Int64, s4 = .val (.long q) ∧ s5 = .second
theorem own_os4J {v0 v1 : Addr} {r i : Int32} {t4 t5 : Slot} (h : OTwo t4 t5) {x : Int64} : storeLocals #[.val (.ref v0), .val (.ref v1), .val (.int r), .val (.int i), t4, t5, .unset, .unset, .unset, .unset] 4 (.long x) = some #[.val (.ref v0), .val (.ref v1), .val (.int r), .val (.int i), .val (.long x), .second, .unset, .unset, .unset, .unset] := by
  rcases h with ⟨rfl, rfl⟩ | ⟨q, rfl, rfl⟩ <;> rfl
theorem own_os4I {v0 v1 : Addr} {q : Int64} {t4 t5 : Slot} (h : OTwo t4 t5) {x : Int32} : storeLocals #[.val (.ref v0), .val (.ref v1), .val (.long q), .second, t4, t5, .unset, .unset, .unset, .unset] 4 (.int x) = some #[.val (.ref v0), .val (.ref v1), .val (.long q), .second, .val (.int x), .unset, .unset, .unset, .unset, .unset] := by
  rcases h with ⟨rfl, rfl⟩ | ⟨q, rfl, rfl⟩ <;> rfl
theorem own_one (i : Nat) : Int32.ofNat i + (1 : Int32) = Int32.ofNat (i + 1) := (Int32.ofNat_add i 1).symm
end OwnL
section OwnB
theorem own_n32 {i : Nat} (h : i < 32) : ¬ Int32.ofNat i < 0 ∧ Int32.ofNat i < (32 : Int32) := by
  have e0 : (0 : Int32).toInt = 0 := rfl
  have e10 : (32 : Int32).toInt = 32 := rfl
  rw [Int32.lt_iff_toInt_lt, Int32.lt_iff_toInt_lt, Int32.toInt_ofNat_of_lt (by omega)]
  omega
theorem own_rdB {Z : State} {h : Heap} {a : Addr} {kc : ClassId} {vs : List Int32} (F : Arv Z h a kc .byte (32 : Int32) (vs.map Value.int) (.int (0 : Int32))) (hl : vs.length = 32) {j : Int32} {i : Nat} (hj : j = Int32.ofNat i) (hi : i < 32) : ORd Z h a .byte j (.int (vs.getD i 0)) := by
  subst hj
  refine own_rd F (own_n32 hi) ?_
  rw [own_n10 (by omega)]
  simp [List.getD_eq_getElem?_getD, hl, hi]
theorem own_stB {p : Program} {l : Launch} {e : Env} {R : Room} {s : State} {m : MethodId} {args : Array Value} {below : List Frame} {meth : Method} {c : Code} {T : State} {locs : List Loc} {cells slots : Nat} {Z : State} {h : Heap}
    (X : Stand p l e R s m args below meth c T locs cells slots) (hx : p.tables.exec = Jvm.exec) (hZ : Z.Warmed39 s.vm) (eT : T.heap = h) {a : Addr} {kc : ClassId} {vs : List Int32} (F : Arv Z h a kc .byte (32 : Int32) (vs.map Value.int) (.int (0 : Int32))) (hl : vs.length = 32) {j : Int32} {i : Nat} (hj : j = Int32.ofNat i) (hi : i < 32)
    {x : Int32} {g : JFrame} (hg : g.method = m) {rest : List Value} (hs : g.stack = .int x :: .int j :: .ref a :: rest) (hd : decode c.code g.pc = .ok (.bastore, 1)) :
    ∃ T' h', Stand p l e R s m args below meth c T' (locs ++ [⟨a, j.toNatClampNeg⟩]) cells slots ∧ T'.heap = h' ∧ Wr h h' a j.toNatClampNeg (.int x.toInt8.toInt32) ∧ Arv Z h' a kc .byte (32 : Int32) ((vs.set i x.toInt8.toInt32).map Value.int) (.int (0 : Int32)) ∧ ∀ target, Steps p.tables e below (T'.setTop { g with pc := g.pc + 1, stack := rest }) target → Steps p.tables e below (T.setTop g) target := by
  subst hj
  obtain ⟨cl, A, q1, S, q3, H, G⟩ := F
  obtain ⟨T', h', X', e', W, st⟩ := stB X hx hZ eT A (inb_of S (own_n32 hi)) hg hs hd
  refine ⟨T', h', X', e', W, ?_, st⟩
  rw [List.map_set]
  exact Arv.set A q1 S q3 H G (fits_nar_byte _) W i (own_n10 (by omega)) (by simp [hl, hi])
end OwnB


def own_pos (j : Nat) : Int32 := match j with | 0 => 0 | 1 => 26 | 2 => 51 | 3 => 77 | 4 => 102 | 5 => 128 | 6 => 153 | 7 => 179 | 8 => 204 | 9 => 230 | _ => 0
def own_bits (j : Nat) : Int32 := match j with | 0 => 26 | 1 => 25 | 2 => 26 | 3 => 25 | 4 => 26 | 5 => 25 | 6 => 26 | 7 => 25 | 8 => 26 | 9 => 25 | _ => 0
theorem own_m3 (x : Int32) : ∃ n : Nat, n < 4 ∧ (x &&& (3 : Int32)) = Int32.ofNat n := by
  refine ⟨(x &&& 3).toBitVec.toNat, ?_, ?_⟩
  · simp only [Int32.toBitVec_and, BitVec.toNat_and]
    exact Nat.lt_of_le_of_lt Nat.and_le_right (by decide)
  · apply Int32.toBitVec_inj.mp
    show _ = BitVec.ofNat 32 _
    rw [BitVec.ofNat_toNat]; simp


def own_c (vs : List Int64) (i : Nat) : Int64 := ((vs.getD i 0) >>> ((own_bits i).toInt64 &&& 63))
def own_w (vs : List Int64) (i : Nat) : List Int64 := (vs.set i ((vs.getD i 0) - ((own_c vs i) <<< ((own_bits i).toInt64 &&& 63))))
def own_tA (vs : List Int64) (i : Nat) : List Int64 := if i + 1 < 10 then ((own_w vs i).set (i + 1) (((own_w vs i).getD (i + 1) 0) + (own_c vs i))) else ((own_w vs i).set 0 (((own_w vs i).getD 0 0) + ((19 : Int64) * (own_c vs i))))
def own_run : Nat → Nat → List Int64 → List Int64
  | 0, _, vs => vs
  | k + 1, i, vs => own_run k (i + 1) (own_tA vs i)
def own_qq : Nat → List Int64 → Int64
  | 0, vs => (((vs.getD 0 0) + (19 : Int64)) >>> ((26 : Int32).toInt64 &&& 63))
  | i + 1, vs => (((vs.getD (i + 1) 0) + (own_qq i vs)) >>> ((own_bits (i + 1)).toInt64 &&& 63))
def own_a (vs : List Int64) : List Int64 := (vs.set 0 ((vs.getD 0 0) + ((19 : Int64) * (own_qq 9 vs))))
def own_3 (vs : List Int64) : List Int64 := own_run 10 0 (own_run 10 0 (own_run 10 0 vs))
def own_fin (vs : List Int64) : List Int64 := ((own_run 9 0 (own_a (own_3 vs))).set 9 (((own_run 9 0 (own_a (own_3 vs))).getD 9 0) &&& (((1 : Int64) <<< ((25 : Int32).toInt64 &&& 63)) - (1 : Int64))))
theorem own_tA_len (vs : List Int64) (i : Nat) : (own_tA vs i).length = vs.length := by
  rw [own_tA]; by_cases h : i + 1 < 10
  · rw [if_pos h]; simp [own_w]
  · rw [if_neg h]; simp [own_w]
theorem own_run_len : ∀ (k i : Nat) (vs : List Int64), (own_run k i vs).length = vs.length
  | 0, _, _ => rfl
  | k + 1, i, vs => (own_run_len k (i + 1) (own_tA vs i)).trans (own_tA_len vs i)


theorem own_ltn {i n : Nat} (h : i < n) (hn : n < 256) : Int32.ofNat i < Int32.ofNat n := by
  rw [Int32.lt_iff_toInt_lt, Int32.toInt_ofNat_of_lt (by omega), Int32.toInt_ofNat_of_lt (by omega)]; omega
theorem own_ltm {i : Nat} (h : i = 10) : ¬ Int32.ofNat i < (10 : Int32) := by subst h; decide
theorem own_tA_lt {vs : List Int64} {i : Nat} (h : i + 1 < 10) : own_tA vs i = ((own_w vs i).set (i + 1) (((own_w vs i).getD (i + 1) 0) + (own_c vs i))) := if_pos h
theorem own_tA_ge {vs : List Int64} {i : Nat} (h : ¬ i + 1 < 10) : own_tA vs i = ((own_w vs i).set 0 (((own_w vs i).getD 0 0) + ((19 : Int64) * (own_c vs i)))) := if_neg h
theorem own_os5J {v0 v1 : Addr} {r : Int64} {i : Int32} {t4 t5 : Slot} (h : OTwo t4 t5) {x : Int64} : storeLocals #[.val (.ref v0), .val (.ref v1), .val (.long r), .second, .val (.int i), t4, t5, .unset, .unset, .unset] 5 (.long x) = some #[.val (.ref v0), .val (.ref v1), .val (.long r), .second, .val (.int i), .val (.long x), .second, .unset, .unset, .unset] := by
  rcases h with ⟨rfl, rfl⟩ | ⟨q, rfl, rfl⟩ <;> rfl
theorem own_os5K {v0 v1 v4 : Addr} {r : Int64} {t4 t5 : Slot} (h : OTwo t4 t5) {x : Int64} : storeLocals #[.val (.ref v0), .val (.ref v1), .val (.long r), .second, .val (.ref v4), t4, t5, .unset, .unset, .unset] 5 (.long x) = some #[.val (.ref v0), .val (.ref v1), .val (.long r), .second, .val (.ref v4), .val (.long x), .second, .unset, .unset, .unset] := by
  rcases h with ⟨rfl, rfl⟩ | ⟨q, rfl, rfl⟩ <;> rfl

def own_u0 (W : List Int64) (q : Int64) : Int64 := (q ||| ((W.getD 0 0) <<< ((0 : Int32).toInt64 &&& 63)))
def own_u1 (W : List Int64) (q : Int64) : Int64 := (XT.ushrL (own_u0 W q) (8 : Int32))
def own_u2 (W : List Int64) (q : Int64) : Int64 := (XT.ushrL (own_u1 W q) (8 : Int32))
def own_u3 (W : List Int64) (q : Int64) : Int64 := (XT.ushrL (own_u2 W q) (8 : Int32))
def own_u4 (W : List Int64) (q : Int64) : Int64 := (q ||| ((W.getD 1 0) <<< ((2 : Int32).toInt64 &&& 63)))
def own_u5 (W : List Int64) (q : Int64) : Int64 := (XT.ushrL (own_u4 W q) (8 : Int32))
def own_u6 (W : List Int64) (q : Int64) : Int64 := (XT.ushrL (own_u5 W q) (8 : Int32))
def own_u7 (W : List Int64) (q : Int64) : Int64 := (XT.ushrL (own_u6 W q) (8 : Int32))
def own_u8 (W : List Int64) (q : Int64) : Int64 := (q ||| ((W.getD 2 0) <<< ((3 : Int32).toInt64 &&& 63)))
def own_u9 (W : List Int64) (q : Int64) : Int64 := (XT.ushrL (own_u8 W q) (8 : Int32))
def own_u10 (W : List Int64) (q : Int64) : Int64 := (XT.ushrL (own_u9 W q) (8 : Int32))
def own_u11 (W : List Int64) (q : Int64) : Int64 := (XT.ushrL (own_u10 W q) (8 : Int32))
def own_u12 (W : List Int64) (q : Int64) : Int64 := (q ||| ((W.getD 3 0) <<< ((5 : Int32).toInt64 &&& 63)))
def own_u13 (W : List Int64) (q : Int64) : Int64 := (XT.ushrL (own_u12 W q) (8 : Int32))
def own_u14 (W : List Int64) (q : Int64) : Int64 := (XT.ushrL (own_u13 W q) (8 : Int32))
def own_u15 (W : List Int64) (q : Int64) : Int64 := (XT.ushrL (own_u14 W q) (8 : Int32))
def own_u16 (W : List Int64) (q : Int64) : Int64 := (q ||| ((W.getD 4 0) <<< ((6 : Int32).toInt64 &&& 63)))
def own_u17 (W : List Int64) (q : Int64) : Int64 := (XT.ushrL (own_u16 W q) (8 : Int32))
def own_u18 (W : List Int64) (q : Int64) : Int64 := (XT.ushrL (own_u17 W q) (8 : Int32))
def own_u19 (W : List Int64) (q : Int64) : Int64 := (XT.ushrL (own_u18 W q) (8 : Int32))
def own_u20 (W : List Int64) (q : Int64) : Int64 := (XT.ushrL (own_u19 W q) (8 : Int32))
def own_u21 (W : List Int64) (q : Int64) : Int64 := (q ||| ((W.getD 5 0) <<< ((0 : Int32).toInt64 &&& 63)))
def own_u22 (W : List Int64) (q : Int64) : Int64 := (XT.ushrL (own_u21 W q) (8 : Int32))
def own_u23 (W : List Int64) (q : Int64) : Int64 := (XT.ushrL (own_u22 W q) (8 : Int32))
def own_u24 (W : List Int64) (q : Int64) : Int64 := (XT.ushrL (own_u23 W q) (8 : Int32))
def own_u25 (W : List Int64) (q : Int64) : Int64 := (q ||| ((W.getD 6 0) <<< ((1 : Int32).toInt64 &&& 63)))
def own_u26 (W : List Int64) (q : Int64) : Int64 := (XT.ushrL (own_u25 W q) (8 : Int32))
def own_u27 (W : List Int64) (q : Int64) : Int64 := (XT.ushrL (own_u26 W q) (8 : Int32))
def own_u28 (W : List Int64) (q : Int64) : Int64 := (XT.ushrL (own_u27 W q) (8 : Int32))
def own_u29 (W : List Int64) (q : Int64) : Int64 := (q ||| ((W.getD 7 0) <<< ((3 : Int32).toInt64 &&& 63)))
def own_u30 (W : List Int64) (q : Int64) : Int64 := (XT.ushrL (own_u29 W q) (8 : Int32))
def own_u31 (W : List Int64) (q : Int64) : Int64 := (XT.ushrL (own_u30 W q) (8 : Int32))
def own_u32 (W : List Int64) (q : Int64) : Int64 := (XT.ushrL (own_u31 W q) (8 : Int32))
def own_u33 (W : List Int64) (q : Int64) : Int64 := (q ||| ((W.getD 8 0) <<< ((4 : Int32).toInt64 &&& 63)))
def own_u34 (W : List Int64) (q : Int64) : Int64 := (XT.ushrL (own_u33 W q) (8 : Int32))
def own_u35 (W : List Int64) (q : Int64) : Int64 := (XT.ushrL (own_u34 W q) (8 : Int32))
def own_u36 (W : List Int64) (q : Int64) : Int64 := (XT.ushrL (own_u35 W q) (8 : Int32))
def own_u37 (W : List Int64) (q : Int64) : Int64 := (q ||| ((W.getD 9 0) <<< ((6 : Int32).toInt64 &&& 63)))
def own_u38 (W : List Int64) (q : Int64) : Int64 := (XT.ushrL (own_u37 W q) (8 : Int32))
def own_u39 (W : List Int64) (q : Int64) : Int64 := (XT.ushrL (own_u38 W q) (8 : Int32))
def own_u40 (W : List Int64) (q : Int64) : Int64 := (XT.ushrL (own_u39 W q) (8 : Int32))
def own_q0 (W : List Int64) : Int64 := (own_u3 W (0 : Int64))
def own_bs0 (W : List Int64) : List Int32 := ((((List.replicate 32 (0 : Int32)).set 0 (own_u0 W (0 : Int64)).toInt32.toInt8.toInt32.toInt8.toInt32).set 1 (own_u1 W (0 : Int64)).toInt32.toInt8.toInt32.toInt8.toInt32).set 2 (own_u2 W (0 : Int64)).toInt32.toInt8.toInt32.toInt8.toInt32)
def own_q1 (W : List Int64) : Int64 := (own_u7 W (own_q0 W))
def own_bs1 (W : List Int64) : List Int32 := ((((own_bs0 W).set 3 (own_u4 W (own_q0 W)).toInt32.toInt8.toInt32.toInt8.toInt32).set 4 (own_u5 W (own_q0 W)).toInt32.toInt8.toInt32.toInt8.toInt32).set 5 (own_u6 W (own_q0 W)).toInt32.toInt8.toInt32.toInt8.toInt32)
def own_q2 (W : List Int64) : Int64 := (own_u11 W (own_q1 W))
def own_bs2 (W : List Int64) : List Int32 := ((((own_bs1 W).set 6 (own_u8 W (own_q1 W)).toInt32.toInt8.toInt32.toInt8.toInt32).set 7 (own_u9 W (own_q1 W)).toInt32.toInt8.toInt32.toInt8.toInt32).set 8 (own_u10 W (own_q1 W)).toInt32.toInt8.toInt32.toInt8.toInt32)
def own_q3 (W : List Int64) : Int64 := (own_u15 W (own_q2 W))
def own_bs3 (W : List Int64) : List Int32 := ((((own_bs2 W).set 9 (own_u12 W (own_q2 W)).toInt32.toInt8.toInt32.toInt8.toInt32).set 10 (own_u13 W (own_q2 W)).toInt32.toInt8.toInt32.toInt8.toInt32).set 11 (own_u14 W (own_q2 W)).toInt32.toInt8.toInt32.toInt8.toInt32)
def own_q4 (W : List Int64) : Int64 := (own_u20 W (own_q3 W))
def own_bs4 (W : List Int64) : List Int32 := (((((own_bs3 W).set 12 (own_u16 W (own_q3 W)).toInt32.toInt8.toInt32.toInt8.toInt32).set 13 (own_u17 W (own_q3 W)).toInt32.toInt8.toInt32.toInt8.toInt32).set 14 (own_u18 W (own_q3 W)).toInt32.toInt8.toInt32.toInt8.toInt32).set 15 (own_u19 W (own_q3 W)).toInt32.toInt8.toInt32.toInt8.toInt32)
def own_q5 (W : List Int64) : Int64 := (own_u24 W (own_q4 W))
def own_bs5 (W : List Int64) : List Int32 := ((((own_bs4 W).set 16 (own_u21 W (own_q4 W)).toInt32.toInt8.toInt32.toInt8.toInt32).set 17 (own_u22 W (own_q4 W)).toInt32.toInt8.toInt32.toInt8.toInt32).set 18 (own_u23 W (own_q4 W)).toInt32.toInt8.toInt32.toInt8.toInt32)
def own_q6 (W : List Int64) : Int64 := (own_u28 W (own_q5 W))
def own_bs6 (W : List Int64) : List Int32 := ((((own_bs5 W).set 19 (own_u25 W (own_q5 W)).toInt32.toInt8.toInt32.toInt8.toInt32).set 20 (own_u26 W (own_q5 W)).toInt32.toInt8.toInt32.toInt8.toInt32).set 21 (own_u27 W (own_q5 W)).toInt32.toInt8.toInt32.toInt8.toInt32)
def own_q7 (W : List Int64) : Int64 := (own_u32 W (own_q6 W))
def own_bs7 (W : List Int64) : List Int32 := ((((own_bs6 W).set 22 (own_u29 W (own_q6 W)).toInt32.toInt8.toInt32.toInt8.toInt32).set 23 (own_u30 W (own_q6 W)).toInt32.toInt8.toInt32.toInt8.toInt32).set 24 (own_u31 W (own_q6 W)).toInt32.toInt8.toInt32.toInt8.toInt32)
def own_q8 (W : List Int64) : Int64 := (own_u36 W (own_q7 W))
def own_bs8 (W : List Int64) : List Int32 := ((((own_bs7 W).set 25 (own_u33 W (own_q7 W)).toInt32.toInt8.toInt32.toInt8.toInt32).set 26 (own_u34 W (own_q7 W)).toInt32.toInt8.toInt32.toInt8.toInt32).set 27 (own_u35 W (own_q7 W)).toInt32.toInt8.toInt32.toInt8.toInt32)
def own_q9 (W : List Int64) : Int64 := (own_u40 W (own_q8 W))
def own_bs9 (W : List Int64) : List Int32 := ((((own_bs8 W).set 28 (own_u37 W (own_q8 W)).toInt32.toInt8.toInt32.toInt8.toInt32).set 29 (own_u38 W (own_q8 W)).toInt32.toInt8.toInt32.toInt8.toInt32).set 30 (own_u39 W (own_q8 W)).toInt32.toInt8.toInt32.toInt8.toInt32)
def own_bytes (W : List Int64) : List Int32 := ((own_bs9 W).set 31 (own_q9 W).toInt32.toInt8.toInt32.toInt8.toInt32)
def own_l0 (q0 q1 q2 q3 : Int64) : Int64 := ((XT.ushrL q0 (0 : Int32)) &&& (((1 : Int64) <<< ((26 : Int32).toInt64 &&& 63)) - (1 : Int64)))
def own_l1 (q0 q1 q2 q3 : Int64) : Int64 := ((XT.ushrL q0 (26 : Int32)) &&& (((1 : Int64) <<< ((25 : Int32).toInt64 &&& 63)) - (1 : Int64)))
def own_l2 (q0 q1 q2 q3 : Int64) : Int64 := (((XT.ushrL q0 (51 : Int32)) ||| (q1 <<< ((13 : Int32).toInt64 &&& 63))) &&& (((1 : Int64) <<< ((26 : Int32).toInt64 &&& 63)) - (1 : Int64)))
def own_l3 (q0 q1 q2 q3 : Int64) : Int64 := ((XT.ushrL q1 (13 : Int32)) &&& (((1 : Int64) <<< ((25 : Int32).toInt64 &&& 63)) - (1 : Int64)))
def own_l4 (q0 q1 q2 q3 : Int64) : Int64 := ((XT.ushrL q1 (38 : Int32)) &&& (((1 : Int64) <<< ((26 : Int32).toInt64 &&& 63)) - (1 : Int64)))
def own_l5 (q0 q1 q2 q3 : Int64) : Int64 := ((XT.ushrL q2 (0 : Int32)) &&& (((1 : Int64) <<< ((25 : Int32).toInt64 &&& 63)) - (1 : Int64)))
def own_l6 (q0 q1 q2 q3 : Int64) : Int64 := ((XT.ushrL q2 (25 : Int32)) &&& (((1 : Int64) <<< ((26 : Int32).toInt64 &&& 63)) - (1 : Int64)))
def own_l7 (q0 q1 q2 q3 : Int64) : Int64 := (((XT.ushrL q2 (51 : Int32)) ||| (q3 <<< ((13 : Int32).toInt64 &&& 63))) &&& (((1 : Int64) <<< ((25 : Int32).toInt64 &&& 63)) - (1 : Int64)))
def own_l8 (q0 q1 q2 q3 : Int64) : Int64 := ((XT.ushrL q3 (12 : Int32)) &&& (((1 : Int64) <<< ((26 : Int32).toInt64 &&& 63)) - (1 : Int64)))
def own_l9 (q0 q1 q2 q3 : Int64) : Int64 := ((XT.ushrL q3 (38 : Int32)) &&& (((1 : Int64) <<< ((25 : Int32).toInt64 &&& 63)) - (1 : Int64)))
def own_d (q : Int64) (i0 : Int32) : Int64 := ((((XT.ushrL q ((2 : Int32) * i0)) &&& (3 : Int64)).toInt32 &&& (1 : Int32)) - (((XT.ushrL q ((2 : Int32) * i0)) &&& (3 : Int64)).toInt32 >>> ((1 : Int32) &&& 31))).toInt64
def own_pack (y0 y1 y2 y3 y4 y5 y6 y7 : Int32) : Int64 := ((((((((y0.toInt64 &&& (255 : Int64)) ||| ((y1.toInt64 &&& (255 : Int64)) <<< ((8 : Int32).toInt64 &&& 63))) ||| ((y2.toInt64 &&& (255 : Int64)) <<< ((16 : Int32).toInt64 &&& 63))) ||| ((y3.toInt64 &&& (255 : Int64)) <<< ((24 : Int32).toInt64 &&& 63))) ||| ((y4.toInt64 &&& (255 : Int64)) <<< ((32 : Int32).toInt64 &&& 63))) ||| ((y5.toInt64 &&& (255 : Int64)) <<< ((40 : Int32).toInt64 &&& 63))) ||| ((y6.toInt64 &&& (255 : Int64)) <<< ((48 : Int32).toInt64 &&& 63))) ||| ((y7.toInt64 &&& (255 : Int64)) <<< ((56 : Int32).toInt64 &&& 63)))
def own_pk (bs : List Int32) (o : Nat) : Int64 := own_pack (bs.getD (o + 0) 0) (bs.getD (o + 1) 0) (bs.getD (o + 2) 0) (bs.getD (o + 3) 0) (bs.getD (o + 4) 0) (bs.getD (o + 5) 0) (bs.getD (o + 6) 0) (bs.getD (o + 7) 0)
def own_gs0 (x0 x1 x2 v3 : Int64) : List Int64 := [(own_l0 x0 x1 x2 v3), (own_l1 x0 x1 x2 v3), (own_l2 x0 x1 x2 v3), (own_l3 x0 x1 x2 v3), (own_l4 x0 x1 x2 v3), (own_l5 x0 x1 x2 v3), (own_l6 x0 x1 x2 v3), (own_l7 x0 x1 x2 v3), (own_l8 x0 x1 x2 v3), (own_l9 x0 x1 x2 v3)]
def own_dm0 (gs : List Int64) (q4 : Int64) : List Int64 := (gs.set 0 (((gs.getD 0 0) - ((own_d q4 (0 : Int32)) * (67108864 : Int64))) + ((19 : Int64) * (own_d q4 (9 : Int32)))))
def own_dm1 (gs : List Int64) (q4 : Int64) : List Int64 := ((own_dm0 gs q4).set 1 ((((own_dm0 gs q4).getD 1 0) - ((own_d q4 (1 : Int32)) * (33554432 : Int64))) + (own_d q4 (0 : Int32))))
def own_dm2 (gs : List Int64) (q4 : Int64) : List Int64 := ((own_dm1 gs q4).set 2 ((((own_dm1 gs q4).getD 2 0) - ((own_d q4 (2 : Int32)) * (67108864 : Int64))) + (own_d q4 (1 : Int32))))
def own_dm3 (gs : List Int64) (q4 : Int64) : List Int64 := ((own_dm2 gs q4).set 3 ((((own_dm2 gs q4).getD 3 0) - ((own_d q4 (3 : Int32)) * (33554432 : Int64))) + (own_d q4 (2 : Int32))))
def own_dm4 (gs : List Int64) (q4 : Int64) : List Int64 := ((own_dm3 gs q4).set 4 ((((own_dm3 gs q4).getD 4 0) - ((own_d q4 (4 : Int32)) * (67108864 : Int64))) + (own_d q4 (3 : Int32))))
def own_dm5 (gs : List Int64) (q4 : Int64) : List Int64 := ((own_dm4 gs q4).set 5 ((((own_dm4 gs q4).getD 5 0) - ((own_d q4 (5 : Int32)) * (33554432 : Int64))) + (own_d q4 (4 : Int32))))
def own_dm6 (gs : List Int64) (q4 : Int64) : List Int64 := ((own_dm5 gs q4).set 6 ((((own_dm5 gs q4).getD 6 0) - ((own_d q4 (6 : Int32)) * (67108864 : Int64))) + (own_d q4 (5 : Int32))))
def own_dm7 (gs : List Int64) (q4 : Int64) : List Int64 := ((own_dm6 gs q4).set 7 ((((own_dm6 gs q4).getD 7 0) - ((own_d q4 (7 : Int32)) * (33554432 : Int64))) + (own_d q4 (6 : Int32))))
def own_dm8 (gs : List Int64) (q4 : Int64) : List Int64 := ((own_dm7 gs q4).set 8 ((((own_dm7 gs q4).getD 8 0) - ((own_d q4 (8 : Int32)) * (67108864 : Int64))) + (own_d q4 (7 : Int32))))
def own_dm9 (gs : List Int64) (q4 : Int64) : List Int64 := ((own_dm8 gs q4).set 9 ((((own_dm8 gs q4).getD 9 0) - ((own_d q4 (9 : Int32)) * (33554432 : Int64))) + (own_d q4 (8 : Int32))))
def own_gm0 (x0 x1 x2 v3 : Int64) : List Int64 := ((own_gs0 x0 x1 x2 v3).set 0 (((own_gs0 x0 x1 x2 v3).getD 0 0) - (67108845 : Int64)))
def own_gm1 (x0 x1 x2 v3 : Int64) : List Int64 := ((own_gm0 x0 x1 x2 v3).set 1 (((own_gm0 x0 x1 x2 v3).getD 1 0) - (33554431 : Int64)))
def own_gm2 (x0 x1 x2 v3 : Int64) : List Int64 := ((own_gm1 x0 x1 x2 v3).set 2 (((own_gm1 x0 x1 x2 v3).getD 2 0) - (67108863 : Int64)))
def own_gm3 (x0 x1 x2 v3 : Int64) : List Int64 := ((own_gm2 x0 x1 x2 v3).set 3 (((own_gm2 x0 x1 x2 v3).getD 3 0) - (33554431 : Int64)))
def own_gm4 (x0 x1 x2 v3 : Int64) : List Int64 := ((own_gm3 x0 x1 x2 v3).set 4 (((own_gm3 x0 x1 x2 v3).getD 4 0) - (67108863 : Int64)))
def own_gm5 (x0 x1 x2 v3 : Int64) : List Int64 := ((own_gm4 x0 x1 x2 v3).set 5 (((own_gm4 x0 x1 x2 v3).getD 5 0) - (33554431 : Int64)))
def own_gm6 (x0 x1 x2 v3 : Int64) : List Int64 := ((own_gm5 x0 x1 x2 v3).set 6 (((own_gm5 x0 x1 x2 v3).getD 6 0) - (67108863 : Int64)))
def own_gm7 (x0 x1 x2 v3 : Int64) : List Int64 := ((own_gm6 x0 x1 x2 v3).set 7 (((own_gm6 x0 x1 x2 v3).getD 7 0) - (33554431 : Int64)))
def own_gm8 (x0 x1 x2 v3 : Int64) : List Int64 := ((own_gm7 x0 x1 x2 v3).set 8 (((own_gm7 x0 x1 x2 v3).getD 8 0) - (67108863 : Int64)))
def own_dm (gs : List Int64) (q4 : Int64) : List Int64 := (own_dm9 gs q4)
def own_gs1 (x0 x1 x2 v3 : Int64) : List Int64 := ((own_gm8 x0 x1 x2 v3).set 9 (((own_gm8 x0 x1 x2 v3).getD 9 0) - (33554431 : Int64)))
theorem own_mask63 (x : Int64) : 0 ≤ (x &&& (9223372036854775807 : Int64)).toInt ∧ (x &&& (9223372036854775807 : Int64)).toInt < 2 ^ 63 := by
  have h1 : (x &&& (9223372036854775807 : Int64)).toBitVec.toNat < 2 ^ 63 := by
    rw [Int64.toBitVec_and, BitVec.toNat_and]
    exact Nat.lt_of_le_of_lt Nat.and_le_right (by decide)
  have h2 : (x &&& (9223372036854775807 : Int64)).toInt = ((x &&& (9223372036854775807 : Int64)).toBitVec.toNat : Int) := by
    show (x &&& (9223372036854775807 : Int64)).toBitVec.toInt = _
    rw [BitVec.toInt_eq_toNat_of_lt (by omega)]
  omega
section OwnM
theorem own_add {a b : Int64} (h1 : -2 ^ 62 ≤ a.toInt + b.toInt) (h2 : a.toInt + b.toInt < 2 ^ 62) : (a + b).toInt = a.toInt + b.toInt := by
  rw [Int64.toInt_add]; exact Int.bmod_eq_of_le (by omega) (by omega)
theorem own_sub {a b : Int64} (h1 : -2 ^ 62 ≤ a.toInt - b.toInt) (h2 : a.toInt - b.toInt < 2 ^ 62) : (a - b).toInt = a.toInt - b.toInt := by
  rw [Int64.toInt_sub]; exact Int.bmod_eq_of_le (by omega) (by omega)
theorem own_mulc {a b : Int64} (h1 : -2 ^ 62 ≤ a.toInt * b.toInt) (h2 : a.toInt * b.toInt < 2 ^ 62) : (a * b).toInt = a.toInt * b.toInt := by
  rw [Int64.toInt_mul]; exact Int.bmod_eq_of_le (by omega) (by omega)
theorem own_s26 : ((26 : Int32).toInt64 &&& 63) = (26 : Int64) := by decide
theorem own_s25 : ((25 : Int32).toInt64 &&& 63) = (25 : Int64) := by decide
theorem own_shr26 (x : Int64) : (x >>> (26 : Int64)).toInt = x.toInt / 67108864 := by
  show (x.toBitVec.sshiftRight' _).toInt = _
  rw [BitVec.sshiftRight', BitVec.toInt_sshiftRight]
  show x.toBitVec.toInt >>> 26 = _
  rw [Int.shiftRight_eq_div_pow]; rfl
theorem own_shr25 (x : Int64) : (x >>> (25 : Int64)).toInt = x.toInt / 33554432 := by
  show (x.toBitVec.sshiftRight' _).toInt = _
  rw [BitVec.sshiftRight', BitVec.toInt_sshiftRight]
  show x.toBitVec.toInt >>> 25 = _
  rw [Int.shiftRight_eq_div_pow]; rfl
theorem own_shl26 (x : Int64) (h1 : -2 ^ 36 ≤ x.toInt) (h2 : x.toInt < 2 ^ 36) : (x <<< (26 : Int64)).toInt = x.toInt * 67108864 := by
  have e : x <<< (26 : Int64) = x * (67108864 : Int64) := by
    apply Int64.toBitVec_inj.mp
    show x.toBitVec <<< (26 : BitVec 64) = x.toBitVec * 67108864#64
    rw [BitVec.shiftLeft_eq', BitVec.shiftLeft_eq_mul_twoPow]; rfl
  rw [e]
  have : (67108864 : Int64).toInt = 67108864 := by decide
  rw [own_mulc (by rw [this]; omega) (by rw [this]; omega), this]
theorem own_shl25 (x : Int64) (h1 : -2 ^ 36 ≤ x.toInt) (h2 : x.toInt < 2 ^ 36) : (x <<< (25 : Int64)).toInt = x.toInt * 33554432 := by
  have e : x <<< (25 : Int64) = x * (33554432 : Int64) := by
    apply Int64.toBitVec_inj.mp
    show x.toBitVec <<< (25 : BitVec 64) = x.toBitVec * 33554432#64
    rw [BitVec.shiftLeft_eq', BitVec.shiftLeft_eq_mul_twoPow]; rfl
  rw [e]
  have : (33554432 : Int64).toInt = 33554432 := by decide
  rw [own_mulc (by rw [this]; omega) (by rw [this]; omega), this]
end OwnM
section OwnN
theorem own_st26 (x : Int64) (h1 : -2 ^ 60 ≤ x.toInt) (h2 : x.toInt < 2 ^ 60) : ∃ c r : Int64, (x >>> ((26 : Int32).toInt64 &&& 63)) = c ∧ (x - (c <<< ((26 : Int32).toInt64 &&& 63))) = r ∧ c.toInt = x.toInt / 67108864 ∧ r.toInt = x.toInt - c.toInt * 67108864 := by
  rw [own_s26]
  have hc := own_shr26 x
  have hs := own_shl26 (x >>> (26 : Int64)) (by omega) (by omega)
  exact ⟨_, _, rfl, rfl, hc, by rw [own_sub (by omega) (by omega), hs]⟩
theorem own_st25 (x : Int64) (h1 : -2 ^ 60 ≤ x.toInt) (h2 : x.toInt < 2 ^ 60) : ∃ c r : Int64, (x >>> ((25 : Int32).toInt64 &&& 63)) = c ∧ (x - (c <<< ((25 : Int32).toInt64 &&& 63))) = r ∧ c.toInt = x.toInt / 33554432 ∧ r.toInt = x.toInt - c.toInt * 33554432 := by
  rw [own_s25]
  have hc := own_shr25 x
  have hs := own_shl25 (x >>> (25 : Int64)) (by omega) (by omega)
  exact ⟨_, _, rfl, rfl, hc, by rw [own_sub (by omega) (by omega), hs]⟩
theorem own_step0 (k : Nat) (y0 y1 y2 y3 y4 y5 y6 y7 y8 y9 : Int64) (h1 : -2 ^ 60 ≤ y0.toInt) (h2 : y0.toInt < 2 ^ 60) : ∃ c r : Int64, own_run (k + 1) 0 [y0, y1, y2, y3, y4, y5, y6, y7, y8, y9] = own_run k 1 [r, (y1 + c), y2, y3, y4, y5, y6, y7, y8, y9] ∧ c.toInt = y0.toInt / 67108864 ∧ r.toInt = y0.toInt - c.toInt * 67108864 := by
  obtain ⟨c, r, rfl, rfl, e1, e2⟩ := own_st26 y0 h1 h2
  exact ⟨_, _, rfl, e1, e2⟩
theorem own_step1 (k : Nat) (y0 y1 y2 y3 y4 y5 y6 y7 y8 y9 : Int64) (h1 : -2 ^ 60 ≤ y1.toInt) (h2 : y1.toInt < 2 ^ 60) : ∃ c r : Int64, own_run (k + 1) 1 [y0, y1, y2, y3, y4, y5, y6, y7, y8, y9] = own_run k 2 [y0, r, (y2 + c), y3, y4, y5, y6, y7, y8, y9] ∧ c.toInt = y1.toInt / 33554432 ∧ r.toInt = y1.toInt - c.toInt * 33554432 := by
  obtain ⟨c, r, rfl, rfl, e1, e2⟩ := own_st25 y1 h1 h2
  exact ⟨_, _, rfl, e1, e2⟩
theorem own_step2 (k : Nat) (y0 y1 y2 y3 y4 y5 y6 y7 y8 y9 : Int64) (h1 : -2 ^ 60 ≤ y2.toInt) (h2 : y2.toInt < 2 ^ 60) : ∃ c r : Int64, own_run (k + 1) 2 [y0, y1, y2, y3, y4, y5, y6, y7, y8, y9] = own_run k 3 [y0, y1, r, (y3 + c), y4, y5, y6, y7, y8, y9] ∧ c.toInt = y2.toInt / 67108864 ∧ r.toInt = y2.toInt - c.toInt * 67108864 := by
  obtain ⟨c, r, rfl, rfl, e1, e2⟩ := own_st26 y2 h1 h2
  exact ⟨_, _, rfl, e1, e2⟩
theorem own_step3 (k : Nat) (y0 y1 y2 y3 y4 y5 y6 y7 y8 y9 : Int64) (h1 : -2 ^ 60 ≤ y3.toInt) (h2 : y3.toInt < 2 ^ 60) : ∃ c r : Int64, own_run (k + 1) 3 [y0, y1, y2, y3, y4, y5, y6, y7, y8, y9] = own_run k 4 [y0, y1, y2, r, (y4 + c), y5, y6, y7, y8, y9] ∧ c.toInt = y3.toInt / 33554432 ∧ r.toInt = y3.toInt - c.toInt * 33554432 := by
  obtain ⟨c, r, rfl, rfl, e1, e2⟩ := own_st25 y3 h1 h2
  exact ⟨_, _, rfl, e1, e2⟩
theorem own_step4 (k : Nat) (y0 y1 y2 y3 y4 y5 y6 y7 y8 y9 : Int64) (h1 : -2 ^ 60 ≤ y4.toInt) (h2 : y4.toInt < 2 ^ 60) : ∃ c r : Int64, own_run (k + 1) 4 [y0, y1, y2, y3, y4, y5, y6, y7, y8, y9] = own_run k 5 [y0, y1, y2, y3, r, (y5 + c), y6, y7, y8, y9] ∧ c.toInt = y4.toInt / 67108864 ∧ r.toInt = y4.toInt - c.toInt * 67108864 := by
  obtain ⟨c, r, rfl, rfl, e1, e2⟩ := own_st26 y4 h1 h2
  exact ⟨_, _, rfl, e1, e2⟩
theorem own_step5 (k : Nat) (y0 y1 y2 y3 y4 y5 y6 y7 y8 y9 : Int64) (h1 : -2 ^ 60 ≤ y5.toInt) (h2 : y5.toInt < 2 ^ 60) : ∃ c r : Int64, own_run (k + 1) 5 [y0, y1, y2, y3, y4, y5, y6, y7, y8, y9] = own_run k 6 [y0, y1, y2, y3, y4, r, (y6 + c), y7, y8, y9] ∧ c.toInt = y5.toInt / 33554432 ∧ r.toInt = y5.toInt - c.toInt * 33554432 := by
  obtain ⟨c, r, rfl, rfl, e1, e2⟩ := own_st25 y5 h1 h2
  exact ⟨_, _, rfl, e1, e2⟩
theorem own_step6 (k : Nat) (y0 y1 y2 y3 y4 y5 y6 y7 y8 y9 : Int64) (h1 : -2 ^ 60 ≤ y6.toInt) (h2 : y6.toInt < 2 ^ 60) : ∃ c r : Int64, own_run (k + 1) 6 [y0, y1, y2, y3, y4, y5, y6, y7, y8, y9] = own_run k 7 [y0, y1, y2, y3, y4, y5, r, (y7 + c), y8, y9] ∧ c.toInt = y6.toInt / 67108864 ∧ r.toInt = y6.toInt - c.toInt * 67108864 := by
  obtain ⟨c, r, rfl, rfl, e1, e2⟩ := own_st26 y6 h1 h2
  exact ⟨_, _, rfl, e1, e2⟩
theorem own_step7 (k : Nat) (y0 y1 y2 y3 y4 y5 y6 y7 y8 y9 : Int64) (h1 : -2 ^ 60 ≤ y7.toInt) (h2 : y7.toInt < 2 ^ 60) : ∃ c r : Int64, own_run (k + 1) 7 [y0, y1, y2, y3, y4, y5, y6, y7, y8, y9] = own_run k 8 [y0, y1, y2, y3, y4, y5, y6, r, (y8 + c), y9] ∧ c.toInt = y7.toInt / 33554432 ∧ r.toInt = y7.toInt - c.toInt * 33554432 := by
  obtain ⟨c, r, rfl, rfl, e1, e2⟩ := own_st25 y7 h1 h2
  exact ⟨_, _, rfl, e1, e2⟩
theorem own_step8 (k : Nat) (y0 y1 y2 y3 y4 y5 y6 y7 y8 y9 : Int64) (h1 : -2 ^ 60 ≤ y8.toInt) (h2 : y8.toInt < 2 ^ 60) : ∃ c r : Int64, own_run (k + 1) 8 [y0, y1, y2, y3, y4, y5, y6, y7, y8, y9] = own_run k 9 [y0, y1, y2, y3, y4, y5, y6, y7, r, (y9 + c)] ∧ c.toInt = y8.toInt / 67108864 ∧ r.toInt = y8.toInt - c.toInt * 67108864 := by
  obtain ⟨c, r, rfl, rfl, e1, e2⟩ := own_st26 y8 h1 h2
  exact ⟨_, _, rfl, e1, e2⟩
theorem own_step9 (k : Nat) (y0 y1 y2 y3 y4 y5 y6 y7 y8 y9 : Int64) (h1 : -2 ^ 60 ≤ y9.toInt) (h2 : y9.toInt < 2 ^ 60) : ∃ c r : Int64, own_run (k + 1) 9 [y0, y1, y2, y3, y4, y5, y6, y7, y8, y9] = own_run k 10 [(y0 + (19 : Int64) * c), y1, y2, y3, y4, y5, y6, y7, y8, r] ∧ c.toInt = y9.toInt / 33554432 ∧ r.toInt = y9.toInt - c.toInt * 33554432 := by
  obtain ⟨c, r, rfl, rfl, e1, e2⟩ := own_st25 y9 h1 h2
  exact ⟨_, _, rfl, e1, e2⟩
theorem own_pass10 (y0 y1 y2 y3 y4 y5 y6 y7 y8 y9 : Int64) (hy0 : -1099511627776 ≤ y0.toInt ∧ y0.toInt < 1099511627776) (hy1 : -1099511627776 ≤ y1.toInt ∧ y1.toInt < 1099511627776) (hy2 : -1099511627776 ≤ y2.toInt ∧ y2.toInt < 1099511627776) (hy3 : -1099511627776 ≤ y3.toInt ∧ y3.toInt < 1099511627776) (hy4 : -1099511627776 ≤ y4.toInt ∧ y4.toInt < 1099511627776) (hy5 : -1099511627776 ≤ y5.toInt ∧ y5.toInt < 1099511627776) (hy6 : -1099511627776 ≤ y6.toInt ∧ y6.toInt < 1099511627776) (hy7 : -1099511627776 ≤ y7.toInt ∧ y7.toInt < 1099511627776) (hy8 : -1099511627776 ≤ y8.toInt ∧ y8.toInt < 1099511627776) (hy9 : -1099511627776 ≤ y9.toInt ∧ y9.toInt < 1099511627776) : ∃ z0 z1 z2 z3 z4 z5 z6 z7 z8 z9 : Int64, ∃ c0 c1 c2 c3 c4 c5 c6 c7 c8 c9 : Int, own_run 10 0 [y0, y1, y2, y3, y4, y5, y6, y7, y8, y9] = [z0, z1, z2, z3, z4, z5, z6, z7, z8, z9] ∧ c0 = (y0.toInt) / 67108864 ∧ z0.toInt = y0.toInt - c0 * 67108864 + 19 * c9 ∧ c1 = (y1.toInt + c0) / 33554432 ∧ z1.toInt = y1.toInt + c0 - c1 * 33554432 ∧ c2 = (y2.toInt + c1) / 67108864 ∧ z2.toInt = y2.toInt + c1 - c2 * 67108864 ∧ c3 = (y3.toInt + c2) / 33554432 ∧ z3.toInt = y3.toInt + c2 - c3 * 33554432 ∧ c4 = (y4.toInt + c3) / 67108864 ∧ z4.toInt = y4.toInt + c3 - c4 * 67108864 ∧ c5 = (y5.toInt + c4) / 33554432 ∧ z5.toInt = y5.toInt + c4 - c5 * 33554432 ∧ c6 = (y6.toInt + c5) / 67108864 ∧ z6.toInt = y6.toInt + c5 - c6 * 67108864 ∧ c7 = (y7.toInt + c6) / 33554432 ∧ z7.toInt = y7.toInt + c6 - c7 * 33554432 ∧ c8 = (y8.toInt + c7) / 67108864 ∧ z8.toInt = y8.toInt + c7 - c8 * 67108864 ∧ c9 = (y9.toInt + c8) / 33554432 ∧ z9.toInt = y9.toInt + c8 - c9 * 33554432 := by
  have e19 : (19 : Int64).toInt = 19 := by decide
  obtain ⟨c0, r0, e0, f0, g0⟩ := own_step0 9 y0 y1 y2 y3 y4 y5 y6 y7 y8 y9 (by omega) (by omega)
  have a1 : (y1 + c0).toInt = y1.toInt + c0.toInt := own_add (by omega) (by omega)
  obtain ⟨c1, r1, e1, f1, g1⟩ := own_step1 8 r0 (y1 + c0) y2 y3 y4 y5 y6 y7 y8 y9 (by omega) (by omega)
  have a2 : (y2 + c1).toInt = y2.toInt + c1.toInt := own_add (by omega) (by omega)
  obtain ⟨c2, r2, e2, f2, g2⟩ := own_step2 7 r0 r1 (y2 + c1) y3 y4 y5 y6 y7 y8 y9 (by omega) (by omega)
  have a3 : (y3 + c2).toInt = y3.toInt + c2.toInt := own_add (by omega) (by omega)
  obtain ⟨c3, r3, e3, f3, g3⟩ := own_step3 6 r0 r1 r2 (y3 + c2) y4 y5 y6 y7 y8 y9 (by omega) (by omega)
  have a4 : (y4 + c3).toInt = y4.toInt + c3.toInt := own_add (by omega) (by omega)
  obtain ⟨c4, r4, e4, f4, g4⟩ := own_step4 5 r0 r1 r2 r3 (y4 + c3) y5 y6 y7 y8 y9 (by omega) (by omega)
  have a5 : (y5 + c4).toInt = y5.toInt + c4.toInt := own_add (by omega) (by omega)
  obtain ⟨c5, r5, e5, f5, g5⟩ := own_step5 4 r0 r1 r2 r3 r4 (y5 + c4) y6 y7 y8 y9 (by omega) (by omega)
  have a6 : (y6 + c5).toInt = y6.toInt + c5.toInt := own_add (by omega) (by omega)
  obtain ⟨c6, r6, e6, f6, g6⟩ := own_step6 3 r0 r1 r2 r3 r4 r5 (y6 + c5) y7 y8 y9 (by omega) (by omega)
  have a7 : (y7 + c6).toInt = y7.toInt + c6.toInt := own_add (by omega) (by omega)
  obtain ⟨c7, r7, e7, f7, g7⟩ := own_step7 2 r0 r1 r2 r3 r4 r5 r6 (y7 + c6) y8 y9 (by omega) (by omega)
  have a8 : (y8 + c7).toInt = y8.toInt + c7.toInt := own_add (by omega) (by omega)
  obtain ⟨c8, r8, e8, f8, g8⟩ := own_step8 1 r0 r1 r2 r3 r4 r5 r6 r7 (y8 + c7) y9 (by omega) (by omega)
  have a9 : (y9 + c8).toInt = y9.toInt + c8.toInt := own_add (by omega) (by omega)
  obtain ⟨c9, r9, e9, f9, g9⟩ := own_step9 0 r0 r1 r2 r3 r4 r5 r6 r7 r8 (y9 + c8) (by omega) (by omega)
  have m9 : ((19 : Int64) * c9).toInt = 19 * c9.toInt := by rw [own_mulc (by rw [e19]; omega) (by rw [e19]; omega), e19]
  have a10 : (r0 + (19 : Int64) * c9).toInt = r0.toInt + 19 * c9.toInt := by rw [own_add (by omega) (by omega), m9]
  refine ⟨(r0 + (19 : Int64) * c9), r1, r2, r3, r4, r5, r6, r7, r8, r9, c0.toInt, c1.toInt, c2.toInt, c3.toInt, c4.toInt, c5.toInt, c6.toInt, c7.toInt, c8.toInt, c9.toInt, (e0.trans (e1.trans (e2.trans (e3.trans (e4.trans (e5.trans (e6.trans (e7.trans (e8.trans (e9)))))))))), ?_, ?_, ?_, ?_, ?_, ?_, ?_, ?_, ?_, ?_, ?_, ?_, ?_, ?_, ?_, ?_, ?_, ?_, ?_, ?_⟩
  all_goals omega
theorem own_pass9 (y0 y1 y2 y3 y4 y5 y6 y7 y8 y9 : Int64) (hy0 : -1099511627776 ≤ y0.toInt ∧ y0.toInt < 1099511627776) (hy1 : -1099511627776 ≤ y1.toInt ∧ y1.toInt < 1099511627776) (hy2 : -1099511627776 ≤ y2.toInt ∧ y2.toInt < 1099511627776) (hy3 : -1099511627776 ≤ y3.toInt ∧ y3.toInt < 1099511627776) (hy4 : -1099511627776 ≤ y4.toInt ∧ y4.toInt < 1099511627776) (hy5 : -1099511627776 ≤ y5.toInt ∧ y5.toInt < 1099511627776) (hy6 : -1099511627776 ≤ y6.toInt ∧ y6.toInt < 1099511627776) (hy7 : -1099511627776 ≤ y7.toInt ∧ y7.toInt < 1099511627776) (hy8 : -1099511627776 ≤ y8.toInt ∧ y8.toInt < 1099511627776) (hy9 : -1099511627776 ≤ y9.toInt ∧ y9.toInt < 1099511627776) : ∃ z0 z1 z2 z3 z4 z5 z6 z7 z8 z9 : Int64, ∃ c0 c1 c2 c3 c4 c5 c6 c7 c8 : Int, own_run 9 0 [y0, y1, y2, y3, y4, y5, y6, y7, y8, y9] = [z0, z1, z2, z3, z4, z5, z6, z7, z8, z9] ∧ c0 = (y0.toInt) / 67108864 ∧ z0.toInt = y0.toInt - c0 * 67108864 ∧ c1 = (y1.toInt + c0) / 33554432 ∧ z1.toInt = y1.toInt + c0 - c1 * 33554432 ∧ c2 = (y2.toInt + c1) / 67108864 ∧ z2.toInt = y2.toInt + c1 - c2 * 67108864 ∧ c3 = (y3.toInt + c2) / 33554432 ∧ z3.toInt = y3.toInt + c2 - c3 * 33554432 ∧ c4 = (y4.toInt + c3) / 67108864 ∧ z4.toInt = y4.toInt + c3 - c4 * 67108864 ∧ c5 = (y5.toInt + c4) / 33554432 ∧ z5.toInt = y5.toInt + c4 - c5 * 33554432 ∧ c6 = (y6.toInt + c5) / 67108864 ∧ z6.toInt = y6.toInt + c5 - c6 * 67108864 ∧ c7 = (y7.toInt + c6) / 33554432 ∧ z7.toInt = y7.toInt + c6 - c7 * 33554432 ∧ c8 = (y8.toInt + c7) / 67108864 ∧ z8.toInt = y8.toInt + c7 - c8 * 67108864 ∧ z9.toInt = y9.toInt + c8 := by
  have e19 : (19 : Int64).toInt = 19 := by decide
  obtain ⟨c0, r0, e0, f0, g0⟩ := own_step0 8 y0 y1 y2 y3 y4 y5 y6 y7 y8 y9 (by omega) (by omega)
  have a1 : (y1 + c0).toInt = y1.toInt + c0.toInt := own_add (by omega) (by omega)
  obtain ⟨c1, r1, e1, f1, g1⟩ := own_step1 7 r0 (y1 + c0) y2 y3 y4 y5 y6 y7 y8 y9 (by omega) (by omega)
  have a2 : (y2 + c1).toInt = y2.toInt + c1.toInt := own_add (by omega) (by omega)
  obtain ⟨c2, r2, e2, f2, g2⟩ := own_step2 6 r0 r1 (y2 + c1) y3 y4 y5 y6 y7 y8 y9 (by omega) (by omega)
  have a3 : (y3 + c2).toInt = y3.toInt + c2.toInt := own_add (by omega) (by omega)
  obtain ⟨c3, r3, e3, f3, g3⟩ := own_step3 5 r0 r1 r2 (y3 + c2) y4 y5 y6 y7 y8 y9 (by omega) (by omega)
  have a4 : (y4 + c3).toInt = y4.toInt + c3.toInt := own_add (by omega) (by omega)
  obtain ⟨c4, r4, e4, f4, g4⟩ := own_step4 4 r0 r1 r2 r3 (y4 + c3) y5 y6 y7 y8 y9 (by omega) (by omega)
  have a5 : (y5 + c4).toInt = y5.toInt + c4.toInt := own_add (by omega) (by omega)
  obtain ⟨c5, r5, e5, f5, g5⟩ := own_step5 3 r0 r1 r2 r3 r4 (y5 + c4) y6 y7 y8 y9 (by omega) (by omega)
  have a6 : (y6 + c5).toInt = y6.toInt + c5.toInt := own_add (by omega) (by omega)
  obtain ⟨c6, r6, e6, f6, g6⟩ := own_step6 2 r0 r1 r2 r3 r4 r5 (y6 + c5) y7 y8 y9 (by omega) (by omega)
  have a7 : (y7 + c6).toInt = y7.toInt + c6.toInt := own_add (by omega) (by omega)
  obtain ⟨c7, r7, e7, f7, g7⟩ := own_step7 1 r0 r1 r2 r3 r4 r5 r6 (y7 + c6) y8 y9 (by omega) (by omega)
  have a8 : (y8 + c7).toInt = y8.toInt + c7.toInt := own_add (by omega) (by omega)
  obtain ⟨c8, r8, e8, f8, g8⟩ := own_step8 0 r0 r1 r2 r3 r4 r5 r6 r7 (y8 + c7) y9 (by omega) (by omega)
  have a9 : (y9 + c8).toInt = y9.toInt + c8.toInt := own_add (by omega) (by omega)
  refine ⟨r0, r1, r2, r3, r4, r5, r6, r7, r8, (y9 + c8), c0.toInt, c1.toInt, c2.toInt, c3.toInt, c4.toInt, c5.toInt, c6.toInt, c7.toInt, c8.toInt, (e0.trans (e1.trans (e2.trans (e3.trans (e4.trans (e5.trans (e6.trans (e7.trans (e8))))))))), ?_, ?_, ?_, ?_, ?_, ?_, ?_, ?_, ?_, ?_, ?_, ?_, ?_, ?_, ?_, ?_, ?_, ?_, ?_⟩
  all_goals omega
theorem own_quot (y0 y1 y2 y3 y4 y5 y6 y7 y8 y9 : Int64) (hy0 : -1099511627776 ≤ y0.toInt ∧ y0.toInt < 1099511627776) (hy1 : -1099511627776 ≤ y1.toInt ∧ y1.toInt < 1099511627776) (hy2 : -1099511627776 ≤ y2.toInt ∧ y2.toInt < 1099511627776) (hy3 : -1099511627776 ≤ y3.toInt ∧ y3.toInt < 1099511627776) (hy4 : -1099511627776 ≤ y4.toInt ∧ y4.toInt < 1099511627776) (hy5 : -1099511627776 ≤ y5.toInt ∧ y5.toInt < 1099511627776) (hy6 : -1099511627776 ≤ y6.toInt ∧ y6.toInt < 1099511627776) (hy7 : -1099511627776 ≤ y7.toInt ∧ y7.toInt < 1099511627776) (hy8 : -1099511627776 ≤ y8.toInt ∧ y8.toInt < 1099511627776) (hy9 : -1099511627776 ≤ y9.toInt ∧ y9.toInt < 1099511627776) : ∃ c0 c1 c2 c3 c4 c5 c6 c7 c8 c9 : Int, (own_qq 9 [y0, y1, y2, y3, y4, y5, y6, y7, y8, y9]).toInt = c9 ∧ c0 = (y0.toInt + 19) / 67108864 ∧ c1 = (y1.toInt + c0) / 33554432 ∧ c2 = (y2.toInt + c1) / 67108864 ∧ c3 = (y3.toInt + c2) / 33554432 ∧ c4 = (y4.toInt + c3) / 67108864 ∧ c5 = (y5.toInt + c4) / 33554432 ∧ c6 = (y6.toInt + c5) / 67108864 ∧ c7 = (y7.toInt + c6) / 33554432 ∧ c8 = (y8.toInt + c7) / 67108864 ∧ c9 = (y9.toInt + c8) / 33554432 := by
  have e19 : (19 : Int64).toInt = 19 := by decide
  have q0 : (own_qq 0 [y0, y1, y2, y3, y4, y5, y6, y7, y8, y9]).toInt = (y0.toInt + 19) / 67108864 := by
    show ((y0 + (19 : Int64)) >>> ((26 : Int32).toInt64 &&& 63)).toInt = _
    rw [own_s26, own_shr26, own_add (by omega) (by omega), e19]
  have q1 : (own_qq 1 [y0, y1, y2, y3, y4, y5, y6, y7, y8, y9]).toInt = (y1.toInt + (own_qq 0 [y0, y1, y2, y3, y4, y5, y6, y7, y8, y9]).toInt) / 33554432 := by
    show ((y1 + own_qq 0 [y0, y1, y2, y3, y4, y5, y6, y7, y8, y9]) >>> ((25 : Int32).toInt64 &&& 63)).toInt = _
    rw [own_s25, own_shr25, own_add (by omega) (by omega)]
  have q2 : (own_qq 2 [y0, y1, y2, y3, y4, y5, y6, y7, y8, y9]).toInt = (y2.toInt + (own_qq 1 [y0, y1, y2, y3, y4, y5, y6, y7, y8, y9]).toInt) / 67108864 := by
    show ((y2 + own_qq 1 [y0, y1, y2, y3, y4, y5, y6, y7, y8, y9]) >>> ((26 : Int32).toInt64 &&& 63)).toInt = _
    rw [own_s26, own_shr26, own_add (by omega) (by omega)]
  have q3 : (own_qq 3 [y0, y1, y2, y3, y4, y5, y6, y7, y8, y9]).toInt = (y3.toInt + (own_qq 2 [y0, y1, y2, y3, y4, y5, y6, y7, y8, y9]).toInt) / 33554432 := by
    show ((y3 + own_qq 2 [y0, y1, y2, y3, y4, y5, y6, y7, y8, y9]) >>> ((25 : Int32).toInt64 &&& 63)).toInt = _
    rw [own_s25, own_shr25, own_add (by omega) (by omega)]
  have q4 : (own_qq 4 [y0, y1, y2, y3, y4, y5, y6, y7, y8, y9]).toInt = (y4.toInt + (own_qq 3 [y0, y1, y2, y3, y4, y5, y6, y7, y8, y9]).toInt) / 67108864 := by
    show ((y4 + own_qq 3 [y0, y1, y2, y3, y4, y5, y6, y7, y8, y9]) >>> ((26 : Int32).toInt64 &&& 63)).toInt = _
    rw [own_s26, own_shr26, own_add (by omega) (by omega)]
  have q5 : (own_qq 5 [y0, y1, y2, y3, y4, y5, y6, y7, y8, y9]).toInt = (y5.toInt + (own_qq 4 [y0, y1, y2, y3, y4, y5, y6, y7, y8, y9]).toInt) / 33554432 := by
    show ((y5 + own_qq 4 [y0, y1, y2, y3, y4, y5, y6, y7, y8, y9]) >>> ((25 : Int32).toInt64 &&& 63)).toInt = _
    rw [own_s25, own_shr25, own_add (by omega) (by omega)]
  have q6 : (own_qq 6 [y0, y1, y2, y3, y4, y5, y6, y7, y8, y9]).toInt = (y6.toInt + (own_qq 5 [y0, y1, y2, y3, y4, y5, y6, y7, y8, y9]).toInt) / 67108864 := by
    show ((y6 + own_qq 5 [y0, y1, y2, y3, y4, y5, y6, y7, y8, y9]) >>> ((26 : Int32).toInt64 &&& 63)).toInt = _
    rw [own_s26, own_shr26, own_add (by omega) (by omega)]
  have q7 : (own_qq 7 [y0, y1, y2, y3, y4, y5, y6, y7, y8, y9]).toInt = (y7.toInt + (own_qq 6 [y0, y1, y2, y3, y4, y5, y6, y7, y8, y9]).toInt) / 33554432 := by
    show ((y7 + own_qq 6 [y0, y1, y2, y3, y4, y5, y6, y7, y8, y9]) >>> ((25 : Int32).toInt64 &&& 63)).toInt = _
    rw [own_s25, own_shr25, own_add (by omega) (by omega)]
  have q8 : (own_qq 8 [y0, y1, y2, y3, y4, y5, y6, y7, y8, y9]).toInt = (y8.toInt + (own_qq 7 [y0, y1, y2, y3, y4, y5, y6, y7, y8, y9]).toInt) / 67108864 := by
    show ((y8 + own_qq 7 [y0, y1, y2, y3, y4, y5, y6, y7, y8, y9]) >>> ((26 : Int32).toInt64 &&& 63)).toInt = _
    rw [own_s26, own_shr26, own_add (by omega) (by omega)]
  have q9 : (own_qq 9 [y0, y1, y2, y3, y4, y5, y6, y7, y8, y9]).toInt = (y9.toInt + (own_qq 8 [y0, y1, y2, y3, y4, y5, y6, y7, y8, y9]).toInt) / 33554432 := by
    show ((y9 + own_qq 8 [y0, y1, y2, y3, y4, y5, y6, y7, y8, y9]) >>> ((25 : Int32).toInt64 &&& 63)).toInt = _
    rw [own_s25, own_shr25, own_add (by omega) (by omega)]
  exact ⟨_, _, _, _, _, _, _, _, _, _, rfl, q0, q1, q2, q3, q4, q5, q6, q7, q8, q9⟩
end OwnN
section OwnC
def own_N (x : Int64) : Nat := x.toBitVec.toNat
theorem own_N_lt (x : Int64) : own_N x < 18446744073709551616 := x.toBitVec.isLt
theorem own_N_int (x : Int64) (h : own_N x < 9223372036854775808) : x.toInt = (own_N x : Int) := by
  show x.toBitVec.toInt = _
  rw [BitVec.toInt_eq_toNat_of_lt (by unfold own_N at h; omega)]; rfl
theorem own_int_N (x : Int64) (h : 0 ≤ x.toInt) : (own_N x : Int) = x.toInt ∧ own_N x < 9223372036854775808 := by
  have h1 : x.toInt = if 2 * own_N x < 2 ^ 64 then (own_N x : Int) else (own_N x : Int) - (2 ^ 64 : Nat) := BitVec.toInt_eq_toNat_cond x.toBitVec
  have h2 := own_N_lt x
  split at h1 <;> omega
theorem own_N_inj {x y : Int64} (h : own_N x = own_N y) : x = y := Int64.toBitVec_inj.mp (BitVec.eq_of_toNat_eq h)
theorem own_N_and26 (x : Int64) : own_N (x &&& (((1 : Int64) <<< ((26 : Int32).toInt64 &&& 63)) - (1 : Int64))) = own_N x % 67108864 := by
  have e : (((1 : Int64) <<< ((26 : Int32).toInt64 &&& 63)) - (1 : Int64)).toBitVec.toNat = 2 ^ 26 - 1 := by decide
  rw [own_N, Int64.toBitVec_and, BitVec.toNat_and, e, Nat.and_two_pow_sub_one_eq_mod]; rfl
theorem own_N_and25 (x : Int64) : own_N (x &&& (((1 : Int64) <<< ((25 : Int32).toInt64 &&& 63)) - (1 : Int64))) = own_N x % 33554432 := by
  have e : (((1 : Int64) <<< ((25 : Int32).toInt64 &&& 63)) - (1 : Int64)).toBitVec.toNat = 2 ^ 25 - 1 := by decide
  rw [own_N, Int64.toBitVec_and, BitVec.toNat_and, e, Nat.and_two_pow_sub_one_eq_mod]; rfl
theorem own_N_u0 (x : Int64) : own_N (XT.ushrL x (0 : Int32)) = own_N x / 1 := by
  show (x.toBitVec >>> 0).toNat = _
  rw [BitVec.toNat_ushiftRight, Nat.shiftRight_eq_div_pow]; rfl
theorem own_N_u8 (x : Int64) : own_N (XT.ushrL x (8 : Int32)) = own_N x / 256 := by
  show (x.toBitVec >>> 8).toNat = _
  rw [BitVec.toNat_ushiftRight, Nat.shiftRight_eq_div_pow]; rfl
theorem own_N_u12 (x : Int64) : own_N (XT.ushrL x (12 : Int32)) = own_N x / 4096 := by
  show (x.toBitVec >>> 12).toNat = _
  rw [BitVec.toNat_ushiftRight, Nat.shiftRight_eq_div_pow]; rfl
theorem own_N_u13 (x : Int64) : own_N (XT.ushrL x (13 : Int32)) = own_N x / 8192 := by
  show (x.toBitVec >>> 13).toNat = _
  rw [BitVec.toNat_ushiftRight, Nat.shiftRight_eq_div_pow]; rfl
theorem own_N_u25 (x : Int64) : own_N (XT.ushrL x (25 : Int32)) = own_N x / 33554432 := by
  show (x.toBitVec >>> 25).toNat = _
  rw [BitVec.toNat_ushiftRight, Nat.shiftRight_eq_div_pow]; rfl
theorem own_N_u26 (x : Int64) : own_N (XT.ushrL x (26 : Int32)) = own_N x / 67108864 := by
  show (x.toBitVec >>> 26).toNat = _
  rw [BitVec.toNat_ushiftRight, Nat.shiftRight_eq_div_pow]; rfl
theorem own_N_u38 (x : Int64) : own_N (XT.ushrL x (38 : Int32)) = own_N x / 274877906944 := by
  show (x.toBitVec >>> 38).toNat = _
  rw [BitVec.toNat_ushiftRight, Nat.shiftRight_eq_div_pow]; rfl
theorem own_N_u51 (x : Int64) : own_N (XT.ushrL x (51 : Int32)) = own_N x / 2251799813685248 := by
  show (x.toBitVec >>> 51).toNat = _
  rw [BitVec.toNat_ushiftRight, Nat.shiftRight_eq_div_pow]; rfl
theorem own_N_or0 (a b : Int64) (h : own_N a < 1) : own_N (a ||| (b <<< ((0 : Int32).toInt64 &&& 63))) = own_N a + 1 * (own_N b % 18446744073709551616) := by
  have e1 : (b <<< ((0 : Int32).toInt64 &&& 63)).toBitVec.toNat = 2 ^ 0 * (own_N b % 18446744073709551616) := by
    show (b.toBitVec <<< 0).toNat = _
    rw [BitVec.toNat_shiftLeft, Nat.shiftLeft_eq]
    show own_N b * 1 % 18446744073709551616 = 1 * (own_N b % 18446744073709551616)
    omega
  rw [own_N, Int64.toBitVec_or, BitVec.toNat_or, e1, Nat.or_comm, ← Nat.two_pow_add_eq_or_of_lt h]
  show 1 * _ + own_N a = _
  omega
theorem own_N_or1 (a b : Int64) (h : own_N a < 2) : own_N (a ||| (b <<< ((1 : Int32).toInt64 &&& 63))) = own_N a + 2 * (own_N b % 9223372036854775808) := by
  have e1 : (b <<< ((1 : Int32).toInt64 &&& 63)).toBitVec.toNat = 2 ^ 1 * (own_N b % 9223372036854775808) := by
    show (b.toBitVec <<< 1).toNat = _
    rw [BitVec.toNat_shiftLeft, Nat.shiftLeft_eq]
    show own_N b * 2 % 18446744073709551616 = 2 * (own_N b % 9223372036854775808)
    omega
  rw [own_N, Int64.toBitVec_or, BitVec.toNat_or, e1, Nat.or_comm, ← Nat.two_pow_add_eq_or_of_lt h]
  show 2 * _ + own_N a = _
  omega
theorem own_N_or2 (a b : Int64) (h : own_N a < 4) : own_N (a ||| (b <<< ((2 : Int32).toInt64 &&& 63))) = own_N a + 4 * (own_N b % 4611686018427387904) := by
  have e1 : (b <<< ((2 : Int32).toInt64 &&& 63)).toBitVec.toNat = 2 ^ 2 * (own_N b % 4611686018427387904) := by
    show (b.toBitVec <<< 2).toNat = _
    rw [BitVec.toNat_shiftLeft, Nat.shiftLeft_eq]
    show own_N b * 4 % 18446744073709551616 = 4 * (own_N b % 4611686018427387904)
    omega
  rw [own_N, Int64.toBitVec_or, BitVec.toNat_or, e1, Nat.or_comm, ← Nat.two_pow_add_eq_or_of_lt h]
  show 4 * _ + own_N a = _
  omega
theorem own_N_or3 (a b : Int64) (h : own_N a < 8) : own_N (a ||| (b <<< ((3 : Int32).toInt64 &&& 63))) = own_N a + 8 * (own_N b % 2305843009213693952) := by
  have e1 : (b <<< ((3 : Int32).toInt64 &&& 63)).toBitVec.toNat = 2 ^ 3 * (own_N b % 2305843009213693952) := by
    show (b.toBitVec <<< 3).toNat = _
    rw [BitVec.toNat_shiftLeft, Nat.shiftLeft_eq]
    show own_N b * 8 % 18446744073709551616 = 8 * (own_N b % 2305843009213693952)
    omega
  rw [own_N, Int64.toBitVec_or, BitVec.toNat_or, e1, Nat.or_comm, ← Nat.two_pow_add_eq_or_of_lt h]
  show 8 * _ + own_N a = _
  omega
theorem own_N_or4 (a b : Int64) (h : own_N a < 16) : own_N (a ||| (b <<< ((4 : Int32).toInt64 &&& 63))) = own_N a + 16 * (own_N b % 1152921504606846976) := by
  have e1 : (b <<< ((4 : Int32).toInt64 &&& 63)).toBitVec.toNat = 2 ^ 4 * (own_N b % 1152921504606846976) := by
    show (b.toBitVec <<< 4).toNat = _
    rw [BitVec.toNat_shiftLeft, Nat.shiftLeft_eq]
    show own_N b * 16 % 18446744073709551616 = 16 * (own_N b % 1152921504606846976)
    omega
  rw [own_N, Int64.toBitVec_or, BitVec.toNat_or, e1, Nat.or_comm, ← Nat.two_pow_add_eq_or_of_lt h]
  show 16 * _ + own_N a = _
  omega
theorem own_N_or5 (a b : Int64) (h : own_N a < 32) : own_N (a ||| (b <<< ((5 : Int32).toInt64 &&& 63))) = own_N a + 32 * (own_N b % 576460752303423488) := by
  have e1 : (b <<< ((5 : Int32).toInt64 &&& 63)).toBitVec.toNat = 2 ^ 5 * (own_N b % 576460752303423488) := by
    show (b.toBitVec <<< 5).toNat = _
    rw [BitVec.toNat_shiftLeft, Nat.shiftLeft_eq]
    show own_N b * 32 % 18446744073709551616 = 32 * (own_N b % 576460752303423488)
    omega
  rw [own_N, Int64.toBitVec_or, BitVec.toNat_or, e1, Nat.or_comm, ← Nat.two_pow_add_eq_or_of_lt h]
  show 32 * _ + own_N a = _
  omega
theorem own_N_or6 (a b : Int64) (h : own_N a < 64) : own_N (a ||| (b <<< ((6 : Int32).toInt64 &&& 63))) = own_N a + 64 * (own_N b % 288230376151711744) := by
  have e1 : (b <<< ((6 : Int32).toInt64 &&& 63)).toBitVec.toNat = 2 ^ 6 * (own_N b % 288230376151711744) := by
    show (b.toBitVec <<< 6).toNat = _
    rw [BitVec.toNat_shiftLeft, Nat.shiftLeft_eq]
    show own_N b * 64 % 18446744073709551616 = 64 * (own_N b % 288230376151711744)
    omega
  rw [own_N, Int64.toBitVec_or, BitVec.toNat_or, e1, Nat.or_comm, ← Nat.two_pow_add_eq_or_of_lt h]
  show 64 * _ + own_N a = _
  omega
theorem own_N_or13 (a b : Int64) (h : own_N a < 8192) : own_N (a ||| (b <<< ((13 : Int32).toInt64 &&& 63))) = own_N a + 8192 * (own_N b % 2251799813685248) := by
  have e1 : (b <<< ((13 : Int32).toInt64 &&& 63)).toBitVec.toNat = 2 ^ 13 * (own_N b % 2251799813685248) := by
    show (b.toBitVec <<< 13).toNat = _
    rw [BitVec.toNat_shiftLeft, Nat.shiftLeft_eq]
    show own_N b * 8192 % 18446744073709551616 = 8192 * (own_N b % 2251799813685248)
    omega
  rw [own_N, Int64.toBitVec_or, BitVec.toNat_or, e1, Nat.or_comm, ← Nat.two_pow_add_eq_or_of_lt h]
  show 8192 * _ + own_N a = _
  omega
theorem own_N_or8 (a b : Int64) (h : own_N a < 256) : own_N (a ||| (b <<< ((8 : Int32).toInt64 &&& 63))) = own_N a + 256 * (own_N b % 72057594037927936) := by
  have e1 : (b <<< ((8 : Int32).toInt64 &&& 63)).toBitVec.toNat = 2 ^ 8 * (own_N b % 72057594037927936) := by
    show (b.toBitVec <<< 8).toNat = _
    rw [BitVec.toNat_shiftLeft, Nat.shiftLeft_eq]
    show own_N b * 256 % 18446744073709551616 = 256 * (own_N b % 72057594037927936)
    omega
  rw [own_N, Int64.toBitVec_or, BitVec.toNat_or, e1, Nat.or_comm, ← Nat.two_pow_add_eq_or_of_lt h]
  show 256 * _ + own_N a = _
  omega
theorem own_N_or16 (a b : Int64) (h : own_N a < 65536) : own_N (a ||| (b <<< ((16 : Int32).toInt64 &&& 63))) = own_N a + 65536 * (own_N b % 281474976710656) := by
  have e1 : (b <<< ((16 : Int32).toInt64 &&& 63)).toBitVec.toNat = 2 ^ 16 * (own_N b % 281474976710656) := by
    show (b.toBitVec <<< 16).toNat = _
    rw [BitVec.toNat_shiftLeft, Nat.shiftLeft_eq]
    show own_N b * 65536 % 18446744073709551616 = 65536 * (own_N b % 281474976710656)
    omega
  rw [own_N, Int64.toBitVec_or, BitVec.toNat_or, e1, Nat.or_comm, ← Nat.two_pow_add_eq_or_of_lt h]
  show 65536 * _ + own_N a = _
  omega
theorem own_N_or24 (a b : Int64) (h : own_N a < 16777216) : own_N (a ||| (b <<< ((24 : Int32).toInt64 &&& 63))) = own_N a + 16777216 * (own_N b % 1099511627776) := by
  have e1 : (b <<< ((24 : Int32).toInt64 &&& 63)).toBitVec.toNat = 2 ^ 24 * (own_N b % 1099511627776) := by
    show (b.toBitVec <<< 24).toNat = _
    rw [BitVec.toNat_shiftLeft, Nat.shiftLeft_eq]
    show own_N b * 16777216 % 18446744073709551616 = 16777216 * (own_N b % 1099511627776)
    omega
  rw [own_N, Int64.toBitVec_or, BitVec.toNat_or, e1, Nat.or_comm, ← Nat.two_pow_add_eq_or_of_lt h]
  show 16777216 * _ + own_N a = _
  omega
theorem own_N_or32 (a b : Int64) (h : own_N a < 4294967296) : own_N (a ||| (b <<< ((32 : Int32).toInt64 &&& 63))) = own_N a + 4294967296 * (own_N b % 4294967296) := by
  have e1 : (b <<< ((32 : Int32).toInt64 &&& 63)).toBitVec.toNat = 2 ^ 32 * (own_N b % 4294967296) := by
    show (b.toBitVec <<< 32).toNat = _
    rw [BitVec.toNat_shiftLeft, Nat.shiftLeft_eq]
    show own_N b * 4294967296 % 18446744073709551616 = 4294967296 * (own_N b % 4294967296)
    omega
  rw [own_N, Int64.toBitVec_or, BitVec.toNat_or, e1, Nat.or_comm, ← Nat.two_pow_add_eq_or_of_lt h]
  show 4294967296 * _ + own_N a = _
  omega
theorem own_N_or40 (a b : Int64) (h : own_N a < 1099511627776) : own_N (a ||| (b <<< ((40 : Int32).toInt64 &&& 63))) = own_N a + 1099511627776 * (own_N b % 16777216) := by
  have e1 : (b <<< ((40 : Int32).toInt64 &&& 63)).toBitVec.toNat = 2 ^ 40 * (own_N b % 16777216) := by
    show (b.toBitVec <<< 40).toNat = _
    rw [BitVec.toNat_shiftLeft, Nat.shiftLeft_eq]
    show own_N b * 1099511627776 % 18446744073709551616 = 1099511627776 * (own_N b % 16777216)
    omega
  rw [own_N, Int64.toBitVec_or, BitVec.toNat_or, e1, Nat.or_comm, ← Nat.two_pow_add_eq_or_of_lt h]
  show 1099511627776 * _ + own_N a = _
  omega
theorem own_N_or48 (a b : Int64) (h : own_N a < 281474976710656) : own_N (a ||| (b <<< ((48 : Int32).toInt64 &&& 63))) = own_N a + 281474976710656 * (own_N b % 65536) := by
  have e1 : (b <<< ((48 : Int32).toInt64 &&& 63)).toBitVec.toNat = 2 ^ 48 * (own_N b % 65536) := by
    show (b.toBitVec <<< 48).toNat = _
    rw [BitVec.toNat_shiftLeft, Nat.shiftLeft_eq]
    show own_N b * 281474976710656 % 18446744073709551616 = 281474976710656 * (own_N b % 65536)
    omega
  rw [own_N, Int64.toBitVec_or, BitVec.toNat_or, e1, Nat.or_comm, ← Nat.two_pow_add_eq_or_of_lt h]
  show 281474976710656 * _ + own_N a = _
  omega
theorem own_N_or56 (a b : Int64) (h : own_N a < 72057594037927936) : own_N (a ||| (b <<< ((56 : Int32).toInt64 &&& 63))) = own_N a + 72057594037927936 * (own_N b % 256) := by
  have e1 : (b <<< ((56 : Int32).toInt64 &&& 63)).toBitVec.toNat = 2 ^ 56 * (own_N b % 256) := by
    show (b.toBitVec <<< 56).toNat = _
    rw [BitVec.toNat_shiftLeft, Nat.shiftLeft_eq]
    show own_N b * 72057594037927936 % 18446744073709551616 = 72057594037927936 * (own_N b % 256)
    omega
  rw [own_N, Int64.toBitVec_or, BitVec.toNat_or, e1, Nat.or_comm, ← Nat.two_pow_add_eq_or_of_lt h]
  show 72057594037927936 * _ + own_N a = _
  omega
theorem own_N_l0 (q0 q1 q2 q3 : Int64) : (own_l0 q0 q1 q2 q3).toInt = ((own_N q0 / 1 % 67108864 : Nat) : Int) := by
  have e : own_N (own_l0 q0 q1 q2 q3) = own_N q0 / 1 % 67108864 := by rw [own_l0, own_N_and26, own_N_u0]
  rw [own_N_int _ (by rw [e]; omega), e]
theorem own_N_l1 (q0 q1 q2 q3 : Int64) : (own_l1 q0 q1 q2 q3).toInt = ((own_N q0 / 67108864 % 33554432 : Nat) : Int) := by
  have e : own_N (own_l1 q0 q1 q2 q3) = own_N q0 / 67108864 % 33554432 := by rw [own_l1, own_N_and25, own_N_u26]
  rw [own_N_int _ (by rw [e]; omega), e]
theorem own_N_l2 (q0 q1 q2 q3 : Int64) : (own_l2 q0 q1 q2 q3).toInt = ((own_N q0 / 2251799813685248 + 8192 * (own_N q1 % 8192) : Nat) : Int) := by
  have hu := own_N_lt q0
  have e : own_N (own_l2 q0 q1 q2 q3) = own_N q0 / 2251799813685248 + 8192 * (own_N q1 % 8192) := by
    rw [own_l2, own_N_and26, own_N_or13 _ _ (by rw [own_N_u51]; omega), own_N_u51]; omega
  rw [own_N_int _ (by rw [e]; omega), e]
theorem own_N_l3 (q0 q1 q2 q3 : Int64) : (own_l3 q0 q1 q2 q3).toInt = ((own_N q1 / 8192 % 33554432 : Nat) : Int) := by
  have e : own_N (own_l3 q0 q1 q2 q3) = own_N q1 / 8192 % 33554432 := by rw [own_l3, own_N_and25, own_N_u13]
  rw [own_N_int _ (by rw [e]; omega), e]
theorem own_N_l4 (q0 q1 q2 q3 : Int64) : (own_l4 q0 q1 q2 q3).toInt = ((own_N q1 / 274877906944 % 67108864 : Nat) : Int) := by
  have e : own_N (own_l4 q0 q1 q2 q3) = own_N q1 / 274877906944 % 67108864 := by rw [own_l4, own_N_and26, own_N_u38]
  rw [own_N_int _ (by rw [e]; omega), e]
theorem own_N_l5 (q0 q1 q2 q3 : Int64) : (own_l5 q0 q1 q2 q3).toInt = ((own_N q2 / 1 % 33554432 : Nat) : Int) := by
  have e : own_N (own_l5 q0 q1 q2 q3) = own_N q2 / 1 % 33554432 := by rw [own_l5, own_N_and25, own_N_u0]
  rw [own_N_int _ (by rw [e]; omega), e]
theorem own_N_l6 (q0 q1 q2 q3 : Int64) : (own_l6 q0 q1 q2 q3).toInt = ((own_N q2 / 33554432 % 67108864 : Nat) : Int) := by
  have e : own_N (own_l6 q0 q1 q2 q3) = own_N q2 / 33554432 % 67108864 := by rw [own_l6, own_N_and26, own_N_u25]
  rw [own_N_int _ (by rw [e]; omega), e]
theorem own_N_l7 (q0 q1 q2 q3 : Int64) : (own_l7 q0 q1 q2 q3).toInt = ((own_N q2 / 2251799813685248 + 8192 * (own_N q3 % 4096) : Nat) : Int) := by
  have hu := own_N_lt q2
  have e : own_N (own_l7 q0 q1 q2 q3) = own_N q2 / 2251799813685248 + 8192 * (own_N q3 % 4096) := by
    rw [own_l7, own_N_and25, own_N_or13 _ _ (by rw [own_N_u51]; omega), own_N_u51]; omega
  rw [own_N_int _ (by rw [e]; omega), e]
theorem own_N_l8 (q0 q1 q2 q3 : Int64) : (own_l8 q0 q1 q2 q3).toInt = ((own_N q3 / 4096 % 67108864 : Nat) : Int) := by
  have e : own_N (own_l8 q0 q1 q2 q3) = own_N q3 / 4096 % 67108864 := by rw [own_l8, own_N_and26, own_N_u12]
  rw [own_N_int _ (by rw [e]; omega), e]
theorem own_N_l9 (q0 q1 q2 q3 : Int64) : (own_l9 q0 q1 q2 q3).toInt = ((own_N q3 / 274877906944 % 33554432 : Nat) : Int) := by
  have e : own_N (own_l9 q0 q1 q2 q3) = own_N q3 / 274877906944 % 33554432 := by rw [own_l9, own_N_and25, own_N_u38]
  rw [own_N_int _ (by rw [e]; omega), e]
theorem own_limbs (q0 q1 q2 q3 : Int64) (h : 0 ≤ q3.toInt) : (own_l0 q0 q1 q2 q3).toInt + (own_l1 q0 q1 q2 q3).toInt * 67108864 + (own_l2 q0 q1 q2 q3).toInt * 2251799813685248 + (own_l3 q0 q1 q2 q3).toInt * 151115727451828646838272 + (own_l4 q0 q1 q2 q3).toInt * 5070602400912917605986812821504 + (own_l5 q0 q1 q2 q3).toInt * 340282366920938463463374607431768211456 + (own_l6 q0 q1 q2 q3).toInt * 11417981541647679048466287755595961091061972992 + (own_l7 q0 q1 q2 q3).toInt * 766247770432944429179173513575154591809369561091801088 + (own_l8 q0 q1 q2 q3).toInt * 25711008708143844408671393477458601640355247900524685364822016 + (own_l9 q0 q1 q2 q3).toInt * 1725436586697640946858688965569256363112777243042596638790631055949824 = ((own_N q0 + own_N q1 * 18446744073709551616 + own_N q2 * 340282366920938463463374607431768211456 + own_N q3 * 6277101735386680763835789423207666416102355444464034512896 : Nat) : Int) := by
  have h0 := own_N_lt q0
  have h1 := own_N_lt q1
  have h2 := own_N_lt q2
  have h3 := (own_int_N q3 h).2
  rw [own_N_l0, own_N_l1, own_N_l2, own_N_l3, own_N_l4, own_N_l5, own_N_l6, own_N_l7, own_N_l8, own_N_l9]
  omega
theorem own_d_b (q : Int64) (i : Int32) : -1 ≤ (own_d q i).toInt ∧ (own_d q i).toInt ≤ 1 := by
  have key : ∀ t : BitVec 2, -1 ≤ ((((Int64.ofBitVec (t.zeroExtend 64)).toInt32 &&& (1 : Int32)) - ((Int64.ofBitVec (t.zeroExtend 64)).toInt32 >>> ((1 : Int32) &&& 31))).toInt64).toInt ∧ ((((Int64.ofBitVec (t.zeroExtend 64)).toInt32 &&& (1 : Int32)) - ((Int64.ofBitVec (t.zeroExtend 64)).toInt32 >>> ((1 : Int32) &&& 31))).toInt64).toInt ≤ 1 := by decide
  unfold own_d
  generalize XT.ushrL q ((2 : Int32) * i) = y
  have e : y &&& (3 : Int64) = Int64.ofBitVec ((y.toBitVec.setWidth 2).zeroExtend 64) := by
    apply Int64.toBitVec_inj.mp
    rw [Int64.toBitVec_and]
    show y.toBitVec &&& 3#64 = (y.toBitVec.setWidth 2).zeroExtend 64
    apply BitVec.eq_of_toNat_eq
    rw [BitVec.toNat_and, BitVec.zeroExtend, BitVec.toNat_setWidth, BitVec.toNat_setWidth]
    show y.toBitVec.toNat &&& (2 ^ 2 - 1) = _
    rw [Nat.and_two_pow_sub_one_eq_mod]
    omega
  rw [e]; exact key _
end OwnC
section OwnD
theorem own_quotI (c0 c1 c2 c3 c4 c5 c6 c7 c8 c9 g0 g1 g2 g3 g4 g5 g6 g7 g8 g9 : Int) (f0 : g0 = (c0 + 19) / 67108864) (f1 : g1 = (c1 + g0) / 33554432) (f2 : g2 = (c2 + g1) / 67108864) (f3 : g3 = (c3 + g2) / 33554432) (f4 : g4 = (c4 + g3) / 67108864) (f5 : g5 = (c5 + g4) / 33554432) (f6 : g6 = (c6 + g5) / 67108864) (f7 : g7 = (c7 + g6) / 33554432) (f8 : g8 = (c8 + g7) / 67108864) (f9 : g9 = (c9 + g8) / 33554432) (R0 : 0 ≤ c0 ∧ c0 < 67108864) (R1 : 0 ≤ c1 ∧ c1 < 33554432) (R2 : 0 ≤ c2 ∧ c2 < 67108864) (R3 : 0 ≤ c3 ∧ c3 < 33554432) (R4 : 0 ≤ c4 ∧ c4 < 67108864) (R5 : 0 ≤ c5 ∧ c5 < 33554432) (R6 : 0 ≤ c6 ∧ c6 < 67108864) (R7 : 0 ≤ c7 ∧ c7 < 33554432) (R8 : 0 ≤ c8 ∧ c8 < 67108864) (R9 : 0 ≤ c9 ∧ c9 < 33554432) : (g9 = 0 ∧ (c0 + c1 * 67108864 + c2 * 2251799813685248 + c3 * 151115727451828646838272 + c4 * 5070602400912917605986812821504 + c5 * 340282366920938463463374607431768211456 + c6 * 11417981541647679048466287755595961091061972992 + c7 * 766247770432944429179173513575154591809369561091801088 + c8 * 25711008708143844408671393477458601640355247900524685364822016 + c9 * 1725436586697640946858688965569256363112777243042596638790631055949824) + 19 < 57896044618658097711785492504343953926634992332820282019728792003956564819968) ∨ (g9 = 1 ∧ 57896044618658097711785492504343953926634992332820282019728792003956564819968 ≤ (c0 + c1 * 67108864 + c2 * 2251799813685248 + c3 * 151115727451828646838272 + c4 * 5070602400912917605986812821504 + c5 * 340282366920938463463374607431768211456 + c6 * 11417981541647679048466287755595961091061972992 + c7 * 766247770432944429179173513575154591809369561091801088 + c8 * 25711008708143844408671393477458601640355247900524685364822016 + c9 * 1725436586697640946858688965569256363112777243042596638790631055949824) + 19) := by
  have k0 : 0 ≤ (c0 + 19) - g0 * 67108864 ∧ (c0 + 19) - g0 * 67108864 < 67108864 := by omega
  have b0 : 0 ≤ g0 ∧ g0 ≤ 1 := by omega
  have k1 : 0 ≤ (c1 + g0) - g1 * 33554432 ∧ (c1 + g0) - g1 * 33554432 < 33554432 := by omega
  have b1 : 0 ≤ g1 ∧ g1 ≤ 1 := by omega
  have k2 : 0 ≤ (c2 + g1) - g2 * 67108864 ∧ (c2 + g1) - g2 * 67108864 < 67108864 := by omega
  have b2 : 0 ≤ g2 ∧ g2 ≤ 1 := by omega
  have k3 : 0 ≤ (c3 + g2) - g3 * 33554432 ∧ (c3 + g2) - g3 * 33554432 < 33554432 := by omega
  have b3 : 0 ≤ g3 ∧ g3 ≤ 1 := by omega
  have k4 : 0 ≤ (c4 + g3) - g4 * 67108864 ∧ (c4 + g3) - g4 * 67108864 < 67108864 := by omega
  have b4 : 0 ≤ g4 ∧ g4 ≤ 1 := by omega
  have k5 : 0 ≤ (c5 + g4) - g5 * 33554432 ∧ (c5 + g4) - g5 * 33554432 < 33554432 := by omega
  have b5 : 0 ≤ g5 ∧ g5 ≤ 1 := by omega
  have k6 : 0 ≤ (c6 + g5) - g6 * 67108864 ∧ (c6 + g5) - g6 * 67108864 < 67108864 := by omega
  have b6 : 0 ≤ g6 ∧ g6 ≤ 1 := by omega
  have k7 : 0 ≤ (c7 + g6) - g7 * 33554432 ∧ (c7 + g6) - g7 * 33554432 < 33554432 := by omega
  have b7 : 0 ≤ g7 ∧ g7 ≤ 1 := by omega
  have k8 : 0 ≤ (c8 + g7) - g8 * 67108864 ∧ (c8 + g7) - g8 * 67108864 < 67108864 := by omega
  have b8 : 0 ≤ g8 ∧ g8 ≤ 1 := by omega
  have k9 : 0 ≤ (c9 + g8) - g9 * 33554432 ∧ (c9 + g8) - g9 * 33554432 < 33554432 := by omega
  have b9 : 0 ≤ g9 ∧ g9 ≤ 1 := by omega
  clear f0 f1 f2 f3 f4 f5 f6 f7 f8 f9
  omega
theorem own_passI (y0 y1 y2 y3 y4 y5 y6 y7 y8 y9 z0 z1 z2 z3 z4 z5 z6 z7 z8 z9 c0 c1 c2 c3 c4 c5 c6 c7 c8 c9 : Int) (h0 : c0 = (y0) / 67108864) (h1 : z0 = y0 - c0 * 67108864 + 19 * c9) (h2 : c1 = (y1 + c0) / 33554432) (h3 : z1 = y1 + c0 - c1 * 33554432) (h4 : c2 = (y2 + c1) / 67108864) (h5 : z2 = y2 + c1 - c2 * 67108864) (h6 : c3 = (y3 + c2) / 33554432) (h7 : z3 = y3 + c2 - c3 * 33554432) (h8 : c4 = (y4 + c3) / 67108864) (h9 : z4 = y4 + c3 - c4 * 67108864) (h10 : c5 = (y5 + c4) / 33554432) (h11 : z5 = y5 + c4 - c5 * 33554432) (h12 : c6 = (y6 + c5) / 67108864) (h13 : z6 = y6 + c5 - c6 * 67108864) (h14 : c7 = (y7 + c6) / 33554432) (h15 : z7 = y7 + c6 - c7 * 33554432) (h16 : c8 = (y8 + c7) / 67108864) (h17 : z8 = y8 + c7 - c8 * 67108864) (h18 : c9 = (y9 + c8) / 33554432) (h19 : z9 = y9 + c8 - c9 * 33554432) : (z0 + z1 * 67108864 + z2 * 2251799813685248 + z3 * 151115727451828646838272 + z4 * 5070602400912917605986812821504 + z5 * 340282366920938463463374607431768211456 + z6 * 11417981541647679048466287755595961091061972992 + z7 * 766247770432944429179173513575154591809369561091801088 + z8 * 25711008708143844408671393477458601640355247900524685364822016 + z9 * 1725436586697640946858688965569256363112777243042596638790631055949824) = (y0 + y1 * 67108864 + y2 * 2251799813685248 + y3 * 151115727451828646838272 + y4 * 5070602400912917605986812821504 + y5 * 340282366920938463463374607431768211456 + y6 * 11417981541647679048466287755595961091061972992 + y7 * 766247770432944429179173513575154591809369561091801088 + y8 * 25711008708143844408671393477458601640355247900524685364822016 + y9 * 1725436586697640946858688965569256363112777243042596638790631055949824) - c9 * 57896044618658097711785492504343953926634992332820282019728792003956564819949 ∧ (0 ≤ z0 - 19 * c9 ∧ z0 - 19 * c9 < 67108864) ∧ (0 ≤ z1 ∧ z1 < 33554432) ∧ (0 ≤ z2 ∧ z2 < 67108864) ∧ (0 ≤ z3 ∧ z3 < 33554432) ∧ (0 ≤ z4 ∧ z4 < 67108864) ∧ (0 ≤ z5 ∧ z5 < 33554432) ∧ (0 ≤ z6 ∧ z6 < 67108864) ∧ (0 ≤ z7 ∧ z7 < 33554432) ∧ (0 ≤ z8 ∧ z8 < 67108864) ∧ (0 ≤ z9 ∧ z9 < 33554432) ∧ (c9 * 57896044618658097711785492504343953926634992332820282019728792003956564819968 ≤ (y0 + y1 * 67108864 + y2 * 2251799813685248 + y3 * 151115727451828646838272 + y4 * 5070602400912917605986812821504 + y5 * 340282366920938463463374607431768211456 + y6 * 11417981541647679048466287755595961091061972992 + y7 * 766247770432944429179173513575154591809369561091801088 + y8 * 25711008708143844408671393477458601640355247900524685364822016 + y9 * 1725436586697640946858688965569256363112777243042596638790631055949824) ∧ (y0 + y1 * 67108864 + y2 * 2251799813685248 + y3 * 151115727451828646838272 + y4 * 5070602400912917605986812821504 + y5 * 340282366920938463463374607431768211456 + y6 * 11417981541647679048466287755595961091061972992 + y7 * 766247770432944429179173513575154591809369561091801088 + y8 * 25711008708143844408671393477458601640355247900524685364822016 + y9 * 1725436586697640946858688965569256363112777243042596638790631055949824) < c9 * 57896044618658097711785492504343953926634992332820282019728792003956564819968 + 57896044618658097711785492504343953926634992332820282019728792003956564819968) := by
  have k0 : 0 ≤ (y0) - c0 * 67108864 ∧ (y0) - c0 * 67108864 < 67108864 := by omega
  have k1 : 0 ≤ (y1 + c0) - c1 * 33554432 ∧ (y1 + c0) - c1 * 33554432 < 33554432 := by omega
  have k2 : 0 ≤ (y2 + c1) - c2 * 67108864 ∧ (y2 + c1) - c2 * 67108864 < 67108864 := by omega
  have k3 : 0 ≤ (y3 + c2) - c3 * 33554432 ∧ (y3 + c2) - c3 * 33554432 < 33554432 := by omega
  have k4 : 0 ≤ (y4 + c3) - c4 * 67108864 ∧ (y4 + c3) - c4 * 67108864 < 67108864 := by omega
  have k5 : 0 ≤ (y5 + c4) - c5 * 33554432 ∧ (y5 + c4) - c5 * 33554432 < 33554432 := by omega
  have k6 : 0 ≤ (y6 + c5) - c6 * 67108864 ∧ (y6 + c5) - c6 * 67108864 < 67108864 := by omega
  have k7 : 0 ≤ (y7 + c6) - c7 * 33554432 ∧ (y7 + c6) - c7 * 33554432 < 33554432 := by omega
  have k8 : 0 ≤ (y8 + c7) - c8 * 67108864 ∧ (y8 + c7) - c8 * 67108864 < 67108864 := by omega
  have k9 : 0 ≤ (y9 + c8) - c9 * 33554432 ∧ (y9 + c8) - c9 * 33554432 < 33554432 := by omega
  clear h0 h2 h4 h6 h8 h10 h12 h14 h16 h18
  subst h1 h3 h5 h7 h9 h11 h13 h15 h17 h19
  refine ⟨?_, ?_, ?_, ?_, ?_, ?_, ?_, ?_, ?_, ?_, ?_, ?_, ?_⟩
  all_goals omega
set_option maxHeartbeats 4000000 in
theorem own_finV (y0 y1 y2 y3 y4 y5 y6 y7 y8 y9 : Int64) (hy0 : -549755813888 ≤ y0.toInt ∧ y0.toInt < 549755813888) (hy1 : -549755813888 ≤ y1.toInt ∧ y1.toInt < 549755813888) (hy2 : -549755813888 ≤ y2.toInt ∧ y2.toInt < 549755813888) (hy3 : -549755813888 ≤ y3.toInt ∧ y3.toInt < 549755813888) (hy4 : -549755813888 ≤ y4.toInt ∧ y4.toInt < 549755813888) (hy5 : -549755813888 ≤ y5.toInt ∧ y5.toInt < 549755813888) (hy6 : -549755813888 ≤ y6.toInt ∧ y6.toInt < 549755813888) (hy7 : -549755813888 ≤ y7.toInt ∧ y7.toInt < 549755813888) (hy8 : -549755813888 ≤ y8.toInt ∧ y8.toInt < 549755813888) (hy9 : -549755813888 ≤ y9.toInt ∧ y9.toInt < 549755813888) (hV : -115792089237316195423570985008687907853269984665640564039457584007913129639898 ≤ (y0.toInt + y1.toInt * 67108864 + y2.toInt * 2251799813685248 + y3.toInt * 151115727451828646838272 + y4.toInt * 5070602400912917605986812821504 + y5.toInt * 340282366920938463463374607431768211456 + y6.toInt * 11417981541647679048466287755595961091061972992 + y7.toInt * 766247770432944429179173513575154591809369561091801088 + y8.toInt * 25711008708143844408671393477458601640355247900524685364822016 + y9.toInt * 1725436586697640946858688965569256363112777243042596638790631055949824) ∧ (y0.toInt + y1.toInt * 67108864 + y2.toInt * 2251799813685248 + y3.toInt * 151115727451828646838272 + y4.toInt * 5070602400912917605986812821504 + y5.toInt * 340282366920938463463374607431768211456 + y6.toInt * 11417981541647679048466287755595961091061972992 + y7.toInt * 766247770432944429179173513575154591809369561091801088 + y8.toInt * 25711008708143844408671393477458601640355247900524685364822016 + y9.toInt * 1725436586697640946858688965569256363112777243042596638790631055949824) < 115792089237316195423570985008687907853269984665640564039457584007913129639917) : ∃ w0 w1 w2 w3 w4 w5 w6 w7 w8 w9 : Int64, own_fin [y0, y1, y2, y3, y4, y5, y6, y7, y8, y9] = [w0, w1, w2, w3, w4, w5, w6, w7, w8, w9] ∧ (0 ≤ w0.toInt ∧ w0.toInt < 67108864) ∧ (0 ≤ w1.toInt ∧ w1.toInt < 33554432) ∧ (0 ≤ w2.toInt ∧ w2.toInt < 67108864) ∧ (0 ≤ w3.toInt ∧ w3.toInt < 33554432) ∧ (0 ≤ w4.toInt ∧ w4.toInt < 67108864) ∧ (0 ≤ w5.toInt ∧ w5.toInt < 33554432) ∧ (0 ≤ w6.toInt ∧ w6.toInt < 67108864) ∧ (0 ≤ w7.toInt ∧ w7.toInt < 33554432) ∧ (0 ≤ w8.toInt ∧ w8.toInt < 67108864) ∧ (0 ≤ w9.toInt ∧ w9.toInt < 33554432) ∧ ∃ k : Int, (w0.toInt + w1.toInt * 67108864 + w2.toInt * 2251799813685248 + w3.toInt * 151115727451828646838272 + w4.toInt * 5070602400912917605986812821504 + w5.toInt * 340282366920938463463374607431768211456 + w6.toInt * 11417981541647679048466287755595961091061972992 + w7.toInt * 766247770432944429179173513575154591809369561091801088 + w8.toInt * 25711008708143844408671393477458601640355247900524685364822016 + w9.toInt * 1725436586697640946858688965569256363112777243042596638790631055949824) = (y0.toInt + y1.toInt * 67108864 + y2.toInt * 2251799813685248 + y3.toInt * 151115727451828646838272 + y4.toInt * 5070602400912917605986812821504 + y5.toInt * 340282366920938463463374607431768211456 + y6.toInt * 11417981541647679048466287755595961091061972992 + y7.toInt * 766247770432944429179173513575154591809369561091801088 + y8.toInt * 25711008708143844408671393477458601640355247900524685364822016 + y9.toInt * 1725436586697640946858688965569256363112777243042596638790631055949824) - k * 57896044618658097711785492504343953926634992332820282019728792003956564819949 ∧ (0 ≤ (w0.toInt + w1.toInt * 67108864 + w2.toInt * 2251799813685248 + w3.toInt * 151115727451828646838272 + w4.toInt * 5070602400912917605986812821504 + w5.toInt * 340282366920938463463374607431768211456 + w6.toInt * 11417981541647679048466287755595961091061972992 + w7.toInt * 766247770432944429179173513575154591809369561091801088 + w8.toInt * 25711008708143844408671393477458601640355247900524685364822016 + w9.toInt * 1725436586697640946858688965569256363112777243042596638790631055949824) ∧ (w0.toInt + w1.toInt * 67108864 + w2.toInt * 2251799813685248 + w3.toInt * 151115727451828646838272 + w4.toInt * 5070602400912917605986812821504 + w5.toInt * 340282366920938463463374607431768211456 + w6.toInt * 11417981541647679048466287755595961091061972992 + w7.toInt * 766247770432944429179173513575154591809369561091801088 + w8.toInt * 25711008708143844408671393477458601640355247900524685364822016 + w9.toInt * 1725436586697640946858688965569256363112777243042596638790631055949824) < 57896044618658097711785492504343953926634992332820282019728792003956564819949) := by
  obtain ⟨a0, a1, a2, a3, a4, a5, a6, a7, a8, a9, ca0, ca1, ca2, ca3, ca4, ca5, ca6, ca7, ca8, ca9, ra, ea0, ea1, ea2, ea3, ea4, ea5, ea6, ea7, ea8, ea9, ea10, ea11, ea12, ea13, ea14, ea15, ea16, ea17, ea18, ea19⟩ := own_pass10 y0 y1 y2 y3 y4 y5 y6 y7 y8 y9 ⟨by omega, by omega⟩ ⟨by omega, by omega⟩ ⟨by omega, by omega⟩ ⟨by omega, by omega⟩ ⟨by omega, by omega⟩ ⟨by omega, by omega⟩ ⟨by omega, by omega⟩ ⟨by omega, by omega⟩ ⟨by omega, by omega⟩ ⟨by omega, by omega⟩
  obtain ⟨Va, Ra0, Ra1, Ra2, Ra3, Ra4, Ra5, Ra6, Ra7, Ra8, Ra9, Qa1, Qa2⟩ := own_passI y0.toInt y1.toInt y2.toInt y3.toInt y4.toInt y5.toInt y6.toInt y7.toInt y8.toInt y9.toInt a0.toInt a1.toInt a2.toInt a3.toInt a4.toInt a5.toInt a6.toInt a7.toInt a8.toInt a9.toInt ca0 ca1 ca2 ca3 ca4 ca5 ca6 ca7 ca8 ca9 ea0 ea1 ea2 ea3 ea4 ea5 ea6 ea7 ea8 ea9 ea10 ea11 ea12 ea13 ea14 ea15 ea16 ea17 ea18 ea19
  clear ea0 ea1 ea2 ea3 ea4 ea5 ea6 ea7 ea8 ea9 ea10 ea11 ea12 ea13 ea14 ea15 ea16 ea17 ea18 ea19
  have Ba : -2 ≤ ca9 ∧ ca9 ≤ 1 := by omega
  have Wa : -38 ≤ (a0.toInt + a1.toInt * 67108864 + a2.toInt * 2251799813685248 + a3.toInt * 151115727451828646838272 + a4.toInt * 5070602400912917605986812821504 + a5.toInt * 340282366920938463463374607431768211456 + a6.toInt * 11417981541647679048466287755595961091061972992 + a7.toInt * 766247770432944429179173513575154591809369561091801088 + a8.toInt * 25711008708143844408671393477458601640355247900524685364822016 + a9.toInt * 1725436586697640946858688965569256363112777243042596638790631055949824) ∧ (a0.toInt + a1.toInt * 67108864 + a2.toInt * 2251799813685248 + a3.toInt * 151115727451828646838272 + a4.toInt * 5070602400912917605986812821504 + a5.toInt * 340282366920938463463374607431768211456 + a6.toInt * 11417981541647679048466287755595961091061972992 + a7.toInt * 766247770432944429179173513575154591809369561091801088 + a8.toInt * 25711008708143844408671393477458601640355247900524685364822016 + a9.toInt * 1725436586697640946858688965569256363112777243042596638790631055949824) ≤ 57896044618658097711785492504343953926634992332820282019728792003956564819986 := by omega
  obtain ⟨b0, b1, b2, b3, b4, b5, b6, b7, b8, b9, cb0, cb1, cb2, cb3, cb4, cb5, cb6, cb7, cb8, cb9, rb, eb0, eb1, eb2, eb3, eb4, eb5, eb6, eb7, eb8, eb9, eb10, eb11, eb12, eb13, eb14, eb15, eb16, eb17, eb18, eb19⟩ := own_pass10 a0 a1 a2 a3 a4 a5 a6 a7 a8 a9 ⟨by omega, by omega⟩ ⟨by omega, by omega⟩ ⟨by omega, by omega⟩ ⟨by omega, by omega⟩ ⟨by omega, by omega⟩ ⟨by omega, by omega⟩ ⟨by omega, by omega⟩ ⟨by omega, by omega⟩ ⟨by omega, by omega⟩ ⟨by omega, by omega⟩
  obtain ⟨Vb, Rb0, Rb1, Rb2, Rb3, Rb4, Rb5, Rb6, Rb7, Rb8, Rb9, Qb1, Qb2⟩ := own_passI a0.toInt a1.toInt a2.toInt a3.toInt a4.toInt a5.toInt a6.toInt a7.toInt a8.toInt a9.toInt b0.toInt b1.toInt b2.toInt b3.toInt b4.toInt b5.toInt b6.toInt b7.toInt b8.toInt b9.toInt cb0 cb1 cb2 cb3 cb4 cb5 cb6 cb7 cb8 cb9 eb0 eb1 eb2 eb3 eb4 eb5 eb6 eb7 eb8 eb9 eb10 eb11 eb12 eb13 eb14 eb15 eb16 eb17 eb18 eb19
  clear eb0 eb1 eb2 eb3 eb4 eb5 eb6 eb7 eb8 eb9 eb10 eb11 eb12 eb13 eb14 eb15 eb16 eb17 eb18 eb19
  have Bb : -1 ≤ cb9 ∧ cb9 ≤ 1 := by omega
  have Wb : 0 ≤ (b0.toInt + b1.toInt * 67108864 + b2.toInt * 2251799813685248 + b3.toInt * 151115727451828646838272 + b4.toInt * 5070602400912917605986812821504 + b5.toInt * 340282366920938463463374607431768211456 + b6.toInt * 11417981541647679048466287755595961091061972992 + b7.toInt * 766247770432944429179173513575154591809369561091801088 + b8.toInt * 25711008708143844408671393477458601640355247900524685364822016 + b9.toInt * 1725436586697640946858688965569256363112777243042596638790631055949824) ∧ (b0.toInt + b1.toInt * 67108864 + b2.toInt * 2251799813685248 + b3.toInt * 151115727451828646838272 + b4.toInt * 5070602400912917605986812821504 + b5.toInt * 340282366920938463463374607431768211456 + b6.toInt * 11417981541647679048466287755595961091061972992 + b7.toInt * 766247770432944429179173513575154591809369561091801088 + b8.toInt * 25711008708143844408671393477458601640355247900524685364822016 + b9.toInt * 1725436586697640946858688965569256363112777243042596638790631055949824) < 57896044618658097711785492504343953926634992332820282019728792003956564819968 := by omega
  obtain ⟨c0, c1, c2, c3, c4, c5, c6, c7, c8, c9, cc0, cc1, cc2, cc3, cc4, cc5, cc6, cc7, cc8, cc9, rc, ec0, ec1, ec2, ec3, ec4, ec5, ec6, ec7, ec8, ec9, ec10, ec11, ec12, ec13, ec14, ec15, ec16, ec17, ec18, ec19⟩ := own_pass10 b0 b1 b2 b3 b4 b5 b6 b7 b8 b9 ⟨by omega, by omega⟩ ⟨by omega, by omega⟩ ⟨by omega, by omega⟩ ⟨by omega, by omega⟩ ⟨by omega, by omega⟩ ⟨by omega, by omega⟩ ⟨by omega, by omega⟩ ⟨by omega, by omega⟩ ⟨by omega, by omega⟩ ⟨by omega, by omega⟩
  obtain ⟨Vc, Rc0, Rc1, Rc2, Rc3, Rc4, Rc5, Rc6, Rc7, Rc8, Rc9, Qc1, Qc2⟩ := own_passI b0.toInt b1.toInt b2.toInt b3.toInt b4.toInt b5.toInt b6.toInt b7.toInt b8.toInt b9.toInt c0.toInt c1.toInt c2.toInt c3.toInt c4.toInt c5.toInt c6.toInt c7.toInt c8.toInt c9.toInt cc0 cc1 cc2 cc3 cc4 cc5 cc6 cc7 cc8 cc9 ec0 ec1 ec2 ec3 ec4 ec5 ec6 ec7 ec8 ec9 ec10 ec11 ec12 ec13 ec14 ec15 ec16 ec17 ec18 ec19
  clear ec0 ec1 ec2 ec3 ec4 ec5 ec6 ec7 ec8 ec9 ec10 ec11 ec12 ec13 ec14 ec15 ec16 ec17 ec18 ec19
  have Bc : cc9 = 0 := by omega
  subst Bc
  have Wc : 0 ≤ (c0.toInt + c1.toInt * 67108864 + c2.toInt * 2251799813685248 + c3.toInt * 151115727451828646838272 + c4.toInt * 5070602400912917605986812821504 + c5.toInt * 340282366920938463463374607431768211456 + c6.toInt * 11417981541647679048466287755595961091061972992 + c7.toInt * 766247770432944429179173513575154591809369561091801088 + c8.toInt * 25711008708143844408671393477458601640355247900524685364822016 + c9.toInt * 1725436586697640946858688965569256363112777243042596638790631055949824) ∧ (c0.toInt + c1.toInt * 67108864 + c2.toInt * 2251799813685248 + c3.toInt * 151115727451828646838272 + c4.toInt * 5070602400912917605986812821504 + c5.toInt * 340282366920938463463374607431768211456 + c6.toInt * 11417981541647679048466287755595961091061972992 + c7.toInt * 766247770432944429179173513575154591809369561091801088 + c8.toInt * 25711008708143844408671393477458601640355247900524685364822016 + c9.toInt * 1725436586697640946858688965569256363112777243042596638790631055949824) < 57896044618658097711785492504343953926634992332820282019728792003956564819968 := by omega
  have C0 : 0 ≤ c0.toInt ∧ c0.toInt < 67108864 := by omega
  obtain ⟨k, hk⟩ : ∃ k : Int, (c0.toInt + c1.toInt * 67108864 + c2.toInt * 2251799813685248 + c3.toInt * 151115727451828646838272 + c4.toInt * 5070602400912917605986812821504 + c5.toInt * 340282366920938463463374607431768211456 + c6.toInt * 11417981541647679048466287755595961091061972992 + c7.toInt * 766247770432944429179173513575154591809369561091801088 + c8.toInt * 25711008708143844408671393477458601640355247900524685364822016 + c9.toInt * 1725436586697640946858688965569256363112777243042596638790631055949824) = (y0.toInt + y1.toInt * 67108864 + y2.toInt * 2251799813685248 + y3.toInt * 151115727451828646838272 + y4.toInt * 5070602400912917605986812821504 + y5.toInt * 340282366920938463463374607431768211456 + y6.toInt * 11417981541647679048466287755595961091061972992 + y7.toInt * 766247770432944429179173513575154591809369561091801088 + y8.toInt * 25711008708143844408671393477458601640355247900524685364822016 + y9.toInt * 1725436586697640946858688965569256363112777243042596638790631055949824) - k * 57896044618658097711785492504343953926634992332820282019728792003956564819949 := ⟨ca9 + cb9, by omega⟩
  clear Va Vb Vc Qa1 Qa2 Qb1 Qb2 Qc1 Qc2 Wa Wb Rc0 hV hy0 hy1 hy2 hy3 hy4 hy5 hy6 hy7 hy8 hy9 Ra0 Ra1 Ra2 Ra3 Ra4 Ra5 Ra6 Ra7 Ra8 Ra9 Rb0 Rb1 Rb2 Rb3 Rb4 Rb5 Rb6 Rb7 Rb8 Rb9
  obtain ⟨g0, g1, g2, g3, g4, g5, g6, g7, g8, g9, hq, f0, f1, f2, f3, f4, f5, f6, f7, f8, f9⟩ := own_quot c0 c1 c2 c3 c4 c5 c6 c7 c8 c9 ⟨by omega, by omega⟩ ⟨by omega, by omega⟩ ⟨by omega, by omega⟩ ⟨by omega, by omega⟩ ⟨by omega, by omega⟩ ⟨by omega, by omega⟩ ⟨by omega, by omega⟩ ⟨by omega, by omega⟩ ⟨by omega, by omega⟩ ⟨by omega, by omega⟩
  have hg : (g9 = 0 ∧ (c0.toInt + c1.toInt * 67108864 + c2.toInt * 2251799813685248 + c3.toInt * 151115727451828646838272 + c4.toInt * 5070602400912917605986812821504 + c5.toInt * 340282366920938463463374607431768211456 + c6.toInt * 11417981541647679048466287755595961091061972992 + c7.toInt * 766247770432944429179173513575154591809369561091801088 + c8.toInt * 25711008708143844408671393477458601640355247900524685364822016 + c9.toInt * 1725436586697640946858688965569256363112777243042596638790631055949824) + 19 < 57896044618658097711785492504343953926634992332820282019728792003956564819968) ∨ (g9 = 1 ∧ 57896044618658097711785492504343953926634992332820282019728792003956564819968 ≤ (c0.toInt + c1.toInt * 67108864 + c2.toInt * 2251799813685248 + c3.toInt * 151115727451828646838272 + c4.toInt * 5070602400912917605986812821504 + c5.toInt * 340282366920938463463374607431768211456 + c6.toInt * 11417981541647679048466287755595961091061972992 + c7.toInt * 766247770432944429179173513575154591809369561091801088 + c8.toInt * 25711008708143844408671393477458601640355247900524685364822016 + c9.toInt * 1725436586697640946858688965569256363112777243042596638790631055949824) + 19) := own_quotI c0.toInt c1.toInt c2.toInt c3.toInt c4.toInt c5.toInt c6.toInt c7.toInt c8.toInt c9.toInt g0 g1 g2 g3 g4 g5 g6 g7 g8 g9 f0 f1 f2 f3 f4 f5 f6 f7 f8 f9 C0 Rc1 Rc2 Rc3 Rc4 Rc5 Rc6 Rc7 Rc8 Rc9
  clear f0 f1 f2 f3 f4 f5 f6 f7 f8 f9
  have e19 : (19 : Int64).toInt = 19 := by decide
  have m9 : ((19 : Int64) * own_qq 9 [c0, c1, c2, c3, c4, c5, c6, c7, c8, c9]).toInt = 19 * g9 := by rw [own_mulc (by rw [e19]; omega) (by rw [e19]; omega), e19, hq]
  have a9 : (c0 + (19 : Int64) * own_qq 9 [c0, c1, c2, c3, c4, c5, c6, c7, c8, c9]).toInt = c0.toInt + 19 * g9 := by rw [own_add (by omega) (by omega), m9]
  obtain ⟨x0, hx0⟩ : ∃ x, x = c0 + (19 : Int64) * own_qq 9 [c0, c1, c2, c3, c4, c5, c6, c7, c8, c9] := ⟨_, rfl⟩
  rw [← hx0] at a9
  obtain ⟨d0, d1, d2, d3, d4, d5, d6, d7, d8, d9, u0, u1, u2, u3, u4, u5, u6, u7, u8, rd, t0, t1, t2, t3, t4, t5, t6, t7, t8, t9, t10, t11, t12, t13, t14, t15, t16, t17, t18⟩ := own_pass9 x0 c1 c2 c3 c4 c5 c6 c7 c8 c9 ⟨by omega, by omega⟩ ⟨by omega, by omega⟩ ⟨by omega, by omega⟩ ⟨by omega, by omega⟩ ⟨by omega, by omega⟩ ⟨by omega, by omega⟩ ⟨by omega, by omega⟩ ⟨by omega, by omega⟩ ⟨by omega, by omega⟩ ⟨by omega, by omega⟩
  have hd9 : 0 ≤ d9.toInt ∧ d9.toInt < 67108864 := by omega
  have nd := own_int_N d9 hd9.1
  obtain ⟨w9, hw9⟩ : ∃ w, w = (d9 &&& (((1 : Int64) <<< ((25 : Int32).toInt64 &&& 63)) - (1 : Int64))) := ⟨_, rfl⟩
  have n9 : own_N w9 = own_N d9 % 33554432 := by rw [hw9]; exact own_N_and25 d9
  have v9 : w9.toInt = (own_N w9 : Int) := own_N_int _ (by omega)
  have v9 : w9.toInt = d9.toInt % 33554432 := by omega
  have fe : own_fin [y0, y1, y2, y3, y4, y5, y6, y7, y8, y9] = [d0, d1, d2, d3, d4, d5, d6, d7, d8, w9] := by
    have h3 : own_3 [y0, y1, y2, y3, y4, y5, y6, y7, y8, y9] = [c0, c1, c2, c3, c4, c5, c6, c7, c8, c9] := by rw [own_3, ra, rb, rc]
    have h4 : own_a [c0, c1, c2, c3, c4, c5, c6, c7, c8, c9] = [x0, c1, c2, c3, c4, c5, c6, c7, c8, c9] := by rw [hx0]; rfl
    rw [own_fin, h3, h4, rd, hw9]; rfl
  refine ⟨d0, d1, d2, d3, d4, d5, d6, d7, d8, w9, fe, ?_, ?_, ?_, ?_, ?_, ?_, ?_, ?_, ?_, ?_, k + g9, ?_⟩
  all_goals clear fe rd ra rb rc hx0 hw9 n9 nd m9 hq e19
  all_goals omega
end OwnD
section OwnE
theorem own_bm (x : Int) : (x.bmod 256) % 256 = x % 256 := by
  rw [Int.bmod_def]; split <;> omega
theorem own_N_mod (x : Int64) : ((own_N x % 256 : Nat) : Int) = x.toInt % 256 := by
  have h1 : x.toInt = if 2 * own_N x < 2 ^ 64 then (own_N x : Int) else (own_N x : Int) - (2 ^ 64 : Nat) := BitVec.toInt_eq_toNat_cond x.toBitVec
  have h2 := own_N_lt x
  split at h1 <;> omega
theorem own_N_255 (x : Int64) : own_N (x &&& (255 : Int64)) = own_N x % 256 := by
  rw [own_N, Int64.toBitVec_and, BitVec.toNat_and]
  show own_N x &&& (2 ^ 8 - 1) = _
  rw [Nat.and_two_pow_sub_one_eq_mod]
theorem own_byte (u : Int64) : own_N ((u.toInt32.toInt8.toInt32.toInt8.toInt32).toInt64 &&& (255 : Int64)) = own_N u % 256 := by
  have h : ((own_N ((u.toInt32.toInt8.toInt32.toInt8.toInt32).toInt64) % 256 : Nat) : Int) = ((own_N u % 256 : Nat) : Int) := by
    rw [own_N_mod, own_N_mod, Int32.toInt_toInt64, Int8.toInt_toInt32, Int32.toInt_toInt8, Int8.toInt_toInt32, Int32.toInt_toInt8, Int64.toInt_toInt32]
    show ((((u.toInt.bmod 4294967296).bmod 256).bmod 256) % 256) = _
    rw [own_bm, own_bm, Int.bmod_def]; split <;> omega
  rw [own_N_255]; omega
theorem own_packN (u0 u1 u2 u3 u4 u5 u6 u7 : Int64) : own_N (own_pack (u0.toInt32.toInt8.toInt32.toInt8.toInt32) (u1.toInt32.toInt8.toInt32.toInt8.toInt32) (u2.toInt32.toInt8.toInt32.toInt8.toInt32) (u3.toInt32.toInt8.toInt32.toInt8.toInt32) (u4.toInt32.toInt8.toInt32.toInt8.toInt32) (u5.toInt32.toInt8.toInt32.toInt8.toInt32) (u6.toInt32.toInt8.toInt32.toInt8.toInt32) (u7.toInt32.toInt8.toInt32.toInt8.toInt32)) = own_N u0 % 256 + own_N u1 % 256 * 256 + own_N u2 % 256 * 65536 + own_N u3 % 256 * 16777216 + own_N u4 % 256 * 4294967296 + own_N u5 % 256 * 1099511627776 + own_N u6 % 256 * 281474976710656 + own_N u7 % 256 * 72057594037927936 := by
  have b0 := own_byte u0
  have b1 := own_byte u1
  have b2 := own_byte u2
  have b3 := own_byte u3
  have b4 := own_byte u4
  have b5 := own_byte u5
  have b6 := own_byte u6
  have b7 := own_byte u7
  unfold own_pack
  generalize ((u0.toInt32.toInt8.toInt32.toInt8.toInt32).toInt64 &&& (255 : Int64)) = t0 at b0 ⊢
  generalize ((u1.toInt32.toInt8.toInt32.toInt8.toInt32).toInt64 &&& (255 : Int64)) = t1 at b1 ⊢
  generalize ((u2.toInt32.toInt8.toInt32.toInt8.toInt32).toInt64 &&& (255 : Int64)) = t2 at b2 ⊢
  generalize ((u3.toInt32.toInt8.toInt32.toInt8.toInt32).toInt64 &&& (255 : Int64)) = t3 at b3 ⊢
  generalize ((u4.toInt32.toInt8.toInt32.toInt8.toInt32).toInt64 &&& (255 : Int64)) = t4 at b4 ⊢
  generalize ((u5.toInt32.toInt8.toInt32.toInt8.toInt32).toInt64 &&& (255 : Int64)) = t5 at b5 ⊢
  generalize ((u6.toInt32.toInt8.toInt32.toInt8.toInt32).toInt64 &&& (255 : Int64)) = t6 at b6 ⊢
  generalize ((u7.toInt32.toInt8.toInt32.toInt8.toInt32).toInt64 &&& (255 : Int64)) = t7 at b7 ⊢
  have s1 := own_N_or8 t0 t1 (by omega)
  have s2 := own_N_or16 (t0 ||| (t1 <<< ((8 : Int32).toInt64 &&& 63))) t2 (by omega)
  have s3 := own_N_or24 ((t0 ||| (t1 <<< ((8 : Int32).toInt64 &&& 63))) ||| (t2 <<< ((16 : Int32).toInt64 &&& 63))) t3 (by omega)
  have s4 := own_N_or32 (((t0 ||| (t1 <<< ((8 : Int32).toInt64 &&& 63))) ||| (t2 <<< ((16 : Int32).toInt64 &&& 63))) ||| (t3 <<< ((24 : Int32).toInt64 &&& 63))) t4 (by omega)
  have s5 := own_N_or40 ((((t0 ||| (t1 <<< ((8 : Int32).toInt64 &&& 63))) ||| (t2 <<< ((16 : Int32).toInt64 &&& 63))) ||| (t3 <<< ((24 : Int32).toInt64 &&& 63))) ||| (t4 <<< ((32 : Int32).toInt64 &&& 63))) t5 (by omega)
  have s6 := own_N_or48 (((((t0 ||| (t1 <<< ((8 : Int32).toInt64 &&& 63))) ||| (t2 <<< ((16 : Int32).toInt64 &&& 63))) ||| (t3 <<< ((24 : Int32).toInt64 &&& 63))) ||| (t4 <<< ((32 : Int32).toInt64 &&& 63))) ||| (t5 <<< ((40 : Int32).toInt64 &&& 63))) t6 (by omega)
  have s7 := own_N_or56 ((((((t0 ||| (t1 <<< ((8 : Int32).toInt64 &&& 63))) ||| (t2 <<< ((16 : Int32).toInt64 &&& 63))) ||| (t3 <<< ((24 : Int32).toInt64 &&& 63))) ||| (t4 <<< ((32 : Int32).toInt64 &&& 63))) ||| (t5 <<< ((40 : Int32).toInt64 &&& 63))) ||| (t6 <<< ((48 : Int32).toInt64 &&& 63))) t7 (by omega)
  omega
theorem own_Nt0 (W : List Int64) (q : Int64) (hq : own_N q < 1) (hw : own_N (W.getD 0 0) < 67108864) : own_N q + 1 * own_N (W.getD 0 0) = own_N (own_u0 W q) % 256 + own_N (own_u1 W q) % 256 * 256 + own_N (own_u2 W q) % 256 * 65536 + 16777216 * own_N (own_u3 W q) ∧ own_N (own_u3 W q) < 4 := by
  have e0 : own_N (own_u0 W q) = own_N q + 1 * (own_N (W.getD 0 0) % 18446744073709551616) := own_N_or0 _ _ hq
  have e1 : own_N (own_u1 W q) = own_N (own_u0 W q) / 256 := own_N_u8 _
  have e2 : own_N (own_u2 W q) = own_N (own_u1 W q) / 256 := own_N_u8 _
  have e3 : own_N (own_u3 W q) = own_N (own_u2 W q) / 256 := own_N_u8 _
  omega
theorem own_Nt1 (W : List Int64) (q : Int64) (hq : own_N q < 4) (hw : own_N (W.getD 1 0) < 33554432) : own_N q + 4 * own_N (W.getD 1 0) = own_N (own_u4 W q) % 256 + own_N (own_u5 W q) % 256 * 256 + own_N (own_u6 W q) % 256 * 65536 + 16777216 * own_N (own_u7 W q) ∧ own_N (own_u7 W q) < 8 := by
  have e0 : own_N (own_u4 W q) = own_N q + 4 * (own_N (W.getD 1 0) % 4611686018427387904) := own_N_or2 _ _ hq
  have e5 : own_N (own_u5 W q) = own_N (own_u4 W q) / 256 := own_N_u8 _
  have e6 : own_N (own_u6 W q) = own_N (own_u5 W q) / 256 := own_N_u8 _
  have e7 : own_N (own_u7 W q) = own_N (own_u6 W q) / 256 := own_N_u8 _
  omega
theorem own_Nt2 (W : List Int64) (q : Int64) (hq : own_N q < 8) (hw : own_N (W.getD 2 0) < 67108864) : own_N q + 8 * own_N (W.getD 2 0) = own_N (own_u8 W q) % 256 + own_N (own_u9 W q) % 256 * 256 + own_N (own_u10 W q) % 256 * 65536 + 16777216 * own_N (own_u11 W q) ∧ own_N (own_u11 W q) < 32 := by
  have e0 : own_N (own_u8 W q) = own_N q + 8 * (own_N (W.getD 2 0) % 2305843009213693952) := own_N_or3 _ _ hq
  have e9 : own_N (own_u9 W q) = own_N (own_u8 W q) / 256 := own_N_u8 _
  have e10 : own_N (own_u10 W q) = own_N (own_u9 W q) / 256 := own_N_u8 _
  have e11 : own_N (own_u11 W q) = own_N (own_u10 W q) / 256 := own_N_u8 _
  omega
theorem own_Nt3 (W : List Int64) (q : Int64) (hq : own_N q < 32) (hw : own_N (W.getD 3 0) < 33554432) : own_N q + 32 * own_N (W.getD 3 0) = own_N (own_u12 W q) % 256 + own_N (own_u13 W q) % 256 * 256 + own_N (own_u14 W q) % 256 * 65536 + 16777216 * own_N (own_u15 W q) ∧ own_N (own_u15 W q) < 64 := by
  have e0 : own_N (own_u12 W q) = own_N q + 32 * (own_N (W.getD 3 0) % 576460752303423488) := own_N_or5 _ _ hq
  have e13 : own_N (own_u13 W q) = own_N (own_u12 W q) / 256 := own_N_u8 _
  have e14 : own_N (own_u14 W q) = own_N (own_u13 W q) / 256 := own_N_u8 _
  have e15 : own_N (own_u15 W q) = own_N (own_u14 W q) / 256 := own_N_u8 _
  omega
theorem own_Nt4 (W : List Int64) (q : Int64) (hq : own_N q < 64) (hw : own_N (W.getD 4 0) < 67108864) : own_N q + 64 * own_N (W.getD 4 0) = own_N (own_u16 W q) % 256 + own_N (own_u17 W q) % 256 * 256 + own_N (own_u18 W q) % 256 * 65536 + own_N (own_u19 W q) % 256 * 16777216 + 4294967296 * own_N (own_u20 W q) ∧ own_N (own_u20 W q) < 1 := by
  have e0 : own_N (own_u16 W q) = own_N q + 64 * (own_N (W.getD 4 0) % 288230376151711744) := own_N_or6 _ _ hq
  have e17 : own_N (own_u17 W q) = own_N (own_u16 W q) / 256 := own_N_u8 _
  have e18 : own_N (own_u18 W q) = own_N (own_u17 W q) / 256 := own_N_u8 _
  have e19 : own_N (own_u19 W q) = own_N (own_u18 W q) / 256 := own_N_u8 _
  have e20 : own_N (own_u20 W q) = own_N (own_u19 W q) / 256 := own_N_u8 _
  omega
theorem own_Nt5 (W : List Int64) (q : Int64) (hq : own_N q < 1) (hw : own_N (W.getD 5 0) < 33554432) : own_N q + 1 * own_N (W.getD 5 0) = own_N (own_u21 W q) % 256 + own_N (own_u22 W q) % 256 * 256 + own_N (own_u23 W q) % 256 * 65536 + 16777216 * own_N (own_u24 W q) ∧ own_N (own_u24 W q) < 2 := by
  have e0 : own_N (own_u21 W q) = own_N q + 1 * (own_N (W.getD 5 0) % 18446744073709551616) := own_N_or0 _ _ hq
  have e22 : own_N (own_u22 W q) = own_N (own_u21 W q) / 256 := own_N_u8 _
  have e23 : own_N (own_u23 W q) = own_N (own_u22 W q) / 256 := own_N_u8 _
  have e24 : own_N (own_u24 W q) = own_N (own_u23 W q) / 256 := own_N_u8 _
  omega
theorem own_Nt6 (W : List Int64) (q : Int64) (hq : own_N q < 2) (hw : own_N (W.getD 6 0) < 67108864) : own_N q + 2 * own_N (W.getD 6 0) = own_N (own_u25 W q) % 256 + own_N (own_u26 W q) % 256 * 256 + own_N (own_u27 W q) % 256 * 65536 + 16777216 * own_N (own_u28 W q) ∧ own_N (own_u28 W q) < 8 := by
  have e0 : own_N (own_u25 W q) = own_N q + 2 * (own_N (W.getD 6 0) % 9223372036854775808) := own_N_or1 _ _ hq
  have e26 : own_N (own_u26 W q) = own_N (own_u25 W q) / 256 := own_N_u8 _
  have e27 : own_N (own_u27 W q) = own_N (own_u26 W q) / 256 := own_N_u8 _
  have e28 : own_N (own_u28 W q) = own_N (own_u27 W q) / 256 := own_N_u8 _
  omega
theorem own_Nt7 (W : List Int64) (q : Int64) (hq : own_N q < 8) (hw : own_N (W.getD 7 0) < 33554432) : own_N q + 8 * own_N (W.getD 7 0) = own_N (own_u29 W q) % 256 + own_N (own_u30 W q) % 256 * 256 + own_N (own_u31 W q) % 256 * 65536 + 16777216 * own_N (own_u32 W q) ∧ own_N (own_u32 W q) < 16 := by
  have e0 : own_N (own_u29 W q) = own_N q + 8 * (own_N (W.getD 7 0) % 2305843009213693952) := own_N_or3 _ _ hq
  have e30 : own_N (own_u30 W q) = own_N (own_u29 W q) / 256 := own_N_u8 _
  have e31 : own_N (own_u31 W q) = own_N (own_u30 W q) / 256 := own_N_u8 _
  have e32 : own_N (own_u32 W q) = own_N (own_u31 W q) / 256 := own_N_u8 _
  omega
theorem own_Nt8 (W : List Int64) (q : Int64) (hq : own_N q < 16) (hw : own_N (W.getD 8 0) < 67108864) : own_N q + 16 * own_N (W.getD 8 0) = own_N (own_u33 W q) % 256 + own_N (own_u34 W q) % 256 * 256 + own_N (own_u35 W q) % 256 * 65536 + 16777216 * own_N (own_u36 W q) ∧ own_N (own_u36 W q) < 64 := by
  have e0 : own_N (own_u33 W q) = own_N q + 16 * (own_N (W.getD 8 0) % 1152921504606846976) := own_N_or4 _ _ hq
  have e34 : own_N (own_u34 W q) = own_N (own_u33 W q) / 256 := own_N_u8 _
  have e35 : own_N (own_u35 W q) = own_N (own_u34 W q) / 256 := own_N_u8 _
  have e36 : own_N (own_u36 W q) = own_N (own_u35 W q) / 256 := own_N_u8 _
  omega
theorem own_Nt9 (W : List Int64) (q : Int64) (hq : own_N q < 64) (hw : own_N (W.getD 9 0) < 33554432) : own_N q + 64 * own_N (W.getD 9 0) = own_N (own_u37 W q) % 256 + own_N (own_u38 W q) % 256 * 256 + own_N (own_u39 W q) % 256 * 65536 + 16777216 * own_N (own_u40 W q) ∧ own_N (own_u40 W q) < 128 := by
  have e0 : own_N (own_u37 W q) = own_N q + 64 * (own_N (W.getD 9 0) % 288230376151711744) := own_N_or6 _ _ hq
  have e38 : own_N (own_u38 W q) = own_N (own_u37 W q) / 256 := own_N_u8 _
  have e39 : own_N (own_u39 W q) = own_N (own_u38 W q) / 256 := own_N_u8 _
  have e40 : own_N (own_u40 W q) = own_N (own_u39 W q) / 256 := own_N_u8 _
  omega
theorem own_bytes_eq (W : List Int64) : own_bytes W = [(own_u0 W (0 : Int64)).toInt32.toInt8.toInt32.toInt8.toInt32, (own_u1 W (0 : Int64)).toInt32.toInt8.toInt32.toInt8.toInt32, (own_u2 W (0 : Int64)).toInt32.toInt8.toInt32.toInt8.toInt32, (own_u4 W (own_q0 W)).toInt32.toInt8.toInt32.toInt8.toInt32, (own_u5 W (own_q0 W)).toInt32.toInt8.toInt32.toInt8.toInt32, (own_u6 W (own_q0 W)).toInt32.toInt8.toInt32.toInt8.toInt32, (own_u8 W (own_q1 W)).toInt32.toInt8.toInt32.toInt8.toInt32, (own_u9 W (own_q1 W)).toInt32.toInt8.toInt32.toInt8.toInt32, (own_u10 W (own_q1 W)).toInt32.toInt8.toInt32.toInt8.toInt32, (own_u12 W (own_q2 W)).toInt32.toInt8.toInt32.toInt8.toInt32, (own_u13 W (own_q2 W)).toInt32.toInt8.toInt32.toInt8.toInt32, (own_u14 W (own_q2 W)).toInt32.toInt8.toInt32.toInt8.toInt32, (own_u16 W (own_q3 W)).toInt32.toInt8.toInt32.toInt8.toInt32, (own_u17 W (own_q3 W)).toInt32.toInt8.toInt32.toInt8.toInt32, (own_u18 W (own_q3 W)).toInt32.toInt8.toInt32.toInt8.toInt32, (own_u19 W (own_q3 W)).toInt32.toInt8.toInt32.toInt8.toInt32, (own_u21 W (own_q4 W)).toInt32.toInt8.toInt32.toInt8.toInt32, (own_u22 W (own_q4 W)).toInt32.toInt8.toInt32.toInt8.toInt32, (own_u23 W (own_q4 W)).toInt32.toInt8.toInt32.toInt8.toInt32, (own_u25 W (own_q5 W)).toInt32.toInt8.toInt32.toInt8.toInt32, (own_u26 W (own_q5 W)).toInt32.toInt8.toInt32.toInt8.toInt32, (own_u27 W (own_q5 W)).toInt32.toInt8.toInt32.toInt8.toInt32, (own_u29 W (own_q6 W)).toInt32.toInt8.toInt32.toInt8.toInt32, (own_u30 W (own_q6 W)).toInt32.toInt8.toInt32.toInt8.toInt32, (own_u31 W (own_q6 W)).toInt32.toInt8.toInt32.toInt8.toInt32, (own_u33 W (own_q7 W)).toInt32.toInt8.toInt32.toInt8.toInt32, (own_u34 W (own_q7 W)).toInt32.toInt8.toInt32.toInt8.toInt32, (own_u35 W (own_q7 W)).toInt32.toInt8.toInt32.toInt8.toInt32, (own_u37 W (own_q8 W)).toInt32.toInt8.toInt32.toInt8.toInt32, (own_u38 W (own_q8 W)).toInt32.toInt8.toInt32.toInt8.toInt32, (own_u39 W (own_q8 W)).toInt32.toInt8.toInt32.toInt8.toInt32, (own_q9 W).toInt32.toInt8.toInt32.toInt8.toInt32] := by
  simp only [own_bytes, own_bs9, own_bs8, own_bs7, own_bs6, own_bs5, own_bs4, own_bs3, own_bs2, own_bs1, own_bs0, List.replicate, List.set_cons_zero, List.set_cons_succ]
theorem own_pk0 (W : List Int64) : own_N (own_pk (own_bytes W) 0) = own_N (own_u0 W (0 : Int64)) % 256 + own_N (own_u1 W (0 : Int64)) % 256 * 256 + own_N (own_u2 W (0 : Int64)) % 256 * 65536 + own_N (own_u4 W (own_q0 W)) % 256 * 16777216 + own_N (own_u5 W (own_q0 W)) % 256 * 4294967296 + own_N (own_u6 W (own_q0 W)) % 256 * 1099511627776 + own_N (own_u8 W (own_q1 W)) % 256 * 281474976710656 + own_N (own_u9 W (own_q1 W)) % 256 * 72057594037927936 := by
  rw [own_bytes_eq]
  exact own_packN (own_u0 W (0 : Int64)) (own_u1 W (0 : Int64)) (own_u2 W (0 : Int64)) (own_u4 W (own_q0 W)) (own_u5 W (own_q0 W)) (own_u6 W (own_q0 W)) (own_u8 W (own_q1 W)) (own_u9 W (own_q1 W))
theorem own_pk8 (W : List Int64) : own_N (own_pk (own_bytes W) 8) = own_N (own_u10 W (own_q1 W)) % 256 + own_N (own_u12 W (own_q2 W)) % 256 * 256 + own_N (own_u13 W (own_q2 W)) % 256 * 65536 + own_N (own_u14 W (own_q2 W)) % 256 * 16777216 + own_N (own_u16 W (own_q3 W)) % 256 * 4294967296 + own_N (own_u17 W (own_q3 W)) % 256 * 1099511627776 + own_N (own_u18 W (own_q3 W)) % 256 * 281474976710656 + own_N (own_u19 W (own_q3 W)) % 256 * 72057594037927936 := by
  rw [own_bytes_eq]
  exact own_packN (own_u10 W (own_q1 W)) (own_u12 W (own_q2 W)) (own_u13 W (own_q2 W)) (own_u14 W (own_q2 W)) (own_u16 W (own_q3 W)) (own_u17 W (own_q3 W)) (own_u18 W (own_q3 W)) (own_u19 W (own_q3 W))
theorem own_pk16 (W : List Int64) : own_N (own_pk (own_bytes W) 16) = own_N (own_u21 W (own_q4 W)) % 256 + own_N (own_u22 W (own_q4 W)) % 256 * 256 + own_N (own_u23 W (own_q4 W)) % 256 * 65536 + own_N (own_u25 W (own_q5 W)) % 256 * 16777216 + own_N (own_u26 W (own_q5 W)) % 256 * 4294967296 + own_N (own_u27 W (own_q5 W)) % 256 * 1099511627776 + own_N (own_u29 W (own_q6 W)) % 256 * 281474976710656 + own_N (own_u30 W (own_q6 W)) % 256 * 72057594037927936 := by
  rw [own_bytes_eq]
  exact own_packN (own_u21 W (own_q4 W)) (own_u22 W (own_q4 W)) (own_u23 W (own_q4 W)) (own_u25 W (own_q5 W)) (own_u26 W (own_q5 W)) (own_u27 W (own_q5 W)) (own_u29 W (own_q6 W)) (own_u30 W (own_q6 W))
theorem own_pk24 (W : List Int64) : own_N (own_pk (own_bytes W) 24) = own_N (own_u31 W (own_q6 W)) % 256 + own_N (own_u33 W (own_q7 W)) % 256 * 256 + own_N (own_u34 W (own_q7 W)) % 256 * 65536 + own_N (own_u35 W (own_q7 W)) % 256 * 16777216 + own_N (own_u37 W (own_q8 W)) % 256 * 4294967296 + own_N (own_u38 W (own_q8 W)) % 256 * 1099511627776 + own_N (own_u39 W (own_q8 W)) % 256 * 281474976710656 + own_N (own_q9 W) % 256 * 72057594037927936 := by
  rw [own_bytes_eq]
  exact own_packN (own_u31 W (own_q6 W)) (own_u33 W (own_q7 W)) (own_u34 W (own_q7 W)) (own_u35 W (own_q7 W)) (own_u37 W (own_q8 W)) (own_u38 W (own_q8 W)) (own_u39 W (own_q8 W)) (own_q9 W)
set_option maxHeartbeats 4000000 in
theorem own_wordsN (W : List Int64) (h0 : own_N (W.getD 0 0) < 67108864) (h1 : own_N (W.getD 1 0) < 33554432) (h2 : own_N (W.getD 2 0) < 67108864) (h3 : own_N (W.getD 3 0) < 33554432) (h4 : own_N (W.getD 4 0) < 67108864) (h5 : own_N (W.getD 5 0) < 33554432) (h6 : own_N (W.getD 6 0) < 67108864) (h7 : own_N (W.getD 7 0) < 33554432) (h8 : own_N (W.getD 8 0) < 67108864) (h9 : own_N (W.getD 9 0) < 33554432) : (own_N (W.getD 0 0) + own_N (W.getD 1 0) * 67108864 + own_N (W.getD 2 0) * 2251799813685248 + own_N (W.getD 3 0) * 151115727451828646838272 + own_N (W.getD 4 0) * 5070602400912917605986812821504 + own_N (W.getD 5 0) * 340282366920938463463374607431768211456 + own_N (W.getD 6 0) * 11417981541647679048466287755595961091061972992 + own_N (W.getD 7 0) * 766247770432944429179173513575154591809369561091801088 + own_N (W.getD 8 0) * 25711008708143844408671393477458601640355247900524685364822016 + own_N (W.getD 9 0) * 1725436586697640946858688965569256363112777243042596638790631055949824) = own_N (own_pk (own_bytes W) 0) + own_N (own_pk (own_bytes W) 8) * 18446744073709551616 + own_N (own_pk (own_bytes W) 16) * 340282366920938463463374607431768211456 + own_N (own_pk (own_bytes W) 24) * 6277101735386680763835789423207666416102355444464034512896 := by
  obtain ⟨a0, b0⟩ := own_Nt0 W (0 : Int64) (by decide) h0
  rw [show own_u3 W (0 : Int64) = own_q0 W from rfl] at a0 b0
  obtain ⟨a1, b1⟩ := own_Nt1 W (own_q0 W) b0 h1
  rw [show own_u7 W (own_q0 W) = own_q1 W from rfl] at a1 b1
  obtain ⟨a2, b2⟩ := own_Nt2 W (own_q1 W) b1 h2
  rw [show own_u11 W (own_q1 W) = own_q2 W from rfl] at a2 b2
  obtain ⟨a3, b3⟩ := own_Nt3 W (own_q2 W) b2 h3
  rw [show own_u15 W (own_q2 W) = own_q3 W from rfl] at a3 b3
  obtain ⟨a4, b4⟩ := own_Nt4 W (own_q3 W) b3 h4
  rw [show own_u20 W (own_q3 W) = own_q4 W from rfl] at a4 b4
  obtain ⟨a5, b5⟩ := own_Nt5 W (own_q4 W) b4 h5
  rw [show own_u24 W (own_q4 W) = own_q5 W from rfl] at a5 b5
  obtain ⟨a6, b6⟩ := own_Nt6 W (own_q5 W) b5 h6
  rw [show own_u28 W (own_q5 W) = own_q6 W from rfl] at a6 b6
  obtain ⟨a7, b7⟩ := own_Nt7 W (own_q6 W) b6 h7
  rw [show own_u32 W (own_q6 W) = own_q7 W from rfl] at a7 b7
  obtain ⟨a8, b8⟩ := own_Nt8 W (own_q7 W) b7 h8
  rw [show own_u36 W (own_q7 W) = own_q8 W from rfl] at a8 b8
  obtain ⟨a9, b9⟩ := own_Nt9 W (own_q8 W) b8 h9
  rw [show own_u40 W (own_q8 W) = own_q9 W from rfl] at a9 b9
  rw [show own_N (0 : Int64) = 0 from by decide] at a0
  rw [own_pk0, own_pk8, own_pk16, own_pk24]
  rw [Nat.mod_eq_of_lt (show own_N (own_q9 W) < 256 by omega)]
  generalize own_N (own_u0 W (0 : Int64)) % 256 = y0 at *
  generalize own_N (own_u1 W (0 : Int64)) % 256 = y1 at *
  generalize own_N (own_u2 W (0 : Int64)) % 256 = y2 at *
  generalize own_N (own_u4 W (own_q0 W)) % 256 = y3 at *
  generalize own_N (own_u5 W (own_q0 W)) % 256 = y4 at *
  generalize own_N (own_u6 W (own_q0 W)) % 256 = y5 at *
  generalize own_N (own_u8 W (own_q1 W)) % 256 = y6 at *
  generalize own_N (own_u9 W (own_q1 W)) % 256 = y7 at *
  generalize own_N (own_u10 W (own_q1 W)) % 256 = y8 at *
  generalize own_N (own_u12 W (own_q2 W)) % 256 = y9 at *
  generalize own_N (own_u13 W (own_q2 W)) % 256 = y10 at *
  generalize own_N (own_u14 W (own_q2 W)) % 256 = y11 at *
  generalize own_N (own_u16 W (own_q3 W)) % 256 = y12 at *
  generalize own_N (own_u17 W (own_q3 W)) % 256 = y13 at *
  generalize own_N (own_u18 W (own_q3 W)) % 256 = y14 at *
  generalize own_N (own_u19 W (own_q3 W)) % 256 = y15 at *
  generalize own_N (own_u21 W (own_q4 W)) % 256 = y16 at *
  generalize own_N (own_u22 W (own_q4 W)) % 256 = y17 at *
  generalize own_N (own_u23 W (own_q4 W)) % 256 = y18 at *
  generalize own_N (own_u25 W (own_q5 W)) % 256 = y19 at *
  generalize own_N (own_u26 W (own_q5 W)) % 256 = y20 at *
  generalize own_N (own_u27 W (own_q5 W)) % 256 = y21 at *
  generalize own_N (own_u29 W (own_q6 W)) % 256 = y22 at *
  generalize own_N (own_u30 W (own_q6 W)) % 256 = y23 at *
  generalize own_N (own_u31 W (own_q6 W)) % 256 = y24 at *
  generalize own_N (own_u33 W (own_q7 W)) % 256 = y25 at *
  generalize own_N (own_u34 W (own_q7 W)) % 256 = y26 at *
  generalize own_N (own_u35 W (own_q7 W)) % 256 = y27 at *
  generalize own_N (own_u37 W (own_q8 W)) % 256 = y28 at *
  generalize own_N (own_u38 W (own_q8 W)) % 256 = y29 at *
  generalize own_N (own_u39 W (own_q8 W)) % 256 = y30 at *
  generalize own_N (own_q0 W) = Q0 at *
  generalize own_N (own_q1 W) = Q1 at *
  generalize own_N (own_q2 W) = Q2 at *
  generalize own_N (own_q3 W) = Q3 at *
  generalize own_N (own_q4 W) = Q4 at *
  generalize own_N (own_q5 W) = Q5 at *
  generalize own_N (own_q6 W) = Q6 at *
  generalize own_N (own_q7 W) = Q7 at *
  generalize own_N (own_q8 W) = Q8 at *
  generalize own_N (own_q9 W) = Q9 at *
  generalize own_N (W.getD 0 0) = n0 at *
  generalize own_N (W.getD 1 0) = n1 at *
  generalize own_N (W.getD 2 0) = n2 at *
  generalize own_N (W.getD 3 0) = n3 at *
  generalize own_N (W.getD 4 0) = n4 at *
  generalize own_N (W.getD 5 0) = n5 at *
  generalize own_N (W.getD 6 0) = n6 at *
  generalize own_N (W.getD 7 0) = n7 at *
  generalize own_N (W.getD 8 0) = n8 at *
  generalize own_N (W.getD 9 0) = n9 at *
  clear h0 h1 h2 h3 h4 h5 h6 h7 h8 h9 b0 b1 b2 b3 b4 b5 b6 b7 b8 b9
  omega
theorem own_words (w0 w1 w2 w3 w4 w5 w6 w7 w8 w9 : Int64) (h0 : 0 ≤ w0.toInt ∧ w0.toInt < 67108864) (h1 : 0 ≤ w1.toInt ∧ w1.toInt < 33554432) (h2 : 0 ≤ w2.toInt ∧ w2.toInt < 67108864) (h3 : 0 ≤ w3.toInt ∧ w3.toInt < 33554432) (h4 : 0 ≤ w4.toInt ∧ w4.toInt < 67108864) (h5 : 0 ≤ w5.toInt ∧ w5.toInt < 33554432) (h6 : 0 ≤ w6.toInt ∧ w6.toInt < 67108864) (h7 : 0 ≤ w7.toInt ∧ w7.toInt < 33554432) (h8 : 0 ≤ w8.toInt ∧ w8.toInt < 67108864) (h9 : 0 ≤ w9.toInt ∧ w9.toInt < 33554432) : (w0.toInt + w1.toInt * 67108864 + w2.toInt * 2251799813685248 + w3.toInt * 151115727451828646838272 + w4.toInt * 5070602400912917605986812821504 + w5.toInt * 340282366920938463463374607431768211456 + w6.toInt * 11417981541647679048466287755595961091061972992 + w7.toInt * 766247770432944429179173513575154591809369561091801088 + w8.toInt * 25711008708143844408671393477458601640355247900524685364822016 + w9.toInt * 1725436586697640946858688965569256363112777243042596638790631055949824) = ((own_N (own_pk (own_bytes [w0, w1, w2, w3, w4, w5, w6, w7, w8, w9]) 0) + own_N (own_pk (own_bytes [w0, w1, w2, w3, w4, w5, w6, w7, w8, w9]) 8) * 18446744073709551616 + own_N (own_pk (own_bytes [w0, w1, w2, w3, w4, w5, w6, w7, w8, w9]) 16) * 340282366920938463463374607431768211456 + own_N (own_pk (own_bytes [w0, w1, w2, w3, w4, w5, w6, w7, w8, w9]) 24) * 6277101735386680763835789423207666416102355444464034512896 : Nat) : Int) := by
  have n0 := own_int_N w0 h0.1
  have n1 := own_int_N w1 h1.1
  have n2 := own_int_N w2 h2.1
  have n3 := own_int_N w3 h3.1
  have n4 := own_int_N w4 h4.1
  have n5 := own_int_N w5 h5.1
  have n6 := own_int_N w6 h6.1
  have n7 := own_int_N w7 h7.1
  have n8 := own_int_N w8 h8.1
  have n9 := own_int_N w9 h9.1
  have q : (own_N w0 + own_N w1 * 67108864 + own_N w2 * 2251799813685248 + own_N w3 * 151115727451828646838272 + own_N w4 * 5070602400912917605986812821504 + own_N w5 * 340282366920938463463374607431768211456 + own_N w6 * 11417981541647679048466287755595961091061972992 + own_N w7 * 766247770432944429179173513575154591809369561091801088 + own_N w8 * 25711008708143844408671393477458601640355247900524685364822016 + own_N w9 * 1725436586697640946858688965569256363112777243042596638790631055949824) = _ := own_wordsN [w0, w1, w2, w3, w4, w5, w6, w7, w8, w9] (show own_N w0 < 67108864 by omega) (show own_N w1 < 33554432 by omega) (show own_N w2 < 67108864 by omega) (show own_N w3 < 33554432 by omega) (show own_N w4 < 67108864 by omega) (show own_N w5 < 33554432 by omega) (show own_N w6 < 67108864 by omega) (show own_N w7 < 33554432 by omega) (show own_N w8 < 67108864 by omega) (show own_N w9 < 33554432 by omega)
  rw [← q]; omega
end OwnE
section OwnF
theorem own_lim26 (g d c : Int64) (hg : -134217728 ≤ g.toInt ∧ g.toInt < 134217728) (hd : -1 ≤ d.toInt ∧ d.toInt ≤ 1) (hc : -19 ≤ c.toInt ∧ c.toInt ≤ 19) : (g - d * (67108864 : Int64) + c).toInt = g.toInt - d.toInt * 67108864 + c.toInt := by
  have e : (67108864 : Int64).toInt = 67108864 := by decide
  have n : (d * (67108864 : Int64)).toInt = d.toInt * 67108864 := by rw [own_mulc (by rw [e]; omega) (by rw [e]; omega), e]
  have s : (g - d * (67108864 : Int64)).toInt = g.toInt - d.toInt * 67108864 := by rw [own_sub (by omega) (by omega), n]
  rw [own_add (by omega) (by omega), s]
theorem own_lim25 (g d c : Int64) (hg : -134217728 ≤ g.toInt ∧ g.toInt < 134217728) (hd : -1 ≤ d.toInt ∧ d.toInt ≤ 1) (hc : -19 ≤ c.toInt ∧ c.toInt ≤ 19) : (g - d * (33554432 : Int64) + c).toInt = g.toInt - d.toInt * 33554432 + c.toInt := by
  have e : (33554432 : Int64).toInt = 33554432 := by decide
  have n : (d * (33554432 : Int64)).toInt = d.toInt * 33554432 := by rw [own_mulc (by rw [e]; omega) (by rw [e]; omega), e]
  have s : (g - d * (33554432 : Int64)).toInt = g.toInt - d.toInt * 33554432 := by rw [own_sub (by omega) (by omega), n]
  rw [own_add (by omega) (by omega), s]
theorem own_n19 (d : Int64) (hd : -1 ≤ d.toInt ∧ d.toInt ≤ 1) : ((19 : Int64) * d).toInt = 19 * d.toInt := by
  have e19 : (19 : Int64).toInt = 19 := by decide
  rw [own_mulc (by rw [e19]; omega) (by rw [e19]; omega), e19]
theorem own_dmV (q4 g0 g1 g2 g3 g4 g5 g6 g7 g8 g9 : Int64) (h0 : -134217728 ≤ g0.toInt ∧ g0.toInt < 134217728) (h1 : -134217728 ≤ g1.toInt ∧ g1.toInt < 134217728) (h2 : -134217728 ≤ g2.toInt ∧ g2.toInt < 134217728) (h3 : -134217728 ≤ g3.toInt ∧ g3.toInt < 134217728) (h4 : -134217728 ≤ g4.toInt ∧ g4.toInt < 134217728) (h5 : -134217728 ≤ g5.toInt ∧ g5.toInt < 134217728) (h6 : -134217728 ≤ g6.toInt ∧ g6.toInt < 134217728) (h7 : -134217728 ≤ g7.toInt ∧ g7.toInt < 134217728) (h8 : -134217728 ≤ g8.toInt ∧ g8.toInt < 134217728) (h9 : -134217728 ≤ g9.toInt ∧ g9.toInt < 134217728) : ∃ y0 y1 y2 y3 y4 y5 y6 y7 y8 y9 : Int64, ∃ d0 d1 d2 d3 d4 d5 d6 d7 d8 d9 : Int, own_dm [g0, g1, g2, g3, g4, g5, g6, g7, g8, g9] q4 = [y0, y1, y2, y3, y4, y5, y6, y7, y8, y9] ∧ (-1 ≤ d0 ∧ d0 ≤ 1) ∧ (-1 ≤ d1 ∧ d1 ≤ 1) ∧ (-1 ≤ d2 ∧ d2 ≤ 1) ∧ (-1 ≤ d3 ∧ d3 ≤ 1) ∧ (-1 ≤ d4 ∧ d4 ≤ 1) ∧ (-1 ≤ d5 ∧ d5 ≤ 1) ∧ (-1 ≤ d6 ∧ d6 ≤ 1) ∧ (-1 ≤ d7 ∧ d7 ≤ 1) ∧ (-1 ≤ d8 ∧ d8 ≤ 1) ∧ (-1 ≤ d9 ∧ d9 ≤ 1) ∧ y0.toInt = g0.toInt - d0 * 67108864 + 19 * d9 ∧ y1.toInt = g1.toInt - d1 * 33554432 + d0 ∧ y2.toInt = g2.toInt - d2 * 67108864 + d1 ∧ y3.toInt = g3.toInt - d3 * 33554432 + d2 ∧ y4.toInt = g4.toInt - d4 * 67108864 + d3 ∧ y5.toInt = g5.toInt - d5 * 33554432 + d4 ∧ y6.toInt = g6.toInt - d6 * 67108864 + d5 ∧ y7.toInt = g7.toInt - d7 * 33554432 + d6 ∧ y8.toInt = g8.toInt - d8 * 67108864 + d7 ∧ y9.toInt = g9.toInt - d9 * 33554432 + d8 := by
  have el : own_dm [g0, g1, g2, g3, g4, g5, g6, g7, g8, g9] q4 = [((g0 - ((own_d q4 (0 : Int32)) * (67108864 : Int64))) + ((19 : Int64) * (own_d q4 (9 : Int32)))), ((g1 - ((own_d q4 (1 : Int32)) * (33554432 : Int64))) + (own_d q4 (0 : Int32))), ((g2 - ((own_d q4 (2 : Int32)) * (67108864 : Int64))) + (own_d q4 (1 : Int32))), ((g3 - ((own_d q4 (3 : Int32)) * (33554432 : Int64))) + (own_d q4 (2 : Int32))), ((g4 - ((own_d q4 (4 : Int32)) * (67108864 : Int64))) + (own_d q4 (3 : Int32))), ((g5 - ((own_d q4 (5 : Int32)) * (33554432 : Int64))) + (own_d q4 (4 : Int32))), ((g6 - ((own_d q4 (6 : Int32)) * (67108864 : Int64))) + (own_d q4 (5 : Int32))), ((g7 - ((own_d q4 (7 : Int32)) * (33554432 : Int64))) + (own_d q4 (6 : Int32))), ((g8 - ((own_d q4 (8 : Int32)) * (67108864 : Int64))) + (own_d q4 (7 : Int32))), ((g9 - ((own_d q4 (9 : Int32)) * (33554432 : Int64))) + (own_d q4 (8 : Int32)))] := rfl
  have n9 := own_n19 _ (own_d_b q4 (9 : Int32))
  have b9 := own_d_b q4 (9 : Int32)
  refine ⟨_, _, _, _, _, _, _, _, _, _, (own_d q4 (0 : Int32)).toInt, (own_d q4 (1 : Int32)).toInt, (own_d q4 (2 : Int32)).toInt, (own_d q4 (3 : Int32)).toInt, (own_d q4 (4 : Int32)).toInt, (own_d q4 (5 : Int32)).toInt, (own_d q4 (6 : Int32)).toInt, (own_d q4 (7 : Int32)).toInt, (own_d q4 (8 : Int32)).toInt, (own_d q4 (9 : Int32)).toInt, el, own_d_b q4 (0 : Int32), own_d_b q4 (1 : Int32), own_d_b q4 (2 : Int32), own_d_b q4 (3 : Int32), own_d_b q4 (4 : Int32), own_d_b q4 (5 : Int32), own_d_b q4 (6 : Int32), own_d_b q4 (7 : Int32), own_d_b q4 (8 : Int32), own_d_b q4 (9 : Int32), ?_, ?_, ?_, ?_, ?_, ?_, ?_, ?_, ?_, ?_⟩
  · rw [own_lim26 _ _ _ h0 (own_d_b q4 (0 : Int32)) (by rw [n9]; clear el n9; generalize (own_d q4 (9 : Int32)).toInt = z at *; omega), n9]
  · exact own_lim25 _ _ _ h1 (own_d_b q4 (1 : Int32)) (by have b := own_d_b q4 (0 : Int32); clear el n9; generalize (own_d q4 (0 : Int32)).toInt = z at *; omega)
  · exact own_lim26 _ _ _ h2 (own_d_b q4 (2 : Int32)) (by have b := own_d_b q4 (1 : Int32); clear el n9; generalize (own_d q4 (1 : Int32)).toInt = z at *; omega)
  · exact own_lim25 _ _ _ h3 (own_d_b q4 (3 : Int32)) (by have b := own_d_b q4 (2 : Int32); clear el n9; generalize (own_d q4 (2 : Int32)).toInt = z at *; omega)
  · exact own_lim26 _ _ _ h4 (own_d_b q4 (4 : Int32)) (by have b := own_d_b q4 (3 : Int32); clear el n9; generalize (own_d q4 (3 : Int32)).toInt = z at *; omega)
  · exact own_lim25 _ _ _ h5 (own_d_b q4 (5 : Int32)) (by have b := own_d_b q4 (4 : Int32); clear el n9; generalize (own_d q4 (4 : Int32)).toInt = z at *; omega)
  · exact own_lim26 _ _ _ h6 (own_d_b q4 (6 : Int32)) (by have b := own_d_b q4 (5 : Int32); clear el n9; generalize (own_d q4 (5 : Int32)).toInt = z at *; omega)
  · exact own_lim25 _ _ _ h7 (own_d_b q4 (7 : Int32)) (by have b := own_d_b q4 (6 : Int32); clear el n9; generalize (own_d q4 (6 : Int32)).toInt = z at *; omega)
  · exact own_lim26 _ _ _ h8 (own_d_b q4 (8 : Int32)) (by have b := own_d_b q4 (7 : Int32); clear el n9; generalize (own_d q4 (7 : Int32)).toInt = z at *; omega)
  · exact own_lim25 _ _ _ h9 (own_d_b q4 (9 : Int32)) (by have b := own_d_b q4 (8 : Int32); clear el n9; generalize (own_d q4 (8 : Int32)).toInt = z at *; omega)
set_option maxHeartbeats 4000000 in
theorem own_core (x0 x1 x2 v3 q4 : Int64) (hv : 0 ≤ v3.toInt) (a : Int) (ha : 0 ≤ a ∧ a ≤ 1) (g0 g1 g2 g3 g4 g5 g6 g7 g8 g9 : Int64) (h0 : g0.toInt = (own_l0 x0 x1 x2 v3).toInt - a * 67108845) (h1 : g1.toInt = (own_l1 x0 x1 x2 v3).toInt - a * 33554431) (h2 : g2.toInt = (own_l2 x0 x1 x2 v3).toInt - a * 67108863) (h3 : g3.toInt = (own_l3 x0 x1 x2 v3).toInt - a * 33554431) (h4 : g4.toInt = (own_l4 x0 x1 x2 v3).toInt - a * 67108863) (h5 : g5.toInt = (own_l5 x0 x1 x2 v3).toInt - a * 33554431) (h6 : g6.toInt = (own_l6 x0 x1 x2 v3).toInt - a * 67108863) (h7 : g7.toInt = (own_l7 x0 x1 x2 v3).toInt - a * 33554431) (h8 : g8.toInt = (own_l8 x0 x1 x2 v3).toInt - a * 67108863) (h9 : g9.toInt = (own_l9 x0 x1 x2 v3).toInt - a * 33554431) : ∃ k : Int, (((own_N (own_pk (own_bytes (own_fin (own_dm [g0, g1, g2, g3, g4, g5, g6, g7, g8, g9] q4))) 0) + own_N (own_pk (own_bytes (own_fin (own_dm [g0, g1, g2, g3, g4, g5, g6, g7, g8, g9] q4))) 8) * 18446744073709551616 + own_N (own_pk (own_bytes (own_fin (own_dm [g0, g1, g2, g3, g4, g5, g6, g7, g8, g9] q4))) 16) * 340282366920938463463374607431768211456 + own_N (own_pk (own_bytes (own_fin (own_dm [g0, g1, g2, g3, g4, g5, g6, g7, g8, g9] q4))) 24) * 6277101735386680763835789423207666416102355444464034512896 : Nat) : Nat) : Int) = (((own_N x0 + own_N x1 * 18446744073709551616 + own_N x2 * 340282366920938463463374607431768211456 + own_N v3 * 6277101735386680763835789423207666416102355444464034512896 : Nat) : Nat) : Int) - k * 57896044618658097711785492504343953926634992332820282019728792003956564819949 ∧ (((own_N (own_pk (own_bytes (own_fin (own_dm [g0, g1, g2, g3, g4, g5, g6, g7, g8, g9] q4))) 0) + own_N (own_pk (own_bytes (own_fin (own_dm [g0, g1, g2, g3, g4, g5, g6, g7, g8, g9] q4))) 8) * 18446744073709551616 + own_N (own_pk (own_bytes (own_fin (own_dm [g0, g1, g2, g3, g4, g5, g6, g7, g8, g9] q4))) 16) * 340282366920938463463374607431768211456 + own_N (own_pk (own_bytes (own_fin (own_dm [g0, g1, g2, g3, g4, g5, g6, g7, g8, g9] q4))) 24) * 6277101735386680763835789423207666416102355444464034512896 : Nat) : Nat) : Int) < 57896044618658097711785492504343953926634992332820282019728792003956564819949 := by
  have l0 : 0 ≤ (own_l0 x0 x1 x2 v3).toInt ∧ (own_l0 x0 x1 x2 v3).toInt < 67108864 := by rw [own_N_l0]; have := own_N_lt x0; have := own_N_lt x2; omega
  have l1 : 0 ≤ (own_l1 x0 x1 x2 v3).toInt ∧ (own_l1 x0 x1 x2 v3).toInt < 33554432 := by rw [own_N_l1]; have := own_N_lt x0; have := own_N_lt x2; omega
  have l2 : 0 ≤ (own_l2 x0 x1 x2 v3).toInt ∧ (own_l2 x0 x1 x2 v3).toInt < 67108864 := by rw [own_N_l2]; have := own_N_lt x0; have := own_N_lt x2; omega
  have l3 : 0 ≤ (own_l3 x0 x1 x2 v3).toInt ∧ (own_l3 x0 x1 x2 v3).toInt < 33554432 := by rw [own_N_l3]; have := own_N_lt x0; have := own_N_lt x2; omega
  have l4 : 0 ≤ (own_l4 x0 x1 x2 v3).toInt ∧ (own_l4 x0 x1 x2 v3).toInt < 67108864 := by rw [own_N_l4]; have := own_N_lt x0; have := own_N_lt x2; omega
  have l5 : 0 ≤ (own_l5 x0 x1 x2 v3).toInt ∧ (own_l5 x0 x1 x2 v3).toInt < 33554432 := by rw [own_N_l5]; have := own_N_lt x0; have := own_N_lt x2; omega
  have l6 : 0 ≤ (own_l6 x0 x1 x2 v3).toInt ∧ (own_l6 x0 x1 x2 v3).toInt < 67108864 := by rw [own_N_l6]; have := own_N_lt x0; have := own_N_lt x2; omega
  have l7 : 0 ≤ (own_l7 x0 x1 x2 v3).toInt ∧ (own_l7 x0 x1 x2 v3).toInt < 33554432 := by rw [own_N_l7]; have := own_N_lt x0; have := own_N_lt x2; omega
  have l8 : 0 ≤ (own_l8 x0 x1 x2 v3).toInt ∧ (own_l8 x0 x1 x2 v3).toInt < 67108864 := by rw [own_N_l8]; have := own_N_lt x0; have := own_N_lt x2; omega
  have l9 : 0 ≤ (own_l9 x0 x1 x2 v3).toInt ∧ (own_l9 x0 x1 x2 v3).toInt < 33554432 := by rw [own_N_l9]; have := own_N_lt x0; have := own_N_lt x2; omega
  have hE := own_limbs x0 x1 x2 v3 hv
  have k0 := own_N_lt x0
  have k1 := own_N_lt x1
  have k2 := own_N_lt x2
  have k3 := (own_int_N v3 hv).2
  generalize (own_l0 x0 x1 x2 v3).toInt = L0 at *
  generalize (own_l1 x0 x1 x2 v3).toInt = L1 at *
  generalize (own_l2 x0 x1 x2 v3).toInt = L2 at *
  generalize (own_l3 x0 x1 x2 v3).toInt = L3 at *
  generalize (own_l4 x0 x1 x2 v3).toInt = L4 at *
  generalize (own_l5 x0 x1 x2 v3).toInt = L5 at *
  generalize (own_l6 x0 x1 x2 v3).toInt = L6 at *
  generalize (own_l7 x0 x1 x2 v3).toInt = L7 at *
  generalize (own_l8 x0 x1 x2 v3).toInt = L8 at *
  generalize (own_l9 x0 x1 x2 v3).toInt = L9 at *
  obtain ⟨y0, y1, y2, y3, y4, y5, y6, y7, y8, y9, d0, d1, d2, d3, d4, d5, d6, d7, d8, d9, ed, b0, b1, b2, b3, b4, b5, b6, b7, b8, b9, t0, t1, t2, t3, t4, t5, t6, t7, t8, t9⟩ := own_dmV q4 g0 g1 g2 g3 g4 g5 g6 g7 g8 g9 ⟨by omega, by omega⟩ ⟨by omega, by omega⟩ ⟨by omega, by omega⟩ ⟨by omega, by omega⟩ ⟨by omega, by omega⟩ ⟨by omega, by omega⟩ ⟨by omega, by omega⟩ ⟨by omega, by omega⟩ ⟨by omega, by omega⟩ ⟨by omega, by omega⟩
  rw [ed]
  have hV : (y0.toInt + y1.toInt * 67108864 + y2.toInt * 2251799813685248 + y3.toInt * 151115727451828646838272 + y4.toInt * 5070602400912917605986812821504 + y5.toInt * 340282366920938463463374607431768211456 + y6.toInt * 11417981541647679048466287755595961091061972992 + y7.toInt * 766247770432944429179173513575154591809369561091801088 + y8.toInt * 25711008708143844408671393477458601640355247900524685364822016 + y9.toInt * 1725436586697640946858688965569256363112777243042596638790631055949824) = (((own_N x0 + own_N x1 * 18446744073709551616 + own_N x2 * 340282366920938463463374607431768211456 + own_N v3 * 6277101735386680763835789423207666416102355444464034512896 : Nat) : Nat) : Int) - (a + d9) * 57896044618658097711785492504343953926634992332820282019728792003956564819949 := by omega
  obtain ⟨w0, w1, w2, w3, w4, w5, w6, w7, w8, w9, ef, r0, r1, r2, r3, r4, r5, r6, r7, r8, r9, k, hk, hb⟩ := own_finV y0 y1 y2 y3 y4 y5 y6 y7 y8 y9 ⟨by omega, by omega⟩ ⟨by omega, by omega⟩ ⟨by omega, by omega⟩ ⟨by omega, by omega⟩ ⟨by omega, by omega⟩ ⟨by omega, by omega⟩ ⟨by omega, by omega⟩ ⟨by omega, by omega⟩ ⟨by omega, by omega⟩ ⟨by omega, by omega⟩ ⟨by omega, by omega⟩
  have hw := own_words w0 w1 w2 w3 w4 w5 w6 w7 w8 w9 r0 r1 r2 r3 r4 r5 r6 r7 r8 r9
  rw [ef, ← hw]
  refine ⟨a + d9 + k, ?_, hb.2⟩
  clear hw hb ef ed hE
  rw [hk, hV]; omega
theorem own_four (x0 x1 x2 v3 P0 P1 P2 P3 : Int64) (hv : 0 ≤ v3.toInt) (k : Int) (h : ((own_N P0 + own_N P1 * 18446744073709551616 + own_N P2 * 340282366920938463463374607431768211456 + own_N P3 * 6277101735386680763835789423207666416102355444464034512896 : Nat) : Int) = (((own_N x0 + own_N x1 * 18446744073709551616 + own_N x2 * 340282366920938463463374607431768211456 + own_N v3 * 6277101735386680763835789423207666416102355444464034512896 : Nat) : Nat) : Int) - k * 57896044618658097711785492504343953926634992332820282019728792003956564819949) (hp : ((own_N P0 + own_N P1 * 18446744073709551616 + own_N P2 * 340282366920938463463374607431768211456 + own_N P3 * 6277101735386680763835789423207666416102355444464034512896 : Nat) : Int) < 57896044618658097711785492504343953926634992332820282019728792003956564819949) : P0 = (if v3 = (9223372036854775807 : Int64) then (if x2 = (-1 : Int64) then (if x1 = (-1 : Int64) then (if x0 < (0 : Int64) then (if x0 < (-19 : Int64) then x0 else (x0 + (19 : Int64))) else x0) else x0) else x0) else x0) ∧ P1 = (if v3 = (9223372036854775807 : Int64) then (if x2 = (-1 : Int64) then (if x1 = (-1 : Int64) then (if x0 < (0 : Int64) then (if x0 < (-19 : Int64) then x1 else (0 : Int64)) else x1) else x1) else x1) else x1) ∧ P2 = (if v3 = (9223372036854775807 : Int64) then (if x2 = (-1 : Int64) then (if x1 = (-1 : Int64) then (if x0 < (0 : Int64) then (if x0 < (-19 : Int64) then x2 else (0 : Int64)) else x2) else x2) else x2) else x2) ∧ P3 = (if v3 = (9223372036854775807 : Int64) then (if x2 = (-1 : Int64) then (if x1 = (-1 : Int64) then (if x0 < (0 : Int64) then (if x0 < (-19 : Int64) then v3 else (0 : Int64)) else v3) else v3) else v3) else v3) := by
  have k0 := own_N_lt x0
  have k1 := own_N_lt x1
  have k2 := own_N_lt x2
  have k3 := (own_int_N v3 hv).2
  have j0 := own_N_lt P0
  have j1 := own_N_lt P1
  have j2 := own_N_lt P2
  have j3 := own_N_lt P3
  have hk : k = 0 ∨ k = 1 := by omega
  have c0 : x0.toInt = if 2 * own_N x0 < 2 ^ 64 then (own_N x0 : Int) else (own_N x0 : Int) - (2 ^ 64 : Nat) := BitVec.toInt_eq_toNat_cond x0.toBitVec
  have eM : own_N (9223372036854775807 : Int64) = 9223372036854775807 := by decide
  have e1 : own_N (-1 : Int64) = 18446744073709551615 := by decide
  have t0 : (0 : Int64).toInt = 0 := by decide
  have t19 : (-19 : Int64).toInt = -19 := by decide
  rcases hk with rfl | rfl
  · have q0 : P0 = x0 := own_N_inj (by omega)
    have q1 : P1 = x1 := own_N_inj (by omega)
    have q2 : P2 = x2 := own_N_inj (by omega)
    have q3 : P3 = v3 := own_N_inj (by omega)
    rw [q0, q1, q2, q3]
    by_cases a1 : v3 = (9223372036854775807 : Int64)
    · by_cases a2 : x2 = (-1 : Int64)
      · by_cases a3 : x1 = (-1 : Int64)
        · by_cases a4 : x0 < (0 : Int64)
          · by_cases a5 : x0 < (-19 : Int64)
            · simp only [if_pos a1, if_pos a2, if_pos a3, if_pos a4, if_pos a5, and_self]
            · exfalso
              rw [Int64.lt_iff_toInt_lt] at a4 a5
              rw [← a1] at eM
              have e2 : own_N x2 = 18446744073709551615 := by rw [a2]; exact e1
              have e3 : own_N x1 = 18446744073709551615 := by rw [a3]; exact e1
              split at c0 <;> omega
          · simp only [if_pos a1, if_pos a2, if_pos a3, if_neg a4, and_self]
        · simp only [if_pos a1, if_pos a2, if_neg a3, and_self]
      · simp only [if_pos a1, if_neg a2, and_self]
    · simp only [if_neg a1, and_self]
  · have a1 : v3 = (9223372036854775807 : Int64) := own_N_inj (by omega)
    have a2 : x2 = (-1 : Int64) := own_N_inj (by omega)
    have a3 : x1 = (-1 : Int64) := own_N_inj (by omega)
    have a4 : x0 < (0 : Int64) := by rw [Int64.lt_iff_toInt_lt]; split at c0 <;> omega
    have a5 : ¬ x0 < (-19 : Int64) := by rw [Int64.lt_iff_toInt_lt]; split at c0 <;> omega
    have z0 : own_N (0 : Int64) = 0 := by decide
    have s0 : own_N (x0 + (19 : Int64)) = (own_N x0 + 19) % 18446744073709551616 := by
      rw [own_N, Int64.toBitVec_add, BitVec.toNat_add]; rfl
    have q0 : P0 = x0 + (19 : Int64) := own_N_inj (by omega)
    have q1 : P1 = (0 : Int64) := own_N_inj (by omega)
    have q2 : P2 = (0 : Int64) := own_N_inj (by omega)
    have q3 : P3 = (0 : Int64) := own_N_inj (by omega)
    simp only [if_pos a1, if_pos a2, if_pos a3, if_pos a4, if_neg a5]
    exact ⟨q0, q1, q2, q3⟩
theorem own_gs1V (x0 x1 x2 v3 q4 : Int64) (hv : 0 ≤ v3.toInt) : ∃ g0 g1 g2 g3 g4 g5 g6 g7 g8 g9 : Int64, own_gs1 x0 x1 x2 v3 = [g0, g1, g2, g3, g4, g5, g6, g7, g8, g9] ∧ g0.toInt = (own_l0 x0 x1 x2 v3).toInt - 1 * 67108845 ∧ g1.toInt = (own_l1 x0 x1 x2 v3).toInt - 1 * 33554431 ∧ g2.toInt = (own_l2 x0 x1 x2 v3).toInt - 1 * 67108863 ∧ g3.toInt = (own_l3 x0 x1 x2 v3).toInt - 1 * 33554431 ∧ g4.toInt = (own_l4 x0 x1 x2 v3).toInt - 1 * 67108863 ∧ g5.toInt = (own_l5 x0 x1 x2 v3).toInt - 1 * 33554431 ∧ g6.toInt = (own_l6 x0 x1 x2 v3).toInt - 1 * 67108863 ∧ g7.toInt = (own_l7 x0 x1 x2 v3).toInt - 1 * 33554431 ∧ g8.toInt = (own_l8 x0 x1 x2 v3).toInt - 1 * 67108863 ∧ g9.toInt = (own_l9 x0 x1 x2 v3).toInt - 1 * 33554431 := by
  refine ⟨((own_l0 x0 x1 x2 v3) - (67108845 : Int64)), ((own_l1 x0 x1 x2 v3) - (33554431 : Int64)), ((own_l2 x0 x1 x2 v3) - (67108863 : Int64)), ((own_l3 x0 x1 x2 v3) - (33554431 : Int64)), ((own_l4 x0 x1 x2 v3) - (67108863 : Int64)), ((own_l5 x0 x1 x2 v3) - (33554431 : Int64)), ((own_l6 x0 x1 x2 v3) - (67108863 : Int64)), ((own_l7 x0 x1 x2 v3) - (33554431 : Int64)), ((own_l8 x0 x1 x2 v3) - (67108863 : Int64)), ((own_l9 x0 x1 x2 v3) - (33554431 : Int64)), rfl, ?_, ?_, ?_, ?_, ?_, ?_, ?_, ?_, ?_, ?_⟩
  · have l0 : 0 ≤ (own_l0 x0 x1 x2 v3).toInt ∧ (own_l0 x0 x1 x2 v3).toInt < 67108864 := by rw [own_N_l0]; have := own_N_lt x0; have := own_N_lt x2; omega
    have e : (67108845 : Int64).toInt = 67108845 := by decide
    rw [own_sub (by omega) (by omega), e]; omega
  · have l1 : 0 ≤ (own_l1 x0 x1 x2 v3).toInt ∧ (own_l1 x0 x1 x2 v3).toInt < 33554432 := by rw [own_N_l1]; have := own_N_lt x0; have := own_N_lt x2; omega
    have e : (33554431 : Int64).toInt = 33554431 := by decide
    rw [own_sub (by omega) (by omega), e]; omega
  · have l2 : 0 ≤ (own_l2 x0 x1 x2 v3).toInt ∧ (own_l2 x0 x1 x2 v3).toInt < 67108864 := by rw [own_N_l2]; have := own_N_lt x0; have := own_N_lt x2; omega
    have e : (67108863 : Int64).toInt = 67108863 := by decide
    rw [own_sub (by omega) (by omega), e]; omega
  · have l3 : 0 ≤ (own_l3 x0 x1 x2 v3).toInt ∧ (own_l3 x0 x1 x2 v3).toInt < 33554432 := by rw [own_N_l3]; have := own_N_lt x0; have := own_N_lt x2; omega
    have e : (33554431 : Int64).toInt = 33554431 := by decide
    rw [own_sub (by omega) (by omega), e]; omega
  · have l4 : 0 ≤ (own_l4 x0 x1 x2 v3).toInt ∧ (own_l4 x0 x1 x2 v3).toInt < 67108864 := by rw [own_N_l4]; have := own_N_lt x0; have := own_N_lt x2; omega
    have e : (67108863 : Int64).toInt = 67108863 := by decide
    rw [own_sub (by omega) (by omega), e]; omega
  · have l5 : 0 ≤ (own_l5 x0 x1 x2 v3).toInt ∧ (own_l5 x0 x1 x2 v3).toInt < 33554432 := by rw [own_N_l5]; have := own_N_lt x0; have := own_N_lt x2; omega
    have e : (33554431 : Int64).toInt = 33554431 := by decide
    rw [own_sub (by omega) (by omega), e]; omega
  · have l6 : 0 ≤ (own_l6 x0 x1 x2 v3).toInt ∧ (own_l6 x0 x1 x2 v3).toInt < 67108864 := by rw [own_N_l6]; have := own_N_lt x0; have := own_N_lt x2; omega
    have e : (67108863 : Int64).toInt = 67108863 := by decide
    rw [own_sub (by omega) (by omega), e]; omega
  · have l7 : 0 ≤ (own_l7 x0 x1 x2 v3).toInt ∧ (own_l7 x0 x1 x2 v3).toInt < 33554432 := by rw [own_N_l7]; have := own_N_lt x0; have := own_N_lt x2; omega
    have e : (33554431 : Int64).toInt = 33554431 := by decide
    rw [own_sub (by omega) (by omega), e]; omega
  · have l8 : 0 ≤ (own_l8 x0 x1 x2 v3).toInt ∧ (own_l8 x0 x1 x2 v3).toInt < 67108864 := by rw [own_N_l8]; have := own_N_lt x0; have := own_N_lt x2; omega
    have e : (67108863 : Int64).toInt = 67108863 := by decide
    rw [own_sub (by omega) (by omega), e]; omega
  · have l9 : 0 ≤ (own_l9 x0 x1 x2 v3).toInt ∧ (own_l9 x0 x1 x2 v3).toInt < 33554432 := by rw [own_N_l9]; have := own_N_lt x0; have := own_N_lt x2; omega
    have e : (33554431 : Int64).toInt = 33554431 := by decide
    rw [own_sub (by omega) (by omega), e]; omega
theorem own_all (x0 x1 x2 v3 q4 : Int64) (hv : 0 ≤ v3.toInt) (gs : List Int64) (hg : gs = own_gs0 x0 x1 x2 v3 ∨ gs = own_gs1 x0 x1 x2 v3) : own_pk (own_bytes (own_fin (own_dm gs q4))) 0 = (if v3 = (9223372036854775807 : Int64) then (if x2 = (-1 : Int64) then (if x1 = (-1 : Int64) then (if x0 < (0 : Int64) then (if x0 < (-19 : Int64) then x0 else (x0 + (19 : Int64))) else x0) else x0) else x0) else x0) ∧ own_pk (own_bytes (own_fin (own_dm gs q4))) 8 = (if v3 = (9223372036854775807 : Int64) then (if x2 = (-1 : Int64) then (if x1 = (-1 : Int64) then (if x0 < (0 : Int64) then (if x0 < (-19 : Int64) then x1 else (0 : Int64)) else x1) else x1) else x1) else x1) ∧ own_pk (own_bytes (own_fin (own_dm gs q4))) 16 = (if v3 = (9223372036854775807 : Int64) then (if x2 = (-1 : Int64) then (if x1 = (-1 : Int64) then (if x0 < (0 : Int64) then (if x0 < (-19 : Int64) then x2 else (0 : Int64)) else x2) else x2) else x2) else x2) ∧ own_pk (own_bytes (own_fin (own_dm gs q4))) 24 = (if v3 = (9223372036854775807 : Int64) then (if x2 = (-1 : Int64) then (if x1 = (-1 : Int64) then (if x0 < (0 : Int64) then (if x0 < (-19 : Int64) then v3 else (0 : Int64)) else v3) else v3) else v3) else v3) := by
  rcases hg with rfl | rfl
  · obtain ⟨k, h1, h2⟩ := own_core x0 x1 x2 v3 q4 hv 0 (by decide) (own_l0 x0 x1 x2 v3) (own_l1 x0 x1 x2 v3) (own_l2 x0 x1 x2 v3) (own_l3 x0 x1 x2 v3) (own_l4 x0 x1 x2 v3) (own_l5 x0 x1 x2 v3) (own_l6 x0 x1 x2 v3) (own_l7 x0 x1 x2 v3) (own_l8 x0 x1 x2 v3) (own_l9 x0 x1 x2 v3) (by omega) (by omega) (by omega) (by omega) (by omega) (by omega) (by omega) (by omega) (by omega) (by omega)
    exact own_four x0 x1 x2 v3 _ _ _ _ hv k h1 h2
  · obtain ⟨g0, g1, g2, g3, g4, g5, g6, g7, g8, g9, eg, t0, t1, t2, t3, t4, t5, t6, t7, t8, t9⟩ := own_gs1V x0 x1 x2 v3 q4 hv
    rw [eg]
    obtain ⟨k, h1, h2⟩ := own_core x0 x1 x2 v3 q4 hv 1 (by decide) g0 g1 g2 g3 g4 g5 g6 g7 g8 g9 t0 t1 t2 t3 t4 t5 t6 t7 t8 t9
    exact own_four x0 x1 x2 v3 _ _ _ _ hv k h1 h2
theorem own_main0_0 (x0 x1 x2 v3 q4 : Int64) (hv : 0 ≤ v3.toInt) : (own_pk (own_bytes (own_fin (own_dm (own_gs0 x0 x1 x2 v3) q4))) 0) = (if v3 = (9223372036854775807 : Int64) then (if x2 = (-1 : Int64) then (if x1 = (-1 : Int64) then (if x0 < (0 : Int64) then (if x0 < (-19 : Int64) then x0 else (x0 + (19 : Int64))) else x0) else x0) else x0) else x0) := (own_all x0 x1 x2 v3 q4 hv _ (Or.inl rfl)).1
theorem own_main0_1 (x0 x1 x2 v3 q4 : Int64) (hv : 0 ≤ v3.toInt) : (own_pk (own_bytes (own_fin (own_dm (own_gs0 x0 x1 x2 v3) q4))) 8) = (if v3 = (9223372036854775807 : Int64) then (if x2 = (-1 : Int64) then (if x1 = (-1 : Int64) then (if x0 < (0 : Int64) then (if x0 < (-19 : Int64) then x1 else (0 : Int64)) else x1) else x1) else x1) else x1) := (own_all x0 x1 x2 v3 q4 hv _ (Or.inl rfl)).2.1
theorem own_main0_2 (x0 x1 x2 v3 q4 : Int64) (hv : 0 ≤ v3.toInt) : (own_pk (own_bytes (own_fin (own_dm (own_gs0 x0 x1 x2 v3) q4))) 16) = (if v3 = (9223372036854775807 : Int64) then (if x2 = (-1 : Int64) then (if x1 = (-1 : Int64) then (if x0 < (0 : Int64) then (if x0 < (-19 : Int64) then x2 else (0 : Int64)) else x2) else x2) else x2) else x2) := (own_all x0 x1 x2 v3 q4 hv _ (Or.inl rfl)).2.2.1
theorem own_main0_3 (x0 x1 x2 v3 q4 : Int64) (hv : 0 ≤ v3.toInt) : (own_pk (own_bytes (own_fin (own_dm (own_gs0 x0 x1 x2 v3) q4))) 24) = (if v3 = (9223372036854775807 : Int64) then (if x2 = (-1 : Int64) then (if x1 = (-1 : Int64) then (if x0 < (0 : Int64) then (if x0 < (-19 : Int64) then v3 else (0 : Int64)) else v3) else v3) else v3) else v3) := (own_all x0 x1 x2 v3 q4 hv _ (Or.inl rfl)).2.2.2
theorem own_main1_0 (x0 x1 x2 v3 q4 : Int64) (hv : 0 ≤ v3.toInt) : (own_pk (own_bytes (own_fin (own_dm (own_gs1 x0 x1 x2 v3) q4))) 0) = (if v3 = (9223372036854775807 : Int64) then (if x2 = (-1 : Int64) then (if x1 = (-1 : Int64) then (if x0 < (0 : Int64) then (if x0 < (-19 : Int64) then x0 else (x0 + (19 : Int64))) else x0) else x0) else x0) else x0) := (own_all x0 x1 x2 v3 q4 hv _ (Or.inr rfl)).1
theorem own_main1_1 (x0 x1 x2 v3 q4 : Int64) (hv : 0 ≤ v3.toInt) : (own_pk (own_bytes (own_fin (own_dm (own_gs1 x0 x1 x2 v3) q4))) 8) = (if v3 = (9223372036854775807 : Int64) then (if x2 = (-1 : Int64) then (if x1 = (-1 : Int64) then (if x0 < (0 : Int64) then (if x0 < (-19 : Int64) then x1 else (0 : Int64)) else x1) else x1) else x1) else x1) := (own_all x0 x1 x2 v3 q4 hv _ (Or.inr rfl)).2.1
theorem own_main1_2 (x0 x1 x2 v3 q4 : Int64) (hv : 0 ≤ v3.toInt) : (own_pk (own_bytes (own_fin (own_dm (own_gs1 x0 x1 x2 v3) q4))) 16) = (if v3 = (9223372036854775807 : Int64) then (if x2 = (-1 : Int64) then (if x1 = (-1 : Int64) then (if x0 < (0 : Int64) then (if x0 < (-19 : Int64) then x2 else (0 : Int64)) else x2) else x2) else x2) else x2) := (own_all x0 x1 x2 v3 q4 hv _ (Or.inr rfl)).2.2.1
theorem own_main1_3 (x0 x1 x2 v3 q4 : Int64) (hv : 0 ≤ v3.toInt) : (own_pk (own_bytes (own_fin (own_dm (own_gs1 x0 x1 x2 v3) q4))) 24) = (if v3 = (9223372036854775807 : Int64) then (if x2 = (-1 : Int64) then (if x1 = (-1 : Int64) then (if x0 < (0 : Int64) then (if x0 < (-19 : Int64) then v3 else (0 : Int64)) else v3) else v3) else v3) else v3) := (own_all x0 x1 x2 v3 q4 hv _ (Or.inr rfl)).2.2.2
end OwnF


theorem own_bytes_len (W : List Int64) : (own_bytes W).length = 32 := by simp [own_bytes, own_bs0, own_bs1, own_bs2, own_bs3, own_bs4, own_bs5, own_bs6, own_bs7, own_bs8, own_bs9]
theorem own_v3 {x3 v3 : Int64} (h : v3 = (x3 &&& (9223372036854775807 : Int64))) : 0 ≤ v3.toInt := by
  rw [h]
  exact (own_mask63 x3).1
theorem own_law0_0 (x0 x1 x2 v3 q4 : Int64) (hv : 0 ≤ v3.toInt) : (own_pk (own_bytes (own_fin (own_dm (own_gs0 x0 x1 x2 v3) q4))) 0) = (if v3 = (9223372036854775807 : Int64) then (if x2 = (-1 : Int64) then (if x1 = (-1 : Int64) then (if x0 < (0 : Int64) then (if x0 < (-19 : Int64) then x0 else (x0 + (19 : Int64))) else x0) else x0) else x0) else x0) := own_main0_0 x0 x1 x2 v3 q4 hv
theorem own_law0_1 (x0 x1 x2 v3 q4 : Int64) (hv : 0 ≤ v3.toInt) : (own_pk (own_bytes (own_fin (own_dm (own_gs0 x0 x1 x2 v3) q4))) 8) = (if v3 = (9223372036854775807 : Int64) then (if x2 = (-1 : Int64) then (if x1 = (-1 : Int64) then (if x0 < (0 : Int64) then (if x0 < (-19 : Int64) then x1 else (0 : Int64)) else x1) else x1) else x1) else x1) := own_main0_1 x0 x1 x2 v3 q4 hv
theorem own_law0_2 (x0 x1 x2 v3 q4 : Int64) (hv : 0 ≤ v3.toInt) : (own_pk (own_bytes (own_fin (own_dm (own_gs0 x0 x1 x2 v3) q4))) 16) = (if v3 = (9223372036854775807 : Int64) then (if x2 = (-1 : Int64) then (if x1 = (-1 : Int64) then (if x0 < (0 : Int64) then (if x0 < (-19 : Int64) then x2 else (0 : Int64)) else x2) else x2) else x2) else x2) := own_main0_2 x0 x1 x2 v3 q4 hv
theorem own_law0_3 (x0 x1 x2 v3 q4 : Int64) (hv : 0 ≤ v3.toInt) : (own_pk (own_bytes (own_fin (own_dm (own_gs0 x0 x1 x2 v3) q4))) 24) = (if v3 = (9223372036854775807 : Int64) then (if x2 = (-1 : Int64) then (if x1 = (-1 : Int64) then (if x0 < (0 : Int64) then (if x0 < (-19 : Int64) then v3 else (0 : Int64)) else v3) else v3) else v3) else v3) := own_main0_3 x0 x1 x2 v3 q4 hv
theorem own_law1_0 (x0 x1 x2 v3 q4 : Int64) (hv : 0 ≤ v3.toInt) : (own_pk (own_bytes (own_fin (own_dm (own_gs1 x0 x1 x2 v3) q4))) 0) = (if v3 = (9223372036854775807 : Int64) then (if x2 = (-1 : Int64) then (if x1 = (-1 : Int64) then (if x0 < (0 : Int64) then (if x0 < (-19 : Int64) then x0 else (x0 + (19 : Int64))) else x0) else x0) else x0) else x0) := own_main1_0 x0 x1 x2 v3 q4 hv
theorem own_law1_1 (x0 x1 x2 v3 q4 : Int64) (hv : 0 ≤ v3.toInt) : (own_pk (own_bytes (own_fin (own_dm (own_gs1 x0 x1 x2 v3) q4))) 8) = (if v3 = (9223372036854775807 : Int64) then (if x2 = (-1 : Int64) then (if x1 = (-1 : Int64) then (if x0 < (0 : Int64) then (if x0 < (-19 : Int64) then x1 else (0 : Int64)) else x1) else x1) else x1) else x1) := own_main1_1 x0 x1 x2 v3 q4 hv
theorem own_law1_2 (x0 x1 x2 v3 q4 : Int64) (hv : 0 ≤ v3.toInt) : (own_pk (own_bytes (own_fin (own_dm (own_gs1 x0 x1 x2 v3) q4))) 16) = (if v3 = (9223372036854775807 : Int64) then (if x2 = (-1 : Int64) then (if x1 = (-1 : Int64) then (if x0 < (0 : Int64) then (if x0 < (-19 : Int64) then x2 else (0 : Int64)) else x2) else x2) else x2) else x2) := own_main1_2 x0 x1 x2 v3 q4 hv
theorem own_law1_3 (x0 x1 x2 v3 q4 : Int64) (hv : 0 ≤ v3.toInt) : (own_pk (own_bytes (own_fin (own_dm (own_gs1 x0 x1 x2 v3) q4))) 24) = (if v3 = (9223372036854775807 : Int64) then (if x2 = (-1 : Int64) then (if x1 = (-1 : Int64) then (if x0 < (0 : Int64) then (if x0 < (-19 : Int64) then v3 else (0 : Int64)) else v3) else v3) else v3) else v3) := own_main1_3 x0 x1 x2 v3 q4 hv

theorem dE_239 : decode prog_16_method_5_code 239 = .ok (.iload 9, 2) := by decide +kernel
theorem dE_241 : decode prog_16_method_5_code 241 = .ok (.bipush 10, 2) := by decide +kernel
theorem dE_243 : decode prog_16_method_5_code 243 = .ok (.if_icmp .ge 64, 3) := by decide +kernel
theorem dE_246 : decode prog_16_method_5_code 246 = .ok (.lload 5, 2) := by decide +kernel
theorem dE_248 : decode prog_16_method_5_code 248 = .ok (.aload_n 1, 1) := by decide +kernel
theorem dE_249 : decode prog_16_method_5_code 249 = .ok (.iload 9, 2) := by decide +kernel
theorem dE_251 : decode prog_16_method_5_code 251 = .ok (.laload, 1) := by decide +kernel
theorem dE_252 : decode prog_16_method_5_code 252 = .ok (.iload 7, 2) := by decide +kernel
theorem dE_254 : decode prog_16_method_5_code 254 = .ok (.lshl, 1) := by decide +kernel
theorem dE_255 : decode prog_16_method_5_code 255 = .ok (.lor, 1) := by decide +kernel
theorem dE_256 : decode prog_16_method_5_code 256 = .ok (.lstore 5, 2) := by decide +kernel
theorem dE_258 : decode prog_16_method_5_code 258 = .ok (.iload 7, 2) := by decide +kernel
theorem dE_260 : decode prog_16_method_5_code 260 = .ok (.getstatic 17, 3) := by decide +kernel
theorem dE_263 : decode prog_16_method_5_code 263 = .ok (.iload 9, 2) := by decide +kernel
theorem dE_265 : decode prog_16_method_5_code 265 = .ok (.iaload, 1) := by decide +kernel
theorem dE_266 : decode prog_16_method_5_code 266 = .ok (.iadd, 1) := by decide +kernel
theorem dE_267 : decode prog_16_method_5_code 267 = .ok (.istore 7, 2) := by decide +kernel
theorem dE_269 : decode prog_16_method_5_code 269 = .ok (.iload 7, 2) := by decide +kernel
theorem dE_271 : decode prog_16_method_5_code 271 = .ok (.bipush 8, 2) := by decide +kernel
theorem dE_273 : decode prog_16_method_5_code 273 = .ok (.if_icmp .lt 28, 3) := by decide +kernel
theorem dE_276 : decode prog_16_method_5_code 276 = .ok (.aload 4, 2) := by decide +kernel
theorem dE_278 : decode prog_16_method_5_code 278 = .ok (.iload 8, 2) := by decide +kernel
theorem dE_280 : decode prog_16_method_5_code 280 = .ok (.lload 5, 2) := by decide +kernel
theorem dE_282 : decode prog_16_method_5_code 282 = .ok (.l2i, 1) := by decide +kernel
theorem dE_283 : decode prog_16_method_5_code 283 = .ok (.i2b, 1) := by decide +kernel
theorem dE_284 : decode prog_16_method_5_code 284 = .ok (.bastore, 1) := by decide +kernel
theorem dE_285 : decode prog_16_method_5_code 285 = .ok (.iinc 8 1, 3) := by decide +kernel
theorem dE_288 : decode prog_16_method_5_code 288 = .ok (.lload 5, 2) := by decide +kernel
theorem dE_290 : decode prog_16_method_5_code 290 = .ok (.bipush 8, 2) := by decide +kernel
theorem dE_292 : decode prog_16_method_5_code 292 = .ok (.lushr, 1) := by decide +kernel
theorem dE_293 : decode prog_16_method_5_code 293 = .ok (.lstore 5, 2) := by decide +kernel
theorem dE_295 : decode prog_16_method_5_code 295 = .ok (.iinc 7 (-8), 3) := by decide +kernel
theorem dE_298 : decode prog_16_method_5_code 298 = .ok (.goto (-29), 3) := by decide +kernel
theorem dE_301 : decode prog_16_method_5_code 301 = .ok (.iinc 9 1, 3) := by decide +kernel
theorem dE_304 : decode prog_16_method_5_code 304 = .ok (.goto (-65), 3) := by decide +kernel
set_option maxRecDepth 65536 in
set_option maxHeartbeats 40000000 in
theorem own_turn0 {p : Program} {l : Launch} {e : Env} {s : State} {m : MethodId} {args : Array Value} {below : List Frame} {meth : Method} {c : Code} {Z : State} {a0 : Array Value} {h0 : Heap} {n0 : Nat} {P : Option Value → Heap → List Loc → Prop} (f ah bb : Addr) (kf kb : ClassId) (wB : Addr) (r q : Int64) (W : List Int64) (bs : List Int32) (Tz : State) (locs : List Loc) (hz : Heap) (hx : p.tables.exec = Jvm.exec) (hZ : Z.Warmed39 s.vm) (hw : ∀ d ∈ tables_1, d.before a0 Z = true) (hby : c.code = prog_16_method_5_code) (hml : c.maxLocals = 10) (hown : s.vm.findClass "com/example/gate_to_gate/gatetogate/io/Field25519" = some m.cls) (hlk : meth.locks = false) (hret : meth.sig.returnType = some (.array .byte)) (SB : Sta Z Z.heap "com/example/gate_to_gate/gatetogate/io/Field25519" "BITS" "[I" (.ref wB)) (TB : ∀ j, j < 10 → ORd Z Z.heap wB .int (Int32.ofNat j) (.int (own_bits j))) (Z0 : n0 ≤ h0.size) (gah : n0 ≤ ah) (sah : h0.size ≤ ah) (gbb : n0 ≤ bb) (sbb : h0.size ≤ bb) (nab : ah ≠ bb) (hW : W.length = 10) (hbs : bs.length = 32) (Xz : Stand p l e ({ frames := 1, cells := 2, slots := 42, locals := 14 } : Room) s m args below meth c Tz locs 2 42) (ez : Tz.heap = hz) (Nz : Fr n0 locs) (Oz : Old Z n0 hz) (Kz : Keep h0 hz []) (Vz : Arv Z hz ah kf .long (10 : Int32) (W.map Value.long) (.long (0 : Int64))) (Bz : Arv Z hz bb kb .byte (32 : Int32) (bs.map Value.int) (.int (0 : Int32))) (cont : ∀ (T' : State) (locs' : List Loc) (h' : Heap), Stand p l e ({ frames := 1, cells := 2, slots := 42, locals := 14 } : Room) s m args below meth c T' locs' 2 42 → T'.heap = h' → Fr n0 locs' → Old Z n0 h' → Keep h0 h' [] → Arv Z h' ah kf .long (10 : Int32) (W.map Value.long) (.long (0 : Int64)) → Arv Z h' bb kb .byte (32 : Int32) ((((bs.set 0 (own_u0 W q).toInt32.toInt8.toInt32.toInt8.toInt32).set 1 (own_u1 W q).toInt32.toInt8.toInt32.toInt8.toInt32).set 2 (own_u2 W q).toInt32.toInt8.toInt32.toInt8.toInt32).map Value.int) (.int (0 : Int32)) → OG p e below s 2 42 P (T'.setTop (mkF m 239 #[.val (.ref f), .val (.ref ah), .val (.long r), .second, .val (.ref bb), .val (.long (own_u3 W q)), .second, .val (.int (2 : Int32)), .val (.int (3 : Int32)), .val (.int (1 : Int32))] []))) :
    OG p e below s 2 42 P (Tz.setTop (mkF m 239 #[.val (.ref f), .val (.ref ah), .val (.long r), .second, .val (.ref bb), .val (.long q), .second, .val (.int (0 : Int32)), .val (.int (0 : Int32)), .val (.int (0 : Int32))] [])) := by
  refine OG.of (A := Tz.setTop (mkF m 251 (own_L7 f ah r bb q (0 : Int32) (0 : Int32) (0 : Int32)) [(.int (0 : Int32)), (.ref ah), (.long q)])) (fun oT oK => ?_) ?_
  · skip
    refine XS.iload Xz.here hx rfl (hb hby dE_239) rfl  ?_
    show Steps p.tables e below (Tz.setTop (mkF m 241 (own_L7 f ah r bb q (0 : Int32) (0 : Int32) (0 : Int32)) [(.int (0 : Int32))])) _
    refine XS.bipush Xz.here hx rfl (hb hby dE_241) ?_
    show Steps p.tables e below (Tz.setTop (mkF m 243 (own_L7 f ah r bb q (0 : Int32) (0 : Int32) (0 : Int32)) [(.int (10 : Int32)), (.int (0 : Int32))])) _
    refine XS.icmpNo Xz.here hx rfl (hb hby dE_243) rfl (XT.ii_ge_f (by decide)) ?_
    show Steps p.tables e below (Tz.setTop (mkF m 246 (own_L7 f ah r bb q (0 : Int32) (0 : Int32) (0 : Int32)) [])) _
    refine XT.lload Xz.here hx rfl (hb hby dE_246) rfl  ?_
    refine XS.aloadN Xz.here hx rfl (hb hby dE_248) rfl rfl  ?_
    show Steps p.tables e below (Tz.setTop (mkF m 249 (own_L7 f ah r bb q (0 : Int32) (0 : Int32) (0 : Int32)) [(.ref ah), (.long q)])) _
    refine XS.iload Xz.here hx rfl (hb hby dE_249) rfl  ?_
    exact oK
  obtain ⟨clf1, Arf1, If1, Hf1⟩ := own_rdL Vz hW (j := (0 : Int32)) (i := 0) rfl (by decide)
  refine OG.of (Xz.laload hx (j := (0 : Int32)) (v := (.long (W.getD 0 0))) (by rw [ez]; exact Arf1.1) (State.isArrayOf_alike hZ.alike Arf1.2.1) Arf1.2.2 If1 Hf1 (g := (mkF m 251 (own_L7 f ah r bb q (0 : Int32) (0 : Int32) (0 : Int32)) [(.int (0 : Int32)), (.ref ah), (.long q)])) rfl rfl (hb hby dE_251)) ?_
  show OG _ _ _ _ _ _ _ (Tz.setTop (mkF m 252 (own_L7 f ah r bb q (0 : Int32) (0 : Int32) (0 : Int32)) [(.long (W.getD 0 0)), (.long q)]))
  refine OG.of (A := Tz.setTop (mkF m 258 (own_L7 f ah r bb (q ||| ((W.getD 0 0) <<< ((0 : Int32).toInt64 &&& 63))) (0 : Int32) (0 : Int32) (0 : Int32)) [])) (fun oT oK => ?_) ?_
  · skip
    refine XS.iload Xz.here hx rfl (hb hby dE_252) rfl  ?_
    show Steps p.tables e below (Tz.setTop (mkF m 254 (own_L7 f ah r bb q (0 : Int32) (0 : Int32) (0 : Int32)) [(.int (0 : Int32)), (.long (W.getD 0 0)), (.long q)])) _
    refine XT.lshl Xz.here hx rfl (hb hby dE_254) rfl ?_
    refine XT.lor Xz.here hx rfl (hb hby dE_255) rfl ?_
    show Steps p.tables e below (Tz.setTop (mkF m 256 (own_L7 f ah r bb q (0 : Int32) (0 : Int32) (0 : Int32)) [(.long (q ||| ((W.getD 0 0) <<< ((0 : Int32).toInt64 &&& 63))))])) _
    refine XT.lstore Xz.here hx rfl (hb hby dE_256) rfl (l' := (own_L7 f ah r bb (q ||| ((W.getD 0 0) <<< ((0 : Int32).toInt64 &&& 63))) (0 : Int32) (0 : Int32) (0 : Int32))) rfl ?_
    exact oK
  show OG _ _ _ _ _ _ _ (Tz.setTop (mkF m 258 (own_L7 f ah r bb (own_u0 W q) (0 : Int32) (0 : Int32) (0 : Int32)) []))
  refine OG.of (A := Tz.setTop (mkF m 260 (own_L7 f ah r bb (own_u0 W q) (0 : Int32) (0 : Int32) (0 : Int32)) [(.int (0 : Int32))])) (fun oT oK => ?_) ?_
  · skip
    refine XS.iload Xz.here hx rfl (hb hby dE_258) rfl  ?_
    exact oK
  obtain ⟨T1, X1, e1, st1⟩ := getS2 Xz hx hZ hown (host := "") (Or.inl (own_at hw 8 rfl)) Via.refl ez (SB.ext (Oz).2) (g := (mkF m 260 (own_L7 f ah r bb (own_u0 W q) (0 : Int32) (0 : Int32) (0 : Int32)) [(.int (0 : Int32))])) rfl (hb hby dE_260)
  refine OG.of st1 ?_
  show OG _ _ _ _ _ _ _ (T1.setTop (mkF m 263 (own_L7 f ah r bb (own_u0 W q) (0 : Int32) (0 : Int32) (0 : Int32)) [(.ref wB), (.int (0 : Int32))]))
  refine OG.of (A := T1.setTop (mkF m 265 (own_L7 f ah r bb (own_u0 W q) (0 : Int32) (0 : Int32) (0 : Int32)) [(.int (0 : Int32)), (.ref wB), (.int (0 : Int32))])) (fun oT oK => ?_) ?_
  · skip
    refine XS.iload X1.here hx rfl (hb hby dE_263) rfl  ?_
    exact oK
  have cf2 := ((TB 0 (by decide)).ext (Oz).2)
  obtain ⟨clf2, Arf2, If2, Hf2⟩ := cf2
  refine OG.of (X1.iaload hx (j := (0 : Int32)) (v := (.int (26 : Int32))) (by rw [e1]; exact Arf2.1) (State.isArrayOf_alike hZ.alike Arf2.2.1) Arf2.2.2 If2 Hf2 (g := (mkF m 265 (own_L7 f ah r bb (own_u0 W q) (0 : Int32) (0 : Int32) (0 : Int32)) [(.int (0 : Int32)), (.ref wB), (.int (0 : Int32))])) rfl rfl (hb hby dE_265)) ?_
  show OG _ _ _ _ _ _ _ (T1.setTop (mkF m 266 (own_L7 f ah r bb (own_u0 W q) (0 : Int32) (0 : Int32) (0 : Int32)) [(.int (26 : Int32)), (.int (0 : Int32))]))
  refine OG.of (A := T1.setTop (mkF m 284 (own_L7 f ah r bb (own_u0 W q) (26 : Int32) (0 : Int32) (0 : Int32)) [(.int (own_u0 W q).toInt32.toInt8.toInt32), (.int (0 : Int32)), (.ref bb)])) (fun oT oK => ?_) ?_
  · skip
    refine XS.iadd X1.here hx rfl (hb hby dE_266) rfl ?_
    show Steps p.tables e below (T1.setTop (mkF m 267 (own_L7 f ah r bb (own_u0 W q) (0 : Int32) (0 : Int32) (0 : Int32)) [(.int (26 : Int32))])) _
    refine XS.istore X1.here hx rfl (hb hby dE_267) rfl (l' := (own_L7 f ah r bb (own_u0 W q) (26 : Int32) (0 : Int32) (0 : Int32))) rfl ?_
    refine XS.iload X1.here hx rfl (hb hby dE_269) rfl  ?_
    show Steps p.tables e below (T1.setTop (mkF m 271 (own_L7 f ah r bb (own_u0 W q) (26 : Int32) (0 : Int32) (0 : Int32)) [(.int (26 : Int32))])) _
    refine XS.bipush X1.here hx rfl (hb hby dE_271) ?_
    show Steps p.tables e below (T1.setTop (mkF m 273 (own_L7 f ah r bb (own_u0 W q) (26 : Int32) (0 : Int32) (0 : Int32)) [(.int (8 : Int32)), (.int (26 : Int32))])) _
    refine XS.icmpNo X1.here hx rfl (hb hby dE_273) rfl (XT.ii_lt_f (by decide)) ?_
    show Steps p.tables e below (T1.setTop (mkF m 276 (own_L7 f ah r bb (own_u0 W q) (26 : Int32) (0 : Int32) (0 : Int32)) [])) _
    refine XS.aload X1.here hx rfl (hb hby dE_276) rfl rfl  ?_
    refine XS.iload X1.here hx rfl (hb hby dE_278) rfl  ?_
    show Steps p.tables e below (T1.setTop (mkF m 280 (own_L7 f ah r bb (own_u0 W q) (26 : Int32) (0 : Int32) (0 : Int32)) [(.int (0 : Int32)), (.ref bb)])) _
    refine XT.lload X1.here hx rfl (hb hby dE_280) rfl  ?_
    refine XT.l2i X1.here hx rfl (hb hby dE_282) rfl ?_
    show Steps p.tables e below (T1.setTop (mkF m 283 (own_L7 f ah r bb (own_u0 W q) (26 : Int32) (0 : Int32) (0 : Int32)) [(.int (own_u0 W q).toInt32), (.int (0 : Int32)), (.ref bb)])) _
    refine XT.i2b X1.here hx rfl (hb hby dE_283) rfl ?_
    exact oK
  obtain ⟨T2, h2, X2, e2, W2, V2, st2⟩ := own_stB X1 hx hZ e1 Bz hbs (j := (0 : Int32)) (i := 0) rfl (by decide) (g := (mkF m 284 (own_L7 f ah r bb (own_u0 W q) (26 : Int32) (0 : Int32) (0 : Int32)) [(.int (own_u0 W q).toInt32.toInt8.toInt32), (.int (0 : Int32)), (.ref bb)])) rfl rfl (hb hby dE_284)
  have f3 := (Vz).other W2 nab
  have f5 := (Oz).wr W2 gbb
  have K2 : Keep h0 h2 [] := (Kz).wr W2 (Or.inr sbb)
  have Z2 : n0 ≤ h2.size := Nat.le_trans (Nat.le_trans Z0 Kz.1) (Keep.of_wr W2).1
  have N2 := Fr.snoc X2 Nz gbb
  refine OG.of st2 ?_
  show OG _ _ _ _ _ _ _ (T2.setTop (mkF m 285 (own_L7 f ah r bb (own_u0 W q) (26 : Int32) (0 : Int32) (0 : Int32)) []))
  refine OG.of (A := T2.setTop (mkF m 295 (own_L7 f ah r bb (XT.ushrL (own_u0 W q) (8 : Int32)) (26 : Int32) (1 : Int32) (0 : Int32)) [])) (fun oT oK => ?_) ?_
  · skip
    refine XS.iinc X2.here hx rfl (hb hby dE_285) rfl (l' := (own_L7 f ah r bb (own_u0 W q) (26 : Int32) (1 : Int32) (0 : Int32))) rfl ?_
    show Steps p.tables e below (T2.setTop (mkF m 288 (own_L7 f ah r bb (own_u0 W q) (26 : Int32) (1 : Int32) (0 : Int32)) [])) _
    refine XT.lload X2.here hx rfl (hb hby dE_288) rfl  ?_
    refine XS.bipush X2.here hx rfl (hb hby dE_290) ?_
    show Steps p.tables e below (T2.setTop (mkF m 292 (own_L7 f ah r bb (own_u0 W q) (26 : Int32) (1 : Int32) (0 : Int32)) [(.int (8 : Int32)), (.long (own_u0 W q))])) _
    refine XT.lushr X2.here hx rfl (hb hby dE_292) rfl ?_
    refine XT.lstore X2.here hx rfl (hb hby dE_293) rfl (l' := (own_L7 f ah r bb (XT.ushrL (own_u0 W q) (8 : Int32)) (26 : Int32) (1 : Int32) (0 : Int32))) rfl ?_
    exact oK
  show OG _ _ _ _ _ _ _ (T2.setTop (mkF m 295 (own_L7 f ah r bb (own_u1 W q) (26 : Int32) (1 : Int32) (0 : Int32)) []))
  refine OG.of (A := T2.setTop (mkF m 284 (own_L7 f ah r bb (own_u1 W q) (18 : Int32) (1 : Int32) (0 : Int32)) [(.int (own_u1 W q).toInt32.toInt8.toInt32), (.int (1 : Int32)), (.ref bb)])) (fun oT oK => ?_) ?_
  · skip
    refine XS.iinc X2.here hx rfl (hb hby dE_295) rfl (l' := (own_L7 f ah r bb (own_u1 W q) (18 : Int32) (1 : Int32) (0 : Int32))) rfl ?_
    show Steps p.tables e below (T2.setTop (mkF m 298 (own_L7 f ah r bb (own_u1 W q) (18 : Int32) (1 : Int32) (0 : Int32)) [])) _
    refine XS.goto X2.here hx rfl (pc0 := 298) (pc' := 269) rfl (hb hby dE_298) (by decide) (by decide) ?_
    refine XS.iload X2.here hx rfl (hb hby dE_269) rfl  ?_
    show Steps p.tables e below (T2.setTop (mkF m 271 (own_L7 f ah r bb (own_u1 W q) (18 : Int32) (1 : Int32) (0 : Int32)) [(.int (18 : Int32))])) _
    refine XS.bipush X2.here hx rfl (hb hby dE_271) ?_
    show Steps p.tables e below (T2.setTop (mkF m 273 (own_L7 f ah r bb (own_u1 W q) (18 : Int32) (1 : Int32) (0 : Int32)) [(.int (8 : Int32)), (.int (18 : Int32))])) _
    refine XS.icmpNo X2.here hx rfl (hb hby dE_273) rfl (XT.ii_lt_f (by decide)) ?_
    show Steps p.tables e below (T2.setTop (mkF m 276 (own_L7 f ah r bb (own_u1 W q) (18 : Int32) (1 : Int32) (0 : Int32)) [])) _
    refine XS.aload X2.here hx rfl (hb hby dE_276) rfl rfl  ?_
    refine XS.iload X2.here hx rfl (hb hby dE_278) rfl  ?_
    show Steps p.tables e below (T2.setTop (mkF m 280 (own_L7 f ah r bb (own_u1 W q) (18 : Int32) (1 : Int32) (0 : Int32)) [(.int (1 : Int32)), (.ref bb)])) _
    refine XT.lload X2.here hx rfl (hb hby dE_280) rfl  ?_
    refine XT.l2i X2.here hx rfl (hb hby dE_282) rfl ?_
    show Steps p.tables e below (T2.setTop (mkF m 283 (own_L7 f ah r bb (own_u1 W q) (18 : Int32) (1 : Int32) (0 : Int32)) [(.int (own_u1 W q).toInt32), (.int (1 : Int32)), (.ref bb)])) _
    refine XT.i2b X2.here hx rfl (hb hby dE_283) rfl ?_
    exact oK
  obtain ⟨T3, h3, X3, e3, W3, V3, st3⟩ := own_stB X2 hx hZ e2 V2 ((List.length_set ..).trans hbs) (j := (1 : Int32)) (i := 1) rfl (by decide) (g := (mkF m 284 (own_L7 f ah r bb (own_u1 W q) (18 : Int32) (1 : Int32) (0 : Int32)) [(.int (own_u1 W q).toInt32.toInt8.toInt32), (.int (1 : Int32)), (.ref bb)])) rfl rfl (hb hby dE_284)
  have f6 := (f3).other W3 nab
  have f8 := (f5).wr W3 gbb
  have K3 : Keep h0 h3 [] := (K2).wr W3 (Or.inr sbb)
  have Z3 : n0 ≤ h3.size := Nat.le_trans Z2 (Keep.of_wr W3).1
  have N3 := Fr.snoc X3 N2 gbb
  refine OG.of st3 ?_
  show OG _ _ _ _ _ _ _ (T3.setTop (mkF m 285 (own_L7 f ah r bb (own_u1 W q) (18 : Int32) (1 : Int32) (0 : Int32)) []))
  refine OG.of (A := T3.setTop (mkF m 295 (own_L7 f ah r bb (XT.ushrL (own_u1 W q) (8 : Int32)) (18 : Int32) (2 : Int32) (0 : Int32)) [])) (fun oT oK => ?_) ?_
  · skip
    refine XS.iinc X3.here hx rfl (hb hby dE_285) rfl (l' := (own_L7 f ah r bb (own_u1 W q) (18 : Int32) (2 : Int32) (0 : Int32))) rfl ?_
    show Steps p.tables e below (T3.setTop (mkF m 288 (own_L7 f ah r bb (own_u1 W q) (18 : Int32) (2 : Int32) (0 : Int32)) [])) _
    refine XT.lload X3.here hx rfl (hb hby dE_288) rfl  ?_
    refine XS.bipush X3.here hx rfl (hb hby dE_290) ?_
    show Steps p.tables e below (T3.setTop (mkF m 292 (own_L7 f ah r bb (own_u1 W q) (18 : Int32) (2 : Int32) (0 : Int32)) [(.int (8 : Int32)), (.long (own_u1 W q))])) _
    refine XT.lushr X3.here hx rfl (hb hby dE_292) rfl ?_
    refine XT.lstore X3.here hx rfl (hb hby dE_293) rfl (l' := (own_L7 f ah r bb (XT.ushrL (own_u1 W q) (8 : Int32)) (18 : Int32) (2 : Int32) (0 : Int32))) rfl ?_
    exact oK
  show OG _ _ _ _ _ _ _ (T3.setTop (mkF m 295 (own_L7 f ah r bb (own_u2 W q) (18 : Int32) (2 : Int32) (0 : Int32)) []))
  refine OG.of (A := T3.setTop (mkF m 284 (own_L7 f ah r bb (own_u2 W q) (10 : Int32) (2 : Int32) (0 : Int32)) [(.int (own_u2 W q).toInt32.toInt8.toInt32), (.int (2 : Int32)), (.ref bb)])) (fun oT oK => ?_) ?_
  · skip
    refine XS.iinc X3.here hx rfl (hb hby dE_295) rfl (l' := (own_L7 f ah r bb (own_u2 W q) (10 : Int32) (2 : Int32) (0 : Int32))) rfl ?_
    show Steps p.tables e below (T3.setTop (mkF m 298 (own_L7 f ah r bb (own_u2 W q) (10 : Int32) (2 : Int32) (0 : Int32)) [])) _
    refine XS.goto X3.here hx rfl (pc0 := 298) (pc' := 269) rfl (hb hby dE_298) (by decide) (by decide) ?_
    refine XS.iload X3.here hx rfl (hb hby dE_269) rfl  ?_
    show Steps p.tables e below (T3.setTop (mkF m 271 (own_L7 f ah r bb (own_u2 W q) (10 : Int32) (2 : Int32) (0 : Int32)) [(.int (10 : Int32))])) _
    refine XS.bipush X3.here hx rfl (hb hby dE_271) ?_
    show Steps p.tables e below (T3.setTop (mkF m 273 (own_L7 f ah r bb (own_u2 W q) (10 : Int32) (2 : Int32) (0 : Int32)) [(.int (8 : Int32)), (.int (10 : Int32))])) _
    refine XS.icmpNo X3.here hx rfl (hb hby dE_273) rfl (XT.ii_lt_f (by decide)) ?_
    show Steps p.tables e below (T3.setTop (mkF m 276 (own_L7 f ah r bb (own_u2 W q) (10 : Int32) (2 : Int32) (0 : Int32)) [])) _
    refine XS.aload X3.here hx rfl (hb hby dE_276) rfl rfl  ?_
    refine XS.iload X3.here hx rfl (hb hby dE_278) rfl  ?_
    show Steps p.tables e below (T3.setTop (mkF m 280 (own_L7 f ah r bb (own_u2 W q) (10 : Int32) (2 : Int32) (0 : Int32)) [(.int (2 : Int32)), (.ref bb)])) _
    refine XT.lload X3.here hx rfl (hb hby dE_280) rfl  ?_
    refine XT.l2i X3.here hx rfl (hb hby dE_282) rfl ?_
    show Steps p.tables e below (T3.setTop (mkF m 283 (own_L7 f ah r bb (own_u2 W q) (10 : Int32) (2 : Int32) (0 : Int32)) [(.int (own_u2 W q).toInt32), (.int (2 : Int32)), (.ref bb)])) _
    refine XT.i2b X3.here hx rfl (hb hby dE_283) rfl ?_
    exact oK
  obtain ⟨T4, h4, X4, e4, W4, V4, st4⟩ := own_stB X3 hx hZ e3 V3 ((List.length_set ..).trans ((List.length_set ..).trans hbs)) (j := (2 : Int32)) (i := 2) rfl (by decide) (g := (mkF m 284 (own_L7 f ah r bb (own_u2 W q) (10 : Int32) (2 : Int32) (0 : Int32)) [(.int (own_u2 W q).toInt32.toInt8.toInt32), (.int (2 : Int32)), (.ref bb)])) rfl rfl (hb hby dE_284)
  have f9 := (f6).other W4 nab
  have f11 := (f8).wr W4 gbb
  have K4 : Keep h0 h4 [] := (K3).wr W4 (Or.inr sbb)
  have Z4 : n0 ≤ h4.size := Nat.le_trans Z3 (Keep.of_wr W4).1
  have N4 := Fr.snoc X4 N3 gbb
  refine OG.of st4 ?_
  show OG _ _ _ _ _ _ _ (T4.setTop (mkF m 285 (own_L7 f ah r bb (own_u2 W q) (10 : Int32) (2 : Int32) (0 : Int32)) []))
  refine OG.of (A := T4.setTop (mkF m 295 (own_L7 f ah r bb (XT.ushrL (own_u2 W q) (8 : Int32)) (10 : Int32) (3 : Int32) (0 : Int32)) [])) (fun oT oK => ?_) ?_
  · skip
    refine XS.iinc X4.here hx rfl (hb hby dE_285) rfl (l' := (own_L7 f ah r bb (own_u2 W q) (10 : Int32) (3 : Int32) (0 : Int32))) rfl ?_
    show Steps p.tables e below (T4.setTop (mkF m 288 (own_L7 f ah r bb (own_u2 W q) (10 : Int32) (3 : Int32) (0 : Int32)) [])) _
    refine XT.lload X4.here hx rfl (hb hby dE_288) rfl  ?_
    refine XS.bipush X4.here hx rfl (hb hby dE_290) ?_
    show Steps p.tables e below (T4.setTop (mkF m 292 (own_L7 f ah r bb (own_u2 W q) (10 : Int32) (3 : Int32) (0 : Int32)) [(.int (8 : Int32)), (.long (own_u2 W q))])) _
    refine XT.lushr X4.here hx rfl (hb hby dE_292) rfl ?_
    refine XT.lstore X4.here hx rfl (hb hby dE_293) rfl (l' := (own_L7 f ah r bb (XT.ushrL (own_u2 W q) (8 : Int32)) (10 : Int32) (3 : Int32) (0 : Int32))) rfl ?_
    exact oK
  show OG _ _ _ _ _ _ _ (T4.setTop (mkF m 295 (own_L7 f ah r bb (own_u3 W q) (10 : Int32) (3 : Int32) (0 : Int32)) []))
  refine OG.of (A := T4.setTop (mkF m 239 (own_L7 f ah r bb (own_u3 W q) (2 : Int32) (3 : Int32) (1 : Int32)) [])) (fun oT oK => ?_) ?_
  · skip
    refine XS.iinc X4.here hx rfl (hb hby dE_295) rfl (l' := (own_L7 f ah r bb (own_u3 W q) (2 : Int32) (3 : Int32) (0 : Int32))) rfl ?_
    show Steps p.tables e below (T4.setTop (mkF m 298 (own_L7 f ah r bb (own_u3 W q) (2 : Int32) (3 : Int32) (0 : Int32)) [])) _
    refine XS.goto X4.here hx rfl (pc0 := 298) (pc' := 269) rfl (hb hby dE_298) (by decide) (by decide) ?_
    refine XS.iload X4.here hx rfl (hb hby dE_269) rfl  ?_
    show Steps p.tables e below (T4.setTop (mkF m 271 (own_L7 f ah r bb (own_u3 W q) (2 : Int32) (3 : Int32) (0 : Int32)) [(.int (2 : Int32))])) _
    refine XS.bipush X4.here hx rfl (hb hby dE_271) ?_
    show Steps p.tables e below (T4.setTop (mkF m 273 (own_L7 f ah r bb (own_u3 W q) (2 : Int32) (3 : Int32) (0 : Int32)) [(.int (8 : Int32)), (.int (2 : Int32))])) _
    refine XS.icmpYes X4.here hx rfl (pc0 := 273) (pc' := 301) rfl (hb hby dE_273) rfl (XT.ii_lt_t (by decide)) (by decide) (by decide) ?_
    show Steps p.tables e below (T4.setTop (mkF m 301 (own_L7 f ah r bb (own_u3 W q) (2 : Int32) (3 : Int32) (0 : Int32)) [])) _
    refine XS.iinc X4.here hx rfl (hb hby dE_301) rfl (l' := (own_L7 f ah r bb (own_u3 W q) (2 : Int32) (3 : Int32) (1 : Int32))) rfl ?_
    refine XS.goto X4.here hx rfl (pc0 := 304) (pc' := 239) rfl (hb hby dE_304) (by decide) (by decide) ?_
    exact oK
  exact cont T4 _ _ X4 e4 N4 f11 K4 f9 V4
set_option maxRecDepth 65536 in
set_option maxHeartbeats 40000000 in
theorem own_turn1 {p : Program} {l : Launch} {e : Env} {s : State} {m : MethodId} {args : Array Value} {below : List Frame} {meth : Method} {c : Code} {Z : State} {a0 : Array Value} {h0 : Heap} {n0 : Nat} {P : Option Value → Heap → List Loc → Prop} (f ah bb : Addr) (kf kb : ClassId) (wB : Addr) (r q : Int64) (W : List Int64) (bs : List Int32) (Tz : State) (locs : List Loc) (hz : Heap) (hx : p.tables.exec = Jvm.exec) (hZ : Z.Warmed39 s.vm) (hw : ∀ d ∈ tables_1, d.before a0 Z = true) (hby : c.code = prog_16_method_5_code) (hml : c.maxLocals = 10) (hown : s.vm.findClass "com/example/gate_to_gate/gatetogate/io/Field25519" = some m.cls) (hlk : meth.locks = false) (hret : meth.sig.returnType = some (.array .byte)) (SB : Sta Z Z.heap "com/example/gate_to_gate/gatetogate/io/Field25519" "BITS" "[I" (.ref wB)) (TB : ∀ j, j < 10 → ORd Z Z.heap wB .int (Int32.ofNat j) (.int (own_bits j))) (Z0 : n0 ≤ h0.size) (gah : n0 ≤ ah) (sah : h0.size ≤ ah) (gbb : n0 ≤ bb) (sbb : h0.size ≤ bb) (nab : ah ≠ bb) (hW : W.length = 10) (hbs : bs.length = 32) (Xz : Stand p l e ({ frames := 1, cells := 2, slots := 42, locals := 14 } : Room) s m args below meth c Tz locs 2 42) (ez : Tz.heap = hz) (Nz : Fr n0 locs) (Oz : Old Z n0 hz) (Kz : Keep h0 hz []) (Vz : Arv Z hz ah kf .long (10 : Int32) (W.map Value.long) (.long (0 : Int64))) (Bz : Arv Z hz bb kb .byte (32 : Int32) (bs.map Value.int) (.int (0 : Int32))) (cont : ∀ (T' : State) (locs' : List Loc) (h' : Heap), Stand p l e ({ frames := 1, cells := 2, slots := 42, locals := 14 } : Room) s m args below meth c T' locs' 2 42 → T'.heap = h' → Fr n0 locs' → Old Z n0 h' → Keep h0 h' [] → Arv Z h' ah kf .long (10 : Int32) (W.map Value.long) (.long (0 : Int64)) → Arv Z h' bb kb .byte (32 : Int32) ((((bs.set 3 (own_u4 W q).toInt32.toInt8.toInt32.toInt8.toInt32).set 4 (own_u5 W q).toInt32.toInt8.toInt32.toInt8.toInt32).set 5 (own_u6 W q).toInt32.toInt8.toInt32.toInt8.toInt32).map Value.int) (.int (0 : Int32)) → OG p e below s 2 42 P (T'.setTop (mkF m 239 #[.val (.ref f), .val (.ref ah), .val (.long r), .second, .val (.ref bb), .val (.long (own_u7 W q)), .second, .val (.int (3 : Int32)), .val (.int (6 : Int32)), .val (.int (2 : Int32))] []))) :
    OG p e below s 2 42 P (Tz.setTop (mkF m 239 #[.val (.ref f), .val (.ref ah), .val (.long r), .second, .val (.ref bb), .val (.long q), .second, .val (.int (2 : Int32)), .val (.int (3 : Int32)), .val (.int (1 : Int32))] [])) := by
  refine OG.of (A := Tz.setTop (mkF m 251 (own_L7 f ah r bb q (2 : Int32) (3 : Int32) (1 : Int32)) [(.int (1 : Int32)), (.ref ah), (.long q)])) (fun oT oK => ?_) ?_
  · skip
    refine XS.iload Xz.here hx rfl (hb hby dE_239) rfl  ?_
    show Steps p.tables e below (Tz.setTop (mkF m 241 (own_L7 f ah r bb q (2 : Int32) (3 : Int32) (1 : Int32)) [(.int (1 : Int32))])) _
    refine XS.bipush Xz.here hx rfl (hb hby dE_241) ?_
    show Steps p.tables e below (Tz.setTop (mkF m 243 (own_L7 f ah r bb q (2 : Int32) (3 : Int32) (1 : Int32)) [(.int (10 : Int32)), (.int (1 : Int32))])) _
    refine XS.icmpNo Xz.here hx rfl (hb hby dE_243) rfl (XT.ii_ge_f (by decide)) ?_
    show Steps p.tables e below (Tz.setTop (mkF m 246 (own_L7 f ah r bb q (2 : Int32) (3 : Int32) (1 : Int32)) [])) _
    refine XT.lload Xz.here hx rfl (hb hby dE_246) rfl  ?_
    refine XS.aloadN Xz.here hx rfl (hb hby dE_248) rfl rfl  ?_
    show Steps p.tables e below (Tz.setTop (mkF m 249 (own_L7 f ah r bb q (2 : Int32) (3 : Int32) (1 : Int32)) [(.ref ah), (.long q)])) _
    refine XS.iload Xz.here hx rfl (hb hby dE_249) rfl  ?_
    exact oK
  obtain ⟨clf1, Arf1, If1, Hf1⟩ := own_rdL Vz hW (j := (1 : Int32)) (i := 1) rfl (by decide)
  refine OG.of (Xz.laload hx (j := (1 : Int32)) (v := (.long (W.getD 1 0))) (by rw [ez]; exact Arf1.1) (State.isArrayOf_alike hZ.alike Arf1.2.1) Arf1.2.2 If1 Hf1 (g := (mkF m 251 (own_L7 f ah r bb q (2 : Int32) (3 : Int32) (1 : Int32)) [(.int (1 : Int32)), (.ref ah), (.long q)])) rfl rfl (hb hby dE_251)) ?_
  show OG _ _ _ _ _ _ _ (Tz.setTop (mkF m 252 (own_L7 f ah r bb q (2 : Int32) (3 : Int32) (1 : Int32)) [(.long (W.getD 1 0)), (.long q)]))
  refine OG.of (A := Tz.setTop (mkF m 258 (own_L7 f ah r bb (q ||| ((W.getD 1 0) <<< ((2 : Int32).toInt64 &&& 63))) (2 : Int32) (3 : Int32) (1 : Int32)) [])) (fun oT oK => ?_) ?_
  · skip
    refine XS.iload Xz.here hx rfl (hb hby dE_252) rfl  ?_
    show Steps p.tables e below (Tz.setTop (mkF m 254 (own_L7 f ah r bb q (2 : Int32) (3 : Int32) (1 : Int32)) [(.int (2 : Int32)), (.long (W.getD 1 0)), (.long q)])) _
    refine XT.lshl Xz.here hx rfl (hb hby dE_254) rfl ?_
    refine XT.lor Xz.here hx rfl (hb hby dE_255) rfl ?_
    show Steps p.tables e below (Tz.setTop (mkF m 256 (own_L7 f ah r bb q (2 : Int32) (3 : Int32) (1 : Int32)) [(.long (q ||| ((W.getD 1 0) <<< ((2 : Int32).toInt64 &&& 63))))])) _
    refine XT.lstore Xz.here hx rfl (hb hby dE_256) rfl (l' := (own_L7 f ah r bb (q ||| ((W.getD 1 0) <<< ((2 : Int32).toInt64 &&& 63))) (2 : Int32) (3 : Int32) (1 : Int32))) rfl ?_
    exact oK
  show OG _ _ _ _ _ _ _ (Tz.setTop (mkF m 258 (own_L7 f ah r bb (own_u4 W q) (2 : Int32) (3 : Int32) (1 : Int32)) []))
  refine OG.of (A := Tz.setTop (mkF m 260 (own_L7 f ah r bb (own_u4 W q) (2 : Int32) (3 : Int32) (1 : Int32)) [(.int (2 : Int32))])) (fun oT oK => ?_) ?_
  · skip
    refine XS.iload Xz.here hx rfl (hb hby dE_258) rfl  ?_
    exact oK
  obtain ⟨T1, X1, e1, st1⟩ := getS2 Xz hx hZ hown (host := "") (Or.inl (own_at hw 8 rfl)) Via.refl ez (SB.ext (Oz).2) (g := (mkF m 260 (own_L7 f ah r bb (own_u4 W q) (2 : Int32) (3 : Int32) (1 : Int32)) [(.int (2 : Int32))])) rfl (hb hby dE_260)
  refine OG.of st1 ?_
  show OG _ _ _ _ _ _ _ (T1.setTop (mkF m 263 (own_L7 f ah r bb (own_u4 W q) (2 : Int32) (3 : Int32) (1 : Int32)) [(.ref wB), (.int (2 : Int32))]))
  refine OG.of (A := T1.setTop (mkF m 265 (own_L7 f ah r bb (own_u4 W q) (2 : Int32) (3 : Int32) (1 : Int32)) [(.int (1 : Int32)), (.ref wB), (.int (2 : Int32))])) (fun oT oK => ?_) ?_
  · skip
    refine XS.iload X1.here hx rfl (hb hby dE_263) rfl  ?_
    exact oK
  have cf2 := ((TB 1 (by decide)).ext (Oz).2)
  obtain ⟨clf2, Arf2, If2, Hf2⟩ := cf2
  refine OG.of (X1.iaload hx (j := (1 : Int32)) (v := (.int (25 : Int32))) (by rw [e1]; exact Arf2.1) (State.isArrayOf_alike hZ.alike Arf2.2.1) Arf2.2.2 If2 Hf2 (g := (mkF m 265 (own_L7 f ah r bb (own_u4 W q) (2 : Int32) (3 : Int32) (1 : Int32)) [(.int (1 : Int32)), (.ref wB), (.int (2 : Int32))])) rfl rfl (hb hby dE_265)) ?_
  show OG _ _ _ _ _ _ _ (T1.setTop (mkF m 266 (own_L7 f ah r bb (own_u4 W q) (2 : Int32) (3 : Int32) (1 : Int32)) [(.int (25 : Int32)), (.int (2 : Int32))]))
  refine OG.of (A := T1.setTop (mkF m 284 (own_L7 f ah r bb (own_u4 W q) (27 : Int32) (3 : Int32) (1 : Int32)) [(.int (own_u4 W q).toInt32.toInt8.toInt32), (.int (3 : Int32)), (.ref bb)])) (fun oT oK => ?_) ?_
  · skip
    refine XS.iadd X1.here hx rfl (hb hby dE_266) rfl ?_
    show Steps p.tables e below (T1.setTop (mkF m 267 (own_L7 f ah r bb (own_u4 W q) (2 : Int32) (3 : Int32) (1 : Int32)) [(.int (27 : Int32))])) _
    refine XS.istore X1.here hx rfl (hb hby dE_267) rfl (l' := (own_L7 f ah r bb (own_u4 W q) (27 : Int32) (3 : Int32) (1 : Int32))) rfl ?_
    refine XS.iload X1.here hx rfl (hb hby dE_269) rfl  ?_
    show Steps p.tables e below (T1.setTop (mkF m 271 (own_L7 f ah r bb (own_u4 W q) (27 : Int32) (3 : Int32) (1 : Int32)) [(.int (27 : Int32))])) _
    refine XS.bipush X1.here hx rfl (hb hby dE_271) ?_
    show Steps p.tables e below (T1.setTop (mkF m 273 (own_L7 f ah r bb (own_u4 W q) (27 : Int32) (3 : Int32) (1 : Int32)) [(.int (8 : Int32)), (.int (27 : Int32))])) _
    refine XS.icmpNo X1.here hx rfl (hb hby dE_273) rfl (XT.ii_lt_f (by decide)) ?_
    show Steps p.tables e below (T1.setTop (mkF m 276 (own_L7 f ah r bb (own_u4 W q) (27 : Int32) (3 : Int32) (1 : Int32)) [])) _
    refine XS.aload X1.here hx rfl (hb hby dE_276) rfl rfl  ?_
    refine XS.iload X1.here hx rfl (hb hby dE_278) rfl  ?_
    show Steps p.tables e below (T1.setTop (mkF m 280 (own_L7 f ah r bb (own_u4 W q) (27 : Int32) (3 : Int32) (1 : Int32)) [(.int (3 : Int32)), (.ref bb)])) _
    refine XT.lload X1.here hx rfl (hb hby dE_280) rfl  ?_
    refine XT.l2i X1.here hx rfl (hb hby dE_282) rfl ?_
    show Steps p.tables e below (T1.setTop (mkF m 283 (own_L7 f ah r bb (own_u4 W q) (27 : Int32) (3 : Int32) (1 : Int32)) [(.int (own_u4 W q).toInt32), (.int (3 : Int32)), (.ref bb)])) _
    refine XT.i2b X1.here hx rfl (hb hby dE_283) rfl ?_
    exact oK
  obtain ⟨T2, h2, X2, e2, W2, V2, st2⟩ := own_stB X1 hx hZ e1 Bz hbs (j := (3 : Int32)) (i := 3) rfl (by decide) (g := (mkF m 284 (own_L7 f ah r bb (own_u4 W q) (27 : Int32) (3 : Int32) (1 : Int32)) [(.int (own_u4 W q).toInt32.toInt8.toInt32), (.int (3 : Int32)), (.ref bb)])) rfl rfl (hb hby dE_284)
  have f3 := (Vz).other W2 nab
  have f5 := (Oz).wr W2 gbb
  have K2 : Keep h0 h2 [] := (Kz).wr W2 (Or.inr sbb)
  have Z2 : n0 ≤ h2.size := Nat.le_trans (Nat.le_trans Z0 Kz.1) (Keep.of_wr W2).1
  have N2 := Fr.snoc X2 Nz gbb
  refine OG.of st2 ?_
  show OG _ _ _ _ _ _ _ (T2.setTop (mkF m 285 (own_L7 f ah r bb (own_u4 W q) (27 : Int32) (3 : Int32) (1 : Int32)) []))
  refine OG.of (A := T2.setTop (mkF m 295 (own_L7 f ah r bb (XT.ushrL (own_u4 W q) (8 : Int32)) (27 : Int32) (4 : Int32) (1 : Int32)) [])) (fun oT oK => ?_) ?_
  · skip
    refine XS.iinc X2.here hx rfl (hb hby dE_285) rfl (l' := (own_L7 f ah r bb (own_u4 W q) (27 : Int32) (4 : Int32) (1 : Int32))) rfl ?_
    show Steps p.tables e below (T2.setTop (mkF m 288 (own_L7 f ah r bb (own_u4 W q) (27 : Int32) (4 : Int32) (1 : Int32)) [])) _
    refine XT.lload X2.here hx rfl (hb hby dE_288) rfl  ?_
    refine XS.bipush X2.here hx rfl (hb hby dE_290) ?_
    show Steps p.tables e below (T2.setTop (mkF m 292 (own_L7 f ah r bb (own_u4 W q) (27 : Int32) (4 : Int32) (1 : Int32)) [(.int (8 : Int32)), (.long (own_u4 W q))])) _
    refine XT.lushr X2.here hx rfl (hb hby dE_292) rfl ?_
    refine XT.lstore X2.here hx rfl (hb hby dE_293) rfl (l' := (own_L7 f ah r bb (XT.ushrL (own_u4 W q) (8 : Int32)) (27 : Int32) (4 : Int32) (1 : Int32))) rfl ?_
    exact oK
  show OG _ _ _ _ _ _ _ (T2.setTop (mkF m 295 (own_L7 f ah r bb (own_u5 W q) (27 : Int32) (4 : Int32) (1 : Int32)) []))
  refine OG.of (A := T2.setTop (mkF m 284 (own_L7 f ah r bb (own_u5 W q) (19 : Int32) (4 : Int32) (1 : Int32)) [(.int (own_u5 W q).toInt32.toInt8.toInt32), (.int (4 : Int32)), (.ref bb)])) (fun oT oK => ?_) ?_
  · skip
    refine XS.iinc X2.here hx rfl (hb hby dE_295) rfl (l' := (own_L7 f ah r bb (own_u5 W q) (19 : Int32) (4 : Int32) (1 : Int32))) rfl ?_
    show Steps p.tables e below (T2.setTop (mkF m 298 (own_L7 f ah r bb (own_u5 W q) (19 : Int32) (4 : Int32) (1 : Int32)) [])) _
    refine XS.goto X2.here hx rfl (pc0 := 298) (pc' := 269) rfl (hb hby dE_298) (by decide) (by decide) ?_
    refine XS.iload X2.here hx rfl (hb hby dE_269) rfl  ?_
    show Steps p.tables e below (T2.setTop (mkF m 271 (own_L7 f ah r bb (own_u5 W q) (19 : Int32) (4 : Int32) (1 : Int32)) [(.int (19 : Int32))])) _
    refine XS.bipush X2.here hx rfl (hb hby dE_271) ?_
    show Steps p.tables e below (T2.setTop (mkF m 273 (own_L7 f ah r bb (own_u5 W q) (19 : Int32) (4 : Int32) (1 : Int32)) [(.int (8 : Int32)), (.int (19 : Int32))])) _
    refine XS.icmpNo X2.here hx rfl (hb hby dE_273) rfl (XT.ii_lt_f (by decide)) ?_
    show Steps p.tables e below (T2.setTop (mkF m 276 (own_L7 f ah r bb (own_u5 W q) (19 : Int32) (4 : Int32) (1 : Int32)) [])) _
    refine XS.aload X2.here hx rfl (hb hby dE_276) rfl rfl  ?_
    refine XS.iload X2.here hx rfl (hb hby dE_278) rfl  ?_
    show Steps p.tables e below (T2.setTop (mkF m 280 (own_L7 f ah r bb (own_u5 W q) (19 : Int32) (4 : Int32) (1 : Int32)) [(.int (4 : Int32)), (.ref bb)])) _
    refine XT.lload X2.here hx rfl (hb hby dE_280) rfl  ?_
    refine XT.l2i X2.here hx rfl (hb hby dE_282) rfl ?_
    show Steps p.tables e below (T2.setTop (mkF m 283 (own_L7 f ah r bb (own_u5 W q) (19 : Int32) (4 : Int32) (1 : Int32)) [(.int (own_u5 W q).toInt32), (.int (4 : Int32)), (.ref bb)])) _
    refine XT.i2b X2.here hx rfl (hb hby dE_283) rfl ?_
    exact oK
  obtain ⟨T3, h3, X3, e3, W3, V3, st3⟩ := own_stB X2 hx hZ e2 V2 ((List.length_set ..).trans hbs) (j := (4 : Int32)) (i := 4) rfl (by decide) (g := (mkF m 284 (own_L7 f ah r bb (own_u5 W q) (19 : Int32) (4 : Int32) (1 : Int32)) [(.int (own_u5 W q).toInt32.toInt8.toInt32), (.int (4 : Int32)), (.ref bb)])) rfl rfl (hb hby dE_284)
  have f6 := (f3).other W3 nab
  have f8 := (f5).wr W3 gbb
  have K3 : Keep h0 h3 [] := (K2).wr W3 (Or.inr sbb)
  have Z3 : n0 ≤ h3.size := Nat.le_trans Z2 (Keep.of_wr W3).1
  have N3 := Fr.snoc X3 N2 gbb
  refine OG.of st3 ?_
  show OG _ _ _ _ _ _ _ (T3.setTop (mkF m 285 (own_L7 f ah r bb (own_u5 W q) (19 : Int32) (4 : Int32) (1 : Int32)) []))
  refine OG.of (A := T3.setTop (mkF m 295 (own_L7 f ah r bb (XT.ushrL (own_u5 W q) (8 : Int32)) (19 : Int32) (5 : Int32) (1 : Int32)) [])) (fun oT oK => ?_) ?_
  · skip
    refine XS.iinc X3.here hx rfl (hb hby dE_285) rfl (l' := (own_L7 f ah r bb (own_u5 W q) (19 : Int32) (5 : Int32) (1 : Int32))) rfl ?_
    show Steps p.tables e below (T3.setTop (mkF m 288 (own_L7 f ah r bb (own_u5 W q) (19 : Int32) (5 : Int32) (1 : Int32)) [])) _
    refine XT.lload X3.here hx rfl (hb hby dE_288) rfl  ?_
    refine XS.bipush X3.here hx rfl (hb hby dE_290) ?_
    show Steps p.tables e below (T3.setTop (mkF m 292 (own_L7 f ah r bb (own_u5 W q) (19 : Int32) (5 : Int32) (1 : Int32)) [(.int (8 : Int32)), (.long (own_u5 W q))])) _
    refine XT.lushr X3.here hx rfl (hb hby dE_292) rfl ?_
    refine XT.lstore X3.here hx rfl (hb hby dE_293) rfl (l' := (own_L7 f ah r bb (XT.ushrL (own_u5 W q) (8 : Int32)) (19 : Int32) (5 : Int32) (1 : Int32))) rfl ?_
    exact oK
  show OG _ _ _ _ _ _ _ (T3.setTop (mkF m 295 (own_L7 f ah r bb (own_u6 W q) (19 : Int32) (5 : Int32) (1 : Int32)) []))
  refine OG.of (A := T3.setTop (mkF m 284 (own_L7 f ah r bb (own_u6 W q) (11 : Int32) (5 : Int32) (1 : Int32)) [(.int (own_u6 W q).toInt32.toInt8.toInt32), (.int (5 : Int32)), (.ref bb)])) (fun oT oK => ?_) ?_
  · skip
    refine XS.iinc X3.here hx rfl (hb hby dE_295) rfl (l' := (own_L7 f ah r bb (own_u6 W q) (11 : Int32) (5 : Int32) (1 : Int32))) rfl ?_
    show Steps p.tables e below (T3.setTop (mkF m 298 (own_L7 f ah r bb (own_u6 W q) (11 : Int32) (5 : Int32) (1 : Int32)) [])) _
    refine XS.goto X3.here hx rfl (pc0 := 298) (pc' := 269) rfl (hb hby dE_298) (by decide) (by decide) ?_
    refine XS.iload X3.here hx rfl (hb hby dE_269) rfl  ?_
    show Steps p.tables e below (T3.setTop (mkF m 271 (own_L7 f ah r bb (own_u6 W q) (11 : Int32) (5 : Int32) (1 : Int32)) [(.int (11 : Int32))])) _
    refine XS.bipush X3.here hx rfl (hb hby dE_271) ?_
    show Steps p.tables e below (T3.setTop (mkF m 273 (own_L7 f ah r bb (own_u6 W q) (11 : Int32) (5 : Int32) (1 : Int32)) [(.int (8 : Int32)), (.int (11 : Int32))])) _
    refine XS.icmpNo X3.here hx rfl (hb hby dE_273) rfl (XT.ii_lt_f (by decide)) ?_
    show Steps p.tables e below (T3.setTop (mkF m 276 (own_L7 f ah r bb (own_u6 W q) (11 : Int32) (5 : Int32) (1 : Int32)) [])) _
    refine XS.aload X3.here hx rfl (hb hby dE_276) rfl rfl  ?_
    refine XS.iload X3.here hx rfl (hb hby dE_278) rfl  ?_
    show Steps p.tables e below (T3.setTop (mkF m 280 (own_L7 f ah r bb (own_u6 W q) (11 : Int32) (5 : Int32) (1 : Int32)) [(.int (5 : Int32)), (.ref bb)])) _
    refine XT.lload X3.here hx rfl (hb hby dE_280) rfl  ?_
    refine XT.l2i X3.here hx rfl (hb hby dE_282) rfl ?_
    show Steps p.tables e below (T3.setTop (mkF m 283 (own_L7 f ah r bb (own_u6 W q) (11 : Int32) (5 : Int32) (1 : Int32)) [(.int (own_u6 W q).toInt32), (.int (5 : Int32)), (.ref bb)])) _
    refine XT.i2b X3.here hx rfl (hb hby dE_283) rfl ?_
    exact oK
  obtain ⟨T4, h4, X4, e4, W4, V4, st4⟩ := own_stB X3 hx hZ e3 V3 ((List.length_set ..).trans ((List.length_set ..).trans hbs)) (j := (5 : Int32)) (i := 5) rfl (by decide) (g := (mkF m 284 (own_L7 f ah r bb (own_u6 W q) (11 : Int32) (5 : Int32) (1 : Int32)) [(.int (own_u6 W q).toInt32.toInt8.toInt32), (.int (5 : Int32)), (.ref bb)])) rfl rfl (hb hby dE_284)
  have f9 := (f6).other W4 nab
  have f11 := (f8).wr W4 gbb
  have K4 : Keep h0 h4 [] := (K3).wr W4 (Or.inr sbb)
  have Z4 : n0 ≤ h4.size := Nat.le_trans Z3 (Keep.of_wr W4).1
  have N4 := Fr.snoc X4 N3 gbb
  refine OG.of st4 ?_
  show OG _ _ _ _ _ _ _ (T4.setTop (mkF m 285 (own_L7 f ah r bb (own_u6 W q) (11 : Int32) (5 : Int32) (1 : Int32)) []))
  refine OG.of (A := T4.setTop (mkF m 295 (own_L7 f ah r bb (XT.ushrL (own_u6 W q) (8 : Int32)) (11 : Int32) (6 : Int32) (1 : Int32)) [])) (fun oT oK => ?_) ?_
  · skip
    refine XS.iinc X4.here hx rfl (hb hby dE_285) rfl (l' := (own_L7 f ah r bb (own_u6 W q) (11 : Int32) (6 : Int32) (1 : Int32))) rfl ?_
    show Steps p.tables e below (T4.setTop (mkF m 288 (own_L7 f ah r bb (own_u6 W q) (11 : Int32) (6 : Int32) (1 : Int32)) [])) _
    refine XT.lload X4.here hx rfl (hb hby dE_288) rfl  ?_
    refine XS.bipush X4.here hx rfl (hb hby dE_290) ?_
    show Steps p.tables e below (T4.setTop (mkF m 292 (own_L7 f ah r bb (own_u6 W q) (11 : Int32) (6 : Int32) (1 : Int32)) [(.int (8 : Int32)), (.long (own_u6 W q))])) _
    refine XT.lushr X4.here hx rfl (hb hby dE_292) rfl ?_
    refine XT.lstore X4.here hx rfl (hb hby dE_293) rfl (l' := (own_L7 f ah r bb (XT.ushrL (own_u6 W q) (8 : Int32)) (11 : Int32) (6 : Int32) (1 : Int32))) rfl ?_
    exact oK
  show OG _ _ _ _ _ _ _ (T4.setTop (mkF m 295 (own_L7 f ah r bb (own_u7 W q) (11 : Int32) (6 : Int32) (1 : Int32)) []))
  refine OG.of (A := T4.setTop (mkF m 239 (own_L7 f ah r bb (own_u7 W q) (3 : Int32) (6 : Int32) (2 : Int32)) [])) (fun oT oK => ?_) ?_
  · skip
    refine XS.iinc X4.here hx rfl (hb hby dE_295) rfl (l' := (own_L7 f ah r bb (own_u7 W q) (3 : Int32) (6 : Int32) (1 : Int32))) rfl ?_
    show Steps p.tables e below (T4.setTop (mkF m 298 (own_L7 f ah r bb (own_u7 W q) (3 : Int32) (6 : Int32) (1 : Int32)) [])) _
    refine XS.goto X4.here hx rfl (pc0 := 298) (pc' := 269) rfl (hb hby dE_298) (by decide) (by decide) ?_
    refine XS.iload X4.here hx rfl (hb hby dE_269) rfl  ?_
    show Steps p.tables e below (T4.setTop (mkF m 271 (own_L7 f ah r bb (own_u7 W q) (3 : Int32) (6 : Int32) (1 : Int32)) [(.int (3 : Int32))])) _
    refine XS.bipush X4.here hx rfl (hb hby dE_271) ?_
    show Steps p.tables e below (T4.setTop (mkF m 273 (own_L7 f ah r bb (own_u7 W q) (3 : Int32) (6 : Int32) (1 : Int32)) [(.int (8 : Int32)), (.int (3 : Int32))])) _
    refine XS.icmpYes X4.here hx rfl (pc0 := 273) (pc' := 301) rfl (hb hby dE_273) rfl (XT.ii_lt_t (by decide)) (by decide) (by decide) ?_
    show Steps p.tables e below (T4.setTop (mkF m 301 (own_L7 f ah r bb (own_u7 W q) (3 : Int32) (6 : Int32) (1 : Int32)) [])) _
    refine XS.iinc X4.here hx rfl (hb hby dE_301) rfl (l' := (own_L7 f ah r bb (own_u7 W q) (3 : Int32) (6 : Int32) (2 : Int32))) rfl ?_
    refine XS.goto X4.here hx rfl (pc0 := 304) (pc' := 239) rfl (hb hby dE_304) (by decide) (by decide) ?_
    exact oK
  exact cont T4 _ _ X4 e4 N4 f11 K4 f9 V4
set_option maxRecDepth 65536 in
set_option maxHeartbeats 40000000 in
theorem own_turn2 {p : Program} {l : Launch} {e : Env} {s : State} {m : MethodId} {args : Array Value} {below : List Frame} {meth : Method} {c : Code} {Z : State} {a0 : Array Value} {h0 : Heap} {n0 : Nat} {P : Option Value → Heap → List Loc → Prop} (f ah bb : Addr) (kf kb : ClassId) (wB : Addr) (r q : Int64) (W : List Int64) (bs : List Int32) (Tz : State) (locs : List Loc) (hz : Heap) (hx : p.tables.exec = Jvm.exec) (hZ : Z.Warmed39 s.vm) (hw : ∀ d ∈ tables_1, d.before a0 Z = true) (hby : c.code = prog_16_method_5_code) (hml : c.maxLocals = 10) (hown : s.vm.findClass "com/example/gate_to_gate/gatetogate/io/Field25519" = some m.cls) (hlk : meth.locks = false) (hret : meth.sig.returnType = some (.array .byte)) (SB : Sta Z Z.heap "com/example/gate_to_gate/gatetogate/io/Field25519" "BITS" "[I" (.ref wB)) (TB : ∀ j, j < 10 → ORd Z Z.heap wB .int (Int32.ofNat j) (.int (own_bits j))) (Z0 : n0 ≤ h0.size) (gah : n0 ≤ ah) (sah : h0.size ≤ ah) (gbb : n0 ≤ bb) (sbb : h0.size ≤ bb) (nab : ah ≠ bb) (hW : W.length = 10) (hbs : bs.length = 32) (Xz : Stand p l e ({ frames := 1, cells := 2, slots := 42, locals := 14 } : Room) s m args below meth c Tz locs 2 42) (ez : Tz.heap = hz) (Nz : Fr n0 locs) (Oz : Old Z n0 hz) (Kz : Keep h0 hz []) (Vz : Arv Z hz ah kf .long (10 : Int32) (W.map Value.long) (.long (0 : Int64))) (Bz : Arv Z hz bb kb .byte (32 : Int32) (bs.map Value.int) (.int (0 : Int32))) (cont : ∀ (T' : State) (locs' : List Loc) (h' : Heap), Stand p l e ({ frames := 1, cells := 2, slots := 42, locals := 14 } : Room) s m args below meth c T' locs' 2 42 → T'.heap = h' → Fr n0 locs' → Old Z n0 h' → Keep h0 h' [] → Arv Z h' ah kf .long (10 : Int32) (W.map Value.long) (.long (0 : Int64)) → Arv Z h' bb kb .byte (32 : Int32) ((((bs.set 6 (own_u8 W q).toInt32.toInt8.toInt32.toInt8.toInt32).set 7 (own_u9 W q).toInt32.toInt8.toInt32.toInt8.toInt32).set 8 (own_u10 W q).toInt32.toInt8.toInt32.toInt8.toInt32).map Value.int) (.int (0 : Int32)) → OG p e below s 2 42 P (T'.setTop (mkF m 239 #[.val (.ref f), .val (.ref ah), .val (.long r), .second, .val (.ref bb), .val (.long (own_u11 W q)), .second, .val (.int (5 : Int32)), .val (.int (9 : Int32)), .val (.int (3 : Int32))] []))) :
    OG p e below s 2 42 P (Tz.setTop (mkF m 239 #[.val (.ref f), .val (.ref ah), .val (.long r), .second, .val (.ref bb), .val (.long q), .second, .val (.int (3 : Int32)), .val (.int (6 : Int32)), .val (.int (2 : Int32))] [])) := by
  refine OG.of (A := Tz.setTop (mkF m 251 (own_L7 f ah r bb q (3 : Int32) (6 : Int32) (2 : Int32)) [(.int (2 : Int32)), (.ref ah), (.long q)])) (fun oT oK => ?_) ?_
  · skip
    refine XS.iload Xz.here hx rfl (hb hby dE_239) rfl  ?_
    show Steps p.tables e below (Tz.setTop (mkF m 241 (own_L7 f ah r bb q (3 : Int32) (6 : Int32) (2 : Int32)) [(.int (2 : Int32))])) _
    refine XS.bipush Xz.here hx rfl (hb hby dE_241) ?_
    show Steps p.tables e below (Tz.setTop (mkF m 243 (own_L7 f ah r bb q (3 : Int32) (6 : Int32) (2 : Int32)) [(.int (10 : Int32)), (.int (2 : Int32))])) _
    refine XS.icmpNo Xz.here hx rfl (hb hby dE_243) rfl (XT.ii_ge_f (by decide)) ?_
    show Steps p.tables e below (Tz.setTop (mkF m 246 (own_L7 f ah r bb q (3 : Int32) (6 : Int32) (2 : Int32)) [])) _
    refine XT.lload Xz.here hx rfl (hb hby dE_246) rfl  ?_
    refine XS.aloadN Xz.here hx rfl (hb hby dE_248) rfl rfl  ?_
    show Steps p.tables e below (Tz.setTop (mkF m 249 (own_L7 f ah r bb q (3 : Int32) (6 : Int32) (2 : Int32)) [(.ref ah), (.long q)])) _
    refine XS.iload Xz.here hx rfl (hb hby dE_249) rfl  ?_
    exact oK
  obtain ⟨clf1, Arf1, If1, Hf1⟩ := own_rdL Vz hW (j := (2 : Int32)) (i := 2) rfl (by decide)
  refine OG.of (Xz.laload hx (j := (2 : Int32)) (v := (.long (W.getD 2 0))) (by rw [ez]; exact Arf1.1) (State.isArrayOf_alike hZ.alike Arf1.2.1) Arf1.2.2 If1 Hf1 (g := (mkF m 251 (own_L7 f ah r bb q (3 : Int32) (6 : Int32) (2 : Int32)) [(.int (2 : Int32)), (.ref ah), (.long q)])) rfl rfl (hb hby dE_251)) ?_
  show OG _ _ _ _ _ _ _ (Tz.setTop (mkF m 252 (own_L7 f ah r bb q (3 : Int32) (6 : Int32) (2 : Int32)) [(.long (W.getD 2 0)), (.long q)]))
  refine OG.of (A := Tz.setTop (mkF m 258 (own_L7 f ah r bb (q ||| ((W.getD 2 0) <<< ((3 : Int32).toInt64 &&& 63))) (3 : Int32) (6 : Int32) (2 : Int32)) [])) (fun oT oK => ?_) ?_
  · skip
    refine XS.iload Xz.here hx rfl (hb hby dE_252) rfl  ?_
    show Steps p.tables e below (Tz.setTop (mkF m 254 (own_L7 f ah r bb q (3 : Int32) (6 : Int32) (2 : Int32)) [(.int (3 : Int32)), (.long (W.getD 2 0)), (.long q)])) _
    refine XT.lshl Xz.here hx rfl (hb hby dE_254) rfl ?_
    refine XT.lor Xz.here hx rfl (hb hby dE_255) rfl ?_
    show Steps p.tables e below (Tz.setTop (mkF m 256 (own_L7 f ah r bb q (3 : Int32) (6 : Int32) (2 : Int32)) [(.long (q ||| ((W.getD 2 0) <<< ((3 : Int32).toInt64 &&& 63))))])) _
    refine XT.lstore Xz.here hx rfl (hb hby dE_256) rfl (l' := (own_L7 f ah r bb (q ||| ((W.getD 2 0) <<< ((3 : Int32).toInt64 &&& 63))) (3 : Int32) (6 : Int32) (2 : Int32))) rfl ?_
    exact oK
  show OG _ _ _ _ _ _ _ (Tz.setTop (mkF m 258 (own_L7 f ah r bb (own_u8 W q) (3 : Int32) (6 : Int32) (2 : Int32)) []))
  refine OG.of (A := Tz.setTop (mkF m 260 (own_L7 f ah r bb (own_u8 W q) (3 : Int32) (6 : Int32) (2 : Int32)) [(.int (3 : Int32))])) (fun oT oK => ?_) ?_
  · skip
    refine XS.iload Xz.here hx rfl (hb hby dE_258) rfl  ?_
    exact oK
  obtain ⟨T1, X1, e1, st1⟩ := getS2 Xz hx hZ hown (host := "") (Or.inl (own_at hw 8 rfl)) Via.refl ez (SB.ext (Oz).2) (g := (mkF m 260 (own_L7 f ah r bb (own_u8 W q) (3 : Int32) (6 : Int32) (2 : Int32)) [(.int (3 : Int32))])) rfl (hb hby dE_260)
  refine OG.of st1 ?_
  show OG _ _ _ _ _ _ _ (T1.setTop (mkF m 263 (own_L7 f ah r bb (own_u8 W q) (3 : Int32) (6 : Int32) (2 : Int32)) [(.ref wB), (.int (3 : Int32))]))
  refine OG.of (A := T1.setTop (mkF m 265 (own_L7 f ah r bb (own_u8 W q) (3 : Int32) (6 : Int32) (2 : Int32)) [(.int (2 : Int32)), (.ref wB), (.int (3 : Int32))])) (fun oT oK => ?_) ?_
  · skip
    refine XS.iload X1.here hx rfl (hb hby dE_263) rfl  ?_
    exact oK
  have cf2 := ((TB 2 (by decide)).ext (Oz).2)
  obtain ⟨clf2, Arf2, If2, Hf2⟩ := cf2
  refine OG.of (X1.iaload hx (j := (2 : Int32)) (v := (.int (26 : Int32))) (by rw [e1]; exact Arf2.1) (State.isArrayOf_alike hZ.alike Arf2.2.1) Arf2.2.2 If2 Hf2 (g := (mkF m 265 (own_L7 f ah r bb (own_u8 W q) (3 : Int32) (6 : Int32) (2 : Int32)) [(.int (2 : Int32)), (.ref wB), (.int (3 : Int32))])) rfl rfl (hb hby dE_265)) ?_
  show OG _ _ _ _ _ _ _ (T1.setTop (mkF m 266 (own_L7 f ah r bb (own_u8 W q) (3 : Int32) (6 : Int32) (2 : Int32)) [(.int (26 : Int32)), (.int (3 : Int32))]))
  refine OG.of (A := T1.setTop (mkF m 284 (own_L7 f ah r bb (own_u8 W q) (29 : Int32) (6 : Int32) (2 : Int32)) [(.int (own_u8 W q).toInt32.toInt8.toInt32), (.int (6 : Int32)), (.ref bb)])) (fun oT oK => ?_) ?_
  · skip
    refine XS.iadd X1.here hx rfl (hb hby dE_266) rfl ?_
    show Steps p.tables e below (T1.setTop (mkF m 267 (own_L7 f ah r bb (own_u8 W q) (3 : Int32) (6 : Int32) (2 : Int32)) [(.int (29 : Int32))])) _
    refine XS.istore X1.here hx rfl (hb hby dE_267) rfl (l' := (own_L7 f ah r bb (own_u8 W q) (29 : Int32) (6 : Int32) (2 : Int32))) rfl ?_
    refine XS.iload X1.here hx rfl (hb hby dE_269) rfl  ?_
    show Steps p.tables e below (T1.setTop (mkF m 271 (own_L7 f ah r bb (own_u8 W q) (29 : Int32) (6 : Int32) (2 : Int32)) [(.int (29 : Int32))])) _
    refine XS.bipush X1.here hx rfl (hb hby dE_271) ?_
    show Steps p.tables e below (T1.setTop (mkF m 273 (own_L7 f ah r bb (own_u8 W q) (29 : Int32) (6 : Int32) (2 : Int32)) [(.int (8 : Int32)), (.int (29 : Int32))])) _
    refine XS.icmpNo X1.here hx rfl (hb hby dE_273) rfl (XT.ii_lt_f (by decide)) ?_
    show Steps p.tables e below (T1.setTop (mkF m 276 (own_L7 f ah r bb (own_u8 W q) (29 : Int32) (6 : Int32) (2 : Int32)) [])) _
    refine XS.aload X1.here hx rfl (hb hby dE_276) rfl rfl  ?_
    refine XS.iload X1.here hx rfl (hb hby dE_278) rfl  ?_
    show Steps p.tables e below (T1.setTop (mkF m 280 (own_L7 f ah r bb (own_u8 W q) (29 : Int32) (6 : Int32) (2 : Int32)) [(.int (6 : Int32)), (.ref bb)])) _
    refine XT.lload X1.here hx rfl (hb hby dE_280) rfl  ?_
    refine XT.l2i X1.here hx rfl (hb hby dE_282) rfl ?_
    show Steps p.tables e below (T1.setTop (mkF m 283 (own_L7 f ah r bb (own_u8 W q) (29 : Int32) (6 : Int32) (2 : Int32)) [(.int (own_u8 W q).toInt32), (.int (6 : Int32)), (.ref bb)])) _
    refine XT.i2b X1.here hx rfl (hb hby dE_283) rfl ?_
    exact oK
  obtain ⟨T2, h2, X2, e2, W2, V2, st2⟩ := own_stB X1 hx hZ e1 Bz hbs (j := (6 : Int32)) (i := 6) rfl (by decide) (g := (mkF m 284 (own_L7 f ah r bb (own_u8 W q) (29 : Int32) (6 : Int32) (2 : Int32)) [(.int (own_u8 W q).toInt32.toInt8.toInt32), (.int (6 : Int32)), (.ref bb)])) rfl rfl (hb hby dE_284)
  have f3 := (Vz).other W2 nab
  have f5 := (Oz).wr W2 gbb
  have K2 : Keep h0 h2 [] := (Kz).wr W2 (Or.inr sbb)
  have Z2 : n0 ≤ h2.size := Nat.le_trans (Nat.le_trans Z0 Kz.1) (Keep.of_wr W2).1
  have N2 := Fr.snoc X2 Nz gbb
  refine OG.of st2 ?_
  show OG _ _ _ _ _ _ _ (T2.setTop (mkF m 285 (own_L7 f ah r bb (own_u8 W q) (29 : Int32) (6 : Int32) (2 : Int32)) []))
  refine OG.of (A := T2.setTop (mkF m 295 (own_L7 f ah r bb (XT.ushrL (own_u8 W q) (8 : Int32)) (29 : Int32) (7 : Int32) (2 : Int32)) [])) (fun oT oK => ?_) ?_
  · skip
    refine XS.iinc X2.here hx rfl (hb hby dE_285) rfl (l' := (own_L7 f ah r bb (own_u8 W q) (29 : Int32) (7 : Int32) (2 : Int32))) rfl ?_
    show Steps p.tables e below (T2.setTop (mkF m 288 (own_L7 f ah r bb (own_u8 W q) (29 : Int32) (7 : Int32) (2 : Int32)) [])) _
    refine XT.lload X2.here hx rfl (hb hby dE_288) rfl  ?_
    refine XS.bipush X2.here hx rfl (hb hby dE_290) ?_
    show Steps p.tables e below (T2.setTop (mkF m 292 (own_L7 f ah r bb (own_u8 W q) (29 : Int32) (7 : Int32) (2 : Int32)) [(.int (8 : Int32)), (.long (own_u8 W q))])) _
    refine XT.lushr X2.here hx rfl (hb hby dE_292) rfl ?_
    refine XT.lstore X2.here hx rfl (hb hby dE_293) rfl (l' := (own_L7 f ah r bb (XT.ushrL (own_u8 W q) (8 : Int32)) (29 : Int32) (7 : Int32) (2 : Int32))) rfl ?_
    exact oK
  show OG _ _ _ _ _ _ _ (T2.setTop (mkF m 295 (own_L7 f ah r bb (own_u9 W q) (29 : Int32) (7 : Int32) (2 : Int32)) []))
  refine OG.of (A := T2.setTop (mkF m 284 (own_L7 f ah r bb (own_u9 W q) (21 : Int32) (7 : Int32) (2 : Int32)) [(.int (own_u9 W q).toInt32.toInt8.toInt32), (.int (7 : Int32)), (.ref bb)])) (fun oT oK => ?_) ?_
  · skip
    refine XS.iinc X2.here hx rfl (hb hby dE_295) rfl (l' := (own_L7 f ah r bb (own_u9 W q) (21 : Int32) (7 : Int32) (2 : Int32))) rfl ?_
    show Steps p.tables e below (T2.setTop (mkF m 298 (own_L7 f ah r bb (own_u9 W q) (21 : Int32) (7 : Int32) (2 : Int32)) [])) _
    refine XS.goto X2.here hx rfl (pc0 := 298) (pc' := 269) rfl (hb hby dE_298) (by decide) (by decide) ?_
    refine XS.iload X2.here hx rfl (hb hby dE_269) rfl  ?_
    show Steps p.tables e below (T2.setTop (mkF m 271 (own_L7 f ah r bb (own_u9 W q) (21 : Int32) (7 : Int32) (2 : Int32)) [(.int (21 : Int32))])) _
    refine XS.bipush X2.here hx rfl (hb hby dE_271) ?_
    show Steps p.tables e below (T2.setTop (mkF m 273 (own_L7 f ah r bb (own_u9 W q) (21 : Int32) (7 : Int32) (2 : Int32)) [(.int (8 : Int32)), (.int (21 : Int32))])) _
    refine XS.icmpNo X2.here hx rfl (hb hby dE_273) rfl (XT.ii_lt_f (by decide)) ?_
    show Steps p.tables e below (T2.setTop (mkF m 276 (own_L7 f ah r bb (own_u9 W q) (21 : Int32) (7 : Int32) (2 : Int32)) [])) _
    refine XS.aload X2.here hx rfl (hb hby dE_276) rfl rfl  ?_
    refine XS.iload X2.here hx rfl (hb hby dE_278) rfl  ?_
    show Steps p.tables e below (T2.setTop (mkF m 280 (own_L7 f ah r bb (own_u9 W q) (21 : Int32) (7 : Int32) (2 : Int32)) [(.int (7 : Int32)), (.ref bb)])) _
    refine XT.lload X2.here hx rfl (hb hby dE_280) rfl  ?_
    refine XT.l2i X2.here hx rfl (hb hby dE_282) rfl ?_
    show Steps p.tables e below (T2.setTop (mkF m 283 (own_L7 f ah r bb (own_u9 W q) (21 : Int32) (7 : Int32) (2 : Int32)) [(.int (own_u9 W q).toInt32), (.int (7 : Int32)), (.ref bb)])) _
    refine XT.i2b X2.here hx rfl (hb hby dE_283) rfl ?_
    exact oK
  obtain ⟨T3, h3, X3, e3, W3, V3, st3⟩ := own_stB X2 hx hZ e2 V2 ((List.length_set ..).trans hbs) (j := (7 : Int32)) (i := 7) rfl (by decide) (g := (mkF m 284 (own_L7 f ah r bb (own_u9 W q) (21 : Int32) (7 : Int32) (2 : Int32)) [(.int (own_u9 W q).toInt32.toInt8.toInt32), (.int (7 : Int32)), (.ref bb)])) rfl rfl (hb hby dE_284)
  have f6 := (f3).other W3 nab
  have f8 := (f5).wr W3 gbb
  have K3 : Keep h0 h3 [] := (K2).wr W3 (Or.inr sbb)
  have Z3 : n0 ≤ h3.size := Nat.le_trans Z2 (Keep.of_wr W3).1
  have N3 := Fr.snoc X3 N2 gbb
  refine OG.of st3 ?_
  show OG _ _ _ _ _ _ _ (T3.setTop (mkF m 285 (own_L7 f ah r bb (own_u9 W q) (21 : Int32) (7 : Int32) (2 : Int32)) []))
  refine OG.of (A := T3.setTop (mkF m 295 (own_L7 f ah r bb (XT.ushrL (own_u9 W q) (8 : Int32)) (21 : Int32) (8 : Int32) (2 : Int32)) [])) (fun oT oK => ?_) ?_
  · skip
    refine XS.iinc X3.here hx rfl (hb hby dE_285) rfl (l' := (own_L7 f ah r bb (own_u9 W q) (21 : Int32) (8 : Int32) (2 : Int32))) rfl ?_
    show Steps p.tables e below (T3.setTop (mkF m 288 (own_L7 f ah r bb (own_u9 W q) (21 : Int32) (8 : Int32) (2 : Int32)) [])) _
    refine XT.lload X3.here hx rfl (hb hby dE_288) rfl  ?_
    refine XS.bipush X3.here hx rfl (hb hby dE_290) ?_
    show Steps p.tables e below (T3.setTop (mkF m 292 (own_L7 f ah r bb (own_u9 W q) (21 : Int32) (8 : Int32) (2 : Int32)) [(.int (8 : Int32)), (.long (own_u9 W q))])) _
    refine XT.lushr X3.here hx rfl (hb hby dE_292) rfl ?_
    refine XT.lstore X3.here hx rfl (hb hby dE_293) rfl (l' := (own_L7 f ah r bb (XT.ushrL (own_u9 W q) (8 : Int32)) (21 : Int32) (8 : Int32) (2 : Int32))) rfl ?_
    exact oK
  show OG _ _ _ _ _ _ _ (T3.setTop (mkF m 295 (own_L7 f ah r bb (own_u10 W q) (21 : Int32) (8 : Int32) (2 : Int32)) []))
  refine OG.of (A := T3.setTop (mkF m 284 (own_L7 f ah r bb (own_u10 W q) (13 : Int32) (8 : Int32) (2 : Int32)) [(.int (own_u10 W q).toInt32.toInt8.toInt32), (.int (8 : Int32)), (.ref bb)])) (fun oT oK => ?_) ?_
  · skip
    refine XS.iinc X3.here hx rfl (hb hby dE_295) rfl (l' := (own_L7 f ah r bb (own_u10 W q) (13 : Int32) (8 : Int32) (2 : Int32))) rfl ?_
    show Steps p.tables e below (T3.setTop (mkF m 298 (own_L7 f ah r bb (own_u10 W q) (13 : Int32) (8 : Int32) (2 : Int32)) [])) _
    refine XS.goto X3.here hx rfl (pc0 := 298) (pc' := 269) rfl (hb hby dE_298) (by decide) (by decide) ?_
    refine XS.iload X3.here hx rfl (hb hby dE_269) rfl  ?_
    show Steps p.tables e below (T3.setTop (mkF m 271 (own_L7 f ah r bb (own_u10 W q) (13 : Int32) (8 : Int32) (2 : Int32)) [(.int (13 : Int32))])) _
    refine XS.bipush X3.here hx rfl (hb hby dE_271) ?_
    show Steps p.tables e below (T3.setTop (mkF m 273 (own_L7 f ah r bb (own_u10 W q) (13 : Int32) (8 : Int32) (2 : Int32)) [(.int (8 : Int32)), (.int (13 : Int32))])) _
    refine XS.icmpNo X3.here hx rfl (hb hby dE_273) rfl (XT.ii_lt_f (by decide)) ?_
    show Steps p.tables e below (T3.setTop (mkF m 276 (own_L7 f ah r bb (own_u10 W q) (13 : Int32) (8 : Int32) (2 : Int32)) [])) _
    refine XS.aload X3.here hx rfl (hb hby dE_276) rfl rfl  ?_
    refine XS.iload X3.here hx rfl (hb hby dE_278) rfl  ?_
    show Steps p.tables e below (T3.setTop (mkF m 280 (own_L7 f ah r bb (own_u10 W q) (13 : Int32) (8 : Int32) (2 : Int32)) [(.int (8 : Int32)), (.ref bb)])) _
    refine XT.lload X3.here hx rfl (hb hby dE_280) rfl  ?_
    refine XT.l2i X3.here hx rfl (hb hby dE_282) rfl ?_
    show Steps p.tables e below (T3.setTop (mkF m 283 (own_L7 f ah r bb (own_u10 W q) (13 : Int32) (8 : Int32) (2 : Int32)) [(.int (own_u10 W q).toInt32), (.int (8 : Int32)), (.ref bb)])) _
    refine XT.i2b X3.here hx rfl (hb hby dE_283) rfl ?_
    exact oK
  obtain ⟨T4, h4, X4, e4, W4, V4, st4⟩ := own_stB X3 hx hZ e3 V3 ((List.length_set ..).trans ((List.length_set ..).trans hbs)) (j := (8 : Int32)) (i := 8) rfl (by decide) (g := (mkF m 284 (own_L7 f ah r bb (own_u10 W q) (13 : Int32) (8 : Int32) (2 : Int32)) [(.int (own_u10 W q).toInt32.toInt8.toInt32), (.int (8 : Int32)), (.ref bb)])) rfl rfl (hb hby dE_284)
  have f9 := (f6).other W4 nab
  have f11 := (f8).wr W4 gbb
  have K4 : Keep h0 h4 [] := (K3).wr W4 (Or.inr sbb)
  have Z4 : n0 ≤ h4.size := Nat.le_trans Z3 (Keep.of_wr W4).1
  have N4 := Fr.snoc X4 N3 gbb
  refine OG.of st4 ?_
  show OG _ _ _ _ _ _ _ (T4.setTop (mkF m 285 (own_L7 f ah r bb (own_u10 W q) (13 : Int32) (8 : Int32) (2 : Int32)) []))
  refine OG.of (A := T4.setTop (mkF m 295 (own_L7 f ah r bb (XT.ushrL (own_u10 W q) (8 : Int32)) (13 : Int32) (9 : Int32) (2 : Int32)) [])) (fun oT oK => ?_) ?_
  · skip
    refine XS.iinc X4.here hx rfl (hb hby dE_285) rfl (l' := (own_L7 f ah r bb (own_u10 W q) (13 : Int32) (9 : Int32) (2 : Int32))) rfl ?_
    show Steps p.tables e below (T4.setTop (mkF m 288 (own_L7 f ah r bb (own_u10 W q) (13 : Int32) (9 : Int32) (2 : Int32)) [])) _
    refine XT.lload X4.here hx rfl (hb hby dE_288) rfl  ?_
    refine XS.bipush X4.here hx rfl (hb hby dE_290) ?_
    show Steps p.tables e below (T4.setTop (mkF m 292 (own_L7 f ah r bb (own_u10 W q) (13 : Int32) (9 : Int32) (2 : Int32)) [(.int (8 : Int32)), (.long (own_u10 W q))])) _
    refine XT.lushr X4.here hx rfl (hb hby dE_292) rfl ?_
    refine XT.lstore X4.here hx rfl (hb hby dE_293) rfl (l' := (own_L7 f ah r bb (XT.ushrL (own_u10 W q) (8 : Int32)) (13 : Int32) (9 : Int32) (2 : Int32))) rfl ?_
    exact oK
  show OG _ _ _ _ _ _ _ (T4.setTop (mkF m 295 (own_L7 f ah r bb (own_u11 W q) (13 : Int32) (9 : Int32) (2 : Int32)) []))
  refine OG.of (A := T4.setTop (mkF m 239 (own_L7 f ah r bb (own_u11 W q) (5 : Int32) (9 : Int32) (3 : Int32)) [])) (fun oT oK => ?_) ?_
  · skip
    refine XS.iinc X4.here hx rfl (hb hby dE_295) rfl (l' := (own_L7 f ah r bb (own_u11 W q) (5 : Int32) (9 : Int32) (2 : Int32))) rfl ?_
    show Steps p.tables e below (T4.setTop (mkF m 298 (own_L7 f ah r bb (own_u11 W q) (5 : Int32) (9 : Int32) (2 : Int32)) [])) _
    refine XS.goto X4.here hx rfl (pc0 := 298) (pc' := 269) rfl (hb hby dE_298) (by decide) (by decide) ?_
    refine XS.iload X4.here hx rfl (hb hby dE_269) rfl  ?_
    show Steps p.tables e below (T4.setTop (mkF m 271 (own_L7 f ah r bb (own_u11 W q) (5 : Int32) (9 : Int32) (2 : Int32)) [(.int (5 : Int32))])) _
    refine XS.bipush X4.here hx rfl (hb hby dE_271) ?_
    show Steps p.tables e below (T4.setTop (mkF m 273 (own_L7 f ah r bb (own_u11 W q) (5 : Int32) (9 : Int32) (2 : Int32)) [(.int (8 : Int32)), (.int (5 : Int32))])) _
    refine XS.icmpYes X4.here hx rfl (pc0 := 273) (pc' := 301) rfl (hb hby dE_273) rfl (XT.ii_lt_t (by decide)) (by decide) (by decide) ?_
    show Steps p.tables e below (T4.setTop (mkF m 301 (own_L7 f ah r bb (own_u11 W q) (5 : Int32) (9 : Int32) (2 : Int32)) [])) _
    refine XS.iinc X4.here hx rfl (hb hby dE_301) rfl (l' := (own_L7 f ah r bb (own_u11 W q) (5 : Int32) (9 : Int32) (3 : Int32))) rfl ?_
    refine XS.goto X4.here hx rfl (pc0 := 304) (pc' := 239) rfl (hb hby dE_304) (by decide) (by decide) ?_
    exact oK
  exact cont T4 _ _ X4 e4 N4 f11 K4 f9 V4
set_option maxRecDepth 65536 in
set_option maxHeartbeats 40000000 in
theorem own_turn3 {p : Program} {l : Launch} {e : Env} {s : State} {m : MethodId} {args : Array Value} {below : List Frame} {meth : Method} {c : Code} {Z : State} {a0 : Array Value} {h0 : Heap} {n0 : Nat} {P : Option Value → Heap → List Loc → Prop} (f ah bb : Addr) (kf kb : ClassId) (wB : Addr) (r q : Int64) (W : List Int64) (bs : List Int32) (Tz : State) (locs : List Loc) (hz : Heap) (hx : p.tables.exec = Jvm.exec) (hZ : Z.Warmed39 s.vm) (hw : ∀ d ∈ tables_1, d.before a0 Z = true) (hby : c.code = prog_16_method_5_code) (hml : c.maxLocals = 10) (hown : s.vm.findClass "com/example/gate_to_gate/gatetogate/io/Field25519" = some m.cls) (hlk : meth.locks = false) (hret : meth.sig.returnType = some (.array .byte)) (SB : Sta Z Z.heap "com/example/gate_to_gate/gatetogate/io/Field25519" "BITS" "[I" (.ref wB)) (TB : ∀ j, j < 10 → ORd Z Z.heap wB .int (Int32.ofNat j) (.int (own_bits j))) (Z0 : n0 ≤ h0.size) (gah : n0 ≤ ah) (sah : h0.size ≤ ah) (gbb : n0 ≤ bb) (sbb : h0.size ≤ bb) (nab : ah ≠ bb) (hW : W.length = 10) (hbs : bs.length = 32) (Xz : Stand p l e ({ frames := 1, cells := 2, slots := 42, locals := 14 } : Room) s m args below meth c Tz locs 2 42) (ez : Tz.heap = hz) (Nz : Fr n0 locs) (Oz : Old Z n0 hz) (Kz : Keep h0 hz []) (Vz : Arv Z hz ah kf .long (10 : Int32) (W.map Value.long) (.long (0 : Int64))) (Bz : Arv Z hz bb kb .byte (32 : Int32) (bs.map Value.int) (.int (0 : Int32))) (cont : ∀ (T' : State) (locs' : List Loc) (h' : Heap), Stand p l e ({ frames := 1, cells := 2, slots := 42, locals := 14 } : Room) s m args below meth c T' locs' 2 42 → T'.heap = h' → Fr n0 locs' → Old Z n0 h' → Keep h0 h' [] → Arv Z h' ah kf .long (10 : Int32) (W.map Value.long) (.long (0 : Int64)) → Arv Z h' bb kb .byte (32 : Int32) ((((bs.set 9 (own_u12 W q).toInt32.toInt8.toInt32.toInt8.toInt32).set 10 (own_u13 W q).toInt32.toInt8.toInt32.toInt8.toInt32).set 11 (own_u14 W q).toInt32.toInt8.toInt32.toInt8.toInt32).map Value.int) (.int (0 : Int32)) → OG p e below s 2 42 P (T'.setTop (mkF m 239 #[.val (.ref f), .val (.ref ah), .val (.long r), .second, .val (.ref bb), .val (.long (own_u15 W q)), .second, .val (.int (6 : Int32)), .val (.int (12 : Int32)), .val (.int (4 : Int32))] []))) :
    OG p e below s 2 42 P (Tz.setTop (mkF m 239 #[.val (.ref f), .val (.ref ah), .val (.long r), .second, .val (.ref bb), .val (.long q), .second, .val (.int (5 : Int32)), .val (.int (9 : Int32)), .val (.int (3 : Int32))] [])) := by
  refine OG.of (A := Tz.setTop (mkF m 251 (own_L7 f ah r bb q (5 : Int32) (9 : Int32) (3 : Int32)) [(.int (3 : Int32)), (.ref ah), (.long q)])) (fun oT oK => ?_) ?_
  · skip
    refine XS.iload Xz.here hx rfl (hb hby dE_239) rfl  ?_
    show Steps p.tables e below (Tz.setTop (mkF m 241 (own_L7 f ah r bb q (5 : Int32) (9 : Int32) (3 : Int32)) [(.int (3 : Int32))])) _
    refine XS.bipush Xz.here hx rfl (hb hby dE_241) ?_
    show Steps p.tables e below (Tz.setTop (mkF m 243 (own_L7 f ah r bb q (5 : Int32) (9 : Int32) (3 : Int32)) [(.int (10 : Int32)), (.int (3 : Int32))])) _
    refine XS.icmpNo Xz.here hx rfl (hb hby dE_243) rfl (XT.ii_ge_f (by decide)) ?_
    show Steps p.tables e below (Tz.setTop (mkF m 246 (own_L7 f ah r bb q (5 : Int32) (9 : Int32) (3 : Int32)) [])) _
    refine XT.lload Xz.here hx rfl (hb hby dE_246) rfl  ?_
    refine XS.aloadN Xz.here hx rfl (hb hby dE_248) rfl rfl  ?_
    show Steps p.tables e below (Tz.setTop (mkF m 249 (own_L7 f ah r bb q (5 : Int32) (9 : Int32) (3 : Int32)) [(.ref ah), (.long q)])) _
    refine XS.iload Xz.here hx rfl (hb hby dE_249) rfl  ?_
    exact oK
  obtain ⟨clf1, Arf1, If1, Hf1⟩ := own_rdL Vz hW (j := (3 : Int32)) (i := 3) rfl (by decide)
  refine OG.of (Xz.laload hx (j := (3 : Int32)) (v := (.long (W.getD 3 0))) (by rw [ez]; exact Arf1.1) (State.isArrayOf_alike hZ.alike Arf1.2.1) Arf1.2.2 If1 Hf1 (g := (mkF m 251 (own_L7 f ah r bb q (5 : Int32) (9 : Int32) (3 : Int32)) [(.int (3 : Int32)), (.ref ah), (.long q)])) rfl rfl (hb hby dE_251)) ?_
  show OG _ _ _ _ _ _ _ (Tz.setTop (mkF m 252 (own_L7 f ah r bb q (5 : Int32) (9 : Int32) (3 : Int32)) [(.long (W.getD 3 0)), (.long q)]))
  refine OG.of (A := Tz.setTop (mkF m 258 (own_L7 f ah r bb (q ||| ((W.getD 3 0) <<< ((5 : Int32).toInt64 &&& 63))) (5 : Int32) (9 : Int32) (3 : Int32)) [])) (fun oT oK => ?_) ?_
  · skip
    refine XS.iload Xz.here hx rfl (hb hby dE_252) rfl  ?_
    show Steps p.tables e below (Tz.setTop (mkF m 254 (own_L7 f ah r bb q (5 : Int32) (9 : Int32) (3 : Int32)) [(.int (5 : Int32)), (.long (W.getD 3 0)), (.long q)])) _
    refine XT.lshl Xz.here hx rfl (hb hby dE_254) rfl ?_
    refine XT.lor Xz.here hx rfl (hb hby dE_255) rfl ?_
    show Steps p.tables e below (Tz.setTop (mkF m 256 (own_L7 f ah r bb q (5 : Int32) (9 : Int32) (3 : Int32)) [(.long (q ||| ((W.getD 3 0) <<< ((5 : Int32).toInt64 &&& 63))))])) _
    refine XT.lstore Xz.here hx rfl (hb hby dE_256) rfl (l' := (own_L7 f ah r bb (q ||| ((W.getD 3 0) <<< ((5 : Int32).toInt64 &&& 63))) (5 : Int32) (9 : Int32) (3 : Int32))) rfl ?_
    exact oK
  show OG _ _ _ _ _ _ _ (Tz.setTop (mkF m 258 (own_L7 f ah r bb (own_u12 W q) (5 : Int32) (9 : Int32) (3 : Int32)) []))
  refine OG.of (A := Tz.setTop (mkF m 260 (own_L7 f ah r bb (own_u12 W q) (5 : Int32) (9 : Int32) (3 : Int32)) [(.int (5 : Int32))])) (fun oT oK => ?_) ?_
  · skip
    refine XS.iload Xz.here hx rfl (hb hby dE_258) rfl  ?_
    exact oK
  obtain ⟨T1, X1, e1, st1⟩ := getS2 Xz hx hZ hown (host := "") (Or.inl (own_at hw 8 rfl)) Via.refl ez (SB.ext (Oz).2) (g := (mkF m 260 (own_L7 f ah r bb (own_u12 W q) (5 : Int32) (9 : Int32) (3 : Int32)) [(.int (5 : Int32))])) rfl (hb hby dE_260)
  refine OG.of st1 ?_
  show OG _ _ _ _ _ _ _ (T1.setTop (mkF m 263 (own_L7 f ah r bb (own_u12 W q) (5 : Int32) (9 : Int32) (3 : Int32)) [(.ref wB), (.int (5 : Int32))]))
  refine OG.of (A := T1.setTop (mkF m 265 (own_L7 f ah r bb (own_u12 W q) (5 : Int32) (9 : Int32) (3 : Int32)) [(.int (3 : Int32)), (.ref wB), (.int (5 : Int32))])) (fun oT oK => ?_) ?_
  · skip
    refine XS.iload X1.here hx rfl (hb hby dE_263) rfl  ?_
    exact oK
  have cf2 := ((TB 3 (by decide)).ext (Oz).2)
  obtain ⟨clf2, Arf2, If2, Hf2⟩ := cf2
  refine OG.of (X1.iaload hx (j := (3 : Int32)) (v := (.int (25 : Int32))) (by rw [e1]; exact Arf2.1) (State.isArrayOf_alike hZ.alike Arf2.2.1) Arf2.2.2 If2 Hf2 (g := (mkF m 265 (own_L7 f ah r bb (own_u12 W q) (5 : Int32) (9 : Int32) (3 : Int32)) [(.int (3 : Int32)), (.ref wB), (.int (5 : Int32))])) rfl rfl (hb hby dE_265)) ?_
  show OG _ _ _ _ _ _ _ (T1.setTop (mkF m 266 (own_L7 f ah r bb (own_u12 W q) (5 : Int32) (9 : Int32) (3 : Int32)) [(.int (25 : Int32)), (.int (5 : Int32))]))
  refine OG.of (A := T1.setTop (mkF m 284 (own_L7 f ah r bb (own_u12 W q) (30 : Int32) (9 : Int32) (3 : Int32)) [(.int (own_u12 W q).toInt32.toInt8.toInt32), (.int (9 : Int32)), (.ref bb)])) (fun oT oK => ?_) ?_
  · skip
    refine XS.iadd X1.here hx rfl (hb hby dE_266) rfl ?_
    show Steps p.tables e below (T1.setTop (mkF m 267 (own_L7 f ah r bb (own_u12 W q) (5 : Int32) (9 : Int32) (3 : Int32)) [(.int (30 : Int32))])) _
    refine XS.istore X1.here hx rfl (hb hby dE_267) rfl (l' := (own_L7 f ah r bb (own_u12 W q) (30 : Int32) (9 : Int32) (3 : Int32))) rfl ?_
    refine XS.iload X1.here hx rfl (hb hby dE_269) rfl  ?_
    show Steps p.tables e below (T1.setTop (mkF m 271 (own_L7 f ah r bb (own_u12 W q) (30 : Int32) (9 : Int32) (3 : Int32)) [(.int (30 : Int32))])) _
    refine XS.bipush X1.here hx rfl (hb hby dE_271) ?_
    show Steps p.tables e below (T1.setTop (mkF m 273 (own_L7 f ah r bb (own_u12 W q) (30 : Int32) (9 : Int32) (3 : Int32)) [(.int (8 : Int32)), (.int (30 : Int32))])) _
    refine XS.icmpNo X1.here hx rfl (hb hby dE_273) rfl (XT.ii_lt_f (by decide)) ?_
    show Steps p.tables e below (T1.setTop (mkF m 276 (own_L7 f ah r bb (own_u12 W q) (30 : Int32) (9 : Int32) (3 : Int32)) [])) _
    refine XS.aload X1.here hx rfl (hb hby dE_276) rfl rfl  ?_
    refine XS.iload X1.here hx rfl (hb hby dE_278) rfl  ?_
    show Steps p.tables e below (T1.setTop (mkF m 280 (own_L7 f ah r bb (own_u12 W q) (30 : Int32) (9 : Int32) (3 : Int32)) [(.int (9 : Int32)), (.ref bb)])) _
    refine XT.lload X1.here hx rfl (hb hby dE_280) rfl  ?_
    refine XT.l2i X1.here hx rfl (hb hby dE_282) rfl ?_
    show Steps p.tables e below (T1.setTop (mkF m 283 (own_L7 f ah r bb (own_u12 W q) (30 : Int32) (9 : Int32) (3 : Int32)) [(.int (own_u12 W q).toInt32), (.int (9 : Int32)), (.ref bb)])) _
    refine XT.i2b X1.here hx rfl (hb hby dE_283) rfl ?_
    exact oK
  obtain ⟨T2, h2, X2, e2, W2, V2, st2⟩ := own_stB X1 hx hZ e1 Bz hbs (j := (9 : Int32)) (i := 9) rfl (by decide) (g := (mkF m 284 (own_L7 f ah r bb (own_u12 W q) (30 : Int32) (9 : Int32) (3 : Int32)) [(.int (own_u12 W q).toInt32.toInt8.toInt32), (.int (9 : Int32)), (.ref bb)])) rfl rfl (hb hby dE_284)
  have f3 := (Vz).other W2 nab
  have f5 := (Oz).wr W2 gbb
  have K2 : Keep h0 h2 [] := (Kz).wr W2 (Or.inr sbb)
  have Z2 : n0 ≤ h2.size := Nat.le_trans (Nat.le_trans Z0 Kz.1) (Keep.of_wr W2).1
  have N2 := Fr.snoc X2 Nz gbb
  refine OG.of st2 ?_
  show OG _ _ _ _ _ _ _ (T2.setTop (mkF m 285 (own_L7 f ah r bb (own_u12 W q) (30 : Int32) (9 : Int32) (3 : Int32)) []))
  refine OG.of (A := T2.setTop (mkF m 295 (own_L7 f ah r bb (XT.ushrL (own_u12 W q) (8 : Int32)) (30 : Int32) (10 : Int32) (3 : Int32)) [])) (fun oT oK => ?_) ?_
  · skip
    refine XS.iinc X2.here hx rfl (hb hby dE_285) rfl (l' := (own_L7 f ah r bb (own_u12 W q) (30 : Int32) (10 : Int32) (3 : Int32))) rfl ?_
    show Steps p.tables e below (T2.setTop (mkF m 288 (own_L7 f ah r bb (own_u12 W q) (30 : Int32) (10 : Int32) (3 : Int32)) [])) _
    refine XT.lload X2.here hx rfl (hb hby dE_288) rfl  ?_
    refine XS.bipush X2.here hx rfl (hb hby dE_290) ?_
    show Steps p.tables e below (T2.setTop (mkF m 292 (own_L7 f ah r bb (own_u12 W q) (30 : Int32) (10 : Int32) (3 : Int32)) [(.int (8 : Int32)), (.long (own_u12 W q))])) _
    refine XT.lushr X2.here hx rfl (hb hby dE_292) rfl ?_
    refine XT.lstore X2.here hx rfl (hb hby dE_293) rfl (l' := (own_L7 f ah r bb (XT.ushrL (own_u12 W q) (8 : Int32)) (30 : Int32) (10 : Int32) (3 : Int32))) rfl ?_
    exact oK
  show OG _ _ _ _ _ _ _ (T2.setTop (mkF m 295 (own_L7 f ah r bb (own_u13 W q) (30 : Int32) (10 : Int32) (3 : Int32)) []))
  refine OG.of (A := T2.setTop (mkF m 284 (own_L7 f ah r bb (own_u13 W q) (22 : Int32) (10 : Int32) (3 : Int32)) [(.int (own_u13 W q).toInt32.toInt8.toInt32), (.int (10 : Int32)), (.ref bb)])) (fun oT oK => ?_) ?_
  · skip
    refine XS.iinc X2.here hx rfl (hb hby dE_295) rfl (l' := (own_L7 f ah r bb (own_u13 W q) (22 : Int32) (10 : Int32) (3 : Int32))) rfl ?_
    show Steps p.tables e below (T2.setTop (mkF m 298 (own_L7 f ah r bb (own_u13 W q) (22 : Int32) (10 : Int32) (3 : Int32)) [])) _
    refine XS.goto X2.here hx rfl (pc0 := 298) (pc' := 269) rfl (hb hby dE_298) (by decide) (by decide) ?_
    refine XS.iload X2.here hx rfl (hb hby dE_269) rfl  ?_
    show Steps p.tables e below (T2.setTop (mkF m 271 (own_L7 f ah r bb (own_u13 W q) (22 : Int32) (10 : Int32) (3 : Int32)) [(.int (22 : Int32))])) _
    refine XS.bipush X2.here hx rfl (hb hby dE_271) ?_
    show Steps p.tables e below (T2.setTop (mkF m 273 (own_L7 f ah r bb (own_u13 W q) (22 : Int32) (10 : Int32) (3 : Int32)) [(.int (8 : Int32)), (.int (22 : Int32))])) _
    refine XS.icmpNo X2.here hx rfl (hb hby dE_273) rfl (XT.ii_lt_f (by decide)) ?_
    show Steps p.tables e below (T2.setTop (mkF m 276 (own_L7 f ah r bb (own_u13 W q) (22 : Int32) (10 : Int32) (3 : Int32)) [])) _
    refine XS.aload X2.here hx rfl (hb hby dE_276) rfl rfl  ?_
    refine XS.iload X2.here hx rfl (hb hby dE_278) rfl  ?_
    show Steps p.tables e below (T2.setTop (mkF m 280 (own_L7 f ah r bb (own_u13 W q) (22 : Int32) (10 : Int32) (3 : Int32)) [(.int (10 : Int32)), (.ref bb)])) _
    refine XT.lload X2.here hx rfl (hb hby dE_280) rfl  ?_
    refine XT.l2i X2.here hx rfl (hb hby dE_282) rfl ?_
    show Steps p.tables e below (T2.setTop (mkF m 283 (own_L7 f ah r bb (own_u13 W q) (22 : Int32) (10 : Int32) (3 : Int32)) [(.int (own_u13 W q).toInt32), (.int (10 : Int32)), (.ref bb)])) _
    refine XT.i2b X2.here hx rfl (hb hby dE_283) rfl ?_
    exact oK
  obtain ⟨T3, h3, X3, e3, W3, V3, st3⟩ := own_stB X2 hx hZ e2 V2 ((List.length_set ..).trans hbs) (j := (10 : Int32)) (i := 10) rfl (by decide) (g := (mkF m 284 (own_L7 f ah r bb (own_u13 W q) (22 : Int32) (10 : Int32) (3 : Int32)) [(.int (own_u13 W q).toInt32.toInt8.toInt32), (.int (10 : Int32)), (.ref bb)])) rfl rfl (hb hby dE_284)
  have f6 := (f3).other W3 nab
  have f8 := (f5).wr W3 gbb
  have K3 : Keep h0 h3 [] := (K2).wr W3 (Or.inr sbb)
  have Z3 : n0 ≤ h3.size := Nat.le_trans Z2 (Keep.of_wr W3).1
  have N3 := Fr.snoc X3 N2 gbb
  refine OG.of st3 ?_
  show OG _ _ _ _ _ _ _ (T3.setTop (mkF m 285 (own_L7 f ah r bb (own_u13 W q) (22 : Int32) (10 : Int32) (3 : Int32)) []))
  refine OG.of (A := T3.setTop (mkF m 295 (own_L7 f ah r bb (XT.ushrL (own_u13 W q) (8 : Int32)) (22 : Int32) (11 : Int32) (3 : Int32)) [])) (fun oT oK => ?_) ?_
  · skip
    refine XS.iinc X3.here hx rfl (hb hby dE_285) rfl (l' := (own_L7 f ah r bb (own_u13 W q) (22 : Int32) (11 : Int32) (3 : Int32))) rfl ?_
    show Steps p.tables e below (T3.setTop (mkF m 288 (own_L7 f ah r bb (own_u13 W q) (22 : Int32) (11 : Int32) (3 : Int32)) [])) _
    refine XT.lload X3.here hx rfl (hb hby dE_288) rfl  ?_
    refine XS.bipush X3.here hx rfl (hb hby dE_290) ?_
    show Steps p.tables e below (T3.setTop (mkF m 292 (own_L7 f ah r bb (own_u13 W q) (22 : Int32) (11 : Int32) (3 : Int32)) [(.int (8 : Int32)), (.long (own_u13 W q))])) _
    refine XT.lushr X3.here hx rfl (hb hby dE_292) rfl ?_
    refine XT.lstore X3.here hx rfl (hb hby dE_293) rfl (l' := (own_L7 f ah r bb (XT.ushrL (own_u13 W q) (8 : Int32)) (22 : Int32) (11 : Int32) (3 : Int32))) rfl ?_
    exact oK
  show OG _ _ _ _ _ _ _ (T3.setTop (mkF m 295 (own_L7 f ah r bb (own_u14 W q) (22 : Int32) (11 : Int32) (3 : Int32)) []))
  refine OG.of (A := T3.setTop (mkF m 284 (own_L7 f ah r bb (own_u14 W q) (14 : Int32) (11 : Int32) (3 : Int32)) [(.int (own_u14 W q).toInt32.toInt8.toInt32), (.int (11 : Int32)), (.ref bb)])) (fun oT oK => ?_) ?_
  · skip
    refine XS.iinc X3.here hx rfl (hb hby dE_295) rfl (l' := (own_L7 f ah r bb (own_u14 W q) (14 : Int32) (11 : Int32) (3 : Int32))) rfl ?_
    show Steps p.tables e below (T3.setTop (mkF m 298 (own_L7 f ah r bb (own_u14 W q) (14 : Int32) (11 : Int32) (3 : Int32)) [])) _
    refine XS.goto X3.here hx rfl (pc0 := 298) (pc' := 269) rfl (hb hby dE_298) (by decide) (by decide) ?_
    refine XS.iload X3.here hx rfl (hb hby dE_269) rfl  ?_
    show Steps p.tables e below (T3.setTop (mkF m 271 (own_L7 f ah r bb (own_u14 W q) (14 : Int32) (11 : Int32) (3 : Int32)) [(.int (14 : Int32))])) _
    refine XS.bipush X3.here hx rfl (hb hby dE_271) ?_
    show Steps p.tables e below (T3.setTop (mkF m 273 (own_L7 f ah r bb (own_u14 W q) (14 : Int32) (11 : Int32) (3 : Int32)) [(.int (8 : Int32)), (.int (14 : Int32))])) _
    refine XS.icmpNo X3.here hx rfl (hb hby dE_273) rfl (XT.ii_lt_f (by decide)) ?_
    show Steps p.tables e below (T3.setTop (mkF m 276 (own_L7 f ah r bb (own_u14 W q) (14 : Int32) (11 : Int32) (3 : Int32)) [])) _
    refine XS.aload X3.here hx rfl (hb hby dE_276) rfl rfl  ?_
    refine XS.iload X3.here hx rfl (hb hby dE_278) rfl  ?_
    show Steps p.tables e below (T3.setTop (mkF m 280 (own_L7 f ah r bb (own_u14 W q) (14 : Int32) (11 : Int32) (3 : Int32)) [(.int (11 : Int32)), (.ref bb)])) _
    refine XT.lload X3.here hx rfl (hb hby dE_280) rfl  ?_
    refine XT.l2i X3.here hx rfl (hb hby dE_282) rfl ?_
    show Steps p.tables e below (T3.setTop (mkF m 283 (own_L7 f ah r bb (own_u14 W q) (14 : Int32) (11 : Int32) (3 : Int32)) [(.int (own_u14 W q).toInt32), (.int (11 : Int32)), (.ref bb)])) _
    refine XT.i2b X3.here hx rfl (hb hby dE_283) rfl ?_
    exact oK
  obtain ⟨T4, h4, X4, e4, W4, V4, st4⟩ := own_stB X3 hx hZ e3 V3 ((List.length_set ..).trans ((List.length_set ..).trans hbs)) (j := (11 : Int32)) (i := 11) rfl (by decide) (g := (mkF m 284 (own_L7 f ah r bb (own_u14 W q) (14 : Int32) (11 : Int32) (3 : Int32)) [(.int (own_u14 W q).toInt32.toInt8.toInt32), (.int (11 : Int32)), (.ref bb)])) rfl rfl (hb hby dE_284)
  have f9 := (f6).other W4 nab
  have f11 := (f8).wr W4 gbb
  have K4 : Keep h0 h4 [] := (K3).wr W4 (Or.inr sbb)
  have Z4 : n0 ≤ h4.size := Nat.le_trans Z3 (Keep.of_wr W4).1
  have N4 := Fr.snoc X4 N3 gbb
  refine OG.of st4 ?_
  show OG _ _ _ _ _ _ _ (T4.setTop (mkF m 285 (own_L7 f ah r bb (own_u14 W q) (14 : Int32) (11 : Int32) (3 : Int32)) []))
  refine OG.of (A := T4.setTop (mkF m 295 (own_L7 f ah r bb (XT.ushrL (own_u14 W q) (8 : Int32)) (14 : Int32) (12 : Int32) (3 : Int32)) [])) (fun oT oK => ?_) ?_
  · skip
    refine XS.iinc X4.here hx rfl (hb hby dE_285) rfl (l' := (own_L7 f ah r bb (own_u14 W q) (14 : Int32) (12 : Int32) (3 : Int32))) rfl ?_
    show Steps p.tables e below (T4.setTop (mkF m 288 (own_L7 f ah r bb (own_u14 W q) (14 : Int32) (12 : Int32) (3 : Int32)) [])) _
    refine XT.lload X4.here hx rfl (hb hby dE_288) rfl  ?_
    refine XS.bipush X4.here hx rfl (hb hby dE_290) ?_
    show Steps p.tables e below (T4.setTop (mkF m 292 (own_L7 f ah r bb (own_u14 W q) (14 : Int32) (12 : Int32) (3 : Int32)) [(.int (8 : Int32)), (.long (own_u14 W q))])) _
    refine XT.lushr X4.here hx rfl (hb hby dE_292) rfl ?_
    refine XT.lstore X4.here hx rfl (hb hby dE_293) rfl (l' := (own_L7 f ah r bb (XT.ushrL (own_u14 W q) (8 : Int32)) (14 : Int32) (12 : Int32) (3 : Int32))) rfl ?_
    exact oK
  show OG _ _ _ _ _ _ _ (T4.setTop (mkF m 295 (own_L7 f ah r bb (own_u15 W q) (14 : Int32) (12 : Int32) (3 : Int32)) []))
  refine OG.of (A := T4.setTop (mkF m 239 (own_L7 f ah r bb (own_u15 W q) (6 : Int32) (12 : Int32) (4 : Int32)) [])) (fun oT oK => ?_) ?_
  · skip
    refine XS.iinc X4.here hx rfl (hb hby dE_295) rfl (l' := (own_L7 f ah r bb (own_u15 W q) (6 : Int32) (12 : Int32) (3 : Int32))) rfl ?_
    show Steps p.tables e below (T4.setTop (mkF m 298 (own_L7 f ah r bb (own_u15 W q) (6 : Int32) (12 : Int32) (3 : Int32)) [])) _
    refine XS.goto X4.here hx rfl (pc0 := 298) (pc' := 269) rfl (hb hby dE_298) (by decide) (by decide) ?_
    refine XS.iload X4.here hx rfl (hb hby dE_269) rfl  ?_
    show Steps p.tables e below (T4.setTop (mkF m 271 (own_L7 f ah r bb (own_u15 W q) (6 : Int32) (12 : Int32) (3 : Int32)) [(.int (6 : Int32))])) _
    refine XS.bipush X4.here hx rfl (hb hby dE_271) ?_
    show Steps p.tables e below (T4.setTop (mkF m 273 (own_L7 f ah r bb (own_u15 W q) (6 : Int32) (12 : Int32) (3 : Int32)) [(.int (8 : Int32)), (.int (6 : Int32))])) _
    refine XS.icmpYes X4.here hx rfl (pc0 := 273) (pc' := 301) rfl (hb hby dE_273) rfl (XT.ii_lt_t (by decide)) (by decide) (by decide) ?_
    show Steps p.tables e below (T4.setTop (mkF m 301 (own_L7 f ah r bb (own_u15 W q) (6 : Int32) (12 : Int32) (3 : Int32)) [])) _
    refine XS.iinc X4.here hx rfl (hb hby dE_301) rfl (l' := (own_L7 f ah r bb (own_u15 W q) (6 : Int32) (12 : Int32) (4 : Int32))) rfl ?_
    refine XS.goto X4.here hx rfl (pc0 := 304) (pc' := 239) rfl (hb hby dE_304) (by decide) (by decide) ?_
    exact oK
  exact cont T4 _ _ X4 e4 N4 f11 K4 f9 V4
set_option maxRecDepth 65536 in
set_option maxHeartbeats 40000000 in
theorem own_turn4 {p : Program} {l : Launch} {e : Env} {s : State} {m : MethodId} {args : Array Value} {below : List Frame} {meth : Method} {c : Code} {Z : State} {a0 : Array Value} {h0 : Heap} {n0 : Nat} {P : Option Value → Heap → List Loc → Prop} (f ah bb : Addr) (kf kb : ClassId) (wB : Addr) (r q : Int64) (W : List Int64) (bs : List Int32) (Tz : State) (locs : List Loc) (hz : Heap) (hx : p.tables.exec = Jvm.exec) (hZ : Z.Warmed39 s.vm) (hw : ∀ d ∈ tables_1, d.before a0 Z = true) (hby : c.code = prog_16_method_5_code) (hml : c.maxLocals = 10) (hown : s.vm.findClass "com/example/gate_to_gate/gatetogate/io/Field25519" = some m.cls) (hlk : meth.locks = false) (hret : meth.sig.returnType = some (.array .byte)) (SB : Sta Z Z.heap "com/example/gate_to_gate/gatetogate/io/Field25519" "BITS" "[I" (.ref wB)) (TB : ∀ j, j < 10 → ORd Z Z.heap wB .int (Int32.ofNat j) (.int (own_bits j))) (Z0 : n0 ≤ h0.size) (gah : n0 ≤ ah) (sah : h0.size ≤ ah) (gbb : n0 ≤ bb) (sbb : h0.size ≤ bb) (nab : ah ≠ bb) (hW : W.length = 10) (hbs : bs.length = 32) (Xz : Stand p l e ({ frames := 1, cells := 2, slots := 42, locals := 14 } : Room) s m args below meth c Tz locs 2 42) (ez : Tz.heap = hz) (Nz : Fr n0 locs) (Oz : Old Z n0 hz) (Kz : Keep h0 hz []) (Vz : Arv Z hz ah kf .long (10 : Int32) (W.map Value.long) (.long (0 : Int64))) (Bz : Arv Z hz bb kb .byte (32 : Int32) (bs.map Value.int) (.int (0 : Int32))) (cont : ∀ (T' : State) (locs' : List Loc) (h' : Heap), Stand p l e ({ frames := 1, cells := 2, slots := 42, locals := 14 } : Room) s m args below meth c T' locs' 2 42 → T'.heap = h' → Fr n0 locs' → Old Z n0 h' → Keep h0 h' [] → Arv Z h' ah kf .long (10 : Int32) (W.map Value.long) (.long (0 : Int64)) → Arv Z h' bb kb .byte (32 : Int32) (((((bs.set 12 (own_u16 W q).toInt32.toInt8.toInt32.toInt8.toInt32).set 13 (own_u17 W q).toInt32.toInt8.toInt32.toInt8.toInt32).set 14 (own_u18 W q).toInt32.toInt8.toInt32.toInt8.toInt32).set 15 (own_u19 W q).toInt32.toInt8.toInt32.toInt8.toInt32).map Value.int) (.int (0 : Int32)) → OG p e below s 2 42 P (T'.setTop (mkF m 239 #[.val (.ref f), .val (.ref ah), .val (.long r), .second, .val (.ref bb), .val (.long (own_u20 W q)), .second, .val (.int (0 : Int32)), .val (.int (16 : Int32)), .val (.int (5 : Int32))] []))) :
    OG p e below s 2 42 P (Tz.setTop (mkF m 239 #[.val (.ref f), .val (.ref ah), .val (.long r), .second, .val (.ref bb), .val (.long q), .second, .val (.int (6 : Int32)), .val (.int (12 : Int32)), .val (.int (4 : Int32))] [])) := by
  refine OG.of (A := Tz.setTop (mkF m 251 (own_L7 f ah r bb q (6 : Int32) (12 : Int32) (4 : Int32)) [(.int (4 : Int32)), (.ref ah), (.long q)])) (fun oT oK => ?_) ?_
  · skip
    refine XS.iload Xz.here hx rfl (hb hby dE_239) rfl  ?_
    show Steps p.tables e below (Tz.setTop (mkF m 241 (own_L7 f ah r bb q (6 : Int32) (12 : Int32) (4 : Int32)) [(.int (4 : Int32))])) _
    refine XS.bipush Xz.here hx rfl (hb hby dE_241) ?_
    show Steps p.tables e below (Tz.setTop (mkF m 243 (own_L7 f ah r bb q (6 : Int32) (12 : Int32) (4 : Int32)) [(.int (10 : Int32)), (.int (4 : Int32))])) _
    refine XS.icmpNo Xz.here hx rfl (hb hby dE_243) rfl (XT.ii_ge_f (by decide)) ?_
    show Steps p.tables e below (Tz.setTop (mkF m 246 (own_L7 f ah r bb q (6 : Int32) (12 : Int32) (4 : Int32)) [])) _
    refine XT.lload Xz.here hx rfl (hb hby dE_246) rfl  ?_
    refine XS.aloadN Xz.here hx rfl (hb hby dE_248) rfl rfl  ?_
    show Steps p.tables e below (Tz.setTop (mkF m 249 (own_L7 f ah r bb q (6 : Int32) (12 : Int32) (4 : Int32)) [(.ref ah), (.long q)])) _
    refine XS.iload Xz.here hx rfl (hb hby dE_249) rfl  ?_
    exact oK
  obtain ⟨clf1, Arf1, If1, Hf1⟩ := own_rdL Vz hW (j := (4 : Int32)) (i := 4) rfl (by decide)
  refine OG.of (Xz.laload hx (j := (4 : Int32)) (v := (.long (W.getD 4 0))) (by rw [ez]; exact Arf1.1) (State.isArrayOf_alike hZ.alike Arf1.2.1) Arf1.2.2 If1 Hf1 (g := (mkF m 251 (own_L7 f ah r bb q (6 : Int32) (12 : Int32) (4 : Int32)) [(.int (4 : Int32)), (.ref ah), (.long q)])) rfl rfl (hb hby dE_251)) ?_
  show OG _ _ _ _ _ _ _ (Tz.setTop (mkF m 252 (own_L7 f ah r bb q (6 : Int32) (12 : Int32) (4 : Int32)) [(.long (W.getD 4 0)), (.long q)]))
  refine OG.of (A := Tz.setTop (mkF m 258 (own_L7 f ah r bb (q ||| ((W.getD 4 0) <<< ((6 : Int32).toInt64 &&& 63))) (6 : Int32) (12 : Int32) (4 : Int32)) [])) (fun oT oK => ?_) ?_
  · skip
    refine XS.iload Xz.here hx rfl (hb hby dE_252) rfl  ?_
    show Steps p.tables e below (Tz.setTop (mkF m 254 (own_L7 f ah r bb q (6 : Int32) (12 : Int32) (4 : Int32)) [(.int (6 : Int32)), (.long (W.getD 4 0)), (.long q)])) _
    refine XT.lshl Xz.here hx rfl (hb hby dE_254) rfl ?_
    refine XT.lor Xz.here hx rfl (hb hby dE_255) rfl ?_
    show Steps p.tables e below (Tz.setTop (mkF m 256 (own_L7 f ah r bb q (6 : Int32) (12 : Int32) (4 : Int32)) [(.long (q ||| ((W.getD 4 0) <<< ((6 : Int32).toInt64 &&& 63))))])) _
    refine XT.lstore Xz.here hx rfl (hb hby dE_256) rfl (l' := (own_L7 f ah r bb (q ||| ((W.getD 4 0) <<< ((6 : Int32).toInt64 &&& 63))) (6 : Int32) (12 : Int32) (4 : Int32))) rfl ?_
    exact oK
  show OG _ _ _ _ _ _ _ (Tz.setTop (mkF m 258 (own_L7 f ah r bb (own_u16 W q) (6 : Int32) (12 : Int32) (4 : Int32)) []))
  refine OG.of (A := Tz.setTop (mkF m 260 (own_L7 f ah r bb (own_u16 W q) (6 : Int32) (12 : Int32) (4 : Int32)) [(.int (6 : Int32))])) (fun oT oK => ?_) ?_
  · skip
    refine XS.iload Xz.here hx rfl (hb hby dE_258) rfl  ?_
    exact oK
  obtain ⟨T1, X1, e1, st1⟩ := getS2 Xz hx hZ hown (host := "") (Or.inl (own_at hw 8 rfl)) Via.refl ez (SB.ext (Oz).2) (g := (mkF m 260 (own_L7 f ah r bb (own_u16 W q) (6 : Int32) (12 : Int32) (4 : Int32)) [(.int (6 : Int32))])) rfl (hb hby dE_260)
  refine OG.of st1 ?_
  show OG _ _ _ _ _ _ _ (T1.setTop (mkF m 263 (own_L7 f ah r bb (own_u16 W q) (6 : Int32) (12 : Int32) (4 : Int32)) [(.ref wB), (.int (6 : Int32))]))
  refine OG.of (A := T1.setTop (mkF m 265 (own_L7 f ah r bb (own_u16 W q) (6 : Int32) (12 : Int32) (4 : Int32)) [(.int (4 : Int32)), (.ref wB), (.int (6 : Int32))])) (fun oT oK => ?_) ?_
  · skip
    refine XS.iload X1.here hx rfl (hb hby dE_263) rfl  ?_
    exact oK
  have cf2 := ((TB 4 (by decide)).ext (Oz).2)
  obtain ⟨clf2, Arf2, If2, Hf2⟩ := cf2
  refine OG.of (X1.iaload hx (j := (4 : Int32)) (v := (.int (26 : Int32))) (by rw [e1]; exact Arf2.1) (State.isArrayOf_alike hZ.alike Arf2.2.1) Arf2.2.2 If2 Hf2 (g := (mkF m 265 (own_L7 f ah r bb (own_u16 W q) (6 : Int32) (12 : Int32) (4 : Int32)) [(.int (4 : Int32)), (.ref wB), (.int (6 : Int32))])) rfl rfl (hb hby dE_265)) ?_
  show OG _ _ _ _ _ _ _ (T1.setTop (mkF m 266 (own_L7 f ah r bb (own_u16 W q) (6 : Int32) (12 : Int32) (4 : Int32)) [(.int (26 : Int32)), (.int (6 : Int32))]))
  refine OG.of (A := T1.setTop (mkF m 284 (own_L7 f ah r bb (own_u16 W q) (32 : Int32) (12 : Int32) (4 : Int32)) [(.int (own_u16 W q).toInt32.toInt8.toInt32), (.int (12 : Int32)), (.ref bb)])) (fun oT oK => ?_) ?_
  · skip
    refine XS.iadd X1.here hx rfl (hb hby dE_266) rfl ?_
    show Steps p.tables e below (T1.setTop (mkF m 267 (own_L7 f ah r bb (own_u16 W q) (6 : Int32) (12 : Int32) (4 : Int32)) [(.int (32 : Int32))])) _
    refine XS.istore X1.here hx rfl (hb hby dE_267) rfl (l' := (own_L7 f ah r bb (own_u16 W q) (32 : Int32) (12 : Int32) (4 : Int32))) rfl ?_
    refine XS.iload X1.here hx rfl (hb hby dE_269) rfl  ?_
    show Steps p.tables e below (T1.setTop (mkF m 271 (own_L7 f ah r bb (own_u16 W q) (32 : Int32) (12 : Int32) (4 : Int32)) [(.int (32 : Int32))])) _
    refine XS.bipush X1.here hx rfl (hb hby dE_271) ?_
    show Steps p.tables e below (T1.setTop (mkF m 273 (own_L7 f ah r bb (own_u16 W q) (32 : Int32) (12 : Int32) (4 : Int32)) [(.int (8 : Int32)), (.int (32 : Int32))])) _
    refine XS.icmpNo X1.here hx rfl (hb hby dE_273) rfl (XT.ii_lt_f (by decide)) ?_
    show Steps p.tables e below (T1.setTop (mkF m 276 (own_L7 f ah r bb (own_u16 W q) (32 : Int32) (12 : Int32) (4 : Int32)) [])) _
    refine XS.aload X1.here hx rfl (hb hby dE_276) rfl rfl  ?_
    refine XS.iload X1.here hx rfl (hb hby dE_278) rfl  ?_
    show Steps p.tables e below (T1.setTop (mkF m 280 (own_L7 f ah r bb (own_u16 W q) (32 : Int32) (12 : Int32) (4 : Int32)) [(.int (12 : Int32)), (.ref bb)])) _
    refine XT.lload X1.here hx rfl (hb hby dE_280) rfl  ?_
    refine XT.l2i X1.here hx rfl (hb hby dE_282) rfl ?_
    show Steps p.tables e below (T1.setTop (mkF m 283 (own_L7 f ah r bb (own_u16 W q) (32 : Int32) (12 : Int32) (4 : Int32)) [(.int (own_u16 W q).toInt32), (.int (12 : Int32)), (.ref bb)])) _
    refine XT.i2b X1.here hx rfl (hb hby dE_283) rfl ?_
    exact oK
  obtain ⟨T2, h2, X2, e2, W2, V2, st2⟩ := own_stB X1 hx hZ e1 Bz hbs (j := (12 : Int32)) (i := 12) rfl (by decide) (g := (mkF m 284 (own_L7 f ah r bb (own_u16 W q) (32 : Int32) (12 : Int32) (4 : Int32)) [(.int (own_u16 W q).toInt32.toInt8.toInt32), (.int (12 : Int32)), (.ref bb)])) rfl rfl (hb hby dE_284)
  have f3 := (Vz).other W2 nab
  have f5 := (Oz).wr W2 gbb
  have K2 : Keep h0 h2 [] := (Kz).wr W2 (Or.inr sbb)
  have Z2 : n0 ≤ h2.size := Nat.le_trans (Nat.le_trans Z0 Kz.1) (Keep.of_wr W2).1
  have N2 := Fr.snoc X2 Nz gbb
  refine OG.of st2 ?_
  show OG _ _ _ _ _ _ _ (T2.setTop (mkF m 285 (own_L7 f ah r bb (own_u16 W q) (32 : Int32) (12 : Int32) (4 : Int32)) []))
  refine OG.of (A := T2.setTop (mkF m 295 (own_L7 f ah r bb (XT.ushrL (own_u16 W q) (8 : Int32)) (32 : Int32) (13 : Int32) (4 : Int32)) [])) (fun oT oK => ?_) ?_
  · skip
    refine XS.iinc X2.here hx rfl (hb hby dE_285) rfl (l' := (own_L7 f ah r bb (own_u16 W q) (32 : Int32) (13 : Int32) (4 : Int32))) rfl ?_
    show Steps p.tables e below (T2.setTop (mkF m 288 (own_L7 f ah r bb (own_u16 W q) (32 : Int32) (13 : Int32) (4 : Int32)) [])) _
    refine XT.lload X2.here hx rfl (hb hby dE_288) rfl  ?_
    refine XS.bipush X2.here hx rfl (hb hby dE_290) ?_
    show Steps p.tables e below (T2.setTop (mkF m 292 (own_L7 f ah r bb (own_u16 W q) (32 : Int32) (13 : Int32) (4 : Int32)) [(.int (8 : Int32)), (.long (own_u16 W q))])) _
    refine XT.lushr X2.here hx rfl (hb hby dE_292) rfl ?_
    refine XT.lstore X2.here hx rfl (hb hby dE_293) rfl (l' := (own_L7 f ah r bb (XT.ushrL (own_u16 W q) (8 : Int32)) (32 : Int32) (13 : Int32) (4 : Int32))) rfl ?_
    exact oK
  show OG _ _ _ _ _ _ _ (T2.setTop (mkF m 295 (own_L7 f ah r bb (own_u17 W q) (32 : Int32) (13 : Int32) (4 : Int32)) []))
  refine OG.of (A := T2.setTop (mkF m 284 (own_L7 f ah r bb (own_u17 W q) (24 : Int32) (13 : Int32) (4 : Int32)) [(.int (own_u17 W q).toInt32.toInt8.toInt32), (.int (13 : Int32)), (.ref bb)])) (fun oT oK => ?_) ?_
  · skip
    refine XS.iinc X2.here hx rfl (hb hby dE_295) rfl (l' := (own_L7 f ah r bb (own_u17 W q) (24 : Int32) (13 : Int32) (4 : Int32))) rfl ?_
    show Steps p.tables e below (T2.setTop (mkF m 298 (own_L7 f ah r bb (own_u17 W q) (24 : Int32) (13 : Int32) (4 : Int32)) [])) _
    refine XS.goto X2.here hx rfl (pc0 := 298) (pc' := 269) rfl (hb hby dE_298) (by decide) (by decide) ?_
    refine XS.iload X2.here hx rfl (hb hby dE_269) rfl  ?_
    show Steps p.tables e below (T2.setTop (mkF m 271 (own_L7 f ah r bb (own_u17 W q) (24 : Int32) (13 : Int32) (4 : Int32)) [(.int (24 : Int32))])) _
    refine XS.bipush X2.here hx rfl (hb hby dE_271) ?_
    show Steps p.tables e below (T2.setTop (mkF m 273 (own_L7 f ah r bb (own_u17 W q) (24 : Int32) (13 : Int32) (4 : Int32)) [(.int (8 : Int32)), (.int (24 : Int32))])) _
    refine XS.icmpNo X2.here hx rfl (hb hby dE_273) rfl (XT.ii_lt_f (by decide)) ?_
    show Steps p.tables e below (T2.setTop (mkF m 276 (own_L7 f ah r bb (own_u17 W q) (24 : Int32) (13 : Int32) (4 : Int32)) [])) _
    refine XS.aload X2.here hx rfl (hb hby dE_276) rfl rfl  ?_
    refine XS.iload X2.here hx rfl (hb hby dE_278) rfl  ?_
    show Steps p.tables e below (T2.setTop (mkF m 280 (own_L7 f ah r bb (own_u17 W q) (24 : Int32) (13 : Int32) (4 : Int32)) [(.int (13 : Int32)), (.ref bb)])) _
    refine XT.lload X2.here hx rfl (hb hby dE_280) rfl  ?_
    refine XT.l2i X2.here hx rfl (hb hby dE_282) rfl ?_
    show Steps p.tables e below (T2.setTop (mkF m 283 (own_L7 f ah r bb (own_u17 W q) (24 : Int32) (13 : Int32) (4 : Int32)) [(.int (own_u17 W q).toInt32), (.int (13 : Int32)), (.ref bb)])) _
    refine XT.i2b X2.here hx rfl (hb hby dE_283) rfl ?_
    exact oK
  obtain ⟨T3, h3, X3, e3, W3, V3, st3⟩ := own_stB X2 hx hZ e2 V2 ((List.length_set ..).trans hbs) (j := (13 : Int32)) (i := 13) rfl (by decide) (g := (mkF m 284 (own_L7 f ah r bb (own_u17 W q) (24 : Int32) (13 : Int32) (4 : Int32)) [(.int (own_u17 W q).toInt32.toInt8.toInt32), (.int (13 : Int32)), (.ref bb)])) rfl rfl (hb hby dE_284)
  have f6 := (f3).other W3 nab
  have f8 := (f5).wr W3 gbb
  have K3 : Keep h0 h3 [] := (K2).wr W3 (Or.inr sbb)
  have Z3 : n0 ≤ h3.size := Nat.le_trans Z2 (Keep.of_wr W3).1
  have N3 := Fr.snoc X3 N2 gbb
  refine OG.of st3 ?_
  show OG _ _ _ _ _ _ _ (T3.setTop (mkF m 285 (own_L7 f ah r bb (own_u17 W q) (24 : Int32) (13 : Int32) (4 : Int32)) []))
  refine OG.of (A := T3.setTop (mkF m 295 (own_L7 f ah r bb (XT.ushrL (own_u17 W q) (8 : Int32)) (24 : Int32) (14 : Int32) (4 : Int32)) [])) (fun oT oK => ?_) ?_
  · skip
    refine XS.iinc X3.here hx rfl (hb hby dE_285) rfl (l' := (own_L7 f ah r bb (own_u17 W q) (24 : Int32) (14 : Int32) (4 : Int32))) rfl ?_
    show Steps p.tables e below (T3.setTop (mkF m 288 (own_L7 f ah r bb (own_u17 W q) (24 : Int32) (14 : Int32) (4 : Int32)) [])) _
    refine XT.lload X3.here hx rfl (hb hby dE_288) rfl  ?_
    refine XS.bipush X3.here hx rfl (hb hby dE_290) ?_
    show Steps p.tables e below (T3.setTop (mkF m 292 (own_L7 f ah r bb (own_u17 W q) (24 : Int32) (14 : Int32) (4 : Int32)) [(.int (8 : Int32)), (.long (own_u17 W q))])) _
    refine XT.lushr X3.here hx rfl (hb hby dE_292) rfl ?_
    refine XT.lstore X3.here hx rfl (hb hby dE_293) rfl (l' := (own_L7 f ah r bb (XT.ushrL (own_u17 W q) (8 : Int32)) (24 : Int32) (14 : Int32) (4 : Int32))) rfl ?_
    exact oK
  show OG _ _ _ _ _ _ _ (T3.setTop (mkF m 295 (own_L7 f ah r bb (own_u18 W q) (24 : Int32) (14 : Int32) (4 : Int32)) []))
  refine OG.of (A := T3.setTop (mkF m 284 (own_L7 f ah r bb (own_u18 W q) (16 : Int32) (14 : Int32) (4 : Int32)) [(.int (own_u18 W q).toInt32.toInt8.toInt32), (.int (14 : Int32)), (.ref bb)])) (fun oT oK => ?_) ?_
  · skip
    refine XS.iinc X3.here hx rfl (hb hby dE_295) rfl (l' := (own_L7 f ah r bb (own_u18 W q) (16 : Int32) (14 : Int32) (4 : Int32))) rfl ?_
    show Steps p.tables e below (T3.setTop (mkF m 298 (own_L7 f ah r bb (own_u18 W q) (16 : Int32) (14 : Int32) (4 : Int32)) [])) _
    refine XS.goto X3.here hx rfl (pc0 := 298) (pc' := 269) rfl (hb hby dE_298) (by decide) (by decide) ?_
    refine XS.iload X3.here hx rfl (hb hby dE_269) rfl  ?_
    show Steps p.tables e below (T3.setTop (mkF m 271 (own_L7 f ah r bb (own_u18 W q) (16 : Int32) (14 : Int32) (4 : Int32)) [(.int (16 : Int32))])) _
    refine XS.bipush X3.here hx rfl (hb hby dE_271) ?_
    show Steps p.tables e below (T3.setTop (mkF m 273 (own_L7 f ah r bb (own_u18 W q) (16 : Int32) (14 : Int32) (4 : Int32)) [(.int (8 : Int32)), (.int (16 : Int32))])) _
    refine XS.icmpNo X3.here hx rfl (hb hby dE_273) rfl (XT.ii_lt_f (by decide)) ?_
    show Steps p.tables e below (T3.setTop (mkF m 276 (own_L7 f ah r bb (own_u18 W q) (16 : Int32) (14 : Int32) (4 : Int32)) [])) _
    refine XS.aload X3.here hx rfl (hb hby dE_276) rfl rfl  ?_
    refine XS.iload X3.here hx rfl (hb hby dE_278) rfl  ?_
    show Steps p.tables e below (T3.setTop (mkF m 280 (own_L7 f ah r bb (own_u18 W q) (16 : Int32) (14 : Int32) (4 : Int32)) [(.int (14 : Int32)), (.ref bb)])) _
    refine XT.lload X3.here hx rfl (hb hby dE_280) rfl  ?_
    refine XT.l2i X3.here hx rfl (hb hby dE_282) rfl ?_
    show Steps p.tables e below (T3.setTop (mkF m 283 (own_L7 f ah r bb (own_u18 W q) (16 : Int32) (14 : Int32) (4 : Int32)) [(.int (own_u18 W q).toInt32), (.int (14 : Int32)), (.ref bb)])) _
    refine XT.i2b X3.here hx rfl (hb hby dE_283) rfl ?_
    exact oK
  obtain ⟨T4, h4, X4, e4, W4, V4, st4⟩ := own_stB X3 hx hZ e3 V3 ((List.length_set ..).trans ((List.length_set ..).trans hbs)) (j := (14 : Int32)) (i := 14) rfl (by decide) (g := (mkF m 284 (own_L7 f ah r bb (own_u18 W q) (16 : Int32) (14 : Int32) (4 : Int32)) [(.int (own_u18 W q).toInt32.toInt8.toInt32), (.int (14 : Int32)), (.ref bb)])) rfl rfl (hb hby dE_284)
  have f9 := (f6).other W4 nab
  have f11 := (f8).wr W4 gbb
  have K4 : Keep h0 h4 [] := (K3).wr W4 (Or.inr sbb)
  have Z4 : n0 ≤ h4.size := Nat.le_trans Z3 (Keep.of_wr W4).1
  have N4 := Fr.snoc X4 N3 gbb
  refine OG.of st4 ?_
  show OG _ _ _ _ _ _ _ (T4.setTop (mkF m 285 (own_L7 f ah r bb (own_u18 W q) (16 : Int32) (14 : Int32) (4 : Int32)) []))
  refine OG.of (A := T4.setTop (mkF m 295 (own_L7 f ah r bb (XT.ushrL (own_u18 W q) (8 : Int32)) (16 : Int32) (15 : Int32) (4 : Int32)) [])) (fun oT oK => ?_) ?_
  · skip
    refine XS.iinc X4.here hx rfl (hb hby dE_285) rfl (l' := (own_L7 f ah r bb (own_u18 W q) (16 : Int32) (15 : Int32) (4 : Int32))) rfl ?_
    show Steps p.tables e below (T4.setTop (mkF m 288 (own_L7 f ah r bb (own_u18 W q) (16 : Int32) (15 : Int32) (4 : Int32)) [])) _
    refine XT.lload X4.here hx rfl (hb hby dE_288) rfl  ?_
    refine XS.bipush X4.here hx rfl (hb hby dE_290) ?_
    show Steps p.tables e below (T4.setTop (mkF m 292 (own_L7 f ah r bb (own_u18 W q) (16 : Int32) (15 : Int32) (4 : Int32)) [(.int (8 : Int32)), (.long (own_u18 W q))])) _
    refine XT.lushr X4.here hx rfl (hb hby dE_292) rfl ?_
    refine XT.lstore X4.here hx rfl (hb hby dE_293) rfl (l' := (own_L7 f ah r bb (XT.ushrL (own_u18 W q) (8 : Int32)) (16 : Int32) (15 : Int32) (4 : Int32))) rfl ?_
    exact oK
  show OG _ _ _ _ _ _ _ (T4.setTop (mkF m 295 (own_L7 f ah r bb (own_u19 W q) (16 : Int32) (15 : Int32) (4 : Int32)) []))
  refine OG.of (A := T4.setTop (mkF m 284 (own_L7 f ah r bb (own_u19 W q) (8 : Int32) (15 : Int32) (4 : Int32)) [(.int (own_u19 W q).toInt32.toInt8.toInt32), (.int (15 : Int32)), (.ref bb)])) (fun oT oK => ?_) ?_
  · skip
    refine XS.iinc X4.here hx rfl (hb hby dE_295) rfl (l' := (own_L7 f ah r bb (own_u19 W q) (8 : Int32) (15 : Int32) (4 : Int32))) rfl ?_
    show Steps p.tables e below (T4.setTop (mkF m 298 (own_L7 f ah r bb (own_u19 W q) (8 : Int32) (15 : Int32) (4 : Int32)) [])) _
    refine XS.goto X4.here hx rfl (pc0 := 298) (pc' := 269) rfl (hb hby dE_298) (by decide) (by decide) ?_
    refine XS.iload X4.here hx rfl (hb hby dE_269) rfl  ?_
    show Steps p.tables e below (T4.setTop (mkF m 271 (own_L7 f ah r bb (own_u19 W q) (8 : Int32) (15 : Int32) (4 : Int32)) [(.int (8 : Int32))])) _
    refine XS.bipush X4.here hx rfl (hb hby dE_271) ?_
    show Steps p.tables e below (T4.setTop (mkF m 273 (own_L7 f ah r bb (own_u19 W q) (8 : Int32) (15 : Int32) (4 : Int32)) [(.int (8 : Int32)), (.int (8 : Int32))])) _
    refine XS.icmpNo X4.here hx rfl (hb hby dE_273) rfl (XT.ii_lt_f (by decide)) ?_
    show Steps p.tables e below (T4.setTop (mkF m 276 (own_L7 f ah r bb (own_u19 W q) (8 : Int32) (15 : Int32) (4 : Int32)) [])) _
    refine XS.aload X4.here hx rfl (hb hby dE_276) rfl rfl  ?_
    refine XS.iload X4.here hx rfl (hb hby dE_278) rfl  ?_
    show Steps p.tables e below (T4.setTop (mkF m 280 (own_L7 f ah r bb (own_u19 W q) (8 : Int32) (15 : Int32) (4 : Int32)) [(.int (15 : Int32)), (.ref bb)])) _
    refine XT.lload X4.here hx rfl (hb hby dE_280) rfl  ?_
    refine XT.l2i X4.here hx rfl (hb hby dE_282) rfl ?_
    show Steps p.tables e below (T4.setTop (mkF m 283 (own_L7 f ah r bb (own_u19 W q) (8 : Int32) (15 : Int32) (4 : Int32)) [(.int (own_u19 W q).toInt32), (.int (15 : Int32)), (.ref bb)])) _
    refine XT.i2b X4.here hx rfl (hb hby dE_283) rfl ?_
    exact oK
  obtain ⟨T5, h5, X5, e5, W5, V5, st5⟩ := own_stB X4 hx hZ e4 V4 ((List.length_set ..).trans ((List.length_set ..).trans ((List.length_set ..).trans hbs))) (j := (15 : Int32)) (i := 15) rfl (by decide) (g := (mkF m 284 (own_L7 f ah r bb (own_u19 W q) (8 : Int32) (15 : Int32) (4 : Int32)) [(.int (own_u19 W q).toInt32.toInt8.toInt32), (.int (15 : Int32)), (.ref bb)])) rfl rfl (hb hby dE_284)
  have f12 := (f9).other W5 nab
  have f14 := (f11).wr W5 gbb
  have K5 : Keep h0 h5 [] := (K4).wr W5 (Or.inr sbb)
  have Z5 : n0 ≤ h5.size := Nat.le_trans Z4 (Keep.of_wr W5).1
  have N5 := Fr.snoc X5 N4 gbb
  refine OG.of st5 ?_
  show OG _ _ _ _ _ _ _ (T5.setTop (mkF m 285 (own_L7 f ah r bb (own_u19 W q) (8 : Int32) (15 : Int32) (4 : Int32)) []))
  refine OG.of (A := T5.setTop (mkF m 295 (own_L7 f ah r bb (XT.ushrL (own_u19 W q) (8 : Int32)) (8 : Int32) (16 : Int32) (4 : Int32)) [])) (fun oT oK => ?_) ?_
  · skip
    refine XS.iinc X5.here hx rfl (hb hby dE_285) rfl (l' := (own_L7 f ah r bb (own_u19 W q) (8 : Int32) (16 : Int32) (4 : Int32))) rfl ?_
    show Steps p.tables e below (T5.setTop (mkF m 288 (own_L7 f ah r bb (own_u19 W q) (8 : Int32) (16 : Int32) (4 : Int32)) [])) _
    refine XT.lload X5.here hx rfl (hb hby dE_288) rfl  ?_
    refine XS.bipush X5.here hx rfl (hb hby dE_290) ?_
    show Steps p.tables e below (T5.setTop (mkF m 292 (own_L7 f ah r bb (own_u19 W q) (8 : Int32) (16 : Int32) (4 : Int32)) [(.int (8 : Int32)), (.long (own_u19 W q))])) _
    refine XT.lushr X5.here hx rfl (hb hby dE_292) rfl ?_
    refine XT.lstore X5.here hx rfl (hb hby dE_293) rfl (l' := (own_L7 f ah r bb (XT.ushrL (own_u19 W q) (8 : Int32)) (8 : Int32) (16 : Int32) (4 : Int32))) rfl ?_
    exact oK
  show OG _ _ _ _ _ _ _ (T5.setTop (mkF m 295 (own_L7 f ah r bb (own_u20 W q) (8 : Int32) (16 : Int32) (4 : Int32)) []))
  refine OG.of (A := T5.setTop (mkF m 239 (own_L7 f ah r bb (own_u20 W q) (0 : Int32) (16 : Int32) (5 : Int32)) [])) (fun oT oK => ?_) ?_
  · skip
    refine XS.iinc X5.here hx rfl (hb hby dE_295) rfl (l' := (own_L7 f ah r bb (own_u20 W q) (0 : Int32) (16 : Int32) (4 : Int32))) rfl ?_
    show Steps p.tables e below (T5.setTop (mkF m 298 (own_L7 f ah r bb (own_u20 W q) (0 : Int32) (16 : Int32) (4 : Int32)) [])) _
    refine XS.goto X5.here hx rfl (pc0 := 298) (pc' := 269) rfl (hb hby dE_298) (by decide) (by decide) ?_
    refine XS.iload X5.here hx rfl (hb hby dE_269) rfl  ?_
    show Steps p.tables e below (T5.setTop (mkF m 271 (own_L7 f ah r bb (own_u20 W q) (0 : Int32) (16 : Int32) (4 : Int32)) [(.int (0 : Int32))])) _
    refine XS.bipush X5.here hx rfl (hb hby dE_271) ?_
    show Steps p.tables e below (T5.setTop (mkF m 273 (own_L7 f ah r bb (own_u20 W q) (0 : Int32) (16 : Int32) (4 : Int32)) [(.int (8 : Int32)), (.int (0 : Int32))])) _
    refine XS.icmpYes X5.here hx rfl (pc0 := 273) (pc' := 301) rfl (hb hby dE_273) rfl (XT.ii_lt_t (by decide)) (by decide) (by decide) ?_
    show Steps p.tables e below (T5.setTop (mkF m 301 (own_L7 f ah r bb (own_u20 W q) (0 : Int32) (16 : Int32) (4 : Int32)) [])) _
    refine XS.iinc X5.here hx rfl (hb hby dE_301) rfl (l' := (own_L7 f ah r bb (own_u20 W q) (0 : Int32) (16 : Int32) (5 : Int32))) rfl ?_
    refine XS.goto X5.here hx rfl (pc0 := 304) (pc' := 239) rfl (hb hby dE_304) (by decide) (by decide) ?_
    exact oK
  exact cont T5 _ _ X5 e5 N5 f14 K5 f12 V5
set_option maxRecDepth 65536 in
set_option maxHeartbeats 40000000 in
theorem own_turn5 {p : Program} {l : Launch} {e : Env} {s : State} {m : MethodId} {args : Array Value} {below : List Frame} {meth : Method} {c : Code} {Z : State} {a0 : Array Value} {h0 : Heap} {n0 : Nat} {P : Option Value → Heap → List Loc → Prop} (f ah bb : Addr) (kf kb : ClassId) (wB : Addr) (r q : Int64) (W : List Int64) (bs : List Int32) (Tz : State) (locs : List Loc) (hz : Heap) (hx : p.tables.exec = Jvm.exec) (hZ : Z.Warmed39 s.vm) (hw : ∀ d ∈ tables_1, d.before a0 Z = true) (hby : c.code = prog_16_method_5_code) (hml : c.maxLocals = 10) (hown : s.vm.findClass "com/example/gate_to_gate/gatetogate/io/Field25519" = some m.cls) (hlk : meth.locks = false) (hret : meth.sig.returnType = some (.array .byte)) (SB : Sta Z Z.heap "com/example/gate_to_gate/gatetogate/io/Field25519" "BITS" "[I" (.ref wB)) (TB : ∀ j, j < 10 → ORd Z Z.heap wB .int (Int32.ofNat j) (.int (own_bits j))) (Z0 : n0 ≤ h0.size) (gah : n0 ≤ ah) (sah : h0.size ≤ ah) (gbb : n0 ≤ bb) (sbb : h0.size ≤ bb) (nab : ah ≠ bb) (hW : W.length = 10) (hbs : bs.length = 32) (Xz : Stand p l e ({ frames := 1, cells := 2, slots := 42, locals := 14 } : Room) s m args below meth c Tz locs 2 42) (ez : Tz.heap = hz) (Nz : Fr n0 locs) (Oz : Old Z n0 hz) (Kz : Keep h0 hz []) (Vz : Arv Z hz ah kf .long (10 : Int32) (W.map Value.long) (.long (0 : Int64))) (Bz : Arv Z hz bb kb .byte (32 : Int32) (bs.map Value.int) (.int (0 : Int32))) (cont : ∀ (T' : State) (locs' : List Loc) (h' : Heap), Stand p l e ({ frames := 1, cells := 2, slots := 42, locals := 14 } : Room) s m args below meth c T' locs' 2 42 → T'.heap = h' → Fr n0 locs' → Old Z n0 h' → Keep h0 h' [] → Arv Z h' ah kf .long (10 : Int32) (W.map Value.long) (.long (0 : Int64)) → Arv Z h' bb kb .byte (32 : Int32) ((((bs.set 16 (own_u21 W q).toInt32.toInt8.toInt32.toInt8.toInt32).set 17 (own_u22 W q).toInt32.toInt8.toInt32.toInt8.toInt32).set 18 (own_u23 W q).toInt32.toInt8.toInt32.toInt8.toInt32).map Value.int) (.int (0 : Int32)) → OG p e below s 2 42 P (T'.setTop (mkF m 239 #[.val (.ref f), .val (.ref ah), .val (.long r), .second, .val (.ref bb), .val (.long (own_u24 W q)), .second, .val (.int (1 : Int32)), .val (.int (19 : Int32)), .val (.int (6 : Int32))] []))) :
    OG p e below s 2 42 P (Tz.setTop (mkF m 239 #[.val (.ref f), .val (.ref ah), .val (.long r), .second, .val (.ref bb), .val (.long q), .second, .val (.int (0 : Int32)), .val (.int (16 : Int32)), .val (.int (5 : Int32))] [])) := by
  refine OG.of (A := Tz.setTop (mkF m 251 (own_L7 f ah r bb q (0 : Int32) (16 : Int32) (5 : Int32)) [(.int (5 : Int32)), (.ref ah), (.long q)])) (fun oT oK => ?_) ?_
  · skip
    refine XS.iload Xz.here hx rfl (hb hby dE_239) rfl  ?_
    show Steps p.tables e below (Tz.setTop (mkF m 241 (own_L7 f ah r bb q (0 : Int32) (16 : Int32) (5 : Int32)) [(.int (5 : Int32))])) _
    refine XS.bipush Xz.here hx rfl (hb hby dE_241) ?_
    show Steps p.tables e below (Tz.setTop (mkF m 243 (own_L7 f ah r bb q (0 : Int32) (16 : Int32) (5 : Int32)) [(.int (10 : Int32)), (.int (5 : Int32))])) _
    refine XS.icmpNo Xz.here hx rfl (hb hby dE_243) rfl (XT.ii_ge_f (by decide)) ?_
    show Steps p.tables e below (Tz.setTop (mkF m 246 (own_L7 f ah r bb q (0 : Int32) (16 : Int32) (5 : Int32)) [])) _
    refine XT.lload Xz.here hx rfl (hb hby dE_246) rfl  ?_
    refine XS.aloadN Xz.here hx rfl (hb hby dE_248) rfl rfl  ?_
    show Steps p.tables e below (Tz.setTop (mkF m 249 (own_L7 f ah r bb q (0 : Int32) (16 : Int32) (5 : Int32)) [(.ref ah), (.long q)])) _
    refine XS.iload Xz.here hx rfl (hb hby dE_249) rfl  ?_
    exact oK
  obtain ⟨clf1, Arf1, If1, Hf1⟩ := own_rdL Vz hW (j := (5 : Int32)) (i := 5) rfl (by decide)
  refine OG.of (Xz.laload hx (j := (5 : Int32)) (v := (.long (W.getD 5 0))) (by rw [ez]; exact Arf1.1) (State.isArrayOf_alike hZ.alike Arf1.2.1) Arf1.2.2 If1 Hf1 (g := (mkF m 251 (own_L7 f ah r bb q (0 : Int32) (16 : Int32) (5 : Int32)) [(.int (5 : Int32)), (.ref ah), (.long q)])) rfl rfl (hb hby dE_251)) ?_
  show OG _ _ _ _ _ _ _ (Tz.setTop (mkF m 252 (own_L7 f ah r bb q (0 : Int32) (16 : Int32) (5 : Int32)) [(.long (W.getD 5 0)), (.long q)]))
  refine OG.of (A := Tz.setTop (mkF m 258 (own_L7 f ah r bb (q ||| ((W.getD 5 0) <<< ((0 : Int32).toInt64 &&& 63))) (0 : Int32) (16 : Int32) (5 : Int32)) [])) (fun oT oK => ?_) ?_
  · skip
    refine XS.iload Xz.here hx rfl (hb hby dE_252) rfl  ?_
    show Steps p.tables e below (Tz.setTop (mkF m 254 (own_L7 f ah r bb q (0 : Int32) (16 : Int32) (5 : Int32)) [(.int (0 : Int32)), (.long (W.getD 5 0)), (.long q)])) _
    refine XT.lshl Xz.here hx rfl (hb hby dE_254) rfl ?_
    refine XT.lor Xz.here hx rfl (hb hby dE_255) rfl ?_
    show Steps p.tables e below (Tz.setTop (mkF m 256 (own_L7 f ah r bb q (0 : Int32) (16 : Int32) (5 : Int32)) [(.long (q ||| ((W.getD 5 0) <<< ((0 : Int32).toInt64 &&& 63))))])) _
    refine XT.lstore Xz.here hx rfl (hb hby dE_256) rfl (l' := (own_L7 f ah r bb (q ||| ((W.getD 5 0) <<< ((0 : Int32).toInt64 &&& 63))) (0 : Int32) (16 : Int32) (5 : Int32))) rfl ?_
    exact oK
  show OG _ _ _ _ _ _ _ (Tz.setTop (mkF m 258 (own_L7 f ah r bb (own_u21 W q) (0 : Int32) (16 : Int32) (5 : Int32)) []))
  refine OG.of (A := Tz.setTop (mkF m 260 (own_L7 f ah r bb (own_u21 W q) (0 : Int32) (16 : Int32) (5 : Int32)) [(.int (0 : Int32))])) (fun oT oK => ?_) ?_
  · skip
    refine XS.iload Xz.here hx rfl (hb hby dE_258) rfl  ?_
    exact oK
  obtain ⟨T1, X1, e1, st1⟩ := getS2 Xz hx hZ hown (host := "") (Or.inl (own_at hw 8 rfl)) Via.refl ez (SB.ext (Oz).2) (g := (mkF m 260 (own_L7 f ah r bb (own_u21 W q) (0 : Int32) (16 : Int32) (5 : Int32)) [(.int (0 : Int32))])) rfl (hb hby dE_260)
  refine OG.of st1 ?_
  show OG _ _ _ _ _ _ _ (T1.setTop (mkF m 263 (own_L7 f ah r bb (own_u21 W q) (0 : Int32) (16 : Int32) (5 : Int32)) [(.ref wB), (.int (0 : Int32))]))
  refine OG.of (A := T1.setTop (mkF m 265 (own_L7 f ah r bb (own_u21 W q) (0 : Int32) (16 : Int32) (5 : Int32)) [(.int (5 : Int32)), (.ref wB), (.int (0 : Int32))])) (fun oT oK => ?_) ?_
  · skip
    refine XS.iload X1.here hx rfl (hb hby dE_263) rfl  ?_
    exact oK
  have cf2 := ((TB 5 (by decide)).ext (Oz).2)
  obtain ⟨clf2, Arf2, If2, Hf2⟩ := cf2
  refine OG.of (X1.iaload hx (j := (5 : Int32)) (v := (.int (25 : Int32))) (by rw [e1]; exact Arf2.1) (State.isArrayOf_alike hZ.alike Arf2.2.1) Arf2.2.2 If2 Hf2 (g := (mkF m 265 (own_L7 f ah r bb (own_u21 W q) (0 : Int32) (16 : Int32) (5 : Int32)) [(.int (5 : Int32)), (.ref wB), (.int (0 : Int32))])) rfl rfl (hb hby dE_265)) ?_
  show OG _ _ _ _ _ _ _ (T1.setTop (mkF m 266 (own_L7 f ah r bb (own_u21 W q) (0 : Int32) (16 : Int32) (5 : Int32)) [(.int (25 : Int32)), (.int (0 : Int32))]))
  refine OG.of (A := T1.setTop (mkF m 284 (own_L7 f ah r bb (own_u21 W q) (25 : Int32) (16 : Int32) (5 : Int32)) [(.int (own_u21 W q).toInt32.toInt8.toInt32), (.int (16 : Int32)), (.ref bb)])) (fun oT oK => ?_) ?_
  · skip
    refine XS.iadd X1.here hx rfl (hb hby dE_266) rfl ?_
    show Steps p.tables e below (T1.setTop (mkF m 267 (own_L7 f ah r bb (own_u21 W q) (0 : Int32) (16 : Int32) (5 : Int32)) [(.int (25 : Int32))])) _
    refine XS.istore X1.here hx rfl (hb hby dE_267) rfl (l' := (own_L7 f ah r bb (own_u21 W q) (25 : Int32) (16 : Int32) (5 : Int32))) rfl ?_
    refine XS.iload X1.here hx rfl (hb hby dE_269) rfl  ?_
    show Steps p.tables e below (T1.setTop (mkF m 271 (own_L7 f ah r bb (own_u21 W q) (25 : Int32) (16 : Int32) (5 : Int32)) [(.int (25 : Int32))])) _
    refine XS.bipush X1.here hx rfl (hb hby dE_271) ?_
    show Steps p.tables e below (T1.setTop (mkF m 273 (own_L7 f ah r bb (own_u21 W q) (25 : Int32) (16 : Int32) (5 : Int32)) [(.int (8 : Int32)), (.int (25 : Int32))])) _
    refine XS.icmpNo X1.here hx rfl (hb hby dE_273) rfl (XT.ii_lt_f (by decide)) ?_
    show Steps p.tables e below (T1.setTop (mkF m 276 (own_L7 f ah r bb (own_u21 W q) (25 : Int32) (16 : Int32) (5 : Int32)) [])) _
    refine XS.aload X1.here hx rfl (hb hby dE_276) rfl rfl  ?_
    refine XS.iload X1.here hx rfl (hb hby dE_278) rfl  ?_
    show Steps p.tables e below (T1.setTop (mkF m 280 (own_L7 f ah r bb (own_u21 W q) (25 : Int32) (16 : Int32) (5 : Int32)) [(.int (16 : Int32)), (.ref bb)])) _
    refine XT.lload X1.here hx rfl (hb hby dE_280) rfl  ?_
    refine XT.l2i X1.here hx rfl (hb hby dE_282) rfl ?_
    show Steps p.tables e below (T1.setTop (mkF m 283 (own_L7 f ah r bb (own_u21 W q) (25 : Int32) (16 : Int32) (5 : Int32)) [(.int (own_u21 W q).toInt32), (.int (16 : Int32)), (.ref bb)])) _
    refine XT.i2b X1.here hx rfl (hb hby dE_283) rfl ?_
    exact oK
  obtain ⟨T2, h2, X2, e2, W2, V2, st2⟩ := own_stB X1 hx hZ e1 Bz hbs (j := (16 : Int32)) (i := 16) rfl (by decide) (g := (mkF m 284 (own_L7 f ah r bb (own_u21 W q) (25 : Int32) (16 : Int32) (5 : Int32)) [(.int (own_u21 W q).toInt32.toInt8.toInt32), (.int (16 : Int32)), (.ref bb)])) rfl rfl (hb hby dE_284)
  have f3 := (Vz).other W2 nab
  have f5 := (Oz).wr W2 gbb
  have K2 : Keep h0 h2 [] := (Kz).wr W2 (Or.inr sbb)
  have Z2 : n0 ≤ h2.size := Nat.le_trans (Nat.le_trans Z0 Kz.1) (Keep.of_wr W2).1
  have N2 := Fr.snoc X2 Nz gbb
  refine OG.of st2 ?_
  show OG _ _ _ _ _ _ _ (T2.setTop (mkF m 285 (own_L7 f ah r bb (own_u21 W q) (25 : Int32) (16 : Int32) (5 : Int32)) []))
  refine OG.of (A := T2.setTop (mkF m 295 (own_L7 f ah r bb (XT.ushrL (own_u21 W q) (8 : Int32)) (25 : Int32) (17 : Int32) (5 : Int32)) [])) (fun oT oK => ?_) ?_
  · skip
    refine XS.iinc X2.here hx rfl (hb hby dE_285) rfl (l' := (own_L7 f ah r bb (own_u21 W q) (25 : Int32) (17 : Int32) (5 : Int32))) rfl ?_
    show Steps p.tables e below (T2.setTop (mkF m 288 (own_L7 f ah r bb (own_u21 W q) (25 : Int32) (17 : Int32) (5 : Int32)) [])) _
    refine XT.lload X2.here hx rfl (hb hby dE_288) rfl  ?_
    refine XS.bipush X2.here hx rfl (hb hby dE_290) ?_
    show Steps p.tables e below (T2.setTop (mkF m 292 (own_L7 f ah r bb (own_u21 W q) (25 : Int32) (17 : Int32) (5 : Int32)) [(.int (8 : Int32)), (.long (own_u21 W q))])) _
    refine XT.lushr X2.here hx rfl (hb hby dE_292) rfl ?_
    refine XT.lstore X2.here hx rfl (hb hby dE_293) rfl (l' := (own_L7 f ah r bb (XT.ushrL (own_u21 W q) (8 : Int32)) (25 : Int32) (17 : Int32) (5 : Int32))) rfl ?_
    exact oK
  show OG _ _ _ _ _ _ _ (T2.setTop (mkF m 295 (own_L7 f ah r bb (own_u22 W q) (25 : Int32) (17 : Int32) (5 : Int32)) []))
  refine OG.of (A := T2.setTop (mkF m 284 (own_L7 f ah r bb (own_u22 W q) (17 : Int32) (17 : Int32) (5 : Int32)) [(.int (own_u22 W q).toInt32.toInt8.toInt32), (.int (17 : Int32)), (.ref bb)])) (fun oT oK => ?_) ?_
  · skip
    refine XS.iinc X2.here hx rfl (hb hby dE_295) rfl (l' := (own_L7 f ah r bb (own_u22 W q) (17 : Int32) (17 : Int32) (5 : Int32))) rfl ?_
    show Steps p.tables e below (T2.setTop (mkF m 298 (own_L7 f ah r bb (own_u22 W q) (17 : Int32) (17 : Int32) (5 : Int32)) [])) _
    refine XS.goto X2.here hx rfl (pc0 := 298) (pc' := 269) rfl (hb hby dE_298) (by decide) (by decide) ?_
    refine XS.iload X2.here hx rfl (hb hby dE_269) rfl  ?_
    show Steps p.tables e below (T2.setTop (mkF m 271 (own_L7 f ah r bb (own_u22 W q) (17 : Int32) (17 : Int32) (5 : Int32)) [(.int (17 : Int32))])) _
    refine XS.bipush X2.here hx rfl (hb hby dE_271) ?_
    show Steps p.tables e below (T2.setTop (mkF m 273 (own_L7 f ah r bb (own_u22 W q) (17 : Int32) (17 : Int32) (5 : Int32)) [(.int (8 : Int32)), (.int (17 : Int32))])) _
    refine XS.icmpNo X2.here hx rfl (hb hby dE_273) rfl (XT.ii_lt_f (by decide)) ?_
    show Steps p.tables e below (T2.setTop (mkF m 276 (own_L7 f ah r bb (own_u22 W q) (17 : Int32) (17 : Int32) (5 : Int32)) [])) _
    refine XS.aload X2.here hx rfl (hb hby dE_276) rfl rfl  ?_
    refine XS.iload X2.here hx rfl (hb hby dE_278) rfl  ?_
    show Steps p.tables e below (T2.setTop (mkF m 280 (own_L7 f ah r bb (own_u22 W q) (17 : Int32) (17 : Int32) (5 : Int32)) [(.int (17 : Int32)), (.ref bb)])) _
    refine XT.lload X2.here hx rfl (hb hby dE_280) rfl  ?_
    refine XT.l2i X2.here hx rfl (hb hby dE_282) rfl ?_
    show Steps p.tables e below (T2.setTop (mkF m 283 (own_L7 f ah r bb (own_u22 W q) (17 : Int32) (17 : Int32) (5 : Int32)) [(.int (own_u22 W q).toInt32), (.int (17 : Int32)), (.ref bb)])) _
    refine XT.i2b X2.here hx rfl (hb hby dE_283) rfl ?_
    exact oK
  obtain ⟨T3, h3, X3, e3, W3, V3, st3⟩ := own_stB X2 hx hZ e2 V2 ((List.length_set ..).trans hbs) (j := (17 : Int32)) (i := 17) rfl (by decide) (g := (mkF m 284 (own_L7 f ah r bb (own_u22 W q) (17 : Int32) (17 : Int32) (5 : Int32)) [(.int (own_u22 W q).toInt32.toInt8.toInt32), (.int (17 : Int32)), (.ref bb)])) rfl rfl (hb hby dE_284)
  have f6 := (f3).other W3 nab
  have f8 := (f5).wr W3 gbb
  have K3 : Keep h0 h3 [] := (K2).wr W3 (Or.inr sbb)
  have Z3 : n0 ≤ h3.size := Nat.le_trans Z2 (Keep.of_wr W3).1
  have N3 := Fr.snoc X3 N2 gbb
  refine OG.of st3 ?_
  show OG _ _ _ _ _ _ _ (T3.setTop (mkF m 285 (own_L7 f ah r bb (own_u22 W q) (17 : Int32) (17 : Int32) (5 : Int32)) []))
  refine OG.of (A := T3.setTop (mkF m 295 (own_L7 f ah r bb (XT.ushrL (own_u22 W q) (8 : Int32)) (17 : Int32) (18 : Int32) (5 : Int32)) [])) (fun oT oK => ?_) ?_
  · skip
    refine XS.iinc X3.here hx rfl (hb hby dE_285) rfl (l' := (own_L7 f ah r bb (own_u22 W q) (17 : Int32) (18 : Int32) (5 : Int32))) rfl ?_
    show Steps p.tables e below (T3.setTop (mkF m 288 (own_L7 f ah r bb (own_u22 W q) (17 : Int32) (18 : Int32) (5 : Int32)) [])) _
    refine XT.lload X3.here hx rfl (hb hby dE_288) rfl  ?_
    refine XS.bipush X3.here hx rfl (hb hby dE_290) ?_
    show Steps p.tables e below (T3.setTop (mkF m 292 (own_L7 f ah r bb (own_u22 W q) (17 : Int32) (18 : Int32) (5 : Int32)) [(.int (8 : Int32)), (.long (own_u22 W q))])) _
    refine XT.lushr X3.here hx rfl (hb hby dE_292) rfl ?_
    refine XT.lstore X3.here hx rfl (hb hby dE_293) rfl (l' := (own_L7 f ah r bb (XT.ushrL (own_u22 W q) (8 : Int32)) (17 : Int32) (18 : Int32) (5 : Int32))) rfl ?_
    exact oK
  show OG _ _ _ _ _ _ _ (T3.setTop (mkF m 295 (own_L7 f ah r bb (own_u23 W q) (17 : Int32) (18 : Int32) (5 : Int32)) []))
  refine OG.of (A := T3.setTop (mkF m 284 (own_L7 f ah r bb (own_u23 W q) (9 : Int32) (18 : Int32) (5 : Int32)) [(.int (own_u23 W q).toInt32.toInt8.toInt32), (.int (18 : Int32)), (.ref bb)])) (fun oT oK => ?_) ?_
  · skip
    refine XS.iinc X3.here hx rfl (hb hby dE_295) rfl (l' := (own_L7 f ah r bb (own_u23 W q) (9 : Int32) (18 : Int32) (5 : Int32))) rfl ?_
    show Steps p.tables e below (T3.setTop (mkF m 298 (own_L7 f ah r bb (own_u23 W q) (9 : Int32) (18 : Int32) (5 : Int32)) [])) _
    refine XS.goto X3.here hx rfl (pc0 := 298) (pc' := 269) rfl (hb hby dE_298) (by decide) (by decide) ?_
    refine XS.iload X3.here hx rfl (hb hby dE_269) rfl  ?_
    show Steps p.tables e below (T3.setTop (mkF m 271 (own_L7 f ah r bb (own_u23 W q) (9 : Int32) (18 : Int32) (5 : Int32)) [(.int (9 : Int32))])) _
    refine XS.bipush X3.here hx rfl (hb hby dE_271) ?_
    show Steps p.tables e below (T3.setTop (mkF m 273 (own_L7 f ah r bb (own_u23 W q) (9 : Int32) (18 : Int32) (5 : Int32)) [(.int (8 : Int32)), (.int (9 : Int32))])) _
    refine XS.icmpNo X3.here hx rfl (hb hby dE_273) rfl (XT.ii_lt_f (by decide)) ?_
    show Steps p.tables e below (T3.setTop (mkF m 276 (own_L7 f ah r bb (own_u23 W q) (9 : Int32) (18 : Int32) (5 : Int32)) [])) _
    refine XS.aload X3.here hx rfl (hb hby dE_276) rfl rfl  ?_
    refine XS.iload X3.here hx rfl (hb hby dE_278) rfl  ?_
    show Steps p.tables e below (T3.setTop (mkF m 280 (own_L7 f ah r bb (own_u23 W q) (9 : Int32) (18 : Int32) (5 : Int32)) [(.int (18 : Int32)), (.ref bb)])) _
    refine XT.lload X3.here hx rfl (hb hby dE_280) rfl  ?_
    refine XT.l2i X3.here hx rfl (hb hby dE_282) rfl ?_
    show Steps p.tables e below (T3.setTop (mkF m 283 (own_L7 f ah r bb (own_u23 W q) (9 : Int32) (18 : Int32) (5 : Int32)) [(.int (own_u23 W q).toInt32), (.int (18 : Int32)), (.ref bb)])) _
    refine XT.i2b X3.here hx rfl (hb hby dE_283) rfl ?_
    exact oK
  obtain ⟨T4, h4, X4, e4, W4, V4, st4⟩ := own_stB X3 hx hZ e3 V3 ((List.length_set ..).trans ((List.length_set ..).trans hbs)) (j := (18 : Int32)) (i := 18) rfl (by decide) (g := (mkF m 284 (own_L7 f ah r bb (own_u23 W q) (9 : Int32) (18 : Int32) (5 : Int32)) [(.int (own_u23 W q).toInt32.toInt8.toInt32), (.int (18 : Int32)), (.ref bb)])) rfl rfl (hb hby dE_284)
  have f9 := (f6).other W4 nab
  have f11 := (f8).wr W4 gbb
  have K4 : Keep h0 h4 [] := (K3).wr W4 (Or.inr sbb)
  have Z4 : n0 ≤ h4.size := Nat.le_trans Z3 (Keep.of_wr W4).1
  have N4 := Fr.snoc X4 N3 gbb
  refine OG.of st4 ?_
  show OG _ _ _ _ _ _ _ (T4.setTop (mkF m 285 (own_L7 f ah r bb (own_u23 W q) (9 : Int32) (18 : Int32) (5 : Int32)) []))
  refine OG.of (A := T4.setTop (mkF m 295 (own_L7 f ah r bb (XT.ushrL (own_u23 W q) (8 : Int32)) (9 : Int32) (19 : Int32) (5 : Int32)) [])) (fun oT oK => ?_) ?_
  · skip
    refine XS.iinc X4.here hx rfl (hb hby dE_285) rfl (l' := (own_L7 f ah r bb (own_u23 W q) (9 : Int32) (19 : Int32) (5 : Int32))) rfl ?_
    show Steps p.tables e below (T4.setTop (mkF m 288 (own_L7 f ah r bb (own_u23 W q) (9 : Int32) (19 : Int32) (5 : Int32)) [])) _
    refine XT.lload X4.here hx rfl (hb hby dE_288) rfl  ?_
    refine XS.bipush X4.here hx rfl (hb hby dE_290) ?_
    show Steps p.tables e below (T4.setTop (mkF m 292 (own_L7 f ah r bb (own_u23 W q) (9 : Int32) (19 : Int32) (5 : Int32)) [(.int (8 : Int32)), (.long (own_u23 W q))])) _
    refine XT.lushr X4.here hx rfl (hb hby dE_292) rfl ?_
    refine XT.lstore X4.here hx rfl (hb hby dE_293) rfl (l' := (own_L7 f ah r bb (XT.ushrL (own_u23 W q) (8 : Int32)) (9 : Int32) (19 : Int32) (5 : Int32))) rfl ?_
    exact oK
  show OG _ _ _ _ _ _ _ (T4.setTop (mkF m 295 (own_L7 f ah r bb (own_u24 W q) (9 : Int32) (19 : Int32) (5 : Int32)) []))
  refine OG.of (A := T4.setTop (mkF m 239 (own_L7 f ah r bb (own_u24 W q) (1 : Int32) (19 : Int32) (6 : Int32)) [])) (fun oT oK => ?_) ?_
  · skip
    refine XS.iinc X4.here hx rfl (hb hby dE_295) rfl (l' := (own_L7 f ah r bb (own_u24 W q) (1 : Int32) (19 : Int32) (5 : Int32))) rfl ?_
    show Steps p.tables e below (T4.setTop (mkF m 298 (own_L7 f ah r bb (own_u24 W q) (1 : Int32) (19 : Int32) (5 : Int32)) [])) _
    refine XS.goto X4.here hx rfl (pc0 := 298) (pc' := 269) rfl (hb hby dE_298) (by decide) (by decide) ?_
    refine XS.iload X4.here hx rfl (hb hby dE_269) rfl  ?_
    show Steps p.tables e below (T4.setTop (mkF m 271 (own_L7 f ah r bb (own_u24 W q) (1 : Int32) (19 : Int32) (5 : Int32)) [(.int (1 : Int32))])) _
    refine XS.bipush X4.here hx rfl (hb hby dE_271) ?_
    show Steps p.tables e below (T4.setTop (mkF m 273 (own_L7 f ah r bb (own_u24 W q) (1 : Int32) (19 : Int32) (5 : Int32)) [(.int (8 : Int32)), (.int (1 : Int32))])) _
    refine XS.icmpYes X4.here hx rfl (pc0 := 273) (pc' := 301) rfl (hb hby dE_273) rfl (XT.ii_lt_t (by decide)) (by decide) (by decide) ?_
    show Steps p.tables e below (T4.setTop (mkF m 301 (own_L7 f ah r bb (own_u24 W q) (1 : Int32) (19 : Int32) (5 : Int32)) [])) _
    refine XS.iinc X4.here hx rfl (hb hby dE_301) rfl (l' := (own_L7 f ah r bb (own_u24 W q) (1 : Int32) (19 : Int32) (6 : Int32))) rfl ?_
    refine XS.goto X4.here hx rfl (pc0 := 304) (pc' := 239) rfl (hb hby dE_304) (by decide) (by decide) ?_
    exact oK
  exact cont T4 _ _ X4 e4 N4 f11 K4 f9 V4
set_option maxRecDepth 65536 in
set_option maxHeartbeats 40000000 in
theorem own_turn6 {p : Program} {l : Launch} {e : Env} {s : State} {m : MethodId} {args : Array Value} {below : List Frame} {meth : Method} {c : Code} {Z : State} {a0 : Array Value} {h0 : Heap} {n0 : Nat} {P : Option Value → Heap → List Loc → Prop} (f ah bb : Addr) (kf kb : ClassId) (wB : Addr) (r q : Int64) (W : List Int64) (bs : List Int32) (Tz : State) (locs : List Loc) (hz : Heap) (hx : p.tables.exec = Jvm.exec) (hZ : Z.Warmed39 s.vm) (hw : ∀ d ∈ tables_1, d.before a0 Z = true) (hby : c.code = prog_16_method_5_code) (hml : c.maxLocals = 10) (hown : s.vm.findClass "com/example/gate_to_gate/gatetogate/io/Field25519" = some m.cls) (hlk : meth.locks = false) (hret : meth.sig.returnType = some (.array .byte)) (SB : Sta Z Z.heap "com/example/gate_to_gate/gatetogate/io/Field25519" "BITS" "[I" (.ref wB)) (TB : ∀ j, j < 10 → ORd Z Z.heap wB .int (Int32.ofNat j) (.int (own_bits j))) (Z0 : n0 ≤ h0.size) (gah : n0 ≤ ah) (sah : h0.size ≤ ah) (gbb : n0 ≤ bb) (sbb : h0.size ≤ bb) (nab : ah ≠ bb) (hW : W.length = 10) (hbs : bs.length = 32) (Xz : Stand p l e ({ frames := 1, cells := 2, slots := 42, locals := 14 } : Room) s m args below meth c Tz locs 2 42) (ez : Tz.heap = hz) (Nz : Fr n0 locs) (Oz : Old Z n0 hz) (Kz : Keep h0 hz []) (Vz : Arv Z hz ah kf .long (10 : Int32) (W.map Value.long) (.long (0 : Int64))) (Bz : Arv Z hz bb kb .byte (32 : Int32) (bs.map Value.int) (.int (0 : Int32))) (cont : ∀ (T' : State) (locs' : List Loc) (h' : Heap), Stand p l e ({ frames := 1, cells := 2, slots := 42, locals := 14 } : Room) s m args below meth c T' locs' 2 42 → T'.heap = h' → Fr n0 locs' → Old Z n0 h' → Keep h0 h' [] → Arv Z h' ah kf .long (10 : Int32) (W.map Value.long) (.long (0 : Int64)) → Arv Z h' bb kb .byte (32 : Int32) ((((bs.set 19 (own_u25 W q).toInt32.toInt8.toInt32.toInt8.toInt32).set 20 (own_u26 W q).toInt32.toInt8.toInt32.toInt8.toInt32).set 21 (own_u27 W q).toInt32.toInt8.toInt32.toInt8.toInt32).map Value.int) (.int (0 : Int32)) → OG p e below s 2 42 P (T'.setTop (mkF m 239 #[.val (.ref f), .val (.ref ah), .val (.long r), .second, .val (.ref bb), .val (.long (own_u28 W q)), .second, .val (.int (3 : Int32)), .val (.int (22 : Int32)), .val (.int (7 : Int32))] []))) :
    OG p e below s 2 42 P (Tz.setTop (mkF m 239 #[.val (.ref f), .val (.ref ah), .val (.long r), .second, .val (.ref bb), .val (.long q), .second, .val (.int (1 : Int32)), .val (.int (19 : Int32)), .val (.int (6 : Int32))] [])) := by
  refine OG.of (A := Tz.setTop (mkF m 251 (own_L7 f ah r bb q (1 : Int32) (19 : Int32) (6 : Int32)) [(.int (6 : Int32)), (.ref ah), (.long q)])) (fun oT oK => ?_) ?_
  · skip
    refine XS.iload Xz.here hx rfl (hb hby dE_239) rfl  ?_
    show Steps p.tables e below (Tz.setTop (mkF m 241 (own_L7 f ah r bb q (1 : Int32) (19 : Int32) (6 : Int32)) [(.int (6 : Int32))])) _
    refine XS.bipush Xz.here hx rfl (hb hby dE_241) ?_
    show Steps p.tables e below (Tz.setTop (mkF m 243 (own_L7 f ah r bb q (1 : Int32) (19 : Int32) (6 : Int32)) [(.int (10 : Int32)), (.int (6 : Int32))])) _
    refine XS.icmpNo Xz.here hx rfl (hb hby dE_243) rfl (XT.ii_ge_f (by decide)) ?_
    show Steps p.tables e below (Tz.setTop (mkF m 246 (own_L7 f ah r bb q (1 : Int32) (19 : Int32) (6 : Int32)) [])) _
    refine XT.lload Xz.here hx rfl (hb hby dE_246) rfl  ?_
    refine XS.aloadN Xz.here hx rfl (hb hby dE_248) rfl rfl  ?_
    show Steps p.tables e below (Tz.setTop (mkF m 249 (own_L7 f ah r bb q (1 : Int32) (19 : Int32) (6 : Int32)) [(.ref ah), (.long q)])) _
    refine XS.iload Xz.here hx rfl (hb hby dE_249) rfl  ?_
    exact oK
  obtain ⟨clf1, Arf1, If1, Hf1⟩ := own_rdL Vz hW (j := (6 : Int32)) (i := 6) rfl (by decide)
  refine OG.of (Xz.laload hx (j := (6 : Int32)) (v := (.long (W.getD 6 0))) (by rw [ez]; exact Arf1.1) (State.isArrayOf_alike hZ.alike Arf1.2.1) Arf1.2.2 If1 Hf1 (g := (mkF m 251 (own_L7 f ah r bb q (1 : Int32) (19 : Int32) (6 : Int32)) [(.int (6 : Int32)), (.ref ah), (.long q)])) rfl rfl (hb hby dE_251)) ?_
  show OG _ _ _ _ _ _ _ (Tz.setTop (mkF m 252 (own_L7 f ah r bb q (1 : Int32) (19 : Int32) (6 : Int32)) [(.long (W.getD 6 0)), (.long q)]))
  refine OG.of (A := Tz.setTop (mkF m 258 (own_L7 f ah r bb (q ||| ((W.getD 6 0) <<< ((1 : Int32).toInt64 &&& 63))) (1 : Int32) (19 : Int32) (6 : Int32)) [])) (fun oT oK => ?_) ?_
  · skip
    refine XS.iload Xz.here hx rfl (hb hby dE_252) rfl  ?_
    show Steps p.tables e below (Tz.setTop (mkF m 254 (own_L7 f ah r bb q (1 : Int32) (19 : Int32) (6 : Int32)) [(.int (1 : Int32)), (.long (W.getD 6 0)), (.long q)])) _
    refine XT.lshl Xz.here hx rfl (hb hby dE_254) rfl ?_
    refine XT.lor Xz.here hx rfl (hb hby dE_255) rfl ?_
    show Steps p.tables e below (Tz.setTop (mkF m 256 (own_L7 f ah r bb q (1 : Int32) (19 : Int32) (6 : Int32)) [(.long (q ||| ((W.getD 6 0) <<< ((1 : Int32).toInt64 &&& 63))))])) _
    refine XT.lstore Xz.here hx rfl (hb hby dE_256) rfl (l' := (own_L7 f ah r bb (q ||| ((W.getD 6 0) <<< ((1 : Int32).toInt64 &&& 63))) (1 : Int32) (19 : Int32) (6 : Int32))) rfl ?_
    exact oK
  show OG _ _ _ _ _ _ _ (Tz.setTop (mkF m 258 (own_L7 f ah r bb (own_u25 W q) (1 : Int32) (19 : Int32) (6 : Int32)) []))
  refine OG.of (A := Tz.setTop (mkF m 260 (own_L7 f ah r bb (own_u25 W q) (1 : Int32) (19 : Int32) (6 : Int32)) [(.int (1 : Int32))])) (fun oT oK => ?_) ?_
  · skip
    refine XS.iload Xz.here hx rfl (hb hby dE_258) rfl  ?_
    exact oK
  obtain ⟨T1, X1, e1, st1⟩ := getS2 Xz hx hZ hown (host := "") (Or.inl (own_at hw 8 rfl)) Via.refl ez (SB.ext (Oz).2) (g := (mkF m 260 (own_L7 f ah r bb (own_u25 W q) (1 : Int32) (19 : Int32) (6 : Int32)) [(.int (1 : Int32))])) rfl (hb hby dE_260)
  refine OG.of st1 ?_
  show OG _ _ _ _ _ _ _ (T1.setTop (mkF m 263 (own_L7 f ah r bb (own_u25 W q) (1 : Int32) (19 : Int32) (6 : Int32)) [(.ref wB), (.int (1 : Int32))]))
  refine OG.of (A := T1.setTop (mkF m 265 (own_L7 f ah r bb (own_u25 W q) (1 : Int32) (19 : Int32) (6 : Int32)) [(.int (6 : Int32)), (.ref wB), (.int (1 : Int32))])) (fun oT oK => ?_) ?_
  · skip
    refine XS.iload X1.here hx rfl (hb hby dE_263) rfl  ?_
    exact oK
  have cf2 := ((TB 6 (by decide)).ext (Oz).2)
  obtain ⟨clf2, Arf2, If2, Hf2⟩ := cf2
  refine OG.of (X1.iaload hx (j := (6 : Int32)) (v := (.int (26 : Int32))) (by rw [e1]; exact Arf2.1) (State.isArrayOf_alike hZ.alike Arf2.2.1) Arf2.2.2 If2 Hf2 (g := (mkF m 265 (own_L7 f ah r bb (own_u25 W q) (1 : Int32) (19 : Int32) (6 : Int32)) [(.int (6 : Int32)), (.ref wB), (.int (1 : Int32))])) rfl rfl (hb hby dE_265)) ?_
  show OG _ _ _ _ _ _ _ (T1.setTop (mkF m 266 (own_L7 f ah r bb (own_u25 W q) (1 : Int32) (19 : Int32) (6 : Int32)) [(.int (26 : Int32)), (.int (1 : Int32))]))
  refine OG.of (A := T1.setTop (mkF m 284 (own_L7 f ah r bb (own_u25 W q) (27 : Int32) (19 : Int32) (6 : Int32)) [(.int (own_u25 W q).toInt32.toInt8.toInt32), (.int (19 : Int32)), (.ref bb)])) (fun oT oK => ?_) ?_
  · skip
    refine XS.iadd X1.here hx rfl (hb hby dE_266) rfl ?_
    show Steps p.tables e below (T1.setTop (mkF m 267 (own_L7 f ah r bb (own_u25 W q) (1 : Int32) (19 : Int32) (6 : Int32)) [(.int (27 : Int32))])) _
    refine XS.istore X1.here hx rfl (hb hby dE_267) rfl (l' := (own_L7 f ah r bb (own_u25 W q) (27 : Int32) (19 : Int32) (6 : Int32))) rfl ?_
    refine XS.iload X1.here hx rfl (hb hby dE_269) rfl  ?_
    show Steps p.tables e below (T1.setTop (mkF m 271 (own_L7 f ah r bb (own_u25 W q) (27 : Int32) (19 : Int32) (6 : Int32)) [(.int (27 : Int32))])) _
    refine XS.bipush X1.here hx rfl (hb hby dE_271) ?_
    show Steps p.tables e below (T1.setTop (mkF m 273 (own_L7 f ah r bb (own_u25 W q) (27 : Int32) (19 : Int32) (6 : Int32)) [(.int (8 : Int32)), (.int (27 : Int32))])) _
    refine XS.icmpNo X1.here hx rfl (hb hby dE_273) rfl (XT.ii_lt_f (by decide)) ?_
    show Steps p.tables e below (T1.setTop (mkF m 276 (own_L7 f ah r bb (own_u25 W q) (27 : Int32) (19 : Int32) (6 : Int32)) [])) _
    refine XS.aload X1.here hx rfl (hb hby dE_276) rfl rfl  ?_
    refine XS.iload X1.here hx rfl (hb hby dE_278) rfl  ?_
    show Steps p.tables e below (T1.setTop (mkF m 280 (own_L7 f ah r bb (own_u25 W q) (27 : Int32) (19 : Int32) (6 : Int32)) [(.int (19 : Int32)), (.ref bb)])) _
    refine XT.lload X1.here hx rfl (hb hby dE_280) rfl  ?_
    refine XT.l2i X1.here hx rfl (hb hby dE_282) rfl ?_
    show Steps p.tables e below (T1.setTop (mkF m 283 (own_L7 f ah r bb (own_u25 W q) (27 : Int32) (19 : Int32) (6 : Int32)) [(.int (own_u25 W q).toInt32), (.int (19 : Int32)), (.ref bb)])) _
    refine XT.i2b X1.here hx rfl (hb hby dE_283) rfl ?_
    exact oK
  obtain ⟨T2, h2, X2, e2, W2, V2, st2⟩ := own_stB X1 hx hZ e1 Bz hbs (j := (19 : Int32)) (i := 19) rfl (by decide) (g := (mkF m 284 (own_L7 f ah r bb (own_u25 W q) (27 : Int32) (19 : Int32) (6 : Int32)) [(.int (own_u25 W q).toInt32.toInt8.toInt32), (.int (19 : Int32)), (.ref bb)])) rfl rfl (hb hby dE_284)
  have f3 := (Vz).other W2 nab
  have f5 := (Oz).wr W2 gbb
  have K2 : Keep h0 h2 [] := (Kz).wr W2 (Or.inr sbb)
  have Z2 : n0 ≤ h2.size := Nat.le_trans (Nat.le_trans Z0 Kz.1) (Keep.of_wr W2).1
  have N2 := Fr.snoc X2 Nz gbb
  refine OG.of st2 ?_
  show OG _ _ _ _ _ _ _ (T2.setTop (mkF m 285 (own_L7 f ah r bb (own_u25 W q) (27 : Int32) (19 : Int32) (6 : Int32)) []))
  refine OG.of (A := T2.setTop (mkF m 295 (own_L7 f ah r bb (XT.ushrL (own_u25 W q) (8 : Int32)) (27 : Int32) (20 : Int32) (6 : Int32)) [])) (fun oT oK => ?_) ?_
  · skip
    refine XS.iinc X2.here hx rfl (hb hby dE_285) rfl (l' := (own_L7 f ah r bb (own_u25 W q) (27 : Int32) (20 : Int32) (6 : Int32))) rfl ?_
    show Steps p.tables e below (T2.setTop (mkF m 288 (own_L7 f ah r bb (own_u25 W q) (27 : Int32) (20 : Int32) (6 : Int32)) [])) _
    refine XT.lload X2.here hx rfl (hb hby dE_288) rfl  ?_
    refine XS.bipush X2.here hx rfl (hb hby dE_290) ?_
    show Steps p.tables e below (T2.setTop (mkF m 292 (own_L7 f ah r bb (own_u25 W q) (27 : Int32) (20 : Int32) (6 : Int32)) [(.int (8 : Int32)), (.long (own_u25 W q))])) _
    refine XT.lushr X2.here hx rfl (hb hby dE_292) rfl ?_
    refine XT.lstore X2.here hx rfl (hb hby dE_293) rfl (l' := (own_L7 f ah r bb (XT.ushrL (own_u25 W q) (8 : Int32)) (27 : Int32) (20 : Int32) (6 : Int32))) rfl ?_
    exact oK
  show OG _ _ _ _ _ _ _ (T2.setTop (mkF m 295 (own_L7 f ah r bb (own_u26 W q) (27 : Int32) (20 : Int32) (6 : Int32)) []))
  refine OG.of (A := T2.setTop (mkF m 284 (own_L7 f ah r bb (own_u26 W q) (19 : Int32) (20 : Int32) (6 : Int32)) [(.int (own_u26 W q).toInt32.toInt8.toInt32), (.int (20 : Int32)), (.ref bb)])) (fun oT oK => ?_) ?_
  · skip
    refine XS.iinc X2.here hx rfl (hb hby dE_295) rfl (l' := (own_L7 f ah r bb (own_u26 W q) (19 : Int32) (20 : Int32) (6 : Int32))) rfl ?_
    show Steps p.tables e below (T2.setTop (mkF m 298 (own_L7 f ah r bb (own_u26 W q) (19 : Int32) (20 : Int32) (6 : Int32)) [])) _
    refine XS.goto X2.here hx rfl (pc0 := 298) (pc' := 269) rfl (hb hby dE_298) (by decide) (by decide) ?_
    refine XS.iload X2.here hx rfl (hb hby dE_269) rfl  ?_
    show Steps p.tables e below (T2.setTop (mkF m 271 (own_L7 f ah r bb (own_u26 W q) (19 : Int32) (20 : Int32) (6 : Int32)) [(.int (19 : Int32))])) _
    refine XS.bipush X2.here hx rfl (hb hby dE_271) ?_
    show Steps p.tables e below (T2.setTop (mkF m 273 (own_L7 f ah r bb (own_u26 W q) (19 : Int32) (20 : Int32) (6 : Int32)) [(.int (8 : Int32)), (.int (19 : Int32))])) _
    refine XS.icmpNo X2.here hx rfl (hb hby dE_273) rfl (XT.ii_lt_f (by decide)) ?_
    show Steps p.tables e below (T2.setTop (mkF m 276 (own_L7 f ah r bb (own_u26 W q) (19 : Int32) (20 : Int32) (6 : Int32)) [])) _
    refine XS.aload X2.here hx rfl (hb hby dE_276) rfl rfl  ?_
    refine XS.iload X2.here hx rfl (hb hby dE_278) rfl  ?_
    show Steps p.tables e below (T2.setTop (mkF m 280 (own_L7 f ah r bb (own_u26 W q) (19 : Int32) (20 : Int32) (6 : Int32)) [(.int (20 : Int32)), (.ref bb)])) _
    refine XT.lload X2.here hx rfl (hb hby dE_280) rfl  ?_
    refine XT.l2i X2.here hx rfl (hb hby dE_282) rfl ?_
    show Steps p.tables e below (T2.setTop (mkF m 283 (own_L7 f ah r bb (own_u26 W q) (19 : Int32) (20 : Int32) (6 : Int32)) [(.int (own_u26 W q).toInt32), (.int (20 : Int32)), (.ref bb)])) _
    refine XT.i2b X2.here hx rfl (hb hby dE_283) rfl ?_
    exact oK
  obtain ⟨T3, h3, X3, e3, W3, V3, st3⟩ := own_stB X2 hx hZ e2 V2 ((List.length_set ..).trans hbs) (j := (20 : Int32)) (i := 20) rfl (by decide) (g := (mkF m 284 (own_L7 f ah r bb (own_u26 W q) (19 : Int32) (20 : Int32) (6 : Int32)) [(.int (own_u26 W q).toInt32.toInt8.toInt32), (.int (20 : Int32)), (.ref bb)])) rfl rfl (hb hby dE_284)
  have f6 := (f3).other W3 nab
  have f8 := (f5).wr W3 gbb
  have K3 : Keep h0 h3 [] := (K2).wr W3 (Or.inr sbb)
  have Z3 : n0 ≤ h3.size := Nat.le_trans Z2 (Keep.of_wr W3).1
  have N3 := Fr.snoc X3 N2 gbb
  refine OG.of st3 ?_
  show OG _ _ _ _ _ _ _ (T3.setTop (mkF m 285 (own_L7 f ah r bb (own_u26 W q) (19 : Int32) (20 : Int32) (6 : Int32)) []))
  refine OG.of (A := T3.setTop (mkF m 295 (own_L7 f ah r bb (XT.ushrL (own_u26 W q) (8 : Int32)) (19 : Int32) (21 : Int32) (6 : Int32)) [])) (fun oT oK => ?_) ?_
  · skip
    refine XS.iinc X3.here hx rfl (hb hby dE_285) rfl (l' := (own_L7 f ah r bb (own_u26 W q) (19 : Int32) (21 : Int32) (6 : Int32))) rfl ?_
    show Steps p.tables e below (T3.setTop (mkF m 288 (own_L7 f ah r bb (own_u26 W q) (19 : Int32) (21 : Int32) (6 : Int32)) [])) _
    refine XT.lload X3.here hx rfl (hb hby dE_288) rfl  ?_
    refine XS.bipush X3.here hx rfl (hb hby dE_290) ?_
    show Steps p.tables e below (T3.setTop (mkF m 292 (own_L7 f ah r bb (own_u26 W q) (19 : Int32) (21 : Int32) (6 : Int32)) [(.int (8 : Int32)), (.long (own_u26 W q))])) _
    refine XT.lushr X3.here hx rfl (hb hby dE_292) rfl ?_
    refine XT.lstore X3.here hx rfl (hb hby dE_293) rfl (l' := (own_L7 f ah r bb (XT.ushrL (own_u26 W q) (8 : Int32)) (19 : Int32) (21 : Int32) (6 : Int32))) rfl ?_
    exact oK
  show OG _ _ _ _ _ _ _ (T3.setTop (mkF m 295 (own_L7 f ah r bb (own_u27 W q) (19 : Int32) (21 : Int32) (6 : Int32)) []))
  refine OG.of (A := T3.setTop (mkF m 284 (own_L7 f ah r bb (own_u27 W q) (11 : Int32) (21 : Int32) (6 : Int32)) [(.int (own_u27 W q).toInt32.toInt8.toInt32), (.int (21 : Int32)), (.ref bb)])) (fun oT oK => ?_) ?_
  · skip
    refine XS.iinc X3.here hx rfl (hb hby dE_295) rfl (l' := (own_L7 f ah r bb (own_u27 W q) (11 : Int32) (21 : Int32) (6 : Int32))) rfl ?_
    show Steps p.tables e below (T3.setTop (mkF m 298 (own_L7 f ah r bb (own_u27 W q) (11 : Int32) (21 : Int32) (6 : Int32)) [])) _
    refine XS.goto X3.here hx rfl (pc0 := 298) (pc' := 269) rfl (hb hby dE_298) (by decide) (by decide) ?_
    refine XS.iload X3.here hx rfl (hb hby dE_269) rfl  ?_
    show Steps p.tables e below (T3.setTop (mkF m 271 (own_L7 f ah r bb (own_u27 W q) (11 : Int32) (21 : Int32) (6 : Int32)) [(.int (11 : Int32))])) _
    refine XS.bipush X3.here hx rfl (hb hby dE_271) ?_
    show Steps p.tables e below (T3.setTop (mkF m 273 (own_L7 f ah r bb (own_u27 W q) (11 : Int32) (21 : Int32) (6 : Int32)) [(.int (8 : Int32)), (.int (11 : Int32))])) _
    refine XS.icmpNo X3.here hx rfl (hb hby dE_273) rfl (XT.ii_lt_f (by decide)) ?_
    show Steps p.tables e below (T3.setTop (mkF m 276 (own_L7 f ah r bb (own_u27 W q) (11 : Int32) (21 : Int32) (6 : Int32)) [])) _
    refine XS.aload X3.here hx rfl (hb hby dE_276) rfl rfl  ?_
    refine XS.iload X3.here hx rfl (hb hby dE_278) rfl  ?_
    show Steps p.tables e below (T3.setTop (mkF m 280 (own_L7 f ah r bb (own_u27 W q) (11 : Int32) (21 : Int32) (6 : Int32)) [(.int (21 : Int32)), (.ref bb)])) _
    refine XT.lload X3.here hx rfl (hb hby dE_280) rfl  ?_
    refine XT.l2i X3.here hx rfl (hb hby dE_282) rfl ?_
    show Steps p.tables e below (T3.setTop (mkF m 283 (own_L7 f ah r bb (own_u27 W q) (11 : Int32) (21 : Int32) (6 : Int32)) [(.int (own_u27 W q).toInt32), (.int (21 : Int32)), (.ref bb)])) _
    refine XT.i2b X3.here hx rfl (hb hby dE_283) rfl ?_
    exact oK
  obtain ⟨T4, h4, X4, e4, W4, V4, st4⟩ := own_stB X3 hx hZ e3 V3 ((List.length_set ..).trans ((List.length_set ..).trans hbs)) (j := (21 : Int32)) (i := 21) rfl (by decide) (g := (mkF m 284 (own_L7 f ah r bb (own_u27 W q) (11 : Int32) (21 : Int32) (6 : Int32)) [(.int (own_u27 W q).toInt32.toInt8.toInt32), (.int (21 : Int32)), (.ref bb)])) rfl rfl (hb hby dE_284)
  have f9 := (f6).other W4 nab
  have f11 := (f8).wr W4 gbb
  have K4 : Keep h0 h4 [] := (K3).wr W4 (Or.inr sbb)
  have Z4 : n0 ≤ h4.size := Nat.le_trans Z3 (Keep.of_wr W4).1
  have N4 := Fr.snoc X4 N3 gbb
  refine OG.of st4 ?_
  show OG _ _ _ _ _ _ _ (T4.setTop (mkF m 285 (own_L7 f ah r bb (own_u27 W q) (11 : Int32) (21 : Int32) (6 : Int32)) []))
  refine OG.of (A := T4.setTop (mkF m 295 (own_L7 f ah r bb (XT.ushrL (own_u27 W q) (8 : Int32)) (11 : Int32) (22 : Int32) (6 : Int32)) [])) (fun oT oK => ?_) ?_
  · skip
    refine XS.iinc X4.here hx rfl (hb hby dE_285) rfl (l' := (own_L7 f ah r bb (own_u27 W q) (11 : Int32) (22 : Int32) (6 : Int32))) rfl ?_
    show Steps p.tables e below (T4.setTop (mkF m 288 (own_L7 f ah r bb (own_u27 W q) (11 : Int32) (22 : Int32) (6 : Int32)) [])) _
    refine XT.lload X4.here hx rfl (hb hby dE_288) rfl  ?_
    refine XS.bipush X4.here hx rfl (hb hby dE_290) ?_
    show Steps p.tables e below (T4.setTop (mkF m 292 (own_L7 f ah r bb (own_u27 W q) (11 : Int32) (22 : Int32) (6 : Int32)) [(.int (8 : Int32)), (.long (own_u27 W q))])) _
    refine XT.lushr X4.here hx rfl (hb hby dE_292) rfl ?_
    refine XT.lstore X4.here hx rfl (hb hby dE_293) rfl (l' := (own_L7 f ah r bb (XT.ushrL (own_u27 W q) (8 : Int32)) (11 : Int32) (22 : Int32) (6 : Int32))) rfl ?_
    exact oK
  show OG _ _ _ _ _ _ _ (T4.setTop (mkF m 295 (own_L7 f ah r bb (own_u28 W q) (11 : Int32) (22 : Int32) (6 : Int32)) []))
  refine OG.of (A := T4.setTop (mkF m 239 (own_L7 f ah r bb (own_u28 W q) (3 : Int32) (22 : Int32) (7 : Int32)) [])) (fun oT oK => ?_) ?_
  · skip
    refine XS.iinc X4.here hx rfl (hb hby dE_295) rfl (l' := (own_L7 f ah r bb (own_u28 W q) (3 : Int32) (22 : Int32) (6 : Int32))) rfl ?_
    show Steps p.tables e below (T4.setTop (mkF m 298 (own_L7 f ah r bb (own_u28 W q) (3 : Int32) (22 : Int32) (6 : Int32)) [])) _
    refine XS.goto X4.here hx rfl (pc0 := 298) (pc' := 269) rfl (hb hby dE_298) (by decide) (by decide) ?_
    refine XS.iload X4.here hx rfl (hb hby dE_269) rfl  ?_
    show Steps p.tables e below (T4.setTop (mkF m 271 (own_L7 f ah r bb (own_u28 W q) (3 : Int32) (22 : Int32) (6 : Int32)) [(.int (3 : Int32))])) _
    refine XS.bipush X4.here hx rfl (hb hby dE_271) ?_
    show Steps p.tables e below (T4.setTop (mkF m 273 (own_L7 f ah r bb (own_u28 W q) (3 : Int32) (22 : Int32) (6 : Int32)) [(.int (8 : Int32)), (.int (3 : Int32))])) _
    refine XS.icmpYes X4.here hx rfl (pc0 := 273) (pc' := 301) rfl (hb hby dE_273) rfl (XT.ii_lt_t (by decide)) (by decide) (by decide) ?_
    show Steps p.tables e below (T4.setTop (mkF m 301 (own_L7 f ah r bb (own_u28 W q) (3 : Int32) (22 : Int32) (6 : Int32)) [])) _
    refine XS.iinc X4.here hx rfl (hb hby dE_301) rfl (l' := (own_L7 f ah r bb (own_u28 W q) (3 : Int32) (22 : Int32) (7 : Int32))) rfl ?_
    refine XS.goto X4.here hx rfl (pc0 := 304) (pc' := 239) rfl (hb hby dE_304) (by decide) (by decide) ?_
    exact oK
  exact cont T4 _ _ X4 e4 N4 f11 K4 f9 V4
set_option maxRecDepth 65536 in
set_option maxHeartbeats 40000000 in
theorem own_turn7 {p : Program} {l : Launch} {e : Env} {s : State} {m : MethodId} {args : Array Value} {below : List Frame} {meth : Method} {c : Code} {Z : State} {a0 : Array Value} {h0 : Heap} {n0 : Nat} {P : Option Value → Heap → List Loc → Prop} (f ah bb : Addr) (kf kb : ClassId) (wB : Addr) (r q : Int64) (W : List Int64) (bs : List Int32) (Tz : State) (locs : List Loc) (hz : Heap) (hx : p.tables.exec = Jvm.exec) (hZ : Z.Warmed39 s.vm) (hw : ∀ d ∈ tables_1, d.before a0 Z = true) (hby : c.code = prog_16_method_5_code) (hml : c.maxLocals = 10) (hown : s.vm.findClass "com/example/gate_to_gate/gatetogate/io/Field25519" = some m.cls) (hlk : meth.locks = false) (hret : meth.sig.returnType = some (.array .byte)) (SB : Sta Z Z.heap "com/example/gate_to_gate/gatetogate/io/Field25519" "BITS" "[I" (.ref wB)) (TB : ∀ j, j < 10 → ORd Z Z.heap wB .int (Int32.ofNat j) (.int (own_bits j))) (Z0 : n0 ≤ h0.size) (gah : n0 ≤ ah) (sah : h0.size ≤ ah) (gbb : n0 ≤ bb) (sbb : h0.size ≤ bb) (nab : ah ≠ bb) (hW : W.length = 10) (hbs : bs.length = 32) (Xz : Stand p l e ({ frames := 1, cells := 2, slots := 42, locals := 14 } : Room) s m args below meth c Tz locs 2 42) (ez : Tz.heap = hz) (Nz : Fr n0 locs) (Oz : Old Z n0 hz) (Kz : Keep h0 hz []) (Vz : Arv Z hz ah kf .long (10 : Int32) (W.map Value.long) (.long (0 : Int64))) (Bz : Arv Z hz bb kb .byte (32 : Int32) (bs.map Value.int) (.int (0 : Int32))) (cont : ∀ (T' : State) (locs' : List Loc) (h' : Heap), Stand p l e ({ frames := 1, cells := 2, slots := 42, locals := 14 } : Room) s m args below meth c T' locs' 2 42 → T'.heap = h' → Fr n0 locs' → Old Z n0 h' → Keep h0 h' [] → Arv Z h' ah kf .long (10 : Int32) (W.map Value.long) (.long (0 : Int64)) → Arv Z h' bb kb .byte (32 : Int32) ((((bs.set 22 (own_u29 W q).toInt32.toInt8.toInt32.toInt8.toInt32).set 23 (own_u30 W q).toInt32.toInt8.toInt32.toInt8.toInt32).set 24 (own_u31 W q).toInt32.toInt8.toInt32.toInt8.toInt32).map Value.int) (.int (0 : Int32)) → OG p e below s 2 42 P (T'.setTop (mkF m 239 #[.val (.ref f), .val (.ref ah), .val (.long r), .second, .val (.ref bb), .val (.long (own_u32 W q)), .second, .val (.int (4 : Int32)), .val (.int (25 : Int32)), .val (.int (8 : Int32))] []))) :
    OG p e below s 2 42 P (Tz.setTop (mkF m 239 #[.val (.ref f), .val (.ref ah), .val (.long r), .second, .val (.ref bb), .val (.long q), .second, .val (.int (3 : Int32)), .val (.int (22 : Int32)), .val (.int (7 : Int32))] [])) := by
  refine OG.of (A := Tz.setTop (mkF m 251 (own_L7 f ah r bb q (3 : Int32) (22 : Int32) (7 : Int32)) [(.int (7 : Int32)), (.ref ah), (.long q)])) (fun oT oK => ?_) ?_
  · skip
    refine XS.iload Xz.here hx rfl (hb hby dE_239) rfl  ?_
    show Steps p.tables e below (Tz.setTop (mkF m 241 (own_L7 f ah r bb q (3 : Int32) (22 : Int32) (7 : Int32)) [(.int (7 : Int32))])) _
    refine XS.bipush Xz.here hx rfl (hb hby dE_241) ?_
    show Steps p.tables e below (Tz.setTop (mkF m 243 (own_L7 f ah r bb q (3 : Int32) (22 : Int32) (7 : Int32)) [(.int (10 : Int32)), (.int (7 : Int32))])) _
    refine XS.icmpNo Xz.here hx rfl (hb hby dE_243) rfl (XT.ii_ge_f (by decide)) ?_
    show Steps p.tables e below (Tz.setTop (mkF m 246 (own_L7 f ah r bb q (3 : Int32) (22 : Int32) (7 : Int32)) [])) _
    refine XT.lload Xz.here hx rfl (hb hby dE_246) rfl  ?_
    refine XS.aloadN Xz.here hx rfl (hb hby dE_248) rfl rfl  ?_
    show Steps p.tables e below (Tz.setTop (mkF m 249 (own_L7 f ah r bb q (3 : Int32) (22 : Int32) (7 : Int32)) [(.ref ah), (.long q)])) _
    refine XS.iload Xz.here hx rfl (hb hby dE_249) rfl  ?_
    exact oK
  obtain ⟨clf1, Arf1, If1, Hf1⟩ := own_rdL Vz hW (j := (7 : Int32)) (i := 7) rfl (by decide)
  refine OG.of (Xz.laload hx (j := (7 : Int32)) (v := (.long (W.getD 7 0))) (by rw [ez]; exact Arf1.1) (State.isArrayOf_alike hZ.alike Arf1.2.1) Arf1.2.2 If1 Hf1 (g := (mkF m 251 (own_L7 f ah r bb q (3 : Int32) (22 : Int32) (7 : Int32)) [(.int (7 : Int32)), (.ref ah), (.long q)])) rfl rfl (hb hby dE_251)) ?_
  show OG _ _ _ _ _ _ _ (Tz.setTop (mkF m 252 (own_L7 f ah r bb q (3 : Int32) (22 : Int32) (7 : Int32)) [(.long (W.getD 7 0)), (.long q)]))
  refine OG.of (A := Tz.setTop (mkF m 258 (own_L7 f ah r bb (q ||| ((W.getD 7 0) <<< ((3 : Int32).toInt64 &&& 63))) (3 : Int32) (22 : Int32) (7 : Int32)) [])) (fun oT oK => ?_) ?_
  · skip
    refine XS.iload Xz.here hx rfl (hb hby dE_252) rfl  ?_
    show Steps p.tables e below (Tz.setTop (mkF m 254 (own_L7 f ah r bb q (3 : Int32) (22 : Int32) (7 : Int32)) [(.int (3 : Int32)), (.long (W.getD 7 0)), (.long q)])) _
    refine XT.lshl Xz.here hx rfl (hb hby dE_254) rfl ?_
    refine XT.lor Xz.here hx rfl (hb hby dE_255) rfl ?_
    show Steps p.tables e below (Tz.setTop (mkF m 256 (own_L7 f ah r bb q (3 : Int32) (22 : Int32) (7 : Int32)) [(.long (q ||| ((W.getD 7 0) <<< ((3 : Int32).toInt64 &&& 63))))])) _
    refine XT.lstore Xz.here hx rfl (hb hby dE_256) rfl (l' := (own_L7 f ah r bb (q ||| ((W.getD 7 0) <<< ((3 : Int32).toInt64 &&& 63))) (3 : Int32) (22 : Int32) (7 : Int32))) rfl ?_
    exact oK
  show OG _ _ _ _ _ _ _ (Tz.setTop (mkF m 258 (own_L7 f ah r bb (own_u29 W q) (3 : Int32) (22 : Int32) (7 : Int32)) []))
  refine OG.of (A := Tz.setTop (mkF m 260 (own_L7 f ah r bb (own_u29 W q) (3 : Int32) (22 : Int32) (7 : Int32)) [(.int (3 : Int32))])) (fun oT oK => ?_) ?_
  · skip
    refine XS.iload Xz.here hx rfl (hb hby dE_258) rfl  ?_
    exact oK
  obtain ⟨T1, X1, e1, st1⟩ := getS2 Xz hx hZ hown (host := "") (Or.inl (own_at hw 8 rfl)) Via.refl ez (SB.ext (Oz).2) (g := (mkF m 260 (own_L7 f ah r bb (own_u29 W q) (3 : Int32) (22 : Int32) (7 : Int32)) [(.int (3 : Int32))])) rfl (hb hby dE_260)
  refine OG.of st1 ?_
  show OG _ _ _ _ _ _ _ (T1.setTop (mkF m 263 (own_L7 f ah r bb (own_u29 W q) (3 : Int32) (22 : Int32) (7 : Int32)) [(.ref wB), (.int (3 : Int32))]))
  refine OG.of (A := T1.setTop (mkF m 265 (own_L7 f ah r bb (own_u29 W q) (3 : Int32) (22 : Int32) (7 : Int32)) [(.int (7 : Int32)), (.ref wB), (.int (3 : Int32))])) (fun oT oK => ?_) ?_
  · skip
    refine XS.iload X1.here hx rfl (hb hby dE_263) rfl  ?_
    exact oK
  have cf2 := ((TB 7 (by decide)).ext (Oz).2)
  obtain ⟨clf2, Arf2, If2, Hf2⟩ := cf2
  refine OG.of (X1.iaload hx (j := (7 : Int32)) (v := (.int (25 : Int32))) (by rw [e1]; exact Arf2.1) (State.isArrayOf_alike hZ.alike Arf2.2.1) Arf2.2.2 If2 Hf2 (g := (mkF m 265 (own_L7 f ah r bb (own_u29 W q) (3 : Int32) (22 : Int32) (7 : Int32)) [(.int (7 : Int32)), (.ref wB), (.int (3 : Int32))])) rfl rfl (hb hby dE_265)) ?_
  show OG _ _ _ _ _ _ _ (T1.setTop (mkF m 266 (own_L7 f ah r bb (own_u29 W q) (3 : Int32) (22 : Int32) (7 : Int32)) [(.int (25 : Int32)), (.int (3 : Int32))]))
  refine OG.of (A := T1.setTop (mkF m 284 (own_L7 f ah r bb (own_u29 W q) (28 : Int32) (22 : Int32) (7 : Int32)) [(.int (own_u29 W q).toInt32.toInt8.toInt32), (.int (22 : Int32)), (.ref bb)])) (fun oT oK => ?_) ?_
  · skip
    refine XS.iadd X1.here hx rfl (hb hby dE_266) rfl ?_
    show Steps p.tables e below (T1.setTop (mkF m 267 (own_L7 f ah r bb (own_u29 W q) (3 : Int32) (22 : Int32) (7 : Int32)) [(.int (28 : Int32))])) _
    refine XS.istore X1.here hx rfl (hb hby dE_267) rfl (l' := (own_L7 f ah r bb (own_u29 W q) (28 : Int32) (22 : Int32) (7 : Int32))) rfl ?_
    refine XS.iload X1.here hx rfl (hb hby dE_269) rfl  ?_
    show Steps p.tables e below (T1.setTop (mkF m 271 (own_L7 f ah r bb (own_u29 W q) (28 : Int32) (22 : Int32) (7 : Int32)) [(.int (28 : Int32))])) _
    refine XS.bipush X1.here hx rfl (hb hby dE_271) ?_
    show Steps p.tables e below (T1.setTop (mkF m 273 (own_L7 f ah r bb (own_u29 W q) (28 : Int32) (22 : Int32) (7 : Int32)) [(.int (8 : Int32)), (.int (28 : Int32))])) _
    refine XS.icmpNo X1.here hx rfl (hb hby dE_273) rfl (XT.ii_lt_f (by decide)) ?_
    show Steps p.tables e below (T1.setTop (mkF m 276 (own_L7 f ah r bb (own_u29 W q) (28 : Int32) (22 : Int32) (7 : Int32)) [])) _
    refine XS.aload X1.here hx rfl (hb hby dE_276) rfl rfl  ?_
    refine XS.iload X1.here hx rfl (hb hby dE_278) rfl  ?_
    show Steps p.tables e below (T1.setTop (mkF m 280 (own_L7 f ah r bb (own_u29 W q) (28 : Int32) (22 : Int32) (7 : Int32)) [(.int (22 : Int32)), (.ref bb)])) _
    refine XT.lload X1.here hx rfl (hb hby dE_280) rfl  ?_
    refine XT.l2i X1.here hx rfl (hb hby dE_282) rfl ?_
    show Steps p.tables e below (T1.setTop (mkF m 283 (own_L7 f ah r bb (own_u29 W q) (28 : Int32) (22 : Int32) (7 : Int32)) [(.int (own_u29 W q).toInt32), (.int (22 : Int32)), (.ref bb)])) _
    refine XT.i2b X1.here hx rfl (hb hby dE_283) rfl ?_
    exact oK
  obtain ⟨T2, h2, X2, e2, W2, V2, st2⟩ := own_stB X1 hx hZ e1 Bz hbs (j := (22 : Int32)) (i := 22) rfl (by decide) (g := (mkF m 284 (own_L7 f ah r bb (own_u29 W q) (28 : Int32) (22 : Int32) (7 : Int32)) [(.int (own_u29 W q).toInt32.toInt8.toInt32), (.int (22 : Int32)), (.ref bb)])) rfl rfl (hb hby dE_284)
  have f3 := (Vz).other W2 nab
  have f5 := (Oz).wr W2 gbb
  have K2 : Keep h0 h2 [] := (Kz).wr W2 (Or.inr sbb)
  have Z2 : n0 ≤ h2.size := Nat.le_trans (Nat.le_trans Z0 Kz.1) (Keep.of_wr W2).1
  have N2 := Fr.snoc X2 Nz gbb
  refine OG.of st2 ?_
  show OG _ _ _ _ _ _ _ (T2.setTop (mkF m 285 (own_L7 f ah r bb (own_u29 W q) (28 : Int32) (22 : Int32) (7 : Int32)) []))
  refine OG.of (A := T2.setTop (mkF m 295 (own_L7 f ah r bb (XT.ushrL (own_u29 W q) (8 : Int32)) (28 : Int32) (23 : Int32) (7 : Int32)) [])) (fun oT oK => ?_) ?_
  · skip
    refine XS.iinc X2.here hx rfl (hb hby dE_285) rfl (l' := (own_L7 f ah r bb (own_u29 W q) (28 : Int32) (23 : Int32) (7 : Int32))) rfl ?_
    show Steps p.tables e below (T2.setTop (mkF m 288 (own_L7 f ah r bb (own_u29 W q) (28 : Int32) (23 : Int32) (7 : Int32)) [])) _
    refine XT.lload X2.here hx rfl (hb hby dE_288) rfl  ?_
    refine XS.bipush X2.here hx rfl (hb hby dE_290) ?_
    show Steps p.tables e below (T2.setTop (mkF m 292 (own_L7 f ah r bb (own_u29 W q) (28 : Int32) (23 : Int32) (7 : Int32)) [(.int (8 : Int32)), (.long (own_u29 W q))])) _
    refine XT.lushr X2.here hx rfl (hb hby dE_292) rfl ?_
    refine XT.lstore X2.here hx rfl (hb hby dE_293) rfl (l' := (own_L7 f ah r bb (XT.ushrL (own_u29 W q) (8 : Int32)) (28 : Int32) (23 : Int32) (7 : Int32))) rfl ?_
    exact oK
  show OG _ _ _ _ _ _ _ (T2.setTop (mkF m 295 (own_L7 f ah r bb (own_u30 W q) (28 : Int32) (23 : Int32) (7 : Int32)) []))
  refine OG.of (A := T2.setTop (mkF m 284 (own_L7 f ah r bb (own_u30 W q) (20 : Int32) (23 : Int32) (7 : Int32)) [(.int (own_u30 W q).toInt32.toInt8.toInt32), (.int (23 : Int32)), (.ref bb)])) (fun oT oK => ?_) ?_
  · skip
    refine XS.iinc X2.here hx rfl (hb hby dE_295) rfl (l' := (own_L7 f ah r bb (own_u30 W q) (20 : Int32) (23 : Int32) (7 : Int32))) rfl ?_
    show Steps p.tables e below (T2.setTop (mkF m 298 (own_L7 f ah r bb (own_u30 W q) (20 : Int32) (23 : Int32) (7 : Int32)) [])) _
    refine XS.goto X2.here hx rfl (pc0 := 298) (pc' := 269) rfl (hb hby dE_298) (by decide) (by decide) ?_
    refine XS.iload X2.here hx rfl (hb hby dE_269) rfl  ?_
    show Steps p.tables e below (T2.setTop (mkF m 271 (own_L7 f ah r bb (own_u30 W q) (20 : Int32) (23 : Int32) (7 : Int32)) [(.int (20 : Int32))])) _
    refine XS.bipush X2.here hx rfl (hb hby dE_271) ?_
    show Steps p.tables e below (T2.setTop (mkF m 273 (own_L7 f ah r bb (own_u30 W q) (20 : Int32) (23 : Int32) (7 : Int32)) [(.int (8 : Int32)), (.int (20 : Int32))])) _
    refine XS.icmpNo X2.here hx rfl (hb hby dE_273) rfl (XT.ii_lt_f (by decide)) ?_
    show Steps p.tables e below (T2.setTop (mkF m 276 (own_L7 f ah r bb (own_u30 W q) (20 : Int32) (23 : Int32) (7 : Int32)) [])) _
    refine XS.aload X2.here hx rfl (hb hby dE_276) rfl rfl  ?_
    refine XS.iload X2.here hx rfl (hb hby dE_278) rfl  ?_
    show Steps p.tables e below (T2.setTop (mkF m 280 (own_L7 f ah r bb (own_u30 W q) (20 : Int32) (23 : Int32) (7 : Int32)) [(.int (23 : Int32)), (.ref bb)])) _
    refine XT.lload X2.here hx rfl (hb hby dE_280) rfl  ?_
    refine XT.l2i X2.here hx rfl (hb hby dE_282) rfl ?_
    show Steps p.tables e below (T2.setTop (mkF m 283 (own_L7 f ah r bb (own_u30 W q) (20 : Int32) (23 : Int32) (7 : Int32)) [(.int (own_u30 W q).toInt32), (.int (23 : Int32)), (.ref bb)])) _
    refine XT.i2b X2.here hx rfl (hb hby dE_283) rfl ?_
    exact oK
  obtain ⟨T3, h3, X3, e3, W3, V3, st3⟩ := own_stB X2 hx hZ e2 V2 ((List.length_set ..).trans hbs) (j := (23 : Int32)) (i := 23) rfl (by decide) (g := (mkF m 284 (own_L7 f ah r bb (own_u30 W q) (20 : Int32) (23 : Int32) (7 : Int32)) [(.int (own_u30 W q).toInt32.toInt8.toInt32), (.int (23 : Int32)), (.ref bb)])) rfl rfl (hb hby dE_284)
  have f6 := (f3).other W3 nab
  have f8 := (f5).wr W3 gbb
  have K3 : Keep h0 h3 [] := (K2).wr W3 (Or.inr sbb)
  have Z3 : n0 ≤ h3.size := Nat.le_trans Z2 (Keep.of_wr W3).1
  have N3 := Fr.snoc X3 N2 gbb
  refine OG.of st3 ?_
  show OG _ _ _ _ _ _ _ (T3.setTop (mkF m 285 (own_L7 f ah r bb (own_u30 W q) (20 : Int32) (23 : Int32) (7 : Int32)) []))
  refine OG.of (A := T3.setTop (mkF m 295 (own_L7 f ah r bb (XT.ushrL (own_u30 W q) (8 : Int32)) (20 : Int32) (24 : Int32) (7 : Int32)) [])) (fun oT oK => ?_) ?_
  · skip
    refine XS.iinc X3.here hx rfl (hb hby dE_285) rfl (l' := (own_L7 f ah r bb (own_u30 W q) (20 : Int32) (24 : Int32) (7 : Int32))) rfl ?_
    show Steps p.tables e below (T3.setTop (mkF m 288 (own_L7 f ah r bb (own_u30 W q) (20 : Int32) (24 : Int32) (7 : Int32)) [])) _
    refine XT.lload X3.here hx rfl (hb hby dE_288) rfl  ?_
    refine XS.bipush X3.here hx rfl (hb hby dE_290) ?_
    show Steps p.tables e below (T3.setTop (mkF m 292 (own_L7 f ah r bb (own_u30 W q) (20 : Int32) (24 : Int32) (7 : Int32)) [(.int (8 : Int32)), (.long (own_u30 W q))])) _
    refine XT.lushr X3.here hx rfl (hb hby dE_292) rfl ?_
    refine XT.lstore X3.here hx rfl (hb hby dE_293) rfl (l' := (own_L7 f ah r bb (XT.ushrL (own_u30 W q) (8 : Int32)) (20 : Int32) (24 : Int32) (7 : Int32))) rfl ?_
    exact oK
  show OG _ _ _ _ _ _ _ (T3.setTop (mkF m 295 (own_L7 f ah r bb (own_u31 W q) (20 : Int32) (24 : Int32) (7 : Int32)) []))
  refine OG.of (A := T3.setTop (mkF m 284 (own_L7 f ah r bb (own_u31 W q) (12 : Int32) (24 : Int32) (7 : Int32)) [(.int (own_u31 W q).toInt32.toInt8.toInt32), (.int (24 : Int32)), (.ref bb)])) (fun oT oK => ?_) ?_
  · skip
    refine XS.iinc X3.here hx rfl (hb hby dE_295) rfl (l' := (own_L7 f ah r bb (own_u31 W q) (12 : Int32) (24 : Int32) (7 : Int32))) rfl ?_
    show Steps p.tables e below (T3.setTop (mkF m 298 (own_L7 f ah r bb (own_u31 W q) (12 : Int32) (24 : Int32) (7 : Int32)) [])) _
    refine XS.goto X3.here hx rfl (pc0 := 298) (pc' := 269) rfl (hb hby dE_298) (by decide) (by decide) ?_
    refine XS.iload X3.here hx rfl (hb hby dE_269) rfl  ?_
    show Steps p.tables e below (T3.setTop (mkF m 271 (own_L7 f ah r bb (own_u31 W q) (12 : Int32) (24 : Int32) (7 : Int32)) [(.int (12 : Int32))])) _
    refine XS.bipush X3.here hx rfl (hb hby dE_271) ?_
    show Steps p.tables e below (T3.setTop (mkF m 273 (own_L7 f ah r bb (own_u31 W q) (12 : Int32) (24 : Int32) (7 : Int32)) [(.int (8 : Int32)), (.int (12 : Int32))])) _
    refine XS.icmpNo X3.here hx rfl (hb hby dE_273) rfl (XT.ii_lt_f (by decide)) ?_
    show Steps p.tables e below (T3.setTop (mkF m 276 (own_L7 f ah r bb (own_u31 W q) (12 : Int32) (24 : Int32) (7 : Int32)) [])) _
    refine XS.aload X3.here hx rfl (hb hby dE_276) rfl rfl  ?_
    refine XS.iload X3.here hx rfl (hb hby dE_278) rfl  ?_
    show Steps p.tables e below (T3.setTop (mkF m 280 (own_L7 f ah r bb (own_u31 W q) (12 : Int32) (24 : Int32) (7 : Int32)) [(.int (24 : Int32)), (.ref bb)])) _
    refine XT.lload X3.here hx rfl (hb hby dE_280) rfl  ?_
    refine XT.l2i X3.here hx rfl (hb hby dE_282) rfl ?_
    show Steps p.tables e below (T3.setTop (mkF m 283 (own_L7 f ah r bb (own_u31 W q) (12 : Int32) (24 : Int32) (7 : Int32)) [(.int (own_u31 W q).toInt32), (.int (24 : Int32)), (.ref bb)])) _
    refine XT.i2b X3.here hx rfl (hb hby dE_283) rfl ?_
    exact oK
  obtain ⟨T4, h4, X4, e4, W4, V4, st4⟩ := own_stB X3 hx hZ e3 V3 ((List.length_set ..).trans ((List.length_set ..).trans hbs)) (j := (24 : Int32)) (i := 24) rfl (by decide) (g := (mkF m 284 (own_L7 f ah r bb (own_u31 W q) (12 : Int32) (24 : Int32) (7 : Int32)) [(.int (own_u31 W q).toInt32.toInt8.toInt32), (.int (24 : Int32)), (.ref bb)])) rfl rfl (hb hby dE_284)
  have f9 := (f6).other W4 nab
  have f11 := (f8).wr W4 gbb
  have K4 : Keep h0 h4 [] := (K3).wr W4 (Or.inr sbb)
  have Z4 : n0 ≤ h4.size := Nat.le_trans Z3 (Keep.of_wr W4).1
  have N4 := Fr.snoc X4 N3 gbb
  refine OG.of st4 ?_
  show OG _ _ _ _ _ _ _ (T4.setTop (mkF m 285 (own_L7 f ah r bb (own_u31 W q) (12 : Int32) (24 : Int32) (7 : Int32)) []))
  refine OG.of (A := T4.setTop (mkF m 295 (own_L7 f ah r bb (XT.ushrL (own_u31 W q) (8 : Int32)) (12 : Int32) (25 : Int32) (7 : Int32)) [])) (fun oT oK => ?_) ?_
  · skip
    refine XS.iinc X4.here hx rfl (hb hby dE_285) rfl (l' := (own_L7 f ah r bb (own_u31 W q) (12 : Int32) (25 : Int32) (7 : Int32))) rfl ?_
    show Steps p.tables e below (T4.setTop (mkF m 288 (own_L7 f ah r bb (own_u31 W q) (12 : Int32) (25 : Int32) (7 : Int32)) [])) _
    refine XT.lload X4.here hx rfl (hb hby dE_288) rfl  ?_
    refine XS.bipush X4.here hx rfl (hb hby dE_290) ?_
    show Steps p.tables e below (T4.setTop (mkF m 292 (own_L7 f ah r bb (own_u31 W q) (12 : Int32) (25 : Int32) (7 : Int32)) [(.int (8 : Int32)), (.long (own_u31 W q))])) _
    refine XT.lushr X4.here hx rfl (hb hby dE_292) rfl ?_
    refine XT.lstore X4.here hx rfl (hb hby dE_293) rfl (l' := (own_L7 f ah r bb (XT.ushrL (own_u31 W q) (8 : Int32)) (12 : Int32) (25 : Int32) (7 : Int32))) rfl ?_
    exact oK
  show OG _ _ _ _ _ _ _ (T4.setTop (mkF m 295 (own_L7 f ah r bb (own_u32 W q) (12 : Int32) (25 : Int32) (7 : Int32)) []))
  refine OG.of (A := T4.setTop (mkF m 239 (own_L7 f ah r bb (own_u32 W q) (4 : Int32) (25 : Int32) (8 : Int32)) [])) (fun oT oK => ?_) ?_
  · skip
    refine XS.iinc X4.here hx rfl (hb hby dE_295) rfl (l' := (own_L7 f ah r bb (own_u32 W q) (4 : Int32) (25 : Int32) (7 : Int32))) rfl ?_
    show Steps p.tables e below (T4.setTop (mkF m 298 (own_L7 f ah r bb (own_u32 W q) (4 : Int32) (25 : Int32) (7 : Int32)) [])) _
    refine XS.goto X4.here hx rfl (pc0 := 298) (pc' := 269) rfl (hb hby dE_298) (by decide) (by decide) ?_
    refine XS.iload X4.here hx rfl (hb hby dE_269) rfl  ?_
    show Steps p.tables e below (T4.setTop (mkF m 271 (own_L7 f ah r bb (own_u32 W q) (4 : Int32) (25 : Int32) (7 : Int32)) [(.int (4 : Int32))])) _
    refine XS.bipush X4.here hx rfl (hb hby dE_271) ?_
    show Steps p.tables e below (T4.setTop (mkF m 273 (own_L7 f ah r bb (own_u32 W q) (4 : Int32) (25 : Int32) (7 : Int32)) [(.int (8 : Int32)), (.int (4 : Int32))])) _
    refine XS.icmpYes X4.here hx rfl (pc0 := 273) (pc' := 301) rfl (hb hby dE_273) rfl (XT.ii_lt_t (by decide)) (by decide) (by decide) ?_
    show Steps p.tables e below (T4.setTop (mkF m 301 (own_L7 f ah r bb (own_u32 W q) (4 : Int32) (25 : Int32) (7 : Int32)) [])) _
    refine XS.iinc X4.here hx rfl (hb hby dE_301) rfl (l' := (own_L7 f ah r bb (own_u32 W q) (4 : Int32) (25 : Int32) (8 : Int32))) rfl ?_
    refine XS.goto X4.here hx rfl (pc0 := 304) (pc' := 239) rfl (hb hby dE_304) (by decide) (by decide) ?_
    exact oK
  exact cont T4 _ _ X4 e4 N4 f11 K4 f9 V4
set_option maxRecDepth 65536 in
set_option maxHeartbeats 40000000 in
theorem own_turn8 {p : Program} {l : Launch} {e : Env} {s : State} {m : MethodId} {args : Array Value} {below : List Frame} {meth : Method} {c : Code} {Z : State} {a0 : Array Value} {h0 : Heap} {n0 : Nat} {P : Option Value → Heap → List Loc → Prop} (f ah bb : Addr) (kf kb : ClassId) (wB : Addr) (r q : Int64) (W : List Int64) (bs : List Int32) (Tz : State) (locs : List Loc) (hz : Heap) (hx : p.tables.exec = Jvm.exec) (hZ : Z.Warmed39 s.vm) (hw : ∀ d ∈ tables_1, d.before a0 Z = true) (hby : c.code = prog_16_method_5_code) (hml : c.maxLocals = 10) (hown : s.vm.findClass "com/example/gate_to_gate/gatetogate/io/Field25519" = some m.cls) (hlk : meth.locks = false) (hret : meth.sig.returnType = some (.array .byte)) (SB : Sta Z Z.heap "com/example/gate_to_gate/gatetogate/io/Field25519" "BITS" "[I" (.ref wB)) (TB : ∀ j, j < 10 → ORd Z Z.heap wB .int (Int32.ofNat j) (.int (own_bits j))) (Z0 : n0 ≤ h0.size) (gah : n0 ≤ ah) (sah : h0.size ≤ ah) (gbb : n0 ≤ bb) (sbb : h0.size ≤ bb) (nab : ah ≠ bb) (hW : W.length = 10) (hbs : bs.length = 32) (Xz : Stand p l e ({ frames := 1, cells := 2, slots := 42, locals := 14 } : Room) s m args below meth c Tz locs 2 42) (ez : Tz.heap = hz) (Nz : Fr n0 locs) (Oz : Old Z n0 hz) (Kz : Keep h0 hz []) (Vz : Arv Z hz ah kf .long (10 : Int32) (W.map Value.long) (.long (0 : Int64))) (Bz : Arv Z hz bb kb .byte (32 : Int32) (bs.map Value.int) (.int (0 : Int32))) (cont : ∀ (T' : State) (locs' : List Loc) (h' : Heap), Stand p l e ({ frames := 1, cells := 2, slots := 42, locals := 14 } : Room) s m args below meth c T' locs' 2 42 → T'.heap = h' → Fr n0 locs' → Old Z n0 h' → Keep h0 h' [] → Arv Z h' ah kf .long (10 : Int32) (W.map Value.long) (.long (0 : Int64)) → Arv Z h' bb kb .byte (32 : Int32) ((((bs.set 25 (own_u33 W q).toInt32.toInt8.toInt32.toInt8.toInt32).set 26 (own_u34 W q).toInt32.toInt8.toInt32.toInt8.toInt32).set 27 (own_u35 W q).toInt32.toInt8.toInt32.toInt8.toInt32).map Value.int) (.int (0 : Int32)) → OG p e below s 2 42 P (T'.setTop (mkF m 239 #[.val (.ref f), .val (.ref ah), .val (.long r), .second, .val (.ref bb), .val (.long (own_u36 W q)), .second, .val (.int (6 : Int32)), .val (.int (28 : Int32)), .val (.int (9 : Int32))] []))) :
    OG p e below s 2 42 P (Tz.setTop (mkF m 239 #[.val (.ref f), .val (.ref ah), .val (.long r), .second, .val (.ref bb), .val (.long q), .second, .val (.int (4 : Int32)), .val (.int (25 : Int32)), .val (.int (8 : Int32))] [])) := by
  refine OG.of (A := Tz.setTop (mkF m 251 (own_L7 f ah r bb q (4 : Int32) (25 : Int32) (8 : Int32)) [(.int (8 : Int32)), (.ref ah), (.long q)])) (fun oT oK => ?_) ?_
  · skip
    refine XS.iload Xz.here hx rfl (hb hby dE_239) rfl  ?_
    show Steps p.tables e below (Tz.setTop (mkF m 241 (own_L7 f ah r bb q (4 : Int32) (25 : Int32) (8 : Int32)) [(.int (8 : Int32))])) _
    refine XS.bipush Xz.here hx rfl (hb hby dE_241) ?_
    show Steps p.tables e below (Tz.setTop (mkF m 243 (own_L7 f ah r bb q (4 : Int32) (25 : Int32) (8 : Int32)) [(.int (10 : Int32)), (.int (8 : Int32))])) _
    refine XS.icmpNo Xz.here hx rfl (hb hby dE_243) rfl (XT.ii_ge_f (by decide)) ?_
    show Steps p.tables e below (Tz.setTop (mkF m 246 (own_L7 f ah r bb q (4 : Int32) (25 : Int32) (8 : Int32)) [])) _
    refine XT.lload Xz.here hx rfl (hb hby dE_246) rfl  ?_
    refine XS.aloadN Xz.here hx rfl (hb hby dE_248) rfl rfl  ?_
    show Steps p.tables e below (Tz.setTop (mkF m 249 (own_L7 f ah r bb q (4 : Int32) (25 : Int32) (8 : Int32)) [(.ref ah), (.long q)])) _
    refine XS.iload Xz.here hx rfl (hb hby dE_249) rfl  ?_
    exact oK
  obtain ⟨clf1, Arf1, If1, Hf1⟩ := own_rdL Vz hW (j := (8 : Int32)) (i := 8) rfl (by decide)
  refine OG.of (Xz.laload hx (j := (8 : Int32)) (v := (.long (W.getD 8 0))) (by rw [ez]; exact Arf1.1) (State.isArrayOf_alike hZ.alike Arf1.2.1) Arf1.2.2 If1 Hf1 (g := (mkF m 251 (own_L7 f ah r bb q (4 : Int32) (25 : Int32) (8 : Int32)) [(.int (8 : Int32)), (.ref ah), (.long q)])) rfl rfl (hb hby dE_251)) ?_
  show OG _ _ _ _ _ _ _ (Tz.setTop (mkF m 252 (own_L7 f ah r bb q (4 : Int32) (25 : Int32) (8 : Int32)) [(.long (W.getD 8 0)), (.long q)]))
  refine OG.of (A := Tz.setTop (mkF m 258 (own_L7 f ah r bb (q ||| ((W.getD 8 0) <<< ((4 : Int32).toInt64 &&& 63))) (4 : Int32) (25 : Int32) (8 : Int32)) [])) (fun oT oK => ?_) ?_
  · skip
    refine XS.iload Xz.here hx rfl (hb hby dE_252) rfl  ?_
    show Steps p.tables e below (Tz.setTop (mkF m 254 (own_L7 f ah r bb q (4 : Int32) (25 : Int32) (8 : Int32)) [(.int (4 : Int32)), (.long (W.getD 8 0)), (.long q)])) _
    refine XT.lshl Xz.here hx rfl (hb hby dE_254) rfl ?_
    refine XT.lor Xz.here hx rfl (hb hby dE_255) rfl ?_
    show Steps p.tables e below (Tz.setTop (mkF m 256 (own_L7 f ah r bb q (4 : Int32) (25 : Int32) (8 : Int32)) [(.long (q ||| ((W.getD 8 0) <<< ((4 : Int32).toInt64 &&& 63))))])) _
    refine XT.lstore Xz.here hx rfl (hb hby dE_256) rfl (l' := (own_L7 f ah r bb (q ||| ((W.getD 8 0) <<< ((4 : Int32).toInt64 &&& 63))) (4 : Int32) (25 : Int32) (8 : Int32))) rfl ?_
    exact oK
  show OG _ _ _ _ _ _ _ (Tz.setTop (mkF m 258 (own_L7 f ah r bb (own_u33 W q) (4 : Int32) (25 : Int32) (8 : Int32)) []))
  refine OG.of (A := Tz.setTop (mkF m 260 (own_L7 f ah r bb (own_u33 W q) (4 : Int32) (25 : Int32) (8 : Int32)) [(.int (4 : Int32))])) (fun oT oK => ?_) ?_
  · skip
    refine XS.iload Xz.here hx rfl (hb hby dE_258) rfl  ?_
    exact oK
  obtain ⟨T1, X1, e1, st1⟩ := getS2 Xz hx hZ hown (host := "") (Or.inl (own_at hw 8 rfl)) Via.refl ez (SB.ext (Oz).2) (g := (mkF m 260 (own_L7 f ah r bb (own_u33 W q) (4 : Int32) (25 : Int32) (8 : Int32)) [(.int (4 : Int32))])) rfl (hb hby dE_260)
  refine OG.of st1 ?_
  show OG _ _ _ _ _ _ _ (T1.setTop (mkF m 263 (own_L7 f ah r bb (own_u33 W q) (4 : Int32) (25 : Int32) (8 : Int32)) [(.ref wB), (.int (4 : Int32))]))
  refine OG.of (A := T1.setTop (mkF m 265 (own_L7 f ah r bb (own_u33 W q) (4 : Int32) (25 : Int32) (8 : Int32)) [(.int (8 : Int32)), (.ref wB), (.int (4 : Int32))])) (fun oT oK => ?_) ?_
  · skip
    refine XS.iload X1.here hx rfl (hb hby dE_263) rfl  ?_
    exact oK
  have cf2 := ((TB 8 (by decide)).ext (Oz).2)
  obtain ⟨clf2, Arf2, If2, Hf2⟩ := cf2
  refine OG.of (X1.iaload hx (j := (8 : Int32)) (v := (.int (26 : Int32))) (by rw [e1]; exact Arf2.1) (State.isArrayOf_alike hZ.alike Arf2.2.1) Arf2.2.2 If2 Hf2 (g := (mkF m 265 (own_L7 f ah r bb (own_u33 W q) (4 : Int32) (25 : Int32) (8 : Int32)) [(.int (8 : Int32)), (.ref wB), (.int (4 : Int32))])) rfl rfl (hb hby dE_265)) ?_
  show OG _ _ _ _ _ _ _ (T1.setTop (mkF m 266 (own_L7 f ah r bb (own_u33 W q) (4 : Int32) (25 : Int32) (8 : Int32)) [(.int (26 : Int32)), (.int (4 : Int32))]))
  refine OG.of (A := T1.setTop (mkF m 284 (own_L7 f ah r bb (own_u33 W q) (30 : Int32) (25 : Int32) (8 : Int32)) [(.int (own_u33 W q).toInt32.toInt8.toInt32), (.int (25 : Int32)), (.ref bb)])) (fun oT oK => ?_) ?_
  · skip
    refine XS.iadd X1.here hx rfl (hb hby dE_266) rfl ?_
    show Steps p.tables e below (T1.setTop (mkF m 267 (own_L7 f ah r bb (own_u33 W q) (4 : Int32) (25 : Int32) (8 : Int32)) [(.int (30 : Int32))])) _
    refine XS.istore X1.here hx rfl (hb hby dE_267) rfl (l' := (own_L7 f ah r bb (own_u33 W q) (30 : Int32) (25 : Int32) (8 : Int32))) rfl ?_
    refine XS.iload X1.here hx rfl (hb hby dE_269) rfl  ?_
    show Steps p.tables e below (T1.setTop (mkF m 271 (own_L7 f ah r bb (own_u33 W q) (30 : Int32) (25 : Int32) (8 : Int32)) [(.int (30 : Int32))])) _
    refine XS.bipush X1.here hx rfl (hb hby dE_271) ?_
    show Steps p.tables e below (T1.setTop (mkF m 273 (own_L7 f ah r bb (own_u33 W q) (30 : Int32) (25 : Int32) (8 : Int32)) [(.int (8 : Int32)), (.int (30 : Int32))])) _
    refine XS.icmpNo X1.here hx rfl (hb hby dE_273) rfl (XT.ii_lt_f (by decide)) ?_
    show Steps p.tables e below (T1.setTop (mkF m 276 (own_L7 f ah r bb (own_u33 W q) (30 : Int32) (25 : Int32) (8 : Int32)) [])) _
    refine XS.aload X1.here hx rfl (hb hby dE_276) rfl rfl  ?_
    refine XS.iload X1.here hx rfl (hb hby dE_278) rfl  ?_
    show Steps p.tables e below (T1.setTop (mkF m 280 (own_L7 f ah r bb (own_u33 W q) (30 : Int32) (25 : Int32) (8 : Int32)) [(.int (25 : Int32)), (.ref bb)])) _
    refine XT.lload X1.here hx rfl (hb hby dE_280) rfl  ?_
    refine XT.l2i X1.here hx rfl (hb hby dE_282) rfl ?_
    show Steps p.tables e below (T1.setTop (mkF m 283 (own_L7 f ah r bb (own_u33 W q) (30 : Int32) (25 : Int32) (8 : Int32)) [(.int (own_u33 W q).toInt32), (.int (25 : Int32)), (.ref bb)])) _
    refine XT.i2b X1.here hx rfl (hb hby dE_283) rfl ?_
    exact oK
  obtain ⟨T2, h2, X2, e2, W2, V2, st2⟩ := own_stB X1 hx hZ e1 Bz hbs (j := (25 : Int32)) (i := 25) rfl (by decide) (g := (mkF m 284 (own_L7 f ah r bb (own_u33 W q) (30 : Int32) (25 : Int32) (8 : Int32)) [(.int (own_u33 W q).toInt32.toInt8.toInt32), (.int (25 : Int32)), (.ref bb)])) rfl rfl (hb hby dE_284)
  have f3 := (Vz).other W2 nab
  have f5 := (Oz).wr W2 gbb
  have K2 : Keep h0 h2 [] := (Kz).wr W2 (Or.inr sbb)
  have Z2 : n0 ≤ h2.size := Nat.le_trans (Nat.le_trans Z0 Kz.1) (Keep.of_wr W2).1
  have N2 := Fr.snoc X2 Nz gbb
  refine OG.of st2 ?_
  show OG _ _ _ _ _ _ _ (T2.setTop (mkF m 285 (own_L7 f ah r bb (own_u33 W q) (30 : Int32) (25 : Int32) (8 : Int32)) []))
  refine OG.of (A := T2.setTop (mkF m 295 (own_L7 f ah r bb (XT.ushrL (own_u33 W q) (8 : Int32)) (30 : Int32) (26 : Int32) (8 : Int32)) [])) (fun oT oK => ?_) ?_
  · skip
    refine XS.iinc X2.here hx rfl (hb hby dE_285) rfl (l' := (own_L7 f ah r bb (own_u33 W q) (30 : Int32) (26 : Int32) (8 : Int32))) rfl ?_
    show Steps p.tables e below (T2.setTop (mkF m 288 (own_L7 f ah r bb (own_u33 W q) (30 : Int32) (26 : Int32) (8 : Int32)) [])) _
    refine XT.lload X2.here hx rfl (hb hby dE_288) rfl  ?_
    refine XS.bipush X2.here hx rfl (hb hby dE_290) ?_
    show Steps p.tables e below (T2.setTop (mkF m 292 (own_L7 f ah r bb (own_u33 W q) (30 : Int32) (26 : Int32) (8 : Int32)) [(.int (8 : Int32)), (.long (own_u33 W q))])) _
    refine XT.lushr X2.here hx rfl (hb hby dE_292) rfl ?_
    refine XT.lstore X2.here hx rfl (hb hby dE_293) rfl (l' := (own_L7 f ah r bb (XT.ushrL (own_u33 W q) (8 : Int32)) (30 : Int32) (26 : Int32) (8 : Int32))) rfl ?_
    exact oK
  show OG _ _ _ _ _ _ _ (T2.setTop (mkF m 295 (own_L7 f ah r bb (own_u34 W q) (30 : Int32) (26 : Int32) (8 : Int32)) []))
  refine OG.of (A := T2.setTop (mkF m 284 (own_L7 f ah r bb (own_u34 W q) (22 : Int32) (26 : Int32) (8 : Int32)) [(.int (own_u34 W q).toInt32.toInt8.toInt32), (.int (26 : Int32)), (.ref bb)])) (fun oT oK => ?_) ?_
  · skip
    refine XS.iinc X2.here hx rfl (hb hby dE_295) rfl (l' := (own_L7 f ah r bb (own_u34 W q) (22 : Int32) (26 : Int32) (8 : Int32))) rfl ?_
    show Steps p.tables e below (T2.setTop (mkF m 298 (own_L7 f ah r bb (own_u34 W q) (22 : Int32) (26 : Int32) (8 : Int32)) [])) _
    refine XS.goto X2.here hx rfl (pc0 := 298) (pc' := 269) rfl (hb hby dE_298) (by decide) (by decide) ?_
    refine XS.iload X2.here hx rfl (hb hby dE_269) rfl  ?_
    show Steps p.tables e below (T2.setTop (mkF m 271 (own_L7 f ah r bb (own_u34 W q) (22 : Int32) (26 : Int32) (8 : Int32)) [(.int (22 : Int32))])) _
    refine XS.bipush X2.here hx rfl (hb hby dE_271) ?_
    show Steps p.tables e below (T2.setTop (mkF m 273 (own_L7 f ah r bb (own_u34 W q) (22 : Int32) (26 : Int32) (8 : Int32)) [(.int (8 : Int32)), (.int (22 : Int32))])) _
    refine XS.icmpNo X2.here hx rfl (hb hby dE_273) rfl (XT.ii_lt_f (by decide)) ?_
    show Steps p.tables e below (T2.setTop (mkF m 276 (own_L7 f ah r bb (own_u34 W q) (22 : Int32) (26 : Int32) (8 : Int32)) [])) _
    refine XS.aload X2.here hx rfl (hb hby dE_276) rfl rfl  ?_
    refine XS.iload X2.here hx rfl (hb hby dE_278) rfl  ?_
    show Steps p.tables e below (T2.setTop (mkF m 280 (own_L7 f ah r bb (own_u34 W q) (22 : Int32) (26 : Int32) (8 : Int32)) [(.int (26 : Int32)), (.ref bb)])) _
    refine XT.lload X2.here hx rfl (hb hby dE_280) rfl  ?_
    refine XT.l2i X2.here hx rfl (hb hby dE_282) rfl ?_
    show Steps p.tables e below (T2.setTop (mkF m 283 (own_L7 f ah r bb (own_u34 W q) (22 : Int32) (26 : Int32) (8 : Int32)) [(.int (own_u34 W q).toInt32), (.int (26 : Int32)), (.ref bb)])) _
    refine XT.i2b X2.here hx rfl (hb hby dE_283) rfl ?_
    exact oK
  obtain ⟨T3, h3, X3, e3, W3, V3, st3⟩ := own_stB X2 hx hZ e2 V2 ((List.length_set ..).trans hbs) (j := (26 : Int32)) (i := 26) rfl (by decide) (g := (mkF m 284 (own_L7 f ah r bb (own_u34 W q) (22 : Int32) (26 : Int32) (8 : Int32)) [(.int (own_u34 W q).toInt32.toInt8.toInt32), (.int (26 : Int32)), (.ref bb)])) rfl rfl (hb hby dE_284)
  have f6 := (f3).other W3 nab
  have f8 := (f5).wr W3 gbb
  have K3 : Keep h0 h3 [] := (K2).wr W3 (Or.inr sbb)
  have Z3 : n0 ≤ h3.size := Nat.le_trans Z2 (Keep.of_wr W3).1
  have N3 := Fr.snoc X3 N2 gbb
  refine OG.of st3 ?_
  show OG _ _ _ _ _ _ _ (T3.setTop (mkF m 285 (own_L7 f ah r bb (own_u34 W q) (22 : Int32) (26 : Int32) (8 : Int32)) []))
  refine OG.of (A := T3.setTop (mkF m 295 (own_L7 f ah r bb (XT.ushrL (own_u34 W q) (8 : Int32)) (22 : Int32) (27 : Int32) (8 : Int32)) [])) (fun oT oK => ?_) ?_
  · skip
    refine XS.iinc X3.here hx rfl (hb hby dE_285) rfl (l' := (own_L7 f ah r bb (own_u34 W q) (22 : Int32) (27 : Int32) (8 : Int32))) rfl ?_
    show Steps p.tables e below (T3.setTop (mkF m 288 (own_L7 f ah r bb (own_u34 W q) (22 : Int32) (27 : Int32) (8 : Int32)) [])) _
    refine XT.lload X3.here hx rfl (hb hby dE_288) rfl  ?_
    refine XS.bipush X3.here hx rfl (hb hby dE_290) ?_
    show Steps p.tables e below (T3.setTop (mkF m 292 (own_L7 f ah r bb (own_u34 W q) (22 : Int32) (27 : Int32) (8 : Int32)) [(.int (8 : Int32)), (.long (own_u34 W q))])) _
    refine XT.lushr X3.here hx rfl (hb hby dE_292) rfl ?_
    refine XT.lstore X3.here hx rfl (hb hby dE_293) rfl (l' := (own_L7 f ah r bb (XT.ushrL (own_u34 W q) (8 : Int32)) (22 : Int32) (27 : Int32) (8 : Int32))) rfl ?_
    exact oK
  show OG _ _ _ _ _ _ _ (T3.setTop (mkF m 295 (own_L7 f ah r bb (own_u35 W q) (22 : Int32) (27 : Int32) (8 : Int32)) []))
  refine OG.of (A := T3.setTop (mkF m 284 (own_L7 f ah r bb (own_u35 W q) (14 : Int32) (27 : Int32) (8 : Int32)) [(.int (own_u35 W q).toInt32.toInt8.toInt32), (.int (27 : Int32)), (.ref bb)])) (fun oT oK => ?_) ?_
  · skip
    refine XS.iinc X3.here hx rfl (hb hby dE_295) rfl (l' := (own_L7 f ah r bb (own_u35 W q) (14 : Int32) (27 : Int32) (8 : Int32))) rfl ?_
    show Steps p.tables e below (T3.setTop (mkF m 298 (own_L7 f ah r bb (own_u35 W q) (14 : Int32) (27 : Int32) (8 : Int32)) [])) _
    refine XS.goto X3.here hx rfl (pc0 := 298) (pc' := 269) rfl (hb hby dE_298) (by decide) (by decide) ?_
    refine XS.iload X3.here hx rfl (hb hby dE_269) rfl  ?_
    show Steps p.tables e below (T3.setTop (mkF m 271 (own_L7 f ah r bb (own_u35 W q) (14 : Int32) (27 : Int32) (8 : Int32)) [(.int (14 : Int32))])) _
    refine XS.bipush X3.here hx rfl (hb hby dE_271) ?_
    show Steps p.tables e below (T3.setTop (mkF m 273 (own_L7 f ah r bb (own_u35 W q) (14 : Int32) (27 : Int32) (8 : Int32)) [(.int (8 : Int32)), (.int (14 : Int32))])) _
    refine XS.icmpNo X3.here hx rfl (hb hby dE_273) rfl (XT.ii_lt_f (by decide)) ?_
    show Steps p.tables e below (T3.setTop (mkF m 276 (own_L7 f ah r bb (own_u35 W q) (14 : Int32) (27 : Int32) (8 : Int32)) [])) _
    refine XS.aload X3.here hx rfl (hb hby dE_276) rfl rfl  ?_
    refine XS.iload X3.here hx rfl (hb hby dE_278) rfl  ?_
    show Steps p.tables e below (T3.setTop (mkF m 280 (own_L7 f ah r bb (own_u35 W q) (14 : Int32) (27 : Int32) (8 : Int32)) [(.int (27 : Int32)), (.ref bb)])) _
    refine XT.lload X3.here hx rfl (hb hby dE_280) rfl  ?_
    refine XT.l2i X3.here hx rfl (hb hby dE_282) rfl ?_
    show Steps p.tables e below (T3.setTop (mkF m 283 (own_L7 f ah r bb (own_u35 W q) (14 : Int32) (27 : Int32) (8 : Int32)) [(.int (own_u35 W q).toInt32), (.int (27 : Int32)), (.ref bb)])) _
    refine XT.i2b X3.here hx rfl (hb hby dE_283) rfl ?_
    exact oK
  obtain ⟨T4, h4, X4, e4, W4, V4, st4⟩ := own_stB X3 hx hZ e3 V3 ((List.length_set ..).trans ((List.length_set ..).trans hbs)) (j := (27 : Int32)) (i := 27) rfl (by decide) (g := (mkF m 284 (own_L7 f ah r bb (own_u35 W q) (14 : Int32) (27 : Int32) (8 : Int32)) [(.int (own_u35 W q).toInt32.toInt8.toInt32), (.int (27 : Int32)), (.ref bb)])) rfl rfl (hb hby dE_284)
  have f9 := (f6).other W4 nab
  have f11 := (f8).wr W4 gbb
  have K4 : Keep h0 h4 [] := (K3).wr W4 (Or.inr sbb)
  have Z4 : n0 ≤ h4.size := Nat.le_trans Z3 (Keep.of_wr W4).1
  have N4 := Fr.snoc X4 N3 gbb
  refine OG.of st4 ?_
  show OG _ _ _ _ _ _ _ (T4.setTop (mkF m 285 (own_L7 f ah r bb (own_u35 W q) (14 : Int32) (27 : Int32) (8 : Int32)) []))
  refine OG.of (A := T4.setTop (mkF m 295 (own_L7 f ah r bb (XT.ushrL (own_u35 W q) (8 : Int32)) (14 : Int32) (28 : Int32) (8 : Int32)) [])) (fun oT oK => ?_) ?_
  · skip
    refine XS.iinc X4.here hx rfl (hb hby dE_285) rfl (l' := (own_L7 f ah r bb (own_u35 W q) (14 : Int32) (28 : Int32) (8 : Int32))) rfl ?_
    show Steps p.tables e below (T4.setTop (mkF m 288 (own_L7 f ah r bb (own_u35 W q) (14 : Int32) (28 : Int32) (8 : Int32)) [])) _
    refine XT.lload X4.here hx rfl (hb hby dE_288) rfl  ?_
    refine XS.bipush X4.here hx rfl (hb hby dE_290) ?_
    show Steps p.tables e below (T4.setTop (mkF m 292 (own_L7 f ah r bb (own_u35 W q) (14 : Int32) (28 : Int32) (8 : Int32)) [(.int (8 : Int32)), (.long (own_u35 W q))])) _
    refine XT.lushr X4.here hx rfl (hb hby dE_292) rfl ?_
    refine XT.lstore X4.here hx rfl (hb hby dE_293) rfl (l' := (own_L7 f ah r bb (XT.ushrL (own_u35 W q) (8 : Int32)) (14 : Int32) (28 : Int32) (8 : Int32))) rfl ?_
    exact oK
  show OG _ _ _ _ _ _ _ (T4.setTop (mkF m 295 (own_L7 f ah r bb (own_u36 W q) (14 : Int32) (28 : Int32) (8 : Int32)) []))
  refine OG.of (A := T4.setTop (mkF m 239 (own_L7 f ah r bb (own_u36 W q) (6 : Int32) (28 : Int32) (9 : Int32)) [])) (fun oT oK => ?_) ?_
  · skip
    refine XS.iinc X4.here hx rfl (hb hby dE_295) rfl (l' := (own_L7 f ah r bb (own_u36 W q) (6 : Int32) (28 : Int32) (8 : Int32))) rfl ?_
    show Steps p.tables e below (T4.setTop (mkF m 298 (own_L7 f ah r bb (own_u36 W q) (6 : Int32) (28 : Int32) (8 : Int32)) [])) _
    refine XS.goto X4.here hx rfl (pc0 := 298) (pc' := 269) rfl (hb hby dE_298) (by decide) (by decide) ?_
    refine XS.iload X4.here hx rfl (hb hby dE_269) rfl  ?_
    show Steps p.tables e below (T4.setTop (mkF m 271 (own_L7 f ah r bb (own_u36 W q) (6 : Int32) (28 : Int32) (8 : Int32)) [(.int (6 : Int32))])) _
    refine XS.bipush X4.here hx rfl (hb hby dE_271) ?_
    show Steps p.tables e below (T4.setTop (mkF m 273 (own_L7 f ah r bb (own_u36 W q) (6 : Int32) (28 : Int32) (8 : Int32)) [(.int (8 : Int32)), (.int (6 : Int32))])) _
    refine XS.icmpYes X4.here hx rfl (pc0 := 273) (pc' := 301) rfl (hb hby dE_273) rfl (XT.ii_lt_t (by decide)) (by decide) (by decide) ?_
    show Steps p.tables e below (T4.setTop (mkF m 301 (own_L7 f ah r bb (own_u36 W q) (6 : Int32) (28 : Int32) (8 : Int32)) [])) _
    refine XS.iinc X4.here hx rfl (hb hby dE_301) rfl (l' := (own_L7 f ah r bb (own_u36 W q) (6 : Int32) (28 : Int32) (9 : Int32))) rfl ?_
    refine XS.goto X4.here hx rfl (pc0 := 304) (pc' := 239) rfl (hb hby dE_304) (by decide) (by decide) ?_
    exact oK
  exact cont T4 _ _ X4 e4 N4 f11 K4 f9 V4
set_option maxRecDepth 65536 in
set_option maxHeartbeats 40000000 in
theorem own_turn9 {p : Program} {l : Launch} {e : Env} {s : State} {m : MethodId} {args : Array Value} {below : List Frame} {meth : Method} {c : Code} {Z : State} {a0 : Array Value} {h0 : Heap} {n0 : Nat} {P : Option Value → Heap → List Loc → Prop} (f ah bb : Addr) (kf kb : ClassId) (wB : Addr) (r q : Int64) (W : List Int64) (bs : List Int32) (Tz : State) (locs : List Loc) (hz : Heap) (hx : p.tables.exec = Jvm.exec) (hZ : Z.Warmed39 s.vm) (hw : ∀ d ∈ tables_1, d.before a0 Z = true) (hby : c.code = prog_16_method_5_code) (hml : c.maxLocals = 10) (hown : s.vm.findClass "com/example/gate_to_gate/gatetogate/io/Field25519" = some m.cls) (hlk : meth.locks = false) (hret : meth.sig.returnType = some (.array .byte)) (SB : Sta Z Z.heap "com/example/gate_to_gate/gatetogate/io/Field25519" "BITS" "[I" (.ref wB)) (TB : ∀ j, j < 10 → ORd Z Z.heap wB .int (Int32.ofNat j) (.int (own_bits j))) (Z0 : n0 ≤ h0.size) (gah : n0 ≤ ah) (sah : h0.size ≤ ah) (gbb : n0 ≤ bb) (sbb : h0.size ≤ bb) (nab : ah ≠ bb) (hW : W.length = 10) (hbs : bs.length = 32) (Xz : Stand p l e ({ frames := 1, cells := 2, slots := 42, locals := 14 } : Room) s m args below meth c Tz locs 2 42) (ez : Tz.heap = hz) (Nz : Fr n0 locs) (Oz : Old Z n0 hz) (Kz : Keep h0 hz []) (Vz : Arv Z hz ah kf .long (10 : Int32) (W.map Value.long) (.long (0 : Int64))) (Bz : Arv Z hz bb kb .byte (32 : Int32) (bs.map Value.int) (.int (0 : Int32))) (cont : ∀ (T' : State) (locs' : List Loc) (h' : Heap), Stand p l e ({ frames := 1, cells := 2, slots := 42, locals := 14 } : Room) s m args below meth c T' locs' 2 42 → T'.heap = h' → Fr n0 locs' → Old Z n0 h' → Keep h0 h' [] → Arv Z h' ah kf .long (10 : Int32) (W.map Value.long) (.long (0 : Int64)) → Arv Z h' bb kb .byte (32 : Int32) ((((bs.set 28 (own_u37 W q).toInt32.toInt8.toInt32.toInt8.toInt32).set 29 (own_u38 W q).toInt32.toInt8.toInt32.toInt8.toInt32).set 30 (own_u39 W q).toInt32.toInt8.toInt32.toInt8.toInt32).map Value.int) (.int (0 : Int32)) → OG p e below s 2 42 P (T'.setTop (mkF m 239 #[.val (.ref f), .val (.ref ah), .val (.long r), .second, .val (.ref bb), .val (.long (own_u40 W q)), .second, .val (.int (7 : Int32)), .val (.int (31 : Int32)), .val (.int (10 : Int32))] []))) :
    OG p e below s 2 42 P (Tz.setTop (mkF m 239 #[.val (.ref f), .val (.ref ah), .val (.long r), .second, .val (.ref bb), .val (.long q), .second, .val (.int (6 : Int32)), .val (.int (28 : Int32)), .val (.int (9 : Int32))] [])) := by
  refine OG.of (A := Tz.setTop (mkF m 251 (own_L7 f ah r bb q (6 : Int32) (28 : Int32) (9 : Int32)) [(.int (9 : Int32)), (.ref ah), (.long q)])) (fun oT oK => ?_) ?_
  · skip
    refine XS.iload Xz.here hx rfl (hb hby dE_239) rfl  ?_
    show Steps p.tables e below (Tz.setTop (mkF m 241 (own_L7 f ah r bb q (6 : Int32) (28 : Int32) (9 : Int32)) [(.int (9 : Int32))])) _
    refine XS.bipush Xz.here hx rfl (hb hby dE_241) ?_
    show Steps p.tables e below (Tz.setTop (mkF m 243 (own_L7 f ah r bb q (6 : Int32) (28 : Int32) (9 : Int32)) [(.int (10 : Int32)), (.int (9 : Int32))])) _
    refine XS.icmpNo Xz.here hx rfl (hb hby dE_243) rfl (XT.ii_ge_f (by decide)) ?_
    show Steps p.tables e below (Tz.setTop (mkF m 246 (own_L7 f ah r bb q (6 : Int32) (28 : Int32) (9 : Int32)) [])) _
    refine XT.lload Xz.here hx rfl (hb hby dE_246) rfl  ?_
    refine XS.aloadN Xz.here hx rfl (hb hby dE_248) rfl rfl  ?_
    show Steps p.tables e below (Tz.setTop (mkF m 249 (own_L7 f ah r bb q (6 : Int32) (28 : Int32) (9 : Int32)) [(.ref ah), (.long q)])) _
    refine XS.iload Xz.here hx rfl (hb hby dE_249) rfl  ?_
    exact oK
  obtain ⟨clf1, Arf1, If1, Hf1⟩ := own_rdL Vz hW (j := (9 : Int32)) (i := 9) rfl (by decide)
  refine OG.of (Xz.laload hx (j := (9 : Int32)) (v := (.long (W.getD 9 0))) (by rw [ez]; exact Arf1.1) (State.isArrayOf_alike hZ.alike Arf1.2.1) Arf1.2.2 If1 Hf1 (g := (mkF m 251 (own_L7 f ah r bb q (6 : Int32) (28 : Int32) (9 : Int32)) [(.int (9 : Int32)), (.ref ah), (.long q)])) rfl rfl (hb hby dE_251)) ?_
  show OG _ _ _ _ _ _ _ (Tz.setTop (mkF m 252 (own_L7 f ah r bb q (6 : Int32) (28 : Int32) (9 : Int32)) [(.long (W.getD 9 0)), (.long q)]))
  refine OG.of (A := Tz.setTop (mkF m 258 (own_L7 f ah r bb (q ||| ((W.getD 9 0) <<< ((6 : Int32).toInt64 &&& 63))) (6 : Int32) (28 : Int32) (9 : Int32)) [])) (fun oT oK => ?_) ?_
  · skip
    refine XS.iload Xz.here hx rfl (hb hby dE_252) rfl  ?_
    show Steps p.tables e below (Tz.setTop (mkF m 254 (own_L7 f ah r bb q (6 : Int32) (28 : Int32) (9 : Int32)) [(.int (6 : Int32)), (.long (W.getD 9 0)), (.long q)])) _
    refine XT.lshl Xz.here hx rfl (hb hby dE_254) rfl ?_
    refine XT.lor Xz.here hx rfl (hb hby dE_255) rfl ?_
    show Steps p.tables e below (Tz.setTop (mkF m 256 (own_L7 f ah r bb q (6 : Int32) (28 : Int32) (9 : Int32)) [(.long (q ||| ((W.getD 9 0) <<< ((6 : Int32).toInt64 &&& 63))))])) _
    refine XT.lstore Xz.here hx rfl (hb hby dE_256) rfl (l' := (own_L7 f ah r bb (q ||| ((W.getD 9 0) <<< ((6 : Int32).toInt64 &&& 63))) (6 : Int32) (28 : Int32) (9 : Int32))) rfl ?_
    exact oK
  show OG _ _ _ _ _ _ _ (Tz.setTop (mkF m 258 (own_L7 f ah r bb (own_u37 W q) (6 : Int32) (28 : Int32) (9 : Int32)) []))
  refine OG.of (A := Tz.setTop (mkF m 260 (own_L7 f ah r bb (own_u37 W q) (6 : Int32) (28 : Int32) (9 : Int32)) [(.int (6 : Int32))])) (fun oT oK => ?_) ?_
  · skip
    refine XS.iload Xz.here hx rfl (hb hby dE_258) rfl  ?_
    exact oK
  obtain ⟨T1, X1, e1, st1⟩ := getS2 Xz hx hZ hown (host := "") (Or.inl (own_at hw 8 rfl)) Via.refl ez (SB.ext (Oz).2) (g := (mkF m 260 (own_L7 f ah r bb (own_u37 W q) (6 : Int32) (28 : Int32) (9 : Int32)) [(.int (6 : Int32))])) rfl (hb hby dE_260)
  refine OG.of st1 ?_
  show OG _ _ _ _ _ _ _ (T1.setTop (mkF m 263 (own_L7 f ah r bb (own_u37 W q) (6 : Int32) (28 : Int32) (9 : Int32)) [(.ref wB), (.int (6 : Int32))]))
  refine OG.of (A := T1.setTop (mkF m 265 (own_L7 f ah r bb (own_u37 W q) (6 : Int32) (28 : Int32) (9 : Int32)) [(.int (9 : Int32)), (.ref wB), (.int (6 : Int32))])) (fun oT oK => ?_) ?_
  · skip
    refine XS.iload X1.here hx rfl (hb hby dE_263) rfl  ?_
    exact oK
  have cf2 := ((TB 9 (by decide)).ext (Oz).2)
  obtain ⟨clf2, Arf2, If2, Hf2⟩ := cf2
  refine OG.of (X1.iaload hx (j := (9 : Int32)) (v := (.int (25 : Int32))) (by rw [e1]; exact Arf2.1) (State.isArrayOf_alike hZ.alike Arf2.2.1) Arf2.2.2 If2 Hf2 (g := (mkF m 265 (own_L7 f ah r bb (own_u37 W q) (6 : Int32) (28 : Int32) (9 : Int32)) [(.int (9 : Int32)), (.ref wB), (.int (6 : Int32))])) rfl rfl (hb hby dE_265)) ?_
  show OG _ _ _ _ _ _ _ (T1.setTop (mkF m 266 (own_L7 f ah r bb (own_u37 W q) (6 : Int32) (28 : Int32) (9 : Int32)) [(.int (25 : Int32)), (.int (6 : Int32))]))
  refine OG.of (A := T1.setTop (mkF m 284 (own_L7 f ah r bb (own_u37 W q) (31 : Int32) (28 : Int32) (9 : Int32)) [(.int (own_u37 W q).toInt32.toInt8.toInt32), (.int (28 : Int32)), (.ref bb)])) (fun oT oK => ?_) ?_
  · skip
    refine XS.iadd X1.here hx rfl (hb hby dE_266) rfl ?_
    show Steps p.tables e below (T1.setTop (mkF m 267 (own_L7 f ah r bb (own_u37 W q) (6 : Int32) (28 : Int32) (9 : Int32)) [(.int (31 : Int32))])) _
    refine XS.istore X1.here hx rfl (hb hby dE_267) rfl (l' := (own_L7 f ah r bb (own_u37 W q) (31 : Int32) (28 : Int32) (9 : Int32))) rfl ?_
    refine XS.iload X1.here hx rfl (hb hby dE_269) rfl  ?_
    show Steps p.tables e below (T1.setTop (mkF m 271 (own_L7 f ah r bb (own_u37 W q) (31 : Int32) (28 : Int32) (9 : Int32)) [(.int (31 : Int32))])) _
    refine XS.bipush X1.here hx rfl (hb hby dE_271) ?_
    show Steps p.tables e below (T1.setTop (mkF m 273 (own_L7 f ah r bb (own_u37 W q) (31 : Int32) (28 : Int32) (9 : Int32)) [(.int (8 : Int32)), (.int (31 : Int32))])) _
    refine XS.icmpNo X1.here hx rfl (hb hby dE_273) rfl (XT.ii_lt_f (by decide)) ?_
    show Steps p.tables e below (T1.setTop (mkF m 276 (own_L7 f ah r bb (own_u37 W q) (31 : Int32) (28 : Int32) (9 : Int32)) [])) _
    refine XS.aload X1.here hx rfl (hb hby dE_276) rfl rfl  ?_
    refine XS.iload X1.here hx rfl (hb hby dE_278) rfl  ?_
    show Steps p.tables e below (T1.setTop (mkF m 280 (own_L7 f ah r bb (own_u37 W q) (31 : Int32) (28 : Int32) (9 : Int32)) [(.int (28 : Int32)), (.ref bb)])) _
    refine XT.lload X1.here hx rfl (hb hby dE_280) rfl  ?_
    refine XT.l2i X1.here hx rfl (hb hby dE_282) rfl ?_
    show Steps p.tables e below (T1.setTop (mkF m 283 (own_L7 f ah r bb (own_u37 W q) (31 : Int32) (28 : Int32) (9 : Int32)) [(.int (own_u37 W q).toInt32), (.int (28 : Int32)), (.ref bb)])) _
    refine XT.i2b X1.here hx rfl (hb hby dE_283) rfl ?_
    exact oK
  obtain ⟨T2, h2, X2, e2, W2, V2, st2⟩ := own_stB X1 hx hZ e1 Bz hbs (j := (28 : Int32)) (i := 28) rfl (by decide) (g := (mkF m 284 (own_L7 f ah r bb (own_u37 W q) (31 : Int32) (28 : Int32) (9 : Int32)) [(.int (own_u37 W q).toInt32.toInt8.toInt32), (.int (28 : Int32)), (.ref bb)])) rfl rfl (hb hby dE_284)
  have f3 := (Vz).other W2 nab
  have f5 := (Oz).wr W2 gbb
  have K2 : Keep h0 h2 [] := (Kz).wr W2 (Or.inr sbb)
  have Z2 : n0 ≤ h2.size := Nat.le_trans (Nat.le_trans Z0 Kz.1) (Keep.of_wr W2).1
  have N2 := Fr.snoc X2 Nz gbb
  refine OG.of st2 ?_
  show OG _ _ _ _ _ _ _ (T2.setTop (mkF m 285 (own_L7 f ah r bb (own_u37 W q) (31 : Int32) (28 : Int32) (9 : Int32)) []))
  refine OG.of (A := T2.setTop (mkF m 295 (own_L7 f ah r bb (XT.ushrL (own_u37 W q) (8 : Int32)) (31 : Int32) (29 : Int32) (9 : Int32)) [])) (fun oT oK => ?_) ?_
  · skip
    refine XS.iinc X2.here hx rfl (hb hby dE_285) rfl (l' := (own_L7 f ah r bb (own_u37 W q) (31 : Int32) (29 : Int32) (9 : Int32))) rfl ?_
    show Steps p.tables e below (T2.setTop (mkF m 288 (own_L7 f ah r bb (own_u37 W q) (31 : Int32) (29 : Int32) (9 : Int32)) [])) _
    refine XT.lload X2.here hx rfl (hb hby dE_288) rfl  ?_
    refine XS.bipush X2.here hx rfl (hb hby dE_290) ?_
    show Steps p.tables e below (T2.setTop (mkF m 292 (own_L7 f ah r bb (own_u37 W q) (31 : Int32) (29 : Int32) (9 : Int32)) [(.int (8 : Int32)), (.long (own_u37 W q))])) _
    refine XT.lushr X2.here hx rfl (hb hby dE_292) rfl ?_
    refine XT.lstore X2.here hx rfl (hb hby dE_293) rfl (l' := (own_L7 f ah r bb (XT.ushrL (own_u37 W q) (8 : Int32)) (31 : Int32) (29 : Int32) (9 : Int32))) rfl ?_
    exact oK
  show OG _ _ _ _ _ _ _ (T2.setTop (mkF m 295 (own_L7 f ah r bb (own_u38 W q) (31 : Int32) (29 : Int32) (9 : Int32)) []))
  refine OG.of (A := T2.setTop (mkF m 284 (own_L7 f ah r bb (own_u38 W q) (23 : Int32) (29 : Int32) (9 : Int32)) [(.int (own_u38 W q).toInt32.toInt8.toInt32), (.int (29 : Int32)), (.ref bb)])) (fun oT oK => ?_) ?_
  · skip
    refine XS.iinc X2.here hx rfl (hb hby dE_295) rfl (l' := (own_L7 f ah r bb (own_u38 W q) (23 : Int32) (29 : Int32) (9 : Int32))) rfl ?_
    show Steps p.tables e below (T2.setTop (mkF m 298 (own_L7 f ah r bb (own_u38 W q) (23 : Int32) (29 : Int32) (9 : Int32)) [])) _
    refine XS.goto X2.here hx rfl (pc0 := 298) (pc' := 269) rfl (hb hby dE_298) (by decide) (by decide) ?_
    refine XS.iload X2.here hx rfl (hb hby dE_269) rfl  ?_
    show Steps p.tables e below (T2.setTop (mkF m 271 (own_L7 f ah r bb (own_u38 W q) (23 : Int32) (29 : Int32) (9 : Int32)) [(.int (23 : Int32))])) _
    refine XS.bipush X2.here hx rfl (hb hby dE_271) ?_
    show Steps p.tables e below (T2.setTop (mkF m 273 (own_L7 f ah r bb (own_u38 W q) (23 : Int32) (29 : Int32) (9 : Int32)) [(.int (8 : Int32)), (.int (23 : Int32))])) _
    refine XS.icmpNo X2.here hx rfl (hb hby dE_273) rfl (XT.ii_lt_f (by decide)) ?_
    show Steps p.tables e below (T2.setTop (mkF m 276 (own_L7 f ah r bb (own_u38 W q) (23 : Int32) (29 : Int32) (9 : Int32)) [])) _
    refine XS.aload X2.here hx rfl (hb hby dE_276) rfl rfl  ?_
    refine XS.iload X2.here hx rfl (hb hby dE_278) rfl  ?_
    show Steps p.tables e below (T2.setTop (mkF m 280 (own_L7 f ah r bb (own_u38 W q) (23 : Int32) (29 : Int32) (9 : Int32)) [(.int (29 : Int32)), (.ref bb)])) _
    refine XT.lload X2.here hx rfl (hb hby dE_280) rfl  ?_
    refine XT.l2i X2.here hx rfl (hb hby dE_282) rfl ?_
    show Steps p.tables e below (T2.setTop (mkF m 283 (own_L7 f ah r bb (own_u38 W q) (23 : Int32) (29 : Int32) (9 : Int32)) [(.int (own_u38 W q).toInt32), (.int (29 : Int32)), (.ref bb)])) _
    refine XT.i2b X2.here hx rfl (hb hby dE_283) rfl ?_
    exact oK
  obtain ⟨T3, h3, X3, e3, W3, V3, st3⟩ := own_stB X2 hx hZ e2 V2 ((List.length_set ..).trans hbs) (j := (29 : Int32)) (i := 29) rfl (by decide) (g := (mkF m 284 (own_L7 f ah r bb (own_u38 W q) (23 : Int32) (29 : Int32) (9 : Int32)) [(.int (own_u38 W q).toInt32.toInt8.toInt32), (.int (29 : Int32)), (.ref bb)])) rfl rfl (hb hby dE_284)
  have f6 := (f3).other W3 nab
  have f8 := (f5).wr W3 gbb
  have K3 : Keep h0 h3 [] := (K2).wr W3 (Or.inr sbb)
  have Z3 : n0 ≤ h3.size := Nat.le_trans Z2 (Keep.of_wr W3).1
  have N3 := Fr.snoc X3 N2 gbb
  refine OG.of st3 ?_
  show OG _ _ _ _ _ _ _ (T3.setTop (mkF m 285 (own_L7 f ah r bb (own_u38 W q) (23 : Int32) (29 : Int32) (9 : Int32)) []))
  refine OG.of (A := T3.setTop (mkF m 295 (own_L7 f ah r bb (XT.ushrL (own_u38 W q) (8 : Int32)) (23 : Int32) (30 : Int32) (9 : Int32)) [])) (fun oT oK => ?_) ?_
  · skip
    refine XS.iinc X3.here hx rfl (hb hby dE_285) rfl (l' := (own_L7 f ah r bb (own_u38 W q) (23 : Int32) (30 : Int32) (9 : Int32))) rfl ?_
    show Steps p.tables e below (T3.setTop (mkF m 288 (own_L7 f ah r bb (own_u38 W q) (23 : Int32) (30 : Int32) (9 : Int32)) [])) _
    refine XT.lload X3.here hx rfl (hb hby dE_288) rfl  ?_
    refine XS.bipush X3.here hx rfl (hb hby dE_290) ?_
    show Steps p.tables e below (T3.setTop (mkF m 292 (own_L7 f ah r bb (own_u38 W q) (23 : Int32) (30 : Int32) (9 : Int32)) [(.int (8 : Int32)), (.long (own_u38 W q))])) _
    refine XT.lushr X3.here hx rfl (hb hby dE_292) rfl ?_
    refine XT.lstore X3.here hx rfl (hb hby dE_293) rfl (l' := (own_L7 f ah r bb (XT.ushrL (own_u38 W q) (8 : Int32)) (23 : Int32) (30 : Int32) (9 : Int32))) rfl ?_
    exact oK
  show OG _ _ _ _ _ _ _ (T3.setTop (mkF m 295 (own_L7 f ah r bb (own_u39 W q) (23 : Int32) (30 : Int32) (9 : Int32)) []))
  refine OG.of (A := T3.setTop (mkF m 284 (own_L7 f ah r bb (own_u39 W q) (15 : Int32) (30 : Int32) (9 : Int32)) [(.int (own_u39 W q).toInt32.toInt8.toInt32), (.int (30 : Int32)), (.ref bb)])) (fun oT oK => ?_) ?_
  · skip
    refine XS.iinc X3.here hx rfl (hb hby dE_295) rfl (l' := (own_L7 f ah r bb (own_u39 W q) (15 : Int32) (30 : Int32) (9 : Int32))) rfl ?_
    show Steps p.tables e below (T3.setTop (mkF m 298 (own_L7 f ah r bb (own_u39 W q) (15 : Int32) (30 : Int32) (9 : Int32)) [])) _
    refine XS.goto X3.here hx rfl (pc0 := 298) (pc' := 269) rfl (hb hby dE_298) (by decide) (by decide) ?_
    refine XS.iload X3.here hx rfl (hb hby dE_269) rfl  ?_
    show Steps p.tables e below (T3.setTop (mkF m 271 (own_L7 f ah r bb (own_u39 W q) (15 : Int32) (30 : Int32) (9 : Int32)) [(.int (15 : Int32))])) _
    refine XS.bipush X3.here hx rfl (hb hby dE_271) ?_
    show Steps p.tables e below (T3.setTop (mkF m 273 (own_L7 f ah r bb (own_u39 W q) (15 : Int32) (30 : Int32) (9 : Int32)) [(.int (8 : Int32)), (.int (15 : Int32))])) _
    refine XS.icmpNo X3.here hx rfl (hb hby dE_273) rfl (XT.ii_lt_f (by decide)) ?_
    show Steps p.tables e below (T3.setTop (mkF m 276 (own_L7 f ah r bb (own_u39 W q) (15 : Int32) (30 : Int32) (9 : Int32)) [])) _
    refine XS.aload X3.here hx rfl (hb hby dE_276) rfl rfl  ?_
    refine XS.iload X3.here hx rfl (hb hby dE_278) rfl  ?_
    show Steps p.tables e below (T3.setTop (mkF m 280 (own_L7 f ah r bb (own_u39 W q) (15 : Int32) (30 : Int32) (9 : Int32)) [(.int (30 : Int32)), (.ref bb)])) _
    refine XT.lload X3.here hx rfl (hb hby dE_280) rfl  ?_
    refine XT.l2i X3.here hx rfl (hb hby dE_282) rfl ?_
    show Steps p.tables e below (T3.setTop (mkF m 283 (own_L7 f ah r bb (own_u39 W q) (15 : Int32) (30 : Int32) (9 : Int32)) [(.int (own_u39 W q).toInt32), (.int (30 : Int32)), (.ref bb)])) _
    refine XT.i2b X3.here hx rfl (hb hby dE_283) rfl ?_
    exact oK
  obtain ⟨T4, h4, X4, e4, W4, V4, st4⟩ := own_stB X3 hx hZ e3 V3 ((List.length_set ..).trans ((List.length_set ..).trans hbs)) (j := (30 : Int32)) (i := 30) rfl (by decide) (g := (mkF m 284 (own_L7 f ah r bb (own_u39 W q) (15 : Int32) (30 : Int32) (9 : Int32)) [(.int (own_u39 W q).toInt32.toInt8.toInt32), (.int (30 : Int32)), (.ref bb)])) rfl rfl (hb hby dE_284)
  have f9 := (f6).other W4 nab
  have f11 := (f8).wr W4 gbb
  have K4 : Keep h0 h4 [] := (K3).wr W4 (Or.inr sbb)
  have Z4 : n0 ≤ h4.size := Nat.le_trans Z3 (Keep.of_wr W4).1
  have N4 := Fr.snoc X4 N3 gbb
  refine OG.of st4 ?_
  show OG _ _ _ _ _ _ _ (T4.setTop (mkF m 285 (own_L7 f ah r bb (own_u39 W q) (15 : Int32) (30 : Int32) (9 : Int32)) []))
  refine OG.of (A := T4.setTop (mkF m 295 (own_L7 f ah r bb (XT.ushrL (own_u39 W q) (8 : Int32)) (15 : Int32) (31 : Int32) (9 : Int32)) [])) (fun oT oK => ?_) ?_
  · skip
    refine XS.iinc X4.here hx rfl (hb hby dE_285) rfl (l' := (own_L7 f ah r bb (own_u39 W q) (15 : Int32) (31 : Int32) (9 : Int32))) rfl ?_
    show Steps p.tables e below (T4.setTop (mkF m 288 (own_L7 f ah r bb (own_u39 W q) (15 : Int32) (31 : Int32) (9 : Int32)) [])) _
    refine XT.lload X4.here hx rfl (hb hby dE_288) rfl  ?_
    refine XS.bipush X4.here hx rfl (hb hby dE_290) ?_
    show Steps p.tables e below (T4.setTop (mkF m 292 (own_L7 f ah r bb (own_u39 W q) (15 : Int32) (31 : Int32) (9 : Int32)) [(.int (8 : Int32)), (.long (own_u39 W q))])) _
    refine XT.lushr X4.here hx rfl (hb hby dE_292) rfl ?_
    refine XT.lstore X4.here hx rfl (hb hby dE_293) rfl (l' := (own_L7 f ah r bb (XT.ushrL (own_u39 W q) (8 : Int32)) (15 : Int32) (31 : Int32) (9 : Int32))) rfl ?_
    exact oK
  show OG _ _ _ _ _ _ _ (T4.setTop (mkF m 295 (own_L7 f ah r bb (own_u40 W q) (15 : Int32) (31 : Int32) (9 : Int32)) []))
  refine OG.of (A := T4.setTop (mkF m 239 (own_L7 f ah r bb (own_u40 W q) (7 : Int32) (31 : Int32) (10 : Int32)) [])) (fun oT oK => ?_) ?_
  · skip
    refine XS.iinc X4.here hx rfl (hb hby dE_295) rfl (l' := (own_L7 f ah r bb (own_u40 W q) (7 : Int32) (31 : Int32) (9 : Int32))) rfl ?_
    show Steps p.tables e below (T4.setTop (mkF m 298 (own_L7 f ah r bb (own_u40 W q) (7 : Int32) (31 : Int32) (9 : Int32)) [])) _
    refine XS.goto X4.here hx rfl (pc0 := 298) (pc' := 269) rfl (hb hby dE_298) (by decide) (by decide) ?_
    refine XS.iload X4.here hx rfl (hb hby dE_269) rfl  ?_
    show Steps p.tables e below (T4.setTop (mkF m 271 (own_L7 f ah r bb (own_u40 W q) (7 : Int32) (31 : Int32) (9 : Int32)) [(.int (7 : Int32))])) _
    refine XS.bipush X4.here hx rfl (hb hby dE_271) ?_
    show Steps p.tables e below (T4.setTop (mkF m 273 (own_L7 f ah r bb (own_u40 W q) (7 : Int32) (31 : Int32) (9 : Int32)) [(.int (8 : Int32)), (.int (7 : Int32))])) _
    refine XS.icmpYes X4.here hx rfl (pc0 := 273) (pc' := 301) rfl (hb hby dE_273) rfl (XT.ii_lt_t (by decide)) (by decide) (by decide) ?_
    show Steps p.tables e below (T4.setTop (mkF m 301 (own_L7 f ah r bb (own_u40 W q) (7 : Int32) (31 : Int32) (9 : Int32)) [])) _
    refine XS.iinc X4.here hx rfl (hb hby dE_301) rfl (l' := (own_L7 f ah r bb (own_u40 W q) (7 : Int32) (31 : Int32) (10 : Int32))) rfl ?_
    refine XS.goto X4.here hx rfl (pc0 := 304) (pc' := 239) rfl (hb hby dE_304) (by decide) (by decide) ?_
    exact oK
  exact cont T4 _ _ X4 e4 N4 f11 K4 f9 V4
theorem dE_307 : decode prog_16_method_5_code 307 = .ok (.aload 4, 2) := by decide +kernel
theorem dE_309 : decode prog_16_method_5_code 309 = .ok (.iload 8, 2) := by decide +kernel
theorem dE_311 : decode prog_16_method_5_code 311 = .ok (.lload 5, 2) := by decide +kernel
theorem dE_313 : decode prog_16_method_5_code 313 = .ok (.l2i, 1) := by decide +kernel
theorem dE_314 : decode prog_16_method_5_code 314 = .ok (.i2b, 1) := by decide +kernel
theorem dE_315 : decode prog_16_method_5_code 315 = .ok (.bastore, 1) := by decide +kernel
theorem dE_316 : decode prog_16_method_5_code 316 = .ok (.aload 4, 2) := by decide +kernel
theorem dE_318 : decode prog_16_method_5_code 318 = .ok (.areturn, 1) := by decide +kernel
set_option maxRecDepth 65536 in
set_option maxHeartbeats 40000000 in
theorem own_turn10 {p : Program} {l : Launch} {e : Env} {s : State} {m : MethodId} {args : Array Value} {below : List Frame} {meth : Method} {c : Code} {Z : State} {a0 : Array Value} {h0 : Heap} {n0 : Nat} {P : Option Value → Heap → List Loc → Prop} (f ah bb : Addr) (kf kb : ClassId) (wB : Addr) (r q : Int64) (W : List Int64) (bs : List Int32) (Tz : State) (locs : List Loc) (hz : Heap) (hx : p.tables.exec = Jvm.exec) (hZ : Z.Warmed39 s.vm) (hw : ∀ d ∈ tables_1, d.before a0 Z = true) (hby : c.code = prog_16_method_5_code) (hml : c.maxLocals = 10) (hown : s.vm.findClass "com/example/gate_to_gate/gatetogate/io/Field25519" = some m.cls) (hlk : meth.locks = false) (hret : meth.sig.returnType = some (.array .byte)) (SB : Sta Z Z.heap "com/example/gate_to_gate/gatetogate/io/Field25519" "BITS" "[I" (.ref wB)) (TB : ∀ j, j < 10 → ORd Z Z.heap wB .int (Int32.ofNat j) (.int (own_bits j))) (Z0 : n0 ≤ h0.size) (gah : n0 ≤ ah) (sah : h0.size ≤ ah) (gbb : n0 ≤ bb) (sbb : h0.size ≤ bb) (nab : ah ≠ bb) (hW : W.length = 10) (hbs : bs.length = 32) (Xz : Stand p l e ({ frames := 1, cells := 2, slots := 42, locals := 14 } : Room) s m args below meth c Tz locs 2 42) (ez : Tz.heap = hz) (Nz : Fr n0 locs) (Oz : Old Z n0 hz) (Kz : Keep h0 hz []) (Vz : Arv Z hz ah kf .long (10 : Int32) (W.map Value.long) (.long (0 : Int64))) (Bz : Arv Z hz bb kb .byte (32 : Int32) (bs.map Value.int) (.int (0 : Int32))) (hP : ∀ (h' : Heap) (L : List Loc), Fr n0 L → Keep h0 h' [] → Arv Z h' bb kb .byte (32 : Int32) ((bs.set 31 q.toInt32.toInt8.toInt32.toInt8.toInt32).map Value.int) (.int (0 : Int32)) → P (some (.ref bb)) h' L) :
    OG p e below s 2 42 P (Tz.setTop (mkF m 239 #[.val (.ref f), .val (.ref ah), .val (.long r), .second, .val (.ref bb), .val (.long q), .second, .val (.int (7 : Int32)), .val (.int (31 : Int32)), .val (.int (10 : Int32))] [])) := by
  refine OG.of (A := Tz.setTop (mkF m 315 (own_L7 f ah r bb q (7 : Int32) (31 : Int32) (10 : Int32)) [(.int q.toInt32.toInt8.toInt32), (.int (31 : Int32)), (.ref bb)])) (fun oT oK => ?_) ?_
  · skip
    refine XS.iload Xz.here hx rfl (hb hby dE_239) rfl  ?_
    show Steps p.tables e below (Tz.setTop (mkF m 241 (own_L7 f ah r bb q (7 : Int32) (31 : Int32) (10 : Int32)) [(.int (10 : Int32))])) _
    refine XS.bipush Xz.here hx rfl (hb hby dE_241) ?_
    show Steps p.tables e below (Tz.setTop (mkF m 243 (own_L7 f ah r bb q (7 : Int32) (31 : Int32) (10 : Int32)) [(.int (10 : Int32)), (.int (10 : Int32))])) _
    refine XS.icmpYes Xz.here hx rfl (pc0 := 243) (pc' := 307) rfl (hb hby dE_243) rfl (XT.ii_ge_t (by decide)) (by decide) (by decide) ?_
    show Steps p.tables e below (Tz.setTop (mkF m 307 (own_L7 f ah r bb q (7 : Int32) (31 : Int32) (10 : Int32)) [])) _
    refine XS.aload Xz.here hx rfl (hb hby dE_307) rfl rfl  ?_
    refine XS.iload Xz.here hx rfl (hb hby dE_309) rfl  ?_
    show Steps p.tables e below (Tz.setTop (mkF m 311 (own_L7 f ah r bb q (7 : Int32) (31 : Int32) (10 : Int32)) [(.int (31 : Int32)), (.ref bb)])) _
    refine XT.lload Xz.here hx rfl (hb hby dE_311) rfl  ?_
    refine XT.l2i Xz.here hx rfl (hb hby dE_313) rfl ?_
    show Steps p.tables e below (Tz.setTop (mkF m 314 (own_L7 f ah r bb q (7 : Int32) (31 : Int32) (10 : Int32)) [(.int q.toInt32), (.int (31 : Int32)), (.ref bb)])) _
    refine XT.i2b Xz.here hx rfl (hb hby dE_314) rfl ?_
    exact oK
  obtain ⟨T1, h1, X1, e1, W1, V1, st1⟩ := own_stB Xz hx hZ ez Bz hbs (j := (31 : Int32)) (i := 31) rfl (by decide) (g := (mkF m 315 (own_L7 f ah r bb q (7 : Int32) (31 : Int32) (10 : Int32)) [(.int q.toInt32.toInt8.toInt32), (.int (31 : Int32)), (.ref bb)])) rfl rfl (hb hby dE_315)
  have f1 := (Vz).other W1 nab
  have f3 := (Oz).wr W1 gbb
  have K1 : Keep h0 h1 [] := (Kz).wr W1 (Or.inr sbb)
  have Z1 : n0 ≤ h1.size := Nat.le_trans (Nat.le_trans Z0 Kz.1) (Keep.of_wr W1).1
  have N1 := Fr.snoc X1 Nz gbb
  refine OG.of st1 ?_
  show OG _ _ _ _ _ _ _ (T1.setTop (mkF m 316 (own_L7 f ah r bb q (7 : Int32) (31 : Int32) (10 : Int32)) []))
  refine OG.of (A := T1.setTop (mkF m 318 (own_L7 f ah r bb q (7 : Int32) (31 : Int32) (10 : Int32)) [(.ref bb)])) (fun oT oK => ?_) ?_
  · skip
    refine XS.aload X1.here hx rfl (hb hby dE_316) rfl rfl  ?_
    exact oK
  refine OG.retA X1 hx hret rfl rfl (hb hby dE_318) hlk ?_ (by decide) (by decide)
  try rw [e1]
  exact hP _ _ N1 K1 V1
theorem dF_0 : decode prog_16_method_4_code 0 = .ok (.bipush 10, 2) := by decide +kernel
theorem dF_2 : decode prog_16_method_4_code 2 = .ok (.newarray .long, 2) := by decide +kernel
theorem dF_4 : decode prog_16_method_4_code 4 = .ok (.astore_n 2, 1) := by decide +kernel
theorem dF_5 : decode prog_16_method_4_code 5 = .ok (.iconst 0, 1) := by decide +kernel
theorem dF_6 : decode prog_16_method_4_code 6 = .ok (.istore_n 3, 1) := by decide +kernel
theorem dF_7 : decode prog_16_method_4_code 7 = .ok (.iload_n 3, 1) := by decide +kernel
theorem dF_8 : decode prog_16_method_4_code 8 = .ok (.bipush 10, 2) := by decide +kernel
theorem dF_10 : decode prog_16_method_4_code 10 = .ok (.if_icmp .ge 86, 3) := by decide +kernel
theorem dF_13 : decode prog_16_method_4_code 13 = .ok (.getstatic 9, 3) := by decide +kernel
theorem dF_16 : decode prog_16_method_4_code 16 = .ok (.iload_n 3, 1) := by decide +kernel
theorem dF_17 : decode prog_16_method_4_code 17 = .ok (.iaload, 1) := by decide +kernel
theorem dF_18 : decode prog_16_method_4_code 18 = .ok (.istore 4, 2) := by decide +kernel
theorem dF_20 : decode prog_16_method_4_code 20 = .ok (.iload_n 1, 1) := by decide +kernel
theorem dF_21 : decode prog_16_method_4_code 21 = .ok (.iload 4, 2) := by decide +kernel
theorem dF_23 : decode prog_16_method_4_code 23 = .ok (.bipush 64, 2) := by decide +kernel
theorem dF_25 : decode prog_16_method_4_code 25 = .ok (.idiv, 1) := by decide +kernel
theorem dF_26 : decode prog_16_method_4_code 26 = .ok (.iadd, 1) := by decide +kernel
theorem dF_27 : decode prog_16_method_4_code 27 = .ok (.istore 5, 2) := by decide +kernel
theorem dF_29 : decode prog_16_method_4_code 29 = .ok (.iload 4, 2) := by decide +kernel
theorem dF_31 : decode prog_16_method_4_code 31 = .ok (.bipush 64, 2) := by decide +kernel
theorem dF_33 : decode prog_16_method_4_code 33 = .ok (.irem, 1) := by decide +kernel
theorem dF_34 : decode prog_16_method_4_code 34 = .ok (.istore 6, 2) := by decide +kernel
theorem dF_36 : decode prog_16_method_4_code 36 = .ok (.aload_n 0, 1) := by decide +kernel
theorem dF_37 : decode prog_16_method_4_code 37 = .ok (.iload 5, 2) := by decide +kernel
theorem dF_39 : decode prog_16_method_4_code 39 = .ok (.laload, 1) := by decide +kernel
theorem dF_40 : decode prog_16_method_4_code 40 = .ok (.iload 6, 2) := by decide +kernel
theorem dF_42 : decode prog_16_method_4_code 42 = .ok (.lushr, 1) := by decide +kernel
theorem dF_43 : decode prog_16_method_4_code 43 = .ok (.lstore 7, 2) := by decide +kernel
theorem dF_45 : decode prog_16_method_4_code 45 = .ok (.iload 6, 2) := by decide +kernel
theorem dF_47 : decode prog_16_method_4_code 47 = .ok (.getstatic 17, 3) := by decide +kernel
theorem dF_50 : decode prog_16_method_4_code 50 = .ok (.iload_n 3, 1) := by decide +kernel
theorem dF_51 : decode prog_16_method_4_code 51 = .ok (.iaload, 1) := by decide +kernel
theorem dF_52 : decode prog_16_method_4_code 52 = .ok (.iadd, 1) := by decide +kernel
theorem dF_53 : decode prog_16_method_4_code 53 = .ok (.bipush 64, 2) := by decide +kernel
theorem dF_55 : decode prog_16_method_4_code 55 = .ok (.if_icmp .le 20, 3) := by decide +kernel
theorem dF_75 : decode prog_16_method_4_code 75 = .ok (.aload_n 2, 1) := by decide +kernel
theorem dF_76 : decode prog_16_method_4_code 76 = .ok (.iload_n 3, 1) := by decide +kernel
theorem dF_77 : decode prog_16_method_4_code 77 = .ok (.lload 7, 2) := by decide +kernel
theorem dF_79 : decode prog_16_method_4_code 79 = .ok (.lconst 1, 1) := by decide +kernel
theorem dF_80 : decode prog_16_method_4_code 80 = .ok (.getstatic 17, 3) := by decide +kernel
theorem dF_83 : decode prog_16_method_4_code 83 = .ok (.iload_n 3, 1) := by decide +kernel
theorem dF_84 : decode prog_16_method_4_code 84 = .ok (.iaload, 1) := by decide +kernel
theorem dF_85 : decode prog_16_method_4_code 85 = .ok (.lshl, 1) := by decide +kernel
theorem dF_86 : decode prog_16_method_4_code 86 = .ok (.lconst 1, 1) := by decide +kernel
theorem dF_87 : decode prog_16_method_4_code 87 = .ok (.lsub, 1) := by decide +kernel
theorem dF_88 : decode prog_16_method_4_code 88 = .ok (.land, 1) := by decide +kernel
theorem dF_89 : decode prog_16_method_4_code 89 = .ok (.lastore, 1) := by decide +kernel
theorem dF_90 : decode prog_16_method_4_code 90 = .ok (.iinc 3 1, 3) := by decide +kernel
theorem dF_93 : decode prog_16_method_4_code 93 = .ok (.goto (-86), 3) := by decide +kernel
theorem dF_58 : decode prog_16_method_4_code 58 = .ok (.lload 7, 2) := by decide +kernel
theorem dF_60 : decode prog_16_method_4_code 60 = .ok (.aload_n 0, 1) := by decide +kernel
theorem dF_61 : decode prog_16_method_4_code 61 = .ok (.iload 5, 2) := by decide +kernel
theorem dF_63 : decode prog_16_method_4_code 63 = .ok (.iconst 1, 1) := by decide +kernel
theorem dF_64 : decode prog_16_method_4_code 64 = .ok (.iadd, 1) := by decide +kernel
theorem dF_65 : decode prog_16_method_4_code 65 = .ok (.laload, 1) := by decide +kernel
theorem dF_66 : decode prog_16_method_4_code 66 = .ok (.bipush 64, 2) := by decide +kernel
theorem dF_68 : decode prog_16_method_4_code 68 = .ok (.iload 6, 2) := by decide +kernel
theorem dF_70 : decode prog_16_method_4_code 70 = .ok (.isub, 1) := by decide +kernel
theorem dF_71 : decode prog_16_method_4_code 71 = .ok (.lshl, 1) := by decide +kernel
theorem dF_72 : decode prog_16_method_4_code 72 = .ok (.lor, 1) := by decide +kernel
theorem dF_73 : decode prog_16_method_4_code 73 = .ok (.lstore 7, 2) := by decide +kernel
theorem dF_96 : decode prog_16_method_4_code 96 = .ok (.aload_n 2, 1) := by decide +kernel
theorem dF_97 : decode prog_16_method_4_code 97 = .ok (.areturn, 1) := by decide +kernel
theorem pn_F : plainName "com/example/gate_to_gate/gatetogate/io/Field25519" = true := by first | (simp [plainName, overriddenIn]; done) | decide +kernel
theorem ef_F (m : MethodId) (x0 : Addr) (x1 : Int32) : entryFrame m #[(.ref x0), (.int x1)] 9 = mkF m 0 #[.val (.ref x0), .val (.int x1), .unset, .unset, .unset, .unset, .unset, .unset, .unset] [] := by first | (simp [entryFrame, mkF, argsToLocals, Value.category]; done) | rfl
def QF (Z : State) (ar : Addr) (i1 : Int32) (q0 : Int64) (q1 : Int64) (q2 : Int64) (q3 : Int64) (wP : Addr) (wB : Addr) (h0 : Heap) (n0 : Nat) (v : Option Value) (h : Heap) (L : List Loc) : Prop := ∃ (b : Addr) (kc : ClassId), v = some (.ref b) ∧ Fr n0 L ∧ Keep h0 h [] ∧ (n0 ≤ b ∧ h0.size ≤ b ∧ Exa Z h b "[J") ∧ Arv Z h b kc .long (10 : Int32) [(.long (own_l0 q0 q1 q2 q3)), (.long (own_l1 q0 q1 q2 q3)), (.long (own_l2 q0 q1 q2 q3)), (.long (own_l3 q0 q1 q2 q3)), (.long (own_l4 q0 q1 q2 q3)), (.long (own_l5 q0 q1 q2 q3)), (.long (own_l6 q0 q1 q2 q3)), (.long (own_l7 q0 q1 q2 q3)), (.long (own_l8 q0 q1 q2 q3)), (.long (own_l9 q0 q1 q2 q3))] (.long (0 : Int64))
set_option maxRecDepth 65536 in
set_option maxHeartbeats 40000000 in
theorem rmF (l : Launch) (Z : State) (a0 : Array Value) (hw : ∀ d ∈ tables_1, d.before a0 Z = true) (ws : List Jvm.Cond) (ar : Addr) (i1 : Int32) (q0 : Int64) (q1 : Int64) (q2 : Int64) (q3 : Int64) (wP : Addr) (wB : Addr) (h0 : Heap) (n0 : Nat) (Z0 : n0 ≤ h0.size) (hO : Old Z n0 h0) (SP : Sta Z Z.heap "com/example/gate_to_gate/gatetogate/io/Field25519" "POSITIONS" "[I" (.ref wP)) (SB : Sta Z Z.heap "com/example/gate_to_gate/gatetogate/io/Field25519" "BITS" "[I" (.ref wB)) (TP : ∀ j, j < 10 → ORd Z Z.heap wP .int (Int32.ofNat j) (.int (own_pos j))) (TB : ∀ j, j < 10 → ORd Z Z.heap wB .int (Int32.ofNat j) (.int (own_bits j))) (R0 : ORd Z h0 ar .long (i1 + (0 : Int32)) (.long q0)) (R1 : ORd Z h0 ar .long (i1 + (1 : Int32)) (.long q1)) (R2 : ORd Z h0 ar .long (i1 + (2 : Int32)) (.long q2)) (R3 : ORd Z h0 ar .long (i1 + (3 : Int32)) (.long q3)) (R4 : ORd Z h0 ar .long ((i1 + (0 : Int32)) + (1 : Int32)) (.long q1)) (R5 : ORd Z h0 ar .long ((i1 + (2 : Int32)) + (1 : Int32)) (.long q3)) :
    MetFree l (⟨"com/example/gate_to_gate/gatetogate/io/Field25519", "fromWords", "([JI)[J"⟩ : MethodName) (head1 (Jvm.Cond.code (⟨"com/example/gate_to_gate/gatetogate/io/Field25519", "fromWords", "([JI)[J"⟩ : MethodName) prog_16_method_4_code 9 (some (.array .long)) :: ws) ({ frames := 0, cells := 1, slots := 10, locals := 0 } : Room)) (fun aA oU => aA = #[(.ref ar), (.int i1)] ∧ Z.Warmed39 oU.vm ∧ oU.heap = h0) (fun _ _ _ _ _ => True) (fun _ oU oO oU' => ∃ oV oL, oO = .returned oV ∧ QF Z ar i1 q0 q1 q2 q3 wP wB h0 n0 oV oU'.heap oL ∧ FrameEnd oU oO oU' oL ({ frames := 0, cells := 1, slots := 10, locals := 0 } : Room).cells ({ frames := 0, cells := 1, slots := 10, locals := 0 } : Room).slots) := by
  refine MetFree.of_bodySF (plainFor_of_name pn_F) hisR ?_
  intro p e s m args below meth c s₁ Bd hml0 hP hK
  obtain ⟨rfl, hZ, hh⟩ := hP
  have hx := Bd.exec
  have hby := Bd.bytes
  have hlk := BodyLoose.notSynchronized Bd
  have hml : c.maxLocals = 9 := hml0
  have hown : s.vm.findClass "com/example/gate_to_gate/gatetogate/io/Field25519" = some m.cls := findClass_of_methodNamed Bd.named
  have hnm := (name_of_methodNamed Bd.named Bd.method).1
  have X0 : Stand p l e ({ frames := 0, cells := 1, slots := 10, locals := 0 } : Room) s m #[(.ref ar), (.int i1)] below meth c s₁ [] 0 0 := Stand.of_body Bd
  have e0 : s₁.heap = h0 := by rw [← hh, Bd.state]; rfl
  have N0 := Fr.nil n0
  show OG p e below s ({ frames := 0, cells := 1, slots := 10, locals := 0 } : Room).cells ({ frames := 0, cells := 1, slots := 10, locals := 0 } : Room).slots (QF Z ar i1 q0 q1 q2 q3 wP wB h0 n0) _
  refine OG.of (fun oT oK => castTop (ef_F m ar i1) oK) ?_
  show OG p e below s _ _ _ (s₁.setTop (mkF m 0 (own_L0 ar i1) []))
  refine OG.of (A := s₁.setTop (mkF m 2 (own_L0 ar i1) [(.int (10 : Int32))])) (fun oT oK => ?_) ?_
  · skip
    refine XS.bipush X0.here hx rfl (hb hby dF_0) ?_
    exact oK
  obtain ⟨T1, h1, kc1, X1, e1, E1, A1, AE1, st1⟩ := newPE X0 hx hZ (own_at hw 1 rfl) e0 (g := (mkF m 2 (own_L0 ar i1) [(.int (10 : Int32))])) rfl (hb hby dF_2) rfl (by decide) (cap := 10) (by decide) (by decide) (by decide) (by decide) (ad := "[J") (by decide)
  obtain ⟨b1, g1⟩ : ∃ z, z = (h0).size := ⟨_, rfl⟩
  have ne_ar_b1 : ar ≠ b1 := Nat.ne_of_lt (Nat.lt_of_lt_of_le (R0).lt (Nat.le_of_eq g1.symm))
  have gn_b1 : n0 ≤ b1 := Nat.le_trans Z0 (Nat.le_of_eq g1.symm)
  have sz_b1 : h0.size ≤ b1 := Nat.le_trans (Keep.refl h0 []).1 (Nat.le_of_eq g1.symm)
  rw [← g1] at A1 AE1 st1
  have f1 := (R0).ext E1
  have f2 := (R1).ext E1
  have f3 := (R2).ext E1
  have f4 := (R3).ext E1
  have f5 := (R4).ext E1
  have f6 := (R5).ext E1
  have f7 := (hO).ext E1
  have K1 : Keep h0 h1 [] := (Keep.refl h0 []).ext E1
  have Z1 : n0 ≤ h1.size := Nat.le_trans Z0 E1.1
  have V1 : Arv Z h1 b1 kc1 .long (10 : Int32) [(.long (0 : Int64)), (.long (0 : Int64)), (.long (0 : Int64)), (.long (0 : Int64)), (.long (0 : Int64)), (.long (0 : Int64)), (.long (0 : Int64)), (.long (0 : Int64)), (.long (0 : Int64)), (.long (0 : Int64))] (.long (0 : Int64)) := (Arv.new A1 (by decide)).pad (pad_rep [] (.long (0 : Int64)) 10)
  refine OG.of st1 ?_
  show OG _ _ _ _ _ _ _ (T1.setTop (mkF m 4 (own_L0 ar i1) [(.ref b1)]))
  refine OG.of (A := T1.setTop (mkF m 13 (own_L2 ar i1 b1 (0 : Int32)) [])) (fun oT oK => ?_) ?_
  · skip
    refine XS.astoreN X1.here hx rfl (hb hby dF_4) rfl rfl (l' := (own_L1 ar i1 b1)) rfl ?_
    show Steps p.tables e below (T1.setTop (mkF m 5 (own_L1 ar i1 b1) [])) _
    refine XS.iconst X1.here hx rfl (hb hby dF_5) ?_
    refine XS.istoreN X1.here hx rfl (hb hby dF_6) rfl (l' := (own_L2 ar i1 b1 (0 : Int32))) rfl ?_
    show Steps p.tables e below (T1.setTop (mkF m 7 (own_L2 ar i1 b1 (0 : Int32)) [])) _
    refine XS.iloadN X1.here hx rfl (hb hby dF_7) rfl  ?_
    refine XS.bipush X1.here hx rfl (hb hby dF_8) ?_
    show Steps p.tables e below (T1.setTop (mkF m 10 (own_L2 ar i1 b1 (0 : Int32)) [(.int (10 : Int32)), (.int (0 : Int32))])) _
    refine XS.icmpNo X1.here hx rfl (hb hby dF_10) rfl (XT.ii_ge_f (by decide)) ?_
    exact oK
  obtain ⟨T2, X2, e2, st2⟩ := getS2 X1 hx hZ hown (host := "") (Or.inl (own_at hw 6 rfl)) Via.refl e1 (SP.ext (f7).2) (g := (mkF m 13 (own_L2 ar i1 b1 (0 : Int32)) [])) rfl (hb hby dF_13)
  refine OG.of st2 ?_
  show OG _ _ _ _ _ _ _ (T2.setTop (mkF m 16 (own_L2 ar i1 b1 (0 : Int32)) [(.ref wP)]))
  refine OG.of (A := T2.setTop (mkF m 17 (own_L2 ar i1 b1 (0 : Int32)) [(.int (0 : Int32)), (.ref wP)])) (fun oT oK => ?_) ?_
  · skip
    refine XS.iloadN X2.here hx rfl (hb hby dF_16) rfl  ?_
    exact oK
  have cf8 := ((TP 0 (by decide)).ext (f7).2)
  obtain ⟨clf8, Arf8, If8, Hf8⟩ := cf8
  refine OG.of (X2.iaload hx (j := (0 : Int32)) (v := (.int (0 : Int32))) (by rw [e2]; exact Arf8.1) (State.isArrayOf_alike hZ.alike Arf8.2.1) Arf8.2.2 If8 Hf8 (g := (mkF m 17 (own_L2 ar i1 b1 (0 : Int32)) [(.int (0 : Int32)), (.ref wP)])) rfl rfl (hb hby dF_17)) ?_
  show OG _ _ _ _ _ _ _ (T2.setTop (mkF m 18 (own_L2 ar i1 b1 (0 : Int32)) [(.int (0 : Int32))]))
  refine OG.of (A := T2.setTop (mkF m 39 (own_L5 ar i1 b1 (0 : Int32) (0 : Int32) (i1 + (0 : Int32)) (0 : Int32)) [(.int (i1 + (0 : Int32))), (.ref ar)])) (fun oT oK => ?_) ?_
  · skip
    refine XS.istore X2.here hx rfl (hb hby dF_18) rfl (l' := (own_L3 ar i1 b1 (0 : Int32) (0 : Int32))) rfl ?_
    show Steps p.tables e below (T2.setTop (mkF m 20 (own_L3 ar i1 b1 (0 : Int32) (0 : Int32)) [])) _
    refine XS.iloadN X2.here hx rfl (hb hby dF_20) rfl  ?_
    refine XS.iload X2.here hx rfl (hb hby dF_21) rfl  ?_
    show Steps p.tables e below (T2.setTop (mkF m 23 (own_L3 ar i1 b1 (0 : Int32) (0 : Int32)) [(.int (0 : Int32)), (.int i1)])) _
    refine XS.bipush X2.here hx rfl (hb hby dF_23) ?_
    refine XS.idiv X2.here hx rfl (hb hby dF_25) rfl (by decide) ?_
    show Steps p.tables e below (T2.setTop (mkF m 26 (own_L3 ar i1 b1 (0 : Int32) (0 : Int32)) [(.int (0 : Int32)), (.int i1)])) _
    refine XS.iadd X2.here hx rfl (hb hby dF_26) rfl ?_
    refine XS.istore X2.here hx rfl (hb hby dF_27) rfl (l' := (own_L4 ar i1 b1 (0 : Int32) (0 : Int32) (i1 + (0 : Int32)))) rfl ?_
    show Steps p.tables e below (T2.setTop (mkF m 29 (own_L4 ar i1 b1 (0 : Int32) (0 : Int32) (i1 + (0 : Int32))) [])) _
    refine XS.iload X2.here hx rfl (hb hby dF_29) rfl  ?_
    refine XS.bipush X2.here hx rfl (hb hby dF_31) ?_
    show Steps p.tables e below (T2.setTop (mkF m 33 (own_L4 ar i1 b1 (0 : Int32) (0 : Int32) (i1 + (0 : Int32))) [(.int (64 : Int32)), (.int (0 : Int32))])) _
    refine Jvm.RoadKit.iremM X2 hx rfl (hb hby dF_33) rfl (by decide) ?_
    refine XS.istore X2.here hx rfl (hb hby dF_34) rfl (l' := (own_L5 ar i1 b1 (0 : Int32) (0 : Int32) (i1 + (0 : Int32)) (0 : Int32))) rfl ?_
    show Steps p.tables e below (T2.setTop (mkF m 36 (own_L5 ar i1 b1 (0 : Int32) (0 : Int32) (i1 + (0 : Int32)) (0 : Int32)) [])) _
    refine XS.aloadN X2.here hx rfl (hb hby dF_36) rfl rfl  ?_
    refine XS.iload X2.here hx rfl (hb hby dF_37) rfl  ?_
    exact oK
  have cf9 := f1
  obtain ⟨clf9, Arf9, If9, Hf9⟩ := cf9
  refine OG.of (X2.laload hx (j := (i1 + (0 : Int32))) (v := (.long q0)) (by rw [e2]; exact Arf9.1) (State.isArrayOf_alike hZ.alike Arf9.2.1) Arf9.2.2 If9 Hf9 (g := (mkF m 39 (own_L5 ar i1 b1 (0 : Int32) (0 : Int32) (i1 + (0 : Int32)) (0 : Int32)) [(.int (i1 + (0 : Int32))), (.ref ar)])) rfl rfl (hb hby dF_39)) ?_
  show OG _ _ _ _ _ _ _ (T2.setTop (mkF m 40 (own_L5 ar i1 b1 (0 : Int32) (0 : Int32) (i1 + (0 : Int32)) (0 : Int32)) [(.long q0)]))
  refine OG.of (A := T2.setTop (mkF m 47 (own_L6 ar i1 b1 (0 : Int32) (0 : Int32) (i1 + (0 : Int32)) (0 : Int32) (XT.ushrL q0 (0 : Int32))) [(.int (0 : Int32))])) (fun oT oK => ?_) ?_
  · skip
    refine XS.iload X2.here hx rfl (hb hby dF_40) rfl  ?_
    show Steps p.tables e below (T2.setTop (mkF m 42 (own_L5 ar i1 b1 (0 : Int32) (0 : Int32) (i1 + (0 : Int32)) (0 : Int32)) [(.int (0 : Int32)), (.long q0)])) _
    refine XT.lushr X2.here hx rfl (hb hby dF_42) rfl ?_
    refine XT.lstore X2.here hx rfl (hb hby dF_43) rfl (l' := (own_L6 ar i1 b1 (0 : Int32) (0 : Int32) (i1 + (0 : Int32)) (0 : Int32) (XT.ushrL q0 (0 : Int32)))) rfl ?_
    show Steps p.tables e below (T2.setTop (mkF m 45 (own_L6 ar i1 b1 (0 : Int32) (0 : Int32) (i1 + (0 : Int32)) (0 : Int32) (XT.ushrL q0 (0 : Int32))) [])) _
    refine XS.iload X2.here hx rfl (hb hby dF_45) rfl  ?_
    exact oK
  obtain ⟨T3, X3, e3, st3⟩ := getS2 X2 hx hZ hown (host := "") (Or.inl (own_at hw 8 rfl)) Via.refl e2 (SB.ext (f7).2) (g := (mkF m 47 (own_L6 ar i1 b1 (0 : Int32) (0 : Int32) (i1 + (0 : Int32)) (0 : Int32) (XT.ushrL q0 (0 : Int32))) [(.int (0 : Int32))])) rfl (hb hby dF_47)
  refine OG.of st3 ?_
  show OG _ _ _ _ _ _ _ (T3.setTop (mkF m 50 (own_L6 ar i1 b1 (0 : Int32) (0 : Int32) (i1 + (0 : Int32)) (0 : Int32) (XT.ushrL q0 (0 : Int32))) [(.ref wB), (.int (0 : Int32))]))
  refine OG.of (A := T3.setTop (mkF m 51 (own_L6 ar i1 b1 (0 : Int32) (0 : Int32) (i1 + (0 : Int32)) (0 : Int32) (XT.ushrL q0 (0 : Int32))) [(.int (0 : Int32)), (.ref wB), (.int (0 : Int32))])) (fun oT oK => ?_) ?_
  · skip
    refine XS.iloadN X3.here hx rfl (hb hby dF_50) rfl  ?_
    exact oK
  have cf10 := ((TB 0 (by decide)).ext (f7).2)
  obtain ⟨clf10, Arf10, If10, Hf10⟩ := cf10
  refine OG.of (X3.iaload hx (j := (0 : Int32)) (v := (.int (26 : Int32))) (by rw [e3]; exact Arf10.1) (State.isArrayOf_alike hZ.alike Arf10.2.1) Arf10.2.2 If10 Hf10 (g := (mkF m 51 (own_L6 ar i1 b1 (0 : Int32) (0 : Int32) (i1 + (0 : Int32)) (0 : Int32) (XT.ushrL q0 (0 : Int32))) [(.int (0 : Int32)), (.ref wB), (.int (0 : Int32))])) rfl rfl (hb hby dF_51)) ?_
  show OG _ _ _ _ _ _ _ (T3.setTop (mkF m 52 (own_L6 ar i1 b1 (0 : Int32) (0 : Int32) (i1 + (0 : Int32)) (0 : Int32) (XT.ushrL q0 (0 : Int32))) [(.int (26 : Int32)), (.int (0 : Int32))]))
  refine OG.of (A := T3.setTop (mkF m 80 (own_L6 ar i1 b1 (0 : Int32) (0 : Int32) (i1 + (0 : Int32)) (0 : Int32) (XT.ushrL q0 (0 : Int32))) [(.long (1 : Int64)), (.long (XT.ushrL q0 (0 : Int32))), (.int (0 : Int32)), (.ref b1)])) (fun oT oK => ?_) ?_
  · skip
    refine XS.iadd X3.here hx rfl (hb hby dF_52) rfl ?_
    show Steps p.tables e below (T3.setTop (mkF m 53 (own_L6 ar i1 b1 (0 : Int32) (0 : Int32) (i1 + (0 : Int32)) (0 : Int32) (XT.ushrL q0 (0 : Int32))) [(.int (26 : Int32))])) _
    refine XS.bipush X3.here hx rfl (hb hby dF_53) ?_
    show Steps p.tables e below (T3.setTop (mkF m 55 (own_L6 ar i1 b1 (0 : Int32) (0 : Int32) (i1 + (0 : Int32)) (0 : Int32) (XT.ushrL q0 (0 : Int32))) [(.int (64 : Int32)), (.int (26 : Int32))])) _
    refine XS.icmpYes X3.here hx rfl (pc0 := 55) (pc' := 75) rfl (hb hby dF_55) rfl (XT.ii_le_t (by decide)) (by decide) (by decide) ?_
    show Steps p.tables e below (T3.setTop (mkF m 75 (own_L6 ar i1 b1 (0 : Int32) (0 : Int32) (i1 + (0 : Int32)) (0 : Int32) (XT.ushrL q0 (0 : Int32))) [])) _
    refine XS.aloadN X3.here hx rfl (hb hby dF_75) rfl rfl  ?_
    refine XS.iloadN X3.here hx rfl (hb hby dF_76) rfl  ?_
    show Steps p.tables e below (T3.setTop (mkF m 77 (own_L6 ar i1 b1 (0 : Int32) (0 : Int32) (i1 + (0 : Int32)) (0 : Int32) (XT.ushrL q0 (0 : Int32))) [(.int (0 : Int32)), (.ref b1)])) _
    refine XT.lload X3.here hx rfl (hb hby dF_77) rfl  ?_
    refine XT.lconst X3.here hx rfl (hb hby dF_79) ?_
    exact oK
  obtain ⟨T4, X4, e4, st4⟩ := getS2 X3 hx hZ hown (host := "") (Or.inl (own_at hw 8 rfl)) Via.refl e3 (SB.ext (f7).2) (g := (mkF m 80 (own_L6 ar i1 b1 (0 : Int32) (0 : Int32) (i1 + (0 : Int32)) (0 : Int32) (XT.ushrL q0 (0 : Int32))) [(.long (1 : Int64)), (.long (XT.ushrL q0 (0 : Int32))), (.int (0 : Int32)), (.ref b1)])) rfl (hb hby dF_80)
  refine OG.of st4 ?_
  show OG _ _ _ _ _ _ _ (T4.setTop (mkF m 83 (own_L6 ar i1 b1 (0 : Int32) (0 : Int32) (i1 + (0 : Int32)) (0 : Int32) (XT.ushrL q0 (0 : Int32))) [(.ref wB), (.long (1 : Int64)), (.long (XT.ushrL q0 (0 : Int32))), (.int (0 : Int32)), (.ref b1)]))
  refine OG.of (A := T4.setTop (mkF m 84 (own_L6 ar i1 b1 (0 : Int32) (0 : Int32) (i1 + (0 : Int32)) (0 : Int32) (XT.ushrL q0 (0 : Int32))) [(.int (0 : Int32)), (.ref wB), (.long (1 : Int64)), (.long (XT.ushrL q0 (0 : Int32))), (.int (0 : Int32)), (.ref b1)])) (fun oT oK => ?_) ?_
  · skip
    refine XS.iloadN X4.here hx rfl (hb hby dF_83) rfl  ?_
    exact oK
  have cf11 := ((TB 0 (by decide)).ext (f7).2)
  obtain ⟨clf11, Arf11, If11, Hf11⟩ := cf11
  refine OG.of (X4.iaload hx (j := (0 : Int32)) (v := (.int (26 : Int32))) (by rw [e4]; exact Arf11.1) (State.isArrayOf_alike hZ.alike Arf11.2.1) Arf11.2.2 If11 Hf11 (g := (mkF m 84 (own_L6 ar i1 b1 (0 : Int32) (0 : Int32) (i1 + (0 : Int32)) (0 : Int32) (XT.ushrL q0 (0 : Int32))) [(.int (0 : Int32)), (.ref wB), (.long (1 : Int64)), (.long (XT.ushrL q0 (0 : Int32))), (.int (0 : Int32)), (.ref b1)])) rfl rfl (hb hby dF_84)) ?_
  show OG _ _ _ _ _ _ _ (T4.setTop (mkF m 85 (own_L6 ar i1 b1 (0 : Int32) (0 : Int32) (i1 + (0 : Int32)) (0 : Int32) (XT.ushrL q0 (0 : Int32))) [(.int (26 : Int32)), (.long (1 : Int64)), (.long (XT.ushrL q0 (0 : Int32))), (.int (0 : Int32)), (.ref b1)]))
  refine OG.of (A := T4.setTop (mkF m 89 (own_L6 ar i1 b1 (0 : Int32) (0 : Int32) (i1 + (0 : Int32)) (0 : Int32) (XT.ushrL q0 (0 : Int32))) [(.long ((XT.ushrL q0 (0 : Int32)) &&& (((1 : Int64) <<< ((26 : Int32).toInt64 &&& 63)) - (1 : Int64)))), (.int (0 : Int32)), (.ref b1)])) (fun oT oK => ?_) ?_
  · skip
    refine XT.lshl X4.here hx rfl (hb hby dF_85) rfl ?_
    show Steps p.tables e below (T4.setTop (mkF m 86 (own_L6 ar i1 b1 (0 : Int32) (0 : Int32) (i1 + (0 : Int32)) (0 : Int32) (XT.ushrL q0 (0 : Int32))) [(.long ((1 : Int64) <<< ((26 : Int32).toInt64 &&& 63))), (.long (XT.ushrL q0 (0 : Int32))), (.int (0 : Int32)), (.ref b1)])) _
    refine XT.lconst X4.here hx rfl (hb hby dF_86) ?_
    refine XT.lsub X4.here hx rfl (hb hby dF_87) rfl ?_
    show Steps p.tables e below (T4.setTop (mkF m 88 (own_L6 ar i1 b1 (0 : Int32) (0 : Int32) (i1 + (0 : Int32)) (0 : Int32) (XT.ushrL q0 (0 : Int32))) [(.long (((1 : Int64) <<< ((26 : Int32).toInt64 &&& 63)) - (1 : Int64))), (.long (XT.ushrL q0 (0 : Int32))), (.int (0 : Int32)), (.ref b1)])) _
    refine XT.land X4.here hx rfl (hb hby dF_88) rfl ?_
    exact oK
  show OG _ _ _ _ _ _ _ (T4.setTop (mkF m 89 (own_L6 ar i1 b1 (0 : Int32) (0 : Int32) (i1 + (0 : Int32)) (0 : Int32) (XT.ushrL q0 (0 : Int32))) [(.long (own_l0 q0 q1 q2 q3)), (.int (0 : Int32)), (.ref b1)]))
  have cf12 := V1
  obtain ⟨clf12, Arf12, qf12, Sf12, Mf12, Hf12, Gf12⟩ := cf12
  obtain ⟨T5, h5, X5, e5, W5, st5⟩ := stJ X4 hx hZ e4 Arf12 (j := (0 : Int32)) (inb_of Sf12 ⟨by decide, by decide⟩) (g := (mkF m 89 (own_L6 ar i1 b1 (0 : Int32) (0 : Int32) (i1 + (0 : Int32)) (0 : Int32) (XT.ushrL q0 (0 : Int32))) [(.long (own_l0 q0 q1 q2 q3)), (.int (0 : Int32)), (.ref b1)])) rfl rfl (hb hby dF_89)
  have f13 := (f1).other W5 ne_ar_b1
  have f14 := (f2).other W5 ne_ar_b1
  have f15 := (f3).other W5 ne_ar_b1
  have f16 := (f4).other W5 ne_ar_b1
  have f17 := (f5).other W5 ne_ar_b1
  have f18 := (f6).other W5 ne_ar_b1
  have f19 := (AE1).wr W5
  have V5 : Arv Z h5 b1 kc1 .long (10 : Int32) [(.long (own_l0 q0 q1 q2 q3)), (.long (0 : Int64)), (.long (0 : Int64)), (.long (0 : Int64)), (.long (0 : Int64)), (.long (0 : Int64)), (.long (0 : Int64)), (.long (0 : Int64)), (.long (0 : Int64)), (.long (0 : Int64))] (.long (0 : Int64)) := Arv.set Arf12 qf12 Sf12 Mf12 Hf12 Gf12 rfl W5 0 rfl (Nat.le_of_ble_eq_true rfl)
  have f21 := (f7).wr W5 gn_b1
  have K5 : Keep h0 h5 [] := (K1).wr W5 (Or.inr sz_b1)
  have Z5 : n0 ≤ h5.size := Nat.le_trans Z1 (Keep.of_wr W5).1
  have N5 := Fr.snoc X5 N0 gn_b1
  refine OG.of st5 ?_
  show OG _ _ _ _ _ _ _ (T5.setTop (mkF m 90 (own_L6 ar i1 b1 (0 : Int32) (0 : Int32) (i1 + (0 : Int32)) (0 : Int32) (XT.ushrL q0 (0 : Int32))) []))
  refine OG.of (A := T5.setTop (mkF m 13 (own_L6 ar i1 b1 (1 : Int32) (0 : Int32) (i1 + (0 : Int32)) (0 : Int32) (XT.ushrL q0 (0 : Int32))) [])) (fun oT oK => ?_) ?_
  · skip
    refine XS.iinc X5.here hx rfl (hb hby dF_90) rfl (l' := (own_L6 ar i1 b1 (1 : Int32) (0 : Int32) (i1 + (0 : Int32)) (0 : Int32) (XT.ushrL q0 (0 : Int32)))) rfl ?_
    show Steps p.tables e below (T5.setTop (mkF m 93 (own_L6 ar i1 b1 (1 : Int32) (0 : Int32) (i1 + (0 : Int32)) (0 : Int32) (XT.ushrL q0 (0 : Int32))) [])) _
    refine XS.goto X5.here hx rfl (pc0 := 93) (pc' := 7) rfl (hb hby dF_93) (by decide) (by decide) ?_
    refine XS.iloadN X5.here hx rfl (hb hby dF_7) rfl  ?_
    show Steps p.tables e below (T5.setTop (mkF m 8 (own_L6 ar i1 b1 (1 : Int32) (0 : Int32) (i1 + (0 : Int32)) (0 : Int32) (XT.ushrL q0 (0 : Int32))) [(.int (1 : Int32))])) _
    refine XS.bipush X5.here hx rfl (hb hby dF_8) ?_
    show Steps p.tables e below (T5.setTop (mkF m 10 (own_L6 ar i1 b1 (1 : Int32) (0 : Int32) (i1 + (0 : Int32)) (0 : Int32) (XT.ushrL q0 (0 : Int32))) [(.int (10 : Int32)), (.int (1 : Int32))])) _
    refine XS.icmpNo X5.here hx rfl (hb hby dF_10) rfl (XT.ii_ge_f (by decide)) ?_
    exact oK
  obtain ⟨T6, X6, e6, st6⟩ := getS2 X5 hx hZ hown (host := "") (Or.inl (own_at hw 6 rfl)) Via.refl e5 (SP.ext (f21).2) (g := (mkF m 13 (own_L6 ar i1 b1 (1 : Int32) (0 : Int32) (i1 + (0 : Int32)) (0 : Int32) (XT.ushrL q0 (0 : Int32))) [])) rfl (hb hby dF_13)
  refine OG.of st6 ?_
  show OG _ _ _ _ _ _ _ (T6.setTop (mkF m 16 (own_L6 ar i1 b1 (1 : Int32) (0 : Int32) (i1 + (0 : Int32)) (0 : Int32) (XT.ushrL q0 (0 : Int32))) [(.ref wP)]))
  refine OG.of (A := T6.setTop (mkF m 17 (own_L6 ar i1 b1 (1 : Int32) (0 : Int32) (i1 + (0 : Int32)) (0 : Int32) (XT.ushrL q0 (0 : Int32))) [(.int (1 : Int32)), (.ref wP)])) (fun oT oK => ?_) ?_
  · skip
    refine XS.iloadN X6.here hx rfl (hb hby dF_16) rfl  ?_
    exact oK
  have cf22 := ((TP 1 (by decide)).ext (f21).2)
  obtain ⟨clf22, Arf22, If22, Hf22⟩ := cf22
  refine OG.of (X6.iaload hx (j := (1 : Int32)) (v := (.int (26 : Int32))) (by rw [e6]; exact Arf22.1) (State.isArrayOf_alike hZ.alike Arf22.2.1) Arf22.2.2 If22 Hf22 (g := (mkF m 17 (own_L6 ar i1 b1 (1 : Int32) (0 : Int32) (i1 + (0 : Int32)) (0 : Int32) (XT.ushrL q0 (0 : Int32))) [(.int (1 : Int32)), (.ref wP)])) rfl rfl (hb hby dF_17)) ?_
  show OG _ _ _ _ _ _ _ (T6.setTop (mkF m 18 (own_L6 ar i1 b1 (1 : Int32) (0 : Int32) (i1 + (0 : Int32)) (0 : Int32) (XT.ushrL q0 (0 : Int32))) [(.int (26 : Int32))]))
  refine OG.of (A := T6.setTop (mkF m 39 (own_L6 ar i1 b1 (1 : Int32) (26 : Int32) (i1 + (0 : Int32)) (26 : Int32) (XT.ushrL q0 (0 : Int32))) [(.int (i1 + (0 : Int32))), (.ref ar)])) (fun oT oK => ?_) ?_
  · skip
    refine XS.istore X6.here hx rfl (hb hby dF_18) rfl (l' := (own_L6 ar i1 b1 (1 : Int32) (26 : Int32) (i1 + (0 : Int32)) (0 : Int32) (XT.ushrL q0 (0 : Int32)))) rfl ?_
    show Steps p.tables e below (T6.setTop (mkF m 20 (own_L6 ar i1 b1 (1 : Int32) (26 : Int32) (i1 + (0 : Int32)) (0 : Int32) (XT.ushrL q0 (0 : Int32))) [])) _
    refine XS.iloadN X6.here hx rfl (hb hby dF_20) rfl  ?_
    refine XS.iload X6.here hx rfl (hb hby dF_21) rfl  ?_
    show Steps p.tables e below (T6.setTop (mkF m 23 (own_L6 ar i1 b1 (1 : Int32) (26 : Int32) (i1 + (0 : Int32)) (0 : Int32) (XT.ushrL q0 (0 : Int32))) [(.int (26 : Int32)), (.int i1)])) _
    refine XS.bipush X6.here hx rfl (hb hby dF_23) ?_
    refine XS.idiv X6.here hx rfl (hb hby dF_25) rfl (by decide) ?_
    show Steps p.tables e below (T6.setTop (mkF m 26 (own_L6 ar i1 b1 (1 : Int32) (26 : Int32) (i1 + (0 : Int32)) (0 : Int32) (XT.ushrL q0 (0 : Int32))) [(.int (0 : Int32)), (.int i1)])) _
    refine XS.iadd X6.here hx rfl (hb hby dF_26) rfl ?_
    refine XS.istore X6.here hx rfl (hb hby dF_27) rfl (l' := (own_L6 ar i1 b1 (1 : Int32) (26 : Int32) (i1 + (0 : Int32)) (0 : Int32) (XT.ushrL q0 (0 : Int32)))) rfl ?_
    show Steps p.tables e below (T6.setTop (mkF m 29 (own_L6 ar i1 b1 (1 : Int32) (26 : Int32) (i1 + (0 : Int32)) (0 : Int32) (XT.ushrL q0 (0 : Int32))) [])) _
    refine XS.iload X6.here hx rfl (hb hby dF_29) rfl  ?_
    refine XS.bipush X6.here hx rfl (hb hby dF_31) ?_
    show Steps p.tables e below (T6.setTop (mkF m 33 (own_L6 ar i1 b1 (1 : Int32) (26 : Int32) (i1 + (0 : Int32)) (0 : Int32) (XT.ushrL q0 (0 : Int32))) [(.int (64 : Int32)), (.int (26 : Int32))])) _
    refine Jvm.RoadKit.iremM X6 hx rfl (hb hby dF_33) rfl (by decide) ?_
    refine XS.istore X6.here hx rfl (hb hby dF_34) rfl (l' := (own_L6 ar i1 b1 (1 : Int32) (26 : Int32) (i1 + (0 : Int32)) (26 : Int32) (XT.ushrL q0 (0 : Int32)))) rfl ?_
    show Steps p.tables e below (T6.setTop (mkF m 36 (own_L6 ar i1 b1 (1 : Int32) (26 : Int32) (i1 + (0 : Int32)) (26 : Int32) (XT.ushrL q0 (0 : Int32))) [])) _
    refine XS.aloadN X6.here hx rfl (hb hby dF_36) rfl rfl  ?_
    refine XS.iload X6.here hx rfl (hb hby dF_37) rfl  ?_
    exact oK
  have cf23 := f13
  obtain ⟨clf23, Arf23, If23, Hf23⟩ := cf23
  refine OG.of (X6.laload hx (j := (i1 + (0 : Int32))) (v := (.long q0)) (by rw [e6]; exact Arf23.1) (State.isArrayOf_alike hZ.alike Arf23.2.1) Arf23.2.2 If23 Hf23 (g := (mkF m 39 (own_L6 ar i1 b1 (1 : Int32) (26 : Int32) (i1 + (0 : Int32)) (26 : Int32) (XT.ushrL q0 (0 : Int32))) [(.int (i1 + (0 : Int32))), (.ref ar)])) rfl rfl (hb hby dF_39)) ?_
  show OG _ _ _ _ _ _ _ (T6.setTop (mkF m 40 (own_L6 ar i1 b1 (1 : Int32) (26 : Int32) (i1 + (0 : Int32)) (26 : Int32) (XT.ushrL q0 (0 : Int32))) [(.long q0)]))
  refine OG.of (A := T6.setTop (mkF m 47 (own_L6 ar i1 b1 (1 : Int32) (26 : Int32) (i1 + (0 : Int32)) (26 : Int32) (XT.ushrL q0 (26 : Int32))) [(.int (26 : Int32))])) (fun oT oK => ?_) ?_
  · skip
    refine XS.iload X6.here hx rfl (hb hby dF_40) rfl  ?_
    show Steps p.tables e below (T6.setTop (mkF m 42 (own_L6 ar i1 b1 (1 : Int32) (26 : Int32) (i1 + (0 : Int32)) (26 : Int32) (XT.ushrL q0 (0 : Int32))) [(.int (26 : Int32)), (.long q0)])) _
    refine XT.lushr X6.here hx rfl (hb hby dF_42) rfl ?_
    refine XT.lstore X6.here hx rfl (hb hby dF_43) rfl (l' := (own_L6 ar i1 b1 (1 : Int32) (26 : Int32) (i1 + (0 : Int32)) (26 : Int32) (XT.ushrL q0 (26 : Int32)))) rfl ?_
    show Steps p.tables e below (T6.setTop (mkF m 45 (own_L6 ar i1 b1 (1 : Int32) (26 : Int32) (i1 + (0 : Int32)) (26 : Int32) (XT.ushrL q0 (26 : Int32))) [])) _
    refine XS.iload X6.here hx rfl (hb hby dF_45) rfl  ?_
    exact oK
  obtain ⟨T7, X7, e7, st7⟩ := getS2 X6 hx hZ hown (host := "") (Or.inl (own_at hw 8 rfl)) Via.refl e6 (SB.ext (f21).2) (g := (mkF m 47 (own_L6 ar i1 b1 (1 : Int32) (26 : Int32) (i1 + (0 : Int32)) (26 : Int32) (XT.ushrL q0 (26 : Int32))) [(.int (26 : Int32))])) rfl (hb hby dF_47)
  refine OG.of st7 ?_
  show OG _ _ _ _ _ _ _ (T7.setTop (mkF m 50 (own_L6 ar i1 b1 (1 : Int32) (26 : Int32) (i1 + (0 : Int32)) (26 : Int32) (XT.ushrL q0 (26 : Int32))) [(.ref wB), (.int (26 : Int32))]))
  refine OG.of (A := T7.setTop (mkF m 51 (own_L6 ar i1 b1 (1 : Int32) (26 : Int32) (i1 + (0 : Int32)) (26 : Int32) (XT.ushrL q0 (26 : Int32))) [(.int (1 : Int32)), (.ref wB), (.int (26 : Int32))])) (fun oT oK => ?_) ?_
  · skip
    refine XS.iloadN X7.here hx rfl (hb hby dF_50) rfl  ?_
    exact oK
  have cf24 := ((TB 1 (by decide)).ext (f21).2)
  obtain ⟨clf24, Arf24, If24, Hf24⟩ := cf24
  refine OG.of (X7.iaload hx (j := (1 : Int32)) (v := (.int (25 : Int32))) (by rw [e7]; exact Arf24.1) (State.isArrayOf_alike hZ.alike Arf24.2.1) Arf24.2.2 If24 Hf24 (g := (mkF m 51 (own_L6 ar i1 b1 (1 : Int32) (26 : Int32) (i1 + (0 : Int32)) (26 : Int32) (XT.ushrL q0 (26 : Int32))) [(.int (1 : Int32)), (.ref wB), (.int (26 : Int32))])) rfl rfl (hb hby dF_51)) ?_
  show OG _ _ _ _ _ _ _ (T7.setTop (mkF m 52 (own_L6 ar i1 b1 (1 : Int32) (26 : Int32) (i1 + (0 : Int32)) (26 : Int32) (XT.ushrL q0 (26 : Int32))) [(.int (25 : Int32)), (.int (26 : Int32))]))
  refine OG.of (A := T7.setTop (mkF m 80 (own_L6 ar i1 b1 (1 : Int32) (26 : Int32) (i1 + (0 : Int32)) (26 : Int32) (XT.ushrL q0 (26 : Int32))) [(.long (1 : Int64)), (.long (XT.ushrL q0 (26 : Int32))), (.int (1 : Int32)), (.ref b1)])) (fun oT oK => ?_) ?_
  · skip
    refine XS.iadd X7.here hx rfl (hb hby dF_52) rfl ?_
    show Steps p.tables e below (T7.setTop (mkF m 53 (own_L6 ar i1 b1 (1 : Int32) (26 : Int32) (i1 + (0 : Int32)) (26 : Int32) (XT.ushrL q0 (26 : Int32))) [(.int (51 : Int32))])) _
    refine XS.bipush X7.here hx rfl (hb hby dF_53) ?_
    show Steps p.tables e below (T7.setTop (mkF m 55 (own_L6 ar i1 b1 (1 : Int32) (26 : Int32) (i1 + (0 : Int32)) (26 : Int32) (XT.ushrL q0 (26 : Int32))) [(.int (64 : Int32)), (.int (51 : Int32))])) _
    refine XS.icmpYes X7.here hx rfl (pc0 := 55) (pc' := 75) rfl (hb hby dF_55) rfl (XT.ii_le_t (by decide)) (by decide) (by decide) ?_
    show Steps p.tables e below (T7.setTop (mkF m 75 (own_L6 ar i1 b1 (1 : Int32) (26 : Int32) (i1 + (0 : Int32)) (26 : Int32) (XT.ushrL q0 (26 : Int32))) [])) _
    refine XS.aloadN X7.here hx rfl (hb hby dF_75) rfl rfl  ?_
    refine XS.iloadN X7.here hx rfl (hb hby dF_76) rfl  ?_
    show Steps p.tables e below (T7.setTop (mkF m 77 (own_L6 ar i1 b1 (1 : Int32) (26 : Int32) (i1 + (0 : Int32)) (26 : Int32) (XT.ushrL q0 (26 : Int32))) [(.int (1 : Int32)), (.ref b1)])) _
    refine XT.lload X7.here hx rfl (hb hby dF_77) rfl  ?_
    refine XT.lconst X7.here hx rfl (hb hby dF_79) ?_
    exact oK
  obtain ⟨T8, X8, e8, st8⟩ := getS2 X7 hx hZ hown (host := "") (Or.inl (own_at hw 8 rfl)) Via.refl e7 (SB.ext (f21).2) (g := (mkF m 80 (own_L6 ar i1 b1 (1 : Int32) (26 : Int32) (i1 + (0 : Int32)) (26 : Int32) (XT.ushrL q0 (26 : Int32))) [(.long (1 : Int64)), (.long (XT.ushrL q0 (26 : Int32))), (.int (1 : Int32)), (.ref b1)])) rfl (hb hby dF_80)
  refine OG.of st8 ?_
  show OG _ _ _ _ _ _ _ (T8.setTop (mkF m 83 (own_L6 ar i1 b1 (1 : Int32) (26 : Int32) (i1 + (0 : Int32)) (26 : Int32) (XT.ushrL q0 (26 : Int32))) [(.ref wB), (.long (1 : Int64)), (.long (XT.ushrL q0 (26 : Int32))), (.int (1 : Int32)), (.ref b1)]))
  refine OG.of (A := T8.setTop (mkF m 84 (own_L6 ar i1 b1 (1 : Int32) (26 : Int32) (i1 + (0 : Int32)) (26 : Int32) (XT.ushrL q0 (26 : Int32))) [(.int (1 : Int32)), (.ref wB), (.long (1 : Int64)), (.long (XT.ushrL q0 (26 : Int32))), (.int (1 : Int32)), (.ref b1)])) (fun oT oK => ?_) ?_
  · skip
    refine XS.iloadN X8.here hx rfl (hb hby dF_83) rfl  ?_
    exact oK
  have cf25 := ((TB 1 (by decide)).ext (f21).2)
  obtain ⟨clf25, Arf25, If25, Hf25⟩ := cf25
  refine OG.of (X8.iaload hx (j := (1 : Int32)) (v := (.int (25 : Int32))) (by rw [e8]; exact Arf25.1) (State.isArrayOf_alike hZ.alike Arf25.2.1) Arf25.2.2 If25 Hf25 (g := (mkF m 84 (own_L6 ar i1 b1 (1 : Int32) (26 : Int32) (i1 + (0 : Int32)) (26 : Int32) (XT.ushrL q0 (26 : Int32))) [(.int (1 : Int32)), (.ref wB), (.long (1 : Int64)), (.long (XT.ushrL q0 (26 : Int32))), (.int (1 : Int32)), (.ref b1)])) rfl rfl (hb hby dF_84)) ?_
  show OG _ _ _ _ _ _ _ (T8.setTop (mkF m 85 (own_L6 ar i1 b1 (1 : Int32) (26 : Int32) (i1 + (0 : Int32)) (26 : Int32) (XT.ushrL q0 (26 : Int32))) [(.int (25 : Int32)), (.long (1 : Int64)), (.long (XT.ushrL q0 (26 : Int32))), (.int (1 : Int32)), (.ref b1)]))
  refine OG.of (A := T8.setTop (mkF m 89 (own_L6 ar i1 b1 (1 : Int32) (26 : Int32) (i1 + (0 : Int32)) (26 : Int32) (XT.ushrL q0 (26 : Int32))) [(.long ((XT.ushrL q0 (26 : Int32)) &&& (((1 : Int64) <<< ((25 : Int32).toInt64 &&& 63)) - (1 : Int64)))), (.int (1 : Int32)), (.ref b1)])) (fun oT oK => ?_) ?_
  · skip
    refine XT.lshl X8.here hx rfl (hb hby dF_85) rfl ?_
    show Steps p.tables e below (T8.setTop (mkF m 86 (own_L6 ar i1 b1 (1 : Int32) (26 : Int32) (i1 + (0 : Int32)) (26 : Int32) (XT.ushrL q0 (26 : Int32))) [(.long ((1 : Int64) <<< ((25 : Int32).toInt64 &&& 63))), (.long (XT.ushrL q0 (26 : Int32))), (.int (1 : Int32)), (.ref b1)])) _
    refine XT.lconst X8.here hx rfl (hb hby dF_86) ?_
    refine XT.lsub X8.here hx rfl (hb hby dF_87) rfl ?_
    show Steps p.tables e below (T8.setTop (mkF m 88 (own_L6 ar i1 b1 (1 : Int32) (26 : Int32) (i1 + (0 : Int32)) (26 : Int32) (XT.ushrL q0 (26 : Int32))) [(.long (((1 : Int64) <<< ((25 : Int32).toInt64 &&& 63)) - (1 : Int64))), (.long (XT.ushrL q0 (26 : Int32))), (.int (1 : Int32)), (.ref b1)])) _
    refine XT.land X8.here hx rfl (hb hby dF_88) rfl ?_
    exact oK
  show OG _ _ _ _ _ _ _ (T8.setTop (mkF m 89 (own_L6 ar i1 b1 (1 : Int32) (26 : Int32) (i1 + (0 : Int32)) (26 : Int32) (XT.ushrL q0 (26 : Int32))) [(.long (own_l1 q0 q1 q2 q3)), (.int (1 : Int32)), (.ref b1)]))
  have cf26 := V5
  obtain ⟨clf26, Arf26, qf26, Sf26, Mf26, Hf26, Gf26⟩ := cf26
  obtain ⟨T9, h9, X9, e9, W9, st9⟩ := stJ X8 hx hZ e8 Arf26 (j := (1 : Int32)) (inb_of Sf26 ⟨by decide, by decide⟩) (g := (mkF m 89 (own_L6 ar i1 b1 (1 : Int32) (26 : Int32) (i1 + (0 : Int32)) (26 : Int32) (XT.ushrL q0 (26 : Int32))) [(.long (own_l1 q0 q1 q2 q3)), (.int (1 : Int32)), (.ref b1)])) rfl rfl (hb hby dF_89)
  have f27 := (f13).other W9 ne_ar_b1
  have f28 := (f14).other W9 ne_ar_b1
  have f29 := (f15).other W9 ne_ar_b1
  have f30 := (f16).other W9 ne_ar_b1
  have f31 := (f17).other W9 ne_ar_b1
  have f32 := (f18).other W9 ne_ar_b1
  have f33 := (f19).wr W9
  have V9 : Arv Z h9 b1 kc1 .long (10 : Int32) [(.long (own_l0 q0 q1 q2 q3)), (.long (own_l1 q0 q1 q2 q3)), (.long (0 : Int64)), (.long (0 : Int64)), (.long (0 : Int64)), (.long (0 : Int64)), (.long (0 : Int64)), (.long (0 : Int64)), (.long (0 : Int64)), (.long (0 : Int64))] (.long (0 : Int64)) := Arv.set Arf26 qf26 Sf26 Mf26 Hf26 Gf26 rfl W9 1 rfl (Nat.le_of_ble_eq_true rfl)
  have f35 := (f21).wr W9 gn_b1
  have K9 : Keep h0 h9 [] := (K5).wr W9 (Or.inr sz_b1)
  have Z9 : n0 ≤ h9.size := Nat.le_trans Z5 (Keep.of_wr W9).1
  have N9 := Fr.snoc X9 N5 gn_b1
  refine OG.of st9 ?_
  show OG _ _ _ _ _ _ _ (T9.setTop (mkF m 90 (own_L6 ar i1 b1 (1 : Int32) (26 : Int32) (i1 + (0 : Int32)) (26 : Int32) (XT.ushrL q0 (26 : Int32))) []))
  refine OG.of (A := T9.setTop (mkF m 13 (own_L6 ar i1 b1 (2 : Int32) (26 : Int32) (i1 + (0 : Int32)) (26 : Int32) (XT.ushrL q0 (26 : Int32))) [])) (fun oT oK => ?_) ?_
  · skip
    refine XS.iinc X9.here hx rfl (hb hby dF_90) rfl (l' := (own_L6 ar i1 b1 (2 : Int32) (26 : Int32) (i1 + (0 : Int32)) (26 : Int32) (XT.ushrL q0 (26 : Int32)))) rfl ?_
    show Steps p.tables e below (T9.setTop (mkF m 93 (own_L6 ar i1 b1 (2 : Int32) (26 : Int32) (i1 + (0 : Int32)) (26 : Int32) (XT.ushrL q0 (26 : Int32))) [])) _
    refine XS.goto X9.here hx rfl (pc0 := 93) (pc' := 7) rfl (hb hby dF_93) (by decide) (by decide) ?_
    refine XS.iloadN X9.here hx rfl (hb hby dF_7) rfl  ?_
    show Steps p.tables e below (T9.setTop (mkF m 8 (own_L6 ar i1 b1 (2 : Int32) (26 : Int32) (i1 + (0 : Int32)) (26 : Int32) (XT.ushrL q0 (26 : Int32))) [(.int (2 : Int32))])) _
    refine XS.bipush X9.here hx rfl (hb hby dF_8) ?_
    show Steps p.tables e below (T9.setTop (mkF m 10 (own_L6 ar i1 b1 (2 : Int32) (26 : Int32) (i1 + (0 : Int32)) (26 : Int32) (XT.ushrL q0 (26 : Int32))) [(.int (10 : Int32)), (.int (2 : Int32))])) _
    refine XS.icmpNo X9.here hx rfl (hb hby dF_10) rfl (XT.ii_ge_f (by decide)) ?_
    exact oK
  obtain ⟨T10, X10, e10, st10⟩ := getS2 X9 hx hZ hown (host := "") (Or.inl (own_at hw 6 rfl)) Via.refl e9 (SP.ext (f35).2) (g := (mkF m 13 (own_L6 ar i1 b1 (2 : Int32) (26 : Int32) (i1 + (0 : Int32)) (26 : Int32) (XT.ushrL q0 (26 : Int32))) [])) rfl (hb hby dF_13)
  refine OG.of st10 ?_
  show OG _ _ _ _ _ _ _ (T10.setTop (mkF m 16 (own_L6 ar i1 b1 (2 : Int32) (26 : Int32) (i1 + (0 : Int32)) (26 : Int32) (XT.ushrL q0 (26 : Int32))) [(.ref wP)]))
  refine OG.of (A := T10.setTop (mkF m 17 (own_L6 ar i1 b1 (2 : Int32) (26 : Int32) (i1 + (0 : Int32)) (26 : Int32) (XT.ushrL q0 (26 : Int32))) [(.int (2 : Int32)), (.ref wP)])) (fun oT oK => ?_) ?_
  · skip
    refine XS.iloadN X10.here hx rfl (hb hby dF_16) rfl  ?_
    exact oK
  have cf36 := ((TP 2 (by decide)).ext (f35).2)
  obtain ⟨clf36, Arf36, If36, Hf36⟩ := cf36
  refine OG.of (X10.iaload hx (j := (2 : Int32)) (v := (.int (51 : Int32))) (by rw [e10]; exact Arf36.1) (State.isArrayOf_alike hZ.alike Arf36.2.1) Arf36.2.2 If36 Hf36 (g := (mkF m 17 (own_L6 ar i1 b1 (2 : Int32) (26 : Int32) (i1 + (0 : Int32)) (26 : Int32) (XT.ushrL q0 (26 : Int32))) [(.int (2 : Int32)), (.ref wP)])) rfl rfl (hb hby dF_17)) ?_
  show OG _ _ _ _ _ _ _ (T10.setTop (mkF m 18 (own_L6 ar i1 b1 (2 : Int32) (26 : Int32) (i1 + (0 : Int32)) (26 : Int32) (XT.ushrL q0 (26 : Int32))) [(.int (51 : Int32))]))
  refine OG.of (A := T10.setTop (mkF m 39 (own_L6 ar i1 b1 (2 : Int32) (51 : Int32) (i1 + (0 : Int32)) (51 : Int32) (XT.ushrL q0 (26 : Int32))) [(.int (i1 + (0 : Int32))), (.ref ar)])) (fun oT oK => ?_) ?_
  · skip
    refine XS.istore X10.here hx rfl (hb hby dF_18) rfl (l' := (own_L6 ar i1 b1 (2 : Int32) (51 : Int32) (i1 + (0 : Int32)) (26 : Int32) (XT.ushrL q0 (26 : Int32)))) rfl ?_
    show Steps p.tables e below (T10.setTop (mkF m 20 (own_L6 ar i1 b1 (2 : Int32) (51 : Int32) (i1 + (0 : Int32)) (26 : Int32) (XT.ushrL q0 (26 : Int32))) [])) _
    refine XS.iloadN X10.here hx rfl (hb hby dF_20) rfl  ?_
    refine XS.iload X10.here hx rfl (hb hby dF_21) rfl  ?_
    show Steps p.tables e below (T10.setTop (mkF m 23 (own_L6 ar i1 b1 (2 : Int32) (51 : Int32) (i1 + (0 : Int32)) (26 : Int32) (XT.ushrL q0 (26 : Int32))) [(.int (51 : Int32)), (.int i1)])) _
    refine XS.bipush X10.here hx rfl (hb hby dF_23) ?_
    refine XS.idiv X10.here hx rfl (hb hby dF_25) rfl (by decide) ?_
    show Steps p.tables e below (T10.setTop (mkF m 26 (own_L6 ar i1 b1 (2 : Int32) (51 : Int32) (i1 + (0 : Int32)) (26 : Int32) (XT.ushrL q0 (26 : Int32))) [(.int (0 : Int32)), (.int i1)])) _
    refine XS.iadd X10.here hx rfl (hb hby dF_26) rfl ?_
    refine XS.istore X10.here hx rfl (hb hby dF_27) rfl (l' := (own_L6 ar i1 b1 (2 : Int32) (51 : Int32) (i1 + (0 : Int32)) (26 : Int32) (XT.ushrL q0 (26 : Int32)))) rfl ?_
    show Steps p.tables e below (T10.setTop (mkF m 29 (own_L6 ar i1 b1 (2 : Int32) (51 : Int32) (i1 + (0 : Int32)) (26 : Int32) (XT.ushrL q0 (26 : Int32))) [])) _
    refine XS.iload X10.here hx rfl (hb hby dF_29) rfl  ?_
    refine XS.bipush X10.here hx rfl (hb hby dF_31) ?_
    show Steps p.tables e below (T10.setTop (mkF m 33 (own_L6 ar i1 b1 (2 : Int32) (51 : Int32) (i1 + (0 : Int32)) (26 : Int32) (XT.ushrL q0 (26 : Int32))) [(.int (64 : Int32)), (.int (51 : Int32))])) _
    refine Jvm.RoadKit.iremM X10 hx rfl (hb hby dF_33) rfl (by decide) ?_
    refine XS.istore X10.here hx rfl (hb hby dF_34) rfl (l' := (own_L6 ar i1 b1 (2 : Int32) (51 : Int32) (i1 + (0 : Int32)) (51 : Int32) (XT.ushrL q0 (26 : Int32)))) rfl ?_
    show Steps p.tables e below (T10.setTop (mkF m 36 (own_L6 ar i1 b1 (2 : Int32) (51 : Int32) (i1 + (0 : Int32)) (51 : Int32) (XT.ushrL q0 (26 : Int32))) [])) _
    refine XS.aloadN X10.here hx rfl (hb hby dF_36) rfl rfl  ?_
    refine XS.iload X10.here hx rfl (hb hby dF_37) rfl  ?_
    exact oK
  have cf37 := f27
  obtain ⟨clf37, Arf37, If37, Hf37⟩ := cf37
  refine OG.of (X10.laload hx (j := (i1 + (0 : Int32))) (v := (.long q0)) (by rw [e10]; exact Arf37.1) (State.isArrayOf_alike hZ.alike Arf37.2.1) Arf37.2.2 If37 Hf37 (g := (mkF m 39 (own_L6 ar i1 b1 (2 : Int32) (51 : Int32) (i1 + (0 : Int32)) (51 : Int32) (XT.ushrL q0 (26 : Int32))) [(.int (i1 + (0 : Int32))), (.ref ar)])) rfl rfl (hb hby dF_39)) ?_
  show OG _ _ _ _ _ _ _ (T10.setTop (mkF m 40 (own_L6 ar i1 b1 (2 : Int32) (51 : Int32) (i1 + (0 : Int32)) (51 : Int32) (XT.ushrL q0 (26 : Int32))) [(.long q0)]))
  refine OG.of (A := T10.setTop (mkF m 47 (own_L6 ar i1 b1 (2 : Int32) (51 : Int32) (i1 + (0 : Int32)) (51 : Int32) (XT.ushrL q0 (51 : Int32))) [(.int (51 : Int32))])) (fun oT oK => ?_) ?_
  · skip
    refine XS.iload X10.here hx rfl (hb hby dF_40) rfl  ?_
    show Steps p.tables e below (T10.setTop (mkF m 42 (own_L6 ar i1 b1 (2 : Int32) (51 : Int32) (i1 + (0 : Int32)) (51 : Int32) (XT.ushrL q0 (26 : Int32))) [(.int (51 : Int32)), (.long q0)])) _
    refine XT.lushr X10.here hx rfl (hb hby dF_42) rfl ?_
    refine XT.lstore X10.here hx rfl (hb hby dF_43) rfl (l' := (own_L6 ar i1 b1 (2 : Int32) (51 : Int32) (i1 + (0 : Int32)) (51 : Int32) (XT.ushrL q0 (51 : Int32)))) rfl ?_
    show Steps p.tables e below (T10.setTop (mkF m 45 (own_L6 ar i1 b1 (2 : Int32) (51 : Int32) (i1 + (0 : Int32)) (51 : Int32) (XT.ushrL q0 (51 : Int32))) [])) _
    refine XS.iload X10.here hx rfl (hb hby dF_45) rfl  ?_
    exact oK
  obtain ⟨T11, X11, e11, st11⟩ := getS2 X10 hx hZ hown (host := "") (Or.inl (own_at hw 8 rfl)) Via.refl e10 (SB.ext (f35).2) (g := (mkF m 47 (own_L6 ar i1 b1 (2 : Int32) (51 : Int32) (i1 + (0 : Int32)) (51 : Int32) (XT.ushrL q0 (51 : Int32))) [(.int (51 : Int32))])) rfl (hb hby dF_47)
  refine OG.of st11 ?_
  show OG _ _ _ _ _ _ _ (T11.setTop (mkF m 50 (own_L6 ar i1 b1 (2 : Int32) (51 : Int32) (i1 + (0 : Int32)) (51 : Int32) (XT.ushrL q0 (51 : Int32))) [(.ref wB), (.int (51 : Int32))]))
  refine OG.of (A := T11.setTop (mkF m 51 (own_L6 ar i1 b1 (2 : Int32) (51 : Int32) (i1 + (0 : Int32)) (51 : Int32) (XT.ushrL q0 (51 : Int32))) [(.int (2 : Int32)), (.ref wB), (.int (51 : Int32))])) (fun oT oK => ?_) ?_
  · skip
    refine XS.iloadN X11.here hx rfl (hb hby dF_50) rfl  ?_
    exact oK
  have cf38 := ((TB 2 (by decide)).ext (f35).2)
  obtain ⟨clf38, Arf38, If38, Hf38⟩ := cf38
  refine OG.of (X11.iaload hx (j := (2 : Int32)) (v := (.int (26 : Int32))) (by rw [e11]; exact Arf38.1) (State.isArrayOf_alike hZ.alike Arf38.2.1) Arf38.2.2 If38 Hf38 (g := (mkF m 51 (own_L6 ar i1 b1 (2 : Int32) (51 : Int32) (i1 + (0 : Int32)) (51 : Int32) (XT.ushrL q0 (51 : Int32))) [(.int (2 : Int32)), (.ref wB), (.int (51 : Int32))])) rfl rfl (hb hby dF_51)) ?_
  show OG _ _ _ _ _ _ _ (T11.setTop (mkF m 52 (own_L6 ar i1 b1 (2 : Int32) (51 : Int32) (i1 + (0 : Int32)) (51 : Int32) (XT.ushrL q0 (51 : Int32))) [(.int (26 : Int32)), (.int (51 : Int32))]))
  refine OG.of (A := T11.setTop (mkF m 65 (own_L6 ar i1 b1 (2 : Int32) (51 : Int32) (i1 + (0 : Int32)) (51 : Int32) (XT.ushrL q0 (51 : Int32))) [(.int ((i1 + (0 : Int32)) + (1 : Int32))), (.ref ar), (.long (XT.ushrL q0 (51 : Int32)))])) (fun oT oK => ?_) ?_
  · skip
    refine XS.iadd X11.here hx rfl (hb hby dF_52) rfl ?_
    show Steps p.tables e below (T11.setTop (mkF m 53 (own_L6 ar i1 b1 (2 : Int32) (51 : Int32) (i1 + (0 : Int32)) (51 : Int32) (XT.ushrL q0 (51 : Int32))) [(.int (77 : Int32))])) _
    refine XS.bipush X11.here hx rfl (hb hby dF_53) ?_
    show Steps p.tables e below (T11.setTop (mkF m 55 (own_L6 ar i1 b1 (2 : Int32) (51 : Int32) (i1 + (0 : Int32)) (51 : Int32) (XT.ushrL q0 (51 : Int32))) [(.int (64 : Int32)), (.int (77 : Int32))])) _
    refine XS.icmpNo X11.here hx rfl (hb hby dF_55) rfl (XT.ii_le_f (by decide)) ?_
    show Steps p.tables e below (T11.setTop (mkF m 58 (own_L6 ar i1 b1 (2 : Int32) (51 : Int32) (i1 + (0 : Int32)) (51 : Int32) (XT.ushrL q0 (51 : Int32))) [])) _
    refine XT.lload X11.here hx rfl (hb hby dF_58) rfl  ?_
    refine XS.aloadN X11.here hx rfl (hb hby dF_60) rfl rfl  ?_
    show Steps p.tables e below (T11.setTop (mkF m 61 (own_L6 ar i1 b1 (2 : Int32) (51 : Int32) (i1 + (0 : Int32)) (51 : Int32) (XT.ushrL q0 (51 : Int32))) [(.ref ar), (.long (XT.ushrL q0 (51 : Int32)))])) _
    refine XS.iload X11.here hx rfl (hb hby dF_61) rfl  ?_
    refine XS.iconst X11.here hx rfl (hb hby dF_63) ?_
    show Steps p.tables e below (T11.setTop (mkF m 64 (own_L6 ar i1 b1 (2 : Int32) (51 : Int32) (i1 + (0 : Int32)) (51 : Int32) (XT.ushrL q0 (51 : Int32))) [(.int (1 : Int32)), (.int (i1 + (0 : Int32))), (.ref ar), (.long (XT.ushrL q0 (51 : Int32)))])) _
    refine XS.iadd X11.here hx rfl (hb hby dF_64) rfl ?_
    exact oK
  have cf39 := f31
  obtain ⟨clf39, Arf39, If39, Hf39⟩ := cf39
  refine OG.of (X11.laload hx (j := ((i1 + (0 : Int32)) + (1 : Int32))) (v := (.long q1)) (by rw [e11]; exact Arf39.1) (State.isArrayOf_alike hZ.alike Arf39.2.1) Arf39.2.2 If39 Hf39 (g := (mkF m 65 (own_L6 ar i1 b1 (2 : Int32) (51 : Int32) (i1 + (0 : Int32)) (51 : Int32) (XT.ushrL q0 (51 : Int32))) [(.int ((i1 + (0 : Int32)) + (1 : Int32))), (.ref ar), (.long (XT.ushrL q0 (51 : Int32)))])) rfl rfl (hb hby dF_65)) ?_
  show OG _ _ _ _ _ _ _ (T11.setTop (mkF m 66 (own_L6 ar i1 b1 (2 : Int32) (51 : Int32) (i1 + (0 : Int32)) (51 : Int32) (XT.ushrL q0 (51 : Int32))) [(.long q1), (.long (XT.ushrL q0 (51 : Int32)))]))
  refine OG.of (A := T11.setTop (mkF m 80 (own_L6 ar i1 b1 (2 : Int32) (51 : Int32) (i1 + (0 : Int32)) (51 : Int32) ((XT.ushrL q0 (51 : Int32)) ||| (q1 <<< ((13 : Int32).toInt64 &&& 63)))) [(.long (1 : Int64)), (.long ((XT.ushrL q0 (51 : Int32)) ||| (q1 <<< ((13 : Int32).toInt64 &&& 63)))), (.int (2 : Int32)), (.ref b1)])) (fun oT oK => ?_) ?_
  · skip
    refine XS.bipush X11.here hx rfl (hb hby dF_66) ?_
    show Steps p.tables e below (T11.setTop (mkF m 68 (own_L6 ar i1 b1 (2 : Int32) (51 : Int32) (i1 + (0 : Int32)) (51 : Int32) (XT.ushrL q0 (51 : Int32))) [(.int (64 : Int32)), (.long q1), (.long (XT.ushrL q0 (51 : Int32)))])) _
    refine XS.iload X11.here hx rfl (hb hby dF_68) rfl  ?_
    refine XS.isub X11.here hx rfl (hb hby dF_70) rfl ?_
    show Steps p.tables e below (T11.setTop (mkF m 71 (own_L6 ar i1 b1 (2 : Int32) (51 : Int32) (i1 + (0 : Int32)) (51 : Int32) (XT.ushrL q0 (51 : Int32))) [(.int (13 : Int32)), (.long q1), (.long (XT.ushrL q0 (51 : Int32)))])) _
    refine XT.lshl X11.here hx rfl (hb hby dF_71) rfl ?_
    refine XT.lor X11.here hx rfl (hb hby dF_72) rfl ?_
    show Steps p.tables e below (T11.setTop (mkF m 73 (own_L6 ar i1 b1 (2 : Int32) (51 : Int32) (i1 + (0 : Int32)) (51 : Int32) (XT.ushrL q0 (51 : Int32))) [(.long ((XT.ushrL q0 (51 : Int32)) ||| (q1 <<< ((13 : Int32).toInt64 &&& 63))))])) _
    refine XT.lstore X11.here hx rfl (hb hby dF_73) rfl (l' := (own_L6 ar i1 b1 (2 : Int32) (51 : Int32) (i1 + (0 : Int32)) (51 : Int32) ((XT.ushrL q0 (51 : Int32)) ||| (q1 <<< ((13 : Int32).toInt64 &&& 63))))) rfl ?_
    refine XS.aloadN X11.here hx rfl (hb hby dF_75) rfl rfl  ?_
    show Steps p.tables e below (T11.setTop (mkF m 76 (own_L6 ar i1 b1 (2 : Int32) (51 : Int32) (i1 + (0 : Int32)) (51 : Int32) ((XT.ushrL q0 (51 : Int32)) ||| (q1 <<< ((13 : Int32).toInt64 &&& 63)))) [(.ref b1)])) _
    refine XS.iloadN X11.here hx rfl (hb hby dF_76) rfl  ?_
    refine XT.lload X11.here hx rfl (hb hby dF_77) rfl  ?_
    show Steps p.tables e below (T11.setTop (mkF m 79 (own_L6 ar i1 b1 (2 : Int32) (51 : Int32) (i1 + (0 : Int32)) (51 : Int32) ((XT.ushrL q0 (51 : Int32)) ||| (q1 <<< ((13 : Int32).toInt64 &&& 63)))) [(.long ((XT.ushrL q0 (51 : Int32)) ||| (q1 <<< ((13 : Int32).toInt64 &&& 63)))), (.int (2 : Int32)), (.ref b1)])) _
    refine XT.lconst X11.here hx rfl (hb hby dF_79) ?_
    exact oK
  obtain ⟨T12, X12, e12, st12⟩ := getS2 X11 hx hZ hown (host := "") (Or.inl (own_at hw 8 rfl)) Via.refl e11 (SB.ext (f35).2) (g := (mkF m 80 (own_L6 ar i1 b1 (2 : Int32) (51 : Int32) (i1 + (0 : Int32)) (51 : Int32) ((XT.ushrL q0 (51 : Int32)) ||| (q1 <<< ((13 : Int32).toInt64 &&& 63)))) [(.long (1 : Int64)), (.long ((XT.ushrL q0 (51 : Int32)) ||| (q1 <<< ((13 : Int32).toInt64 &&& 63)))), (.int (2 : Int32)), (.ref b1)])) rfl (hb hby dF_80)
  refine OG.of st12 ?_
  show OG _ _ _ _ _ _ _ (T12.setTop (mkF m 83 (own_L6 ar i1 b1 (2 : Int32) (51 : Int32) (i1 + (0 : Int32)) (51 : Int32) ((XT.ushrL q0 (51 : Int32)) ||| (q1 <<< ((13 : Int32).toInt64 &&& 63)))) [(.ref wB), (.long (1 : Int64)), (.long ((XT.ushrL q0 (51 : Int32)) ||| (q1 <<< ((13 : Int32).toInt64 &&& 63)))), (.int (2 : Int32)), (.ref b1)]))
  refine OG.of (A := T12.setTop (mkF m 84 (own_L6 ar i1 b1 (2 : Int32) (51 : Int32) (i1 + (0 : Int32)) (51 : Int32) ((XT.ushrL q0 (51 : Int32)) ||| (q1 <<< ((13 : Int32).toInt64 &&& 63)))) [(.int (2 : Int32)), (.ref wB), (.long (1 : Int64)), (.long ((XT.ushrL q0 (51 : Int32)) ||| (q1 <<< ((13 : Int32).toInt64 &&& 63)))), (.int (2 : Int32)), (.ref b1)])) (fun oT oK => ?_) ?_
  · skip
    refine XS.iloadN X12.here hx rfl (hb hby dF_83) rfl  ?_
    exact oK
  have cf40 := ((TB 2 (by decide)).ext (f35).2)
  obtain ⟨clf40, Arf40, If40, Hf40⟩ := cf40
  refine OG.of (X12.iaload hx (j := (2 : Int32)) (v := (.int (26 : Int32))) (by rw [e12]; exact Arf40.1) (State.isArrayOf_alike hZ.alike Arf40.2.1) Arf40.2.2 If40 Hf40 (g := (mkF m 84 (own_L6 ar i1 b1 (2 : Int32) (51 : Int32) (i1 + (0 : Int32)) (51 : Int32) ((XT.ushrL q0 (51 : Int32)) ||| (q1 <<< ((13 : Int32).toInt64 &&& 63)))) [(.int (2 : Int32)), (.ref wB), (.long (1 : Int64)), (.long ((XT.ushrL q0 (51 : Int32)) ||| (q1 <<< ((13 : Int32).toInt64 &&& 63)))), (.int (2 : Int32)), (.ref b1)])) rfl rfl (hb hby dF_84)) ?_
  show OG _ _ _ _ _ _ _ (T12.setTop (mkF m 85 (own_L6 ar i1 b1 (2 : Int32) (51 : Int32) (i1 + (0 : Int32)) (51 : Int32) ((XT.ushrL q0 (51 : Int32)) ||| (q1 <<< ((13 : Int32).toInt64 &&& 63)))) [(.int (26 : Int32)), (.long (1 : Int64)), (.long ((XT.ushrL q0 (51 : Int32)) ||| (q1 <<< ((13 : Int32).toInt64 &&& 63)))), (.int (2 : Int32)), (.ref b1)]))
  refine OG.of (A := T12.setTop (mkF m 89 (own_L6 ar i1 b1 (2 : Int32) (51 : Int32) (i1 + (0 : Int32)) (51 : Int32) ((XT.ushrL q0 (51 : Int32)) ||| (q1 <<< ((13 : Int32).toInt64 &&& 63)))) [(.long (((XT.ushrL q0 (51 : Int32)) ||| (q1 <<< ((13 : Int32).toInt64 &&& 63))) &&& (((1 : Int64) <<< ((26 : Int32).toInt64 &&& 63)) - (1 : Int64)))), (.int (2 : Int32)), (.ref b1)])) (fun oT oK => ?_) ?_
  · skip
    refine XT.lshl X12.here hx rfl (hb hby dF_85) rfl ?_
    show Steps p.tables e below (T12.setTop (mkF m 86 (own_L6 ar i1 b1 (2 : Int32) (51 : Int32) (i1 + (0 : Int32)) (51 : Int32) ((XT.ushrL q0 (51 : Int32)) ||| (q1 <<< ((13 : Int32).toInt64 &&& 63)))) [(.long ((1 : Int64) <<< ((26 : Int32).toInt64 &&& 63))), (.long ((XT.ushrL q0 (51 : Int32)) ||| (q1 <<< ((13 : Int32).toInt64 &&& 63)))), (.int (2 : Int32)), (.ref b1)])) _
    refine XT.lconst X12.here hx rfl (hb hby dF_86) ?_
    refine XT.lsub X12.here hx rfl (hb hby dF_87) rfl ?_
    show Steps p.tables e below (T12.setTop (mkF m 88 (own_L6 ar i1 b1 (2 : Int32) (51 : Int32) (i1 + (0 : Int32)) (51 : Int32) ((XT.ushrL q0 (51 : Int32)) ||| (q1 <<< ((13 : Int32).toInt64 &&& 63)))) [(.long (((1 : Int64) <<< ((26 : Int32).toInt64 &&& 63)) - (1 : Int64))), (.long ((XT.ushrL q0 (51 : Int32)) ||| (q1 <<< ((13 : Int32).toInt64 &&& 63)))), (.int (2 : Int32)), (.ref b1)])) _
    refine XT.land X12.here hx rfl (hb hby dF_88) rfl ?_
    exact oK
  show OG _ _ _ _ _ _ _ (T12.setTop (mkF m 89 (own_L6 ar i1 b1 (2 : Int32) (51 : Int32) (i1 + (0 : Int32)) (51 : Int32) ((XT.ushrL q0 (51 : Int32)) ||| (q1 <<< ((13 : Int32).toInt64 &&& 63)))) [(.long (own_l2 q0 q1 q2 q3)), (.int (2 : Int32)), (.ref b1)]))
  have cf41 := V9
  obtain ⟨clf41, Arf41, qf41, Sf41, Mf41, Hf41, Gf41⟩ := cf41
  obtain ⟨T13, h13, X13, e13, W13, st13⟩ := stJ X12 hx hZ e12 Arf41 (j := (2 : Int32)) (inb_of Sf41 ⟨by decide, by decide⟩) (g := (mkF m 89 (own_L6 ar i1 b1 (2 : Int32) (51 : Int32) (i1 + (0 : Int32)) (51 : Int32) ((XT.ushrL q0 (51 : Int32)) ||| (q1 <<< ((13 : Int32).toInt64 &&& 63)))) [(.long (own_l2 q0 q1 q2 q3)), (.int (2 : Int32)), (.ref b1)])) rfl rfl (hb hby dF_89)
  have f42 := (f27).other W13 ne_ar_b1
  have f43 := (f28).other W13 ne_ar_b1
  have f44 := (f29).other W13 ne_ar_b1
  have f45 := (f30).other W13 ne_ar_b1
  have f46 := (f31).other W13 ne_ar_b1
  have f47 := (f32).other W13 ne_ar_b1
  have f48 := (f33).wr W13
  have V13 : Arv Z h13 b1 kc1 .long (10 : Int32) [(.long (own_l0 q0 q1 q2 q3)), (.long (own_l1 q0 q1 q2 q3)), (.long (own_l2 q0 q1 q2 q3)), (.long (0 : Int64)), (.long (0 : Int64)), (.long (0 : Int64)), (.long (0 : Int64)), (.long (0 : Int64)), (.long (0 : Int64)), (.long (0 : Int64))] (.long (0 : Int64)) := Arv.set Arf41 qf41 Sf41 Mf41 Hf41 Gf41 rfl W13 2 rfl (Nat.le_of_ble_eq_true rfl)
  have f50 := (f35).wr W13 gn_b1
  have K13 : Keep h0 h13 [] := (K9).wr W13 (Or.inr sz_b1)
  have Z13 : n0 ≤ h13.size := Nat.le_trans Z9 (Keep.of_wr W13).1
  have N13 := Fr.snoc X13 N9 gn_b1
  refine OG.of st13 ?_
  show OG _ _ _ _ _ _ _ (T13.setTop (mkF m 90 (own_L6 ar i1 b1 (2 : Int32) (51 : Int32) (i1 + (0 : Int32)) (51 : Int32) ((XT.ushrL q0 (51 : Int32)) ||| (q1 <<< ((13 : Int32).toInt64 &&& 63)))) []))
  refine OG.of (A := T13.setTop (mkF m 13 (own_L6 ar i1 b1 (3 : Int32) (51 : Int32) (i1 + (0 : Int32)) (51 : Int32) ((XT.ushrL q0 (51 : Int32)) ||| (q1 <<< ((13 : Int32).toInt64 &&& 63)))) [])) (fun oT oK => ?_) ?_
  · skip
    refine XS.iinc X13.here hx rfl (hb hby dF_90) rfl (l' := (own_L6 ar i1 b1 (3 : Int32) (51 : Int32) (i1 + (0 : Int32)) (51 : Int32) ((XT.ushrL q0 (51 : Int32)) ||| (q1 <<< ((13 : Int32).toInt64 &&& 63))))) rfl ?_
    show Steps p.tables e below (T13.setTop (mkF m 93 (own_L6 ar i1 b1 (3 : Int32) (51 : Int32) (i1 + (0 : Int32)) (51 : Int32) ((XT.ushrL q0 (51 : Int32)) ||| (q1 <<< ((13 : Int32).toInt64 &&& 63)))) [])) _
    refine XS.goto X13.here hx rfl (pc0 := 93) (pc' := 7) rfl (hb hby dF_93) (by decide) (by decide) ?_
    refine XS.iloadN X13.here hx rfl (hb hby dF_7) rfl  ?_
    show Steps p.tables e below (T13.setTop (mkF m 8 (own_L6 ar i1 b1 (3 : Int32) (51 : Int32) (i1 + (0 : Int32)) (51 : Int32) ((XT.ushrL q0 (51 : Int32)) ||| (q1 <<< ((13 : Int32).toInt64 &&& 63)))) [(.int (3 : Int32))])) _
    refine XS.bipush X13.here hx rfl (hb hby dF_8) ?_
    show Steps p.tables e below (T13.setTop (mkF m 10 (own_L6 ar i1 b1 (3 : Int32) (51 : Int32) (i1 + (0 : Int32)) (51 : Int32) ((XT.ushrL q0 (51 : Int32)) ||| (q1 <<< ((13 : Int32).toInt64 &&& 63)))) [(.int (10 : Int32)), (.int (3 : Int32))])) _
    refine XS.icmpNo X13.here hx rfl (hb hby dF_10) rfl (XT.ii_ge_f (by decide)) ?_
    exact oK
  obtain ⟨T14, X14, e14, st14⟩ := getS2 X13 hx hZ hown (host := "") (Or.inl (own_at hw 6 rfl)) Via.refl e13 (SP.ext (f50).2) (g := (mkF m 13 (own_L6 ar i1 b1 (3 : Int32) (51 : Int32) (i1 + (0 : Int32)) (51 : Int32) ((XT.ushrL q0 (51 : Int32)) ||| (q1 <<< ((13 : Int32).toInt64 &&& 63)))) [])) rfl (hb hby dF_13)
  refine OG.of st14 ?_
  show OG _ _ _ _ _ _ _ (T14.setTop (mkF m 16 (own_L6 ar i1 b1 (3 : Int32) (51 : Int32) (i1 + (0 : Int32)) (51 : Int32) ((XT.ushrL q0 (51 : Int32)) ||| (q1 <<< ((13 : Int32).toInt64 &&& 63)))) [(.ref wP)]))
  refine OG.of (A := T14.setTop (mkF m 17 (own_L6 ar i1 b1 (3 : Int32) (51 : Int32) (i1 + (0 : Int32)) (51 : Int32) ((XT.ushrL q0 (51 : Int32)) ||| (q1 <<< ((13 : Int32).toInt64 &&& 63)))) [(.int (3 : Int32)), (.ref wP)])) (fun oT oK => ?_) ?_
  · skip
    refine XS.iloadN X14.here hx rfl (hb hby dF_16) rfl  ?_
    exact oK
  have cf51 := ((TP 3 (by decide)).ext (f50).2)
  obtain ⟨clf51, Arf51, If51, Hf51⟩ := cf51
  refine OG.of (X14.iaload hx (j := (3 : Int32)) (v := (.int (77 : Int32))) (by rw [e14]; exact Arf51.1) (State.isArrayOf_alike hZ.alike Arf51.2.1) Arf51.2.2 If51 Hf51 (g := (mkF m 17 (own_L6 ar i1 b1 (3 : Int32) (51 : Int32) (i1 + (0 : Int32)) (51 : Int32) ((XT.ushrL q0 (51 : Int32)) ||| (q1 <<< ((13 : Int32).toInt64 &&& 63)))) [(.int (3 : Int32)), (.ref wP)])) rfl rfl (hb hby dF_17)) ?_
  show OG _ _ _ _ _ _ _ (T14.setTop (mkF m 18 (own_L6 ar i1 b1 (3 : Int32) (51 : Int32) (i1 + (0 : Int32)) (51 : Int32) ((XT.ushrL q0 (51 : Int32)) ||| (q1 <<< ((13 : Int32).toInt64 &&& 63)))) [(.int (77 : Int32))]))
  refine OG.of (A := T14.setTop (mkF m 39 (own_L6 ar i1 b1 (3 : Int32) (77 : Int32) (i1 + (1 : Int32)) (13 : Int32) ((XT.ushrL q0 (51 : Int32)) ||| (q1 <<< ((13 : Int32).toInt64 &&& 63)))) [(.int (i1 + (1 : Int32))), (.ref ar)])) (fun oT oK => ?_) ?_
  · skip
    refine XS.istore X14.here hx rfl (hb hby dF_18) rfl (l' := (own_L6 ar i1 b1 (3 : Int32) (77 : Int32) (i1 + (0 : Int32)) (51 : Int32) ((XT.ushrL q0 (51 : Int32)) ||| (q1 <<< ((13 : Int32).toInt64 &&& 63))))) rfl ?_
    show Steps p.tables e below (T14.setTop (mkF m 20 (own_L6 ar i1 b1 (3 : Int32) (77 : Int32) (i1 + (0 : Int32)) (51 : Int32) ((XT.ushrL q0 (51 : Int32)) ||| (q1 <<< ((13 : Int32).toInt64 &&& 63)))) [])) _
    refine XS.iloadN X14.here hx rfl (hb hby dF_20) rfl  ?_
    refine XS.iload X14.here hx rfl (hb hby dF_21) rfl  ?_
    show Steps p.tables e below (T14.setTop (mkF m 23 (own_L6 ar i1 b1 (3 : Int32) (77 : Int32) (i1 + (0 : Int32)) (51 : Int32) ((XT.ushrL q0 (51 : Int32)) ||| (q1 <<< ((13 : Int32).toInt64 &&& 63)))) [(.int (77 : Int32)), (.int i1)])) _
    refine XS.bipush X14.here hx rfl (hb hby dF_23) ?_
    refine XS.idiv X14.here hx rfl (hb hby dF_25) rfl (by decide) ?_
    show Steps p.tables e below (T14.setTop (mkF m 26 (own_L6 ar i1 b1 (3 : Int32) (77 : Int32) (i1 + (0 : Int32)) (51 : Int32) ((XT.ushrL q0 (51 : Int32)) ||| (q1 <<< ((13 : Int32).toInt64 &&& 63)))) [(.int (1 : Int32)), (.int i1)])) _
    refine XS.iadd X14.here hx rfl (hb hby dF_26) rfl ?_
    refine XS.istore X14.here hx rfl (hb hby dF_27) rfl (l' := (own_L6 ar i1 b1 (3 : Int32) (77 : Int32) (i1 + (1 : Int32)) (51 : Int32) ((XT.ushrL q0 (51 : Int32)) ||| (q1 <<< ((13 : Int32).toInt64 &&& 63))))) rfl ?_
    show Steps p.tables e below (T14.setTop (mkF m 29 (own_L6 ar i1 b1 (3 : Int32) (77 : Int32) (i1 + (1 : Int32)) (51 : Int32) ((XT.ushrL q0 (51 : Int32)) ||| (q1 <<< ((13 : Int32).toInt64 &&& 63)))) [])) _
    refine XS.iload X14.here hx rfl (hb hby dF_29) rfl  ?_
    refine XS.bipush X14.here hx rfl (hb hby dF_31) ?_
    show Steps p.tables e below (T14.setTop (mkF m 33 (own_L6 ar i1 b1 (3 : Int32) (77 : Int32) (i1 + (1 : Int32)) (51 : Int32) ((XT.ushrL q0 (51 : Int32)) ||| (q1 <<< ((13 : Int32).toInt64 &&& 63)))) [(.int (64 : Int32)), (.int (77 : Int32))])) _
    refine Jvm.RoadKit.iremM X14 hx rfl (hb hby dF_33) rfl (by decide) ?_
    refine XS.istore X14.here hx rfl (hb hby dF_34) rfl (l' := (own_L6 ar i1 b1 (3 : Int32) (77 : Int32) (i1 + (1 : Int32)) (13 : Int32) ((XT.ushrL q0 (51 : Int32)) ||| (q1 <<< ((13 : Int32).toInt64 &&& 63))))) rfl ?_
    show Steps p.tables e below (T14.setTop (mkF m 36 (own_L6 ar i1 b1 (3 : Int32) (77 : Int32) (i1 + (1 : Int32)) (13 : Int32) ((XT.ushrL q0 (51 : Int32)) ||| (q1 <<< ((13 : Int32).toInt64 &&& 63)))) [])) _
    refine XS.aloadN X14.here hx rfl (hb hby dF_36) rfl rfl  ?_
    refine XS.iload X14.here hx rfl (hb hby dF_37) rfl  ?_
    exact oK
  have cf52 := f43
  obtain ⟨clf52, Arf52, If52, Hf52⟩ := cf52
  refine OG.of (X14.laload hx (j := (i1 + (1 : Int32))) (v := (.long q1)) (by rw [e14]; exact Arf52.1) (State.isArrayOf_alike hZ.alike Arf52.2.1) Arf52.2.2 If52 Hf52 (g := (mkF m 39 (own_L6 ar i1 b1 (3 : Int32) (77 : Int32) (i1 + (1 : Int32)) (13 : Int32) ((XT.ushrL q0 (51 : Int32)) ||| (q1 <<< ((13 : Int32).toInt64 &&& 63)))) [(.int (i1 + (1 : Int32))), (.ref ar)])) rfl rfl (hb hby dF_39)) ?_
  show OG _ _ _ _ _ _ _ (T14.setTop (mkF m 40 (own_L6 ar i1 b1 (3 : Int32) (77 : Int32) (i1 + (1 : Int32)) (13 : Int32) ((XT.ushrL q0 (51 : Int32)) ||| (q1 <<< ((13 : Int32).toInt64 &&& 63)))) [(.long q1)]))
  refine OG.of (A := T14.setTop (mkF m 47 (own_L6 ar i1 b1 (3 : Int32) (77 : Int32) (i1 + (1 : Int32)) (13 : Int32) (XT.ushrL q1 (13 : Int32))) [(.int (13 : Int32))])) (fun oT oK => ?_) ?_
  · skip
    refine XS.iload X14.here hx rfl (hb hby dF_40) rfl  ?_
    show Steps p.tables e below (T14.setTop (mkF m 42 (own_L6 ar i1 b1 (3 : Int32) (77 : Int32) (i1 + (1 : Int32)) (13 : Int32) ((XT.ushrL q0 (51 : Int32)) ||| (q1 <<< ((13 : Int32).toInt64 &&& 63)))) [(.int (13 : Int32)), (.long q1)])) _
    refine XT.lushr X14.here hx rfl (hb hby dF_42) rfl ?_
    refine XT.lstore X14.here hx rfl (hb hby dF_43) rfl (l' := (own_L6 ar i1 b1 (3 : Int32) (77 : Int32) (i1 + (1 : Int32)) (13 : Int32) (XT.ushrL q1 (13 : Int32)))) rfl ?_
    show Steps p.tables e below (T14.setTop (mkF m 45 (own_L6 ar i1 b1 (3 : Int32) (77 : Int32) (i1 + (1 : Int32)) (13 : Int32) (XT.ushrL q1 (13 : Int32))) [])) _
    refine XS.iload X14.here hx rfl (hb hby dF_45) rfl  ?_
    exact oK
  obtain ⟨T15, X15, e15, st15⟩ := getS2 X14 hx hZ hown (host := "") (Or.inl (own_at hw 8 rfl)) Via.refl e14 (SB.ext (f50).2) (g := (mkF m 47 (own_L6 ar i1 b1 (3 : Int32) (77 : Int32) (i1 + (1 : Int32)) (13 : Int32) (XT.ushrL q1 (13 : Int32))) [(.int (13 : Int32))])) rfl (hb hby dF_47)
  refine OG.of st15 ?_
  show OG _ _ _ _ _ _ _ (T15.setTop (mkF m 50 (own_L6 ar i1 b1 (3 : Int32) (77 : Int32) (i1 + (1 : Int32)) (13 : Int32) (XT.ushrL q1 (13 : Int32))) [(.ref wB), (.int (13 : Int32))]))
  refine OG.of (A := T15.setTop (mkF m 51 (own_L6 ar i1 b1 (3 : Int32) (77 : Int32) (i1 + (1 : Int32)) (13 : Int32) (XT.ushrL q1 (13 : Int32))) [(.int (3 : Int32)), (.ref wB), (.int (13 : Int32))])) (fun oT oK => ?_) ?_
  · skip
    refine XS.iloadN X15.here hx rfl (hb hby dF_50) rfl  ?_
    exact oK
  have cf53 := ((TB 3 (by decide)).ext (f50).2)
  obtain ⟨clf53, Arf53, If53, Hf53⟩ := cf53
  refine OG.of (X15.iaload hx (j := (3 : Int32)) (v := (.int (25 : Int32))) (by rw [e15]; exact Arf53.1) (State.isArrayOf_alike hZ.alike Arf53.2.1) Arf53.2.2 If53 Hf53 (g := (mkF m 51 (own_L6 ar i1 b1 (3 : Int32) (77 : Int32) (i1 + (1 : Int32)) (13 : Int32) (XT.ushrL q1 (13 : Int32))) [(.int (3 : Int32)), (.ref wB), (.int (13 : Int32))])) rfl rfl (hb hby dF_51)) ?_
  show OG _ _ _ _ _ _ _ (T15.setTop (mkF m 52 (own_L6 ar i1 b1 (3 : Int32) (77 : Int32) (i1 + (1 : Int32)) (13 : Int32) (XT.ushrL q1 (13 : Int32))) [(.int (25 : Int32)), (.int (13 : Int32))]))
  refine OG.of (A := T15.setTop (mkF m 80 (own_L6 ar i1 b1 (3 : Int32) (77 : Int32) (i1 + (1 : Int32)) (13 : Int32) (XT.ushrL q1 (13 : Int32))) [(.long (1 : Int64)), (.long (XT.ushrL q1 (13 : Int32))), (.int (3 : Int32)), (.ref b1)])) (fun oT oK => ?_) ?_
  · skip
    refine XS.iadd X15.here hx rfl (hb hby dF_52) rfl ?_
    show Steps p.tables e below (T15.setTop (mkF m 53 (own_L6 ar i1 b1 (3 : Int32) (77 : Int32) (i1 + (1 : Int32)) (13 : Int32) (XT.ushrL q1 (13 : Int32))) [(.int (38 : Int32))])) _
    refine XS.bipush X15.here hx rfl (hb hby dF_53) ?_
    show Steps p.tables e below (T15.setTop (mkF m 55 (own_L6 ar i1 b1 (3 : Int32) (77 : Int32) (i1 + (1 : Int32)) (13 : Int32) (XT.ushrL q1 (13 : Int32))) [(.int (64 : Int32)), (.int (38 : Int32))])) _
    refine XS.icmpYes X15.here hx rfl (pc0 := 55) (pc' := 75) rfl (hb hby dF_55) rfl (XT.ii_le_t (by decide)) (by decide) (by decide) ?_
    show Steps p.tables e below (T15.setTop (mkF m 75 (own_L6 ar i1 b1 (3 : Int32) (77 : Int32) (i1 + (1 : Int32)) (13 : Int32) (XT.ushrL q1 (13 : Int32))) [])) _
    refine XS.aloadN X15.here hx rfl (hb hby dF_75) rfl rfl  ?_
    refine XS.iloadN X15.here hx rfl (hb hby dF_76) rfl  ?_
    show Steps p.tables e below (T15.setTop (mkF m 77 (own_L6 ar i1 b1 (3 : Int32) (77 : Int32) (i1 + (1 : Int32)) (13 : Int32) (XT.ushrL q1 (13 : Int32))) [(.int (3 : Int32)), (.ref b1)])) _
    refine XT.lload X15.here hx rfl (hb hby dF_77) rfl  ?_
    refine XT.lconst X15.here hx rfl (hb hby dF_79) ?_
    exact oK
  obtain ⟨T16, X16, e16, st16⟩ := getS2 X15 hx hZ hown (host := "") (Or.inl (own_at hw 8 rfl)) Via.refl e15 (SB.ext (f50).2) (g := (mkF m 80 (own_L6 ar i1 b1 (3 : Int32) (77 : Int32) (i1 + (1 : Int32)) (13 : Int32) (XT.ushrL q1 (13 : Int32))) [(.long (1 : Int64)), (.long (XT.ushrL q1 (13 : Int32))), (.int (3 : Int32)), (.ref b1)])) rfl (hb hby dF_80)
  refine OG.of st16 ?_
  show OG _ _ _ _ _ _ _ (T16.setTop (mkF m 83 (own_L6 ar i1 b1 (3 : Int32) (77 : Int32) (i1 + (1 : Int32)) (13 : Int32) (XT.ushrL q1 (13 : Int32))) [(.ref wB), (.long (1 : Int64)), (.long (XT.ushrL q1 (13 : Int32))), (.int (3 : Int32)), (.ref b1)]))
  refine OG.of (A := T16.setTop (mkF m 84 (own_L6 ar i1 b1 (3 : Int32) (77 : Int32) (i1 + (1 : Int32)) (13 : Int32) (XT.ushrL q1 (13 : Int32))) [(.int (3 : Int32)), (.ref wB), (.long (1 : Int64)), (.long (XT.ushrL q1 (13 : Int32))), (.int (3 : Int32)), (.ref b1)])) (fun oT oK => ?_) ?_
  · skip
    refine XS.iloadN X16.here hx rfl (hb hby dF_83) rfl  ?_
    exact oK
  have cf54 := ((TB 3 (by decide)).ext (f50).2)
  obtain ⟨clf54, Arf54, If54, Hf54⟩ := cf54
  refine OG.of (X16.iaload hx (j := (3 : Int32)) (v := (.int (25 : Int32))) (by rw [e16]; exact Arf54.1) (State.isArrayOf_alike hZ.alike Arf54.2.1) Arf54.2.2 If54 Hf54 (g := (mkF m 84 (own_L6 ar i1 b1 (3 : Int32) (77 : Int32) (i1 + (1 : Int32)) (13 : Int32) (XT.ushrL q1 (13 : Int32))) [(.int (3 : Int32)), (.ref wB), (.long (1 : Int64)), (.long (XT.ushrL q1 (13 : Int32))), (.int (3 : Int32)), (.ref b1)])) rfl rfl (hb hby dF_84)) ?_
  show OG _ _ _ _ _ _ _ (T16.setTop (mkF m 85 (own_L6 ar i1 b1 (3 : Int32) (77 : Int32) (i1 + (1 : Int32)) (13 : Int32) (XT.ushrL q1 (13 : Int32))) [(.int (25 : Int32)), (.long (1 : Int64)), (.long (XT.ushrL q1 (13 : Int32))), (.int (3 : Int32)), (.ref b1)]))
  refine OG.of (A := T16.setTop (mkF m 89 (own_L6 ar i1 b1 (3 : Int32) (77 : Int32) (i1 + (1 : Int32)) (13 : Int32) (XT.ushrL q1 (13 : Int32))) [(.long ((XT.ushrL q1 (13 : Int32)) &&& (((1 : Int64) <<< ((25 : Int32).toInt64 &&& 63)) - (1 : Int64)))), (.int (3 : Int32)), (.ref b1)])) (fun oT oK => ?_) ?_
  · skip
    refine XT.lshl X16.here hx rfl (hb hby dF_85) rfl ?_
    show Steps p.tables e below (T16.setTop (mkF m 86 (own_L6 ar i1 b1 (3 : Int32) (77 : Int32) (i1 + (1 : Int32)) (13 : Int32) (XT.ushrL q1 (13 : Int32))) [(.long ((1 : Int64) <<< ((25 : Int32).toInt64 &&& 63))), (.long (XT.ushrL q1 (13 : Int32))), (.int (3 : Int32)), (.ref b1)])) _
    refine XT.lconst X16.here hx rfl (hb hby dF_86) ?_
    refine XT.lsub X16.here hx rfl (hb hby dF_87) rfl ?_
    show Steps p.tables e below (T16.setTop (mkF m 88 (own_L6 ar i1 b1 (3 : Int32) (77 : Int32) (i1 + (1 : Int32)) (13 : Int32) (XT.ushrL q1 (13 : Int32))) [(.long (((1 : Int64) <<< ((25 : Int32).toInt64 &&& 63)) - (1 : Int64))), (.long (XT.ushrL q1 (13 : Int32))), (.int (3 : Int32)), (.ref b1)])) _
    refine XT.land X16.here hx rfl (hb hby dF_88) rfl ?_
    exact oK
  show OG _ _ _ _ _ _ _ (T16.setTop (mkF m 89 (own_L6 ar i1 b1 (3 : Int32) (77 : Int32) (i1 + (1 : Int32)) (13 : Int32) (XT.ushrL q1 (13 : Int32))) [(.long (own_l3 q0 q1 q2 q3)), (.int (3 : Int32)), (.ref b1)]))
  have cf55 := V13
  obtain ⟨clf55, Arf55, qf55, Sf55, Mf55, Hf55, Gf55⟩ := cf55
  obtain ⟨T17, h17, X17, e17, W17, st17⟩ := stJ X16 hx hZ e16 Arf55 (j := (3 : Int32)) (inb_of Sf55 ⟨by decide, by decide⟩) (g := (mkF m 89 (own_L6 ar i1 b1 (3 : Int32) (77 : Int32) (i1 + (1 : Int32)) (13 : Int32) (XT.ushrL q1 (13 : Int32))) [(.long (own_l3 q0 q1 q2 q3)), (.int (3 : Int32)), (.ref b1)])) rfl rfl (hb hby dF_89)
  have f56 := (f42).other W17 ne_ar_b1
  have f57 := (f43).other W17 ne_ar_b1
  have f58 := (f44).other W17 ne_ar_b1
  have f59 := (f45).other W17 ne_ar_b1
  have f60 := (f46).other W17 ne_ar_b1
  have f61 := (f47).other W17 ne_ar_b1
  have f62 := (f48).wr W17
  have V17 : Arv Z h17 b1 kc1 .long (10 : Int32) [(.long (own_l0 q0 q1 q2 q3)), (.long (own_l1 q0 q1 q2 q3)), (.long (own_l2 q0 q1 q2 q3)), (.long (own_l3 q0 q1 q2 q3)), (.long (0 : Int64)), (.long (0 : Int64)), (.long (0 : Int64)), (.long (0 : Int64)), (.long (0 : Int64)), (.long (0 : Int64))] (.long (0 : Int64)) := Arv.set Arf55 qf55 Sf55 Mf55 Hf55 Gf55 rfl W17 3 rfl (Nat.le_of_ble_eq_true rfl)
  have f64 := (f50).wr W17 gn_b1
  have K17 : Keep h0 h17 [] := (K13).wr W17 (Or.inr sz_b1)
  have Z17 : n0 ≤ h17.size := Nat.le_trans Z13 (Keep.of_wr W17).1
  have N17 := Fr.snoc X17 N13 gn_b1
  refine OG.of st17 ?_
  show OG _ _ _ _ _ _ _ (T17.setTop (mkF m 90 (own_L6 ar i1 b1 (3 : Int32) (77 : Int32) (i1 + (1 : Int32)) (13 : Int32) (XT.ushrL q1 (13 : Int32))) []))
  refine OG.of (A := T17.setTop (mkF m 13 (own_L6 ar i1 b1 (4 : Int32) (77 : Int32) (i1 + (1 : Int32)) (13 : Int32) (XT.ushrL q1 (13 : Int32))) [])) (fun oT oK => ?_) ?_
  · skip
    refine XS.iinc X17.here hx rfl (hb hby dF_90) rfl (l' := (own_L6 ar i1 b1 (4 : Int32) (77 : Int32) (i1 + (1 : Int32)) (13 : Int32) (XT.ushrL q1 (13 : Int32)))) rfl ?_
    show Steps p.tables e below (T17.setTop (mkF m 93 (own_L6 ar i1 b1 (4 : Int32) (77 : Int32) (i1 + (1 : Int32)) (13 : Int32) (XT.ushrL q1 (13 : Int32))) [])) _
    refine XS.goto X17.here hx rfl (pc0 := 93) (pc' := 7) rfl (hb hby dF_93) (by decide) (by decide) ?_
    refine XS.iloadN X17.here hx rfl (hb hby dF_7) rfl  ?_
    show Steps p.tables e below (T17.setTop (mkF m 8 (own_L6 ar i1 b1 (4 : Int32) (77 : Int32) (i1 + (1 : Int32)) (13 : Int32) (XT.ushrL q1 (13 : Int32))) [(.int (4 : Int32))])) _
    refine XS.bipush X17.here hx rfl (hb hby dF_8) ?_
    show Steps p.tables e below (T17.setTop (mkF m 10 (own_L6 ar i1 b1 (4 : Int32) (77 : Int32) (i1 + (1 : Int32)) (13 : Int32) (XT.ushrL q1 (13 : Int32))) [(.int (10 : Int32)), (.int (4 : Int32))])) _
    refine XS.icmpNo X17.here hx rfl (hb hby dF_10) rfl (XT.ii_ge_f (by decide)) ?_
    exact oK
  obtain ⟨T18, X18, e18, st18⟩ := getS2 X17 hx hZ hown (host := "") (Or.inl (own_at hw 6 rfl)) Via.refl e17 (SP.ext (f64).2) (g := (mkF m 13 (own_L6 ar i1 b1 (4 : Int32) (77 : Int32) (i1 + (1 : Int32)) (13 : Int32) (XT.ushrL q1 (13 : Int32))) [])) rfl (hb hby dF_13)
  refine OG.of st18 ?_
  show OG _ _ _ _ _ _ _ (T18.setTop (mkF m 16 (own_L6 ar i1 b1 (4 : Int32) (77 : Int32) (i1 + (1 : Int32)) (13 : Int32) (XT.ushrL q1 (13 : Int32))) [(.ref wP)]))
  refine OG.of (A := T18.setTop (mkF m 17 (own_L6 ar i1 b1 (4 : Int32) (77 : Int32) (i1 + (1 : Int32)) (13 : Int32) (XT.ushrL q1 (13 : Int32))) [(.int (4 : Int32)), (.ref wP)])) (fun oT oK => ?_) ?_
  · skip
    refine XS.iloadN X18.here hx rfl (hb hby dF_16) rfl  ?_
    exact oK
  have cf65 := ((TP 4 (by decide)).ext (f64).2)
  obtain ⟨clf65, Arf65, If65, Hf65⟩ := cf65
  refine OG.of (X18.iaload hx (j := (4 : Int32)) (v := (.int (102 : Int32))) (by rw [e18]; exact Arf65.1) (State.isArrayOf_alike hZ.alike Arf65.2.1) Arf65.2.2 If65 Hf65 (g := (mkF m 17 (own_L6 ar i1 b1 (4 : Int32) (77 : Int32) (i1 + (1 : Int32)) (13 : Int32) (XT.ushrL q1 (13 : Int32))) [(.int (4 : Int32)), (.ref wP)])) rfl rfl (hb hby dF_17)) ?_
  show OG _ _ _ _ _ _ _ (T18.setTop (mkF m 18 (own_L6 ar i1 b1 (4 : Int32) (77 : Int32) (i1 + (1 : Int32)) (13 : Int32) (XT.ushrL q1 (13 : Int32))) [(.int (102 : Int32))]))
  refine OG.of (A := T18.setTop (mkF m 39 (own_L6 ar i1 b1 (4 : Int32) (102 : Int32) (i1 + (1 : Int32)) (38 : Int32) (XT.ushrL q1 (13 : Int32))) [(.int (i1 + (1 : Int32))), (.ref ar)])) (fun oT oK => ?_) ?_
  · skip
    refine XS.istore X18.here hx rfl (hb hby dF_18) rfl (l' := (own_L6 ar i1 b1 (4 : Int32) (102 : Int32) (i1 + (1 : Int32)) (13 : Int32) (XT.ushrL q1 (13 : Int32)))) rfl ?_
    show Steps p.tables e below (T18.setTop (mkF m 20 (own_L6 ar i1 b1 (4 : Int32) (102 : Int32) (i1 + (1 : Int32)) (13 : Int32) (XT.ushrL q1 (13 : Int32))) [])) _
    refine XS.iloadN X18.here hx rfl (hb hby dF_20) rfl  ?_
    refine XS.iload X18.here hx rfl (hb hby dF_21) rfl  ?_
    show Steps p.tables e below (T18.setTop (mkF m 23 (own_L6 ar i1 b1 (4 : Int32) (102 : Int32) (i1 + (1 : Int32)) (13 : Int32) (XT.ushrL q1 (13 : Int32))) [(.int (102 : Int32)), (.int i1)])) _
    refine XS.bipush X18.here hx rfl (hb hby dF_23) ?_
    refine XS.idiv X18.here hx rfl (hb hby dF_25) rfl (by decide) ?_
    show Steps p.tables e below (T18.setTop (mkF m 26 (own_L6 ar i1 b1 (4 : Int32) (102 : Int32) (i1 + (1 : Int32)) (13 : Int32) (XT.ushrL q1 (13 : Int32))) [(.int (1 : Int32)), (.int i1)])) _
    refine XS.iadd X18.here hx rfl (hb hby dF_26) rfl ?_
    refine XS.istore X18.here hx rfl (hb hby dF_27) rfl (l' := (own_L6 ar i1 b1 (4 : Int32) (102 : Int32) (i1 + (1 : Int32)) (13 : Int32) (XT.ushrL q1 (13 : Int32)))) rfl ?_
    show Steps p.tables e below (T18.setTop (mkF m 29 (own_L6 ar i1 b1 (4 : Int32) (102 : Int32) (i1 + (1 : Int32)) (13 : Int32) (XT.ushrL q1 (13 : Int32))) [])) _
    refine XS.iload X18.here hx rfl (hb hby dF_29) rfl  ?_
    refine XS.bipush X18.here hx rfl (hb hby dF_31) ?_
    show Steps p.tables e below (T18.setTop (mkF m 33 (own_L6 ar i1 b1 (4 : Int32) (102 : Int32) (i1 + (1 : Int32)) (13 : Int32) (XT.ushrL q1 (13 : Int32))) [(.int (64 : Int32)), (.int (102 : Int32))])) _
    refine Jvm.RoadKit.iremM X18 hx rfl (hb hby dF_33) rfl (by decide) ?_
    refine XS.istore X18.here hx rfl (hb hby dF_34) rfl (l' := (own_L6 ar i1 b1 (4 : Int32) (102 : Int32) (i1 + (1 : Int32)) (38 : Int32) (XT.ushrL q1 (13 : Int32)))) rfl ?_
    show Steps p.tables e below (T18.setTop (mkF m 36 (own_L6 ar i1 b1 (4 : Int32) (102 : Int32) (i1 + (1 : Int32)) (38 : Int32) (XT.ushrL q1 (13 : Int32))) [])) _
    refine XS.aloadN X18.here hx rfl (hb hby dF_36) rfl rfl  ?_
    refine XS.iload X18.here hx rfl (hb hby dF_37) rfl  ?_
    exact oK
  have cf66 := f57
  obtain ⟨clf66, Arf66, If66, Hf66⟩ := cf66
  refine OG.of (X18.laload hx (j := (i1 + (1 : Int32))) (v := (.long q1)) (by rw [e18]; exact Arf66.1) (State.isArrayOf_alike hZ.alike Arf66.2.1) Arf66.2.2 If66 Hf66 (g := (mkF m 39 (own_L6 ar i1 b1 (4 : Int32) (102 : Int32) (i1 + (1 : Int32)) (38 : Int32) (XT.ushrL q1 (13 : Int32))) [(.int (i1 + (1 : Int32))), (.ref ar)])) rfl rfl (hb hby dF_39)) ?_
  show OG _ _ _ _ _ _ _ (T18.setTop (mkF m 40 (own_L6 ar i1 b1 (4 : Int32) (102 : Int32) (i1 + (1 : Int32)) (38 : Int32) (XT.ushrL q1 (13 : Int32))) [(.long q1)]))
  refine OG.of (A := T18.setTop (mkF m 47 (own_L6 ar i1 b1 (4 : Int32) (102 : Int32) (i1 + (1 : Int32)) (38 : Int32) (XT.ushrL q1 (38 : Int32))) [(.int (38 : Int32))])) (fun oT oK => ?_) ?_
  · skip
    refine XS.iload X18.here hx rfl (hb hby dF_40) rfl  ?_
    show Steps p.tables e below (T18.setTop (mkF m 42 (own_L6 ar i1 b1 (4 : Int32) (102 : Int32) (i1 + (1 : Int32)) (38 : Int32) (XT.ushrL q1 (13 : Int32))) [(.int (38 : Int32)), (.long q1)])) _
    refine XT.lushr X18.here hx rfl (hb hby dF_42) rfl ?_
    refine XT.lstore X18.here hx rfl (hb hby dF_43) rfl (l' := (own_L6 ar i1 b1 (4 : Int32) (102 : Int32) (i1 + (1 : Int32)) (38 : Int32) (XT.ushrL q1 (38 : Int32)))) rfl ?_
    show Steps p.tables e below (T18.setTop (mkF m 45 (own_L6 ar i1 b1 (4 : Int32) (102 : Int32) (i1 + (1 : Int32)) (38 : Int32) (XT.ushrL q1 (38 : Int32))) [])) _
    refine XS.iload X18.here hx rfl (hb hby dF_45) rfl  ?_
    exact oK
  obtain ⟨T19, X19, e19, st19⟩ := getS2 X18 hx hZ hown (host := "") (Or.inl (own_at hw 8 rfl)) Via.refl e18 (SB.ext (f64).2) (g := (mkF m 47 (own_L6 ar i1 b1 (4 : Int32) (102 : Int32) (i1 + (1 : Int32)) (38 : Int32) (XT.ushrL q1 (38 : Int32))) [(.int (38 : Int32))])) rfl (hb hby dF_47)
  refine OG.of st19 ?_
  show OG _ _ _ _ _ _ _ (T19.setTop (mkF m 50 (own_L6 ar i1 b1 (4 : Int32) (102 : Int32) (i1 + (1 : Int32)) (38 : Int32) (XT.ushrL q1 (38 : Int32))) [(.ref wB), (.int (38 : Int32))]))
  refine OG.of (A := T19.setTop (mkF m 51 (own_L6 ar i1 b1 (4 : Int32) (102 : Int32) (i1 + (1 : Int32)) (38 : Int32) (XT.ushrL q1 (38 : Int32))) [(.int (4 : Int32)), (.ref wB), (.int (38 : Int32))])) (fun oT oK => ?_) ?_
  · skip
    refine XS.iloadN X19.here hx rfl (hb hby dF_50) rfl  ?_
    exact oK
  have cf67 := ((TB 4 (by decide)).ext (f64).2)
  obtain ⟨clf67, Arf67, If67, Hf67⟩ := cf67
  refine OG.of (X19.iaload hx (j := (4 : Int32)) (v := (.int (26 : Int32))) (by rw [e19]; exact Arf67.1) (State.isArrayOf_alike hZ.alike Arf67.2.1) Arf67.2.2 If67 Hf67 (g := (mkF m 51 (own_L6 ar i1 b1 (4 : Int32) (102 : Int32) (i1 + (1 : Int32)) (38 : Int32) (XT.ushrL q1 (38 : Int32))) [(.int (4 : Int32)), (.ref wB), (.int (38 : Int32))])) rfl rfl (hb hby dF_51)) ?_
  show OG _ _ _ _ _ _ _ (T19.setTop (mkF m 52 (own_L6 ar i1 b1 (4 : Int32) (102 : Int32) (i1 + (1 : Int32)) (38 : Int32) (XT.ushrL q1 (38 : Int32))) [(.int (26 : Int32)), (.int (38 : Int32))]))
  refine OG.of (A := T19.setTop (mkF m 80 (own_L6 ar i1 b1 (4 : Int32) (102 : Int32) (i1 + (1 : Int32)) (38 : Int32) (XT.ushrL q1 (38 : Int32))) [(.long (1 : Int64)), (.long (XT.ushrL q1 (38 : Int32))), (.int (4 : Int32)), (.ref b1)])) (fun oT oK => ?_) ?_
  · skip
    refine XS.iadd X19.here hx rfl (hb hby dF_52) rfl ?_
    show Steps p.tables e below (T19.setTop (mkF m 53 (own_L6 ar i1 b1 (4 : Int32) (102 : Int32) (i1 + (1 : Int32)) (38 : Int32) (XT.ushrL q1 (38 : Int32))) [(.int (64 : Int32))])) _
    refine XS.bipush X19.here hx rfl (hb hby dF_53) ?_
    show Steps p.tables e below (T19.setTop (mkF m 55 (own_L6 ar i1 b1 (4 : Int32) (102 : Int32) (i1 + (1 : Int32)) (38 : Int32) (XT.ushrL q1 (38 : Int32))) [(.int (64 : Int32)), (.int (64 : Int32))])) _
    refine XS.icmpYes X19.here hx rfl (pc0 := 55) (pc' := 75) rfl (hb hby dF_55) rfl (XT.ii_le_t (by decide)) (by decide) (by decide) ?_
    show Steps p.tables e below (T19.setTop (mkF m 75 (own_L6 ar i1 b1 (4 : Int32) (102 : Int32) (i1 + (1 : Int32)) (38 : Int32) (XT.ushrL q1 (38 : Int32))) [])) _
    refine XS.aloadN X19.here hx rfl (hb hby dF_75) rfl rfl  ?_
    refine XS.iloadN X19.here hx rfl (hb hby dF_76) rfl  ?_
    show Steps p.tables e below (T19.setTop (mkF m 77 (own_L6 ar i1 b1 (4 : Int32) (102 : Int32) (i1 + (1 : Int32)) (38 : Int32) (XT.ushrL q1 (38 : Int32))) [(.int (4 : Int32)), (.ref b1)])) _
    refine XT.lload X19.here hx rfl (hb hby dF_77) rfl  ?_
    refine XT.lconst X19.here hx rfl (hb hby dF_79) ?_
    exact oK
  obtain ⟨T20, X20, e20, st20⟩ := getS2 X19 hx hZ hown (host := "") (Or.inl (own_at hw 8 rfl)) Via.refl e19 (SB.ext (f64).2) (g := (mkF m 80 (own_L6 ar i1 b1 (4 : Int32) (102 : Int32) (i1 + (1 : Int32)) (38 : Int32) (XT.ushrL q1 (38 : Int32))) [(.long (1 : Int64)), (.long (XT.ushrL q1 (38 : Int32))), (.int (4 : Int32)), (.ref b1)])) rfl (hb hby dF_80)
  refine OG.of st20 ?_
  show OG _ _ _ _ _ _ _ (T20.setTop (mkF m 83 (own_L6 ar i1 b1 (4 : Int32) (102 : Int32) (i1 + (1 : Int32)) (38 : Int32) (XT.ushrL q1 (38 : Int32))) [(.ref wB), (.long (1 : Int64)), (.long (XT.ushrL q1 (38 : Int32))), (.int (4 : Int32)), (.ref b1)]))
  refine OG.of (A := T20.setTop (mkF m 84 (own_L6 ar i1 b1 (4 : Int32) (102 : Int32) (i1 + (1 : Int32)) (38 : Int32) (XT.ushrL q1 (38 : Int32))) [(.int (4 : Int32)), (.ref wB), (.long (1 : Int64)), (.long (XT.ushrL q1 (38 : Int32))), (.int (4 : Int32)), (.ref b1)])) (fun oT oK => ?_) ?_
  · skip
    refine XS.iloadN X20.here hx rfl (hb hby dF_83) rfl  ?_
    exact oK
  have cf68 := ((TB 4 (by decide)).ext (f64).2)
  obtain ⟨clf68, Arf68, If68, Hf68⟩ := cf68
  refine OG.of (X20.iaload hx (j := (4 : Int32)) (v := (.int (26 : Int32))) (by rw [e20]; exact Arf68.1) (State.isArrayOf_alike hZ.alike Arf68.2.1) Arf68.2.2 If68 Hf68 (g := (mkF m 84 (own_L6 ar i1 b1 (4 : Int32) (102 : Int32) (i1 + (1 : Int32)) (38 : Int32) (XT.ushrL q1 (38 : Int32))) [(.int (4 : Int32)), (.ref wB), (.long (1 : Int64)), (.long (XT.ushrL q1 (38 : Int32))), (.int (4 : Int32)), (.ref b1)])) rfl rfl (hb hby dF_84)) ?_
  show OG _ _ _ _ _ _ _ (T20.setTop (mkF m 85 (own_L6 ar i1 b1 (4 : Int32) (102 : Int32) (i1 + (1 : Int32)) (38 : Int32) (XT.ushrL q1 (38 : Int32))) [(.int (26 : Int32)), (.long (1 : Int64)), (.long (XT.ushrL q1 (38 : Int32))), (.int (4 : Int32)), (.ref b1)]))
  refine OG.of (A := T20.setTop (mkF m 89 (own_L6 ar i1 b1 (4 : Int32) (102 : Int32) (i1 + (1 : Int32)) (38 : Int32) (XT.ushrL q1 (38 : Int32))) [(.long ((XT.ushrL q1 (38 : Int32)) &&& (((1 : Int64) <<< ((26 : Int32).toInt64 &&& 63)) - (1 : Int64)))), (.int (4 : Int32)), (.ref b1)])) (fun oT oK => ?_) ?_
  · skip
    refine XT.lshl X20.here hx rfl (hb hby dF_85) rfl ?_
    show Steps p.tables e below (T20.setTop (mkF m 86 (own_L6 ar i1 b1 (4 : Int32) (102 : Int32) (i1 + (1 : Int32)) (38 : Int32) (XT.ushrL q1 (38 : Int32))) [(.long ((1 : Int64) <<< ((26 : Int32).toInt64 &&& 63))), (.long (XT.ushrL q1 (38 : Int32))), (.int (4 : Int32)), (.ref b1)])) _
    refine XT.lconst X20.here hx rfl (hb hby dF_86) ?_
    refine XT.lsub X20.here hx rfl (hb hby dF_87) rfl ?_
    show Steps p.tables e below (T20.setTop (mkF m 88 (own_L6 ar i1 b1 (4 : Int32) (102 : Int32) (i1 + (1 : Int32)) (38 : Int32) (XT.ushrL q1 (38 : Int32))) [(.long (((1 : Int64) <<< ((26 : Int32).toInt64 &&& 63)) - (1 : Int64))), (.long (XT.ushrL q1 (38 : Int32))), (.int (4 : Int32)), (.ref b1)])) _
    refine XT.land X20.here hx rfl (hb hby dF_88) rfl ?_
    exact oK
  show OG _ _ _ _ _ _ _ (T20.setTop (mkF m 89 (own_L6 ar i1 b1 (4 : Int32) (102 : Int32) (i1 + (1 : Int32)) (38 : Int32) (XT.ushrL q1 (38 : Int32))) [(.long (own_l4 q0 q1 q2 q3)), (.int (4 : Int32)), (.ref b1)]))
  have cf69 := V17
  obtain ⟨clf69, Arf69, qf69, Sf69, Mf69, Hf69, Gf69⟩ := cf69
  obtain ⟨T21, h21, X21, e21, W21, st21⟩ := stJ X20 hx hZ e20 Arf69 (j := (4 : Int32)) (inb_of Sf69 ⟨by decide, by decide⟩) (g := (mkF m 89 (own_L6 ar i1 b1 (4 : Int32) (102 : Int32) (i1 + (1 : Int32)) (38 : Int32) (XT.ushrL q1 (38 : Int32))) [(.long (own_l4 q0 q1 q2 q3)), (.int (4 : Int32)), (.ref b1)])) rfl rfl (hb hby dF_89)
  have f70 := (f56).other W21 ne_ar_b1
  have f71 := (f57).other W21 ne_ar_b1
  have f72 := (f58).other W21 ne_ar_b1
  have f73 := (f59).other W21 ne_ar_b1
  have f74 := (f60).other W21 ne_ar_b1
  have f75 := (f61).other W21 ne_ar_b1
  have f76 := (f62).wr W21
  have V21 : Arv Z h21 b1 kc1 .long (10 : Int32) [(.long (own_l0 q0 q1 q2 q3)), (.long (own_l1 q0 q1 q2 q3)), (.long (own_l2 q0 q1 q2 q3)), (.long (own_l3 q0 q1 q2 q3)), (.long (own_l4 q0 q1 q2 q3)), (.long (0 : Int64)), (.long (0 : Int64)), (.long (0 : Int64)), (.long (0 : Int64)), (.long (0 : Int64))] (.long (0 : Int64)) := Arv.set Arf69 qf69 Sf69 Mf69 Hf69 Gf69 rfl W21 4 rfl (Nat.le_of_ble_eq_true rfl)
  have f78 := (f64).wr W21 gn_b1
  have K21 : Keep h0 h21 [] := (K17).wr W21 (Or.inr sz_b1)
  have Z21 : n0 ≤ h21.size := Nat.le_trans Z17 (Keep.of_wr W21).1
  have N21 := Fr.snoc X21 N17 gn_b1
  refine OG.of st21 ?_
  show OG _ _ _ _ _ _ _ (T21.setTop (mkF m 90 (own_L6 ar i1 b1 (4 : Int32) (102 : Int32) (i1 + (1 : Int32)) (38 : Int32) (XT.ushrL q1 (38 : Int32))) []))
  refine OG.of (A := T21.setTop (mkF m 13 (own_L6 ar i1 b1 (5 : Int32) (102 : Int32) (i1 + (1 : Int32)) (38 : Int32) (XT.ushrL q1 (38 : Int32))) [])) (fun oT oK => ?_) ?_
  · skip
    refine XS.iinc X21.here hx rfl (hb hby dF_90) rfl (l' := (own_L6 ar i1 b1 (5 : Int32) (102 : Int32) (i1 + (1 : Int32)) (38 : Int32) (XT.ushrL q1 (38 : Int32)))) rfl ?_
    show Steps p.tables e below (T21.setTop (mkF m 93 (own_L6 ar i1 b1 (5 : Int32) (102 : Int32) (i1 + (1 : Int32)) (38 : Int32) (XT.ushrL q1 (38 : Int32))) [])) _
    refine XS.goto X21.here hx rfl (pc0 := 93) (pc' := 7) rfl (hb hby dF_93) (by decide) (by decide) ?_
    refine XS.iloadN X21.here hx rfl (hb hby dF_7) rfl  ?_
    show Steps p.tables e below (T21.setTop (mkF m 8 (own_L6 ar i1 b1 (5 : Int32) (102 : Int32) (i1 + (1 : Int32)) (38 : Int32) (XT.ushrL q1 (38 : Int32))) [(.int (5 : Int32))])) _
    refine XS.bipush X21.here hx rfl (hb hby dF_8) ?_
    show Steps p.tables e below (T21.setTop (mkF m 10 (own_L6 ar i1 b1 (5 : Int32) (102 : Int32) (i1 + (1 : Int32)) (38 : Int32) (XT.ushrL q1 (38 : Int32))) [(.int (10 : Int32)), (.int (5 : Int32))])) _
    refine XS.icmpNo X21.here hx rfl (hb hby dF_10) rfl (XT.ii_ge_f (by decide)) ?_
    exact oK
  obtain ⟨T22, X22, e22, st22⟩ := getS2 X21 hx hZ hown (host := "") (Or.inl (own_at hw 6 rfl)) Via.refl e21 (SP.ext (f78).2) (g := (mkF m 13 (own_L6 ar i1 b1 (5 : Int32) (102 : Int32) (i1 + (1 : Int32)) (38 : Int32) (XT.ushrL q1 (38 : Int32))) [])) rfl (hb hby dF_13)
  refine OG.of st22 ?_
  show OG _ _ _ _ _ _ _ (T22.setTop (mkF m 16 (own_L6 ar i1 b1 (5 : Int32) (102 : Int32) (i1 + (1 : Int32)) (38 : Int32) (XT.ushrL q1 (38 : Int32))) [(.ref wP)]))
  refine OG.of (A := T22.setTop (mkF m 17 (own_L6 ar i1 b1 (5 : Int32) (102 : Int32) (i1 + (1 : Int32)) (38 : Int32) (XT.ushrL q1 (38 : Int32))) [(.int (5 : Int32)), (.ref wP)])) (fun oT oK => ?_) ?_
  · skip
    refine XS.iloadN X22.here hx rfl (hb hby dF_16) rfl  ?_
    exact oK
  have cf79 := ((TP 5 (by decide)).ext (f78).2)
  obtain ⟨clf79, Arf79, If79, Hf79⟩ := cf79
  refine OG.of (X22.iaload hx (j := (5 : Int32)) (v := (.int (128 : Int32))) (by rw [e22]; exact Arf79.1) (State.isArrayOf_alike hZ.alike Arf79.2.1) Arf79.2.2 If79 Hf79 (g := (mkF m 17 (own_L6 ar i1 b1 (5 : Int32) (102 : Int32) (i1 + (1 : Int32)) (38 : Int32) (XT.ushrL q1 (38 : Int32))) [(.int (5 : Int32)), (.ref wP)])) rfl rfl (hb hby dF_17)) ?_
  show OG _ _ _ _ _ _ _ (T22.setTop (mkF m 18 (own_L6 ar i1 b1 (5 : Int32) (102 : Int32) (i1 + (1 : Int32)) (38 : Int32) (XT.ushrL q1 (38 : Int32))) [(.int (128 : Int32))]))
  refine OG.of (A := T22.setTop (mkF m 39 (own_L6 ar i1 b1 (5 : Int32) (128 : Int32) (i1 + (2 : Int32)) (0 : Int32) (XT.ushrL q1 (38 : Int32))) [(.int (i1 + (2 : Int32))), (.ref ar)])) (fun oT oK => ?_) ?_
  · skip
    refine XS.istore X22.here hx rfl (hb hby dF_18) rfl (l' := (own_L6 ar i1 b1 (5 : Int32) (128 : Int32) (i1 + (1 : Int32)) (38 : Int32) (XT.ushrL q1 (38 : Int32)))) rfl ?_
    show Steps p.tables e below (T22.setTop (mkF m 20 (own_L6 ar i1 b1 (5 : Int32) (128 : Int32) (i1 + (1 : Int32)) (38 : Int32) (XT.ushrL q1 (38 : Int32))) [])) _
    refine XS.iloadN X22.here hx rfl (hb hby dF_20) rfl  ?_
    refine XS.iload X22.here hx rfl (hb hby dF_21) rfl  ?_
    show Steps p.tables e below (T22.setTop (mkF m 23 (own_L6 ar i1 b1 (5 : Int32) (128 : Int32) (i1 + (1 : Int32)) (38 : Int32) (XT.ushrL q1 (38 : Int32))) [(.int (128 : Int32)), (.int i1)])) _
    refine XS.bipush X22.here hx rfl (hb hby dF_23) ?_
    refine XS.idiv X22.here hx rfl (hb hby dF_25) rfl (by decide) ?_
    show Steps p.tables e below (T22.setTop (mkF m 26 (own_L6 ar i1 b1 (5 : Int32) (128 : Int32) (i1 + (1 : Int32)) (38 : Int32) (XT.ushrL q1 (38 : Int32))) [(.int (2 : Int32)), (.int i1)])) _
    refine XS.iadd X22.here hx rfl (hb hby dF_26) rfl ?_
    refine XS.istore X22.here hx rfl (hb hby dF_27) rfl (l' := (own_L6 ar i1 b1 (5 : Int32) (128 : Int32) (i1 + (2 : Int32)) (38 : Int32) (XT.ushrL q1 (38 : Int32)))) rfl ?_
    show Steps p.tables e below (T22.setTop (mkF m 29 (own_L6 ar i1 b1 (5 : Int32) (128 : Int32) (i1 + (2 : Int32)) (38 : Int32) (XT.ushrL q1 (38 : Int32))) [])) _
    refine XS.iload X22.here hx rfl (hb hby dF_29) rfl  ?_
    refine XS.bipush X22.here hx rfl (hb hby dF_31) ?_
    show Steps p.tables e below (T22.setTop (mkF m 33 (own_L6 ar i1 b1 (5 : Int32) (128 : Int32) (i1 + (2 : Int32)) (38 : Int32) (XT.ushrL q1 (38 : Int32))) [(.int (64 : Int32)), (.int (128 : Int32))])) _
    refine Jvm.RoadKit.iremM X22 hx rfl (hb hby dF_33) rfl (by decide) ?_
    refine XS.istore X22.here hx rfl (hb hby dF_34) rfl (l' := (own_L6 ar i1 b1 (5 : Int32) (128 : Int32) (i1 + (2 : Int32)) (0 : Int32) (XT.ushrL q1 (38 : Int32)))) rfl ?_
    show Steps p.tables e below (T22.setTop (mkF m 36 (own_L6 ar i1 b1 (5 : Int32) (128 : Int32) (i1 + (2 : Int32)) (0 : Int32) (XT.ushrL q1 (38 : Int32))) [])) _
    refine XS.aloadN X22.here hx rfl (hb hby dF_36) rfl rfl  ?_
    refine XS.iload X22.here hx rfl (hb hby dF_37) rfl  ?_
    exact oK
  have cf80 := f72
  obtain ⟨clf80, Arf80, If80, Hf80⟩ := cf80
  refine OG.of (X22.laload hx (j := (i1 + (2 : Int32))) (v := (.long q2)) (by rw [e22]; exact Arf80.1) (State.isArrayOf_alike hZ.alike Arf80.2.1) Arf80.2.2 If80 Hf80 (g := (mkF m 39 (own_L6 ar i1 b1 (5 : Int32) (128 : Int32) (i1 + (2 : Int32)) (0 : Int32) (XT.ushrL q1 (38 : Int32))) [(.int (i1 + (2 : Int32))), (.ref ar)])) rfl rfl (hb hby dF_39)) ?_
  show OG _ _ _ _ _ _ _ (T22.setTop (mkF m 40 (own_L6 ar i1 b1 (5 : Int32) (128 : Int32) (i1 + (2 : Int32)) (0 : Int32) (XT.ushrL q1 (38 : Int32))) [(.long q2)]))
  refine OG.of (A := T22.setTop (mkF m 47 (own_L6 ar i1 b1 (5 : Int32) (128 : Int32) (i1 + (2 : Int32)) (0 : Int32) (XT.ushrL q2 (0 : Int32))) [(.int (0 : Int32))])) (fun oT oK => ?_) ?_
  · skip
    refine XS.iload X22.here hx rfl (hb hby dF_40) rfl  ?_
    show Steps p.tables e below (T22.setTop (mkF m 42 (own_L6 ar i1 b1 (5 : Int32) (128 : Int32) (i1 + (2 : Int32)) (0 : Int32) (XT.ushrL q1 (38 : Int32))) [(.int (0 : Int32)), (.long q2)])) _
    refine XT.lushr X22.here hx rfl (hb hby dF_42) rfl ?_
    refine XT.lstore X22.here hx rfl (hb hby dF_43) rfl (l' := (own_L6 ar i1 b1 (5 : Int32) (128 : Int32) (i1 + (2 : Int32)) (0 : Int32) (XT.ushrL q2 (0 : Int32)))) rfl ?_
    show Steps p.tables e below (T22.setTop (mkF m 45 (own_L6 ar i1 b1 (5 : Int32) (128 : Int32) (i1 + (2 : Int32)) (0 : Int32) (XT.ushrL q2 (0 : Int32))) [])) _
    refine XS.iload X22.here hx rfl (hb hby dF_45) rfl  ?_
    exact oK
  obtain ⟨T23, X23, e23, st23⟩ := getS2 X22 hx hZ hown (host := "") (Or.inl (own_at hw 8 rfl)) Via.refl e22 (SB.ext (f78).2) (g := (mkF m 47 (own_L6 ar i1 b1 (5 : Int32) (128 : Int32) (i1 + (2 : Int32)) (0 : Int32) (XT.ushrL q2 (0 : Int32))) [(.int (0 : Int32))])) rfl (hb hby dF_47)
  refine OG.of st23 ?_
  show OG _ _ _ _ _ _ _ (T23.setTop (mkF m 50 (own_L6 ar i1 b1 (5 : Int32) (128 : Int32) (i1 + (2 : Int32)) (0 : Int32) (XT.ushrL q2 (0 : Int32))) [(.ref wB), (.int (0 : Int32))]))
  refine OG.of (A := T23.setTop (mkF m 51 (own_L6 ar i1 b1 (5 : Int32) (128 : Int32) (i1 + (2 : Int32)) (0 : Int32) (XT.ushrL q2 (0 : Int32))) [(.int (5 : Int32)), (.ref wB), (.int (0 : Int32))])) (fun oT oK => ?_) ?_
  · skip
    refine XS.iloadN X23.here hx rfl (hb hby dF_50) rfl  ?_
    exact oK
  have cf81 := ((TB 5 (by decide)).ext (f78).2)
  obtain ⟨clf81, Arf81, If81, Hf81⟩ := cf81
  refine OG.of (X23.iaload hx (j := (5 : Int32)) (v := (.int (25 : Int32))) (by rw [e23]; exact Arf81.1) (State.isArrayOf_alike hZ.alike Arf81.2.1) Arf81.2.2 If81 Hf81 (g := (mkF m 51 (own_L6 ar i1 b1 (5 : Int32) (128 : Int32) (i1 + (2 : Int32)) (0 : Int32) (XT.ushrL q2 (0 : Int32))) [(.int (5 : Int32)), (.ref wB), (.int (0 : Int32))])) rfl rfl (hb hby dF_51)) ?_
  show OG _ _ _ _ _ _ _ (T23.setTop (mkF m 52 (own_L6 ar i1 b1 (5 : Int32) (128 : Int32) (i1 + (2 : Int32)) (0 : Int32) (XT.ushrL q2 (0 : Int32))) [(.int (25 : Int32)), (.int (0 : Int32))]))
  refine OG.of (A := T23.setTop (mkF m 80 (own_L6 ar i1 b1 (5 : Int32) (128 : Int32) (i1 + (2 : Int32)) (0 : Int32) (XT.ushrL q2 (0 : Int32))) [(.long (1 : Int64)), (.long (XT.ushrL q2 (0 : Int32))), (.int (5 : Int32)), (.ref b1)])) (fun oT oK => ?_) ?_
  · skip
    refine XS.iadd X23.here hx rfl (hb hby dF_52) rfl ?_
    show Steps p.tables e below (T23.setTop (mkF m 53 (own_L6 ar i1 b1 (5 : Int32) (128 : Int32) (i1 + (2 : Int32)) (0 : Int32) (XT.ushrL q2 (0 : Int32))) [(.int (25 : Int32))])) _
    refine XS.bipush X23.here hx rfl (hb hby dF_53) ?_
    show Steps p.tables e below (T23.setTop (mkF m 55 (own_L6 ar i1 b1 (5 : Int32) (128 : Int32) (i1 + (2 : Int32)) (0 : Int32) (XT.ushrL q2 (0 : Int32))) [(.int (64 : Int32)), (.int (25 : Int32))])) _
    refine XS.icmpYes X23.here hx rfl (pc0 := 55) (pc' := 75) rfl (hb hby dF_55) rfl (XT.ii_le_t (by decide)) (by decide) (by decide) ?_
    show Steps p.tables e below (T23.setTop (mkF m 75 (own_L6 ar i1 b1 (5 : Int32) (128 : Int32) (i1 + (2 : Int32)) (0 : Int32) (XT.ushrL q2 (0 : Int32))) [])) _
    refine XS.aloadN X23.here hx rfl (hb hby dF_75) rfl rfl  ?_
    refine XS.iloadN X23.here hx rfl (hb hby dF_76) rfl  ?_
    show Steps p.tables e below (T23.setTop (mkF m 77 (own_L6 ar i1 b1 (5 : Int32) (128 : Int32) (i1 + (2 : Int32)) (0 : Int32) (XT.ushrL q2 (0 : Int32))) [(.int (5 : Int32)), (.ref b1)])) _
    refine XT.lload X23.here hx rfl (hb hby dF_77) rfl  ?_
    refine XT.lconst X23.here hx rfl (hb hby dF_79) ?_
    exact oK
  obtain ⟨T24, X24, e24, st24⟩ := getS2 X23 hx hZ hown (host := "") (Or.inl (own_at hw 8 rfl)) Via.refl e23 (SB.ext (f78).2) (g := (mkF m 80 (own_L6 ar i1 b1 (5 : Int32) (128 : Int32) (i1 + (2 : Int32)) (0 : Int32) (XT.ushrL q2 (0 : Int32))) [(.long (1 : Int64)), (.long (XT.ushrL q2 (0 : Int32))), (.int (5 : Int32)), (.ref b1)])) rfl (hb hby dF_80)
  refine OG.of st24 ?_
  show OG _ _ _ _ _ _ _ (T24.setTop (mkF m 83 (own_L6 ar i1 b1 (5 : Int32) (128 : Int32) (i1 + (2 : Int32)) (0 : Int32) (XT.ushrL q2 (0 : Int32))) [(.ref wB), (.long (1 : Int64)), (.long (XT.ushrL q2 (0 : Int32))), (.int (5 : Int32)), (.ref b1)]))
  refine OG.of (A := T24.setTop (mkF m 84 (own_L6 ar i1 b1 (5 : Int32) (128 : Int32) (i1 + (2 : Int32)) (0 : Int32) (XT.ushrL q2 (0 : Int32))) [(.int (5 : Int32)), (.ref wB), (.long (1 : Int64)), (.long (XT.ushrL q2 (0 : Int32))), (.int (5 : Int32)), (.ref b1)])) (fun oT oK => ?_) ?_
  · skip
    refine XS.iloadN X24.here hx rfl (hb hby dF_83) rfl  ?_
    exact oK
  have cf82 := ((TB 5 (by decide)).ext (f78).2)
  obtain ⟨clf82, Arf82, If82, Hf82⟩ := cf82
  refine OG.of (X24.iaload hx (j := (5 : Int32)) (v := (.int (25 : Int32))) (by rw [e24]; exact Arf82.1) (State.isArrayOf_alike hZ.alike Arf82.2.1) Arf82.2.2 If82 Hf82 (g := (mkF m 84 (own_L6 ar i1 b1 (5 : Int32) (128 : Int32) (i1 + (2 : Int32)) (0 : Int32) (XT.ushrL q2 (0 : Int32))) [(.int (5 : Int32)), (.ref wB), (.long (1 : Int64)), (.long (XT.ushrL q2 (0 : Int32))), (.int (5 : Int32)), (.ref b1)])) rfl rfl (hb hby dF_84)) ?_
  show OG _ _ _ _ _ _ _ (T24.setTop (mkF m 85 (own_L6 ar i1 b1 (5 : Int32) (128 : Int32) (i1 + (2 : Int32)) (0 : Int32) (XT.ushrL q2 (0 : Int32))) [(.int (25 : Int32)), (.long (1 : Int64)), (.long (XT.ushrL q2 (0 : Int32))), (.int (5 : Int32)), (.ref b1)]))
  refine OG.of (A := T24.setTop (mkF m 89 (own_L6 ar i1 b1 (5 : Int32) (128 : Int32) (i1 + (2 : Int32)) (0 : Int32) (XT.ushrL q2 (0 : Int32))) [(.long ((XT.ushrL q2 (0 : Int32)) &&& (((1 : Int64) <<< ((25 : Int32).toInt64 &&& 63)) - (1 : Int64)))), (.int (5 : Int32)), (.ref b1)])) (fun oT oK => ?_) ?_
  · skip
    refine XT.lshl X24.here hx rfl (hb hby dF_85) rfl ?_
    show Steps p.tables e below (T24.setTop (mkF m 86 (own_L6 ar i1 b1 (5 : Int32) (128 : Int32) (i1 + (2 : Int32)) (0 : Int32) (XT.ushrL q2 (0 : Int32))) [(.long ((1 : Int64) <<< ((25 : Int32).toInt64 &&& 63))), (.long (XT.ushrL q2 (0 : Int32))), (.int (5 : Int32)), (.ref b1)])) _
    refine XT.lconst X24.here hx rfl (hb hby dF_86) ?_
    refine XT.lsub X24.here hx rfl (hb hby dF_87) rfl ?_
    show Steps p.tables e below (T24.setTop (mkF m 88 (own_L6 ar i1 b1 (5 : Int32) (128 : Int32) (i1 + (2 : Int32)) (0 : Int32) (XT.ushrL q2 (0 : Int32))) [(.long (((1 : Int64) <<< ((25 : Int32).toInt64 &&& 63)) - (1 : Int64))), (.long (XT.ushrL q2 (0 : Int32))), (.int (5 : Int32)), (.ref b1)])) _
    refine XT.land X24.here hx rfl (hb hby dF_88) rfl ?_
    exact oK
  show OG _ _ _ _ _ _ _ (T24.setTop (mkF m 89 (own_L6 ar i1 b1 (5 : Int32) (128 : Int32) (i1 + (2 : Int32)) (0 : Int32) (XT.ushrL q2 (0 : Int32))) [(.long (own_l5 q0 q1 q2 q3)), (.int (5 : Int32)), (.ref b1)]))
  have cf83 := V21
  obtain ⟨clf83, Arf83, qf83, Sf83, Mf83, Hf83, Gf83⟩ := cf83
  obtain ⟨T25, h25, X25, e25, W25, st25⟩ := stJ X24 hx hZ e24 Arf83 (j := (5 : Int32)) (inb_of Sf83 ⟨by decide, by decide⟩) (g := (mkF m 89 (own_L6 ar i1 b1 (5 : Int32) (128 : Int32) (i1 + (2 : Int32)) (0 : Int32) (XT.ushrL q2 (0 : Int32))) [(.long (own_l5 q0 q1 q2 q3)), (.int (5 : Int32)), (.ref b1)])) rfl rfl (hb hby dF_89)
  have f84 := (f70).other W25 ne_ar_b1
  have f85 := (f71).other W25 ne_ar_b1
  have f86 := (f72).other W25 ne_ar_b1
  have f87 := (f73).other W25 ne_ar_b1
  have f88 := (f74).other W25 ne_ar_b1
  have f89 := (f75).other W25 ne_ar_b1
  have f90 := (f76).wr W25
  have V25 : Arv Z h25 b1 kc1 .long (10 : Int32) [(.long (own_l0 q0 q1 q2 q3)), (.long (own_l1 q0 q1 q2 q3)), (.long (own_l2 q0 q1 q2 q3)), (.long (own_l3 q0 q1 q2 q3)), (.long (own_l4 q0 q1 q2 q3)), (.long (own_l5 q0 q1 q2 q3)), (.long (0 : Int64)), (.long (0 : Int64)), (.long (0 : Int64)), (.long (0 : Int64))] (.long (0 : Int64)) := Arv.set Arf83 qf83 Sf83 Mf83 Hf83 Gf83 rfl W25 5 rfl (Nat.le_of_ble_eq_true rfl)
  have f92 := (f78).wr W25 gn_b1
  have K25 : Keep h0 h25 [] := (K21).wr W25 (Or.inr sz_b1)
  have Z25 : n0 ≤ h25.size := Nat.le_trans Z21 (Keep.of_wr W25).1
  have N25 := Fr.snoc X25 N21 gn_b1
  refine OG.of st25 ?_
  show OG _ _ _ _ _ _ _ (T25.setTop (mkF m 90 (own_L6 ar i1 b1 (5 : Int32) (128 : Int32) (i1 + (2 : Int32)) (0 : Int32) (XT.ushrL q2 (0 : Int32))) []))
  refine OG.of (A := T25.setTop (mkF m 13 (own_L6 ar i1 b1 (6 : Int32) (128 : Int32) (i1 + (2 : Int32)) (0 : Int32) (XT.ushrL q2 (0 : Int32))) [])) (fun oT oK => ?_) ?_
  · skip
    refine XS.iinc X25.here hx rfl (hb hby dF_90) rfl (l' := (own_L6 ar i1 b1 (6 : Int32) (128 : Int32) (i1 + (2 : Int32)) (0 : Int32) (XT.ushrL q2 (0 : Int32)))) rfl ?_
    show Steps p.tables e below (T25.setTop (mkF m 93 (own_L6 ar i1 b1 (6 : Int32) (128 : Int32) (i1 + (2 : Int32)) (0 : Int32) (XT.ushrL q2 (0 : Int32))) [])) _
    refine XS.goto X25.here hx rfl (pc0 := 93) (pc' := 7) rfl (hb hby dF_93) (by decide) (by decide) ?_
    refine XS.iloadN X25.here hx rfl (hb hby dF_7) rfl  ?_
    show Steps p.tables e below (T25.setTop (mkF m 8 (own_L6 ar i1 b1 (6 : Int32) (128 : Int32) (i1 + (2 : Int32)) (0 : Int32) (XT.ushrL q2 (0 : Int32))) [(.int (6 : Int32))])) _
    refine XS.bipush X25.here hx rfl (hb hby dF_8) ?_
    show Steps p.tables e below (T25.setTop (mkF m 10 (own_L6 ar i1 b1 (6 : Int32) (128 : Int32) (i1 + (2 : Int32)) (0 : Int32) (XT.ushrL q2 (0 : Int32))) [(.int (10 : Int32)), (.int (6 : Int32))])) _
    refine XS.icmpNo X25.here hx rfl (hb hby dF_10) rfl (XT.ii_ge_f (by decide)) ?_
    exact oK
  obtain ⟨T26, X26, e26, st26⟩ := getS2 X25 hx hZ hown (host := "") (Or.inl (own_at hw 6 rfl)) Via.refl e25 (SP.ext (f92).2) (g := (mkF m 13 (own_L6 ar i1 b1 (6 : Int32) (128 : Int32) (i1 + (2 : Int32)) (0 : Int32) (XT.ushrL q2 (0 : Int32))) [])) rfl (hb hby dF_13)
  refine OG.of st26 ?_
  show OG _ _ _ _ _ _ _ (T26.setTop (mkF m 16 (own_L6 ar i1 b1 (6 : Int32) (128 : Int32) (i1 + (2 : Int32)) (0 : Int32) (XT.ushrL q2 (0 : Int32))) [(.ref wP)]))
  refine OG.of (A := T26.setTop (mkF m 17 (own_L6 ar i1 b1 (6 : Int32) (128 : Int32) (i1 + (2 : Int32)) (0 : Int32) (XT.ushrL q2 (0 : Int32))) [(.int (6 : Int32)), (.ref wP)])) (fun oT oK => ?_) ?_
  · skip
    refine XS.iloadN X26.here hx rfl (hb hby dF_16) rfl  ?_
    exact oK
  have cf93 := ((TP 6 (by decide)).ext (f92).2)
  obtain ⟨clf93, Arf93, If93, Hf93⟩ := cf93
  refine OG.of (X26.iaload hx (j := (6 : Int32)) (v := (.int (153 : Int32))) (by rw [e26]; exact Arf93.1) (State.isArrayOf_alike hZ.alike Arf93.2.1) Arf93.2.2 If93 Hf93 (g := (mkF m 17 (own_L6 ar i1 b1 (6 : Int32) (128 : Int32) (i1 + (2 : Int32)) (0 : Int32) (XT.ushrL q2 (0 : Int32))) [(.int (6 : Int32)), (.ref wP)])) rfl rfl (hb hby dF_17)) ?_
  show OG _ _ _ _ _ _ _ (T26.setTop (mkF m 18 (own_L6 ar i1 b1 (6 : Int32) (128 : Int32) (i1 + (2 : Int32)) (0 : Int32) (XT.ushrL q2 (0 : Int32))) [(.int (153 : Int32))]))
  refine OG.of (A := T26.setTop (mkF m 39 (own_L6 ar i1 b1 (6 : Int32) (153 : Int32) (i1 + (2 : Int32)) (25 : Int32) (XT.ushrL q2 (0 : Int32))) [(.int (i1 + (2 : Int32))), (.ref ar)])) (fun oT oK => ?_) ?_
  · skip
    refine XS.istore X26.here hx rfl (hb hby dF_18) rfl (l' := (own_L6 ar i1 b1 (6 : Int32) (153 : Int32) (i1 + (2 : Int32)) (0 : Int32) (XT.ushrL q2 (0 : Int32)))) rfl ?_
    show Steps p.tables e below (T26.setTop (mkF m 20 (own_L6 ar i1 b1 (6 : Int32) (153 : Int32) (i1 + (2 : Int32)) (0 : Int32) (XT.ushrL q2 (0 : Int32))) [])) _
    refine XS.iloadN X26.here hx rfl (hb hby dF_20) rfl  ?_
    refine XS.iload X26.here hx rfl (hb hby dF_21) rfl  ?_
    show Steps p.tables e below (T26.setTop (mkF m 23 (own_L6 ar i1 b1 (6 : Int32) (153 : Int32) (i1 + (2 : Int32)) (0 : Int32) (XT.ushrL q2 (0 : Int32))) [(.int (153 : Int32)), (.int i1)])) _
    refine XS.bipush X26.here hx rfl (hb hby dF_23) ?_
    refine XS.idiv X26.here hx rfl (hb hby dF_25) rfl (by decide) ?_
    show Steps p.tables e below (T26.setTop (mkF m 26 (own_L6 ar i1 b1 (6 : Int32) (153 : Int32) (i1 + (2 : Int32)) (0 : Int32) (XT.ushrL q2 (0 : Int32))) [(.int (2 : Int32)), (.int i1)])) _
    refine XS.iadd X26.here hx rfl (hb hby dF_26) rfl ?_
    refine XS.istore X26.here hx rfl (hb hby dF_27) rfl (l' := (own_L6 ar i1 b1 (6 : Int32) (153 : Int32) (i1 + (2 : Int32)) (0 : Int32) (XT.ushrL q2 (0 : Int32)))) rfl ?_
    show Steps p.tables e below (T26.setTop (mkF m 29 (own_L6 ar i1 b1 (6 : Int32) (153 : Int32) (i1 + (2 : Int32)) (0 : Int32) (XT.ushrL q2 (0 : Int32))) [])) _
    refine XS.iload X26.here hx rfl (hb hby dF_29) rfl  ?_
    refine XS.bipush X26.here hx rfl (hb hby dF_31) ?_
    show Steps p.tables e below (T26.setTop (mkF m 33 (own_L6 ar i1 b1 (6 : Int32) (153 : Int32) (i1 + (2 : Int32)) (0 : Int32) (XT.ushrL q2 (0 : Int32))) [(.int (64 : Int32)), (.int (153 : Int32))])) _
    refine Jvm.RoadKit.iremM X26 hx rfl (hb hby dF_33) rfl (by decide) ?_
    refine XS.istore X26.here hx rfl (hb hby dF_34) rfl (l' := (own_L6 ar i1 b1 (6 : Int32) (153 : Int32) (i1 + (2 : Int32)) (25 : Int32) (XT.ushrL q2 (0 : Int32)))) rfl ?_
    show Steps p.tables e below (T26.setTop (mkF m 36 (own_L6 ar i1 b1 (6 : Int32) (153 : Int32) (i1 + (2 : Int32)) (25 : Int32) (XT.ushrL q2 (0 : Int32))) [])) _
    refine XS.aloadN X26.here hx rfl (hb hby dF_36) rfl rfl  ?_
    refine XS.iload X26.here hx rfl (hb hby dF_37) rfl  ?_
    exact oK
  have cf94 := f86
  obtain ⟨clf94, Arf94, If94, Hf94⟩ := cf94
  refine OG.of (X26.laload hx (j := (i1 + (2 : Int32))) (v := (.long q2)) (by rw [e26]; exact Arf94.1) (State.isArrayOf_alike hZ.alike Arf94.2.1) Arf94.2.2 If94 Hf94 (g := (mkF m 39 (own_L6 ar i1 b1 (6 : Int32) (153 : Int32) (i1 + (2 : Int32)) (25 : Int32) (XT.ushrL q2 (0 : Int32))) [(.int (i1 + (2 : Int32))), (.ref ar)])) rfl rfl (hb hby dF_39)) ?_
  show OG _ _ _ _ _ _ _ (T26.setTop (mkF m 40 (own_L6 ar i1 b1 (6 : Int32) (153 : Int32) (i1 + (2 : Int32)) (25 : Int32) (XT.ushrL q2 (0 : Int32))) [(.long q2)]))
  refine OG.of (A := T26.setTop (mkF m 47 (own_L6 ar i1 b1 (6 : Int32) (153 : Int32) (i1 + (2 : Int32)) (25 : Int32) (XT.ushrL q2 (25 : Int32))) [(.int (25 : Int32))])) (fun oT oK => ?_) ?_
  · skip
    refine XS.iload X26.here hx rfl (hb hby dF_40) rfl  ?_
    show Steps p.tables e below (T26.setTop (mkF m 42 (own_L6 ar i1 b1 (6 : Int32) (153 : Int32) (i1 + (2 : Int32)) (25 : Int32) (XT.ushrL q2 (0 : Int32))) [(.int (25 : Int32)), (.long q2)])) _
    refine XT.lushr X26.here hx rfl (hb hby dF_42) rfl ?_
    refine XT.lstore X26.here hx rfl (hb hby dF_43) rfl (l' := (own_L6 ar i1 b1 (6 : Int32) (153 : Int32) (i1 + (2 : Int32)) (25 : Int32) (XT.ushrL q2 (25 : Int32)))) rfl ?_
    show Steps p.tables e below (T26.setTop (mkF m 45 (own_L6 ar i1 b1 (6 : Int32) (153 : Int32) (i1 + (2 : Int32)) (25 : Int32) (XT.ushrL q2 (25 : Int32))) [])) _
    refine XS.iload X26.here hx rfl (hb hby dF_45) rfl  ?_
    exact oK
  obtain ⟨T27, X27, e27, st27⟩ := getS2 X26 hx hZ hown (host := "") (Or.inl (own_at hw 8 rfl)) Via.refl e26 (SB.ext (f92).2) (g := (mkF m 47 (own_L6 ar i1 b1 (6 : Int32) (153 : Int32) (i1 + (2 : Int32)) (25 : Int32) (XT.ushrL q2 (25 : Int32))) [(.int (25 : Int32))])) rfl (hb hby dF_47)
  refine OG.of st27 ?_
  show OG _ _ _ _ _ _ _ (T27.setTop (mkF m 50 (own_L6 ar i1 b1 (6 : Int32) (153 : Int32) (i1 + (2 : Int32)) (25 : Int32) (XT.ushrL q2 (25 : Int32))) [(.ref wB), (.int (25 : Int32))]))
  refine OG.of (A := T27.setTop (mkF m 51 (own_L6 ar i1 b1 (6 : Int32) (153 : Int32) (i1 + (2 : Int32)) (25 : Int32) (XT.ushrL q2 (25 : Int32))) [(.int (6 : Int32)), (.ref wB), (.int (25 : Int32))])) (fun oT oK => ?_) ?_
  · skip
    refine XS.iloadN X27.here hx rfl (hb hby dF_50) rfl  ?_
    exact oK
  have cf95 := ((TB 6 (by decide)).ext (f92).2)
  obtain ⟨clf95, Arf95, If95, Hf95⟩ := cf95
  refine OG.of (X27.iaload hx (j := (6 : Int32)) (v := (.int (26 : Int32))) (by rw [e27]; exact Arf95.1) (State.isArrayOf_alike hZ.alike Arf95.2.1) Arf95.2.2 If95 Hf95 (g := (mkF m 51 (own_L6 ar i1 b1 (6 : Int32) (153 : Int32) (i1 + (2 : Int32)) (25 : Int32) (XT.ushrL q2 (25 : Int32))) [(.int (6 : Int32)), (.ref wB), (.int (25 : Int32))])) rfl rfl (hb hby dF_51)) ?_
  show OG _ _ _ _ _ _ _ (T27.setTop (mkF m 52 (own_L6 ar i1 b1 (6 : Int32) (153 : Int32) (i1 + (2 : Int32)) (25 : Int32) (XT.ushrL q2 (25 : Int32))) [(.int (26 : Int32)), (.int (25 : Int32))]))
  refine OG.of (A := T27.setTop (mkF m 80 (own_L6 ar i1 b1 (6 : Int32) (153 : Int32) (i1 + (2 : Int32)) (25 : Int32) (XT.ushrL q2 (25 : Int32))) [(.long (1 : Int64)), (.long (XT.ushrL q2 (25 : Int32))), (.int (6 : Int32)), (.ref b1)])) (fun oT oK => ?_) ?_
  · skip
    refine XS.iadd X27.here hx rfl (hb hby dF_52) rfl ?_
    show Steps p.tables e below (T27.setTop (mkF m 53 (own_L6 ar i1 b1 (6 : Int32) (153 : Int32) (i1 + (2 : Int32)) (25 : Int32) (XT.ushrL q2 (25 : Int32))) [(.int (51 : Int32))])) _
    refine XS.bipush X27.here hx rfl (hb hby dF_53) ?_
    show Steps p.tables e below (T27.setTop (mkF m 55 (own_L6 ar i1 b1 (6 : Int32) (153 : Int32) (i1 + (2 : Int32)) (25 : Int32) (XT.ushrL q2 (25 : Int32))) [(.int (64 : Int32)), (.int (51 : Int32))])) _
    refine XS.icmpYes X27.here hx rfl (pc0 := 55) (pc' := 75) rfl (hb hby dF_55) rfl (XT.ii_le_t (by decide)) (by decide) (by decide) ?_
    show Steps p.tables e below (T27.setTop (mkF m 75 (own_L6 ar i1 b1 (6 : Int32) (153 : Int32) (i1 + (2 : Int32)) (25 : Int32) (XT.ushrL q2 (25 : Int32))) [])) _
    refine XS.aloadN X27.here hx rfl (hb hby dF_75) rfl rfl  ?_
    refine XS.iloadN X27.here hx rfl (hb hby dF_76) rfl  ?_
    show Steps p.tables e below (T27.setTop (mkF m 77 (own_L6 ar i1 b1 (6 : Int32) (153 : Int32) (i1 + (2 : Int32)) (25 : Int32) (XT.ushrL q2 (25 : Int32))) [(.int (6 : Int32)), (.ref b1)])) _
    refine XT.lload X27.here hx rfl (hb hby dF_77) rfl  ?_
    refine XT.lconst X27.here hx rfl (hb hby dF_79) ?_
    exact oK
  obtain ⟨T28, X28, e28, st28⟩ := getS2 X27 hx hZ hown (host := "") (Or.inl (own_at hw 8 rfl)) Via.refl e27 (SB.ext (f92).2) (g := (mkF m 80 (own_L6 ar i1 b1 (6 : Int32) (153 : Int32) (i1 + (2 : Int32)) (25 : Int32) (XT.ushrL q2 (25 : Int32))) [(.long (1 : Int64)), (.long (XT.ushrL q2 (25 : Int32))), (.int (6 : Int32)), (.ref b1)])) rfl (hb hby dF_80)
  refine OG.of st28 ?_
  show OG _ _ _ _ _ _ _ (T28.setTop (mkF m 83 (own_L6 ar i1 b1 (6 : Int32) (153 : Int32) (i1 + (2 : Int32)) (25 : Int32) (XT.ushrL q2 (25 : Int32))) [(.ref wB), (.long (1 : Int64)), (.long (XT.ushrL q2 (25 : Int32))), (.int (6 : Int32)), (.ref b1)]))
  refine OG.of (A := T28.setTop (mkF m 84 (own_L6 ar i1 b1 (6 : Int32) (153 : Int32) (i1 + (2 : Int32)) (25 : Int32) (XT.ushrL q2 (25 : Int32))) [(.int (6 : Int32)), (.ref wB), (.long (1 : Int64)), (.long (XT.ushrL q2 (25 : Int32))), (.int (6 : Int32)), (.ref b1)])) (fun oT oK => ?_) ?_
  · skip
    refine XS.iloadN X28.here hx rfl (hb hby dF_83) rfl  ?_
    exact oK
  have cf96 := ((TB 6 (by decide)).ext (f92).2)
  obtain ⟨clf96, Arf96, If96, Hf96⟩ := cf96
  refine OG.of (X28.iaload hx (j := (6 : Int32)) (v := (.int (26 : Int32))) (by rw [e28]; exact Arf96.1) (State.isArrayOf_alike hZ.alike Arf96.2.1) Arf96.2.2 If96 Hf96 (g := (mkF m 84 (own_L6 ar i1 b1 (6 : Int32) (153 : Int32) (i1 + (2 : Int32)) (25 : Int32) (XT.ushrL q2 (25 : Int32))) [(.int (6 : Int32)), (.ref wB), (.long (1 : Int64)), (.long (XT.ushrL q2 (25 : Int32))), (.int (6 : Int32)), (.ref b1)])) rfl rfl (hb hby dF_84)) ?_
  show OG _ _ _ _ _ _ _ (T28.setTop (mkF m 85 (own_L6 ar i1 b1 (6 : Int32) (153 : Int32) (i1 + (2 : Int32)) (25 : Int32) (XT.ushrL q2 (25 : Int32))) [(.int (26 : Int32)), (.long (1 : Int64)), (.long (XT.ushrL q2 (25 : Int32))), (.int (6 : Int32)), (.ref b1)]))
  refine OG.of (A := T28.setTop (mkF m 89 (own_L6 ar i1 b1 (6 : Int32) (153 : Int32) (i1 + (2 : Int32)) (25 : Int32) (XT.ushrL q2 (25 : Int32))) [(.long ((XT.ushrL q2 (25 : Int32)) &&& (((1 : Int64) <<< ((26 : Int32).toInt64 &&& 63)) - (1 : Int64)))), (.int (6 : Int32)), (.ref b1)])) (fun oT oK => ?_) ?_
  · skip
    refine XT.lshl X28.here hx rfl (hb hby dF_85) rfl ?_
    show Steps p.tables e below (T28.setTop (mkF m 86 (own_L6 ar i1 b1 (6 : Int32) (153 : Int32) (i1 + (2 : Int32)) (25 : Int32) (XT.ushrL q2 (25 : Int32))) [(.long ((1 : Int64) <<< ((26 : Int32).toInt64 &&& 63))), (.long (XT.ushrL q2 (25 : Int32))), (.int (6 : Int32)), (.ref b1)])) _
    refine XT.lconst X28.here hx rfl (hb hby dF_86) ?_
    refine XT.lsub X28.here hx rfl (hb hby dF_87) rfl ?_
    show Steps p.tables e below (T28.setTop (mkF m 88 (own_L6 ar i1 b1 (6 : Int32) (153 : Int32) (i1 + (2 : Int32)) (25 : Int32) (XT.ushrL q2 (25 : Int32))) [(.long (((1 : Int64) <<< ((26 : Int32).toInt64 &&& 63)) - (1 : Int64))), (.long (XT.ushrL q2 (25 : Int32))), (.int (6 : Int32)), (.ref b1)])) _
    refine XT.land X28.here hx rfl (hb hby dF_88) rfl ?_
    exact oK
  show OG _ _ _ _ _ _ _ (T28.setTop (mkF m 89 (own_L6 ar i1 b1 (6 : Int32) (153 : Int32) (i1 + (2 : Int32)) (25 : Int32) (XT.ushrL q2 (25 : Int32))) [(.long (own_l6 q0 q1 q2 q3)), (.int (6 : Int32)), (.ref b1)]))
  have cf97 := V25
  obtain ⟨clf97, Arf97, qf97, Sf97, Mf97, Hf97, Gf97⟩ := cf97
  obtain ⟨T29, h29, X29, e29, W29, st29⟩ := stJ X28 hx hZ e28 Arf97 (j := (6 : Int32)) (inb_of Sf97 ⟨by decide, by decide⟩) (g := (mkF m 89 (own_L6 ar i1 b1 (6 : Int32) (153 : Int32) (i1 + (2 : Int32)) (25 : Int32) (XT.ushrL q2 (25 : Int32))) [(.long (own_l6 q0 q1 q2 q3)), (.int (6 : Int32)), (.ref b1)])) rfl rfl (hb hby dF_89)
  have f98 := (f84).other W29 ne_ar_b1
  have f99 := (f85).other W29 ne_ar_b1
  have f100 := (f86).other W29 ne_ar_b1
  have f101 := (f87).other W29 ne_ar_b1
  have f102 := (f88).other W29 ne_ar_b1
  have f103 := (f89).other W29 ne_ar_b1
  have f104 := (f90).wr W29
  have V29 : Arv Z h29 b1 kc1 .long (10 : Int32) [(.long (own_l0 q0 q1 q2 q3)), (.long (own_l1 q0 q1 q2 q3)), (.long (own_l2 q0 q1 q2 q3)), (.long (own_l3 q0 q1 q2 q3)), (.long (own_l4 q0 q1 q2 q3)), (.long (own_l5 q0 q1 q2 q3)), (.long (own_l6 q0 q1 q2 q3)), (.long (0 : Int64)), (.long (0 : Int64)), (.long (0 : Int64))] (.long (0 : Int64)) := Arv.set Arf97 qf97 Sf97 Mf97 Hf97 Gf97 rfl W29 6 rfl (Nat.le_of_ble_eq_true rfl)
  have f106 := (f92).wr W29 gn_b1
  have K29 : Keep h0 h29 [] := (K25).wr W29 (Or.inr sz_b1)
  have Z29 : n0 ≤ h29.size := Nat.le_trans Z25 (Keep.of_wr W29).1
  have N29 := Fr.snoc X29 N25 gn_b1
  refine OG.of st29 ?_
  show OG _ _ _ _ _ _ _ (T29.setTop (mkF m 90 (own_L6 ar i1 b1 (6 : Int32) (153 : Int32) (i1 + (2 : Int32)) (25 : Int32) (XT.ushrL q2 (25 : Int32))) []))
  refine OG.of (A := T29.setTop (mkF m 13 (own_L6 ar i1 b1 (7 : Int32) (153 : Int32) (i1 + (2 : Int32)) (25 : Int32) (XT.ushrL q2 (25 : Int32))) [])) (fun oT oK => ?_) ?_
  · skip
    refine XS.iinc X29.here hx rfl (hb hby dF_90) rfl (l' := (own_L6 ar i1 b1 (7 : Int32) (153 : Int32) (i1 + (2 : Int32)) (25 : Int32) (XT.ushrL q2 (25 : Int32)))) rfl ?_
    show Steps p.tables e below (T29.setTop (mkF m 93 (own_L6 ar i1 b1 (7 : Int32) (153 : Int32) (i1 + (2 : Int32)) (25 : Int32) (XT.ushrL q2 (25 : Int32))) [])) _
    refine XS.goto X29.here hx rfl (pc0 := 93) (pc' := 7) rfl (hb hby dF_93) (by decide) (by decide) ?_
    refine XS.iloadN X29.here hx rfl (hb hby dF_7) rfl  ?_
    show Steps p.tables e below (T29.setTop (mkF m 8 (own_L6 ar i1 b1 (7 : Int32) (153 : Int32) (i1 + (2 : Int32)) (25 : Int32) (XT.ushrL q2 (25 : Int32))) [(.int (7 : Int32))])) _
    refine XS.bipush X29.here hx rfl (hb hby dF_8) ?_
    show Steps p.tables e below (T29.setTop (mkF m 10 (own_L6 ar i1 b1 (7 : Int32) (153 : Int32) (i1 + (2 : Int32)) (25 : Int32) (XT.ushrL q2 (25 : Int32))) [(.int (10 : Int32)), (.int (7 : Int32))])) _
    refine XS.icmpNo X29.here hx rfl (hb hby dF_10) rfl (XT.ii_ge_f (by decide)) ?_
    exact oK
  obtain ⟨T30, X30, e30, st30⟩ := getS2 X29 hx hZ hown (host := "") (Or.inl (own_at hw 6 rfl)) Via.refl e29 (SP.ext (f106).2) (g := (mkF m 13 (own_L6 ar i1 b1 (7 : Int32) (153 : Int32) (i1 + (2 : Int32)) (25 : Int32) (XT.ushrL q2 (25 : Int32))) [])) rfl (hb hby dF_13)
  refine OG.of st30 ?_
  show OG _ _ _ _ _ _ _ (T30.setTop (mkF m 16 (own_L6 ar i1 b1 (7 : Int32) (153 : Int32) (i1 + (2 : Int32)) (25 : Int32) (XT.ushrL q2 (25 : Int32))) [(.ref wP)]))
  refine OG.of (A := T30.setTop (mkF m 17 (own_L6 ar i1 b1 (7 : Int32) (153 : Int32) (i1 + (2 : Int32)) (25 : Int32) (XT.ushrL q2 (25 : Int32))) [(.int (7 : Int32)), (.ref wP)])) (fun oT oK => ?_) ?_
  · skip
    refine XS.iloadN X30.here hx rfl (hb hby dF_16) rfl  ?_
    exact oK
  have cf107 := ((TP 7 (by decide)).ext (f106).2)
  obtain ⟨clf107, Arf107, If107, Hf107⟩ := cf107
  refine OG.of (X30.iaload hx (j := (7 : Int32)) (v := (.int (179 : Int32))) (by rw [e30]; exact Arf107.1) (State.isArrayOf_alike hZ.alike Arf107.2.1) Arf107.2.2 If107 Hf107 (g := (mkF m 17 (own_L6 ar i1 b1 (7 : Int32) (153 : Int32) (i1 + (2 : Int32)) (25 : Int32) (XT.ushrL q2 (25 : Int32))) [(.int (7 : Int32)), (.ref wP)])) rfl rfl (hb hby dF_17)) ?_
  show OG _ _ _ _ _ _ _ (T30.setTop (mkF m 18 (own_L6 ar i1 b1 (7 : Int32) (153 : Int32) (i1 + (2 : Int32)) (25 : Int32) (XT.ushrL q2 (25 : Int32))) [(.int (179 : Int32))]))
  refine OG.of (A := T30.setTop (mkF m 39 (own_L6 ar i1 b1 (7 : Int32) (179 : Int32) (i1 + (2 : Int32)) (51 : Int32) (XT.ushrL q2 (25 : Int32))) [(.int (i1 + (2 : Int32))), (.ref ar)])) (fun oT oK => ?_) ?_
  · skip
    refine XS.istore X30.here hx rfl (hb hby dF_18) rfl (l' := (own_L6 ar i1 b1 (7 : Int32) (179 : Int32) (i1 + (2 : Int32)) (25 : Int32) (XT.ushrL q2 (25 : Int32)))) rfl ?_
    show Steps p.tables e below (T30.setTop (mkF m 20 (own_L6 ar i1 b1 (7 : Int32) (179 : Int32) (i1 + (2 : Int32)) (25 : Int32) (XT.ushrL q2 (25 : Int32))) [])) _
    refine XS.iloadN X30.here hx rfl (hb hby dF_20) rfl  ?_
    refine XS.iload X30.here hx rfl (hb hby dF_21) rfl  ?_
    show Steps p.tables e below (T30.setTop (mkF m 23 (own_L6 ar i1 b1 (7 : Int32) (179 : Int32) (i1 + (2 : Int32)) (25 : Int32) (XT.ushrL q2 (25 : Int32))) [(.int (179 : Int32)), (.int i1)])) _
    refine XS.bipush X30.here hx rfl (hb hby dF_23) ?_
    refine XS.idiv X30.here hx rfl (hb hby dF_25) rfl (by decide) ?_
    show Steps p.tables e below (T30.setTop (mkF m 26 (own_L6 ar i1 b1 (7 : Int32) (179 : Int32) (i1 + (2 : Int32)) (25 : Int32) (XT.ushrL q2 (25 : Int32))) [(.int (2 : Int32)), (.int i1)])) _
    refine XS.iadd X30.here hx rfl (hb hby dF_26) rfl ?_
    refine XS.istore X30.here hx rfl (hb hby dF_27) rfl (l' := (own_L6 ar i1 b1 (7 : Int32) (179 : Int32) (i1 + (2 : Int32)) (25 : Int32) (XT.ushrL q2 (25 : Int32)))) rfl ?_
    show Steps p.tables e below (T30.setTop (mkF m 29 (own_L6 ar i1 b1 (7 : Int32) (179 : Int32) (i1 + (2 : Int32)) (25 : Int32) (XT.ushrL q2 (25 : Int32))) [])) _
    refine XS.iload X30.here hx rfl (hb hby dF_29) rfl  ?_
    refine XS.bipush X30.here hx rfl (hb hby dF_31) ?_
    show Steps p.tables e below (T30.setTop (mkF m 33 (own_L6 ar i1 b1 (7 : Int32) (179 : Int32) (i1 + (2 : Int32)) (25 : Int32) (XT.ushrL q2 (25 : Int32))) [(.int (64 : Int32)), (.int (179 : Int32))])) _
    refine Jvm.RoadKit.iremM X30 hx rfl (hb hby dF_33) rfl (by decide) ?_
    refine XS.istore X30.here hx rfl (hb hby dF_34) rfl (l' := (own_L6 ar i1 b1 (7 : Int32) (179 : Int32) (i1 + (2 : Int32)) (51 : Int32) (XT.ushrL q2 (25 : Int32)))) rfl ?_
    show Steps p.tables e below (T30.setTop (mkF m 36 (own_L6 ar i1 b1 (7 : Int32) (179 : Int32) (i1 + (2 : Int32)) (51 : Int32) (XT.ushrL q2 (25 : Int32))) [])) _
    refine XS.aloadN X30.here hx rfl (hb hby dF_36) rfl rfl  ?_
    refine XS.iload X30.here hx rfl (hb hby dF_37) rfl  ?_
    exact oK
  have cf108 := f100
  obtain ⟨clf108, Arf108, If108, Hf108⟩ := cf108
  refine OG.of (X30.laload hx (j := (i1 + (2 : Int32))) (v := (.long q2)) (by rw [e30]; exact Arf108.1) (State.isArrayOf_alike hZ.alike Arf108.2.1) Arf108.2.2 If108 Hf108 (g := (mkF m 39 (own_L6 ar i1 b1 (7 : Int32) (179 : Int32) (i1 + (2 : Int32)) (51 : Int32) (XT.ushrL q2 (25 : Int32))) [(.int (i1 + (2 : Int32))), (.ref ar)])) rfl rfl (hb hby dF_39)) ?_
  show OG _ _ _ _ _ _ _ (T30.setTop (mkF m 40 (own_L6 ar i1 b1 (7 : Int32) (179 : Int32) (i1 + (2 : Int32)) (51 : Int32) (XT.ushrL q2 (25 : Int32))) [(.long q2)]))
  refine OG.of (A := T30.setTop (mkF m 47 (own_L6 ar i1 b1 (7 : Int32) (179 : Int32) (i1 + (2 : Int32)) (51 : Int32) (XT.ushrL q2 (51 : Int32))) [(.int (51 : Int32))])) (fun oT oK => ?_) ?_
  · skip
    refine XS.iload X30.here hx rfl (hb hby dF_40) rfl  ?_
    show Steps p.tables e below (T30.setTop (mkF m 42 (own_L6 ar i1 b1 (7 : Int32) (179 : Int32) (i1 + (2 : Int32)) (51 : Int32) (XT.ushrL q2 (25 : Int32))) [(.int (51 : Int32)), (.long q2)])) _
    refine XT.lushr X30.here hx rfl (hb hby dF_42) rfl ?_
    refine XT.lstore X30.here hx rfl (hb hby dF_43) rfl (l' := (own_L6 ar i1 b1 (7 : Int32) (179 : Int32) (i1 + (2 : Int32)) (51 : Int32) (XT.ushrL q2 (51 : Int32)))) rfl ?_
    show Steps p.tables e below (T30.setTop (mkF m 45 (own_L6 ar i1 b1 (7 : Int32) (179 : Int32) (i1 + (2 : Int32)) (51 : Int32) (XT.ushrL q2 (51 : Int32))) [])) _
    refine XS.iload X30.here hx rfl (hb hby dF_45) rfl  ?_
    exact oK
  obtain ⟨T31, X31, e31, st31⟩ := getS2 X30 hx hZ hown (host := "") (Or.inl (own_at hw 8 rfl)) Via.refl e30 (SB.ext (f106).2) (g := (mkF m 47 (own_L6 ar i1 b1 (7 : Int32) (179 : Int32) (i1 + (2 : Int32)) (51 : Int32) (XT.ushrL q2 (51 : Int32))) [(.int (51 : Int32))])) rfl (hb hby dF_47)
  refine OG.of st31 ?_
  show OG _ _ _ _ _ _ _ (T31.setTop (mkF m 50 (own_L6 ar i1 b1 (7 : Int32) (179 : Int32) (i1 + (2 : Int32)) (51 : Int32) (XT.ushrL q2 (51 : Int32))) [(.ref wB), (.int (51 : Int32))]))
  refine OG.of (A := T31.setTop (mkF m 51 (own_L6 ar i1 b1 (7 : Int32) (179 : Int32) (i1 + (2 : Int32)) (51 : Int32) (XT.ushrL q2 (51 : Int32))) [(.int (7 : Int32)), (.ref wB), (.int (51 : Int32))])) (fun oT oK => ?_) ?_
  · skip
    refine XS.iloadN X31.here hx rfl (hb hby dF_50) rfl  ?_
    exact oK
  have cf109 := ((TB 7 (by decide)).ext (f106).2)
  obtain ⟨clf109, Arf109, If109, Hf109⟩ := cf109
  refine OG.of (X31.iaload hx (j := (7 : Int32)) (v := (.int (25 : Int32))) (by rw [e31]; exact Arf109.1) (State.isArrayOf_alike hZ.alike Arf109.2.1) Arf109.2.2 If109 Hf109 (g := (mkF m 51 (own_L6 ar i1 b1 (7 : Int32) (179 : Int32) (i1 + (2 : Int32)) (51 : Int32) (XT.ushrL q2 (51 : Int32))) [(.int (7 : Int32)), (.ref wB), (.int (51 : Int32))])) rfl rfl (hb hby dF_51)) ?_
  show OG _ _ _ _ _ _ _ (T31.setTop (mkF m 52 (own_L6 ar i1 b1 (7 : Int32) (179 : Int32) (i1 + (2 : Int32)) (51 : Int32) (XT.ushrL q2 (51 : Int32))) [(.int (25 : Int32)), (.int (51 : Int32))]))
  refine OG.of (A := T31.setTop (mkF m 65 (own_L6 ar i1 b1 (7 : Int32) (179 : Int32) (i1 + (2 : Int32)) (51 : Int32) (XT.ushrL q2 (51 : Int32))) [(.int ((i1 + (2 : Int32)) + (1 : Int32))), (.ref ar), (.long (XT.ushrL q2 (51 : Int32)))])) (fun oT oK => ?_) ?_
  · skip
    refine XS.iadd X31.here hx rfl (hb hby dF_52) rfl ?_
    show Steps p.tables e below (T31.setTop (mkF m 53 (own_L6 ar i1 b1 (7 : Int32) (179 : Int32) (i1 + (2 : Int32)) (51 : Int32) (XT.ushrL q2 (51 : Int32))) [(.int (76 : Int32))])) _
    refine XS.bipush X31.here hx rfl (hb hby dF_53) ?_
    show Steps p.tables e below (T31.setTop (mkF m 55 (own_L6 ar i1 b1 (7 : Int32) (179 : Int32) (i1 + (2 : Int32)) (51 : Int32) (XT.ushrL q2 (51 : Int32))) [(.int (64 : Int32)), (.int (76 : Int32))])) _
    refine XS.icmpNo X31.here hx rfl (hb hby dF_55) rfl (XT.ii_le_f (by decide)) ?_
    show Steps p.tables e below (T31.setTop (mkF m 58 (own_L6 ar i1 b1 (7 : Int32) (179 : Int32) (i1 + (2 : Int32)) (51 : Int32) (XT.ushrL q2 (51 : Int32))) [])) _
    refine XT.lload X31.here hx rfl (hb hby dF_58) rfl  ?_
    refine XS.aloadN X31.here hx rfl (hb hby dF_60) rfl rfl  ?_
    show Steps p.tables e below (T31.setTop (mkF m 61 (own_L6 ar i1 b1 (7 : Int32) (179 : Int32) (i1 + (2 : Int32)) (51 : Int32) (XT.ushrL q2 (51 : Int32))) [(.ref ar), (.long (XT.ushrL q2 (51 : Int32)))])) _
    refine XS.iload X31.here hx rfl (hb hby dF_61) rfl  ?_
    refine XS.iconst X31.here hx rfl (hb hby dF_63) ?_
    show Steps p.tables e below (T31.setTop (mkF m 64 (own_L6 ar i1 b1 (7 : Int32) (179 : Int32) (i1 + (2 : Int32)) (51 : Int32) (XT.ushrL q2 (51 : Int32))) [(.int (1 : Int32)), (.int (i1 + (2 : Int32))), (.ref ar), (.long (XT.ushrL q2 (51 : Int32)))])) _
    refine XS.iadd X31.here hx rfl (hb hby dF_64) rfl ?_
    exact oK
  have cf110 := f103
  obtain ⟨clf110, Arf110, If110, Hf110⟩ := cf110
  refine OG.of (X31.laload hx (j := ((i1 + (2 : Int32)) + (1 : Int32))) (v := (.long q3)) (by rw [e31]; exact Arf110.1) (State.isArrayOf_alike hZ.alike Arf110.2.1) Arf110.2.2 If110 Hf110 (g := (mkF m 65 (own_L6 ar i1 b1 (7 : Int32) (179 : Int32) (i1 + (2 : Int32)) (51 : Int32) (XT.ushrL q2 (51 : Int32))) [(.int ((i1 + (2 : Int32)) + (1 : Int32))), (.ref ar), (.long (XT.ushrL q2 (51 : Int32)))])) rfl rfl (hb hby dF_65)) ?_
  show OG _ _ _ _ _ _ _ (T31.setTop (mkF m 66 (own_L6 ar i1 b1 (7 : Int32) (179 : Int32) (i1 + (2 : Int32)) (51 : Int32) (XT.ushrL q2 (51 : Int32))) [(.long q3), (.long (XT.ushrL q2 (51 : Int32)))]))
  refine OG.of (A := T31.setTop (mkF m 80 (own_L6 ar i1 b1 (7 : Int32) (179 : Int32) (i1 + (2 : Int32)) (51 : Int32) ((XT.ushrL q2 (51 : Int32)) ||| (q3 <<< ((13 : Int32).toInt64 &&& 63)))) [(.long (1 : Int64)), (.long ((XT.ushrL q2 (51 : Int32)) ||| (q3 <<< ((13 : Int32).toInt64 &&& 63)))), (.int (7 : Int32)), (.ref b1)])) (fun oT oK => ?_) ?_
  · skip
    refine XS.bipush X31.here hx rfl (hb hby dF_66) ?_
    show Steps p.tables e below (T31.setTop (mkF m 68 (own_L6 ar i1 b1 (7 : Int32) (179 : Int32) (i1 + (2 : Int32)) (51 : Int32) (XT.ushrL q2 (51 : Int32))) [(.int (64 : Int32)), (.long q3), (.long (XT.ushrL q2 (51 : Int32)))])) _
    refine XS.iload X31.here hx rfl (hb hby dF_68) rfl  ?_
    refine XS.isub X31.here hx rfl (hb hby dF_70) rfl ?_
    show Steps p.tables e below (T31.setTop (mkF m 71 (own_L6 ar i1 b1 (7 : Int32) (179 : Int32) (i1 + (2 : Int32)) (51 : Int32) (XT.ushrL q2 (51 : Int32))) [(.int (13 : Int32)), (.long q3), (.long (XT.ushrL q2 (51 : Int32)))])) _
    refine XT.lshl X31.here hx rfl (hb hby dF_71) rfl ?_
    refine XT.lor X31.here hx rfl (hb hby dF_72) rfl ?_
    show Steps p.tables e below (T31.setTop (mkF m 73 (own_L6 ar i1 b1 (7 : Int32) (179 : Int32) (i1 + (2 : Int32)) (51 : Int32) (XT.ushrL q2 (51 : Int32))) [(.long ((XT.ushrL q2 (51 : Int32)) ||| (q3 <<< ((13 : Int32).toInt64 &&& 63))))])) _
    refine XT.lstore X31.here hx rfl (hb hby dF_73) rfl (l' := (own_L6 ar i1 b1 (7 : Int32) (179 : Int32) (i1 + (2 : Int32)) (51 : Int32) ((XT.ushrL q2 (51 : Int32)) ||| (q3 <<< ((13 : Int32).toInt64 &&& 63))))) rfl ?_
    refine XS.aloadN X31.here hx rfl (hb hby dF_75) rfl rfl  ?_
    show Steps p.tables e below (T31.setTop (mkF m 76 (own_L6 ar i1 b1 (7 : Int32) (179 : Int32) (i1 + (2 : Int32)) (51 : Int32) ((XT.ushrL q2 (51 : Int32)) ||| (q3 <<< ((13 : Int32).toInt64 &&& 63)))) [(.ref b1)])) _
    refine XS.iloadN X31.here hx rfl (hb hby dF_76) rfl  ?_
    refine XT.lload X31.here hx rfl (hb hby dF_77) rfl  ?_
    show Steps p.tables e below (T31.setTop (mkF m 79 (own_L6 ar i1 b1 (7 : Int32) (179 : Int32) (i1 + (2 : Int32)) (51 : Int32) ((XT.ushrL q2 (51 : Int32)) ||| (q3 <<< ((13 : Int32).toInt64 &&& 63)))) [(.long ((XT.ushrL q2 (51 : Int32)) ||| (q3 <<< ((13 : Int32).toInt64 &&& 63)))), (.int (7 : Int32)), (.ref b1)])) _
    refine XT.lconst X31.here hx rfl (hb hby dF_79) ?_
    exact oK
  obtain ⟨T32, X32, e32, st32⟩ := getS2 X31 hx hZ hown (host := "") (Or.inl (own_at hw 8 rfl)) Via.refl e31 (SB.ext (f106).2) (g := (mkF m 80 (own_L6 ar i1 b1 (7 : Int32) (179 : Int32) (i1 + (2 : Int32)) (51 : Int32) ((XT.ushrL q2 (51 : Int32)) ||| (q3 <<< ((13 : Int32).toInt64 &&& 63)))) [(.long (1 : Int64)), (.long ((XT.ushrL q2 (51 : Int32)) ||| (q3 <<< ((13 : Int32).toInt64 &&& 63)))), (.int (7 : Int32)), (.ref b1)])) rfl (hb hby dF_80)
  refine OG.of st32 ?_
  show OG _ _ _ _ _ _ _ (T32.setTop (mkF m 83 (own_L6 ar i1 b1 (7 : Int32) (179 : Int32) (i1 + (2 : Int32)) (51 : Int32) ((XT.ushrL q2 (51 : Int32)) ||| (q3 <<< ((13 : Int32).toInt64 &&& 63)))) [(.ref wB), (.long (1 : Int64)), (.long ((XT.ushrL q2 (51 : Int32)) ||| (q3 <<< ((13 : Int32).toInt64 &&& 63)))), (.int (7 : Int32)), (.ref b1)]))
  refine OG.of (A := T32.setTop (mkF m 84 (own_L6 ar i1 b1 (7 : Int32) (179 : Int32) (i1 + (2 : Int32)) (51 : Int32) ((XT.ushrL q2 (51 : Int32)) ||| (q3 <<< ((13 : Int32).toInt64 &&& 63)))) [(.int (7 : Int32)), (.ref wB), (.long (1 : Int64)), (.long ((XT.ushrL q2 (51 : Int32)) ||| (q3 <<< ((13 : Int32).toInt64 &&& 63)))), (.int (7 : Int32)), (.ref b1)])) (fun oT oK => ?_) ?_
  · skip
    refine XS.iloadN X32.here hx rfl (hb hby dF_83) rfl  ?_
    exact oK
  have cf111 := ((TB 7 (by decide)).ext (f106).2)
  obtain ⟨clf111, Arf111, If111, Hf111⟩ := cf111
  refine OG.of (X32.iaload hx (j := (7 : Int32)) (v := (.int (25 : Int32))) (by rw [e32]; exact Arf111.1) (State.isArrayOf_alike hZ.alike Arf111.2.1) Arf111.2.2 If111 Hf111 (g := (mkF m 84 (own_L6 ar i1 b1 (7 : Int32) (179 : Int32) (i1 + (2 : Int32)) (51 : Int32) ((XT.ushrL q2 (51 : Int32)) ||| (q3 <<< ((13 : Int32).toInt64 &&& 63)))) [(.int (7 : Int32)), (.ref wB), (.long (1 : Int64)), (.long ((XT.ushrL q2 (51 : Int32)) ||| (q3 <<< ((13 : Int32).toInt64 &&& 63)))), (.int (7 : Int32)), (.ref b1)])) rfl rfl (hb hby dF_84)) ?_
  show OG _ _ _ _ _ _ _ (T32.setTop (mkF m 85 (own_L6 ar i1 b1 (7 : Int32) (179 : Int32) (i1 + (2 : Int32)) (51 : Int32) ((XT.ushrL q2 (51 : Int32)) ||| (q3 <<< ((13 : Int32).toInt64 &&& 63)))) [(.int (25 : Int32)), (.long (1 : Int64)), (.long ((XT.ushrL q2 (51 : Int32)) ||| (q3 <<< ((13 : Int32).toInt64 &&& 63)))), (.int (7 : Int32)), (.ref b1)]))
  refine OG.of (A := T32.setTop (mkF m 89 (own_L6 ar i1 b1 (7 : Int32) (179 : Int32) (i1 + (2 : Int32)) (51 : Int32) ((XT.ushrL q2 (51 : Int32)) ||| (q3 <<< ((13 : Int32).toInt64 &&& 63)))) [(.long (((XT.ushrL q2 (51 : Int32)) ||| (q3 <<< ((13 : Int32).toInt64 &&& 63))) &&& (((1 : Int64) <<< ((25 : Int32).toInt64 &&& 63)) - (1 : Int64)))), (.int (7 : Int32)), (.ref b1)])) (fun oT oK => ?_) ?_
  · skip
    refine XT.lshl X32.here hx rfl (hb hby dF_85) rfl ?_
    show Steps p.tables e below (T32.setTop (mkF m 86 (own_L6 ar i1 b1 (7 : Int32) (179 : Int32) (i1 + (2 : Int32)) (51 : Int32) ((XT.ushrL q2 (51 : Int32)) ||| (q3 <<< ((13 : Int32).toInt64 &&& 63)))) [(.long ((1 : Int64) <<< ((25 : Int32).toInt64 &&& 63))), (.long ((XT.ushrL q2 (51 : Int32)) ||| (q3 <<< ((13 : Int32).toInt64 &&& 63)))), (.int (7 : Int32)), (.ref b1)])) _
    refine XT.lconst X32.here hx rfl (hb hby dF_86) ?_
    refine XT.lsub X32.here hx rfl (hb hby dF_87) rfl ?_
    show Steps p.tables e below (T32.setTop (mkF m 88 (own_L6 ar i1 b1 (7 : Int32) (179 : Int32) (i1 + (2 : Int32)) (51 : Int32) ((XT.ushrL q2 (51 : Int32)) ||| (q3 <<< ((13 : Int32).toInt64 &&& 63)))) [(.long (((1 : Int64) <<< ((25 : Int32).toInt64 &&& 63)) - (1 : Int64))), (.long ((XT.ushrL q2 (51 : Int32)) ||| (q3 <<< ((13 : Int32).toInt64 &&& 63)))), (.int (7 : Int32)), (.ref b1)])) _
    refine XT.land X32.here hx rfl (hb hby dF_88) rfl ?_
    exact oK
  show OG _ _ _ _ _ _ _ (T32.setTop (mkF m 89 (own_L6 ar i1 b1 (7 : Int32) (179 : Int32) (i1 + (2 : Int32)) (51 : Int32) ((XT.ushrL q2 (51 : Int32)) ||| (q3 <<< ((13 : Int32).toInt64 &&& 63)))) [(.long (own_l7 q0 q1 q2 q3)), (.int (7 : Int32)), (.ref b1)]))
  have cf112 := V29
  obtain ⟨clf112, Arf112, qf112, Sf112, Mf112, Hf112, Gf112⟩ := cf112
  obtain ⟨T33, h33, X33, e33, W33, st33⟩ := stJ X32 hx hZ e32 Arf112 (j := (7 : Int32)) (inb_of Sf112 ⟨by decide, by decide⟩) (g := (mkF m 89 (own_L6 ar i1 b1 (7 : Int32) (179 : Int32) (i1 + (2 : Int32)) (51 : Int32) ((XT.ushrL q2 (51 : Int32)) ||| (q3 <<< ((13 : Int32).toInt64 &&& 63)))) [(.long (own_l7 q0 q1 q2 q3)), (.int (7 : Int32)), (.ref b1)])) rfl rfl (hb hby dF_89)
  have f113 := (f98).other W33 ne_ar_b1
  have f114 := (f99).other W33 ne_ar_b1
  have f115 := (f100).other W33 ne_ar_b1
  have f116 := (f101).other W33 ne_ar_b1
  have f117 := (f102).other W33 ne_ar_b1
  have f118 := (f103).other W33 ne_ar_b1
  have f119 := (f104).wr W33
  have V33 : Arv Z h33 b1 kc1 .long (10 : Int32) [(.long (own_l0 q0 q1 q2 q3)), (.long (own_l1 q0 q1 q2 q3)), (.long (own_l2 q0 q1 q2 q3)), (.long (own_l3 q0 q1 q2 q3)), (.long (own_l4 q0 q1 q2 q3)), (.long (own_l5 q0 q1 q2 q3)), (.long (own_l6 q0 q1 q2 q3)), (.long (own_l7 q0 q1 q2 q3)), (.long (0 : Int64)), (.long (0 : Int64))] (.long (0 : Int64)) := Arv.set Arf112 qf112 Sf112 Mf112 Hf112 Gf112 rfl W33 7 rfl (Nat.le_of_ble_eq_true rfl)
  have f121 := (f106).wr W33 gn_b1
  have K33 : Keep h0 h33 [] := (K29).wr W33 (Or.inr sz_b1)
  have Z33 : n0 ≤ h33.size := Nat.le_trans Z29 (Keep.of_wr W33).1
  have N33 := Fr.snoc X33 N29 gn_b1
  refine OG.of st33 ?_
  show OG _ _ _ _ _ _ _ (T33.setTop (mkF m 90 (own_L6 ar i1 b1 (7 : Int32) (179 : Int32) (i1 + (2 : Int32)) (51 : Int32) ((XT.ushrL q2 (51 : Int32)) ||| (q3 <<< ((13 : Int32).toInt64 &&& 63)))) []))
  refine OG.of (A := T33.setTop (mkF m 13 (own_L6 ar i1 b1 (8 : Int32) (179 : Int32) (i1 + (2 : Int32)) (51 : Int32) ((XT.ushrL q2 (51 : Int32)) ||| (q3 <<< ((13 : Int32).toInt64 &&& 63)))) [])) (fun oT oK => ?_) ?_
  · skip
    refine XS.iinc X33.here hx rfl (hb hby dF_90) rfl (l' := (own_L6 ar i1 b1 (8 : Int32) (179 : Int32) (i1 + (2 : Int32)) (51 : Int32) ((XT.ushrL q2 (51 : Int32)) ||| (q3 <<< ((13 : Int32).toInt64 &&& 63))))) rfl ?_
    show Steps p.tables e below (T33.setTop (mkF m 93 (own_L6 ar i1 b1 (8 : Int32) (179 : Int32) (i1 + (2 : Int32)) (51 : Int32) ((XT.ushrL q2 (51 : Int32)) ||| (q3 <<< ((13 : Int32).toInt64 &&& 63)))) [])) _
    refine XS.goto X33.here hx rfl (pc0 := 93) (pc' := 7) rfl (hb hby dF_93) (by decide) (by decide) ?_
    refine XS.iloadN X33.here hx rfl (hb hby dF_7) rfl  ?_
    show Steps p.tables e below (T33.setTop (mkF m 8 (own_L6 ar i1 b1 (8 : Int32) (179 : Int32) (i1 + (2 : Int32)) (51 : Int32) ((XT.ushrL q2 (51 : Int32)) ||| (q3 <<< ((13 : Int32).toInt64 &&& 63)))) [(.int (8 : Int32))])) _
    refine XS.bipush X33.here hx rfl (hb hby dF_8) ?_
    show Steps p.tables e below (T33.setTop (mkF m 10 (own_L6 ar i1 b1 (8 : Int32) (179 : Int32) (i1 + (2 : Int32)) (51 : Int32) ((XT.ushrL q2 (51 : Int32)) ||| (q3 <<< ((13 : Int32).toInt64 &&& 63)))) [(.int (10 : Int32)), (.int (8 : Int32))])) _
    refine XS.icmpNo X33.here hx rfl (hb hby dF_10) rfl (XT.ii_ge_f (by decide)) ?_
    exact oK
  obtain ⟨T34, X34, e34, st34⟩ := getS2 X33 hx hZ hown (host := "") (Or.inl (own_at hw 6 rfl)) Via.refl e33 (SP.ext (f121).2) (g := (mkF m 13 (own_L6 ar i1 b1 (8 : Int32) (179 : Int32) (i1 + (2 : Int32)) (51 : Int32) ((XT.ushrL q2 (51 : Int32)) ||| (q3 <<< ((13 : Int32).toInt64 &&& 63)))) [])) rfl (hb hby dF_13)
  refine OG.of st34 ?_
  show OG _ _ _ _ _ _ _ (T34.setTop (mkF m 16 (own_L6 ar i1 b1 (8 : Int32) (179 : Int32) (i1 + (2 : Int32)) (51 : Int32) ((XT.ushrL q2 (51 : Int32)) ||| (q3 <<< ((13 : Int32).toInt64 &&& 63)))) [(.ref wP)]))
  refine OG.of (A := T34.setTop (mkF m 17 (own_L6 ar i1 b1 (8 : Int32) (179 : Int32) (i1 + (2 : Int32)) (51 : Int32) ((XT.ushrL q2 (51 : Int32)) ||| (q3 <<< ((13 : Int32).toInt64 &&& 63)))) [(.int (8 : Int32)), (.ref wP)])) (fun oT oK => ?_) ?_
  · skip
    refine XS.iloadN X34.here hx rfl (hb hby dF_16) rfl  ?_
    exact oK
  have cf122 := ((TP 8 (by decide)).ext (f121).2)
  obtain ⟨clf122, Arf122, If122, Hf122⟩ := cf122
  refine OG.of (X34.iaload hx (j := (8 : Int32)) (v := (.int (204 : Int32))) (by rw [e34]; exact Arf122.1) (State.isArrayOf_alike hZ.alike Arf122.2.1) Arf122.2.2 If122 Hf122 (g := (mkF m 17 (own_L6 ar i1 b1 (8 : Int32) (179 : Int32) (i1 + (2 : Int32)) (51 : Int32) ((XT.ushrL q2 (51 : Int32)) ||| (q3 <<< ((13 : Int32).toInt64 &&& 63)))) [(.int (8 : Int32)), (.ref wP)])) rfl rfl (hb hby dF_17)) ?_
  show OG _ _ _ _ _ _ _ (T34.setTop (mkF m 18 (own_L6 ar i1 b1 (8 : Int32) (179 : Int32) (i1 + (2 : Int32)) (51 : Int32) ((XT.ushrL q2 (51 : Int32)) ||| (q3 <<< ((13 : Int32).toInt64 &&& 63)))) [(.int (204 : Int32))]))
  refine OG.of (A := T34.setTop (mkF m 39 (own_L6 ar i1 b1 (8 : Int32) (204 : Int32) (i1 + (3 : Int32)) (12 : Int32) ((XT.ushrL q2 (51 : Int32)) ||| (q3 <<< ((13 : Int32).toInt64 &&& 63)))) [(.int (i1 + (3 : Int32))), (.ref ar)])) (fun oT oK => ?_) ?_
  · skip
    refine XS.istore X34.here hx rfl (hb hby dF_18) rfl (l' := (own_L6 ar i1 b1 (8 : Int32) (204 : Int32) (i1 + (2 : Int32)) (51 : Int32) ((XT.ushrL q2 (51 : Int32)) ||| (q3 <<< ((13 : Int32).toInt64 &&& 63))))) rfl ?_
    show Steps p.tables e below (T34.setTop (mkF m 20 (own_L6 ar i1 b1 (8 : Int32) (204 : Int32) (i1 + (2 : Int32)) (51 : Int32) ((XT.ushrL q2 (51 : Int32)) ||| (q3 <<< ((13 : Int32).toInt64 &&& 63)))) [])) _
    refine XS.iloadN X34.here hx rfl (hb hby dF_20) rfl  ?_
    refine XS.iload X34.here hx rfl (hb hby dF_21) rfl  ?_
    show Steps p.tables e below (T34.setTop (mkF m 23 (own_L6 ar i1 b1 (8 : Int32) (204 : Int32) (i1 + (2 : Int32)) (51 : Int32) ((XT.ushrL q2 (51 : Int32)) ||| (q3 <<< ((13 : Int32).toInt64 &&& 63)))) [(.int (204 : Int32)), (.int i1)])) _
    refine XS.bipush X34.here hx rfl (hb hby dF_23) ?_
    refine XS.idiv X34.here hx rfl (hb hby dF_25) rfl (by decide) ?_
    show Steps p.tables e below (T34.setTop (mkF m 26 (own_L6 ar i1 b1 (8 : Int32) (204 : Int32) (i1 + (2 : Int32)) (51 : Int32) ((XT.ushrL q2 (51 : Int32)) ||| (q3 <<< ((13 : Int32).toInt64 &&& 63)))) [(.int (3 : Int32)), (.int i1)])) _
    refine XS.iadd X34.here hx rfl (hb hby dF_26) rfl ?_
    refine XS.istore X34.here hx rfl (hb hby dF_27) rfl (l' := (own_L6 ar i1 b1 (8 : Int32) (204 : Int32) (i1 + (3 : Int32)) (51 : Int32) ((XT.ushrL q2 (51 : Int32)) ||| (q3 <<< ((13 : Int32).toInt64 &&& 63))))) rfl ?_
    show Steps p.tables e below (T34.setTop (mkF m 29 (own_L6 ar i1 b1 (8 : Int32) (204 : Int32) (i1 + (3 : Int32)) (51 : Int32) ((XT.ushrL q2 (51 : Int32)) ||| (q3 <<< ((13 : Int32).toInt64 &&& 63)))) [])) _
    refine XS.iload X34.here hx rfl (hb hby dF_29) rfl  ?_
    refine XS.bipush X34.here hx rfl (hb hby dF_31) ?_
    show Steps p.tables e below (T34.setTop (mkF m 33 (own_L6 ar i1 b1 (8 : Int32) (204 : Int32) (i1 + (3 : Int32)) (51 : Int32) ((XT.ushrL q2 (51 : Int32)) ||| (q3 <<< ((13 : Int32).toInt64 &&& 63)))) [(.int (64 : Int32)), (.int (204 : Int32))])) _
    refine Jvm.RoadKit.iremM X34 hx rfl (hb hby dF_33) rfl (by decide) ?_
    refine XS.istore X34.here hx rfl (hb hby dF_34) rfl (l' := (own_L6 ar i1 b1 (8 : Int32) (204 : Int32) (i1 + (3 : Int32)) (12 : Int32) ((XT.ushrL q2 (51 : Int32)) ||| (q3 <<< ((13 : Int32).toInt64 &&& 63))))) rfl ?_
    show Steps p.tables e below (T34.setTop (mkF m 36 (own_L6 ar i1 b1 (8 : Int32) (204 : Int32) (i1 + (3 : Int32)) (12 : Int32) ((XT.ushrL q2 (51 : Int32)) ||| (q3 <<< ((13 : Int32).toInt64 &&& 63)))) [])) _
    refine XS.aloadN X34.here hx rfl (hb hby dF_36) rfl rfl  ?_
    refine XS.iload X34.here hx rfl (hb hby dF_37) rfl  ?_
    exact oK
  have cf123 := f116
  obtain ⟨clf123, Arf123, If123, Hf123⟩ := cf123
  refine OG.of (X34.laload hx (j := (i1 + (3 : Int32))) (v := (.long q3)) (by rw [e34]; exact Arf123.1) (State.isArrayOf_alike hZ.alike Arf123.2.1) Arf123.2.2 If123 Hf123 (g := (mkF m 39 (own_L6 ar i1 b1 (8 : Int32) (204 : Int32) (i1 + (3 : Int32)) (12 : Int32) ((XT.ushrL q2 (51 : Int32)) ||| (q3 <<< ((13 : Int32).toInt64 &&& 63)))) [(.int (i1 + (3 : Int32))), (.ref ar)])) rfl rfl (hb hby dF_39)) ?_
  show OG _ _ _ _ _ _ _ (T34.setTop (mkF m 40 (own_L6 ar i1 b1 (8 : Int32) (204 : Int32) (i1 + (3 : Int32)) (12 : Int32) ((XT.ushrL q2 (51 : Int32)) ||| (q3 <<< ((13 : Int32).toInt64 &&& 63)))) [(.long q3)]))
  refine OG.of (A := T34.setTop (mkF m 47 (own_L6 ar i1 b1 (8 : Int32) (204 : Int32) (i1 + (3 : Int32)) (12 : Int32) (XT.ushrL q3 (12 : Int32))) [(.int (12 : Int32))])) (fun oT oK => ?_) ?_
  · skip
    refine XS.iload X34.here hx rfl (hb hby dF_40) rfl  ?_
    show Steps p.tables e below (T34.setTop (mkF m 42 (own_L6 ar i1 b1 (8 : Int32) (204 : Int32) (i1 + (3 : Int32)) (12 : Int32) ((XT.ushrL q2 (51 : Int32)) ||| (q3 <<< ((13 : Int32).toInt64 &&& 63)))) [(.int (12 : Int32)), (.long q3)])) _
    refine XT.lushr X34.here hx rfl (hb hby dF_42) rfl ?_
    refine XT.lstore X34.here hx rfl (hb hby dF_43) rfl (l' := (own_L6 ar i1 b1 (8 : Int32) (204 : Int32) (i1 + (3 : Int32)) (12 : Int32) (XT.ushrL q3 (12 : Int32)))) rfl ?_
    show Steps p.tables e below (T34.setTop (mkF m 45 (own_L6 ar i1 b1 (8 : Int32) (204 : Int32) (i1 + (3 : Int32)) (12 : Int32) (XT.ushrL q3 (12 : Int32))) [])) _
    refine XS.iload X34.here hx rfl (hb hby dF_45) rfl  ?_
    exact oK
  obtain ⟨T35, X35, e35, st35⟩ := getS2 X34 hx hZ hown (host := "") (Or.inl (own_at hw 8 rfl)) Via.refl e34 (SB.ext (f121).2) (g := (mkF m 47 (own_L6 ar i1 b1 (8 : Int32) (204 : Int32) (i1 + (3 : Int32)) (12 : Int32) (XT.ushrL q3 (12 : Int32))) [(.int (12 : Int32))])) rfl (hb hby dF_47)
  refine OG.of st35 ?_
  show OG _ _ _ _ _ _ _ (T35.setTop (mkF m 50 (own_L6 ar i1 b1 (8 : Int32) (204 : Int32) (i1 + (3 : Int32)) (12 : Int32) (XT.ushrL q3 (12 : Int32))) [(.ref wB), (.int (12 : Int32))]))
  refine OG.of (A := T35.setTop (mkF m 51 (own_L6 ar i1 b1 (8 : Int32) (204 : Int32) (i1 + (3 : Int32)) (12 : Int32) (XT.ushrL q3 (12 : Int32))) [(.int (8 : Int32)), (.ref wB), (.int (12 : Int32))])) (fun oT oK => ?_) ?_
  · skip
    refine XS.iloadN X35.here hx rfl (hb hby dF_50) rfl  ?_
    exact oK
  have cf124 := ((TB 8 (by decide)).ext (f121).2)
  obtain ⟨clf124, Arf124, If124, Hf124⟩ := cf124
  refine OG.of (X35.iaload hx (j := (8 : Int32)) (v := (.int (26 : Int32))) (by rw [e35]; exact Arf124.1) (State.isArrayOf_alike hZ.alike Arf124.2.1) Arf124.2.2 If124 Hf124 (g := (mkF m 51 (own_L6 ar i1 b1 (8 : Int32) (204 : Int32) (i1 + (3 : Int32)) (12 : Int32) (XT.ushrL q3 (12 : Int32))) [(.int (8 : Int32)), (.ref wB), (.int (12 : Int32))])) rfl rfl (hb hby dF_51)) ?_
  show OG _ _ _ _ _ _ _ (T35.setTop (mkF m 52 (own_L6 ar i1 b1 (8 : Int32) (204 : Int32) (i1 + (3 : Int32)) (12 : Int32) (XT.ushrL q3 (12 : Int32))) [(.int (26 : Int32)), (.int (12 : Int32))]))
  refine OG.of (A := T35.setTop (mkF m 80 (own_L6 ar i1 b1 (8 : Int32) (204 : Int32) (i1 + (3 : Int32)) (12 : Int32) (XT.ushrL q3 (12 : Int32))) [(.long (1 : Int64)), (.long (XT.ushrL q3 (12 : Int32))), (.int (8 : Int32)), (.ref b1)])) (fun oT oK => ?_) ?_
  · skip
    refine XS.iadd X35.here hx rfl (hb hby dF_52) rfl ?_
    show Steps p.tables e below (T35.setTop (mkF m 53 (own_L6 ar i1 b1 (8 : Int32) (204 : Int32) (i1 + (3 : Int32)) (12 : Int32) (XT.ushrL q3 (12 : Int32))) [(.int (38 : Int32))])) _
    refine XS.bipush X35.here hx rfl (hb hby dF_53) ?_
    show Steps p.tables e below (T35.setTop (mkF m 55 (own_L6 ar i1 b1 (8 : Int32) (204 : Int32) (i1 + (3 : Int32)) (12 : Int32) (XT.ushrL q3 (12 : Int32))) [(.int (64 : Int32)), (.int (38 : Int32))])) _
    refine XS.icmpYes X35.here hx rfl (pc0 := 55) (pc' := 75) rfl (hb hby dF_55) rfl (XT.ii_le_t (by decide)) (by decide) (by decide) ?_
    show Steps p.tables e below (T35.setTop (mkF m 75 (own_L6 ar i1 b1 (8 : Int32) (204 : Int32) (i1 + (3 : Int32)) (12 : Int32) (XT.ushrL q3 (12 : Int32))) [])) _
    refine XS.aloadN X35.here hx rfl (hb hby dF_75) rfl rfl  ?_
    refine XS.iloadN X35.here hx rfl (hb hby dF_76) rfl  ?_
    show Steps p.tables e below (T35.setTop (mkF m 77 (own_L6 ar i1 b1 (8 : Int32) (204 : Int32) (i1 + (3 : Int32)) (12 : Int32) (XT.ushrL q3 (12 : Int32))) [(.int (8 : Int32)), (.ref b1)])) _
    refine XT.lload X35.here hx rfl (hb hby dF_77) rfl  ?_
    refine XT.lconst X35.here hx rfl (hb hby dF_79) ?_
    exact oK
  obtain ⟨T36, X36, e36, st36⟩ := getS2 X35 hx hZ hown (host := "") (Or.inl (own_at hw 8 rfl)) Via.refl e35 (SB.ext (f121).2) (g := (mkF m 80 (own_L6 ar i1 b1 (8 : Int32) (204 : Int32) (i1 + (3 : Int32)) (12 : Int32) (XT.ushrL q3 (12 : Int32))) [(.long (1 : Int64)), (.long (XT.ushrL q3 (12 : Int32))), (.int (8 : Int32)), (.ref b1)])) rfl (hb hby dF_80)
  refine OG.of st36 ?_
  show OG _ _ _ _ _ _ _ (T36.setTop (mkF m 83 (own_L6 ar i1 b1 (8 : Int32) (204 : Int32) (i1 + (3 : Int32)) (12 : Int32) (XT.ushrL q3 (12 : Int32))) [(.ref wB), (.long (1 : Int64)), (.long (XT.ushrL q3 (12 : Int32))), (.int (8 : Int32)), (.ref b1)]))
  refine OG.of (A := T36.setTop (mkF m 84 (own_L6 ar i1 b1 (8 : Int32) (204 : Int32) (i1 + (3 : Int32)) (12 : Int32) (XT.ushrL q3 (12 : Int32))) [(.int (8 : Int32)), (.ref wB), (.long (1 : Int64)), (.long (XT.ushrL q3 (12 : Int32))), (.int (8 : Int32)), (.ref b1)])) (fun oT oK => ?_) ?_
  · skip
    refine XS.iloadN X36.here hx rfl (hb hby dF_83) rfl  ?_
    exact oK
  have cf125 := ((TB 8 (by decide)).ext (f121).2)
  obtain ⟨clf125, Arf125, If125, Hf125⟩ := cf125
  refine OG.of (X36.iaload hx (j := (8 : Int32)) (v := (.int (26 : Int32))) (by rw [e36]; exact Arf125.1) (State.isArrayOf_alike hZ.alike Arf125.2.1) Arf125.2.2 If125 Hf125 (g := (mkF m 84 (own_L6 ar i1 b1 (8 : Int32) (204 : Int32) (i1 + (3 : Int32)) (12 : Int32) (XT.ushrL q3 (12 : Int32))) [(.int (8 : Int32)), (.ref wB), (.long (1 : Int64)), (.long (XT.ushrL q3 (12 : Int32))), (.int (8 : Int32)), (.ref b1)])) rfl rfl (hb hby dF_84)) ?_
  show OG _ _ _ _ _ _ _ (T36.setTop (mkF m 85 (own_L6 ar i1 b1 (8 : Int32) (204 : Int32) (i1 + (3 : Int32)) (12 : Int32) (XT.ushrL q3 (12 : Int32))) [(.int (26 : Int32)), (.long (1 : Int64)), (.long (XT.ushrL q3 (12 : Int32))), (.int (8 : Int32)), (.ref b1)]))
  refine OG.of (A := T36.setTop (mkF m 89 (own_L6 ar i1 b1 (8 : Int32) (204 : Int32) (i1 + (3 : Int32)) (12 : Int32) (XT.ushrL q3 (12 : Int32))) [(.long ((XT.ushrL q3 (12 : Int32)) &&& (((1 : Int64) <<< ((26 : Int32).toInt64 &&& 63)) - (1 : Int64)))), (.int (8 : Int32)), (.ref b1)])) (fun oT oK => ?_) ?_
  · skip
    refine XT.lshl X36.here hx rfl (hb hby dF_85) rfl ?_
    show Steps p.tables e below (T36.setTop (mkF m 86 (own_L6 ar i1 b1 (8 : Int32) (204 : Int32) (i1 + (3 : Int32)) (12 : Int32) (XT.ushrL q3 (12 : Int32))) [(.long ((1 : Int64) <<< ((26 : Int32).toInt64 &&& 63))), (.long (XT.ushrL q3 (12 : Int32))), (.int (8 : Int32)), (.ref b1)])) _
    refine XT.lconst X36.here hx rfl (hb hby dF_86) ?_
    refine XT.lsub X36.here hx rfl (hb hby dF_87) rfl ?_
    show Steps p.tables e below (T36.setTop (mkF m 88 (own_L6 ar i1 b1 (8 : Int32) (204 : Int32) (i1 + (3 : Int32)) (12 : Int32) (XT.ushrL q3 (12 : Int32))) [(.long (((1 : Int64) <<< ((26 : Int32).toInt64 &&& 63)) - (1 : Int64))), (.long (XT.ushrL q3 (12 : Int32))), (.int (8 : Int32)), (.ref b1)])) _
    refine XT.land X36.here hx rfl (hb hby dF_88) rfl ?_
    exact oK
  show OG _ _ _ _ _ _ _ (T36.setTop (mkF m 89 (own_L6 ar i1 b1 (8 : Int32) (204 : Int32) (i1 + (3 : Int32)) (12 : Int32) (XT.ushrL q3 (12 : Int32))) [(.long (own_l8 q0 q1 q2 q3)), (.int (8 : Int32)), (.ref b1)]))
  have cf126 := V33
  obtain ⟨clf126, Arf126, qf126, Sf126, Mf126, Hf126, Gf126⟩ := cf126
  obtain ⟨T37, h37, X37, e37, W37, st37⟩ := stJ X36 hx hZ e36 Arf126 (j := (8 : Int32)) (inb_of Sf126 ⟨by decide, by decide⟩) (g := (mkF m 89 (own_L6 ar i1 b1 (8 : Int32) (204 : Int32) (i1 + (3 : Int32)) (12 : Int32) (XT.ushrL q3 (12 : Int32))) [(.long (own_l8 q0 q1 q2 q3)), (.int (8 : Int32)), (.ref b1)])) rfl rfl (hb hby dF_89)
  have f127 := (f113).other W37 ne_ar_b1
  have f128 := (f114).other W37 ne_ar_b1
  have f129 := (f115).other W37 ne_ar_b1
  have f130 := (f116).other W37 ne_ar_b1
  have f131 := (f117).other W37 ne_ar_b1
  have f132 := (f118).other W37 ne_ar_b1
  have f133 := (f119).wr W37
  have V37 : Arv Z h37 b1 kc1 .long (10 : Int32) [(.long (own_l0 q0 q1 q2 q3)), (.long (own_l1 q0 q1 q2 q3)), (.long (own_l2 q0 q1 q2 q3)), (.long (own_l3 q0 q1 q2 q3)), (.long (own_l4 q0 q1 q2 q3)), (.long (own_l5 q0 q1 q2 q3)), (.long (own_l6 q0 q1 q2 q3)), (.long (own_l7 q0 q1 q2 q3)), (.long (own_l8 q0 q1 q2 q3)), (.long (0 : Int64))] (.long (0 : Int64)) := Arv.set Arf126 qf126 Sf126 Mf126 Hf126 Gf126 rfl W37 8 rfl (Nat.le_of_ble_eq_true rfl)
  have f135 := (f121).wr W37 gn_b1
  have K37 : Keep h0 h37 [] := (K33).wr W37 (Or.inr sz_b1)
  have Z37 : n0 ≤ h37.size := Nat.le_trans Z33 (Keep.of_wr W37).1
  have N37 := Fr.snoc X37 N33 gn_b1
  refine OG.of st37 ?_
  show OG _ _ _ _ _ _ _ (T37.setTop (mkF m 90 (own_L6 ar i1 b1 (8 : Int32) (204 : Int32) (i1 + (3 : Int32)) (12 : Int32) (XT.ushrL q3 (12 : Int32))) []))
  refine OG.of (A := T37.setTop (mkF m 13 (own_L6 ar i1 b1 (9 : Int32) (204 : Int32) (i1 + (3 : Int32)) (12 : Int32) (XT.ushrL q3 (12 : Int32))) [])) (fun oT oK => ?_) ?_
  · skip
    refine XS.iinc X37.here hx rfl (hb hby dF_90) rfl (l' := (own_L6 ar i1 b1 (9 : Int32) (204 : Int32) (i1 + (3 : Int32)) (12 : Int32) (XT.ushrL q3 (12 : Int32)))) rfl ?_
    show Steps p.tables e below (T37.setTop (mkF m 93 (own_L6 ar i1 b1 (9 : Int32) (204 : Int32) (i1 + (3 : Int32)) (12 : Int32) (XT.ushrL q3 (12 : Int32))) [])) _
    refine XS.goto X37.here hx rfl (pc0 := 93) (pc' := 7) rfl (hb hby dF_93) (by decide) (by decide) ?_
    refine XS.iloadN X37.here hx rfl (hb hby dF_7) rfl  ?_
    show Steps p.tables e below (T37.setTop (mkF m 8 (own_L6 ar i1 b1 (9 : Int32) (204 : Int32) (i1 + (3 : Int32)) (12 : Int32) (XT.ushrL q3 (12 : Int32))) [(.int (9 : Int32))])) _
    refine XS.bipush X37.here hx rfl (hb hby dF_8) ?_
    show Steps p.tables e below (T37.setTop (mkF m 10 (own_L6 ar i1 b1 (9 : Int32) (204 : Int32) (i1 + (3 : Int32)) (12 : Int32) (XT.ushrL q3 (12 : Int32))) [(.int (10 : Int32)), (.int (9 : Int32))])) _
    refine XS.icmpNo X37.here hx rfl (hb hby dF_10) rfl (XT.ii_ge_f (by decide)) ?_
    exact oK
  obtain ⟨T38, X38, e38, st38⟩ := getS2 X37 hx hZ hown (host := "") (Or.inl (own_at hw 6 rfl)) Via.refl e37 (SP.ext (f135).2) (g := (mkF m 13 (own_L6 ar i1 b1 (9 : Int32) (204 : Int32) (i1 + (3 : Int32)) (12 : Int32) (XT.ushrL q3 (12 : Int32))) [])) rfl (hb hby dF_13)
  refine OG.of st38 ?_
  show OG _ _ _ _ _ _ _ (T38.setTop (mkF m 16 (own_L6 ar i1 b1 (9 : Int32) (204 : Int32) (i1 + (3 : Int32)) (12 : Int32) (XT.ushrL q3 (12 : Int32))) [(.ref wP)]))
  refine OG.of (A := T38.setTop (mkF m 17 (own_L6 ar i1 b1 (9 : Int32) (204 : Int32) (i1 + (3 : Int32)) (12 : Int32) (XT.ushrL q3 (12 : Int32))) [(.int (9 : Int32)), (.ref wP)])) (fun oT oK => ?_) ?_
  · skip
    refine XS.iloadN X38.here hx rfl (hb hby dF_16) rfl  ?_
    exact oK
  have cf136 := ((TP 9 (by decide)).ext (f135).2)
  obtain ⟨clf136, Arf136, If136, Hf136⟩ := cf136
  refine OG.of (X38.iaload hx (j := (9 : Int32)) (v := (.int (230 : Int32))) (by rw [e38]; exact Arf136.1) (State.isArrayOf_alike hZ.alike Arf136.2.1) Arf136.2.2 If136 Hf136 (g := (mkF m 17 (own_L6 ar i1 b1 (9 : Int32) (204 : Int32) (i1 + (3 : Int32)) (12 : Int32) (XT.ushrL q3 (12 : Int32))) [(.int (9 : Int32)), (.ref wP)])) rfl rfl (hb hby dF_17)) ?_
  show OG _ _ _ _ _ _ _ (T38.setTop (mkF m 18 (own_L6 ar i1 b1 (9 : Int32) (204 : Int32) (i1 + (3 : Int32)) (12 : Int32) (XT.ushrL q3 (12 : Int32))) [(.int (230 : Int32))]))
  refine OG.of (A := T38.setTop (mkF m 39 (own_L6 ar i1 b1 (9 : Int32) (230 : Int32) (i1 + (3 : Int32)) (38 : Int32) (XT.ushrL q3 (12 : Int32))) [(.int (i1 + (3 : Int32))), (.ref ar)])) (fun oT oK => ?_) ?_
  · skip
    refine XS.istore X38.here hx rfl (hb hby dF_18) rfl (l' := (own_L6 ar i1 b1 (9 : Int32) (230 : Int32) (i1 + (3 : Int32)) (12 : Int32) (XT.ushrL q3 (12 : Int32)))) rfl ?_
    show Steps p.tables e below (T38.setTop (mkF m 20 (own_L6 ar i1 b1 (9 : Int32) (230 : Int32) (i1 + (3 : Int32)) (12 : Int32) (XT.ushrL q3 (12 : Int32))) [])) _
    refine XS.iloadN X38.here hx rfl (hb hby dF_20) rfl  ?_
    refine XS.iload X38.here hx rfl (hb hby dF_21) rfl  ?_
    show Steps p.tables e below (T38.setTop (mkF m 23 (own_L6 ar i1 b1 (9 : Int32) (230 : Int32) (i1 + (3 : Int32)) (12 : Int32) (XT.ushrL q3 (12 : Int32))) [(.int (230 : Int32)), (.int i1)])) _
    refine XS.bipush X38.here hx rfl (hb hby dF_23) ?_
    refine XS.idiv X38.here hx rfl (hb hby dF_25) rfl (by decide) ?_
    show Steps p.tables e below (T38.setTop (mkF m 26 (own_L6 ar i1 b1 (9 : Int32) (230 : Int32) (i1 + (3 : Int32)) (12 : Int32) (XT.ushrL q3 (12 : Int32))) [(.int (3 : Int32)), (.int i1)])) _
    refine XS.iadd X38.here hx rfl (hb hby dF_26) rfl ?_
    refine XS.istore X38.here hx rfl (hb hby dF_27) rfl (l' := (own_L6 ar i1 b1 (9 : Int32) (230 : Int32) (i1 + (3 : Int32)) (12 : Int32) (XT.ushrL q3 (12 : Int32)))) rfl ?_
    show Steps p.tables e below (T38.setTop (mkF m 29 (own_L6 ar i1 b1 (9 : Int32) (230 : Int32) (i1 + (3 : Int32)) (12 : Int32) (XT.ushrL q3 (12 : Int32))) [])) _
    refine XS.iload X38.here hx rfl (hb hby dF_29) rfl  ?_
    refine XS.bipush X38.here hx rfl (hb hby dF_31) ?_
    show Steps p.tables e below (T38.setTop (mkF m 33 (own_L6 ar i1 b1 (9 : Int32) (230 : Int32) (i1 + (3 : Int32)) (12 : Int32) (XT.ushrL q3 (12 : Int32))) [(.int (64 : Int32)), (.int (230 : Int32))])) _
    refine Jvm.RoadKit.iremM X38 hx rfl (hb hby dF_33) rfl (by decide) ?_
    refine XS.istore X38.here hx rfl (hb hby dF_34) rfl (l' := (own_L6 ar i1 b1 (9 : Int32) (230 : Int32) (i1 + (3 : Int32)) (38 : Int32) (XT.ushrL q3 (12 : Int32)))) rfl ?_
    show Steps p.tables e below (T38.setTop (mkF m 36 (own_L6 ar i1 b1 (9 : Int32) (230 : Int32) (i1 + (3 : Int32)) (38 : Int32) (XT.ushrL q3 (12 : Int32))) [])) _
    refine XS.aloadN X38.here hx rfl (hb hby dF_36) rfl rfl  ?_
    refine XS.iload X38.here hx rfl (hb hby dF_37) rfl  ?_
    exact oK
  have cf137 := f130
  obtain ⟨clf137, Arf137, If137, Hf137⟩ := cf137
  refine OG.of (X38.laload hx (j := (i1 + (3 : Int32))) (v := (.long q3)) (by rw [e38]; exact Arf137.1) (State.isArrayOf_alike hZ.alike Arf137.2.1) Arf137.2.2 If137 Hf137 (g := (mkF m 39 (own_L6 ar i1 b1 (9 : Int32) (230 : Int32) (i1 + (3 : Int32)) (38 : Int32) (XT.ushrL q3 (12 : Int32))) [(.int (i1 + (3 : Int32))), (.ref ar)])) rfl rfl (hb hby dF_39)) ?_
  show OG _ _ _ _ _ _ _ (T38.setTop (mkF m 40 (own_L6 ar i1 b1 (9 : Int32) (230 : Int32) (i1 + (3 : Int32)) (38 : Int32) (XT.ushrL q3 (12 : Int32))) [(.long q3)]))
  refine OG.of (A := T38.setTop (mkF m 47 (own_L6 ar i1 b1 (9 : Int32) (230 : Int32) (i1 + (3 : Int32)) (38 : Int32) (XT.ushrL q3 (38 : Int32))) [(.int (38 : Int32))])) (fun oT oK => ?_) ?_
  · skip
    refine XS.iload X38.here hx rfl (hb hby dF_40) rfl  ?_
    show Steps p.tables e below (T38.setTop (mkF m 42 (own_L6 ar i1 b1 (9 : Int32) (230 : Int32) (i1 + (3 : Int32)) (38 : Int32) (XT.ushrL q3 (12 : Int32))) [(.int (38 : Int32)), (.long q3)])) _
    refine XT.lushr X38.here hx rfl (hb hby dF_42) rfl ?_
    refine XT.lstore X38.here hx rfl (hb hby dF_43) rfl (l' := (own_L6 ar i1 b1 (9 : Int32) (230 : Int32) (i1 + (3 : Int32)) (38 : Int32) (XT.ushrL q3 (38 : Int32)))) rfl ?_
    show Steps p.tables e below (T38.setTop (mkF m 45 (own_L6 ar i1 b1 (9 : Int32) (230 : Int32) (i1 + (3 : Int32)) (38 : Int32) (XT.ushrL q3 (38 : Int32))) [])) _
    refine XS.iload X38.here hx rfl (hb hby dF_45) rfl  ?_
    exact oK
  obtain ⟨T39, X39, e39, st39⟩ := getS2 X38 hx hZ hown (host := "") (Or.inl (own_at hw 8 rfl)) Via.refl e38 (SB.ext (f135).2) (g := (mkF m 47 (own_L6 ar i1 b1 (9 : Int32) (230 : Int32) (i1 + (3 : Int32)) (38 : Int32) (XT.ushrL q3 (38 : Int32))) [(.int (38 : Int32))])) rfl (hb hby dF_47)
  refine OG.of st39 ?_
  show OG _ _ _ _ _ _ _ (T39.setTop (mkF m 50 (own_L6 ar i1 b1 (9 : Int32) (230 : Int32) (i1 + (3 : Int32)) (38 : Int32) (XT.ushrL q3 (38 : Int32))) [(.ref wB), (.int (38 : Int32))]))
  refine OG.of (A := T39.setTop (mkF m 51 (own_L6 ar i1 b1 (9 : Int32) (230 : Int32) (i1 + (3 : Int32)) (38 : Int32) (XT.ushrL q3 (38 : Int32))) [(.int (9 : Int32)), (.ref wB), (.int (38 : Int32))])) (fun oT oK => ?_) ?_
  · skip
    refine XS.iloadN X39.here hx rfl (hb hby dF_50) rfl  ?_
    exact oK
  have cf138 := ((TB 9 (by decide)).ext (f135).2)
  obtain ⟨clf138, Arf138, If138, Hf138⟩ := cf138
  refine OG.of (X39.iaload hx (j := (9 : Int32)) (v := (.int (25 : Int32))) (by rw [e39]; exact Arf138.1) (State.isArrayOf_alike hZ.alike Arf138.2.1) Arf138.2.2 If138 Hf138 (g := (mkF m 51 (own_L6 ar i1 b1 (9 : Int32) (230 : Int32) (i1 + (3 : Int32)) (38 : Int32) (XT.ushrL q3 (38 : Int32))) [(.int (9 : Int32)), (.ref wB), (.int (38 : Int32))])) rfl rfl (hb hby dF_51)) ?_
  show OG _ _ _ _ _ _ _ (T39.setTop (mkF m 52 (own_L6 ar i1 b1 (9 : Int32) (230 : Int32) (i1 + (3 : Int32)) (38 : Int32) (XT.ushrL q3 (38 : Int32))) [(.int (25 : Int32)), (.int (38 : Int32))]))
  refine OG.of (A := T39.setTop (mkF m 80 (own_L6 ar i1 b1 (9 : Int32) (230 : Int32) (i1 + (3 : Int32)) (38 : Int32) (XT.ushrL q3 (38 : Int32))) [(.long (1 : Int64)), (.long (XT.ushrL q3 (38 : Int32))), (.int (9 : Int32)), (.ref b1)])) (fun oT oK => ?_) ?_
  · skip
    refine XS.iadd X39.here hx rfl (hb hby dF_52) rfl ?_
    show Steps p.tables e below (T39.setTop (mkF m 53 (own_L6 ar i1 b1 (9 : Int32) (230 : Int32) (i1 + (3 : Int32)) (38 : Int32) (XT.ushrL q3 (38 : Int32))) [(.int (63 : Int32))])) _
    refine XS.bipush X39.here hx rfl (hb hby dF_53) ?_
    show Steps p.tables e below (T39.setTop (mkF m 55 (own_L6 ar i1 b1 (9 : Int32) (230 : Int32) (i1 + (3 : Int32)) (38 : Int32) (XT.ushrL q3 (38 : Int32))) [(.int (64 : Int32)), (.int (63 : Int32))])) _
    refine XS.icmpYes X39.here hx rfl (pc0 := 55) (pc' := 75) rfl (hb hby dF_55) rfl (XT.ii_le_t (by decide)) (by decide) (by decide) ?_
    show Steps p.tables e below (T39.setTop (mkF m 75 (own_L6 ar i1 b1 (9 : Int32) (230 : Int32) (i1 + (3 : Int32)) (38 : Int32) (XT.ushrL q3 (38 : Int32))) [])) _
    refine XS.aloadN X39.here hx rfl (hb hby dF_75) rfl rfl  ?_
    refine XS.iloadN X39.here hx rfl (hb hby dF_76) rfl  ?_
    show Steps p.tables e below (T39.setTop (mkF m 77 (own_L6 ar i1 b1 (9 : Int32) (230 : Int32) (i1 + (3 : Int32)) (38 : Int32) (XT.ushrL q3 (38 : Int32))) [(.int (9 : Int32)), (.ref b1)])) _
    refine XT.lload X39.here hx rfl (hb hby dF_77) rfl  ?_
    refine XT.lconst X39.here hx rfl (hb hby dF_79) ?_
    exact oK
  obtain ⟨T40, X40, e40, st40⟩ := getS2 X39 hx hZ hown (host := "") (Or.inl (own_at hw 8 rfl)) Via.refl e39 (SB.ext (f135).2) (g := (mkF m 80 (own_L6 ar i1 b1 (9 : Int32) (230 : Int32) (i1 + (3 : Int32)) (38 : Int32) (XT.ushrL q3 (38 : Int32))) [(.long (1 : Int64)), (.long (XT.ushrL q3 (38 : Int32))), (.int (9 : Int32)), (.ref b1)])) rfl (hb hby dF_80)
  refine OG.of st40 ?_
  show OG _ _ _ _ _ _ _ (T40.setTop (mkF m 83 (own_L6 ar i1 b1 (9 : Int32) (230 : Int32) (i1 + (3 : Int32)) (38 : Int32) (XT.ushrL q3 (38 : Int32))) [(.ref wB), (.long (1 : Int64)), (.long (XT.ushrL q3 (38 : Int32))), (.int (9 : Int32)), (.ref b1)]))
  refine OG.of (A := T40.setTop (mkF m 84 (own_L6 ar i1 b1 (9 : Int32) (230 : Int32) (i1 + (3 : Int32)) (38 : Int32) (XT.ushrL q3 (38 : Int32))) [(.int (9 : Int32)), (.ref wB), (.long (1 : Int64)), (.long (XT.ushrL q3 (38 : Int32))), (.int (9 : Int32)), (.ref b1)])) (fun oT oK => ?_) ?_
  · skip
    refine XS.iloadN X40.here hx rfl (hb hby dF_83) rfl  ?_
    exact oK
  have cf139 := ((TB 9 (by decide)).ext (f135).2)
  obtain ⟨clf139, Arf139, If139, Hf139⟩ := cf139
  refine OG.of (X40.iaload hx (j := (9 : Int32)) (v := (.int (25 : Int32))) (by rw [e40]; exact Arf139.1) (State.isArrayOf_alike hZ.alike Arf139.2.1) Arf139.2.2 If139 Hf139 (g := (mkF m 84 (own_L6 ar i1 b1 (9 : Int32) (230 : Int32) (i1 + (3 : Int32)) (38 : Int32) (XT.ushrL q3 (38 : Int32))) [(.int (9 : Int32)), (.ref wB), (.long (1 : Int64)), (.long (XT.ushrL q3 (38 : Int32))), (.int (9 : Int32)), (.ref b1)])) rfl rfl (hb hby dF_84)) ?_
  show OG _ _ _ _ _ _ _ (T40.setTop (mkF m 85 (own_L6 ar i1 b1 (9 : Int32) (230 : Int32) (i1 + (3 : Int32)) (38 : Int32) (XT.ushrL q3 (38 : Int32))) [(.int (25 : Int32)), (.long (1 : Int64)), (.long (XT.ushrL q3 (38 : Int32))), (.int (9 : Int32)), (.ref b1)]))
  refine OG.of (A := T40.setTop (mkF m 89 (own_L6 ar i1 b1 (9 : Int32) (230 : Int32) (i1 + (3 : Int32)) (38 : Int32) (XT.ushrL q3 (38 : Int32))) [(.long ((XT.ushrL q3 (38 : Int32)) &&& (((1 : Int64) <<< ((25 : Int32).toInt64 &&& 63)) - (1 : Int64)))), (.int (9 : Int32)), (.ref b1)])) (fun oT oK => ?_) ?_
  · skip
    refine XT.lshl X40.here hx rfl (hb hby dF_85) rfl ?_
    show Steps p.tables e below (T40.setTop (mkF m 86 (own_L6 ar i1 b1 (9 : Int32) (230 : Int32) (i1 + (3 : Int32)) (38 : Int32) (XT.ushrL q3 (38 : Int32))) [(.long ((1 : Int64) <<< ((25 : Int32).toInt64 &&& 63))), (.long (XT.ushrL q3 (38 : Int32))), (.int (9 : Int32)), (.ref b1)])) _
    refine XT.lconst X40.here hx rfl (hb hby dF_86) ?_
    refine XT.lsub X40.here hx rfl (hb hby dF_87) rfl ?_
    show Steps p.tables e below (T40.setTop (mkF m 88 (own_L6 ar i1 b1 (9 : Int32) (230 : Int32) (i1 + (3 : Int32)) (38 : Int32) (XT.ushrL q3 (38 : Int32))) [(.long (((1 : Int64) <<< ((25 : Int32).toInt64 &&& 63)) - (1 : Int64))), (.long (XT.ushrL q3 (38 : Int32))), (.int (9 : Int32)), (.ref b1)])) _
    refine XT.land X40.here hx rfl (hb hby dF_88) rfl ?_
    exact oK
  show OG _ _ _ _ _ _ _ (T40.setTop (mkF m 89 (own_L6 ar i1 b1 (9 : Int32) (230 : Int32) (i1 + (3 : Int32)) (38 : Int32) (XT.ushrL q3 (38 : Int32))) [(.long (own_l9 q0 q1 q2 q3)), (.int (9 : Int32)), (.ref b1)]))
  have cf140 := V37
  obtain ⟨clf140, Arf140, qf140, Sf140, Mf140, Hf140, Gf140⟩ := cf140
  obtain ⟨T41, h41, X41, e41, W41, st41⟩ := stJ X40 hx hZ e40 Arf140 (j := (9 : Int32)) (inb_of Sf140 ⟨by decide, by decide⟩) (g := (mkF m 89 (own_L6 ar i1 b1 (9 : Int32) (230 : Int32) (i1 + (3 : Int32)) (38 : Int32) (XT.ushrL q3 (38 : Int32))) [(.long (own_l9 q0 q1 q2 q3)), (.int (9 : Int32)), (.ref b1)])) rfl rfl (hb hby dF_89)
  have f141 := (f127).other W41 ne_ar_b1
  have f142 := (f128).other W41 ne_ar_b1
  have f143 := (f129).other W41 ne_ar_b1
  have f144 := (f130).other W41 ne_ar_b1
  have f145 := (f131).other W41 ne_ar_b1
  have f146 := (f132).other W41 ne_ar_b1
  have f147 := (f133).wr W41
  have V41 : Arv Z h41 b1 kc1 .long (10 : Int32) [(.long (own_l0 q0 q1 q2 q3)), (.long (own_l1 q0 q1 q2 q3)), (.long (own_l2 q0 q1 q2 q3)), (.long (own_l3 q0 q1 q2 q3)), (.long (own_l4 q0 q1 q2 q3)), (.long (own_l5 q0 q1 q2 q3)), (.long (own_l6 q0 q1 q2 q3)), (.long (own_l7 q0 q1 q2 q3)), (.long (own_l8 q0 q1 q2 q3)), (.long (own_l9 q0 q1 q2 q3))] (.long (0 : Int64)) := Arv.set Arf140 qf140 Sf140 Mf140 Hf140 Gf140 rfl W41 9 rfl (Nat.le_of_ble_eq_true rfl)
  have f149 := (f135).wr W41 gn_b1
  have K41 : Keep h0 h41 [] := (K37).wr W41 (Or.inr sz_b1)
  have Z41 : n0 ≤ h41.size := Nat.le_trans Z37 (Keep.of_wr W41).1
  have N41 := Fr.snoc X41 N37 gn_b1
  refine OG.of st41 ?_
  show OG _ _ _ _ _ _ _ (T41.setTop (mkF m 90 (own_L6 ar i1 b1 (9 : Int32) (230 : Int32) (i1 + (3 : Int32)) (38 : Int32) (XT.ushrL q3 (38 : Int32))) []))
  refine OG.of (A := T41.setTop (mkF m 97 (own_L6 ar i1 b1 (10 : Int32) (230 : Int32) (i1 + (3 : Int32)) (38 : Int32) (XT.ushrL q3 (38 : Int32))) [(.ref b1)])) (fun oT oK => ?_) ?_
  · skip
    refine XS.iinc X41.here hx rfl (hb hby dF_90) rfl (l' := (own_L6 ar i1 b1 (10 : Int32) (230 : Int32) (i1 + (3 : Int32)) (38 : Int32) (XT.ushrL q3 (38 : Int32)))) rfl ?_
    show Steps p.tables e below (T41.setTop (mkF m 93 (own_L6 ar i1 b1 (10 : Int32) (230 : Int32) (i1 + (3 : Int32)) (38 : Int32) (XT.ushrL q3 (38 : Int32))) [])) _
    refine XS.goto X41.here hx rfl (pc0 := 93) (pc' := 7) rfl (hb hby dF_93) (by decide) (by decide) ?_
    refine XS.iloadN X41.here hx rfl (hb hby dF_7) rfl  ?_
    show Steps p.tables e below (T41.setTop (mkF m 8 (own_L6 ar i1 b1 (10 : Int32) (230 : Int32) (i1 + (3 : Int32)) (38 : Int32) (XT.ushrL q3 (38 : Int32))) [(.int (10 : Int32))])) _
    refine XS.bipush X41.here hx rfl (hb hby dF_8) ?_
    show Steps p.tables e below (T41.setTop (mkF m 10 (own_L6 ar i1 b1 (10 : Int32) (230 : Int32) (i1 + (3 : Int32)) (38 : Int32) (XT.ushrL q3 (38 : Int32))) [(.int (10 : Int32)), (.int (10 : Int32))])) _
    refine XS.icmpYes X41.here hx rfl (pc0 := 10) (pc' := 96) rfl (hb hby dF_10) rfl (XT.ii_ge_t (by decide)) (by decide) (by decide) ?_
    show Steps p.tables e below (T41.setTop (mkF m 96 (own_L6 ar i1 b1 (10 : Int32) (230 : Int32) (i1 + (3 : Int32)) (38 : Int32) (XT.ushrL q3 (38 : Int32))) [])) _
    refine XS.aloadN X41.here hx rfl (hb hby dF_96) rfl rfl  ?_
    exact oK
  refine OG.retA X41 hx Bd.returns rfl rfl (hb hby dF_97) hlk ?_ (by decide) (by decide)
  try rw [e41]
  exact ⟨b1, kc1, rfl, N41, K41, ⟨gn_b1, sz_b1, f147⟩, V41⟩
theorem dE_0 : decode prog_16_method_5_code 0 = .ok (.aload_n 0, 1) := by decide +kernel
theorem dE_1 : decode prog_16_method_5_code 1 = .ok (.invokevirtual 20, 3) := by decide +kernel
theorem dE_4 : decode prog_16_method_5_code 4 = .ok (.checkcast 21, 3) := by decide +kernel
theorem dE_7 : decode prog_16_method_5_code 7 = .ok (.astore_n 1, 1) := by decide +kernel
theorem dE_17 : decode prog_16_method_5_code 17 = .ok (.iload_n 3, 1) := by decide +kernel
theorem dE_18 : decode prog_16_method_5_code 18 = .ok (.bipush 10, 2) := by decide +kernel
theorem dE_20 : decode prog_16_method_5_code 20 = .ok (.if_icmp .ge 67, 3) := by decide +kernel
theorem dE_23 : decode prog_16_method_5_code 23 = .ok (.aload_n 1, 1) := by decide +kernel
theorem dE_24 : decode prog_16_method_5_code 24 = .ok (.iload_n 3, 1) := by decide +kernel
theorem dE_25 : decode prog_16_method_5_code 25 = .ok (.laload, 1) := by decide +kernel
theorem dE_26 : decode prog_16_method_5_code 26 = .ok (.getstatic 17, 3) := by decide +kernel
theorem dE_29 : decode prog_16_method_5_code 29 = .ok (.iload_n 3, 1) := by decide +kernel
theorem dE_30 : decode prog_16_method_5_code 30 = .ok (.iaload, 1) := by decide +kernel
theorem dE_31 : decode prog_16_method_5_code 31 = .ok (.lshr, 1) := by decide +kernel
theorem dE_32 : decode prog_16_method_5_code 32 = .ok (.lstore 4, 2) := by decide +kernel
theorem dE_34 : decode prog_16_method_5_code 34 = .ok (.aload_n 1, 1) := by decide +kernel
theorem dE_35 : decode prog_16_method_5_code 35 = .ok (.iload_n 3, 1) := by decide +kernel
theorem dE_36 : decode prog_16_method_5_code 36 = .ok (.dup2, 1) := by decide +kernel
theorem dE_37 : decode prog_16_method_5_code 37 = .ok (.laload, 1) := by decide +kernel
theorem dE_38 : decode prog_16_method_5_code 38 = .ok (.lload 4, 2) := by decide +kernel
theorem dE_40 : decode prog_16_method_5_code 40 = .ok (.getstatic 17, 3) := by decide +kernel
theorem dE_43 : decode prog_16_method_5_code 43 = .ok (.iload_n 3, 1) := by decide +kernel
theorem dE_44 : decode prog_16_method_5_code 44 = .ok (.iaload, 1) := by decide +kernel
theorem dE_45 : decode prog_16_method_5_code 45 = .ok (.lshl, 1) := by decide +kernel
theorem dE_46 : decode prog_16_method_5_code 46 = .ok (.lsub, 1) := by decide +kernel
theorem dE_47 : decode prog_16_method_5_code 47 = .ok (.lastore, 1) := by decide +kernel
theorem dE_48 : decode prog_16_method_5_code 48 = .ok (.iload_n 3, 1) := by decide +kernel
theorem dE_49 : decode prog_16_method_5_code 49 = .ok (.iconst 1, 1) := by decide +kernel
theorem dE_50 : decode prog_16_method_5_code 50 = .ok (.iadd, 1) := by decide +kernel
theorem dE_51 : decode prog_16_method_5_code 51 = .ok (.bipush 10, 2) := by decide +kernel
theorem dE_53 : decode prog_16_method_5_code 53 = .ok (.if_icmp .ge 16, 3) := by decide +kernel
theorem dE_56 : decode prog_16_method_5_code 56 = .ok (.aload_n 1, 1) := by decide +kernel
theorem dE_57 : decode prog_16_method_5_code 57 = .ok (.iload_n 3, 1) := by decide +kernel
theorem dE_58 : decode prog_16_method_5_code 58 = .ok (.iconst 1, 1) := by decide +kernel
theorem dE_59 : decode prog_16_method_5_code 59 = .ok (.iadd, 1) := by decide +kernel
theorem dE_60 : decode prog_16_method_5_code 60 = .ok (.dup2, 1) := by decide +kernel
theorem dE_61 : decode prog_16_method_5_code 61 = .ok (.laload, 1) := by decide +kernel
theorem dE_62 : decode prog_16_method_5_code 62 = .ok (.lload 4, 2) := by decide +kernel
theorem dE_64 : decode prog_16_method_5_code 64 = .ok (.ladd, 1) := by decide +kernel
theorem dE_65 : decode prog_16_method_5_code 65 = .ok (.lastore, 1) := by decide +kernel
theorem dE_66 : decode prog_16_method_5_code 66 = .ok (.goto 15, 3) := by decide +kernel
theorem dE_81 : decode prog_16_method_5_code 81 = .ok (.iinc 3 1, 3) := by decide +kernel
theorem dE_84 : decode prog_16_method_5_code 84 = .ok (.goto (-67), 3) := by decide +kernel
theorem dE_69 : decode prog_16_method_5_code 69 = .ok (.aload_n 1, 1) := by decide +kernel
theorem dE_70 : decode prog_16_method_5_code 70 = .ok (.iconst 0, 1) := by decide +kernel
theorem dE_71 : decode prog_16_method_5_code 71 = .ok (.dup2, 1) := by decide +kernel
theorem dE_72 : decode prog_16_method_5_code 72 = .ok (.laload, 1) := by decide +kernel
theorem dE_73 : decode prog_16_method_5_code 73 = .ok (.ldc2_w 26, 3) := by decide +kernel
theorem dE_76 : decode prog_16_method_5_code 76 = .ok (.lload 4, 2) := by decide +kernel
theorem dE_78 : decode prog_16_method_5_code 78 = .ok (.lmul, 1) := by decide +kernel
theorem dE_79 : decode prog_16_method_5_code 79 = .ok (.ladd, 1) := by decide +kernel
theorem dE_80 : decode prog_16_method_5_code 80 = .ok (.lastore, 1) := by decide +kernel
theorem dE_151 : decode prog_16_method_5_code 151 = .ok (.iload 4, 2) := by decide +kernel
theorem dE_153 : decode prog_16_method_5_code 153 = .ok (.bipush 9, 2) := by decide +kernel
theorem dE_155 : decode prog_16_method_5_code 155 = .ok (.if_icmp .ge 49, 3) := by decide +kernel
theorem dE_158 : decode prog_16_method_5_code 158 = .ok (.aload_n 1, 1) := by decide +kernel
theorem dE_159 : decode prog_16_method_5_code 159 = .ok (.iload 4, 2) := by decide +kernel
theorem dE_161 : decode prog_16_method_5_code 161 = .ok (.laload, 1) := by decide +kernel
theorem dE_162 : decode prog_16_method_5_code 162 = .ok (.getstatic 17, 3) := by decide +kernel
theorem dE_165 : decode prog_16_method_5_code 165 = .ok (.iload 4, 2) := by decide +kernel
theorem dE_167 : decode prog_16_method_5_code 167 = .ok (.iaload, 1) := by decide +kernel
theorem dE_168 : decode prog_16_method_5_code 168 = .ok (.lshr, 1) := by decide +kernel
theorem dE_169 : decode prog_16_method_5_code 169 = .ok (.lstore 5, 2) := by decide +kernel
theorem dE_171 : decode prog_16_method_5_code 171 = .ok (.aload_n 1, 1) := by decide +kernel
theorem dE_172 : decode prog_16_method_5_code 172 = .ok (.iload 4, 2) := by decide +kernel
theorem dE_174 : decode prog_16_method_5_code 174 = .ok (.dup2, 1) := by decide +kernel
theorem dE_175 : decode prog_16_method_5_code 175 = .ok (.laload, 1) := by decide +kernel
theorem dE_176 : decode prog_16_method_5_code 176 = .ok (.lload 5, 2) := by decide +kernel
theorem dE_178 : decode prog_16_method_5_code 178 = .ok (.getstatic 17, 3) := by decide +kernel
theorem dE_181 : decode prog_16_method_5_code 181 = .ok (.iload 4, 2) := by decide +kernel
theorem dE_183 : decode prog_16_method_5_code 183 = .ok (.iaload, 1) := by decide +kernel
theorem dE_184 : decode prog_16_method_5_code 184 = .ok (.lshl, 1) := by decide +kernel
theorem dE_185 : decode prog_16_method_5_code 185 = .ok (.lsub, 1) := by decide +kernel
theorem dE_186 : decode prog_16_method_5_code 186 = .ok (.lastore, 1) := by decide +kernel
theorem dE_187 : decode prog_16_method_5_code 187 = .ok (.aload_n 1, 1) := by decide +kernel
theorem dE_188 : decode prog_16_method_5_code 188 = .ok (.iload 4, 2) := by decide +kernel
theorem dE_190 : decode prog_16_method_5_code 190 = .ok (.iconst 1, 1) := by decide +kernel
theorem dE_191 : decode prog_16_method_5_code 191 = .ok (.iadd, 1) := by decide +kernel
theorem dE_192 : decode prog_16_method_5_code 192 = .ok (.dup2, 1) := by decide +kernel
theorem dE_193 : decode prog_16_method_5_code 193 = .ok (.laload, 1) := by decide +kernel
theorem dE_194 : decode prog_16_method_5_code 194 = .ok (.lload 5, 2) := by decide +kernel
theorem dE_196 : decode prog_16_method_5_code 196 = .ok (.ladd, 1) := by decide +kernel
theorem dE_197 : decode prog_16_method_5_code 197 = .ok (.lastore, 1) := by decide +kernel
theorem dE_198 : decode prog_16_method_5_code 198 = .ok (.iinc 4 1, 3) := by decide +kernel
theorem dE_201 : decode prog_16_method_5_code 201 = .ok (.goto (-50), 3) := by decide +kernel
theorem dE_8 : decode prog_16_method_5_code 8 = .ok (.iconst 0, 1) := by decide +kernel
theorem dE_9 : decode prog_16_method_5_code 9 = .ok (.istore_n 2, 1) := by decide +kernel
theorem dE_10 : decode prog_16_method_5_code 10 = .ok (.iload_n 2, 1) := by decide +kernel
theorem dE_11 : decode prog_16_method_5_code 11 = .ok (.iconst 3, 1) := by decide +kernel
theorem dE_12 : decode prog_16_method_5_code 12 = .ok (.if_icmp .ge 81, 3) := by decide +kernel
theorem dE_15 : decode prog_16_method_5_code 15 = .ok (.iconst 0, 1) := by decide +kernel
theorem dE_16 : decode prog_16_method_5_code 16 = .ok (.istore_n 3, 1) := by decide +kernel
theorem dE_87 : decode prog_16_method_5_code 87 = .ok (.iinc 2 1, 3) := by decide +kernel
theorem dE_90 : decode prog_16_method_5_code 90 = .ok (.goto (-80), 3) := by decide +kernel
theorem dE_93 : decode prog_16_method_5_code 93 = .ok (.aload_n 1, 1) := by decide +kernel
theorem dE_94 : decode prog_16_method_5_code 94 = .ok (.iconst 0, 1) := by decide +kernel
theorem dE_95 : decode prog_16_method_5_code 95 = .ok (.laload, 1) := by decide +kernel
theorem dE_96 : decode prog_16_method_5_code 96 = .ok (.ldc2_w 26, 3) := by decide +kernel
theorem dE_99 : decode prog_16_method_5_code 99 = .ok (.ladd, 1) := by decide +kernel
theorem dE_100 : decode prog_16_method_5_code 100 = .ok (.getstatic 17, 3) := by decide +kernel
theorem dE_103 : decode prog_16_method_5_code 103 = .ok (.iconst 0, 1) := by decide +kernel
theorem dE_104 : decode prog_16_method_5_code 104 = .ok (.iaload, 1) := by decide +kernel
theorem dE_105 : decode prog_16_method_5_code 105 = .ok (.lshr, 1) := by decide +kernel
theorem dE_106 : decode prog_16_method_5_code 106 = .ok (.lstore_n 2, 1) := by decide +kernel
theorem dE_107 : decode prog_16_method_5_code 107 = .ok (.iconst 1, 1) := by decide +kernel
theorem dE_108 : decode prog_16_method_5_code 108 = .ok (.istore 4, 2) := by decide +kernel
theorem dE_110 : decode prog_16_method_5_code 110 = .ok (.iload 4, 2) := by decide +kernel
theorem dE_112 : decode prog_16_method_5_code 112 = .ok (.bipush 10, 2) := by decide +kernel
theorem dE_114 : decode prog_16_method_5_code 114 = .ok (.if_icmp .ge 23, 3) := by decide +kernel
theorem dE_117 : decode prog_16_method_5_code 117 = .ok (.aload_n 1, 1) := by decide +kernel
theorem dE_118 : decode prog_16_method_5_code 118 = .ok (.iload 4, 2) := by decide +kernel
theorem dE_120 : decode prog_16_method_5_code 120 = .ok (.laload, 1) := by decide +kernel
theorem dE_121 : decode prog_16_method_5_code 121 = .ok (.lload_n 2, 1) := by decide +kernel
theorem dE_122 : decode prog_16_method_5_code 122 = .ok (.ladd, 1) := by decide +kernel
theorem dE_123 : decode prog_16_method_5_code 123 = .ok (.getstatic 17, 3) := by decide +kernel
theorem dE_126 : decode prog_16_method_5_code 126 = .ok (.iload 4, 2) := by decide +kernel
theorem dE_128 : decode prog_16_method_5_code 128 = .ok (.iaload, 1) := by decide +kernel
theorem dE_129 : decode prog_16_method_5_code 129 = .ok (.lshr, 1) := by decide +kernel
theorem dE_130 : decode prog_16_method_5_code 130 = .ok (.lstore_n 2, 1) := by decide +kernel
theorem dE_131 : decode prog_16_method_5_code 131 = .ok (.iinc 4 1, 3) := by decide +kernel
theorem dE_134 : decode prog_16_method_5_code 134 = .ok (.goto (-24), 3) := by decide +kernel
theorem dE_137 : decode prog_16_method_5_code 137 = .ok (.aload_n 1, 1) := by decide +kernel
theorem dE_138 : decode prog_16_method_5_code 138 = .ok (.iconst 0, 1) := by decide +kernel
theorem dE_139 : decode prog_16_method_5_code 139 = .ok (.dup2, 1) := by decide +kernel
theorem dE_140 : decode prog_16_method_5_code 140 = .ok (.laload, 1) := by decide +kernel
theorem dE_141 : decode prog_16_method_5_code 141 = .ok (.ldc2_w 26, 3) := by decide +kernel
theorem dE_144 : decode prog_16_method_5_code 144 = .ok (.lload_n 2, 1) := by decide +kernel
theorem dE_145 : decode prog_16_method_5_code 145 = .ok (.lmul, 1) := by decide +kernel
theorem dE_146 : decode prog_16_method_5_code 146 = .ok (.ladd, 1) := by decide +kernel
theorem dE_147 : decode prog_16_method_5_code 147 = .ok (.lastore, 1) := by decide +kernel
theorem dE_148 : decode prog_16_method_5_code 148 = .ok (.iconst 0, 1) := by decide +kernel
theorem dE_149 : decode prog_16_method_5_code 149 = .ok (.istore 4, 2) := by decide +kernel
theorem dE_204 : decode prog_16_method_5_code 204 = .ok (.aload_n 1, 1) := by decide +kernel
theorem dE_205 : decode prog_16_method_5_code 205 = .ok (.bipush 9, 2) := by decide +kernel
theorem dE_207 : decode prog_16_method_5_code 207 = .ok (.dup2, 1) := by decide +kernel
theorem dE_208 : decode prog_16_method_5_code 208 = .ok (.laload, 1) := by decide +kernel
theorem dE_209 : decode prog_16_method_5_code 209 = .ok (.lconst 1, 1) := by decide +kernel
theorem dE_210 : decode prog_16_method_5_code 210 = .ok (.getstatic 17, 3) := by decide +kernel
theorem dE_213 : decode prog_16_method_5_code 213 = .ok (.bipush 9, 2) := by decide +kernel
theorem dE_215 : decode prog_16_method_5_code 215 = .ok (.iaload, 1) := by decide +kernel
theorem dE_216 : decode prog_16_method_5_code 216 = .ok (.lshl, 1) := by decide +kernel
theorem dE_217 : decode prog_16_method_5_code 217 = .ok (.lconst 1, 1) := by decide +kernel
theorem dE_218 : decode prog_16_method_5_code 218 = .ok (.lsub, 1) := by decide +kernel
theorem dE_219 : decode prog_16_method_5_code 219 = .ok (.land, 1) := by decide +kernel
theorem dE_220 : decode prog_16_method_5_code 220 = .ok (.lastore, 1) := by decide +kernel
theorem dE_221 : decode prog_16_method_5_code 221 = .ok (.bipush 32, 2) := by decide +kernel
theorem dE_223 : decode prog_16_method_5_code 223 = .ok (.newarray .byte, 2) := by decide +kernel
theorem dE_225 : decode prog_16_method_5_code 225 = .ok (.astore 4, 2) := by decide +kernel
theorem dE_227 : decode prog_16_method_5_code 227 = .ok (.lconst 0, 1) := by decide +kernel
theorem dE_228 : decode prog_16_method_5_code 228 = .ok (.lstore 5, 2) := by decide +kernel
theorem dE_230 : decode prog_16_method_5_code 230 = .ok (.iconst 0, 1) := by decide +kernel
theorem dE_231 : decode prog_16_method_5_code 231 = .ok (.istore 7, 2) := by decide +kernel
theorem dE_233 : decode prog_16_method_5_code 233 = .ok (.iconst 0, 1) := by decide +kernel
theorem dE_234 : decode prog_16_method_5_code 234 = .ok (.istore 8, 2) := by decide +kernel
theorem dE_236 : decode prog_16_method_5_code 236 = .ok (.iconst 0, 1) := by decide +kernel
theorem dE_237 : decode prog_16_method_5_code 237 = .ok (.istore 9, 2) := by decide +kernel
theorem pn_E : plainName "com/example/gate_to_gate/gatetogate/io/Field25519" = true := by first | (simp [plainName, overriddenIn]; done) | decide +kernel
theorem ef_E (m : MethodId) (x0 : Addr) : entryFrame m #[(.ref x0)] 10 = mkF m 0 #[.val (.ref x0), .unset, .unset, .unset, .unset, .unset, .unset, .unset, .unset, .unset] [] := by first | (simp [entryFrame, mkF, argsToLocals, Value.category]; done) | rfl
def QE (Z : State) (f : Addr) (kf : ClassId) (vs0 : List Int64) (wB : Addr) (h0 : Heap) (n0 : Nat) (v : Option Value) (h : Heap) (L : List Loc) : Prop := ∃ (b : Addr) (kb : ClassId), v = some (.ref b) ∧ Fr n0 L ∧ Keep h0 h [] ∧ n0 ≤ b ∧ Arv Z h b kb .byte (32 : Int32) ((own_bytes (own_fin vs0)).map Value.int) (.int (0 : Int32))
set_option maxRecDepth 65536 in
set_option maxHeartbeats 40000000 in
theorem rmE (l : Launch) (Z : State) (a0 : Array Value) (hw : ∀ d ∈ tables_1, d.before a0 Z = true) (ws : List Jvm.Cond) (f : Addr) (kf : ClassId) (vs0 : List Int64) (wB : Addr) (h0 : Heap) (n0 : Nat) (Z0 : n0 ≤ h0.size) (hO : Old Z n0 h0) (SB : Sta Z Z.heap "com/example/gate_to_gate/gatetogate/io/Field25519" "BITS" "[I" (.ref wB)) (TB : ∀ j, j < 10 → ORd Z Z.heap wB .int (Int32.ofNat j) (.int (own_bits j))) (E_f : Exa Z h0 f "[J") (hl0 : vs0.length = 10) (V_f : Arv Z h0 f kf .long (10 : Int32) (vs0.map Value.long) (.long (0 : Int64))) :
    MetFree l (⟨"com/example/gate_to_gate/gatetogate/io/Field25519", "encode", "([J)[B"⟩ : MethodName) (head1 (Jvm.Cond.code (⟨"com/example/gate_to_gate/gatetogate/io/Field25519", "encode", "([J)[B"⟩ : MethodName) prog_16_method_5_code 10 (some (.array .byte)) :: ws) ({ frames := 1, cells := 2, slots := 42, locals := 14 } : Room)) (fun aA oU => aA = #[(.ref f)] ∧ Z.Warmed39 oU.vm ∧ oU.heap = h0) (fun _ _ _ _ _ => True) (fun _ oU oO oU' => ∃ oV oL, oO = .returned oV ∧ QE Z f kf vs0 wB h0 n0 oV oU'.heap oL ∧ FrameEnd oU oO oU' oL ({ frames := 1, cells := 2, slots := 42, locals := 14 } : Room).cells ({ frames := 1, cells := 2, slots := 42, locals := 14 } : Room).slots) := by
  refine MetFree.of_bodySF (plainFor_of_name pn_E) hisR ?_
  intro p e s m args below meth c s₁ Bd hml0 hP hK
  obtain ⟨rfl, hZ, hh⟩ := hP
  have hx := Bd.exec
  have hby := Bd.bytes
  have hlk := BodyLoose.notSynchronized Bd
  have hml : c.maxLocals = 10 := hml0
  have hown : s.vm.findClass "com/example/gate_to_gate/gatetogate/io/Field25519" = some m.cls := findClass_of_methodNamed Bd.named
  have hnm := (name_of_methodNamed Bd.named Bd.method).1
  have X0 : Stand p l e ({ frames := 1, cells := 2, slots := 42, locals := 14 } : Room) s m #[(.ref f)] below meth c s₁ [] 0 0 := Stand.of_body Bd
  have e0 : s₁.heap = h0 := by rw [← hh, Bd.state]; rfl
  have N0 := Fr.nil n0
  show OG p e below s ({ frames := 1, cells := 2, slots := 42, locals := 14 } : Room).cells ({ frames := 1, cells := 2, slots := 42, locals := 14 } : Room).slots (QE Z f kf vs0 wB h0 n0) _
  refine OG.of (fun oT oK => castTop (ef_E m f) oK) ?_
  show OG p e below s _ _ _ (s₁.setTop (mkF m 0 (own_L8 f) []))
  refine OG.of (A := s₁.setTop (mkF m 1 (own_L8 f) [(.ref f)])) (fun oT oK => ?_) ?_
  · skip
    refine XS.aloadN X0.here hx rfl (hb hby dE_0) rfl rfl  ?_
    exact oK
  obtain ⟨T1, h1, X1, e1, E1, A1, AE1, st1⟩ := cloneH X0 hx hZ hown (own_at hw 21 rfl) (own_at hw 22 rfl) (own_at hw 26 rfl) (own_at hw 24 rfl) (own_at hw 25 rfl) (own_at hw 27 rfl) e0 (V_f).arh E_f (g := (mkF m 1 (own_L8 f) [(.ref f)])) rfl (by rw [hml]; rfl) rfl (hb hby dE_1) (by decide) (W := 0) (cap := 10) (by show 2 * 0 + _ ≤ _; exact Nat.le_of_eq rfl) (by decide) (by decide) (by decide) (by decide)
  obtain ⟨ah, g1⟩ : ∃ z, z = (h0).size := ⟨_, rfl⟩
  have ne_f_ah : f ≠ ah := Nat.ne_of_lt (Nat.lt_of_lt_of_le (E_f).lt (Nat.le_of_eq g1.symm))
  have gn_ah : n0 ≤ ah := Nat.le_trans Z0 (Nat.le_of_eq g1.symm)
  have sz_ah : h0.size ≤ ah := Nat.le_trans (Keep.refl h0 []).1 (Nat.le_of_eq g1.symm)
  rw [← g1] at A1 AE1 st1
  have f1 := (E_f).ext E1
  have f2 := (V_f).ext E1
  have f3 := (hO).ext E1
  have K1 : Keep h0 h1 [] := (Keep.refl h0 []).ext E1
  have Z1 : n0 ≤ h1.size := Nat.le_trans Z0 E1.1
  refine OG.of st1 ?_
  show OG _ _ _ _ _ _ _ (T1.setTop (mkF m 4 (own_L8 f) [(.ref ah)]))
  have V1 : Arv Z h1 ah kf .long (10 : Int32) (vs0.map Value.long) (.long (0 : Int64)) := A1
  obtain ⟨T2, X2, e2, st2⟩ := castY X1 hx hZ hown (own_at hw 28 rfl) e1 (Ins.self AE1) (g := (mkF m 4 (own_L8 f) [(.ref ah)])) rfl rfl (hb hby dE_4)
  refine OG.of st2 ?_
  show OG _ _ _ _ _ _ _ (T2.setTop (mkF m 7 (own_L8 f) [(.ref ah)]))
  refine OG.of (A := T2.setTop (mkF m 8 (own_L9 f ah) [])) (fun oT oK => ?_) ?_
  · skip
    refine XS.astoreN X2.here hx rfl (hb hby dE_7) rfl rfl (l' := (own_L9 f ah)) rfl ?_
    exact oK
  have loopA : ∀ (k i : Nat) (r : Int32) (s4 s5 : Slot) (vs : List Int64) (T : State) (locs : List Loc) (h : Heap), OTwo s4 s5 → i + k = 10 → vs.length = 10 → Stand p l e ({ frames := 1, cells := 2, slots := 42, locals := 14 } : Room) s m #[(.ref f)] below meth c T locs 1 10 → T.heap = h → Fr n0 locs → Old Z n0 h → Keep h0 h [] → Arv Z h ah kf .long (10 : Int32) (vs.map Value.long) (.long (0 : Int64)) → (∀ (s4' s5' : Slot) (T' : State) (locs' : List Loc) (h' : Heap), OTwo s4' s5' → Stand p l e ({ frames := 1, cells := 2, slots := 42, locals := 14 } : Room) s m #[(.ref f)] below meth c T' locs' 1 10 → T'.heap = h' → Fr n0 locs' → Old Z n0 h' → Keep h0 h' [] → Arv Z h' ah kf .long (10 : Int32) ((own_run k i vs).map Value.long) (.long (0 : Int64)) → OG p e below s 2 42 (QE Z f kf vs0 wB h0 n0) (T'.setTop (mkF m 87 #[.val (.ref f), .val (.ref ah), .val (.int r), .val (.int (Int32.ofNat 10)), s4', s5', .unset, .unset, .unset, .unset] []))) → OG p e below s 2 42 (QE Z f kf vs0 wB h0 n0) (T.setTop (mkF m 17 #[.val (.ref f), .val (.ref ah), .val (.int r), .val (.int (Int32.ofNat i)), s4, s5, .unset, .unset, .unset, .unset] [])) := by
    intro k
    induction k with
    | zero =>
      intro i r s4 s5 vs Tz locs hz hT hik hl Xz ez Nz Oz Kz Vz cont
      obtain rfl : i = 10 := by omega
      refine OG.of (A := Tz.setTop (mkF m 87 (own_L10 f ah r (Int32.ofNat 10) s4 s5) [])) (fun oT oK => ?_) ?_
      · skip
        refine XS.iloadN Xz.here hx rfl (hb hby dE_17) rfl  ?_
        show Steps p.tables e below (Tz.setTop (mkF m 18 (own_L10 f ah r (Int32.ofNat 10) s4 s5) [(.int (Int32.ofNat 10))])) _
        refine XS.bipush Xz.here hx rfl (hb hby dE_18) ?_
        show Steps p.tables e below (Tz.setTop (mkF m 20 (own_L10 f ah r (Int32.ofNat 10) s4 s5) [(.int (10 : Int32)), (.int (Int32.ofNat 10))])) _
        refine XS.icmpYes Xz.here hx rfl (pc0 := 20) (pc' := 87) rfl (hb hby dE_20) rfl (XT.ii_ge_t (by decide)) (by decide) (by decide) ?_
        exact oK
      exact cont s4 s5 Tz locs hz hT Xz ez Nz Oz Kz Vz
    | succ k ih =>
      intro i r s4 s5 vs Tz locs hz hT hik hl Xz ez Nz Oz Kz Vz cont
      have hi : i < 10 := by omega
      have hlt : (Int32.ofNat i) < (10 : Int32) := own_ltn hi (by decide)
      by_cases hi1 : i + 1 < 10
      · have hi2 : ((Int32.ofNat i) + (1 : Int32)) < (10 : Int32) := by rw [own_one]; exact own_ltn (by omega) (by decide)
        refine OG.of (A := Tz.setTop (mkF m 25 (own_L10 f ah r (Int32.ofNat i) s4 s5) [(.int (Int32.ofNat i)), (.ref ah)])) (fun oT oK => ?_) ?_
        · skip
          refine XS.iloadN Xz.here hx rfl (hb hby dE_17) rfl  ?_
          show Steps p.tables e below (Tz.setTop (mkF m 18 (own_L10 f ah r (Int32.ofNat i) s4 s5) [(.int (Int32.ofNat i))])) _
          refine XS.bipush Xz.here hx rfl (hb hby dE_18) ?_
          show Steps p.tables e below (Tz.setTop (mkF m 20 (own_L10 f ah r (Int32.ofNat i) s4 s5) [(.int (10 : Int32)), (.int (Int32.ofNat i))])) _
          refine XS.icmpNo Xz.here hx rfl (hb hby dE_20) rfl (XT.ii_ge_f hlt) ?_
          show Steps p.tables e below (Tz.setTop (mkF m 23 (own_L10 f ah r (Int32.ofNat i) s4 s5) [])) _
          refine XS.aloadN Xz.here hx rfl (hb hby dE_23) rfl rfl  ?_
          refine XS.iloadN Xz.here hx rfl (hb hby dE_24) rfl  ?_
          exact oK
        obtain ⟨clf4, Arf4, If4, Hf4⟩ := own_rdL Vz hl (j := (Int32.ofNat i)) (i := i) rfl (by omega)
        refine OG.of (Xz.laload hx (j := (Int32.ofNat i)) (v := (.long (vs.getD i 0))) (by rw [ez]; exact Arf4.1) (State.isArrayOf_alike hZ.alike Arf4.2.1) Arf4.2.2 If4 Hf4 (g := (mkF m 25 (own_L10 f ah r (Int32.ofNat i) s4 s5) [(.int (Int32.ofNat i)), (.ref ah)])) rfl rfl (hb hby dE_25)) ?_
        show OG _ _ _ _ _ _ _ (Tz.setTop (mkF m 26 (own_L10 f ah r (Int32.ofNat i) s4 s5) [(.long (vs.getD i 0))]))
        obtain ⟨T3, X3, e3, st3⟩ := getS2 Xz hx hZ hown (host := "") (Or.inl (own_at hw 8 rfl)) Via.refl ez (SB.ext (Oz).2) (g := (mkF m 26 (own_L10 f ah r (Int32.ofNat i) s4 s5) [(.long (vs.getD i 0))])) rfl (hb hby dE_26)
        refine OG.of st3 ?_
        show OG _ _ _ _ _ _ _ (T3.setTop (mkF m 29 (own_L10 f ah r (Int32.ofNat i) s4 s5) [(.ref wB), (.long (vs.getD i 0))]))
        refine OG.of (A := T3.setTop (mkF m 30 (own_L10 f ah r (Int32.ofNat i) s4 s5) [(.int (Int32.ofNat i)), (.ref wB), (.long (vs.getD i 0))])) (fun oT oK => ?_) ?_
        · skip
          refine XS.iloadN X3.here hx rfl (hb hby dE_29) rfl  ?_
          exact oK
        have cf5 := ((TB i (by omega)).ext (Oz).2)
        obtain ⟨clf5, Arf5, If5, Hf5⟩ := cf5
        refine OG.of (X3.iaload hx (j := (Int32.ofNat i)) (v := (.int (own_bits i))) (by rw [e3]; exact Arf5.1) (State.isArrayOf_alike hZ.alike Arf5.2.1) Arf5.2.2 If5 Hf5 (g := (mkF m 30 (own_L10 f ah r (Int32.ofNat i) s4 s5) [(.int (Int32.ofNat i)), (.ref wB), (.long (vs.getD i 0))])) rfl rfl (hb hby dE_30)) ?_
        show OG _ _ _ _ _ _ _ (T3.setTop (mkF m 31 (own_L10 f ah r (Int32.ofNat i) s4 s5) [(.int (own_bits i)), (.long (vs.getD i 0))]))
        refine OG.of (A := T3.setTop (mkF m 34 (own_L11 f ah r (Int32.ofNat i) ((vs.getD i 0) >>> ((own_bits i).toInt64 &&& 63))) [])) (fun oT oK => ?_) ?_
        · skip
          refine XT.lshr X3.here hx rfl (hb hby dE_31) rfl ?_
          show Steps p.tables e below (T3.setTop (mkF m 32 (own_L10 f ah r (Int32.ofNat i) s4 s5) [(.long ((vs.getD i 0) >>> ((own_bits i).toInt64 &&& 63)))])) _
          refine XT.lstore X3.here hx rfl (hb hby dE_32) rfl (l' := (own_L11 f ah r (Int32.ofNat i) ((vs.getD i 0) >>> ((own_bits i).toInt64 &&& 63)))) (own_os4J hT) ?_
          exact oK
        show OG _ _ _ _ _ _ _ (T3.setTop (mkF m 34 (own_L11 f ah r (Int32.ofNat i) (own_c vs i)) []))
        refine OG.of (A := T3.setTop (mkF m 37 (own_L11 f ah r (Int32.ofNat i) (own_c vs i)) [(.int (Int32.ofNat i)), (.ref ah), (.int (Int32.ofNat i)), (.ref ah)])) (fun oT oK => ?_) ?_
        · skip
          refine XS.aloadN X3.here hx rfl (hb hby dE_34) rfl rfl  ?_
          show Steps p.tables e below (T3.setTop (mkF m 35 (own_L11 f ah r (Int32.ofNat i) (own_c vs i)) [(.ref ah)])) _
          refine XS.iloadN X3.here hx rfl (hb hby dE_35) rfl  ?_
          refine XT.dup2 X3.here hx rfl (hb hby dE_36) rfl rfl rfl ?_
          exact oK
        obtain ⟨clf6, Arf6, If6, Hf6⟩ := own_rdL Vz hl (j := (Int32.ofNat i)) (i := i) rfl (by omega)
        refine OG.of (X3.laload hx (j := (Int32.ofNat i)) (v := (.long (vs.getD i 0))) (by rw [e3]; exact Arf6.1) (State.isArrayOf_alike hZ.alike Arf6.2.1) Arf6.2.2 If6 Hf6 (g := (mkF m 37 (own_L11 f ah r (Int32.ofNat i) (own_c vs i)) [(.int (Int32.ofNat i)), (.ref ah), (.int (Int32.ofNat i)), (.ref ah)])) rfl rfl (hb hby dE_37)) ?_
        show OG _ _ _ _ _ _ _ (T3.setTop (mkF m 38 (own_L11 f ah r (Int32.ofNat i) (own_c vs i)) [(.long (vs.getD i 0)), (.int (Int32.ofNat i)), (.ref ah)]))
        refine OG.of (A := T3.setTop (mkF m 40 (own_L11 f ah r (Int32.ofNat i) (own_c vs i)) [(.long (own_c vs i)), (.long (vs.getD i 0)), (.int (Int32.ofNat i)), (.ref ah)])) (fun oT oK => ?_) ?_
        · skip
          refine XT.lload X3.here hx rfl (hb hby dE_38) rfl  ?_
          exact oK
        obtain ⟨T4, X4, e4, st4⟩ := getS2 X3 hx hZ hown (host := "") (Or.inl (own_at hw 8 rfl)) Via.refl e3 (SB.ext (Oz).2) (g := (mkF m 40 (own_L11 f ah r (Int32.ofNat i) (own_c vs i)) [(.long (own_c vs i)), (.long (vs.getD i 0)), (.int (Int32.ofNat i)), (.ref ah)])) rfl (hb hby dE_40)
        refine OG.of st4 ?_
        show OG _ _ _ _ _ _ _ (T4.setTop (mkF m 43 (own_L11 f ah r (Int32.ofNat i) (own_c vs i)) [(.ref wB), (.long (own_c vs i)), (.long (vs.getD i 0)), (.int (Int32.ofNat i)), (.ref ah)]))
        refine OG.of (A := T4.setTop (mkF m 44 (own_L11 f ah r (Int32.ofNat i) (own_c vs i)) [(.int (Int32.ofNat i)), (.ref wB), (.long (own_c vs i)), (.long (vs.getD i 0)), (.int (Int32.ofNat i)), (.ref ah)])) (fun oT oK => ?_) ?_
        · skip
          refine XS.iloadN X4.here hx rfl (hb hby dE_43) rfl  ?_
          exact oK
        have cf7 := ((TB i (by omega)).ext (Oz).2)
        obtain ⟨clf7, Arf7, If7, Hf7⟩ := cf7
        refine OG.of (X4.iaload hx (j := (Int32.ofNat i)) (v := (.int (own_bits i))) (by rw [e4]; exact Arf7.1) (State.isArrayOf_alike hZ.alike Arf7.2.1) Arf7.2.2 If7 Hf7 (g := (mkF m 44 (own_L11 f ah r (Int32.ofNat i) (own_c vs i)) [(.int (Int32.ofNat i)), (.ref wB), (.long (own_c vs i)), (.long (vs.getD i 0)), (.int (Int32.ofNat i)), (.ref ah)])) rfl rfl (hb hby dE_44)) ?_
        show OG _ _ _ _ _ _ _ (T4.setTop (mkF m 45 (own_L11 f ah r (Int32.ofNat i) (own_c vs i)) [(.int (own_bits i)), (.long (own_c vs i)), (.long (vs.getD i 0)), (.int (Int32.ofNat i)), (.ref ah)]))
        refine OG.of (A := T4.setTop (mkF m 47 (own_L11 f ah r (Int32.ofNat i) (own_c vs i)) [(.long ((vs.getD i 0) - ((own_c vs i) <<< ((own_bits i).toInt64 &&& 63)))), (.int (Int32.ofNat i)), (.ref ah)])) (fun oT oK => ?_) ?_
        · skip
          refine XT.lshl X4.here hx rfl (hb hby dE_45) rfl ?_
          show Steps p.tables e below (T4.setTop (mkF m 46 (own_L11 f ah r (Int32.ofNat i) (own_c vs i)) [(.long ((own_c vs i) <<< ((own_bits i).toInt64 &&& 63))), (.long (vs.getD i 0)), (.int (Int32.ofNat i)), (.ref ah)])) _
          refine XT.lsub X4.here hx rfl (hb hby dE_46) rfl ?_
          exact oK
        obtain ⟨T5, h5, X5, e5, W5, V5, st5⟩ := own_stJ X4 hx hZ e4 Vz hl (j := (Int32.ofNat i)) (i := i) rfl (by omega) (g := (mkF m 47 (own_L11 f ah r (Int32.ofNat i) (own_c vs i)) [(.long ((vs.getD i 0) - ((own_c vs i) <<< ((own_bits i).toInt64 &&& 63)))), (.int (Int32.ofNat i)), (.ref ah)])) rfl rfl (hb hby dE_47)
        have f9 := (Oz).wr W5 gn_ah
        have K5 : Keep h0 h5 [] := (Kz).wr W5 (Or.inr sz_ah)
        have Z5 : n0 ≤ h5.size := Nat.le_trans (Nat.le_trans Z0 Kz.1) (Keep.of_wr W5).1
        have N5 := Fr.snoc X5 Nz gn_ah
        refine OG.of st5 ?_
        show OG _ _ _ _ _ _ _ (T5.setTop (mkF m 48 (own_L11 f ah r (Int32.ofNat i) (own_c vs i)) []))
        have f10 : Arv Z h5 ah kf .long (10 : Int32) ((own_w vs i).map Value.long) (.long (0 : Int64)) := V5
        refine OG.of (A := T5.setTop (mkF m 61 (own_L11 f ah r (Int32.ofNat i) (own_c vs i)) [(.int ((Int32.ofNat i) + (1 : Int32))), (.ref ah), (.int ((Int32.ofNat i) + (1 : Int32))), (.ref ah)])) (fun oT oK => ?_) ?_
        · skip
          refine XS.iloadN X5.here hx rfl (hb hby dE_48) rfl  ?_
          show Steps p.tables e below (T5.setTop (mkF m 49 (own_L11 f ah r (Int32.ofNat i) (own_c vs i)) [(.int (Int32.ofNat i))])) _
          refine XS.iconst X5.here hx rfl (hb hby dE_49) ?_
          refine XS.iadd X5.here hx rfl (hb hby dE_50) rfl ?_
          show Steps p.tables e below (T5.setTop (mkF m 51 (own_L11 f ah r (Int32.ofNat i) (own_c vs i)) [(.int ((Int32.ofNat i) + (1 : Int32)))])) _
          refine XS.bipush X5.here hx rfl (hb hby dE_51) ?_
          show Steps p.tables e below (T5.setTop (mkF m 53 (own_L11 f ah r (Int32.ofNat i) (own_c vs i)) [(.int (10 : Int32)), (.int ((Int32.ofNat i) + (1 : Int32)))])) _
          refine XS.icmpNo X5.here hx rfl (hb hby dE_53) rfl (XT.ii_ge_f hi2) ?_
          show Steps p.tables e below (T5.setTop (mkF m 56 (own_L11 f ah r (Int32.ofNat i) (own_c vs i)) [])) _
          refine XS.aloadN X5.here hx rfl (hb hby dE_56) rfl rfl  ?_
          refine XS.iloadN X5.here hx rfl (hb hby dE_57) rfl  ?_
          show Steps p.tables e below (T5.setTop (mkF m 58 (own_L11 f ah r (Int32.ofNat i) (own_c vs i)) [(.int (Int32.ofNat i)), (.ref ah)])) _
          refine XS.iconst X5.here hx rfl (hb hby dE_58) ?_
          refine XS.iadd X5.here hx rfl (hb hby dE_59) rfl ?_
          show Steps p.tables e below (T5.setTop (mkF m 60 (own_L11 f ah r (Int32.ofNat i) (own_c vs i)) [(.int ((Int32.ofNat i) + (1 : Int32))), (.ref ah)])) _
          refine XT.dup2 X5.here hx rfl (hb hby dE_60) rfl rfl rfl ?_
          exact oK
        obtain ⟨clf11, Arf11, If11, Hf11⟩ := own_rdL f10 ((List.length_set ..).trans hl) (j := ((Int32.ofNat i) + (1 : Int32))) (i := (i + 1)) (own_one i) (by omega)
        refine OG.of (X5.laload hx (j := ((Int32.ofNat i) + (1 : Int32))) (v := (.long ((own_w vs i).getD (i + 1) 0))) (by rw [e5]; exact Arf11.1) (State.isArrayOf_alike hZ.alike Arf11.2.1) Arf11.2.2 If11 Hf11 (g := (mkF m 61 (own_L11 f ah r (Int32.ofNat i) (own_c vs i)) [(.int ((Int32.ofNat i) + (1 : Int32))), (.ref ah), (.int ((Int32.ofNat i) + (1 : Int32))), (.ref ah)])) rfl rfl (hb hby dE_61)) ?_
        show OG _ _ _ _ _ _ _ (T5.setTop (mkF m 62 (own_L11 f ah r (Int32.ofNat i) (own_c vs i)) [(.long ((own_w vs i).getD (i + 1) 0)), (.int ((Int32.ofNat i) + (1 : Int32))), (.ref ah)]))
        refine OG.of (A := T5.setTop (mkF m 65 (own_L11 f ah r (Int32.ofNat i) (own_c vs i)) [(.long (((own_w vs i).getD (i + 1) 0) + (own_c vs i))), (.int ((Int32.ofNat i) + (1 : Int32))), (.ref ah)])) (fun oT oK => ?_) ?_
        · skip
          refine XT.lload X5.here hx rfl (hb hby dE_62) rfl  ?_
          show Steps p.tables e below (T5.setTop (mkF m 64 (own_L11 f ah r (Int32.ofNat i) (own_c vs i)) [(.long (own_c vs i)), (.long ((own_w vs i).getD (i + 1) 0)), (.int ((Int32.ofNat i) + (1 : Int32))), (.ref ah)])) _
          refine XT.ladd X5.here hx rfl (hb hby dE_64) rfl ?_
          exact oK
        obtain ⟨T6, h6, X6, e6, W6, V6, st6⟩ := own_stJ X5 hx hZ e5 f10 ((List.length_set ..).trans hl) (j := ((Int32.ofNat i) + (1 : Int32))) (i := (i + 1)) (own_one i) (by omega) (g := (mkF m 65 (own_L11 f ah r (Int32.ofNat i) (own_c vs i)) [(.long (((own_w vs i).getD (i + 1) 0) + (own_c vs i))), (.int ((Int32.ofNat i) + (1 : Int32))), (.ref ah)])) rfl rfl (hb hby dE_65)
        have f13 := (f9).wr W6 gn_ah
        have K6 : Keep h0 h6 [] := (K5).wr W6 (Or.inr sz_ah)
        have Z6 : n0 ≤ h6.size := Nat.le_trans Z5 (Keep.of_wr W6).1
        have N6 := Fr.snoc X6 N5 gn_ah
        refine OG.of st6 ?_
        show OG _ _ _ _ _ _ _ (T6.setTop (mkF m 66 (own_L11 f ah r (Int32.ofNat i) (own_c vs i)) []))
        refine OG.of (A := T6.setTop (mkF m 17 (own_L11 f ah r ((Int32.ofNat i) + (1 : Int32)) (own_c vs i)) [])) (fun oT oK => ?_) ?_
        · skip
          refine XS.goto X6.here hx rfl (pc0 := 66) (pc' := 81) rfl (hb hby dE_66) (by decide) (by decide) ?_
          show Steps p.tables e below (T6.setTop (mkF m 81 (own_L11 f ah r (Int32.ofNat i) (own_c vs i)) [])) _
          refine XS.iinc X6.here hx rfl (hb hby dE_81) rfl (l' := (own_L11 f ah r ((Int32.ofNat i) + (1 : Int32)) (own_c vs i))) rfl ?_
          refine XS.goto X6.here hx rfl (pc0 := 84) (pc' := 17) rfl (hb hby dE_84) (by decide) (by decide) ?_
          exact oK
        rw [own_one]
        refine ih (i + 1) r _ _ (own_tA vs i) T6 _ _ (Or.inr ⟨_, rfl, rfl⟩) (by omega) ((own_tA_len vs i).trans hl) X6 e6 N6 f13 K6 (by rw [own_tA_lt hi1]; exact V6) cont
      · have hi2 : ¬ ((Int32.ofNat i) + (1 : Int32)) < (10 : Int32) := by rw [own_one]; exact own_ltm (by omega)
        refine OG.of (A := Tz.setTop (mkF m 25 (own_L10 f ah r (Int32.ofNat i) s4 s5) [(.int (Int32.ofNat i)), (.ref ah)])) (fun oT oK => ?_) ?_
        · skip
          refine XS.iloadN Xz.here hx rfl (hb hby dE_17) rfl  ?_
          show Steps p.tables e below (Tz.setTop (mkF m 18 (own_L10 f ah r (Int32.ofNat i) s4 s5) [(.int (Int32.ofNat i))])) _
          refine XS.bipush Xz.here hx rfl (hb hby dE_18) ?_
          show Steps p.tables e below (Tz.setTop (mkF m 20 (own_L10 f ah r (Int32.ofNat i) s4 s5) [(.int (10 : Int32)), (.int (Int32.ofNat i))])) _
          refine XS.icmpNo Xz.here hx rfl (hb hby dE_20) rfl (XT.ii_ge_f hlt) ?_
          show Steps p.tables e below (Tz.setTop (mkF m 23 (own_L10 f ah r (Int32.ofNat i) s4 s5) [])) _
          refine XS.aloadN Xz.here hx rfl (hb hby dE_23) rfl rfl  ?_
          refine XS.iloadN Xz.here hx rfl (hb hby dE_24) rfl  ?_
          exact oK
        obtain ⟨clf14, Arf14, If14, Hf14⟩ := own_rdL Vz hl (j := (Int32.ofNat i)) (i := i) rfl (by omega)
        refine OG.of (Xz.laload hx (j := (Int32.ofNat i)) (v := (.long (vs.getD i 0))) (by rw [ez]; exact Arf14.1) (State.isArrayOf_alike hZ.alike Arf14.2.1) Arf14.2.2 If14 Hf14 (g := (mkF m 25 (own_L10 f ah r (Int32.ofNat i) s4 s5) [(.int (Int32.ofNat i)), (.ref ah)])) rfl rfl (hb hby dE_25)) ?_
        show OG _ _ _ _ _ _ _ (Tz.setTop (mkF m 26 (own_L10 f ah r (Int32.ofNat i) s4 s5) [(.long (vs.getD i 0))]))
        obtain ⟨T7, X7, e7, st7⟩ := getS2 Xz hx hZ hown (host := "") (Or.inl (own_at hw 8 rfl)) Via.refl ez (SB.ext (Oz).2) (g := (mkF m 26 (own_L10 f ah r (Int32.ofNat i) s4 s5) [(.long (vs.getD i 0))])) rfl (hb hby dE_26)
        refine OG.of st7 ?_
        show OG _ _ _ _ _ _ _ (T7.setTop (mkF m 29 (own_L10 f ah r (Int32.ofNat i) s4 s5) [(.ref wB), (.long (vs.getD i 0))]))
        refine OG.of (A := T7.setTop (mkF m 30 (own_L10 f ah r (Int32.ofNat i) s4 s5) [(.int (Int32.ofNat i)), (.ref wB), (.long (vs.getD i 0))])) (fun oT oK => ?_) ?_
        · skip
          refine XS.iloadN X7.here hx rfl (hb hby dE_29) rfl  ?_
          exact oK
        have cf15 := ((TB i (by omega)).ext (Oz).2)
        obtain ⟨clf15, Arf15, If15, Hf15⟩ := cf15
        refine OG.of (X7.iaload hx (j := (Int32.ofNat i)) (v := (.int (own_bits i))) (by rw [e7]; exact Arf15.1) (State.isArrayOf_alike hZ.alike Arf15.2.1) Arf15.2.2 If15 Hf15 (g := (mkF m 30 (own_L10 f ah r (Int32.ofNat i) s4 s5) [(.int (Int32.ofNat i)), (.ref wB), (.long (vs.getD i 0))])) rfl rfl (hb hby dE_30)) ?_
        show OG _ _ _ _ _ _ _ (T7.setTop (mkF m 31 (own_L10 f ah r (Int32.ofNat i) s4 s5) [(.int (own_bits i)), (.long (vs.getD i 0))]))
        refine OG.of (A := T7.setTop (mkF m 34 (own_L11 f ah r (Int32.ofNat i) ((vs.getD i 0) >>> ((own_bits i).toInt64 &&& 63))) [])) (fun oT oK => ?_) ?_
        · skip
          refine XT.lshr X7.here hx rfl (hb hby dE_31) rfl ?_
          show Steps p.tables e below (T7.setTop (mkF m 32 (own_L10 f ah r (Int32.ofNat i) s4 s5) [(.long ((vs.getD i 0) >>> ((own_bits i).toInt64 &&& 63)))])) _
          refine XT.lstore X7.here hx rfl (hb hby dE_32) rfl (l' := (own_L11 f ah r (Int32.ofNat i) ((vs.getD i 0) >>> ((own_bits i).toInt64 &&& 63)))) (own_os4J hT) ?_
          exact oK
        show OG _ _ _ _ _ _ _ (T7.setTop (mkF m 34 (own_L11 f ah r (Int32.ofNat i) (own_c vs i)) []))
        refine OG.of (A := T7.setTop (mkF m 37 (own_L11 f ah r (Int32.ofNat i) (own_c vs i)) [(.int (Int32.ofNat i)), (.ref ah), (.int (Int32.ofNat i)), (.ref ah)])) (fun oT oK => ?_) ?_
        · skip
          refine XS.aloadN X7.here hx rfl (hb hby dE_34) rfl rfl  ?_
          show Steps p.tables e below (T7.setTop (mkF m 35 (own_L11 f ah r (Int32.ofNat i) (own_c vs i)) [(.ref ah)])) _
          refine XS.iloadN X7.here hx rfl (hb hby dE_35) rfl  ?_
          refine XT.dup2 X7.here hx rfl (hb hby dE_36) rfl rfl rfl ?_
          exact oK
        obtain ⟨clf16, Arf16, If16, Hf16⟩ := own_rdL Vz hl (j := (Int32.ofNat i)) (i := i) rfl (by omega)
        refine OG.of (X7.laload hx (j := (Int32.ofNat i)) (v := (.long (vs.getD i 0))) (by rw [e7]; exact Arf16.1) (State.isArrayOf_alike hZ.alike Arf16.2.1) Arf16.2.2 If16 Hf16 (g := (mkF m 37 (own_L11 f ah r (Int32.ofNat i) (own_c vs i)) [(.int (Int32.ofNat i)), (.ref ah), (.int (Int32.ofNat i)), (.ref ah)])) rfl rfl (hb hby dE_37)) ?_
        show OG _ _ _ _ _ _ _ (T7.setTop (mkF m 38 (own_L11 f ah r (Int32.ofNat i) (own_c vs i)) [(.long (vs.getD i 0)), (.int (Int32.ofNat i)), (.ref ah)]))
        refine OG.of (A := T7.setTop (mkF m 40 (own_L11 f ah r (Int32.ofNat i) (own_c vs i)) [(.long (own_c vs i)), (.long (vs.getD i 0)), (.int (Int32.ofNat i)), (.ref ah)])) (fun oT oK => ?_) ?_
        · skip
          refine XT.lload X7.here hx rfl (hb hby dE_38) rfl  ?_
          exact oK
        obtain ⟨T8, X8, e8, st8⟩ := getS2 X7 hx hZ hown (host := "") (Or.inl (own_at hw 8 rfl)) Via.refl e7 (SB.ext (Oz).2) (g := (mkF m 40 (own_L11 f ah r (Int32.ofNat i) (own_c vs i)) [(.long (own_c vs i)), (.long (vs.getD i 0)), (.int (Int32.ofNat i)), (.ref ah)])) rfl (hb hby dE_40)
        refine OG.of st8 ?_
        show OG _ _ _ _ _ _ _ (T8.setTop (mkF m 43 (own_L11 f ah r (Int32.ofNat i) (own_c vs i)) [(.ref wB), (.long (own_c vs i)), (.long (vs.getD i 0)), (.int (Int32.ofNat i)), (.ref ah)]))
        refine OG.of (A := T8.setTop (mkF m 44 (own_L11 f ah r (Int32.ofNat i) (own_c vs i)) [(.int (Int32.ofNat i)), (.ref wB), (.long (own_c vs i)), (.long (vs.getD i 0)), (.int (Int32.ofNat i)), (.ref ah)])) (fun oT oK => ?_) ?_
        · skip
          refine XS.iloadN X8.here hx rfl (hb hby dE_43) rfl  ?_
          exact oK
        have cf17 := ((TB i (by omega)).ext (Oz).2)
        obtain ⟨clf17, Arf17, If17, Hf17⟩ := cf17
        refine OG.of (X8.iaload hx (j := (Int32.ofNat i)) (v := (.int (own_bits i))) (by rw [e8]; exact Arf17.1) (State.isArrayOf_alike hZ.alike Arf17.2.1) Arf17.2.2 If17 Hf17 (g := (mkF m 44 (own_L11 f ah r (Int32.ofNat i) (own_c vs i)) [(.int (Int32.ofNat i)), (.ref wB), (.long (own_c vs i)), (.long (vs.getD i 0)), (.int (Int32.ofNat i)), (.ref ah)])) rfl rfl (hb hby dE_44)) ?_
        show OG _ _ _ _ _ _ _ (T8.setTop (mkF m 45 (own_L11 f ah r (Int32.ofNat i) (own_c vs i)) [(.int (own_bits i)), (.long (own_c vs i)), (.long (vs.getD i 0)), (.int (Int32.ofNat i)), (.ref ah)]))
        refine OG.of (A := T8.setTop (mkF m 47 (own_L11 f ah r (Int32.ofNat i) (own_c vs i)) [(.long ((vs.getD i 0) - ((own_c vs i) <<< ((own_bits i).toInt64 &&& 63)))), (.int (Int32.ofNat i)), (.ref ah)])) (fun oT oK => ?_) ?_
        · skip
          refine XT.lshl X8.here hx rfl (hb hby dE_45) rfl ?_
          show Steps p.tables e below (T8.setTop (mkF m 46 (own_L11 f ah r (Int32.ofNat i) (own_c vs i)) [(.long ((own_c vs i) <<< ((own_bits i).toInt64 &&& 63))), (.long (vs.getD i 0)), (.int (Int32.ofNat i)), (.ref ah)])) _
          refine XT.lsub X8.here hx rfl (hb hby dE_46) rfl ?_
          exact oK
        obtain ⟨T9, h9, X9, e9, W9, V9, st9⟩ := own_stJ X8 hx hZ e8 Vz hl (j := (Int32.ofNat i)) (i := i) rfl (by omega) (g := (mkF m 47 (own_L11 f ah r (Int32.ofNat i) (own_c vs i)) [(.long ((vs.getD i 0) - ((own_c vs i) <<< ((own_bits i).toInt64 &&& 63)))), (.int (Int32.ofNat i)), (.ref ah)])) rfl rfl (hb hby dE_47)
        have f19 := (Oz).wr W9 gn_ah
        have K9 : Keep h0 h9 [] := (Kz).wr W9 (Or.inr sz_ah)
        have Z9 : n0 ≤ h9.size := Nat.le_trans (Nat.le_trans Z0 Kz.1) (Keep.of_wr W9).1
        have N9 := Fr.snoc X9 Nz gn_ah
        refine OG.of st9 ?_
        show OG _ _ _ _ _ _ _ (T9.setTop (mkF m 48 (own_L11 f ah r (Int32.ofNat i) (own_c vs i)) []))
        have f20 : Arv Z h9 ah kf .long (10 : Int32) ((own_w vs i).map Value.long) (.long (0 : Int64)) := V9
        refine OG.of (A := T9.setTop (mkF m 72 (own_L11 f ah r (Int32.ofNat i) (own_c vs i)) [(.int (0 : Int32)), (.ref ah), (.int (0 : Int32)), (.ref ah)])) (fun oT oK => ?_) ?_
        · skip
          refine XS.iloadN X9.here hx rfl (hb hby dE_48) rfl  ?_
          show Steps p.tables e below (T9.setTop (mkF m 49 (own_L11 f ah r (Int32.ofNat i) (own_c vs i)) [(.int (Int32.ofNat i))])) _
          refine XS.iconst X9.here hx rfl (hb hby dE_49) ?_
          refine XS.iadd X9.here hx rfl (hb hby dE_50) rfl ?_
          show Steps p.tables e below (T9.setTop (mkF m 51 (own_L11 f ah r (Int32.ofNat i) (own_c vs i)) [(.int ((Int32.ofNat i) + (1 : Int32)))])) _
          refine XS.bipush X9.here hx rfl (hb hby dE_51) ?_
          show Steps p.tables e below (T9.setTop (mkF m 53 (own_L11 f ah r (Int32.ofNat i) (own_c vs i)) [(.int (10 : Int32)), (.int ((Int32.ofNat i) + (1 : Int32)))])) _
          refine XS.icmpYes X9.here hx rfl (pc0 := 53) (pc' := 69) rfl (hb hby dE_53) rfl (XT.ii_ge_t hi2) (by decide) (by decide) ?_
          show Steps p.tables e below (T9.setTop (mkF m 69 (own_L11 f ah r (Int32.ofNat i) (own_c vs i)) [])) _
          refine XS.aloadN X9.here hx rfl (hb hby dE_69) rfl rfl  ?_
          refine XS.iconst X9.here hx rfl (hb hby dE_70) ?_
          show Steps p.tables e below (T9.setTop (mkF m 71 (own_L11 f ah r (Int32.ofNat i) (own_c vs i)) [(.int (0 : Int32)), (.ref ah)])) _
          refine XT.dup2 X9.here hx rfl (hb hby dE_71) rfl rfl rfl ?_
          exact oK
        obtain ⟨clf21, Arf21, If21, Hf21⟩ := own_rdL f20 ((List.length_set ..).trans hl) (j := (0 : Int32)) (i := 0) rfl (by decide)
        refine OG.of (X9.laload hx (j := (0 : Int32)) (v := (.long ((own_w vs i).getD 0 0))) (by rw [e9]; exact Arf21.1) (State.isArrayOf_alike hZ.alike Arf21.2.1) Arf21.2.2 If21 Hf21 (g := (mkF m 72 (own_L11 f ah r (Int32.ofNat i) (own_c vs i)) [(.int (0 : Int32)), (.ref ah), (.int (0 : Int32)), (.ref ah)])) rfl rfl (hb hby dE_72)) ?_
        show OG _ _ _ _ _ _ _ (T9.setTop (mkF m 73 (own_L11 f ah r (Int32.ofNat i) (own_c vs i)) [(.long ((own_w vs i).getD 0 0)), (.int (0 : Int32)), (.ref ah)]))
        refine OG.of (A := T9.setTop (mkF m 80 (own_L11 f ah r (Int32.ofNat i) (own_c vs i)) [(.long (((own_w vs i).getD 0 0) + ((19 : Int64) * (own_c vs i)))), (.int (0 : Int32)), (.ref ah)])) (fun oT oK => ?_) ?_
        · skip
          refine X9.ldc2Long hx hown (mvT hZ (own_at hw 30 rfl)) (g := (mkF m 73 (own_L11 f ah r (Int32.ofNat i) (own_c vs i)) [(.long ((own_w vs i).getD 0 0)), (.int (0 : Int32)), (.ref ah)])) rfl (hb hby dE_73) _ ?_
          show Steps p.tables e below (T9.setTop (mkF m 76 (own_L11 f ah r (Int32.ofNat i) (own_c vs i)) [(.long (19 : Int64)), (.long ((own_w vs i).getD 0 0)), (.int (0 : Int32)), (.ref ah)])) _
          refine XT.lload X9.here hx rfl (hb hby dE_76) rfl  ?_
          refine XT.lmul X9.here hx rfl (hb hby dE_78) rfl ?_
          show Steps p.tables e below (T9.setTop (mkF m 79 (own_L11 f ah r (Int32.ofNat i) (own_c vs i)) [(.long ((19 : Int64) * (own_c vs i))), (.long ((own_w vs i).getD 0 0)), (.int (0 : Int32)), (.ref ah)])) _
          refine XT.ladd X9.here hx rfl (hb hby dE_79) rfl ?_
          exact oK
        obtain ⟨T10, h10, X10, e10, W10, V10, st10⟩ := own_stJ X9 hx hZ e9 f20 ((List.length_set ..).trans hl) (j := (0 : Int32)) (i := 0) rfl (by decide) (g := (mkF m 80 (own_L11 f ah r (Int32.ofNat i) (own_c vs i)) [(.long (((own_w vs i).getD 0 0) + ((19 : Int64) * (own_c vs i)))), (.int (0 : Int32)), (.ref ah)])) rfl rfl (hb hby dE_80)
        have f23 := (f19).wr W10 gn_ah
        have K10 : Keep h0 h10 [] := (K9).wr W10 (Or.inr sz_ah)
        have Z10 : n0 ≤ h10.size := Nat.le_trans Z9 (Keep.of_wr W10).1
        have N10 := Fr.snoc X10 N9 gn_ah
        refine OG.of st10 ?_
        show OG _ _ _ _ _ _ _ (T10.setTop (mkF m 81 (own_L11 f ah r (Int32.ofNat i) (own_c vs i)) []))
        refine OG.of (A := T10.setTop (mkF m 17 (own_L11 f ah r ((Int32.ofNat i) + (1 : Int32)) (own_c vs i)) [])) (fun oT oK => ?_) ?_
        · skip
          refine XS.iinc X10.here hx rfl (hb hby dE_81) rfl (l' := (own_L11 f ah r ((Int32.ofNat i) + (1 : Int32)) (own_c vs i))) rfl ?_
          show Steps p.tables e below (T10.setTop (mkF m 84 (own_L11 f ah r ((Int32.ofNat i) + (1 : Int32)) (own_c vs i)) [])) _
          refine XS.goto X10.here hx rfl (pc0 := 84) (pc' := 17) rfl (hb hby dE_84) (by decide) (by decide) ?_
          exact oK
        rw [own_one]
        refine ih (i + 1) r _ _ (own_tA vs i) T10 _ _ (Or.inr ⟨_, rfl, rfl⟩) (by omega) ((own_tA_len vs i).trans hl) X10 e10 N10 f23 K10 (by rw [own_tA_ge hi1]; exact V10) cont
  have loopB : ∀ (k i : Nat) (r : Int64) (s4 s5 : Slot) (vs : List Int64) (T : State) (locs : List Loc) (h : Heap), OTwo s4 s5 → i + k = 9 → vs.length = 10 → Stand p l e ({ frames := 1, cells := 2, slots := 42, locals := 14 } : Room) s m #[(.ref f)] below meth c T locs 1 10 → T.heap = h → Fr n0 locs → Old Z n0 h → Keep h0 h [] → Arv Z h ah kf .long (10 : Int32) (vs.map Value.long) (.long (0 : Int64)) → (∀ (s4' s5' : Slot) (T' : State) (locs' : List Loc) (h' : Heap), OTwo s4' s5' → Stand p l e ({ frames := 1, cells := 2, slots := 42, locals := 14 } : Room) s m #[(.ref f)] below meth c T' locs' 1 10 → T'.heap = h' → Fr n0 locs' → Old Z n0 h' → Keep h0 h' [] → Arv Z h' ah kf .long (10 : Int32) ((own_run k i vs).map Value.long) (.long (0 : Int64)) → OG p e below s 2 42 (QE Z f kf vs0 wB h0 n0) (T'.setTop (mkF m 204 #[.val (.ref f), .val (.ref ah), .val (.long r), .second, .val (.int (Int32.ofNat 9)), s4', s5', .unset, .unset, .unset] []))) → OG p e below s 2 42 (QE Z f kf vs0 wB h0 n0) (T.setTop (mkF m 151 #[.val (.ref f), .val (.ref ah), .val (.long r), .second, .val (.int (Int32.ofNat i)), s4, s5, .unset, .unset, .unset] [])) := by
    intro k
    induction k with
    | zero =>
      intro i r s4 s5 vs Tz locs hz hT hik hl Xz ez Nz Oz Kz Vz cont
      obtain rfl : i = 9 := by omega
      refine OG.of (A := Tz.setTop (mkF m 204 (own_L12 f ah r (Int32.ofNat 9) s4 s5) [])) (fun oT oK => ?_) ?_
      · skip
        refine XS.iload Xz.here hx rfl (hb hby dE_151) rfl  ?_
        show Steps p.tables e below (Tz.setTop (mkF m 153 (own_L12 f ah r (Int32.ofNat 9) s4 s5) [(.int (Int32.ofNat 9))])) _
        refine XS.bipush Xz.here hx rfl (hb hby dE_153) ?_
        show Steps p.tables e below (Tz.setTop (mkF m 155 (own_L12 f ah r (Int32.ofNat 9) s4 s5) [(.int (9 : Int32)), (.int (Int32.ofNat 9))])) _
        refine XS.icmpYes Xz.here hx rfl (pc0 := 155) (pc' := 204) rfl (hb hby dE_155) rfl (XT.ii_ge_t (by decide)) (by decide) (by decide) ?_
        exact oK
      exact cont s4 s5 Tz locs hz hT Xz ez Nz Oz Kz Vz
    | succ k ih =>
      intro i r s4 s5 vs Tz locs hz hT hik hl Xz ez Nz Oz Kz Vz cont
      have hi : i < 9 := by omega
      have hlt : (Int32.ofNat i) < (9 : Int32) := own_ltn hi (by decide)
      have hi1 : i + 1 < 10 := by omega
      refine OG.of (A := Tz.setTop (mkF m 161 (own_L12 f ah r (Int32.ofNat i) s4 s5) [(.int (Int32.ofNat i)), (.ref ah)])) (fun oT oK => ?_) ?_
      · skip
        refine XS.iload Xz.here hx rfl (hb hby dE_151) rfl  ?_
        show Steps p.tables e below (Tz.setTop (mkF m 153 (own_L12 f ah r (Int32.ofNat i) s4 s5) [(.int (Int32.ofNat i))])) _
        refine XS.bipush Xz.here hx rfl (hb hby dE_153) ?_
        show Steps p.tables e below (Tz.setTop (mkF m 155 (own_L12 f ah r (Int32.ofNat i) s4 s5) [(.int (9 : Int32)), (.int (Int32.ofNat i))])) _
        refine XS.icmpNo Xz.here hx rfl (hb hby dE_155) rfl (XT.ii_ge_f hlt) ?_
        show Steps p.tables e below (Tz.setTop (mkF m 158 (own_L12 f ah r (Int32.ofNat i) s4 s5) [])) _
        refine XS.aloadN Xz.here hx rfl (hb hby dE_158) rfl rfl  ?_
        refine XS.iload Xz.here hx rfl (hb hby dE_159) rfl  ?_
        exact oK
      obtain ⟨clf24, Arf24, If24, Hf24⟩ := own_rdL Vz hl (j := (Int32.ofNat i)) (i := i) rfl (by omega)
      refine OG.of (Xz.laload hx (j := (Int32.ofNat i)) (v := (.long (vs.getD i 0))) (by rw [ez]; exact Arf24.1) (State.isArrayOf_alike hZ.alike Arf24.2.1) Arf24.2.2 If24 Hf24 (g := (mkF m 161 (own_L12 f ah r (Int32.ofNat i) s4 s5) [(.int (Int32.ofNat i)), (.ref ah)])) rfl rfl (hb hby dE_161)) ?_
      show OG _ _ _ _ _ _ _ (Tz.setTop (mkF m 162 (own_L12 f ah r (Int32.ofNat i) s4 s5) [(.long (vs.getD i 0))]))
      obtain ⟨T11, X11, e11, st11⟩ := getS2 Xz hx hZ hown (host := "") (Or.inl (own_at hw 8 rfl)) Via.refl ez (SB.ext (Oz).2) (g := (mkF m 162 (own_L12 f ah r (Int32.ofNat i) s4 s5) [(.long (vs.getD i 0))])) rfl (hb hby dE_162)
      refine OG.of st11 ?_
      show OG _ _ _ _ _ _ _ (T11.setTop (mkF m 165 (own_L12 f ah r (Int32.ofNat i) s4 s5) [(.ref wB), (.long (vs.getD i 0))]))
      refine OG.of (A := T11.setTop (mkF m 167 (own_L12 f ah r (Int32.ofNat i) s4 s5) [(.int (Int32.ofNat i)), (.ref wB), (.long (vs.getD i 0))])) (fun oT oK => ?_) ?_
      · skip
        refine XS.iload X11.here hx rfl (hb hby dE_165) rfl  ?_
        exact oK
      have cf25 := ((TB i (by omega)).ext (Oz).2)
      obtain ⟨clf25, Arf25, If25, Hf25⟩ := cf25
      refine OG.of (X11.iaload hx (j := (Int32.ofNat i)) (v := (.int (own_bits i))) (by rw [e11]; exact Arf25.1) (State.isArrayOf_alike hZ.alike Arf25.2.1) Arf25.2.2 If25 Hf25 (g := (mkF m 167 (own_L12 f ah r (Int32.ofNat i) s4 s5) [(.int (Int32.ofNat i)), (.ref wB), (.long (vs.getD i 0))])) rfl rfl (hb hby dE_167)) ?_
      show OG _ _ _ _ _ _ _ (T11.setTop (mkF m 168 (own_L12 f ah r (Int32.ofNat i) s4 s5) [(.int (own_bits i)), (.long (vs.getD i 0))]))
      refine OG.of (A := T11.setTop (mkF m 171 (own_L13 f ah r (Int32.ofNat i) ((vs.getD i 0) >>> ((own_bits i).toInt64 &&& 63))) [])) (fun oT oK => ?_) ?_
      · skip
        refine XT.lshr X11.here hx rfl (hb hby dE_168) rfl ?_
        show Steps p.tables e below (T11.setTop (mkF m 169 (own_L12 f ah r (Int32.ofNat i) s4 s5) [(.long ((vs.getD i 0) >>> ((own_bits i).toInt64 &&& 63)))])) _
        refine XT.lstore X11.here hx rfl (hb hby dE_169) rfl (l' := (own_L13 f ah r (Int32.ofNat i) ((vs.getD i 0) >>> ((own_bits i).toInt64 &&& 63)))) (own_os5J hT) ?_
        exact oK
      show OG _ _ _ _ _ _ _ (T11.setTop (mkF m 171 (own_L13 f ah r (Int32.ofNat i) (own_c vs i)) []))
      refine OG.of (A := T11.setTop (mkF m 175 (own_L13 f ah r (Int32.ofNat i) (own_c vs i)) [(.int (Int32.ofNat i)), (.ref ah), (.int (Int32.ofNat i)), (.ref ah)])) (fun oT oK => ?_) ?_
      · skip
        refine XS.aloadN X11.here hx rfl (hb hby dE_171) rfl rfl  ?_
        show Steps p.tables e below (T11.setTop (mkF m 172 (own_L13 f ah r (Int32.ofNat i) (own_c vs i)) [(.ref ah)])) _
        refine XS.iload X11.here hx rfl (hb hby dE_172) rfl  ?_
        refine XT.dup2 X11.here hx rfl (hb hby dE_174) rfl rfl rfl ?_
        exact oK
      obtain ⟨clf26, Arf26, If26, Hf26⟩ := own_rdL Vz hl (j := (Int32.ofNat i)) (i := i) rfl (by omega)
      refine OG.of (X11.laload hx (j := (Int32.ofNat i)) (v := (.long (vs.getD i 0))) (by rw [e11]; exact Arf26.1) (State.isArrayOf_alike hZ.alike Arf26.2.1) Arf26.2.2 If26 Hf26 (g := (mkF m 175 (own_L13 f ah r (Int32.ofNat i) (own_c vs i)) [(.int (Int32.ofNat i)), (.ref ah), (.int (Int32.ofNat i)), (.ref ah)])) rfl rfl (hb hby dE_175)) ?_
      show OG _ _ _ _ _ _ _ (T11.setTop (mkF m 176 (own_L13 f ah r (Int32.ofNat i) (own_c vs i)) [(.long (vs.getD i 0)), (.int (Int32.ofNat i)), (.ref ah)]))
      refine OG.of (A := T11.setTop (mkF m 178 (own_L13 f ah r (Int32.ofNat i) (own_c vs i)) [(.long (own_c vs i)), (.long (vs.getD i 0)), (.int (Int32.ofNat i)), (.ref ah)])) (fun oT oK => ?_) ?_
      · skip
        refine XT.lload X11.here hx rfl (hb hby dE_176) rfl  ?_
        exact oK
      obtain ⟨T12, X12, e12, st12⟩ := getS2 X11 hx hZ hown (host := "") (Or.inl (own_at hw 8 rfl)) Via.refl e11 (SB.ext (Oz).2) (g := (mkF m 178 (own_L13 f ah r (Int32.ofNat i) (own_c vs i)) [(.long (own_c vs i)), (.long (vs.getD i 0)), (.int (Int32.ofNat i)), (.ref ah)])) rfl (hb hby dE_178)
      refine OG.of st12 ?_
      show OG _ _ _ _ _ _ _ (T12.setTop (mkF m 181 (own_L13 f ah r (Int32.ofNat i) (own_c vs i)) [(.ref wB), (.long (own_c vs i)), (.long (vs.getD i 0)), (.int (Int32.ofNat i)), (.ref ah)]))
      refine OG.of (A := T12.setTop (mkF m 183 (own_L13 f ah r (Int32.ofNat i) (own_c vs i)) [(.int (Int32.ofNat i)), (.ref wB), (.long (own_c vs i)), (.long (vs.getD i 0)), (.int (Int32.ofNat i)), (.ref ah)])) (fun oT oK => ?_) ?_
      · skip
        refine XS.iload X12.here hx rfl (hb hby dE_181) rfl  ?_
        exact oK
      have cf27 := ((TB i (by omega)).ext (Oz).2)
      obtain ⟨clf27, Arf27, If27, Hf27⟩ := cf27
      refine OG.of (X12.iaload hx (j := (Int32.ofNat i)) (v := (.int (own_bits i))) (by rw [e12]; exact Arf27.1) (State.isArrayOf_alike hZ.alike Arf27.2.1) Arf27.2.2 If27 Hf27 (g := (mkF m 183 (own_L13 f ah r (Int32.ofNat i) (own_c vs i)) [(.int (Int32.ofNat i)), (.ref wB), (.long (own_c vs i)), (.long (vs.getD i 0)), (.int (Int32.ofNat i)), (.ref ah)])) rfl rfl (hb hby dE_183)) ?_
      show OG _ _ _ _ _ _ _ (T12.setTop (mkF m 184 (own_L13 f ah r (Int32.ofNat i) (own_c vs i)) [(.int (own_bits i)), (.long (own_c vs i)), (.long (vs.getD i 0)), (.int (Int32.ofNat i)), (.ref ah)]))
      refine OG.of (A := T12.setTop (mkF m 186 (own_L13 f ah r (Int32.ofNat i) (own_c vs i)) [(.long ((vs.getD i 0) - ((own_c vs i) <<< ((own_bits i).toInt64 &&& 63)))), (.int (Int32.ofNat i)), (.ref ah)])) (fun oT oK => ?_) ?_
      · skip
        refine XT.lshl X12.here hx rfl (hb hby dE_184) rfl ?_
        show Steps p.tables e below (T12.setTop (mkF m 185 (own_L13 f ah r (Int32.ofNat i) (own_c vs i)) [(.long ((own_c vs i) <<< ((own_bits i).toInt64 &&& 63))), (.long (vs.getD i 0)), (.int (Int32.ofNat i)), (.ref ah)])) _
        refine XT.lsub X12.here hx rfl (hb hby dE_185) rfl ?_
        exact oK
      obtain ⟨T13, h13, X13, e13, W13, V13, st13⟩ := own_stJ X12 hx hZ e12 Vz hl (j := (Int32.ofNat i)) (i := i) rfl (by omega) (g := (mkF m 186 (own_L13 f ah r (Int32.ofNat i) (own_c vs i)) [(.long ((vs.getD i 0) - ((own_c vs i) <<< ((own_bits i).toInt64 &&& 63)))), (.int (Int32.ofNat i)), (.ref ah)])) rfl rfl (hb hby dE_186)
      have f29 := (Oz).wr W13 gn_ah
      have K13 : Keep h0 h13 [] := (Kz).wr W13 (Or.inr sz_ah)
      have Z13 : n0 ≤ h13.size := Nat.le_trans (Nat.le_trans Z0 Kz.1) (Keep.of_wr W13).1
      have N13 := Fr.snoc X13 Nz gn_ah
      refine OG.of st13 ?_
      show OG _ _ _ _ _ _ _ (T13.setTop (mkF m 187 (own_L13 f ah r (Int32.ofNat i) (own_c vs i)) []))
      have f30 : Arv Z h13 ah kf .long (10 : Int32) ((own_w vs i).map Value.long) (.long (0 : Int64)) := V13
      refine OG.of (A := T13.setTop (mkF m 193 (own_L13 f ah r (Int32.ofNat i) (own_c vs i)) [(.int ((Int32.ofNat i) + (1 : Int32))), (.ref ah), (.int ((Int32.ofNat i) + (1 : Int32))), (.ref ah)])) (fun oT oK => ?_) ?_
      · skip
        refine XS.aloadN X13.here hx rfl (hb hby dE_187) rfl rfl  ?_
        show Steps p.tables e below (T13.setTop (mkF m 188 (own_L13 f ah r (Int32.ofNat i) (own_c vs i)) [(.ref ah)])) _
        refine XS.iload X13.here hx rfl (hb hby dE_188) rfl  ?_
        refine XS.iconst X13.here hx rfl (hb hby dE_190) ?_
        show Steps p.tables e below (T13.setTop (mkF m 191 (own_L13 f ah r (Int32.ofNat i) (own_c vs i)) [(.int (1 : Int32)), (.int (Int32.ofNat i)), (.ref ah)])) _
        refine XS.iadd X13.here hx rfl (hb hby dE_191) rfl ?_
        refine XT.dup2 X13.here hx rfl (hb hby dE_192) rfl rfl rfl ?_
        exact oK
      obtain ⟨clf31, Arf31, If31, Hf31⟩ := own_rdL f30 ((List.length_set ..).trans hl) (j := ((Int32.ofNat i) + (1 : Int32))) (i := (i + 1)) (own_one i) (by omega)
      refine OG.of (X13.laload hx (j := ((Int32.ofNat i) + (1 : Int32))) (v := (.long ((own_w vs i).getD (i + 1) 0))) (by rw [e13]; exact Arf31.1) (State.isArrayOf_alike hZ.alike Arf31.2.1) Arf31.2.2 If31 Hf31 (g := (mkF m 193 (own_L13 f ah r (Int32.ofNat i) (own_c vs i)) [(.int ((Int32.ofNat i) + (1 : Int32))), (.ref ah), (.int ((Int32.ofNat i) + (1 : Int32))), (.ref ah)])) rfl rfl (hb hby dE_193)) ?_
      show OG _ _ _ _ _ _ _ (T13.setTop (mkF m 194 (own_L13 f ah r (Int32.ofNat i) (own_c vs i)) [(.long ((own_w vs i).getD (i + 1) 0)), (.int ((Int32.ofNat i) + (1 : Int32))), (.ref ah)]))
      refine OG.of (A := T13.setTop (mkF m 197 (own_L13 f ah r (Int32.ofNat i) (own_c vs i)) [(.long (((own_w vs i).getD (i + 1) 0) + (own_c vs i))), (.int ((Int32.ofNat i) + (1 : Int32))), (.ref ah)])) (fun oT oK => ?_) ?_
      · skip
        refine XT.lload X13.here hx rfl (hb hby dE_194) rfl  ?_
        show Steps p.tables e below (T13.setTop (mkF m 196 (own_L13 f ah r (Int32.ofNat i) (own_c vs i)) [(.long (own_c vs i)), (.long ((own_w vs i).getD (i + 1) 0)), (.int ((Int32.ofNat i) + (1 : Int32))), (.ref ah)])) _
        refine XT.ladd X13.here hx rfl (hb hby dE_196) rfl ?_
        exact oK
      obtain ⟨T14, h14, X14, e14, W14, V14, st14⟩ := own_stJ X13 hx hZ e13 f30 ((List.length_set ..).trans hl) (j := ((Int32.ofNat i) + (1 : Int32))) (i := (i + 1)) (own_one i) (by omega) (g := (mkF m 197 (own_L13 f ah r (Int32.ofNat i) (own_c vs i)) [(.long (((own_w vs i).getD (i + 1) 0) + (own_c vs i))), (.int ((Int32.ofNat i) + (1 : Int32))), (.ref ah)])) rfl rfl (hb hby dE_197)
      have f33 := (f29).wr W14 gn_ah
      have K14 : Keep h0 h14 [] := (K13).wr W14 (Or.inr sz_ah)
      have Z14 : n0 ≤ h14.size := Nat.le_trans Z13 (Keep.of_wr W14).1
      have N14 := Fr.snoc X14 N13 gn_ah
      refine OG.of st14 ?_
      show OG _ _ _ _ _ _ _ (T14.setTop (mkF m 198 (own_L13 f ah r (Int32.ofNat i) (own_c vs i)) []))
      refine OG.of (A := T14.setTop (mkF m 151 (own_L13 f ah r ((Int32.ofNat i) + (1 : Int32)) (own_c vs i)) [])) (fun oT oK => ?_) ?_
      · skip
        refine XS.iinc X14.here hx rfl (hb hby dE_198) rfl (l' := (own_L13 f ah r ((Int32.ofNat i) + (1 : Int32)) (own_c vs i))) rfl ?_
        show Steps p.tables e below (T14.setTop (mkF m 201 (own_L13 f ah r ((Int32.ofNat i) + (1 : Int32)) (own_c vs i)) [])) _
        refine XS.goto X14.here hx rfl (pc0 := 201) (pc' := 151) rfl (hb hby dE_201) (by decide) (by decide) ?_
        exact oK
      rw [own_one]
      refine ih (i + 1) r _ _ (own_tA vs i) T14 _ _ (Or.inr ⟨_, rfl, rfl⟩) (by omega) ((own_tA_len vs i).trans hl) X14 e14 N14 f33 K14 (by rw [own_tA_lt hi1]; exact V14) cont
  show OG _ _ _ _ _ _ _ (T2.setTop (mkF m 8 (own_L9 f ah) []))
  refine OG.of (A := T2.setTop (mkF m 17 (own_L15 f ah (0 : Int32) (0 : Int32)) [])) (fun oT oK => ?_) ?_
  · skip
    refine XS.iconst X2.here hx rfl (hb hby dE_8) ?_
    show Steps p.tables e below (T2.setTop (mkF m 9 (own_L9 f ah) [(.int (0 : Int32))])) _
    refine XS.istoreN X2.here hx rfl (hb hby dE_9) rfl (l' := (own_L14 f ah (0 : Int32))) rfl ?_
    refine XS.iloadN X2.here hx rfl (hb hby dE_10) rfl  ?_
    show Steps p.tables e below (T2.setTop (mkF m 11 (own_L14 f ah (0 : Int32)) [(.int (0 : Int32))])) _
    refine XS.iconst X2.here hx rfl (hb hby dE_11) ?_
    show Steps p.tables e below (T2.setTop (mkF m 12 (own_L14 f ah (0 : Int32)) [(.int (3 : Int32)), (.int (0 : Int32))])) _
    refine XS.icmpNo X2.here hx rfl (hb hby dE_12) rfl (XT.ii_ge_f (by decide)) ?_
    show Steps p.tables e below (T2.setTop (mkF m 15 (own_L14 f ah (0 : Int32)) [])) _
    refine XS.iconst X2.here hx rfl (hb hby dE_15) ?_
    refine XS.istoreN X2.here hx rfl (hb hby dE_16) rfl (l' := (own_L15 f ah (0 : Int32) (0 : Int32))) rfl ?_
    exact oK
  refine loopA 10 0 (0 : Int32) _ _ vs0 T2 _ _ (Or.inl ⟨rfl, rfl⟩) (by decide) hl0 X2 e2 N0 f3 K1 V1 (fun s40 s50 T0r locs0r h0r tw0 X0r e0r N0r O0r K0r V0r => ?_)
  show OG _ _ _ _ _ _ _ (T0r.setTop (mkF m 87 (own_L10 f ah (0 : Int32) (10 : Int32) s40 s50) []))
  refine OG.of (A := T0r.setTop (mkF m 17 (own_L10 f ah (1 : Int32) (0 : Int32) s40 s50) [])) (fun oT oK => ?_) ?_
  · skip
    refine XS.iinc X0r.here hx rfl (hb hby dE_87) rfl (l' := (own_L10 f ah (1 : Int32) (10 : Int32) s40 s50)) rfl ?_
    show Steps p.tables e below (T0r.setTop (mkF m 90 (own_L10 f ah (1 : Int32) (10 : Int32) s40 s50) [])) _
    refine XS.goto X0r.here hx rfl (pc0 := 90) (pc' := 10) rfl (hb hby dE_90) (by decide) (by decide) ?_
    refine XS.iloadN X0r.here hx rfl (hb hby dE_10) rfl  ?_
    show Steps p.tables e below (T0r.setTop (mkF m 11 (own_L10 f ah (1 : Int32) (10 : Int32) s40 s50) [(.int (1 : Int32))])) _
    refine XS.iconst X0r.here hx rfl (hb hby dE_11) ?_
    show Steps p.tables e below (T0r.setTop (mkF m 12 (own_L10 f ah (1 : Int32) (10 : Int32) s40 s50) [(.int (3 : Int32)), (.int (1 : Int32))])) _
    refine XS.icmpNo X0r.here hx rfl (hb hby dE_12) rfl (XT.ii_ge_f (by decide)) ?_
    show Steps p.tables e below (T0r.setTop (mkF m 15 (own_L10 f ah (1 : Int32) (10 : Int32) s40 s50) [])) _
    refine XS.iconst X0r.here hx rfl (hb hby dE_15) ?_
    refine XS.istoreN X0r.here hx rfl (hb hby dE_16) rfl (l' := (own_L10 f ah (1 : Int32) (0 : Int32) s40 s50)) rfl ?_
    exact oK
  refine loopA 10 0 (1 : Int32) _ _ (own_run 10 0 vs0) T0r _ _ tw0 (by decide) ((own_run_len ..).trans hl0) X0r e0r N0r O0r K0r V0r (fun s41 s51 T1r locs1r h1r tw1 X1r e1r N1r O1r K1r V1r => ?_)
  show OG _ _ _ _ _ _ _ (T1r.setTop (mkF m 87 (own_L10 f ah (1 : Int32) (10 : Int32) s41 s51) []))
  refine OG.of (A := T1r.setTop (mkF m 17 (own_L10 f ah (2 : Int32) (0 : Int32) s41 s51) [])) (fun oT oK => ?_) ?_
  · skip
    refine XS.iinc X1r.here hx rfl (hb hby dE_87) rfl (l' := (own_L10 f ah (2 : Int32) (10 : Int32) s41 s51)) rfl ?_
    show Steps p.tables e below (T1r.setTop (mkF m 90 (own_L10 f ah (2 : Int32) (10 : Int32) s41 s51) [])) _
    refine XS.goto X1r.here hx rfl (pc0 := 90) (pc' := 10) rfl (hb hby dE_90) (by decide) (by decide) ?_
    refine XS.iloadN X1r.here hx rfl (hb hby dE_10) rfl  ?_
    show Steps p.tables e below (T1r.setTop (mkF m 11 (own_L10 f ah (2 : Int32) (10 : Int32) s41 s51) [(.int (2 : Int32))])) _
    refine XS.iconst X1r.here hx rfl (hb hby dE_11) ?_
    show Steps p.tables e below (T1r.setTop (mkF m 12 (own_L10 f ah (2 : Int32) (10 : Int32) s41 s51) [(.int (3 : Int32)), (.int (2 : Int32))])) _
    refine XS.icmpNo X1r.here hx rfl (hb hby dE_12) rfl (XT.ii_ge_f (by decide)) ?_
    show Steps p.tables e below (T1r.setTop (mkF m 15 (own_L10 f ah (2 : Int32) (10 : Int32) s41 s51) [])) _
    refine XS.iconst X1r.here hx rfl (hb hby dE_15) ?_
    refine XS.istoreN X1r.here hx rfl (hb hby dE_16) rfl (l' := (own_L10 f ah (2 : Int32) (0 : Int32) s41 s51)) rfl ?_
    exact oK
  refine loopA 10 0 (2 : Int32) _ _ (own_run 10 0 (own_run 10 0 vs0)) T1r _ _ tw1 (by decide) ((own_run_len ..).trans ((own_run_len ..).trans hl0)) X1r e1r N1r O1r K1r V1r (fun s42 s52 T2r locs2r h2r tw2 X2r e2r N2r O2r K2r V2r => ?_)
  show OG _ _ _ _ _ _ _ (T2r.setTop (mkF m 87 (own_L10 f ah (2 : Int32) (10 : Int32) s42 s52) []))
  refine OG.of (A := T2r.setTop (mkF m 95 (own_L10 f ah (3 : Int32) (10 : Int32) s42 s52) [(.int (0 : Int32)), (.ref ah)])) (fun oT oK => ?_) ?_
  · skip
    refine XS.iinc X2r.here hx rfl (hb hby dE_87) rfl (l' := (own_L10 f ah (3 : Int32) (10 : Int32) s42 s52)) rfl ?_
    show Steps p.tables e below (T2r.setTop (mkF m 90 (own_L10 f ah (3 : Int32) (10 : Int32) s42 s52) [])) _
    refine XS.goto X2r.here hx rfl (pc0 := 90) (pc' := 10) rfl (hb hby dE_90) (by decide) (by decide) ?_
    refine XS.iloadN X2r.here hx rfl (hb hby dE_10) rfl  ?_
    show Steps p.tables e below (T2r.setTop (mkF m 11 (own_L10 f ah (3 : Int32) (10 : Int32) s42 s52) [(.int (3 : Int32))])) _
    refine XS.iconst X2r.here hx rfl (hb hby dE_11) ?_
    show Steps p.tables e below (T2r.setTop (mkF m 12 (own_L10 f ah (3 : Int32) (10 : Int32) s42 s52) [(.int (3 : Int32)), (.int (3 : Int32))])) _
    refine XS.icmpYes X2r.here hx rfl (pc0 := 12) (pc' := 93) rfl (hb hby dE_12) rfl (XT.ii_ge_t (by decide)) (by decide) (by decide) ?_
    show Steps p.tables e below (T2r.setTop (mkF m 93 (own_L10 f ah (3 : Int32) (10 : Int32) s42 s52) [])) _
    refine XS.aloadN X2r.here hx rfl (hb hby dE_93) rfl rfl  ?_
    refine XS.iconst X2r.here hx rfl (hb hby dE_94) ?_
    exact oK
  obtain ⟨clf34, Arf34, If34, Hf34⟩ := own_rdL V2r ((own_run_len ..).trans ((own_run_len ..).trans ((own_run_len ..).trans hl0))) (j := (0 : Int32)) (i := 0) rfl (by decide)
  refine OG.of (X2r.laload hx (j := (0 : Int32)) (v := (.long ((own_run 10 0 (own_run 10 0 (own_run 10 0 vs0))).getD 0 0))) (by rw [e2r]; exact Arf34.1) (State.isArrayOf_alike hZ.alike Arf34.2.1) Arf34.2.2 If34 Hf34 (g := (mkF m 95 (own_L10 f ah (3 : Int32) (10 : Int32) s42 s52) [(.int (0 : Int32)), (.ref ah)])) rfl rfl (hb hby dE_95)) ?_
  show OG _ _ _ _ _ _ _ (T2r.setTop (mkF m 96 (own_L10 f ah (3 : Int32) (10 : Int32) s42 s52) [(.long ((own_run 10 0 (own_run 10 0 (own_run 10 0 vs0))).getD 0 0))]))
  refine OG.of (A := T2r.setTop (mkF m 100 (own_L10 f ah (3 : Int32) (10 : Int32) s42 s52) [(.long (((own_run 10 0 (own_run 10 0 (own_run 10 0 vs0))).getD 0 0) + (19 : Int64)))])) (fun oT oK => ?_) ?_
  · skip
    refine X2r.ldc2Long hx hown (mvT hZ (own_at hw 30 rfl)) (g := (mkF m 96 (own_L10 f ah (3 : Int32) (10 : Int32) s42 s52) [(.long ((own_run 10 0 (own_run 10 0 (own_run 10 0 vs0))).getD 0 0))])) rfl (hb hby dE_96) _ ?_
    show Steps p.tables e below (T2r.setTop (mkF m 99 (own_L10 f ah (3 : Int32) (10 : Int32) s42 s52) [(.long (19 : Int64)), (.long ((own_run 10 0 (own_run 10 0 (own_run 10 0 vs0))).getD 0 0))])) _
    refine XT.ladd X2r.here hx rfl (hb hby dE_99) rfl ?_
    exact oK
  obtain ⟨T15, X15, e15, st15⟩ := getS2 X2r hx hZ hown (host := "") (Or.inl (own_at hw 8 rfl)) Via.refl e2r (SB.ext (O2r).2) (g := (mkF m 100 (own_L10 f ah (3 : Int32) (10 : Int32) s42 s52) [(.long (((own_run 10 0 (own_run 10 0 (own_run 10 0 vs0))).getD 0 0) + (19 : Int64)))])) rfl (hb hby dE_100)
  refine OG.of st15 ?_
  show OG _ _ _ _ _ _ _ (T15.setTop (mkF m 103 (own_L10 f ah (3 : Int32) (10 : Int32) s42 s52) [(.ref wB), (.long (((own_run 10 0 (own_run 10 0 (own_run 10 0 vs0))).getD 0 0) + (19 : Int64)))]))
  refine OG.of (A := T15.setTop (mkF m 104 (own_L10 f ah (3 : Int32) (10 : Int32) s42 s52) [(.int (0 : Int32)), (.ref wB), (.long (((own_run 10 0 (own_run 10 0 (own_run 10 0 vs0))).getD 0 0) + (19 : Int64)))])) (fun oT oK => ?_) ?_
  · skip
    refine XS.iconst X15.here hx rfl (hb hby dE_103) ?_
    exact oK
  have cf35 := ((TB 0 (by decide)).ext (O2r).2)
  obtain ⟨clf35, Arf35, If35, Hf35⟩ := cf35
  refine OG.of (X15.iaload hx (j := (0 : Int32)) (v := (.int (26 : Int32))) (by rw [e15]; exact Arf35.1) (State.isArrayOf_alike hZ.alike Arf35.2.1) Arf35.2.2 If35 Hf35 (g := (mkF m 104 (own_L10 f ah (3 : Int32) (10 : Int32) s42 s52) [(.int (0 : Int32)), (.ref wB), (.long (((own_run 10 0 (own_run 10 0 (own_run 10 0 vs0))).getD 0 0) + (19 : Int64)))])) rfl rfl (hb hby dE_104)) ?_
  show OG _ _ _ _ _ _ _ (T15.setTop (mkF m 105 (own_L10 f ah (3 : Int32) (10 : Int32) s42 s52) [(.int (26 : Int32)), (.long (((own_run 10 0 (own_run 10 0 (own_run 10 0 vs0))).getD 0 0) + (19 : Int64)))]))
  refine OG.of (A := T15.setTop (mkF m 110 (own_L17 f ah ((((own_run 10 0 (own_run 10 0 (own_run 10 0 vs0))).getD 0 0) + (19 : Int64)) >>> ((26 : Int32).toInt64 &&& 63)) (1 : Int32)) [])) (fun oT oK => ?_) ?_
  · skip
    refine XT.lshr X15.here hx rfl (hb hby dE_105) rfl ?_
    show Steps p.tables e below (T15.setTop (mkF m 106 (own_L10 f ah (3 : Int32) (10 : Int32) s42 s52) [(.long ((((own_run 10 0 (own_run 10 0 (own_run 10 0 vs0))).getD 0 0) + (19 : Int64)) >>> ((26 : Int32).toInt64 &&& 63)))])) _
    refine XT.lstoreN X15.here hx rfl (hb hby dE_106) rfl (l' := (own_L16 f ah ((((own_run 10 0 (own_run 10 0 (own_run 10 0 vs0))).getD 0 0) + (19 : Int64)) >>> ((26 : Int32).toInt64 &&& 63)) s42 s52)) rfl ?_
    refine XS.iconst X15.here hx rfl (hb hby dE_107) ?_
    show Steps p.tables e below (T15.setTop (mkF m 108 (own_L16 f ah ((((own_run 10 0 (own_run 10 0 (own_run 10 0 vs0))).getD 0 0) + (19 : Int64)) >>> ((26 : Int32).toInt64 &&& 63)) s42 s52) [(.int (1 : Int32))])) _
    refine XS.istore X15.here hx rfl (hb hby dE_108) rfl (l' := (own_L17 f ah ((((own_run 10 0 (own_run 10 0 (own_run 10 0 vs0))).getD 0 0) + (19 : Int64)) >>> ((26 : Int32).toInt64 &&& 63)) (1 : Int32))) (own_os4I tw2) ?_
    exact oK
  show OG _ _ _ _ _ _ _ (T15.setTop (mkF m 110 (own_L17 f ah (own_qq 0 (own_run 10 0 (own_run 10 0 (own_run 10 0 vs0)))) (1 : Int32)) []))
  refine OG.of (A := T15.setTop (mkF m 120 (own_L17 f ah (own_qq 0 (own_run 10 0 (own_run 10 0 (own_run 10 0 vs0)))) (1 : Int32)) [(.int (1 : Int32)), (.ref ah)])) (fun oT oK => ?_) ?_
  · skip
    refine XS.iload X15.here hx rfl (hb hby dE_110) rfl  ?_
    show Steps p.tables e below (T15.setTop (mkF m 112 (own_L17 f ah (own_qq 0 (own_run 10 0 (own_run 10 0 (own_run 10 0 vs0)))) (1 : Int32)) [(.int (1 : Int32))])) _
    refine XS.bipush X15.here hx rfl (hb hby dE_112) ?_
    show Steps p.tables e below (T15.setTop (mkF m 114 (own_L17 f ah (own_qq 0 (own_run 10 0 (own_run 10 0 (own_run 10 0 vs0)))) (1 : Int32)) [(.int (10 : Int32)), (.int (1 : Int32))])) _
    refine XS.icmpNo X15.here hx rfl (hb hby dE_114) rfl (XT.ii_ge_f (by decide)) ?_
    show Steps p.tables e below (T15.setTop (mkF m 117 (own_L17 f ah (own_qq 0 (own_run 10 0 (own_run 10 0 (own_run 10 0 vs0)))) (1 : Int32)) [])) _
    refine XS.aloadN X15.here hx rfl (hb hby dE_117) rfl rfl  ?_
    refine XS.iload X15.here hx rfl (hb hby dE_118) rfl  ?_
    exact oK
  obtain ⟨clf36, Arf36, If36, Hf36⟩ := own_rdL V2r ((own_run_len ..).trans ((own_run_len ..).trans ((own_run_len ..).trans hl0))) (j := (1 : Int32)) (i := 1) rfl (by decide)
  refine OG.of (X15.laload hx (j := (1 : Int32)) (v := (.long ((own_run 10 0 (own_run 10 0 (own_run 10 0 vs0))).getD 1 0))) (by rw [e15]; exact Arf36.1) (State.isArrayOf_alike hZ.alike Arf36.2.1) Arf36.2.2 If36 Hf36 (g := (mkF m 120 (own_L17 f ah (own_qq 0 (own_run 10 0 (own_run 10 0 (own_run 10 0 vs0)))) (1 : Int32)) [(.int (1 : Int32)), (.ref ah)])) rfl rfl (hb hby dE_120)) ?_
  show OG _ _ _ _ _ _ _ (T15.setTop (mkF m 121 (own_L17 f ah (own_qq 0 (own_run 10 0 (own_run 10 0 (own_run 10 0 vs0)))) (1 : Int32)) [(.long ((own_run 10 0 (own_run 10 0 (own_run 10 0 vs0))).getD 1 0))]))
  refine OG.of (A := T15.setTop (mkF m 123 (own_L17 f ah (own_qq 0 (own_run 10 0 (own_run 10 0 (own_run 10 0 vs0)))) (1 : Int32)) [(.long (((own_run 10 0 (own_run 10 0 (own_run 10 0 vs0))).getD 1 0) + (own_qq 0 (own_run 10 0 (own_run 10 0 (own_run 10 0 vs0))))))])) (fun oT oK => ?_) ?_
  · skip
    refine XT.lloadN X15.here hx rfl (hb hby dE_121) rfl  ?_
    show Steps p.tables e below (T15.setTop (mkF m 122 (own_L17 f ah (own_qq 0 (own_run 10 0 (own_run 10 0 (own_run 10 0 vs0)))) (1 : Int32)) [(.long (own_qq 0 (own_run 10 0 (own_run 10 0 (own_run 10 0 vs0))))), (.long ((own_run 10 0 (own_run 10 0 (own_run 10 0 vs0))).getD 1 0))])) _
    refine XT.ladd X15.here hx rfl (hb hby dE_122) rfl ?_
    exact oK
  obtain ⟨T16, X16, e16, st16⟩ := getS2 X15 hx hZ hown (host := "") (Or.inl (own_at hw 8 rfl)) Via.refl e15 (SB.ext (O2r).2) (g := (mkF m 123 (own_L17 f ah (own_qq 0 (own_run 10 0 (own_run 10 0 (own_run 10 0 vs0)))) (1 : Int32)) [(.long (((own_run 10 0 (own_run 10 0 (own_run 10 0 vs0))).getD 1 0) + (own_qq 0 (own_run 10 0 (own_run 10 0 (own_run 10 0 vs0))))))])) rfl (hb hby dE_123)
  refine OG.of st16 ?_
  show OG _ _ _ _ _ _ _ (T16.setTop (mkF m 126 (own_L17 f ah (own_qq 0 (own_run 10 0 (own_run 10 0 (own_run 10 0 vs0)))) (1 : Int32)) [(.ref wB), (.long (((own_run 10 0 (own_run 10 0 (own_run 10 0 vs0))).getD 1 0) + (own_qq 0 (own_run 10 0 (own_run 10 0 (own_run 10 0 vs0))))))]))
  refine OG.of (A := T16.setTop (mkF m 128 (own_L17 f ah (own_qq 0 (own_run 10 0 (own_run 10 0 (own_run 10 0 vs0)))) (1 : Int32)) [(.int (1 : Int32)), (.ref wB), (.long (((own_run 10 0 (own_run 10 0 (own_run 10 0 vs0))).getD 1 0) + (own_qq 0 (own_run 10 0 (own_run 10 0 (own_run 10 0 vs0))))))])) (fun oT oK => ?_) ?_
  · skip
    refine XS.iload X16.here hx rfl (hb hby dE_126) rfl  ?_
    exact oK
  have cf37 := ((TB 1 (by decide)).ext (O2r).2)
  obtain ⟨clf37, Arf37, If37, Hf37⟩ := cf37
  refine OG.of (X16.iaload hx (j := (1 : Int32)) (v := (.int (25 : Int32))) (by rw [e16]; exact Arf37.1) (State.isArrayOf_alike hZ.alike Arf37.2.1) Arf37.2.2 If37 Hf37 (g := (mkF m 128 (own_L17 f ah (own_qq 0 (own_run 10 0 (own_run 10 0 (own_run 10 0 vs0)))) (1 : Int32)) [(.int (1 : Int32)), (.ref wB), (.long (((own_run 10 0 (own_run 10 0 (own_run 10 0 vs0))).getD 1 0) + (own_qq 0 (own_run 10 0 (own_run 10 0 (own_run 10 0 vs0))))))])) rfl rfl (hb hby dE_128)) ?_
  show OG _ _ _ _ _ _ _ (T16.setTop (mkF m 129 (own_L17 f ah (own_qq 0 (own_run 10 0 (own_run 10 0 (own_run 10 0 vs0)))) (1 : Int32)) [(.int (25 : Int32)), (.long (((own_run 10 0 (own_run 10 0 (own_run 10 0 vs0))).getD 1 0) + (own_qq 0 (own_run 10 0 (own_run 10 0 (own_run 10 0 vs0))))))]))
  refine OG.of (A := T16.setTop (mkF m 110 (own_L17 f ah ((((own_run 10 0 (own_run 10 0 (own_run 10 0 vs0))).getD 1 0) + (own_qq 0 (own_run 10 0 (own_run 10 0 (own_run 10 0 vs0))))) >>> ((25 : Int32).toInt64 &&& 63)) (2 : Int32)) [])) (fun oT oK => ?_) ?_
  · skip
    refine XT.lshr X16.here hx rfl (hb hby dE_129) rfl ?_
    show Steps p.tables e below (T16.setTop (mkF m 130 (own_L17 f ah (own_qq 0 (own_run 10 0 (own_run 10 0 (own_run 10 0 vs0)))) (1 : Int32)) [(.long ((((own_run 10 0 (own_run 10 0 (own_run 10 0 vs0))).getD 1 0) + (own_qq 0 (own_run 10 0 (own_run 10 0 (own_run 10 0 vs0))))) >>> ((25 : Int32).toInt64 &&& 63)))])) _
    refine XT.lstoreN X16.here hx rfl (hb hby dE_130) rfl (l' := (own_L17 f ah ((((own_run 10 0 (own_run 10 0 (own_run 10 0 vs0))).getD 1 0) + (own_qq 0 (own_run 10 0 (own_run 10 0 (own_run 10 0 vs0))))) >>> ((25 : Int32).toInt64 &&& 63)) (1 : Int32))) rfl ?_
    refine XS.iinc X16.here hx rfl (hb hby dE_131) rfl (l' := (own_L17 f ah ((((own_run 10 0 (own_run 10 0 (own_run 10 0 vs0))).getD 1 0) + (own_qq 0 (own_run 10 0 (own_run 10 0 (own_run 10 0 vs0))))) >>> ((25 : Int32).toInt64 &&& 63)) (2 : Int32))) rfl ?_
    show Steps p.tables e below (T16.setTop (mkF m 134 (own_L17 f ah ((((own_run 10 0 (own_run 10 0 (own_run 10 0 vs0))).getD 1 0) + (own_qq 0 (own_run 10 0 (own_run 10 0 (own_run 10 0 vs0))))) >>> ((25 : Int32).toInt64 &&& 63)) (2 : Int32)) [])) _
    refine XS.goto X16.here hx rfl (pc0 := 134) (pc' := 110) rfl (hb hby dE_134) (by decide) (by decide) ?_
    exact oK
  show OG _ _ _ _ _ _ _ (T16.setTop (mkF m 110 (own_L17 f ah (own_qq 1 (own_run 10 0 (own_run 10 0 (own_run 10 0 vs0)))) (2 : Int32)) []))
  refine OG.of (A := T16.setTop (mkF m 120 (own_L17 f ah (own_qq 1 (own_run 10 0 (own_run 10 0 (own_run 10 0 vs0)))) (2 : Int32)) [(.int (2 : Int32)), (.ref ah)])) (fun oT oK => ?_) ?_
  · skip
    refine XS.iload X16.here hx rfl (hb hby dE_110) rfl  ?_
    show Steps p.tables e below (T16.setTop (mkF m 112 (own_L17 f ah (own_qq 1 (own_run 10 0 (own_run 10 0 (own_run 10 0 vs0)))) (2 : Int32)) [(.int (2 : Int32))])) _
    refine XS.bipush X16.here hx rfl (hb hby dE_112) ?_
    show Steps p.tables e below (T16.setTop (mkF m 114 (own_L17 f ah (own_qq 1 (own_run 10 0 (own_run 10 0 (own_run 10 0 vs0)))) (2 : Int32)) [(.int (10 : Int32)), (.int (2 : Int32))])) _
    refine XS.icmpNo X16.here hx rfl (hb hby dE_114) rfl (XT.ii_ge_f (by decide)) ?_
    show Steps p.tables e below (T16.setTop (mkF m 117 (own_L17 f ah (own_qq 1 (own_run 10 0 (own_run 10 0 (own_run 10 0 vs0)))) (2 : Int32)) [])) _
    refine XS.aloadN X16.here hx rfl (hb hby dE_117) rfl rfl  ?_
    refine XS.iload X16.here hx rfl (hb hby dE_118) rfl  ?_
    exact oK
  obtain ⟨clf38, Arf38, If38, Hf38⟩ := own_rdL V2r ((own_run_len ..).trans ((own_run_len ..).trans ((own_run_len ..).trans hl0))) (j := (2 : Int32)) (i := 2) rfl (by decide)
  refine OG.of (X16.laload hx (j := (2 : Int32)) (v := (.long ((own_run 10 0 (own_run 10 0 (own_run 10 0 vs0))).getD 2 0))) (by rw [e16]; exact Arf38.1) (State.isArrayOf_alike hZ.alike Arf38.2.1) Arf38.2.2 If38 Hf38 (g := (mkF m 120 (own_L17 f ah (own_qq 1 (own_run 10 0 (own_run 10 0 (own_run 10 0 vs0)))) (2 : Int32)) [(.int (2 : Int32)), (.ref ah)])) rfl rfl (hb hby dE_120)) ?_
  show OG _ _ _ _ _ _ _ (T16.setTop (mkF m 121 (own_L17 f ah (own_qq 1 (own_run 10 0 (own_run 10 0 (own_run 10 0 vs0)))) (2 : Int32)) [(.long ((own_run 10 0 (own_run 10 0 (own_run 10 0 vs0))).getD 2 0))]))
  refine OG.of (A := T16.setTop (mkF m 123 (own_L17 f ah (own_qq 1 (own_run 10 0 (own_run 10 0 (own_run 10 0 vs0)))) (2 : Int32)) [(.long (((own_run 10 0 (own_run 10 0 (own_run 10 0 vs0))).getD 2 0) + (own_qq 1 (own_run 10 0 (own_run 10 0 (own_run 10 0 vs0))))))])) (fun oT oK => ?_) ?_
  · skip
    refine XT.lloadN X16.here hx rfl (hb hby dE_121) rfl  ?_
    show Steps p.tables e below (T16.setTop (mkF m 122 (own_L17 f ah (own_qq 1 (own_run 10 0 (own_run 10 0 (own_run 10 0 vs0)))) (2 : Int32)) [(.long (own_qq 1 (own_run 10 0 (own_run 10 0 (own_run 10 0 vs0))))), (.long ((own_run 10 0 (own_run 10 0 (own_run 10 0 vs0))).getD 2 0))])) _
    refine XT.ladd X16.here hx rfl (hb hby dE_122) rfl ?_
    exact oK
  obtain ⟨T17, X17, e17, st17⟩ := getS2 X16 hx hZ hown (host := "") (Or.inl (own_at hw 8 rfl)) Via.refl e16 (SB.ext (O2r).2) (g := (mkF m 123 (own_L17 f ah (own_qq 1 (own_run 10 0 (own_run 10 0 (own_run 10 0 vs0)))) (2 : Int32)) [(.long (((own_run 10 0 (own_run 10 0 (own_run 10 0 vs0))).getD 2 0) + (own_qq 1 (own_run 10 0 (own_run 10 0 (own_run 10 0 vs0))))))])) rfl (hb hby dE_123)
  refine OG.of st17 ?_
  show OG _ _ _ _ _ _ _ (T17.setTop (mkF m 126 (own_L17 f ah (own_qq 1 (own_run 10 0 (own_run 10 0 (own_run 10 0 vs0)))) (2 : Int32)) [(.ref wB), (.long (((own_run 10 0 (own_run 10 0 (own_run 10 0 vs0))).getD 2 0) + (own_qq 1 (own_run 10 0 (own_run 10 0 (own_run 10 0 vs0))))))]))
  refine OG.of (A := T17.setTop (mkF m 128 (own_L17 f ah (own_qq 1 (own_run 10 0 (own_run 10 0 (own_run 10 0 vs0)))) (2 : Int32)) [(.int (2 : Int32)), (.ref wB), (.long (((own_run 10 0 (own_run 10 0 (own_run 10 0 vs0))).getD 2 0) + (own_qq 1 (own_run 10 0 (own_run 10 0 (own_run 10 0 vs0))))))])) (fun oT oK => ?_) ?_
  · skip
    refine XS.iload X17.here hx rfl (hb hby dE_126) rfl  ?_
    exact oK
  have cf39 := ((TB 2 (by decide)).ext (O2r).2)
  obtain ⟨clf39, Arf39, If39, Hf39⟩ := cf39
  refine OG.of (X17.iaload hx (j := (2 : Int32)) (v := (.int (26 : Int32))) (by rw [e17]; exact Arf39.1) (State.isArrayOf_alike hZ.alike Arf39.2.1) Arf39.2.2 If39 Hf39 (g := (mkF m 128 (own_L17 f ah (own_qq 1 (own_run 10 0 (own_run 10 0 (own_run 10 0 vs0)))) (2 : Int32)) [(.int (2 : Int32)), (.ref wB), (.long (((own_run 10 0 (own_run 10 0 (own_run 10 0 vs0))).getD 2 0) + (own_qq 1 (own_run 10 0 (own_run 10 0 (own_run 10 0 vs0))))))])) rfl rfl (hb hby dE_128)) ?_
  show OG _ _ _ _ _ _ _ (T17.setTop (mkF m 129 (own_L17 f ah (own_qq 1 (own_run 10 0 (own_run 10 0 (own_run 10 0 vs0)))) (2 : Int32)) [(.int (26 : Int32)), (.long (((own_run 10 0 (own_run 10 0 (own_run 10 0 vs0))).getD 2 0) + (own_qq 1 (own_run 10 0 (own_run 10 0 (own_run 10 0 vs0))))))]))
  refine OG.of (A := T17.setTop (mkF m 110 (own_L17 f ah ((((own_run 10 0 (own_run 10 0 (own_run 10 0 vs0))).getD 2 0) + (own_qq 1 (own_run 10 0 (own_run 10 0 (own_run 10 0 vs0))))) >>> ((26 : Int32).toInt64 &&& 63)) (3 : Int32)) [])) (fun oT oK => ?_) ?_
  · skip
    refine XT.lshr X17.here hx rfl (hb hby dE_129) rfl ?_
    show Steps p.tables e below (T17.setTop (mkF m 130 (own_L17 f ah (own_qq 1 (own_run 10 0 (own_run 10 0 (own_run 10 0 vs0)))) (2 : Int32)) [(.long ((((own_run 10 0 (own_run 10 0 (own_run 10 0 vs0))).getD 2 0) + (own_qq 1 (own_run 10 0 (own_run 10 0 (own_run 10 0 vs0))))) >>> ((26 : Int32).toInt64 &&& 63)))])) _
    refine XT.lstoreN X17.here hx rfl (hb hby dE_130) rfl (l' := (own_L17 f ah ((((own_run 10 0 (own_run 10 0 (own_run 10 0 vs0))).getD 2 0) + (own_qq 1 (own_run 10 0 (own_run 10 0 (own_run 10 0 vs0))))) >>> ((26 : Int32).toInt64 &&& 63)) (2 : Int32))) rfl ?_
    refine XS.iinc X17.here hx rfl (hb hby dE_131) rfl (l' := (own_L17 f ah ((((own_run 10 0 (own_run 10 0 (own_run 10 0 vs0))).getD 2 0) + (own_qq 1 (own_run 10 0 (own_run 10 0 (own_run 10 0 vs0))))) >>> ((26 : Int32).toInt64 &&& 63)) (3 : Int32))) rfl ?_
    show Steps p.tables e below (T17.setTop (mkF m 134 (own_L17 f ah ((((own_run 10 0 (own_run 10 0 (own_run 10 0 vs0))).getD 2 0) + (own_qq 1 (own_run 10 0 (own_run 10 0 (own_run 10 0 vs0))))) >>> ((26 : Int32).toInt64 &&& 63)) (3 : Int32)) [])) _
    refine XS.goto X17.here hx rfl (pc0 := 134) (pc' := 110) rfl (hb hby dE_134) (by decide) (by decide) ?_
    exact oK
  show OG _ _ _ _ _ _ _ (T17.setTop (mkF m 110 (own_L17 f ah (own_qq 2 (own_run 10 0 (own_run 10 0 (own_run 10 0 vs0)))) (3 : Int32)) []))
  refine OG.of (A := T17.setTop (mkF m 120 (own_L17 f ah (own_qq 2 (own_run 10 0 (own_run 10 0 (own_run 10 0 vs0)))) (3 : Int32)) [(.int (3 : Int32)), (.ref ah)])) (fun oT oK => ?_) ?_
  · skip
    refine XS.iload X17.here hx rfl (hb hby dE_110) rfl  ?_
    show Steps p.tables e below (T17.setTop (mkF m 112 (own_L17 f ah (own_qq 2 (own_run 10 0 (own_run 10 0 (own_run 10 0 vs0)))) (3 : Int32)) [(.int (3 : Int32))])) _
    refine XS.bipush X17.here hx rfl (hb hby dE_112) ?_
    show Steps p.tables e below (T17.setTop (mkF m 114 (own_L17 f ah (own_qq 2 (own_run 10 0 (own_run 10 0 (own_run 10 0 vs0)))) (3 : Int32)) [(.int (10 : Int32)), (.int (3 : Int32))])) _
    refine XS.icmpNo X17.here hx rfl (hb hby dE_114) rfl (XT.ii_ge_f (by decide)) ?_
    show Steps p.tables e below (T17.setTop (mkF m 117 (own_L17 f ah (own_qq 2 (own_run 10 0 (own_run 10 0 (own_run 10 0 vs0)))) (3 : Int32)) [])) _
    refine XS.aloadN X17.here hx rfl (hb hby dE_117) rfl rfl  ?_
    refine XS.iload X17.here hx rfl (hb hby dE_118) rfl  ?_
    exact oK
  obtain ⟨clf40, Arf40, If40, Hf40⟩ := own_rdL V2r ((own_run_len ..).trans ((own_run_len ..).trans ((own_run_len ..).trans hl0))) (j := (3 : Int32)) (i := 3) rfl (by decide)
  refine OG.of (X17.laload hx (j := (3 : Int32)) (v := (.long ((own_run 10 0 (own_run 10 0 (own_run 10 0 vs0))).getD 3 0))) (by rw [e17]; exact Arf40.1) (State.isArrayOf_alike hZ.alike Arf40.2.1) Arf40.2.2 If40 Hf40 (g := (mkF m 120 (own_L17 f ah (own_qq 2 (own_run 10 0 (own_run 10 0 (own_run 10 0 vs0)))) (3 : Int32)) [(.int (3 : Int32)), (.ref ah)])) rfl rfl (hb hby dE_120)) ?_
  show OG _ _ _ _ _ _ _ (T17.setTop (mkF m 121 (own_L17 f ah (own_qq 2 (own_run 10 0 (own_run 10 0 (own_run 10 0 vs0)))) (3 : Int32)) [(.long ((own_run 10 0 (own_run 10 0 (own_run 10 0 vs0))).getD 3 0))]))
  refine OG.of (A := T17.setTop (mkF m 123 (own_L17 f ah (own_qq 2 (own_run 10 0 (own_run 10 0 (own_run 10 0 vs0)))) (3 : Int32)) [(.long (((own_run 10 0 (own_run 10 0 (own_run 10 0 vs0))).getD 3 0) + (own_qq 2 (own_run 10 0 (own_run 10 0 (own_run 10 0 vs0))))))])) (fun oT oK => ?_) ?_
  · skip
    refine XT.lloadN X17.here hx rfl (hb hby dE_121) rfl  ?_
    show Steps p.tables e below (T17.setTop (mkF m 122 (own_L17 f ah (own_qq 2 (own_run 10 0 (own_run 10 0 (own_run 10 0 vs0)))) (3 : Int32)) [(.long (own_qq 2 (own_run 10 0 (own_run 10 0 (own_run 10 0 vs0))))), (.long ((own_run 10 0 (own_run 10 0 (own_run 10 0 vs0))).getD 3 0))])) _
    refine XT.ladd X17.here hx rfl (hb hby dE_122) rfl ?_
    exact oK
  obtain ⟨T18, X18, e18, st18⟩ := getS2 X17 hx hZ hown (host := "") (Or.inl (own_at hw 8 rfl)) Via.refl e17 (SB.ext (O2r).2) (g := (mkF m 123 (own_L17 f ah (own_qq 2 (own_run 10 0 (own_run 10 0 (own_run 10 0 vs0)))) (3 : Int32)) [(.long (((own_run 10 0 (own_run 10 0 (own_run 10 0 vs0))).getD 3 0) + (own_qq 2 (own_run 10 0 (own_run 10 0 (own_run 10 0 vs0))))))])) rfl (hb hby dE_123)
  refine OG.of st18 ?_
  show OG _ _ _ _ _ _ _ (T18.setTop (mkF m 126 (own_L17 f ah (own_qq 2 (own_run 10 0 (own_run 10 0 (own_run 10 0 vs0)))) (3 : Int32)) [(.ref wB), (.long (((own_run 10 0 (own_run 10 0 (own_run 10 0 vs0))).getD 3 0) + (own_qq 2 (own_run 10 0 (own_run 10 0 (own_run 10 0 vs0))))))]))
  refine OG.of (A := T18.setTop (mkF m 128 (own_L17 f ah (own_qq 2 (own_run 10 0 (own_run 10 0 (own_run 10 0 vs0)))) (3 : Int32)) [(.int (3 : Int32)), (.ref wB), (.long (((own_run 10 0 (own_run 10 0 (own_run 10 0 vs0))).getD 3 0) + (own_qq 2 (own_run 10 0 (own_run 10 0 (own_run 10 0 vs0))))))])) (fun oT oK => ?_) ?_
  · skip
    refine XS.iload X18.here hx rfl (hb hby dE_126) rfl  ?_
    exact oK
  have cf41 := ((TB 3 (by decide)).ext (O2r).2)
  obtain ⟨clf41, Arf41, If41, Hf41⟩ := cf41
  refine OG.of (X18.iaload hx (j := (3 : Int32)) (v := (.int (25 : Int32))) (by rw [e18]; exact Arf41.1) (State.isArrayOf_alike hZ.alike Arf41.2.1) Arf41.2.2 If41 Hf41 (g := (mkF m 128 (own_L17 f ah (own_qq 2 (own_run 10 0 (own_run 10 0 (own_run 10 0 vs0)))) (3 : Int32)) [(.int (3 : Int32)), (.ref wB), (.long (((own_run 10 0 (own_run 10 0 (own_run 10 0 vs0))).getD 3 0) + (own_qq 2 (own_run 10 0 (own_run 10 0 (own_run 10 0 vs0))))))])) rfl rfl (hb hby dE_128)) ?_
  show OG _ _ _ _ _ _ _ (T18.setTop (mkF m 129 (own_L17 f ah (own_qq 2 (own_run 10 0 (own_run 10 0 (own_run 10 0 vs0)))) (3 : Int32)) [(.int (25 : Int32)), (.long (((own_run 10 0 (own_run 10 0 (own_run 10 0 vs0))).getD 3 0) + (own_qq 2 (own_run 10 0 (own_run 10 0 (own_run 10 0 vs0))))))]))
  refine OG.of (A := T18.setTop (mkF m 110 (own_L17 f ah ((((own_run 10 0 (own_run 10 0 (own_run 10 0 vs0))).getD 3 0) + (own_qq 2 (own_run 10 0 (own_run 10 0 (own_run 10 0 vs0))))) >>> ((25 : Int32).toInt64 &&& 63)) (4 : Int32)) [])) (fun oT oK => ?_) ?_
  · skip
    refine XT.lshr X18.here hx rfl (hb hby dE_129) rfl ?_
    show Steps p.tables e below (T18.setTop (mkF m 130 (own_L17 f ah (own_qq 2 (own_run 10 0 (own_run 10 0 (own_run 10 0 vs0)))) (3 : Int32)) [(.long ((((own_run 10 0 (own_run 10 0 (own_run 10 0 vs0))).getD 3 0) + (own_qq 2 (own_run 10 0 (own_run 10 0 (own_run 10 0 vs0))))) >>> ((25 : Int32).toInt64 &&& 63)))])) _
    refine XT.lstoreN X18.here hx rfl (hb hby dE_130) rfl (l' := (own_L17 f ah ((((own_run 10 0 (own_run 10 0 (own_run 10 0 vs0))).getD 3 0) + (own_qq 2 (own_run 10 0 (own_run 10 0 (own_run 10 0 vs0))))) >>> ((25 : Int32).toInt64 &&& 63)) (3 : Int32))) rfl ?_
    refine XS.iinc X18.here hx rfl (hb hby dE_131) rfl (l' := (own_L17 f ah ((((own_run 10 0 (own_run 10 0 (own_run 10 0 vs0))).getD 3 0) + (own_qq 2 (own_run 10 0 (own_run 10 0 (own_run 10 0 vs0))))) >>> ((25 : Int32).toInt64 &&& 63)) (4 : Int32))) rfl ?_
    show Steps p.tables e below (T18.setTop (mkF m 134 (own_L17 f ah ((((own_run 10 0 (own_run 10 0 (own_run 10 0 vs0))).getD 3 0) + (own_qq 2 (own_run 10 0 (own_run 10 0 (own_run 10 0 vs0))))) >>> ((25 : Int32).toInt64 &&& 63)) (4 : Int32)) [])) _
    refine XS.goto X18.here hx rfl (pc0 := 134) (pc' := 110) rfl (hb hby dE_134) (by decide) (by decide) ?_
    exact oK
  show OG _ _ _ _ _ _ _ (T18.setTop (mkF m 110 (own_L17 f ah (own_qq 3 (own_run 10 0 (own_run 10 0 (own_run 10 0 vs0)))) (4 : Int32)) []))
  refine OG.of (A := T18.setTop (mkF m 120 (own_L17 f ah (own_qq 3 (own_run 10 0 (own_run 10 0 (own_run 10 0 vs0)))) (4 : Int32)) [(.int (4 : Int32)), (.ref ah)])) (fun oT oK => ?_) ?_
  · skip
    refine XS.iload X18.here hx rfl (hb hby dE_110) rfl  ?_
    show Steps p.tables e below (T18.setTop (mkF m 112 (own_L17 f ah (own_qq 3 (own_run 10 0 (own_run 10 0 (own_run 10 0 vs0)))) (4 : Int32)) [(.int (4 : Int32))])) _
    refine XS.bipush X18.here hx rfl (hb hby dE_112) ?_
    show Steps p.tables e below (T18.setTop (mkF m 114 (own_L17 f ah (own_qq 3 (own_run 10 0 (own_run 10 0 (own_run 10 0 vs0)))) (4 : Int32)) [(.int (10 : Int32)), (.int (4 : Int32))])) _
    refine XS.icmpNo X18.here hx rfl (hb hby dE_114) rfl (XT.ii_ge_f (by decide)) ?_
    show Steps p.tables e below (T18.setTop (mkF m 117 (own_L17 f ah (own_qq 3 (own_run 10 0 (own_run 10 0 (own_run 10 0 vs0)))) (4 : Int32)) [])) _
    refine XS.aloadN X18.here hx rfl (hb hby dE_117) rfl rfl  ?_
    refine XS.iload X18.here hx rfl (hb hby dE_118) rfl  ?_
    exact oK
  obtain ⟨clf42, Arf42, If42, Hf42⟩ := own_rdL V2r ((own_run_len ..).trans ((own_run_len ..).trans ((own_run_len ..).trans hl0))) (j := (4 : Int32)) (i := 4) rfl (by decide)
  refine OG.of (X18.laload hx (j := (4 : Int32)) (v := (.long ((own_run 10 0 (own_run 10 0 (own_run 10 0 vs0))).getD 4 0))) (by rw [e18]; exact Arf42.1) (State.isArrayOf_alike hZ.alike Arf42.2.1) Arf42.2.2 If42 Hf42 (g := (mkF m 120 (own_L17 f ah (own_qq 3 (own_run 10 0 (own_run 10 0 (own_run 10 0 vs0)))) (4 : Int32)) [(.int (4 : Int32)), (.ref ah)])) rfl rfl (hb hby dE_120)) ?_
  show OG _ _ _ _ _ _ _ (T18.setTop (mkF m 121 (own_L17 f ah (own_qq 3 (own_run 10 0 (own_run 10 0 (own_run 10 0 vs0)))) (4 : Int32)) [(.long ((own_run 10 0 (own_run 10 0 (own_run 10 0 vs0))).getD 4 0))]))
  refine OG.of (A := T18.setTop (mkF m 123 (own_L17 f ah (own_qq 3 (own_run 10 0 (own_run 10 0 (own_run 10 0 vs0)))) (4 : Int32)) [(.long (((own_run 10 0 (own_run 10 0 (own_run 10 0 vs0))).getD 4 0) + (own_qq 3 (own_run 10 0 (own_run 10 0 (own_run 10 0 vs0))))))])) (fun oT oK => ?_) ?_
  · skip
    refine XT.lloadN X18.here hx rfl (hb hby dE_121) rfl  ?_
    show Steps p.tables e below (T18.setTop (mkF m 122 (own_L17 f ah (own_qq 3 (own_run 10 0 (own_run 10 0 (own_run 10 0 vs0)))) (4 : Int32)) [(.long (own_qq 3 (own_run 10 0 (own_run 10 0 (own_run 10 0 vs0))))), (.long ((own_run 10 0 (own_run 10 0 (own_run 10 0 vs0))).getD 4 0))])) _
    refine XT.ladd X18.here hx rfl (hb hby dE_122) rfl ?_
    exact oK
  obtain ⟨T19, X19, e19, st19⟩ := getS2 X18 hx hZ hown (host := "") (Or.inl (own_at hw 8 rfl)) Via.refl e18 (SB.ext (O2r).2) (g := (mkF m 123 (own_L17 f ah (own_qq 3 (own_run 10 0 (own_run 10 0 (own_run 10 0 vs0)))) (4 : Int32)) [(.long (((own_run 10 0 (own_run 10 0 (own_run 10 0 vs0))).getD 4 0) + (own_qq 3 (own_run 10 0 (own_run 10 0 (own_run 10 0 vs0))))))])) rfl (hb hby dE_123)
  refine OG.of st19 ?_
  show OG _ _ _ _ _ _ _ (T19.setTop (mkF m 126 (own_L17 f ah (own_qq 3 (own_run 10 0 (own_run 10 0 (own_run 10 0 vs0)))) (4 : Int32)) [(.ref wB), (.long (((own_run 10 0 (own_run 10 0 (own_run 10 0 vs0))).getD 4 0) + (own_qq 3 (own_run 10 0 (own_run 10 0 (own_run 10 0 vs0))))))]))
  refine OG.of (A := T19.setTop (mkF m 128 (own_L17 f ah (own_qq 3 (own_run 10 0 (own_run 10 0 (own_run 10 0 vs0)))) (4 : Int32)) [(.int (4 : Int32)), (.ref wB), (.long (((own_run 10 0 (own_run 10 0 (own_run 10 0 vs0))).getD 4 0) + (own_qq 3 (own_run 10 0 (own_run 10 0 (own_run 10 0 vs0))))))])) (fun oT oK => ?_) ?_
  · skip
    refine XS.iload X19.here hx rfl (hb hby dE_126) rfl  ?_
    exact oK
  have cf43 := ((TB 4 (by decide)).ext (O2r).2)
  obtain ⟨clf43, Arf43, If43, Hf43⟩ := cf43
  refine OG.of (X19.iaload hx (j := (4 : Int32)) (v := (.int (26 : Int32))) (by rw [e19]; exact Arf43.1) (State.isArrayOf_alike hZ.alike Arf43.2.1) Arf43.2.2 If43 Hf43 (g := (mkF m 128 (own_L17 f ah (own_qq 3 (own_run 10 0 (own_run 10 0 (own_run 10 0 vs0)))) (4 : Int32)) [(.int (4 : Int32)), (.ref wB), (.long (((own_run 10 0 (own_run 10 0 (own_run 10 0 vs0))).getD 4 0) + (own_qq 3 (own_run 10 0 (own_run 10 0 (own_run 10 0 vs0))))))])) rfl rfl (hb hby dE_128)) ?_
  show OG _ _ _ _ _ _ _ (T19.setTop (mkF m 129 (own_L17 f ah (own_qq 3 (own_run 10 0 (own_run 10 0 (own_run 10 0 vs0)))) (4 : Int32)) [(.int (26 : Int32)), (.long (((own_run 10 0 (own_run 10 0 (own_run 10 0 vs0))).getD 4 0) + (own_qq 3 (own_run 10 0 (own_run 10 0 (own_run 10 0 vs0))))))]))
  refine OG.of (A := T19.setTop (mkF m 110 (own_L17 f ah ((((own_run 10 0 (own_run 10 0 (own_run 10 0 vs0))).getD 4 0) + (own_qq 3 (own_run 10 0 (own_run 10 0 (own_run 10 0 vs0))))) >>> ((26 : Int32).toInt64 &&& 63)) (5 : Int32)) [])) (fun oT oK => ?_) ?_
  · skip
    refine XT.lshr X19.here hx rfl (hb hby dE_129) rfl ?_
    show Steps p.tables e below (T19.setTop (mkF m 130 (own_L17 f ah (own_qq 3 (own_run 10 0 (own_run 10 0 (own_run 10 0 vs0)))) (4 : Int32)) [(.long ((((own_run 10 0 (own_run 10 0 (own_run 10 0 vs0))).getD 4 0) + (own_qq 3 (own_run 10 0 (own_run 10 0 (own_run 10 0 vs0))))) >>> ((26 : Int32).toInt64 &&& 63)))])) _
    refine XT.lstoreN X19.here hx rfl (hb hby dE_130) rfl (l' := (own_L17 f ah ((((own_run 10 0 (own_run 10 0 (own_run 10 0 vs0))).getD 4 0) + (own_qq 3 (own_run 10 0 (own_run 10 0 (own_run 10 0 vs0))))) >>> ((26 : Int32).toInt64 &&& 63)) (4 : Int32))) rfl ?_
    refine XS.iinc X19.here hx rfl (hb hby dE_131) rfl (l' := (own_L17 f ah ((((own_run 10 0 (own_run 10 0 (own_run 10 0 vs0))).getD 4 0) + (own_qq 3 (own_run 10 0 (own_run 10 0 (own_run 10 0 vs0))))) >>> ((26 : Int32).toInt64 &&& 63)) (5 : Int32))) rfl ?_
    show Steps p.tables e below (T19.setTop (mkF m 134 (own_L17 f ah ((((own_run 10 0 (own_run 10 0 (own_run 10 0 vs0))).getD 4 0) + (own_qq 3 (own_run 10 0 (own_run 10 0 (own_run 10 0 vs0))))) >>> ((26 : Int32).toInt64 &&& 63)) (5 : Int32)) [])) _
    refine XS.goto X19.here hx rfl (pc0 := 134) (pc' := 110) rfl (hb hby dE_134) (by decide) (by decide) ?_
    exact oK
  show OG _ _ _ _ _ _ _ (T19.setTop (mkF m 110 (own_L17 f ah (own_qq 4 (own_run 10 0 (own_run 10 0 (own_run 10 0 vs0)))) (5 : Int32)) []))
  refine OG.of (A := T19.setTop (mkF m 120 (own_L17 f ah (own_qq 4 (own_run 10 0 (own_run 10 0 (own_run 10 0 vs0)))) (5 : Int32)) [(.int (5 : Int32)), (.ref ah)])) (fun oT oK => ?_) ?_
  · skip
    refine XS.iload X19.here hx rfl (hb hby dE_110) rfl  ?_
    show Steps p.tables e below (T19.setTop (mkF m 112 (own_L17 f ah (own_qq 4 (own_run 10 0 (own_run 10 0 (own_run 10 0 vs0)))) (5 : Int32)) [(.int (5 : Int32))])) _
    refine XS.bipush X19.here hx rfl (hb hby dE_112) ?_
    show Steps p.tables e below (T19.setTop (mkF m 114 (own_L17 f ah (own_qq 4 (own_run 10 0 (own_run 10 0 (own_run 10 0 vs0)))) (5 : Int32)) [(.int (10 : Int32)), (.int (5 : Int32))])) _
    refine XS.icmpNo X19.here hx rfl (hb hby dE_114) rfl (XT.ii_ge_f (by decide)) ?_
    show Steps p.tables e below (T19.setTop (mkF m 117 (own_L17 f ah (own_qq 4 (own_run 10 0 (own_run 10 0 (own_run 10 0 vs0)))) (5 : Int32)) [])) _
    refine XS.aloadN X19.here hx rfl (hb hby dE_117) rfl rfl  ?_
    refine XS.iload X19.here hx rfl (hb hby dE_118) rfl  ?_
    exact oK
  obtain ⟨clf44, Arf44, If44, Hf44⟩ := own_rdL V2r ((own_run_len ..).trans ((own_run_len ..).trans ((own_run_len ..).trans hl0))) (j := (5 : Int32)) (i := 5) rfl (by decide)
  refine OG.of (X19.laload hx (j := (5 : Int32)) (v := (.long ((own_run 10 0 (own_run 10 0 (own_run 10 0 vs0))).getD 5 0))) (by rw [e19]; exact Arf44.1) (State.isArrayOf_alike hZ.alike Arf44.2.1) Arf44.2.2 If44 Hf44 (g := (mkF m 120 (own_L17 f ah (own_qq 4 (own_run 10 0 (own_run 10 0 (own_run 10 0 vs0)))) (5 : Int32)) [(.int (5 : Int32)), (.ref ah)])) rfl rfl (hb hby dE_120)) ?_
  show OG _ _ _ _ _ _ _ (T19.setTop (mkF m 121 (own_L17 f ah (own_qq 4 (own_run 10 0 (own_run 10 0 (own_run 10 0 vs0)))) (5 : Int32)) [(.long ((own_run 10 0 (own_run 10 0 (own_run 10 0 vs0))).getD 5 0))]))
  refine OG.of (A := T19.setTop (mkF m 123 (own_L17 f ah (own_qq 4 (own_run 10 0 (own_run 10 0 (own_run 10 0 vs0)))) (5 : Int32)) [(.long (((own_run 10 0 (own_run 10 0 (own_run 10 0 vs0))).getD 5 0) + (own_qq 4 (own_run 10 0 (own_run 10 0 (own_run 10 0 vs0))))))])) (fun oT oK => ?_) ?_
  · skip
    refine XT.lloadN X19.here hx rfl (hb hby dE_121) rfl  ?_
    show Steps p.tables e below (T19.setTop (mkF m 122 (own_L17 f ah (own_qq 4 (own_run 10 0 (own_run 10 0 (own_run 10 0 vs0)))) (5 : Int32)) [(.long (own_qq 4 (own_run 10 0 (own_run 10 0 (own_run 10 0 vs0))))), (.long ((own_run 10 0 (own_run 10 0 (own_run 10 0 vs0))).getD 5 0))])) _
    refine XT.ladd X19.here hx rfl (hb hby dE_122) rfl ?_
    exact oK
  obtain ⟨T20, X20, e20, st20⟩ := getS2 X19 hx hZ hown (host := "") (Or.inl (own_at hw 8 rfl)) Via.refl e19 (SB.ext (O2r).2) (g := (mkF m 123 (own_L17 f ah (own_qq 4 (own_run 10 0 (own_run 10 0 (own_run 10 0 vs0)))) (5 : Int32)) [(.long (((own_run 10 0 (own_run 10 0 (own_run 10 0 vs0))).getD 5 0) + (own_qq 4 (own_run 10 0 (own_run 10 0 (own_run 10 0 vs0))))))])) rfl (hb hby dE_123)
  refine OG.of st20 ?_
  show OG _ _ _ _ _ _ _ (T20.setTop (mkF m 126 (own_L17 f ah (own_qq 4 (own_run 10 0 (own_run 10 0 (own_run 10 0 vs0)))) (5 : Int32)) [(.ref wB), (.long (((own_run 10 0 (own_run 10 0 (own_run 10 0 vs0))).getD 5 0) + (own_qq 4 (own_run 10 0 (own_run 10 0 (own_run 10 0 vs0))))))]))
  refine OG.of (A := T20.setTop (mkF m 128 (own_L17 f ah (own_qq 4 (own_run 10 0 (own_run 10 0 (own_run 10 0 vs0)))) (5 : Int32)) [(.int (5 : Int32)), (.ref wB), (.long (((own_run 10 0 (own_run 10 0 (own_run 10 0 vs0))).getD 5 0) + (own_qq 4 (own_run 10 0 (own_run 10 0 (own_run 10 0 vs0))))))])) (fun oT oK => ?_) ?_
  · skip
    refine XS.iload X20.here hx rfl (hb hby dE_126) rfl  ?_
    exact oK
  have cf45 := ((TB 5 (by decide)).ext (O2r).2)
  obtain ⟨clf45, Arf45, If45, Hf45⟩ := cf45
  refine OG.of (X20.iaload hx (j := (5 : Int32)) (v := (.int (25 : Int32))) (by rw [e20]; exact Arf45.1) (State.isArrayOf_alike hZ.alike Arf45.2.1) Arf45.2.2 If45 Hf45 (g := (mkF m 128 (own_L17 f ah (own_qq 4 (own_run 10 0 (own_run 10 0 (own_run 10 0 vs0)))) (5 : Int32)) [(.int (5 : Int32)), (.ref wB), (.long (((own_run 10 0 (own_run 10 0 (own_run 10 0 vs0))).getD 5 0) + (own_qq 4 (own_run 10 0 (own_run 10 0 (own_run 10 0 vs0))))))])) rfl rfl (hb hby dE_128)) ?_
  show OG _ _ _ _ _ _ _ (T20.setTop (mkF m 129 (own_L17 f ah (own_qq 4 (own_run 10 0 (own_run 10 0 (own_run 10 0 vs0)))) (5 : Int32)) [(.int (25 : Int32)), (.long (((own_run 10 0 (own_run 10 0 (own_run 10 0 vs0))).getD 5 0) + (own_qq 4 (own_run 10 0 (own_run 10 0 (own_run 10 0 vs0))))))]))
  refine OG.of (A := T20.setTop (mkF m 110 (own_L17 f ah ((((own_run 10 0 (own_run 10 0 (own_run 10 0 vs0))).getD 5 0) + (own_qq 4 (own_run 10 0 (own_run 10 0 (own_run 10 0 vs0))))) >>> ((25 : Int32).toInt64 &&& 63)) (6 : Int32)) [])) (fun oT oK => ?_) ?_
  · skip
    refine XT.lshr X20.here hx rfl (hb hby dE_129) rfl ?_
    show Steps p.tables e below (T20.setTop (mkF m 130 (own_L17 f ah (own_qq 4 (own_run 10 0 (own_run 10 0 (own_run 10 0 vs0)))) (5 : Int32)) [(.long ((((own_run 10 0 (own_run 10 0 (own_run 10 0 vs0))).getD 5 0) + (own_qq 4 (own_run 10 0 (own_run 10 0 (own_run 10 0 vs0))))) >>> ((25 : Int32).toInt64 &&& 63)))])) _
    refine XT.lstoreN X20.here hx rfl (hb hby dE_130) rfl (l' := (own_L17 f ah ((((own_run 10 0 (own_run 10 0 (own_run 10 0 vs0))).getD 5 0) + (own_qq 4 (own_run 10 0 (own_run 10 0 (own_run 10 0 vs0))))) >>> ((25 : Int32).toInt64 &&& 63)) (5 : Int32))) rfl ?_
    refine XS.iinc X20.here hx rfl (hb hby dE_131) rfl (l' := (own_L17 f ah ((((own_run 10 0 (own_run 10 0 (own_run 10 0 vs0))).getD 5 0) + (own_qq 4 (own_run 10 0 (own_run 10 0 (own_run 10 0 vs0))))) >>> ((25 : Int32).toInt64 &&& 63)) (6 : Int32))) rfl ?_
    show Steps p.tables e below (T20.setTop (mkF m 134 (own_L17 f ah ((((own_run 10 0 (own_run 10 0 (own_run 10 0 vs0))).getD 5 0) + (own_qq 4 (own_run 10 0 (own_run 10 0 (own_run 10 0 vs0))))) >>> ((25 : Int32).toInt64 &&& 63)) (6 : Int32)) [])) _
    refine XS.goto X20.here hx rfl (pc0 := 134) (pc' := 110) rfl (hb hby dE_134) (by decide) (by decide) ?_
    exact oK
  show OG _ _ _ _ _ _ _ (T20.setTop (mkF m 110 (own_L17 f ah (own_qq 5 (own_run 10 0 (own_run 10 0 (own_run 10 0 vs0)))) (6 : Int32)) []))
  refine OG.of (A := T20.setTop (mkF m 120 (own_L17 f ah (own_qq 5 (own_run 10 0 (own_run 10 0 (own_run 10 0 vs0)))) (6 : Int32)) [(.int (6 : Int32)), (.ref ah)])) (fun oT oK => ?_) ?_
  · skip
    refine XS.iload X20.here hx rfl (hb hby dE_110) rfl  ?_
    show Steps p.tables e below (T20.setTop (mkF m 112 (own_L17 f ah (own_qq 5 (own_run 10 0 (own_run 10 0 (own_run 10 0 vs0)))) (6 : Int32)) [(.int (6 : Int32))])) _
    refine XS.bipush X20.here hx rfl (hb hby dE_112) ?_
    show Steps p.tables e below (T20.setTop (mkF m 114 (own_L17 f ah (own_qq 5 (own_run 10 0 (own_run 10 0 (own_run 10 0 vs0)))) (6 : Int32)) [(.int (10 : Int32)), (.int (6 : Int32))])) _
    refine XS.icmpNo X20.here hx rfl (hb hby dE_114) rfl (XT.ii_ge_f (by decide)) ?_
    show Steps p.tables e below (T20.setTop (mkF m 117 (own_L17 f ah (own_qq 5 (own_run 10 0 (own_run 10 0 (own_run 10 0 vs0)))) (6 : Int32)) [])) _
    refine XS.aloadN X20.here hx rfl (hb hby dE_117) rfl rfl  ?_
    refine XS.iload X20.here hx rfl (hb hby dE_118) rfl  ?_
    exact oK
  obtain ⟨clf46, Arf46, If46, Hf46⟩ := own_rdL V2r ((own_run_len ..).trans ((own_run_len ..).trans ((own_run_len ..).trans hl0))) (j := (6 : Int32)) (i := 6) rfl (by decide)
  refine OG.of (X20.laload hx (j := (6 : Int32)) (v := (.long ((own_run 10 0 (own_run 10 0 (own_run 10 0 vs0))).getD 6 0))) (by rw [e20]; exact Arf46.1) (State.isArrayOf_alike hZ.alike Arf46.2.1) Arf46.2.2 If46 Hf46 (g := (mkF m 120 (own_L17 f ah (own_qq 5 (own_run 10 0 (own_run 10 0 (own_run 10 0 vs0)))) (6 : Int32)) [(.int (6 : Int32)), (.ref ah)])) rfl rfl (hb hby dE_120)) ?_
  show OG _ _ _ _ _ _ _ (T20.setTop (mkF m 121 (own_L17 f ah (own_qq 5 (own_run 10 0 (own_run 10 0 (own_run 10 0 vs0)))) (6 : Int32)) [(.long ((own_run 10 0 (own_run 10 0 (own_run 10 0 vs0))).getD 6 0))]))
  refine OG.of (A := T20.setTop (mkF m 123 (own_L17 f ah (own_qq 5 (own_run 10 0 (own_run 10 0 (own_run 10 0 vs0)))) (6 : Int32)) [(.long (((own_run 10 0 (own_run 10 0 (own_run 10 0 vs0))).getD 6 0) + (own_qq 5 (own_run 10 0 (own_run 10 0 (own_run 10 0 vs0))))))])) (fun oT oK => ?_) ?_
  · skip
    refine XT.lloadN X20.here hx rfl (hb hby dE_121) rfl  ?_
    show Steps p.tables e below (T20.setTop (mkF m 122 (own_L17 f ah (own_qq 5 (own_run 10 0 (own_run 10 0 (own_run 10 0 vs0)))) (6 : Int32)) [(.long (own_qq 5 (own_run 10 0 (own_run 10 0 (own_run 10 0 vs0))))), (.long ((own_run 10 0 (own_run 10 0 (own_run 10 0 vs0))).getD 6 0))])) _
    refine XT.ladd X20.here hx rfl (hb hby dE_122) rfl ?_
    exact oK
  obtain ⟨T21, X21, e21, st21⟩ := getS2 X20 hx hZ hown (host := "") (Or.inl (own_at hw 8 rfl)) Via.refl e20 (SB.ext (O2r).2) (g := (mkF m 123 (own_L17 f ah (own_qq 5 (own_run 10 0 (own_run 10 0 (own_run 10 0 vs0)))) (6 : Int32)) [(.long (((own_run 10 0 (own_run 10 0 (own_run 10 0 vs0))).getD 6 0) + (own_qq 5 (own_run 10 0 (own_run 10 0 (own_run 10 0 vs0))))))])) rfl (hb hby dE_123)
  refine OG.of st21 ?_
  show OG _ _ _ _ _ _ _ (T21.setTop (mkF m 126 (own_L17 f ah (own_qq 5 (own_run 10 0 (own_run 10 0 (own_run 10 0 vs0)))) (6 : Int32)) [(.ref wB), (.long (((own_run 10 0 (own_run 10 0 (own_run 10 0 vs0))).getD 6 0) + (own_qq 5 (own_run 10 0 (own_run 10 0 (own_run 10 0 vs0))))))]))
  refine OG.of (A := T21.setTop (mkF m 128 (own_L17 f ah (own_qq 5 (own_run 10 0 (own_run 10 0 (own_run 10 0 vs0)))) (6 : Int32)) [(.int (6 : Int32)), (.ref wB), (.long (((own_run 10 0 (own_run 10 0 (own_run 10 0 vs0))).getD 6 0) + (own_qq 5 (own_run 10 0 (own_run 10 0 (own_run 10 0 vs0))))))])) (fun oT oK => ?_) ?_
  · skip
    refine XS.iload X21.here hx rfl (hb hby dE_126) rfl  ?_
    exact oK
  have cf47 := ((TB 6 (by decide)).ext (O2r).2)
  obtain ⟨clf47, Arf47, If47, Hf47⟩ := cf47
  refine OG.of (X21.iaload hx (j := (6 : Int32)) (v := (.int (26 : Int32))) (by rw [e21]; exact Arf47.1) (State.isArrayOf_alike hZ.alike Arf47.2.1) Arf47.2.2 If47 Hf47 (g := (mkF m 128 (own_L17 f ah (own_qq 5 (own_run 10 0 (own_run 10 0 (own_run 10 0 vs0)))) (6 : Int32)) [(.int (6 : Int32)), (.ref wB), (.long (((own_run 10 0 (own_run 10 0 (own_run 10 0 vs0))).getD 6 0) + (own_qq 5 (own_run 10 0 (own_run 10 0 (own_run 10 0 vs0))))))])) rfl rfl (hb hby dE_128)) ?_
  show OG _ _ _ _ _ _ _ (T21.setTop (mkF m 129 (own_L17 f ah (own_qq 5 (own_run 10 0 (own_run 10 0 (own_run 10 0 vs0)))) (6 : Int32)) [(.int (26 : Int32)), (.long (((own_run 10 0 (own_run 10 0 (own_run 10 0 vs0))).getD 6 0) + (own_qq 5 (own_run 10 0 (own_run 10 0 (own_run 10 0 vs0))))))]))
  refine OG.of (A := T21.setTop (mkF m 110 (own_L17 f ah ((((own_run 10 0 (own_run 10 0 (own_run 10 0 vs0))).getD 6 0) + (own_qq 5 (own_run 10 0 (own_run 10 0 (own_run 10 0 vs0))))) >>> ((26 : Int32).toInt64 &&& 63)) (7 : Int32)) [])) (fun oT oK => ?_) ?_
  · skip
    refine XT.lshr X21.here hx rfl (hb hby dE_129) rfl ?_
    show Steps p.tables e below (T21.setTop (mkF m 130 (own_L17 f ah (own_qq 5 (own_run 10 0 (own_run 10 0 (own_run 10 0 vs0)))) (6 : Int32)) [(.long ((((own_run 10 0 (own_run 10 0 (own_run 10 0 vs0))).getD 6 0) + (own_qq 5 (own_run 10 0 (own_run 10 0 (own_run 10 0 vs0))))) >>> ((26 : Int32).toInt64 &&& 63)))])) _
    refine XT.lstoreN X21.here hx rfl (hb hby dE_130) rfl (l' := (own_L17 f ah ((((own_run 10 0 (own_run 10 0 (own_run 10 0 vs0))).getD 6 0) + (own_qq 5 (own_run 10 0 (own_run 10 0 (own_run 10 0 vs0))))) >>> ((26 : Int32).toInt64 &&& 63)) (6 : Int32))) rfl ?_
    refine XS.iinc X21.here hx rfl (hb hby dE_131) rfl (l' := (own_L17 f ah ((((own_run 10 0 (own_run 10 0 (own_run 10 0 vs0))).getD 6 0) + (own_qq 5 (own_run 10 0 (own_run 10 0 (own_run 10 0 vs0))))) >>> ((26 : Int32).toInt64 &&& 63)) (7 : Int32))) rfl ?_
    show Steps p.tables e below (T21.setTop (mkF m 134 (own_L17 f ah ((((own_run 10 0 (own_run 10 0 (own_run 10 0 vs0))).getD 6 0) + (own_qq 5 (own_run 10 0 (own_run 10 0 (own_run 10 0 vs0))))) >>> ((26 : Int32).toInt64 &&& 63)) (7 : Int32)) [])) _
    refine XS.goto X21.here hx rfl (pc0 := 134) (pc' := 110) rfl (hb hby dE_134) (by decide) (by decide) ?_
    exact oK
  show OG _ _ _ _ _ _ _ (T21.setTop (mkF m 110 (own_L17 f ah (own_qq 6 (own_run 10 0 (own_run 10 0 (own_run 10 0 vs0)))) (7 : Int32)) []))
  refine OG.of (A := T21.setTop (mkF m 120 (own_L17 f ah (own_qq 6 (own_run 10 0 (own_run 10 0 (own_run 10 0 vs0)))) (7 : Int32)) [(.int (7 : Int32)), (.ref ah)])) (fun oT oK => ?_) ?_
  · skip
    refine XS.iload X21.here hx rfl (hb hby dE_110) rfl  ?_
    show Steps p.tables e below (T21.setTop (mkF m 112 (own_L17 f ah (own_qq 6 (own_run 10 0 (own_run 10 0 (own_run 10 0 vs0)))) (7 : Int32)) [(.int (7 : Int32))])) _
    refine XS.bipush X21.here hx rfl (hb hby dE_112) ?_
    show Steps p.tables e below (T21.setTop (mkF m 114 (own_L17 f ah (own_qq 6 (own_run 10 0 (own_run 10 0 (own_run 10 0 vs0)))) (7 : Int32)) [(.int (10 : Int32)), (.int (7 : Int32))])) _
    refine XS.icmpNo X21.here hx rfl (hb hby dE_114) rfl (XT.ii_ge_f (by decide)) ?_
    show Steps p.tables e below (T21.setTop (mkF m 117 (own_L17 f ah (own_qq 6 (own_run 10 0 (own_run 10 0 (own_run 10 0 vs0)))) (7 : Int32)) [])) _
    refine XS.aloadN X21.here hx rfl (hb hby dE_117) rfl rfl  ?_
    refine XS.iload X21.here hx rfl (hb hby dE_118) rfl  ?_
    exact oK
  obtain ⟨clf48, Arf48, If48, Hf48⟩ := own_rdL V2r ((own_run_len ..).trans ((own_run_len ..).trans ((own_run_len ..).trans hl0))) (j := (7 : Int32)) (i := 7) rfl (by decide)
  refine OG.of (X21.laload hx (j := (7 : Int32)) (v := (.long ((own_run 10 0 (own_run 10 0 (own_run 10 0 vs0))).getD 7 0))) (by rw [e21]; exact Arf48.1) (State.isArrayOf_alike hZ.alike Arf48.2.1) Arf48.2.2 If48 Hf48 (g := (mkF m 120 (own_L17 f ah (own_qq 6 (own_run 10 0 (own_run 10 0 (own_run 10 0 vs0)))) (7 : Int32)) [(.int (7 : Int32)), (.ref ah)])) rfl rfl (hb hby dE_120)) ?_
  show OG _ _ _ _ _ _ _ (T21.setTop (mkF m 121 (own_L17 f ah (own_qq 6 (own_run 10 0 (own_run 10 0 (own_run 10 0 vs0)))) (7 : Int32)) [(.long ((own_run 10 0 (own_run 10 0 (own_run 10 0 vs0))).getD 7 0))]))
  refine OG.of (A := T21.setTop (mkF m 123 (own_L17 f ah (own_qq 6 (own_run 10 0 (own_run 10 0 (own_run 10 0 vs0)))) (7 : Int32)) [(.long (((own_run 10 0 (own_run 10 0 (own_run 10 0 vs0))).getD 7 0) + (own_qq 6 (own_run 10 0 (own_run 10 0 (own_run 10 0 vs0))))))])) (fun oT oK => ?_) ?_
  · skip
    refine XT.lloadN X21.here hx rfl (hb hby dE_121) rfl  ?_
    show Steps p.tables e below (T21.setTop (mkF m 122 (own_L17 f ah (own_qq 6 (own_run 10 0 (own_run 10 0 (own_run 10 0 vs0)))) (7 : Int32)) [(.long (own_qq 6 (own_run 10 0 (own_run 10 0 (own_run 10 0 vs0))))), (.long ((own_run 10 0 (own_run 10 0 (own_run 10 0 vs0))).getD 7 0))])) _
    refine XT.ladd X21.here hx rfl (hb hby dE_122) rfl ?_
    exact oK
  obtain ⟨T22, X22, e22, st22⟩ := getS2 X21 hx hZ hown (host := "") (Or.inl (own_at hw 8 rfl)) Via.refl e21 (SB.ext (O2r).2) (g := (mkF m 123 (own_L17 f ah (own_qq 6 (own_run 10 0 (own_run 10 0 (own_run 10 0 vs0)))) (7 : Int32)) [(.long (((own_run 10 0 (own_run 10 0 (own_run 10 0 vs0))).getD 7 0) + (own_qq 6 (own_run 10 0 (own_run 10 0 (own_run 10 0 vs0))))))])) rfl (hb hby dE_123)
  refine OG.of st22 ?_
  show OG _ _ _ _ _ _ _ (T22.setTop (mkF m 126 (own_L17 f ah (own_qq 6 (own_run 10 0 (own_run 10 0 (own_run 10 0 vs0)))) (7 : Int32)) [(.ref wB), (.long (((own_run 10 0 (own_run 10 0 (own_run 10 0 vs0))).getD 7 0) + (own_qq 6 (own_run 10 0 (own_run 10 0 (own_run 10 0 vs0))))))]))
  refine OG.of (A := T22.setTop (mkF m 128 (own_L17 f ah (own_qq 6 (own_run 10 0 (own_run 10 0 (own_run 10 0 vs0)))) (7 : Int32)) [(.int (7 : Int32)), (.ref wB), (.long (((own_run 10 0 (own_run 10 0 (own_run 10 0 vs0))).getD 7 0) + (own_qq 6 (own_run 10 0 (own_run 10 0 (own_run 10 0 vs0))))))])) (fun oT oK => ?_) ?_
  · skip
    refine XS.iload X22.here hx rfl (hb hby dE_126) rfl  ?_
    exact oK
  have cf49 := ((TB 7 (by decide)).ext (O2r).2)
  obtain ⟨clf49, Arf49, If49, Hf49⟩ := cf49
  refine OG.of (X22.iaload hx (j := (7 : Int32)) (v := (.int (25 : Int32))) (by rw [e22]; exact Arf49.1) (State.isArrayOf_alike hZ.alike Arf49.2.1) Arf49.2.2 If49 Hf49 (g := (mkF m 128 (own_L17 f ah (own_qq 6 (own_run 10 0 (own_run 10 0 (own_run 10 0 vs0)))) (7 : Int32)) [(.int (7 : Int32)), (.ref wB), (.long (((own_run 10 0 (own_run 10 0 (own_run 10 0 vs0))).getD 7 0) + (own_qq 6 (own_run 10 0 (own_run 10 0 (own_run 10 0 vs0))))))])) rfl rfl (hb hby dE_128)) ?_
  show OG _ _ _ _ _ _ _ (T22.setTop (mkF m 129 (own_L17 f ah (own_qq 6 (own_run 10 0 (own_run 10 0 (own_run 10 0 vs0)))) (7 : Int32)) [(.int (25 : Int32)), (.long (((own_run 10 0 (own_run 10 0 (own_run 10 0 vs0))).getD 7 0) + (own_qq 6 (own_run 10 0 (own_run 10 0 (own_run 10 0 vs0))))))]))
  refine OG.of (A := T22.setTop (mkF m 110 (own_L17 f ah ((((own_run 10 0 (own_run 10 0 (own_run 10 0 vs0))).getD 7 0) + (own_qq 6 (own_run 10 0 (own_run 10 0 (own_run 10 0 vs0))))) >>> ((25 : Int32).toInt64 &&& 63)) (8 : Int32)) [])) (fun oT oK => ?_) ?_
  · skip
    refine XT.lshr X22.here hx rfl (hb hby dE_129) rfl ?_
    show Steps p.tables e below (T22.setTop (mkF m 130 (own_L17 f ah (own_qq 6 (own_run 10 0 (own_run 10 0 (own_run 10 0 vs0)))) (7 : Int32)) [(.long ((((own_run 10 0 (own_run 10 0 (own_run 10 0 vs0))).getD 7 0) + (own_qq 6 (own_run 10 0 (own_run 10 0 (own_run 10 0 vs0))))) >>> ((25 : Int32).toInt64 &&& 63)))])) _
    refine XT.lstoreN X22.here hx rfl (hb hby dE_130) rfl (l' := (own_L17 f ah ((((own_run 10 0 (own_run 10 0 (own_run 10 0 vs0))).getD 7 0) + (own_qq 6 (own_run 10 0 (own_run 10 0 (own_run 10 0 vs0))))) >>> ((25 : Int32).toInt64 &&& 63)) (7 : Int32))) rfl ?_
    refine XS.iinc X22.here hx rfl (hb hby dE_131) rfl (l' := (own_L17 f ah ((((own_run 10 0 (own_run 10 0 (own_run 10 0 vs0))).getD 7 0) + (own_qq 6 (own_run 10 0 (own_run 10 0 (own_run 10 0 vs0))))) >>> ((25 : Int32).toInt64 &&& 63)) (8 : Int32))) rfl ?_
    show Steps p.tables e below (T22.setTop (mkF m 134 (own_L17 f ah ((((own_run 10 0 (own_run 10 0 (own_run 10 0 vs0))).getD 7 0) + (own_qq 6 (own_run 10 0 (own_run 10 0 (own_run 10 0 vs0))))) >>> ((25 : Int32).toInt64 &&& 63)) (8 : Int32)) [])) _
    refine XS.goto X22.here hx rfl (pc0 := 134) (pc' := 110) rfl (hb hby dE_134) (by decide) (by decide) ?_
    exact oK
  show OG _ _ _ _ _ _ _ (T22.setTop (mkF m 110 (own_L17 f ah (own_qq 7 (own_run 10 0 (own_run 10 0 (own_run 10 0 vs0)))) (8 : Int32)) []))
  refine OG.of (A := T22.setTop (mkF m 120 (own_L17 f ah (own_qq 7 (own_run 10 0 (own_run 10 0 (own_run 10 0 vs0)))) (8 : Int32)) [(.int (8 : Int32)), (.ref ah)])) (fun oT oK => ?_) ?_
  · skip
    refine XS.iload X22.here hx rfl (hb hby dE_110) rfl  ?_
    show Steps p.tables e below (T22.setTop (mkF m 112 (own_L17 f ah (own_qq 7 (own_run 10 0 (own_run 10 0 (own_run 10 0 vs0)))) (8 : Int32)) [(.int (8 : Int32))])) _
    refine XS.bipush X22.here hx rfl (hb hby dE_112) ?_
    show Steps p.tables e below (T22.setTop (mkF m 114 (own_L17 f ah (own_qq 7 (own_run 10 0 (own_run 10 0 (own_run 10 0 vs0)))) (8 : Int32)) [(.int (10 : Int32)), (.int (8 : Int32))])) _
    refine XS.icmpNo X22.here hx rfl (hb hby dE_114) rfl (XT.ii_ge_f (by decide)) ?_
    show Steps p.tables e below (T22.setTop (mkF m 117 (own_L17 f ah (own_qq 7 (own_run 10 0 (own_run 10 0 (own_run 10 0 vs0)))) (8 : Int32)) [])) _
    refine XS.aloadN X22.here hx rfl (hb hby dE_117) rfl rfl  ?_
    refine XS.iload X22.here hx rfl (hb hby dE_118) rfl  ?_
    exact oK
  obtain ⟨clf50, Arf50, If50, Hf50⟩ := own_rdL V2r ((own_run_len ..).trans ((own_run_len ..).trans ((own_run_len ..).trans hl0))) (j := (8 : Int32)) (i := 8) rfl (by decide)
  refine OG.of (X22.laload hx (j := (8 : Int32)) (v := (.long ((own_run 10 0 (own_run 10 0 (own_run 10 0 vs0))).getD 8 0))) (by rw [e22]; exact Arf50.1) (State.isArrayOf_alike hZ.alike Arf50.2.1) Arf50.2.2 If50 Hf50 (g := (mkF m 120 (own_L17 f ah (own_qq 7 (own_run 10 0 (own_run 10 0 (own_run 10 0 vs0)))) (8 : Int32)) [(.int (8 : Int32)), (.ref ah)])) rfl rfl (hb hby dE_120)) ?_
  show OG _ _ _ _ _ _ _ (T22.setTop (mkF m 121 (own_L17 f ah (own_qq 7 (own_run 10 0 (own_run 10 0 (own_run 10 0 vs0)))) (8 : Int32)) [(.long ((own_run 10 0 (own_run 10 0 (own_run 10 0 vs0))).getD 8 0))]))
  refine OG.of (A := T22.setTop (mkF m 123 (own_L17 f ah (own_qq 7 (own_run 10 0 (own_run 10 0 (own_run 10 0 vs0)))) (8 : Int32)) [(.long (((own_run 10 0 (own_run 10 0 (own_run 10 0 vs0))).getD 8 0) + (own_qq 7 (own_run 10 0 (own_run 10 0 (own_run 10 0 vs0))))))])) (fun oT oK => ?_) ?_
  · skip
    refine XT.lloadN X22.here hx rfl (hb hby dE_121) rfl  ?_
    show Steps p.tables e below (T22.setTop (mkF m 122 (own_L17 f ah (own_qq 7 (own_run 10 0 (own_run 10 0 (own_run 10 0 vs0)))) (8 : Int32)) [(.long (own_qq 7 (own_run 10 0 (own_run 10 0 (own_run 10 0 vs0))))), (.long ((own_run 10 0 (own_run 10 0 (own_run 10 0 vs0))).getD 8 0))])) _
    refine XT.ladd X22.here hx rfl (hb hby dE_122) rfl ?_
    exact oK
  obtain ⟨T23, X23, e23, st23⟩ := getS2 X22 hx hZ hown (host := "") (Or.inl (own_at hw 8 rfl)) Via.refl e22 (SB.ext (O2r).2) (g := (mkF m 123 (own_L17 f ah (own_qq 7 (own_run 10 0 (own_run 10 0 (own_run 10 0 vs0)))) (8 : Int32)) [(.long (((own_run 10 0 (own_run 10 0 (own_run 10 0 vs0))).getD 8 0) + (own_qq 7 (own_run 10 0 (own_run 10 0 (own_run 10 0 vs0))))))])) rfl (hb hby dE_123)
  refine OG.of st23 ?_
  show OG _ _ _ _ _ _ _ (T23.setTop (mkF m 126 (own_L17 f ah (own_qq 7 (own_run 10 0 (own_run 10 0 (own_run 10 0 vs0)))) (8 : Int32)) [(.ref wB), (.long (((own_run 10 0 (own_run 10 0 (own_run 10 0 vs0))).getD 8 0) + (own_qq 7 (own_run 10 0 (own_run 10 0 (own_run 10 0 vs0))))))]))
  refine OG.of (A := T23.setTop (mkF m 128 (own_L17 f ah (own_qq 7 (own_run 10 0 (own_run 10 0 (own_run 10 0 vs0)))) (8 : Int32)) [(.int (8 : Int32)), (.ref wB), (.long (((own_run 10 0 (own_run 10 0 (own_run 10 0 vs0))).getD 8 0) + (own_qq 7 (own_run 10 0 (own_run 10 0 (own_run 10 0 vs0))))))])) (fun oT oK => ?_) ?_
  · skip
    refine XS.iload X23.here hx rfl (hb hby dE_126) rfl  ?_
    exact oK
  have cf51 := ((TB 8 (by decide)).ext (O2r).2)
  obtain ⟨clf51, Arf51, If51, Hf51⟩ := cf51
  refine OG.of (X23.iaload hx (j := (8 : Int32)) (v := (.int (26 : Int32))) (by rw [e23]; exact Arf51.1) (State.isArrayOf_alike hZ.alike Arf51.2.1) Arf51.2.2 If51 Hf51 (g := (mkF m 128 (own_L17 f ah (own_qq 7 (own_run 10 0 (own_run 10 0 (own_run 10 0 vs0)))) (8 : Int32)) [(.int (8 : Int32)), (.ref wB), (.long (((own_run 10 0 (own_run 10 0 (own_run 10 0 vs0))).getD 8 0) + (own_qq 7 (own_run 10 0 (own_run 10 0 (own_run 10 0 vs0))))))])) rfl rfl (hb hby dE_128)) ?_
  show OG _ _ _ _ _ _ _ (T23.setTop (mkF m 129 (own_L17 f ah (own_qq 7 (own_run 10 0 (own_run 10 0 (own_run 10 0 vs0)))) (8 : Int32)) [(.int (26 : Int32)), (.long (((own_run 10 0 (own_run 10 0 (own_run 10 0 vs0))).getD 8 0) + (own_qq 7 (own_run 10 0 (own_run 10 0 (own_run 10 0 vs0))))))]))
  refine OG.of (A := T23.setTop (mkF m 110 (own_L17 f ah ((((own_run 10 0 (own_run 10 0 (own_run 10 0 vs0))).getD 8 0) + (own_qq 7 (own_run 10 0 (own_run 10 0 (own_run 10 0 vs0))))) >>> ((26 : Int32).toInt64 &&& 63)) (9 : Int32)) [])) (fun oT oK => ?_) ?_
  · skip
    refine XT.lshr X23.here hx rfl (hb hby dE_129) rfl ?_
    show Steps p.tables e below (T23.setTop (mkF m 130 (own_L17 f ah (own_qq 7 (own_run 10 0 (own_run 10 0 (own_run 10 0 vs0)))) (8 : Int32)) [(.long ((((own_run 10 0 (own_run 10 0 (own_run 10 0 vs0))).getD 8 0) + (own_qq 7 (own_run 10 0 (own_run 10 0 (own_run 10 0 vs0))))) >>> ((26 : Int32).toInt64 &&& 63)))])) _
    refine XT.lstoreN X23.here hx rfl (hb hby dE_130) rfl (l' := (own_L17 f ah ((((own_run 10 0 (own_run 10 0 (own_run 10 0 vs0))).getD 8 0) + (own_qq 7 (own_run 10 0 (own_run 10 0 (own_run 10 0 vs0))))) >>> ((26 : Int32).toInt64 &&& 63)) (8 : Int32))) rfl ?_
    refine XS.iinc X23.here hx rfl (hb hby dE_131) rfl (l' := (own_L17 f ah ((((own_run 10 0 (own_run 10 0 (own_run 10 0 vs0))).getD 8 0) + (own_qq 7 (own_run 10 0 (own_run 10 0 (own_run 10 0 vs0))))) >>> ((26 : Int32).toInt64 &&& 63)) (9 : Int32))) rfl ?_
    show Steps p.tables e below (T23.setTop (mkF m 134 (own_L17 f ah ((((own_run 10 0 (own_run 10 0 (own_run 10 0 vs0))).getD 8 0) + (own_qq 7 (own_run 10 0 (own_run 10 0 (own_run 10 0 vs0))))) >>> ((26 : Int32).toInt64 &&& 63)) (9 : Int32)) [])) _
    refine XS.goto X23.here hx rfl (pc0 := 134) (pc' := 110) rfl (hb hby dE_134) (by decide) (by decide) ?_
    exact oK
  show OG _ _ _ _ _ _ _ (T23.setTop (mkF m 110 (own_L17 f ah (own_qq 8 (own_run 10 0 (own_run 10 0 (own_run 10 0 vs0)))) (9 : Int32)) []))
  refine OG.of (A := T23.setTop (mkF m 120 (own_L17 f ah (own_qq 8 (own_run 10 0 (own_run 10 0 (own_run 10 0 vs0)))) (9 : Int32)) [(.int (9 : Int32)), (.ref ah)])) (fun oT oK => ?_) ?_
  · skip
    refine XS.iload X23.here hx rfl (hb hby dE_110) rfl  ?_
    show Steps p.tables e below (T23.setTop (mkF m 112 (own_L17 f ah (own_qq 8 (own_run 10 0 (own_run 10 0 (own_run 10 0 vs0)))) (9 : Int32)) [(.int (9 : Int32))])) _
    refine XS.bipush X23.here hx rfl (hb hby dE_112) ?_
    show Steps p.tables e below (T23.setTop (mkF m 114 (own_L17 f ah (own_qq 8 (own_run 10 0 (own_run 10 0 (own_run 10 0 vs0)))) (9 : Int32)) [(.int (10 : Int32)), (.int (9 : Int32))])) _
    refine XS.icmpNo X23.here hx rfl (hb hby dE_114) rfl (XT.ii_ge_f (by decide)) ?_
    show Steps p.tables e below (T23.setTop (mkF m 117 (own_L17 f ah (own_qq 8 (own_run 10 0 (own_run 10 0 (own_run 10 0 vs0)))) (9 : Int32)) [])) _
    refine XS.aloadN X23.here hx rfl (hb hby dE_117) rfl rfl  ?_
    refine XS.iload X23.here hx rfl (hb hby dE_118) rfl  ?_
    exact oK
  obtain ⟨clf52, Arf52, If52, Hf52⟩ := own_rdL V2r ((own_run_len ..).trans ((own_run_len ..).trans ((own_run_len ..).trans hl0))) (j := (9 : Int32)) (i := 9) rfl (by decide)
  refine OG.of (X23.laload hx (j := (9 : Int32)) (v := (.long ((own_run 10 0 (own_run 10 0 (own_run 10 0 vs0))).getD 9 0))) (by rw [e23]; exact Arf52.1) (State.isArrayOf_alike hZ.alike Arf52.2.1) Arf52.2.2 If52 Hf52 (g := (mkF m 120 (own_L17 f ah (own_qq 8 (own_run 10 0 (own_run 10 0 (own_run 10 0 vs0)))) (9 : Int32)) [(.int (9 : Int32)), (.ref ah)])) rfl rfl (hb hby dE_120)) ?_
  show OG _ _ _ _ _ _ _ (T23.setTop (mkF m 121 (own_L17 f ah (own_qq 8 (own_run 10 0 (own_run 10 0 (own_run 10 0 vs0)))) (9 : Int32)) [(.long ((own_run 10 0 (own_run 10 0 (own_run 10 0 vs0))).getD 9 0))]))
  refine OG.of (A := T23.setTop (mkF m 123 (own_L17 f ah (own_qq 8 (own_run 10 0 (own_run 10 0 (own_run 10 0 vs0)))) (9 : Int32)) [(.long (((own_run 10 0 (own_run 10 0 (own_run 10 0 vs0))).getD 9 0) + (own_qq 8 (own_run 10 0 (own_run 10 0 (own_run 10 0 vs0))))))])) (fun oT oK => ?_) ?_
  · skip
    refine XT.lloadN X23.here hx rfl (hb hby dE_121) rfl  ?_
    show Steps p.tables e below (T23.setTop (mkF m 122 (own_L17 f ah (own_qq 8 (own_run 10 0 (own_run 10 0 (own_run 10 0 vs0)))) (9 : Int32)) [(.long (own_qq 8 (own_run 10 0 (own_run 10 0 (own_run 10 0 vs0))))), (.long ((own_run 10 0 (own_run 10 0 (own_run 10 0 vs0))).getD 9 0))])) _
    refine XT.ladd X23.here hx rfl (hb hby dE_122) rfl ?_
    exact oK
  obtain ⟨T24, X24, e24, st24⟩ := getS2 X23 hx hZ hown (host := "") (Or.inl (own_at hw 8 rfl)) Via.refl e23 (SB.ext (O2r).2) (g := (mkF m 123 (own_L17 f ah (own_qq 8 (own_run 10 0 (own_run 10 0 (own_run 10 0 vs0)))) (9 : Int32)) [(.long (((own_run 10 0 (own_run 10 0 (own_run 10 0 vs0))).getD 9 0) + (own_qq 8 (own_run 10 0 (own_run 10 0 (own_run 10 0 vs0))))))])) rfl (hb hby dE_123)
  refine OG.of st24 ?_
  show OG _ _ _ _ _ _ _ (T24.setTop (mkF m 126 (own_L17 f ah (own_qq 8 (own_run 10 0 (own_run 10 0 (own_run 10 0 vs0)))) (9 : Int32)) [(.ref wB), (.long (((own_run 10 0 (own_run 10 0 (own_run 10 0 vs0))).getD 9 0) + (own_qq 8 (own_run 10 0 (own_run 10 0 (own_run 10 0 vs0))))))]))
  refine OG.of (A := T24.setTop (mkF m 128 (own_L17 f ah (own_qq 8 (own_run 10 0 (own_run 10 0 (own_run 10 0 vs0)))) (9 : Int32)) [(.int (9 : Int32)), (.ref wB), (.long (((own_run 10 0 (own_run 10 0 (own_run 10 0 vs0))).getD 9 0) + (own_qq 8 (own_run 10 0 (own_run 10 0 (own_run 10 0 vs0))))))])) (fun oT oK => ?_) ?_
  · skip
    refine XS.iload X24.here hx rfl (hb hby dE_126) rfl  ?_
    exact oK
  have cf53 := ((TB 9 (by decide)).ext (O2r).2)
  obtain ⟨clf53, Arf53, If53, Hf53⟩ := cf53
  refine OG.of (X24.iaload hx (j := (9 : Int32)) (v := (.int (25 : Int32))) (by rw [e24]; exact Arf53.1) (State.isArrayOf_alike hZ.alike Arf53.2.1) Arf53.2.2 If53 Hf53 (g := (mkF m 128 (own_L17 f ah (own_qq 8 (own_run 10 0 (own_run 10 0 (own_run 10 0 vs0)))) (9 : Int32)) [(.int (9 : Int32)), (.ref wB), (.long (((own_run 10 0 (own_run 10 0 (own_run 10 0 vs0))).getD 9 0) + (own_qq 8 (own_run 10 0 (own_run 10 0 (own_run 10 0 vs0))))))])) rfl rfl (hb hby dE_128)) ?_
  show OG _ _ _ _ _ _ _ (T24.setTop (mkF m 129 (own_L17 f ah (own_qq 8 (own_run 10 0 (own_run 10 0 (own_run 10 0 vs0)))) (9 : Int32)) [(.int (25 : Int32)), (.long (((own_run 10 0 (own_run 10 0 (own_run 10 0 vs0))).getD 9 0) + (own_qq 8 (own_run 10 0 (own_run 10 0 (own_run 10 0 vs0))))))]))
  refine OG.of (A := T24.setTop (mkF m 110 (own_L17 f ah ((((own_run 10 0 (own_run 10 0 (own_run 10 0 vs0))).getD 9 0) + (own_qq 8 (own_run 10 0 (own_run 10 0 (own_run 10 0 vs0))))) >>> ((25 : Int32).toInt64 &&& 63)) (10 : Int32)) [])) (fun oT oK => ?_) ?_
  · skip
    refine XT.lshr X24.here hx rfl (hb hby dE_129) rfl ?_
    show Steps p.tables e below (T24.setTop (mkF m 130 (own_L17 f ah (own_qq 8 (own_run 10 0 (own_run 10 0 (own_run 10 0 vs0)))) (9 : Int32)) [(.long ((((own_run 10 0 (own_run 10 0 (own_run 10 0 vs0))).getD 9 0) + (own_qq 8 (own_run 10 0 (own_run 10 0 (own_run 10 0 vs0))))) >>> ((25 : Int32).toInt64 &&& 63)))])) _
    refine XT.lstoreN X24.here hx rfl (hb hby dE_130) rfl (l' := (own_L17 f ah ((((own_run 10 0 (own_run 10 0 (own_run 10 0 vs0))).getD 9 0) + (own_qq 8 (own_run 10 0 (own_run 10 0 (own_run 10 0 vs0))))) >>> ((25 : Int32).toInt64 &&& 63)) (9 : Int32))) rfl ?_
    refine XS.iinc X24.here hx rfl (hb hby dE_131) rfl (l' := (own_L17 f ah ((((own_run 10 0 (own_run 10 0 (own_run 10 0 vs0))).getD 9 0) + (own_qq 8 (own_run 10 0 (own_run 10 0 (own_run 10 0 vs0))))) >>> ((25 : Int32).toInt64 &&& 63)) (10 : Int32))) rfl ?_
    show Steps p.tables e below (T24.setTop (mkF m 134 (own_L17 f ah ((((own_run 10 0 (own_run 10 0 (own_run 10 0 vs0))).getD 9 0) + (own_qq 8 (own_run 10 0 (own_run 10 0 (own_run 10 0 vs0))))) >>> ((25 : Int32).toInt64 &&& 63)) (10 : Int32)) [])) _
    refine XS.goto X24.here hx rfl (pc0 := 134) (pc' := 110) rfl (hb hby dE_134) (by decide) (by decide) ?_
    exact oK
  show OG _ _ _ _ _ _ _ (T24.setTop (mkF m 110 (own_L17 f ah (own_qq 9 (own_run 10 0 (own_run 10 0 (own_run 10 0 vs0)))) (10 : Int32)) []))
  refine OG.of (A := T24.setTop (mkF m 140 (own_L17 f ah (own_qq 9 (own_run 10 0 (own_run 10 0 (own_run 10 0 vs0)))) (10 : Int32)) [(.int (0 : Int32)), (.ref ah), (.int (0 : Int32)), (.ref ah)])) (fun oT oK => ?_) ?_
  · skip
    refine XS.iload X24.here hx rfl (hb hby dE_110) rfl  ?_
    show Steps p.tables e below (T24.setTop (mkF m 112 (own_L17 f ah (own_qq 9 (own_run 10 0 (own_run 10 0 (own_run 10 0 vs0)))) (10 : Int32)) [(.int (10 : Int32))])) _
    refine XS.bipush X24.here hx rfl (hb hby dE_112) ?_
    show Steps p.tables e below (T24.setTop (mkF m 114 (own_L17 f ah (own_qq 9 (own_run 10 0 (own_run 10 0 (own_run 10 0 vs0)))) (10 : Int32)) [(.int (10 : Int32)), (.int (10 : Int32))])) _
    refine XS.icmpYes X24.here hx rfl (pc0 := 114) (pc' := 137) rfl (hb hby dE_114) rfl (XT.ii_ge_t (by decide)) (by decide) (by decide) ?_
    show Steps p.tables e below (T24.setTop (mkF m 137 (own_L17 f ah (own_qq 9 (own_run 10 0 (own_run 10 0 (own_run 10 0 vs0)))) (10 : Int32)) [])) _
    refine XS.aloadN X24.here hx rfl (hb hby dE_137) rfl rfl  ?_
    refine XS.iconst X24.here hx rfl (hb hby dE_138) ?_
    show Steps p.tables e below (T24.setTop (mkF m 139 (own_L17 f ah (own_qq 9 (own_run 10 0 (own_run 10 0 (own_run 10 0 vs0)))) (10 : Int32)) [(.int (0 : Int32)), (.ref ah)])) _
    refine XT.dup2 X24.here hx rfl (hb hby dE_139) rfl rfl rfl ?_
    exact oK
  obtain ⟨clf54, Arf54, If54, Hf54⟩ := own_rdL V2r ((own_run_len ..).trans ((own_run_len ..).trans ((own_run_len ..).trans hl0))) (j := (0 : Int32)) (i := 0) rfl (by decide)
  refine OG.of (X24.laload hx (j := (0 : Int32)) (v := (.long ((own_run 10 0 (own_run 10 0 (own_run 10 0 vs0))).getD 0 0))) (by rw [e24]; exact Arf54.1) (State.isArrayOf_alike hZ.alike Arf54.2.1) Arf54.2.2 If54 Hf54 (g := (mkF m 140 (own_L17 f ah (own_qq 9 (own_run 10 0 (own_run 10 0 (own_run 10 0 vs0)))) (10 : Int32)) [(.int (0 : Int32)), (.ref ah), (.int (0 : Int32)), (.ref ah)])) rfl rfl (hb hby dE_140)) ?_
  show OG _ _ _ _ _ _ _ (T24.setTop (mkF m 141 (own_L17 f ah (own_qq 9 (own_run 10 0 (own_run 10 0 (own_run 10 0 vs0)))) (10 : Int32)) [(.long ((own_run 10 0 (own_run 10 0 (own_run 10 0 vs0))).getD 0 0)), (.int (0 : Int32)), (.ref ah)]))
  refine OG.of (A := T24.setTop (mkF m 147 (own_L17 f ah (own_qq 9 (own_run 10 0 (own_run 10 0 (own_run 10 0 vs0)))) (10 : Int32)) [(.long (((own_run 10 0 (own_run 10 0 (own_run 10 0 vs0))).getD 0 0) + ((19 : Int64) * (own_qq 9 (own_run 10 0 (own_run 10 0 (own_run 10 0 vs0))))))), (.int (0 : Int32)), (.ref ah)])) (fun oT oK => ?_) ?_
  · skip
    refine X24.ldc2Long hx hown (mvT hZ (own_at hw 30 rfl)) (g := (mkF m 141 (own_L17 f ah (own_qq 9 (own_run 10 0 (own_run 10 0 (own_run 10 0 vs0)))) (10 : Int32)) [(.long ((own_run 10 0 (own_run 10 0 (own_run 10 0 vs0))).getD 0 0)), (.int (0 : Int32)), (.ref ah)])) rfl (hb hby dE_141) _ ?_
    show Steps p.tables e below (T24.setTop (mkF m 144 (own_L17 f ah (own_qq 9 (own_run 10 0 (own_run 10 0 (own_run 10 0 vs0)))) (10 : Int32)) [(.long (19 : Int64)), (.long ((own_run 10 0 (own_run 10 0 (own_run 10 0 vs0))).getD 0 0)), (.int (0 : Int32)), (.ref ah)])) _
    refine XT.lloadN X24.here hx rfl (hb hby dE_144) rfl  ?_
    refine XT.lmul X24.here hx rfl (hb hby dE_145) rfl ?_
    show Steps p.tables e below (T24.setTop (mkF m 146 (own_L17 f ah (own_qq 9 (own_run 10 0 (own_run 10 0 (own_run 10 0 vs0)))) (10 : Int32)) [(.long ((19 : Int64) * (own_qq 9 (own_run 10 0 (own_run 10 0 (own_run 10 0 vs0)))))), (.long ((own_run 10 0 (own_run 10 0 (own_run 10 0 vs0))).getD 0 0)), (.int (0 : Int32)), (.ref ah)])) _
    refine XT.ladd X24.here hx rfl (hb hby dE_146) rfl ?_
    exact oK
  obtain ⟨T25, h25, X25, e25, W25, V25, st25⟩ := own_stJ X24 hx hZ e24 V2r ((own_run_len ..).trans ((own_run_len ..).trans ((own_run_len ..).trans hl0))) (j := (0 : Int32)) (i := 0) rfl (by decide) (g := (mkF m 147 (own_L17 f ah (own_qq 9 (own_run 10 0 (own_run 10 0 (own_run 10 0 vs0)))) (10 : Int32)) [(.long (((own_run 10 0 (own_run 10 0 (own_run 10 0 vs0))).getD 0 0) + ((19 : Int64) * (own_qq 9 (own_run 10 0 (own_run 10 0 (own_run 10 0 vs0))))))), (.int (0 : Int32)), (.ref ah)])) rfl rfl (hb hby dE_147)
  have f56 := (O2r).wr W25 gn_ah
  have K25 : Keep h0 h25 [] := (K2r).wr W25 (Or.inr sz_ah)
  have Z25 : n0 ≤ h25.size := Nat.le_trans (Nat.le_trans Z0 K2r.1) (Keep.of_wr W25).1
  have N25 := Fr.snoc X25 N2r gn_ah
  refine OG.of st25 ?_
  show OG _ _ _ _ _ _ _ (T25.setTop (mkF m 148 (own_L17 f ah (own_qq 9 (own_run 10 0 (own_run 10 0 (own_run 10 0 vs0)))) (10 : Int32)) []))
  have f57 : Arv Z h25 ah kf .long (10 : Int32) ((own_a (own_3 vs0)).map Value.long) (.long (0 : Int64)) := V25
  have own_a3len : (own_a (own_3 vs0)).length = 10 := by simp [own_a, own_3, own_run_len, hl0]
  refine OG.of (A := T25.setTop (mkF m 151 (own_L17 f ah (own_qq 9 (own_run 10 0 (own_run 10 0 (own_run 10 0 vs0)))) (0 : Int32)) [])) (fun oT oK => ?_) ?_
  · skip
    refine XS.iconst X25.here hx rfl (hb hby dE_148) ?_
    show Steps p.tables e below (T25.setTop (mkF m 149 (own_L17 f ah (own_qq 9 (own_run 10 0 (own_run 10 0 (own_run 10 0 vs0)))) (10 : Int32)) [(.int (0 : Int32))])) _
    refine XS.istore X25.here hx rfl (hb hby dE_149) rfl (l' := (own_L17 f ah (own_qq 9 (own_run 10 0 (own_run 10 0 (own_run 10 0 vs0)))) (0 : Int32))) rfl ?_
    exact oK
  refine loopB 9 0 (own_qq 9 (own_run 10 0 (own_run 10 0 (own_run 10 0 vs0)))) _ _ (own_a (own_3 vs0)) T25 _ _ (Or.inl ⟨rfl, rfl⟩) (by decide) own_a3len X25 e25 N25 f56 K25 f57 (fun s5b s6b Tb locsb hb' twb Xb eb Nb Ob Kb Vb => ?_)
  show OG _ _ _ _ _ _ _ (Tb.setTop (mkF m 204 (own_L12 f ah (own_qq 9 (own_run 10 0 (own_run 10 0 (own_run 10 0 vs0)))) (9 : Int32) s5b s6b) []))
  refine OG.of (A := Tb.setTop (mkF m 208 (own_L12 f ah (own_qq 9 (own_run 10 0 (own_run 10 0 (own_run 10 0 vs0)))) (9 : Int32) s5b s6b) [(.int (9 : Int32)), (.ref ah), (.int (9 : Int32)), (.ref ah)])) (fun oT oK => ?_) ?_
  · skip
    refine XS.aloadN Xb.here hx rfl (hb hby dE_204) rfl rfl  ?_
    show Steps p.tables e below (Tb.setTop (mkF m 205 (own_L12 f ah (own_qq 9 (own_run 10 0 (own_run 10 0 (own_run 10 0 vs0)))) (9 : Int32) s5b s6b) [(.ref ah)])) _
    refine XS.bipush Xb.here hx rfl (hb hby dE_205) ?_
    refine XT.dup2 Xb.here hx rfl (hb hby dE_207) rfl rfl rfl ?_
    exact oK
  obtain ⟨clf58, Arf58, If58, Hf58⟩ := own_rdL Vb ((own_run_len ..).trans own_a3len) (j := (9 : Int32)) (i := 9) rfl (by decide)
  refine OG.of (Xb.laload hx (j := (9 : Int32)) (v := (.long ((own_run 9 0 (own_a (own_3 vs0))).getD 9 0))) (by rw [eb]; exact Arf58.1) (State.isArrayOf_alike hZ.alike Arf58.2.1) Arf58.2.2 If58 Hf58 (g := (mkF m 208 (own_L12 f ah (own_qq 9 (own_run 10 0 (own_run 10 0 (own_run 10 0 vs0)))) (9 : Int32) s5b s6b) [(.int (9 : Int32)), (.ref ah), (.int (9 : Int32)), (.ref ah)])) rfl rfl (hb hby dE_208)) ?_
  show OG _ _ _ _ _ _ _ (Tb.setTop (mkF m 209 (own_L12 f ah (own_qq 9 (own_run 10 0 (own_run 10 0 (own_run 10 0 vs0)))) (9 : Int32) s5b s6b) [(.long ((own_run 9 0 (own_a (own_3 vs0))).getD 9 0)), (.int (9 : Int32)), (.ref ah)]))
  refine OG.of (A := Tb.setTop (mkF m 210 (own_L12 f ah (own_qq 9 (own_run 10 0 (own_run 10 0 (own_run 10 0 vs0)))) (9 : Int32) s5b s6b) [(.long (1 : Int64)), (.long ((own_run 9 0 (own_a (own_3 vs0))).getD 9 0)), (.int (9 : Int32)), (.ref ah)])) (fun oT oK => ?_) ?_
  · skip
    refine XT.lconst Xb.here hx rfl (hb hby dE_209) ?_
    exact oK
  obtain ⟨T26, X26, e26, st26⟩ := getS2 Xb hx hZ hown (host := "") (Or.inl (own_at hw 8 rfl)) Via.refl eb (SB.ext (Ob).2) (g := (mkF m 210 (own_L12 f ah (own_qq 9 (own_run 10 0 (own_run 10 0 (own_run 10 0 vs0)))) (9 : Int32) s5b s6b) [(.long (1 : Int64)), (.long ((own_run 9 0 (own_a (own_3 vs0))).getD 9 0)), (.int (9 : Int32)), (.ref ah)])) rfl (hb hby dE_210)
  refine OG.of st26 ?_
  show OG _ _ _ _ _ _ _ (T26.setTop (mkF m 213 (own_L12 f ah (own_qq 9 (own_run 10 0 (own_run 10 0 (own_run 10 0 vs0)))) (9 : Int32) s5b s6b) [(.ref wB), (.long (1 : Int64)), (.long ((own_run 9 0 (own_a (own_3 vs0))).getD 9 0)), (.int (9 : Int32)), (.ref ah)]))
  refine OG.of (A := T26.setTop (mkF m 215 (own_L12 f ah (own_qq 9 (own_run 10 0 (own_run 10 0 (own_run 10 0 vs0)))) (9 : Int32) s5b s6b) [(.int (9 : Int32)), (.ref wB), (.long (1 : Int64)), (.long ((own_run 9 0 (own_a (own_3 vs0))).getD 9 0)), (.int (9 : Int32)), (.ref ah)])) (fun oT oK => ?_) ?_
  · skip
    refine XS.bipush X26.here hx rfl (hb hby dE_213) ?_
    exact oK
  have cf59 := ((TB 9 (by decide)).ext (Ob).2)
  obtain ⟨clf59, Arf59, If59, Hf59⟩ := cf59
  refine OG.of (X26.iaload hx (j := (9 : Int32)) (v := (.int (25 : Int32))) (by rw [e26]; exact Arf59.1) (State.isArrayOf_alike hZ.alike Arf59.2.1) Arf59.2.2 If59 Hf59 (g := (mkF m 215 (own_L12 f ah (own_qq 9 (own_run 10 0 (own_run 10 0 (own_run 10 0 vs0)))) (9 : Int32) s5b s6b) [(.int (9 : Int32)), (.ref wB), (.long (1 : Int64)), (.long ((own_run 9 0 (own_a (own_3 vs0))).getD 9 0)), (.int (9 : Int32)), (.ref ah)])) rfl rfl (hb hby dE_215)) ?_
  show OG _ _ _ _ _ _ _ (T26.setTop (mkF m 216 (own_L12 f ah (own_qq 9 (own_run 10 0 (own_run 10 0 (own_run 10 0 vs0)))) (9 : Int32) s5b s6b) [(.int (25 : Int32)), (.long (1 : Int64)), (.long ((own_run 9 0 (own_a (own_3 vs0))).getD 9 0)), (.int (9 : Int32)), (.ref ah)]))
  refine OG.of (A := T26.setTop (mkF m 220 (own_L12 f ah (own_qq 9 (own_run 10 0 (own_run 10 0 (own_run 10 0 vs0)))) (9 : Int32) s5b s6b) [(.long (((own_run 9 0 (own_a (own_3 vs0))).getD 9 0) &&& (((1 : Int64) <<< ((25 : Int32).toInt64 &&& 63)) - (1 : Int64)))), (.int (9 : Int32)), (.ref ah)])) (fun oT oK => ?_) ?_
  · skip
    refine XT.lshl X26.here hx rfl (hb hby dE_216) rfl ?_
    show Steps p.tables e below (T26.setTop (mkF m 217 (own_L12 f ah (own_qq 9 (own_run 10 0 (own_run 10 0 (own_run 10 0 vs0)))) (9 : Int32) s5b s6b) [(.long ((1 : Int64) <<< ((25 : Int32).toInt64 &&& 63))), (.long ((own_run 9 0 (own_a (own_3 vs0))).getD 9 0)), (.int (9 : Int32)), (.ref ah)])) _
    refine XT.lconst X26.here hx rfl (hb hby dE_217) ?_
    refine XT.lsub X26.here hx rfl (hb hby dE_218) rfl ?_
    show Steps p.tables e below (T26.setTop (mkF m 219 (own_L12 f ah (own_qq 9 (own_run 10 0 (own_run 10 0 (own_run 10 0 vs0)))) (9 : Int32) s5b s6b) [(.long (((1 : Int64) <<< ((25 : Int32).toInt64 &&& 63)) - (1 : Int64))), (.long ((own_run 9 0 (own_a (own_3 vs0))).getD 9 0)), (.int (9 : Int32)), (.ref ah)])) _
    refine XT.land X26.here hx rfl (hb hby dE_219) rfl ?_
    exact oK
  obtain ⟨T27, h27, X27, e27, W27, V27, st27⟩ := own_stJ X26 hx hZ e26 Vb ((own_run_len ..).trans own_a3len) (j := (9 : Int32)) (i := 9) rfl (by decide) (g := (mkF m 220 (own_L12 f ah (own_qq 9 (own_run 10 0 (own_run 10 0 (own_run 10 0 vs0)))) (9 : Int32) s5b s6b) [(.long (((own_run 9 0 (own_a (own_3 vs0))).getD 9 0) &&& (((1 : Int64) <<< ((25 : Int32).toInt64 &&& 63)) - (1 : Int64)))), (.int (9 : Int32)), (.ref ah)])) rfl rfl (hb hby dE_220)
  have f61 := (Ob).wr W27 gn_ah
  have K27 : Keep h0 h27 [] := (Kb).wr W27 (Or.inr sz_ah)
  have Z27 : n0 ≤ h27.size := Nat.le_trans (Nat.le_trans Z0 Kb.1) (Keep.of_wr W27).1
  have N27 := Fr.snoc X27 Nb gn_ah
  refine OG.of st27 ?_
  show OG _ _ _ _ _ _ _ (T27.setTop (mkF m 221 (own_L12 f ah (own_qq 9 (own_run 10 0 (own_run 10 0 (own_run 10 0 vs0)))) (9 : Int32) s5b s6b) []))
  obtain ⟨W, hW⟩ : ∃ W, W = own_fin vs0 := ⟨_, rfl⟩
  have f62 : Arv Z h27 ah kf .long (10 : Int32) (W.map Value.long) (.long (0 : Int64)) := by rw [hW]; exact V27
  have hlW : W.length = 10 := by rw [hW]; simp [own_fin, own_a, own_3, own_run_len, hl0]
  refine OG.of (A := T27.setTop (mkF m 223 (own_L12 f ah (own_qq 9 (own_run 10 0 (own_run 10 0 (own_run 10 0 vs0)))) (9 : Int32) s5b s6b) [(.int (32 : Int32))])) (fun oT oK => ?_) ?_
  · skip
    refine XS.bipush X27.here hx rfl (hb hby dE_221) ?_
    exact oK
  obtain ⟨T28, h28, kc28, X28, e28, E28, A28, st28⟩ := newP X27 hx hZ (own_at hw 31 rfl) e27 (g := (mkF m 223 (own_L12 f ah (own_qq 9 (own_run 10 0 (own_run 10 0 (own_run 10 0 vs0)))) (9 : Int32) s5b s6b) [(.int (32 : Int32))])) rfl (hb hby dE_223) rfl (by decide) (cap := 32) (by decide) (by decide) (by decide) (by decide)
  obtain ⟨b28, g28⟩ : ∃ z, z = (h27).size := ⟨_, rfl⟩
  have ne_ah_b28 : ah ≠ b28 := Nat.ne_of_lt (Nat.lt_of_lt_of_le (f62).lt (Nat.le_of_eq g28.symm))
  have gn_b28 : n0 ≤ b28 := Nat.le_trans Z27 (Nat.le_of_eq g28.symm)
  have sz_b28 : h0.size ≤ b28 := Nat.le_trans (K27).1 (Nat.le_of_eq g28.symm)
  rw [← g28] at A28 st28
  have f63 := (f62).ext E28
  have f64 := (f61).ext E28
  have K28 : Keep h0 h28 [] := (K27).ext E28
  have Z28 : n0 ≤ h28.size := Nat.le_trans Z27 E28.1
  have V28 : Arv Z h28 b28 kc28 .byte (32 : Int32) [(.int (0 : Int32)), (.int (0 : Int32)), (.int (0 : Int32)), (.int (0 : Int32)), (.int (0 : Int32)), (.int (0 : Int32)), (.int (0 : Int32)), (.int (0 : Int32)), (.int (0 : Int32)), (.int (0 : Int32)), (.int (0 : Int32)), (.int (0 : Int32)), (.int (0 : Int32)), (.int (0 : Int32)), (.int (0 : Int32)), (.int (0 : Int32)), (.int (0 : Int32)), (.int (0 : Int32)), (.int (0 : Int32)), (.int (0 : Int32)), (.int (0 : Int32)), (.int (0 : Int32)), (.int (0 : Int32)), (.int (0 : Int32)), (.int (0 : Int32)), (.int (0 : Int32)), (.int (0 : Int32)), (.int (0 : Int32)), (.int (0 : Int32)), (.int (0 : Int32)), (.int (0 : Int32)), (.int (0 : Int32))] (.int (0 : Int32)) := (Arv.new A28 (by decide)).pad (pad_rep [] (.int (0 : Int32)) 32)
  refine OG.of st28 ?_
  show OG _ _ _ _ _ _ _ (T28.setTop (mkF m 225 (own_L12 f ah (own_qq 9 (own_run 10 0 (own_run 10 0 (own_run 10 0 vs0)))) (9 : Int32) s5b s6b) [(.ref b28)]))
  refine OG.of (A := T28.setTop (mkF m 239 (own_L7 f ah (own_qq 9 (own_run 10 0 (own_run 10 0 (own_run 10 0 vs0)))) b28 (0 : Int64) (0 : Int32) (0 : Int32) (0 : Int32)) [])) (fun oT oK => ?_) ?_
  · skip
    refine XS.astore X28.here hx rfl (hb hby dE_225) rfl rfl (l' := (own_L18 f ah (own_qq 9 (own_run 10 0 (own_run 10 0 (own_run 10 0 vs0)))) b28 s5b s6b)) rfl ?_
    show Steps p.tables e below (T28.setTop (mkF m 227 (own_L18 f ah (own_qq 9 (own_run 10 0 (own_run 10 0 (own_run 10 0 vs0)))) b28 s5b s6b) [])) _
    refine XT.lconst X28.here hx rfl (hb hby dE_227) ?_
    refine XT.lstore X28.here hx rfl (hb hby dE_228) rfl (l' := (own_L19 f ah (own_qq 9 (own_run 10 0 (own_run 10 0 (own_run 10 0 vs0)))) b28 (0 : Int64))) (own_os5K twb) ?_
    show Steps p.tables e below (T28.setTop (mkF m 230 (own_L19 f ah (own_qq 9 (own_run 10 0 (own_run 10 0 (own_run 10 0 vs0)))) b28 (0 : Int64)) [])) _
    refine XS.iconst X28.here hx rfl (hb hby dE_230) ?_
    refine XS.istore X28.here hx rfl (hb hby dE_231) rfl (l' := (own_L20 f ah (own_qq 9 (own_run 10 0 (own_run 10 0 (own_run 10 0 vs0)))) b28 (0 : Int64) (0 : Int32))) rfl ?_
    show Steps p.tables e below (T28.setTop (mkF m 233 (own_L20 f ah (own_qq 9 (own_run 10 0 (own_run 10 0 (own_run 10 0 vs0)))) b28 (0 : Int64) (0 : Int32)) [])) _
    refine XS.iconst X28.here hx rfl (hb hby dE_233) ?_
    refine XS.istore X28.here hx rfl (hb hby dE_234) rfl (l' := (own_L21 f ah (own_qq 9 (own_run 10 0 (own_run 10 0 (own_run 10 0 vs0)))) b28 (0 : Int64) (0 : Int32) (0 : Int32))) rfl ?_
    show Steps p.tables e below (T28.setTop (mkF m 236 (own_L21 f ah (own_qq 9 (own_run 10 0 (own_run 10 0 (own_run 10 0 vs0)))) b28 (0 : Int64) (0 : Int32) (0 : Int32)) [])) _
    refine XS.iconst X28.here hx rfl (hb hby dE_236) ?_
    refine XS.istore X28.here hx rfl (hb hby dE_237) rfl (l' := (own_L7 f ah (own_qq 9 (own_run 10 0 (own_run 10 0 (own_run 10 0 vs0)))) b28 (0 : Int64) (0 : Int32) (0 : Int32) (0 : Int32))) rfl ?_
    exact oK
  have f65 : Arv Z h28 b28 kc28 .byte (32 : Int32) ((List.replicate 32 (0 : Int32)).map Value.int) (.int (0 : Int32)) := V28
  refine own_turn0 f ah b28 kf kc28 wB (own_qq 9 (own_run 10 0 (own_run 10 0 (own_run 10 0 vs0)))) (0 : Int64) W (List.replicate 32 (0 : Int32)) T28 _ _ hx hZ hw hby hml hown hlk Bd.returns SB TB Z0 gn_ah sz_ah gn_b28 sz_b28 ne_ah_b28 hlW (List.length_replicate ..) X28 e28 N27 f64 K28 f63 f65 (fun T0t locs0t h0t X0t e0t N0t O0t K0t V0t B0t => ?_)
  obtain ⟨q0, hq0⟩ : ∃ z, z = (own_u3 W (0 : Int64)) := ⟨_, rfl⟩
  obtain ⟨bs0, hb0⟩ : ∃ z, z = ((((List.replicate 32 (0 : Int32)).set 0 (own_u0 W (0 : Int64)).toInt32.toInt8.toInt32.toInt8.toInt32).set 1 (own_u1 W (0 : Int64)).toInt32.toInt8.toInt32.toInt8.toInt32).set 2 (own_u2 W (0 : Int64)).toInt32.toInt8.toInt32.toInt8.toInt32) := ⟨_, rfl⟩
  rw [← hb0] at B0t
  rw [← hq0]
  have hl0 : bs0.length = 32 := by rw [hb0]; simp
  refine own_turn1 f ah b28 kf kc28 wB (own_qq 9 (own_run 10 0 (own_run 10 0 (own_run 10 0 vs0)))) q0 W bs0 T0t _ _ hx hZ hw hby hml hown hlk Bd.returns SB TB Z0 gn_ah sz_ah gn_b28 sz_b28 ne_ah_b28 hlW hl0 X0t e0t N0t O0t K0t V0t B0t (fun T1t locs1t h1t X1t e1t N1t O1t K1t V1t B1t => ?_)
  obtain ⟨q1, hq1⟩ : ∃ z, z = (own_u7 W q0) := ⟨_, rfl⟩
  obtain ⟨bs1, hb1⟩ : ∃ z, z = (((bs0.set 3 (own_u4 W q0).toInt32.toInt8.toInt32.toInt8.toInt32).set 4 (own_u5 W q0).toInt32.toInt8.toInt32.toInt8.toInt32).set 5 (own_u6 W q0).toInt32.toInt8.toInt32.toInt8.toInt32) := ⟨_, rfl⟩
  rw [← hb1] at B1t
  rw [← hq1]
  have hl1 : bs1.length = 32 := by rw [hb1]; simp [hl0]
  refine own_turn2 f ah b28 kf kc28 wB (own_qq 9 (own_run 10 0 (own_run 10 0 (own_run 10 0 vs0)))) q1 W bs1 T1t _ _ hx hZ hw hby hml hown hlk Bd.returns SB TB Z0 gn_ah sz_ah gn_b28 sz_b28 ne_ah_b28 hlW hl1 X1t e1t N1t O1t K1t V1t B1t (fun T2t locs2t h2t X2t e2t N2t O2t K2t V2t B2t => ?_)
  obtain ⟨q2, hq2⟩ : ∃ z, z = (own_u11 W q1) := ⟨_, rfl⟩
  obtain ⟨bs2, hb2⟩ : ∃ z, z = (((bs1.set 6 (own_u8 W q1).toInt32.toInt8.toInt32.toInt8.toInt32).set 7 (own_u9 W q1).toInt32.toInt8.toInt32.toInt8.toInt32).set 8 (own_u10 W q1).toInt32.toInt8.toInt32.toInt8.toInt32) := ⟨_, rfl⟩
  rw [← hb2] at B2t
  rw [← hq2]
  have hl2 : bs2.length = 32 := by rw [hb2]; simp [hl1]
  refine own_turn3 f ah b28 kf kc28 wB (own_qq 9 (own_run 10 0 (own_run 10 0 (own_run 10 0 vs0)))) q2 W bs2 T2t _ _ hx hZ hw hby hml hown hlk Bd.returns SB TB Z0 gn_ah sz_ah gn_b28 sz_b28 ne_ah_b28 hlW hl2 X2t e2t N2t O2t K2t V2t B2t (fun T3t locs3t h3t X3t e3t N3t O3t K3t V3t B3t => ?_)
  obtain ⟨q3, hq3⟩ : ∃ z, z = (own_u15 W q2) := ⟨_, rfl⟩
  obtain ⟨bs3, hb3⟩ : ∃ z, z = (((bs2.set 9 (own_u12 W q2).toInt32.toInt8.toInt32.toInt8.toInt32).set 10 (own_u13 W q2).toInt32.toInt8.toInt32.toInt8.toInt32).set 11 (own_u14 W q2).toInt32.toInt8.toInt32.toInt8.toInt32) := ⟨_, rfl⟩
  rw [← hb3] at B3t
  rw [← hq3]
  have hl3 : bs3.length = 32 := by rw [hb3]; simp [hl2]
  refine own_turn4 f ah b28 kf kc28 wB (own_qq 9 (own_run 10 0 (own_run 10 0 (own_run 10 0 vs0)))) q3 W bs3 T3t _ _ hx hZ hw hby hml hown hlk Bd.returns SB TB Z0 gn_ah sz_ah gn_b28 sz_b28 ne_ah_b28 hlW hl3 X3t e3t N3t O3t K3t V3t B3t (fun T4t locs4t h4t X4t e4t N4t O4t K4t V4t B4t => ?_)
  obtain ⟨q4, hq4⟩ : ∃ z, z = (own_u20 W q3) := ⟨_, rfl⟩
  obtain ⟨bs4, hb4⟩ : ∃ z, z = ((((bs3.set 12 (own_u16 W q3).toInt32.toInt8.toInt32.toInt8.toInt32).set 13 (own_u17 W q3).toInt32.toInt8.toInt32.toInt8.toInt32).set 14 (own_u18 W q3).toInt32.toInt8.toInt32.toInt8.toInt32).set 15 (own_u19 W q3).toInt32.toInt8.toInt32.toInt8.toInt32) := ⟨_, rfl⟩
  rw [← hb4] at B4t
  rw [← hq4]
  have hl4 : bs4.length = 32 := by rw [hb4]; simp [hl3]
  refine own_turn5 f ah b28 kf kc28 wB (own_qq 9 (own_run 10 0 (own_run 10 0 (own_run 10 0 vs0)))) q4 W bs4 T4t _ _ hx hZ hw hby hml hown hlk Bd.returns SB TB Z0 gn_ah sz_ah gn_b28 sz_b28 ne_ah_b28 hlW hl4 X4t e4t N4t O4t K4t V4t B4t (fun T5t locs5t h5t X5t e5t N5t O5t K5t V5t B5t => ?_)
  obtain ⟨q5, hq5⟩ : ∃ z, z = (own_u24 W q4) := ⟨_, rfl⟩
  obtain ⟨bs5, hb5⟩ : ∃ z, z = (((bs4.set 16 (own_u21 W q4).toInt32.toInt8.toInt32.toInt8.toInt32).set 17 (own_u22 W q4).toInt32.toInt8.toInt32.toInt8.toInt32).set 18 (own_u23 W q4).toInt32.toInt8.toInt32.toInt8.toInt32) := ⟨_, rfl⟩
  rw [← hb5] at B5t
  rw [← hq5]
  have hl5 : bs5.length = 32 := by rw [hb5]; simp [hl4]
  refine own_turn6 f ah b28 kf kc28 wB (own_qq 9 (own_run 10 0 (own_run 10 0 (own_run 10 0 vs0)))) q5 W bs5 T5t _ _ hx hZ hw hby hml hown hlk Bd.returns SB TB Z0 gn_ah sz_ah gn_b28 sz_b28 ne_ah_b28 hlW hl5 X5t e5t N5t O5t K5t V5t B5t (fun T6t locs6t h6t X6t e6t N6t O6t K6t V6t B6t => ?_)
  obtain ⟨q6, hq6⟩ : ∃ z, z = (own_u28 W q5) := ⟨_, rfl⟩
  obtain ⟨bs6, hb6⟩ : ∃ z, z = (((bs5.set 19 (own_u25 W q5).toInt32.toInt8.toInt32.toInt8.toInt32).set 20 (own_u26 W q5).toInt32.toInt8.toInt32.toInt8.toInt32).set 21 (own_u27 W q5).toInt32.toInt8.toInt32.toInt8.toInt32) := ⟨_, rfl⟩
  rw [← hb6] at B6t
  rw [← hq6]
  have hl6 : bs6.length = 32 := by rw [hb6]; simp [hl5]
  refine own_turn7 f ah b28 kf kc28 wB (own_qq 9 (own_run 10 0 (own_run 10 0 (own_run 10 0 vs0)))) q6 W bs6 T6t _ _ hx hZ hw hby hml hown hlk Bd.returns SB TB Z0 gn_ah sz_ah gn_b28 sz_b28 ne_ah_b28 hlW hl6 X6t e6t N6t O6t K6t V6t B6t (fun T7t locs7t h7t X7t e7t N7t O7t K7t V7t B7t => ?_)
  obtain ⟨q7, hq7⟩ : ∃ z, z = (own_u32 W q6) := ⟨_, rfl⟩
  obtain ⟨bs7, hb7⟩ : ∃ z, z = (((bs6.set 22 (own_u29 W q6).toInt32.toInt8.toInt32.toInt8.toInt32).set 23 (own_u30 W q6).toInt32.toInt8.toInt32.toInt8.toInt32).set 24 (own_u31 W q6).toInt32.toInt8.toInt32.toInt8.toInt32) := ⟨_, rfl⟩
  rw [← hb7] at B7t
  rw [← hq7]
  have hl7 : bs7.length = 32 := by rw [hb7]; simp [hl6]
  refine own_turn8 f ah b28 kf kc28 wB (own_qq 9 (own_run 10 0 (own_run 10 0 (own_run 10 0 vs0)))) q7 W bs7 T7t _ _ hx hZ hw hby hml hown hlk Bd.returns SB TB Z0 gn_ah sz_ah gn_b28 sz_b28 ne_ah_b28 hlW hl7 X7t e7t N7t O7t K7t V7t B7t (fun T8t locs8t h8t X8t e8t N8t O8t K8t V8t B8t => ?_)
  obtain ⟨q8, hq8⟩ : ∃ z, z = (own_u36 W q7) := ⟨_, rfl⟩
  obtain ⟨bs8, hb8⟩ : ∃ z, z = (((bs7.set 25 (own_u33 W q7).toInt32.toInt8.toInt32.toInt8.toInt32).set 26 (own_u34 W q7).toInt32.toInt8.toInt32.toInt8.toInt32).set 27 (own_u35 W q7).toInt32.toInt8.toInt32.toInt8.toInt32) := ⟨_, rfl⟩
  rw [← hb8] at B8t
  rw [← hq8]
  have hl8 : bs8.length = 32 := by rw [hb8]; simp [hl7]
  refine own_turn9 f ah b28 kf kc28 wB (own_qq 9 (own_run 10 0 (own_run 10 0 (own_run 10 0 vs0)))) q8 W bs8 T8t _ _ hx hZ hw hby hml hown hlk Bd.returns SB TB Z0 gn_ah sz_ah gn_b28 sz_b28 ne_ah_b28 hlW hl8 X8t e8t N8t O8t K8t V8t B8t (fun T9t locs9t h9t X9t e9t N9t O9t K9t V9t B9t => ?_)
  obtain ⟨q9, hq9⟩ : ∃ z, z = (own_u40 W q8) := ⟨_, rfl⟩
  obtain ⟨bs9, hb9⟩ : ∃ z, z = (((bs8.set 28 (own_u37 W q8).toInt32.toInt8.toInt32.toInt8.toInt32).set 29 (own_u38 W q8).toInt32.toInt8.toInt32.toInt8.toInt32).set 30 (own_u39 W q8).toInt32.toInt8.toInt32.toInt8.toInt32) := ⟨_, rfl⟩
  rw [← hb9] at B9t
  rw [← hq9]
  have hl9 : bs9.length = 32 := by rw [hb9]; simp [hl8]
  refine own_turn10 f ah b28 kf kc28 wB (own_qq 9 (own_run 10 0 (own_run 10 0 (own_run 10 0 vs0)))) q9 W bs9 T9t _ _ hx hZ hw hby hml hown hlk Bd.returns SB TB Z0 gn_ah sz_ah gn_b28 sz_b28 ne_ah_b28 hlW hl9 X9t e9t N9t O9t K9t V9t B9t (fun h' L N' K' B' => ?_)
  exact ⟨b28, kc28, rfl, N', K', gn_b28, by rw [← hW]; subst hb9 hq9 hb8 hq8 hb7 hq7 hb6 hq6 hb5 hq5 hb4 hq4 hb3 hq3 hb2 hq2 hb1 hq1 hb0 hq0; exact B'⟩
theorem dD_0 : decode method_2_code 0 = .ok (.lload_n 0, 1) := by decide +kernel
theorem dD_1 : decode method_2_code 1 = .ok (.iconst 2, 1) := by decide +kernel
theorem dD_2 : decode method_2_code 2 = .ok (.iload_n 2, 1) := by decide +kernel
theorem dD_3 : decode method_2_code 3 = .ok (.imul, 1) := by decide +kernel
theorem dD_4 : decode method_2_code 4 = .ok (.lushr, 1) := by decide +kernel
theorem dD_5 : decode method_2_code 5 = .ok (.ldc2_w 7, 3) := by decide +kernel
theorem dD_8 : decode method_2_code 8 = .ok (.land, 1) := by decide +kernel
theorem dD_9 : decode method_2_code 9 = .ok (.l2i, 1) := by decide +kernel
theorem dD_10 : decode method_2_code 10 = .ok (.istore_n 3, 1) := by decide +kernel
theorem dD_11 : decode method_2_code 11 = .ok (.iload_n 3, 1) := by decide +kernel
theorem dD_12 : decode method_2_code 12 = .ok (.iconst 1, 1) := by decide +kernel
theorem dD_13 : decode method_2_code 13 = .ok (.iand, 1) := by decide +kernel
theorem dD_14 : decode method_2_code 14 = .ok (.iload_n 3, 1) := by decide +kernel
theorem dD_15 : decode method_2_code 15 = .ok (.iconst 1, 1) := by decide +kernel
theorem dD_16 : decode method_2_code 16 = .ok (.ishr, 1) := by decide +kernel
theorem dD_17 : decode method_2_code 17 = .ok (.isub, 1) := by decide +kernel
theorem dD_18 : decode method_2_code 18 = .ok (.i2l, 1) := by decide +kernel
theorem dD_19 : decode method_2_code 19 = .ok (.lreturn, 1) := by decide +kernel
theorem pn_D : plainName "com/example/gate_to_gate/gatetogate/io/Field25519EncodePinLaw" = true := by first | (simp [plainName, overriddenIn]; done) | decide +kernel
theorem ef_D (m : MethodId) (x0 : Int64) (x1 : Int32) : entryFrame m #[(.long x0), (.int x1)] 4 = mkF m 0 #[.val (.long x0), .second, .val (.int x1), .unset] [] := by first | (simp [entryFrame, mkF, argsToLocals, Value.category]; done) | rfl
def QD (Z : State) (q : Int64) (i0 : Int32) (h0 : Heap) (n0 : Nat) (v : Option Value) (h : Heap) (L : List Loc) : Prop := v = some (.long (own_d q i0)) ∧ Fr n0 L ∧ h = h0
set_option maxRecDepth 65536 in
set_option maxHeartbeats 40000000 in
theorem rmD (l : Launch) (Z : State) (a0 : Array Value) (hw : ∀ d ∈ tables_1, d.before a0 Z = true) (ws : List Jvm.Cond) (q : Int64) (i0 : Int32) (h0 : Heap) (n0 : Nat) (Z0 : n0 ≤ h0.size) :
    MetFree l (⟨"com/example/gate_to_gate/gatetogate/io/Field25519EncodePinLaw", "d", "(JI)J"⟩ : MethodName) (head1 (Jvm.Cond.code (⟨"com/example/gate_to_gate/gatetogate/io/Field25519EncodePinLaw", "d", "(JI)J"⟩ : MethodName) method_2_code 4 (some .long) :: ws) ({ frames := 0, cells := 0, slots := 0, locals := 0 } : Room)) (fun aA oU => aA = #[(.long q), (.int i0)] ∧ Z.Warmed39 oU.vm ∧ oU.heap = h0) (fun _ _ _ _ _ => True) (fun _ oU oO oU' => ∃ oV oL, oO = .returned oV ∧ QD Z q i0 h0 n0 oV oU'.heap oL ∧ FrameEnd oU oO oU' oL ({ frames := 0, cells := 0, slots := 0, locals := 0 } : Room).cells ({ frames := 0, cells := 0, slots := 0, locals := 0 } : Room).slots) := by
  refine MetFree.of_bodySF (plainFor_of_name pn_D) hisR ?_
  intro p e s m args below meth c s₁ Bd hml0 hP hK
  obtain ⟨rfl, hZ, hh⟩ := hP
  have hx := Bd.exec
  have hby := Bd.bytes
  have hlk := BodyLoose.notSynchronized Bd
  have hml : c.maxLocals = 4 := hml0
  have hown : s.vm.findClass "com/example/gate_to_gate/gatetogate/io/Field25519EncodePinLaw" = some m.cls := findClass_of_methodNamed Bd.named
  have hnm := (name_of_methodNamed Bd.named Bd.method).1
  have X0 : Stand p l e ({ frames := 0, cells := 0, slots := 0, locals := 0 } : Room) s m #[(.long q), (.int i0)] below meth c s₁ [] 0 0 := Stand.of_body Bd
  have e0 : s₁.heap = h0 := by rw [← hh, Bd.state]; rfl
  have N0 := Fr.nil n0
  show OG p e below s ({ frames := 0, cells := 0, slots := 0, locals := 0 } : Room).cells ({ frames := 0, cells := 0, slots := 0, locals := 0 } : Room).slots (QD Z q i0 h0 n0) _
  refine OG.of (fun oT oK => castTop (ef_D m q i0) oK) ?_
  show OG p e below s _ _ _ (s₁.setTop (mkF m 0 (own_L22 q i0) []))
  refine OG.of (A := s₁.setTop (mkF m 19 (own_L23 q i0 ((XT.ushrL q ((2 : Int32) * i0)) &&& (3 : Int64)).toInt32) [(.long ((((XT.ushrL q ((2 : Int32) * i0)) &&& (3 : Int64)).toInt32 &&& (1 : Int32)) - (((XT.ushrL q ((2 : Int32) * i0)) &&& (3 : Int64)).toInt32 >>> ((1 : Int32) &&& 31))).toInt64)])) (fun oT oK => ?_) ?_
  · skip
    refine XT.lloadN X0.here hx rfl (hb hby dD_0) rfl  ?_
    show Steps p.tables e below (s₁.setTop (mkF m 1 (own_L22 q i0) [(.long q)])) _
    refine XS.iconst X0.here hx rfl (hb hby dD_1) ?_
    refine XS.iloadN X0.here hx rfl (hb hby dD_2) rfl  ?_
    show Steps p.tables e below (s₁.setTop (mkF m 3 (own_L22 q i0) [(.int i0), (.int (2 : Int32)), (.long q)])) _
    refine XS.imul X0.here hx rfl (hb hby dD_3) rfl ?_
    refine XT.lushr X0.here hx rfl (hb hby dD_4) rfl ?_
    show Steps p.tables e below (s₁.setTop (mkF m 5 (own_L22 q i0) [(.long (XT.ushrL q ((2 : Int32) * i0)))])) _
    refine X0.ldc2Long hx hown (mvT hZ (own_at hw 14 rfl)) (g := (mkF m 5 (own_L22 q i0) [(.long (XT.ushrL q ((2 : Int32) * i0)))])) rfl (hb hby dD_5) _ ?_
    refine XT.land X0.here hx rfl (hb hby dD_8) rfl ?_
    show Steps p.tables e below (s₁.setTop (mkF m 9 (own_L22 q i0) [(.long ((XT.ushrL q ((2 : Int32) * i0)) &&& (3 : Int64)))])) _
    refine XT.l2i X0.here hx rfl (hb hby dD_9) rfl ?_
    refine XS.istoreN X0.here hx rfl (hb hby dD_10) rfl (l' := (own_L23 q i0 ((XT.ushrL q ((2 : Int32) * i0)) &&& (3 : Int64)).toInt32)) rfl ?_
    show Steps p.tables e below (s₁.setTop (mkF m 11 (own_L23 q i0 ((XT.ushrL q ((2 : Int32) * i0)) &&& (3 : Int64)).toInt32) [])) _
    refine XS.iloadN X0.here hx rfl (hb hby dD_11) rfl  ?_
    refine XS.iconst X0.here hx rfl (hb hby dD_12) ?_
    show Steps p.tables e below (s₁.setTop (mkF m 13 (own_L23 q i0 ((XT.ushrL q ((2 : Int32) * i0)) &&& (3 : Int64)).toInt32) [(.int (1 : Int32)), (.int ((XT.ushrL q ((2 : Int32) * i0)) &&& (3 : Int64)).toInt32)])) _
    refine XS.iand X0.here hx rfl (hb hby dD_13) rfl ?_
    refine XS.iloadN X0.here hx rfl (hb hby dD_14) rfl  ?_
    show Steps p.tables e below (s₁.setTop (mkF m 15 (own_L23 q i0 ((XT.ushrL q ((2 : Int32) * i0)) &&& (3 : Int64)).toInt32) [(.int ((XT.ushrL q ((2 : Int32) * i0)) &&& (3 : Int64)).toInt32), (.int (((XT.ushrL q ((2 : Int32) * i0)) &&& (3 : Int64)).toInt32 &&& (1 : Int32)))])) _
    refine XS.iconst X0.here hx rfl (hb hby dD_15) ?_
    refine XT.ishr X0.here hx rfl (hb hby dD_16) rfl ?_
    show Steps p.tables e below (s₁.setTop (mkF m 17 (own_L23 q i0 ((XT.ushrL q ((2 : Int32) * i0)) &&& (3 : Int64)).toInt32) [(.int (((XT.ushrL q ((2 : Int32) * i0)) &&& (3 : Int64)).toInt32 >>> ((1 : Int32) &&& 31))), (.int (((XT.ushrL q ((2 : Int32) * i0)) &&& (3 : Int64)).toInt32 &&& (1 : Int32)))])) _
    refine XS.isub X0.here hx rfl (hb hby dD_17) rfl ?_
    refine XT.i2l X0.here hx rfl (hb hby dD_18) rfl ?_
    exact oK
  refine OG.retJ X0 hx Bd.returns (hb hby dD_19) hlk ?_ (by decide) (by decide)
  try rw [e0]
  exact ⟨rfl, N0, rfl⟩
theorem dP_0 : decode method_3_code 0 = .ok (.aload_n 0, 1) := by decide +kernel
theorem dP_1 : decode method_3_code 1 = .ok (.iload_n 1, 1) := by decide +kernel
theorem dP_2 : decode method_3_code 2 = .ok (.baload, 1) := by decide +kernel
theorem dP_3 : decode method_3_code 3 = .ok (.i2l, 1) := by decide +kernel
theorem dP_4 : decode method_3_code 4 = .ok (.ldc2_w 9, 3) := by decide +kernel
theorem dP_7 : decode method_3_code 7 = .ok (.land, 1) := by decide +kernel
theorem dP_8 : decode method_3_code 8 = .ok (.aload_n 0, 1) := by decide +kernel
theorem dP_9 : decode method_3_code 9 = .ok (.iload_n 1, 1) := by decide +kernel
theorem dP_10 : decode method_3_code 10 = .ok (.iconst 1, 1) := by decide +kernel
theorem dP_11 : decode method_3_code 11 = .ok (.iadd, 1) := by decide +kernel
theorem dP_12 : decode method_3_code 12 = .ok (.baload, 1) := by decide +kernel
theorem dP_13 : decode method_3_code 13 = .ok (.i2l, 1) := by decide +kernel
theorem dP_14 : decode method_3_code 14 = .ok (.ldc2_w 9, 3) := by decide +kernel
theorem dP_17 : decode method_3_code 17 = .ok (.land, 1) := by decide +kernel
theorem dP_18 : decode method_3_code 18 = .ok (.bipush 8, 2) := by decide +kernel
theorem dP_20 : decode method_3_code 20 = .ok (.lshl, 1) := by decide +kernel
theorem dP_21 : decode method_3_code 21 = .ok (.lor, 1) := by decide +kernel
theorem dP_22 : decode method_3_code 22 = .ok (.aload_n 0, 1) := by decide +kernel
theorem dP_23 : decode method_3_code 23 = .ok (.iload_n 1, 1) := by decide +kernel
theorem dP_24 : decode method_3_code 24 = .ok (.iconst 2, 1) := by decide +kernel
theorem dP_25 : decode method_3_code 25 = .ok (.iadd, 1) := by decide +kernel
theorem dP_26 : decode method_3_code 26 = .ok (.baload, 1) := by decide +kernel
theorem dP_27 : decode method_3_code 27 = .ok (.i2l, 1) := by decide +kernel
theorem dP_28 : decode method_3_code 28 = .ok (.ldc2_w 9, 3) := by decide +kernel
theorem dP_31 : decode method_3_code 31 = .ok (.land, 1) := by decide +kernel
theorem dP_32 : decode method_3_code 32 = .ok (.bipush 16, 2) := by decide +kernel
theorem dP_34 : decode method_3_code 34 = .ok (.lshl, 1) := by decide +kernel
theorem dP_35 : decode method_3_code 35 = .ok (.lor, 1) := by decide +kernel
theorem dP_36 : decode method_3_code 36 = .ok (.aload_n 0, 1) := by decide +kernel
theorem dP_37 : decode method_3_code 37 = .ok (.iload_n 1, 1) := by decide +kernel
theorem dP_38 : decode method_3_code 38 = .ok (.iconst 3, 1) := by decide +kernel
theorem dP_39 : decode method_3_code 39 = .ok (.iadd, 1) := by decide +kernel
theorem dP_40 : decode method_3_code 40 = .ok (.baload, 1) := by decide +kernel
theorem dP_41 : decode method_3_code 41 = .ok (.i2l, 1) := by decide +kernel
theorem dP_42 : decode method_3_code 42 = .ok (.ldc2_w 9, 3) := by decide +kernel
theorem dP_45 : decode method_3_code 45 = .ok (.land, 1) := by decide +kernel
theorem dP_46 : decode method_3_code 46 = .ok (.bipush 24, 2) := by decide +kernel
theorem dP_48 : decode method_3_code 48 = .ok (.lshl, 1) := by decide +kernel
theorem dP_49 : decode method_3_code 49 = .ok (.lor, 1) := by decide +kernel
theorem dP_50 : decode method_3_code 50 = .ok (.aload_n 0, 1) := by decide +kernel
theorem dP_51 : decode method_3_code 51 = .ok (.iload_n 1, 1) := by decide +kernel
theorem dP_52 : decode method_3_code 52 = .ok (.iconst 4, 1) := by decide +kernel
theorem dP_53 : decode method_3_code 53 = .ok (.iadd, 1) := by decide +kernel
theorem dP_54 : decode method_3_code 54 = .ok (.baload, 1) := by decide +kernel
theorem dP_55 : decode method_3_code 55 = .ok (.i2l, 1) := by decide +kernel
theorem dP_56 : decode method_3_code 56 = .ok (.ldc2_w 9, 3) := by decide +kernel
theorem dP_59 : decode method_3_code 59 = .ok (.land, 1) := by decide +kernel
theorem dP_60 : decode method_3_code 60 = .ok (.bipush 32, 2) := by decide +kernel
theorem dP_62 : decode method_3_code 62 = .ok (.lshl, 1) := by decide +kernel
theorem dP_63 : decode method_3_code 63 = .ok (.lor, 1) := by decide +kernel
theorem dP_64 : decode method_3_code 64 = .ok (.aload_n 0, 1) := by decide +kernel
theorem dP_65 : decode method_3_code 65 = .ok (.iload_n 1, 1) := by decide +kernel
theorem dP_66 : decode method_3_code 66 = .ok (.iconst 5, 1) := by decide +kernel
theorem dP_67 : decode method_3_code 67 = .ok (.iadd, 1) := by decide +kernel
theorem dP_68 : decode method_3_code 68 = .ok (.baload, 1) := by decide +kernel
theorem dP_69 : decode method_3_code 69 = .ok (.i2l, 1) := by decide +kernel
theorem dP_70 : decode method_3_code 70 = .ok (.ldc2_w 9, 3) := by decide +kernel
theorem dP_73 : decode method_3_code 73 = .ok (.land, 1) := by decide +kernel
theorem dP_74 : decode method_3_code 74 = .ok (.bipush 40, 2) := by decide +kernel
theorem dP_76 : decode method_3_code 76 = .ok (.lshl, 1) := by decide +kernel
theorem dP_77 : decode method_3_code 77 = .ok (.lor, 1) := by decide +kernel
theorem dP_78 : decode method_3_code 78 = .ok (.aload_n 0, 1) := by decide +kernel
theorem dP_79 : decode method_3_code 79 = .ok (.iload_n 1, 1) := by decide +kernel
theorem dP_80 : decode method_3_code 80 = .ok (.bipush 6, 2) := by decide +kernel
theorem dP_82 : decode method_3_code 82 = .ok (.iadd, 1) := by decide +kernel
theorem dP_83 : decode method_3_code 83 = .ok (.baload, 1) := by decide +kernel
theorem dP_84 : decode method_3_code 84 = .ok (.i2l, 1) := by decide +kernel
theorem dP_85 : decode method_3_code 85 = .ok (.ldc2_w 9, 3) := by decide +kernel
theorem dP_88 : decode method_3_code 88 = .ok (.land, 1) := by decide +kernel
theorem dP_89 : decode method_3_code 89 = .ok (.bipush 48, 2) := by decide +kernel
theorem dP_91 : decode method_3_code 91 = .ok (.lshl, 1) := by decide +kernel
theorem dP_92 : decode method_3_code 92 = .ok (.lor, 1) := by decide +kernel
theorem dP_93 : decode method_3_code 93 = .ok (.aload_n 0, 1) := by decide +kernel
theorem dP_94 : decode method_3_code 94 = .ok (.iload_n 1, 1) := by decide +kernel
theorem dP_95 : decode method_3_code 95 = .ok (.bipush 7, 2) := by decide +kernel
theorem dP_97 : decode method_3_code 97 = .ok (.iadd, 1) := by decide +kernel
theorem dP_98 : decode method_3_code 98 = .ok (.baload, 1) := by decide +kernel
theorem dP_99 : decode method_3_code 99 = .ok (.i2l, 1) := by decide +kernel
theorem dP_100 : decode method_3_code 100 = .ok (.ldc2_w 9, 3) := by decide +kernel
theorem dP_103 : decode method_3_code 103 = .ok (.land, 1) := by decide +kernel
theorem dP_104 : decode method_3_code 104 = .ok (.bipush 56, 2) := by decide +kernel
theorem dP_106 : decode method_3_code 106 = .ok (.lshl, 1) := by decide +kernel
theorem dP_107 : decode method_3_code 107 = .ok (.lor, 1) := by decide +kernel
theorem dP_108 : decode method_3_code 108 = .ok (.lreturn, 1) := by decide +kernel
theorem pn_P : plainName "com/example/gate_to_gate/gatetogate/io/Field25519EncodePinLaw" = true := by first | (simp [plainName, overriddenIn]; done) | decide +kernel
theorem ef_P (m : MethodId) (x0 : Addr) (x1 : Int32) : entryFrame m #[(.ref x0), (.int x1)] 2 = mkF m 0 #[.val (.ref x0), .val (.int x1)] [] := by first | (simp [entryFrame, mkF, argsToLocals, Value.category]; done) | rfl
def QP (Z : State) (ar : Addr) (i1 : Int32) (y0 : Int32) (y1 : Int32) (y2 : Int32) (y3 : Int32) (y4 : Int32) (y5 : Int32) (y6 : Int32) (y7 : Int32) (h0 : Heap) (n0 : Nat) (v : Option Value) (h : Heap) (L : List Loc) : Prop := v = some (.long (own_pack y0 y1 y2 y3 y4 y5 y6 y7)) ∧ Fr n0 L ∧ h = h0
set_option maxRecDepth 65536 in
set_option maxHeartbeats 40000000 in
theorem rmP (l : Launch) (Z : State) (a0 : Array Value) (hw : ∀ d ∈ tables_1, d.before a0 Z = true) (ws : List Jvm.Cond) (ar : Addr) (i1 : Int32) (y0 : Int32) (y1 : Int32) (y2 : Int32) (y3 : Int32) (y4 : Int32) (y5 : Int32) (y6 : Int32) (y7 : Int32) (h0 : Heap) (n0 : Nat) (Z0 : n0 ≤ h0.size) (R0 : ORd Z h0 ar .byte i1 (.int y0)) (R1 : ORd Z h0 ar .byte (i1 + (1 : Int32)) (.int y1)) (R2 : ORd Z h0 ar .byte (i1 + (2 : Int32)) (.int y2)) (R3 : ORd Z h0 ar .byte (i1 + (3 : Int32)) (.int y3)) (R4 : ORd Z h0 ar .byte (i1 + (4 : Int32)) (.int y4)) (R5 : ORd Z h0 ar .byte (i1 + (5 : Int32)) (.int y5)) (R6 : ORd Z h0 ar .byte (i1 + (6 : Int32)) (.int y6)) (R7 : ORd Z h0 ar .byte (i1 + (7 : Int32)) (.int y7)) :
    MetFree l (⟨"com/example/gate_to_gate/gatetogate/io/Field25519EncodePinLaw", "pack", "([BI)J"⟩ : MethodName) (head1 (Jvm.Cond.code (⟨"com/example/gate_to_gate/gatetogate/io/Field25519EncodePinLaw", "pack", "([BI)J"⟩ : MethodName) method_3_code 2 (some .long) :: ws) ({ frames := 0, cells := 0, slots := 0, locals := 0 } : Room)) (fun aA oU => aA = #[(.ref ar), (.int i1)] ∧ Z.Warmed39 oU.vm ∧ oU.heap = h0) (fun _ _ _ _ _ => True) (fun _ oU oO oU' => ∃ oV oL, oO = .returned oV ∧ QP Z ar i1 y0 y1 y2 y3 y4 y5 y6 y7 h0 n0 oV oU'.heap oL ∧ FrameEnd oU oO oU' oL ({ frames := 0, cells := 0, slots := 0, locals := 0 } : Room).cells ({ frames := 0, cells := 0, slots := 0, locals := 0 } : Room).slots) := by
  refine MetFree.of_bodySF (plainFor_of_name pn_P) hisR ?_
  intro p e s m args below meth c s₁ Bd hml0 hP hK
  obtain ⟨rfl, hZ, hh⟩ := hP
  have hx := Bd.exec
  have hby := Bd.bytes
  have hlk := BodyLoose.notSynchronized Bd
  have hml : c.maxLocals = 2 := hml0
  have hown : s.vm.findClass "com/example/gate_to_gate/gatetogate/io/Field25519EncodePinLaw" = some m.cls := findClass_of_methodNamed Bd.named
  have hnm := (name_of_methodNamed Bd.named Bd.method).1
  have X0 : Stand p l e ({ frames := 0, cells := 0, slots := 0, locals := 0 } : Room) s m #[(.ref ar), (.int i1)] below meth c s₁ [] 0 0 := Stand.of_body Bd
  have e0 : s₁.heap = h0 := by rw [← hh, Bd.state]; rfl
  have N0 := Fr.nil n0
  show OG p e below s ({ frames := 0, cells := 0, slots := 0, locals := 0 } : Room).cells ({ frames := 0, cells := 0, slots := 0, locals := 0 } : Room).slots (QP Z ar i1 y0 y1 y2 y3 y4 y5 y6 y7 h0 n0) _
  refine OG.of (fun oT oK => castTop (ef_P m ar i1) oK) ?_
  show OG p e below s _ _ _ (s₁.setTop (mkF m 0 (own_L24 ar i1) []))
  refine OG.of (A := s₁.setTop (mkF m 2 (own_L24 ar i1) [(.int i1), (.ref ar)])) (fun oT oK => ?_) ?_
  · skip
    refine XS.aloadN X0.here hx rfl (hb hby dP_0) rfl rfl  ?_
    show Steps p.tables e below (s₁.setTop (mkF m 1 (own_L24 ar i1) [(.ref ar)])) _
    refine XS.iloadN X0.here hx rfl (hb hby dP_1) rfl  ?_
    exact oK
  have cf1 := R0
  obtain ⟨clf1, Arf1, If1, Hf1⟩ := cf1
  refine OG.of (X0.baloadBytes hx (j := i1) (v := (.int y0)) (by rw [e0]; exact Arf1.1) (State.isArrayOf_alike hZ.alike Arf1.2.1) Arf1.2.2 If1 Hf1 (g := (mkF m 2 (own_L24 ar i1) [(.int i1), (.ref ar)])) rfl rfl (hb hby dP_2)) ?_
  show OG _ _ _ _ _ _ _ (s₁.setTop (mkF m 3 (own_L24 ar i1) [(.int y0)]))
  refine OG.of (A := s₁.setTop (mkF m 12 (own_L24 ar i1) [(.int (i1 + (1 : Int32))), (.ref ar), (.long (y0.toInt64 &&& (255 : Int64)))])) (fun oT oK => ?_) ?_
  · skip
    refine XT.i2l X0.here hx rfl (hb hby dP_3) rfl ?_
    show Steps p.tables e below (s₁.setTop (mkF m 4 (own_L24 ar i1) [(.long y0.toInt64)])) _
    refine X0.ldc2Long hx hown (mvT hZ (own_at hw 35 rfl)) (g := (mkF m 4 (own_L24 ar i1) [(.long y0.toInt64)])) rfl (hb hby dP_4) _ ?_
    refine XT.land X0.here hx rfl (hb hby dP_7) rfl ?_
    show Steps p.tables e below (s₁.setTop (mkF m 8 (own_L24 ar i1) [(.long (y0.toInt64 &&& (255 : Int64)))])) _
    refine XS.aloadN X0.here hx rfl (hb hby dP_8) rfl rfl  ?_
    refine XS.iloadN X0.here hx rfl (hb hby dP_9) rfl  ?_
    show Steps p.tables e below (s₁.setTop (mkF m 10 (own_L24 ar i1) [(.int i1), (.ref ar), (.long (y0.toInt64 &&& (255 : Int64)))])) _
    refine XS.iconst X0.here hx rfl (hb hby dP_10) ?_
    refine XS.iadd X0.here hx rfl (hb hby dP_11) rfl ?_
    exact oK
  have cf2 := R1
  obtain ⟨clf2, Arf2, If2, Hf2⟩ := cf2
  refine OG.of (X0.baloadBytes hx (j := (i1 + (1 : Int32))) (v := (.int y1)) (by rw [e0]; exact Arf2.1) (State.isArrayOf_alike hZ.alike Arf2.2.1) Arf2.2.2 If2 Hf2 (g := (mkF m 12 (own_L24 ar i1) [(.int (i1 + (1 : Int32))), (.ref ar), (.long (y0.toInt64 &&& (255 : Int64)))])) rfl rfl (hb hby dP_12)) ?_
  show OG _ _ _ _ _ _ _ (s₁.setTop (mkF m 13 (own_L24 ar i1) [(.int y1), (.long (y0.toInt64 &&& (255 : Int64)))]))
  refine OG.of (A := s₁.setTop (mkF m 26 (own_L24 ar i1) [(.int (i1 + (2 : Int32))), (.ref ar), (.long ((y0.toInt64 &&& (255 : Int64)) ||| ((y1.toInt64 &&& (255 : Int64)) <<< ((8 : Int32).toInt64 &&& 63))))])) (fun oT oK => ?_) ?_
  · skip
    refine XT.i2l X0.here hx rfl (hb hby dP_13) rfl ?_
    show Steps p.tables e below (s₁.setTop (mkF m 14 (own_L24 ar i1) [(.long y1.toInt64), (.long (y0.toInt64 &&& (255 : Int64)))])) _
    refine X0.ldc2Long hx hown (mvT hZ (own_at hw 35 rfl)) (g := (mkF m 14 (own_L24 ar i1) [(.long y1.toInt64), (.long (y0.toInt64 &&& (255 : Int64)))])) rfl (hb hby dP_14) _ ?_
    refine XT.land X0.here hx rfl (hb hby dP_17) rfl ?_
    show Steps p.tables e below (s₁.setTop (mkF m 18 (own_L24 ar i1) [(.long (y1.toInt64 &&& (255 : Int64))), (.long (y0.toInt64 &&& (255 : Int64)))])) _
    refine XS.bipush X0.here hx rfl (hb hby dP_18) ?_
    refine XT.lshl X0.here hx rfl (hb hby dP_20) rfl ?_
    show Steps p.tables e below (s₁.setTop (mkF m 21 (own_L24 ar i1) [(.long ((y1.toInt64 &&& (255 : Int64)) <<< ((8 : Int32).toInt64 &&& 63))), (.long (y0.toInt64 &&& (255 : Int64)))])) _
    refine XT.lor X0.here hx rfl (hb hby dP_21) rfl ?_
    refine XS.aloadN X0.here hx rfl (hb hby dP_22) rfl rfl  ?_
    show Steps p.tables e below (s₁.setTop (mkF m 23 (own_L24 ar i1) [(.ref ar), (.long ((y0.toInt64 &&& (255 : Int64)) ||| ((y1.toInt64 &&& (255 : Int64)) <<< ((8 : Int32).toInt64 &&& 63))))])) _
    refine XS.iloadN X0.here hx rfl (hb hby dP_23) rfl  ?_
    refine XS.iconst X0.here hx rfl (hb hby dP_24) ?_
    show Steps p.tables e below (s₁.setTop (mkF m 25 (own_L24 ar i1) [(.int (2 : Int32)), (.int i1), (.ref ar), (.long ((y0.toInt64 &&& (255 : Int64)) ||| ((y1.toInt64 &&& (255 : Int64)) <<< ((8 : Int32).toInt64 &&& 63))))])) _
    refine XS.iadd X0.here hx rfl (hb hby dP_25) rfl ?_
    exact oK
  have cf3 := R2
  obtain ⟨clf3, Arf3, If3, Hf3⟩ := cf3
  refine OG.of (X0.baloadBytes hx (j := (i1 + (2 : Int32))) (v := (.int y2)) (by rw [e0]; exact Arf3.1) (State.isArrayOf_alike hZ.alike Arf3.2.1) Arf3.2.2 If3 Hf3 (g := (mkF m 26 (own_L24 ar i1) [(.int (i1 + (2 : Int32))), (.ref ar), (.long ((y0.toInt64 &&& (255 : Int64)) ||| ((y1.toInt64 &&& (255 : Int64)) <<< ((8 : Int32).toInt64 &&& 63))))])) rfl rfl (hb hby dP_26)) ?_
  show OG _ _ _ _ _ _ _ (s₁.setTop (mkF m 27 (own_L24 ar i1) [(.int y2), (.long ((y0.toInt64 &&& (255 : Int64)) ||| ((y1.toInt64 &&& (255 : Int64)) <<< ((8 : Int32).toInt64 &&& 63))))]))
  refine OG.of (A := s₁.setTop (mkF m 40 (own_L24 ar i1) [(.int (i1 + (3 : Int32))), (.ref ar), (.long (((y0.toInt64 &&& (255 : Int64)) ||| ((y1.toInt64 &&& (255 : Int64)) <<< ((8 : Int32).toInt64 &&& 63))) ||| ((y2.toInt64 &&& (255 : Int64)) <<< ((16 : Int32).toInt64 &&& 63))))])) (fun oT oK => ?_) ?_
  · skip
    refine XT.i2l X0.here hx rfl (hb hby dP_27) rfl ?_
    show Steps p.tables e below (s₁.setTop (mkF m 28 (own_L24 ar i1) [(.long y2.toInt64), (.long ((y0.toInt64 &&& (255 : Int64)) ||| ((y1.toInt64 &&& (255 : Int64)) <<< ((8 : Int32).toInt64 &&& 63))))])) _
    refine X0.ldc2Long hx hown (mvT hZ (own_at hw 35 rfl)) (g := (mkF m 28 (own_L24 ar i1) [(.long y2.toInt64), (.long ((y0.toInt64 &&& (255 : Int64)) ||| ((y1.toInt64 &&& (255 : Int64)) <<< ((8 : Int32).toInt64 &&& 63))))])) rfl (hb hby dP_28) _ ?_
    refine XT.land X0.here hx rfl (hb hby dP_31) rfl ?_
    show Steps p.tables e below (s₁.setTop (mkF m 32 (own_L24 ar i1) [(.long (y2.toInt64 &&& (255 : Int64))), (.long ((y0.toInt64 &&& (255 : Int64)) ||| ((y1.toInt64 &&& (255 : Int64)) <<< ((8 : Int32).toInt64 &&& 63))))])) _
    refine XS.bipush X0.here hx rfl (hb hby dP_32) ?_
    refine XT.lshl X0.here hx rfl (hb hby dP_34) rfl ?_
    show Steps p.tables e below (s₁.setTop (mkF m 35 (own_L24 ar i1) [(.long ((y2.toInt64 &&& (255 : Int64)) <<< ((16 : Int32).toInt64 &&& 63))), (.long ((y0.toInt64 &&& (255 : Int64)) ||| ((y1.toInt64 &&& (255 : Int64)) <<< ((8 : Int32).toInt64 &&& 63))))])) _
    refine XT.lor X0.here hx rfl (hb hby dP_35) rfl ?_
    refine XS.aloadN X0.here hx rfl (hb hby dP_36) rfl rfl  ?_
    show Steps p.tables e below (s₁.setTop (mkF m 37 (own_L24 ar i1) [(.ref ar), (.long (((y0.toInt64 &&& (255 : Int64)) ||| ((y1.toInt64 &&& (255 : Int64)) <<< ((8 : Int32).toInt64 &&& 63))) ||| ((y2.toInt64 &&& (255 : Int64)) <<< ((16 : Int32).toInt64 &&& 63))))])) _
    refine XS.iloadN X0.here hx rfl (hb hby dP_37) rfl  ?_
    refine XS.iconst X0.here hx rfl (hb hby dP_38) ?_
    show Steps p.tables e below (s₁.setTop (mkF m 39 (own_L24 ar i1) [(.int (3 : Int32)), (.int i1), (.ref ar), (.long (((y0.toInt64 &&& (255 : Int64)) ||| ((y1.toInt64 &&& (255 : Int64)) <<< ((8 : Int32).toInt64 &&& 63))) ||| ((y2.toInt64 &&& (255 : Int64)) <<< ((16 : Int32).toInt64 &&& 63))))])) _
    refine XS.iadd X0.here hx rfl (hb hby dP_39) rfl ?_
    exact oK
  have cf4 := R3
  obtain ⟨clf4, Arf4, If4, Hf4⟩ := cf4
  refine OG.of (X0.baloadBytes hx (j := (i1 + (3 : Int32))) (v := (.int y3)) (by rw [e0]; exact Arf4.1) (State.isArrayOf_alike hZ.alike Arf4.2.1) Arf4.2.2 If4 Hf4 (g := (mkF m 40 (own_L24 ar i1) [(.int (i1 + (3 : Int32))), (.ref ar), (.long (((y0.toInt64 &&& (255 : Int64)) ||| ((y1.toInt64 &&& (255 : Int64)) <<< ((8 : Int32).toInt64 &&& 63))) ||| ((y2.toInt64 &&& (255 : Int64)) <<< ((16 : Int32).toInt64 &&& 63))))])) rfl rfl (hb hby dP_40)) ?_
  show OG _ _ _ _ _ _ _ (s₁.setTop (mkF m 41 (own_L24 ar i1) [(.int y3), (.long (((y0.toInt64 &&& (255 : Int64)) ||| ((y1.toInt64 &&& (255 : Int64)) <<< ((8 : Int32).toInt64 &&& 63))) ||| ((y2.toInt64 &&& (255 : Int64)) <<< ((16 : Int32).toInt64 &&& 63))))]))
  refine OG.of (A := s₁.setTop (mkF m 54 (own_L24 ar i1) [(.int (i1 + (4 : Int32))), (.ref ar), (.long ((((y0.toInt64 &&& (255 : Int64)) ||| ((y1.toInt64 &&& (255 : Int64)) <<< ((8 : Int32).toInt64 &&& 63))) ||| ((y2.toInt64 &&& (255 : Int64)) <<< ((16 : Int32).toInt64 &&& 63))) ||| ((y3.toInt64 &&& (255 : Int64)) <<< ((24 : Int32).toInt64 &&& 63))))])) (fun oT oK => ?_) ?_
  · skip
    refine XT.i2l X0.here hx rfl (hb hby dP_41) rfl ?_
    show Steps p.tables e below (s₁.setTop (mkF m 42 (own_L24 ar i1) [(.long y3.toInt64), (.long (((y0.toInt64 &&& (255 : Int64)) ||| ((y1.toInt64 &&& (255 : Int64)) <<< ((8 : Int32).toInt64 &&& 63))) ||| ((y2.toInt64 &&& (255 : Int64)) <<< ((16 : Int32).toInt64 &&& 63))))])) _
    refine X0.ldc2Long hx hown (mvT hZ (own_at hw 35 rfl)) (g := (mkF m 42 (own_L24 ar i1) [(.long y3.toInt64), (.long (((y0.toInt64 &&& (255 : Int64)) ||| ((y1.toInt64 &&& (255 : Int64)) <<< ((8 : Int32).toInt64 &&& 63))) ||| ((y2.toInt64 &&& (255 : Int64)) <<< ((16 : Int32).toInt64 &&& 63))))])) rfl (hb hby dP_42) _ ?_
    refine XT.land X0.here hx rfl (hb hby dP_45) rfl ?_
    show Steps p.tables e below (s₁.setTop (mkF m 46 (own_L24 ar i1) [(.long (y3.toInt64 &&& (255 : Int64))), (.long (((y0.toInt64 &&& (255 : Int64)) ||| ((y1.toInt64 &&& (255 : Int64)) <<< ((8 : Int32).toInt64 &&& 63))) ||| ((y2.toInt64 &&& (255 : Int64)) <<< ((16 : Int32).toInt64 &&& 63))))])) _
    refine XS.bipush X0.here hx rfl (hb hby dP_46) ?_
    refine XT.lshl X0.here hx rfl (hb hby dP_48) rfl ?_
    show Steps p.tables e below (s₁.setTop (mkF m 49 (own_L24 ar i1) [(.long ((y3.toInt64 &&& (255 : Int64)) <<< ((24 : Int32).toInt64 &&& 63))), (.long (((y0.toInt64 &&& (255 : Int64)) ||| ((y1.toInt64 &&& (255 : Int64)) <<< ((8 : Int32).toInt64 &&& 63))) ||| ((y2.toInt64 &&& (255 : Int64)) <<< ((16 : Int32).toInt64 &&& 63))))])) _
    refine XT.lor X0.here hx rfl (hb hby dP_49) rfl ?_
    refine XS.aloadN X0.here hx rfl (hb hby dP_50) rfl rfl  ?_
    show Steps p.tables e below (s₁.setTop (mkF m 51 (own_L24 ar i1) [(.ref ar), (.long ((((y0.toInt64 &&& (255 : Int64)) ||| ((y1.toInt64 &&& (255 : Int64)) <<< ((8 : Int32).toInt64 &&& 63))) ||| ((y2.toInt64 &&& (255 : Int64)) <<< ((16 : Int32).toInt64 &&& 63))) ||| ((y3.toInt64 &&& (255 : Int64)) <<< ((24 : Int32).toInt64 &&& 63))))])) _
    refine XS.iloadN X0.here hx rfl (hb hby dP_51) rfl  ?_
    refine XS.iconst X0.here hx rfl (hb hby dP_52) ?_
    show Steps p.tables e below (s₁.setTop (mkF m 53 (own_L24 ar i1) [(.int (4 : Int32)), (.int i1), (.ref ar), (.long ((((y0.toInt64 &&& (255 : Int64)) ||| ((y1.toInt64 &&& (255 : Int64)) <<< ((8 : Int32).toInt64 &&& 63))) ||| ((y2.toInt64 &&& (255 : Int64)) <<< ((16 : Int32).toInt64 &&& 63))) ||| ((y3.toInt64 &&& (255 : Int64)) <<< ((24 : Int32).toInt64 &&& 63))))])) _
    refine XS.iadd X0.here hx rfl (hb hby dP_53) rfl ?_
    exact oK
  have cf5 := R4
  obtain ⟨clf5, Arf5, If5, Hf5⟩ := cf5
  refine OG.of (X0.baloadBytes hx (j := (i1 + (4 : Int32))) (v := (.int y4)) (by rw [e0]; exact Arf5.1) (State.isArrayOf_alike hZ.alike Arf5.2.1) Arf5.2.2 If5 Hf5 (g := (mkF m 54 (own_L24 ar i1) [(.int (i1 + (4 : Int32))), (.ref ar), (.long ((((y0.toInt64 &&& (255 : Int64)) ||| ((y1.toInt64 &&& (255 : Int64)) <<< ((8 : Int32).toInt64 &&& 63))) ||| ((y2.toInt64 &&& (255 : Int64)) <<< ((16 : Int32).toInt64 &&& 63))) ||| ((y3.toInt64 &&& (255 : Int64)) <<< ((24 : Int32).toInt64 &&& 63))))])) rfl rfl (hb hby dP_54)) ?_
  show OG _ _ _ _ _ _ _ (s₁.setTop (mkF m 55 (own_L24 ar i1) [(.int y4), (.long ((((y0.toInt64 &&& (255 : Int64)) ||| ((y1.toInt64 &&& (255 : Int64)) <<< ((8 : Int32).toInt64 &&& 63))) ||| ((y2.toInt64 &&& (255 : Int64)) <<< ((16 : Int32).toInt64 &&& 63))) ||| ((y3.toInt64 &&& (255 : Int64)) <<< ((24 : Int32).toInt64 &&& 63))))]))
  refine OG.of (A := s₁.setTop (mkF m 68 (own_L24 ar i1) [(.int (i1 + (5 : Int32))), (.ref ar), (.long (((((y0.toInt64 &&& (255 : Int64)) ||| ((y1.toInt64 &&& (255 : Int64)) <<< ((8 : Int32).toInt64 &&& 63))) ||| ((y2.toInt64 &&& (255 : Int64)) <<< ((16 : Int32).toInt64 &&& 63))) ||| ((y3.toInt64 &&& (255 : Int64)) <<< ((24 : Int32).toInt64 &&& 63))) ||| ((y4.toInt64 &&& (255 : Int64)) <<< ((32 : Int32).toInt64 &&& 63))))])) (fun oT oK => ?_) ?_
  · skip
    refine XT.i2l X0.here hx rfl (hb hby dP_55) rfl ?_
    show Steps p.tables e below (s₁.setTop (mkF m 56 (own_L24 ar i1) [(.long y4.toInt64), (.long ((((y0.toInt64 &&& (255 : Int64)) ||| ((y1.toInt64 &&& (255 : Int64)) <<< ((8 : Int32).toInt64 &&& 63))) ||| ((y2.toInt64 &&& (255 : Int64)) <<< ((16 : Int32).toInt64 &&& 63))) ||| ((y3.toInt64 &&& (255 : Int64)) <<< ((24 : Int32).toInt64 &&& 63))))])) _
    refine X0.ldc2Long hx hown (mvT hZ (own_at hw 35 rfl)) (g := (mkF m 56 (own_L24 ar i1) [(.long y4.toInt64), (.long ((((y0.toInt64 &&& (255 : Int64)) ||| ((y1.toInt64 &&& (255 : Int64)) <<< ((8 : Int32).toInt64 &&& 63))) ||| ((y2.toInt64 &&& (255 : Int64)) <<< ((16 : Int32).toInt64 &&& 63))) ||| ((y3.toInt64 &&& (255 : Int64)) <<< ((24 : Int32).toInt64 &&& 63))))])) rfl (hb hby dP_56) _ ?_
    refine XT.land X0.here hx rfl (hb hby dP_59) rfl ?_
    show Steps p.tables e below (s₁.setTop (mkF m 60 (own_L24 ar i1) [(.long (y4.toInt64 &&& (255 : Int64))), (.long ((((y0.toInt64 &&& (255 : Int64)) ||| ((y1.toInt64 &&& (255 : Int64)) <<< ((8 : Int32).toInt64 &&& 63))) ||| ((y2.toInt64 &&& (255 : Int64)) <<< ((16 : Int32).toInt64 &&& 63))) ||| ((y3.toInt64 &&& (255 : Int64)) <<< ((24 : Int32).toInt64 &&& 63))))])) _
    refine XS.bipush X0.here hx rfl (hb hby dP_60) ?_
    refine XT.lshl X0.here hx rfl (hb hby dP_62) rfl ?_
    show Steps p.tables e below (s₁.setTop (mkF m 63 (own_L24 ar i1) [(.long ((y4.toInt64 &&& (255 : Int64)) <<< ((32 : Int32).toInt64 &&& 63))), (.long ((((y0.toInt64 &&& (255 : Int64)) ||| ((y1.toInt64 &&& (255 : Int64)) <<< ((8 : Int32).toInt64 &&& 63))) ||| ((y2.toInt64 &&& (255 : Int64)) <<< ((16 : Int32).toInt64 &&& 63))) ||| ((y3.toInt64 &&& (255 : Int64)) <<< ((24 : Int32).toInt64 &&& 63))))])) _
    refine XT.lor X0.here hx rfl (hb hby dP_63) rfl ?_
    refine XS.aloadN X0.here hx rfl (hb hby dP_64) rfl rfl  ?_
    show Steps p.tables e below (s₁.setTop (mkF m 65 (own_L24 ar i1) [(.ref ar), (.long (((((y0.toInt64 &&& (255 : Int64)) ||| ((y1.toInt64 &&& (255 : Int64)) <<< ((8 : Int32).toInt64 &&& 63))) ||| ((y2.toInt64 &&& (255 : Int64)) <<< ((16 : Int32).toInt64 &&& 63))) ||| ((y3.toInt64 &&& (255 : Int64)) <<< ((24 : Int32).toInt64 &&& 63))) ||| ((y4.toInt64 &&& (255 : Int64)) <<< ((32 : Int32).toInt64 &&& 63))))])) _
    refine XS.iloadN X0.here hx rfl (hb hby dP_65) rfl  ?_
    refine XS.iconst X0.here hx rfl (hb hby dP_66) ?_
    show Steps p.tables e below (s₁.setTop (mkF m 67 (own_L24 ar i1) [(.int (5 : Int32)), (.int i1), (.ref ar), (.long (((((y0.toInt64 &&& (255 : Int64)) ||| ((y1.toInt64 &&& (255 : Int64)) <<< ((8 : Int32).toInt64 &&& 63))) ||| ((y2.toInt64 &&& (255 : Int64)) <<< ((16 : Int32).toInt64 &&& 63))) ||| ((y3.toInt64 &&& (255 : Int64)) <<< ((24 : Int32).toInt64 &&& 63))) ||| ((y4.toInt64 &&& (255 : Int64)) <<< ((32 : Int32).toInt64 &&& 63))))])) _
    refine XS.iadd X0.here hx rfl (hb hby dP_67) rfl ?_
    exact oK
  have cf6 := R5
  obtain ⟨clf6, Arf6, If6, Hf6⟩ := cf6
  refine OG.of (X0.baloadBytes hx (j := (i1 + (5 : Int32))) (v := (.int y5)) (by rw [e0]; exact Arf6.1) (State.isArrayOf_alike hZ.alike Arf6.2.1) Arf6.2.2 If6 Hf6 (g := (mkF m 68 (own_L24 ar i1) [(.int (i1 + (5 : Int32))), (.ref ar), (.long (((((y0.toInt64 &&& (255 : Int64)) ||| ((y1.toInt64 &&& (255 : Int64)) <<< ((8 : Int32).toInt64 &&& 63))) ||| ((y2.toInt64 &&& (255 : Int64)) <<< ((16 : Int32).toInt64 &&& 63))) ||| ((y3.toInt64 &&& (255 : Int64)) <<< ((24 : Int32).toInt64 &&& 63))) ||| ((y4.toInt64 &&& (255 : Int64)) <<< ((32 : Int32).toInt64 &&& 63))))])) rfl rfl (hb hby dP_68)) ?_
  show OG _ _ _ _ _ _ _ (s₁.setTop (mkF m 69 (own_L24 ar i1) [(.int y5), (.long (((((y0.toInt64 &&& (255 : Int64)) ||| ((y1.toInt64 &&& (255 : Int64)) <<< ((8 : Int32).toInt64 &&& 63))) ||| ((y2.toInt64 &&& (255 : Int64)) <<< ((16 : Int32).toInt64 &&& 63))) ||| ((y3.toInt64 &&& (255 : Int64)) <<< ((24 : Int32).toInt64 &&& 63))) ||| ((y4.toInt64 &&& (255 : Int64)) <<< ((32 : Int32).toInt64 &&& 63))))]))
  refine OG.of (A := s₁.setTop (mkF m 83 (own_L24 ar i1) [(.int (i1 + (6 : Int32))), (.ref ar), (.long ((((((y0.toInt64 &&& (255 : Int64)) ||| ((y1.toInt64 &&& (255 : Int64)) <<< ((8 : Int32).toInt64 &&& 63))) ||| ((y2.toInt64 &&& (255 : Int64)) <<< ((16 : Int32).toInt64 &&& 63))) ||| ((y3.toInt64 &&& (255 : Int64)) <<< ((24 : Int32).toInt64 &&& 63))) ||| ((y4.toInt64 &&& (255 : Int64)) <<< ((32 : Int32).toInt64 &&& 63))) ||| ((y5.toInt64 &&& (255 : Int64)) <<< ((40 : Int32).toInt64 &&& 63))))])) (fun oT oK => ?_) ?_
  · skip
    refine XT.i2l X0.here hx rfl (hb hby dP_69) rfl ?_
    show Steps p.tables e below (s₁.setTop (mkF m 70 (own_L24 ar i1) [(.long y5.toInt64), (.long (((((y0.toInt64 &&& (255 : Int64)) ||| ((y1.toInt64 &&& (255 : Int64)) <<< ((8 : Int32).toInt64 &&& 63))) ||| ((y2.toInt64 &&& (255 : Int64)) <<< ((16 : Int32).toInt64 &&& 63))) ||| ((y3.toInt64 &&& (255 : Int64)) <<< ((24 : Int32).toInt64 &&& 63))) ||| ((y4.toInt64 &&& (255 : Int64)) <<< ((32 : Int32).toInt64 &&& 63))))])) _
    refine X0.ldc2Long hx hown (mvT hZ (own_at hw 35 rfl)) (g := (mkF m 70 (own_L24 ar i1) [(.long y5.toInt64), (.long (((((y0.toInt64 &&& (255 : Int64)) ||| ((y1.toInt64 &&& (255 : Int64)) <<< ((8 : Int32).toInt64 &&& 63))) ||| ((y2.toInt64 &&& (255 : Int64)) <<< ((16 : Int32).toInt64 &&& 63))) ||| ((y3.toInt64 &&& (255 : Int64)) <<< ((24 : Int32).toInt64 &&& 63))) ||| ((y4.toInt64 &&& (255 : Int64)) <<< ((32 : Int32).toInt64 &&& 63))))])) rfl (hb hby dP_70) _ ?_
    refine XT.land X0.here hx rfl (hb hby dP_73) rfl ?_
    show Steps p.tables e below (s₁.setTop (mkF m 74 (own_L24 ar i1) [(.long (y5.toInt64 &&& (255 : Int64))), (.long (((((y0.toInt64 &&& (255 : Int64)) ||| ((y1.toInt64 &&& (255 : Int64)) <<< ((8 : Int32).toInt64 &&& 63))) ||| ((y2.toInt64 &&& (255 : Int64)) <<< ((16 : Int32).toInt64 &&& 63))) ||| ((y3.toInt64 &&& (255 : Int64)) <<< ((24 : Int32).toInt64 &&& 63))) ||| ((y4.toInt64 &&& (255 : Int64)) <<< ((32 : Int32).toInt64 &&& 63))))])) _
    refine XS.bipush X0.here hx rfl (hb hby dP_74) ?_
    refine XT.lshl X0.here hx rfl (hb hby dP_76) rfl ?_
    show Steps p.tables e below (s₁.setTop (mkF m 77 (own_L24 ar i1) [(.long ((y5.toInt64 &&& (255 : Int64)) <<< ((40 : Int32).toInt64 &&& 63))), (.long (((((y0.toInt64 &&& (255 : Int64)) ||| ((y1.toInt64 &&& (255 : Int64)) <<< ((8 : Int32).toInt64 &&& 63))) ||| ((y2.toInt64 &&& (255 : Int64)) <<< ((16 : Int32).toInt64 &&& 63))) ||| ((y3.toInt64 &&& (255 : Int64)) <<< ((24 : Int32).toInt64 &&& 63))) ||| ((y4.toInt64 &&& (255 : Int64)) <<< ((32 : Int32).toInt64 &&& 63))))])) _
    refine XT.lor X0.here hx rfl (hb hby dP_77) rfl ?_
    refine XS.aloadN X0.here hx rfl (hb hby dP_78) rfl rfl  ?_
    show Steps p.tables e below (s₁.setTop (mkF m 79 (own_L24 ar i1) [(.ref ar), (.long ((((((y0.toInt64 &&& (255 : Int64)) ||| ((y1.toInt64 &&& (255 : Int64)) <<< ((8 : Int32).toInt64 &&& 63))) ||| ((y2.toInt64 &&& (255 : Int64)) <<< ((16 : Int32).toInt64 &&& 63))) ||| ((y3.toInt64 &&& (255 : Int64)) <<< ((24 : Int32).toInt64 &&& 63))) ||| ((y4.toInt64 &&& (255 : Int64)) <<< ((32 : Int32).toInt64 &&& 63))) ||| ((y5.toInt64 &&& (255 : Int64)) <<< ((40 : Int32).toInt64 &&& 63))))])) _
    refine XS.iloadN X0.here hx rfl (hb hby dP_79) rfl  ?_
    refine XS.bipush X0.here hx rfl (hb hby dP_80) ?_
    show Steps p.tables e below (s₁.setTop (mkF m 82 (own_L24 ar i1) [(.int (6 : Int32)), (.int i1), (.ref ar), (.long ((((((y0.toInt64 &&& (255 : Int64)) ||| ((y1.toInt64 &&& (255 : Int64)) <<< ((8 : Int32).toInt64 &&& 63))) ||| ((y2.toInt64 &&& (255 : Int64)) <<< ((16 : Int32).toInt64 &&& 63))) ||| ((y3.toInt64 &&& (255 : Int64)) <<< ((24 : Int32).toInt64 &&& 63))) ||| ((y4.toInt64 &&& (255 : Int64)) <<< ((32 : Int32).toInt64 &&& 63))) ||| ((y5.toInt64 &&& (255 : Int64)) <<< ((40 : Int32).toInt64 &&& 63))))])) _
    refine XS.iadd X0.here hx rfl (hb hby dP_82) rfl ?_
    exact oK
  have cf7 := R6
  obtain ⟨clf7, Arf7, If7, Hf7⟩ := cf7
  refine OG.of (X0.baloadBytes hx (j := (i1 + (6 : Int32))) (v := (.int y6)) (by rw [e0]; exact Arf7.1) (State.isArrayOf_alike hZ.alike Arf7.2.1) Arf7.2.2 If7 Hf7 (g := (mkF m 83 (own_L24 ar i1) [(.int (i1 + (6 : Int32))), (.ref ar), (.long ((((((y0.toInt64 &&& (255 : Int64)) ||| ((y1.toInt64 &&& (255 : Int64)) <<< ((8 : Int32).toInt64 &&& 63))) ||| ((y2.toInt64 &&& (255 : Int64)) <<< ((16 : Int32).toInt64 &&& 63))) ||| ((y3.toInt64 &&& (255 : Int64)) <<< ((24 : Int32).toInt64 &&& 63))) ||| ((y4.toInt64 &&& (255 : Int64)) <<< ((32 : Int32).toInt64 &&& 63))) ||| ((y5.toInt64 &&& (255 : Int64)) <<< ((40 : Int32).toInt64 &&& 63))))])) rfl rfl (hb hby dP_83)) ?_
  show OG _ _ _ _ _ _ _ (s₁.setTop (mkF m 84 (own_L24 ar i1) [(.int y6), (.long ((((((y0.toInt64 &&& (255 : Int64)) ||| ((y1.toInt64 &&& (255 : Int64)) <<< ((8 : Int32).toInt64 &&& 63))) ||| ((y2.toInt64 &&& (255 : Int64)) <<< ((16 : Int32).toInt64 &&& 63))) ||| ((y3.toInt64 &&& (255 : Int64)) <<< ((24 : Int32).toInt64 &&& 63))) ||| ((y4.toInt64 &&& (255 : Int64)) <<< ((32 : Int32).toInt64 &&& 63))) ||| ((y5.toInt64 &&& (255 : Int64)) <<< ((40 : Int32).toInt64 &&& 63))))]))
  refine OG.of (A := s₁.setTop (mkF m 98 (own_L24 ar i1) [(.int (i1 + (7 : Int32))), (.ref ar), (.long (((((((y0.toInt64 &&& (255 : Int64)) ||| ((y1.toInt64 &&& (255 : Int64)) <<< ((8 : Int32).toInt64 &&& 63))) ||| ((y2.toInt64 &&& (255 : Int64)) <<< ((16 : Int32).toInt64 &&& 63))) ||| ((y3.toInt64 &&& (255 : Int64)) <<< ((24 : Int32).toInt64 &&& 63))) ||| ((y4.toInt64 &&& (255 : Int64)) <<< ((32 : Int32).toInt64 &&& 63))) ||| ((y5.toInt64 &&& (255 : Int64)) <<< ((40 : Int32).toInt64 &&& 63))) ||| ((y6.toInt64 &&& (255 : Int64)) <<< ((48 : Int32).toInt64 &&& 63))))])) (fun oT oK => ?_) ?_
  · skip
    refine XT.i2l X0.here hx rfl (hb hby dP_84) rfl ?_
    show Steps p.tables e below (s₁.setTop (mkF m 85 (own_L24 ar i1) [(.long y6.toInt64), (.long ((((((y0.toInt64 &&& (255 : Int64)) ||| ((y1.toInt64 &&& (255 : Int64)) <<< ((8 : Int32).toInt64 &&& 63))) ||| ((y2.toInt64 &&& (255 : Int64)) <<< ((16 : Int32).toInt64 &&& 63))) ||| ((y3.toInt64 &&& (255 : Int64)) <<< ((24 : Int32).toInt64 &&& 63))) ||| ((y4.toInt64 &&& (255 : Int64)) <<< ((32 : Int32).toInt64 &&& 63))) ||| ((y5.toInt64 &&& (255 : Int64)) <<< ((40 : Int32).toInt64 &&& 63))))])) _
    refine X0.ldc2Long hx hown (mvT hZ (own_at hw 35 rfl)) (g := (mkF m 85 (own_L24 ar i1) [(.long y6.toInt64), (.long ((((((y0.toInt64 &&& (255 : Int64)) ||| ((y1.toInt64 &&& (255 : Int64)) <<< ((8 : Int32).toInt64 &&& 63))) ||| ((y2.toInt64 &&& (255 : Int64)) <<< ((16 : Int32).toInt64 &&& 63))) ||| ((y3.toInt64 &&& (255 : Int64)) <<< ((24 : Int32).toInt64 &&& 63))) ||| ((y4.toInt64 &&& (255 : Int64)) <<< ((32 : Int32).toInt64 &&& 63))) ||| ((y5.toInt64 &&& (255 : Int64)) <<< ((40 : Int32).toInt64 &&& 63))))])) rfl (hb hby dP_85) _ ?_
    refine XT.land X0.here hx rfl (hb hby dP_88) rfl ?_
    show Steps p.tables e below (s₁.setTop (mkF m 89 (own_L24 ar i1) [(.long (y6.toInt64 &&& (255 : Int64))), (.long ((((((y0.toInt64 &&& (255 : Int64)) ||| ((y1.toInt64 &&& (255 : Int64)) <<< ((8 : Int32).toInt64 &&& 63))) ||| ((y2.toInt64 &&& (255 : Int64)) <<< ((16 : Int32).toInt64 &&& 63))) ||| ((y3.toInt64 &&& (255 : Int64)) <<< ((24 : Int32).toInt64 &&& 63))) ||| ((y4.toInt64 &&& (255 : Int64)) <<< ((32 : Int32).toInt64 &&& 63))) ||| ((y5.toInt64 &&& (255 : Int64)) <<< ((40 : Int32).toInt64 &&& 63))))])) _
    refine XS.bipush X0.here hx rfl (hb hby dP_89) ?_
    refine XT.lshl X0.here hx rfl (hb hby dP_91) rfl ?_
    show Steps p.tables e below (s₁.setTop (mkF m 92 (own_L24 ar i1) [(.long ((y6.toInt64 &&& (255 : Int64)) <<< ((48 : Int32).toInt64 &&& 63))), (.long ((((((y0.toInt64 &&& (255 : Int64)) ||| ((y1.toInt64 &&& (255 : Int64)) <<< ((8 : Int32).toInt64 &&& 63))) ||| ((y2.toInt64 &&& (255 : Int64)) <<< ((16 : Int32).toInt64 &&& 63))) ||| ((y3.toInt64 &&& (255 : Int64)) <<< ((24 : Int32).toInt64 &&& 63))) ||| ((y4.toInt64 &&& (255 : Int64)) <<< ((32 : Int32).toInt64 &&& 63))) ||| ((y5.toInt64 &&& (255 : Int64)) <<< ((40 : Int32).toInt64 &&& 63))))])) _
    refine XT.lor X0.here hx rfl (hb hby dP_92) rfl ?_
    refine XS.aloadN X0.here hx rfl (hb hby dP_93) rfl rfl  ?_
    show Steps p.tables e below (s₁.setTop (mkF m 94 (own_L24 ar i1) [(.ref ar), (.long (((((((y0.toInt64 &&& (255 : Int64)) ||| ((y1.toInt64 &&& (255 : Int64)) <<< ((8 : Int32).toInt64 &&& 63))) ||| ((y2.toInt64 &&& (255 : Int64)) <<< ((16 : Int32).toInt64 &&& 63))) ||| ((y3.toInt64 &&& (255 : Int64)) <<< ((24 : Int32).toInt64 &&& 63))) ||| ((y4.toInt64 &&& (255 : Int64)) <<< ((32 : Int32).toInt64 &&& 63))) ||| ((y5.toInt64 &&& (255 : Int64)) <<< ((40 : Int32).toInt64 &&& 63))) ||| ((y6.toInt64 &&& (255 : Int64)) <<< ((48 : Int32).toInt64 &&& 63))))])) _
    refine XS.iloadN X0.here hx rfl (hb hby dP_94) rfl  ?_
    refine XS.bipush X0.here hx rfl (hb hby dP_95) ?_
    show Steps p.tables e below (s₁.setTop (mkF m 97 (own_L24 ar i1) [(.int (7 : Int32)), (.int i1), (.ref ar), (.long (((((((y0.toInt64 &&& (255 : Int64)) ||| ((y1.toInt64 &&& (255 : Int64)) <<< ((8 : Int32).toInt64 &&& 63))) ||| ((y2.toInt64 &&& (255 : Int64)) <<< ((16 : Int32).toInt64 &&& 63))) ||| ((y3.toInt64 &&& (255 : Int64)) <<< ((24 : Int32).toInt64 &&& 63))) ||| ((y4.toInt64 &&& (255 : Int64)) <<< ((32 : Int32).toInt64 &&& 63))) ||| ((y5.toInt64 &&& (255 : Int64)) <<< ((40 : Int32).toInt64 &&& 63))) ||| ((y6.toInt64 &&& (255 : Int64)) <<< ((48 : Int32).toInt64 &&& 63))))])) _
    refine XS.iadd X0.here hx rfl (hb hby dP_97) rfl ?_
    exact oK
  have cf8 := R7
  obtain ⟨clf8, Arf8, If8, Hf8⟩ := cf8
  refine OG.of (X0.baloadBytes hx (j := (i1 + (7 : Int32))) (v := (.int y7)) (by rw [e0]; exact Arf8.1) (State.isArrayOf_alike hZ.alike Arf8.2.1) Arf8.2.2 If8 Hf8 (g := (mkF m 98 (own_L24 ar i1) [(.int (i1 + (7 : Int32))), (.ref ar), (.long (((((((y0.toInt64 &&& (255 : Int64)) ||| ((y1.toInt64 &&& (255 : Int64)) <<< ((8 : Int32).toInt64 &&& 63))) ||| ((y2.toInt64 &&& (255 : Int64)) <<< ((16 : Int32).toInt64 &&& 63))) ||| ((y3.toInt64 &&& (255 : Int64)) <<< ((24 : Int32).toInt64 &&& 63))) ||| ((y4.toInt64 &&& (255 : Int64)) <<< ((32 : Int32).toInt64 &&& 63))) ||| ((y5.toInt64 &&& (255 : Int64)) <<< ((40 : Int32).toInt64 &&& 63))) ||| ((y6.toInt64 &&& (255 : Int64)) <<< ((48 : Int32).toInt64 &&& 63))))])) rfl rfl (hb hby dP_98)) ?_
  show OG _ _ _ _ _ _ _ (s₁.setTop (mkF m 99 (own_L24 ar i1) [(.int y7), (.long (((((((y0.toInt64 &&& (255 : Int64)) ||| ((y1.toInt64 &&& (255 : Int64)) <<< ((8 : Int32).toInt64 &&& 63))) ||| ((y2.toInt64 &&& (255 : Int64)) <<< ((16 : Int32).toInt64 &&& 63))) ||| ((y3.toInt64 &&& (255 : Int64)) <<< ((24 : Int32).toInt64 &&& 63))) ||| ((y4.toInt64 &&& (255 : Int64)) <<< ((32 : Int32).toInt64 &&& 63))) ||| ((y5.toInt64 &&& (255 : Int64)) <<< ((40 : Int32).toInt64 &&& 63))) ||| ((y6.toInt64 &&& (255 : Int64)) <<< ((48 : Int32).toInt64 &&& 63))))]))
  refine OG.of (A := s₁.setTop (mkF m 108 (own_L24 ar i1) [(.long ((((((((y0.toInt64 &&& (255 : Int64)) ||| ((y1.toInt64 &&& (255 : Int64)) <<< ((8 : Int32).toInt64 &&& 63))) ||| ((y2.toInt64 &&& (255 : Int64)) <<< ((16 : Int32).toInt64 &&& 63))) ||| ((y3.toInt64 &&& (255 : Int64)) <<< ((24 : Int32).toInt64 &&& 63))) ||| ((y4.toInt64 &&& (255 : Int64)) <<< ((32 : Int32).toInt64 &&& 63))) ||| ((y5.toInt64 &&& (255 : Int64)) <<< ((40 : Int32).toInt64 &&& 63))) ||| ((y6.toInt64 &&& (255 : Int64)) <<< ((48 : Int32).toInt64 &&& 63))) ||| ((y7.toInt64 &&& (255 : Int64)) <<< ((56 : Int32).toInt64 &&& 63))))])) (fun oT oK => ?_) ?_
  · skip
    refine XT.i2l X0.here hx rfl (hb hby dP_99) rfl ?_
    show Steps p.tables e below (s₁.setTop (mkF m 100 (own_L24 ar i1) [(.long y7.toInt64), (.long (((((((y0.toInt64 &&& (255 : Int64)) ||| ((y1.toInt64 &&& (255 : Int64)) <<< ((8 : Int32).toInt64 &&& 63))) ||| ((y2.toInt64 &&& (255 : Int64)) <<< ((16 : Int32).toInt64 &&& 63))) ||| ((y3.toInt64 &&& (255 : Int64)) <<< ((24 : Int32).toInt64 &&& 63))) ||| ((y4.toInt64 &&& (255 : Int64)) <<< ((32 : Int32).toInt64 &&& 63))) ||| ((y5.toInt64 &&& (255 : Int64)) <<< ((40 : Int32).toInt64 &&& 63))) ||| ((y6.toInt64 &&& (255 : Int64)) <<< ((48 : Int32).toInt64 &&& 63))))])) _
    refine X0.ldc2Long hx hown (mvT hZ (own_at hw 35 rfl)) (g := (mkF m 100 (own_L24 ar i1) [(.long y7.toInt64), (.long (((((((y0.toInt64 &&& (255 : Int64)) ||| ((y1.toInt64 &&& (255 : Int64)) <<< ((8 : Int32).toInt64 &&& 63))) ||| ((y2.toInt64 &&& (255 : Int64)) <<< ((16 : Int32).toInt64 &&& 63))) ||| ((y3.toInt64 &&& (255 : Int64)) <<< ((24 : Int32).toInt64 &&& 63))) ||| ((y4.toInt64 &&& (255 : Int64)) <<< ((32 : Int32).toInt64 &&& 63))) ||| ((y5.toInt64 &&& (255 : Int64)) <<< ((40 : Int32).toInt64 &&& 63))) ||| ((y6.toInt64 &&& (255 : Int64)) <<< ((48 : Int32).toInt64 &&& 63))))])) rfl (hb hby dP_100) _ ?_
    refine XT.land X0.here hx rfl (hb hby dP_103) rfl ?_
    show Steps p.tables e below (s₁.setTop (mkF m 104 (own_L24 ar i1) [(.long (y7.toInt64 &&& (255 : Int64))), (.long (((((((y0.toInt64 &&& (255 : Int64)) ||| ((y1.toInt64 &&& (255 : Int64)) <<< ((8 : Int32).toInt64 &&& 63))) ||| ((y2.toInt64 &&& (255 : Int64)) <<< ((16 : Int32).toInt64 &&& 63))) ||| ((y3.toInt64 &&& (255 : Int64)) <<< ((24 : Int32).toInt64 &&& 63))) ||| ((y4.toInt64 &&& (255 : Int64)) <<< ((32 : Int32).toInt64 &&& 63))) ||| ((y5.toInt64 &&& (255 : Int64)) <<< ((40 : Int32).toInt64 &&& 63))) ||| ((y6.toInt64 &&& (255 : Int64)) <<< ((48 : Int32).toInt64 &&& 63))))])) _
    refine XS.bipush X0.here hx rfl (hb hby dP_104) ?_
    refine XT.lshl X0.here hx rfl (hb hby dP_106) rfl ?_
    show Steps p.tables e below (s₁.setTop (mkF m 107 (own_L24 ar i1) [(.long ((y7.toInt64 &&& (255 : Int64)) <<< ((56 : Int32).toInt64 &&& 63))), (.long (((((((y0.toInt64 &&& (255 : Int64)) ||| ((y1.toInt64 &&& (255 : Int64)) <<< ((8 : Int32).toInt64 &&& 63))) ||| ((y2.toInt64 &&& (255 : Int64)) <<< ((16 : Int32).toInt64 &&& 63))) ||| ((y3.toInt64 &&& (255 : Int64)) <<< ((24 : Int32).toInt64 &&& 63))) ||| ((y4.toInt64 &&& (255 : Int64)) <<< ((32 : Int32).toInt64 &&& 63))) ||| ((y5.toInt64 &&& (255 : Int64)) <<< ((40 : Int32).toInt64 &&& 63))) ||| ((y6.toInt64 &&& (255 : Int64)) <<< ((48 : Int32).toInt64 &&& 63))))])) _
    refine XT.lor X0.here hx rfl (hb hby dP_107) rfl ?_
    exact oK
  refine OG.retJ X0 hx Bd.returns (hb hby dP_108) hlk ?_ (by decide) (by decide)
  try rw [e0]
  exact ⟨rfl, N0, rfl⟩
theorem pd___BI_J : parseMethodDescriptor "([BI)J" = some ⟨[(.array .byte), .int], some .long⟩ := by decide +kernel
set_option maxRecDepth 65536 in
set_option maxHeartbeats 40000000 in
theorem own_tail_7 {p : Program} {l : Launch} {e : Env} {s : State} {m : MethodId} {args : Array Value} {below : List Frame} {meth : Method} {c : Code} {T0 : State} {locs : List Loc} {Z : State} {a0 : Array Value} {h1 : Heap} {n0 : Nat} (x0 : Int64) (x1 : Int64) (x2 : Int64) (x3 : Int64) (q4 : Int64) (p5 : Int32) (v3 : Int64) (f : Addr) (kf : ClassId) (gs : List Int64) (wB : Addr) (bb : Addr) (kb : ClassId) (bs : List Int32) (E0 : Int64) (E1 : Int64) (E2 : Int64) (E3 : Int64)
    (X0 : Stand p l e room_1 s m args below meth c T0 locs 4 56) (hx : p.tables.exec = Jvm.exec) (hZ : Z.Warmed39 s.vm) (hw : ∀ d ∈ tables_1, d.before a0 Z = true) (hby : c.code = code) (hml : c.maxLocals = 43) (hown : s.vm.findClass "com/example/gate_to_gate/gatetogate/io/Field25519EncodePinLaw" = some m.cls) (hlk : meth.locks = false) (hret : meth.sig.returnType = some .boolean) (e0 : T0.heap = h1) (N0 : Fr n0 locs) (Z0 : n0 ≤ h1.size) (SB : Sta Z Z.heap "com/example/gate_to_gate/gatetogate/io/Field25519" "BITS" "[I" (.ref wB)) (TB : ∀ j, j < 10 → ORd Z Z.heap wB .int (Int32.ofNat j) (.int (own_bits j))) (hbs : bs = own_bytes (own_fin (own_dm gs q4))) (hlb : bs.length = 32) (Vb : Arv Z h1 bb kb .byte (32 : Int32) (bs.map Value.int) (.int (0 : Int32))) (hq0 : (own_pk (own_bytes (own_fin (own_dm gs q4))) 0) = E0) (hq1 : (own_pk (own_bytes (own_fin (own_dm gs q4))) 8) = E1) (hq2 : (own_pk (own_bytes (own_fin (own_dm gs q4))) 16) = E2) (hq3 : (own_pk (own_bytes (own_fin (own_dm gs q4))) 24) = E3) :
    OG p e below s 16 192 (fun v _ L => v = some (.int 1) ∧ Fr n0 L) (T0.setTop (mkF m 545 (own_L40 x0 x1 x2 x3 q4 p5 v3 f (own_d q4 (0 : Int32)) (own_d q4 (1 : Int32)) (own_d q4 (2 : Int32)) (own_d q4 (3 : Int32)) (own_d q4 (4 : Int32)) (own_d q4 (5 : Int32)) (own_d q4 (6 : Int32)) (own_d q4 (7 : Int32)) (own_d q4 (8 : Int32)) (own_d q4 (9 : Int32)) bb E0 E1 E2 E3) [])) := by
  have hp0 : (own_pk bs 0) = E0 := by rw [hbs]; exact hq0
  have hp1 : (own_pk bs 8) = E1 := by rw [hbs]; exact hq1
  have hp2 : (own_pk bs 16) = E2 := by rw [hbs]; exact hq2
  have hp3 : (own_pk bs 24) = E3 := by rw [hbs]; exact hq3
  refine OG.of (A := T0.setTop (mkF m 548 (own_L40 x0 x1 x2 x3 q4 p5 v3 f (own_d q4 (0 : Int32)) (own_d q4 (1 : Int32)) (own_d q4 (2 : Int32)) (own_d q4 (3 : Int32)) (own_d q4 (4 : Int32)) (own_d q4 (5 : Int32)) (own_d q4 (6 : Int32)) (own_d q4 (7 : Int32)) (own_d q4 (8 : Int32)) (own_d q4 (9 : Int32)) bb E0 E1 E2 E3) [(.int (0 : Int32)), (.ref bb)])) (fun oT oK => ?_) ?_
  · skip
    refine XS.aload X0.here hx rfl (hb hby at_545) rfl rfl  ?_
    show Steps p.tables e below (T0.setTop (mkF m 547 (own_L40 x0 x1 x2 x3 q4 p5 v3 f (own_d q4 (0 : Int32)) (own_d q4 (1 : Int32)) (own_d q4 (2 : Int32)) (own_d q4 (3 : Int32)) (own_d q4 (4 : Int32)) (own_d q4 (5 : Int32)) (own_d q4 (6 : Int32)) (own_d q4 (7 : Int32)) (own_d q4 (8 : Int32)) (own_d q4 (9 : Int32)) bb E0 E1 E2 E3) [(.ref bb)])) _
    refine XS.iconst X0.here hx rfl (hb hby at_547) ?_
    exact oK
  obtain ⟨_, _, ⟨T51, L51, k51, n51⟩, -, X51, ⟨Lc51, hQ51, l51, y51, z51⟩, st51⟩ := Jvm.LawKit.callS X0 hx (y := (⟨"com/example/gate_to_gate/gatetogate/io/Field25519EncodePinLaw", "pack", "([BI)J"⟩ : MethodName)) hown (mvT hZ (own_at hw 32 rfl)) (mvT hZ (own_at hw 33 rfl)) (mvT hZ (own_at hw 12 rfl)) (mvT hZ (own_at hw 34 rfl)) (by decide) (backOf (W := 0) (rmP l Z a0 hw [] bb (0 : Int32) (bs.getD (0 + 0) 0) (bs.getD (0 + 1) 0) (bs.getD (0 + 2) 0) (bs.getD (0 + 3) 0) (bs.getD (0 + 4) 0) (bs.getD (0 + 5) 0) (bs.getD (0 + 6) 0) (bs.getD (0 + 7) 0) h1 n0 (Z0) (own_rdB Vb hlb (i := 0 + 0) rfl (by decide)) (own_rdB Vb hlb (i := 0 + 1) rfl (by decide)) (own_rdB Vb hlb (i := 0 + 2) rfl (by decide)) (own_rdB Vb hlb (i := 0 + 3) rfl (by decide)) (own_rdB Vb hlb (i := 0 + 4) rfl (by decide)) (own_rdB Vb hlb (i := 0 + 5) rfl (by decide)) (own_rdB Vb hlb (i := 0 + 6) rfl (by decide)) (own_rdB Vb hlb (i := 0 + 7) rfl (by decide))) hZ (own_at hw 34 rfl) (own_at hw 12 rfl) (by decide) (by decide)) (g := (mkF m 548 (own_L40 x0 x1 x2 x3 q4 p5 v3 f (own_d q4 (0 : Int32)) (own_d q4 (1 : Int32)) (own_d q4 (2 : Int32)) (own_d q4 (3 : Int32)) (own_d q4 (4 : Int32)) (own_d q4 (5 : Int32)) (own_d q4 (6 : Int32)) (own_d q4 (7 : Int32)) (own_d q4 (8 : Int32)) (own_d q4 (9 : Int32)) bb E0 E1 E2 E3) [(.int (0 : Int32)), (.ref bb)])) rfl (by rw [hml]; rfl) (argsL := [(.ref bb), (.int (0 : Int32))]) (rest := []) (lenOf pd___BI_J rfl) rfl (by show 2 * 0 + _ ≤ _; exact Nat.le_of_eq rfl) (hb hby at_548) (fun _ _ => ⟨rfl, e0, (by decide : 4 + 0 ≤ _), (by decide : 56 + 0 ≤ _)⟩)
  dsimp only [Pt.U, Pt.locs, Pt.cells, Pt.slots] at X51 l51 y51 z51 st51 hQ51
  subst l51 y51 z51
  obtain ⟨hv51, N51q, e51⟩ := hQ51
  obtain rfl := hv51.trans (show _ = some (.long (own_pk bs 0)) from rfl)
  have N51 := Fr.app N0 N51q
  refine OG.of st51 ?_
  show OG _ _ _ _ _ _ _ (T51.setTop (mkF m 551 (own_L40 x0 x1 x2 x3 q4 p5 v3 f (own_d q4 (0 : Int32)) (own_d q4 (1 : Int32)) (own_d q4 (2 : Int32)) (own_d q4 (3 : Int32)) (own_d q4 (4 : Int32)) (own_d q4 (5 : Int32)) (own_d q4 (6 : Int32)) (own_d q4 (7 : Int32)) (own_d q4 (8 : Int32)) (own_d q4 (9 : Int32)) bb E0 E1 E2 E3) [(.long (own_pk bs 0))]))
  refine OG.of (A := T51.setTop (mkF m 561 (own_L40 x0 x1 x2 x3 q4 p5 v3 f (own_d q4 (0 : Int32)) (own_d q4 (1 : Int32)) (own_d q4 (2 : Int32)) (own_d q4 (3 : Int32)) (own_d q4 (4 : Int32)) (own_d q4 (5 : Int32)) (own_d q4 (6 : Int32)) (own_d q4 (7 : Int32)) (own_d q4 (8 : Int32)) (own_d q4 (9 : Int32)) bb E0 E1 E2 E3) [(.int (8 : Int32)), (.ref bb)])) (fun oT oK => ?_) ?_
  · skip
    refine XT.lload X51.here hx rfl (hb hby at_551) rfl  ?_
    show Steps p.tables e below (T51.setTop (mkF m 553 (own_L40 x0 x1 x2 x3 q4 p5 v3 f (own_d q4 (0 : Int32)) (own_d q4 (1 : Int32)) (own_d q4 (2 : Int32)) (own_d q4 (3 : Int32)) (own_d q4 (4 : Int32)) (own_d q4 (5 : Int32)) (own_d q4 (6 : Int32)) (own_d q4 (7 : Int32)) (own_d q4 (8 : Int32)) (own_d q4 (9 : Int32)) bb E0 E1 E2 E3) [(.long E0), (.long (own_pk bs 0))])) _
    refine XT.lcmp X51.here hx rfl (hb hby at_553) rfl ?_
    show Steps p.tables e below (T51.setTop (mkF m 554 (own_L40 x0 x1 x2 x3 q4 p5 v3 f (own_d q4 (0 : Int32)) (own_d q4 (1 : Int32)) (own_d q4 (2 : Int32)) (own_d q4 (3 : Int32)) (own_d q4 (4 : Int32)) (own_d q4 (5 : Int32)) (own_d q4 (6 : Int32)) (own_d q4 (7 : Int32)) (own_d q4 (8 : Int32)) (own_d q4 (9 : Int32)) bb E0 E1 E2 E3) [(.int (XT.cmpL (own_pk bs 0) E0))])) _
    refine XS.ifNo X51.here hx rfl (hb hby at_554) rfl (XT.ll_ne_f hp0) ?_
    show Steps p.tables e below (T51.setTop (mkF m 557 (own_L40 x0 x1 x2 x3 q4 p5 v3 f (own_d q4 (0 : Int32)) (own_d q4 (1 : Int32)) (own_d q4 (2 : Int32)) (own_d q4 (3 : Int32)) (own_d q4 (4 : Int32)) (own_d q4 (5 : Int32)) (own_d q4 (6 : Int32)) (own_d q4 (7 : Int32)) (own_d q4 (8 : Int32)) (own_d q4 (9 : Int32)) bb E0 E1 E2 E3) [])) _
    refine XS.aload X51.here hx rfl (hb hby at_557) rfl rfl  ?_
    refine XS.bipush X51.here hx rfl (hb hby at_559) ?_
    exact oK
  obtain ⟨_, _, ⟨T52, L52, k52, n52⟩, -, X52, ⟨Lc52, hQ52, l52, y52, z52⟩, st52⟩ := Jvm.LawKit.callS X51 hx (y := (⟨"com/example/gate_to_gate/gatetogate/io/Field25519EncodePinLaw", "pack", "([BI)J"⟩ : MethodName)) hown (mvT hZ (own_at hw 32 rfl)) (mvT hZ (own_at hw 33 rfl)) (mvT hZ (own_at hw 12 rfl)) (mvT hZ (own_at hw 34 rfl)) (by decide) (backOf (W := 0) (rmP l Z a0 hw [] bb (8 : Int32) (bs.getD (8 + 0) 0) (bs.getD (8 + 1) 0) (bs.getD (8 + 2) 0) (bs.getD (8 + 3) 0) (bs.getD (8 + 4) 0) (bs.getD (8 + 5) 0) (bs.getD (8 + 6) 0) (bs.getD (8 + 7) 0) h1 n0 (Z0) (own_rdB Vb hlb (i := 8 + 0) rfl (by decide)) (own_rdB Vb hlb (i := 8 + 1) rfl (by decide)) (own_rdB Vb hlb (i := 8 + 2) rfl (by decide)) (own_rdB Vb hlb (i := 8 + 3) rfl (by decide)) (own_rdB Vb hlb (i := 8 + 4) rfl (by decide)) (own_rdB Vb hlb (i := 8 + 5) rfl (by decide)) (own_rdB Vb hlb (i := 8 + 6) rfl (by decide)) (own_rdB Vb hlb (i := 8 + 7) rfl (by decide))) hZ (own_at hw 34 rfl) (own_at hw 12 rfl) (by decide) (by decide)) (g := (mkF m 561 (own_L40 x0 x1 x2 x3 q4 p5 v3 f (own_d q4 (0 : Int32)) (own_d q4 (1 : Int32)) (own_d q4 (2 : Int32)) (own_d q4 (3 : Int32)) (own_d q4 (4 : Int32)) (own_d q4 (5 : Int32)) (own_d q4 (6 : Int32)) (own_d q4 (7 : Int32)) (own_d q4 (8 : Int32)) (own_d q4 (9 : Int32)) bb E0 E1 E2 E3) [(.int (8 : Int32)), (.ref bb)])) rfl (by rw [hml]; rfl) (argsL := [(.ref bb), (.int (8 : Int32))]) (rest := []) (lenOf pd___BI_J rfl) rfl (by show 2 * 0 + _ ≤ _; exact Nat.le_of_eq rfl) (hb hby at_561) (fun _ _ => ⟨rfl, e51, (by decide : 4 + 0 ≤ _), (by decide : 56 + 0 ≤ _)⟩)
  dsimp only [Pt.U, Pt.locs, Pt.cells, Pt.slots] at X52 l52 y52 z52 st52 hQ52
  subst l52 y52 z52
  obtain ⟨hv52, N52q, e52⟩ := hQ52
  obtain rfl := hv52.trans (show _ = some (.long (own_pk bs 8)) from rfl)
  have N52 := Fr.app N51 N52q
  refine OG.of st52 ?_
  show OG _ _ _ _ _ _ _ (T52.setTop (mkF m 564 (own_L40 x0 x1 x2 x3 q4 p5 v3 f (own_d q4 (0 : Int32)) (own_d q4 (1 : Int32)) (own_d q4 (2 : Int32)) (own_d q4 (3 : Int32)) (own_d q4 (4 : Int32)) (own_d q4 (5 : Int32)) (own_d q4 (6 : Int32)) (own_d q4 (7 : Int32)) (own_d q4 (8 : Int32)) (own_d q4 (9 : Int32)) bb E0 E1 E2 E3) [(.long (own_pk bs 8))]))
  refine OG.of (A := T52.setTop (mkF m 574 (own_L40 x0 x1 x2 x3 q4 p5 v3 f (own_d q4 (0 : Int32)) (own_d q4 (1 : Int32)) (own_d q4 (2 : Int32)) (own_d q4 (3 : Int32)) (own_d q4 (4 : Int32)) (own_d q4 (5 : Int32)) (own_d q4 (6 : Int32)) (own_d q4 (7 : Int32)) (own_d q4 (8 : Int32)) (own_d q4 (9 : Int32)) bb E0 E1 E2 E3) [(.int (16 : Int32)), (.ref bb)])) (fun oT oK => ?_) ?_
  · skip
    refine XT.lload X52.here hx rfl (hb hby at_564) rfl  ?_
    show Steps p.tables e below (T52.setTop (mkF m 566 (own_L40 x0 x1 x2 x3 q4 p5 v3 f (own_d q4 (0 : Int32)) (own_d q4 (1 : Int32)) (own_d q4 (2 : Int32)) (own_d q4 (3 : Int32)) (own_d q4 (4 : Int32)) (own_d q4 (5 : Int32)) (own_d q4 (6 : Int32)) (own_d q4 (7 : Int32)) (own_d q4 (8 : Int32)) (own_d q4 (9 : Int32)) bb E0 E1 E2 E3) [(.long E1), (.long (own_pk bs 8))])) _
    refine XT.lcmp X52.here hx rfl (hb hby at_566) rfl ?_
    show Steps p.tables e below (T52.setTop (mkF m 567 (own_L40 x0 x1 x2 x3 q4 p5 v3 f (own_d q4 (0 : Int32)) (own_d q4 (1 : Int32)) (own_d q4 (2 : Int32)) (own_d q4 (3 : Int32)) (own_d q4 (4 : Int32)) (own_d q4 (5 : Int32)) (own_d q4 (6 : Int32)) (own_d q4 (7 : Int32)) (own_d q4 (8 : Int32)) (own_d q4 (9 : Int32)) bb E0 E1 E2 E3) [(.int (XT.cmpL (own_pk bs 8) E1))])) _
    refine XS.ifNo X52.here hx rfl (hb hby at_567) rfl (XT.ll_ne_f hp1) ?_
    show Steps p.tables e below (T52.setTop (mkF m 570 (own_L40 x0 x1 x2 x3 q4 p5 v3 f (own_d q4 (0 : Int32)) (own_d q4 (1 : Int32)) (own_d q4 (2 : Int32)) (own_d q4 (3 : Int32)) (own_d q4 (4 : Int32)) (own_d q4 (5 : Int32)) (own_d q4 (6 : Int32)) (own_d q4 (7 : Int32)) (own_d q4 (8 : Int32)) (own_d q4 (9 : Int32)) bb E0 E1 E2 E3) [])) _
    refine XS.aload X52.here hx rfl (hb hby at_570) rfl rfl  ?_
    refine XS.bipush X52.here hx rfl (hb hby at_572) ?_
    exact oK
  obtain ⟨_, _, ⟨T53, L53, k53, n53⟩, -, X53, ⟨Lc53, hQ53, l53, y53, z53⟩, st53⟩ := Jvm.LawKit.callS X52 hx (y := (⟨"com/example/gate_to_gate/gatetogate/io/Field25519EncodePinLaw", "pack", "([BI)J"⟩ : MethodName)) hown (mvT hZ (own_at hw 32 rfl)) (mvT hZ (own_at hw 33 rfl)) (mvT hZ (own_at hw 12 rfl)) (mvT hZ (own_at hw 34 rfl)) (by decide) (backOf (W := 0) (rmP l Z a0 hw [] bb (16 : Int32) (bs.getD (16 + 0) 0) (bs.getD (16 + 1) 0) (bs.getD (16 + 2) 0) (bs.getD (16 + 3) 0) (bs.getD (16 + 4) 0) (bs.getD (16 + 5) 0) (bs.getD (16 + 6) 0) (bs.getD (16 + 7) 0) h1 n0 (Z0) (own_rdB Vb hlb (i := 16 + 0) rfl (by decide)) (own_rdB Vb hlb (i := 16 + 1) rfl (by decide)) (own_rdB Vb hlb (i := 16 + 2) rfl (by decide)) (own_rdB Vb hlb (i := 16 + 3) rfl (by decide)) (own_rdB Vb hlb (i := 16 + 4) rfl (by decide)) (own_rdB Vb hlb (i := 16 + 5) rfl (by decide)) (own_rdB Vb hlb (i := 16 + 6) rfl (by decide)) (own_rdB Vb hlb (i := 16 + 7) rfl (by decide))) hZ (own_at hw 34 rfl) (own_at hw 12 rfl) (by decide) (by decide)) (g := (mkF m 574 (own_L40 x0 x1 x2 x3 q4 p5 v3 f (own_d q4 (0 : Int32)) (own_d q4 (1 : Int32)) (own_d q4 (2 : Int32)) (own_d q4 (3 : Int32)) (own_d q4 (4 : Int32)) (own_d q4 (5 : Int32)) (own_d q4 (6 : Int32)) (own_d q4 (7 : Int32)) (own_d q4 (8 : Int32)) (own_d q4 (9 : Int32)) bb E0 E1 E2 E3) [(.int (16 : Int32)), (.ref bb)])) rfl (by rw [hml]; rfl) (argsL := [(.ref bb), (.int (16 : Int32))]) (rest := []) (lenOf pd___BI_J rfl) rfl (by show 2 * 0 + _ ≤ _; exact Nat.le_of_eq rfl) (hb hby at_574) (fun _ _ => ⟨rfl, e52, (by decide : 4 + 0 ≤ _), (by decide : 56 + 0 ≤ _)⟩)
  dsimp only [Pt.U, Pt.locs, Pt.cells, Pt.slots] at X53 l53 y53 z53 st53 hQ53
  subst l53 y53 z53
  obtain ⟨hv53, N53q, e53⟩ := hQ53
  obtain rfl := hv53.trans (show _ = some (.long (own_pk bs 16)) from rfl)
  have N53 := Fr.app N52 N53q
  refine OG.of st53 ?_
  show OG _ _ _ _ _ _ _ (T53.setTop (mkF m 577 (own_L40 x0 x1 x2 x3 q4 p5 v3 f (own_d q4 (0 : Int32)) (own_d q4 (1 : Int32)) (own_d q4 (2 : Int32)) (own_d q4 (3 : Int32)) (own_d q4 (4 : Int32)) (own_d q4 (5 : Int32)) (own_d q4 (6 : Int32)) (own_d q4 (7 : Int32)) (own_d q4 (8 : Int32)) (own_d q4 (9 : Int32)) bb E0 E1 E2 E3) [(.long (own_pk bs 16))]))
  refine OG.of (A := T53.setTop (mkF m 587 (own_L40 x0 x1 x2 x3 q4 p5 v3 f (own_d q4 (0 : Int32)) (own_d q4 (1 : Int32)) (own_d q4 (2 : Int32)) (own_d q4 (3 : Int32)) (own_d q4 (4 : Int32)) (own_d q4 (5 : Int32)) (own_d q4 (6 : Int32)) (own_d q4 (7 : Int32)) (own_d q4 (8 : Int32)) (own_d q4 (9 : Int32)) bb E0 E1 E2 E3) [(.int (24 : Int32)), (.ref bb)])) (fun oT oK => ?_) ?_
  · skip
    refine XT.lload X53.here hx rfl (hb hby at_577) rfl  ?_
    show Steps p.tables e below (T53.setTop (mkF m 579 (own_L40 x0 x1 x2 x3 q4 p5 v3 f (own_d q4 (0 : Int32)) (own_d q4 (1 : Int32)) (own_d q4 (2 : Int32)) (own_d q4 (3 : Int32)) (own_d q4 (4 : Int32)) (own_d q4 (5 : Int32)) (own_d q4 (6 : Int32)) (own_d q4 (7 : Int32)) (own_d q4 (8 : Int32)) (own_d q4 (9 : Int32)) bb E0 E1 E2 E3) [(.long E2), (.long (own_pk bs 16))])) _
    refine XT.lcmp X53.here hx rfl (hb hby at_579) rfl ?_
    show Steps p.tables e below (T53.setTop (mkF m 580 (own_L40 x0 x1 x2 x3 q4 p5 v3 f (own_d q4 (0 : Int32)) (own_d q4 (1 : Int32)) (own_d q4 (2 : Int32)) (own_d q4 (3 : Int32)) (own_d q4 (4 : Int32)) (own_d q4 (5 : Int32)) (own_d q4 (6 : Int32)) (own_d q4 (7 : Int32)) (own_d q4 (8 : Int32)) (own_d q4 (9 : Int32)) bb E0 E1 E2 E3) [(.int (XT.cmpL (own_pk bs 16) E2))])) _
    refine XS.ifNo X53.here hx rfl (hb hby at_580) rfl (XT.ll_ne_f hp2) ?_
    show Steps p.tables e below (T53.setTop (mkF m 583 (own_L40 x0 x1 x2 x3 q4 p5 v3 f (own_d q4 (0 : Int32)) (own_d q4 (1 : Int32)) (own_d q4 (2 : Int32)) (own_d q4 (3 : Int32)) (own_d q4 (4 : Int32)) (own_d q4 (5 : Int32)) (own_d q4 (6 : Int32)) (own_d q4 (7 : Int32)) (own_d q4 (8 : Int32)) (own_d q4 (9 : Int32)) bb E0 E1 E2 E3) [])) _
    refine XS.aload X53.here hx rfl (hb hby at_583) rfl rfl  ?_
    refine XS.bipush X53.here hx rfl (hb hby at_585) ?_
    exact oK
  obtain ⟨_, _, ⟨T54, L54, k54, n54⟩, -, X54, ⟨Lc54, hQ54, l54, y54, z54⟩, st54⟩ := Jvm.LawKit.callS X53 hx (y := (⟨"com/example/gate_to_gate/gatetogate/io/Field25519EncodePinLaw", "pack", "([BI)J"⟩ : MethodName)) hown (mvT hZ (own_at hw 32 rfl)) (mvT hZ (own_at hw 33 rfl)) (mvT hZ (own_at hw 12 rfl)) (mvT hZ (own_at hw 34 rfl)) (by decide) (backOf (W := 0) (rmP l Z a0 hw [] bb (24 : Int32) (bs.getD (24 + 0) 0) (bs.getD (24 + 1) 0) (bs.getD (24 + 2) 0) (bs.getD (24 + 3) 0) (bs.getD (24 + 4) 0) (bs.getD (24 + 5) 0) (bs.getD (24 + 6) 0) (bs.getD (24 + 7) 0) h1 n0 (Z0) (own_rdB Vb hlb (i := 24 + 0) rfl (by decide)) (own_rdB Vb hlb (i := 24 + 1) rfl (by decide)) (own_rdB Vb hlb (i := 24 + 2) rfl (by decide)) (own_rdB Vb hlb (i := 24 + 3) rfl (by decide)) (own_rdB Vb hlb (i := 24 + 4) rfl (by decide)) (own_rdB Vb hlb (i := 24 + 5) rfl (by decide)) (own_rdB Vb hlb (i := 24 + 6) rfl (by decide)) (own_rdB Vb hlb (i := 24 + 7) rfl (by decide))) hZ (own_at hw 34 rfl) (own_at hw 12 rfl) (by decide) (by decide)) (g := (mkF m 587 (own_L40 x0 x1 x2 x3 q4 p5 v3 f (own_d q4 (0 : Int32)) (own_d q4 (1 : Int32)) (own_d q4 (2 : Int32)) (own_d q4 (3 : Int32)) (own_d q4 (4 : Int32)) (own_d q4 (5 : Int32)) (own_d q4 (6 : Int32)) (own_d q4 (7 : Int32)) (own_d q4 (8 : Int32)) (own_d q4 (9 : Int32)) bb E0 E1 E2 E3) [(.int (24 : Int32)), (.ref bb)])) rfl (by rw [hml]; rfl) (argsL := [(.ref bb), (.int (24 : Int32))]) (rest := []) (lenOf pd___BI_J rfl) rfl (by show 2 * 0 + _ ≤ _; exact Nat.le_of_eq rfl) (hb hby at_587) (fun _ _ => ⟨rfl, e53, (by decide : 4 + 0 ≤ _), (by decide : 56 + 0 ≤ _)⟩)
  dsimp only [Pt.U, Pt.locs, Pt.cells, Pt.slots] at X54 l54 y54 z54 st54 hQ54
  subst l54 y54 z54
  obtain ⟨hv54, N54q, e54⟩ := hQ54
  obtain rfl := hv54.trans (show _ = some (.long (own_pk bs 24)) from rfl)
  have N54 := Fr.app N53 N54q
  refine OG.of st54 ?_
  show OG _ _ _ _ _ _ _ (T54.setTop (mkF m 590 (own_L40 x0 x1 x2 x3 q4 p5 v3 f (own_d q4 (0 : Int32)) (own_d q4 (1 : Int32)) (own_d q4 (2 : Int32)) (own_d q4 (3 : Int32)) (own_d q4 (4 : Int32)) (own_d q4 (5 : Int32)) (own_d q4 (6 : Int32)) (own_d q4 (7 : Int32)) (own_d q4 (8 : Int32)) (own_d q4 (9 : Int32)) bb E0 E1 E2 E3) [(.long (own_pk bs 24))]))
  refine OG.of (A := T54.setTop (mkF m 601 (own_L40 x0 x1 x2 x3 q4 p5 v3 f (own_d q4 (0 : Int32)) (own_d q4 (1 : Int32)) (own_d q4 (2 : Int32)) (own_d q4 (3 : Int32)) (own_d q4 (4 : Int32)) (own_d q4 (5 : Int32)) (own_d q4 (6 : Int32)) (own_d q4 (7 : Int32)) (own_d q4 (8 : Int32)) (own_d q4 (9 : Int32)) bb E0 E1 E2 E3) [(.int (1 : Int32))])) (fun oT oK => ?_) ?_
  · skip
    refine XT.lload X54.here hx rfl (hb hby at_590) rfl  ?_
    show Steps p.tables e below (T54.setTop (mkF m 592 (own_L40 x0 x1 x2 x3 q4 p5 v3 f (own_d q4 (0 : Int32)) (own_d q4 (1 : Int32)) (own_d q4 (2 : Int32)) (own_d q4 (3 : Int32)) (own_d q4 (4 : Int32)) (own_d q4 (5 : Int32)) (own_d q4 (6 : Int32)) (own_d q4 (7 : Int32)) (own_d q4 (8 : Int32)) (own_d q4 (9 : Int32)) bb E0 E1 E2 E3) [(.long E3), (.long (own_pk bs 24))])) _
    refine XT.lcmp X54.here hx rfl (hb hby at_592) rfl ?_
    show Steps p.tables e below (T54.setTop (mkF m 593 (own_L40 x0 x1 x2 x3 q4 p5 v3 f (own_d q4 (0 : Int32)) (own_d q4 (1 : Int32)) (own_d q4 (2 : Int32)) (own_d q4 (3 : Int32)) (own_d q4 (4 : Int32)) (own_d q4 (5 : Int32)) (own_d q4 (6 : Int32)) (own_d q4 (7 : Int32)) (own_d q4 (8 : Int32)) (own_d q4 (9 : Int32)) bb E0 E1 E2 E3) [(.int (XT.cmpL (own_pk bs 24) E3))])) _
    refine XS.ifNo X54.here hx rfl (hb hby at_593) rfl (XT.ll_ne_f hp3) ?_
    show Steps p.tables e below (T54.setTop (mkF m 596 (own_L40 x0 x1 x2 x3 q4 p5 v3 f (own_d q4 (0 : Int32)) (own_d q4 (1 : Int32)) (own_d q4 (2 : Int32)) (own_d q4 (3 : Int32)) (own_d q4 (4 : Int32)) (own_d q4 (5 : Int32)) (own_d q4 (6 : Int32)) (own_d q4 (7 : Int32)) (own_d q4 (8 : Int32)) (own_d q4 (9 : Int32)) bb E0 E1 E2 E3) [])) _
    refine XS.iconst X54.here hx rfl (hb hby at_596) ?_
    refine XS.goto X54.here hx rfl (pc0 := 597) (pc' := 601) rfl (hb hby at_597) (by decide) (by decide) ?_
    exact oK
  refine OG.retN X54 hx (t := .boolean) hret (by simp) (hb hby at_601) hlk ?_ (by decide) (by decide)
  try rw [e54]
  exact ⟨rfl, N54⟩
set_option maxRecDepth 65536 in
set_option maxHeartbeats 40000000 in
theorem own_tail_6 {p : Program} {l : Launch} {e : Env} {s : State} {m : MethodId} {args : Array Value} {below : List Frame} {meth : Method} {c : Code} {T0 : State} {locs : List Loc} {Z : State} {a0 : Array Value} {h1 : Heap} {n0 : Nat} (x0 : Int64) (x1 : Int64) (x2 : Int64) (x3 : Int64) (q4 : Int64) (p5 : Int32) (v3 : Int64) (f : Addr) (kf : ClassId) (gs : List Int64) (wB : Addr) (bb : Addr) (kb : ClassId) (bs : List Int32)
    (X0 : Stand p l e room_1 s m args below meth c T0 locs 4 56) (hx : p.tables.exec = Jvm.exec) (hZ : Z.Warmed39 s.vm) (hw : ∀ d ∈ tables_1, d.before a0 Z = true) (hby : c.code = code) (hml : c.maxLocals = 43) (hown : s.vm.findClass "com/example/gate_to_gate/gatetogate/io/Field25519EncodePinLaw" = some m.cls) (hlk : meth.locks = false) (hret : meth.sig.returnType = some .boolean) (e0 : T0.heap = h1) (N0 : Fr n0 locs) (Z0 : n0 ≤ h1.size) (SB : Sta Z Z.heap "com/example/gate_to_gate/gatetogate/io/Field25519" "BITS" "[I" (.ref wB)) (TB : ∀ j, j < 10 → ORd Z Z.heap wB .int (Int32.ofNat j) (.int (own_bits j))) (hbs : bs = own_bytes (own_fin (own_dm gs q4))) (hlb : bs.length = 32) (Vb : Arv Z h1 bb kb .byte (32 : Int32) (bs.map Value.int) (.int (0 : Int32))) (hq0 : (own_pk (own_bytes (own_fin (own_dm gs q4))) 0) = (if v3 = (9223372036854775807 : Int64) then (if x2 = (-1 : Int64) then (if x1 = (-1 : Int64) then (if x0 < (0 : Int64) then (if x0 < (-19 : Int64) then x0 else (x0 + (19 : Int64))) else x0) else x0) else x0) else x0)) (hq1 : (own_pk (own_bytes (own_fin (own_dm gs q4))) 8) = (if v3 = (9223372036854775807 : Int64) then (if x2 = (-1 : Int64) then (if x1 = (-1 : Int64) then (if x0 < (0 : Int64) then (if x0 < (-19 : Int64) then x1 else (0 : Int64)) else x1) else x1) else x1) else x1)) (hq2 : (own_pk (own_bytes (own_fin (own_dm gs q4))) 16) = (if v3 = (9223372036854775807 : Int64) then (if x2 = (-1 : Int64) then (if x1 = (-1 : Int64) then (if x0 < (0 : Int64) then (if x0 < (-19 : Int64) then x2 else (0 : Int64)) else x2) else x2) else x2) else x2)) (hq3 : (own_pk (own_bytes (own_fin (own_dm gs q4))) 24) = (if v3 = (9223372036854775807 : Int64) then (if x2 = (-1 : Int64) then (if x1 = (-1 : Int64) then (if x0 < (0 : Int64) then (if x0 < (-19 : Int64) then v3 else (0 : Int64)) else v3) else v3) else v3) else v3)) :
    OG p e below s 16 192 (fun v _ L => v = some (.int 1) ∧ Fr n0 L) (T0.setTop (mkF m 475 (own_L36 x0 x1 x2 x3 q4 p5 v3 f (own_d q4 (0 : Int32)) (own_d q4 (1 : Int32)) (own_d q4 (2 : Int32)) (own_d q4 (3 : Int32)) (own_d q4 (4 : Int32)) (own_d q4 (5 : Int32)) (own_d q4 (6 : Int32)) (own_d q4 (7 : Int32)) (own_d q4 (8 : Int32)) (own_d q4 (9 : Int32)) bb) [])) := by
  refine OG.of (A := T0.setTop (mkF m 545 (own_L40 x0 x1 x2 x3 q4 p5 v3 f (own_d q4 (0 : Int32)) (own_d q4 (1 : Int32)) (own_d q4 (2 : Int32)) (own_d q4 (3 : Int32)) (own_d q4 (4 : Int32)) (own_d q4 (5 : Int32)) (own_d q4 (6 : Int32)) (own_d q4 (7 : Int32)) (own_d q4 (8 : Int32)) (own_d q4 (9 : Int32)) bb (if v3 = (9223372036854775807 : Int64) then (if x2 = (-1 : Int64) then (if x1 = (-1 : Int64) then (if x0 < (0 : Int64) then (if x0 < (-19 : Int64) then x0 else (x0 + (19 : Int64))) else x0) else x0) else x0) else x0) (if v3 = (9223372036854775807 : Int64) then (if x2 = (-1 : Int64) then (if x1 = (-1 : Int64) then (if x0 < (0 : Int64) then (if x0 < (-19 : Int64) then x1 else (0 : Int64)) else x1) else x1) else x1) else x1) (if v3 = (9223372036854775807 : Int64) then (if x2 = (-1 : Int64) then (if x1 = (-1 : Int64) then (if x0 < (0 : Int64) then (if x0 < (-19 : Int64) then x2 else (0 : Int64)) else x2) else x2) else x2) else x2) (if v3 = (9223372036854775807 : Int64) then (if x2 = (-1 : Int64) then (if x1 = (-1 : Int64) then (if x0 < (0 : Int64) then (if x0 < (-19 : Int64) then v3 else (0 : Int64)) else v3) else v3) else v3) else v3)) [])) (fun oT oK => ?_) ?_
  · skip
    refine XT.lloadN X0.here hx rfl (hb hby at_475) rfl  ?_
    show Steps p.tables e below (T0.setTop (mkF m 476 (own_L36 x0 x1 x2 x3 q4 p5 v3 f (own_d q4 (0 : Int32)) (own_d q4 (1 : Int32)) (own_d q4 (2 : Int32)) (own_d q4 (3 : Int32)) (own_d q4 (4 : Int32)) (own_d q4 (5 : Int32)) (own_d q4 (6 : Int32)) (own_d q4 (7 : Int32)) (own_d q4 (8 : Int32)) (own_d q4 (9 : Int32)) bb) [(.long x0)])) _
    refine XT.lstore X0.here hx rfl (hb hby at_476) rfl (l' := (own_L37 x0 x1 x2 x3 q4 p5 v3 f (own_d q4 (0 : Int32)) (own_d q4 (1 : Int32)) (own_d q4 (2 : Int32)) (own_d q4 (3 : Int32)) (own_d q4 (4 : Int32)) (own_d q4 (5 : Int32)) (own_d q4 (6 : Int32)) (own_d q4 (7 : Int32)) (own_d q4 (8 : Int32)) (own_d q4 (9 : Int32)) bb x0)) rfl ?_
    refine XT.lloadN X0.here hx rfl (hb hby at_478) rfl  ?_
    show Steps p.tables e below (T0.setTop (mkF m 479 (own_L37 x0 x1 x2 x3 q4 p5 v3 f (own_d q4 (0 : Int32)) (own_d q4 (1 : Int32)) (own_d q4 (2 : Int32)) (own_d q4 (3 : Int32)) (own_d q4 (4 : Int32)) (own_d q4 (5 : Int32)) (own_d q4 (6 : Int32)) (own_d q4 (7 : Int32)) (own_d q4 (8 : Int32)) (own_d q4 (9 : Int32)) bb x0) [(.long x1)])) _
    refine XT.lstore X0.here hx rfl (hb hby at_479) rfl (l' := (own_L38 x0 x1 x2 x3 q4 p5 v3 f (own_d q4 (0 : Int32)) (own_d q4 (1 : Int32)) (own_d q4 (2 : Int32)) (own_d q4 (3 : Int32)) (own_d q4 (4 : Int32)) (own_d q4 (5 : Int32)) (own_d q4 (6 : Int32)) (own_d q4 (7 : Int32)) (own_d q4 (8 : Int32)) (own_d q4 (9 : Int32)) bb x0 x1)) rfl ?_
    refine XT.lload X0.here hx rfl (hb hby at_481) rfl  ?_
    show Steps p.tables e below (T0.setTop (mkF m 483 (own_L38 x0 x1 x2 x3 q4 p5 v3 f (own_d q4 (0 : Int32)) (own_d q4 (1 : Int32)) (own_d q4 (2 : Int32)) (own_d q4 (3 : Int32)) (own_d q4 (4 : Int32)) (own_d q4 (5 : Int32)) (own_d q4 (6 : Int32)) (own_d q4 (7 : Int32)) (own_d q4 (8 : Int32)) (own_d q4 (9 : Int32)) bb x0 x1) [(.long x2)])) _
    refine XT.lstore X0.here hx rfl (hb hby at_483) rfl (l' := (own_L39 x0 x1 x2 x3 q4 p5 v3 f (own_d q4 (0 : Int32)) (own_d q4 (1 : Int32)) (own_d q4 (2 : Int32)) (own_d q4 (3 : Int32)) (own_d q4 (4 : Int32)) (own_d q4 (5 : Int32)) (own_d q4 (6 : Int32)) (own_d q4 (7 : Int32)) (own_d q4 (8 : Int32)) (own_d q4 (9 : Int32)) bb x0 x1 x2)) rfl ?_
    refine XT.lload X0.here hx rfl (hb hby at_485) rfl  ?_
    show Steps p.tables e below (T0.setTop (mkF m 487 (own_L39 x0 x1 x2 x3 q4 p5 v3 f (own_d q4 (0 : Int32)) (own_d q4 (1 : Int32)) (own_d q4 (2 : Int32)) (own_d q4 (3 : Int32)) (own_d q4 (4 : Int32)) (own_d q4 (5 : Int32)) (own_d q4 (6 : Int32)) (own_d q4 (7 : Int32)) (own_d q4 (8 : Int32)) (own_d q4 (9 : Int32)) bb x0 x1 x2) [(.long v3)])) _
    refine XT.lstore X0.here hx rfl (hb hby at_487) rfl (l' := (own_L40 x0 x1 x2 x3 q4 p5 v3 f (own_d q4 (0 : Int32)) (own_d q4 (1 : Int32)) (own_d q4 (2 : Int32)) (own_d q4 (3 : Int32)) (own_d q4 (4 : Int32)) (own_d q4 (5 : Int32)) (own_d q4 (6 : Int32)) (own_d q4 (7 : Int32)) (own_d q4 (8 : Int32)) (own_d q4 (9 : Int32)) bb x0 x1 x2 v3)) rfl ?_
    refine XT.lload X0.here hx rfl (hb hby at_489) rfl  ?_
    show Steps p.tables e below (T0.setTop (mkF m 491 (own_L40 x0 x1 x2 x3 q4 p5 v3 f (own_d q4 (0 : Int32)) (own_d q4 (1 : Int32)) (own_d q4 (2 : Int32)) (own_d q4 (3 : Int32)) (own_d q4 (4 : Int32)) (own_d q4 (5 : Int32)) (own_d q4 (6 : Int32)) (own_d q4 (7 : Int32)) (own_d q4 (8 : Int32)) (own_d q4 (9 : Int32)) bb x0 x1 x2 v3) [(.long v3)])) _
    refine X0.ldc2Long hx hown (mvT hZ (own_at hw 0 rfl)) (g := (mkF m 491 (own_L40 x0 x1 x2 x3 q4 p5 v3 f (own_d q4 (0 : Int32)) (own_d q4 (1 : Int32)) (own_d q4 (2 : Int32)) (own_d q4 (3 : Int32)) (own_d q4 (4 : Int32)) (own_d q4 (5 : Int32)) (own_d q4 (6 : Int32)) (own_d q4 (7 : Int32)) (own_d q4 (8 : Int32)) (own_d q4 (9 : Int32)) bb x0 x1 x2 v3) [(.long v3)])) rfl (hb hby at_491) _ ?_
    refine XT.lcmp X0.here hx rfl (hb hby at_494) rfl ?_
    show Steps p.tables e below (T0.setTop (mkF m 495 (own_L40 x0 x1 x2 x3 q4 p5 v3 f (own_d q4 (0 : Int32)) (own_d q4 (1 : Int32)) (own_d q4 (2 : Int32)) (own_d q4 (3 : Int32)) (own_d q4 (4 : Int32)) (own_d q4 (5 : Int32)) (own_d q4 (6 : Int32)) (own_d q4 (7 : Int32)) (own_d q4 (8 : Int32)) (own_d q4 (9 : Int32)) bb x0 x1 x2 v3) [(.int (XT.cmpL v3 (9223372036854775807 : Int64)))])) _
    refine (show ∀ oT, Steps p.tables e below (T0.setTop (mkF m 545 (own_L40 x0 x1 x2 x3 q4 p5 v3 f (own_d q4 (0 : Int32)) (own_d q4 (1 : Int32)) (own_d q4 (2 : Int32)) (own_d q4 (3 : Int32)) (own_d q4 (4 : Int32)) (own_d q4 (5 : Int32)) (own_d q4 (6 : Int32)) (own_d q4 (7 : Int32)) (own_d q4 (8 : Int32)) (own_d q4 (9 : Int32)) bb (if v3 = (9223372036854775807 : Int64) then (if x2 = (-1 : Int64) then (if x1 = (-1 : Int64) then (if x0 < (0 : Int64) then (if x0 < (-19 : Int64) then x0 else (x0 + (19 : Int64))) else x0) else x0) else x0) else x0) (if v3 = (9223372036854775807 : Int64) then (if x2 = (-1 : Int64) then (if x1 = (-1 : Int64) then (if x0 < (0 : Int64) then (if x0 < (-19 : Int64) then x1 else (0 : Int64)) else x1) else x1) else x1) else x1) (if v3 = (9223372036854775807 : Int64) then (if x2 = (-1 : Int64) then (if x1 = (-1 : Int64) then (if x0 < (0 : Int64) then (if x0 < (-19 : Int64) then x2 else (0 : Int64)) else x2) else x2) else x2) else x2) (if v3 = (9223372036854775807 : Int64) then (if x2 = (-1 : Int64) then (if x1 = (-1 : Int64) then (if x0 < (0 : Int64) then (if x0 < (-19 : Int64) then v3 else (0 : Int64)) else v3) else v3) else v3) else v3)) [])) oT → Steps p.tables e below (T0.setTop (mkF m 495 (own_L40 x0 x1 x2 x3 q4 p5 v3 f (own_d q4 (0 : Int32)) (own_d q4 (1 : Int32)) (own_d q4 (2 : Int32)) (own_d q4 (3 : Int32)) (own_d q4 (4 : Int32)) (own_d q4 (5 : Int32)) (own_d q4 (6 : Int32)) (own_d q4 (7 : Int32)) (own_d q4 (8 : Int32)) (own_d q4 (9 : Int32)) bb x0 x1 x2 v3) [(.int (XT.cmpL v3 (9223372036854775807 : Int64)))])) oT from fun oT oK => ?_) _ ?_
    · skip
      show Steps p.tables e below (T0.setTop (mkF m 495 (own_L40 x0 x1 x2 x3 q4 p5 v3 f (own_d q4 (0 : Int32)) (own_d q4 (1 : Int32)) (own_d q4 (2 : Int32)) (own_d q4 (3 : Int32)) (own_d q4 (4 : Int32)) (own_d q4 (5 : Int32)) (own_d q4 (6 : Int32)) (own_d q4 (7 : Int32)) (own_d q4 (8 : Int32)) (own_d q4 (9 : Int32)) bb x0 x1 x2 v3) [(.int (XT.cmpL v3 (9223372036854775807 : Int64)))])) _
      by_cases hj495_2 : v3 = (9223372036854775807 : Int64)
      · try simp only [if_pos hj495_2] at oK
        refine XS.ifNo X0.here hx rfl (hb hby at_495) rfl (XT.ll_ne_f hj495_2) ?_
        show Steps p.tables e below (T0.setTop (mkF m 498 (own_L40 x0 x1 x2 x3 q4 p5 v3 f (own_d q4 (0 : Int32)) (own_d q4 (1 : Int32)) (own_d q4 (2 : Int32)) (own_d q4 (3 : Int32)) (own_d q4 (4 : Int32)) (own_d q4 (5 : Int32)) (own_d q4 (6 : Int32)) (own_d q4 (7 : Int32)) (own_d q4 (8 : Int32)) (own_d q4 (9 : Int32)) bb x0 x1 x2 v3) [])) _
        refine XT.lload X0.here hx rfl (hb hby at_498) rfl  ?_
        show Steps p.tables e below (T0.setTop (mkF m 500 (own_L40 x0 x1 x2 x3 q4 p5 v3 f (own_d q4 (0 : Int32)) (own_d q4 (1 : Int32)) (own_d q4 (2 : Int32)) (own_d q4 (3 : Int32)) (own_d q4 (4 : Int32)) (own_d q4 (5 : Int32)) (own_d q4 (6 : Int32)) (own_d q4 (7 : Int32)) (own_d q4 (8 : Int32)) (own_d q4 (9 : Int32)) bb x0 x1 x2 v3) [(.long x2)])) _
        refine X0.ldc2Long hx hown (mvT hZ (own_at hw 36 rfl)) (g := (mkF m 500 (own_L40 x0 x1 x2 x3 q4 p5 v3 f (own_d q4 (0 : Int32)) (own_d q4 (1 : Int32)) (own_d q4 (2 : Int32)) (own_d q4 (3 : Int32)) (own_d q4 (4 : Int32)) (own_d q4 (5 : Int32)) (own_d q4 (6 : Int32)) (own_d q4 (7 : Int32)) (own_d q4 (8 : Int32)) (own_d q4 (9 : Int32)) bb x0 x1 x2 v3) [(.long x2)])) rfl (hb hby at_500) _ ?_
        show Steps p.tables e below (T0.setTop (mkF m 503 (own_L40 x0 x1 x2 x3 q4 p5 v3 f (own_d q4 (0 : Int32)) (own_d q4 (1 : Int32)) (own_d q4 (2 : Int32)) (own_d q4 (3 : Int32)) (own_d q4 (4 : Int32)) (own_d q4 (5 : Int32)) (own_d q4 (6 : Int32)) (own_d q4 (7 : Int32)) (own_d q4 (8 : Int32)) (own_d q4 (9 : Int32)) bb x0 x1 x2 v3) [(.long (-1 : Int64)), (.long x2)])) _
        refine XT.lcmp X0.here hx rfl (hb hby at_503) rfl ?_
        show Steps p.tables e below (T0.setTop (mkF m 504 (own_L40 x0 x1 x2 x3 q4 p5 v3 f (own_d q4 (0 : Int32)) (own_d q4 (1 : Int32)) (own_d q4 (2 : Int32)) (own_d q4 (3 : Int32)) (own_d q4 (4 : Int32)) (own_d q4 (5 : Int32)) (own_d q4 (6 : Int32)) (own_d q4 (7 : Int32)) (own_d q4 (8 : Int32)) (own_d q4 (9 : Int32)) bb x0 x1 x2 v3) [(.int (XT.cmpL x2 (-1 : Int64)))])) _
        by_cases hj504_3 : x2 = (-1 : Int64)
        · try simp only [if_pos hj504_3] at oK
          refine XS.ifNo X0.here hx rfl (hb hby at_504) rfl (XT.ll_ne_f hj504_3) ?_
          show Steps p.tables e below (T0.setTop (mkF m 507 (own_L40 x0 x1 x2 x3 q4 p5 v3 f (own_d q4 (0 : Int32)) (own_d q4 (1 : Int32)) (own_d q4 (2 : Int32)) (own_d q4 (3 : Int32)) (own_d q4 (4 : Int32)) (own_d q4 (5 : Int32)) (own_d q4 (6 : Int32)) (own_d q4 (7 : Int32)) (own_d q4 (8 : Int32)) (own_d q4 (9 : Int32)) bb x0 x1 x2 v3) [])) _
          refine XT.lloadN X0.here hx rfl (hb hby at_507) rfl  ?_
          show Steps p.tables e below (T0.setTop (mkF m 508 (own_L40 x0 x1 x2 x3 q4 p5 v3 f (own_d q4 (0 : Int32)) (own_d q4 (1 : Int32)) (own_d q4 (2 : Int32)) (own_d q4 (3 : Int32)) (own_d q4 (4 : Int32)) (own_d q4 (5 : Int32)) (own_d q4 (6 : Int32)) (own_d q4 (7 : Int32)) (own_d q4 (8 : Int32)) (own_d q4 (9 : Int32)) bb x0 x1 x2 v3) [(.long x1)])) _
          refine X0.ldc2Long hx hown (mvT hZ (own_at hw 36 rfl)) (g := (mkF m 508 (own_L40 x0 x1 x2 x3 q4 p5 v3 f (own_d q4 (0 : Int32)) (own_d q4 (1 : Int32)) (own_d q4 (2 : Int32)) (own_d q4 (3 : Int32)) (own_d q4 (4 : Int32)) (own_d q4 (5 : Int32)) (own_d q4 (6 : Int32)) (own_d q4 (7 : Int32)) (own_d q4 (8 : Int32)) (own_d q4 (9 : Int32)) bb x0 x1 x2 v3) [(.long x1)])) rfl (hb hby at_508) _ ?_
          show Steps p.tables e below (T0.setTop (mkF m 511 (own_L40 x0 x1 x2 x3 q4 p5 v3 f (own_d q4 (0 : Int32)) (own_d q4 (1 : Int32)) (own_d q4 (2 : Int32)) (own_d q4 (3 : Int32)) (own_d q4 (4 : Int32)) (own_d q4 (5 : Int32)) (own_d q4 (6 : Int32)) (own_d q4 (7 : Int32)) (own_d q4 (8 : Int32)) (own_d q4 (9 : Int32)) bb x0 x1 x2 v3) [(.long (-1 : Int64)), (.long x1)])) _
          refine XT.lcmp X0.here hx rfl (hb hby at_511) rfl ?_
          show Steps p.tables e below (T0.setTop (mkF m 512 (own_L40 x0 x1 x2 x3 q4 p5 v3 f (own_d q4 (0 : Int32)) (own_d q4 (1 : Int32)) (own_d q4 (2 : Int32)) (own_d q4 (3 : Int32)) (own_d q4 (4 : Int32)) (own_d q4 (5 : Int32)) (own_d q4 (6 : Int32)) (own_d q4 (7 : Int32)) (own_d q4 (8 : Int32)) (own_d q4 (9 : Int32)) bb x0 x1 x2 v3) [(.int (XT.cmpL x1 (-1 : Int64)))])) _
          by_cases hj512_4 : x1 = (-1 : Int64)
          · try simp only [if_pos hj512_4] at oK
            refine XS.ifNo X0.here hx rfl (hb hby at_512) rfl (XT.ll_ne_f hj512_4) ?_
            show Steps p.tables e below (T0.setTop (mkF m 515 (own_L40 x0 x1 x2 x3 q4 p5 v3 f (own_d q4 (0 : Int32)) (own_d q4 (1 : Int32)) (own_d q4 (2 : Int32)) (own_d q4 (3 : Int32)) (own_d q4 (4 : Int32)) (own_d q4 (5 : Int32)) (own_d q4 (6 : Int32)) (own_d q4 (7 : Int32)) (own_d q4 (8 : Int32)) (own_d q4 (9 : Int32)) bb x0 x1 x2 v3) [])) _
            refine XT.lloadN X0.here hx rfl (hb hby at_515) rfl  ?_
            show Steps p.tables e below (T0.setTop (mkF m 516 (own_L40 x0 x1 x2 x3 q4 p5 v3 f (own_d q4 (0 : Int32)) (own_d q4 (1 : Int32)) (own_d q4 (2 : Int32)) (own_d q4 (3 : Int32)) (own_d q4 (4 : Int32)) (own_d q4 (5 : Int32)) (own_d q4 (6 : Int32)) (own_d q4 (7 : Int32)) (own_d q4 (8 : Int32)) (own_d q4 (9 : Int32)) bb x0 x1 x2 v3) [(.long x0)])) _
            refine XT.lconst X0.here hx rfl (hb hby at_516) ?_
            show Steps p.tables e below (T0.setTop (mkF m 517 (own_L40 x0 x1 x2 x3 q4 p5 v3 f (own_d q4 (0 : Int32)) (own_d q4 (1 : Int32)) (own_d q4 (2 : Int32)) (own_d q4 (3 : Int32)) (own_d q4 (4 : Int32)) (own_d q4 (5 : Int32)) (own_d q4 (6 : Int32)) (own_d q4 (7 : Int32)) (own_d q4 (8 : Int32)) (own_d q4 (9 : Int32)) bb x0 x1 x2 v3) [(.long (0 : Int64)), (.long x0)])) _
            refine XT.lcmp X0.here hx rfl (hb hby at_517) rfl ?_
            show Steps p.tables e below (T0.setTop (mkF m 518 (own_L40 x0 x1 x2 x3 q4 p5 v3 f (own_d q4 (0 : Int32)) (own_d q4 (1 : Int32)) (own_d q4 (2 : Int32)) (own_d q4 (3 : Int32)) (own_d q4 (4 : Int32)) (own_d q4 (5 : Int32)) (own_d q4 (6 : Int32)) (own_d q4 (7 : Int32)) (own_d q4 (8 : Int32)) (own_d q4 (9 : Int32)) bb x0 x1 x2 v3) [(.int (XT.cmpL x0 (0 : Int64)))])) _
            by_cases hj518_5 : x0 < (0 : Int64)
            · try simp only [if_pos hj518_5] at oK
              refine XS.ifNo X0.here hx rfl (hb hby at_518) rfl (XT.ll_ge_f hj518_5) ?_
              show Steps p.tables e below (T0.setTop (mkF m 521 (own_L40 x0 x1 x2 x3 q4 p5 v3 f (own_d q4 (0 : Int32)) (own_d q4 (1 : Int32)) (own_d q4 (2 : Int32)) (own_d q4 (3 : Int32)) (own_d q4 (4 : Int32)) (own_d q4 (5 : Int32)) (own_d q4 (6 : Int32)) (own_d q4 (7 : Int32)) (own_d q4 (8 : Int32)) (own_d q4 (9 : Int32)) bb x0 x1 x2 v3) [])) _
              refine XT.lloadN X0.here hx rfl (hb hby at_521) rfl  ?_
              show Steps p.tables e below (T0.setTop (mkF m 522 (own_L40 x0 x1 x2 x3 q4 p5 v3 f (own_d q4 (0 : Int32)) (own_d q4 (1 : Int32)) (own_d q4 (2 : Int32)) (own_d q4 (3 : Int32)) (own_d q4 (4 : Int32)) (own_d q4 (5 : Int32)) (own_d q4 (6 : Int32)) (own_d q4 (7 : Int32)) (own_d q4 (8 : Int32)) (own_d q4 (9 : Int32)) bb x0 x1 x2 v3) [(.long x0)])) _
              refine X0.ldc2Long hx hown (mvT hZ (own_at hw 38 rfl)) (g := (mkF m 522 (own_L40 x0 x1 x2 x3 q4 p5 v3 f (own_d q4 (0 : Int32)) (own_d q4 (1 : Int32)) (own_d q4 (2 : Int32)) (own_d q4 (3 : Int32)) (own_d q4 (4 : Int32)) (own_d q4 (5 : Int32)) (own_d q4 (6 : Int32)) (own_d q4 (7 : Int32)) (own_d q4 (8 : Int32)) (own_d q4 (9 : Int32)) bb x0 x1 x2 v3) [(.long x0)])) rfl (hb hby at_522) _ ?_
              show Steps p.tables e below (T0.setTop (mkF m 525 (own_L40 x0 x1 x2 x3 q4 p5 v3 f (own_d q4 (0 : Int32)) (own_d q4 (1 : Int32)) (own_d q4 (2 : Int32)) (own_d q4 (3 : Int32)) (own_d q4 (4 : Int32)) (own_d q4 (5 : Int32)) (own_d q4 (6 : Int32)) (own_d q4 (7 : Int32)) (own_d q4 (8 : Int32)) (own_d q4 (9 : Int32)) bb x0 x1 x2 v3) [(.long (-19 : Int64)), (.long x0)])) _
              refine XT.lcmp X0.here hx rfl (hb hby at_525) rfl ?_
              show Steps p.tables e below (T0.setTop (mkF m 526 (own_L40 x0 x1 x2 x3 q4 p5 v3 f (own_d q4 (0 : Int32)) (own_d q4 (1 : Int32)) (own_d q4 (2 : Int32)) (own_d q4 (3 : Int32)) (own_d q4 (4 : Int32)) (own_d q4 (5 : Int32)) (own_d q4 (6 : Int32)) (own_d q4 (7 : Int32)) (own_d q4 (8 : Int32)) (own_d q4 (9 : Int32)) bb x0 x1 x2 v3) [(.int (XT.cmpL x0 (-19 : Int64)))])) _
              by_cases hj526_6 : x0 < (-19 : Int64)
              · try simp only [if_pos hj526_6] at oK
                refine XS.ifYes X0.here hx rfl (pc0 := 526) (pc' := 545) rfl (hb hby at_526) rfl (XT.ll_lt_t hj526_6) (by decide) (by decide) ?_
                exact oK
              · try simp only [if_neg hj526_6] at oK
                refine XS.ifNo X0.here hx rfl (hb hby at_526) rfl (XT.ll_lt_f hj526_6) ?_
                show Steps p.tables e below (T0.setTop (mkF m 529 (own_L40 x0 x1 x2 x3 q4 p5 v3 f (own_d q4 (0 : Int32)) (own_d q4 (1 : Int32)) (own_d q4 (2 : Int32)) (own_d q4 (3 : Int32)) (own_d q4 (4 : Int32)) (own_d q4 (5 : Int32)) (own_d q4 (6 : Int32)) (own_d q4 (7 : Int32)) (own_d q4 (8 : Int32)) (own_d q4 (9 : Int32)) bb x0 x1 x2 v3) [])) _
                refine XT.lloadN X0.here hx rfl (hb hby at_529) rfl  ?_
                show Steps p.tables e below (T0.setTop (mkF m 530 (own_L40 x0 x1 x2 x3 q4 p5 v3 f (own_d q4 (0 : Int32)) (own_d q4 (1 : Int32)) (own_d q4 (2 : Int32)) (own_d q4 (3 : Int32)) (own_d q4 (4 : Int32)) (own_d q4 (5 : Int32)) (own_d q4 (6 : Int32)) (own_d q4 (7 : Int32)) (own_d q4 (8 : Int32)) (own_d q4 (9 : Int32)) bb x0 x1 x2 v3) [(.long x0)])) _
                refine X0.ldc2Long hx hown (mvT hZ (own_at hw 16 rfl)) (g := (mkF m 530 (own_L40 x0 x1 x2 x3 q4 p5 v3 f (own_d q4 (0 : Int32)) (own_d q4 (1 : Int32)) (own_d q4 (2 : Int32)) (own_d q4 (3 : Int32)) (own_d q4 (4 : Int32)) (own_d q4 (5 : Int32)) (own_d q4 (6 : Int32)) (own_d q4 (7 : Int32)) (own_d q4 (8 : Int32)) (own_d q4 (9 : Int32)) bb x0 x1 x2 v3) [(.long x0)])) rfl (hb hby at_530) _ ?_
                show Steps p.tables e below (T0.setTop (mkF m 533 (own_L40 x0 x1 x2 x3 q4 p5 v3 f (own_d q4 (0 : Int32)) (own_d q4 (1 : Int32)) (own_d q4 (2 : Int32)) (own_d q4 (3 : Int32)) (own_d q4 (4 : Int32)) (own_d q4 (5 : Int32)) (own_d q4 (6 : Int32)) (own_d q4 (7 : Int32)) (own_d q4 (8 : Int32)) (own_d q4 (9 : Int32)) bb x0 x1 x2 v3) [(.long (19 : Int64)), (.long x0)])) _
                refine XT.ladd X0.here hx rfl (hb hby at_533) rfl ?_
                show Steps p.tables e below (T0.setTop (mkF m 534 (own_L40 x0 x1 x2 x3 q4 p5 v3 f (own_d q4 (0 : Int32)) (own_d q4 (1 : Int32)) (own_d q4 (2 : Int32)) (own_d q4 (3 : Int32)) (own_d q4 (4 : Int32)) (own_d q4 (5 : Int32)) (own_d q4 (6 : Int32)) (own_d q4 (7 : Int32)) (own_d q4 (8 : Int32)) (own_d q4 (9 : Int32)) bb x0 x1 x2 v3) [(.long (x0 + (19 : Int64)))])) _
                refine XT.lstore X0.here hx rfl (hb hby at_534) rfl (l' := (own_L40 x0 x1 x2 x3 q4 p5 v3 f (own_d q4 (0 : Int32)) (own_d q4 (1 : Int32)) (own_d q4 (2 : Int32)) (own_d q4 (3 : Int32)) (own_d q4 (4 : Int32)) (own_d q4 (5 : Int32)) (own_d q4 (6 : Int32)) (own_d q4 (7 : Int32)) (own_d q4 (8 : Int32)) (own_d q4 (9 : Int32)) bb (x0 + (19 : Int64)) x1 x2 v3)) rfl ?_
                show Steps p.tables e below (T0.setTop (mkF m 536 (own_L40 x0 x1 x2 x3 q4 p5 v3 f (own_d q4 (0 : Int32)) (own_d q4 (1 : Int32)) (own_d q4 (2 : Int32)) (own_d q4 (3 : Int32)) (own_d q4 (4 : Int32)) (own_d q4 (5 : Int32)) (own_d q4 (6 : Int32)) (own_d q4 (7 : Int32)) (own_d q4 (8 : Int32)) (own_d q4 (9 : Int32)) bb (x0 + (19 : Int64)) x1 x2 v3) [])) _
                refine XT.lconst X0.here hx rfl (hb hby at_536) ?_
                show Steps p.tables e below (T0.setTop (mkF m 537 (own_L40 x0 x1 x2 x3 q4 p5 v3 f (own_d q4 (0 : Int32)) (own_d q4 (1 : Int32)) (own_d q4 (2 : Int32)) (own_d q4 (3 : Int32)) (own_d q4 (4 : Int32)) (own_d q4 (5 : Int32)) (own_d q4 (6 : Int32)) (own_d q4 (7 : Int32)) (own_d q4 (8 : Int32)) (own_d q4 (9 : Int32)) bb (x0 + (19 : Int64)) x1 x2 v3) [(.long (0 : Int64))])) _
                refine XT.lstore X0.here hx rfl (hb hby at_537) rfl (l' := (own_L40 x0 x1 x2 x3 q4 p5 v3 f (own_d q4 (0 : Int32)) (own_d q4 (1 : Int32)) (own_d q4 (2 : Int32)) (own_d q4 (3 : Int32)) (own_d q4 (4 : Int32)) (own_d q4 (5 : Int32)) (own_d q4 (6 : Int32)) (own_d q4 (7 : Int32)) (own_d q4 (8 : Int32)) (own_d q4 (9 : Int32)) bb (x0 + (19 : Int64)) (0 : Int64) x2 v3)) rfl ?_
                show Steps p.tables e below (T0.setTop (mkF m 539 (own_L40 x0 x1 x2 x3 q4 p5 v3 f (own_d q4 (0 : Int32)) (own_d q4 (1 : Int32)) (own_d q4 (2 : Int32)) (own_d q4 (3 : Int32)) (own_d q4 (4 : Int32)) (own_d q4 (5 : Int32)) (own_d q4 (6 : Int32)) (own_d q4 (7 : Int32)) (own_d q4 (8 : Int32)) (own_d q4 (9 : Int32)) bb (x0 + (19 : Int64)) (0 : Int64) x2 v3) [])) _
                refine XT.lconst X0.here hx rfl (hb hby at_539) ?_
                show Steps p.tables e below (T0.setTop (mkF m 540 (own_L40 x0 x1 x2 x3 q4 p5 v3 f (own_d q4 (0 : Int32)) (own_d q4 (1 : Int32)) (own_d q4 (2 : Int32)) (own_d q4 (3 : Int32)) (own_d q4 (4 : Int32)) (own_d q4 (5 : Int32)) (own_d q4 (6 : Int32)) (own_d q4 (7 : Int32)) (own_d q4 (8 : Int32)) (own_d q4 (9 : Int32)) bb (x0 + (19 : Int64)) (0 : Int64) x2 v3) [(.long (0 : Int64))])) _
                refine XT.lstore X0.here hx rfl (hb hby at_540) rfl (l' := (own_L40 x0 x1 x2 x3 q4 p5 v3 f (own_d q4 (0 : Int32)) (own_d q4 (1 : Int32)) (own_d q4 (2 : Int32)) (own_d q4 (3 : Int32)) (own_d q4 (4 : Int32)) (own_d q4 (5 : Int32)) (own_d q4 (6 : Int32)) (own_d q4 (7 : Int32)) (own_d q4 (8 : Int32)) (own_d q4 (9 : Int32)) bb (x0 + (19 : Int64)) (0 : Int64) (0 : Int64) v3)) rfl ?_
                show Steps p.tables e below (T0.setTop (mkF m 542 (own_L40 x0 x1 x2 x3 q4 p5 v3 f (own_d q4 (0 : Int32)) (own_d q4 (1 : Int32)) (own_d q4 (2 : Int32)) (own_d q4 (3 : Int32)) (own_d q4 (4 : Int32)) (own_d q4 (5 : Int32)) (own_d q4 (6 : Int32)) (own_d q4 (7 : Int32)) (own_d q4 (8 : Int32)) (own_d q4 (9 : Int32)) bb (x0 + (19 : Int64)) (0 : Int64) (0 : Int64) v3) [])) _
                refine XT.lconst X0.here hx rfl (hb hby at_542) ?_
                show Steps p.tables e below (T0.setTop (mkF m 543 (own_L40 x0 x1 x2 x3 q4 p5 v3 f (own_d q4 (0 : Int32)) (own_d q4 (1 : Int32)) (own_d q4 (2 : Int32)) (own_d q4 (3 : Int32)) (own_d q4 (4 : Int32)) (own_d q4 (5 : Int32)) (own_d q4 (6 : Int32)) (own_d q4 (7 : Int32)) (own_d q4 (8 : Int32)) (own_d q4 (9 : Int32)) bb (x0 + (19 : Int64)) (0 : Int64) (0 : Int64) v3) [(.long (0 : Int64))])) _
                refine XT.lstore X0.here hx rfl (hb hby at_543) rfl (l' := (own_L40 x0 x1 x2 x3 q4 p5 v3 f (own_d q4 (0 : Int32)) (own_d q4 (1 : Int32)) (own_d q4 (2 : Int32)) (own_d q4 (3 : Int32)) (own_d q4 (4 : Int32)) (own_d q4 (5 : Int32)) (own_d q4 (6 : Int32)) (own_d q4 (7 : Int32)) (own_d q4 (8 : Int32)) (own_d q4 (9 : Int32)) bb (x0 + (19 : Int64)) (0 : Int64) (0 : Int64) (0 : Int64))) rfl ?_
                exact oK
            · try simp only [if_neg hj518_5] at oK
              refine XS.ifYes X0.here hx rfl (pc0 := 518) (pc' := 545) rfl (hb hby at_518) rfl (XT.ll_ge_t hj518_5) (by decide) (by decide) ?_
              exact oK
          · try simp only [if_neg hj512_4] at oK
            refine XS.ifYes X0.here hx rfl (pc0 := 512) (pc' := 545) rfl (hb hby at_512) rfl (XT.ll_ne_t hj512_4) (by decide) (by decide) ?_
            exact oK
        · try simp only [if_neg hj504_3] at oK
          refine XS.ifYes X0.here hx rfl (pc0 := 504) (pc' := 545) rfl (hb hby at_504) rfl (XT.ll_ne_t hj504_3) (by decide) (by decide) ?_
          exact oK
      · try simp only [if_neg hj495_2] at oK
        refine XS.ifYes X0.here hx rfl (pc0 := 495) (pc' := 545) rfl (hb hby at_495) rfl (XT.ll_ne_t hj495_2) (by decide) (by decide) ?_
        exact oK
    exact oK
  exact own_tail_7 x0 x1 x2 x3 q4 p5 v3 f kf gs wB bb kb bs (if v3 = (9223372036854775807 : Int64) then (if x2 = (-1 : Int64) then (if x1 = (-1 : Int64) then (if x0 < (0 : Int64) then (if x0 < (-19 : Int64) then x0 else (x0 + (19 : Int64))) else x0) else x0) else x0) else x0) (if v3 = (9223372036854775807 : Int64) then (if x2 = (-1 : Int64) then (if x1 = (-1 : Int64) then (if x0 < (0 : Int64) then (if x0 < (-19 : Int64) then x1 else (0 : Int64)) else x1) else x1) else x1) else x1) (if v3 = (9223372036854775807 : Int64) then (if x2 = (-1 : Int64) then (if x1 = (-1 : Int64) then (if x0 < (0 : Int64) then (if x0 < (-19 : Int64) then x2 else (0 : Int64)) else x2) else x2) else x2) else x2) (if v3 = (9223372036854775807 : Int64) then (if x2 = (-1 : Int64) then (if x1 = (-1 : Int64) then (if x0 < (0 : Int64) then (if x0 < (-19 : Int64) then v3 else (0 : Int64)) else v3) else v3) else v3) else v3) X0 hx hZ hw hby hml hown hlk hret e0 N0 Z0 (SB) (TB) (hbs) (hlb) (Vb) hq0 hq1 hq2 hq3
theorem pd___J__B : parseMethodDescriptor "([J)[B" = some ⟨[(.array .long)], some (.array .byte)⟩ := by decide +kernel
set_option maxRecDepth 65536 in
set_option maxHeartbeats 40000000 in
theorem own_tail_5 {p : Program} {l : Launch} {e : Env} {s : State} {m : MethodId} {args : Array Value} {below : List Frame} {meth : Method} {c : Code} {T0 : State} {locs : List Loc} {Z : State} {a0 : Array Value} {h1 : Heap} {n0 : Nat} (x0 : Int64) (x1 : Int64) (x2 : Int64) (x3 : Int64) (q4 : Int64) (p5 : Int32) (v3 : Int64) (f : Addr) (kf : ClassId) (gs : List Int64) (wB : Addr)
    (X0 : Stand p l e room_1 s m args below meth c T0 locs 2 14) (hx : p.tables.exec = Jvm.exec) (hZ : Z.Warmed39 s.vm) (hw : ∀ d ∈ tables_1, d.before a0 Z = true) (hby : c.code = code) (hml : c.maxLocals = 43) (hown : s.vm.findClass "com/example/gate_to_gate/gatetogate/io/Field25519EncodePinLaw" = some m.cls) (hlk : meth.locks = false) (hret : meth.sig.returnType = some .boolean) (e0 : T0.heap = h1) (N0 : Fr n0 locs) (Z0 : n0 ≤ h1.size) (hO : Old Z n0 h1) (SB : Sta Z Z.heap "com/example/gate_to_gate/gatetogate/io/Field25519" "BITS" "[I" (.ref wB)) (TB : ∀ j, j < 10 → ORd Z Z.heap wB .int (Int32.ofNat j) (.int (own_bits j))) (gf : n0 ≤ f) (E_f : Exa Z h1 f "[J") (hlg : (own_dm9 gs q4).length = 10) (V_f : Arv Z h1 f kf .long (10 : Int32) ((own_dm9 gs q4).map Value.long) (.long (0 : Int64))) (hq0 : (own_pk (own_bytes (own_fin (own_dm gs q4))) 0) = (if v3 = (9223372036854775807 : Int64) then (if x2 = (-1 : Int64) then (if x1 = (-1 : Int64) then (if x0 < (0 : Int64) then (if x0 < (-19 : Int64) then x0 else (x0 + (19 : Int64))) else x0) else x0) else x0) else x0)) (hq1 : (own_pk (own_bytes (own_fin (own_dm gs q4))) 8) = (if v3 = (9223372036854775807 : Int64) then (if x2 = (-1 : Int64) then (if x1 = (-1 : Int64) then (if x0 < (0 : Int64) then (if x0 < (-19 : Int64) then x1 else (0 : Int64)) else x1) else x1) else x1) else x1)) (hq2 : (own_pk (own_bytes (own_fin (own_dm gs q4))) 16) = (if v3 = (9223372036854775807 : Int64) then (if x2 = (-1 : Int64) then (if x1 = (-1 : Int64) then (if x0 < (0 : Int64) then (if x0 < (-19 : Int64) then x2 else (0 : Int64)) else x2) else x2) else x2) else x2)) (hq3 : (own_pk (own_bytes (own_fin (own_dm gs q4))) 24) = (if v3 = (9223372036854775807 : Int64) then (if x2 = (-1 : Int64) then (if x1 = (-1 : Int64) then (if x0 < (0 : Int64) then (if x0 < (-19 : Int64) then v3 else (0 : Int64)) else v3) else v3) else v3) else v3)) :
    OG p e below s 16 192 (fun v _ L => v = some (.int 1) ∧ Fr n0 L) (T0.setTop (mkF m 453 (own_L35 x0 x1 x2 x3 q4 p5 v3 f (own_d q4 (0 : Int32)) (own_d q4 (1 : Int32)) (own_d q4 (2 : Int32)) (own_d q4 (3 : Int32)) (own_d q4 (4 : Int32)) (own_d q4 (5 : Int32)) (own_d q4 (6 : Int32)) (own_d q4 (7 : Int32)) (own_d q4 (8 : Int32)) (own_d q4 (9 : Int32))) [])) := by
  refine OG.of (A := T0.setTop (mkF m 455 (own_L35 x0 x1 x2 x3 q4 p5 v3 f (own_d q4 (0 : Int32)) (own_d q4 (1 : Int32)) (own_d q4 (2 : Int32)) (own_d q4 (3 : Int32)) (own_d q4 (4 : Int32)) (own_d q4 (5 : Int32)) (own_d q4 (6 : Int32)) (own_d q4 (7 : Int32)) (own_d q4 (8 : Int32)) (own_d q4 (9 : Int32))) [(.ref f)])) (fun oT oK => ?_) ?_
  · skip
    refine XS.aload X0.here hx rfl (hb hby at_453) rfl rfl  ?_
    exact oK
  have f1 : Arv Z h1 f kf .long (10 : Int32) ((own_dm gs q4).map Value.long) (.long (0 : Int64)) := V_f
  have hld : (own_dm gs q4).length = 10 := hlg
  obtain ⟨_, _, ⟨T51, L51, k51, n51⟩, -, X51, ⟨Lc51, hQ51, l51, y51, z51⟩, st51⟩ := Jvm.LawKit.callS X0 hx (y := (⟨"com/example/gate_to_gate/gatetogate/io/Field25519", "encode", "([J)[B"⟩ : MethodName)) hown (mvT hZ (own_at hw 18 rfl)) (mvT hZ (own_at hw 19 rfl)) (mvT hZ (own_at hw 4 rfl)) (mvT hZ (own_at hw 20 rfl)) (by decide) (backOf (W := 0) (rmE l Z a0 hw [] f kf (own_dm gs q4) wB h1 n0 (Z0) hO SB TB E_f hld f1) hZ (own_at hw 20 rfl) (own_at hw 4 rfl) (by decide) (by decide)) (g := (mkF m 455 (own_L35 x0 x1 x2 x3 q4 p5 v3 f (own_d q4 (0 : Int32)) (own_d q4 (1 : Int32)) (own_d q4 (2 : Int32)) (own_d q4 (3 : Int32)) (own_d q4 (4 : Int32)) (own_d q4 (5 : Int32)) (own_d q4 (6 : Int32)) (own_d q4 (7 : Int32)) (own_d q4 (8 : Int32)) (own_d q4 (9 : Int32))) [(.ref f)])) rfl (by rw [hml]; rfl) (argsL := [(.ref f)]) (rest := []) (lenOf pd___J__B rfl) rfl (by show 2 * 0 + _ ≤ _; exact Nat.le_of_eq rfl) (hb hby at_455) (fun _ _ => ⟨rfl, e0, (by decide : 2 + 2 ≤ _), (by decide : 14 + 42 ≤ _)⟩)
  dsimp only [Pt.U, Pt.locs, Pt.cells, Pt.slots] at X51 l51 y51 z51 st51 hQ51
  subst l51 y51 z51
  obtain ⟨bb, kb, rfl, N51q, Kc51, gbb, Vb⟩ := hQ51
  have N51 := Fr.app N0 N51q
  have Z51 : n0 ≤ T51.heap.size := Nat.le_trans (Z0) Kc51.1
  obtain ⟨bs, hbs⟩ : ∃ z, z = own_bytes (own_fin (own_dm gs q4)) := ⟨_, rfl⟩
  rw [← hbs] at Vb
  have hlb : bs.length = 32 := by rw [hbs]; exact own_bytes_len _
  refine OG.of st51 ?_
  show OG _ _ _ _ _ _ _ (T51.setTop (mkF m 458 (own_L35 x0 x1 x2 x3 q4 p5 v3 f (own_d q4 (0 : Int32)) (own_d q4 (1 : Int32)) (own_d q4 (2 : Int32)) (own_d q4 (3 : Int32)) (own_d q4 (4 : Int32)) (own_d q4 (5 : Int32)) (own_d q4 (6 : Int32)) (own_d q4 (7 : Int32)) (own_d q4 (8 : Int32)) (own_d q4 (9 : Int32))) [(.ref bb)]))
  refine OG.of (A := T51.setTop (mkF m 467 (own_L36 x0 x1 x2 x3 q4 p5 v3 f (own_d q4 (0 : Int32)) (own_d q4 (1 : Int32)) (own_d q4 (2 : Int32)) (own_d q4 (3 : Int32)) (own_d q4 (4 : Int32)) (own_d q4 (5 : Int32)) (own_d q4 (6 : Int32)) (own_d q4 (7 : Int32)) (own_d q4 (8 : Int32)) (own_d q4 (9 : Int32)) bb) [(.ref bb)])) (fun oT oK => ?_) ?_
  · skip
    refine XS.astore X51.here hx rfl (hb hby at_458) rfl rfl (l' := (own_L36 x0 x1 x2 x3 q4 p5 v3 f (own_d q4 (0 : Int32)) (own_d q4 (1 : Int32)) (own_d q4 (2 : Int32)) (own_d q4 (3 : Int32)) (own_d q4 (4 : Int32)) (own_d q4 (5 : Int32)) (own_d q4 (6 : Int32)) (own_d q4 (7 : Int32)) (own_d q4 (8 : Int32)) (own_d q4 (9 : Int32)) bb)) rfl ?_
    show Steps p.tables e below (T51.setTop (mkF m 460 (own_L36 x0 x1 x2 x3 q4 p5 v3 f (own_d q4 (0 : Int32)) (own_d q4 (1 : Int32)) (own_d q4 (2 : Int32)) (own_d q4 (3 : Int32)) (own_d q4 (4 : Int32)) (own_d q4 (5 : Int32)) (own_d q4 (6 : Int32)) (own_d q4 (7 : Int32)) (own_d q4 (8 : Int32)) (own_d q4 (9 : Int32)) bb) [])) _
    refine XS.aload X51.here hx rfl (hb hby at_460) rfl rfl  ?_
    show Steps p.tables e below (T51.setTop (mkF m 462 (own_L36 x0 x1 x2 x3 q4 p5 v3 f (own_d q4 (0 : Int32)) (own_d q4 (1 : Int32)) (own_d q4 (2 : Int32)) (own_d q4 (3 : Int32)) (own_d q4 (4 : Int32)) (own_d q4 (5 : Int32)) (own_d q4 (6 : Int32)) (own_d q4 (7 : Int32)) (own_d q4 (8 : Int32)) (own_d q4 (9 : Int32)) bb) [(.ref bb)])) _
    refine XS.ifnullNo X51.here hx rfl (hb hby at_462) rfl ?_
    show Steps p.tables e below (T51.setTop (mkF m 465 (own_L36 x0 x1 x2 x3 q4 p5 v3 f (own_d q4 (0 : Int32)) (own_d q4 (1 : Int32)) (own_d q4 (2 : Int32)) (own_d q4 (3 : Int32)) (own_d q4 (4 : Int32)) (own_d q4 (5 : Int32)) (own_d q4 (6 : Int32)) (own_d q4 (7 : Int32)) (own_d q4 (8 : Int32)) (own_d q4 (9 : Int32)) bb) [])) _
    refine XS.aload X51.here hx rfl (hb hby at_465) rfl rfl  ?_
    exact oK
  have cf2 := Vb
  obtain ⟨clf2, Arf2, qf2, Sf2, Mf2, Hf2, Gf2⟩ := cf2
  refine OG.of (X51.arraylength hx (by exact Arf2.1) (State.isArrayOf_alike hZ.alike Arf2.2.1) (g := (mkF m 467 (own_L36 x0 x1 x2 x3 q4 p5 v3 f (own_d q4 (0 : Int32)) (own_d q4 (1 : Int32)) (own_d q4 (2 : Int32)) (own_d q4 (3 : Int32)) (own_d q4 (4 : Int32)) (own_d q4 (5 : Int32)) (own_d q4 (6 : Int32)) (own_d q4 (7 : Int32)) (own_d q4 (8 : Int32)) (own_d q4 (9 : Int32)) bb) [(.ref bb)])) rfl rfl (hb hby at_467)) ?_
  rw [len_of Sf2 Mf2]
  show OG _ _ _ _ _ _ _ (T51.setTop (mkF m 468 (own_L36 x0 x1 x2 x3 q4 p5 v3 f (own_d q4 (0 : Int32)) (own_d q4 (1 : Int32)) (own_d q4 (2 : Int32)) (own_d q4 (3 : Int32)) (own_d q4 (4 : Int32)) (own_d q4 (5 : Int32)) (own_d q4 (6 : Int32)) (own_d q4 (7 : Int32)) (own_d q4 (8 : Int32)) (own_d q4 (9 : Int32)) bb) [(.int (32 : Int32))]))
  refine OG.of (A := T51.setTop (mkF m 475 (own_L36 x0 x1 x2 x3 q4 p5 v3 f (own_d q4 (0 : Int32)) (own_d q4 (1 : Int32)) (own_d q4 (2 : Int32)) (own_d q4 (3 : Int32)) (own_d q4 (4 : Int32)) (own_d q4 (5 : Int32)) (own_d q4 (6 : Int32)) (own_d q4 (7 : Int32)) (own_d q4 (8 : Int32)) (own_d q4 (9 : Int32)) bb) [])) (fun oT oK => ?_) ?_
  · skip
    refine XS.bipush X51.here hx rfl (hb hby at_468) ?_
    show Steps p.tables e below (T51.setTop (mkF m 470 (own_L36 x0 x1 x2 x3 q4 p5 v3 f (own_d q4 (0 : Int32)) (own_d q4 (1 : Int32)) (own_d q4 (2 : Int32)) (own_d q4 (3 : Int32)) (own_d q4 (4 : Int32)) (own_d q4 (5 : Int32)) (own_d q4 (6 : Int32)) (own_d q4 (7 : Int32)) (own_d q4 (8 : Int32)) (own_d q4 (9 : Int32)) bb) [(.int (32 : Int32)), (.int (32 : Int32))])) _
    refine XS.icmpYes X51.here hx rfl (pc0 := 470) (pc' := 475) rfl (hb hby at_470) rfl (XT.ii_eq_t rfl) (by decide) (by decide) ?_
    exact oK
  exact own_tail_6 x0 x1 x2 x3 q4 p5 v3 f kf gs wB bb kb bs X51 hx hZ hw hby hml hown hlk hret rfl N51 Z51 (SB) (TB) (hbs) (hlb) (Vb) hq0 hq1 hq2 hq3
set_option maxRecDepth 65536 in
set_option maxHeartbeats 40000000 in
theorem own_tail_4 {p : Program} {l : Launch} {e : Env} {s : State} {m : MethodId} {args : Array Value} {below : List Frame} {meth : Method} {c : Code} {T0 : State} {locs : List Loc} {Z : State} {a0 : Array Value} {h1 : Heap} {n0 : Nat} (x0 : Int64) (x1 : Int64) (x2 : Int64) (x3 : Int64) (q4 : Int64) (p5 : Int32) (v3 : Int64) (f : Addr) (kf : ClassId) (gs : List Int64) (wB : Addr)
    (X0 : Stand p l e room_1 s m args below meth c T0 locs 2 14) (hx : p.tables.exec = Jvm.exec) (hZ : Z.Warmed39 s.vm) (hw : ∀ d ∈ tables_1, d.before a0 Z = true) (hby : c.code = code) (hml : c.maxLocals = 43) (hown : s.vm.findClass "com/example/gate_to_gate/gatetogate/io/Field25519EncodePinLaw" = some m.cls) (hlk : meth.locks = false) (hret : meth.sig.returnType = some .boolean) (e0 : T0.heap = h1) (N0 : Fr n0 locs) (Z0 : n0 ≤ h1.size) (hO : Old Z n0 h1) (SB : Sta Z Z.heap "com/example/gate_to_gate/gatetogate/io/Field25519" "BITS" "[I" (.ref wB)) (TB : ∀ j, j < 10 → ORd Z Z.heap wB .int (Int32.ofNat j) (.int (own_bits j))) (gf : n0 ≤ f) (E_f : Exa Z h1 f "[J") (hlg : (own_dm7 gs q4).length = 10) (V_f : Arv Z h1 f kf .long (10 : Int32) ((own_dm7 gs q4).map Value.long) (.long (0 : Int64))) (hq0 : (own_pk (own_bytes (own_fin (own_dm gs q4))) 0) = (if v3 = (9223372036854775807 : Int64) then (if x2 = (-1 : Int64) then (if x1 = (-1 : Int64) then (if x0 < (0 : Int64) then (if x0 < (-19 : Int64) then x0 else (x0 + (19 : Int64))) else x0) else x0) else x0) else x0)) (hq1 : (own_pk (own_bytes (own_fin (own_dm gs q4))) 8) = (if v3 = (9223372036854775807 : Int64) then (if x2 = (-1 : Int64) then (if x1 = (-1 : Int64) then (if x0 < (0 : Int64) then (if x0 < (-19 : Int64) then x1 else (0 : Int64)) else x1) else x1) else x1) else x1)) (hq2 : (own_pk (own_bytes (own_fin (own_dm gs q4))) 16) = (if v3 = (9223372036854775807 : Int64) then (if x2 = (-1 : Int64) then (if x1 = (-1 : Int64) then (if x0 < (0 : Int64) then (if x0 < (-19 : Int64) then x2 else (0 : Int64)) else x2) else x2) else x2) else x2)) (hq3 : (own_pk (own_bytes (own_fin (own_dm gs q4))) 24) = (if v3 = (9223372036854775807 : Int64) then (if x2 = (-1 : Int64) then (if x1 = (-1 : Int64) then (if x0 < (0 : Int64) then (if x0 < (-19 : Int64) then v3 else (0 : Int64)) else v3) else v3) else v3) else v3)) :
    OG p e below s 16 192 (fun v _ L => v = some (.int 1) ∧ Fr n0 L) (T0.setTop (mkF m 413 (own_L35 x0 x1 x2 x3 q4 p5 v3 f (own_d q4 (0 : Int32)) (own_d q4 (1 : Int32)) (own_d q4 (2 : Int32)) (own_d q4 (3 : Int32)) (own_d q4 (4 : Int32)) (own_d q4 (5 : Int32)) (own_d q4 (6 : Int32)) (own_d q4 (7 : Int32)) (own_d q4 (8 : Int32)) (own_d q4 (9 : Int32))) [])) := by
  refine OG.of (A := T0.setTop (mkF m 421 (own_L35 x0 x1 x2 x3 q4 p5 v3 f (own_d q4 (0 : Int32)) (own_d q4 (1 : Int32)) (own_d q4 (2 : Int32)) (own_d q4 (3 : Int32)) (own_d q4 (4 : Int32)) (own_d q4 (5 : Int32)) (own_d q4 (6 : Int32)) (own_d q4 (7 : Int32)) (own_d q4 (8 : Int32)) (own_d q4 (9 : Int32))) [(.int (8 : Int32)), (.ref f), (.int (8 : Int32)), (.ref f)])) (fun oT oK => ?_) ?_
  · skip
    refine XS.aload X0.here hx rfl (hb hby at_413) rfl rfl  ?_
    show Steps p.tables e below (T0.setTop (mkF m 415 (own_L35 x0 x1 x2 x3 q4 p5 v3 f (own_d q4 (0 : Int32)) (own_d q4 (1 : Int32)) (own_d q4 (2 : Int32)) (own_d q4 (3 : Int32)) (own_d q4 (4 : Int32)) (own_d q4 (5 : Int32)) (own_d q4 (6 : Int32)) (own_d q4 (7 : Int32)) (own_d q4 (8 : Int32)) (own_d q4 (9 : Int32))) [(.ref f)])) _
    refine XS.bipush X0.here hx rfl (hb hby at_415) ?_
    refine XS.aload X0.here hx rfl (hb hby at_417) rfl rfl  ?_
    show Steps p.tables e below (T0.setTop (mkF m 419 (own_L35 x0 x1 x2 x3 q4 p5 v3 f (own_d q4 (0 : Int32)) (own_d q4 (1 : Int32)) (own_d q4 (2 : Int32)) (own_d q4 (3 : Int32)) (own_d q4 (4 : Int32)) (own_d q4 (5 : Int32)) (own_d q4 (6 : Int32)) (own_d q4 (7 : Int32)) (own_d q4 (8 : Int32)) (own_d q4 (9 : Int32))) [(.ref f), (.int (8 : Int32)), (.ref f)])) _
    refine XS.bipush X0.here hx rfl (hb hby at_419) ?_
    exact oK
  obtain ⟨clf1, Arf1, If1, Hf1⟩ := own_rdL V_f hlg (j := (8 : Int32)) (i := 8) rfl (by decide)
  refine OG.of (X0.laload hx (j := (8 : Int32)) (v := (.long ((own_dm7 gs q4).getD 8 0))) (by rw [e0]; exact Arf1.1) (State.isArrayOf_alike hZ.alike Arf1.2.1) Arf1.2.2 If1 Hf1 (g := (mkF m 421 (own_L35 x0 x1 x2 x3 q4 p5 v3 f (own_d q4 (0 : Int32)) (own_d q4 (1 : Int32)) (own_d q4 (2 : Int32)) (own_d q4 (3 : Int32)) (own_d q4 (4 : Int32)) (own_d q4 (5 : Int32)) (own_d q4 (6 : Int32)) (own_d q4 (7 : Int32)) (own_d q4 (8 : Int32)) (own_d q4 (9 : Int32))) [(.int (8 : Int32)), (.ref f), (.int (8 : Int32)), (.ref f)])) rfl rfl (hb hby at_421)) ?_
  show OG _ _ _ _ _ _ _ (T0.setTop (mkF m 422 (own_L35 x0 x1 x2 x3 q4 p5 v3 f (own_d q4 (0 : Int32)) (own_d q4 (1 : Int32)) (own_d q4 (2 : Int32)) (own_d q4 (3 : Int32)) (own_d q4 (4 : Int32)) (own_d q4 (5 : Int32)) (own_d q4 (6 : Int32)) (own_d q4 (7 : Int32)) (own_d q4 (8 : Int32)) (own_d q4 (9 : Int32))) [(.long ((own_dm7 gs q4).getD 8 0)), (.int (8 : Int32)), (.ref f)]))
  refine OG.of (A := T0.setTop (mkF m 432 (own_L35 x0 x1 x2 x3 q4 p5 v3 f (own_d q4 (0 : Int32)) (own_d q4 (1 : Int32)) (own_d q4 (2 : Int32)) (own_d q4 (3 : Int32)) (own_d q4 (4 : Int32)) (own_d q4 (5 : Int32)) (own_d q4 (6 : Int32)) (own_d q4 (7 : Int32)) (own_d q4 (8 : Int32)) (own_d q4 (9 : Int32))) [(.long ((((own_dm7 gs q4).getD 8 0) - ((own_d q4 (8 : Int32)) * (67108864 : Int64))) + (own_d q4 (7 : Int32)))), (.int (8 : Int32)), (.ref f)])) (fun oT oK => ?_) ?_
  · skip
    refine XT.lload X0.here hx rfl (hb hby at_422) rfl  ?_
    show Steps p.tables e below (T0.setTop (mkF m 424 (own_L35 x0 x1 x2 x3 q4 p5 v3 f (own_d q4 (0 : Int32)) (own_d q4 (1 : Int32)) (own_d q4 (2 : Int32)) (own_d q4 (3 : Int32)) (own_d q4 (4 : Int32)) (own_d q4 (5 : Int32)) (own_d q4 (6 : Int32)) (own_d q4 (7 : Int32)) (own_d q4 (8 : Int32)) (own_d q4 (9 : Int32))) [(.long (own_d q4 (8 : Int32))), (.long ((own_dm7 gs q4).getD 8 0)), (.int (8 : Int32)), (.ref f)])) _
    refine X0.ldc2Long hx hown (mvT hZ (own_at hw 15 rfl)) (g := (mkF m 424 (own_L35 x0 x1 x2 x3 q4 p5 v3 f (own_d q4 (0 : Int32)) (own_d q4 (1 : Int32)) (own_d q4 (2 : Int32)) (own_d q4 (3 : Int32)) (own_d q4 (4 : Int32)) (own_d q4 (5 : Int32)) (own_d q4 (6 : Int32)) (own_d q4 (7 : Int32)) (own_d q4 (8 : Int32)) (own_d q4 (9 : Int32))) [(.long (own_d q4 (8 : Int32))), (.long ((own_dm7 gs q4).getD 8 0)), (.int (8 : Int32)), (.ref f)])) rfl (hb hby at_424) _ ?_
    refine XT.lmul X0.here hx rfl (hb hby at_427) rfl ?_
    show Steps p.tables e below (T0.setTop (mkF m 428 (own_L35 x0 x1 x2 x3 q4 p5 v3 f (own_d q4 (0 : Int32)) (own_d q4 (1 : Int32)) (own_d q4 (2 : Int32)) (own_d q4 (3 : Int32)) (own_d q4 (4 : Int32)) (own_d q4 (5 : Int32)) (own_d q4 (6 : Int32)) (own_d q4 (7 : Int32)) (own_d q4 (8 : Int32)) (own_d q4 (9 : Int32))) [(.long ((own_d q4 (8 : Int32)) * (67108864 : Int64))), (.long ((own_dm7 gs q4).getD 8 0)), (.int (8 : Int32)), (.ref f)])) _
    refine XT.lsub X0.here hx rfl (hb hby at_428) rfl ?_
    refine XT.lload X0.here hx rfl (hb hby at_429) rfl  ?_
    show Steps p.tables e below (T0.setTop (mkF m 431 (own_L35 x0 x1 x2 x3 q4 p5 v3 f (own_d q4 (0 : Int32)) (own_d q4 (1 : Int32)) (own_d q4 (2 : Int32)) (own_d q4 (3 : Int32)) (own_d q4 (4 : Int32)) (own_d q4 (5 : Int32)) (own_d q4 (6 : Int32)) (own_d q4 (7 : Int32)) (own_d q4 (8 : Int32)) (own_d q4 (9 : Int32))) [(.long (own_d q4 (7 : Int32))), (.long (((own_dm7 gs q4).getD 8 0) - ((own_d q4 (8 : Int32)) * (67108864 : Int64)))), (.int (8 : Int32)), (.ref f)])) _
    refine XT.ladd X0.here hx rfl (hb hby at_431) rfl ?_
    exact oK
  obtain ⟨T51, h51, X51, e51, W51, V51, st51⟩ := own_stJ X0 hx hZ e0 V_f hlg (j := (8 : Int32)) (i := 8) rfl (by decide) (g := (mkF m 432 (own_L35 x0 x1 x2 x3 q4 p5 v3 f (own_d q4 (0 : Int32)) (own_d q4 (1 : Int32)) (own_d q4 (2 : Int32)) (own_d q4 (3 : Int32)) (own_d q4 (4 : Int32)) (own_d q4 (5 : Int32)) (own_d q4 (6 : Int32)) (own_d q4 (7 : Int32)) (own_d q4 (8 : Int32)) (own_d q4 (9 : Int32))) [(.long ((((own_dm7 gs q4).getD 8 0) - ((own_d q4 (8 : Int32)) * (67108864 : Int64))) + (own_d q4 (7 : Int32)))), (.int (8 : Int32)), (.ref f)])) rfl rfl (hb hby at_432)
  have f2 := (E_f).wr W51
  have f4 := (hO).wr W51 gf
  have K51 : Keep h1 h51 [f] := ((Keep.refl h1 [f])).wr W51 (Or.inl (by simp))
  have Z51 : n0 ≤ h51.size := Nat.le_trans Z0 (Keep.of_wr W51).1
  have N51 := Fr.snoc X51 N0 gf
  refine OG.of st51 ?_
  show OG _ _ _ _ _ _ _ (T51.setTop (mkF m 433 (own_L35 x0 x1 x2 x3 q4 p5 v3 f (own_d q4 (0 : Int32)) (own_d q4 (1 : Int32)) (own_d q4 (2 : Int32)) (own_d q4 (3 : Int32)) (own_d q4 (4 : Int32)) (own_d q4 (5 : Int32)) (own_d q4 (6 : Int32)) (own_d q4 (7 : Int32)) (own_d q4 (8 : Int32)) (own_d q4 (9 : Int32))) []))
  have f5 : Arv Z h51 f kf .long (10 : Int32) ((own_dm8 gs q4).map Value.long) (.long (0 : Int64)) := V51
  have f6 : (own_dm8 gs q4).length = 10 := ((List.length_set ..).trans hlg)
  refine OG.of (A := T51.setTop (mkF m 441 (own_L35 x0 x1 x2 x3 q4 p5 v3 f (own_d q4 (0 : Int32)) (own_d q4 (1 : Int32)) (own_d q4 (2 : Int32)) (own_d q4 (3 : Int32)) (own_d q4 (4 : Int32)) (own_d q4 (5 : Int32)) (own_d q4 (6 : Int32)) (own_d q4 (7 : Int32)) (own_d q4 (8 : Int32)) (own_d q4 (9 : Int32))) [(.int (9 : Int32)), (.ref f), (.int (9 : Int32)), (.ref f)])) (fun oT oK => ?_) ?_
  · skip
    refine XS.aload X51.here hx rfl (hb hby at_433) rfl rfl  ?_
    show Steps p.tables e below (T51.setTop (mkF m 435 (own_L35 x0 x1 x2 x3 q4 p5 v3 f (own_d q4 (0 : Int32)) (own_d q4 (1 : Int32)) (own_d q4 (2 : Int32)) (own_d q4 (3 : Int32)) (own_d q4 (4 : Int32)) (own_d q4 (5 : Int32)) (own_d q4 (6 : Int32)) (own_d q4 (7 : Int32)) (own_d q4 (8 : Int32)) (own_d q4 (9 : Int32))) [(.ref f)])) _
    refine XS.bipush X51.here hx rfl (hb hby at_435) ?_
    refine XS.aload X51.here hx rfl (hb hby at_437) rfl rfl  ?_
    show Steps p.tables e below (T51.setTop (mkF m 439 (own_L35 x0 x1 x2 x3 q4 p5 v3 f (own_d q4 (0 : Int32)) (own_d q4 (1 : Int32)) (own_d q4 (2 : Int32)) (own_d q4 (3 : Int32)) (own_d q4 (4 : Int32)) (own_d q4 (5 : Int32)) (own_d q4 (6 : Int32)) (own_d q4 (7 : Int32)) (own_d q4 (8 : Int32)) (own_d q4 (9 : Int32))) [(.ref f), (.int (9 : Int32)), (.ref f)])) _
    refine XS.bipush X51.here hx rfl (hb hby at_439) ?_
    exact oK
  obtain ⟨clf7, Arf7, If7, Hf7⟩ := own_rdL f5 f6 (j := (9 : Int32)) (i := 9) rfl (by decide)
  refine OG.of (X51.laload hx (j := (9 : Int32)) (v := (.long ((own_dm8 gs q4).getD 9 0))) (by rw [e51]; exact Arf7.1) (State.isArrayOf_alike hZ.alike Arf7.2.1) Arf7.2.2 If7 Hf7 (g := (mkF m 441 (own_L35 x0 x1 x2 x3 q4 p5 v3 f (own_d q4 (0 : Int32)) (own_d q4 (1 : Int32)) (own_d q4 (2 : Int32)) (own_d q4 (3 : Int32)) (own_d q4 (4 : Int32)) (own_d q4 (5 : Int32)) (own_d q4 (6 : Int32)) (own_d q4 (7 : Int32)) (own_d q4 (8 : Int32)) (own_d q4 (9 : Int32))) [(.int (9 : Int32)), (.ref f), (.int (9 : Int32)), (.ref f)])) rfl rfl (hb hby at_441)) ?_
  show OG _ _ _ _ _ _ _ (T51.setTop (mkF m 442 (own_L35 x0 x1 x2 x3 q4 p5 v3 f (own_d q4 (0 : Int32)) (own_d q4 (1 : Int32)) (own_d q4 (2 : Int32)) (own_d q4 (3 : Int32)) (own_d q4 (4 : Int32)) (own_d q4 (5 : Int32)) (own_d q4 (6 : Int32)) (own_d q4 (7 : Int32)) (own_d q4 (8 : Int32)) (own_d q4 (9 : Int32))) [(.long ((own_dm8 gs q4).getD 9 0)), (.int (9 : Int32)), (.ref f)]))
  refine OG.of (A := T51.setTop (mkF m 452 (own_L35 x0 x1 x2 x3 q4 p5 v3 f (own_d q4 (0 : Int32)) (own_d q4 (1 : Int32)) (own_d q4 (2 : Int32)) (own_d q4 (3 : Int32)) (own_d q4 (4 : Int32)) (own_d q4 (5 : Int32)) (own_d q4 (6 : Int32)) (own_d q4 (7 : Int32)) (own_d q4 (8 : Int32)) (own_d q4 (9 : Int32))) [(.long ((((own_dm8 gs q4).getD 9 0) - ((own_d q4 (9 : Int32)) * (33554432 : Int64))) + (own_d q4 (8 : Int32)))), (.int (9 : Int32)), (.ref f)])) (fun oT oK => ?_) ?_
  · skip
    refine XT.lload X51.here hx rfl (hb hby at_442) rfl  ?_
    show Steps p.tables e below (T51.setTop (mkF m 444 (own_L35 x0 x1 x2 x3 q4 p5 v3 f (own_d q4 (0 : Int32)) (own_d q4 (1 : Int32)) (own_d q4 (2 : Int32)) (own_d q4 (3 : Int32)) (own_d q4 (4 : Int32)) (own_d q4 (5 : Int32)) (own_d q4 (6 : Int32)) (own_d q4 (7 : Int32)) (own_d q4 (8 : Int32)) (own_d q4 (9 : Int32))) [(.long (own_d q4 (9 : Int32))), (.long ((own_dm8 gs q4).getD 9 0)), (.int (9 : Int32)), (.ref f)])) _
    refine X51.ldc2Long hx hown (mvT hZ (own_at hw 17 rfl)) (g := (mkF m 444 (own_L35 x0 x1 x2 x3 q4 p5 v3 f (own_d q4 (0 : Int32)) (own_d q4 (1 : Int32)) (own_d q4 (2 : Int32)) (own_d q4 (3 : Int32)) (own_d q4 (4 : Int32)) (own_d q4 (5 : Int32)) (own_d q4 (6 : Int32)) (own_d q4 (7 : Int32)) (own_d q4 (8 : Int32)) (own_d q4 (9 : Int32))) [(.long (own_d q4 (9 : Int32))), (.long ((own_dm8 gs q4).getD 9 0)), (.int (9 : Int32)), (.ref f)])) rfl (hb hby at_444) _ ?_
    refine XT.lmul X51.here hx rfl (hb hby at_447) rfl ?_
    show Steps p.tables e below (T51.setTop (mkF m 448 (own_L35 x0 x1 x2 x3 q4 p5 v3 f (own_d q4 (0 : Int32)) (own_d q4 (1 : Int32)) (own_d q4 (2 : Int32)) (own_d q4 (3 : Int32)) (own_d q4 (4 : Int32)) (own_d q4 (5 : Int32)) (own_d q4 (6 : Int32)) (own_d q4 (7 : Int32)) (own_d q4 (8 : Int32)) (own_d q4 (9 : Int32))) [(.long ((own_d q4 (9 : Int32)) * (33554432 : Int64))), (.long ((own_dm8 gs q4).getD 9 0)), (.int (9 : Int32)), (.ref f)])) _
    refine XT.lsub X51.here hx rfl (hb hby at_448) rfl ?_
    refine XT.lload X51.here hx rfl (hb hby at_449) rfl  ?_
    show Steps p.tables e below (T51.setTop (mkF m 451 (own_L35 x0 x1 x2 x3 q4 p5 v3 f (own_d q4 (0 : Int32)) (own_d q4 (1 : Int32)) (own_d q4 (2 : Int32)) (own_d q4 (3 : Int32)) (own_d q4 (4 : Int32)) (own_d q4 (5 : Int32)) (own_d q4 (6 : Int32)) (own_d q4 (7 : Int32)) (own_d q4 (8 : Int32)) (own_d q4 (9 : Int32))) [(.long (own_d q4 (8 : Int32))), (.long (((own_dm8 gs q4).getD 9 0) - ((own_d q4 (9 : Int32)) * (33554432 : Int64)))), (.int (9 : Int32)), (.ref f)])) _
    refine XT.ladd X51.here hx rfl (hb hby at_451) rfl ?_
    exact oK
  obtain ⟨T52, h52, X52, e52, W52, V52, st52⟩ := own_stJ X51 hx hZ e51 f5 f6 (j := (9 : Int32)) (i := 9) rfl (by decide) (g := (mkF m 452 (own_L35 x0 x1 x2 x3 q4 p5 v3 f (own_d q4 (0 : Int32)) (own_d q4 (1 : Int32)) (own_d q4 (2 : Int32)) (own_d q4 (3 : Int32)) (own_d q4 (4 : Int32)) (own_d q4 (5 : Int32)) (own_d q4 (6 : Int32)) (own_d q4 (7 : Int32)) (own_d q4 (8 : Int32)) (own_d q4 (9 : Int32))) [(.long ((((own_dm8 gs q4).getD 9 0) - ((own_d q4 (9 : Int32)) * (33554432 : Int64))) + (own_d q4 (8 : Int32)))), (.int (9 : Int32)), (.ref f)])) rfl rfl (hb hby at_452)
  have f8 := (f2).wr W52
  have f10 := (f4).wr W52 gf
  have K52 : Keep h1 h52 [f] := (K51).wr W52 (Or.inl (by simp))
  have Z52 : n0 ≤ h52.size := Nat.le_trans Z51 (Keep.of_wr W52).1
  have N52 := Fr.snoc X52 N51 gf
  refine OG.of st52 ?_
  show OG _ _ _ _ _ _ _ (T52.setTop (mkF m 453 (own_L35 x0 x1 x2 x3 q4 p5 v3 f (own_d q4 (0 : Int32)) (own_d q4 (1 : Int32)) (own_d q4 (2 : Int32)) (own_d q4 (3 : Int32)) (own_d q4 (4 : Int32)) (own_d q4 (5 : Int32)) (own_d q4 (6 : Int32)) (own_d q4 (7 : Int32)) (own_d q4 (8 : Int32)) (own_d q4 (9 : Int32))) []))
  have f11 : Arv Z h52 f kf .long (10 : Int32) ((own_dm9 gs q4).map Value.long) (.long (0 : Int64)) := V52
  have f12 : (own_dm9 gs q4).length = 10 := ((List.length_set ..).trans f6)
  exact own_tail_5 x0 x1 x2 x3 q4 p5 v3 f kf gs wB X52 hx hZ hw hby hml hown hlk hret e52 N52 Z52 (f10) (SB) (TB) (gf) (f8) (f12) (f11) hq0 hq1 hq2 hq3
set_option maxRecDepth 65536 in
set_option maxHeartbeats 40000000 in
theorem own_tail_3 {p : Program} {l : Launch} {e : Env} {s : State} {m : MethodId} {args : Array Value} {below : List Frame} {meth : Method} {c : Code} {T0 : State} {locs : List Loc} {Z : State} {a0 : Array Value} {h1 : Heap} {n0 : Nat} (x0 : Int64) (x1 : Int64) (x2 : Int64) (x3 : Int64) (q4 : Int64) (p5 : Int32) (v3 : Int64) (f : Addr) (kf : ClassId) (gs : List Int64) (wB : Addr)
    (X0 : Stand p l e room_1 s m args below meth c T0 locs 2 14) (hx : p.tables.exec = Jvm.exec) (hZ : Z.Warmed39 s.vm) (hw : ∀ d ∈ tables_1, d.before a0 Z = true) (hby : c.code = code) (hml : c.maxLocals = 43) (hown : s.vm.findClass "com/example/gate_to_gate/gatetogate/io/Field25519EncodePinLaw" = some m.cls) (hlk : meth.locks = false) (hret : meth.sig.returnType = some .boolean) (e0 : T0.heap = h1) (N0 : Fr n0 locs) (Z0 : n0 ≤ h1.size) (hO : Old Z n0 h1) (SB : Sta Z Z.heap "com/example/gate_to_gate/gatetogate/io/Field25519" "BITS" "[I" (.ref wB)) (TB : ∀ j, j < 10 → ORd Z Z.heap wB .int (Int32.ofNat j) (.int (own_bits j))) (gf : n0 ≤ f) (E_f : Exa Z h1 f "[J") (hlg : (own_dm5 gs q4).length = 10) (V_f : Arv Z h1 f kf .long (10 : Int32) ((own_dm5 gs q4).map Value.long) (.long (0 : Int64))) (hq0 : (own_pk (own_bytes (own_fin (own_dm gs q4))) 0) = (if v3 = (9223372036854775807 : Int64) then (if x2 = (-1 : Int64) then (if x1 = (-1 : Int64) then (if x0 < (0 : Int64) then (if x0 < (-19 : Int64) then x0 else (x0 + (19 : Int64))) else x0) else x0) else x0) else x0)) (hq1 : (own_pk (own_bytes (own_fin (own_dm gs q4))) 8) = (if v3 = (9223372036854775807 : Int64) then (if x2 = (-1 : Int64) then (if x1 = (-1 : Int64) then (if x0 < (0 : Int64) then (if x0 < (-19 : Int64) then x1 else (0 : Int64)) else x1) else x1) else x1) else x1)) (hq2 : (own_pk (own_bytes (own_fin (own_dm gs q4))) 16) = (if v3 = (9223372036854775807 : Int64) then (if x2 = (-1 : Int64) then (if x1 = (-1 : Int64) then (if x0 < (0 : Int64) then (if x0 < (-19 : Int64) then x2 else (0 : Int64)) else x2) else x2) else x2) else x2)) (hq3 : (own_pk (own_bytes (own_fin (own_dm gs q4))) 24) = (if v3 = (9223372036854775807 : Int64) then (if x2 = (-1 : Int64) then (if x1 = (-1 : Int64) then (if x0 < (0 : Int64) then (if x0 < (-19 : Int64) then v3 else (0 : Int64)) else v3) else v3) else v3) else v3)) :
    OG p e below s 16 192 (fun v _ L => v = some (.int 1) ∧ Fr n0 L) (T0.setTop (mkF m 373 (own_L35 x0 x1 x2 x3 q4 p5 v3 f (own_d q4 (0 : Int32)) (own_d q4 (1 : Int32)) (own_d q4 (2 : Int32)) (own_d q4 (3 : Int32)) (own_d q4 (4 : Int32)) (own_d q4 (5 : Int32)) (own_d q4 (6 : Int32)) (own_d q4 (7 : Int32)) (own_d q4 (8 : Int32)) (own_d q4 (9 : Int32))) [])) := by
  refine OG.of (A := T0.setTop (mkF m 381 (own_L35 x0 x1 x2 x3 q4 p5 v3 f (own_d q4 (0 : Int32)) (own_d q4 (1 : Int32)) (own_d q4 (2 : Int32)) (own_d q4 (3 : Int32)) (own_d q4 (4 : Int32)) (own_d q4 (5 : Int32)) (own_d q4 (6 : Int32)) (own_d q4 (7 : Int32)) (own_d q4 (8 : Int32)) (own_d q4 (9 : Int32))) [(.int (6 : Int32)), (.ref f), (.int (6 : Int32)), (.ref f)])) (fun oT oK => ?_) ?_
  · skip
    refine XS.aload X0.here hx rfl (hb hby at_373) rfl rfl  ?_
    show Steps p.tables e below (T0.setTop (mkF m 375 (own_L35 x0 x1 x2 x3 q4 p5 v3 f (own_d q4 (0 : Int32)) (own_d q4 (1 : Int32)) (own_d q4 (2 : Int32)) (own_d q4 (3 : Int32)) (own_d q4 (4 : Int32)) (own_d q4 (5 : Int32)) (own_d q4 (6 : Int32)) (own_d q4 (7 : Int32)) (own_d q4 (8 : Int32)) (own_d q4 (9 : Int32))) [(.ref f)])) _
    refine XS.bipush X0.here hx rfl (hb hby at_375) ?_
    refine XS.aload X0.here hx rfl (hb hby at_377) rfl rfl  ?_
    show Steps p.tables e below (T0.setTop (mkF m 379 (own_L35 x0 x1 x2 x3 q4 p5 v3 f (own_d q4 (0 : Int32)) (own_d q4 (1 : Int32)) (own_d q4 (2 : Int32)) (own_d q4 (3 : Int32)) (own_d q4 (4 : Int32)) (own_d q4 (5 : Int32)) (own_d q4 (6 : Int32)) (own_d q4 (7 : Int32)) (own_d q4 (8 : Int32)) (own_d q4 (9 : Int32))) [(.ref f), (.int (6 : Int32)), (.ref f)])) _
    refine XS.bipush X0.here hx rfl (hb hby at_379) ?_
    exact oK
  obtain ⟨clf1, Arf1, If1, Hf1⟩ := own_rdL V_f hlg (j := (6 : Int32)) (i := 6) rfl (by decide)
  refine OG.of (X0.laload hx (j := (6 : Int32)) (v := (.long ((own_dm5 gs q4).getD 6 0))) (by rw [e0]; exact Arf1.1) (State.isArrayOf_alike hZ.alike Arf1.2.1) Arf1.2.2 If1 Hf1 (g := (mkF m 381 (own_L35 x0 x1 x2 x3 q4 p5 v3 f (own_d q4 (0 : Int32)) (own_d q4 (1 : Int32)) (own_d q4 (2 : Int32)) (own_d q4 (3 : Int32)) (own_d q4 (4 : Int32)) (own_d q4 (5 : Int32)) (own_d q4 (6 : Int32)) (own_d q4 (7 : Int32)) (own_d q4 (8 : Int32)) (own_d q4 (9 : Int32))) [(.int (6 : Int32)), (.ref f), (.int (6 : Int32)), (.ref f)])) rfl rfl (hb hby at_381)) ?_
  show OG _ _ _ _ _ _ _ (T0.setTop (mkF m 382 (own_L35 x0 x1 x2 x3 q4 p5 v3 f (own_d q4 (0 : Int32)) (own_d q4 (1 : Int32)) (own_d q4 (2 : Int32)) (own_d q4 (3 : Int32)) (own_d q4 (4 : Int32)) (own_d q4 (5 : Int32)) (own_d q4 (6 : Int32)) (own_d q4 (7 : Int32)) (own_d q4 (8 : Int32)) (own_d q4 (9 : Int32))) [(.long ((own_dm5 gs q4).getD 6 0)), (.int (6 : Int32)), (.ref f)]))
  refine OG.of (A := T0.setTop (mkF m 392 (own_L35 x0 x1 x2 x3 q4 p5 v3 f (own_d q4 (0 : Int32)) (own_d q4 (1 : Int32)) (own_d q4 (2 : Int32)) (own_d q4 (3 : Int32)) (own_d q4 (4 : Int32)) (own_d q4 (5 : Int32)) (own_d q4 (6 : Int32)) (own_d q4 (7 : Int32)) (own_d q4 (8 : Int32)) (own_d q4 (9 : Int32))) [(.long ((((own_dm5 gs q4).getD 6 0) - ((own_d q4 (6 : Int32)) * (67108864 : Int64))) + (own_d q4 (5 : Int32)))), (.int (6 : Int32)), (.ref f)])) (fun oT oK => ?_) ?_
  · skip
    refine XT.lload X0.here hx rfl (hb hby at_382) rfl  ?_
    show Steps p.tables e below (T0.setTop (mkF m 384 (own_L35 x0 x1 x2 x3 q4 p5 v3 f (own_d q4 (0 : Int32)) (own_d q4 (1 : Int32)) (own_d q4 (2 : Int32)) (own_d q4 (3 : Int32)) (own_d q4 (4 : Int32)) (own_d q4 (5 : Int32)) (own_d q4 (6 : Int32)) (own_d q4 (7 : Int32)) (own_d q4 (8 : Int32)) (own_d q4 (9 : Int32))) [(.long (own_d q4 (6 : Int32))), (.long ((own_dm5 gs q4).getD 6 0)), (.int (6 : Int32)), (.ref f)])) _
    refine X0.ldc2Long hx hown (mvT hZ (own_at hw 15 rfl)) (g := (mkF m 384 (own_L35 x0 x1 x2 x3 q4 p5 v3 f (own_d q4 (0 : Int32)) (own_d q4 (1 : Int32)) (own_d q4 (2 : Int32)) (own_d q4 (3 : Int32)) (own_d q4 (4 : Int32)) (own_d q4 (5 : Int32)) (own_d q4 (6 : Int32)) (own_d q4 (7 : Int32)) (own_d q4 (8 : Int32)) (own_d q4 (9 : Int32))) [(.long (own_d q4 (6 : Int32))), (.long ((own_dm5 gs q4).getD 6 0)), (.int (6 : Int32)), (.ref f)])) rfl (hb hby at_384) _ ?_
    refine XT.lmul X0.here hx rfl (hb hby at_387) rfl ?_
    show Steps p.tables e below (T0.setTop (mkF m 388 (own_L35 x0 x1 x2 x3 q4 p5 v3 f (own_d q4 (0 : Int32)) (own_d q4 (1 : Int32)) (own_d q4 (2 : Int32)) (own_d q4 (3 : Int32)) (own_d q4 (4 : Int32)) (own_d q4 (5 : Int32)) (own_d q4 (6 : Int32)) (own_d q4 (7 : Int32)) (own_d q4 (8 : Int32)) (own_d q4 (9 : Int32))) [(.long ((own_d q4 (6 : Int32)) * (67108864 : Int64))), (.long ((own_dm5 gs q4).getD 6 0)), (.int (6 : Int32)), (.ref f)])) _
    refine XT.lsub X0.here hx rfl (hb hby at_388) rfl ?_
    refine XT.lload X0.here hx rfl (hb hby at_389) rfl  ?_
    show Steps p.tables e below (T0.setTop (mkF m 391 (own_L35 x0 x1 x2 x3 q4 p5 v3 f (own_d q4 (0 : Int32)) (own_d q4 (1 : Int32)) (own_d q4 (2 : Int32)) (own_d q4 (3 : Int32)) (own_d q4 (4 : Int32)) (own_d q4 (5 : Int32)) (own_d q4 (6 : Int32)) (own_d q4 (7 : Int32)) (own_d q4 (8 : Int32)) (own_d q4 (9 : Int32))) [(.long (own_d q4 (5 : Int32))), (.long (((own_dm5 gs q4).getD 6 0) - ((own_d q4 (6 : Int32)) * (67108864 : Int64)))), (.int (6 : Int32)), (.ref f)])) _
    refine XT.ladd X0.here hx rfl (hb hby at_391) rfl ?_
    exact oK
  obtain ⟨T51, h51, X51, e51, W51, V51, st51⟩ := own_stJ X0 hx hZ e0 V_f hlg (j := (6 : Int32)) (i := 6) rfl (by decide) (g := (mkF m 392 (own_L35 x0 x1 x2 x3 q4 p5 v3 f (own_d q4 (0 : Int32)) (own_d q4 (1 : Int32)) (own_d q4 (2 : Int32)) (own_d q4 (3 : Int32)) (own_d q4 (4 : Int32)) (own_d q4 (5 : Int32)) (own_d q4 (6 : Int32)) (own_d q4 (7 : Int32)) (own_d q4 (8 : Int32)) (own_d q4 (9 : Int32))) [(.long ((((own_dm5 gs q4).getD 6 0) - ((own_d q4 (6 : Int32)) * (67108864 : Int64))) + (own_d q4 (5 : Int32)))), (.int (6 : Int32)), (.ref f)])) rfl rfl (hb hby at_392)
  have f2 := (E_f).wr W51
  have f4 := (hO).wr W51 gf
  have K51 : Keep h1 h51 [f] := ((Keep.refl h1 [f])).wr W51 (Or.inl (by simp))
  have Z51 : n0 ≤ h51.size := Nat.le_trans Z0 (Keep.of_wr W51).1
  have N51 := Fr.snoc X51 N0 gf
  refine OG.of st51 ?_
  show OG _ _ _ _ _ _ _ (T51.setTop (mkF m 393 (own_L35 x0 x1 x2 x3 q4 p5 v3 f (own_d q4 (0 : Int32)) (own_d q4 (1 : Int32)) (own_d q4 (2 : Int32)) (own_d q4 (3 : Int32)) (own_d q4 (4 : Int32)) (own_d q4 (5 : Int32)) (own_d q4 (6 : Int32)) (own_d q4 (7 : Int32)) (own_d q4 (8 : Int32)) (own_d q4 (9 : Int32))) []))
  have f5 : Arv Z h51 f kf .long (10 : Int32) ((own_dm6 gs q4).map Value.long) (.long (0 : Int64)) := V51
  have f6 : (own_dm6 gs q4).length = 10 := ((List.length_set ..).trans hlg)
  refine OG.of (A := T51.setTop (mkF m 401 (own_L35 x0 x1 x2 x3 q4 p5 v3 f (own_d q4 (0 : Int32)) (own_d q4 (1 : Int32)) (own_d q4 (2 : Int32)) (own_d q4 (3 : Int32)) (own_d q4 (4 : Int32)) (own_d q4 (5 : Int32)) (own_d q4 (6 : Int32)) (own_d q4 (7 : Int32)) (own_d q4 (8 : Int32)) (own_d q4 (9 : Int32))) [(.int (7 : Int32)), (.ref f), (.int (7 : Int32)), (.ref f)])) (fun oT oK => ?_) ?_
  · skip
    refine XS.aload X51.here hx rfl (hb hby at_393) rfl rfl  ?_
    show Steps p.tables e below (T51.setTop (mkF m 395 (own_L35 x0 x1 x2 x3 q4 p5 v3 f (own_d q4 (0 : Int32)) (own_d q4 (1 : Int32)) (own_d q4 (2 : Int32)) (own_d q4 (3 : Int32)) (own_d q4 (4 : Int32)) (own_d q4 (5 : Int32)) (own_d q4 (6 : Int32)) (own_d q4 (7 : Int32)) (own_d q4 (8 : Int32)) (own_d q4 (9 : Int32))) [(.ref f)])) _
    refine XS.bipush X51.here hx rfl (hb hby at_395) ?_
    refine XS.aload X51.here hx rfl (hb hby at_397) rfl rfl  ?_
    show Steps p.tables e below (T51.setTop (mkF m 399 (own_L35 x0 x1 x2 x3 q4 p5 v3 f (own_d q4 (0 : Int32)) (own_d q4 (1 : Int32)) (own_d q4 (2 : Int32)) (own_d q4 (3 : Int32)) (own_d q4 (4 : Int32)) (own_d q4 (5 : Int32)) (own_d q4 (6 : Int32)) (own_d q4 (7 : Int32)) (own_d q4 (8 : Int32)) (own_d q4 (9 : Int32))) [(.ref f), (.int (7 : Int32)), (.ref f)])) _
    refine XS.bipush X51.here hx rfl (hb hby at_399) ?_
    exact oK
  obtain ⟨clf7, Arf7, If7, Hf7⟩ := own_rdL f5 f6 (j := (7 : Int32)) (i := 7) rfl (by decide)
  refine OG.of (X51.laload hx (j := (7 : Int32)) (v := (.long ((own_dm6 gs q4).getD 7 0))) (by rw [e51]; exact Arf7.1) (State.isArrayOf_alike hZ.alike Arf7.2.1) Arf7.2.2 If7 Hf7 (g := (mkF m 401 (own_L35 x0 x1 x2 x3 q4 p5 v3 f (own_d q4 (0 : Int32)) (own_d q4 (1 : Int32)) (own_d q4 (2 : Int32)) (own_d q4 (3 : Int32)) (own_d q4 (4 : Int32)) (own_d q4 (5 : Int32)) (own_d q4 (6 : Int32)) (own_d q4 (7 : Int32)) (own_d q4 (8 : Int32)) (own_d q4 (9 : Int32))) [(.int (7 : Int32)), (.ref f), (.int (7 : Int32)), (.ref f)])) rfl rfl (hb hby at_401)) ?_
  show OG _ _ _ _ _ _ _ (T51.setTop (mkF m 402 (own_L35 x0 x1 x2 x3 q4 p5 v3 f (own_d q4 (0 : Int32)) (own_d q4 (1 : Int32)) (own_d q4 (2 : Int32)) (own_d q4 (3 : Int32)) (own_d q4 (4 : Int32)) (own_d q4 (5 : Int32)) (own_d q4 (6 : Int32)) (own_d q4 (7 : Int32)) (own_d q4 (8 : Int32)) (own_d q4 (9 : Int32))) [(.long ((own_dm6 gs q4).getD 7 0)), (.int (7 : Int32)), (.ref f)]))
  refine OG.of (A := T51.setTop (mkF m 412 (own_L35 x0 x1 x2 x3 q4 p5 v3 f (own_d q4 (0 : Int32)) (own_d q4 (1 : Int32)) (own_d q4 (2 : Int32)) (own_d q4 (3 : Int32)) (own_d q4 (4 : Int32)) (own_d q4 (5 : Int32)) (own_d q4 (6 : Int32)) (own_d q4 (7 : Int32)) (own_d q4 (8 : Int32)) (own_d q4 (9 : Int32))) [(.long ((((own_dm6 gs q4).getD 7 0) - ((own_d q4 (7 : Int32)) * (33554432 : Int64))) + (own_d q4 (6 : Int32)))), (.int (7 : Int32)), (.ref f)])) (fun oT oK => ?_) ?_
  · skip
    refine XT.lload X51.here hx rfl (hb hby at_402) rfl  ?_
    show Steps p.tables e below (T51.setTop (mkF m 404 (own_L35 x0 x1 x2 x3 q4 p5 v3 f (own_d q4 (0 : Int32)) (own_d q4 (1 : Int32)) (own_d q4 (2 : Int32)) (own_d q4 (3 : Int32)) (own_d q4 (4 : Int32)) (own_d q4 (5 : Int32)) (own_d q4 (6 : Int32)) (own_d q4 (7 : Int32)) (own_d q4 (8 : Int32)) (own_d q4 (9 : Int32))) [(.long (own_d q4 (7 : Int32))), (.long ((own_dm6 gs q4).getD 7 0)), (.int (7 : Int32)), (.ref f)])) _
    refine X51.ldc2Long hx hown (mvT hZ (own_at hw 17 rfl)) (g := (mkF m 404 (own_L35 x0 x1 x2 x3 q4 p5 v3 f (own_d q4 (0 : Int32)) (own_d q4 (1 : Int32)) (own_d q4 (2 : Int32)) (own_d q4 (3 : Int32)) (own_d q4 (4 : Int32)) (own_d q4 (5 : Int32)) (own_d q4 (6 : Int32)) (own_d q4 (7 : Int32)) (own_d q4 (8 : Int32)) (own_d q4 (9 : Int32))) [(.long (own_d q4 (7 : Int32))), (.long ((own_dm6 gs q4).getD 7 0)), (.int (7 : Int32)), (.ref f)])) rfl (hb hby at_404) _ ?_
    refine XT.lmul X51.here hx rfl (hb hby at_407) rfl ?_
    show Steps p.tables e below (T51.setTop (mkF m 408 (own_L35 x0 x1 x2 x3 q4 p5 v3 f (own_d q4 (0 : Int32)) (own_d q4 (1 : Int32)) (own_d q4 (2 : Int32)) (own_d q4 (3 : Int32)) (own_d q4 (4 : Int32)) (own_d q4 (5 : Int32)) (own_d q4 (6 : Int32)) (own_d q4 (7 : Int32)) (own_d q4 (8 : Int32)) (own_d q4 (9 : Int32))) [(.long ((own_d q4 (7 : Int32)) * (33554432 : Int64))), (.long ((own_dm6 gs q4).getD 7 0)), (.int (7 : Int32)), (.ref f)])) _
    refine XT.lsub X51.here hx rfl (hb hby at_408) rfl ?_
    refine XT.lload X51.here hx rfl (hb hby at_409) rfl  ?_
    show Steps p.tables e below (T51.setTop (mkF m 411 (own_L35 x0 x1 x2 x3 q4 p5 v3 f (own_d q4 (0 : Int32)) (own_d q4 (1 : Int32)) (own_d q4 (2 : Int32)) (own_d q4 (3 : Int32)) (own_d q4 (4 : Int32)) (own_d q4 (5 : Int32)) (own_d q4 (6 : Int32)) (own_d q4 (7 : Int32)) (own_d q4 (8 : Int32)) (own_d q4 (9 : Int32))) [(.long (own_d q4 (6 : Int32))), (.long (((own_dm6 gs q4).getD 7 0) - ((own_d q4 (7 : Int32)) * (33554432 : Int64)))), (.int (7 : Int32)), (.ref f)])) _
    refine XT.ladd X51.here hx rfl (hb hby at_411) rfl ?_
    exact oK
  obtain ⟨T52, h52, X52, e52, W52, V52, st52⟩ := own_stJ X51 hx hZ e51 f5 f6 (j := (7 : Int32)) (i := 7) rfl (by decide) (g := (mkF m 412 (own_L35 x0 x1 x2 x3 q4 p5 v3 f (own_d q4 (0 : Int32)) (own_d q4 (1 : Int32)) (own_d q4 (2 : Int32)) (own_d q4 (3 : Int32)) (own_d q4 (4 : Int32)) (own_d q4 (5 : Int32)) (own_d q4 (6 : Int32)) (own_d q4 (7 : Int32)) (own_d q4 (8 : Int32)) (own_d q4 (9 : Int32))) [(.long ((((own_dm6 gs q4).getD 7 0) - ((own_d q4 (7 : Int32)) * (33554432 : Int64))) + (own_d q4 (6 : Int32)))), (.int (7 : Int32)), (.ref f)])) rfl rfl (hb hby at_412)
  have f8 := (f2).wr W52
  have f10 := (f4).wr W52 gf
  have K52 : Keep h1 h52 [f] := (K51).wr W52 (Or.inl (by simp))
  have Z52 : n0 ≤ h52.size := Nat.le_trans Z51 (Keep.of_wr W52).1
  have N52 := Fr.snoc X52 N51 gf
  refine OG.of st52 ?_
  show OG _ _ _ _ _ _ _ (T52.setTop (mkF m 413 (own_L35 x0 x1 x2 x3 q4 p5 v3 f (own_d q4 (0 : Int32)) (own_d q4 (1 : Int32)) (own_d q4 (2 : Int32)) (own_d q4 (3 : Int32)) (own_d q4 (4 : Int32)) (own_d q4 (5 : Int32)) (own_d q4 (6 : Int32)) (own_d q4 (7 : Int32)) (own_d q4 (8 : Int32)) (own_d q4 (9 : Int32))) []))
  have f11 : Arv Z h52 f kf .long (10 : Int32) ((own_dm7 gs q4).map Value.long) (.long (0 : Int64)) := V52
  have f12 : (own_dm7 gs q4).length = 10 := ((List.length_set ..).trans f6)
  exact own_tail_4 x0 x1 x2 x3 q4 p5 v3 f kf gs wB X52 hx hZ hw hby hml hown hlk hret e52 N52 Z52 (f10) (SB) (TB) (gf) (f8) (f12) (f11) hq0 hq1 hq2 hq3
set_option maxRecDepth 65536 in
set_option maxHeartbeats 40000000 in
theorem own_tail_2 {p : Program} {l : Launch} {e : Env} {s : State} {m : MethodId} {args : Array Value} {below : List Frame} {meth : Method} {c : Code} {T0 : State} {locs : List Loc} {Z : State} {a0 : Array Value} {h1 : Heap} {n0 : Nat} (x0 : Int64) (x1 : Int64) (x2 : Int64) (x3 : Int64) (q4 : Int64) (p5 : Int32) (v3 : Int64) (f : Addr) (kf : ClassId) (gs : List Int64) (wB : Addr)
    (X0 : Stand p l e room_1 s m args below meth c T0 locs 2 14) (hx : p.tables.exec = Jvm.exec) (hZ : Z.Warmed39 s.vm) (hw : ∀ d ∈ tables_1, d.before a0 Z = true) (hby : c.code = code) (hml : c.maxLocals = 43) (hown : s.vm.findClass "com/example/gate_to_gate/gatetogate/io/Field25519EncodePinLaw" = some m.cls) (hlk : meth.locks = false) (hret : meth.sig.returnType = some .boolean) (e0 : T0.heap = h1) (N0 : Fr n0 locs) (Z0 : n0 ≤ h1.size) (hO : Old Z n0 h1) (SB : Sta Z Z.heap "com/example/gate_to_gate/gatetogate/io/Field25519" "BITS" "[I" (.ref wB)) (TB : ∀ j, j < 10 → ORd Z Z.heap wB .int (Int32.ofNat j) (.int (own_bits j))) (gf : n0 ≤ f) (E_f : Exa Z h1 f "[J") (hlg : (own_dm3 gs q4).length = 10) (V_f : Arv Z h1 f kf .long (10 : Int32) ((own_dm3 gs q4).map Value.long) (.long (0 : Int64))) (hq0 : (own_pk (own_bytes (own_fin (own_dm gs q4))) 0) = (if v3 = (9223372036854775807 : Int64) then (if x2 = (-1 : Int64) then (if x1 = (-1 : Int64) then (if x0 < (0 : Int64) then (if x0 < (-19 : Int64) then x0 else (x0 + (19 : Int64))) else x0) else x0) else x0) else x0)) (hq1 : (own_pk (own_bytes (own_fin (own_dm gs q4))) 8) = (if v3 = (9223372036854775807 : Int64) then (if x2 = (-1 : Int64) then (if x1 = (-1 : Int64) then (if x0 < (0 : Int64) then (if x0 < (-19 : Int64) then x1 else (0 : Int64)) else x1) else x1) else x1) else x1)) (hq2 : (own_pk (own_bytes (own_fin (own_dm gs q4))) 16) = (if v3 = (9223372036854775807 : Int64) then (if x2 = (-1 : Int64) then (if x1 = (-1 : Int64) then (if x0 < (0 : Int64) then (if x0 < (-19 : Int64) then x2 else (0 : Int64)) else x2) else x2) else x2) else x2)) (hq3 : (own_pk (own_bytes (own_fin (own_dm gs q4))) 24) = (if v3 = (9223372036854775807 : Int64) then (if x2 = (-1 : Int64) then (if x1 = (-1 : Int64) then (if x0 < (0 : Int64) then (if x0 < (-19 : Int64) then v3 else (0 : Int64)) else v3) else v3) else v3) else v3)) :
    OG p e below s 16 192 (fun v _ L => v = some (.int 1) ∧ Fr n0 L) (T0.setTop (mkF m 337 (own_L35 x0 x1 x2 x3 q4 p5 v3 f (own_d q4 (0 : Int32)) (own_d q4 (1 : Int32)) (own_d q4 (2 : Int32)) (own_d q4 (3 : Int32)) (own_d q4 (4 : Int32)) (own_d q4 (5 : Int32)) (own_d q4 (6 : Int32)) (own_d q4 (7 : Int32)) (own_d q4 (8 : Int32)) (own_d q4 (9 : Int32))) [])) := by
  refine OG.of (A := T0.setTop (mkF m 343 (own_L35 x0 x1 x2 x3 q4 p5 v3 f (own_d q4 (0 : Int32)) (own_d q4 (1 : Int32)) (own_d q4 (2 : Int32)) (own_d q4 (3 : Int32)) (own_d q4 (4 : Int32)) (own_d q4 (5 : Int32)) (own_d q4 (6 : Int32)) (own_d q4 (7 : Int32)) (own_d q4 (8 : Int32)) (own_d q4 (9 : Int32))) [(.int (4 : Int32)), (.ref f), (.int (4 : Int32)), (.ref f)])) (fun oT oK => ?_) ?_
  · skip
    refine XS.aload X0.here hx rfl (hb hby at_337) rfl rfl  ?_
    show Steps p.tables e below (T0.setTop (mkF m 339 (own_L35 x0 x1 x2 x3 q4 p5 v3 f (own_d q4 (0 : Int32)) (own_d q4 (1 : Int32)) (own_d q4 (2 : Int32)) (own_d q4 (3 : Int32)) (own_d q4 (4 : Int32)) (own_d q4 (5 : Int32)) (own_d q4 (6 : Int32)) (own_d q4 (7 : Int32)) (own_d q4 (8 : Int32)) (own_d q4 (9 : Int32))) [(.ref f)])) _
    refine XS.iconst X0.here hx rfl (hb hby at_339) ?_
    refine XS.aload X0.here hx rfl (hb hby at_340) rfl rfl  ?_
    show Steps p.tables e below (T0.setTop (mkF m 342 (own_L35 x0 x1 x2 x3 q4 p5 v3 f (own_d q4 (0 : Int32)) (own_d q4 (1 : Int32)) (own_d q4 (2 : Int32)) (own_d q4 (3 : Int32)) (own_d q4 (4 : Int32)) (own_d q4 (5 : Int32)) (own_d q4 (6 : Int32)) (own_d q4 (7 : Int32)) (own_d q4 (8 : Int32)) (own_d q4 (9 : Int32))) [(.ref f), (.int (4 : Int32)), (.ref f)])) _
    refine XS.iconst X0.here hx rfl (hb hby at_342) ?_
    exact oK
  obtain ⟨clf1, Arf1, If1, Hf1⟩ := own_rdL V_f hlg (j := (4 : Int32)) (i := 4) rfl (by decide)
  refine OG.of (X0.laload hx (j := (4 : Int32)) (v := (.long ((own_dm3 gs q4).getD 4 0))) (by rw [e0]; exact Arf1.1) (State.isArrayOf_alike hZ.alike Arf1.2.1) Arf1.2.2 If1 Hf1 (g := (mkF m 343 (own_L35 x0 x1 x2 x3 q4 p5 v3 f (own_d q4 (0 : Int32)) (own_d q4 (1 : Int32)) (own_d q4 (2 : Int32)) (own_d q4 (3 : Int32)) (own_d q4 (4 : Int32)) (own_d q4 (5 : Int32)) (own_d q4 (6 : Int32)) (own_d q4 (7 : Int32)) (own_d q4 (8 : Int32)) (own_d q4 (9 : Int32))) [(.int (4 : Int32)), (.ref f), (.int (4 : Int32)), (.ref f)])) rfl rfl (hb hby at_343)) ?_
  show OG _ _ _ _ _ _ _ (T0.setTop (mkF m 344 (own_L35 x0 x1 x2 x3 q4 p5 v3 f (own_d q4 (0 : Int32)) (own_d q4 (1 : Int32)) (own_d q4 (2 : Int32)) (own_d q4 (3 : Int32)) (own_d q4 (4 : Int32)) (own_d q4 (5 : Int32)) (own_d q4 (6 : Int32)) (own_d q4 (7 : Int32)) (own_d q4 (8 : Int32)) (own_d q4 (9 : Int32))) [(.long ((own_dm3 gs q4).getD 4 0)), (.int (4 : Int32)), (.ref f)]))
  refine OG.of (A := T0.setTop (mkF m 354 (own_L35 x0 x1 x2 x3 q4 p5 v3 f (own_d q4 (0 : Int32)) (own_d q4 (1 : Int32)) (own_d q4 (2 : Int32)) (own_d q4 (3 : Int32)) (own_d q4 (4 : Int32)) (own_d q4 (5 : Int32)) (own_d q4 (6 : Int32)) (own_d q4 (7 : Int32)) (own_d q4 (8 : Int32)) (own_d q4 (9 : Int32))) [(.long ((((own_dm3 gs q4).getD 4 0) - ((own_d q4 (4 : Int32)) * (67108864 : Int64))) + (own_d q4 (3 : Int32)))), (.int (4 : Int32)), (.ref f)])) (fun oT oK => ?_) ?_
  · skip
    refine XT.lload X0.here hx rfl (hb hby at_344) rfl  ?_
    show Steps p.tables e below (T0.setTop (mkF m 346 (own_L35 x0 x1 x2 x3 q4 p5 v3 f (own_d q4 (0 : Int32)) (own_d q4 (1 : Int32)) (own_d q4 (2 : Int32)) (own_d q4 (3 : Int32)) (own_d q4 (4 : Int32)) (own_d q4 (5 : Int32)) (own_d q4 (6 : Int32)) (own_d q4 (7 : Int32)) (own_d q4 (8 : Int32)) (own_d q4 (9 : Int32))) [(.long (own_d q4 (4 : Int32))), (.long ((own_dm3 gs q4).getD 4 0)), (.int (4 : Int32)), (.ref f)])) _
    refine X0.ldc2Long hx hown (mvT hZ (own_at hw 15 rfl)) (g := (mkF m 346 (own_L35 x0 x1 x2 x3 q4 p5 v3 f (own_d q4 (0 : Int32)) (own_d q4 (1 : Int32)) (own_d q4 (2 : Int32)) (own_d q4 (3 : Int32)) (own_d q4 (4 : Int32)) (own_d q4 (5 : Int32)) (own_d q4 (6 : Int32)) (own_d q4 (7 : Int32)) (own_d q4 (8 : Int32)) (own_d q4 (9 : Int32))) [(.long (own_d q4 (4 : Int32))), (.long ((own_dm3 gs q4).getD 4 0)), (.int (4 : Int32)), (.ref f)])) rfl (hb hby at_346) _ ?_
    refine XT.lmul X0.here hx rfl (hb hby at_349) rfl ?_
    show Steps p.tables e below (T0.setTop (mkF m 350 (own_L35 x0 x1 x2 x3 q4 p5 v3 f (own_d q4 (0 : Int32)) (own_d q4 (1 : Int32)) (own_d q4 (2 : Int32)) (own_d q4 (3 : Int32)) (own_d q4 (4 : Int32)) (own_d q4 (5 : Int32)) (own_d q4 (6 : Int32)) (own_d q4 (7 : Int32)) (own_d q4 (8 : Int32)) (own_d q4 (9 : Int32))) [(.long ((own_d q4 (4 : Int32)) * (67108864 : Int64))), (.long ((own_dm3 gs q4).getD 4 0)), (.int (4 : Int32)), (.ref f)])) _
    refine XT.lsub X0.here hx rfl (hb hby at_350) rfl ?_
    refine XT.lload X0.here hx rfl (hb hby at_351) rfl  ?_
    show Steps p.tables e below (T0.setTop (mkF m 353 (own_L35 x0 x1 x2 x3 q4 p5 v3 f (own_d q4 (0 : Int32)) (own_d q4 (1 : Int32)) (own_d q4 (2 : Int32)) (own_d q4 (3 : Int32)) (own_d q4 (4 : Int32)) (own_d q4 (5 : Int32)) (own_d q4 (6 : Int32)) (own_d q4 (7 : Int32)) (own_d q4 (8 : Int32)) (own_d q4 (9 : Int32))) [(.long (own_d q4 (3 : Int32))), (.long (((own_dm3 gs q4).getD 4 0) - ((own_d q4 (4 : Int32)) * (67108864 : Int64)))), (.int (4 : Int32)), (.ref f)])) _
    refine XT.ladd X0.here hx rfl (hb hby at_353) rfl ?_
    exact oK
  obtain ⟨T51, h51, X51, e51, W51, V51, st51⟩ := own_stJ X0 hx hZ e0 V_f hlg (j := (4 : Int32)) (i := 4) rfl (by decide) (g := (mkF m 354 (own_L35 x0 x1 x2 x3 q4 p5 v3 f (own_d q4 (0 : Int32)) (own_d q4 (1 : Int32)) (own_d q4 (2 : Int32)) (own_d q4 (3 : Int32)) (own_d q4 (4 : Int32)) (own_d q4 (5 : Int32)) (own_d q4 (6 : Int32)) (own_d q4 (7 : Int32)) (own_d q4 (8 : Int32)) (own_d q4 (9 : Int32))) [(.long ((((own_dm3 gs q4).getD 4 0) - ((own_d q4 (4 : Int32)) * (67108864 : Int64))) + (own_d q4 (3 : Int32)))), (.int (4 : Int32)), (.ref f)])) rfl rfl (hb hby at_354)
  have f2 := (E_f).wr W51
  have f4 := (hO).wr W51 gf
  have K51 : Keep h1 h51 [f] := ((Keep.refl h1 [f])).wr W51 (Or.inl (by simp))
  have Z51 : n0 ≤ h51.size := Nat.le_trans Z0 (Keep.of_wr W51).1
  have N51 := Fr.snoc X51 N0 gf
  refine OG.of st51 ?_
  show OG _ _ _ _ _ _ _ (T51.setTop (mkF m 355 (own_L35 x0 x1 x2 x3 q4 p5 v3 f (own_d q4 (0 : Int32)) (own_d q4 (1 : Int32)) (own_d q4 (2 : Int32)) (own_d q4 (3 : Int32)) (own_d q4 (4 : Int32)) (own_d q4 (5 : Int32)) (own_d q4 (6 : Int32)) (own_d q4 (7 : Int32)) (own_d q4 (8 : Int32)) (own_d q4 (9 : Int32))) []))
  have f5 : Arv Z h51 f kf .long (10 : Int32) ((own_dm4 gs q4).map Value.long) (.long (0 : Int64)) := V51
  have f6 : (own_dm4 gs q4).length = 10 := ((List.length_set ..).trans hlg)
  refine OG.of (A := T51.setTop (mkF m 361 (own_L35 x0 x1 x2 x3 q4 p5 v3 f (own_d q4 (0 : Int32)) (own_d q4 (1 : Int32)) (own_d q4 (2 : Int32)) (own_d q4 (3 : Int32)) (own_d q4 (4 : Int32)) (own_d q4 (5 : Int32)) (own_d q4 (6 : Int32)) (own_d q4 (7 : Int32)) (own_d q4 (8 : Int32)) (own_d q4 (9 : Int32))) [(.int (5 : Int32)), (.ref f), (.int (5 : Int32)), (.ref f)])) (fun oT oK => ?_) ?_
  · skip
    refine XS.aload X51.here hx rfl (hb hby at_355) rfl rfl  ?_
    show Steps p.tables e below (T51.setTop (mkF m 357 (own_L35 x0 x1 x2 x3 q4 p5 v3 f (own_d q4 (0 : Int32)) (own_d q4 (1 : Int32)) (own_d q4 (2 : Int32)) (own_d q4 (3 : Int32)) (own_d q4 (4 : Int32)) (own_d q4 (5 : Int32)) (own_d q4 (6 : Int32)) (own_d q4 (7 : Int32)) (own_d q4 (8 : Int32)) (own_d q4 (9 : Int32))) [(.ref f)])) _
    refine XS.iconst X51.here hx rfl (hb hby at_357) ?_
    refine XS.aload X51.here hx rfl (hb hby at_358) rfl rfl  ?_
    show Steps p.tables e below (T51.setTop (mkF m 360 (own_L35 x0 x1 x2 x3 q4 p5 v3 f (own_d q4 (0 : Int32)) (own_d q4 (1 : Int32)) (own_d q4 (2 : Int32)) (own_d q4 (3 : Int32)) (own_d q4 (4 : Int32)) (own_d q4 (5 : Int32)) (own_d q4 (6 : Int32)) (own_d q4 (7 : Int32)) (own_d q4 (8 : Int32)) (own_d q4 (9 : Int32))) [(.ref f), (.int (5 : Int32)), (.ref f)])) _
    refine XS.iconst X51.here hx rfl (hb hby at_360) ?_
    exact oK
  obtain ⟨clf7, Arf7, If7, Hf7⟩ := own_rdL f5 f6 (j := (5 : Int32)) (i := 5) rfl (by decide)
  refine OG.of (X51.laload hx (j := (5 : Int32)) (v := (.long ((own_dm4 gs q4).getD 5 0))) (by rw [e51]; exact Arf7.1) (State.isArrayOf_alike hZ.alike Arf7.2.1) Arf7.2.2 If7 Hf7 (g := (mkF m 361 (own_L35 x0 x1 x2 x3 q4 p5 v3 f (own_d q4 (0 : Int32)) (own_d q4 (1 : Int32)) (own_d q4 (2 : Int32)) (own_d q4 (3 : Int32)) (own_d q4 (4 : Int32)) (own_d q4 (5 : Int32)) (own_d q4 (6 : Int32)) (own_d q4 (7 : Int32)) (own_d q4 (8 : Int32)) (own_d q4 (9 : Int32))) [(.int (5 : Int32)), (.ref f), (.int (5 : Int32)), (.ref f)])) rfl rfl (hb hby at_361)) ?_
  show OG _ _ _ _ _ _ _ (T51.setTop (mkF m 362 (own_L35 x0 x1 x2 x3 q4 p5 v3 f (own_d q4 (0 : Int32)) (own_d q4 (1 : Int32)) (own_d q4 (2 : Int32)) (own_d q4 (3 : Int32)) (own_d q4 (4 : Int32)) (own_d q4 (5 : Int32)) (own_d q4 (6 : Int32)) (own_d q4 (7 : Int32)) (own_d q4 (8 : Int32)) (own_d q4 (9 : Int32))) [(.long ((own_dm4 gs q4).getD 5 0)), (.int (5 : Int32)), (.ref f)]))
  refine OG.of (A := T51.setTop (mkF m 372 (own_L35 x0 x1 x2 x3 q4 p5 v3 f (own_d q4 (0 : Int32)) (own_d q4 (1 : Int32)) (own_d q4 (2 : Int32)) (own_d q4 (3 : Int32)) (own_d q4 (4 : Int32)) (own_d q4 (5 : Int32)) (own_d q4 (6 : Int32)) (own_d q4 (7 : Int32)) (own_d q4 (8 : Int32)) (own_d q4 (9 : Int32))) [(.long ((((own_dm4 gs q4).getD 5 0) - ((own_d q4 (5 : Int32)) * (33554432 : Int64))) + (own_d q4 (4 : Int32)))), (.int (5 : Int32)), (.ref f)])) (fun oT oK => ?_) ?_
  · skip
    refine XT.lload X51.here hx rfl (hb hby at_362) rfl  ?_
    show Steps p.tables e below (T51.setTop (mkF m 364 (own_L35 x0 x1 x2 x3 q4 p5 v3 f (own_d q4 (0 : Int32)) (own_d q4 (1 : Int32)) (own_d q4 (2 : Int32)) (own_d q4 (3 : Int32)) (own_d q4 (4 : Int32)) (own_d q4 (5 : Int32)) (own_d q4 (6 : Int32)) (own_d q4 (7 : Int32)) (own_d q4 (8 : Int32)) (own_d q4 (9 : Int32))) [(.long (own_d q4 (5 : Int32))), (.long ((own_dm4 gs q4).getD 5 0)), (.int (5 : Int32)), (.ref f)])) _
    refine X51.ldc2Long hx hown (mvT hZ (own_at hw 17 rfl)) (g := (mkF m 364 (own_L35 x0 x1 x2 x3 q4 p5 v3 f (own_d q4 (0 : Int32)) (own_d q4 (1 : Int32)) (own_d q4 (2 : Int32)) (own_d q4 (3 : Int32)) (own_d q4 (4 : Int32)) (own_d q4 (5 : Int32)) (own_d q4 (6 : Int32)) (own_d q4 (7 : Int32)) (own_d q4 (8 : Int32)) (own_d q4 (9 : Int32))) [(.long (own_d q4 (5 : Int32))), (.long ((own_dm4 gs q4).getD 5 0)), (.int (5 : Int32)), (.ref f)])) rfl (hb hby at_364) _ ?_
    refine XT.lmul X51.here hx rfl (hb hby at_367) rfl ?_
    show Steps p.tables e below (T51.setTop (mkF m 368 (own_L35 x0 x1 x2 x3 q4 p5 v3 f (own_d q4 (0 : Int32)) (own_d q4 (1 : Int32)) (own_d q4 (2 : Int32)) (own_d q4 (3 : Int32)) (own_d q4 (4 : Int32)) (own_d q4 (5 : Int32)) (own_d q4 (6 : Int32)) (own_d q4 (7 : Int32)) (own_d q4 (8 : Int32)) (own_d q4 (9 : Int32))) [(.long ((own_d q4 (5 : Int32)) * (33554432 : Int64))), (.long ((own_dm4 gs q4).getD 5 0)), (.int (5 : Int32)), (.ref f)])) _
    refine XT.lsub X51.here hx rfl (hb hby at_368) rfl ?_
    refine XT.lload X51.here hx rfl (hb hby at_369) rfl  ?_
    show Steps p.tables e below (T51.setTop (mkF m 371 (own_L35 x0 x1 x2 x3 q4 p5 v3 f (own_d q4 (0 : Int32)) (own_d q4 (1 : Int32)) (own_d q4 (2 : Int32)) (own_d q4 (3 : Int32)) (own_d q4 (4 : Int32)) (own_d q4 (5 : Int32)) (own_d q4 (6 : Int32)) (own_d q4 (7 : Int32)) (own_d q4 (8 : Int32)) (own_d q4 (9 : Int32))) [(.long (own_d q4 (4 : Int32))), (.long (((own_dm4 gs q4).getD 5 0) - ((own_d q4 (5 : Int32)) * (33554432 : Int64)))), (.int (5 : Int32)), (.ref f)])) _
    refine XT.ladd X51.here hx rfl (hb hby at_371) rfl ?_
    exact oK
  obtain ⟨T52, h52, X52, e52, W52, V52, st52⟩ := own_stJ X51 hx hZ e51 f5 f6 (j := (5 : Int32)) (i := 5) rfl (by decide) (g := (mkF m 372 (own_L35 x0 x1 x2 x3 q4 p5 v3 f (own_d q4 (0 : Int32)) (own_d q4 (1 : Int32)) (own_d q4 (2 : Int32)) (own_d q4 (3 : Int32)) (own_d q4 (4 : Int32)) (own_d q4 (5 : Int32)) (own_d q4 (6 : Int32)) (own_d q4 (7 : Int32)) (own_d q4 (8 : Int32)) (own_d q4 (9 : Int32))) [(.long ((((own_dm4 gs q4).getD 5 0) - ((own_d q4 (5 : Int32)) * (33554432 : Int64))) + (own_d q4 (4 : Int32)))), (.int (5 : Int32)), (.ref f)])) rfl rfl (hb hby at_372)
  have f8 := (f2).wr W52
  have f10 := (f4).wr W52 gf
  have K52 : Keep h1 h52 [f] := (K51).wr W52 (Or.inl (by simp))
  have Z52 : n0 ≤ h52.size := Nat.le_trans Z51 (Keep.of_wr W52).1
  have N52 := Fr.snoc X52 N51 gf
  refine OG.of st52 ?_
  show OG _ _ _ _ _ _ _ (T52.setTop (mkF m 373 (own_L35 x0 x1 x2 x3 q4 p5 v3 f (own_d q4 (0 : Int32)) (own_d q4 (1 : Int32)) (own_d q4 (2 : Int32)) (own_d q4 (3 : Int32)) (own_d q4 (4 : Int32)) (own_d q4 (5 : Int32)) (own_d q4 (6 : Int32)) (own_d q4 (7 : Int32)) (own_d q4 (8 : Int32)) (own_d q4 (9 : Int32))) []))
  have f11 : Arv Z h52 f kf .long (10 : Int32) ((own_dm5 gs q4).map Value.long) (.long (0 : Int64)) := V52
  have f12 : (own_dm5 gs q4).length = 10 := ((List.length_set ..).trans f6)
  exact own_tail_3 x0 x1 x2 x3 q4 p5 v3 f kf gs wB X52 hx hZ hw hby hml hown hlk hret e52 N52 Z52 (f10) (SB) (TB) (gf) (f8) (f12) (f11) hq0 hq1 hq2 hq3
set_option maxRecDepth 65536 in
set_option maxHeartbeats 40000000 in
theorem own_tail_1 {p : Program} {l : Launch} {e : Env} {s : State} {m : MethodId} {args : Array Value} {below : List Frame} {meth : Method} {c : Code} {T0 : State} {locs : List Loc} {Z : State} {a0 : Array Value} {h1 : Heap} {n0 : Nat} (x0 : Int64) (x1 : Int64) (x2 : Int64) (x3 : Int64) (q4 : Int64) (p5 : Int32) (v3 : Int64) (f : Addr) (kf : ClassId) (gs : List Int64) (wB : Addr)
    (X0 : Stand p l e room_1 s m args below meth c T0 locs 2 14) (hx : p.tables.exec = Jvm.exec) (hZ : Z.Warmed39 s.vm) (hw : ∀ d ∈ tables_1, d.before a0 Z = true) (hby : c.code = code) (hml : c.maxLocals = 43) (hown : s.vm.findClass "com/example/gate_to_gate/gatetogate/io/Field25519EncodePinLaw" = some m.cls) (hlk : meth.locks = false) (hret : meth.sig.returnType = some .boolean) (e0 : T0.heap = h1) (N0 : Fr n0 locs) (Z0 : n0 ≤ h1.size) (hO : Old Z n0 h1) (SB : Sta Z Z.heap "com/example/gate_to_gate/gatetogate/io/Field25519" "BITS" "[I" (.ref wB)) (TB : ∀ j, j < 10 → ORd Z Z.heap wB .int (Int32.ofNat j) (.int (own_bits j))) (gf : n0 ≤ f) (E_f : Exa Z h1 f "[J") (hlg : (own_dm1 gs q4).length = 10) (V_f : Arv Z h1 f kf .long (10 : Int32) ((own_dm1 gs q4).map Value.long) (.long (0 : Int64))) (hq0 : (own_pk (own_bytes (own_fin (own_dm gs q4))) 0) = (if v3 = (9223372036854775807 : Int64) then (if x2 = (-1 : Int64) then (if x1 = (-1 : Int64) then (if x0 < (0 : Int64) then (if x0 < (-19 : Int64) then x0 else (x0 + (19 : Int64))) else x0) else x0) else x0) else x0)) (hq1 : (own_pk (own_bytes (own_fin (own_dm gs q4))) 8) = (if v3 = (9223372036854775807 : Int64) then (if x2 = (-1 : Int64) then (if x1 = (-1 : Int64) then (if x0 < (0 : Int64) then (if x0 < (-19 : Int64) then x1 else (0 : Int64)) else x1) else x1) else x1) else x1)) (hq2 : (own_pk (own_bytes (own_fin (own_dm gs q4))) 16) = (if v3 = (9223372036854775807 : Int64) then (if x2 = (-1 : Int64) then (if x1 = (-1 : Int64) then (if x0 < (0 : Int64) then (if x0 < (-19 : Int64) then x2 else (0 : Int64)) else x2) else x2) else x2) else x2)) (hq3 : (own_pk (own_bytes (own_fin (own_dm gs q4))) 24) = (if v3 = (9223372036854775807 : Int64) then (if x2 = (-1 : Int64) then (if x1 = (-1 : Int64) then (if x0 < (0 : Int64) then (if x0 < (-19 : Int64) then v3 else (0 : Int64)) else v3) else v3) else v3) else v3)) :
    OG p e below s 16 192 (fun v _ L => v = some (.int 1) ∧ Fr n0 L) (T0.setTop (mkF m 301 (own_L35 x0 x1 x2 x3 q4 p5 v3 f (own_d q4 (0 : Int32)) (own_d q4 (1 : Int32)) (own_d q4 (2 : Int32)) (own_d q4 (3 : Int32)) (own_d q4 (4 : Int32)) (own_d q4 (5 : Int32)) (own_d q4 (6 : Int32)) (own_d q4 (7 : Int32)) (own_d q4 (8 : Int32)) (own_d q4 (9 : Int32))) [])) := by
  refine OG.of (A := T0.setTop (mkF m 307 (own_L35 x0 x1 x2 x3 q4 p5 v3 f (own_d q4 (0 : Int32)) (own_d q4 (1 : Int32)) (own_d q4 (2 : Int32)) (own_d q4 (3 : Int32)) (own_d q4 (4 : Int32)) (own_d q4 (5 : Int32)) (own_d q4 (6 : Int32)) (own_d q4 (7 : Int32)) (own_d q4 (8 : Int32)) (own_d q4 (9 : Int32))) [(.int (2 : Int32)), (.ref f), (.int (2 : Int32)), (.ref f)])) (fun oT oK => ?_) ?_
  · skip
    refine XS.aload X0.here hx rfl (hb hby at_301) rfl rfl  ?_
    show Steps p.tables e below (T0.setTop (mkF m 303 (own_L35 x0 x1 x2 x3 q4 p5 v3 f (own_d q4 (0 : Int32)) (own_d q4 (1 : Int32)) (own_d q4 (2 : Int32)) (own_d q4 (3 : Int32)) (own_d q4 (4 : Int32)) (own_d q4 (5 : Int32)) (own_d q4 (6 : Int32)) (own_d q4 (7 : Int32)) (own_d q4 (8 : Int32)) (own_d q4 (9 : Int32))) [(.ref f)])) _
    refine XS.iconst X0.here hx rfl (hb hby at_303) ?_
    refine XS.aload X0.here hx rfl (hb hby at_304) rfl rfl  ?_
    show Steps p.tables e below (T0.setTop (mkF m 306 (own_L35 x0 x1 x2 x3 q4 p5 v3 f (own_d q4 (0 : Int32)) (own_d q4 (1 : Int32)) (own_d q4 (2 : Int32)) (own_d q4 (3 : Int32)) (own_d q4 (4 : Int32)) (own_d q4 (5 : Int32)) (own_d q4 (6 : Int32)) (own_d q4 (7 : Int32)) (own_d q4 (8 : Int32)) (own_d q4 (9 : Int32))) [(.ref f), (.int (2 : Int32)), (.ref f)])) _
    refine XS.iconst X0.here hx rfl (hb hby at_306) ?_
    exact oK
  obtain ⟨clf1, Arf1, If1, Hf1⟩ := own_rdL V_f hlg (j := (2 : Int32)) (i := 2) rfl (by decide)
  refine OG.of (X0.laload hx (j := (2 : Int32)) (v := (.long ((own_dm1 gs q4).getD 2 0))) (by rw [e0]; exact Arf1.1) (State.isArrayOf_alike hZ.alike Arf1.2.1) Arf1.2.2 If1 Hf1 (g := (mkF m 307 (own_L35 x0 x1 x2 x3 q4 p5 v3 f (own_d q4 (0 : Int32)) (own_d q4 (1 : Int32)) (own_d q4 (2 : Int32)) (own_d q4 (3 : Int32)) (own_d q4 (4 : Int32)) (own_d q4 (5 : Int32)) (own_d q4 (6 : Int32)) (own_d q4 (7 : Int32)) (own_d q4 (8 : Int32)) (own_d q4 (9 : Int32))) [(.int (2 : Int32)), (.ref f), (.int (2 : Int32)), (.ref f)])) rfl rfl (hb hby at_307)) ?_
  show OG _ _ _ _ _ _ _ (T0.setTop (mkF m 308 (own_L35 x0 x1 x2 x3 q4 p5 v3 f (own_d q4 (0 : Int32)) (own_d q4 (1 : Int32)) (own_d q4 (2 : Int32)) (own_d q4 (3 : Int32)) (own_d q4 (4 : Int32)) (own_d q4 (5 : Int32)) (own_d q4 (6 : Int32)) (own_d q4 (7 : Int32)) (own_d q4 (8 : Int32)) (own_d q4 (9 : Int32))) [(.long ((own_dm1 gs q4).getD 2 0)), (.int (2 : Int32)), (.ref f)]))
  refine OG.of (A := T0.setTop (mkF m 318 (own_L35 x0 x1 x2 x3 q4 p5 v3 f (own_d q4 (0 : Int32)) (own_d q4 (1 : Int32)) (own_d q4 (2 : Int32)) (own_d q4 (3 : Int32)) (own_d q4 (4 : Int32)) (own_d q4 (5 : Int32)) (own_d q4 (6 : Int32)) (own_d q4 (7 : Int32)) (own_d q4 (8 : Int32)) (own_d q4 (9 : Int32))) [(.long ((((own_dm1 gs q4).getD 2 0) - ((own_d q4 (2 : Int32)) * (67108864 : Int64))) + (own_d q4 (1 : Int32)))), (.int (2 : Int32)), (.ref f)])) (fun oT oK => ?_) ?_
  · skip
    refine XT.lload X0.here hx rfl (hb hby at_308) rfl  ?_
    show Steps p.tables e below (T0.setTop (mkF m 310 (own_L35 x0 x1 x2 x3 q4 p5 v3 f (own_d q4 (0 : Int32)) (own_d q4 (1 : Int32)) (own_d q4 (2 : Int32)) (own_d q4 (3 : Int32)) (own_d q4 (4 : Int32)) (own_d q4 (5 : Int32)) (own_d q4 (6 : Int32)) (own_d q4 (7 : Int32)) (own_d q4 (8 : Int32)) (own_d q4 (9 : Int32))) [(.long (own_d q4 (2 : Int32))), (.long ((own_dm1 gs q4).getD 2 0)), (.int (2 : Int32)), (.ref f)])) _
    refine X0.ldc2Long hx hown (mvT hZ (own_at hw 15 rfl)) (g := (mkF m 310 (own_L35 x0 x1 x2 x3 q4 p5 v3 f (own_d q4 (0 : Int32)) (own_d q4 (1 : Int32)) (own_d q4 (2 : Int32)) (own_d q4 (3 : Int32)) (own_d q4 (4 : Int32)) (own_d q4 (5 : Int32)) (own_d q4 (6 : Int32)) (own_d q4 (7 : Int32)) (own_d q4 (8 : Int32)) (own_d q4 (9 : Int32))) [(.long (own_d q4 (2 : Int32))), (.long ((own_dm1 gs q4).getD 2 0)), (.int (2 : Int32)), (.ref f)])) rfl (hb hby at_310) _ ?_
    refine XT.lmul X0.here hx rfl (hb hby at_313) rfl ?_
    show Steps p.tables e below (T0.setTop (mkF m 314 (own_L35 x0 x1 x2 x3 q4 p5 v3 f (own_d q4 (0 : Int32)) (own_d q4 (1 : Int32)) (own_d q4 (2 : Int32)) (own_d q4 (3 : Int32)) (own_d q4 (4 : Int32)) (own_d q4 (5 : Int32)) (own_d q4 (6 : Int32)) (own_d q4 (7 : Int32)) (own_d q4 (8 : Int32)) (own_d q4 (9 : Int32))) [(.long ((own_d q4 (2 : Int32)) * (67108864 : Int64))), (.long ((own_dm1 gs q4).getD 2 0)), (.int (2 : Int32)), (.ref f)])) _
    refine XT.lsub X0.here hx rfl (hb hby at_314) rfl ?_
    refine XT.lload X0.here hx rfl (hb hby at_315) rfl  ?_
    show Steps p.tables e below (T0.setTop (mkF m 317 (own_L35 x0 x1 x2 x3 q4 p5 v3 f (own_d q4 (0 : Int32)) (own_d q4 (1 : Int32)) (own_d q4 (2 : Int32)) (own_d q4 (3 : Int32)) (own_d q4 (4 : Int32)) (own_d q4 (5 : Int32)) (own_d q4 (6 : Int32)) (own_d q4 (7 : Int32)) (own_d q4 (8 : Int32)) (own_d q4 (9 : Int32))) [(.long (own_d q4 (1 : Int32))), (.long (((own_dm1 gs q4).getD 2 0) - ((own_d q4 (2 : Int32)) * (67108864 : Int64)))), (.int (2 : Int32)), (.ref f)])) _
    refine XT.ladd X0.here hx rfl (hb hby at_317) rfl ?_
    exact oK
  obtain ⟨T51, h51, X51, e51, W51, V51, st51⟩ := own_stJ X0 hx hZ e0 V_f hlg (j := (2 : Int32)) (i := 2) rfl (by decide) (g := (mkF m 318 (own_L35 x0 x1 x2 x3 q4 p5 v3 f (own_d q4 (0 : Int32)) (own_d q4 (1 : Int32)) (own_d q4 (2 : Int32)) (own_d q4 (3 : Int32)) (own_d q4 (4 : Int32)) (own_d q4 (5 : Int32)) (own_d q4 (6 : Int32)) (own_d q4 (7 : Int32)) (own_d q4 (8 : Int32)) (own_d q4 (9 : Int32))) [(.long ((((own_dm1 gs q4).getD 2 0) - ((own_d q4 (2 : Int32)) * (67108864 : Int64))) + (own_d q4 (1 : Int32)))), (.int (2 : Int32)), (.ref f)])) rfl rfl (hb hby at_318)
  have f2 := (E_f).wr W51
  have f4 := (hO).wr W51 gf
  have K51 : Keep h1 h51 [f] := ((Keep.refl h1 [f])).wr W51 (Or.inl (by simp))
  have Z51 : n0 ≤ h51.size := Nat.le_trans Z0 (Keep.of_wr W51).1
  have N51 := Fr.snoc X51 N0 gf
  refine OG.of st51 ?_
  show OG _ _ _ _ _ _ _ (T51.setTop (mkF m 319 (own_L35 x0 x1 x2 x3 q4 p5 v3 f (own_d q4 (0 : Int32)) (own_d q4 (1 : Int32)) (own_d q4 (2 : Int32)) (own_d q4 (3 : Int32)) (own_d q4 (4 : Int32)) (own_d q4 (5 : Int32)) (own_d q4 (6 : Int32)) (own_d q4 (7 : Int32)) (own_d q4 (8 : Int32)) (own_d q4 (9 : Int32))) []))
  have f5 : Arv Z h51 f kf .long (10 : Int32) ((own_dm2 gs q4).map Value.long) (.long (0 : Int64)) := V51
  have f6 : (own_dm2 gs q4).length = 10 := ((List.length_set ..).trans hlg)
  refine OG.of (A := T51.setTop (mkF m 325 (own_L35 x0 x1 x2 x3 q4 p5 v3 f (own_d q4 (0 : Int32)) (own_d q4 (1 : Int32)) (own_d q4 (2 : Int32)) (own_d q4 (3 : Int32)) (own_d q4 (4 : Int32)) (own_d q4 (5 : Int32)) (own_d q4 (6 : Int32)) (own_d q4 (7 : Int32)) (own_d q4 (8 : Int32)) (own_d q4 (9 : Int32))) [(.int (3 : Int32)), (.ref f), (.int (3 : Int32)), (.ref f)])) (fun oT oK => ?_) ?_
  · skip
    refine XS.aload X51.here hx rfl (hb hby at_319) rfl rfl  ?_
    show Steps p.tables e below (T51.setTop (mkF m 321 (own_L35 x0 x1 x2 x3 q4 p5 v3 f (own_d q4 (0 : Int32)) (own_d q4 (1 : Int32)) (own_d q4 (2 : Int32)) (own_d q4 (3 : Int32)) (own_d q4 (4 : Int32)) (own_d q4 (5 : Int32)) (own_d q4 (6 : Int32)) (own_d q4 (7 : Int32)) (own_d q4 (8 : Int32)) (own_d q4 (9 : Int32))) [(.ref f)])) _
    refine XS.iconst X51.here hx rfl (hb hby at_321) ?_
    refine XS.aload X51.here hx rfl (hb hby at_322) rfl rfl  ?_
    show Steps p.tables e below (T51.setTop (mkF m 324 (own_L35 x0 x1 x2 x3 q4 p5 v3 f (own_d q4 (0 : Int32)) (own_d q4 (1 : Int32)) (own_d q4 (2 : Int32)) (own_d q4 (3 : Int32)) (own_d q4 (4 : Int32)) (own_d q4 (5 : Int32)) (own_d q4 (6 : Int32)) (own_d q4 (7 : Int32)) (own_d q4 (8 : Int32)) (own_d q4 (9 : Int32))) [(.ref f), (.int (3 : Int32)), (.ref f)])) _
    refine XS.iconst X51.here hx rfl (hb hby at_324) ?_
    exact oK
  obtain ⟨clf7, Arf7, If7, Hf7⟩ := own_rdL f5 f6 (j := (3 : Int32)) (i := 3) rfl (by decide)
  refine OG.of (X51.laload hx (j := (3 : Int32)) (v := (.long ((own_dm2 gs q4).getD 3 0))) (by rw [e51]; exact Arf7.1) (State.isArrayOf_alike hZ.alike Arf7.2.1) Arf7.2.2 If7 Hf7 (g := (mkF m 325 (own_L35 x0 x1 x2 x3 q4 p5 v3 f (own_d q4 (0 : Int32)) (own_d q4 (1 : Int32)) (own_d q4 (2 : Int32)) (own_d q4 (3 : Int32)) (own_d q4 (4 : Int32)) (own_d q4 (5 : Int32)) (own_d q4 (6 : Int32)) (own_d q4 (7 : Int32)) (own_d q4 (8 : Int32)) (own_d q4 (9 : Int32))) [(.int (3 : Int32)), (.ref f), (.int (3 : Int32)), (.ref f)])) rfl rfl (hb hby at_325)) ?_
  show OG _ _ _ _ _ _ _ (T51.setTop (mkF m 326 (own_L35 x0 x1 x2 x3 q4 p5 v3 f (own_d q4 (0 : Int32)) (own_d q4 (1 : Int32)) (own_d q4 (2 : Int32)) (own_d q4 (3 : Int32)) (own_d q4 (4 : Int32)) (own_d q4 (5 : Int32)) (own_d q4 (6 : Int32)) (own_d q4 (7 : Int32)) (own_d q4 (8 : Int32)) (own_d q4 (9 : Int32))) [(.long ((own_dm2 gs q4).getD 3 0)), (.int (3 : Int32)), (.ref f)]))
  refine OG.of (A := T51.setTop (mkF m 336 (own_L35 x0 x1 x2 x3 q4 p5 v3 f (own_d q4 (0 : Int32)) (own_d q4 (1 : Int32)) (own_d q4 (2 : Int32)) (own_d q4 (3 : Int32)) (own_d q4 (4 : Int32)) (own_d q4 (5 : Int32)) (own_d q4 (6 : Int32)) (own_d q4 (7 : Int32)) (own_d q4 (8 : Int32)) (own_d q4 (9 : Int32))) [(.long ((((own_dm2 gs q4).getD 3 0) - ((own_d q4 (3 : Int32)) * (33554432 : Int64))) + (own_d q4 (2 : Int32)))), (.int (3 : Int32)), (.ref f)])) (fun oT oK => ?_) ?_
  · skip
    refine XT.lload X51.here hx rfl (hb hby at_326) rfl  ?_
    show Steps p.tables e below (T51.setTop (mkF m 328 (own_L35 x0 x1 x2 x3 q4 p5 v3 f (own_d q4 (0 : Int32)) (own_d q4 (1 : Int32)) (own_d q4 (2 : Int32)) (own_d q4 (3 : Int32)) (own_d q4 (4 : Int32)) (own_d q4 (5 : Int32)) (own_d q4 (6 : Int32)) (own_d q4 (7 : Int32)) (own_d q4 (8 : Int32)) (own_d q4 (9 : Int32))) [(.long (own_d q4 (3 : Int32))), (.long ((own_dm2 gs q4).getD 3 0)), (.int (3 : Int32)), (.ref f)])) _
    refine X51.ldc2Long hx hown (mvT hZ (own_at hw 17 rfl)) (g := (mkF m 328 (own_L35 x0 x1 x2 x3 q4 p5 v3 f (own_d q4 (0 : Int32)) (own_d q4 (1 : Int32)) (own_d q4 (2 : Int32)) (own_d q4 (3 : Int32)) (own_d q4 (4 : Int32)) (own_d q4 (5 : Int32)) (own_d q4 (6 : Int32)) (own_d q4 (7 : Int32)) (own_d q4 (8 : Int32)) (own_d q4 (9 : Int32))) [(.long (own_d q4 (3 : Int32))), (.long ((own_dm2 gs q4).getD 3 0)), (.int (3 : Int32)), (.ref f)])) rfl (hb hby at_328) _ ?_
    refine XT.lmul X51.here hx rfl (hb hby at_331) rfl ?_
    show Steps p.tables e below (T51.setTop (mkF m 332 (own_L35 x0 x1 x2 x3 q4 p5 v3 f (own_d q4 (0 : Int32)) (own_d q4 (1 : Int32)) (own_d q4 (2 : Int32)) (own_d q4 (3 : Int32)) (own_d q4 (4 : Int32)) (own_d q4 (5 : Int32)) (own_d q4 (6 : Int32)) (own_d q4 (7 : Int32)) (own_d q4 (8 : Int32)) (own_d q4 (9 : Int32))) [(.long ((own_d q4 (3 : Int32)) * (33554432 : Int64))), (.long ((own_dm2 gs q4).getD 3 0)), (.int (3 : Int32)), (.ref f)])) _
    refine XT.lsub X51.here hx rfl (hb hby at_332) rfl ?_
    refine XT.lload X51.here hx rfl (hb hby at_333) rfl  ?_
    show Steps p.tables e below (T51.setTop (mkF m 335 (own_L35 x0 x1 x2 x3 q4 p5 v3 f (own_d q4 (0 : Int32)) (own_d q4 (1 : Int32)) (own_d q4 (2 : Int32)) (own_d q4 (3 : Int32)) (own_d q4 (4 : Int32)) (own_d q4 (5 : Int32)) (own_d q4 (6 : Int32)) (own_d q4 (7 : Int32)) (own_d q4 (8 : Int32)) (own_d q4 (9 : Int32))) [(.long (own_d q4 (2 : Int32))), (.long (((own_dm2 gs q4).getD 3 0) - ((own_d q4 (3 : Int32)) * (33554432 : Int64)))), (.int (3 : Int32)), (.ref f)])) _
    refine XT.ladd X51.here hx rfl (hb hby at_335) rfl ?_
    exact oK
  obtain ⟨T52, h52, X52, e52, W52, V52, st52⟩ := own_stJ X51 hx hZ e51 f5 f6 (j := (3 : Int32)) (i := 3) rfl (by decide) (g := (mkF m 336 (own_L35 x0 x1 x2 x3 q4 p5 v3 f (own_d q4 (0 : Int32)) (own_d q4 (1 : Int32)) (own_d q4 (2 : Int32)) (own_d q4 (3 : Int32)) (own_d q4 (4 : Int32)) (own_d q4 (5 : Int32)) (own_d q4 (6 : Int32)) (own_d q4 (7 : Int32)) (own_d q4 (8 : Int32)) (own_d q4 (9 : Int32))) [(.long ((((own_dm2 gs q4).getD 3 0) - ((own_d q4 (3 : Int32)) * (33554432 : Int64))) + (own_d q4 (2 : Int32)))), (.int (3 : Int32)), (.ref f)])) rfl rfl (hb hby at_336)
  have f8 := (f2).wr W52
  have f10 := (f4).wr W52 gf
  have K52 : Keep h1 h52 [f] := (K51).wr W52 (Or.inl (by simp))
  have Z52 : n0 ≤ h52.size := Nat.le_trans Z51 (Keep.of_wr W52).1
  have N52 := Fr.snoc X52 N51 gf
  refine OG.of st52 ?_
  show OG _ _ _ _ _ _ _ (T52.setTop (mkF m 337 (own_L35 x0 x1 x2 x3 q4 p5 v3 f (own_d q4 (0 : Int32)) (own_d q4 (1 : Int32)) (own_d q4 (2 : Int32)) (own_d q4 (3 : Int32)) (own_d q4 (4 : Int32)) (own_d q4 (5 : Int32)) (own_d q4 (6 : Int32)) (own_d q4 (7 : Int32)) (own_d q4 (8 : Int32)) (own_d q4 (9 : Int32))) []))
  have f11 : Arv Z h52 f kf .long (10 : Int32) ((own_dm3 gs q4).map Value.long) (.long (0 : Int64)) := V52
  have f12 : (own_dm3 gs q4).length = 10 := ((List.length_set ..).trans f6)
  exact own_tail_2 x0 x1 x2 x3 q4 p5 v3 f kf gs wB X52 hx hZ hw hby hml hown hlk hret e52 N52 Z52 (f10) (SB) (TB) (gf) (f8) (f12) (f11) hq0 hq1 hq2 hq3
set_option maxRecDepth 65536 in
set_option maxHeartbeats 40000000 in
theorem own_tail_0 {p : Program} {l : Launch} {e : Env} {s : State} {m : MethodId} {args : Array Value} {below : List Frame} {meth : Method} {c : Code} {T0 : State} {locs : List Loc} {Z : State} {a0 : Array Value} {h1 : Heap} {n0 : Nat} (x0 : Int64) (x1 : Int64) (x2 : Int64) (x3 : Int64) (q4 : Int64) (p5 : Int32) (v3 : Int64) (f : Addr) (kf : ClassId) (gs : List Int64) (wB : Addr)
    (X0 : Stand p l e room_1 s m args below meth c T0 locs 2 14) (hx : p.tables.exec = Jvm.exec) (hZ : Z.Warmed39 s.vm) (hw : ∀ d ∈ tables_1, d.before a0 Z = true) (hby : c.code = code) (hml : c.maxLocals = 43) (hown : s.vm.findClass "com/example/gate_to_gate/gatetogate/io/Field25519EncodePinLaw" = some m.cls) (hlk : meth.locks = false) (hret : meth.sig.returnType = some .boolean) (e0 : T0.heap = h1) (N0 : Fr n0 locs) (Z0 : n0 ≤ h1.size) (hO : Old Z n0 h1) (SB : Sta Z Z.heap "com/example/gate_to_gate/gatetogate/io/Field25519" "BITS" "[I" (.ref wB)) (TB : ∀ j, j < 10 → ORd Z Z.heap wB .int (Int32.ofNat j) (.int (own_bits j))) (gf : n0 ≤ f) (E_f : Exa Z h1 f "[J") (hlg : gs.length = 10) (V_f : Arv Z h1 f kf .long (10 : Int32) (gs.map Value.long) (.long (0 : Int64))) (hq0 : (own_pk (own_bytes (own_fin (own_dm gs q4))) 0) = (if v3 = (9223372036854775807 : Int64) then (if x2 = (-1 : Int64) then (if x1 = (-1 : Int64) then (if x0 < (0 : Int64) then (if x0 < (-19 : Int64) then x0 else (x0 + (19 : Int64))) else x0) else x0) else x0) else x0)) (hq1 : (own_pk (own_bytes (own_fin (own_dm gs q4))) 8) = (if v3 = (9223372036854775807 : Int64) then (if x2 = (-1 : Int64) then (if x1 = (-1 : Int64) then (if x0 < (0 : Int64) then (if x0 < (-19 : Int64) then x1 else (0 : Int64)) else x1) else x1) else x1) else x1)) (hq2 : (own_pk (own_bytes (own_fin (own_dm gs q4))) 16) = (if v3 = (9223372036854775807 : Int64) then (if x2 = (-1 : Int64) then (if x1 = (-1 : Int64) then (if x0 < (0 : Int64) then (if x0 < (-19 : Int64) then x2 else (0 : Int64)) else x2) else x2) else x2) else x2)) (hq3 : (own_pk (own_bytes (own_fin (own_dm gs q4))) 24) = (if v3 = (9223372036854775807 : Int64) then (if x2 = (-1 : Int64) then (if x1 = (-1 : Int64) then (if x0 < (0 : Int64) then (if x0 < (-19 : Int64) then v3 else (0 : Int64)) else v3) else v3) else v3) else v3)) :
    OG p e below s 16 192 (fun v _ L => v = some (.int 1) ∧ Fr n0 L) (T0.setTop (mkF m 261 (own_L35 x0 x1 x2 x3 q4 p5 v3 f (own_d q4 (0 : Int32)) (own_d q4 (1 : Int32)) (own_d q4 (2 : Int32)) (own_d q4 (3 : Int32)) (own_d q4 (4 : Int32)) (own_d q4 (5 : Int32)) (own_d q4 (6 : Int32)) (own_d q4 (7 : Int32)) (own_d q4 (8 : Int32)) (own_d q4 (9 : Int32))) [])) := by
  refine OG.of (A := T0.setTop (mkF m 267 (own_L35 x0 x1 x2 x3 q4 p5 v3 f (own_d q4 (0 : Int32)) (own_d q4 (1 : Int32)) (own_d q4 (2 : Int32)) (own_d q4 (3 : Int32)) (own_d q4 (4 : Int32)) (own_d q4 (5 : Int32)) (own_d q4 (6 : Int32)) (own_d q4 (7 : Int32)) (own_d q4 (8 : Int32)) (own_d q4 (9 : Int32))) [(.int (0 : Int32)), (.ref f), (.int (0 : Int32)), (.ref f)])) (fun oT oK => ?_) ?_
  · skip
    refine XS.aload X0.here hx rfl (hb hby at_261) rfl rfl  ?_
    show Steps p.tables e below (T0.setTop (mkF m 263 (own_L35 x0 x1 x2 x3 q4 p5 v3 f (own_d q4 (0 : Int32)) (own_d q4 (1 : Int32)) (own_d q4 (2 : Int32)) (own_d q4 (3 : Int32)) (own_d q4 (4 : Int32)) (own_d q4 (5 : Int32)) (own_d q4 (6 : Int32)) (own_d q4 (7 : Int32)) (own_d q4 (8 : Int32)) (own_d q4 (9 : Int32))) [(.ref f)])) _
    refine XS.iconst X0.here hx rfl (hb hby at_263) ?_
    refine XS.aload X0.here hx rfl (hb hby at_264) rfl rfl  ?_
    show Steps p.tables e below (T0.setTop (mkF m 266 (own_L35 x0 x1 x2 x3 q4 p5 v3 f (own_d q4 (0 : Int32)) (own_d q4 (1 : Int32)) (own_d q4 (2 : Int32)) (own_d q4 (3 : Int32)) (own_d q4 (4 : Int32)) (own_d q4 (5 : Int32)) (own_d q4 (6 : Int32)) (own_d q4 (7 : Int32)) (own_d q4 (8 : Int32)) (own_d q4 (9 : Int32))) [(.ref f), (.int (0 : Int32)), (.ref f)])) _
    refine XS.iconst X0.here hx rfl (hb hby at_266) ?_
    exact oK
  obtain ⟨clf1, Arf1, If1, Hf1⟩ := own_rdL V_f hlg (j := (0 : Int32)) (i := 0) rfl (by decide)
  refine OG.of (X0.laload hx (j := (0 : Int32)) (v := (.long (gs.getD 0 0))) (by rw [e0]; exact Arf1.1) (State.isArrayOf_alike hZ.alike Arf1.2.1) Arf1.2.2 If1 Hf1 (g := (mkF m 267 (own_L35 x0 x1 x2 x3 q4 p5 v3 f (own_d q4 (0 : Int32)) (own_d q4 (1 : Int32)) (own_d q4 (2 : Int32)) (own_d q4 (3 : Int32)) (own_d q4 (4 : Int32)) (own_d q4 (5 : Int32)) (own_d q4 (6 : Int32)) (own_d q4 (7 : Int32)) (own_d q4 (8 : Int32)) (own_d q4 (9 : Int32))) [(.int (0 : Int32)), (.ref f), (.int (0 : Int32)), (.ref f)])) rfl rfl (hb hby at_267)) ?_
  show OG _ _ _ _ _ _ _ (T0.setTop (mkF m 268 (own_L35 x0 x1 x2 x3 q4 p5 v3 f (own_d q4 (0 : Int32)) (own_d q4 (1 : Int32)) (own_d q4 (2 : Int32)) (own_d q4 (3 : Int32)) (own_d q4 (4 : Int32)) (own_d q4 (5 : Int32)) (own_d q4 (6 : Int32)) (own_d q4 (7 : Int32)) (own_d q4 (8 : Int32)) (own_d q4 (9 : Int32))) [(.long (gs.getD 0 0)), (.int (0 : Int32)), (.ref f)]))
  refine OG.of (A := T0.setTop (mkF m 282 (own_L35 x0 x1 x2 x3 q4 p5 v3 f (own_d q4 (0 : Int32)) (own_d q4 (1 : Int32)) (own_d q4 (2 : Int32)) (own_d q4 (3 : Int32)) (own_d q4 (4 : Int32)) (own_d q4 (5 : Int32)) (own_d q4 (6 : Int32)) (own_d q4 (7 : Int32)) (own_d q4 (8 : Int32)) (own_d q4 (9 : Int32))) [(.long (((gs.getD 0 0) - ((own_d q4 (0 : Int32)) * (67108864 : Int64))) + ((19 : Int64) * (own_d q4 (9 : Int32))))), (.int (0 : Int32)), (.ref f)])) (fun oT oK => ?_) ?_
  · skip
    refine XT.lload X0.here hx rfl (hb hby at_268) rfl  ?_
    show Steps p.tables e below (T0.setTop (mkF m 270 (own_L35 x0 x1 x2 x3 q4 p5 v3 f (own_d q4 (0 : Int32)) (own_d q4 (1 : Int32)) (own_d q4 (2 : Int32)) (own_d q4 (3 : Int32)) (own_d q4 (4 : Int32)) (own_d q4 (5 : Int32)) (own_d q4 (6 : Int32)) (own_d q4 (7 : Int32)) (own_d q4 (8 : Int32)) (own_d q4 (9 : Int32))) [(.long (own_d q4 (0 : Int32))), (.long (gs.getD 0 0)), (.int (0 : Int32)), (.ref f)])) _
    refine X0.ldc2Long hx hown (mvT hZ (own_at hw 15 rfl)) (g := (mkF m 270 (own_L35 x0 x1 x2 x3 q4 p5 v3 f (own_d q4 (0 : Int32)) (own_d q4 (1 : Int32)) (own_d q4 (2 : Int32)) (own_d q4 (3 : Int32)) (own_d q4 (4 : Int32)) (own_d q4 (5 : Int32)) (own_d q4 (6 : Int32)) (own_d q4 (7 : Int32)) (own_d q4 (8 : Int32)) (own_d q4 (9 : Int32))) [(.long (own_d q4 (0 : Int32))), (.long (gs.getD 0 0)), (.int (0 : Int32)), (.ref f)])) rfl (hb hby at_270) _ ?_
    refine XT.lmul X0.here hx rfl (hb hby at_273) rfl ?_
    show Steps p.tables e below (T0.setTop (mkF m 274 (own_L35 x0 x1 x2 x3 q4 p5 v3 f (own_d q4 (0 : Int32)) (own_d q4 (1 : Int32)) (own_d q4 (2 : Int32)) (own_d q4 (3 : Int32)) (own_d q4 (4 : Int32)) (own_d q4 (5 : Int32)) (own_d q4 (6 : Int32)) (own_d q4 (7 : Int32)) (own_d q4 (8 : Int32)) (own_d q4 (9 : Int32))) [(.long ((own_d q4 (0 : Int32)) * (67108864 : Int64))), (.long (gs.getD 0 0)), (.int (0 : Int32)), (.ref f)])) _
    refine XT.lsub X0.here hx rfl (hb hby at_274) rfl ?_
    refine X0.ldc2Long hx hown (mvT hZ (own_at hw 16 rfl)) (g := (mkF m 275 (own_L35 x0 x1 x2 x3 q4 p5 v3 f (own_d q4 (0 : Int32)) (own_d q4 (1 : Int32)) (own_d q4 (2 : Int32)) (own_d q4 (3 : Int32)) (own_d q4 (4 : Int32)) (own_d q4 (5 : Int32)) (own_d q4 (6 : Int32)) (own_d q4 (7 : Int32)) (own_d q4 (8 : Int32)) (own_d q4 (9 : Int32))) [(.long ((gs.getD 0 0) - ((own_d q4 (0 : Int32)) * (67108864 : Int64)))), (.int (0 : Int32)), (.ref f)])) rfl (hb hby at_275) _ ?_
    show Steps p.tables e below (T0.setTop (mkF m 278 (own_L35 x0 x1 x2 x3 q4 p5 v3 f (own_d q4 (0 : Int32)) (own_d q4 (1 : Int32)) (own_d q4 (2 : Int32)) (own_d q4 (3 : Int32)) (own_d q4 (4 : Int32)) (own_d q4 (5 : Int32)) (own_d q4 (6 : Int32)) (own_d q4 (7 : Int32)) (own_d q4 (8 : Int32)) (own_d q4 (9 : Int32))) [(.long (19 : Int64)), (.long ((gs.getD 0 0) - ((own_d q4 (0 : Int32)) * (67108864 : Int64)))), (.int (0 : Int32)), (.ref f)])) _
    refine XT.lload X0.here hx rfl (hb hby at_278) rfl  ?_
    refine XT.lmul X0.here hx rfl (hb hby at_280) rfl ?_
    show Steps p.tables e below (T0.setTop (mkF m 281 (own_L35 x0 x1 x2 x3 q4 p5 v3 f (own_d q4 (0 : Int32)) (own_d q4 (1 : Int32)) (own_d q4 (2 : Int32)) (own_d q4 (3 : Int32)) (own_d q4 (4 : Int32)) (own_d q4 (5 : Int32)) (own_d q4 (6 : Int32)) (own_d q4 (7 : Int32)) (own_d q4 (8 : Int32)) (own_d q4 (9 : Int32))) [(.long ((19 : Int64) * (own_d q4 (9 : Int32)))), (.long ((gs.getD 0 0) - ((own_d q4 (0 : Int32)) * (67108864 : Int64)))), (.int (0 : Int32)), (.ref f)])) _
    refine XT.ladd X0.here hx rfl (hb hby at_281) rfl ?_
    exact oK
  obtain ⟨T51, h51, X51, e51, W51, V51, st51⟩ := own_stJ X0 hx hZ e0 V_f hlg (j := (0 : Int32)) (i := 0) rfl (by decide) (g := (mkF m 282 (own_L35 x0 x1 x2 x3 q4 p5 v3 f (own_d q4 (0 : Int32)) (own_d q4 (1 : Int32)) (own_d q4 (2 : Int32)) (own_d q4 (3 : Int32)) (own_d q4 (4 : Int32)) (own_d q4 (5 : Int32)) (own_d q4 (6 : Int32)) (own_d q4 (7 : Int32)) (own_d q4 (8 : Int32)) (own_d q4 (9 : Int32))) [(.long (((gs.getD 0 0) - ((own_d q4 (0 : Int32)) * (67108864 : Int64))) + ((19 : Int64) * (own_d q4 (9 : Int32))))), (.int (0 : Int32)), (.ref f)])) rfl rfl (hb hby at_282)
  have f2 := (E_f).wr W51
  have f4 := (hO).wr W51 gf
  have K51 : Keep h1 h51 [f] := ((Keep.refl h1 [f])).wr W51 (Or.inl (by simp))
  have Z51 : n0 ≤ h51.size := Nat.le_trans Z0 (Keep.of_wr W51).1
  have N51 := Fr.snoc X51 N0 gf
  refine OG.of st51 ?_
  show OG _ _ _ _ _ _ _ (T51.setTop (mkF m 283 (own_L35 x0 x1 x2 x3 q4 p5 v3 f (own_d q4 (0 : Int32)) (own_d q4 (1 : Int32)) (own_d q4 (2 : Int32)) (own_d q4 (3 : Int32)) (own_d q4 (4 : Int32)) (own_d q4 (5 : Int32)) (own_d q4 (6 : Int32)) (own_d q4 (7 : Int32)) (own_d q4 (8 : Int32)) (own_d q4 (9 : Int32))) []))
  have f5 : Arv Z h51 f kf .long (10 : Int32) ((own_dm0 gs q4).map Value.long) (.long (0 : Int64)) := V51
  have f6 : (own_dm0 gs q4).length = 10 := ((List.length_set ..).trans hlg)
  refine OG.of (A := T51.setTop (mkF m 289 (own_L35 x0 x1 x2 x3 q4 p5 v3 f (own_d q4 (0 : Int32)) (own_d q4 (1 : Int32)) (own_d q4 (2 : Int32)) (own_d q4 (3 : Int32)) (own_d q4 (4 : Int32)) (own_d q4 (5 : Int32)) (own_d q4 (6 : Int32)) (own_d q4 (7 : Int32)) (own_d q4 (8 : Int32)) (own_d q4 (9 : Int32))) [(.int (1 : Int32)), (.ref f), (.int (1 : Int32)), (.ref f)])) (fun oT oK => ?_) ?_
  · skip
    refine XS.aload X51.here hx rfl (hb hby at_283) rfl rfl  ?_
    show Steps p.tables e below (T51.setTop (mkF m 285 (own_L35 x0 x1 x2 x3 q4 p5 v3 f (own_d q4 (0 : Int32)) (own_d q4 (1 : Int32)) (own_d q4 (2 : Int32)) (own_d q4 (3 : Int32)) (own_d q4 (4 : Int32)) (own_d q4 (5 : Int32)) (own_d q4 (6 : Int32)) (own_d q4 (7 : Int32)) (own_d q4 (8 : Int32)) (own_d q4 (9 : Int32))) [(.ref f)])) _
    refine XS.iconst X51.here hx rfl (hb hby at_285) ?_
    refine XS.aload X51.here hx rfl (hb hby at_286) rfl rfl  ?_
    show Steps p.tables e below (T51.setTop (mkF m 288 (own_L35 x0 x1 x2 x3 q4 p5 v3 f (own_d q4 (0 : Int32)) (own_d q4 (1 : Int32)) (own_d q4 (2 : Int32)) (own_d q4 (3 : Int32)) (own_d q4 (4 : Int32)) (own_d q4 (5 : Int32)) (own_d q4 (6 : Int32)) (own_d q4 (7 : Int32)) (own_d q4 (8 : Int32)) (own_d q4 (9 : Int32))) [(.ref f), (.int (1 : Int32)), (.ref f)])) _
    refine XS.iconst X51.here hx rfl (hb hby at_288) ?_
    exact oK
  obtain ⟨clf7, Arf7, If7, Hf7⟩ := own_rdL f5 f6 (j := (1 : Int32)) (i := 1) rfl (by decide)
  refine OG.of (X51.laload hx (j := (1 : Int32)) (v := (.long ((own_dm0 gs q4).getD 1 0))) (by rw [e51]; exact Arf7.1) (State.isArrayOf_alike hZ.alike Arf7.2.1) Arf7.2.2 If7 Hf7 (g := (mkF m 289 (own_L35 x0 x1 x2 x3 q4 p5 v3 f (own_d q4 (0 : Int32)) (own_d q4 (1 : Int32)) (own_d q4 (2 : Int32)) (own_d q4 (3 : Int32)) (own_d q4 (4 : Int32)) (own_d q4 (5 : Int32)) (own_d q4 (6 : Int32)) (own_d q4 (7 : Int32)) (own_d q4 (8 : Int32)) (own_d q4 (9 : Int32))) [(.int (1 : Int32)), (.ref f), (.int (1 : Int32)), (.ref f)])) rfl rfl (hb hby at_289)) ?_
  show OG _ _ _ _ _ _ _ (T51.setTop (mkF m 290 (own_L35 x0 x1 x2 x3 q4 p5 v3 f (own_d q4 (0 : Int32)) (own_d q4 (1 : Int32)) (own_d q4 (2 : Int32)) (own_d q4 (3 : Int32)) (own_d q4 (4 : Int32)) (own_d q4 (5 : Int32)) (own_d q4 (6 : Int32)) (own_d q4 (7 : Int32)) (own_d q4 (8 : Int32)) (own_d q4 (9 : Int32))) [(.long ((own_dm0 gs q4).getD 1 0)), (.int (1 : Int32)), (.ref f)]))
  refine OG.of (A := T51.setTop (mkF m 300 (own_L35 x0 x1 x2 x3 q4 p5 v3 f (own_d q4 (0 : Int32)) (own_d q4 (1 : Int32)) (own_d q4 (2 : Int32)) (own_d q4 (3 : Int32)) (own_d q4 (4 : Int32)) (own_d q4 (5 : Int32)) (own_d q4 (6 : Int32)) (own_d q4 (7 : Int32)) (own_d q4 (8 : Int32)) (own_d q4 (9 : Int32))) [(.long ((((own_dm0 gs q4).getD 1 0) - ((own_d q4 (1 : Int32)) * (33554432 : Int64))) + (own_d q4 (0 : Int32)))), (.int (1 : Int32)), (.ref f)])) (fun oT oK => ?_) ?_
  · skip
    refine XT.lload X51.here hx rfl (hb hby at_290) rfl  ?_
    show Steps p.tables e below (T51.setTop (mkF m 292 (own_L35 x0 x1 x2 x3 q4 p5 v3 f (own_d q4 (0 : Int32)) (own_d q4 (1 : Int32)) (own_d q4 (2 : Int32)) (own_d q4 (3 : Int32)) (own_d q4 (4 : Int32)) (own_d q4 (5 : Int32)) (own_d q4 (6 : Int32)) (own_d q4 (7 : Int32)) (own_d q4 (8 : Int32)) (own_d q4 (9 : Int32))) [(.long (own_d q4 (1 : Int32))), (.long ((own_dm0 gs q4).getD 1 0)), (.int (1 : Int32)), (.ref f)])) _
    refine X51.ldc2Long hx hown (mvT hZ (own_at hw 17 rfl)) (g := (mkF m 292 (own_L35 x0 x1 x2 x3 q4 p5 v3 f (own_d q4 (0 : Int32)) (own_d q4 (1 : Int32)) (own_d q4 (2 : Int32)) (own_d q4 (3 : Int32)) (own_d q4 (4 : Int32)) (own_d q4 (5 : Int32)) (own_d q4 (6 : Int32)) (own_d q4 (7 : Int32)) (own_d q4 (8 : Int32)) (own_d q4 (9 : Int32))) [(.long (own_d q4 (1 : Int32))), (.long ((own_dm0 gs q4).getD 1 0)), (.int (1 : Int32)), (.ref f)])) rfl (hb hby at_292) _ ?_
    refine XT.lmul X51.here hx rfl (hb hby at_295) rfl ?_
    show Steps p.tables e below (T51.setTop (mkF m 296 (own_L35 x0 x1 x2 x3 q4 p5 v3 f (own_d q4 (0 : Int32)) (own_d q4 (1 : Int32)) (own_d q4 (2 : Int32)) (own_d q4 (3 : Int32)) (own_d q4 (4 : Int32)) (own_d q4 (5 : Int32)) (own_d q4 (6 : Int32)) (own_d q4 (7 : Int32)) (own_d q4 (8 : Int32)) (own_d q4 (9 : Int32))) [(.long ((own_d q4 (1 : Int32)) * (33554432 : Int64))), (.long ((own_dm0 gs q4).getD 1 0)), (.int (1 : Int32)), (.ref f)])) _
    refine XT.lsub X51.here hx rfl (hb hby at_296) rfl ?_
    refine XT.lload X51.here hx rfl (hb hby at_297) rfl  ?_
    show Steps p.tables e below (T51.setTop (mkF m 299 (own_L35 x0 x1 x2 x3 q4 p5 v3 f (own_d q4 (0 : Int32)) (own_d q4 (1 : Int32)) (own_d q4 (2 : Int32)) (own_d q4 (3 : Int32)) (own_d q4 (4 : Int32)) (own_d q4 (5 : Int32)) (own_d q4 (6 : Int32)) (own_d q4 (7 : Int32)) (own_d q4 (8 : Int32)) (own_d q4 (9 : Int32))) [(.long (own_d q4 (0 : Int32))), (.long (((own_dm0 gs q4).getD 1 0) - ((own_d q4 (1 : Int32)) * (33554432 : Int64)))), (.int (1 : Int32)), (.ref f)])) _
    refine XT.ladd X51.here hx rfl (hb hby at_299) rfl ?_
    exact oK
  obtain ⟨T52, h52, X52, e52, W52, V52, st52⟩ := own_stJ X51 hx hZ e51 f5 f6 (j := (1 : Int32)) (i := 1) rfl (by decide) (g := (mkF m 300 (own_L35 x0 x1 x2 x3 q4 p5 v3 f (own_d q4 (0 : Int32)) (own_d q4 (1 : Int32)) (own_d q4 (2 : Int32)) (own_d q4 (3 : Int32)) (own_d q4 (4 : Int32)) (own_d q4 (5 : Int32)) (own_d q4 (6 : Int32)) (own_d q4 (7 : Int32)) (own_d q4 (8 : Int32)) (own_d q4 (9 : Int32))) [(.long ((((own_dm0 gs q4).getD 1 0) - ((own_d q4 (1 : Int32)) * (33554432 : Int64))) + (own_d q4 (0 : Int32)))), (.int (1 : Int32)), (.ref f)])) rfl rfl (hb hby at_300)
  have f8 := (f2).wr W52
  have f10 := (f4).wr W52 gf
  have K52 : Keep h1 h52 [f] := (K51).wr W52 (Or.inl (by simp))
  have Z52 : n0 ≤ h52.size := Nat.le_trans Z51 (Keep.of_wr W52).1
  have N52 := Fr.snoc X52 N51 gf
  refine OG.of st52 ?_
  show OG _ _ _ _ _ _ _ (T52.setTop (mkF m 301 (own_L35 x0 x1 x2 x3 q4 p5 v3 f (own_d q4 (0 : Int32)) (own_d q4 (1 : Int32)) (own_d q4 (2 : Int32)) (own_d q4 (3 : Int32)) (own_d q4 (4 : Int32)) (own_d q4 (5 : Int32)) (own_d q4 (6 : Int32)) (own_d q4 (7 : Int32)) (own_d q4 (8 : Int32)) (own_d q4 (9 : Int32))) []))
  have f11 : Arv Z h52 f kf .long (10 : Int32) ((own_dm1 gs q4).map Value.long) (.long (0 : Int64)) := V52
  have f12 : (own_dm1 gs q4).length = 10 := ((List.length_set ..).trans f6)
  exact own_tail_1 x0 x1 x2 x3 q4 p5 v3 f kf gs wB X52 hx hZ hw hby hml hown hlk hret e52 N52 Z52 (f10) (SB) (TB) (gf) (f8) (f12) (f11) hq0 hq1 hq2 hq3
theorem pd__JI_J : parseMethodDescriptor "(JI)J" = some ⟨[.long, .int], some .long⟩ := by decide +kernel
set_option maxRecDepth 65536 in
set_option maxHeartbeats 40000000 in
theorem own_tail {p : Program} {l : Launch} {e : Env} {s : State} {m : MethodId} {args : Array Value} {below : List Frame} {meth : Method} {c : Code} {T0 : State} {locs : List Loc} {Z : State} {a0 : Array Value} {h1 : Heap} {n0 : Nat} (x0 : Int64) (x1 : Int64) (x2 : Int64) (x3 : Int64) (q4 : Int64) (p5 : Int32) (v3 : Int64) (f : Addr) (kf : ClassId) (gs : List Int64) (wB : Addr)
    (X0 : Stand p l e room_1 s m args below meth c T0 locs 2 14) (hx : p.tables.exec = Jvm.exec) (hZ : Z.Warmed39 s.vm) (hw : ∀ d ∈ tables_1, d.before a0 Z = true) (hby : c.code = code) (hml : c.maxLocals = 43) (hown : s.vm.findClass "com/example/gate_to_gate/gatetogate/io/Field25519EncodePinLaw" = some m.cls) (hlk : meth.locks = false) (hret : meth.sig.returnType = some .boolean) (e0 : T0.heap = h1) (N0 : Fr n0 locs) (Z0 : n0 ≤ h1.size) (hO : Old Z n0 h1) (SB : Sta Z Z.heap "com/example/gate_to_gate/gatetogate/io/Field25519" "BITS" "[I" (.ref wB)) (TB : ∀ j, j < 10 → ORd Z Z.heap wB .int (Int32.ofNat j) (.int (own_bits j))) (gf : n0 ≤ f) (E_f : Exa Z h1 f "[J") (hlg : gs.length = 10) (V_f : Arv Z h1 f kf .long (10 : Int32) (gs.map Value.long) (.long (0 : Int64))) (hq0 : (own_pk (own_bytes (own_fin (own_dm gs q4))) 0) = (if v3 = (9223372036854775807 : Int64) then (if x2 = (-1 : Int64) then (if x1 = (-1 : Int64) then (if x0 < (0 : Int64) then (if x0 < (-19 : Int64) then x0 else (x0 + (19 : Int64))) else x0) else x0) else x0) else x0)) (hq1 : (own_pk (own_bytes (own_fin (own_dm gs q4))) 8) = (if v3 = (9223372036854775807 : Int64) then (if x2 = (-1 : Int64) then (if x1 = (-1 : Int64) then (if x0 < (0 : Int64) then (if x0 < (-19 : Int64) then x1 else (0 : Int64)) else x1) else x1) else x1) else x1)) (hq2 : (own_pk (own_bytes (own_fin (own_dm gs q4))) 16) = (if v3 = (9223372036854775807 : Int64) then (if x2 = (-1 : Int64) then (if x1 = (-1 : Int64) then (if x0 < (0 : Int64) then (if x0 < (-19 : Int64) then x2 else (0 : Int64)) else x2) else x2) else x2) else x2)) (hq3 : (own_pk (own_bytes (own_fin (own_dm gs q4))) 24) = (if v3 = (9223372036854775807 : Int64) then (if x2 = (-1 : Int64) then (if x1 = (-1 : Int64) then (if x0 < (0 : Int64) then (if x0 < (-19 : Int64) then v3 else (0 : Int64)) else v3) else v3) else v3) else v3)) :
    OG p e below s 16 192 (fun v _ L => v = some (.int 1) ∧ Fr n0 L) (T0.setTop (mkF m 177 (own_L25 x0 x1 x2 x3 q4 p5 v3 f) [])) := by
  refine OG.of (A := T0.setTop (mkF m 180 (own_L25 x0 x1 x2 x3 q4 p5 v3 f) [(.int (0 : Int32)), (.long q4)])) (fun oT oK => ?_) ?_
  · skip
    refine XT.lload X0.here hx rfl (hb hby at_177) rfl  ?_
    show Steps p.tables e below (T0.setTop (mkF m 179 (own_L25 x0 x1 x2 x3 q4 p5 v3 f) [(.long q4)])) _
    refine XS.iconst X0.here hx rfl (hb hby at_179) ?_
    exact oK
  obtain ⟨_, _, ⟨T51, L51, k51, n51⟩, -, X51, ⟨Lc51, hQ51, l51, y51, z51⟩, st51⟩ := Jvm.LawKit.callS X0 hx (y := (⟨"com/example/gate_to_gate/gatetogate/io/Field25519EncodePinLaw", "d", "(JI)J"⟩ : MethodName)) hown (mvT hZ (own_at hw 10 rfl)) (mvT hZ (own_at hw 11 rfl)) (mvT hZ (own_at hw 12 rfl)) (mvT hZ (own_at hw 13 rfl)) (by decide) (backOf (W := 0) (rmD l Z a0 hw [] q4 (0 : Int32)  h1 n0 (Z0)) hZ (own_at hw 13 rfl) (own_at hw 12 rfl) (by decide) (by decide)) (g := (mkF m 180 (own_L25 x0 x1 x2 x3 q4 p5 v3 f) [(.int (0 : Int32)), (.long q4)])) rfl (by rw [hml]; rfl) (argsL := [(.long q4), (.int (0 : Int32))]) (rest := []) (lenOf pd__JI_J rfl) rfl (by show 2 * 0 + _ ≤ _; exact Nat.le_of_eq rfl) (hb hby at_180) (fun _ _ => ⟨rfl, e0, (by decide : 2 + 0 ≤ _), (by decide : 14 + 0 ≤ _)⟩)
  dsimp only [Pt.U, Pt.locs, Pt.cells, Pt.slots] at X51 l51 y51 z51 st51 hQ51
  subst l51 y51 z51
  obtain ⟨rfl, N51q, e51⟩ := hQ51
  have N51 := Fr.app N0 N51q
  refine OG.of st51 ?_
  show OG _ _ _ _ _ _ _ (T51.setTop (mkF m 183 (own_L25 x0 x1 x2 x3 q4 p5 v3 f) [(.long (own_d q4 (0 : Int32)))]))
  refine OG.of (A := T51.setTop (mkF m 188 (own_L26 x0 x1 x2 x3 q4 p5 v3 f (own_d q4 (0 : Int32))) [(.int (1 : Int32)), (.long q4)])) (fun oT oK => ?_) ?_
  · skip
    refine XT.lstore X51.here hx rfl (hb hby at_183) rfl (l' := (own_L26 x0 x1 x2 x3 q4 p5 v3 f (own_d q4 (0 : Int32)))) rfl ?_
    show Steps p.tables e below (T51.setTop (mkF m 185 (own_L26 x0 x1 x2 x3 q4 p5 v3 f (own_d q4 (0 : Int32))) [])) _
    refine XT.lload X51.here hx rfl (hb hby at_185) rfl  ?_
    refine XS.iconst X51.here hx rfl (hb hby at_187) ?_
    exact oK
  obtain ⟨_, _, ⟨T52, L52, k52, n52⟩, -, X52, ⟨Lc52, hQ52, l52, y52, z52⟩, st52⟩ := Jvm.LawKit.callS X51 hx (y := (⟨"com/example/gate_to_gate/gatetogate/io/Field25519EncodePinLaw", "d", "(JI)J"⟩ : MethodName)) hown (mvT hZ (own_at hw 10 rfl)) (mvT hZ (own_at hw 11 rfl)) (mvT hZ (own_at hw 12 rfl)) (mvT hZ (own_at hw 13 rfl)) (by decide) (backOf (W := 0) (rmD l Z a0 hw [] q4 (1 : Int32)  h1 n0 (Z0)) hZ (own_at hw 13 rfl) (own_at hw 12 rfl) (by decide) (by decide)) (g := (mkF m 188 (own_L26 x0 x1 x2 x3 q4 p5 v3 f (own_d q4 (0 : Int32))) [(.int (1 : Int32)), (.long q4)])) rfl (by rw [hml]; rfl) (argsL := [(.long q4), (.int (1 : Int32))]) (rest := []) (lenOf pd__JI_J rfl) rfl (by show 2 * 0 + _ ≤ _; exact Nat.le_of_eq rfl) (hb hby at_188) (fun _ _ => ⟨rfl, e51, (by decide : 2 + 0 ≤ _), (by decide : 14 + 0 ≤ _)⟩)
  dsimp only [Pt.U, Pt.locs, Pt.cells, Pt.slots] at X52 l52 y52 z52 st52 hQ52
  subst l52 y52 z52
  obtain ⟨rfl, N52q, e52⟩ := hQ52
  have N52 := Fr.app N51 N52q
  refine OG.of st52 ?_
  show OG _ _ _ _ _ _ _ (T52.setTop (mkF m 191 (own_L26 x0 x1 x2 x3 q4 p5 v3 f (own_d q4 (0 : Int32))) [(.long (own_d q4 (1 : Int32)))]))
  refine OG.of (A := T52.setTop (mkF m 196 (own_L27 x0 x1 x2 x3 q4 p5 v3 f (own_d q4 (0 : Int32)) (own_d q4 (1 : Int32))) [(.int (2 : Int32)), (.long q4)])) (fun oT oK => ?_) ?_
  · skip
    refine XT.lstore X52.here hx rfl (hb hby at_191) rfl (l' := (own_L27 x0 x1 x2 x3 q4 p5 v3 f (own_d q4 (0 : Int32)) (own_d q4 (1 : Int32)))) rfl ?_
    show Steps p.tables e below (T52.setTop (mkF m 193 (own_L27 x0 x1 x2 x3 q4 p5 v3 f (own_d q4 (0 : Int32)) (own_d q4 (1 : Int32))) [])) _
    refine XT.lload X52.here hx rfl (hb hby at_193) rfl  ?_
    refine XS.iconst X52.here hx rfl (hb hby at_195) ?_
    exact oK
  obtain ⟨_, _, ⟨T53, L53, k53, n53⟩, -, X53, ⟨Lc53, hQ53, l53, y53, z53⟩, st53⟩ := Jvm.LawKit.callS X52 hx (y := (⟨"com/example/gate_to_gate/gatetogate/io/Field25519EncodePinLaw", "d", "(JI)J"⟩ : MethodName)) hown (mvT hZ (own_at hw 10 rfl)) (mvT hZ (own_at hw 11 rfl)) (mvT hZ (own_at hw 12 rfl)) (mvT hZ (own_at hw 13 rfl)) (by decide) (backOf (W := 0) (rmD l Z a0 hw [] q4 (2 : Int32)  h1 n0 (Z0)) hZ (own_at hw 13 rfl) (own_at hw 12 rfl) (by decide) (by decide)) (g := (mkF m 196 (own_L27 x0 x1 x2 x3 q4 p5 v3 f (own_d q4 (0 : Int32)) (own_d q4 (1 : Int32))) [(.int (2 : Int32)), (.long q4)])) rfl (by rw [hml]; rfl) (argsL := [(.long q4), (.int (2 : Int32))]) (rest := []) (lenOf pd__JI_J rfl) rfl (by show 2 * 0 + _ ≤ _; exact Nat.le_of_eq rfl) (hb hby at_196) (fun _ _ => ⟨rfl, e52, (by decide : 2 + 0 ≤ _), (by decide : 14 + 0 ≤ _)⟩)
  dsimp only [Pt.U, Pt.locs, Pt.cells, Pt.slots] at X53 l53 y53 z53 st53 hQ53
  subst l53 y53 z53
  obtain ⟨rfl, N53q, e53⟩ := hQ53
  have N53 := Fr.app N52 N53q
  refine OG.of st53 ?_
  show OG _ _ _ _ _ _ _ (T53.setTop (mkF m 199 (own_L27 x0 x1 x2 x3 q4 p5 v3 f (own_d q4 (0 : Int32)) (own_d q4 (1 : Int32))) [(.long (own_d q4 (2 : Int32)))]))
  refine OG.of (A := T53.setTop (mkF m 204 (own_L28 x0 x1 x2 x3 q4 p5 v3 f (own_d q4 (0 : Int32)) (own_d q4 (1 : Int32)) (own_d q4 (2 : Int32))) [(.int (3 : Int32)), (.long q4)])) (fun oT oK => ?_) ?_
  · skip
    refine XT.lstore X53.here hx rfl (hb hby at_199) rfl (l' := (own_L28 x0 x1 x2 x3 q4 p5 v3 f (own_d q4 (0 : Int32)) (own_d q4 (1 : Int32)) (own_d q4 (2 : Int32)))) rfl ?_
    show Steps p.tables e below (T53.setTop (mkF m 201 (own_L28 x0 x1 x2 x3 q4 p5 v3 f (own_d q4 (0 : Int32)) (own_d q4 (1 : Int32)) (own_d q4 (2 : Int32))) [])) _
    refine XT.lload X53.here hx rfl (hb hby at_201) rfl  ?_
    refine XS.iconst X53.here hx rfl (hb hby at_203) ?_
    exact oK
  obtain ⟨_, _, ⟨T54, L54, k54, n54⟩, -, X54, ⟨Lc54, hQ54, l54, y54, z54⟩, st54⟩ := Jvm.LawKit.callS X53 hx (y := (⟨"com/example/gate_to_gate/gatetogate/io/Field25519EncodePinLaw", "d", "(JI)J"⟩ : MethodName)) hown (mvT hZ (own_at hw 10 rfl)) (mvT hZ (own_at hw 11 rfl)) (mvT hZ (own_at hw 12 rfl)) (mvT hZ (own_at hw 13 rfl)) (by decide) (backOf (W := 0) (rmD l Z a0 hw [] q4 (3 : Int32)  h1 n0 (Z0)) hZ (own_at hw 13 rfl) (own_at hw 12 rfl) (by decide) (by decide)) (g := (mkF m 204 (own_L28 x0 x1 x2 x3 q4 p5 v3 f (own_d q4 (0 : Int32)) (own_d q4 (1 : Int32)) (own_d q4 (2 : Int32))) [(.int (3 : Int32)), (.long q4)])) rfl (by rw [hml]; rfl) (argsL := [(.long q4), (.int (3 : Int32))]) (rest := []) (lenOf pd__JI_J rfl) rfl (by show 2 * 0 + _ ≤ _; exact Nat.le_of_eq rfl) (hb hby at_204) (fun _ _ => ⟨rfl, e53, (by decide : 2 + 0 ≤ _), (by decide : 14 + 0 ≤ _)⟩)
  dsimp only [Pt.U, Pt.locs, Pt.cells, Pt.slots] at X54 l54 y54 z54 st54 hQ54
  subst l54 y54 z54
  obtain ⟨rfl, N54q, e54⟩ := hQ54
  have N54 := Fr.app N53 N54q
  refine OG.of st54 ?_
  show OG _ _ _ _ _ _ _ (T54.setTop (mkF m 207 (own_L28 x0 x1 x2 x3 q4 p5 v3 f (own_d q4 (0 : Int32)) (own_d q4 (1 : Int32)) (own_d q4 (2 : Int32))) [(.long (own_d q4 (3 : Int32)))]))
  refine OG.of (A := T54.setTop (mkF m 212 (own_L29 x0 x1 x2 x3 q4 p5 v3 f (own_d q4 (0 : Int32)) (own_d q4 (1 : Int32)) (own_d q4 (2 : Int32)) (own_d q4 (3 : Int32))) [(.int (4 : Int32)), (.long q4)])) (fun oT oK => ?_) ?_
  · skip
    refine XT.lstore X54.here hx rfl (hb hby at_207) rfl (l' := (own_L29 x0 x1 x2 x3 q4 p5 v3 f (own_d q4 (0 : Int32)) (own_d q4 (1 : Int32)) (own_d q4 (2 : Int32)) (own_d q4 (3 : Int32)))) rfl ?_
    show Steps p.tables e below (T54.setTop (mkF m 209 (own_L29 x0 x1 x2 x3 q4 p5 v3 f (own_d q4 (0 : Int32)) (own_d q4 (1 : Int32)) (own_d q4 (2 : Int32)) (own_d q4 (3 : Int32))) [])) _
    refine XT.lload X54.here hx rfl (hb hby at_209) rfl  ?_
    refine XS.iconst X54.here hx rfl (hb hby at_211) ?_
    exact oK
  obtain ⟨_, _, ⟨T55, L55, k55, n55⟩, -, X55, ⟨Lc55, hQ55, l55, y55, z55⟩, st55⟩ := Jvm.LawKit.callS X54 hx (y := (⟨"com/example/gate_to_gate/gatetogate/io/Field25519EncodePinLaw", "d", "(JI)J"⟩ : MethodName)) hown (mvT hZ (own_at hw 10 rfl)) (mvT hZ (own_at hw 11 rfl)) (mvT hZ (own_at hw 12 rfl)) (mvT hZ (own_at hw 13 rfl)) (by decide) (backOf (W := 0) (rmD l Z a0 hw [] q4 (4 : Int32)  h1 n0 (Z0)) hZ (own_at hw 13 rfl) (own_at hw 12 rfl) (by decide) (by decide)) (g := (mkF m 212 (own_L29 x0 x1 x2 x3 q4 p5 v3 f (own_d q4 (0 : Int32)) (own_d q4 (1 : Int32)) (own_d q4 (2 : Int32)) (own_d q4 (3 : Int32))) [(.int (4 : Int32)), (.long q4)])) rfl (by rw [hml]; rfl) (argsL := [(.long q4), (.int (4 : Int32))]) (rest := []) (lenOf pd__JI_J rfl) rfl (by show 2 * 0 + _ ≤ _; exact Nat.le_of_eq rfl) (hb hby at_212) (fun _ _ => ⟨rfl, e54, (by decide : 2 + 0 ≤ _), (by decide : 14 + 0 ≤ _)⟩)
  dsimp only [Pt.U, Pt.locs, Pt.cells, Pt.slots] at X55 l55 y55 z55 st55 hQ55
  subst l55 y55 z55
  obtain ⟨rfl, N55q, e55⟩ := hQ55
  have N55 := Fr.app N54 N55q
  refine OG.of st55 ?_
  show OG _ _ _ _ _ _ _ (T55.setTop (mkF m 215 (own_L29 x0 x1 x2 x3 q4 p5 v3 f (own_d q4 (0 : Int32)) (own_d q4 (1 : Int32)) (own_d q4 (2 : Int32)) (own_d q4 (3 : Int32))) [(.long (own_d q4 (4 : Int32)))]))
  refine OG.of (A := T55.setTop (mkF m 220 (own_L30 x0 x1 x2 x3 q4 p5 v3 f (own_d q4 (0 : Int32)) (own_d q4 (1 : Int32)) (own_d q4 (2 : Int32)) (own_d q4 (3 : Int32)) (own_d q4 (4 : Int32))) [(.int (5 : Int32)), (.long q4)])) (fun oT oK => ?_) ?_
  · skip
    refine XT.lstore X55.here hx rfl (hb hby at_215) rfl (l' := (own_L30 x0 x1 x2 x3 q4 p5 v3 f (own_d q4 (0 : Int32)) (own_d q4 (1 : Int32)) (own_d q4 (2 : Int32)) (own_d q4 (3 : Int32)) (own_d q4 (4 : Int32)))) rfl ?_
    show Steps p.tables e below (T55.setTop (mkF m 217 (own_L30 x0 x1 x2 x3 q4 p5 v3 f (own_d q4 (0 : Int32)) (own_d q4 (1 : Int32)) (own_d q4 (2 : Int32)) (own_d q4 (3 : Int32)) (own_d q4 (4 : Int32))) [])) _
    refine XT.lload X55.here hx rfl (hb hby at_217) rfl  ?_
    refine XS.iconst X55.here hx rfl (hb hby at_219) ?_
    exact oK
  obtain ⟨_, _, ⟨T56, L56, k56, n56⟩, -, X56, ⟨Lc56, hQ56, l56, y56, z56⟩, st56⟩ := Jvm.LawKit.callS X55 hx (y := (⟨"com/example/gate_to_gate/gatetogate/io/Field25519EncodePinLaw", "d", "(JI)J"⟩ : MethodName)) hown (mvT hZ (own_at hw 10 rfl)) (mvT hZ (own_at hw 11 rfl)) (mvT hZ (own_at hw 12 rfl)) (mvT hZ (own_at hw 13 rfl)) (by decide) (backOf (W := 0) (rmD l Z a0 hw [] q4 (5 : Int32)  h1 n0 (Z0)) hZ (own_at hw 13 rfl) (own_at hw 12 rfl) (by decide) (by decide)) (g := (mkF m 220 (own_L30 x0 x1 x2 x3 q4 p5 v3 f (own_d q4 (0 : Int32)) (own_d q4 (1 : Int32)) (own_d q4 (2 : Int32)) (own_d q4 (3 : Int32)) (own_d q4 (4 : Int32))) [(.int (5 : Int32)), (.long q4)])) rfl (by rw [hml]; rfl) (argsL := [(.long q4), (.int (5 : Int32))]) (rest := []) (lenOf pd__JI_J rfl) rfl (by show 2 * 0 + _ ≤ _; exact Nat.le_of_eq rfl) (hb hby at_220) (fun _ _ => ⟨rfl, e55, (by decide : 2 + 0 ≤ _), (by decide : 14 + 0 ≤ _)⟩)
  dsimp only [Pt.U, Pt.locs, Pt.cells, Pt.slots] at X56 l56 y56 z56 st56 hQ56
  subst l56 y56 z56
  obtain ⟨rfl, N56q, e56⟩ := hQ56
  have N56 := Fr.app N55 N56q
  refine OG.of st56 ?_
  show OG _ _ _ _ _ _ _ (T56.setTop (mkF m 223 (own_L30 x0 x1 x2 x3 q4 p5 v3 f (own_d q4 (0 : Int32)) (own_d q4 (1 : Int32)) (own_d q4 (2 : Int32)) (own_d q4 (3 : Int32)) (own_d q4 (4 : Int32))) [(.long (own_d q4 (5 : Int32)))]))
  refine OG.of (A := T56.setTop (mkF m 229 (own_L31 x0 x1 x2 x3 q4 p5 v3 f (own_d q4 (0 : Int32)) (own_d q4 (1 : Int32)) (own_d q4 (2 : Int32)) (own_d q4 (3 : Int32)) (own_d q4 (4 : Int32)) (own_d q4 (5 : Int32))) [(.int (6 : Int32)), (.long q4)])) (fun oT oK => ?_) ?_
  · skip
    refine XT.lstore X56.here hx rfl (hb hby at_223) rfl (l' := (own_L31 x0 x1 x2 x3 q4 p5 v3 f (own_d q4 (0 : Int32)) (own_d q4 (1 : Int32)) (own_d q4 (2 : Int32)) (own_d q4 (3 : Int32)) (own_d q4 (4 : Int32)) (own_d q4 (5 : Int32)))) rfl ?_
    show Steps p.tables e below (T56.setTop (mkF m 225 (own_L31 x0 x1 x2 x3 q4 p5 v3 f (own_d q4 (0 : Int32)) (own_d q4 (1 : Int32)) (own_d q4 (2 : Int32)) (own_d q4 (3 : Int32)) (own_d q4 (4 : Int32)) (own_d q4 (5 : Int32))) [])) _
    refine XT.lload X56.here hx rfl (hb hby at_225) rfl  ?_
    refine XS.bipush X56.here hx rfl (hb hby at_227) ?_
    exact oK
  obtain ⟨_, _, ⟨T57, L57, k57, n57⟩, -, X57, ⟨Lc57, hQ57, l57, y57, z57⟩, st57⟩ := Jvm.LawKit.callS X56 hx (y := (⟨"com/example/gate_to_gate/gatetogate/io/Field25519EncodePinLaw", "d", "(JI)J"⟩ : MethodName)) hown (mvT hZ (own_at hw 10 rfl)) (mvT hZ (own_at hw 11 rfl)) (mvT hZ (own_at hw 12 rfl)) (mvT hZ (own_at hw 13 rfl)) (by decide) (backOf (W := 0) (rmD l Z a0 hw [] q4 (6 : Int32)  h1 n0 (Z0)) hZ (own_at hw 13 rfl) (own_at hw 12 rfl) (by decide) (by decide)) (g := (mkF m 229 (own_L31 x0 x1 x2 x3 q4 p5 v3 f (own_d q4 (0 : Int32)) (own_d q4 (1 : Int32)) (own_d q4 (2 : Int32)) (own_d q4 (3 : Int32)) (own_d q4 (4 : Int32)) (own_d q4 (5 : Int32))) [(.int (6 : Int32)), (.long q4)])) rfl (by rw [hml]; rfl) (argsL := [(.long q4), (.int (6 : Int32))]) (rest := []) (lenOf pd__JI_J rfl) rfl (by show 2 * 0 + _ ≤ _; exact Nat.le_of_eq rfl) (hb hby at_229) (fun _ _ => ⟨rfl, e56, (by decide : 2 + 0 ≤ _), (by decide : 14 + 0 ≤ _)⟩)
  dsimp only [Pt.U, Pt.locs, Pt.cells, Pt.slots] at X57 l57 y57 z57 st57 hQ57
  subst l57 y57 z57
  obtain ⟨rfl, N57q, e57⟩ := hQ57
  have N57 := Fr.app N56 N57q
  refine OG.of st57 ?_
  show OG _ _ _ _ _ _ _ (T57.setTop (mkF m 232 (own_L31 x0 x1 x2 x3 q4 p5 v3 f (own_d q4 (0 : Int32)) (own_d q4 (1 : Int32)) (own_d q4 (2 : Int32)) (own_d q4 (3 : Int32)) (own_d q4 (4 : Int32)) (own_d q4 (5 : Int32))) [(.long (own_d q4 (6 : Int32)))]))
  refine OG.of (A := T57.setTop (mkF m 238 (own_L32 x0 x1 x2 x3 q4 p5 v3 f (own_d q4 (0 : Int32)) (own_d q4 (1 : Int32)) (own_d q4 (2 : Int32)) (own_d q4 (3 : Int32)) (own_d q4 (4 : Int32)) (own_d q4 (5 : Int32)) (own_d q4 (6 : Int32))) [(.int (7 : Int32)), (.long q4)])) (fun oT oK => ?_) ?_
  · skip
    refine XT.lstore X57.here hx rfl (hb hby at_232) rfl (l' := (own_L32 x0 x1 x2 x3 q4 p5 v3 f (own_d q4 (0 : Int32)) (own_d q4 (1 : Int32)) (own_d q4 (2 : Int32)) (own_d q4 (3 : Int32)) (own_d q4 (4 : Int32)) (own_d q4 (5 : Int32)) (own_d q4 (6 : Int32)))) rfl ?_
    show Steps p.tables e below (T57.setTop (mkF m 234 (own_L32 x0 x1 x2 x3 q4 p5 v3 f (own_d q4 (0 : Int32)) (own_d q4 (1 : Int32)) (own_d q4 (2 : Int32)) (own_d q4 (3 : Int32)) (own_d q4 (4 : Int32)) (own_d q4 (5 : Int32)) (own_d q4 (6 : Int32))) [])) _
    refine XT.lload X57.here hx rfl (hb hby at_234) rfl  ?_
    refine XS.bipush X57.here hx rfl (hb hby at_236) ?_
    exact oK
  obtain ⟨_, _, ⟨T58, L58, k58, n58⟩, -, X58, ⟨Lc58, hQ58, l58, y58, z58⟩, st58⟩ := Jvm.LawKit.callS X57 hx (y := (⟨"com/example/gate_to_gate/gatetogate/io/Field25519EncodePinLaw", "d", "(JI)J"⟩ : MethodName)) hown (mvT hZ (own_at hw 10 rfl)) (mvT hZ (own_at hw 11 rfl)) (mvT hZ (own_at hw 12 rfl)) (mvT hZ (own_at hw 13 rfl)) (by decide) (backOf (W := 0) (rmD l Z a0 hw [] q4 (7 : Int32)  h1 n0 (Z0)) hZ (own_at hw 13 rfl) (own_at hw 12 rfl) (by decide) (by decide)) (g := (mkF m 238 (own_L32 x0 x1 x2 x3 q4 p5 v3 f (own_d q4 (0 : Int32)) (own_d q4 (1 : Int32)) (own_d q4 (2 : Int32)) (own_d q4 (3 : Int32)) (own_d q4 (4 : Int32)) (own_d q4 (5 : Int32)) (own_d q4 (6 : Int32))) [(.int (7 : Int32)), (.long q4)])) rfl (by rw [hml]; rfl) (argsL := [(.long q4), (.int (7 : Int32))]) (rest := []) (lenOf pd__JI_J rfl) rfl (by show 2 * 0 + _ ≤ _; exact Nat.le_of_eq rfl) (hb hby at_238) (fun _ _ => ⟨rfl, e57, (by decide : 2 + 0 ≤ _), (by decide : 14 + 0 ≤ _)⟩)
  dsimp only [Pt.U, Pt.locs, Pt.cells, Pt.slots] at X58 l58 y58 z58 st58 hQ58
  subst l58 y58 z58
  obtain ⟨rfl, N58q, e58⟩ := hQ58
  have N58 := Fr.app N57 N58q
  refine OG.of st58 ?_
  show OG _ _ _ _ _ _ _ (T58.setTop (mkF m 241 (own_L32 x0 x1 x2 x3 q4 p5 v3 f (own_d q4 (0 : Int32)) (own_d q4 (1 : Int32)) (own_d q4 (2 : Int32)) (own_d q4 (3 : Int32)) (own_d q4 (4 : Int32)) (own_d q4 (5 : Int32)) (own_d q4 (6 : Int32))) [(.long (own_d q4 (7 : Int32)))]))
  refine OG.of (A := T58.setTop (mkF m 247 (own_L33 x0 x1 x2 x3 q4 p5 v3 f (own_d q4 (0 : Int32)) (own_d q4 (1 : Int32)) (own_d q4 (2 : Int32)) (own_d q4 (3 : Int32)) (own_d q4 (4 : Int32)) (own_d q4 (5 : Int32)) (own_d q4 (6 : Int32)) (own_d q4 (7 : Int32))) [(.int (8 : Int32)), (.long q4)])) (fun oT oK => ?_) ?_
  · skip
    refine XT.lstore X58.here hx rfl (hb hby at_241) rfl (l' := (own_L33 x0 x1 x2 x3 q4 p5 v3 f (own_d q4 (0 : Int32)) (own_d q4 (1 : Int32)) (own_d q4 (2 : Int32)) (own_d q4 (3 : Int32)) (own_d q4 (4 : Int32)) (own_d q4 (5 : Int32)) (own_d q4 (6 : Int32)) (own_d q4 (7 : Int32)))) rfl ?_
    show Steps p.tables e below (T58.setTop (mkF m 243 (own_L33 x0 x1 x2 x3 q4 p5 v3 f (own_d q4 (0 : Int32)) (own_d q4 (1 : Int32)) (own_d q4 (2 : Int32)) (own_d q4 (3 : Int32)) (own_d q4 (4 : Int32)) (own_d q4 (5 : Int32)) (own_d q4 (6 : Int32)) (own_d q4 (7 : Int32))) [])) _
    refine XT.lload X58.here hx rfl (hb hby at_243) rfl  ?_
    refine XS.bipush X58.here hx rfl (hb hby at_245) ?_
    exact oK
  obtain ⟨_, _, ⟨T59, L59, k59, n59⟩, -, X59, ⟨Lc59, hQ59, l59, y59, z59⟩, st59⟩ := Jvm.LawKit.callS X58 hx (y := (⟨"com/example/gate_to_gate/gatetogate/io/Field25519EncodePinLaw", "d", "(JI)J"⟩ : MethodName)) hown (mvT hZ (own_at hw 10 rfl)) (mvT hZ (own_at hw 11 rfl)) (mvT hZ (own_at hw 12 rfl)) (mvT hZ (own_at hw 13 rfl)) (by decide) (backOf (W := 0) (rmD l Z a0 hw [] q4 (8 : Int32)  h1 n0 (Z0)) hZ (own_at hw 13 rfl) (own_at hw 12 rfl) (by decide) (by decide)) (g := (mkF m 247 (own_L33 x0 x1 x2 x3 q4 p5 v3 f (own_d q4 (0 : Int32)) (own_d q4 (1 : Int32)) (own_d q4 (2 : Int32)) (own_d q4 (3 : Int32)) (own_d q4 (4 : Int32)) (own_d q4 (5 : Int32)) (own_d q4 (6 : Int32)) (own_d q4 (7 : Int32))) [(.int (8 : Int32)), (.long q4)])) rfl (by rw [hml]; rfl) (argsL := [(.long q4), (.int (8 : Int32))]) (rest := []) (lenOf pd__JI_J rfl) rfl (by show 2 * 0 + _ ≤ _; exact Nat.le_of_eq rfl) (hb hby at_247) (fun _ _ => ⟨rfl, e58, (by decide : 2 + 0 ≤ _), (by decide : 14 + 0 ≤ _)⟩)
  dsimp only [Pt.U, Pt.locs, Pt.cells, Pt.slots] at X59 l59 y59 z59 st59 hQ59
  subst l59 y59 z59
  obtain ⟨rfl, N59q, e59⟩ := hQ59
  have N59 := Fr.app N58 N59q
  refine OG.of st59 ?_
  show OG _ _ _ _ _ _ _ (T59.setTop (mkF m 250 (own_L33 x0 x1 x2 x3 q4 p5 v3 f (own_d q4 (0 : Int32)) (own_d q4 (1 : Int32)) (own_d q4 (2 : Int32)) (own_d q4 (3 : Int32)) (own_d q4 (4 : Int32)) (own_d q4 (5 : Int32)) (own_d q4 (6 : Int32)) (own_d q4 (7 : Int32))) [(.long (own_d q4 (8 : Int32)))]))
  refine OG.of (A := T59.setTop (mkF m 256 (own_L34 x0 x1 x2 x3 q4 p5 v3 f (own_d q4 (0 : Int32)) (own_d q4 (1 : Int32)) (own_d q4 (2 : Int32)) (own_d q4 (3 : Int32)) (own_d q4 (4 : Int32)) (own_d q4 (5 : Int32)) (own_d q4 (6 : Int32)) (own_d q4 (7 : Int32)) (own_d q4 (8 : Int32))) [(.int (9 : Int32)), (.long q4)])) (fun oT oK => ?_) ?_
  · skip
    refine XT.lstore X59.here hx rfl (hb hby at_250) rfl (l' := (own_L34 x0 x1 x2 x3 q4 p5 v3 f (own_d q4 (0 : Int32)) (own_d q4 (1 : Int32)) (own_d q4 (2 : Int32)) (own_d q4 (3 : Int32)) (own_d q4 (4 : Int32)) (own_d q4 (5 : Int32)) (own_d q4 (6 : Int32)) (own_d q4 (7 : Int32)) (own_d q4 (8 : Int32)))) rfl ?_
    show Steps p.tables e below (T59.setTop (mkF m 252 (own_L34 x0 x1 x2 x3 q4 p5 v3 f (own_d q4 (0 : Int32)) (own_d q4 (1 : Int32)) (own_d q4 (2 : Int32)) (own_d q4 (3 : Int32)) (own_d q4 (4 : Int32)) (own_d q4 (5 : Int32)) (own_d q4 (6 : Int32)) (own_d q4 (7 : Int32)) (own_d q4 (8 : Int32))) [])) _
    refine XT.lload X59.here hx rfl (hb hby at_252) rfl  ?_
    refine XS.bipush X59.here hx rfl (hb hby at_254) ?_
    exact oK
  obtain ⟨_, _, ⟨T60, L60, k60, n60⟩, -, X60, ⟨Lc60, hQ60, l60, y60, z60⟩, st60⟩ := Jvm.LawKit.callS X59 hx (y := (⟨"com/example/gate_to_gate/gatetogate/io/Field25519EncodePinLaw", "d", "(JI)J"⟩ : MethodName)) hown (mvT hZ (own_at hw 10 rfl)) (mvT hZ (own_at hw 11 rfl)) (mvT hZ (own_at hw 12 rfl)) (mvT hZ (own_at hw 13 rfl)) (by decide) (backOf (W := 0) (rmD l Z a0 hw [] q4 (9 : Int32)  h1 n0 (Z0)) hZ (own_at hw 13 rfl) (own_at hw 12 rfl) (by decide) (by decide)) (g := (mkF m 256 (own_L34 x0 x1 x2 x3 q4 p5 v3 f (own_d q4 (0 : Int32)) (own_d q4 (1 : Int32)) (own_d q4 (2 : Int32)) (own_d q4 (3 : Int32)) (own_d q4 (4 : Int32)) (own_d q4 (5 : Int32)) (own_d q4 (6 : Int32)) (own_d q4 (7 : Int32)) (own_d q4 (8 : Int32))) [(.int (9 : Int32)), (.long q4)])) rfl (by rw [hml]; rfl) (argsL := [(.long q4), (.int (9 : Int32))]) (rest := []) (lenOf pd__JI_J rfl) rfl (by show 2 * 0 + _ ≤ _; exact Nat.le_of_eq rfl) (hb hby at_256) (fun _ _ => ⟨rfl, e59, (by decide : 2 + 0 ≤ _), (by decide : 14 + 0 ≤ _)⟩)
  dsimp only [Pt.U, Pt.locs, Pt.cells, Pt.slots] at X60 l60 y60 z60 st60 hQ60
  subst l60 y60 z60
  obtain ⟨rfl, N60q, e60⟩ := hQ60
  have N60 := Fr.app N59 N60q
  refine OG.of st60 ?_
  show OG _ _ _ _ _ _ _ (T60.setTop (mkF m 259 (own_L34 x0 x1 x2 x3 q4 p5 v3 f (own_d q4 (0 : Int32)) (own_d q4 (1 : Int32)) (own_d q4 (2 : Int32)) (own_d q4 (3 : Int32)) (own_d q4 (4 : Int32)) (own_d q4 (5 : Int32)) (own_d q4 (6 : Int32)) (own_d q4 (7 : Int32)) (own_d q4 (8 : Int32))) [(.long (own_d q4 (9 : Int32)))]))
  refine OG.of (A := T60.setTop (mkF m 261 (own_L35 x0 x1 x2 x3 q4 p5 v3 f (own_d q4 (0 : Int32)) (own_d q4 (1 : Int32)) (own_d q4 (2 : Int32)) (own_d q4 (3 : Int32)) (own_d q4 (4 : Int32)) (own_d q4 (5 : Int32)) (own_d q4 (6 : Int32)) (own_d q4 (7 : Int32)) (own_d q4 (8 : Int32)) (own_d q4 (9 : Int32))) [])) (fun oT oK => ?_) ?_
  · skip
    refine XT.lstore X60.here hx rfl (hb hby at_259) rfl (l' := (own_L35 x0 x1 x2 x3 q4 p5 v3 f (own_d q4 (0 : Int32)) (own_d q4 (1 : Int32)) (own_d q4 (2 : Int32)) (own_d q4 (3 : Int32)) (own_d q4 (4 : Int32)) (own_d q4 (5 : Int32)) (own_d q4 (6 : Int32)) (own_d q4 (7 : Int32)) (own_d q4 (8 : Int32)) (own_d q4 (9 : Int32)))) rfl ?_
    exact oK
  exact own_tail_0 x0 x1 x2 x3 q4 p5 v3 f kf gs wB X60 hx hZ hw hby hml hown hlk hret e60 N60 Z0 (hO) (SB) (TB) (gf) (E_f) (hlg) (V_f) hq0 hq1 hq2 hq3
theorem pd___JI__J : parseMethodDescriptor "([JI)[J" = some ⟨[(.array .long), .int], some (.array .long)⟩ := by decide +kernel
theorem pn_0 : plainName "com/example/gate_to_gate/gatetogate/io/Field25519EncodePinLaw" = true := by first | (simp [plainName, overriddenIn]; done) | decide +kernel
theorem ef_0 (m : MethodId) (x0 : Int64) (x1 : Int64) (x2 : Int64) (x3 : Int64) (x4 : Int64) (x5 : Int32) : entryFrame m #[(.long x0), (.long x1), (.long x2), (.long x3), (.long x4), (.int x5)] maxLocals = mkF m 0 #[.val (.long x0), .second, .val (.long x1), .second, .val (.long x2), .second, .val (.long x3), .second, .val (.long x4), .second, .val (.int x5), .unset, .unset, .unset, .unset, .unset, .unset, .unset, .unset, .unset, .unset, .unset, .unset, .unset, .unset, .unset, .unset, .unset, .unset, .unset, .unset, .unset, .unset, .unset, .unset, .unset, .unset, .unset, .unset, .unset, .unset, .unset, .unset] [] := by first | (simp [entryFrame, mkF, argsToLocals, Value.category, maxLocals]; done) | rfl
def Q0 (Z : State) (p0 : Int64) (p1 : Int64) (p2 : Int64) (p3 : Int64) (p4 : Int64) (p5 : Int32) (wP : Addr) (wB : Addr) (h0 : Heap) (n0 : Nat) (v : Option Value) (h : Heap) (L : List Loc) : Prop := v = some (.int 1) ∧ Fr n0 L
set_option maxRecDepth 65536 in
set_option maxHeartbeats 40000000 in
theorem rm0 (l : Launch) (Z : State) (a0 : Array Value) (hw : ∀ d ∈ tables_1, d.before a0 Z = true) (ws : List Jvm.Cond) (p0 : Int64) (p1 : Int64) (p2 : Int64) (p3 : Int64) (p4 : Int64) (p5 : Int32) (wP : Addr) (wB : Addr) (h0 : Heap) (n0 : Nat) (Z0 : n0 ≤ h0.size) (hO : Old Z n0 h0) (SP : Sta Z Z.heap "com/example/gate_to_gate/gatetogate/io/Field25519" "POSITIONS" "[I" (.ref wP)) (SB : Sta Z Z.heap "com/example/gate_to_gate/gatetogate/io/Field25519" "BITS" "[I" (.ref wB)) (TP : ∀ j, j < 10 → ORd Z Z.heap wP .int (Int32.ofNat j) (.int (own_pos j))) (TB : ∀ j, j < 10 → ORd Z Z.heap wB .int (Int32.ofNat j) (.int (own_bits j))) :
    MetFree l x (head1 (Jvm.Cond.code x code maxLocals ret :: ws) room_1) (fun aA oU => aA = #[(.long p0), (.long p1), (.long p2), (.long p3), (.long p4), (.int p5)] ∧ Z.Warmed39 oU.vm ∧ oU.heap = h0) (fun _ _ _ _ _ => True) (fun _ oU oO oU' => ∃ oV oL, oO = .returned oV ∧ Q0 Z p0 p1 p2 p3 p4 p5 wP wB h0 n0 oV oU'.heap oL ∧ FrameEnd oU oO oU' oL 16 192) := by
  refine MetFree.of_bodySF (plainFor_of_name pn_0) hisR ?_
  intro p e s m args below meth c s₁ Bd hml0 hP hK
  obtain ⟨rfl, hZ, hh⟩ := hP
  have hx := Bd.exec
  have hby := Bd.bytes
  have hlk := BodyLoose.notSynchronized Bd
  have hml : c.maxLocals = 43 := hml0
  have hown : s.vm.findClass "com/example/gate_to_gate/gatetogate/io/Field25519EncodePinLaw" = some m.cls := findClass_of_methodNamed Bd.named
  have hnm := (name_of_methodNamed Bd.named Bd.method).1
  have X0 : Stand p l e room_1 s m #[(.long p0), (.long p1), (.long p2), (.long p3), (.long p4), (.int p5)] below meth c s₁ [] 0 0 := Stand.of_body Bd
  have e0 : s₁.heap = h0 := by rw [← hh, Bd.state]; rfl
  have N0 := Fr.nil n0
  show OG p e below s 16 192 (Q0 Z p0 p1 p2 p3 p4 p5 wP wB h0 n0) _
  refine OG.of (fun oT oK => castTop (ef_0 m p0 p1 p2 p3 p4 p5) oK) ?_
  show OG p e below s _ _ _ (s₁.setTop (mkF m 0 (own_L41 p0 p1 p2 p3 p4 p5) []))
  refine OG.of (A := s₁.setTop (mkF m 31 (own_L41 (if (p5 &&& (4 : Int32)) = (0 : Int32) then p0 else ((-1 : Int64) - (p0 &&& (31 : Int64)))) (if (p5 &&& (4 : Int32)) = (0 : Int32) then p1 else (-1 : Int64)) (if (p5 &&& (4 : Int32)) = (0 : Int32) then p2 else (-1 : Int64)) (if (p5 &&& (4 : Int32)) = (0 : Int32) then p3 else (-1 : Int64)) p4 p5) [])) (fun oT oK => ?_) ?_
  · skip
    refine XS.iload X0.here hx rfl (hb hby at_0) rfl  ?_
    show Steps p.tables e below (s₁.setTop (mkF m 2 (own_L41 p0 p1 p2 p3 p4 p5) [(.int p5)])) _
    refine XS.iconst X0.here hx rfl (hb hby at_2) ?_
    refine XS.iand X0.here hx rfl (hb hby at_3) rfl ?_
    show Steps p.tables e below (s₁.setTop (mkF m 4 (own_L41 p0 p1 p2 p3 p4 p5) [(.int (p5 &&& (4 : Int32)))])) _
    refine (show ∀ oT, Steps p.tables e below (s₁.setTop (mkF m 31 (own_L41 (if (p5 &&& (4 : Int32)) = (0 : Int32) then p0 else ((-1 : Int64) - (p0 &&& (31 : Int64)))) (if (p5 &&& (4 : Int32)) = (0 : Int32) then p1 else (-1 : Int64)) (if (p5 &&& (4 : Int32)) = (0 : Int32) then p2 else (-1 : Int64)) (if (p5 &&& (4 : Int32)) = (0 : Int32) then p3 else (-1 : Int64)) p4 p5) [])) oT → Steps p.tables e below (s₁.setTop (mkF m 4 (own_L41 p0 p1 p2 p3 p4 p5) [(.int (p5 &&& (4 : Int32)))])) oT from fun oT oK => ?_) _ ?_
    · skip
      show Steps p.tables e below (s₁.setTop (mkF m 4 (own_L41 p0 p1 p2 p3 p4 p5) [(.int (p5 &&& (4 : Int32)))])) _
      by_cases hj4_2 : (p5 &&& (4 : Int32)) = (0 : Int32)
      · try simp only [if_pos hj4_2] at oK
        refine XS.ifYes X0.here hx rfl (pc0 := 4) (pc' := 31) rfl (hb hby at_4) rfl (XT.i0_eq_t hj4_2) (by decide) (by decide) ?_
        exact oK
      · try simp only [if_neg hj4_2] at oK
        refine XS.ifNo X0.here hx rfl (hb hby at_4) rfl (XT.i0_eq_f hj4_2) ?_
        show Steps p.tables e below (s₁.setTop (mkF m 7 (own_L41 p0 p1 p2 p3 p4 p5) [])) _
        refine X0.ldc2Long hx hown (mvT hZ (own_at hw 36 rfl)) (g := (mkF m 7 (own_L41 p0 p1 p2 p3 p4 p5) [])) rfl (hb hby at_7) _ ?_
        show Steps p.tables e below (s₁.setTop (mkF m 10 (own_L41 p0 p1 p2 p3 p4 p5) [(.long (-1 : Int64))])) _
        refine XT.lloadN X0.here hx rfl (hb hby at_10) rfl  ?_
        show Steps p.tables e below (s₁.setTop (mkF m 11 (own_L41 p0 p1 p2 p3 p4 p5) [(.long p0), (.long (-1 : Int64))])) _
        refine X0.ldc2Long hx hown (mvT hZ (own_at hw 37 rfl)) (g := (mkF m 11 (own_L41 p0 p1 p2 p3 p4 p5) [(.long p0), (.long (-1 : Int64))])) rfl (hb hby at_11) _ ?_
        show Steps p.tables e below (s₁.setTop (mkF m 14 (own_L41 p0 p1 p2 p3 p4 p5) [(.long (31 : Int64)), (.long p0), (.long (-1 : Int64))])) _
        refine XT.land X0.here hx rfl (hb hby at_14) rfl ?_
        show Steps p.tables e below (s₁.setTop (mkF m 15 (own_L41 p0 p1 p2 p3 p4 p5) [(.long (p0 &&& (31 : Int64))), (.long (-1 : Int64))])) _
        refine XT.lsub X0.here hx rfl (hb hby at_15) rfl ?_
        show Steps p.tables e below (s₁.setTop (mkF m 16 (own_L41 p0 p1 p2 p3 p4 p5) [(.long ((-1 : Int64) - (p0 &&& (31 : Int64))))])) _
        refine XT.lstoreN X0.here hx rfl (hb hby at_16) rfl (l' := (own_L41 ((-1 : Int64) - (p0 &&& (31 : Int64))) p1 p2 p3 p4 p5)) rfl ?_
        show Steps p.tables e below (s₁.setTop (mkF m 17 (own_L41 ((-1 : Int64) - (p0 &&& (31 : Int64))) p1 p2 p3 p4 p5) [])) _
        refine X0.ldc2Long hx hown (mvT hZ (own_at hw 36 rfl)) (g := (mkF m 17 (own_L41 ((-1 : Int64) - (p0 &&& (31 : Int64))) p1 p2 p3 p4 p5) [])) rfl (hb hby at_17) _ ?_
        show Steps p.tables e below (s₁.setTop (mkF m 20 (own_L41 ((-1 : Int64) - (p0 &&& (31 : Int64))) p1 p2 p3 p4 p5) [(.long (-1 : Int64))])) _
        refine XT.lstoreN X0.here hx rfl (hb hby at_20) rfl (l' := (own_L41 ((-1 : Int64) - (p0 &&& (31 : Int64))) (-1 : Int64) p2 p3 p4 p5)) rfl ?_
        show Steps p.tables e below (s₁.setTop (mkF m 21 (own_L41 ((-1 : Int64) - (p0 &&& (31 : Int64))) (-1 : Int64) p2 p3 p4 p5) [])) _
        refine X0.ldc2Long hx hown (mvT hZ (own_at hw 36 rfl)) (g := (mkF m 21 (own_L41 ((-1 : Int64) - (p0 &&& (31 : Int64))) (-1 : Int64) p2 p3 p4 p5) [])) rfl (hb hby at_21) _ ?_
        show Steps p.tables e below (s₁.setTop (mkF m 24 (own_L41 ((-1 : Int64) - (p0 &&& (31 : Int64))) (-1 : Int64) p2 p3 p4 p5) [(.long (-1 : Int64))])) _
        refine XT.lstore X0.here hx rfl (hb hby at_24) rfl (l' := (own_L41 ((-1 : Int64) - (p0 &&& (31 : Int64))) (-1 : Int64) (-1 : Int64) p3 p4 p5)) rfl ?_
        show Steps p.tables e below (s₁.setTop (mkF m 26 (own_L41 ((-1 : Int64) - (p0 &&& (31 : Int64))) (-1 : Int64) (-1 : Int64) p3 p4 p5) [])) _
        refine X0.ldc2Long hx hown (mvT hZ (own_at hw 36 rfl)) (g := (mkF m 26 (own_L41 ((-1 : Int64) - (p0 &&& (31 : Int64))) (-1 : Int64) (-1 : Int64) p3 p4 p5) [])) rfl (hb hby at_26) _ ?_
        show Steps p.tables e below (s₁.setTop (mkF m 29 (own_L41 ((-1 : Int64) - (p0 &&& (31 : Int64))) (-1 : Int64) (-1 : Int64) p3 p4 p5) [(.long (-1 : Int64))])) _
        refine XT.lstore X0.here hx rfl (hb hby at_29) rfl (l' := (own_L41 ((-1 : Int64) - (p0 &&& (31 : Int64))) (-1 : Int64) (-1 : Int64) (-1 : Int64) p4 p5)) rfl ?_
        exact oK
    exact oK
  generalize (if (p5 &&& (4 : Int32)) = (0 : Int32) then p0 else ((-1 : Int64) - (p0 &&& (31 : Int64)))) = x0
  generalize (if (p5 &&& (4 : Int32)) = (0 : Int32) then p1 else (-1 : Int64)) = x1
  generalize (if (p5 &&& (4 : Int32)) = (0 : Int32) then p2 else (-1 : Int64)) = x2
  generalize (if (p5 &&& (4 : Int32)) = (0 : Int32) then p3 else (-1 : Int64)) = x3
  show OG _ _ _ _ _ _ _ (s₁.setTop (mkF m 31 (own_L41 x0 x1 x2 x3 p4 p5) []))
  refine OG.of (A := s₁.setTop (mkF m 39 (own_L42 x0 x1 x2 x3 p4 p5 (x3 &&& (9223372036854775807 : Int64))) [])) (fun oT oK => ?_) ?_
  · skip
    refine XT.lload X0.here hx rfl (hb hby at_31) rfl  ?_
    show Steps p.tables e below (s₁.setTop (mkF m 33 (own_L41 x0 x1 x2 x3 p4 p5) [(.long x3)])) _
    refine X0.ldc2Long hx hown (mvT hZ (own_at hw 0 rfl)) (g := (mkF m 33 (own_L41 x0 x1 x2 x3 p4 p5) [(.long x3)])) rfl (hb hby at_33) _ ?_
    refine XT.land X0.here hx rfl (hb hby at_36) rfl ?_
    show Steps p.tables e below (s₁.setTop (mkF m 37 (own_L41 x0 x1 x2 x3 p4 p5) [(.long (x3 &&& (9223372036854775807 : Int64)))])) _
    refine XT.lstore X0.here hx rfl (hb hby at_37) rfl (l' := (own_L42 x0 x1 x2 x3 p4 p5 (x3 &&& (9223372036854775807 : Int64)))) rfl ?_
    exact oK
  obtain ⟨v3, hv3⟩ : ∃ z, z = (x3 &&& (9223372036854775807 : Int64)) := ⟨_, rfl⟩
  rw [← hv3]
  show OG _ _ _ _ _ _ _ (s₁.setTop (mkF m 39 (own_L42 x0 x1 x2 x3 p4 p5 v3) []))
  refine OG.of (A := s₁.setTop (mkF m 40 (own_L42 x0 x1 x2 x3 p4 p5 v3) [(.int (4 : Int32))])) (fun oT oK => ?_) ?_
  · skip
    refine XS.iconst X0.here hx rfl (hb hby at_39) ?_
    exact oK
  obtain ⟨T1, h1, kc1, X1, e1, E1, A1, st1⟩ := newP X0 hx hZ (own_at hw 1 rfl) e0 (g := (mkF m 40 (own_L42 x0 x1 x2 x3 p4 p5 v3) [(.int (4 : Int32))])) rfl (hb hby at_40) rfl (by decide) (cap := 4) (by decide) (by decide) (by decide) (by decide)
  obtain ⟨b1, g1⟩ : ∃ z, z = (h0).size := ⟨_, rfl⟩
  have gn_b1 : n0 ≤ b1 := Nat.le_trans Z0 (Nat.le_of_eq g1.symm)
  have sz_b1 : h0.size ≤ b1 := Nat.le_trans (Keep.refl h0 []).1 (Nat.le_of_eq g1.symm)
  rw [← g1] at A1 st1
  have f3 := (hO).ext E1
  have K1 : Keep h0 h1 [] := (Keep.refl h0 []).ext E1
  have Z1 : n0 ≤ h1.size := Nat.le_trans Z0 E1.1
  have V1 : Arv Z h1 b1 kc1 .long (4 : Int32) [(.long (0 : Int64)), (.long (0 : Int64)), (.long (0 : Int64)), (.long (0 : Int64))] (.long (0 : Int64)) := (Arv.new A1 (by decide)).pad (pad_rep [] (.long (0 : Int64)) 4)
  refine OG.of st1 ?_
  show OG _ _ _ _ _ _ _ (T1.setTop (mkF m 42 (own_L42 x0 x1 x2 x3 p4 p5 v3) [(.ref b1)]))
  refine OG.of (A := T1.setTop (mkF m 45 (own_L42 x0 x1 x2 x3 p4 p5 v3) [(.long x0), (.int (0 : Int32)), (.ref b1), (.ref b1)])) (fun oT oK => ?_) ?_
  · skip
    refine XS.dup X1.here hx rfl (hb hby at_42) rfl rfl ?_
    show Steps p.tables e below (T1.setTop (mkF m 43 (own_L42 x0 x1 x2 x3 p4 p5 v3) [(.ref b1), (.ref b1)])) _
    refine XS.iconst X1.here hx rfl (hb hby at_43) ?_
    refine XT.lloadN X1.here hx rfl (hb hby at_44) rfl  ?_
    exact oK
  have cf4 := V1
  obtain ⟨clf4, Arf4, qf4, Sf4, Mf4, Hf4, Gf4⟩ := cf4
  obtain ⟨T2, h2, X2, e2, W2, st2⟩ := stJ X1 hx hZ e1 Arf4 (j := (0 : Int32)) (inb_of Sf4 ⟨by decide, by decide⟩) (g := (mkF m 45 (own_L42 x0 x1 x2 x3 p4 p5 v3) [(.long x0), (.int (0 : Int32)), (.ref b1), (.ref b1)])) rfl rfl (hb hby at_45)
  have V2 : Arv Z h2 b1 kc1 .long (4 : Int32) [(.long x0), (.long (0 : Int64)), (.long (0 : Int64)), (.long (0 : Int64))] (.long (0 : Int64)) := Arv.set Arf4 qf4 Sf4 Mf4 Hf4 Gf4 rfl W2 0 rfl (Nat.le_of_ble_eq_true rfl)
  have f6 := (f3).wr W2 gn_b1
  have K2 : Keep h0 h2 [] := (K1).wr W2 (Or.inr sz_b1)
  have Z2 : n0 ≤ h2.size := Nat.le_trans Z1 (Keep.of_wr W2).1
  have N2 := Fr.snoc X2 N0 gn_b1
  refine OG.of st2 ?_
  show OG _ _ _ _ _ _ _ (T2.setTop (mkF m 46 (own_L42 x0 x1 x2 x3 p4 p5 v3) [(.ref b1)]))
  refine OG.of (A := T2.setTop (mkF m 49 (own_L42 x0 x1 x2 x3 p4 p5 v3) [(.long x1), (.int (1 : Int32)), (.ref b1), (.ref b1)])) (fun oT oK => ?_) ?_
  · skip
    refine XS.dup X2.here hx rfl (hb hby at_46) rfl rfl ?_
    show Steps p.tables e below (T2.setTop (mkF m 47 (own_L42 x0 x1 x2 x3 p4 p5 v3) [(.ref b1), (.ref b1)])) _
    refine XS.iconst X2.here hx rfl (hb hby at_47) ?_
    refine XT.lloadN X2.here hx rfl (hb hby at_48) rfl  ?_
    exact oK
  have cf7 := V2
  obtain ⟨clf7, Arf7, qf7, Sf7, Mf7, Hf7, Gf7⟩ := cf7
  obtain ⟨T3, h3, X3, e3, W3, st3⟩ := stJ X2 hx hZ e2 Arf7 (j := (1 : Int32)) (inb_of Sf7 ⟨by decide, by decide⟩) (g := (mkF m 49 (own_L42 x0 x1 x2 x3 p4 p5 v3) [(.long x1), (.int (1 : Int32)), (.ref b1), (.ref b1)])) rfl rfl (hb hby at_49)
  have V3 : Arv Z h3 b1 kc1 .long (4 : Int32) [(.long x0), (.long x1), (.long (0 : Int64)), (.long (0 : Int64))] (.long (0 : Int64)) := Arv.set Arf7 qf7 Sf7 Mf7 Hf7 Gf7 rfl W3 1 rfl (Nat.le_of_ble_eq_true rfl)
  have f9 := (f6).wr W3 gn_b1
  have K3 : Keep h0 h3 [] := (K2).wr W3 (Or.inr sz_b1)
  have Z3 : n0 ≤ h3.size := Nat.le_trans Z2 (Keep.of_wr W3).1
  have N3 := Fr.snoc X3 N2 gn_b1
  refine OG.of st3 ?_
  show OG _ _ _ _ _ _ _ (T3.setTop (mkF m 50 (own_L42 x0 x1 x2 x3 p4 p5 v3) [(.ref b1)]))
  refine OG.of (A := T3.setTop (mkF m 54 (own_L42 x0 x1 x2 x3 p4 p5 v3) [(.long x2), (.int (2 : Int32)), (.ref b1), (.ref b1)])) (fun oT oK => ?_) ?_
  · skip
    refine XS.dup X3.here hx rfl (hb hby at_50) rfl rfl ?_
    show Steps p.tables e below (T3.setTop (mkF m 51 (own_L42 x0 x1 x2 x3 p4 p5 v3) [(.ref b1), (.ref b1)])) _
    refine XS.iconst X3.here hx rfl (hb hby at_51) ?_
    refine XT.lload X3.here hx rfl (hb hby at_52) rfl  ?_
    exact oK
  have cf10 := V3
  obtain ⟨clf10, Arf10, qf10, Sf10, Mf10, Hf10, Gf10⟩ := cf10
  obtain ⟨T4, h4, X4, e4, W4, st4⟩ := stJ X3 hx hZ e3 Arf10 (j := (2 : Int32)) (inb_of Sf10 ⟨by decide, by decide⟩) (g := (mkF m 54 (own_L42 x0 x1 x2 x3 p4 p5 v3) [(.long x2), (.int (2 : Int32)), (.ref b1), (.ref b1)])) rfl rfl (hb hby at_54)
  have V4 : Arv Z h4 b1 kc1 .long (4 : Int32) [(.long x0), (.long x1), (.long x2), (.long (0 : Int64))] (.long (0 : Int64)) := Arv.set Arf10 qf10 Sf10 Mf10 Hf10 Gf10 rfl W4 2 rfl (Nat.le_of_ble_eq_true rfl)
  have f12 := (f9).wr W4 gn_b1
  have K4 : Keep h0 h4 [] := (K3).wr W4 (Or.inr sz_b1)
  have Z4 : n0 ≤ h4.size := Nat.le_trans Z3 (Keep.of_wr W4).1
  have N4 := Fr.snoc X4 N3 gn_b1
  refine OG.of st4 ?_
  show OG _ _ _ _ _ _ _ (T4.setTop (mkF m 55 (own_L42 x0 x1 x2 x3 p4 p5 v3) [(.ref b1)]))
  refine OG.of (A := T4.setTop (mkF m 59 (own_L42 x0 x1 x2 x3 p4 p5 v3) [(.long v3), (.int (3 : Int32)), (.ref b1), (.ref b1)])) (fun oT oK => ?_) ?_
  · skip
    refine XS.dup X4.here hx rfl (hb hby at_55) rfl rfl ?_
    show Steps p.tables e below (T4.setTop (mkF m 56 (own_L42 x0 x1 x2 x3 p4 p5 v3) [(.ref b1), (.ref b1)])) _
    refine XS.iconst X4.here hx rfl (hb hby at_56) ?_
    refine XT.lload X4.here hx rfl (hb hby at_57) rfl  ?_
    exact oK
  have cf13 := V4
  obtain ⟨clf13, Arf13, qf13, Sf13, Mf13, Hf13, Gf13⟩ := cf13
  obtain ⟨T5, h5, X5, e5, W5, st5⟩ := stJ X4 hx hZ e4 Arf13 (j := (3 : Int32)) (inb_of Sf13 ⟨by decide, by decide⟩) (g := (mkF m 59 (own_L42 x0 x1 x2 x3 p4 p5 v3) [(.long v3), (.int (3 : Int32)), (.ref b1), (.ref b1)])) rfl rfl (hb hby at_59)
  have V5 : Arv Z h5 b1 kc1 .long (4 : Int32) [(.long x0), (.long x1), (.long x2), (.long v3)] (.long (0 : Int64)) := Arv.set Arf13 qf13 Sf13 Mf13 Hf13 Gf13 rfl W5 3 rfl (Nat.le_of_ble_eq_true rfl)
  have f15 := (f12).wr W5 gn_b1
  have K5 : Keep h0 h5 [] := (K4).wr W5 (Or.inr sz_b1)
  have Z5 : n0 ≤ h5.size := Nat.le_trans Z4 (Keep.of_wr W5).1
  have N5 := Fr.snoc X5 N4 gn_b1
  refine OG.of st5 ?_
  show OG _ _ _ _ _ _ _ (T5.setTop (mkF m 60 (own_L42 x0 x1 x2 x3 p4 p5 v3) [(.ref b1)]))
  refine OG.of (A := T5.setTop (mkF m 61 (own_L42 x0 x1 x2 x3 p4 p5 v3) [(.int (0 : Int32)), (.ref b1)])) (fun oT oK => ?_) ?_
  · skip
    refine XS.iconst X5.here hx rfl (hb hby at_60) ?_
    exact oK
  obtain ⟨_, _, ⟨T6, L6, k6, n6⟩, -, X6, ⟨Lc6, hQ6, l6, y6, z6⟩, st6⟩ := Jvm.LawKit.callS X5 hx (y := (⟨"com/example/gate_to_gate/gatetogate/io/Field25519", "fromWords", "([JI)[J"⟩ : MethodName)) hown (mvT hZ (own_at hw 2 rfl)) (mvT hZ (own_at hw 3 rfl)) (mvT hZ (own_at hw 4 rfl)) (mvT hZ (own_at hw 5 rfl)) (by decide) (backOf (W := 0) (rmF l Z a0 hw [] b1 (0 : Int32) x0 x1 x2 v3 wP wB h5 n0 (Z5) f15 SP SB TP TB (own_rd V5 ⟨by decide, by decide⟩ rfl) (own_rd V5 ⟨by decide, by decide⟩ rfl) (own_rd V5 ⟨by decide, by decide⟩ rfl) (own_rd V5 ⟨by decide, by decide⟩ rfl) (own_rd V5 ⟨by decide, by decide⟩ rfl) (own_rd V5 ⟨by decide, by decide⟩ rfl)) hZ (own_at hw 5 rfl) (own_at hw 4 rfl) (by decide) (by decide)) (g := (mkF m 61 (own_L42 x0 x1 x2 x3 p4 p5 v3) [(.int (0 : Int32)), (.ref b1)])) rfl (by rw [hml]; rfl) (argsL := [(.ref b1), (.int (0 : Int32))]) (rest := []) (lenOf pd___JI__J rfl) rfl (by show 2 * 0 + _ ≤ _; exact Nat.le_of_eq rfl) (hb hby at_61) (fun _ _ => ⟨rfl, e5, (by decide : 1 + 1 ≤ _), (by decide : 4 + 10 ≤ _)⟩)
  dsimp only [Pt.U, Pt.locs, Pt.cells, Pt.slots] at X6 l6 y6 z6 st6 hQ6
  subst l6 y6 z6
  obtain ⟨f, kf, rfl, N6q, Kc6, ⟨gf, -, E_f⟩, V6⟩ := hQ6
  have N6 := Fr.app N5 N6q
  have Z6 : n0 ≤ T6.heap.size := Nat.le_trans Z5 Kc6.1
  have O6 := (f15).keep Kc6 all0
  have VL6 : Arv Z T6.heap f kf .long (10 : Int32) ((own_gs0 x0 x1 x2 v3).map Value.long) (.long (0 : Int64)) := V6
  refine OG.of st6 ?_
  show OG _ _ _ _ _ _ _ (T6.setTop (mkF m 64 (own_L42 x0 x1 x2 x3 p4 p5 v3) [(.ref f)]))
  refine OG.of (A := T6.setTop (mkF m 70 (own_L25 x0 x1 x2 x3 p4 p5 v3 f) [(.int (p5 &&& (1 : Int32)))])) (fun oT oK => ?_) ?_
  · skip
    refine XS.astore X6.here hx rfl (hb hby at_64) rfl rfl (l' := (own_L25 x0 x1 x2 x3 p4 p5 v3 f)) rfl ?_
    show Steps p.tables e below (T6.setTop (mkF m 66 (own_L25 x0 x1 x2 x3 p4 p5 v3 f) [])) _
    refine XS.iload X6.here hx rfl (hb hby at_66) rfl  ?_
    refine XS.iconst X6.here hx rfl (hb hby at_68) ?_
    show Steps p.tables e below (T6.setTop (mkF m 69 (own_L25 x0 x1 x2 x3 p4 p5 v3 f) [(.int (1 : Int32)), (.int p5)])) _
    refine XS.iand X6.here hx rfl (hb hby at_69) rfl ?_
    exact oK
  by_cases hc70_16 : (p5 &&& (1 : Int32)) = (0 : Int32)
  · refine OG.of (fun oT oK => XS.ifYes X6.here hx rfl (pc0 := 70) (pc' := 177) rfl (hb hby at_70) rfl (XT.i0_eq_t hc70_16) (by decide) (by decide) oK) ?_
    show OG _ _ _ _ _ _ _ (T6.setTop (mkF m 177 (own_L25 x0 x1 x2 x3 p4 p5 v3 f) []))
    exact own_tail x0 x1 x2 x3 p4 p5 v3 f kf (own_gs0 x0 x1 x2 v3) wB X6 hx hZ hw hby hml hown hlk Bd.returns rfl N6 Z6 O6 SB TB gf E_f rfl VL6 (own_law0_0 x0 x1 x2 v3 p4 (own_v3 hv3)) (own_law0_1 x0 x1 x2 v3 p4 (own_v3 hv3)) (own_law0_2 x0 x1 x2 v3 p4 (own_v3 hv3)) (own_law0_3 x0 x1 x2 v3 p4 (own_v3 hv3))
  · refine OG.of (fun oT oK => XS.ifNo X6.here hx rfl (hb hby at_70) rfl (XT.i0_eq_f hc70_16) oK) ?_
    show OG _ _ _ _ _ _ _ (T6.setTop (mkF m 73 (own_L25 x0 x1 x2 x3 p4 p5 v3 f) []))
    refine OG.of (A := T6.setTop (mkF m 77 (own_L25 x0 x1 x2 x3 p4 p5 v3 f) [(.int (0 : Int32)), (.ref f), (.int (0 : Int32)), (.ref f)])) (fun oT oK => ?_) ?_
    · skip
      refine XS.aload X6.here hx rfl (hb hby at_73) rfl rfl  ?_
      show Steps p.tables e below (T6.setTop (mkF m 75 (own_L25 x0 x1 x2 x3 p4 p5 v3 f) [(.ref f)])) _
      refine XS.iconst X6.here hx rfl (hb hby at_75) ?_
      refine XT.dup2 X6.here hx rfl (hb hby at_76) rfl rfl rfl ?_
      exact oK
    obtain ⟨clf17, Arf17, If17, Hf17⟩ := own_rdL VL6 rfl (j := (0 : Int32)) (i := 0) rfl (by decide)
    refine OG.of (X6.laload hx (j := (0 : Int32)) (v := (.long ((own_gs0 x0 x1 x2 v3).getD 0 0))) (by exact Arf17.1) (State.isArrayOf_alike hZ.alike Arf17.2.1) Arf17.2.2 If17 Hf17 (g := (mkF m 77 (own_L25 x0 x1 x2 x3 p4 p5 v3 f) [(.int (0 : Int32)), (.ref f), (.int (0 : Int32)), (.ref f)])) rfl rfl (hb hby at_77)) ?_
    show OG _ _ _ _ _ _ _ (T6.setTop (mkF m 78 (own_L25 x0 x1 x2 x3 p4 p5 v3 f) [(.long ((own_gs0 x0 x1 x2 v3).getD 0 0)), (.int (0 : Int32)), (.ref f)]))
    refine OG.of (A := T6.setTop (mkF m 82 (own_L25 x0 x1 x2 x3 p4 p5 v3 f) [(.long (((own_gs0 x0 x1 x2 v3).getD 0 0) - (67108845 : Int64))), (.int (0 : Int32)), (.ref f)])) (fun oT oK => ?_) ?_
    · skip
      refine X6.ldc2Long hx hown (mvT hZ (own_at hw 39 rfl)) (g := (mkF m 78 (own_L25 x0 x1 x2 x3 p4 p5 v3 f) [(.long ((own_gs0 x0 x1 x2 v3).getD 0 0)), (.int (0 : Int32)), (.ref f)])) rfl (hb hby at_78) _ ?_
      show Steps p.tables e below (T6.setTop (mkF m 81 (own_L25 x0 x1 x2 x3 p4 p5 v3 f) [(.long (67108845 : Int64)), (.long ((own_gs0 x0 x1 x2 v3).getD 0 0)), (.int (0 : Int32)), (.ref f)])) _
      refine XT.lsub X6.here hx rfl (hb hby at_81) rfl ?_
      exact oK
    obtain ⟨T7, h7, X7, e7, W7, V7, st7⟩ := own_stJ X6 hx hZ rfl VL6 rfl (j := (0 : Int32)) (i := 0) rfl (by decide) (g := (mkF m 82 (own_L25 x0 x1 x2 x3 p4 p5 v3 f) [(.long (((own_gs0 x0 x1 x2 v3).getD 0 0) - (67108845 : Int64))), (.int (0 : Int32)), (.ref f)])) rfl rfl (hb hby at_82)
    have f18 := (E_f).wr W7
    have f20 := (O6).wr W7 gf
    have K7 : Keep T6.heap h7 [f] := ((Keep.refl T6.heap [f])).wr W7 (Or.inl (by simp))
    have Z7 : n0 ≤ h7.size := Nat.le_trans Z6 (Keep.of_wr W7).1
    have N7 := Fr.snoc X7 N6 gf
    refine OG.of st7 ?_
    show OG _ _ _ _ _ _ _ (T7.setTop (mkF m 83 (own_L25 x0 x1 x2 x3 p4 p5 v3 f) []))
    have f21 : Arv Z h7 f kf .long (10 : Int32) ((own_gm0 x0 x1 x2 v3).map Value.long) (.long (0 : Int64)) := V7
    have f22 : (own_gm0 x0 x1 x2 v3).length = 10 := ((List.length_set ..).trans rfl)
    refine OG.of (A := T7.setTop (mkF m 87 (own_L25 x0 x1 x2 x3 p4 p5 v3 f) [(.int (1 : Int32)), (.ref f), (.int (1 : Int32)), (.ref f)])) (fun oT oK => ?_) ?_
    · skip
      refine XS.aload X7.here hx rfl (hb hby at_83) rfl rfl  ?_
      show Steps p.tables e below (T7.setTop (mkF m 85 (own_L25 x0 x1 x2 x3 p4 p5 v3 f) [(.ref f)])) _
      refine XS.iconst X7.here hx rfl (hb hby at_85) ?_
      refine XT.dup2 X7.here hx rfl (hb hby at_86) rfl rfl rfl ?_
      exact oK
    obtain ⟨clf23, Arf23, If23, Hf23⟩ := own_rdL f21 f22 (j := (1 : Int32)) (i := 1) rfl (by decide)
    refine OG.of (X7.laload hx (j := (1 : Int32)) (v := (.long ((own_gm0 x0 x1 x2 v3).getD 1 0))) (by rw [e7]; exact Arf23.1) (State.isArrayOf_alike hZ.alike Arf23.2.1) Arf23.2.2 If23 Hf23 (g := (mkF m 87 (own_L25 x0 x1 x2 x3 p4 p5 v3 f) [(.int (1 : Int32)), (.ref f), (.int (1 : Int32)), (.ref f)])) rfl rfl (hb hby at_87)) ?_
    show OG _ _ _ _ _ _ _ (T7.setTop (mkF m 88 (own_L25 x0 x1 x2 x3 p4 p5 v3 f) [(.long ((own_gm0 x0 x1 x2 v3).getD 1 0)), (.int (1 : Int32)), (.ref f)]))
    refine OG.of (A := T7.setTop (mkF m 92 (own_L25 x0 x1 x2 x3 p4 p5 v3 f) [(.long (((own_gm0 x0 x1 x2 v3).getD 1 0) - (33554431 : Int64))), (.int (1 : Int32)), (.ref f)])) (fun oT oK => ?_) ?_
    · skip
      refine X7.ldc2Long hx hown (mvT hZ (own_at hw 40 rfl)) (g := (mkF m 88 (own_L25 x0 x1 x2 x3 p4 p5 v3 f) [(.long ((own_gm0 x0 x1 x2 v3).getD 1 0)), (.int (1 : Int32)), (.ref f)])) rfl (hb hby at_88) _ ?_
      show Steps p.tables e below (T7.setTop (mkF m 91 (own_L25 x0 x1 x2 x3 p4 p5 v3 f) [(.long (33554431 : Int64)), (.long ((own_gm0 x0 x1 x2 v3).getD 1 0)), (.int (1 : Int32)), (.ref f)])) _
      refine XT.lsub X7.here hx rfl (hb hby at_91) rfl ?_
      exact oK
    obtain ⟨T8, h8, X8, e8, W8, V8, st8⟩ := own_stJ X7 hx hZ e7 f21 f22 (j := (1 : Int32)) (i := 1) rfl (by decide) (g := (mkF m 92 (own_L25 x0 x1 x2 x3 p4 p5 v3 f) [(.long (((own_gm0 x0 x1 x2 v3).getD 1 0) - (33554431 : Int64))), (.int (1 : Int32)), (.ref f)])) rfl rfl (hb hby at_92)
    have f24 := (f18).wr W8
    have f26 := (f20).wr W8 gf
    have K8 : Keep T6.heap h8 [f] := (K7).wr W8 (Or.inl (by simp))
    have Z8 : n0 ≤ h8.size := Nat.le_trans Z7 (Keep.of_wr W8).1
    have N8 := Fr.snoc X8 N7 gf
    refine OG.of st8 ?_
    show OG _ _ _ _ _ _ _ (T8.setTop (mkF m 93 (own_L25 x0 x1 x2 x3 p4 p5 v3 f) []))
    have f27 : Arv Z h8 f kf .long (10 : Int32) ((own_gm1 x0 x1 x2 v3).map Value.long) (.long (0 : Int64)) := V8
    have f28 : (own_gm1 x0 x1 x2 v3).length = 10 := ((List.length_set ..).trans f22)
    refine OG.of (A := T8.setTop (mkF m 97 (own_L25 x0 x1 x2 x3 p4 p5 v3 f) [(.int (2 : Int32)), (.ref f), (.int (2 : Int32)), (.ref f)])) (fun oT oK => ?_) ?_
    · skip
      refine XS.aload X8.here hx rfl (hb hby at_93) rfl rfl  ?_
      show Steps p.tables e below (T8.setTop (mkF m 95 (own_L25 x0 x1 x2 x3 p4 p5 v3 f) [(.ref f)])) _
      refine XS.iconst X8.here hx rfl (hb hby at_95) ?_
      refine XT.dup2 X8.here hx rfl (hb hby at_96) rfl rfl rfl ?_
      exact oK
    obtain ⟨clf29, Arf29, If29, Hf29⟩ := own_rdL f27 f28 (j := (2 : Int32)) (i := 2) rfl (by decide)
    refine OG.of (X8.laload hx (j := (2 : Int32)) (v := (.long ((own_gm1 x0 x1 x2 v3).getD 2 0))) (by rw [e8]; exact Arf29.1) (State.isArrayOf_alike hZ.alike Arf29.2.1) Arf29.2.2 If29 Hf29 (g := (mkF m 97 (own_L25 x0 x1 x2 x3 p4 p5 v3 f) [(.int (2 : Int32)), (.ref f), (.int (2 : Int32)), (.ref f)])) rfl rfl (hb hby at_97)) ?_
    show OG _ _ _ _ _ _ _ (T8.setTop (mkF m 98 (own_L25 x0 x1 x2 x3 p4 p5 v3 f) [(.long ((own_gm1 x0 x1 x2 v3).getD 2 0)), (.int (2 : Int32)), (.ref f)]))
    refine OG.of (A := T8.setTop (mkF m 102 (own_L25 x0 x1 x2 x3 p4 p5 v3 f) [(.long (((own_gm1 x0 x1 x2 v3).getD 2 0) - (67108863 : Int64))), (.int (2 : Int32)), (.ref f)])) (fun oT oK => ?_) ?_
    · skip
      refine X8.ldc2Long hx hown (mvT hZ (own_at hw 41 rfl)) (g := (mkF m 98 (own_L25 x0 x1 x2 x3 p4 p5 v3 f) [(.long ((own_gm1 x0 x1 x2 v3).getD 2 0)), (.int (2 : Int32)), (.ref f)])) rfl (hb hby at_98) _ ?_
      show Steps p.tables e below (T8.setTop (mkF m 101 (own_L25 x0 x1 x2 x3 p4 p5 v3 f) [(.long (67108863 : Int64)), (.long ((own_gm1 x0 x1 x2 v3).getD 2 0)), (.int (2 : Int32)), (.ref f)])) _
      refine XT.lsub X8.here hx rfl (hb hby at_101) rfl ?_
      exact oK
    obtain ⟨T9, h9, X9, e9, W9, V9, st9⟩ := own_stJ X8 hx hZ e8 f27 f28 (j := (2 : Int32)) (i := 2) rfl (by decide) (g := (mkF m 102 (own_L25 x0 x1 x2 x3 p4 p5 v3 f) [(.long (((own_gm1 x0 x1 x2 v3).getD 2 0) - (67108863 : Int64))), (.int (2 : Int32)), (.ref f)])) rfl rfl (hb hby at_102)
    have f30 := (f24).wr W9
    have f32 := (f26).wr W9 gf
    have K9 : Keep T6.heap h9 [f] := (K8).wr W9 (Or.inl (by simp))
    have Z9 : n0 ≤ h9.size := Nat.le_trans Z8 (Keep.of_wr W9).1
    have N9 := Fr.snoc X9 N8 gf
    refine OG.of st9 ?_
    show OG _ _ _ _ _ _ _ (T9.setTop (mkF m 103 (own_L25 x0 x1 x2 x3 p4 p5 v3 f) []))
    have f33 : Arv Z h9 f kf .long (10 : Int32) ((own_gm2 x0 x1 x2 v3).map Value.long) (.long (0 : Int64)) := V9
    have f34 : (own_gm2 x0 x1 x2 v3).length = 10 := ((List.length_set ..).trans f28)
    refine OG.of (A := T9.setTop (mkF m 107 (own_L25 x0 x1 x2 x3 p4 p5 v3 f) [(.int (3 : Int32)), (.ref f), (.int (3 : Int32)), (.ref f)])) (fun oT oK => ?_) ?_
    · skip
      refine XS.aload X9.here hx rfl (hb hby at_103) rfl rfl  ?_
      show Steps p.tables e below (T9.setTop (mkF m 105 (own_L25 x0 x1 x2 x3 p4 p5 v3 f) [(.ref f)])) _
      refine XS.iconst X9.here hx rfl (hb hby at_105) ?_
      refine XT.dup2 X9.here hx rfl (hb hby at_106) rfl rfl rfl ?_
      exact oK
    obtain ⟨clf35, Arf35, If35, Hf35⟩ := own_rdL f33 f34 (j := (3 : Int32)) (i := 3) rfl (by decide)
    refine OG.of (X9.laload hx (j := (3 : Int32)) (v := (.long ((own_gm2 x0 x1 x2 v3).getD 3 0))) (by rw [e9]; exact Arf35.1) (State.isArrayOf_alike hZ.alike Arf35.2.1) Arf35.2.2 If35 Hf35 (g := (mkF m 107 (own_L25 x0 x1 x2 x3 p4 p5 v3 f) [(.int (3 : Int32)), (.ref f), (.int (3 : Int32)), (.ref f)])) rfl rfl (hb hby at_107)) ?_
    show OG _ _ _ _ _ _ _ (T9.setTop (mkF m 108 (own_L25 x0 x1 x2 x3 p4 p5 v3 f) [(.long ((own_gm2 x0 x1 x2 v3).getD 3 0)), (.int (3 : Int32)), (.ref f)]))
    refine OG.of (A := T9.setTop (mkF m 112 (own_L25 x0 x1 x2 x3 p4 p5 v3 f) [(.long (((own_gm2 x0 x1 x2 v3).getD 3 0) - (33554431 : Int64))), (.int (3 : Int32)), (.ref f)])) (fun oT oK => ?_) ?_
    · skip
      refine X9.ldc2Long hx hown (mvT hZ (own_at hw 40 rfl)) (g := (mkF m 108 (own_L25 x0 x1 x2 x3 p4 p5 v3 f) [(.long ((own_gm2 x0 x1 x2 v3).getD 3 0)), (.int (3 : Int32)), (.ref f)])) rfl (hb hby at_108) _ ?_
      show Steps p.tables e below (T9.setTop (mkF m 111 (own_L25 x0 x1 x2 x3 p4 p5 v3 f) [(.long (33554431 : Int64)), (.long ((own_gm2 x0 x1 x2 v3).getD 3 0)), (.int (3 : Int32)), (.ref f)])) _
      refine XT.lsub X9.here hx rfl (hb hby at_111) rfl ?_
      exact oK
    obtain ⟨T10, h10, X10, e10, W10, V10, st10⟩ := own_stJ X9 hx hZ e9 f33 f34 (j := (3 : Int32)) (i := 3) rfl (by decide) (g := (mkF m 112 (own_L25 x0 x1 x2 x3 p4 p5 v3 f) [(.long (((own_gm2 x0 x1 x2 v3).getD 3 0) - (33554431 : Int64))), (.int (3 : Int32)), (.ref f)])) rfl rfl (hb hby at_112)
    have f36 := (f30).wr W10
    have f38 := (f32).wr W10 gf
    have K10 : Keep T6.heap h10 [f] := (K9).wr W10 (Or.inl (by simp))
    have Z10 : n0 ≤ h10.size := Nat.le_trans Z9 (Keep.of_wr W10).1
    have N10 := Fr.snoc X10 N9 gf
    refine OG.of st10 ?_
    show OG _ _ _ _ _ _ _ (T10.setTop (mkF m 113 (own_L25 x0 x1 x2 x3 p4 p5 v3 f) []))
    have f39 : Arv Z h10 f kf .long (10 : Int32) ((own_gm3 x0 x1 x2 v3).map Value.long) (.long (0 : Int64)) := V10
    have f40 : (own_gm3 x0 x1 x2 v3).length = 10 := ((List.length_set ..).trans f34)
    refine OG.of (A := T10.setTop (mkF m 117 (own_L25 x0 x1 x2 x3 p4 p5 v3 f) [(.int (4 : Int32)), (.ref f), (.int (4 : Int32)), (.ref f)])) (fun oT oK => ?_) ?_
    · skip
      refine XS.aload X10.here hx rfl (hb hby at_113) rfl rfl  ?_
      show Steps p.tables e below (T10.setTop (mkF m 115 (own_L25 x0 x1 x2 x3 p4 p5 v3 f) [(.ref f)])) _
      refine XS.iconst X10.here hx rfl (hb hby at_115) ?_
      refine XT.dup2 X10.here hx rfl (hb hby at_116) rfl rfl rfl ?_
      exact oK
    obtain ⟨clf41, Arf41, If41, Hf41⟩ := own_rdL f39 f40 (j := (4 : Int32)) (i := 4) rfl (by decide)
    refine OG.of (X10.laload hx (j := (4 : Int32)) (v := (.long ((own_gm3 x0 x1 x2 v3).getD 4 0))) (by rw [e10]; exact Arf41.1) (State.isArrayOf_alike hZ.alike Arf41.2.1) Arf41.2.2 If41 Hf41 (g := (mkF m 117 (own_L25 x0 x1 x2 x3 p4 p5 v3 f) [(.int (4 : Int32)), (.ref f), (.int (4 : Int32)), (.ref f)])) rfl rfl (hb hby at_117)) ?_
    show OG _ _ _ _ _ _ _ (T10.setTop (mkF m 118 (own_L25 x0 x1 x2 x3 p4 p5 v3 f) [(.long ((own_gm3 x0 x1 x2 v3).getD 4 0)), (.int (4 : Int32)), (.ref f)]))
    refine OG.of (A := T10.setTop (mkF m 122 (own_L25 x0 x1 x2 x3 p4 p5 v3 f) [(.long (((own_gm3 x0 x1 x2 v3).getD 4 0) - (67108863 : Int64))), (.int (4 : Int32)), (.ref f)])) (fun oT oK => ?_) ?_
    · skip
      refine X10.ldc2Long hx hown (mvT hZ (own_at hw 41 rfl)) (g := (mkF m 118 (own_L25 x0 x1 x2 x3 p4 p5 v3 f) [(.long ((own_gm3 x0 x1 x2 v3).getD 4 0)), (.int (4 : Int32)), (.ref f)])) rfl (hb hby at_118) _ ?_
      show Steps p.tables e below (T10.setTop (mkF m 121 (own_L25 x0 x1 x2 x3 p4 p5 v3 f) [(.long (67108863 : Int64)), (.long ((own_gm3 x0 x1 x2 v3).getD 4 0)), (.int (4 : Int32)), (.ref f)])) _
      refine XT.lsub X10.here hx rfl (hb hby at_121) rfl ?_
      exact oK
    obtain ⟨T11, h11, X11, e11, W11, V11, st11⟩ := own_stJ X10 hx hZ e10 f39 f40 (j := (4 : Int32)) (i := 4) rfl (by decide) (g := (mkF m 122 (own_L25 x0 x1 x2 x3 p4 p5 v3 f) [(.long (((own_gm3 x0 x1 x2 v3).getD 4 0) - (67108863 : Int64))), (.int (4 : Int32)), (.ref f)])) rfl rfl (hb hby at_122)
    have f42 := (f36).wr W11
    have f44 := (f38).wr W11 gf
    have K11 : Keep T6.heap h11 [f] := (K10).wr W11 (Or.inl (by simp))
    have Z11 : n0 ≤ h11.size := Nat.le_trans Z10 (Keep.of_wr W11).1
    have N11 := Fr.snoc X11 N10 gf
    refine OG.of st11 ?_
    show OG _ _ _ _ _ _ _ (T11.setTop (mkF m 123 (own_L25 x0 x1 x2 x3 p4 p5 v3 f) []))
    have f45 : Arv Z h11 f kf .long (10 : Int32) ((own_gm4 x0 x1 x2 v3).map Value.long) (.long (0 : Int64)) := V11
    have f46 : (own_gm4 x0 x1 x2 v3).length = 10 := ((List.length_set ..).trans f40)
    refine OG.of (A := T11.setTop (mkF m 127 (own_L25 x0 x1 x2 x3 p4 p5 v3 f) [(.int (5 : Int32)), (.ref f), (.int (5 : Int32)), (.ref f)])) (fun oT oK => ?_) ?_
    · skip
      refine XS.aload X11.here hx rfl (hb hby at_123) rfl rfl  ?_
      show Steps p.tables e below (T11.setTop (mkF m 125 (own_L25 x0 x1 x2 x3 p4 p5 v3 f) [(.ref f)])) _
      refine XS.iconst X11.here hx rfl (hb hby at_125) ?_
      refine XT.dup2 X11.here hx rfl (hb hby at_126) rfl rfl rfl ?_
      exact oK
    obtain ⟨clf47, Arf47, If47, Hf47⟩ := own_rdL f45 f46 (j := (5 : Int32)) (i := 5) rfl (by decide)
    refine OG.of (X11.laload hx (j := (5 : Int32)) (v := (.long ((own_gm4 x0 x1 x2 v3).getD 5 0))) (by rw [e11]; exact Arf47.1) (State.isArrayOf_alike hZ.alike Arf47.2.1) Arf47.2.2 If47 Hf47 (g := (mkF m 127 (own_L25 x0 x1 x2 x3 p4 p5 v3 f) [(.int (5 : Int32)), (.ref f), (.int (5 : Int32)), (.ref f)])) rfl rfl (hb hby at_127)) ?_
    show OG _ _ _ _ _ _ _ (T11.setTop (mkF m 128 (own_L25 x0 x1 x2 x3 p4 p5 v3 f) [(.long ((own_gm4 x0 x1 x2 v3).getD 5 0)), (.int (5 : Int32)), (.ref f)]))
    refine OG.of (A := T11.setTop (mkF m 132 (own_L25 x0 x1 x2 x3 p4 p5 v3 f) [(.long (((own_gm4 x0 x1 x2 v3).getD 5 0) - (33554431 : Int64))), (.int (5 : Int32)), (.ref f)])) (fun oT oK => ?_) ?_
    · skip
      refine X11.ldc2Long hx hown (mvT hZ (own_at hw 40 rfl)) (g := (mkF m 128 (own_L25 x0 x1 x2 x3 p4 p5 v3 f) [(.long ((own_gm4 x0 x1 x2 v3).getD 5 0)), (.int (5 : Int32)), (.ref f)])) rfl (hb hby at_128) _ ?_
      show Steps p.tables e below (T11.setTop (mkF m 131 (own_L25 x0 x1 x2 x3 p4 p5 v3 f) [(.long (33554431 : Int64)), (.long ((own_gm4 x0 x1 x2 v3).getD 5 0)), (.int (5 : Int32)), (.ref f)])) _
      refine XT.lsub X11.here hx rfl (hb hby at_131) rfl ?_
      exact oK
    obtain ⟨T12, h12, X12, e12, W12, V12, st12⟩ := own_stJ X11 hx hZ e11 f45 f46 (j := (5 : Int32)) (i := 5) rfl (by decide) (g := (mkF m 132 (own_L25 x0 x1 x2 x3 p4 p5 v3 f) [(.long (((own_gm4 x0 x1 x2 v3).getD 5 0) - (33554431 : Int64))), (.int (5 : Int32)), (.ref f)])) rfl rfl (hb hby at_132)
    have f48 := (f42).wr W12
    have f50 := (f44).wr W12 gf
    have K12 : Keep T6.heap h12 [f] := (K11).wr W12 (Or.inl (by simp))
    have Z12 : n0 ≤ h12.size := Nat.le_trans Z11 (Keep.of_wr W12).1
    have N12 := Fr.snoc X12 N11 gf
    refine OG.of st12 ?_
    show OG _ _ _ _ _ _ _ (T12.setTop (mkF m 133 (own_L25 x0 x1 x2 x3 p4 p5 v3 f) []))
    have f51 : Arv Z h12 f kf .long (10 : Int32) ((own_gm5 x0 x1 x2 v3).map Value.long) (.long (0 : Int64)) := V12
    have f52 : (own_gm5 x0 x1 x2 v3).length = 10 := ((List.length_set ..).trans f46)
    refine OG.of (A := T12.setTop (mkF m 138 (own_L25 x0 x1 x2 x3 p4 p5 v3 f) [(.int (6 : Int32)), (.ref f), (.int (6 : Int32)), (.ref f)])) (fun oT oK => ?_) ?_
    · skip
      refine XS.aload X12.here hx rfl (hb hby at_133) rfl rfl  ?_
      show Steps p.tables e below (T12.setTop (mkF m 135 (own_L25 x0 x1 x2 x3 p4 p5 v3 f) [(.ref f)])) _
      refine XS.bipush X12.here hx rfl (hb hby at_135) ?_
      refine XT.dup2 X12.here hx rfl (hb hby at_137) rfl rfl rfl ?_
      exact oK
    obtain ⟨clf53, Arf53, If53, Hf53⟩ := own_rdL f51 f52 (j := (6 : Int32)) (i := 6) rfl (by decide)
    refine OG.of (X12.laload hx (j := (6 : Int32)) (v := (.long ((own_gm5 x0 x1 x2 v3).getD 6 0))) (by rw [e12]; exact Arf53.1) (State.isArrayOf_alike hZ.alike Arf53.2.1) Arf53.2.2 If53 Hf53 (g := (mkF m 138 (own_L25 x0 x1 x2 x3 p4 p5 v3 f) [(.int (6 : Int32)), (.ref f), (.int (6 : Int32)), (.ref f)])) rfl rfl (hb hby at_138)) ?_
    show OG _ _ _ _ _ _ _ (T12.setTop (mkF m 139 (own_L25 x0 x1 x2 x3 p4 p5 v3 f) [(.long ((own_gm5 x0 x1 x2 v3).getD 6 0)), (.int (6 : Int32)), (.ref f)]))
    refine OG.of (A := T12.setTop (mkF m 143 (own_L25 x0 x1 x2 x3 p4 p5 v3 f) [(.long (((own_gm5 x0 x1 x2 v3).getD 6 0) - (67108863 : Int64))), (.int (6 : Int32)), (.ref f)])) (fun oT oK => ?_) ?_
    · skip
      refine X12.ldc2Long hx hown (mvT hZ (own_at hw 41 rfl)) (g := (mkF m 139 (own_L25 x0 x1 x2 x3 p4 p5 v3 f) [(.long ((own_gm5 x0 x1 x2 v3).getD 6 0)), (.int (6 : Int32)), (.ref f)])) rfl (hb hby at_139) _ ?_
      show Steps p.tables e below (T12.setTop (mkF m 142 (own_L25 x0 x1 x2 x3 p4 p5 v3 f) [(.long (67108863 : Int64)), (.long ((own_gm5 x0 x1 x2 v3).getD 6 0)), (.int (6 : Int32)), (.ref f)])) _
      refine XT.lsub X12.here hx rfl (hb hby at_142) rfl ?_
      exact oK
    obtain ⟨T13, h13, X13, e13, W13, V13, st13⟩ := own_stJ X12 hx hZ e12 f51 f52 (j := (6 : Int32)) (i := 6) rfl (by decide) (g := (mkF m 143 (own_L25 x0 x1 x2 x3 p4 p5 v3 f) [(.long (((own_gm5 x0 x1 x2 v3).getD 6 0) - (67108863 : Int64))), (.int (6 : Int32)), (.ref f)])) rfl rfl (hb hby at_143)
    have f54 := (f48).wr W13
    have f56 := (f50).wr W13 gf
    have K13 : Keep T6.heap h13 [f] := (K12).wr W13 (Or.inl (by simp))
    have Z13 : n0 ≤ h13.size := Nat.le_trans Z12 (Keep.of_wr W13).1
    have N13 := Fr.snoc X13 N12 gf
    refine OG.of st13 ?_
    show OG _ _ _ _ _ _ _ (T13.setTop (mkF m 144 (own_L25 x0 x1 x2 x3 p4 p5 v3 f) []))
    have f57 : Arv Z h13 f kf .long (10 : Int32) ((own_gm6 x0 x1 x2 v3).map Value.long) (.long (0 : Int64)) := V13
    have f58 : (own_gm6 x0 x1 x2 v3).length = 10 := ((List.length_set ..).trans f52)
    refine OG.of (A := T13.setTop (mkF m 149 (own_L25 x0 x1 x2 x3 p4 p5 v3 f) [(.int (7 : Int32)), (.ref f), (.int (7 : Int32)), (.ref f)])) (fun oT oK => ?_) ?_
    · skip
      refine XS.aload X13.here hx rfl (hb hby at_144) rfl rfl  ?_
      show Steps p.tables e below (T13.setTop (mkF m 146 (own_L25 x0 x1 x2 x3 p4 p5 v3 f) [(.ref f)])) _
      refine XS.bipush X13.here hx rfl (hb hby at_146) ?_
      refine XT.dup2 X13.here hx rfl (hb hby at_148) rfl rfl rfl ?_
      exact oK
    obtain ⟨clf59, Arf59, If59, Hf59⟩ := own_rdL f57 f58 (j := (7 : Int32)) (i := 7) rfl (by decide)
    refine OG.of (X13.laload hx (j := (7 : Int32)) (v := (.long ((own_gm6 x0 x1 x2 v3).getD 7 0))) (by rw [e13]; exact Arf59.1) (State.isArrayOf_alike hZ.alike Arf59.2.1) Arf59.2.2 If59 Hf59 (g := (mkF m 149 (own_L25 x0 x1 x2 x3 p4 p5 v3 f) [(.int (7 : Int32)), (.ref f), (.int (7 : Int32)), (.ref f)])) rfl rfl (hb hby at_149)) ?_
    show OG _ _ _ _ _ _ _ (T13.setTop (mkF m 150 (own_L25 x0 x1 x2 x3 p4 p5 v3 f) [(.long ((own_gm6 x0 x1 x2 v3).getD 7 0)), (.int (7 : Int32)), (.ref f)]))
    refine OG.of (A := T13.setTop (mkF m 154 (own_L25 x0 x1 x2 x3 p4 p5 v3 f) [(.long (((own_gm6 x0 x1 x2 v3).getD 7 0) - (33554431 : Int64))), (.int (7 : Int32)), (.ref f)])) (fun oT oK => ?_) ?_
    · skip
      refine X13.ldc2Long hx hown (mvT hZ (own_at hw 40 rfl)) (g := (mkF m 150 (own_L25 x0 x1 x2 x3 p4 p5 v3 f) [(.long ((own_gm6 x0 x1 x2 v3).getD 7 0)), (.int (7 : Int32)), (.ref f)])) rfl (hb hby at_150) _ ?_
      show Steps p.tables e below (T13.setTop (mkF m 153 (own_L25 x0 x1 x2 x3 p4 p5 v3 f) [(.long (33554431 : Int64)), (.long ((own_gm6 x0 x1 x2 v3).getD 7 0)), (.int (7 : Int32)), (.ref f)])) _
      refine XT.lsub X13.here hx rfl (hb hby at_153) rfl ?_
      exact oK
    obtain ⟨T14, h14, X14, e14, W14, V14, st14⟩ := own_stJ X13 hx hZ e13 f57 f58 (j := (7 : Int32)) (i := 7) rfl (by decide) (g := (mkF m 154 (own_L25 x0 x1 x2 x3 p4 p5 v3 f) [(.long (((own_gm6 x0 x1 x2 v3).getD 7 0) - (33554431 : Int64))), (.int (7 : Int32)), (.ref f)])) rfl rfl (hb hby at_154)
    have f60 := (f54).wr W14
    have f62 := (f56).wr W14 gf
    have K14 : Keep T6.heap h14 [f] := (K13).wr W14 (Or.inl (by simp))
    have Z14 : n0 ≤ h14.size := Nat.le_trans Z13 (Keep.of_wr W14).1
    have N14 := Fr.snoc X14 N13 gf
    refine OG.of st14 ?_
    show OG _ _ _ _ _ _ _ (T14.setTop (mkF m 155 (own_L25 x0 x1 x2 x3 p4 p5 v3 f) []))
    have f63 : Arv Z h14 f kf .long (10 : Int32) ((own_gm7 x0 x1 x2 v3).map Value.long) (.long (0 : Int64)) := V14
    have f64 : (own_gm7 x0 x1 x2 v3).length = 10 := ((List.length_set ..).trans f58)
    refine OG.of (A := T14.setTop (mkF m 160 (own_L25 x0 x1 x2 x3 p4 p5 v3 f) [(.int (8 : Int32)), (.ref f), (.int (8 : Int32)), (.ref f)])) (fun oT oK => ?_) ?_
    · skip
      refine XS.aload X14.here hx rfl (hb hby at_155) rfl rfl  ?_
      show Steps p.tables e below (T14.setTop (mkF m 157 (own_L25 x0 x1 x2 x3 p4 p5 v3 f) [(.ref f)])) _
      refine XS.bipush X14.here hx rfl (hb hby at_157) ?_
      refine XT.dup2 X14.here hx rfl (hb hby at_159) rfl rfl rfl ?_
      exact oK
    obtain ⟨clf65, Arf65, If65, Hf65⟩ := own_rdL f63 f64 (j := (8 : Int32)) (i := 8) rfl (by decide)
    refine OG.of (X14.laload hx (j := (8 : Int32)) (v := (.long ((own_gm7 x0 x1 x2 v3).getD 8 0))) (by rw [e14]; exact Arf65.1) (State.isArrayOf_alike hZ.alike Arf65.2.1) Arf65.2.2 If65 Hf65 (g := (mkF m 160 (own_L25 x0 x1 x2 x3 p4 p5 v3 f) [(.int (8 : Int32)), (.ref f), (.int (8 : Int32)), (.ref f)])) rfl rfl (hb hby at_160)) ?_
    show OG _ _ _ _ _ _ _ (T14.setTop (mkF m 161 (own_L25 x0 x1 x2 x3 p4 p5 v3 f) [(.long ((own_gm7 x0 x1 x2 v3).getD 8 0)), (.int (8 : Int32)), (.ref f)]))
    refine OG.of (A := T14.setTop (mkF m 165 (own_L25 x0 x1 x2 x3 p4 p5 v3 f) [(.long (((own_gm7 x0 x1 x2 v3).getD 8 0) - (67108863 : Int64))), (.int (8 : Int32)), (.ref f)])) (fun oT oK => ?_) ?_
    · skip
      refine X14.ldc2Long hx hown (mvT hZ (own_at hw 41 rfl)) (g := (mkF m 161 (own_L25 x0 x1 x2 x3 p4 p5 v3 f) [(.long ((own_gm7 x0 x1 x2 v3).getD 8 0)), (.int (8 : Int32)), (.ref f)])) rfl (hb hby at_161) _ ?_
      show Steps p.tables e below (T14.setTop (mkF m 164 (own_L25 x0 x1 x2 x3 p4 p5 v3 f) [(.long (67108863 : Int64)), (.long ((own_gm7 x0 x1 x2 v3).getD 8 0)), (.int (8 : Int32)), (.ref f)])) _
      refine XT.lsub X14.here hx rfl (hb hby at_164) rfl ?_
      exact oK
    obtain ⟨T15, h15, X15, e15, W15, V15, st15⟩ := own_stJ X14 hx hZ e14 f63 f64 (j := (8 : Int32)) (i := 8) rfl (by decide) (g := (mkF m 165 (own_L25 x0 x1 x2 x3 p4 p5 v3 f) [(.long (((own_gm7 x0 x1 x2 v3).getD 8 0) - (67108863 : Int64))), (.int (8 : Int32)), (.ref f)])) rfl rfl (hb hby at_165)
    have f66 := (f60).wr W15
    have f68 := (f62).wr W15 gf
    have K15 : Keep T6.heap h15 [f] := (K14).wr W15 (Or.inl (by simp))
    have Z15 : n0 ≤ h15.size := Nat.le_trans Z14 (Keep.of_wr W15).1
    have N15 := Fr.snoc X15 N14 gf
    refine OG.of st15 ?_
    show OG _ _ _ _ _ _ _ (T15.setTop (mkF m 166 (own_L25 x0 x1 x2 x3 p4 p5 v3 f) []))
    have f69 : Arv Z h15 f kf .long (10 : Int32) ((own_gm8 x0 x1 x2 v3).map Value.long) (.long (0 : Int64)) := V15
    have f70 : (own_gm8 x0 x1 x2 v3).length = 10 := ((List.length_set ..).trans f64)
    refine OG.of (A := T15.setTop (mkF m 171 (own_L25 x0 x1 x2 x3 p4 p5 v3 f) [(.int (9 : Int32)), (.ref f), (.int (9 : Int32)), (.ref f)])) (fun oT oK => ?_) ?_
    · skip
      refine XS.aload X15.here hx rfl (hb hby at_166) rfl rfl  ?_
      show Steps p.tables e below (T15.setTop (mkF m 168 (own_L25 x0 x1 x2 x3 p4 p5 v3 f) [(.ref f)])) _
      refine XS.bipush X15.here hx rfl (hb hby at_168) ?_
      refine XT.dup2 X15.here hx rfl (hb hby at_170) rfl rfl rfl ?_
      exact oK
    obtain ⟨clf71, Arf71, If71, Hf71⟩ := own_rdL f69 f70 (j := (9 : Int32)) (i := 9) rfl (by decide)
    refine OG.of (X15.laload hx (j := (9 : Int32)) (v := (.long ((own_gm8 x0 x1 x2 v3).getD 9 0))) (by rw [e15]; exact Arf71.1) (State.isArrayOf_alike hZ.alike Arf71.2.1) Arf71.2.2 If71 Hf71 (g := (mkF m 171 (own_L25 x0 x1 x2 x3 p4 p5 v3 f) [(.int (9 : Int32)), (.ref f), (.int (9 : Int32)), (.ref f)])) rfl rfl (hb hby at_171)) ?_
    show OG _ _ _ _ _ _ _ (T15.setTop (mkF m 172 (own_L25 x0 x1 x2 x3 p4 p5 v3 f) [(.long ((own_gm8 x0 x1 x2 v3).getD 9 0)), (.int (9 : Int32)), (.ref f)]))
    refine OG.of (A := T15.setTop (mkF m 176 (own_L25 x0 x1 x2 x3 p4 p5 v3 f) [(.long (((own_gm8 x0 x1 x2 v3).getD 9 0) - (33554431 : Int64))), (.int (9 : Int32)), (.ref f)])) (fun oT oK => ?_) ?_
    · skip
      refine X15.ldc2Long hx hown (mvT hZ (own_at hw 40 rfl)) (g := (mkF m 172 (own_L25 x0 x1 x2 x3 p4 p5 v3 f) [(.long ((own_gm8 x0 x1 x2 v3).getD 9 0)), (.int (9 : Int32)), (.ref f)])) rfl (hb hby at_172) _ ?_
      show Steps p.tables e below (T15.setTop (mkF m 175 (own_L25 x0 x1 x2 x3 p4 p5 v3 f) [(.long (33554431 : Int64)), (.long ((own_gm8 x0 x1 x2 v3).getD 9 0)), (.int (9 : Int32)), (.ref f)])) _
      refine XT.lsub X15.here hx rfl (hb hby at_175) rfl ?_
      exact oK
    obtain ⟨T16, h16, X16, e16, W16, V16, st16⟩ := own_stJ X15 hx hZ e15 f69 f70 (j := (9 : Int32)) (i := 9) rfl (by decide) (g := (mkF m 176 (own_L25 x0 x1 x2 x3 p4 p5 v3 f) [(.long (((own_gm8 x0 x1 x2 v3).getD 9 0) - (33554431 : Int64))), (.int (9 : Int32)), (.ref f)])) rfl rfl (hb hby at_176)
    have f72 := (f66).wr W16
    have f74 := (f68).wr W16 gf
    have K16 : Keep T6.heap h16 [f] := (K15).wr W16 (Or.inl (by simp))
    have Z16 : n0 ≤ h16.size := Nat.le_trans Z15 (Keep.of_wr W16).1
    have N16 := Fr.snoc X16 N15 gf
    refine OG.of st16 ?_
    show OG _ _ _ _ _ _ _ (T16.setTop (mkF m 177 (own_L25 x0 x1 x2 x3 p4 p5 v3 f) []))
    exact own_tail x0 x1 x2 x3 p4 p5 v3 f kf (own_gs1 x0 x1 x2 v3) wB X16 hx hZ hw hby hml hown hlk Bd.returns e16 N16 Z16 f74 SB TB gf f72 rfl V16 (own_law1_0 x0 x1 x2 v3 p4 (own_v3 hv3)) (own_law1_1 x0 x1 x2 v3 p4 (own_v3 hv3)) (own_law1_2 x0 x1 x2 v3 p4 (own_v3 hv3)) (own_law1_3 x0 x1 x2 v3 p4 (own_v3 hv3))
set_option maxRecDepth 65536 in
set_option maxHeartbeats 40000000 in
theorem comes_1 {Post : Tables → Env → Array Value → State → Outcome → State → Prop} (hpost : ∀ tb e args s v u, (limb_1_1.after args s (.returned v) u = true ∧ limb_1_2.after args s (.returned v) u = true ∧ True) → FrameEnd s (.returned v) u (Jvm.fieldLocs frame_1_writes args s ++ Jvm.arrayLocs frame_1_arrays args s ++ Jvm.staticLocs frame_1_statics s) 16 192 → Post tb e args s (.returned v) u) :
    ArmFor flags0 classFile x code maxLocals ret World_1 tables_1 room_1 Calls_1 rest_1 Pre_1 Post := by
  intro l hfl _ _ p e ha hc hk s m args below hf hA hF happ hP
  obtain ⟨hcalls, hrest, hpre⟩ := hP
  obtain ⟨-, -, -, hnamed, -, -, -, hat⟩ := (Spec.applies_iff hf).mp happ
  obtain ⟨hg, hn⟩ := and_e (Cond.before_iff.mp (show (Jvm.Cond.and given_1 narrow_1).before args s = true from hpre))
  obtain ⟨g1, g2⟩ := and_e hg
  obtain ⟨g3, g4⟩ := and_e g2
  obtain ⟨g5, g6⟩ := and_e g4
  obtain ⟨g7, g8⟩ := and_e g6
  obtain ⟨g9, g10⟩ := and_e g8
  obtain ⟨g11, g12⟩ := and_e g10
  obtain ⟨w0, w1, w2, w3, w4, w5, rfl⟩ : ∃ w0 w1 w2 w3 w4 w5 : Value, args = #[w0, w1, w2, w3, w4, w5] := by
    have hs : args.size = 6 := by simpa [Cond.value, given_1] using g1
    obtain ⟨L⟩ := args
    match L, hs with
    | [w0, w1, w2, w3, w4, w5], _ => exact ⟨w0, w1, w2, w3, w4, w5, rfl⟩
  have hw := fun d (hd : d ∈ tables_1) => atoms_spec (ws := Jvm.Cond.code x code maxLocals ret :: tables_1) hat d (List.mem_cons_of_mem _ hd)
  have hfit : Fit s := fun {y c} hc i hi => by
    obtain ⟨ha, rfl⟩ := Array.getElem?_eq_some_iff.mp hc
    have q := List.all_eq_true.mp ((Array.all_eq_true_iff_forall_mem.mp hF) _ (Array.getElem_mem ha)) i (List.mem_range.mpr hi)
    simpa [Array.getElem?_eq_getElem hi] using q
  obtain ⟨i0, ei0⟩ := isL_v g3
  obtain rfl : w0 = (.long i0) := Option.some.inj ei0
  obtain ⟨i1, ei1⟩ := isL_v g5
  obtain rfl : w1 = (.long i1) := Option.some.inj ei1
  obtain ⟨i2, ei2⟩ := isL_v g7
  obtain rfl : w2 = (.long i2) := Option.some.inj ei2
  obtain ⟨i3, ei3⟩ := isL_v g9
  obtain rfl : w3 = (.long i3) := Option.some.inj ei3
  obtain ⟨i4, ei4⟩ := isL_v g11
  obtain rfl : w4 = (.long i4) := Option.some.inj ei4
  obtain ⟨i5, ei5⟩ := is_v g12
  obtain rfl : w5 = (.int i5) := Option.some.inj ei5
  obtain ⟨na1, na2⟩ := and_e hn
  obtain ⟨na3, na4⟩ := and_e na2
  obtain ⟨na5, na6⟩ := and_e na4
  obtain ⟨na7, na8⟩ := and_e na6
  obtain ⟨na9, na10⟩ := and_e na8
  obtain ⟨na11, na12⟩ := and_e na10
  obtain ⟨na13, na14⟩ := and_e na12
  obtain ⟨na15, na16⟩ := and_e na14
  obtain ⟨na17, na18⟩ := and_e na16
  obtain ⟨na19, na20⟩ := and_e na18
  obtain ⟨na21, na22⟩ := and_e na20
  obtain ⟨na23, na24⟩ := and_e na22
  obtain ⟨na25, na26⟩ := and_e na24
  obtain ⟨na27, na28⟩ := and_e na26
  obtain ⟨na29, na30⟩ := and_e na28
  obtain ⟨na31, na32⟩ := and_e na30
  obtain ⟨na33, na34⟩ := and_e na32
  obtain ⟨na35, na36⟩ := and_e na34
  obtain ⟨na37, na38⟩ := and_e na36
  obtain ⟨na39, na40⟩ := and_e na38
  obtain ⟨na41, na42⟩ := and_e na40
  obtain ⟨na43, na44⟩ := and_e na42
  obtain ⟨na45, na46⟩ := and_e na44
  obtain ⟨w_POSITIONS, ev_POSITIONS⟩ := arr_v na1
  have S_POSITIONS := Sta.start ev_POSITIONS (Or.inr ⟨(own_at hw 4 rfl), (own_at hw 7 rfl)⟩)
  have T_POSITIONS : ∀ j, j < 10 → ORd s s.heap w_POSITIONS .int (Int32.ofNat j) (.int (own_pos j)) := fun j hj => by
    match j, hj with
    | 0, _ => exact ORd.start ev_POSITIONS na1 (by decide) (own_eqI na9)
    | 1, _ => exact ORd.start ev_POSITIONS na1 (by decide) (own_eqI na11)
    | 2, _ => exact ORd.start ev_POSITIONS na1 (by decide) (own_eqI na13)
    | 3, _ => exact ORd.start ev_POSITIONS na1 (by decide) (own_eqI na15)
    | 4, _ => exact ORd.start ev_POSITIONS na1 (by decide) (own_eqI na17)
    | 5, _ => exact ORd.start ev_POSITIONS na1 (by decide) (own_eqI na19)
    | 6, _ => exact ORd.start ev_POSITIONS na1 (by decide) (own_eqI na21)
    | 7, _ => exact ORd.start ev_POSITIONS na1 (by decide) (own_eqI na23)
    | 8, _ => exact ORd.start ev_POSITIONS na1 (by decide) (own_eqI na25)
    | 9, _ => exact ORd.start ev_POSITIONS na1 (by decide) (own_eqI na27)
  obtain ⟨w_BITS, ev_BITS⟩ := arr_v na5
  have S_BITS := Sta.start ev_BITS (Or.inr ⟨(own_at hw 4 rfl), (own_at hw 9 rfl)⟩)
  have T_BITS : ∀ j, j < 10 → ORd s s.heap w_BITS .int (Int32.ofNat j) (.int (own_bits j)) := fun j hj => by
    match j, hj with
    | 0, _ => exact ORd.start ev_BITS na5 (by decide) (own_eqI na29)
    | 1, _ => exact ORd.start ev_BITS na5 (by decide) (own_eqI na31)
    | 2, _ => exact ORd.start ev_BITS na5 (by decide) (own_eqI na33)
    | 3, _ => exact ORd.start ev_BITS na5 (by decide) (own_eqI na35)
    | 4, _ => exact ORd.start ev_BITS na5 (by decide) (own_eqI na37)
    | 5, _ => exact ORd.start ev_BITS na5 (by decide) (own_eqI na39)
    | 6, _ => exact ORd.start ev_BITS na5 (by decide) (own_eqI na41)
    | 7, _ => exact ORd.start ev_BITS na5 (by decide) (own_eqI na43)
    | 8, _ => exact ORd.start ev_BITS na5 (by decide) (own_eqI na45)
    | 9, _ => exact ORd.start ev_BITS na5 (by decide) (own_eqI na46)
  obtain ⟨n, o, h1, h2, h3, _, L, rfl, ⟨rfl, N⟩, hq⟩ := rm0 l s _ hw tables_1 i0 i1 i2 i3 i4 i5 w_POSITIONS w_BITS s.heap s.heap.size (Nat.le_refl _) (Old.start s) S_POSITIONS S_BITS T_POSITIONS T_BITS p e ha hc hk s m _ below hf ((Spec.applies_iff_loose hf).mp happ).1 ⟨rfl, State.Warmed39.refl s, rfl⟩ trivial
  refine ⟨n, _, h1, h2, h3, hpost _ _ _ _ _ _ ⟨Cond.after_iff.mpr rfl, Cond.after_iff.mpr (eq_i res_at (Term.int_eval (1)) rfl), trivial⟩ ⟨hq.1, hq.2.1, (hq.2.2.sift fun y hy => Or.inr (N y hy)).mono (by decide) (by decide)⟩⟩
theorem main_1_1 : Claimed_1_1 := comes_1 fun _ _ _ _ _ _ h hF => ⟨h.1, hF⟩
theorem main_1_2 : Claimed_1_2 := comes_1 fun _ _ _ _ _ _ h hF => ⟨h.2.1, hF⟩
end Jvm.Pilot.@@N@@
namespace Jvm.Pilot.@@N@@
open Jvm Jvm.ClassFile Sem Op Lib Jvm.Free Jvm.Stand Jvm.Pilot.@@N@@.Jvm.D
/-! MADE BY PROGRAM (witnessworld.py) out of the Statement's table words and the real class files: 11 classes; the members and pool entries that the words name. The judged class is class 1, her method 3. -/
namespace start1
open Jvm.ClassFile
def u (s : String) : CpInfo := .utf8 (stringToUtf16 s)
/-- a pool by its gaps: so many unusable entries, then the entry; so many at the end -/
def gap : Nat → List CpInfo → List CpInfo
  | 0, r => r
  | n + 1, r => .unusable :: gap n r
def poolList (es : List (Nat × CpInfo)) (last : Nat) : List CpInfo := es.foldr (fun e r => gap e.1 (e.2 :: r)) (gap last [])
def pool (es : List (Nat × CpInfo)) (last : Nat) : Array CpInfo := ⟨poolList es last⟩
def fileOf (pool : Array CpInfo) (this : Nat) (attrs : Array Attribute := #[]) (ms : Array MethodInfo := #[]) (fl : Nat := 33) (sup : Nat := 0) (ifs : Array Nat := #[]) (fds : Array FieldInfo := #[]) : ClassFile where
  minorVersion := 0
  majorVersion := 65
  constantPool := pool
  accessFlags := fl
  thisClass := this
  superClass := sup
  interfaces := ifs
  fields := fds
  methods := ms
  attributes := attrs
def plain (name : String) (sup : Option ClassId) : Class where
  name := name
  kind := .ordinary
  loader := none
  accessFlags := 33
  super := sup
  interfaces := #[]
  cf := none
  fields := #[]
  methods := #[]
  instanceTypes := #[]
  staticTypes := #[]
  resolved := #[]
  callSites := []
  init := .initialized
  statics := none
  mirror := none

def pool0 : Array CpInfo := pool [(5, u "<init>"), (0, u "()V"), (1, .class_ 10), (1, u "java/lang/Object"), (85, u "clone"), (0, u "()Ljava/lang/Object;")] 26

def k0m0 : Method := { name := "<init>", desc := "()V", sig := { parameters := [], returnType := none }, accessFlags := 1, code := none }
def k0m1 : Method := { name := "clone", desc := "()Ljava/lang/Object;", sig := { parameters := [], returnType := some (.object "java/lang/Object") }, accessFlags := 260, code := none }
/-- java/lang/Object -/
def k0 : Class := { plain "java/lang/Object" none with
  accessFlags := 33
  interfaces := #[]
  cf := some (fileOf pool0 8 #[] #[{ accessFlags := 1, nameIndex := 5, descriptorIndex := 6, attributes := #[] }, { accessFlags := 260, nameIndex := 96, descriptorIndex := 97, attributes := #[] }] 33 0 #[] #[])
  fields := #[]
  methods := #[k0m0, k0m1]
  instanceTypes := #[]
  staticTypes := #[]
  resolved := Array.replicate 124 none
  statics := none }

def pool1 : Array CpInfo := pool [(2, .class_ 4), (1, u "java/lang/Object"), (0, u "<init>"), (0, u "()V"), (0, .long 3), (1, .long 255), (1, .long 18446744073709551615), (1, .long 31), (1, .long 9223372036854775807), (1, .methodref 18 19), (0, .class_ 20), (0, .nameAndType 21 22), (0, u "com/example/gate_to_gate/gatetogate/io/Field25519"), (0, u "fromWords"), (0, u "([JI)[J"), (0, .long 67108845), (1, .long 33554431), (1, .long 67108863), (1, .methodref 30 31), (0, .class_ 32), (0, .nameAndType 33 34), (0, u "com/example/gate_to_gate/gatetogate/io/Field25519EncodePinLaw"), (0, u "d"), (0, u "(JI)J"), (0, .long 67108864), (1, .long 19), (1, .long 33554432), (1, .methodref 18 42), (0, .nameAndType 43 44), (0, u "encode"), (0, u "([J)[B"), (0, .long 18446744073709551597), (1, .methodref 30 48), (0, .nameAndType 49 50), (0, u "pack"), (0, u "([BI)J"), (2, u "law"), (0, u "(JJJJJI)Z")] 7

def k1m0 : Method := { name := "<init>", desc := "()V", sig := { parameters := [], returnType := none }, accessFlags := 2, code := none }
def k1c1 : Code := { maxStack := 4, maxLocals := 4, code := method_2_code, exceptionTable := #[], attributes := #[] }
def k1m1 : Method := { name := "d", desc := "(JI)J", sig := { parameters := [.long, .int], returnType := some .long }, accessFlags := 10, code := some k1c1 }
def k1c2 : Code := { maxStack := 6, maxLocals := 2, code := method_3_code, exceptionTable := #[], attributes := #[] }
def k1m2 : Method := { name := "pack", desc := "([BI)J", sig := { parameters := [(.array .byte), .int], returnType := some .long }, accessFlags := 10, code := some k1c2 }
def k1c3 : Code := { maxStack := 8, maxLocals := 43, code := code, exceptionTable := #[], attributes := #[] }
def k1m3 : Method := { name := "law", desc := "(JJJJJI)Z", sig := { parameters := [.long, .long, .long, .long, .long, .int], returnType := some .boolean }, accessFlags := 9, code := some k1c3 }
/-- com/example/gate_to_gate/gatetogate/io/Field25519EncodePinLaw -/
def k1 : Class := { plain "com/example/gate_to_gate/gatetogate/io/Field25519EncodePinLaw" (some 0) with
  accessFlags := 49
  interfaces := #[]
  cf := some (fileOf pool1 30 #[] #[{ accessFlags := 2, nameIndex := 5, descriptorIndex := 6, attributes := #[] }, { accessFlags := 10, nameIndex := 33, descriptorIndex := 34, attributes := #[] }, { accessFlags := 10, nameIndex := 49, descriptorIndex := 50, attributes := #[] }, { accessFlags := 9, nameIndex := 53, descriptorIndex := 54, attributes := #[] }] 49 2 #[] #[])
  fields := #[]
  methods := #[k1m0, k1m1, k1m2, k1m3]
  instanceTypes := #[]
  staticTypes := #[]
  resolved := Array.replicate 62 none
  statics := none }

def pool2 : Array CpInfo := pool [(2, .class_ 4), (1, u "java/lang/Object"), (0, u "<init>"), (0, u "()V"), (0, .class_ 8), (0, u "com/example/gate_to_gate/gatetogate/io/Field25519"), (0, .fieldref 7 10), (0, .nameAndType 11 12), (0, u "POSITIONS"), (0, u "[I"), (4, .fieldref 7 18), (0, .nameAndType 19 12), (0, u "BITS"), (0, .methodref 21 22), (0, .class_ 23), (0, .nameAndType 24 25), (0, u "[J"), (0, u "clone"), (0, u "()Ljava/lang/Object;"), (0, .long 19), (7, u "encode"), (0, u "([J)[B"), (19, u "([JI)[J"), (9, u "LIMBS"), (0, u "I"), (2, u "ENCODED_LENGTH"), (8, u "fromWords")] 13

def k2m0 : Method := { name := "<init>", desc := "()V", sig := { parameters := [], returnType := none }, accessFlags := 2, code := none }
def k2c1 : Code := { maxStack := 8, maxLocals := 9, code := prog_16_method_4_code, exceptionTable := #[], attributes := #[] }
def k2m1 : Method := { name := "fromWords", desc := "([JI)[J", sig := { parameters := [(.array .long), .int], returnType := some (.array .long) }, accessFlags := 8, code := some k2c1 }
def k2c2 : Code := { maxStack := 8, maxLocals := 10, code := prog_16_method_5_code, exceptionTable := #[], attributes := #[] }
def k2m2 : Method := { name := "encode", desc := "([J)[B", sig := { parameters := [(.array .long)], returnType := some (.array .byte) }, accessFlags := 8, code := some k2c2 }
/-- com/example/gate_to_gate/gatetogate/io/Field25519 -/
def k2 : Class := { plain "com/example/gate_to_gate/gatetogate/io/Field25519" (some 0) with
  accessFlags := 48
  interfaces := #[]
  cf := some (fileOf pool2 7 #[] #[{ accessFlags := 2, nameIndex := 5, descriptorIndex := 6, attributes := #[] }, { accessFlags := 8, nameIndex := 78, descriptorIndex := 55, attributes := #[] }, { accessFlags := 8, nameIndex := 34, descriptorIndex := 35, attributes := #[] }] 48 2 #[] #[{ accessFlags := 24, nameIndex := 65, descriptorIndex := 66, attributes := #[] }, { accessFlags := 26, nameIndex := 19, descriptorIndex := 12, attributes := #[] }, { accessFlags := 26, nameIndex := 11, descriptorIndex := 12, attributes := #[] }, { accessFlags := 24, nameIndex := 69, descriptorIndex := 66, attributes := #[] }])
  fields := #[{ name := "LIMBS", type := .int, accessFlags := 24, slot := 0, constantValue := 0 }, { name := "BITS", type := (.array .int), accessFlags := 26, slot := 1, constantValue := 0 }, { name := "POSITIONS", type := (.array .int), accessFlags := 26, slot := 2, constantValue := 0 }, { name := "ENCODED_LENGTH", type := .int, accessFlags := 24, slot := 3, constantValue := 0 }]
  methods := #[k2m0, k2m1, k2m2]
  instanceTypes := #[]
  staticTypes := #[.int, (.array .int), (.array .int), .int]
  resolved := Array.replicate 92 none
  statics := some 0 }

def pool3 : Array CpInfo := pool [(1, .class_ 2), (0, u "java/lang/Cloneable"), (0, .class_ 4), (0, u "java/lang/Object")] 2

/-- java/lang/Cloneable -/
def k3 : Class := { plain "java/lang/Cloneable" (some 0) with
  accessFlags := 1537
  interfaces := #[]
  cf := some (fileOf pool3 1 #[] #[] 1537 3 #[] #[])
  fields := #[]
  methods := #[]
  instanceTypes := #[]
  staticTypes := #[]
  resolved := Array.replicate 7 none
  statics := none }

def pool4 : Array CpInfo := pool [(1, u "java/io/Serializable"), (0, .class_ 1), (0, u "java/lang/Object"), (0, .class_ 3)] 3

/-- java/io/Serializable -/
def k4 : Class := { plain "java/io/Serializable" (some 0) with
  accessFlags := 1537
  interfaces := #[]
  cf := some (fileOf pool4 2 #[] #[] 1537 4 #[] #[])
  fields := #[]
  methods := #[]
  instanceTypes := #[]
  staticTypes := #[]
  resolved := Array.replicate 8 none
  statics := none }

/-- the primitive byte -/
def k5 : Class := { plain "byte" none with kind := .primitive 'B', accessFlags := 0x411 }
/-- [B -/
def k6 : Class := { plain "[B" (some 0) with kind := .array 5 .byte, interfaces := #[3, 4], accessFlags := 1041 }

/-- the primitive int -/
def k7 : Class := { plain "int" none with kind := .primitive 'I', accessFlags := 0x411 }
/-- [I -/
def k8 : Class := { plain "[I" (some 0) with kind := .array 7 .int, interfaces := #[3, 4], accessFlags := 1041 }

/-- the primitive long -/
def k9 : Class := { plain "long" none with kind := .primitive 'J', accessFlags := 0x411 }
/-- [J -/
def k10 : Class := { plain "[J" (some 0) with kind := .array 9 .long, interfaces := #[3, 4], accessFlags := 1041 }

def heap : Heap := #[{ cls := 2, slots := #[.int 0, .ref 2, .ref 1, .int 0], vm := .statics 2 },
  { cls := 8, slots := #[.int 0, .int 26, .int 51, .int 77, .int 102, .int 128, .int 153, .int 179, .int 204, .int 230], vm := .none },
  { cls := 8, slots := #[.int 26, .int 25, .int 26, .int 25, .int 26, .int 25, .int 26, .int 25, .int 26, .int 25], vm := .none }]
def classes : Array Class := #[k0, k1, k2, k3, k4, k5, k6, k7, k8, k9, k10]
def interned : List (Array UInt16 × Addr) := []
def slotsUsed : Nat := 24
def theMethod : MethodId := ⟨1, 3⟩
def args0 : Array Value := #[.long 5, .long 6, .long 7, .long 8, .long 9, .int 1]
def aboutOver (below : List Frame) : State where
  vm := { classes := classes, interned := interned.toArray }
  heap := heap
  slotsUsed := slotsUsed
  threads := #[{ frames := .invoking theMethod args0 :: below }]
def below0 : List Frame := [.native { method := ⟨0, 0⟩, args := #[] }]
def about1 : State := aboutOver below0
def p0 : Program := .bare "" "" ""
def e0 : Env := launch0.env 0 0 0
theorem w_frames : about1.frames = Frame.invoking theMethod args0 :: below0 := rfl
set_option maxRecDepth 65536 in
theorem w_args : argsFit about1.vm theMethod args0 = true := by decide +kernel
set_option maxRecDepth 65536 in
theorem w_heap : heapFits about1 = true := by decide +kernel
set_option maxRecDepth 65536 in
theorem w_runnable : about1.curStatus? = some .runnable := by decide +kernel
set_option maxRecDepth 65536 in
theorem w_alone : about1.alone = true := by decide +kernel
set_option maxRecDepth 65536 in
theorem w_named : about1.methodNamed? x = some theMethod := by decide +kernel
set_option maxRecDepth 65536 in
theorem w_hears : about1.hears theMethod below0 = true := by decide +kernel
set_option maxRecDepth 65536 in
theorem w_ripe : about1.ripe theMethod args0 below0 = true := by decide +kernel
theorem w_running : about1.status = .running := rfl
set_option maxRecDepth 65536 in
theorem w_room : about1.hasRoom e0.platform room_1 = true :=
  launch0.hasRoom_least _ room_1 (by decide +kernel) (by decide +kernel) (by decide +kernel) (by decide +kernel) (by decide +kernel) (by decide +kernel)
theorem allAtoms_all (ts : List Jvm.Cond) (a : Array Jvm.Value) (st : Jvm.State) : (allAtoms ts).before a st = ts.all (fun c => c.before a st) := by
  induction ts with
  | nil => rfl
  | cons c t ih =>
    show (Jvm.Cond.and c (allAtoms t)).before a st = _
    rw [Jvm.Cond.before_and, ih, List.all_cons]
def words1 : List Jvm.Cond := Jvm.Cond.code x code maxLocals ret :: tables_1
/-- a 'code' word, met by the world's own term for the bytes: nothing is compared byte by byte -/
theorem code_word {y : MethodName} {bytes : ByteArray} {mx : Nat} {rt : Option FieldType} {a : Array Value} {s : State} {m : MethodId} {meth : Method} {c : Code} (h1 : s.methodNamed? y = some m) (h2 : s.vm.method? m = some meth) (h3 : meth.code = some c) (h4 : c.code = bytes)
    (h5 : (c.maxLocals == mx && c.exceptionTable.isEmpty && decide (c.maxStack ≤ mostOperands) && decide (meth.sig.returnType = rt) && !meth.locks && decide (parseMethodDescriptor y.desc = some meth.sig)) = true) : (Jvm.Cond.code y bytes mx rt).before a s = true := by
  simp only [Bool.and_eq_true, beq_iff_eq, Bool.not_eq_true', decide_eq_true_eq] at h5
  obtain ⟨⟨⟨⟨⟨g1, g2⟩, g3⟩, g4⟩, g5⟩, g6⟩ := h5
  simp [Cond.before, Cond.holds, Cond.value, h1, h2, h3, h4, g1, g2, g3, g4, g5, g6]
def isCode : Jvm.Cond → Bool
  | .code _ _ _ _ => true
  | _ => false
theorem all_split {L : List Jvm.Cond} {P : Jvm.Cond → Bool} (h1 : L.all (fun c => isCode c || P c) = true) (h2 : ∀ c ∈ L.filter isCode, P c = true) : L.all P = true := by
  refine List.all_eq_true.mpr fun c hc => ?_
  have h := List.all_eq_true.mp h1 c hc
  rcases Bool.eq_false_or_eq_true (isCode c) with hi | hi
  · exact h2 c (List.mem_filter.mpr ⟨hc, hi⟩)
  · simpa [hi] using h
set_option maxRecDepth 65536 in
theorem w_c0 : (Jvm.Cond.code x code maxLocals ret).before args0 about1 = true := code_word (m := ⟨1, 3⟩) (meth := k1m3) (c := k1c3) (by decide +kernel) rfl rfl rfl (by decide +kernel)
set_option maxRecDepth 65536 in
theorem w_c1 : (Jvm.Cond.code ({ cls := "com/example/gate_to_gate/gatetogate/io/Field25519", name := "fromWords", desc := "([JI)[J" } : Jvm.MethodName) prog_16_method_4_code (9 : Nat) (Option.some (Jvm.ClassFile.FieldType.array Jvm.ClassFile.FieldType.long))).before args0 about1 = true := code_word (m := ⟨2, 1⟩) (meth := k2m1) (c := k2c1) (by decide +kernel) rfl rfl rfl (by decide +kernel)
set_option maxRecDepth 65536 in
theorem w_c2 : (Jvm.Cond.code ({ cls := "com/example/gate_to_gate/gatetogate/io/Field25519EncodePinLaw", name := "d", desc := "(JI)J" } : Jvm.MethodName) method_2_code (4 : Nat) (Option.some Jvm.ClassFile.FieldType.long)).before args0 about1 = true := code_word (m := ⟨1, 1⟩) (meth := k1m1) (c := k1c1) (by decide +kernel) rfl rfl rfl (by decide +kernel)
set_option maxRecDepth 65536 in
theorem w_c3 : (Jvm.Cond.code ({ cls := "com/example/gate_to_gate/gatetogate/io/Field25519", name := "encode", desc := "([J)[B" } : Jvm.MethodName) prog_16_method_5_code (10 : Nat) (Option.some (Jvm.ClassFile.FieldType.array Jvm.ClassFile.FieldType.byte))).before args0 about1 = true := code_word (m := ⟨2, 2⟩) (meth := k2m2) (c := k2c2) (by decide +kernel) rfl rfl rfl (by decide +kernel)
set_option maxRecDepth 65536 in
theorem w_c4 : (Jvm.Cond.code ({ cls := "com/example/gate_to_gate/gatetogate/io/Field25519EncodePinLaw", name := "pack", desc := "([BI)J" } : Jvm.MethodName) method_3_code (2 : Nat) (Option.some Jvm.ClassFile.FieldType.long)).before args0 about1 = true := code_word (m := ⟨1, 2⟩) (meth := k1m2) (c := k1c2) (by decide +kernel) rfl rfl rfl (by decide +kernel)
def codes1 : List Jvm.Cond := [Jvm.Cond.code x code maxLocals ret, Jvm.Cond.code ({ cls := "com/example/gate_to_gate/gatetogate/io/Field25519", name := "fromWords", desc := "([JI)[J" } : Jvm.MethodName) prog_16_method_4_code (9 : Nat) (Option.some (Jvm.ClassFile.FieldType.array Jvm.ClassFile.FieldType.long)), Jvm.Cond.code ({ cls := "com/example/gate_to_gate/gatetogate/io/Field25519EncodePinLaw", name := "d", desc := "(JI)J" } : Jvm.MethodName) method_2_code (4 : Nat) (Option.some Jvm.ClassFile.FieldType.long), Jvm.Cond.code ({ cls := "com/example/gate_to_gate/gatetogate/io/Field25519", name := "encode", desc := "([J)[B" } : Jvm.MethodName) prog_16_method_5_code (10 : Nat) (Option.some (Jvm.ClassFile.FieldType.array Jvm.ClassFile.FieldType.byte)), Jvm.Cond.code ({ cls := "com/example/gate_to_gate/gatetogate/io/Field25519EncodePinLaw", name := "pack", desc := "([BI)J" } : Jvm.MethodName) method_3_code (2 : Nat) (Option.some Jvm.ClassFile.FieldType.long)]
set_option maxRecDepth 65536 in
theorem codes_eq : words1.filter isCode = codes1 := rfl
theorem w_codes : ∀ c ∈ words1.filter isCode, c.before args0 about1 = true := by
  rw [codes_eq]
  intro c hc
  simp only [codes1, List.mem_cons, List.not_mem_nil, or_false] at hc
  rcases hc with rfl | rfl | rfl | rfl | rfl
  · exact w_c0
  · exact w_c1
  · exact w_c2
  · exact w_c3
  · exact w_c4
set_option maxRecDepth 65536 in
theorem w_t1 : (words1.take 24).all (fun c => isCode c || c.before args0 about1) = true := by decide +kernel
set_option maxRecDepth 65536 in
theorem w_t2 : (words1.drop 24).all (fun c => isCode c || c.before args0 about1) = true := by decide +kernel
theorem w_tables : (allAtoms (Jvm.Cond.code x code maxLocals ret :: tables_1)).before args0 about1 = true := by
  rw [allAtoms_all]
  show words1.all (fun c => c.before args0 about1) = true
  refine all_split ?_ w_codes
  rw [← List.take_append_drop 24 words1, List.all_append, w_t1, w_t2]
  rfl
set_option maxRecDepth 65536 in
theorem w_case : (Jvm.Cond.and given_1 narrow_1).before args0 about1 = true := by decide +kernel
theorem w_applies : (headSpec (Jvm.Cond.code x code maxLocals ret :: tables_1) room_1).applies x e0.platform about1 = true :=
  (Spec.applies_iff w_frames).mpr ⟨w_running, w_runnable, w_alone, w_named, w_hears, w_ripe, w_room, w_tables⟩
theorem atStart : AtStart classFile x code maxLocals ret World_1 tables_1 room_1 Calls_1 rest_1 Pre_1 launch0 p0 e0 about1 theMethod args0 below0 :=
  ⟨lists_1, trivial, launch0.admits_env _ _ _, launch0.least_env, fairChoices_fair.cas, fairChoices_fair.clock, w_frames, w_args, w_heap, w_applies, trivial, trivial, w_case⟩
end start1
theorem witness_1 : WitnessClaimed_1 := ⟨start1.p0, start1.e0, start1.about1, start1.theMethod, start1.args0, start1.below0, start1.atStart⟩
end Jvm.Pilot.@@N@@
