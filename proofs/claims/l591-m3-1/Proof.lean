import JvmDerived
import JvmDerived.Pilot.@@N@@Statement
import JvmDerived.Pilot.@@N@@Code
set_option linter.unusedVariables false
set_option linter.unusedSimpArgs false
namespace Jvm.Pilot.@@N@@
open Jvm Jvm.ClassFile Sem Op Lib Jvm.Free Jvm.Stand Jvm.LawKit Jvm.RoadKit Bundle Jvm.Pilot.@@N@@.Jvm.D
section Own
variable {p : Program} {l : Launch} {e : Env} {R : Room} {s : State} {m : MethodId} {args : Array Value} {below : List Frame} {meth : Method} {c : Code} {T : State} {locs : List Loc} {cells slots : Nat} {k n : Nat} {P : Option Value → Heap → List Loc → Prop} {A B : State}
/-- from S0 the run comes to a return with what P says -/
def OG (p : Program) (e : Env) (below : List Frame) (s : State) (k n : Nat) (P : Option Value → Heap → List Loc → Prop) (S0 : State) : Prop :=
  ∃ s₂ o, Steps p.tables e below S0 s₂ ∧ s₂.status = .running ∧ Ended s₂ below o ∧ ∃ v L, o = .returned v ∧ P v s₂.heap L ∧ FrameEnd s o s₂ L k n
theorem OG.trans (h : Steps p.tables e below B A) (g : OG p e below s k n P A) : OG p e below s k n P B := by
  obtain ⟨s₂, o, h1, r⟩ := g
  exact ⟨s₂, o, h.trans h1, r⟩
theorem OG.of (h : ∀ t, Steps p.tables e below A t → Steps p.tables e below B t) (g : OG p e below s k n P A) : OG p e below s k n P B := by
  obtain ⟨s₂, o, h1, r⟩ := g
  exact ⟨s₂, o, h _ h1, r⟩
theorem OG.retN (X : Stand p l e R s m args below meth c T locs cells slots) (hx : p.tables.exec = Jvm.exec) {pc : Nat} {Ls : Array Slot} {z : Int32} {t : FieldType} {rest : List Value} (hret : meth.sig.returnType = some t) (ht : t = .boolean ∨ t = .byte ∨ t = .char ∨ t = .short) (hd : decode c.code pc = .ok (.ireturn, 1)) (hlk : meth.locks = false)
    (hP : P (some (.int (nar t z))) T.heap locs) (hc : cells ≤ k) (hs : slots ≤ n) : OG p e below s k n P (T.setTop (mkF m pc Ls (.int z :: rest))) := by
  obtain ⟨fs, hr, hrun, hended, hW, hsame⟩ := X.leave (v := some (.int (nar t z))) (fun h => by rw [hret] at h; cases h) hlk
  exact ⟨_, _, Jvm.RoadKit.retN X hx hret ht hd hr, hrun, hended, _, _, rfl, hP, ⟨_, rfl⟩, hW, hsame.mono hc hs⟩
theorem OG.retI (X : Stand p l e R s m args below meth c T locs cells slots) (hx : p.tables.exec = Jvm.exec) {pc : Nat} {Ls : Array Slot} {z : Int32} {rest : List Value} (hret : meth.sig.returnType = some .int) (hd : decode c.code pc = .ok (.ireturn, 1)) (hlk : meth.locks = false)
    (hP : P (some (.int z)) T.heap locs) (hc : cells ≤ k) (hs : slots ≤ n) : OG p e below s k n P (T.setTop (mkF m pc Ls (.int z :: rest))) := by
  obtain ⟨fs, hr, hrun, hended, hW, hsame⟩ := X.leave (v := some (.int z)) (fun h => by rw [hret] at h; cases h) hlk
  exact ⟨_, _, retOut X hx hret rfl (Or.inl ⟨rfl, Or.inl rfl, _, rfl⟩) hd hr, hrun, hended, _, _, rfl, hP, ⟨_, rfl⟩, hW, hsame.mono hc hs⟩
theorem OG.retJ (X : Stand p l e R s m args below meth c T locs cells slots) (hx : p.tables.exec = Jvm.exec) {pc : Nat} {Ls : Array Slot} {z : Int64} {rest : List Value} (hret : meth.sig.returnType = some .long) (hd : decode c.code pc = .ok (.lreturn, 1)) (hlk : meth.locks = false)
    (hP : P (some (.long z)) T.heap locs) (hc : cells ≤ k) (hs : slots ≤ n) : OG p e below s k n P (T.setTop (mkF m pc Ls (.long z :: rest))) := by
  obtain ⟨fs, hr, hrun, hended, hW, hsame⟩ := X.leave (v := some (.long z)) (fun h => by rw [hret] at h; cases h) hlk
  exact ⟨_, _, retOut X hx hret rfl (Or.inr (Or.inl ⟨rfl, rfl, _, rfl⟩)) hd hr, hrun, hended, _, _, rfl, hP, ⟨_, rfl⟩, hW, hsame.mono hc hs⟩
theorem OG.retA (X : Stand p l e R s m args below meth c T locs cells slots) (hx : p.tables.exec = Jvm.exec) {pc : Nat} {Ls : Array Slot} {w : Value} {t : FieldType} {rest : List Value} (hret : meth.sig.returnType = some t) (ht : t.isReference = true) (hw : w.isRef = true) (hd : decode c.code pc = .ok (.areturn, 1)) (hlk : meth.locks = false)
    (hP : P (some w) T.heap locs) (hc : cells ≤ k) (hs : slots ≤ n) : OG p e below s k n P (T.setTop (mkF m pc Ls (w :: rest))) := by
  obtain ⟨fs, hr, hrun, hended, hW, hsame⟩ := X.leave (v := some w) (fun h => by rw [hret] at h; cases h) hlk
  have hn : narrow t w = w := by cases t <;> first | (cases ht; done) | rfl
  exact ⟨_, _, retOut X hx hret hn (Or.inr (Or.inr (Or.inr (Or.inr ⟨rfl, ht, hw⟩)))) hd hr, hrun, hended, _, _, rfl, hP, ⟨_, rfl⟩, hW, hsame.mono hc hs⟩
theorem OG.retV (X : Stand p l e R s m args below meth c T locs cells slots) (hx : p.tables.exec = Jvm.exec) {pc : Nat} {Ls : Array Slot} (hret : meth.sig.returnType = none) (hd : decode c.code pc = .ok (.return_, 1)) (hlk : meth.locks = false)
    (hP : P none T.heap locs) (hc : cells ≤ k) (hs : slots ≤ n) : OG p e below s k n P (T.setTop (mkF m pc Ls [])) := by
  obtain ⟨fs, hr, hrun, hended, hW, hsame⟩ := X.leave (v := none) (fun _ => rfl) hlk
  exact ⟨_, _, X.returnOut hx hret hd hr, hrun, hended, _, _, rfl, hP, ⟨_, rfl⟩, hW, hsame.mono hc hs⟩
theorem own_catI (x : Int32) : (Value.int x).category = 1 := rfl
theorem own_catJ (x : Int64) : (Value.long x).category = 2 := rfl
theorem own_catR (x : Addr) : (Value.ref x).category = 1 := rfl
theorem own_catN : Value.null.category = 1 := rfl
theorem own_narB {z : Int32} (h : z = 0 ∨ z = 1) : nar .boolean z = z := by rcases h with rfl | rfl <;> rfl
theorem own_ite01 {c : Prop} [Decidable c] : (if c then (1 : Int32) else 0) = 0 ∨ (if c then (1 : Int32) else 0) = 1 := by by_cases h : c <;> simp [h]
theorem own_eqI {args : Array Value} {first st : State} {o : Option Outcome} {idx : List Nat} {t : Term} {x : Int32} (h : (Jvm.Cond.eq t (.int x)).value args first o st idx = some true) : t.eval args first o idx st = some (.int x) := by
  obtain ⟨a, b, ha, hb, k1, k2⟩ := cmp_v (Or.inl h)
  obtain rfl : Value.int x = b := Option.some.inj hb
  obtain ⟨z, rfl⟩ := k2
  have hz := gotT (P := z = x) (by simp [Cond.value, ha, hb]) h
  rw [ha, hz]
/-- the array at a (of the kind ty) holds v at the place j -/
def ORd (Z : State) (h : Heap) (a : Addr) (ty : FieldType) (j : Int32) (v : Value) : Prop := ∃ cl : Cell, Arr Z h a cl ty ∧ ¬ (j < 0 ∨ cl.slots.size ≤ j.toNatClampNeg) ∧ cl.slots[j.toNatClampNeg]? = some v
theorem own_rd {Z : State} {h : Heap} {a : Addr} {kc : ClassId} {ty : FieldType} {z j : Int32} {vs : List Value} {d v : Value} (F : Arv Z h a kc ty z vs d) (hj : ¬ j < 0 ∧ j < z) (hv : vs.getD j.toNatClampNeg d = v) : ORd Z h a ty j v := by
  obtain ⟨cl, A, -, S, -, H, -⟩ := F
  exact ⟨cl, A, inb_of S hj, H.at (inb_of S hj) hv⟩
theorem ORd.ext {Z : State} {h h' : Heap} {a : Addr} {ty : FieldType} {j : Int32} {v : Value} (F : ORd Z h a ty j v) (E : Ext h h') : ORd Z h' a ty j v := by
  obtain ⟨cl, A, r⟩ := F; exact ⟨cl, A.ext E, r⟩
theorem ORd.other {Z : State} {h h' : Heap} {a b : Addr} {ty : FieldType} {j : Int32} {v w : Value} {sl : Nat} (F : ORd Z h a ty j v) (W : Wr h h' b sl w) (q : a ≠ b) : ORd Z h' a ty j v := by
  obtain ⟨cl, A, r⟩ := F; exact ⟨cl, A.other W q, r⟩
theorem ORd.keep {Z : State} {h h' : Heap} {a : Addr} {ty : FieldType} {j : Int32} {v : Value} {ws : List Addr} (F : ORd Z h a ty j v) (K : Keep h h' ws) (q : a ∉ ws) : ORd Z h' a ty j v := by
  obtain ⟨cl, A, r⟩ := F; exact ⟨cl, ⟨K.2.1 a cl A.1 q, A.2⟩, r⟩
theorem ORd.lt {Z : State} {h : Heap} {a : Addr} {ty : FieldType} {j : Int32} {v : Value} (F : ORd Z h a ty j v) : a < h.size := by
  obtain ⟨cl, A, r⟩ := F; exact A.lt
theorem ORd.start {Z : State} {args : Array Value} {t : Term} {a : Addr} {ty : FieldType} {j : Int32} {v : Value} (ev : t.eval args Z none [] Z = some (.ref a)) (hx : (Jvm.Cond.arrayOf t ty).value args Z none Z [] = some true) (hj : ¬ j < 0) (he : (Term.elem t (.int j)).eval args Z none [] Z = some v) : ORd Z Z.heap a ty j v := by
  obtain ⟨c, A⟩ := Arr.start ev hx
  have hA : Z.arrayAt? a = some c := Arr.fin (Vm.Alike.refl _) A
  rw [elem_f ev (Term.int_eval j) hA hj] at he
  exact ⟨c, A, fun q => q.elim hj fun q => (by rw [Array.getElem?_eq_none q] at he; cases he), he⟩
end Own


def own_pos (j : Nat) : Int32 := match j with | 0 => 0 | 1 => 26 | 2 => 51 | 3 => 77 | 4 => 102 | 5 => 128 | 6 => 153 | 7 => 179 | 8 => 204 | 9 => 230 | _ => 0
def own_bits (j : Nat) : Int32 := match j with | 0 => 26 | 1 => 25 | 2 => 26 | 3 => 25 | 4 => 26 | 5 => 25 | 6 => 26 | 7 => 25 | 8 => 26 | 9 => 25 | _ => 0
theorem own_m3 (x : Int32) : ∃ n : Nat, n < 4 ∧ (x &&& (3 : Int32)) = Int32.ofNat n := by
  refine ⟨(x &&& 3).toBitVec.toNat, ?_, ?_⟩
  · simp only [Int32.toBitVec_and, BitVec.toNat_and]
    exact Nat.lt_of_le_of_lt Nat.and_le_right (by decide)
  · apply Int32.toBitVec_inj.mp
    show _ = BitVec.ofNat 32 _
    rw [BitVec.ofNat_toNat]; simp

def own_l0 (q0 q1 q2 q3 : Int64) : Int64 := ((XT.ushrL q0 (0 : Int32)) &&& (((1 : Int64) <<< ((26 : Int32).toInt64 &&& 63)) - (1 : Int64)))
def own_l1 (q0 q1 q2 q3 : Int64) : Int64 := ((XT.ushrL q0 (26 : Int32)) &&& (((1 : Int64) <<< ((25 : Int32).toInt64 &&& 63)) - (1 : Int64)))
def own_l2 (q0 q1 q2 q3 : Int64) : Int64 := (((XT.ushrL q0 (51 : Int32)) ||| (q1 <<< ((13 : Int32).toInt64 &&& 63))) &&& (((1 : Int64) <<< ((26 : Int32).toInt64 &&& 63)) - (1 : Int64)))
def own_l3 (q0 q1 q2 q3 : Int64) : Int64 := ((XT.ushrL q1 (13 : Int32)) &&& (((1 : Int64) <<< ((25 : Int32).toInt64 &&& 63)) - (1 : Int64)))
def own_l4 (q0 q1 q2 q3 : Int64) : Int64 := ((XT.ushrL q1 (38 : Int32)) &&& (((1 : Int64) <<< ((26 : Int32).toInt64 &&& 63)) - (1 : Int64)))
def own_l5 (q0 q1 q2 q3 : Int64) : Int64 := ((XT.ushrL q2 (0 : Int32)) &&& (((1 : Int64) <<< ((25 : Int32).toInt64 &&& 63)) - (1 : Int64)))
def own_l6 (q0 q1 q2 q3 : Int64) : Int64 := ((XT.ushrL q2 (25 : Int32)) &&& (((1 : Int64) <<< ((26 : Int32).toInt64 &&& 63)) - (1 : Int64)))
def own_l7 (q0 q1 q2 q3 : Int64) : Int64 := (((XT.ushrL q2 (51 : Int32)) ||| (q3 <<< ((13 : Int32).toInt64 &&& 63))) &&& (((1 : Int64) <<< ((25 : Int32).toInt64 &&& 63)) - (1 : Int64)))
def own_l8 (q0 q1 q2 q3 : Int64) : Int64 := ((XT.ushrL q3 (12 : Int32)) &&& (((1 : Int64) <<< ((26 : Int32).toInt64 &&& 63)) - (1 : Int64)))
def own_l9 (q0 q1 q2 q3 : Int64) : Int64 := ((XT.ushrL q3 (38 : Int32)) &&& (((1 : Int64) <<< ((25 : Int32).toInt64 &&& 63)) - (1 : Int64)))
def own_in (q : Int64) (k0 : Int32) : Int32 :=
  if q < (0 : Int64) then
    (0 : Int32)
  else
    if q < ((1 : Int64) <<< (k0.toInt64 &&& 63)) then
      (1 : Int32)
    else
      (0 : Int32)
theorem own_and_bound (y m : Int64) (k : Nat) (hk : k ≤ 62) (hm : m.toBitVec.toNat < 2 ^ k) : 0 ≤ (y &&& m).toInt ∧ (y &&& m).toInt < 2 ^ k := by
  have h1 : (y &&& m).toBitVec.toNat < 2 ^ k := by
    rw [Int64.toBitVec_and, BitVec.toNat_and]
    exact Nat.lt_of_le_of_lt Nat.and_le_right hm
  have h3 : (2 : Nat) ^ k ≤ 2 ^ 62 := Nat.pow_le_pow_right (by decide) hk
  have h2 : (y &&& m).toInt = ((y &&& m).toBitVec.toNat : Int) := by
    show (y &&& m).toBitVec.toInt = _
    rw [BitVec.toInt_eq_toNat_of_lt (by omega)]
  rw [h2]
  exact ⟨Int.natCast_nonneg _, by exact_mod_cast h1⟩
theorem own_in_of (y m : Int64) (k0 : Int32) (k : Nat) (hk : k ≤ 62) (hm : m.toBitVec.toNat < 2 ^ k) (hs : ((1 : Int64) <<< (k0.toInt64 &&& 63)).toInt = 2 ^ k) : own_in (y &&& m) k0 = 1 := by
  obtain ⟨h1, h2⟩ := own_and_bound y m k hk hm
  rw [own_in, if_neg (by rw [Int64.lt_iff_toInt_lt]; exact Int.not_lt.mpr h1), if_pos (by rw [Int64.lt_iff_toInt_lt, hs]; exact h2)]
theorem own_in_l0 (q0 q1 q2 q3 : Int64) : own_in (own_l0 q0 q1 q2 q3) (26 : Int32) = 1 := own_in_of _ _ 26 26 (by decide) (by decide) (by decide)
theorem own_in_l1 (q0 q1 q2 q3 : Int64) : own_in (own_l1 q0 q1 q2 q3) (25 : Int32) = 1 := own_in_of _ _ 25 25 (by decide) (by decide) (by decide)
theorem own_in_l2 (q0 q1 q2 q3 : Int64) : own_in (own_l2 q0 q1 q2 q3) (26 : Int32) = 1 := own_in_of _ _ 26 26 (by decide) (by decide) (by decide)
theorem own_in_l3 (q0 q1 q2 q3 : Int64) : own_in (own_l3 q0 q1 q2 q3) (25 : Int32) = 1 := own_in_of _ _ 25 25 (by decide) (by decide) (by decide)
theorem own_in_l4 (q0 q1 q2 q3 : Int64) : own_in (own_l4 q0 q1 q2 q3) (26 : Int32) = 1 := own_in_of _ _ 26 26 (by decide) (by decide) (by decide)
theorem own_in_l5 (q0 q1 q2 q3 : Int64) : own_in (own_l5 q0 q1 q2 q3) (25 : Int32) = 1 := own_in_of _ _ 25 25 (by decide) (by decide) (by decide)
theorem own_in_l6 (q0 q1 q2 q3 : Int64) : own_in (own_l6 q0 q1 q2 q3) (26 : Int32) = 1 := own_in_of _ _ 26 26 (by decide) (by decide) (by decide)
theorem own_in_l7 (q0 q1 q2 q3 : Int64) : own_in (own_l7 q0 q1 q2 q3) (25 : Int32) = 1 := own_in_of _ _ 25 25 (by decide) (by decide) (by decide)
theorem own_in_l8 (q0 q1 q2 q3 : Int64) : own_in (own_l8 q0 q1 q2 q3) (26 : Int32) = 1 := own_in_of _ _ 26 26 (by decide) (by decide) (by decide)
theorem own_in_l9 (q0 q1 q2 q3 : Int64) : own_in (own_l9 q0 q1 q2 q3) (25 : Int32) = 1 := own_in_of _ _ 25 25 (by decide) (by decide) (by decide)
theorem own_m26 : (((1 : Int64) <<< ((26 : Int32).toInt64 &&& 63)) - (1 : Int64)).toBitVec = BitVec.ofNat 64 (2 ^ 26 - 1) := by decide
theorem own_m25 : (((1 : Int64) <<< ((25 : Int32).toInt64 &&& 63)) - (1 : Int64)).toBitVec = BitVec.ofNat 64 (2 ^ 25 - 1) := by decide
theorem own_m63 : (9223372036854775807 : Int64).toBitVec = BitVec.ofNat 64 (2 ^ 63 - 1) := by decide
theorem own_b (k : Nat) (i : Nat) (hi : i < 64) : (BitVec.ofNat 64 (2 ^ k - 1)).getLsbD i = decide (i < k) := by
  rw [BitVec.getLsbD_ofNat, Nat.testBit_two_pow_sub_one]; simp [hi]
theorem own_u0 (x : Int64) : (XT.ushrL x (0 : Int32)).toBitVec = x.toBitVec >>> 0 := rfl
theorem own_u12 (x : Int64) : (XT.ushrL x (12 : Int32)).toBitVec = x.toBitVec >>> 12 := rfl
theorem own_u13 (x : Int64) : (XT.ushrL x (13 : Int32)).toBitVec = x.toBitVec >>> 13 := rfl
theorem own_u25 (x : Int64) : (XT.ushrL x (25 : Int32)).toBitVec = x.toBitVec >>> 25 := rfl
theorem own_u26 (x : Int64) : (XT.ushrL x (26 : Int32)).toBitVec = x.toBitVec >>> 26 := rfl
theorem own_u38 (x : Int64) : (XT.ushrL x (38 : Int32)).toBitVec = x.toBitVec >>> 38 := rfl
theorem own_u51 (x : Int64) : (XT.ushrL x (51 : Int32)).toBitVec = x.toBitVec >>> 51 := rfl
theorem own_h12 (x : Int64) : (x <<< ((12 : Int32).toInt64 &&& 63)).toBitVec = x.toBitVec <<< 12 := rfl
theorem own_h13 (x : Int64) : (x <<< ((13 : Int32).toInt64 &&& 63)).toBitVec = x.toBitVec <<< 13 := rfl
theorem own_h25 (x : Int64) : (x <<< ((25 : Int32).toInt64 &&& 63)).toBitVec = x.toBitVec <<< 25 := rfl
theorem own_h26 (x : Int64) : (x <<< ((26 : Int32).toInt64 &&& 63)).toBitVec = x.toBitVec <<< 26 := rfl
theorem own_h38 (x : Int64) : (x <<< ((38 : Int32).toInt64 &&& 63)).toBitVec = x.toBitVec <<< 38 := rfl
theorem own_h51 (x : Int64) : (x <<< ((51 : Int32).toInt64 &&& 63)).toBitVec = x.toBitVec <<< 51 := rfl
theorem own_eq340 (q0 q1 q2 q3 : Int64) : (((own_l0 q0 q1 q2 q3) ||| ((own_l1 q0 q1 q2 q3) <<< ((26 : Int32).toInt64 &&& 63))) ||| ((own_l2 q0 q1 q2 q3) <<< ((51 : Int32).toInt64 &&& 63))) = q0 := by
  apply Int64.toBitVec_inj.mp
  simp only [own_l0, own_l1, own_l2, own_l3, own_l4, own_l5, own_l6, own_l7, own_l8, own_l9, Int64.toBitVec_or, Int64.toBitVec_and, own_m26, own_m25, own_m63, own_u0, own_u12, own_u13, own_u25, own_u26, own_u38, own_u51, own_h12, own_h13, own_h25, own_h26, own_h38, own_h51]
  apply BitVec.eq_of_getLsbD_eq
  intro i hi
  simp only [BitVec.getLsbD_or, BitVec.getLsbD_and, BitVec.getLsbD_shiftLeft, BitVec.getLsbD_ushiftRight, BitVec.getLsbD_ofNat, Nat.testBit_two_pow_sub_one]
  rcases (by omega : (0 ≤ i ∧ i < 26) ∨ (26 ≤ i ∧ i < 51) ∨ (51 ≤ i ∧ i < 64)) with h | h | h
  · simp only [show decide (i < 64) = true from decide_eq_true (by omega), show decide (i < 26) = true from decide_eq_true (by omega), show decide (i - 26 < 64) = true from decide_eq_true (by omega), show decide (i - 26 < 25) = true from decide_eq_true (by omega), show decide (i < 51) = true from decide_eq_true (by omega), show decide (i - 51 < 64) = true from decide_eq_true (by omega), show decide (i - 51 < 13) = true from decide_eq_true (by omega), show decide (i - 51 < 26) = true from decide_eq_true (by omega), show 0 + i = i from by omega]
    simp
  · simp only [show decide (i < 64) = true from decide_eq_true (by omega), show decide (i < 26) = false from decide_eq_false (by omega), show decide (i - 26 < 64) = true from decide_eq_true (by omega), show decide (i - 26 < 25) = true from decide_eq_true (by omega), show decide (i < 51) = true from decide_eq_true (by omega), show decide (i - 51 < 64) = true from decide_eq_true (by omega), show decide (i - 51 < 13) = true from decide_eq_true (by omega), show decide (i - 51 < 26) = true from decide_eq_true (by omega), show 0 + i = i from by omega, show 26 + (i - 26) = i from by omega]
    simp
  · simp only [show decide (i < 64) = true from decide_eq_true (by omega), show decide (i < 26) = false from decide_eq_false (by omega), show decide (i - 26 < 64) = true from decide_eq_true (by omega), show decide (i - 26 < 25) = false from decide_eq_false (by omega), show decide (i < 51) = false from decide_eq_false (by omega), show decide (i - 51 < 64) = true from decide_eq_true (by omega), show decide (i - 51 < 13) = true from decide_eq_true (by omega), show decide (i - 51 < 26) = true from decide_eq_true (by omega), show 0 + i = i from by omega, show 26 + (i - 26) = i from by omega, show 51 + (i - 51) = i from by omega]
    simp
theorem own_eq347 (q0 q1 q2 q3 : Int64) : (((XT.ushrL (own_l2 q0 q1 q2 q3) (13 : Int32)) ||| ((own_l3 q0 q1 q2 q3) <<< ((13 : Int32).toInt64 &&& 63))) ||| ((own_l4 q0 q1 q2 q3) <<< ((38 : Int32).toInt64 &&& 63))) = q1 := by
  apply Int64.toBitVec_inj.mp
  simp only [own_l0, own_l1, own_l2, own_l3, own_l4, own_l5, own_l6, own_l7, own_l8, own_l9, Int64.toBitVec_or, Int64.toBitVec_and, own_m26, own_m25, own_m63, own_u0, own_u12, own_u13, own_u25, own_u26, own_u38, own_u51, own_h12, own_h13, own_h25, own_h26, own_h38, own_h51]
  apply BitVec.eq_of_getLsbD_eq
  intro i hi
  simp only [BitVec.getLsbD_or, BitVec.getLsbD_and, BitVec.getLsbD_shiftLeft, BitVec.getLsbD_ushiftRight, BitVec.getLsbD_ofNat, Nat.testBit_two_pow_sub_one]
  rcases (by omega : (0 ≤ i ∧ i < 13) ∨ (13 ≤ i ∧ i < 38) ∨ (38 ≤ i ∧ i < 51) ∨ (51 ≤ i ∧ i < 64)) with h | h | h | h
  · simp only [show decide (13 + i < 64) = true from decide_eq_true (by omega), show decide (13 + i < 13) = false from decide_eq_false (by omega), show decide (13 + i < 26) = true from decide_eq_true (by omega), show decide (i < 64) = true from decide_eq_true (by omega), show decide (i < 13) = true from decide_eq_true (by omega), show decide (i - 13 < 64) = true from decide_eq_true (by omega), show decide (i - 13 < 25) = true from decide_eq_true (by omega), show decide (i < 38) = true from decide_eq_true (by omega), show decide (i - 38 < 64) = true from decide_eq_true (by omega), show decide (i - 38 < 26) = true from decide_eq_true (by omega), BitVec.getLsbD_of_ge q0.toBitVec (51 + (13 + i)) (by omega)]
    simp
  · simp only [show decide (13 + i < 64) = true from decide_eq_true (by omega), show decide (13 + i < 13) = false from decide_eq_false (by omega), show decide (13 + i < 26) = false from decide_eq_false (by omega), show decide (i < 64) = true from decide_eq_true (by omega), show decide (i < 13) = false from decide_eq_false (by omega), show decide (i - 13 < 64) = true from decide_eq_true (by omega), show decide (i - 13 < 25) = true from decide_eq_true (by omega), show decide (i < 38) = true from decide_eq_true (by omega), show decide (i - 38 < 64) = true from decide_eq_true (by omega), show decide (i - 38 < 26) = true from decide_eq_true (by omega), show 13 + i - 13 = i from by omega, show 13 + (i - 13) = i from by omega, BitVec.getLsbD_of_ge q0.toBitVec (51 + (13 + i)) (by omega)]
    simp
  · simp only [show decide (13 + i < 64) = true from decide_eq_true (by omega), show decide (13 + i < 13) = false from decide_eq_false (by omega), show decide (13 + i < 26) = false from decide_eq_false (by omega), show decide (i < 64) = true from decide_eq_true (by omega), show decide (i < 13) = false from decide_eq_false (by omega), show decide (i - 13 < 64) = true from decide_eq_true (by omega), show decide (i - 13 < 25) = false from decide_eq_false (by omega), show decide (i < 38) = false from decide_eq_false (by omega), show decide (i - 38 < 64) = true from decide_eq_true (by omega), show decide (i - 38 < 26) = true from decide_eq_true (by omega), show 13 + i - 13 = i from by omega, show 13 + (i - 13) = i from by omega, show 38 + (i - 38) = i from by omega, BitVec.getLsbD_of_ge q0.toBitVec (51 + (13 + i)) (by omega)]
    simp
  · simp only [show decide (13 + i < 64) = false from decide_eq_false (by omega), show decide (13 + i < 13) = false from decide_eq_false (by omega), show decide (13 + i < 26) = false from decide_eq_false (by omega), show decide (i < 64) = true from decide_eq_true (by omega), show decide (i < 13) = false from decide_eq_false (by omega), show decide (i - 13 < 64) = true from decide_eq_true (by omega), show decide (i - 13 < 25) = false from decide_eq_false (by omega), show decide (i < 38) = false from decide_eq_false (by omega), show decide (i - 38 < 64) = true from decide_eq_true (by omega), show decide (i - 38 < 26) = true from decide_eq_true (by omega), show 13 + i - 13 = i from by omega, show 13 + (i - 13) = i from by omega, show 38 + (i - 38) = i from by omega, BitVec.getLsbD_of_ge q0.toBitVec (51 + (13 + i)) (by omega)]
    simp
theorem own_eq355 (q0 q1 q2 q3 : Int64) : (((own_l5 q0 q1 q2 q3) ||| ((own_l6 q0 q1 q2 q3) <<< ((25 : Int32).toInt64 &&& 63))) ||| ((own_l7 q0 q1 q2 q3) <<< ((51 : Int32).toInt64 &&& 63))) = q2 := by
  apply Int64.toBitVec_inj.mp
  simp only [own_l0, own_l1, own_l2, own_l3, own_l4, own_l5, own_l6, own_l7, own_l8, own_l9, Int64.toBitVec_or, Int64.toBitVec_and, own_m26, own_m25, own_m63, own_u0, own_u12, own_u13, own_u25, own_u26, own_u38, own_u51, own_h12, own_h13, own_h25, own_h26, own_h38, own_h51]
  apply BitVec.eq_of_getLsbD_eq
  intro i hi
  simp only [BitVec.getLsbD_or, BitVec.getLsbD_and, BitVec.getLsbD_shiftLeft, BitVec.getLsbD_ushiftRight, BitVec.getLsbD_ofNat, Nat.testBit_two_pow_sub_one]
  rcases (by omega : (0 ≤ i ∧ i < 25) ∨ (25 ≤ i ∧ i < 51) ∨ (51 ≤ i ∧ i < 64)) with h | h | h
  · simp only [show decide (i < 64) = true from decide_eq_true (by omega), show decide (i < 25) = true from decide_eq_true (by omega), show decide (i - 25 < 64) = true from decide_eq_true (by omega), show decide (i - 25 < 26) = true from decide_eq_true (by omega), show decide (i < 51) = true from decide_eq_true (by omega), show decide (i - 51 < 64) = true from decide_eq_true (by omega), show decide (i - 51 < 13) = true from decide_eq_true (by omega), show decide (i - 51 < 25) = true from decide_eq_true (by omega), show 0 + i = i from by omega]
    simp
  · simp only [show decide (i < 64) = true from decide_eq_true (by omega), show decide (i < 25) = false from decide_eq_false (by omega), show decide (i - 25 < 64) = true from decide_eq_true (by omega), show decide (i - 25 < 26) = true from decide_eq_true (by omega), show decide (i < 51) = true from decide_eq_true (by omega), show decide (i - 51 < 64) = true from decide_eq_true (by omega), show decide (i - 51 < 13) = true from decide_eq_true (by omega), show decide (i - 51 < 25) = true from decide_eq_true (by omega), show 0 + i = i from by omega, show 25 + (i - 25) = i from by omega]
    simp
  · simp only [show decide (i < 64) = true from decide_eq_true (by omega), show decide (i < 25) = false from decide_eq_false (by omega), show decide (i - 25 < 64) = true from decide_eq_true (by omega), show decide (i - 25 < 26) = false from decide_eq_false (by omega), show decide (i < 51) = false from decide_eq_false (by omega), show decide (i - 51 < 64) = true from decide_eq_true (by omega), show decide (i - 51 < 13) = true from decide_eq_true (by omega), show decide (i - 51 < 25) = true from decide_eq_true (by omega), show 0 + i = i from by omega, show 25 + (i - 25) = i from by omega, show 51 + (i - 51) = i from by omega]
    simp
theorem own_eq367 (q0 q1 q2 q3 : Int64) : (((XT.ushrL (own_l7 q0 q1 q2 q3) (13 : Int32)) ||| ((own_l8 q0 q1 q2 q3) <<< ((12 : Int32).toInt64 &&& 63))) ||| ((own_l9 q0 q1 q2 q3) <<< ((38 : Int32).toInt64 &&& 63))) = (q3 &&& (9223372036854775807 : Int64)) := by
  apply Int64.toBitVec_inj.mp
  simp only [own_l0, own_l1, own_l2, own_l3, own_l4, own_l5, own_l6, own_l7, own_l8, own_l9, Int64.toBitVec_or, Int64.toBitVec_and, own_m26, own_m25, own_m63, own_u0, own_u12, own_u13, own_u25, own_u26, own_u38, own_u51, own_h12, own_h13, own_h25, own_h26, own_h38, own_h51]
  apply BitVec.eq_of_getLsbD_eq
  intro i hi
  simp only [BitVec.getLsbD_or, BitVec.getLsbD_and, BitVec.getLsbD_shiftLeft, BitVec.getLsbD_ushiftRight, BitVec.getLsbD_ofNat, Nat.testBit_two_pow_sub_one]
  rcases (by omega : (0 ≤ i ∧ i < 12) ∨ (12 ≤ i ∧ i < 38) ∨ (38 ≤ i ∧ i < 51) ∨ (51 ≤ i ∧ i < 63) ∨ (63 ≤ i ∧ i < 64)) with h | h | h | h | h
  · simp only [show decide (13 + i < 64) = true from decide_eq_true (by omega), show decide (13 + i < 13) = false from decide_eq_false (by omega), show decide (13 + i < 25) = true from decide_eq_true (by omega), show decide (i < 64) = true from decide_eq_true (by omega), show decide (i < 12) = true from decide_eq_true (by omega), show decide (i - 12 < 64) = true from decide_eq_true (by omega), show decide (i - 12 < 26) = true from decide_eq_true (by omega), show decide (i < 38) = true from decide_eq_true (by omega), show decide (i - 38 < 64) = true from decide_eq_true (by omega), show decide (i - 38 < 25) = true from decide_eq_true (by omega), show decide (i < 63) = true from decide_eq_true (by omega), BitVec.getLsbD_of_ge q2.toBitVec (51 + (13 + i)) (by omega)]
    simp
  · simp only [show decide (13 + i < 64) = true from decide_eq_true (by omega), show decide (13 + i < 13) = false from decide_eq_false (by omega), show decide (13 + i < 25) = false from decide_eq_false (by omega), show decide (i < 64) = true from decide_eq_true (by omega), show decide (i < 12) = false from decide_eq_false (by omega), show decide (i - 12 < 64) = true from decide_eq_true (by omega), show decide (i - 12 < 26) = true from decide_eq_true (by omega), show decide (i < 38) = true from decide_eq_true (by omega), show decide (i - 38 < 64) = true from decide_eq_true (by omega), show decide (i - 38 < 25) = true from decide_eq_true (by omega), show decide (i < 63) = true from decide_eq_true (by omega), show 12 + (i - 12) = i from by omega, BitVec.getLsbD_of_ge q2.toBitVec (51 + (13 + i)) (by omega)]
    simp
  · simp only [show decide (13 + i < 64) = true from decide_eq_true (by omega), show decide (13 + i < 13) = false from decide_eq_false (by omega), show decide (13 + i < 25) = false from decide_eq_false (by omega), show decide (i < 64) = true from decide_eq_true (by omega), show decide (i < 12) = false from decide_eq_false (by omega), show decide (i - 12 < 64) = true from decide_eq_true (by omega), show decide (i - 12 < 26) = false from decide_eq_false (by omega), show decide (i < 38) = false from decide_eq_false (by omega), show decide (i - 38 < 64) = true from decide_eq_true (by omega), show decide (i - 38 < 25) = true from decide_eq_true (by omega), show decide (i < 63) = true from decide_eq_true (by omega), show 13 + i - 13 = i from by omega, show 12 + (i - 12) = i from by omega, show 38 + (i - 38) = i from by omega, BitVec.getLsbD_of_ge q2.toBitVec (51 + (13 + i)) (by omega)]
    simp
  · simp only [show decide (13 + i < 64) = false from decide_eq_false (by omega), show decide (13 + i < 13) = false from decide_eq_false (by omega), show decide (13 + i < 25) = false from decide_eq_false (by omega), show decide (i < 64) = true from decide_eq_true (by omega), show decide (i < 12) = false from decide_eq_false (by omega), show decide (i - 12 < 64) = true from decide_eq_true (by omega), show decide (i - 12 < 26) = false from decide_eq_false (by omega), show decide (i < 38) = false from decide_eq_false (by omega), show decide (i - 38 < 64) = true from decide_eq_true (by omega), show decide (i - 38 < 25) = true from decide_eq_true (by omega), show decide (i < 63) = true from decide_eq_true (by omega), show 13 + i - 13 = i from by omega, show 12 + (i - 12) = i from by omega, show 38 + (i - 38) = i from by omega, BitVec.getLsbD_of_ge q2.toBitVec (51 + (13 + i)) (by omega)]
    simp
  · simp only [show decide (13 + i < 64) = false from decide_eq_false (by omega), show decide (13 + i < 13) = false from decide_eq_false (by omega), show decide (13 + i < 25) = false from decide_eq_false (by omega), show decide (i < 64) = true from decide_eq_true (by omega), show decide (i < 12) = false from decide_eq_false (by omega), show decide (i - 12 < 64) = true from decide_eq_true (by omega), show decide (i - 12 < 26) = false from decide_eq_false (by omega), show decide (i < 38) = false from decide_eq_false (by omega), show decide (i - 38 < 64) = true from decide_eq_true (by omega), show decide (i - 38 < 25) = false from decide_eq_false (by omega), show decide (i < 63) = false from decide_eq_false (by omega), show 13 + i - 13 = i from by omega, show 12 + (i - 12) = i from by omega, show 38 + (i - 38) = i from by omega, BitVec.getLsbD_of_ge q2.toBitVec (51 + (13 + i)) (by omega)]
    simp
theorem own_law340 (q0 q1 q2 q3 : Int64) : (((own_l0 q0 q1 q2 q3) ||| ((own_l1 q0 q1 q2 q3) <<< ((26 : Int32).toInt64 &&& 63))) ||| ((own_l2 q0 q1 q2 q3) <<< ((51 : Int32).toInt64 &&& 63))) = q0 := own_eq340 q0 q1 q2 q3
theorem own_law347 (q0 q1 q2 q3 : Int64) : (((XT.ushrL (own_l2 q0 q1 q2 q3) (13 : Int32)) ||| ((own_l3 q0 q1 q2 q3) <<< ((13 : Int32).toInt64 &&& 63))) ||| ((own_l4 q0 q1 q2 q3) <<< ((38 : Int32).toInt64 &&& 63))) = q1 := own_eq347 q0 q1 q2 q3
theorem own_law355 (q0 q1 q2 q3 : Int64) : (((own_l5 q0 q1 q2 q3) ||| ((own_l6 q0 q1 q2 q3) <<< ((25 : Int32).toInt64 &&& 63))) ||| ((own_l7 q0 q1 q2 q3) <<< ((51 : Int32).toInt64 &&& 63))) = q2 := own_eq355 q0 q1 q2 q3
theorem own_law367 (q0 q1 q2 q3 : Int64) : (((XT.ushrL (own_l7 q0 q1 q2 q3) (13 : Int32)) ||| ((own_l8 q0 q1 q2 q3) <<< ((12 : Int32).toInt64 &&& 63))) ||| ((own_l9 q0 q1 q2 q3) <<< ((38 : Int32).toInt64 &&& 63))) = (q3 &&& (9223372036854775807 : Int64)) := own_eq367 q0 q1 q2 q3

theorem dF_0 : decode prog_16_method_4_code 0 = .ok (.bipush 10, 2) := by decide +kernel
theorem dF_2 : decode prog_16_method_4_code 2 = .ok (.newarray .long, 2) := by decide +kernel
theorem dF_4 : decode prog_16_method_4_code 4 = .ok (.astore_n 2, 1) := by decide +kernel
theorem dF_5 : decode prog_16_method_4_code 5 = .ok (.iconst 0, 1) := by decide +kernel
theorem dF_6 : decode prog_16_method_4_code 6 = .ok (.istore_n 3, 1) := by decide +kernel
theorem dF_7 : decode prog_16_method_4_code 7 = .ok (.iload_n 3, 1) := by decide +kernel
theorem dF_8 : decode prog_16_method_4_code 8 = .ok (.bipush 10, 2) := by decide +kernel
theorem dF_10 : decode prog_16_method_4_code 10 = .ok (.if_icmp .ge 86, 3) := by decide +kernel
theorem dF_13 : decode prog_16_method_4_code 13 = .ok (.getstatic 9, 3) := by decide +kernel
theorem dF_16 : decode prog_16_method_4_code 16 = .ok (.iload_n 3, 1) := by decide +kernel
theorem dF_17 : decode prog_16_method_4_code 17 = .ok (.iaload, 1) := by decide +kernel
theorem dF_18 : decode prog_16_method_4_code 18 = .ok (.istore 4, 2) := by decide +kernel
theorem dF_20 : decode prog_16_method_4_code 20 = .ok (.iload_n 1, 1) := by decide +kernel
theorem dF_21 : decode prog_16_method_4_code 21 = .ok (.iload 4, 2) := by decide +kernel
theorem dF_23 : decode prog_16_method_4_code 23 = .ok (.bipush 64, 2) := by decide +kernel
theorem dF_25 : decode prog_16_method_4_code 25 = .ok (.idiv, 1) := by decide +kernel
theorem dF_26 : decode prog_16_method_4_code 26 = .ok (.iadd, 1) := by decide +kernel
theorem dF_27 : decode prog_16_method_4_code 27 = .ok (.istore 5, 2) := by decide +kernel
theorem dF_29 : decode prog_16_method_4_code 29 = .ok (.iload 4, 2) := by decide +kernel
theorem dF_31 : decode prog_16_method_4_code 31 = .ok (.bipush 64, 2) := by decide +kernel
theorem dF_33 : decode prog_16_method_4_code 33 = .ok (.irem, 1) := by decide +kernel
theorem dF_34 : decode prog_16_method_4_code 34 = .ok (.istore 6, 2) := by decide +kernel
theorem dF_36 : decode prog_16_method_4_code 36 = .ok (.aload_n 0, 1) := by decide +kernel
theorem dF_37 : decode prog_16_method_4_code 37 = .ok (.iload 5, 2) := by decide +kernel
theorem dF_39 : decode prog_16_method_4_code 39 = .ok (.laload, 1) := by decide +kernel
theorem dF_40 : decode prog_16_method_4_code 40 = .ok (.iload 6, 2) := by decide +kernel
theorem dF_42 : decode prog_16_method_4_code 42 = .ok (.lushr, 1) := by decide +kernel
theorem dF_43 : decode prog_16_method_4_code 43 = .ok (.lstore 7, 2) := by decide +kernel
theorem dF_45 : decode prog_16_method_4_code 45 = .ok (.iload 6, 2) := by decide +kernel
theorem dF_47 : decode prog_16_method_4_code 47 = .ok (.getstatic 17, 3) := by decide +kernel
theorem dF_50 : decode prog_16_method_4_code 50 = .ok (.iload_n 3, 1) := by decide +kernel
theorem dF_51 : decode prog_16_method_4_code 51 = .ok (.iaload, 1) := by decide +kernel
theorem dF_52 : decode prog_16_method_4_code 52 = .ok (.iadd, 1) := by decide +kernel
theorem dF_53 : decode prog_16_method_4_code 53 = .ok (.bipush 64, 2) := by decide +kernel
theorem dF_55 : decode prog_16_method_4_code 55 = .ok (.if_icmp .le 20, 3) := by decide +kernel
theorem dF_75 : decode prog_16_method_4_code 75 = .ok (.aload_n 2, 1) := by decide +kernel
theorem dF_76 : decode prog_16_method_4_code 76 = .ok (.iload_n 3, 1) := by decide +kernel
theorem dF_77 : decode prog_16_method_4_code 77 = .ok (.lload 7, 2) := by decide +kernel
theorem dF_79 : decode prog_16_method_4_code 79 = .ok (.lconst 1, 1) := by decide +kernel
theorem dF_80 : decode prog_16_method_4_code 80 = .ok (.getstatic 17, 3) := by decide +kernel
theorem dF_83 : decode prog_16_method_4_code 83 = .ok (.iload_n 3, 1) := by decide +kernel
theorem dF_84 : decode prog_16_method_4_code 84 = .ok (.iaload, 1) := by decide +kernel
theorem dF_85 : decode prog_16_method_4_code 85 = .ok (.lshl, 1) := by decide +kernel
theorem dF_86 : decode prog_16_method_4_code 86 = .ok (.lconst 1, 1) := by decide +kernel
theorem dF_87 : decode prog_16_method_4_code 87 = .ok (.lsub, 1) := by decide +kernel
theorem dF_88 : decode prog_16_method_4_code 88 = .ok (.land, 1) := by decide +kernel
theorem dF_89 : decode prog_16_method_4_code 89 = .ok (.lastore, 1) := by decide +kernel
theorem dF_90 : decode prog_16_method_4_code 90 = .ok (.iinc 3 1, 3) := by decide +kernel
theorem dF_93 : decode prog_16_method_4_code 93 = .ok (.goto (-86), 3) := by decide +kernel
theorem dF_58 : decode prog_16_method_4_code 58 = .ok (.lload 7, 2) := by decide +kernel
theorem dF_60 : decode prog_16_method_4_code 60 = .ok (.aload_n 0, 1) := by decide +kernel
theorem dF_61 : decode prog_16_method_4_code 61 = .ok (.iload 5, 2) := by decide +kernel
theorem dF_63 : decode prog_16_method_4_code 63 = .ok (.iconst 1, 1) := by decide +kernel
theorem dF_64 : decode prog_16_method_4_code 64 = .ok (.iadd, 1) := by decide +kernel
theorem dF_65 : decode prog_16_method_4_code 65 = .ok (.laload, 1) := by decide +kernel
theorem dF_66 : decode prog_16_method_4_code 66 = .ok (.bipush 64, 2) := by decide +kernel
theorem dF_68 : decode prog_16_method_4_code 68 = .ok (.iload 6, 2) := by decide +kernel
theorem dF_70 : decode prog_16_method_4_code 70 = .ok (.isub, 1) := by decide +kernel
theorem dF_71 : decode prog_16_method_4_code 71 = .ok (.lshl, 1) := by decide +kernel
theorem dF_72 : decode prog_16_method_4_code 72 = .ok (.lor, 1) := by decide +kernel
theorem dF_73 : decode prog_16_method_4_code 73 = .ok (.lstore 7, 2) := by decide +kernel
theorem dF_96 : decode prog_16_method_4_code 96 = .ok (.aload_n 2, 1) := by decide +kernel
theorem dF_97 : decode prog_16_method_4_code 97 = .ok (.areturn, 1) := by decide +kernel
theorem pn_F : plainName "com/example/gate_to_gate/gatetogate/io/Field25519" = true := by first | (simp [plainName, overriddenIn]; done) | decide +kernel
theorem ef_F (m : MethodId) (x0 : Addr) (x1 : Int32) : entryFrame m #[(.ref x0), (.int x1)] 9 = mkF m 0 #[.val (.ref x0), .val (.int x1), .unset, .unset, .unset, .unset, .unset, .unset, .unset] [] := by first | (simp [entryFrame, mkF, argsToLocals, Value.category]; done) | rfl
def QF (Z : State) (ar : Addr) (i1 : Int32) (q0 : Int64) (q1 : Int64) (q2 : Int64) (q3 : Int64) (wP : Addr) (wB : Addr) (h0 : Heap) (n0 : Nat) (v : Option Value) (h : Heap) (L : List Loc) : Prop := ∃ (b : Addr) (kc : ClassId), v = some (.ref b) ∧ Fr n0 L ∧ Keep h0 h [] ∧ (n0 ≤ b ∧ h0.size ≤ b) ∧ Arv Z h b kc .long (10 : Int32) [(.long (own_l0 q0 q1 q2 q3)), (.long (own_l1 q0 q1 q2 q3)), (.long (own_l2 q0 q1 q2 q3)), (.long (own_l3 q0 q1 q2 q3)), (.long (own_l4 q0 q1 q2 q3)), (.long (own_l5 q0 q1 q2 q3)), (.long (own_l6 q0 q1 q2 q3)), (.long (own_l7 q0 q1 q2 q3)), (.long (own_l8 q0 q1 q2 q3)), (.long (own_l9 q0 q1 q2 q3))] (.long (0 : Int64))
set_option maxRecDepth 65536 in
set_option maxHeartbeats 40000000 in
theorem rmF (l : Launch) (Z : State) (a0 : Array Value) (hw : ∀ d ∈ tables_1, d.before a0 Z = true) (ws : List Jvm.Cond) (ar : Addr) (i1 : Int32) (q0 : Int64) (q1 : Int64) (q2 : Int64) (q3 : Int64) (wP : Addr) (wB : Addr) (h0 : Heap) (n0 : Nat) (Z0 : n0 ≤ h0.size) (hO : Old Z n0 h0) (SP : Sta Z Z.heap "com/example/gate_to_gate/gatetogate/io/Field25519" "POSITIONS" "[I" (.ref wP)) (SB : Sta Z Z.heap "com/example/gate_to_gate/gatetogate/io/Field25519" "BITS" "[I" (.ref wB)) (TP : ∀ j, j < 10 → ORd Z Z.heap wP .int (Int32.ofNat j) (.int (own_pos j))) (TB : ∀ j, j < 10 → ORd Z Z.heap wB .int (Int32.ofNat j) (.int (own_bits j))) (R0 : ORd Z h0 ar .long (i1 + (0 : Int32)) (.long q0)) (R1 : ORd Z h0 ar .long (i1 + (1 : Int32)) (.long q1)) (R2 : ORd Z h0 ar .long (i1 + (2 : Int32)) (.long q2)) (R3 : ORd Z h0 ar .long (i1 + (3 : Int32)) (.long q3)) (R4 : ORd Z h0 ar .long ((i1 + (0 : Int32)) + (1 : Int32)) (.long q1)) (R5 : ORd Z h0 ar .long ((i1 + (2 : Int32)) + (1 : Int32)) (.long q3)) :
    MetFree l (⟨"com/example/gate_to_gate/gatetogate/io/Field25519", "fromWords", "([JI)[J"⟩ : MethodName) (head1 (Jvm.Cond.code (⟨"com/example/gate_to_gate/gatetogate/io/Field25519", "fromWords", "([JI)[J"⟩ : MethodName) prog_16_method_4_code 9 (some (.array .long)) :: ws) ({ frames := 0, cells := 1, slots := 10, locals := 0 } : Room)) (fun aA oU => aA = #[(.ref ar), (.int i1)] ∧ Z.Warmed39 oU.vm ∧ oU.heap = h0) (fun _ _ _ _ _ => True) (fun _ oU oO oU' => ∃ oV oL, oO = .returned oV ∧ QF Z ar i1 q0 q1 q2 q3 wP wB h0 n0 oV oU'.heap oL ∧ FrameEnd oU oO oU' oL ({ frames := 0, cells := 1, slots := 10, locals := 0 } : Room).cells ({ frames := 0, cells := 1, slots := 10, locals := 0 } : Room).slots) := by
  refine MetFree.of_bodySF (plainFor_of_name pn_F) hisR ?_
  intro p e s m args below meth c s₁ Bd hml0 hP hK
  obtain ⟨rfl, hZ, hh⟩ := hP
  have hx := Bd.exec
  have hby := Bd.bytes
  have hlk := BodyLoose.notSynchronized Bd
  have hml : c.maxLocals = 9 := hml0
  have hown : s.vm.findClass "com/example/gate_to_gate/gatetogate/io/Field25519" = some m.cls := findClass_of_methodNamed Bd.named
  have hnm := (name_of_methodNamed Bd.named Bd.method).1
  have X0 : Stand p l e ({ frames := 0, cells := 1, slots := 10, locals := 0 } : Room) s m #[(.ref ar), (.int i1)] below meth c s₁ [] 0 0 := Stand.of_body Bd
  have e0 : s₁.heap = h0 := by rw [← hh, Bd.state]; rfl
  have N0 := Fr.nil n0
  show OG p e below s ({ frames := 0, cells := 1, slots := 10, locals := 0 } : Room).cells ({ frames := 0, cells := 1, slots := 10, locals := 0 } : Room).slots (QF Z ar i1 q0 q1 q2 q3 wP wB h0 n0) _
  refine OG.of (fun oT oK => castTop (ef_F m ar i1) oK) ?_
  show OG p e below s _ _ _ (s₁.setTop (mkF m 0 #[.val (.ref ar), .val (.int i1), .unset, .unset, .unset, .unset, .unset, .unset, .unset] []))
  refine OG.of (A := s₁.setTop (mkF m 2 #[.val (.ref ar), .val (.int i1), .unset, .unset, .unset, .unset, .unset, .unset, .unset] [(.int (10 : Int32))])) (fun oT oK => ?_) ?_
  · show Steps p.tables e below (s₁.setTop (mkF m 0 #[.val (.ref ar), .val (.int i1), .unset, .unset, .unset, .unset, .unset, .unset, .unset] [])) oT
    refine XS.bipush X0.here hx rfl (hb hby dF_0) ?_
    exact oK
  show OG _ _ _ _ _ _ _ (s₁.setTop (mkF m 2 #[.val (.ref ar), .val (.int i1), .unset, .unset, .unset, .unset, .unset, .unset, .unset] [(.int (10 : Int32))]))
  obtain ⟨T1, h1, kc1, X1, e1, E1, A1, st1⟩ := newP X0 hx hZ (hw _ (List.mem_of_getElem? (i := 0) rfl)) e0 (g := (mkF m 2 #[.val (.ref ar), .val (.int i1), .unset, .unset, .unset, .unset, .unset, .unset, .unset] [(.int (10 : Int32))])) rfl (hb hby dF_2) rfl (by decide) (cap := 10) (by decide) (by decide) (by decide) (by decide)
  obtain ⟨b1, g1⟩ : ∃ z, z = (h0).size := ⟨_, rfl⟩
  have ne_ar_b1 : ar ≠ b1 := Nat.ne_of_lt (Nat.lt_of_lt_of_le (R0).lt (Nat.le_of_eq g1.symm))
  have gn_b1 : n0 ≤ b1 := Nat.le_trans Z0 (Nat.le_of_eq g1.symm)
  have sz_b1 : h0.size ≤ b1 := Nat.le_trans (Keep.refl h0 []).1 (Nat.le_of_eq g1.symm)
  rw [← g1] at A1 st1
  have f1 := (R0).ext E1
  have f2 := (R1).ext E1
  have f3 := (R2).ext E1
  have f4 := (R3).ext E1
  have f5 := (R4).ext E1
  have f6 := (R5).ext E1
  have f7 := (hO).ext E1
  have K1 : Keep h0 h1 [] := (Keep.refl h0 []).ext E1
  have Z1 : n0 ≤ h1.size := Nat.le_trans Z0 E1.1
  have V1 : Arv Z h1 b1 kc1 .long (10 : Int32) [(.long (0 : Int64)), (.long (0 : Int64)), (.long (0 : Int64)), (.long (0 : Int64)), (.long (0 : Int64)), (.long (0 : Int64)), (.long (0 : Int64)), (.long (0 : Int64)), (.long (0 : Int64)), (.long (0 : Int64))] (.long (0 : Int64)) := (Arv.new A1 (by decide)).pad (pad_rep [] (.long (0 : Int64)) 10)
  refine OG.of st1 ?_
  show OG _ _ _ _ _ _ _ (T1.setTop (mkF m 4 #[.val (.ref ar), .val (.int i1), .unset, .unset, .unset, .unset, .unset, .unset, .unset] [(.ref b1)]))
  refine OG.of (A := T1.setTop (mkF m 13 #[.val (.ref ar), .val (.int i1), .val (.ref b1), .val (.int (0 : Int32)), .unset, .unset, .unset, .unset, .unset] [])) (fun oT oK => ?_) ?_
  · show Steps p.tables e below (T1.setTop (mkF m 4 #[.val (.ref ar), .val (.int i1), .unset, .unset, .unset, .unset, .unset, .unset, .unset] [(.ref b1)])) oT
    refine XS.astoreN X1.here hx rfl (hb hby dF_4) rfl rfl (l' := #[.val (.ref ar), .val (.int i1), .val (.ref b1), .unset, .unset, .unset, .unset, .unset, .unset]) rfl ?_
    show Steps p.tables e below (T1.setTop (mkF m 5 #[.val (.ref ar), .val (.int i1), .val (.ref b1), .unset, .unset, .unset, .unset, .unset, .unset] [])) _
    refine XS.iconst X1.here hx rfl (hb hby dF_5) ?_
    show Steps p.tables e below (T1.setTop (mkF m 6 #[.val (.ref ar), .val (.int i1), .val (.ref b1), .unset, .unset, .unset, .unset, .unset, .unset] [(.int (0 : Int32))])) _
    refine XS.istoreN X1.here hx rfl (hb hby dF_6) rfl (l' := #[.val (.ref ar), .val (.int i1), .val (.ref b1), .val (.int (0 : Int32)), .unset, .unset, .unset, .unset, .unset]) rfl ?_
    show Steps p.tables e below (T1.setTop (mkF m 7 #[.val (.ref ar), .val (.int i1), .val (.ref b1), .val (.int (0 : Int32)), .unset, .unset, .unset, .unset, .unset] [])) _
    refine XS.iloadN X1.here hx rfl (hb hby dF_7) rfl  ?_
    show Steps p.tables e below (T1.setTop (mkF m 8 #[.val (.ref ar), .val (.int i1), .val (.ref b1), .val (.int (0 : Int32)), .unset, .unset, .unset, .unset, .unset] [(.int (0 : Int32))])) _
    refine XS.bipush X1.here hx rfl (hb hby dF_8) ?_
    show Steps p.tables e below (T1.setTop (mkF m 10 #[.val (.ref ar), .val (.int i1), .val (.ref b1), .val (.int (0 : Int32)), .unset, .unset, .unset, .unset, .unset] [(.int (10 : Int32)), (.int (0 : Int32))])) _
    refine XS.icmpNo X1.here hx rfl (hb hby dF_10) rfl (XT.ii_ge_f (by decide)) ?_
    exact oK
  show OG _ _ _ _ _ _ _ (T1.setTop (mkF m 13 #[.val (.ref ar), .val (.int i1), .val (.ref b1), .val (.int (0 : Int32)), .unset, .unset, .unset, .unset, .unset] []))
  obtain ⟨T2, X2, e2, st2⟩ := getS2 X1 hx hZ hown (host := "") (Or.inl (hw _ (List.mem_of_getElem? (i := 5) rfl))) Via.refl e1 (SP.ext (f7).2) (g := (mkF m 13 #[.val (.ref ar), .val (.int i1), .val (.ref b1), .val (.int (0 : Int32)), .unset, .unset, .unset, .unset, .unset] [])) rfl (hb hby dF_13)
  refine OG.of st2 ?_
  show OG _ _ _ _ _ _ _ (T2.setTop (mkF m 16 #[.val (.ref ar), .val (.int i1), .val (.ref b1), .val (.int (0 : Int32)), .unset, .unset, .unset, .unset, .unset] [(.ref wP)]))
  refine OG.of (A := T2.setTop (mkF m 17 #[.val (.ref ar), .val (.int i1), .val (.ref b1), .val (.int (0 : Int32)), .unset, .unset, .unset, .unset, .unset] [(.int (0 : Int32)), (.ref wP)])) (fun oT oK => ?_) ?_
  · show Steps p.tables e below (T2.setTop (mkF m 16 #[.val (.ref ar), .val (.int i1), .val (.ref b1), .val (.int (0 : Int32)), .unset, .unset, .unset, .unset, .unset] [(.ref wP)])) oT
    refine XS.iloadN X2.here hx rfl (hb hby dF_16) rfl  ?_
    exact oK
  show OG _ _ _ _ _ _ _ (T2.setTop (mkF m 17 #[.val (.ref ar), .val (.int i1), .val (.ref b1), .val (.int (0 : Int32)), .unset, .unset, .unset, .unset, .unset] [(.int (0 : Int32)), (.ref wP)]))
  have cf8 := ((TP 0 (by decide)).ext (f7).2)
  obtain ⟨clf8, Arf8, If8, Hf8⟩ := cf8
  refine OG.of (X2.iaload hx (j := (0 : Int32)) (v := (.int (0 : Int32))) (by rw [e2]; exact Arf8.1) (State.isArrayOf_alike hZ.alike Arf8.2.1) Arf8.2.2 If8 Hf8 (g := (mkF m 17 #[.val (.ref ar), .val (.int i1), .val (.ref b1), .val (.int (0 : Int32)), .unset, .unset, .unset, .unset, .unset] [(.int (0 : Int32)), (.ref wP)])) rfl rfl (hb hby dF_17)) ?_
  show OG _ _ _ _ _ _ _ (T2.setTop (mkF m 18 #[.val (.ref ar), .val (.int i1), .val (.ref b1), .val (.int (0 : Int32)), .unset, .unset, .unset, .unset, .unset] [(.int (0 : Int32))]))
  refine OG.of (A := T2.setTop (mkF m 39 #[.val (.ref ar), .val (.int i1), .val (.ref b1), .val (.int (0 : Int32)), .val (.int (0 : Int32)), .val (.int (i1 + (0 : Int32))), .val (.int (0 : Int32)), .unset, .unset] [(.int (i1 + (0 : Int32))), (.ref ar)])) (fun oT oK => ?_) ?_
  · show Steps p.tables e below (T2.setTop (mkF m 18 #[.val (.ref ar), .val (.int i1), .val (.ref b1), .val (.int (0 : Int32)), .unset, .unset, .unset, .unset, .unset] [(.int (0 : Int32))])) oT
    refine XS.istore X2.here hx rfl (hb hby dF_18) rfl (l' := #[.val (.ref ar), .val (.int i1), .val (.ref b1), .val (.int (0 : Int32)), .val (.int (0 : Int32)), .unset, .unset, .unset, .unset]) rfl ?_
    show Steps p.tables e below (T2.setTop (mkF m 20 #[.val (.ref ar), .val (.int i1), .val (.ref b1), .val (.int (0 : Int32)), .val (.int (0 : Int32)), .unset, .unset, .unset, .unset] [])) _
    refine XS.iloadN X2.here hx rfl (hb hby dF_20) rfl  ?_
    show Steps p.tables e below (T2.setTop (mkF m 21 #[.val (.ref ar), .val (.int i1), .val (.ref b1), .val (.int (0 : Int32)), .val (.int (0 : Int32)), .unset, .unset, .unset, .unset] [(.int i1)])) _
    refine XS.iload X2.here hx rfl (hb hby dF_21) rfl  ?_
    show Steps p.tables e below (T2.setTop (mkF m 23 #[.val (.ref ar), .val (.int i1), .val (.ref b1), .val (.int (0 : Int32)), .val (.int (0 : Int32)), .unset, .unset, .unset, .unset] [(.int (0 : Int32)), (.int i1)])) _
    refine XS.bipush X2.here hx rfl (hb hby dF_23) ?_
    show Steps p.tables e below (T2.setTop (mkF m 25 #[.val (.ref ar), .val (.int i1), .val (.ref b1), .val (.int (0 : Int32)), .val (.int (0 : Int32)), .unset, .unset, .unset, .unset] [(.int (64 : Int32)), (.int (0 : Int32)), (.int i1)])) _
    refine XS.idiv X2.here hx rfl (hb hby dF_25) rfl (by decide) ?_
    show Steps p.tables e below (T2.setTop (mkF m 26 #[.val (.ref ar), .val (.int i1), .val (.ref b1), .val (.int (0 : Int32)), .val (.int (0 : Int32)), .unset, .unset, .unset, .unset] [(.int (0 : Int32)), (.int i1)])) _
    refine XS.iadd X2.here hx rfl (hb hby dF_26) rfl ?_
    show Steps p.tables e below (T2.setTop (mkF m 27 #[.val (.ref ar), .val (.int i1), .val (.ref b1), .val (.int (0 : Int32)), .val (.int (0 : Int32)), .unset, .unset, .unset, .unset] [(.int (i1 + (0 : Int32)))])) _
    refine XS.istore X2.here hx rfl (hb hby dF_27) rfl (l' := #[.val (.ref ar), .val (.int i1), .val (.ref b1), .val (.int (0 : Int32)), .val (.int (0 : Int32)), .val (.int (i1 + (0 : Int32))), .unset, .unset, .unset]) rfl ?_
    show Steps p.tables e below (T2.setTop (mkF m 29 #[.val (.ref ar), .val (.int i1), .val (.ref b1), .val (.int (0 : Int32)), .val (.int (0 : Int32)), .val (.int (i1 + (0 : Int32))), .unset, .unset, .unset] [])) _
    refine XS.iload X2.here hx rfl (hb hby dF_29) rfl  ?_
    show Steps p.tables e below (T2.setTop (mkF m 31 #[.val (.ref ar), .val (.int i1), .val (.ref b1), .val (.int (0 : Int32)), .val (.int (0 : Int32)), .val (.int (i1 + (0 : Int32))), .unset, .unset, .unset] [(.int (0 : Int32))])) _
    refine XS.bipush X2.here hx rfl (hb hby dF_31) ?_
    show Steps p.tables e below (T2.setTop (mkF m 33 #[.val (.ref ar), .val (.int i1), .val (.ref b1), .val (.int (0 : Int32)), .val (.int (0 : Int32)), .val (.int (i1 + (0 : Int32))), .unset, .unset, .unset] [(.int (64 : Int32)), (.int (0 : Int32))])) _
    refine Jvm.RoadKit.iremM X2 hx rfl (hb hby dF_33) rfl (by decide) ?_
    show Steps p.tables e below (T2.setTop (mkF m 34 #[.val (.ref ar), .val (.int i1), .val (.ref b1), .val (.int (0 : Int32)), .val (.int (0 : Int32)), .val (.int (i1 + (0 : Int32))), .unset, .unset, .unset] [(.int (0 : Int32))])) _
    refine XS.istore X2.here hx rfl (hb hby dF_34) rfl (l' := #[.val (.ref ar), .val (.int i1), .val (.ref b1), .val (.int (0 : Int32)), .val (.int (0 : Int32)), .val (.int (i1 + (0 : Int32))), .val (.int (0 : Int32)), .unset, .unset]) rfl ?_
    show Steps p.tables e below (T2.setTop (mkF m 36 #[.val (.ref ar), .val (.int i1), .val (.ref b1), .val (.int (0 : Int32)), .val (.int (0 : Int32)), .val (.int (i1 + (0 : Int32))), .val (.int (0 : Int32)), .unset, .unset] [])) _
    refine XS.aloadN X2.here hx rfl (hb hby dF_36) rfl rfl  ?_
    show Steps p.tables e below (T2.setTop (mkF m 37 #[.val (.ref ar), .val (.int i1), .val (.ref b1), .val (.int (0 : Int32)), .val (.int (0 : Int32)), .val (.int (i1 + (0 : Int32))), .val (.int (0 : Int32)), .unset, .unset] [(.ref ar)])) _
    refine XS.iload X2.here hx rfl (hb hby dF_37) rfl  ?_
    exact oK
  show OG _ _ _ _ _ _ _ (T2.setTop (mkF m 39 #[.val (.ref ar), .val (.int i1), .val (.ref b1), .val (.int (0 : Int32)), .val (.int (0 : Int32)), .val (.int (i1 + (0 : Int32))), .val (.int (0 : Int32)), .unset, .unset] [(.int (i1 + (0 : Int32))), (.ref ar)]))
  have cf9 := f1
  obtain ⟨clf9, Arf9, If9, Hf9⟩ := cf9
  refine OG.of (X2.laload hx (j := (i1 + (0 : Int32))) (v := (.long q0)) (by rw [e2]; exact Arf9.1) (State.isArrayOf_alike hZ.alike Arf9.2.1) Arf9.2.2 If9 Hf9 (g := (mkF m 39 #[.val (.ref ar), .val (.int i1), .val (.ref b1), .val (.int (0 : Int32)), .val (.int (0 : Int32)), .val (.int (i1 + (0 : Int32))), .val (.int (0 : Int32)), .unset, .unset] [(.int (i1 + (0 : Int32))), (.ref ar)])) rfl rfl (hb hby dF_39)) ?_
  show OG _ _ _ _ _ _ _ (T2.setTop (mkF m 40 #[.val (.ref ar), .val (.int i1), .val (.ref b1), .val (.int (0 : Int32)), .val (.int (0 : Int32)), .val (.int (i1 + (0 : Int32))), .val (.int (0 : Int32)), .unset, .unset] [(.long q0)]))
  refine OG.of (A := T2.setTop (mkF m 47 #[.val (.ref ar), .val (.int i1), .val (.ref b1), .val (.int (0 : Int32)), .val (.int (0 : Int32)), .val (.int (i1 + (0 : Int32))), .val (.int (0 : Int32)), .val (.long (XT.ushrL q0 (0 : Int32))), .second] [(.int (0 : Int32))])) (fun oT oK => ?_) ?_
  · show Steps p.tables e below (T2.setTop (mkF m 40 #[.val (.ref ar), .val (.int i1), .val (.ref b1), .val (.int (0 : Int32)), .val (.int (0 : Int32)), .val (.int (i1 + (0 : Int32))), .val (.int (0 : Int32)), .unset, .unset] [(.long q0)])) oT
    refine XS.iload X2.here hx rfl (hb hby dF_40) rfl  ?_
    show Steps p.tables e below (T2.setTop (mkF m 42 #[.val (.ref ar), .val (.int i1), .val (.ref b1), .val (.int (0 : Int32)), .val (.int (0 : Int32)), .val (.int (i1 + (0 : Int32))), .val (.int (0 : Int32)), .unset, .unset] [(.int (0 : Int32)), (.long q0)])) _
    refine XT.lushr X2.here hx rfl (hb hby dF_42) rfl ?_
    show Steps p.tables e below (T2.setTop (mkF m 43 #[.val (.ref ar), .val (.int i1), .val (.ref b1), .val (.int (0 : Int32)), .val (.int (0 : Int32)), .val (.int (i1 + (0 : Int32))), .val (.int (0 : Int32)), .unset, .unset] [(.long (XT.ushrL q0 (0 : Int32)))])) _
    refine XT.lstore X2.here hx rfl (hb hby dF_43) rfl (l' := #[.val (.ref ar), .val (.int i1), .val (.ref b1), .val (.int (0 : Int32)), .val (.int (0 : Int32)), .val (.int (i1 + (0 : Int32))), .val (.int (0 : Int32)), .val (.long (XT.ushrL q0 (0 : Int32))), .second]) rfl ?_
    show Steps p.tables e below (T2.setTop (mkF m 45 #[.val (.ref ar), .val (.int i1), .val (.ref b1), .val (.int (0 : Int32)), .val (.int (0 : Int32)), .val (.int (i1 + (0 : Int32))), .val (.int (0 : Int32)), .val (.long (XT.ushrL q0 (0 : Int32))), .second] [])) _
    refine XS.iload X2.here hx rfl (hb hby dF_45) rfl  ?_
    exact oK
  show OG _ _ _ _ _ _ _ (T2.setTop (mkF m 47 #[.val (.ref ar), .val (.int i1), .val (.ref b1), .val (.int (0 : Int32)), .val (.int (0 : Int32)), .val (.int (i1 + (0 : Int32))), .val (.int (0 : Int32)), .val (.long (XT.ushrL q0 (0 : Int32))), .second] [(.int (0 : Int32))]))
  obtain ⟨T3, X3, e3, st3⟩ := getS2 X2 hx hZ hown (host := "") (Or.inl (hw _ (List.mem_of_getElem? (i := 7) rfl))) Via.refl e2 (SB.ext (f7).2) (g := (mkF m 47 #[.val (.ref ar), .val (.int i1), .val (.ref b1), .val (.int (0 : Int32)), .val (.int (0 : Int32)), .val (.int (i1 + (0 : Int32))), .val (.int (0 : Int32)), .val (.long (XT.ushrL q0 (0 : Int32))), .second] [(.int (0 : Int32))])) rfl (hb hby dF_47)
  refine OG.of st3 ?_
  show OG _ _ _ _ _ _ _ (T3.setTop (mkF m 50 #[.val (.ref ar), .val (.int i1), .val (.ref b1), .val (.int (0 : Int32)), .val (.int (0 : Int32)), .val (.int (i1 + (0 : Int32))), .val (.int (0 : Int32)), .val (.long (XT.ushrL q0 (0 : Int32))), .second] [(.ref wB), (.int (0 : Int32))]))
  refine OG.of (A := T3.setTop (mkF m 51 #[.val (.ref ar), .val (.int i1), .val (.ref b1), .val (.int (0 : Int32)), .val (.int (0 : Int32)), .val (.int (i1 + (0 : Int32))), .val (.int (0 : Int32)), .val (.long (XT.ushrL q0 (0 : Int32))), .second] [(.int (0 : Int32)), (.ref wB), (.int (0 : Int32))])) (fun oT oK => ?_) ?_
  · show Steps p.tables e below (T3.setTop (mkF m 50 #[.val (.ref ar), .val (.int i1), .val (.ref b1), .val (.int (0 : Int32)), .val (.int (0 : Int32)), .val (.int (i1 + (0 : Int32))), .val (.int (0 : Int32)), .val (.long (XT.ushrL q0 (0 : Int32))), .second] [(.ref wB), (.int (0 : Int32))])) oT
    refine XS.iloadN X3.here hx rfl (hb hby dF_50) rfl  ?_
    exact oK
  show OG _ _ _ _ _ _ _ (T3.setTop (mkF m 51 #[.val (.ref ar), .val (.int i1), .val (.ref b1), .val (.int (0 : Int32)), .val (.int (0 : Int32)), .val (.int (i1 + (0 : Int32))), .val (.int (0 : Int32)), .val (.long (XT.ushrL q0 (0 : Int32))), .second] [(.int (0 : Int32)), (.ref wB), (.int (0 : Int32))]))
  have cf10 := ((TB 0 (by decide)).ext (f7).2)
  obtain ⟨clf10, Arf10, If10, Hf10⟩ := cf10
  refine OG.of (X3.iaload hx (j := (0 : Int32)) (v := (.int (26 : Int32))) (by rw [e3]; exact Arf10.1) (State.isArrayOf_alike hZ.alike Arf10.2.1) Arf10.2.2 If10 Hf10 (g := (mkF m 51 #[.val (.ref ar), .val (.int i1), .val (.ref b1), .val (.int (0 : Int32)), .val (.int (0 : Int32)), .val (.int (i1 + (0 : Int32))), .val (.int (0 : Int32)), .val (.long (XT.ushrL q0 (0 : Int32))), .second] [(.int (0 : Int32)), (.ref wB), (.int (0 : Int32))])) rfl rfl (hb hby dF_51)) ?_
  show OG _ _ _ _ _ _ _ (T3.setTop (mkF m 52 #[.val (.ref ar), .val (.int i1), .val (.ref b1), .val (.int (0 : Int32)), .val (.int (0 : Int32)), .val (.int (i1 + (0 : Int32))), .val (.int (0 : Int32)), .val (.long (XT.ushrL q0 (0 : Int32))), .second] [(.int (26 : Int32)), (.int (0 : Int32))]))
  refine OG.of (A := T3.setTop (mkF m 80 #[.val (.ref ar), .val (.int i1), .val (.ref b1), .val (.int (0 : Int32)), .val (.int (0 : Int32)), .val (.int (i1 + (0 : Int32))), .val (.int (0 : Int32)), .val (.long (XT.ushrL q0 (0 : Int32))), .second] [(.long (1 : Int64)), (.long (XT.ushrL q0 (0 : Int32))), (.int (0 : Int32)), (.ref b1)])) (fun oT oK => ?_) ?_
  · show Steps p.tables e below (T3.setTop (mkF m 52 #[.val (.ref ar), .val (.int i1), .val (.ref b1), .val (.int (0 : Int32)), .val (.int (0 : Int32)), .val (.int (i1 + (0 : Int32))), .val (.int (0 : Int32)), .val (.long (XT.ushrL q0 (0 : Int32))), .second] [(.int (26 : Int32)), (.int (0 : Int32))])) oT
    refine XS.iadd X3.here hx rfl (hb hby dF_52) rfl ?_
    show Steps p.tables e below (T3.setTop (mkF m 53 #[.val (.ref ar), .val (.int i1), .val (.ref b1), .val (.int (0 : Int32)), .val (.int (0 : Int32)), .val (.int (i1 + (0 : Int32))), .val (.int (0 : Int32)), .val (.long (XT.ushrL q0 (0 : Int32))), .second] [(.int (26 : Int32))])) _
    refine XS.bipush X3.here hx rfl (hb hby dF_53) ?_
    show Steps p.tables e below (T3.setTop (mkF m 55 #[.val (.ref ar), .val (.int i1), .val (.ref b1), .val (.int (0 : Int32)), .val (.int (0 : Int32)), .val (.int (i1 + (0 : Int32))), .val (.int (0 : Int32)), .val (.long (XT.ushrL q0 (0 : Int32))), .second] [(.int (64 : Int32)), (.int (26 : Int32))])) _
    refine XS.icmpYes X3.here hx rfl (pc0 := 55) (pc' := 75) rfl (hb hby dF_55) rfl (XT.ii_le_t (by decide)) (by decide) (by decide) ?_
    show Steps p.tables e below (T3.setTop (mkF m 75 #[.val (.ref ar), .val (.int i1), .val (.ref b1), .val (.int (0 : Int32)), .val (.int (0 : Int32)), .val (.int (i1 + (0 : Int32))), .val (.int (0 : Int32)), .val (.long (XT.ushrL q0 (0 : Int32))), .second] [])) _
    refine XS.aloadN X3.here hx rfl (hb hby dF_75) rfl rfl  ?_
    show Steps p.tables e below (T3.setTop (mkF m 76 #[.val (.ref ar), .val (.int i1), .val (.ref b1), .val (.int (0 : Int32)), .val (.int (0 : Int32)), .val (.int (i1 + (0 : Int32))), .val (.int (0 : Int32)), .val (.long (XT.ushrL q0 (0 : Int32))), .second] [(.ref b1)])) _
    refine XS.iloadN X3.here hx rfl (hb hby dF_76) rfl  ?_
    show Steps p.tables e below (T3.setTop (mkF m 77 #[.val (.ref ar), .val (.int i1), .val (.ref b1), .val (.int (0 : Int32)), .val (.int (0 : Int32)), .val (.int (i1 + (0 : Int32))), .val (.int (0 : Int32)), .val (.long (XT.ushrL q0 (0 : Int32))), .second] [(.int (0 : Int32)), (.ref b1)])) _
    refine XT.lload X3.here hx rfl (hb hby dF_77) rfl  ?_
    show Steps p.tables e below (T3.setTop (mkF m 79 #[.val (.ref ar), .val (.int i1), .val (.ref b1), .val (.int (0 : Int32)), .val (.int (0 : Int32)), .val (.int (i1 + (0 : Int32))), .val (.int (0 : Int32)), .val (.long (XT.ushrL q0 (0 : Int32))), .second] [(.long (XT.ushrL q0 (0 : Int32))), (.int (0 : Int32)), (.ref b1)])) _
    refine XT.lconst X3.here hx rfl (hb hby dF_79) ?_
    exact oK
  show OG _ _ _ _ _ _ _ (T3.setTop (mkF m 80 #[.val (.ref ar), .val (.int i1), .val (.ref b1), .val (.int (0 : Int32)), .val (.int (0 : Int32)), .val (.int (i1 + (0 : Int32))), .val (.int (0 : Int32)), .val (.long (XT.ushrL q0 (0 : Int32))), .second] [(.long (1 : Int64)), (.long (XT.ushrL q0 (0 : Int32))), (.int (0 : Int32)), (.ref b1)]))
  obtain ⟨T4, X4, e4, st4⟩ := getS2 X3 hx hZ hown (host := "") (Or.inl (hw _ (List.mem_of_getElem? (i := 7) rfl))) Via.refl e3 (SB.ext (f7).2) (g := (mkF m 80 #[.val (.ref ar), .val (.int i1), .val (.ref b1), .val (.int (0 : Int32)), .val (.int (0 : Int32)), .val (.int (i1 + (0 : Int32))), .val (.int (0 : Int32)), .val (.long (XT.ushrL q0 (0 : Int32))), .second] [(.long (1 : Int64)), (.long (XT.ushrL q0 (0 : Int32))), (.int (0 : Int32)), (.ref b1)])) rfl (hb hby dF_80)
  refine OG.of st4 ?_
  show OG _ _ _ _ _ _ _ (T4.setTop (mkF m 83 #[.val (.ref ar), .val (.int i1), .val (.ref b1), .val (.int (0 : Int32)), .val (.int (0 : Int32)), .val (.int (i1 + (0 : Int32))), .val (.int (0 : Int32)), .val (.long (XT.ushrL q0 (0 : Int32))), .second] [(.ref wB), (.long (1 : Int64)), (.long (XT.ushrL q0 (0 : Int32))), (.int (0 : Int32)), (.ref b1)]))
  refine OG.of (A := T4.setTop (mkF m 84 #[.val (.ref ar), .val (.int i1), .val (.ref b1), .val (.int (0 : Int32)), .val (.int (0 : Int32)), .val (.int (i1 + (0 : Int32))), .val (.int (0 : Int32)), .val (.long (XT.ushrL q0 (0 : Int32))), .second] [(.int (0 : Int32)), (.ref wB), (.long (1 : Int64)), (.long (XT.ushrL q0 (0 : Int32))), (.int (0 : Int32)), (.ref b1)])) (fun oT oK => ?_) ?_
  · show Steps p.tables e below (T4.setTop (mkF m 83 #[.val (.ref ar), .val (.int i1), .val (.ref b1), .val (.int (0 : Int32)), .val (.int (0 : Int32)), .val (.int (i1 + (0 : Int32))), .val (.int (0 : Int32)), .val (.long (XT.ushrL q0 (0 : Int32))), .second] [(.ref wB), (.long (1 : Int64)), (.long (XT.ushrL q0 (0 : Int32))), (.int (0 : Int32)), (.ref b1)])) oT
    refine XS.iloadN X4.here hx rfl (hb hby dF_83) rfl  ?_
    exact oK
  show OG _ _ _ _ _ _ _ (T4.setTop (mkF m 84 #[.val (.ref ar), .val (.int i1), .val (.ref b1), .val (.int (0 : Int32)), .val (.int (0 : Int32)), .val (.int (i1 + (0 : Int32))), .val (.int (0 : Int32)), .val (.long (XT.ushrL q0 (0 : Int32))), .second] [(.int (0 : Int32)), (.ref wB), (.long (1 : Int64)), (.long (XT.ushrL q0 (0 : Int32))), (.int (0 : Int32)), (.ref b1)]))
  have cf11 := ((TB 0 (by decide)).ext (f7).2)
  obtain ⟨clf11, Arf11, If11, Hf11⟩ := cf11
  refine OG.of (X4.iaload hx (j := (0 : Int32)) (v := (.int (26 : Int32))) (by rw [e4]; exact Arf11.1) (State.isArrayOf_alike hZ.alike Arf11.2.1) Arf11.2.2 If11 Hf11 (g := (mkF m 84 #[.val (.ref ar), .val (.int i1), .val (.ref b1), .val (.int (0 : Int32)), .val (.int (0 : Int32)), .val (.int (i1 + (0 : Int32))), .val (.int (0 : Int32)), .val (.long (XT.ushrL q0 (0 : Int32))), .second] [(.int (0 : Int32)), (.ref wB), (.long (1 : Int64)), (.long (XT.ushrL q0 (0 : Int32))), (.int (0 : Int32)), (.ref b1)])) rfl rfl (hb hby dF_84)) ?_
  show OG _ _ _ _ _ _ _ (T4.setTop (mkF m 85 #[.val (.ref ar), .val (.int i1), .val (.ref b1), .val (.int (0 : Int32)), .val (.int (0 : Int32)), .val (.int (i1 + (0 : Int32))), .val (.int (0 : Int32)), .val (.long (XT.ushrL q0 (0 : Int32))), .second] [(.int (26 : Int32)), (.long (1 : Int64)), (.long (XT.ushrL q0 (0 : Int32))), (.int (0 : Int32)), (.ref b1)]))
  refine OG.of (A := T4.setTop (mkF m 89 #[.val (.ref ar), .val (.int i1), .val (.ref b1), .val (.int (0 : Int32)), .val (.int (0 : Int32)), .val (.int (i1 + (0 : Int32))), .val (.int (0 : Int32)), .val (.long (XT.ushrL q0 (0 : Int32))), .second] [(.long ((XT.ushrL q0 (0 : Int32)) &&& (((1 : Int64) <<< ((26 : Int32).toInt64 &&& 63)) - (1 : Int64)))), (.int (0 : Int32)), (.ref b1)])) (fun oT oK => ?_) ?_
  · show Steps p.tables e below (T4.setTop (mkF m 85 #[.val (.ref ar), .val (.int i1), .val (.ref b1), .val (.int (0 : Int32)), .val (.int (0 : Int32)), .val (.int (i1 + (0 : Int32))), .val (.int (0 : Int32)), .val (.long (XT.ushrL q0 (0 : Int32))), .second] [(.int (26 : Int32)), (.long (1 : Int64)), (.long (XT.ushrL q0 (0 : Int32))), (.int (0 : Int32)), (.ref b1)])) oT
    refine XT.lshl X4.here hx rfl (hb hby dF_85) rfl ?_
    show Steps p.tables e below (T4.setTop (mkF m 86 #[.val (.ref ar), .val (.int i1), .val (.ref b1), .val (.int (0 : Int32)), .val (.int (0 : Int32)), .val (.int (i1 + (0 : Int32))), .val (.int (0 : Int32)), .val (.long (XT.ushrL q0 (0 : Int32))), .second] [(.long ((1 : Int64) <<< ((26 : Int32).toInt64 &&& 63))), (.long (XT.ushrL q0 (0 : Int32))), (.int (0 : Int32)), (.ref b1)])) _
    refine XT.lconst X4.here hx rfl (hb hby dF_86) ?_
    show Steps p.tables e below (T4.setTop (mkF m 87 #[.val (.ref ar), .val (.int i1), .val (.ref b1), .val (.int (0 : Int32)), .val (.int (0 : Int32)), .val (.int (i1 + (0 : Int32))), .val (.int (0 : Int32)), .val (.long (XT.ushrL q0 (0 : Int32))), .second] [(.long (1 : Int64)), (.long ((1 : Int64) <<< ((26 : Int32).toInt64 &&& 63))), (.long (XT.ushrL q0 (0 : Int32))), (.int (0 : Int32)), (.ref b1)])) _
    refine XT.lsub X4.here hx rfl (hb hby dF_87) rfl ?_
    show Steps p.tables e below (T4.setTop (mkF m 88 #[.val (.ref ar), .val (.int i1), .val (.ref b1), .val (.int (0 : Int32)), .val (.int (0 : Int32)), .val (.int (i1 + (0 : Int32))), .val (.int (0 : Int32)), .val (.long (XT.ushrL q0 (0 : Int32))), .second] [(.long (((1 : Int64) <<< ((26 : Int32).toInt64 &&& 63)) - (1 : Int64))), (.long (XT.ushrL q0 (0 : Int32))), (.int (0 : Int32)), (.ref b1)])) _
    refine XT.land X4.here hx rfl (hb hby dF_88) rfl ?_
    exact oK
  show OG _ _ _ _ _ _ _ (T4.setTop (mkF m 89 #[.val (.ref ar), .val (.int i1), .val (.ref b1), .val (.int (0 : Int32)), .val (.int (0 : Int32)), .val (.int (i1 + (0 : Int32))), .val (.int (0 : Int32)), .val (.long (XT.ushrL q0 (0 : Int32))), .second] [(.long ((XT.ushrL q0 (0 : Int32)) &&& (((1 : Int64) <<< ((26 : Int32).toInt64 &&& 63)) - (1 : Int64)))), (.int (0 : Int32)), (.ref b1)]))
  show OG _ _ _ _ _ _ _ (T4.setTop (mkF m 89 #[.val (.ref ar), .val (.int i1), .val (.ref b1), .val (.int (0 : Int32)), .val (.int (0 : Int32)), .val (.int (i1 + (0 : Int32))), .val (.int (0 : Int32)), .val (.long (XT.ushrL q0 (0 : Int32))), .second] [(.long (own_l0 q0 q1 q2 q3)), (.int (0 : Int32)), (.ref b1)]))
  have cf12 := V1
  obtain ⟨clf12, Arf12, qf12, Sf12, Mf12, Hf12, Gf12⟩ := cf12
  obtain ⟨T5, h5, X5, e5, W5, st5⟩ := stJ X4 hx hZ e4 Arf12 (j := (0 : Int32)) (inb_of Sf12 ⟨by decide, by decide⟩) (g := (mkF m 89 #[.val (.ref ar), .val (.int i1), .val (.ref b1), .val (.int (0 : Int32)), .val (.int (0 : Int32)), .val (.int (i1 + (0 : Int32))), .val (.int (0 : Int32)), .val (.long (XT.ushrL q0 (0 : Int32))), .second] [(.long (own_l0 q0 q1 q2 q3)), (.int (0 : Int32)), (.ref b1)])) rfl rfl (hb hby dF_89)
  have f13 := (f1).other W5 ne_ar_b1
  have f14 := (f2).other W5 ne_ar_b1
  have f15 := (f3).other W5 ne_ar_b1
  have f16 := (f4).other W5 ne_ar_b1
  have f17 := (f5).other W5 ne_ar_b1
  have f18 := (f6).other W5 ne_ar_b1
  have V5 : Arv Z h5 b1 kc1 .long (10 : Int32) [(.long (own_l0 q0 q1 q2 q3)), (.long (0 : Int64)), (.long (0 : Int64)), (.long (0 : Int64)), (.long (0 : Int64)), (.long (0 : Int64)), (.long (0 : Int64)), (.long (0 : Int64)), (.long (0 : Int64)), (.long (0 : Int64))] (.long (0 : Int64)) := Arv.set Arf12 qf12 Sf12 Mf12 Hf12 Gf12 rfl W5 0 rfl (Nat.le_of_ble_eq_true rfl)
  have f20 := (f7).wr W5 gn_b1
  have K5 : Keep h0 h5 [] := (K1).wr W5 (Or.inr sz_b1)
  have Z5 : n0 ≤ h5.size := Nat.le_trans Z1 (Keep.of_wr W5).1
  have N5 := Fr.snoc X5 N0 gn_b1
  refine OG.of st5 ?_
  show OG _ _ _ _ _ _ _ (T5.setTop (mkF m 90 #[.val (.ref ar), .val (.int i1), .val (.ref b1), .val (.int (0 : Int32)), .val (.int (0 : Int32)), .val (.int (i1 + (0 : Int32))), .val (.int (0 : Int32)), .val (.long (XT.ushrL q0 (0 : Int32))), .second] []))
  refine OG.of (A := T5.setTop (mkF m 13 #[.val (.ref ar), .val (.int i1), .val (.ref b1), .val (.int (1 : Int32)), .val (.int (0 : Int32)), .val (.int (i1 + (0 : Int32))), .val (.int (0 : Int32)), .val (.long (XT.ushrL q0 (0 : Int32))), .second] [])) (fun oT oK => ?_) ?_
  · show Steps p.tables e below (T5.setTop (mkF m 90 #[.val (.ref ar), .val (.int i1), .val (.ref b1), .val (.int (0 : Int32)), .val (.int (0 : Int32)), .val (.int (i1 + (0 : Int32))), .val (.int (0 : Int32)), .val (.long (XT.ushrL q0 (0 : Int32))), .second] [])) oT
    refine XS.iinc X5.here hx rfl (hb hby dF_90) rfl (l' := #[.val (.ref ar), .val (.int i1), .val (.ref b1), .val (.int (1 : Int32)), .val (.int (0 : Int32)), .val (.int (i1 + (0 : Int32))), .val (.int (0 : Int32)), .val (.long (XT.ushrL q0 (0 : Int32))), .second]) rfl ?_
    show Steps p.tables e below (T5.setTop (mkF m 93 #[.val (.ref ar), .val (.int i1), .val (.ref b1), .val (.int (1 : Int32)), .val (.int (0 : Int32)), .val (.int (i1 + (0 : Int32))), .val (.int (0 : Int32)), .val (.long (XT.ushrL q0 (0 : Int32))), .second] [])) _
    refine XS.goto X5.here hx rfl (pc0 := 93) (pc' := 7) rfl (hb hby dF_93) (by decide) (by decide) ?_
    show Steps p.tables e below (T5.setTop (mkF m 7 #[.val (.ref ar), .val (.int i1), .val (.ref b1), .val (.int (1 : Int32)), .val (.int (0 : Int32)), .val (.int (i1 + (0 : Int32))), .val (.int (0 : Int32)), .val (.long (XT.ushrL q0 (0 : Int32))), .second] [])) _
    refine XS.iloadN X5.here hx rfl (hb hby dF_7) rfl  ?_
    show Steps p.tables e below (T5.setTop (mkF m 8 #[.val (.ref ar), .val (.int i1), .val (.ref b1), .val (.int (1 : Int32)), .val (.int (0 : Int32)), .val (.int (i1 + (0 : Int32))), .val (.int (0 : Int32)), .val (.long (XT.ushrL q0 (0 : Int32))), .second] [(.int (1 : Int32))])) _
    refine XS.bipush X5.here hx rfl (hb hby dF_8) ?_
    show Steps p.tables e below (T5.setTop (mkF m 10 #[.val (.ref ar), .val (.int i1), .val (.ref b1), .val (.int (1 : Int32)), .val (.int (0 : Int32)), .val (.int (i1 + (0 : Int32))), .val (.int (0 : Int32)), .val (.long (XT.ushrL q0 (0 : Int32))), .second] [(.int (10 : Int32)), (.int (1 : Int32))])) _
    refine XS.icmpNo X5.here hx rfl (hb hby dF_10) rfl (XT.ii_ge_f (by decide)) ?_
    exact oK
  show OG _ _ _ _ _ _ _ (T5.setTop (mkF m 13 #[.val (.ref ar), .val (.int i1), .val (.ref b1), .val (.int (1 : Int32)), .val (.int (0 : Int32)), .val (.int (i1 + (0 : Int32))), .val (.int (0 : Int32)), .val (.long (XT.ushrL q0 (0 : Int32))), .second] []))
  obtain ⟨T6, X6, e6, st6⟩ := getS2 X5 hx hZ hown (host := "") (Or.inl (hw _ (List.mem_of_getElem? (i := 5) rfl))) Via.refl e5 (SP.ext (f20).2) (g := (mkF m 13 #[.val (.ref ar), .val (.int i1), .val (.ref b1), .val (.int (1 : Int32)), .val (.int (0 : Int32)), .val (.int (i1 + (0 : Int32))), .val (.int (0 : Int32)), .val (.long (XT.ushrL q0 (0 : Int32))), .second] [])) rfl (hb hby dF_13)
  refine OG.of st6 ?_
  show OG _ _ _ _ _ _ _ (T6.setTop (mkF m 16 #[.val (.ref ar), .val (.int i1), .val (.ref b1), .val (.int (1 : Int32)), .val (.int (0 : Int32)), .val (.int (i1 + (0 : Int32))), .val (.int (0 : Int32)), .val (.long (XT.ushrL q0 (0 : Int32))), .second] [(.ref wP)]))
  refine OG.of (A := T6.setTop (mkF m 17 #[.val (.ref ar), .val (.int i1), .val (.ref b1), .val (.int (1 : Int32)), .val (.int (0 : Int32)), .val (.int (i1 + (0 : Int32))), .val (.int (0 : Int32)), .val (.long (XT.ushrL q0 (0 : Int32))), .second] [(.int (1 : Int32)), (.ref wP)])) (fun oT oK => ?_) ?_
  · show Steps p.tables e below (T6.setTop (mkF m 16 #[.val (.ref ar), .val (.int i1), .val (.ref b1), .val (.int (1 : Int32)), .val (.int (0 : Int32)), .val (.int (i1 + (0 : Int32))), .val (.int (0 : Int32)), .val (.long (XT.ushrL q0 (0 : Int32))), .second] [(.ref wP)])) oT
    refine XS.iloadN X6.here hx rfl (hb hby dF_16) rfl  ?_
    exact oK
  show OG _ _ _ _ _ _ _ (T6.setTop (mkF m 17 #[.val (.ref ar), .val (.int i1), .val (.ref b1), .val (.int (1 : Int32)), .val (.int (0 : Int32)), .val (.int (i1 + (0 : Int32))), .val (.int (0 : Int32)), .val (.long (XT.ushrL q0 (0 : Int32))), .second] [(.int (1 : Int32)), (.ref wP)]))
  have cf21 := ((TP 1 (by decide)).ext (f20).2)
  obtain ⟨clf21, Arf21, If21, Hf21⟩ := cf21
  refine OG.of (X6.iaload hx (j := (1 : Int32)) (v := (.int (26 : Int32))) (by rw [e6]; exact Arf21.1) (State.isArrayOf_alike hZ.alike Arf21.2.1) Arf21.2.2 If21 Hf21 (g := (mkF m 17 #[.val (.ref ar), .val (.int i1), .val (.ref b1), .val (.int (1 : Int32)), .val (.int (0 : Int32)), .val (.int (i1 + (0 : Int32))), .val (.int (0 : Int32)), .val (.long (XT.ushrL q0 (0 : Int32))), .second] [(.int (1 : Int32)), (.ref wP)])) rfl rfl (hb hby dF_17)) ?_
  show OG _ _ _ _ _ _ _ (T6.setTop (mkF m 18 #[.val (.ref ar), .val (.int i1), .val (.ref b1), .val (.int (1 : Int32)), .val (.int (0 : Int32)), .val (.int (i1 + (0 : Int32))), .val (.int (0 : Int32)), .val (.long (XT.ushrL q0 (0 : Int32))), .second] [(.int (26 : Int32))]))
  refine OG.of (A := T6.setTop (mkF m 39 #[.val (.ref ar), .val (.int i1), .val (.ref b1), .val (.int (1 : Int32)), .val (.int (26 : Int32)), .val (.int (i1 + (0 : Int32))), .val (.int (26 : Int32)), .val (.long (XT.ushrL q0 (0 : Int32))), .second] [(.int (i1 + (0 : Int32))), (.ref ar)])) (fun oT oK => ?_) ?_
  · show Steps p.tables e below (T6.setTop (mkF m 18 #[.val (.ref ar), .val (.int i1), .val (.ref b1), .val (.int (1 : Int32)), .val (.int (0 : Int32)), .val (.int (i1 + (0 : Int32))), .val (.int (0 : Int32)), .val (.long (XT.ushrL q0 (0 : Int32))), .second] [(.int (26 : Int32))])) oT
    refine XS.istore X6.here hx rfl (hb hby dF_18) rfl (l' := #[.val (.ref ar), .val (.int i1), .val (.ref b1), .val (.int (1 : Int32)), .val (.int (26 : Int32)), .val (.int (i1 + (0 : Int32))), .val (.int (0 : Int32)), .val (.long (XT.ushrL q0 (0 : Int32))), .second]) rfl ?_
    show Steps p.tables e below (T6.setTop (mkF m 20 #[.val (.ref ar), .val (.int i1), .val (.ref b1), .val (.int (1 : Int32)), .val (.int (26 : Int32)), .val (.int (i1 + (0 : Int32))), .val (.int (0 : Int32)), .val (.long (XT.ushrL q0 (0 : Int32))), .second] [])) _
    refine XS.iloadN X6.here hx rfl (hb hby dF_20) rfl  ?_
    show Steps p.tables e below (T6.setTop (mkF m 21 #[.val (.ref ar), .val (.int i1), .val (.ref b1), .val (.int (1 : Int32)), .val (.int (26 : Int32)), .val (.int (i1 + (0 : Int32))), .val (.int (0 : Int32)), .val (.long (XT.ushrL q0 (0 : Int32))), .second] [(.int i1)])) _
    refine XS.iload X6.here hx rfl (hb hby dF_21) rfl  ?_
    show Steps p.tables e below (T6.setTop (mkF m 23 #[.val (.ref ar), .val (.int i1), .val (.ref b1), .val (.int (1 : Int32)), .val (.int (26 : Int32)), .val (.int (i1 + (0 : Int32))), .val (.int (0 : Int32)), .val (.long (XT.ushrL q0 (0 : Int32))), .second] [(.int (26 : Int32)), (.int i1)])) _
    refine XS.bipush X6.here hx rfl (hb hby dF_23) ?_
    show Steps p.tables e below (T6.setTop (mkF m 25 #[.val (.ref ar), .val (.int i1), .val (.ref b1), .val (.int (1 : Int32)), .val (.int (26 : Int32)), .val (.int (i1 + (0 : Int32))), .val (.int (0 : Int32)), .val (.long (XT.ushrL q0 (0 : Int32))), .second] [(.int (64 : Int32)), (.int (26 : Int32)), (.int i1)])) _
    refine XS.idiv X6.here hx rfl (hb hby dF_25) rfl (by decide) ?_
    show Steps p.tables e below (T6.setTop (mkF m 26 #[.val (.ref ar), .val (.int i1), .val (.ref b1), .val (.int (1 : Int32)), .val (.int (26 : Int32)), .val (.int (i1 + (0 : Int32))), .val (.int (0 : Int32)), .val (.long (XT.ushrL q0 (0 : Int32))), .second] [(.int (0 : Int32)), (.int i1)])) _
    refine XS.iadd X6.here hx rfl (hb hby dF_26) rfl ?_
    show Steps p.tables e below (T6.setTop (mkF m 27 #[.val (.ref ar), .val (.int i1), .val (.ref b1), .val (.int (1 : Int32)), .val (.int (26 : Int32)), .val (.int (i1 + (0 : Int32))), .val (.int (0 : Int32)), .val (.long (XT.ushrL q0 (0 : Int32))), .second] [(.int (i1 + (0 : Int32)))])) _
    refine XS.istore X6.here hx rfl (hb hby dF_27) rfl (l' := #[.val (.ref ar), .val (.int i1), .val (.ref b1), .val (.int (1 : Int32)), .val (.int (26 : Int32)), .val (.int (i1 + (0 : Int32))), .val (.int (0 : Int32)), .val (.long (XT.ushrL q0 (0 : Int32))), .second]) rfl ?_
    show Steps p.tables e below (T6.setTop (mkF m 29 #[.val (.ref ar), .val (.int i1), .val (.ref b1), .val (.int (1 : Int32)), .val (.int (26 : Int32)), .val (.int (i1 + (0 : Int32))), .val (.int (0 : Int32)), .val (.long (XT.ushrL q0 (0 : Int32))), .second] [])) _
    refine XS.iload X6.here hx rfl (hb hby dF_29) rfl  ?_
    show Steps p.tables e below (T6.setTop (mkF m 31 #[.val (.ref ar), .val (.int i1), .val (.ref b1), .val (.int (1 : Int32)), .val (.int (26 : Int32)), .val (.int (i1 + (0 : Int32))), .val (.int (0 : Int32)), .val (.long (XT.ushrL q0 (0 : Int32))), .second] [(.int (26 : Int32))])) _
    refine XS.bipush X6.here hx rfl (hb hby dF_31) ?_
    show Steps p.tables e below (T6.setTop (mkF m 33 #[.val (.ref ar), .val (.int i1), .val (.ref b1), .val (.int (1 : Int32)), .val (.int (26 : Int32)), .val (.int (i1 + (0 : Int32))), .val (.int (0 : Int32)), .val (.long (XT.ushrL q0 (0 : Int32))), .second] [(.int (64 : Int32)), (.int (26 : Int32))])) _
    refine Jvm.RoadKit.iremM X6 hx rfl (hb hby dF_33) rfl (by decide) ?_
    show Steps p.tables e below (T6.setTop (mkF m 34 #[.val (.ref ar), .val (.int i1), .val (.ref b1), .val (.int (1 : Int32)), .val (.int (26 : Int32)), .val (.int (i1 + (0 : Int32))), .val (.int (0 : Int32)), .val (.long (XT.ushrL q0 (0 : Int32))), .second] [(.int (26 : Int32))])) _
    refine XS.istore X6.here hx rfl (hb hby dF_34) rfl (l' := #[.val (.ref ar), .val (.int i1), .val (.ref b1), .val (.int (1 : Int32)), .val (.int (26 : Int32)), .val (.int (i1 + (0 : Int32))), .val (.int (26 : Int32)), .val (.long (XT.ushrL q0 (0 : Int32))), .second]) rfl ?_
    show Steps p.tables e below (T6.setTop (mkF m 36 #[.val (.ref ar), .val (.int i1), .val (.ref b1), .val (.int (1 : Int32)), .val (.int (26 : Int32)), .val (.int (i1 + (0 : Int32))), .val (.int (26 : Int32)), .val (.long (XT.ushrL q0 (0 : Int32))), .second] [])) _
    refine XS.aloadN X6.here hx rfl (hb hby dF_36) rfl rfl  ?_
    show Steps p.tables e below (T6.setTop (mkF m 37 #[.val (.ref ar), .val (.int i1), .val (.ref b1), .val (.int (1 : Int32)), .val (.int (26 : Int32)), .val (.int (i1 + (0 : Int32))), .val (.int (26 : Int32)), .val (.long (XT.ushrL q0 (0 : Int32))), .second] [(.ref ar)])) _
    refine XS.iload X6.here hx rfl (hb hby dF_37) rfl  ?_
    exact oK
  show OG _ _ _ _ _ _ _ (T6.setTop (mkF m 39 #[.val (.ref ar), .val (.int i1), .val (.ref b1), .val (.int (1 : Int32)), .val (.int (26 : Int32)), .val (.int (i1 + (0 : Int32))), .val (.int (26 : Int32)), .val (.long (XT.ushrL q0 (0 : Int32))), .second] [(.int (i1 + (0 : Int32))), (.ref ar)]))
  have cf22 := f13
  obtain ⟨clf22, Arf22, If22, Hf22⟩ := cf22
  refine OG.of (X6.laload hx (j := (i1 + (0 : Int32))) (v := (.long q0)) (by rw [e6]; exact Arf22.1) (State.isArrayOf_alike hZ.alike Arf22.2.1) Arf22.2.2 If22 Hf22 (g := (mkF m 39 #[.val (.ref ar), .val (.int i1), .val (.ref b1), .val (.int (1 : Int32)), .val (.int (26 : Int32)), .val (.int (i1 + (0 : Int32))), .val (.int (26 : Int32)), .val (.long (XT.ushrL q0 (0 : Int32))), .second] [(.int (i1 + (0 : Int32))), (.ref ar)])) rfl rfl (hb hby dF_39)) ?_
  show OG _ _ _ _ _ _ _ (T6.setTop (mkF m 40 #[.val (.ref ar), .val (.int i1), .val (.ref b1), .val (.int (1 : Int32)), .val (.int (26 : Int32)), .val (.int (i1 + (0 : Int32))), .val (.int (26 : Int32)), .val (.long (XT.ushrL q0 (0 : Int32))), .second] [(.long q0)]))
  refine OG.of (A := T6.setTop (mkF m 47 #[.val (.ref ar), .val (.int i1), .val (.ref b1), .val (.int (1 : Int32)), .val (.int (26 : Int32)), .val (.int (i1 + (0 : Int32))), .val (.int (26 : Int32)), .val (.long (XT.ushrL q0 (26 : Int32))), .second] [(.int (26 : Int32))])) (fun oT oK => ?_) ?_
  · show Steps p.tables e below (T6.setTop (mkF m 40 #[.val (.ref ar), .val (.int i1), .val (.ref b1), .val (.int (1 : Int32)), .val (.int (26 : Int32)), .val (.int (i1 + (0 : Int32))), .val (.int (26 : Int32)), .val (.long (XT.ushrL q0 (0 : Int32))), .second] [(.long q0)])) oT
    refine XS.iload X6.here hx rfl (hb hby dF_40) rfl  ?_
    show Steps p.tables e below (T6.setTop (mkF m 42 #[.val (.ref ar), .val (.int i1), .val (.ref b1), .val (.int (1 : Int32)), .val (.int (26 : Int32)), .val (.int (i1 + (0 : Int32))), .val (.int (26 : Int32)), .val (.long (XT.ushrL q0 (0 : Int32))), .second] [(.int (26 : Int32)), (.long q0)])) _
    refine XT.lushr X6.here hx rfl (hb hby dF_42) rfl ?_
    show Steps p.tables e below (T6.setTop (mkF m 43 #[.val (.ref ar), .val (.int i1), .val (.ref b1), .val (.int (1 : Int32)), .val (.int (26 : Int32)), .val (.int (i1 + (0 : Int32))), .val (.int (26 : Int32)), .val (.long (XT.ushrL q0 (0 : Int32))), .second] [(.long (XT.ushrL q0 (26 : Int32)))])) _
    refine XT.lstore X6.here hx rfl (hb hby dF_43) rfl (l' := #[.val (.ref ar), .val (.int i1), .val (.ref b1), .val (.int (1 : Int32)), .val (.int (26 : Int32)), .val (.int (i1 + (0 : Int32))), .val (.int (26 : Int32)), .val (.long (XT.ushrL q0 (26 : Int32))), .second]) rfl ?_
    show Steps p.tables e below (T6.setTop (mkF m 45 #[.val (.ref ar), .val (.int i1), .val (.ref b1), .val (.int (1 : Int32)), .val (.int (26 : Int32)), .val (.int (i1 + (0 : Int32))), .val (.int (26 : Int32)), .val (.long (XT.ushrL q0 (26 : Int32))), .second] [])) _
    refine XS.iload X6.here hx rfl (hb hby dF_45) rfl  ?_
    exact oK
  show OG _ _ _ _ _ _ _ (T6.setTop (mkF m 47 #[.val (.ref ar), .val (.int i1), .val (.ref b1), .val (.int (1 : Int32)), .val (.int (26 : Int32)), .val (.int (i1 + (0 : Int32))), .val (.int (26 : Int32)), .val (.long (XT.ushrL q0 (26 : Int32))), .second] [(.int (26 : Int32))]))
  obtain ⟨T7, X7, e7, st7⟩ := getS2 X6 hx hZ hown (host := "") (Or.inl (hw _ (List.mem_of_getElem? (i := 7) rfl))) Via.refl e6 (SB.ext (f20).2) (g := (mkF m 47 #[.val (.ref ar), .val (.int i1), .val (.ref b1), .val (.int (1 : Int32)), .val (.int (26 : Int32)), .val (.int (i1 + (0 : Int32))), .val (.int (26 : Int32)), .val (.long (XT.ushrL q0 (26 : Int32))), .second] [(.int (26 : Int32))])) rfl (hb hby dF_47)
  refine OG.of st7 ?_
  show OG _ _ _ _ _ _ _ (T7.setTop (mkF m 50 #[.val (.ref ar), .val (.int i1), .val (.ref b1), .val (.int (1 : Int32)), .val (.int (26 : Int32)), .val (.int (i1 + (0 : Int32))), .val (.int (26 : Int32)), .val (.long (XT.ushrL q0 (26 : Int32))), .second] [(.ref wB), (.int (26 : Int32))]))
  refine OG.of (A := T7.setTop (mkF m 51 #[.val (.ref ar), .val (.int i1), .val (.ref b1), .val (.int (1 : Int32)), .val (.int (26 : Int32)), .val (.int (i1 + (0 : Int32))), .val (.int (26 : Int32)), .val (.long (XT.ushrL q0 (26 : Int32))), .second] [(.int (1 : Int32)), (.ref wB), (.int (26 : Int32))])) (fun oT oK => ?_) ?_
  · show Steps p.tables e below (T7.setTop (mkF m 50 #[.val (.ref ar), .val (.int i1), .val (.ref b1), .val (.int (1 : Int32)), .val (.int (26 : Int32)), .val (.int (i1 + (0 : Int32))), .val (.int (26 : Int32)), .val (.long (XT.ushrL q0 (26 : Int32))), .second] [(.ref wB), (.int (26 : Int32))])) oT
    refine XS.iloadN X7.here hx rfl (hb hby dF_50) rfl  ?_
    exact oK
  show OG _ _ _ _ _ _ _ (T7.setTop (mkF m 51 #[.val (.ref ar), .val (.int i1), .val (.ref b1), .val (.int (1 : Int32)), .val (.int (26 : Int32)), .val (.int (i1 + (0 : Int32))), .val (.int (26 : Int32)), .val (.long (XT.ushrL q0 (26 : Int32))), .second] [(.int (1 : Int32)), (.ref wB), (.int (26 : Int32))]))
  have cf23 := ((TB 1 (by decide)).ext (f20).2)
  obtain ⟨clf23, Arf23, If23, Hf23⟩ := cf23
  refine OG.of (X7.iaload hx (j := (1 : Int32)) (v := (.int (25 : Int32))) (by rw [e7]; exact Arf23.1) (State.isArrayOf_alike hZ.alike Arf23.2.1) Arf23.2.2 If23 Hf23 (g := (mkF m 51 #[.val (.ref ar), .val (.int i1), .val (.ref b1), .val (.int (1 : Int32)), .val (.int (26 : Int32)), .val (.int (i1 + (0 : Int32))), .val (.int (26 : Int32)), .val (.long (XT.ushrL q0 (26 : Int32))), .second] [(.int (1 : Int32)), (.ref wB), (.int (26 : Int32))])) rfl rfl (hb hby dF_51)) ?_
  show OG _ _ _ _ _ _ _ (T7.setTop (mkF m 52 #[.val (.ref ar), .val (.int i1), .val (.ref b1), .val (.int (1 : Int32)), .val (.int (26 : Int32)), .val (.int (i1 + (0 : Int32))), .val (.int (26 : Int32)), .val (.long (XT.ushrL q0 (26 : Int32))), .second] [(.int (25 : Int32)), (.int (26 : Int32))]))
  refine OG.of (A := T7.setTop (mkF m 80 #[.val (.ref ar), .val (.int i1), .val (.ref b1), .val (.int (1 : Int32)), .val (.int (26 : Int32)), .val (.int (i1 + (0 : Int32))), .val (.int (26 : Int32)), .val (.long (XT.ushrL q0 (26 : Int32))), .second] [(.long (1 : Int64)), (.long (XT.ushrL q0 (26 : Int32))), (.int (1 : Int32)), (.ref b1)])) (fun oT oK => ?_) ?_
  · show Steps p.tables e below (T7.setTop (mkF m 52 #[.val (.ref ar), .val (.int i1), .val (.ref b1), .val (.int (1 : Int32)), .val (.int (26 : Int32)), .val (.int (i1 + (0 : Int32))), .val (.int (26 : Int32)), .val (.long (XT.ushrL q0 (26 : Int32))), .second] [(.int (25 : Int32)), (.int (26 : Int32))])) oT
    refine XS.iadd X7.here hx rfl (hb hby dF_52) rfl ?_
    show Steps p.tables e below (T7.setTop (mkF m 53 #[.val (.ref ar), .val (.int i1), .val (.ref b1), .val (.int (1 : Int32)), .val (.int (26 : Int32)), .val (.int (i1 + (0 : Int32))), .val (.int (26 : Int32)), .val (.long (XT.ushrL q0 (26 : Int32))), .second] [(.int (51 : Int32))])) _
    refine XS.bipush X7.here hx rfl (hb hby dF_53) ?_
    show Steps p.tables e below (T7.setTop (mkF m 55 #[.val (.ref ar), .val (.int i1), .val (.ref b1), .val (.int (1 : Int32)), .val (.int (26 : Int32)), .val (.int (i1 + (0 : Int32))), .val (.int (26 : Int32)), .val (.long (XT.ushrL q0 (26 : Int32))), .second] [(.int (64 : Int32)), (.int (51 : Int32))])) _
    refine XS.icmpYes X7.here hx rfl (pc0 := 55) (pc' := 75) rfl (hb hby dF_55) rfl (XT.ii_le_t (by decide)) (by decide) (by decide) ?_
    show Steps p.tables e below (T7.setTop (mkF m 75 #[.val (.ref ar), .val (.int i1), .val (.ref b1), .val (.int (1 : Int32)), .val (.int (26 : Int32)), .val (.int (i1 + (0 : Int32))), .val (.int (26 : Int32)), .val (.long (XT.ushrL q0 (26 : Int32))), .second] [])) _
    refine XS.aloadN X7.here hx rfl (hb hby dF_75) rfl rfl  ?_
    show Steps p.tables e below (T7.setTop (mkF m 76 #[.val (.ref ar), .val (.int i1), .val (.ref b1), .val (.int (1 : Int32)), .val (.int (26 : Int32)), .val (.int (i1 + (0 : Int32))), .val (.int (26 : Int32)), .val (.long (XT.ushrL q0 (26 : Int32))), .second] [(.ref b1)])) _
    refine XS.iloadN X7.here hx rfl (hb hby dF_76) rfl  ?_
    show Steps p.tables e below (T7.setTop (mkF m 77 #[.val (.ref ar), .val (.int i1), .val (.ref b1), .val (.int (1 : Int32)), .val (.int (26 : Int32)), .val (.int (i1 + (0 : Int32))), .val (.int (26 : Int32)), .val (.long (XT.ushrL q0 (26 : Int32))), .second] [(.int (1 : Int32)), (.ref b1)])) _
    refine XT.lload X7.here hx rfl (hb hby dF_77) rfl  ?_
    show Steps p.tables e below (T7.setTop (mkF m 79 #[.val (.ref ar), .val (.int i1), .val (.ref b1), .val (.int (1 : Int32)), .val (.int (26 : Int32)), .val (.int (i1 + (0 : Int32))), .val (.int (26 : Int32)), .val (.long (XT.ushrL q0 (26 : Int32))), .second] [(.long (XT.ushrL q0 (26 : Int32))), (.int (1 : Int32)), (.ref b1)])) _
    refine XT.lconst X7.here hx rfl (hb hby dF_79) ?_
    exact oK
  show OG _ _ _ _ _ _ _ (T7.setTop (mkF m 80 #[.val (.ref ar), .val (.int i1), .val (.ref b1), .val (.int (1 : Int32)), .val (.int (26 : Int32)), .val (.int (i1 + (0 : Int32))), .val (.int (26 : Int32)), .val (.long (XT.ushrL q0 (26 : Int32))), .second] [(.long (1 : Int64)), (.long (XT.ushrL q0 (26 : Int32))), (.int (1 : Int32)), (.ref b1)]))
  obtain ⟨T8, X8, e8, st8⟩ := getS2 X7 hx hZ hown (host := "") (Or.inl (hw _ (List.mem_of_getElem? (i := 7) rfl))) Via.refl e7 (SB.ext (f20).2) (g := (mkF m 80 #[.val (.ref ar), .val (.int i1), .val (.ref b1), .val (.int (1 : Int32)), .val (.int (26 : Int32)), .val (.int (i1 + (0 : Int32))), .val (.int (26 : Int32)), .val (.long (XT.ushrL q0 (26 : Int32))), .second] [(.long (1 : Int64)), (.long (XT.ushrL q0 (26 : Int32))), (.int (1 : Int32)), (.ref b1)])) rfl (hb hby dF_80)
  refine OG.of st8 ?_
  show OG _ _ _ _ _ _ _ (T8.setTop (mkF m 83 #[.val (.ref ar), .val (.int i1), .val (.ref b1), .val (.int (1 : Int32)), .val (.int (26 : Int32)), .val (.int (i1 + (0 : Int32))), .val (.int (26 : Int32)), .val (.long (XT.ushrL q0 (26 : Int32))), .second] [(.ref wB), (.long (1 : Int64)), (.long (XT.ushrL q0 (26 : Int32))), (.int (1 : Int32)), (.ref b1)]))
  refine OG.of (A := T8.setTop (mkF m 84 #[.val (.ref ar), .val (.int i1), .val (.ref b1), .val (.int (1 : Int32)), .val (.int (26 : Int32)), .val (.int (i1 + (0 : Int32))), .val (.int (26 : Int32)), .val (.long (XT.ushrL q0 (26 : Int32))), .second] [(.int (1 : Int32)), (.ref wB), (.long (1 : Int64)), (.long (XT.ushrL q0 (26 : Int32))), (.int (1 : Int32)), (.ref b1)])) (fun oT oK => ?_) ?_
  · show Steps p.tables e below (T8.setTop (mkF m 83 #[.val (.ref ar), .val (.int i1), .val (.ref b1), .val (.int (1 : Int32)), .val (.int (26 : Int32)), .val (.int (i1 + (0 : Int32))), .val (.int (26 : Int32)), .val (.long (XT.ushrL q0 (26 : Int32))), .second] [(.ref wB), (.long (1 : Int64)), (.long (XT.ushrL q0 (26 : Int32))), (.int (1 : Int32)), (.ref b1)])) oT
    refine XS.iloadN X8.here hx rfl (hb hby dF_83) rfl  ?_
    exact oK
  show OG _ _ _ _ _ _ _ (T8.setTop (mkF m 84 #[.val (.ref ar), .val (.int i1), .val (.ref b1), .val (.int (1 : Int32)), .val (.int (26 : Int32)), .val (.int (i1 + (0 : Int32))), .val (.int (26 : Int32)), .val (.long (XT.ushrL q0 (26 : Int32))), .second] [(.int (1 : Int32)), (.ref wB), (.long (1 : Int64)), (.long (XT.ushrL q0 (26 : Int32))), (.int (1 : Int32)), (.ref b1)]))
  have cf24 := ((TB 1 (by decide)).ext (f20).2)
  obtain ⟨clf24, Arf24, If24, Hf24⟩ := cf24
  refine OG.of (X8.iaload hx (j := (1 : Int32)) (v := (.int (25 : Int32))) (by rw [e8]; exact Arf24.1) (State.isArrayOf_alike hZ.alike Arf24.2.1) Arf24.2.2 If24 Hf24 (g := (mkF m 84 #[.val (.ref ar), .val (.int i1), .val (.ref b1), .val (.int (1 : Int32)), .val (.int (26 : Int32)), .val (.int (i1 + (0 : Int32))), .val (.int (26 : Int32)), .val (.long (XT.ushrL q0 (26 : Int32))), .second] [(.int (1 : Int32)), (.ref wB), (.long (1 : Int64)), (.long (XT.ushrL q0 (26 : Int32))), (.int (1 : Int32)), (.ref b1)])) rfl rfl (hb hby dF_84)) ?_
  show OG _ _ _ _ _ _ _ (T8.setTop (mkF m 85 #[.val (.ref ar), .val (.int i1), .val (.ref b1), .val (.int (1 : Int32)), .val (.int (26 : Int32)), .val (.int (i1 + (0 : Int32))), .val (.int (26 : Int32)), .val (.long (XT.ushrL q0 (26 : Int32))), .second] [(.int (25 : Int32)), (.long (1 : Int64)), (.long (XT.ushrL q0 (26 : Int32))), (.int (1 : Int32)), (.ref b1)]))
  refine OG.of (A := T8.setTop (mkF m 89 #[.val (.ref ar), .val (.int i1), .val (.ref b1), .val (.int (1 : Int32)), .val (.int (26 : Int32)), .val (.int (i1 + (0 : Int32))), .val (.int (26 : Int32)), .val (.long (XT.ushrL q0 (26 : Int32))), .second] [(.long ((XT.ushrL q0 (26 : Int32)) &&& (((1 : Int64) <<< ((25 : Int32).toInt64 &&& 63)) - (1 : Int64)))), (.int (1 : Int32)), (.ref b1)])) (fun oT oK => ?_) ?_
  · show Steps p.tables e below (T8.setTop (mkF m 85 #[.val (.ref ar), .val (.int i1), .val (.ref b1), .val (.int (1 : Int32)), .val (.int (26 : Int32)), .val (.int (i1 + (0 : Int32))), .val (.int (26 : Int32)), .val (.long (XT.ushrL q0 (26 : Int32))), .second] [(.int (25 : Int32)), (.long (1 : Int64)), (.long (XT.ushrL q0 (26 : Int32))), (.int (1 : Int32)), (.ref b1)])) oT
    refine XT.lshl X8.here hx rfl (hb hby dF_85) rfl ?_
    show Steps p.tables e below (T8.setTop (mkF m 86 #[.val (.ref ar), .val (.int i1), .val (.ref b1), .val (.int (1 : Int32)), .val (.int (26 : Int32)), .val (.int (i1 + (0 : Int32))), .val (.int (26 : Int32)), .val (.long (XT.ushrL q0 (26 : Int32))), .second] [(.long ((1 : Int64) <<< ((25 : Int32).toInt64 &&& 63))), (.long (XT.ushrL q0 (26 : Int32))), (.int (1 : Int32)), (.ref b1)])) _
    refine XT.lconst X8.here hx rfl (hb hby dF_86) ?_
    show Steps p.tables e below (T8.setTop (mkF m 87 #[.val (.ref ar), .val (.int i1), .val (.ref b1), .val (.int (1 : Int32)), .val (.int (26 : Int32)), .val (.int (i1 + (0 : Int32))), .val (.int (26 : Int32)), .val (.long (XT.ushrL q0 (26 : Int32))), .second] [(.long (1 : Int64)), (.long ((1 : Int64) <<< ((25 : Int32).toInt64 &&& 63))), (.long (XT.ushrL q0 (26 : Int32))), (.int (1 : Int32)), (.ref b1)])) _
    refine XT.lsub X8.here hx rfl (hb hby dF_87) rfl ?_
    show Steps p.tables e below (T8.setTop (mkF m 88 #[.val (.ref ar), .val (.int i1), .val (.ref b1), .val (.int (1 : Int32)), .val (.int (26 : Int32)), .val (.int (i1 + (0 : Int32))), .val (.int (26 : Int32)), .val (.long (XT.ushrL q0 (26 : Int32))), .second] [(.long (((1 : Int64) <<< ((25 : Int32).toInt64 &&& 63)) - (1 : Int64))), (.long (XT.ushrL q0 (26 : Int32))), (.int (1 : Int32)), (.ref b1)])) _
    refine XT.land X8.here hx rfl (hb hby dF_88) rfl ?_
    exact oK
  show OG _ _ _ _ _ _ _ (T8.setTop (mkF m 89 #[.val (.ref ar), .val (.int i1), .val (.ref b1), .val (.int (1 : Int32)), .val (.int (26 : Int32)), .val (.int (i1 + (0 : Int32))), .val (.int (26 : Int32)), .val (.long (XT.ushrL q0 (26 : Int32))), .second] [(.long ((XT.ushrL q0 (26 : Int32)) &&& (((1 : Int64) <<< ((25 : Int32).toInt64 &&& 63)) - (1 : Int64)))), (.int (1 : Int32)), (.ref b1)]))
  show OG _ _ _ _ _ _ _ (T8.setTop (mkF m 89 #[.val (.ref ar), .val (.int i1), .val (.ref b1), .val (.int (1 : Int32)), .val (.int (26 : Int32)), .val (.int (i1 + (0 : Int32))), .val (.int (26 : Int32)), .val (.long (XT.ushrL q0 (26 : Int32))), .second] [(.long (own_l1 q0 q1 q2 q3)), (.int (1 : Int32)), (.ref b1)]))
  have cf25 := V5
  obtain ⟨clf25, Arf25, qf25, Sf25, Mf25, Hf25, Gf25⟩ := cf25
  obtain ⟨T9, h9, X9, e9, W9, st9⟩ := stJ X8 hx hZ e8 Arf25 (j := (1 : Int32)) (inb_of Sf25 ⟨by decide, by decide⟩) (g := (mkF m 89 #[.val (.ref ar), .val (.int i1), .val (.ref b1), .val (.int (1 : Int32)), .val (.int (26 : Int32)), .val (.int (i1 + (0 : Int32))), .val (.int (26 : Int32)), .val (.long (XT.ushrL q0 (26 : Int32))), .second] [(.long (own_l1 q0 q1 q2 q3)), (.int (1 : Int32)), (.ref b1)])) rfl rfl (hb hby dF_89)
  have f26 := (f13).other W9 ne_ar_b1
  have f27 := (f14).other W9 ne_ar_b1
  have f28 := (f15).other W9 ne_ar_b1
  have f29 := (f16).other W9 ne_ar_b1
  have f30 := (f17).other W9 ne_ar_b1
  have f31 := (f18).other W9 ne_ar_b1
  have V9 : Arv Z h9 b1 kc1 .long (10 : Int32) [(.long (own_l0 q0 q1 q2 q3)), (.long (own_l1 q0 q1 q2 q3)), (.long (0 : Int64)), (.long (0 : Int64)), (.long (0 : Int64)), (.long (0 : Int64)), (.long (0 : Int64)), (.long (0 : Int64)), (.long (0 : Int64)), (.long (0 : Int64))] (.long (0 : Int64)) := Arv.set Arf25 qf25 Sf25 Mf25 Hf25 Gf25 rfl W9 1 rfl (Nat.le_of_ble_eq_true rfl)
  have f33 := (f20).wr W9 gn_b1
  have K9 : Keep h0 h9 [] := (K5).wr W9 (Or.inr sz_b1)
  have Z9 : n0 ≤ h9.size := Nat.le_trans Z5 (Keep.of_wr W9).1
  have N9 := Fr.snoc X9 N5 gn_b1
  refine OG.of st9 ?_
  show OG _ _ _ _ _ _ _ (T9.setTop (mkF m 90 #[.val (.ref ar), .val (.int i1), .val (.ref b1), .val (.int (1 : Int32)), .val (.int (26 : Int32)), .val (.int (i1 + (0 : Int32))), .val (.int (26 : Int32)), .val (.long (XT.ushrL q0 (26 : Int32))), .second] []))
  refine OG.of (A := T9.setTop (mkF m 13 #[.val (.ref ar), .val (.int i1), .val (.ref b1), .val (.int (2 : Int32)), .val (.int (26 : Int32)), .val (.int (i1 + (0 : Int32))), .val (.int (26 : Int32)), .val (.long (XT.ushrL q0 (26 : Int32))), .second] [])) (fun oT oK => ?_) ?_
  · show Steps p.tables e below (T9.setTop (mkF m 90 #[.val (.ref ar), .val (.int i1), .val (.ref b1), .val (.int (1 : Int32)), .val (.int (26 : Int32)), .val (.int (i1 + (0 : Int32))), .val (.int (26 : Int32)), .val (.long (XT.ushrL q0 (26 : Int32))), .second] [])) oT
    refine XS.iinc X9.here hx rfl (hb hby dF_90) rfl (l' := #[.val (.ref ar), .val (.int i1), .val (.ref b1), .val (.int (2 : Int32)), .val (.int (26 : Int32)), .val (.int (i1 + (0 : Int32))), .val (.int (26 : Int32)), .val (.long (XT.ushrL q0 (26 : Int32))), .second]) rfl ?_
    show Steps p.tables e below (T9.setTop (mkF m 93 #[.val (.ref ar), .val (.int i1), .val (.ref b1), .val (.int (2 : Int32)), .val (.int (26 : Int32)), .val (.int (i1 + (0 : Int32))), .val (.int (26 : Int32)), .val (.long (XT.ushrL q0 (26 : Int32))), .second] [])) _
    refine XS.goto X9.here hx rfl (pc0 := 93) (pc' := 7) rfl (hb hby dF_93) (by decide) (by decide) ?_
    show Steps p.tables e below (T9.setTop (mkF m 7 #[.val (.ref ar), .val (.int i1), .val (.ref b1), .val (.int (2 : Int32)), .val (.int (26 : Int32)), .val (.int (i1 + (0 : Int32))), .val (.int (26 : Int32)), .val (.long (XT.ushrL q0 (26 : Int32))), .second] [])) _
    refine XS.iloadN X9.here hx rfl (hb hby dF_7) rfl  ?_
    show Steps p.tables e below (T9.setTop (mkF m 8 #[.val (.ref ar), .val (.int i1), .val (.ref b1), .val (.int (2 : Int32)), .val (.int (26 : Int32)), .val (.int (i1 + (0 : Int32))), .val (.int (26 : Int32)), .val (.long (XT.ushrL q0 (26 : Int32))), .second] [(.int (2 : Int32))])) _
    refine XS.bipush X9.here hx rfl (hb hby dF_8) ?_
    show Steps p.tables e below (T9.setTop (mkF m 10 #[.val (.ref ar), .val (.int i1), .val (.ref b1), .val (.int (2 : Int32)), .val (.int (26 : Int32)), .val (.int (i1 + (0 : Int32))), .val (.int (26 : Int32)), .val (.long (XT.ushrL q0 (26 : Int32))), .second] [(.int (10 : Int32)), (.int (2 : Int32))])) _
    refine XS.icmpNo X9.here hx rfl (hb hby dF_10) rfl (XT.ii_ge_f (by decide)) ?_
    exact oK
  show OG _ _ _ _ _ _ _ (T9.setTop (mkF m 13 #[.val (.ref ar), .val (.int i1), .val (.ref b1), .val (.int (2 : Int32)), .val (.int (26 : Int32)), .val (.int (i1 + (0 : Int32))), .val (.int (26 : Int32)), .val (.long (XT.ushrL q0 (26 : Int32))), .second] []))
  obtain ⟨T10, X10, e10, st10⟩ := getS2 X9 hx hZ hown (host := "") (Or.inl (hw _ (List.mem_of_getElem? (i := 5) rfl))) Via.refl e9 (SP.ext (f33).2) (g := (mkF m 13 #[.val (.ref ar), .val (.int i1), .val (.ref b1), .val (.int (2 : Int32)), .val (.int (26 : Int32)), .val (.int (i1 + (0 : Int32))), .val (.int (26 : Int32)), .val (.long (XT.ushrL q0 (26 : Int32))), .second] [])) rfl (hb hby dF_13)
  refine OG.of st10 ?_
  show OG _ _ _ _ _ _ _ (T10.setTop (mkF m 16 #[.val (.ref ar), .val (.int i1), .val (.ref b1), .val (.int (2 : Int32)), .val (.int (26 : Int32)), .val (.int (i1 + (0 : Int32))), .val (.int (26 : Int32)), .val (.long (XT.ushrL q0 (26 : Int32))), .second] [(.ref wP)]))
  refine OG.of (A := T10.setTop (mkF m 17 #[.val (.ref ar), .val (.int i1), .val (.ref b1), .val (.int (2 : Int32)), .val (.int (26 : Int32)), .val (.int (i1 + (0 : Int32))), .val (.int (26 : Int32)), .val (.long (XT.ushrL q0 (26 : Int32))), .second] [(.int (2 : Int32)), (.ref wP)])) (fun oT oK => ?_) ?_
  · show Steps p.tables e below (T10.setTop (mkF m 16 #[.val (.ref ar), .val (.int i1), .val (.ref b1), .val (.int (2 : Int32)), .val (.int (26 : Int32)), .val (.int (i1 + (0 : Int32))), .val (.int (26 : Int32)), .val (.long (XT.ushrL q0 (26 : Int32))), .second] [(.ref wP)])) oT
    refine XS.iloadN X10.here hx rfl (hb hby dF_16) rfl  ?_
    exact oK
  show OG _ _ _ _ _ _ _ (T10.setTop (mkF m 17 #[.val (.ref ar), .val (.int i1), .val (.ref b1), .val (.int (2 : Int32)), .val (.int (26 : Int32)), .val (.int (i1 + (0 : Int32))), .val (.int (26 : Int32)), .val (.long (XT.ushrL q0 (26 : Int32))), .second] [(.int (2 : Int32)), (.ref wP)]))
  have cf34 := ((TP 2 (by decide)).ext (f33).2)
  obtain ⟨clf34, Arf34, If34, Hf34⟩ := cf34
  refine OG.of (X10.iaload hx (j := (2 : Int32)) (v := (.int (51 : Int32))) (by rw [e10]; exact Arf34.1) (State.isArrayOf_alike hZ.alike Arf34.2.1) Arf34.2.2 If34 Hf34 (g := (mkF m 17 #[.val (.ref ar), .val (.int i1), .val (.ref b1), .val (.int (2 : Int32)), .val (.int (26 : Int32)), .val (.int (i1 + (0 : Int32))), .val (.int (26 : Int32)), .val (.long (XT.ushrL q0 (26 : Int32))), .second] [(.int (2 : Int32)), (.ref wP)])) rfl rfl (hb hby dF_17)) ?_
  show OG _ _ _ _ _ _ _ (T10.setTop (mkF m 18 #[.val (.ref ar), .val (.int i1), .val (.ref b1), .val (.int (2 : Int32)), .val (.int (26 : Int32)), .val (.int (i1 + (0 : Int32))), .val (.int (26 : Int32)), .val (.long (XT.ushrL q0 (26 : Int32))), .second] [(.int (51 : Int32))]))
  refine OG.of (A := T10.setTop (mkF m 39 #[.val (.ref ar), .val (.int i1), .val (.ref b1), .val (.int (2 : Int32)), .val (.int (51 : Int32)), .val (.int (i1 + (0 : Int32))), .val (.int (51 : Int32)), .val (.long (XT.ushrL q0 (26 : Int32))), .second] [(.int (i1 + (0 : Int32))), (.ref ar)])) (fun oT oK => ?_) ?_
  · show Steps p.tables e below (T10.setTop (mkF m 18 #[.val (.ref ar), .val (.int i1), .val (.ref b1), .val (.int (2 : Int32)), .val (.int (26 : Int32)), .val (.int (i1 + (0 : Int32))), .val (.int (26 : Int32)), .val (.long (XT.ushrL q0 (26 : Int32))), .second] [(.int (51 : Int32))])) oT
    refine XS.istore X10.here hx rfl (hb hby dF_18) rfl (l' := #[.val (.ref ar), .val (.int i1), .val (.ref b1), .val (.int (2 : Int32)), .val (.int (51 : Int32)), .val (.int (i1 + (0 : Int32))), .val (.int (26 : Int32)), .val (.long (XT.ushrL q0 (26 : Int32))), .second]) rfl ?_
    show Steps p.tables e below (T10.setTop (mkF m 20 #[.val (.ref ar), .val (.int i1), .val (.ref b1), .val (.int (2 : Int32)), .val (.int (51 : Int32)), .val (.int (i1 + (0 : Int32))), .val (.int (26 : Int32)), .val (.long (XT.ushrL q0 (26 : Int32))), .second] [])) _
    refine XS.iloadN X10.here hx rfl (hb hby dF_20) rfl  ?_
    show Steps p.tables e below (T10.setTop (mkF m 21 #[.val (.ref ar), .val (.int i1), .val (.ref b1), .val (.int (2 : Int32)), .val (.int (51 : Int32)), .val (.int (i1 + (0 : Int32))), .val (.int (26 : Int32)), .val (.long (XT.ushrL q0 (26 : Int32))), .second] [(.int i1)])) _
    refine XS.iload X10.here hx rfl (hb hby dF_21) rfl  ?_
    show Steps p.tables e below (T10.setTop (mkF m 23 #[.val (.ref ar), .val (.int i1), .val (.ref b1), .val (.int (2 : Int32)), .val (.int (51 : Int32)), .val (.int (i1 + (0 : Int32))), .val (.int (26 : Int32)), .val (.long (XT.ushrL q0 (26 : Int32))), .second] [(.int (51 : Int32)), (.int i1)])) _
    refine XS.bipush X10.here hx rfl (hb hby dF_23) ?_
    show Steps p.tables e below (T10.setTop (mkF m 25 #[.val (.ref ar), .val (.int i1), .val (.ref b1), .val (.int (2 : Int32)), .val (.int (51 : Int32)), .val (.int (i1 + (0 : Int32))), .val (.int (26 : Int32)), .val (.long (XT.ushrL q0 (26 : Int32))), .second] [(.int (64 : Int32)), (.int (51 : Int32)), (.int i1)])) _
    refine XS.idiv X10.here hx rfl (hb hby dF_25) rfl (by decide) ?_
    show Steps p.tables e below (T10.setTop (mkF m 26 #[.val (.ref ar), .val (.int i1), .val (.ref b1), .val (.int (2 : Int32)), .val (.int (51 : Int32)), .val (.int (i1 + (0 : Int32))), .val (.int (26 : Int32)), .val (.long (XT.ushrL q0 (26 : Int32))), .second] [(.int (0 : Int32)), (.int i1)])) _
    refine XS.iadd X10.here hx rfl (hb hby dF_26) rfl ?_
    show Steps p.tables e below (T10.setTop (mkF m 27 #[.val (.ref ar), .val (.int i1), .val (.ref b1), .val (.int (2 : Int32)), .val (.int (51 : Int32)), .val (.int (i1 + (0 : Int32))), .val (.int (26 : Int32)), .val (.long (XT.ushrL q0 (26 : Int32))), .second] [(.int (i1 + (0 : Int32)))])) _
    refine XS.istore X10.here hx rfl (hb hby dF_27) rfl (l' := #[.val (.ref ar), .val (.int i1), .val (.ref b1), .val (.int (2 : Int32)), .val (.int (51 : Int32)), .val (.int (i1 + (0 : Int32))), .val (.int (26 : Int32)), .val (.long (XT.ushrL q0 (26 : Int32))), .second]) rfl ?_
    show Steps p.tables e below (T10.setTop (mkF m 29 #[.val (.ref ar), .val (.int i1), .val (.ref b1), .val (.int (2 : Int32)), .val (.int (51 : Int32)), .val (.int (i1 + (0 : Int32))), .val (.int (26 : Int32)), .val (.long (XT.ushrL q0 (26 : Int32))), .second] [])) _
    refine XS.iload X10.here hx rfl (hb hby dF_29) rfl  ?_
    show Steps p.tables e below (T10.setTop (mkF m 31 #[.val (.ref ar), .val (.int i1), .val (.ref b1), .val (.int (2 : Int32)), .val (.int (51 : Int32)), .val (.int (i1 + (0 : Int32))), .val (.int (26 : Int32)), .val (.long (XT.ushrL q0 (26 : Int32))), .second] [(.int (51 : Int32))])) _
    refine XS.bipush X10.here hx rfl (hb hby dF_31) ?_
    show Steps p.tables e below (T10.setTop (mkF m 33 #[.val (.ref ar), .val (.int i1), .val (.ref b1), .val (.int (2 : Int32)), .val (.int (51 : Int32)), .val (.int (i1 + (0 : Int32))), .val (.int (26 : Int32)), .val (.long (XT.ushrL q0 (26 : Int32))), .second] [(.int (64 : Int32)), (.int (51 : Int32))])) _
    refine Jvm.RoadKit.iremM X10 hx rfl (hb hby dF_33) rfl (by decide) ?_
    show Steps p.tables e below (T10.setTop (mkF m 34 #[.val (.ref ar), .val (.int i1), .val (.ref b1), .val (.int (2 : Int32)), .val (.int (51 : Int32)), .val (.int (i1 + (0 : Int32))), .val (.int (26 : Int32)), .val (.long (XT.ushrL q0 (26 : Int32))), .second] [(.int (51 : Int32))])) _
    refine XS.istore X10.here hx rfl (hb hby dF_34) rfl (l' := #[.val (.ref ar), .val (.int i1), .val (.ref b1), .val (.int (2 : Int32)), .val (.int (51 : Int32)), .val (.int (i1 + (0 : Int32))), .val (.int (51 : Int32)), .val (.long (XT.ushrL q0 (26 : Int32))), .second]) rfl ?_
    show Steps p.tables e below (T10.setTop (mkF m 36 #[.val (.ref ar), .val (.int i1), .val (.ref b1), .val (.int (2 : Int32)), .val (.int (51 : Int32)), .val (.int (i1 + (0 : Int32))), .val (.int (51 : Int32)), .val (.long (XT.ushrL q0 (26 : Int32))), .second] [])) _
    refine XS.aloadN X10.here hx rfl (hb hby dF_36) rfl rfl  ?_
    show Steps p.tables e below (T10.setTop (mkF m 37 #[.val (.ref ar), .val (.int i1), .val (.ref b1), .val (.int (2 : Int32)), .val (.int (51 : Int32)), .val (.int (i1 + (0 : Int32))), .val (.int (51 : Int32)), .val (.long (XT.ushrL q0 (26 : Int32))), .second] [(.ref ar)])) _
    refine XS.iload X10.here hx rfl (hb hby dF_37) rfl  ?_
    exact oK
  show OG _ _ _ _ _ _ _ (T10.setTop (mkF m 39 #[.val (.ref ar), .val (.int i1), .val (.ref b1), .val (.int (2 : Int32)), .val (.int (51 : Int32)), .val (.int (i1 + (0 : Int32))), .val (.int (51 : Int32)), .val (.long (XT.ushrL q0 (26 : Int32))), .second] [(.int (i1 + (0 : Int32))), (.ref ar)]))
  have cf35 := f26
  obtain ⟨clf35, Arf35, If35, Hf35⟩ := cf35
  refine OG.of (X10.laload hx (j := (i1 + (0 : Int32))) (v := (.long q0)) (by rw [e10]; exact Arf35.1) (State.isArrayOf_alike hZ.alike Arf35.2.1) Arf35.2.2 If35 Hf35 (g := (mkF m 39 #[.val (.ref ar), .val (.int i1), .val (.ref b1), .val (.int (2 : Int32)), .val (.int (51 : Int32)), .val (.int (i1 + (0 : Int32))), .val (.int (51 : Int32)), .val (.long (XT.ushrL q0 (26 : Int32))), .second] [(.int (i1 + (0 : Int32))), (.ref ar)])) rfl rfl (hb hby dF_39)) ?_
  show OG _ _ _ _ _ _ _ (T10.setTop (mkF m 40 #[.val (.ref ar), .val (.int i1), .val (.ref b1), .val (.int (2 : Int32)), .val (.int (51 : Int32)), .val (.int (i1 + (0 : Int32))), .val (.int (51 : Int32)), .val (.long (XT.ushrL q0 (26 : Int32))), .second] [(.long q0)]))
  refine OG.of (A := T10.setTop (mkF m 47 #[.val (.ref ar), .val (.int i1), .val (.ref b1), .val (.int (2 : Int32)), .val (.int (51 : Int32)), .val (.int (i1 + (0 : Int32))), .val (.int (51 : Int32)), .val (.long (XT.ushrL q0 (51 : Int32))), .second] [(.int (51 : Int32))])) (fun oT oK => ?_) ?_
  · show Steps p.tables e below (T10.setTop (mkF m 40 #[.val (.ref ar), .val (.int i1), .val (.ref b1), .val (.int (2 : Int32)), .val (.int (51 : Int32)), .val (.int (i1 + (0 : Int32))), .val (.int (51 : Int32)), .val (.long (XT.ushrL q0 (26 : Int32))), .second] [(.long q0)])) oT
    refine XS.iload X10.here hx rfl (hb hby dF_40) rfl  ?_
    show Steps p.tables e below (T10.setTop (mkF m 42 #[.val (.ref ar), .val (.int i1), .val (.ref b1), .val (.int (2 : Int32)), .val (.int (51 : Int32)), .val (.int (i1 + (0 : Int32))), .val (.int (51 : Int32)), .val (.long (XT.ushrL q0 (26 : Int32))), .second] [(.int (51 : Int32)), (.long q0)])) _
    refine XT.lushr X10.here hx rfl (hb hby dF_42) rfl ?_
    show Steps p.tables e below (T10.setTop (mkF m 43 #[.val (.ref ar), .val (.int i1), .val (.ref b1), .val (.int (2 : Int32)), .val (.int (51 : Int32)), .val (.int (i1 + (0 : Int32))), .val (.int (51 : Int32)), .val (.long (XT.ushrL q0 (26 : Int32))), .second] [(.long (XT.ushrL q0 (51 : Int32)))])) _
    refine XT.lstore X10.here hx rfl (hb hby dF_43) rfl (l' := #[.val (.ref ar), .val (.int i1), .val (.ref b1), .val (.int (2 : Int32)), .val (.int (51 : Int32)), .val (.int (i1 + (0 : Int32))), .val (.int (51 : Int32)), .val (.long (XT.ushrL q0 (51 : Int32))), .second]) rfl ?_
    show Steps p.tables e below (T10.setTop (mkF m 45 #[.val (.ref ar), .val (.int i1), .val (.ref b1), .val (.int (2 : Int32)), .val (.int (51 : Int32)), .val (.int (i1 + (0 : Int32))), .val (.int (51 : Int32)), .val (.long (XT.ushrL q0 (51 : Int32))), .second] [])) _
    refine XS.iload X10.here hx rfl (hb hby dF_45) rfl  ?_
    exact oK
  show OG _ _ _ _ _ _ _ (T10.setTop (mkF m 47 #[.val (.ref ar), .val (.int i1), .val (.ref b1), .val (.int (2 : Int32)), .val (.int (51 : Int32)), .val (.int (i1 + (0 : Int32))), .val (.int (51 : Int32)), .val (.long (XT.ushrL q0 (51 : Int32))), .second] [(.int (51 : Int32))]))
  obtain ⟨T11, X11, e11, st11⟩ := getS2 X10 hx hZ hown (host := "") (Or.inl (hw _ (List.mem_of_getElem? (i := 7) rfl))) Via.refl e10 (SB.ext (f33).2) (g := (mkF m 47 #[.val (.ref ar), .val (.int i1), .val (.ref b1), .val (.int (2 : Int32)), .val (.int (51 : Int32)), .val (.int (i1 + (0 : Int32))), .val (.int (51 : Int32)), .val (.long (XT.ushrL q0 (51 : Int32))), .second] [(.int (51 : Int32))])) rfl (hb hby dF_47)
  refine OG.of st11 ?_
  show OG _ _ _ _ _ _ _ (T11.setTop (mkF m 50 #[.val (.ref ar), .val (.int i1), .val (.ref b1), .val (.int (2 : Int32)), .val (.int (51 : Int32)), .val (.int (i1 + (0 : Int32))), .val (.int (51 : Int32)), .val (.long (XT.ushrL q0 (51 : Int32))), .second] [(.ref wB), (.int (51 : Int32))]))
  refine OG.of (A := T11.setTop (mkF m 51 #[.val (.ref ar), .val (.int i1), .val (.ref b1), .val (.int (2 : Int32)), .val (.int (51 : Int32)), .val (.int (i1 + (0 : Int32))), .val (.int (51 : Int32)), .val (.long (XT.ushrL q0 (51 : Int32))), .second] [(.int (2 : Int32)), (.ref wB), (.int (51 : Int32))])) (fun oT oK => ?_) ?_
  · show Steps p.tables e below (T11.setTop (mkF m 50 #[.val (.ref ar), .val (.int i1), .val (.ref b1), .val (.int (2 : Int32)), .val (.int (51 : Int32)), .val (.int (i1 + (0 : Int32))), .val (.int (51 : Int32)), .val (.long (XT.ushrL q0 (51 : Int32))), .second] [(.ref wB), (.int (51 : Int32))])) oT
    refine XS.iloadN X11.here hx rfl (hb hby dF_50) rfl  ?_
    exact oK
  show OG _ _ _ _ _ _ _ (T11.setTop (mkF m 51 #[.val (.ref ar), .val (.int i1), .val (.ref b1), .val (.int (2 : Int32)), .val (.int (51 : Int32)), .val (.int (i1 + (0 : Int32))), .val (.int (51 : Int32)), .val (.long (XT.ushrL q0 (51 : Int32))), .second] [(.int (2 : Int32)), (.ref wB), (.int (51 : Int32))]))
  have cf36 := ((TB 2 (by decide)).ext (f33).2)
  obtain ⟨clf36, Arf36, If36, Hf36⟩ := cf36
  refine OG.of (X11.iaload hx (j := (2 : Int32)) (v := (.int (26 : Int32))) (by rw [e11]; exact Arf36.1) (State.isArrayOf_alike hZ.alike Arf36.2.1) Arf36.2.2 If36 Hf36 (g := (mkF m 51 #[.val (.ref ar), .val (.int i1), .val (.ref b1), .val (.int (2 : Int32)), .val (.int (51 : Int32)), .val (.int (i1 + (0 : Int32))), .val (.int (51 : Int32)), .val (.long (XT.ushrL q0 (51 : Int32))), .second] [(.int (2 : Int32)), (.ref wB), (.int (51 : Int32))])) rfl rfl (hb hby dF_51)) ?_
  show OG _ _ _ _ _ _ _ (T11.setTop (mkF m 52 #[.val (.ref ar), .val (.int i1), .val (.ref b1), .val (.int (2 : Int32)), .val (.int (51 : Int32)), .val (.int (i1 + (0 : Int32))), .val (.int (51 : Int32)), .val (.long (XT.ushrL q0 (51 : Int32))), .second] [(.int (26 : Int32)), (.int (51 : Int32))]))
  refine OG.of (A := T11.setTop (mkF m 65 #[.val (.ref ar), .val (.int i1), .val (.ref b1), .val (.int (2 : Int32)), .val (.int (51 : Int32)), .val (.int (i1 + (0 : Int32))), .val (.int (51 : Int32)), .val (.long (XT.ushrL q0 (51 : Int32))), .second] [(.int ((i1 + (0 : Int32)) + (1 : Int32))), (.ref ar), (.long (XT.ushrL q0 (51 : Int32)))])) (fun oT oK => ?_) ?_
  · show Steps p.tables e below (T11.setTop (mkF m 52 #[.val (.ref ar), .val (.int i1), .val (.ref b1), .val (.int (2 : Int32)), .val (.int (51 : Int32)), .val (.int (i1 + (0 : Int32))), .val (.int (51 : Int32)), .val (.long (XT.ushrL q0 (51 : Int32))), .second] [(.int (26 : Int32)), (.int (51 : Int32))])) oT
    refine XS.iadd X11.here hx rfl (hb hby dF_52) rfl ?_
    show Steps p.tables e below (T11.setTop (mkF m 53 #[.val (.ref ar), .val (.int i1), .val (.ref b1), .val (.int (2 : Int32)), .val (.int (51 : Int32)), .val (.int (i1 + (0 : Int32))), .val (.int (51 : Int32)), .val (.long (XT.ushrL q0 (51 : Int32))), .second] [(.int (77 : Int32))])) _
    refine XS.bipush X11.here hx rfl (hb hby dF_53) ?_
    show Steps p.tables e below (T11.setTop (mkF m 55 #[.val (.ref ar), .val (.int i1), .val (.ref b1), .val (.int (2 : Int32)), .val (.int (51 : Int32)), .val (.int (i1 + (0 : Int32))), .val (.int (51 : Int32)), .val (.long (XT.ushrL q0 (51 : Int32))), .second] [(.int (64 : Int32)), (.int (77 : Int32))])) _
    refine XS.icmpNo X11.here hx rfl (hb hby dF_55) rfl (XT.ii_le_f (by decide)) ?_
    show Steps p.tables e below (T11.setTop (mkF m 58 #[.val (.ref ar), .val (.int i1), .val (.ref b1), .val (.int (2 : Int32)), .val (.int (51 : Int32)), .val (.int (i1 + (0 : Int32))), .val (.int (51 : Int32)), .val (.long (XT.ushrL q0 (51 : Int32))), .second] [])) _
    refine XT.lload X11.here hx rfl (hb hby dF_58) rfl  ?_
    show Steps p.tables e below (T11.setTop (mkF m 60 #[.val (.ref ar), .val (.int i1), .val (.ref b1), .val (.int (2 : Int32)), .val (.int (51 : Int32)), .val (.int (i1 + (0 : Int32))), .val (.int (51 : Int32)), .val (.long (XT.ushrL q0 (51 : Int32))), .second] [(.long (XT.ushrL q0 (51 : Int32)))])) _
    refine XS.aloadN X11.here hx rfl (hb hby dF_60) rfl rfl  ?_
    show Steps p.tables e below (T11.setTop (mkF m 61 #[.val (.ref ar), .val (.int i1), .val (.ref b1), .val (.int (2 : Int32)), .val (.int (51 : Int32)), .val (.int (i1 + (0 : Int32))), .val (.int (51 : Int32)), .val (.long (XT.ushrL q0 (51 : Int32))), .second] [(.ref ar), (.long (XT.ushrL q0 (51 : Int32)))])) _
    refine XS.iload X11.here hx rfl (hb hby dF_61) rfl  ?_
    show Steps p.tables e below (T11.setTop (mkF m 63 #[.val (.ref ar), .val (.int i1), .val (.ref b1), .val (.int (2 : Int32)), .val (.int (51 : Int32)), .val (.int (i1 + (0 : Int32))), .val (.int (51 : Int32)), .val (.long (XT.ushrL q0 (51 : Int32))), .second] [(.int (i1 + (0 : Int32))), (.ref ar), (.long (XT.ushrL q0 (51 : Int32)))])) _
    refine XS.iconst X11.here hx rfl (hb hby dF_63) ?_
    show Steps p.tables e below (T11.setTop (mkF m 64 #[.val (.ref ar), .val (.int i1), .val (.ref b1), .val (.int (2 : Int32)), .val (.int (51 : Int32)), .val (.int (i1 + (0 : Int32))), .val (.int (51 : Int32)), .val (.long (XT.ushrL q0 (51 : Int32))), .second] [(.int (1 : Int32)), (.int (i1 + (0 : Int32))), (.ref ar), (.long (XT.ushrL q0 (51 : Int32)))])) _
    refine XS.iadd X11.here hx rfl (hb hby dF_64) rfl ?_
    exact oK
  show OG _ _ _ _ _ _ _ (T11.setTop (mkF m 65 #[.val (.ref ar), .val (.int i1), .val (.ref b1), .val (.int (2 : Int32)), .val (.int (51 : Int32)), .val (.int (i1 + (0 : Int32))), .val (.int (51 : Int32)), .val (.long (XT.ushrL q0 (51 : Int32))), .second] [(.int ((i1 + (0 : Int32)) + (1 : Int32))), (.ref ar), (.long (XT.ushrL q0 (51 : Int32)))]))
  have cf37 := f30
  obtain ⟨clf37, Arf37, If37, Hf37⟩ := cf37
  refine OG.of (X11.laload hx (j := ((i1 + (0 : Int32)) + (1 : Int32))) (v := (.long q1)) (by rw [e11]; exact Arf37.1) (State.isArrayOf_alike hZ.alike Arf37.2.1) Arf37.2.2 If37 Hf37 (g := (mkF m 65 #[.val (.ref ar), .val (.int i1), .val (.ref b1), .val (.int (2 : Int32)), .val (.int (51 : Int32)), .val (.int (i1 + (0 : Int32))), .val (.int (51 : Int32)), .val (.long (XT.ushrL q0 (51 : Int32))), .second] [(.int ((i1 + (0 : Int32)) + (1 : Int32))), (.ref ar), (.long (XT.ushrL q0 (51 : Int32)))])) rfl rfl (hb hby dF_65)) ?_
  show OG _ _ _ _ _ _ _ (T11.setTop (mkF m 66 #[.val (.ref ar), .val (.int i1), .val (.ref b1), .val (.int (2 : Int32)), .val (.int (51 : Int32)), .val (.int (i1 + (0 : Int32))), .val (.int (51 : Int32)), .val (.long (XT.ushrL q0 (51 : Int32))), .second] [(.long q1), (.long (XT.ushrL q0 (51 : Int32)))]))
  refine OG.of (A := T11.setTop (mkF m 80 #[.val (.ref ar), .val (.int i1), .val (.ref b1), .val (.int (2 : Int32)), .val (.int (51 : Int32)), .val (.int (i1 + (0 : Int32))), .val (.int (51 : Int32)), .val (.long ((XT.ushrL q0 (51 : Int32)) ||| (q1 <<< ((13 : Int32).toInt64 &&& 63)))), .second] [(.long (1 : Int64)), (.long ((XT.ushrL q0 (51 : Int32)) ||| (q1 <<< ((13 : Int32).toInt64 &&& 63)))), (.int (2 : Int32)), (.ref b1)])) (fun oT oK => ?_) ?_
  · show Steps p.tables e below (T11.setTop (mkF m 66 #[.val (.ref ar), .val (.int i1), .val (.ref b1), .val (.int (2 : Int32)), .val (.int (51 : Int32)), .val (.int (i1 + (0 : Int32))), .val (.int (51 : Int32)), .val (.long (XT.ushrL q0 (51 : Int32))), .second] [(.long q1), (.long (XT.ushrL q0 (51 : Int32)))])) oT
    refine XS.bipush X11.here hx rfl (hb hby dF_66) ?_
    show Steps p.tables e below (T11.setTop (mkF m 68 #[.val (.ref ar), .val (.int i1), .val (.ref b1), .val (.int (2 : Int32)), .val (.int (51 : Int32)), .val (.int (i1 + (0 : Int32))), .val (.int (51 : Int32)), .val (.long (XT.ushrL q0 (51 : Int32))), .second] [(.int (64 : Int32)), (.long q1), (.long (XT.ushrL q0 (51 : Int32)))])) _
    refine XS.iload X11.here hx rfl (hb hby dF_68) rfl  ?_
    show Steps p.tables e below (T11.setTop (mkF m 70 #[.val (.ref ar), .val (.int i1), .val (.ref b1), .val (.int (2 : Int32)), .val (.int (51 : Int32)), .val (.int (i1 + (0 : Int32))), .val (.int (51 : Int32)), .val (.long (XT.ushrL q0 (51 : Int32))), .second] [(.int (51 : Int32)), (.int (64 : Int32)), (.long q1), (.long (XT.ushrL q0 (51 : Int32)))])) _
    refine XS.isub X11.here hx rfl (hb hby dF_70) rfl ?_
    show Steps p.tables e below (T11.setTop (mkF m 71 #[.val (.ref ar), .val (.int i1), .val (.ref b1), .val (.int (2 : Int32)), .val (.int (51 : Int32)), .val (.int (i1 + (0 : Int32))), .val (.int (51 : Int32)), .val (.long (XT.ushrL q0 (51 : Int32))), .second] [(.int (13 : Int32)), (.long q1), (.long (XT.ushrL q0 (51 : Int32)))])) _
    refine XT.lshl X11.here hx rfl (hb hby dF_71) rfl ?_
    show Steps p.tables e below (T11.setTop (mkF m 72 #[.val (.ref ar), .val (.int i1), .val (.ref b1), .val (.int (2 : Int32)), .val (.int (51 : Int32)), .val (.int (i1 + (0 : Int32))), .val (.int (51 : Int32)), .val (.long (XT.ushrL q0 (51 : Int32))), .second] [(.long (q1 <<< ((13 : Int32).toInt64 &&& 63))), (.long (XT.ushrL q0 (51 : Int32)))])) _
    refine XT.lor X11.here hx rfl (hb hby dF_72) rfl ?_
    show Steps p.tables e below (T11.setTop (mkF m 73 #[.val (.ref ar), .val (.int i1), .val (.ref b1), .val (.int (2 : Int32)), .val (.int (51 : Int32)), .val (.int (i1 + (0 : Int32))), .val (.int (51 : Int32)), .val (.long (XT.ushrL q0 (51 : Int32))), .second] [(.long ((XT.ushrL q0 (51 : Int32)) ||| (q1 <<< ((13 : Int32).toInt64 &&& 63))))])) _
    refine XT.lstore X11.here hx rfl (hb hby dF_73) rfl (l' := #[.val (.ref ar), .val (.int i1), .val (.ref b1), .val (.int (2 : Int32)), .val (.int (51 : Int32)), .val (.int (i1 + (0 : Int32))), .val (.int (51 : Int32)), .val (.long ((XT.ushrL q0 (51 : Int32)) ||| (q1 <<< ((13 : Int32).toInt64 &&& 63)))), .second]) rfl ?_
    show Steps p.tables e below (T11.setTop (mkF m 75 #[.val (.ref ar), .val (.int i1), .val (.ref b1), .val (.int (2 : Int32)), .val (.int (51 : Int32)), .val (.int (i1 + (0 : Int32))), .val (.int (51 : Int32)), .val (.long ((XT.ushrL q0 (51 : Int32)) ||| (q1 <<< ((13 : Int32).toInt64 &&& 63)))), .second] [])) _
    refine XS.aloadN X11.here hx rfl (hb hby dF_75) rfl rfl  ?_
    show Steps p.tables e below (T11.setTop (mkF m 76 #[.val (.ref ar), .val (.int i1), .val (.ref b1), .val (.int (2 : Int32)), .val (.int (51 : Int32)), .val (.int (i1 + (0 : Int32))), .val (.int (51 : Int32)), .val (.long ((XT.ushrL q0 (51 : Int32)) ||| (q1 <<< ((13 : Int32).toInt64 &&& 63)))), .second] [(.ref b1)])) _
    refine XS.iloadN X11.here hx rfl (hb hby dF_76) rfl  ?_
    show Steps p.tables e below (T11.setTop (mkF m 77 #[.val (.ref ar), .val (.int i1), .val (.ref b1), .val (.int (2 : Int32)), .val (.int (51 : Int32)), .val (.int (i1 + (0 : Int32))), .val (.int (51 : Int32)), .val (.long ((XT.ushrL q0 (51 : Int32)) ||| (q1 <<< ((13 : Int32).toInt64 &&& 63)))), .second] [(.int (2 : Int32)), (.ref b1)])) _
    refine XT.lload X11.here hx rfl (hb hby dF_77) rfl  ?_
    show Steps p.tables e below (T11.setTop (mkF m 79 #[.val (.ref ar), .val (.int i1), .val (.ref b1), .val (.int (2 : Int32)), .val (.int (51 : Int32)), .val (.int (i1 + (0 : Int32))), .val (.int (51 : Int32)), .val (.long ((XT.ushrL q0 (51 : Int32)) ||| (q1 <<< ((13 : Int32).toInt64 &&& 63)))), .second] [(.long ((XT.ushrL q0 (51 : Int32)) ||| (q1 <<< ((13 : Int32).toInt64 &&& 63)))), (.int (2 : Int32)), (.ref b1)])) _
    refine XT.lconst X11.here hx rfl (hb hby dF_79) ?_
    exact oK
  show OG _ _ _ _ _ _ _ (T11.setTop (mkF m 80 #[.val (.ref ar), .val (.int i1), .val (.ref b1), .val (.int (2 : Int32)), .val (.int (51 : Int32)), .val (.int (i1 + (0 : Int32))), .val (.int (51 : Int32)), .val (.long ((XT.ushrL q0 (51 : Int32)) ||| (q1 <<< ((13 : Int32).toInt64 &&& 63)))), .second] [(.long (1 : Int64)), (.long ((XT.ushrL q0 (51 : Int32)) ||| (q1 <<< ((13 : Int32).toInt64 &&& 63)))), (.int (2 : Int32)), (.ref b1)]))
  obtain ⟨T12, X12, e12, st12⟩ := getS2 X11 hx hZ hown (host := "") (Or.inl (hw _ (List.mem_of_getElem? (i := 7) rfl))) Via.refl e11 (SB.ext (f33).2) (g := (mkF m 80 #[.val (.ref ar), .val (.int i1), .val (.ref b1), .val (.int (2 : Int32)), .val (.int (51 : Int32)), .val (.int (i1 + (0 : Int32))), .val (.int (51 : Int32)), .val (.long ((XT.ushrL q0 (51 : Int32)) ||| (q1 <<< ((13 : Int32).toInt64 &&& 63)))), .second] [(.long (1 : Int64)), (.long ((XT.ushrL q0 (51 : Int32)) ||| (q1 <<< ((13 : Int32).toInt64 &&& 63)))), (.int (2 : Int32)), (.ref b1)])) rfl (hb hby dF_80)
  refine OG.of st12 ?_
  show OG _ _ _ _ _ _ _ (T12.setTop (mkF m 83 #[.val (.ref ar), .val (.int i1), .val (.ref b1), .val (.int (2 : Int32)), .val (.int (51 : Int32)), .val (.int (i1 + (0 : Int32))), .val (.int (51 : Int32)), .val (.long ((XT.ushrL q0 (51 : Int32)) ||| (q1 <<< ((13 : Int32).toInt64 &&& 63)))), .second] [(.ref wB), (.long (1 : Int64)), (.long ((XT.ushrL q0 (51 : Int32)) ||| (q1 <<< ((13 : Int32).toInt64 &&& 63)))), (.int (2 : Int32)), (.ref b1)]))
  refine OG.of (A := T12.setTop (mkF m 84 #[.val (.ref ar), .val (.int i1), .val (.ref b1), .val (.int (2 : Int32)), .val (.int (51 : Int32)), .val (.int (i1 + (0 : Int32))), .val (.int (51 : Int32)), .val (.long ((XT.ushrL q0 (51 : Int32)) ||| (q1 <<< ((13 : Int32).toInt64 &&& 63)))), .second] [(.int (2 : Int32)), (.ref wB), (.long (1 : Int64)), (.long ((XT.ushrL q0 (51 : Int32)) ||| (q1 <<< ((13 : Int32).toInt64 &&& 63)))), (.int (2 : Int32)), (.ref b1)])) (fun oT oK => ?_) ?_
  · show Steps p.tables e below (T12.setTop (mkF m 83 #[.val (.ref ar), .val (.int i1), .val (.ref b1), .val (.int (2 : Int32)), .val (.int (51 : Int32)), .val (.int (i1 + (0 : Int32))), .val (.int (51 : Int32)), .val (.long ((XT.ushrL q0 (51 : Int32)) ||| (q1 <<< ((13 : Int32).toInt64 &&& 63)))), .second] [(.ref wB), (.long (1 : Int64)), (.long ((XT.ushrL q0 (51 : Int32)) ||| (q1 <<< ((13 : Int32).toInt64 &&& 63)))), (.int (2 : Int32)), (.ref b1)])) oT
    refine XS.iloadN X12.here hx rfl (hb hby dF_83) rfl  ?_
    exact oK
  show OG _ _ _ _ _ _ _ (T12.setTop (mkF m 84 #[.val (.ref ar), .val (.int i1), .val (.ref b1), .val (.int (2 : Int32)), .val (.int (51 : Int32)), .val (.int (i1 + (0 : Int32))), .val (.int (51 : Int32)), .val (.long ((XT.ushrL q0 (51 : Int32)) ||| (q1 <<< ((13 : Int32).toInt64 &&& 63)))), .second] [(.int (2 : Int32)), (.ref wB), (.long (1 : Int64)), (.long ((XT.ushrL q0 (51 : Int32)) ||| (q1 <<< ((13 : Int32).toInt64 &&& 63)))), (.int (2 : Int32)), (.ref b1)]))
  have cf38 := ((TB 2 (by decide)).ext (f33).2)
  obtain ⟨clf38, Arf38, If38, Hf38⟩ := cf38
  refine OG.of (X12.iaload hx (j := (2 : Int32)) (v := (.int (26 : Int32))) (by rw [e12]; exact Arf38.1) (State.isArrayOf_alike hZ.alike Arf38.2.1) Arf38.2.2 If38 Hf38 (g := (mkF m 84 #[.val (.ref ar), .val (.int i1), .val (.ref b1), .val (.int (2 : Int32)), .val (.int (51 : Int32)), .val (.int (i1 + (0 : Int32))), .val (.int (51 : Int32)), .val (.long ((XT.ushrL q0 (51 : Int32)) ||| (q1 <<< ((13 : Int32).toInt64 &&& 63)))), .second] [(.int (2 : Int32)), (.ref wB), (.long (1 : Int64)), (.long ((XT.ushrL q0 (51 : Int32)) ||| (q1 <<< ((13 : Int32).toInt64 &&& 63)))), (.int (2 : Int32)), (.ref b1)])) rfl rfl (hb hby dF_84)) ?_
  show OG _ _ _ _ _ _ _ (T12.setTop (mkF m 85 #[.val (.ref ar), .val (.int i1), .val (.ref b1), .val (.int (2 : Int32)), .val (.int (51 : Int32)), .val (.int (i1 + (0 : Int32))), .val (.int (51 : Int32)), .val (.long ((XT.ushrL q0 (51 : Int32)) ||| (q1 <<< ((13 : Int32).toInt64 &&& 63)))), .second] [(.int (26 : Int32)), (.long (1 : Int64)), (.long ((XT.ushrL q0 (51 : Int32)) ||| (q1 <<< ((13 : Int32).toInt64 &&& 63)))), (.int (2 : Int32)), (.ref b1)]))
  refine OG.of (A := T12.setTop (mkF m 89 #[.val (.ref ar), .val (.int i1), .val (.ref b1), .val (.int (2 : Int32)), .val (.int (51 : Int32)), .val (.int (i1 + (0 : Int32))), .val (.int (51 : Int32)), .val (.long ((XT.ushrL q0 (51 : Int32)) ||| (q1 <<< ((13 : Int32).toInt64 &&& 63)))), .second] [(.long (((XT.ushrL q0 (51 : Int32)) ||| (q1 <<< ((13 : Int32).toInt64 &&& 63))) &&& (((1 : Int64) <<< ((26 : Int32).toInt64 &&& 63)) - (1 : Int64)))), (.int (2 : Int32)), (.ref b1)])) (fun oT oK => ?_) ?_
  · show Steps p.tables e below (T12.setTop (mkF m 85 #[.val (.ref ar), .val (.int i1), .val (.ref b1), .val (.int (2 : Int32)), .val (.int (51 : Int32)), .val (.int (i1 + (0 : Int32))), .val (.int (51 : Int32)), .val (.long ((XT.ushrL q0 (51 : Int32)) ||| (q1 <<< ((13 : Int32).toInt64 &&& 63)))), .second] [(.int (26 : Int32)), (.long (1 : Int64)), (.long ((XT.ushrL q0 (51 : Int32)) ||| (q1 <<< ((13 : Int32).toInt64 &&& 63)))), (.int (2 : Int32)), (.ref b1)])) oT
    refine XT.lshl X12.here hx rfl (hb hby dF_85) rfl ?_
    show Steps p.tables e below (T12.setTop (mkF m 86 #[.val (.ref ar), .val (.int i1), .val (.ref b1), .val (.int (2 : Int32)), .val (.int (51 : Int32)), .val (.int (i1 + (0 : Int32))), .val (.int (51 : Int32)), .val (.long ((XT.ushrL q0 (51 : Int32)) ||| (q1 <<< ((13 : Int32).toInt64 &&& 63)))), .second] [(.long ((1 : Int64) <<< ((26 : Int32).toInt64 &&& 63))), (.long ((XT.ushrL q0 (51 : Int32)) ||| (q1 <<< ((13 : Int32).toInt64 &&& 63)))), (.int (2 : Int32)), (.ref b1)])) _
    refine XT.lconst X12.here hx rfl (hb hby dF_86) ?_
    show Steps p.tables e below (T12.setTop (mkF m 87 #[.val (.ref ar), .val (.int i1), .val (.ref b1), .val (.int (2 : Int32)), .val (.int (51 : Int32)), .val (.int (i1 + (0 : Int32))), .val (.int (51 : Int32)), .val (.long ((XT.ushrL q0 (51 : Int32)) ||| (q1 <<< ((13 : Int32).toInt64 &&& 63)))), .second] [(.long (1 : Int64)), (.long ((1 : Int64) <<< ((26 : Int32).toInt64 &&& 63))), (.long ((XT.ushrL q0 (51 : Int32)) ||| (q1 <<< ((13 : Int32).toInt64 &&& 63)))), (.int (2 : Int32)), (.ref b1)])) _
    refine XT.lsub X12.here hx rfl (hb hby dF_87) rfl ?_
    show Steps p.tables e below (T12.setTop (mkF m 88 #[.val (.ref ar), .val (.int i1), .val (.ref b1), .val (.int (2 : Int32)), .val (.int (51 : Int32)), .val (.int (i1 + (0 : Int32))), .val (.int (51 : Int32)), .val (.long ((XT.ushrL q0 (51 : Int32)) ||| (q1 <<< ((13 : Int32).toInt64 &&& 63)))), .second] [(.long (((1 : Int64) <<< ((26 : Int32).toInt64 &&& 63)) - (1 : Int64))), (.long ((XT.ushrL q0 (51 : Int32)) ||| (q1 <<< ((13 : Int32).toInt64 &&& 63)))), (.int (2 : Int32)), (.ref b1)])) _
    refine XT.land X12.here hx rfl (hb hby dF_88) rfl ?_
    exact oK
  show OG _ _ _ _ _ _ _ (T12.setTop (mkF m 89 #[.val (.ref ar), .val (.int i1), .val (.ref b1), .val (.int (2 : Int32)), .val (.int (51 : Int32)), .val (.int (i1 + (0 : Int32))), .val (.int (51 : Int32)), .val (.long ((XT.ushrL q0 (51 : Int32)) ||| (q1 <<< ((13 : Int32).toInt64 &&& 63)))), .second] [(.long (((XT.ushrL q0 (51 : Int32)) ||| (q1 <<< ((13 : Int32).toInt64 &&& 63))) &&& (((1 : Int64) <<< ((26 : Int32).toInt64 &&& 63)) - (1 : Int64)))), (.int (2 : Int32)), (.ref b1)]))
  show OG _ _ _ _ _ _ _ (T12.setTop (mkF m 89 #[.val (.ref ar), .val (.int i1), .val (.ref b1), .val (.int (2 : Int32)), .val (.int (51 : Int32)), .val (.int (i1 + (0 : Int32))), .val (.int (51 : Int32)), .val (.long ((XT.ushrL q0 (51 : Int32)) ||| (q1 <<< ((13 : Int32).toInt64 &&& 63)))), .second] [(.long (own_l2 q0 q1 q2 q3)), (.int (2 : Int32)), (.ref b1)]))
  have cf39 := V9
  obtain ⟨clf39, Arf39, qf39, Sf39, Mf39, Hf39, Gf39⟩ := cf39
  obtain ⟨T13, h13, X13, e13, W13, st13⟩ := stJ X12 hx hZ e12 Arf39 (j := (2 : Int32)) (inb_of Sf39 ⟨by decide, by decide⟩) (g := (mkF m 89 #[.val (.ref ar), .val (.int i1), .val (.ref b1), .val (.int (2 : Int32)), .val (.int (51 : Int32)), .val (.int (i1 + (0 : Int32))), .val (.int (51 : Int32)), .val (.long ((XT.ushrL q0 (51 : Int32)) ||| (q1 <<< ((13 : Int32).toInt64 &&& 63)))), .second] [(.long (own_l2 q0 q1 q2 q3)), (.int (2 : Int32)), (.ref b1)])) rfl rfl (hb hby dF_89)
  have f40 := (f26).other W13 ne_ar_b1
  have f41 := (f27).other W13 ne_ar_b1
  have f42 := (f28).other W13 ne_ar_b1
  have f43 := (f29).other W13 ne_ar_b1
  have f44 := (f30).other W13 ne_ar_b1
  have f45 := (f31).other W13 ne_ar_b1
  have V13 : Arv Z h13 b1 kc1 .long (10 : Int32) [(.long (own_l0 q0 q1 q2 q3)), (.long (own_l1 q0 q1 q2 q3)), (.long (own_l2 q0 q1 q2 q3)), (.long (0 : Int64)), (.long (0 : Int64)), (.long (0 : Int64)), (.long (0 : Int64)), (.long (0 : Int64)), (.long (0 : Int64)), (.long (0 : Int64))] (.long (0 : Int64)) := Arv.set Arf39 qf39 Sf39 Mf39 Hf39 Gf39 rfl W13 2 rfl (Nat.le_of_ble_eq_true rfl)
  have f47 := (f33).wr W13 gn_b1
  have K13 : Keep h0 h13 [] := (K9).wr W13 (Or.inr sz_b1)
  have Z13 : n0 ≤ h13.size := Nat.le_trans Z9 (Keep.of_wr W13).1
  have N13 := Fr.snoc X13 N9 gn_b1
  refine OG.of st13 ?_
  show OG _ _ _ _ _ _ _ (T13.setTop (mkF m 90 #[.val (.ref ar), .val (.int i1), .val (.ref b1), .val (.int (2 : Int32)), .val (.int (51 : Int32)), .val (.int (i1 + (0 : Int32))), .val (.int (51 : Int32)), .val (.long ((XT.ushrL q0 (51 : Int32)) ||| (q1 <<< ((13 : Int32).toInt64 &&& 63)))), .second] []))
  refine OG.of (A := T13.setTop (mkF m 13 #[.val (.ref ar), .val (.int i1), .val (.ref b1), .val (.int (3 : Int32)), .val (.int (51 : Int32)), .val (.int (i1 + (0 : Int32))), .val (.int (51 : Int32)), .val (.long ((XT.ushrL q0 (51 : Int32)) ||| (q1 <<< ((13 : Int32).toInt64 &&& 63)))), .second] [])) (fun oT oK => ?_) ?_
  · show Steps p.tables e below (T13.setTop (mkF m 90 #[.val (.ref ar), .val (.int i1), .val (.ref b1), .val (.int (2 : Int32)), .val (.int (51 : Int32)), .val (.int (i1 + (0 : Int32))), .val (.int (51 : Int32)), .val (.long ((XT.ushrL q0 (51 : Int32)) ||| (q1 <<< ((13 : Int32).toInt64 &&& 63)))), .second] [])) oT
    refine XS.iinc X13.here hx rfl (hb hby dF_90) rfl (l' := #[.val (.ref ar), .val (.int i1), .val (.ref b1), .val (.int (3 : Int32)), .val (.int (51 : Int32)), .val (.int (i1 + (0 : Int32))), .val (.int (51 : Int32)), .val (.long ((XT.ushrL q0 (51 : Int32)) ||| (q1 <<< ((13 : Int32).toInt64 &&& 63)))), .second]) rfl ?_
    show Steps p.tables e below (T13.setTop (mkF m 93 #[.val (.ref ar), .val (.int i1), .val (.ref b1), .val (.int (3 : Int32)), .val (.int (51 : Int32)), .val (.int (i1 + (0 : Int32))), .val (.int (51 : Int32)), .val (.long ((XT.ushrL q0 (51 : Int32)) ||| (q1 <<< ((13 : Int32).toInt64 &&& 63)))), .second] [])) _
    refine XS.goto X13.here hx rfl (pc0 := 93) (pc' := 7) rfl (hb hby dF_93) (by decide) (by decide) ?_
    show Steps p.tables e below (T13.setTop (mkF m 7 #[.val (.ref ar), .val (.int i1), .val (.ref b1), .val (.int (3 : Int32)), .val (.int (51 : Int32)), .val (.int (i1 + (0 : Int32))), .val (.int (51 : Int32)), .val (.long ((XT.ushrL q0 (51 : Int32)) ||| (q1 <<< ((13 : Int32).toInt64 &&& 63)))), .second] [])) _
    refine XS.iloadN X13.here hx rfl (hb hby dF_7) rfl  ?_
    show Steps p.tables e below (T13.setTop (mkF m 8 #[.val (.ref ar), .val (.int i1), .val (.ref b1), .val (.int (3 : Int32)), .val (.int (51 : Int32)), .val (.int (i1 + (0 : Int32))), .val (.int (51 : Int32)), .val (.long ((XT.ushrL q0 (51 : Int32)) ||| (q1 <<< ((13 : Int32).toInt64 &&& 63)))), .second] [(.int (3 : Int32))])) _
    refine XS.bipush X13.here hx rfl (hb hby dF_8) ?_
    show Steps p.tables e below (T13.setTop (mkF m 10 #[.val (.ref ar), .val (.int i1), .val (.ref b1), .val (.int (3 : Int32)), .val (.int (51 : Int32)), .val (.int (i1 + (0 : Int32))), .val (.int (51 : Int32)), .val (.long ((XT.ushrL q0 (51 : Int32)) ||| (q1 <<< ((13 : Int32).toInt64 &&& 63)))), .second] [(.int (10 : Int32)), (.int (3 : Int32))])) _
    refine XS.icmpNo X13.here hx rfl (hb hby dF_10) rfl (XT.ii_ge_f (by decide)) ?_
    exact oK
  show OG _ _ _ _ _ _ _ (T13.setTop (mkF m 13 #[.val (.ref ar), .val (.int i1), .val (.ref b1), .val (.int (3 : Int32)), .val (.int (51 : Int32)), .val (.int (i1 + (0 : Int32))), .val (.int (51 : Int32)), .val (.long ((XT.ushrL q0 (51 : Int32)) ||| (q1 <<< ((13 : Int32).toInt64 &&& 63)))), .second] []))
  obtain ⟨T14, X14, e14, st14⟩ := getS2 X13 hx hZ hown (host := "") (Or.inl (hw _ (List.mem_of_getElem? (i := 5) rfl))) Via.refl e13 (SP.ext (f47).2) (g := (mkF m 13 #[.val (.ref ar), .val (.int i1), .val (.ref b1), .val (.int (3 : Int32)), .val (.int (51 : Int32)), .val (.int (i1 + (0 : Int32))), .val (.int (51 : Int32)), .val (.long ((XT.ushrL q0 (51 : Int32)) ||| (q1 <<< ((13 : Int32).toInt64 &&& 63)))), .second] [])) rfl (hb hby dF_13)
  refine OG.of st14 ?_
  show OG _ _ _ _ _ _ _ (T14.setTop (mkF m 16 #[.val (.ref ar), .val (.int i1), .val (.ref b1), .val (.int (3 : Int32)), .val (.int (51 : Int32)), .val (.int (i1 + (0 : Int32))), .val (.int (51 : Int32)), .val (.long ((XT.ushrL q0 (51 : Int32)) ||| (q1 <<< ((13 : Int32).toInt64 &&& 63)))), .second] [(.ref wP)]))
  refine OG.of (A := T14.setTop (mkF m 17 #[.val (.ref ar), .val (.int i1), .val (.ref b1), .val (.int (3 : Int32)), .val (.int (51 : Int32)), .val (.int (i1 + (0 : Int32))), .val (.int (51 : Int32)), .val (.long ((XT.ushrL q0 (51 : Int32)) ||| (q1 <<< ((13 : Int32).toInt64 &&& 63)))), .second] [(.int (3 : Int32)), (.ref wP)])) (fun oT oK => ?_) ?_
  · show Steps p.tables e below (T14.setTop (mkF m 16 #[.val (.ref ar), .val (.int i1), .val (.ref b1), .val (.int (3 : Int32)), .val (.int (51 : Int32)), .val (.int (i1 + (0 : Int32))), .val (.int (51 : Int32)), .val (.long ((XT.ushrL q0 (51 : Int32)) ||| (q1 <<< ((13 : Int32).toInt64 &&& 63)))), .second] [(.ref wP)])) oT
    refine XS.iloadN X14.here hx rfl (hb hby dF_16) rfl  ?_
    exact oK
  show OG _ _ _ _ _ _ _ (T14.setTop (mkF m 17 #[.val (.ref ar), .val (.int i1), .val (.ref b1), .val (.int (3 : Int32)), .val (.int (51 : Int32)), .val (.int (i1 + (0 : Int32))), .val (.int (51 : Int32)), .val (.long ((XT.ushrL q0 (51 : Int32)) ||| (q1 <<< ((13 : Int32).toInt64 &&& 63)))), .second] [(.int (3 : Int32)), (.ref wP)]))
  have cf48 := ((TP 3 (by decide)).ext (f47).2)
  obtain ⟨clf48, Arf48, If48, Hf48⟩ := cf48
  refine OG.of (X14.iaload hx (j := (3 : Int32)) (v := (.int (77 : Int32))) (by rw [e14]; exact Arf48.1) (State.isArrayOf_alike hZ.alike Arf48.2.1) Arf48.2.2 If48 Hf48 (g := (mkF m 17 #[.val (.ref ar), .val (.int i1), .val (.ref b1), .val (.int (3 : Int32)), .val (.int (51 : Int32)), .val (.int (i1 + (0 : Int32))), .val (.int (51 : Int32)), .val (.long ((XT.ushrL q0 (51 : Int32)) ||| (q1 <<< ((13 : Int32).toInt64 &&& 63)))), .second] [(.int (3 : Int32)), (.ref wP)])) rfl rfl (hb hby dF_17)) ?_
  show OG _ _ _ _ _ _ _ (T14.setTop (mkF m 18 #[.val (.ref ar), .val (.int i1), .val (.ref b1), .val (.int (3 : Int32)), .val (.int (51 : Int32)), .val (.int (i1 + (0 : Int32))), .val (.int (51 : Int32)), .val (.long ((XT.ushrL q0 (51 : Int32)) ||| (q1 <<< ((13 : Int32).toInt64 &&& 63)))), .second] [(.int (77 : Int32))]))
  refine OG.of (A := T14.setTop (mkF m 39 #[.val (.ref ar), .val (.int i1), .val (.ref b1), .val (.int (3 : Int32)), .val (.int (77 : Int32)), .val (.int (i1 + (1 : Int32))), .val (.int (13 : Int32)), .val (.long ((XT.ushrL q0 (51 : Int32)) ||| (q1 <<< ((13 : Int32).toInt64 &&& 63)))), .second] [(.int (i1 + (1 : Int32))), (.ref ar)])) (fun oT oK => ?_) ?_
  · show Steps p.tables e below (T14.setTop (mkF m 18 #[.val (.ref ar), .val (.int i1), .val (.ref b1), .val (.int (3 : Int32)), .val (.int (51 : Int32)), .val (.int (i1 + (0 : Int32))), .val (.int (51 : Int32)), .val (.long ((XT.ushrL q0 (51 : Int32)) ||| (q1 <<< ((13 : Int32).toInt64 &&& 63)))), .second] [(.int (77 : Int32))])) oT
    refine XS.istore X14.here hx rfl (hb hby dF_18) rfl (l' := #[.val (.ref ar), .val (.int i1), .val (.ref b1), .val (.int (3 : Int32)), .val (.int (77 : Int32)), .val (.int (i1 + (0 : Int32))), .val (.int (51 : Int32)), .val (.long ((XT.ushrL q0 (51 : Int32)) ||| (q1 <<< ((13 : Int32).toInt64 &&& 63)))), .second]) rfl ?_
    show Steps p.tables e below (T14.setTop (mkF m 20 #[.val (.ref ar), .val (.int i1), .val (.ref b1), .val (.int (3 : Int32)), .val (.int (77 : Int32)), .val (.int (i1 + (0 : Int32))), .val (.int (51 : Int32)), .val (.long ((XT.ushrL q0 (51 : Int32)) ||| (q1 <<< ((13 : Int32).toInt64 &&& 63)))), .second] [])) _
    refine XS.iloadN X14.here hx rfl (hb hby dF_20) rfl  ?_
    show Steps p.tables e below (T14.setTop (mkF m 21 #[.val (.ref ar), .val (.int i1), .val (.ref b1), .val (.int (3 : Int32)), .val (.int (77 : Int32)), .val (.int (i1 + (0 : Int32))), .val (.int (51 : Int32)), .val (.long ((XT.ushrL q0 (51 : Int32)) ||| (q1 <<< ((13 : Int32).toInt64 &&& 63)))), .second] [(.int i1)])) _
    refine XS.iload X14.here hx rfl (hb hby dF_21) rfl  ?_
    show Steps p.tables e below (T14.setTop (mkF m 23 #[.val (.ref ar), .val (.int i1), .val (.ref b1), .val (.int (3 : Int32)), .val (.int (77 : Int32)), .val (.int (i1 + (0 : Int32))), .val (.int (51 : Int32)), .val (.long ((XT.ushrL q0 (51 : Int32)) ||| (q1 <<< ((13 : Int32).toInt64 &&& 63)))), .second] [(.int (77 : Int32)), (.int i1)])) _
    refine XS.bipush X14.here hx rfl (hb hby dF_23) ?_
    show Steps p.tables e below (T14.setTop (mkF m 25 #[.val (.ref ar), .val (.int i1), .val (.ref b1), .val (.int (3 : Int32)), .val (.int (77 : Int32)), .val (.int (i1 + (0 : Int32))), .val (.int (51 : Int32)), .val (.long ((XT.ushrL q0 (51 : Int32)) ||| (q1 <<< ((13 : Int32).toInt64 &&& 63)))), .second] [(.int (64 : Int32)), (.int (77 : Int32)), (.int i1)])) _
    refine XS.idiv X14.here hx rfl (hb hby dF_25) rfl (by decide) ?_
    show Steps p.tables e below (T14.setTop (mkF m 26 #[.val (.ref ar), .val (.int i1), .val (.ref b1), .val (.int (3 : Int32)), .val (.int (77 : Int32)), .val (.int (i1 + (0 : Int32))), .val (.int (51 : Int32)), .val (.long ((XT.ushrL q0 (51 : Int32)) ||| (q1 <<< ((13 : Int32).toInt64 &&& 63)))), .second] [(.int (1 : Int32)), (.int i1)])) _
    refine XS.iadd X14.here hx rfl (hb hby dF_26) rfl ?_
    show Steps p.tables e below (T14.setTop (mkF m 27 #[.val (.ref ar), .val (.int i1), .val (.ref b1), .val (.int (3 : Int32)), .val (.int (77 : Int32)), .val (.int (i1 + (0 : Int32))), .val (.int (51 : Int32)), .val (.long ((XT.ushrL q0 (51 : Int32)) ||| (q1 <<< ((13 : Int32).toInt64 &&& 63)))), .second] [(.int (i1 + (1 : Int32)))])) _
    refine XS.istore X14.here hx rfl (hb hby dF_27) rfl (l' := #[.val (.ref ar), .val (.int i1), .val (.ref b1), .val (.int (3 : Int32)), .val (.int (77 : Int32)), .val (.int (i1 + (1 : Int32))), .val (.int (51 : Int32)), .val (.long ((XT.ushrL q0 (51 : Int32)) ||| (q1 <<< ((13 : Int32).toInt64 &&& 63)))), .second]) rfl ?_
    show Steps p.tables e below (T14.setTop (mkF m 29 #[.val (.ref ar), .val (.int i1), .val (.ref b1), .val (.int (3 : Int32)), .val (.int (77 : Int32)), .val (.int (i1 + (1 : Int32))), .val (.int (51 : Int32)), .val (.long ((XT.ushrL q0 (51 : Int32)) ||| (q1 <<< ((13 : Int32).toInt64 &&& 63)))), .second] [])) _
    refine XS.iload X14.here hx rfl (hb hby dF_29) rfl  ?_
    show Steps p.tables e below (T14.setTop (mkF m 31 #[.val (.ref ar), .val (.int i1), .val (.ref b1), .val (.int (3 : Int32)), .val (.int (77 : Int32)), .val (.int (i1 + (1 : Int32))), .val (.int (51 : Int32)), .val (.long ((XT.ushrL q0 (51 : Int32)) ||| (q1 <<< ((13 : Int32).toInt64 &&& 63)))), .second] [(.int (77 : Int32))])) _
    refine XS.bipush X14.here hx rfl (hb hby dF_31) ?_
    show Steps p.tables e below (T14.setTop (mkF m 33 #[.val (.ref ar), .val (.int i1), .val (.ref b1), .val (.int (3 : Int32)), .val (.int (77 : Int32)), .val (.int (i1 + (1 : Int32))), .val (.int (51 : Int32)), .val (.long ((XT.ushrL q0 (51 : Int32)) ||| (q1 <<< ((13 : Int32).toInt64 &&& 63)))), .second] [(.int (64 : Int32)), (.int (77 : Int32))])) _
    refine Jvm.RoadKit.iremM X14 hx rfl (hb hby dF_33) rfl (by decide) ?_
    show Steps p.tables e below (T14.setTop (mkF m 34 #[.val (.ref ar), .val (.int i1), .val (.ref b1), .val (.int (3 : Int32)), .val (.int (77 : Int32)), .val (.int (i1 + (1 : Int32))), .val (.int (51 : Int32)), .val (.long ((XT.ushrL q0 (51 : Int32)) ||| (q1 <<< ((13 : Int32).toInt64 &&& 63)))), .second] [(.int (13 : Int32))])) _
    refine XS.istore X14.here hx rfl (hb hby dF_34) rfl (l' := #[.val (.ref ar), .val (.int i1), .val (.ref b1), .val (.int (3 : Int32)), .val (.int (77 : Int32)), .val (.int (i1 + (1 : Int32))), .val (.int (13 : Int32)), .val (.long ((XT.ushrL q0 (51 : Int32)) ||| (q1 <<< ((13 : Int32).toInt64 &&& 63)))), .second]) rfl ?_
    show Steps p.tables e below (T14.setTop (mkF m 36 #[.val (.ref ar), .val (.int i1), .val (.ref b1), .val (.int (3 : Int32)), .val (.int (77 : Int32)), .val (.int (i1 + (1 : Int32))), .val (.int (13 : Int32)), .val (.long ((XT.ushrL q0 (51 : Int32)) ||| (q1 <<< ((13 : Int32).toInt64 &&& 63)))), .second] [])) _
    refine XS.aloadN X14.here hx rfl (hb hby dF_36) rfl rfl  ?_
    show Steps p.tables e below (T14.setTop (mkF m 37 #[.val (.ref ar), .val (.int i1), .val (.ref b1), .val (.int (3 : Int32)), .val (.int (77 : Int32)), .val (.int (i1 + (1 : Int32))), .val (.int (13 : Int32)), .val (.long ((XT.ushrL q0 (51 : Int32)) ||| (q1 <<< ((13 : Int32).toInt64 &&& 63)))), .second] [(.ref ar)])) _
    refine XS.iload X14.here hx rfl (hb hby dF_37) rfl  ?_
    exact oK
  show OG _ _ _ _ _ _ _ (T14.setTop (mkF m 39 #[.val (.ref ar), .val (.int i1), .val (.ref b1), .val (.int (3 : Int32)), .val (.int (77 : Int32)), .val (.int (i1 + (1 : Int32))), .val (.int (13 : Int32)), .val (.long ((XT.ushrL q0 (51 : Int32)) ||| (q1 <<< ((13 : Int32).toInt64 &&& 63)))), .second] [(.int (i1 + (1 : Int32))), (.ref ar)]))
  have cf49 := f41
  obtain ⟨clf49, Arf49, If49, Hf49⟩ := cf49
  refine OG.of (X14.laload hx (j := (i1 + (1 : Int32))) (v := (.long q1)) (by rw [e14]; exact Arf49.1) (State.isArrayOf_alike hZ.alike Arf49.2.1) Arf49.2.2 If49 Hf49 (g := (mkF m 39 #[.val (.ref ar), .val (.int i1), .val (.ref b1), .val (.int (3 : Int32)), .val (.int (77 : Int32)), .val (.int (i1 + (1 : Int32))), .val (.int (13 : Int32)), .val (.long ((XT.ushrL q0 (51 : Int32)) ||| (q1 <<< ((13 : Int32).toInt64 &&& 63)))), .second] [(.int (i1 + (1 : Int32))), (.ref ar)])) rfl rfl (hb hby dF_39)) ?_
  show OG _ _ _ _ _ _ _ (T14.setTop (mkF m 40 #[.val (.ref ar), .val (.int i1), .val (.ref b1), .val (.int (3 : Int32)), .val (.int (77 : Int32)), .val (.int (i1 + (1 : Int32))), .val (.int (13 : Int32)), .val (.long ((XT.ushrL q0 (51 : Int32)) ||| (q1 <<< ((13 : Int32).toInt64 &&& 63)))), .second] [(.long q1)]))
  refine OG.of (A := T14.setTop (mkF m 47 #[.val (.ref ar), .val (.int i1), .val (.ref b1), .val (.int (3 : Int32)), .val (.int (77 : Int32)), .val (.int (i1 + (1 : Int32))), .val (.int (13 : Int32)), .val (.long (XT.ushrL q1 (13 : Int32))), .second] [(.int (13 : Int32))])) (fun oT oK => ?_) ?_
  · show Steps p.tables e below (T14.setTop (mkF m 40 #[.val (.ref ar), .val (.int i1), .val (.ref b1), .val (.int (3 : Int32)), .val (.int (77 : Int32)), .val (.int (i1 + (1 : Int32))), .val (.int (13 : Int32)), .val (.long ((XT.ushrL q0 (51 : Int32)) ||| (q1 <<< ((13 : Int32).toInt64 &&& 63)))), .second] [(.long q1)])) oT
    refine XS.iload X14.here hx rfl (hb hby dF_40) rfl  ?_
    show Steps p.tables e below (T14.setTop (mkF m 42 #[.val (.ref ar), .val (.int i1), .val (.ref b1), .val (.int (3 : Int32)), .val (.int (77 : Int32)), .val (.int (i1 + (1 : Int32))), .val (.int (13 : Int32)), .val (.long ((XT.ushrL q0 (51 : Int32)) ||| (q1 <<< ((13 : Int32).toInt64 &&& 63)))), .second] [(.int (13 : Int32)), (.long q1)])) _
    refine XT.lushr X14.here hx rfl (hb hby dF_42) rfl ?_
    show Steps p.tables e below (T14.setTop (mkF m 43 #[.val (.ref ar), .val (.int i1), .val (.ref b1), .val (.int (3 : Int32)), .val (.int (77 : Int32)), .val (.int (i1 + (1 : Int32))), .val (.int (13 : Int32)), .val (.long ((XT.ushrL q0 (51 : Int32)) ||| (q1 <<< ((13 : Int32).toInt64 &&& 63)))), .second] [(.long (XT.ushrL q1 (13 : Int32)))])) _
    refine XT.lstore X14.here hx rfl (hb hby dF_43) rfl (l' := #[.val (.ref ar), .val (.int i1), .val (.ref b1), .val (.int (3 : Int32)), .val (.int (77 : Int32)), .val (.int (i1 + (1 : Int32))), .val (.int (13 : Int32)), .val (.long (XT.ushrL q1 (13 : Int32))), .second]) rfl ?_
    show Steps p.tables e below (T14.setTop (mkF m 45 #[.val (.ref ar), .val (.int i1), .val (.ref b1), .val (.int (3 : Int32)), .val (.int (77 : Int32)), .val (.int (i1 + (1 : Int32))), .val (.int (13 : Int32)), .val (.long (XT.ushrL q1 (13 : Int32))), .second] [])) _
    refine XS.iload X14.here hx rfl (hb hby dF_45) rfl  ?_
    exact oK
  show OG _ _ _ _ _ _ _ (T14.setTop (mkF m 47 #[.val (.ref ar), .val (.int i1), .val (.ref b1), .val (.int (3 : Int32)), .val (.int (77 : Int32)), .val (.int (i1 + (1 : Int32))), .val (.int (13 : Int32)), .val (.long (XT.ushrL q1 (13 : Int32))), .second] [(.int (13 : Int32))]))
  obtain ⟨T15, X15, e15, st15⟩ := getS2 X14 hx hZ hown (host := "") (Or.inl (hw _ (List.mem_of_getElem? (i := 7) rfl))) Via.refl e14 (SB.ext (f47).2) (g := (mkF m 47 #[.val (.ref ar), .val (.int i1), .val (.ref b1), .val (.int (3 : Int32)), .val (.int (77 : Int32)), .val (.int (i1 + (1 : Int32))), .val (.int (13 : Int32)), .val (.long (XT.ushrL q1 (13 : Int32))), .second] [(.int (13 : Int32))])) rfl (hb hby dF_47)
  refine OG.of st15 ?_
  show OG _ _ _ _ _ _ _ (T15.setTop (mkF m 50 #[.val (.ref ar), .val (.int i1), .val (.ref b1), .val (.int (3 : Int32)), .val (.int (77 : Int32)), .val (.int (i1 + (1 : Int32))), .val (.int (13 : Int32)), .val (.long (XT.ushrL q1 (13 : Int32))), .second] [(.ref wB), (.int (13 : Int32))]))
  refine OG.of (A := T15.setTop (mkF m 51 #[.val (.ref ar), .val (.int i1), .val (.ref b1), .val (.int (3 : Int32)), .val (.int (77 : Int32)), .val (.int (i1 + (1 : Int32))), .val (.int (13 : Int32)), .val (.long (XT.ushrL q1 (13 : Int32))), .second] [(.int (3 : Int32)), (.ref wB), (.int (13 : Int32))])) (fun oT oK => ?_) ?_
  · show Steps p.tables e below (T15.setTop (mkF m 50 #[.val (.ref ar), .val (.int i1), .val (.ref b1), .val (.int (3 : Int32)), .val (.int (77 : Int32)), .val (.int (i1 + (1 : Int32))), .val (.int (13 : Int32)), .val (.long (XT.ushrL q1 (13 : Int32))), .second] [(.ref wB), (.int (13 : Int32))])) oT
    refine XS.iloadN X15.here hx rfl (hb hby dF_50) rfl  ?_
    exact oK
  show OG _ _ _ _ _ _ _ (T15.setTop (mkF m 51 #[.val (.ref ar), .val (.int i1), .val (.ref b1), .val (.int (3 : Int32)), .val (.int (77 : Int32)), .val (.int (i1 + (1 : Int32))), .val (.int (13 : Int32)), .val (.long (XT.ushrL q1 (13 : Int32))), .second] [(.int (3 : Int32)), (.ref wB), (.int (13 : Int32))]))
  have cf50 := ((TB 3 (by decide)).ext (f47).2)
  obtain ⟨clf50, Arf50, If50, Hf50⟩ := cf50
  refine OG.of (X15.iaload hx (j := (3 : Int32)) (v := (.int (25 : Int32))) (by rw [e15]; exact Arf50.1) (State.isArrayOf_alike hZ.alike Arf50.2.1) Arf50.2.2 If50 Hf50 (g := (mkF m 51 #[.val (.ref ar), .val (.int i1), .val (.ref b1), .val (.int (3 : Int32)), .val (.int (77 : Int32)), .val (.int (i1 + (1 : Int32))), .val (.int (13 : Int32)), .val (.long (XT.ushrL q1 (13 : Int32))), .second] [(.int (3 : Int32)), (.ref wB), (.int (13 : Int32))])) rfl rfl (hb hby dF_51)) ?_
  show OG _ _ _ _ _ _ _ (T15.setTop (mkF m 52 #[.val (.ref ar), .val (.int i1), .val (.ref b1), .val (.int (3 : Int32)), .val (.int (77 : Int32)), .val (.int (i1 + (1 : Int32))), .val (.int (13 : Int32)), .val (.long (XT.ushrL q1 (13 : Int32))), .second] [(.int (25 : Int32)), (.int (13 : Int32))]))
  refine OG.of (A := T15.setTop (mkF m 80 #[.val (.ref ar), .val (.int i1), .val (.ref b1), .val (.int (3 : Int32)), .val (.int (77 : Int32)), .val (.int (i1 + (1 : Int32))), .val (.int (13 : Int32)), .val (.long (XT.ushrL q1 (13 : Int32))), .second] [(.long (1 : Int64)), (.long (XT.ushrL q1 (13 : Int32))), (.int (3 : Int32)), (.ref b1)])) (fun oT oK => ?_) ?_
  · show Steps p.tables e below (T15.setTop (mkF m 52 #[.val (.ref ar), .val (.int i1), .val (.ref b1), .val (.int (3 : Int32)), .val (.int (77 : Int32)), .val (.int (i1 + (1 : Int32))), .val (.int (13 : Int32)), .val (.long (XT.ushrL q1 (13 : Int32))), .second] [(.int (25 : Int32)), (.int (13 : Int32))])) oT
    refine XS.iadd X15.here hx rfl (hb hby dF_52) rfl ?_
    show Steps p.tables e below (T15.setTop (mkF m 53 #[.val (.ref ar), .val (.int i1), .val (.ref b1), .val (.int (3 : Int32)), .val (.int (77 : Int32)), .val (.int (i1 + (1 : Int32))), .val (.int (13 : Int32)), .val (.long (XT.ushrL q1 (13 : Int32))), .second] [(.int (38 : Int32))])) _
    refine XS.bipush X15.here hx rfl (hb hby dF_53) ?_
    show Steps p.tables e below (T15.setTop (mkF m 55 #[.val (.ref ar), .val (.int i1), .val (.ref b1), .val (.int (3 : Int32)), .val (.int (77 : Int32)), .val (.int (i1 + (1 : Int32))), .val (.int (13 : Int32)), .val (.long (XT.ushrL q1 (13 : Int32))), .second] [(.int (64 : Int32)), (.int (38 : Int32))])) _
    refine XS.icmpYes X15.here hx rfl (pc0 := 55) (pc' := 75) rfl (hb hby dF_55) rfl (XT.ii_le_t (by decide)) (by decide) (by decide) ?_
    show Steps p.tables e below (T15.setTop (mkF m 75 #[.val (.ref ar), .val (.int i1), .val (.ref b1), .val (.int (3 : Int32)), .val (.int (77 : Int32)), .val (.int (i1 + (1 : Int32))), .val (.int (13 : Int32)), .val (.long (XT.ushrL q1 (13 : Int32))), .second] [])) _
    refine XS.aloadN X15.here hx rfl (hb hby dF_75) rfl rfl  ?_
    show Steps p.tables e below (T15.setTop (mkF m 76 #[.val (.ref ar), .val (.int i1), .val (.ref b1), .val (.int (3 : Int32)), .val (.int (77 : Int32)), .val (.int (i1 + (1 : Int32))), .val (.int (13 : Int32)), .val (.long (XT.ushrL q1 (13 : Int32))), .second] [(.ref b1)])) _
    refine XS.iloadN X15.here hx rfl (hb hby dF_76) rfl  ?_
    show Steps p.tables e below (T15.setTop (mkF m 77 #[.val (.ref ar), .val (.int i1), .val (.ref b1), .val (.int (3 : Int32)), .val (.int (77 : Int32)), .val (.int (i1 + (1 : Int32))), .val (.int (13 : Int32)), .val (.long (XT.ushrL q1 (13 : Int32))), .second] [(.int (3 : Int32)), (.ref b1)])) _
    refine XT.lload X15.here hx rfl (hb hby dF_77) rfl  ?_
    show Steps p.tables e below (T15.setTop (mkF m 79 #[.val (.ref ar), .val (.int i1), .val (.ref b1), .val (.int (3 : Int32)), .val (.int (77 : Int32)), .val (.int (i1 + (1 : Int32))), .val (.int (13 : Int32)), .val (.long (XT.ushrL q1 (13 : Int32))), .second] [(.long (XT.ushrL q1 (13 : Int32))), (.int (3 : Int32)), (.ref b1)])) _
    refine XT.lconst X15.here hx rfl (hb hby dF_79) ?_
    exact oK
  show OG _ _ _ _ _ _ _ (T15.setTop (mkF m 80 #[.val (.ref ar), .val (.int i1), .val (.ref b1), .val (.int (3 : Int32)), .val (.int (77 : Int32)), .val (.int (i1 + (1 : Int32))), .val (.int (13 : Int32)), .val (.long (XT.ushrL q1 (13 : Int32))), .second] [(.long (1 : Int64)), (.long (XT.ushrL q1 (13 : Int32))), (.int (3 : Int32)), (.ref b1)]))
  obtain ⟨T16, X16, e16, st16⟩ := getS2 X15 hx hZ hown (host := "") (Or.inl (hw _ (List.mem_of_getElem? (i := 7) rfl))) Via.refl e15 (SB.ext (f47).2) (g := (mkF m 80 #[.val (.ref ar), .val (.int i1), .val (.ref b1), .val (.int (3 : Int32)), .val (.int (77 : Int32)), .val (.int (i1 + (1 : Int32))), .val (.int (13 : Int32)), .val (.long (XT.ushrL q1 (13 : Int32))), .second] [(.long (1 : Int64)), (.long (XT.ushrL q1 (13 : Int32))), (.int (3 : Int32)), (.ref b1)])) rfl (hb hby dF_80)
  refine OG.of st16 ?_
  show OG _ _ _ _ _ _ _ (T16.setTop (mkF m 83 #[.val (.ref ar), .val (.int i1), .val (.ref b1), .val (.int (3 : Int32)), .val (.int (77 : Int32)), .val (.int (i1 + (1 : Int32))), .val (.int (13 : Int32)), .val (.long (XT.ushrL q1 (13 : Int32))), .second] [(.ref wB), (.long (1 : Int64)), (.long (XT.ushrL q1 (13 : Int32))), (.int (3 : Int32)), (.ref b1)]))
  refine OG.of (A := T16.setTop (mkF m 84 #[.val (.ref ar), .val (.int i1), .val (.ref b1), .val (.int (3 : Int32)), .val (.int (77 : Int32)), .val (.int (i1 + (1 : Int32))), .val (.int (13 : Int32)), .val (.long (XT.ushrL q1 (13 : Int32))), .second] [(.int (3 : Int32)), (.ref wB), (.long (1 : Int64)), (.long (XT.ushrL q1 (13 : Int32))), (.int (3 : Int32)), (.ref b1)])) (fun oT oK => ?_) ?_
  · show Steps p.tables e below (T16.setTop (mkF m 83 #[.val (.ref ar), .val (.int i1), .val (.ref b1), .val (.int (3 : Int32)), .val (.int (77 : Int32)), .val (.int (i1 + (1 : Int32))), .val (.int (13 : Int32)), .val (.long (XT.ushrL q1 (13 : Int32))), .second] [(.ref wB), (.long (1 : Int64)), (.long (XT.ushrL q1 (13 : Int32))), (.int (3 : Int32)), (.ref b1)])) oT
    refine XS.iloadN X16.here hx rfl (hb hby dF_83) rfl  ?_
    exact oK
  show OG _ _ _ _ _ _ _ (T16.setTop (mkF m 84 #[.val (.ref ar), .val (.int i1), .val (.ref b1), .val (.int (3 : Int32)), .val (.int (77 : Int32)), .val (.int (i1 + (1 : Int32))), .val (.int (13 : Int32)), .val (.long (XT.ushrL q1 (13 : Int32))), .second] [(.int (3 : Int32)), (.ref wB), (.long (1 : Int64)), (.long (XT.ushrL q1 (13 : Int32))), (.int (3 : Int32)), (.ref b1)]))
  have cf51 := ((TB 3 (by decide)).ext (f47).2)
  obtain ⟨clf51, Arf51, If51, Hf51⟩ := cf51
  refine OG.of (X16.iaload hx (j := (3 : Int32)) (v := (.int (25 : Int32))) (by rw [e16]; exact Arf51.1) (State.isArrayOf_alike hZ.alike Arf51.2.1) Arf51.2.2 If51 Hf51 (g := (mkF m 84 #[.val (.ref ar), .val (.int i1), .val (.ref b1), .val (.int (3 : Int32)), .val (.int (77 : Int32)), .val (.int (i1 + (1 : Int32))), .val (.int (13 : Int32)), .val (.long (XT.ushrL q1 (13 : Int32))), .second] [(.int (3 : Int32)), (.ref wB), (.long (1 : Int64)), (.long (XT.ushrL q1 (13 : Int32))), (.int (3 : Int32)), (.ref b1)])) rfl rfl (hb hby dF_84)) ?_
  show OG _ _ _ _ _ _ _ (T16.setTop (mkF m 85 #[.val (.ref ar), .val (.int i1), .val (.ref b1), .val (.int (3 : Int32)), .val (.int (77 : Int32)), .val (.int (i1 + (1 : Int32))), .val (.int (13 : Int32)), .val (.long (XT.ushrL q1 (13 : Int32))), .second] [(.int (25 : Int32)), (.long (1 : Int64)), (.long (XT.ushrL q1 (13 : Int32))), (.int (3 : Int32)), (.ref b1)]))
  refine OG.of (A := T16.setTop (mkF m 89 #[.val (.ref ar), .val (.int i1), .val (.ref b1), .val (.int (3 : Int32)), .val (.int (77 : Int32)), .val (.int (i1 + (1 : Int32))), .val (.int (13 : Int32)), .val (.long (XT.ushrL q1 (13 : Int32))), .second] [(.long ((XT.ushrL q1 (13 : Int32)) &&& (((1 : Int64) <<< ((25 : Int32).toInt64 &&& 63)) - (1 : Int64)))), (.int (3 : Int32)), (.ref b1)])) (fun oT oK => ?_) ?_
  · show Steps p.tables e below (T16.setTop (mkF m 85 #[.val (.ref ar), .val (.int i1), .val (.ref b1), .val (.int (3 : Int32)), .val (.int (77 : Int32)), .val (.int (i1 + (1 : Int32))), .val (.int (13 : Int32)), .val (.long (XT.ushrL q1 (13 : Int32))), .second] [(.int (25 : Int32)), (.long (1 : Int64)), (.long (XT.ushrL q1 (13 : Int32))), (.int (3 : Int32)), (.ref b1)])) oT
    refine XT.lshl X16.here hx rfl (hb hby dF_85) rfl ?_
    show Steps p.tables e below (T16.setTop (mkF m 86 #[.val (.ref ar), .val (.int i1), .val (.ref b1), .val (.int (3 : Int32)), .val (.int (77 : Int32)), .val (.int (i1 + (1 : Int32))), .val (.int (13 : Int32)), .val (.long (XT.ushrL q1 (13 : Int32))), .second] [(.long ((1 : Int64) <<< ((25 : Int32).toInt64 &&& 63))), (.long (XT.ushrL q1 (13 : Int32))), (.int (3 : Int32)), (.ref b1)])) _
    refine XT.lconst X16.here hx rfl (hb hby dF_86) ?_
    show Steps p.tables e below (T16.setTop (mkF m 87 #[.val (.ref ar), .val (.int i1), .val (.ref b1), .val (.int (3 : Int32)), .val (.int (77 : Int32)), .val (.int (i1 + (1 : Int32))), .val (.int (13 : Int32)), .val (.long (XT.ushrL q1 (13 : Int32))), .second] [(.long (1 : Int64)), (.long ((1 : Int64) <<< ((25 : Int32).toInt64 &&& 63))), (.long (XT.ushrL q1 (13 : Int32))), (.int (3 : Int32)), (.ref b1)])) _
    refine XT.lsub X16.here hx rfl (hb hby dF_87) rfl ?_
    show Steps p.tables e below (T16.setTop (mkF m 88 #[.val (.ref ar), .val (.int i1), .val (.ref b1), .val (.int (3 : Int32)), .val (.int (77 : Int32)), .val (.int (i1 + (1 : Int32))), .val (.int (13 : Int32)), .val (.long (XT.ushrL q1 (13 : Int32))), .second] [(.long (((1 : Int64) <<< ((25 : Int32).toInt64 &&& 63)) - (1 : Int64))), (.long (XT.ushrL q1 (13 : Int32))), (.int (3 : Int32)), (.ref b1)])) _
    refine XT.land X16.here hx rfl (hb hby dF_88) rfl ?_
    exact oK
  show OG _ _ _ _ _ _ _ (T16.setTop (mkF m 89 #[.val (.ref ar), .val (.int i1), .val (.ref b1), .val (.int (3 : Int32)), .val (.int (77 : Int32)), .val (.int (i1 + (1 : Int32))), .val (.int (13 : Int32)), .val (.long (XT.ushrL q1 (13 : Int32))), .second] [(.long ((XT.ushrL q1 (13 : Int32)) &&& (((1 : Int64) <<< ((25 : Int32).toInt64 &&& 63)) - (1 : Int64)))), (.int (3 : Int32)), (.ref b1)]))
  show OG _ _ _ _ _ _ _ (T16.setTop (mkF m 89 #[.val (.ref ar), .val (.int i1), .val (.ref b1), .val (.int (3 : Int32)), .val (.int (77 : Int32)), .val (.int (i1 + (1 : Int32))), .val (.int (13 : Int32)), .val (.long (XT.ushrL q1 (13 : Int32))), .second] [(.long (own_l3 q0 q1 q2 q3)), (.int (3 : Int32)), (.ref b1)]))
  have cf52 := V13
  obtain ⟨clf52, Arf52, qf52, Sf52, Mf52, Hf52, Gf52⟩ := cf52
  obtain ⟨T17, h17, X17, e17, W17, st17⟩ := stJ X16 hx hZ e16 Arf52 (j := (3 : Int32)) (inb_of Sf52 ⟨by decide, by decide⟩) (g := (mkF m 89 #[.val (.ref ar), .val (.int i1), .val (.ref b1), .val (.int (3 : Int32)), .val (.int (77 : Int32)), .val (.int (i1 + (1 : Int32))), .val (.int (13 : Int32)), .val (.long (XT.ushrL q1 (13 : Int32))), .second] [(.long (own_l3 q0 q1 q2 q3)), (.int (3 : Int32)), (.ref b1)])) rfl rfl (hb hby dF_89)
  have f53 := (f40).other W17 ne_ar_b1
  have f54 := (f41).other W17 ne_ar_b1
  have f55 := (f42).other W17 ne_ar_b1
  have f56 := (f43).other W17 ne_ar_b1
  have f57 := (f44).other W17 ne_ar_b1
  have f58 := (f45).other W17 ne_ar_b1
  have V17 : Arv Z h17 b1 kc1 .long (10 : Int32) [(.long (own_l0 q0 q1 q2 q3)), (.long (own_l1 q0 q1 q2 q3)), (.long (own_l2 q0 q1 q2 q3)), (.long (own_l3 q0 q1 q2 q3)), (.long (0 : Int64)), (.long (0 : Int64)), (.long (0 : Int64)), (.long (0 : Int64)), (.long (0 : Int64)), (.long (0 : Int64))] (.long (0 : Int64)) := Arv.set Arf52 qf52 Sf52 Mf52 Hf52 Gf52 rfl W17 3 rfl (Nat.le_of_ble_eq_true rfl)
  have f60 := (f47).wr W17 gn_b1
  have K17 : Keep h0 h17 [] := (K13).wr W17 (Or.inr sz_b1)
  have Z17 : n0 ≤ h17.size := Nat.le_trans Z13 (Keep.of_wr W17).1
  have N17 := Fr.snoc X17 N13 gn_b1
  refine OG.of st17 ?_
  show OG _ _ _ _ _ _ _ (T17.setTop (mkF m 90 #[.val (.ref ar), .val (.int i1), .val (.ref b1), .val (.int (3 : Int32)), .val (.int (77 : Int32)), .val (.int (i1 + (1 : Int32))), .val (.int (13 : Int32)), .val (.long (XT.ushrL q1 (13 : Int32))), .second] []))
  refine OG.of (A := T17.setTop (mkF m 13 #[.val (.ref ar), .val (.int i1), .val (.ref b1), .val (.int (4 : Int32)), .val (.int (77 : Int32)), .val (.int (i1 + (1 : Int32))), .val (.int (13 : Int32)), .val (.long (XT.ushrL q1 (13 : Int32))), .second] [])) (fun oT oK => ?_) ?_
  · show Steps p.tables e below (T17.setTop (mkF m 90 #[.val (.ref ar), .val (.int i1), .val (.ref b1), .val (.int (3 : Int32)), .val (.int (77 : Int32)), .val (.int (i1 + (1 : Int32))), .val (.int (13 : Int32)), .val (.long (XT.ushrL q1 (13 : Int32))), .second] [])) oT
    refine XS.iinc X17.here hx rfl (hb hby dF_90) rfl (l' := #[.val (.ref ar), .val (.int i1), .val (.ref b1), .val (.int (4 : Int32)), .val (.int (77 : Int32)), .val (.int (i1 + (1 : Int32))), .val (.int (13 : Int32)), .val (.long (XT.ushrL q1 (13 : Int32))), .second]) rfl ?_
    show Steps p.tables e below (T17.setTop (mkF m 93 #[.val (.ref ar), .val (.int i1), .val (.ref b1), .val (.int (4 : Int32)), .val (.int (77 : Int32)), .val (.int (i1 + (1 : Int32))), .val (.int (13 : Int32)), .val (.long (XT.ushrL q1 (13 : Int32))), .second] [])) _
    refine XS.goto X17.here hx rfl (pc0 := 93) (pc' := 7) rfl (hb hby dF_93) (by decide) (by decide) ?_
    show Steps p.tables e below (T17.setTop (mkF m 7 #[.val (.ref ar), .val (.int i1), .val (.ref b1), .val (.int (4 : Int32)), .val (.int (77 : Int32)), .val (.int (i1 + (1 : Int32))), .val (.int (13 : Int32)), .val (.long (XT.ushrL q1 (13 : Int32))), .second] [])) _
    refine XS.iloadN X17.here hx rfl (hb hby dF_7) rfl  ?_
    show Steps p.tables e below (T17.setTop (mkF m 8 #[.val (.ref ar), .val (.int i1), .val (.ref b1), .val (.int (4 : Int32)), .val (.int (77 : Int32)), .val (.int (i1 + (1 : Int32))), .val (.int (13 : Int32)), .val (.long (XT.ushrL q1 (13 : Int32))), .second] [(.int (4 : Int32))])) _
    refine XS.bipush X17.here hx rfl (hb hby dF_8) ?_
    show Steps p.tables e below (T17.setTop (mkF m 10 #[.val (.ref ar), .val (.int i1), .val (.ref b1), .val (.int (4 : Int32)), .val (.int (77 : Int32)), .val (.int (i1 + (1 : Int32))), .val (.int (13 : Int32)), .val (.long (XT.ushrL q1 (13 : Int32))), .second] [(.int (10 : Int32)), (.int (4 : Int32))])) _
    refine XS.icmpNo X17.here hx rfl (hb hby dF_10) rfl (XT.ii_ge_f (by decide)) ?_
    exact oK
  show OG _ _ _ _ _ _ _ (T17.setTop (mkF m 13 #[.val (.ref ar), .val (.int i1), .val (.ref b1), .val (.int (4 : Int32)), .val (.int (77 : Int32)), .val (.int (i1 + (1 : Int32))), .val (.int (13 : Int32)), .val (.long (XT.ushrL q1 (13 : Int32))), .second] []))
  obtain ⟨T18, X18, e18, st18⟩ := getS2 X17 hx hZ hown (host := "") (Or.inl (hw _ (List.mem_of_getElem? (i := 5) rfl))) Via.refl e17 (SP.ext (f60).2) (g := (mkF m 13 #[.val (.ref ar), .val (.int i1), .val (.ref b1), .val (.int (4 : Int32)), .val (.int (77 : Int32)), .val (.int (i1 + (1 : Int32))), .val (.int (13 : Int32)), .val (.long (XT.ushrL q1 (13 : Int32))), .second] [])) rfl (hb hby dF_13)
  refine OG.of st18 ?_
  show OG _ _ _ _ _ _ _ (T18.setTop (mkF m 16 #[.val (.ref ar), .val (.int i1), .val (.ref b1), .val (.int (4 : Int32)), .val (.int (77 : Int32)), .val (.int (i1 + (1 : Int32))), .val (.int (13 : Int32)), .val (.long (XT.ushrL q1 (13 : Int32))), .second] [(.ref wP)]))
  refine OG.of (A := T18.setTop (mkF m 17 #[.val (.ref ar), .val (.int i1), .val (.ref b1), .val (.int (4 : Int32)), .val (.int (77 : Int32)), .val (.int (i1 + (1 : Int32))), .val (.int (13 : Int32)), .val (.long (XT.ushrL q1 (13 : Int32))), .second] [(.int (4 : Int32)), (.ref wP)])) (fun oT oK => ?_) ?_
  · show Steps p.tables e below (T18.setTop (mkF m 16 #[.val (.ref ar), .val (.int i1), .val (.ref b1), .val (.int (4 : Int32)), .val (.int (77 : Int32)), .val (.int (i1 + (1 : Int32))), .val (.int (13 : Int32)), .val (.long (XT.ushrL q1 (13 : Int32))), .second] [(.ref wP)])) oT
    refine XS.iloadN X18.here hx rfl (hb hby dF_16) rfl  ?_
    exact oK
  show OG _ _ _ _ _ _ _ (T18.setTop (mkF m 17 #[.val (.ref ar), .val (.int i1), .val (.ref b1), .val (.int (4 : Int32)), .val (.int (77 : Int32)), .val (.int (i1 + (1 : Int32))), .val (.int (13 : Int32)), .val (.long (XT.ushrL q1 (13 : Int32))), .second] [(.int (4 : Int32)), (.ref wP)]))
  have cf61 := ((TP 4 (by decide)).ext (f60).2)
  obtain ⟨clf61, Arf61, If61, Hf61⟩ := cf61
  refine OG.of (X18.iaload hx (j := (4 : Int32)) (v := (.int (102 : Int32))) (by rw [e18]; exact Arf61.1) (State.isArrayOf_alike hZ.alike Arf61.2.1) Arf61.2.2 If61 Hf61 (g := (mkF m 17 #[.val (.ref ar), .val (.int i1), .val (.ref b1), .val (.int (4 : Int32)), .val (.int (77 : Int32)), .val (.int (i1 + (1 : Int32))), .val (.int (13 : Int32)), .val (.long (XT.ushrL q1 (13 : Int32))), .second] [(.int (4 : Int32)), (.ref wP)])) rfl rfl (hb hby dF_17)) ?_
  show OG _ _ _ _ _ _ _ (T18.setTop (mkF m 18 #[.val (.ref ar), .val (.int i1), .val (.ref b1), .val (.int (4 : Int32)), .val (.int (77 : Int32)), .val (.int (i1 + (1 : Int32))), .val (.int (13 : Int32)), .val (.long (XT.ushrL q1 (13 : Int32))), .second] [(.int (102 : Int32))]))
  refine OG.of (A := T18.setTop (mkF m 39 #[.val (.ref ar), .val (.int i1), .val (.ref b1), .val (.int (4 : Int32)), .val (.int (102 : Int32)), .val (.int (i1 + (1 : Int32))), .val (.int (38 : Int32)), .val (.long (XT.ushrL q1 (13 : Int32))), .second] [(.int (i1 + (1 : Int32))), (.ref ar)])) (fun oT oK => ?_) ?_
  · show Steps p.tables e below (T18.setTop (mkF m 18 #[.val (.ref ar), .val (.int i1), .val (.ref b1), .val (.int (4 : Int32)), .val (.int (77 : Int32)), .val (.int (i1 + (1 : Int32))), .val (.int (13 : Int32)), .val (.long (XT.ushrL q1 (13 : Int32))), .second] [(.int (102 : Int32))])) oT
    refine XS.istore X18.here hx rfl (hb hby dF_18) rfl (l' := #[.val (.ref ar), .val (.int i1), .val (.ref b1), .val (.int (4 : Int32)), .val (.int (102 : Int32)), .val (.int (i1 + (1 : Int32))), .val (.int (13 : Int32)), .val (.long (XT.ushrL q1 (13 : Int32))), .second]) rfl ?_
    show Steps p.tables e below (T18.setTop (mkF m 20 #[.val (.ref ar), .val (.int i1), .val (.ref b1), .val (.int (4 : Int32)), .val (.int (102 : Int32)), .val (.int (i1 + (1 : Int32))), .val (.int (13 : Int32)), .val (.long (XT.ushrL q1 (13 : Int32))), .second] [])) _
    refine XS.iloadN X18.here hx rfl (hb hby dF_20) rfl  ?_
    show Steps p.tables e below (T18.setTop (mkF m 21 #[.val (.ref ar), .val (.int i1), .val (.ref b1), .val (.int (4 : Int32)), .val (.int (102 : Int32)), .val (.int (i1 + (1 : Int32))), .val (.int (13 : Int32)), .val (.long (XT.ushrL q1 (13 : Int32))), .second] [(.int i1)])) _
    refine XS.iload X18.here hx rfl (hb hby dF_21) rfl  ?_
    show Steps p.tables e below (T18.setTop (mkF m 23 #[.val (.ref ar), .val (.int i1), .val (.ref b1), .val (.int (4 : Int32)), .val (.int (102 : Int32)), .val (.int (i1 + (1 : Int32))), .val (.int (13 : Int32)), .val (.long (XT.ushrL q1 (13 : Int32))), .second] [(.int (102 : Int32)), (.int i1)])) _
    refine XS.bipush X18.here hx rfl (hb hby dF_23) ?_
    show Steps p.tables e below (T18.setTop (mkF m 25 #[.val (.ref ar), .val (.int i1), .val (.ref b1), .val (.int (4 : Int32)), .val (.int (102 : Int32)), .val (.int (i1 + (1 : Int32))), .val (.int (13 : Int32)), .val (.long (XT.ushrL q1 (13 : Int32))), .second] [(.int (64 : Int32)), (.int (102 : Int32)), (.int i1)])) _
    refine XS.idiv X18.here hx rfl (hb hby dF_25) rfl (by decide) ?_
    show Steps p.tables e below (T18.setTop (mkF m 26 #[.val (.ref ar), .val (.int i1), .val (.ref b1), .val (.int (4 : Int32)), .val (.int (102 : Int32)), .val (.int (i1 + (1 : Int32))), .val (.int (13 : Int32)), .val (.long (XT.ushrL q1 (13 : Int32))), .second] [(.int (1 : Int32)), (.int i1)])) _
    refine XS.iadd X18.here hx rfl (hb hby dF_26) rfl ?_
    show Steps p.tables e below (T18.setTop (mkF m 27 #[.val (.ref ar), .val (.int i1), .val (.ref b1), .val (.int (4 : Int32)), .val (.int (102 : Int32)), .val (.int (i1 + (1 : Int32))), .val (.int (13 : Int32)), .val (.long (XT.ushrL q1 (13 : Int32))), .second] [(.int (i1 + (1 : Int32)))])) _
    refine XS.istore X18.here hx rfl (hb hby dF_27) rfl (l' := #[.val (.ref ar), .val (.int i1), .val (.ref b1), .val (.int (4 : Int32)), .val (.int (102 : Int32)), .val (.int (i1 + (1 : Int32))), .val (.int (13 : Int32)), .val (.long (XT.ushrL q1 (13 : Int32))), .second]) rfl ?_
    show Steps p.tables e below (T18.setTop (mkF m 29 #[.val (.ref ar), .val (.int i1), .val (.ref b1), .val (.int (4 : Int32)), .val (.int (102 : Int32)), .val (.int (i1 + (1 : Int32))), .val (.int (13 : Int32)), .val (.long (XT.ushrL q1 (13 : Int32))), .second] [])) _
    refine XS.iload X18.here hx rfl (hb hby dF_29) rfl  ?_
    show Steps p.tables e below (T18.setTop (mkF m 31 #[.val (.ref ar), .val (.int i1), .val (.ref b1), .val (.int (4 : Int32)), .val (.int (102 : Int32)), .val (.int (i1 + (1 : Int32))), .val (.int (13 : Int32)), .val (.long (XT.ushrL q1 (13 : Int32))), .second] [(.int (102 : Int32))])) _
    refine XS.bipush X18.here hx rfl (hb hby dF_31) ?_
    show Steps p.tables e below (T18.setTop (mkF m 33 #[.val (.ref ar), .val (.int i1), .val (.ref b1), .val (.int (4 : Int32)), .val (.int (102 : Int32)), .val (.int (i1 + (1 : Int32))), .val (.int (13 : Int32)), .val (.long (XT.ushrL q1 (13 : Int32))), .second] [(.int (64 : Int32)), (.int (102 : Int32))])) _
    refine Jvm.RoadKit.iremM X18 hx rfl (hb hby dF_33) rfl (by decide) ?_
    show Steps p.tables e below (T18.setTop (mkF m 34 #[.val (.ref ar), .val (.int i1), .val (.ref b1), .val (.int (4 : Int32)), .val (.int (102 : Int32)), .val (.int (i1 + (1 : Int32))), .val (.int (13 : Int32)), .val (.long (XT.ushrL q1 (13 : Int32))), .second] [(.int (38 : Int32))])) _
    refine XS.istore X18.here hx rfl (hb hby dF_34) rfl (l' := #[.val (.ref ar), .val (.int i1), .val (.ref b1), .val (.int (4 : Int32)), .val (.int (102 : Int32)), .val (.int (i1 + (1 : Int32))), .val (.int (38 : Int32)), .val (.long (XT.ushrL q1 (13 : Int32))), .second]) rfl ?_
    show Steps p.tables e below (T18.setTop (mkF m 36 #[.val (.ref ar), .val (.int i1), .val (.ref b1), .val (.int (4 : Int32)), .val (.int (102 : Int32)), .val (.int (i1 + (1 : Int32))), .val (.int (38 : Int32)), .val (.long (XT.ushrL q1 (13 : Int32))), .second] [])) _
    refine XS.aloadN X18.here hx rfl (hb hby dF_36) rfl rfl  ?_
    show Steps p.tables e below (T18.setTop (mkF m 37 #[.val (.ref ar), .val (.int i1), .val (.ref b1), .val (.int (4 : Int32)), .val (.int (102 : Int32)), .val (.int (i1 + (1 : Int32))), .val (.int (38 : Int32)), .val (.long (XT.ushrL q1 (13 : Int32))), .second] [(.ref ar)])) _
    refine XS.iload X18.here hx rfl (hb hby dF_37) rfl  ?_
    exact oK
  show OG _ _ _ _ _ _ _ (T18.setTop (mkF m 39 #[.val (.ref ar), .val (.int i1), .val (.ref b1), .val (.int (4 : Int32)), .val (.int (102 : Int32)), .val (.int (i1 + (1 : Int32))), .val (.int (38 : Int32)), .val (.long (XT.ushrL q1 (13 : Int32))), .second] [(.int (i1 + (1 : Int32))), (.ref ar)]))
  have cf62 := f54
  obtain ⟨clf62, Arf62, If62, Hf62⟩ := cf62
  refine OG.of (X18.laload hx (j := (i1 + (1 : Int32))) (v := (.long q1)) (by rw [e18]; exact Arf62.1) (State.isArrayOf_alike hZ.alike Arf62.2.1) Arf62.2.2 If62 Hf62 (g := (mkF m 39 #[.val (.ref ar), .val (.int i1), .val (.ref b1), .val (.int (4 : Int32)), .val (.int (102 : Int32)), .val (.int (i1 + (1 : Int32))), .val (.int (38 : Int32)), .val (.long (XT.ushrL q1 (13 : Int32))), .second] [(.int (i1 + (1 : Int32))), (.ref ar)])) rfl rfl (hb hby dF_39)) ?_
  show OG _ _ _ _ _ _ _ (T18.setTop (mkF m 40 #[.val (.ref ar), .val (.int i1), .val (.ref b1), .val (.int (4 : Int32)), .val (.int (102 : Int32)), .val (.int (i1 + (1 : Int32))), .val (.int (38 : Int32)), .val (.long (XT.ushrL q1 (13 : Int32))), .second] [(.long q1)]))
  refine OG.of (A := T18.setTop (mkF m 47 #[.val (.ref ar), .val (.int i1), .val (.ref b1), .val (.int (4 : Int32)), .val (.int (102 : Int32)), .val (.int (i1 + (1 : Int32))), .val (.int (38 : Int32)), .val (.long (XT.ushrL q1 (38 : Int32))), .second] [(.int (38 : Int32))])) (fun oT oK => ?_) ?_
  · show Steps p.tables e below (T18.setTop (mkF m 40 #[.val (.ref ar), .val (.int i1), .val (.ref b1), .val (.int (4 : Int32)), .val (.int (102 : Int32)), .val (.int (i1 + (1 : Int32))), .val (.int (38 : Int32)), .val (.long (XT.ushrL q1 (13 : Int32))), .second] [(.long q1)])) oT
    refine XS.iload X18.here hx rfl (hb hby dF_40) rfl  ?_
    show Steps p.tables e below (T18.setTop (mkF m 42 #[.val (.ref ar), .val (.int i1), .val (.ref b1), .val (.int (4 : Int32)), .val (.int (102 : Int32)), .val (.int (i1 + (1 : Int32))), .val (.int (38 : Int32)), .val (.long (XT.ushrL q1 (13 : Int32))), .second] [(.int (38 : Int32)), (.long q1)])) _
    refine XT.lushr X18.here hx rfl (hb hby dF_42) rfl ?_
    show Steps p.tables e below (T18.setTop (mkF m 43 #[.val (.ref ar), .val (.int i1), .val (.ref b1), .val (.int (4 : Int32)), .val (.int (102 : Int32)), .val (.int (i1 + (1 : Int32))), .val (.int (38 : Int32)), .val (.long (XT.ushrL q1 (13 : Int32))), .second] [(.long (XT.ushrL q1 (38 : Int32)))])) _
    refine XT.lstore X18.here hx rfl (hb hby dF_43) rfl (l' := #[.val (.ref ar), .val (.int i1), .val (.ref b1), .val (.int (4 : Int32)), .val (.int (102 : Int32)), .val (.int (i1 + (1 : Int32))), .val (.int (38 : Int32)), .val (.long (XT.ushrL q1 (38 : Int32))), .second]) rfl ?_
    show Steps p.tables e below (T18.setTop (mkF m 45 #[.val (.ref ar), .val (.int i1), .val (.ref b1), .val (.int (4 : Int32)), .val (.int (102 : Int32)), .val (.int (i1 + (1 : Int32))), .val (.int (38 : Int32)), .val (.long (XT.ushrL q1 (38 : Int32))), .second] [])) _
    refine XS.iload X18.here hx rfl (hb hby dF_45) rfl  ?_
    exact oK
  show OG _ _ _ _ _ _ _ (T18.setTop (mkF m 47 #[.val (.ref ar), .val (.int i1), .val (.ref b1), .val (.int (4 : Int32)), .val (.int (102 : Int32)), .val (.int (i1 + (1 : Int32))), .val (.int (38 : Int32)), .val (.long (XT.ushrL q1 (38 : Int32))), .second] [(.int (38 : Int32))]))
  obtain ⟨T19, X19, e19, st19⟩ := getS2 X18 hx hZ hown (host := "") (Or.inl (hw _ (List.mem_of_getElem? (i := 7) rfl))) Via.refl e18 (SB.ext (f60).2) (g := (mkF m 47 #[.val (.ref ar), .val (.int i1), .val (.ref b1), .val (.int (4 : Int32)), .val (.int (102 : Int32)), .val (.int (i1 + (1 : Int32))), .val (.int (38 : Int32)), .val (.long (XT.ushrL q1 (38 : Int32))), .second] [(.int (38 : Int32))])) rfl (hb hby dF_47)
  refine OG.of st19 ?_
  show OG _ _ _ _ _ _ _ (T19.setTop (mkF m 50 #[.val (.ref ar), .val (.int i1), .val (.ref b1), .val (.int (4 : Int32)), .val (.int (102 : Int32)), .val (.int (i1 + (1 : Int32))), .val (.int (38 : Int32)), .val (.long (XT.ushrL q1 (38 : Int32))), .second] [(.ref wB), (.int (38 : Int32))]))
  refine OG.of (A := T19.setTop (mkF m 51 #[.val (.ref ar), .val (.int i1), .val (.ref b1), .val (.int (4 : Int32)), .val (.int (102 : Int32)), .val (.int (i1 + (1 : Int32))), .val (.int (38 : Int32)), .val (.long (XT.ushrL q1 (38 : Int32))), .second] [(.int (4 : Int32)), (.ref wB), (.int (38 : Int32))])) (fun oT oK => ?_) ?_
  · show Steps p.tables e below (T19.setTop (mkF m 50 #[.val (.ref ar), .val (.int i1), .val (.ref b1), .val (.int (4 : Int32)), .val (.int (102 : Int32)), .val (.int (i1 + (1 : Int32))), .val (.int (38 : Int32)), .val (.long (XT.ushrL q1 (38 : Int32))), .second] [(.ref wB), (.int (38 : Int32))])) oT
    refine XS.iloadN X19.here hx rfl (hb hby dF_50) rfl  ?_
    exact oK
  show OG _ _ _ _ _ _ _ (T19.setTop (mkF m 51 #[.val (.ref ar), .val (.int i1), .val (.ref b1), .val (.int (4 : Int32)), .val (.int (102 : Int32)), .val (.int (i1 + (1 : Int32))), .val (.int (38 : Int32)), .val (.long (XT.ushrL q1 (38 : Int32))), .second] [(.int (4 : Int32)), (.ref wB), (.int (38 : Int32))]))
  have cf63 := ((TB 4 (by decide)).ext (f60).2)
  obtain ⟨clf63, Arf63, If63, Hf63⟩ := cf63
  refine OG.of (X19.iaload hx (j := (4 : Int32)) (v := (.int (26 : Int32))) (by rw [e19]; exact Arf63.1) (State.isArrayOf_alike hZ.alike Arf63.2.1) Arf63.2.2 If63 Hf63 (g := (mkF m 51 #[.val (.ref ar), .val (.int i1), .val (.ref b1), .val (.int (4 : Int32)), .val (.int (102 : Int32)), .val (.int (i1 + (1 : Int32))), .val (.int (38 : Int32)), .val (.long (XT.ushrL q1 (38 : Int32))), .second] [(.int (4 : Int32)), (.ref wB), (.int (38 : Int32))])) rfl rfl (hb hby dF_51)) ?_
  show OG _ _ _ _ _ _ _ (T19.setTop (mkF m 52 #[.val (.ref ar), .val (.int i1), .val (.ref b1), .val (.int (4 : Int32)), .val (.int (102 : Int32)), .val (.int (i1 + (1 : Int32))), .val (.int (38 : Int32)), .val (.long (XT.ushrL q1 (38 : Int32))), .second] [(.int (26 : Int32)), (.int (38 : Int32))]))
  refine OG.of (A := T19.setTop (mkF m 80 #[.val (.ref ar), .val (.int i1), .val (.ref b1), .val (.int (4 : Int32)), .val (.int (102 : Int32)), .val (.int (i1 + (1 : Int32))), .val (.int (38 : Int32)), .val (.long (XT.ushrL q1 (38 : Int32))), .second] [(.long (1 : Int64)), (.long (XT.ushrL q1 (38 : Int32))), (.int (4 : Int32)), (.ref b1)])) (fun oT oK => ?_) ?_
  · show Steps p.tables e below (T19.setTop (mkF m 52 #[.val (.ref ar), .val (.int i1), .val (.ref b1), .val (.int (4 : Int32)), .val (.int (102 : Int32)), .val (.int (i1 + (1 : Int32))), .val (.int (38 : Int32)), .val (.long (XT.ushrL q1 (38 : Int32))), .second] [(.int (26 : Int32)), (.int (38 : Int32))])) oT
    refine XS.iadd X19.here hx rfl (hb hby dF_52) rfl ?_
    show Steps p.tables e below (T19.setTop (mkF m 53 #[.val (.ref ar), .val (.int i1), .val (.ref b1), .val (.int (4 : Int32)), .val (.int (102 : Int32)), .val (.int (i1 + (1 : Int32))), .val (.int (38 : Int32)), .val (.long (XT.ushrL q1 (38 : Int32))), .second] [(.int (64 : Int32))])) _
    refine XS.bipush X19.here hx rfl (hb hby dF_53) ?_
    show Steps p.tables e below (T19.setTop (mkF m 55 #[.val (.ref ar), .val (.int i1), .val (.ref b1), .val (.int (4 : Int32)), .val (.int (102 : Int32)), .val (.int (i1 + (1 : Int32))), .val (.int (38 : Int32)), .val (.long (XT.ushrL q1 (38 : Int32))), .second] [(.int (64 : Int32)), (.int (64 : Int32))])) _
    refine XS.icmpYes X19.here hx rfl (pc0 := 55) (pc' := 75) rfl (hb hby dF_55) rfl (XT.ii_le_t (by decide)) (by decide) (by decide) ?_
    show Steps p.tables e below (T19.setTop (mkF m 75 #[.val (.ref ar), .val (.int i1), .val (.ref b1), .val (.int (4 : Int32)), .val (.int (102 : Int32)), .val (.int (i1 + (1 : Int32))), .val (.int (38 : Int32)), .val (.long (XT.ushrL q1 (38 : Int32))), .second] [])) _
    refine XS.aloadN X19.here hx rfl (hb hby dF_75) rfl rfl  ?_
    show Steps p.tables e below (T19.setTop (mkF m 76 #[.val (.ref ar), .val (.int i1), .val (.ref b1), .val (.int (4 : Int32)), .val (.int (102 : Int32)), .val (.int (i1 + (1 : Int32))), .val (.int (38 : Int32)), .val (.long (XT.ushrL q1 (38 : Int32))), .second] [(.ref b1)])) _
    refine XS.iloadN X19.here hx rfl (hb hby dF_76) rfl  ?_
    show Steps p.tables e below (T19.setTop (mkF m 77 #[.val (.ref ar), .val (.int i1), .val (.ref b1), .val (.int (4 : Int32)), .val (.int (102 : Int32)), .val (.int (i1 + (1 : Int32))), .val (.int (38 : Int32)), .val (.long (XT.ushrL q1 (38 : Int32))), .second] [(.int (4 : Int32)), (.ref b1)])) _
    refine XT.lload X19.here hx rfl (hb hby dF_77) rfl  ?_
    show Steps p.tables e below (T19.setTop (mkF m 79 #[.val (.ref ar), .val (.int i1), .val (.ref b1), .val (.int (4 : Int32)), .val (.int (102 : Int32)), .val (.int (i1 + (1 : Int32))), .val (.int (38 : Int32)), .val (.long (XT.ushrL q1 (38 : Int32))), .second] [(.long (XT.ushrL q1 (38 : Int32))), (.int (4 : Int32)), (.ref b1)])) _
    refine XT.lconst X19.here hx rfl (hb hby dF_79) ?_
    exact oK
  show OG _ _ _ _ _ _ _ (T19.setTop (mkF m 80 #[.val (.ref ar), .val (.int i1), .val (.ref b1), .val (.int (4 : Int32)), .val (.int (102 : Int32)), .val (.int (i1 + (1 : Int32))), .val (.int (38 : Int32)), .val (.long (XT.ushrL q1 (38 : Int32))), .second] [(.long (1 : Int64)), (.long (XT.ushrL q1 (38 : Int32))), (.int (4 : Int32)), (.ref b1)]))
  obtain ⟨T20, X20, e20, st20⟩ := getS2 X19 hx hZ hown (host := "") (Or.inl (hw _ (List.mem_of_getElem? (i := 7) rfl))) Via.refl e19 (SB.ext (f60).2) (g := (mkF m 80 #[.val (.ref ar), .val (.int i1), .val (.ref b1), .val (.int (4 : Int32)), .val (.int (102 : Int32)), .val (.int (i1 + (1 : Int32))), .val (.int (38 : Int32)), .val (.long (XT.ushrL q1 (38 : Int32))), .second] [(.long (1 : Int64)), (.long (XT.ushrL q1 (38 : Int32))), (.int (4 : Int32)), (.ref b1)])) rfl (hb hby dF_80)
  refine OG.of st20 ?_
  show OG _ _ _ _ _ _ _ (T20.setTop (mkF m 83 #[.val (.ref ar), .val (.int i1), .val (.ref b1), .val (.int (4 : Int32)), .val (.int (102 : Int32)), .val (.int (i1 + (1 : Int32))), .val (.int (38 : Int32)), .val (.long (XT.ushrL q1 (38 : Int32))), .second] [(.ref wB), (.long (1 : Int64)), (.long (XT.ushrL q1 (38 : Int32))), (.int (4 : Int32)), (.ref b1)]))
  refine OG.of (A := T20.setTop (mkF m 84 #[.val (.ref ar), .val (.int i1), .val (.ref b1), .val (.int (4 : Int32)), .val (.int (102 : Int32)), .val (.int (i1 + (1 : Int32))), .val (.int (38 : Int32)), .val (.long (XT.ushrL q1 (38 : Int32))), .second] [(.int (4 : Int32)), (.ref wB), (.long (1 : Int64)), (.long (XT.ushrL q1 (38 : Int32))), (.int (4 : Int32)), (.ref b1)])) (fun oT oK => ?_) ?_
  · show Steps p.tables e below (T20.setTop (mkF m 83 #[.val (.ref ar), .val (.int i1), .val (.ref b1), .val (.int (4 : Int32)), .val (.int (102 : Int32)), .val (.int (i1 + (1 : Int32))), .val (.int (38 : Int32)), .val (.long (XT.ushrL q1 (38 : Int32))), .second] [(.ref wB), (.long (1 : Int64)), (.long (XT.ushrL q1 (38 : Int32))), (.int (4 : Int32)), (.ref b1)])) oT
    refine XS.iloadN X20.here hx rfl (hb hby dF_83) rfl  ?_
    exact oK
  show OG _ _ _ _ _ _ _ (T20.setTop (mkF m 84 #[.val (.ref ar), .val (.int i1), .val (.ref b1), .val (.int (4 : Int32)), .val (.int (102 : Int32)), .val (.int (i1 + (1 : Int32))), .val (.int (38 : Int32)), .val (.long (XT.ushrL q1 (38 : Int32))), .second] [(.int (4 : Int32)), (.ref wB), (.long (1 : Int64)), (.long (XT.ushrL q1 (38 : Int32))), (.int (4 : Int32)), (.ref b1)]))
  have cf64 := ((TB 4 (by decide)).ext (f60).2)
  obtain ⟨clf64, Arf64, If64, Hf64⟩ := cf64
  refine OG.of (X20.iaload hx (j := (4 : Int32)) (v := (.int (26 : Int32))) (by rw [e20]; exact Arf64.1) (State.isArrayOf_alike hZ.alike Arf64.2.1) Arf64.2.2 If64 Hf64 (g := (mkF m 84 #[.val (.ref ar), .val (.int i1), .val (.ref b1), .val (.int (4 : Int32)), .val (.int (102 : Int32)), .val (.int (i1 + (1 : Int32))), .val (.int (38 : Int32)), .val (.long (XT.ushrL q1 (38 : Int32))), .second] [(.int (4 : Int32)), (.ref wB), (.long (1 : Int64)), (.long (XT.ushrL q1 (38 : Int32))), (.int (4 : Int32)), (.ref b1)])) rfl rfl (hb hby dF_84)) ?_
  show OG _ _ _ _ _ _ _ (T20.setTop (mkF m 85 #[.val (.ref ar), .val (.int i1), .val (.ref b1), .val (.int (4 : Int32)), .val (.int (102 : Int32)), .val (.int (i1 + (1 : Int32))), .val (.int (38 : Int32)), .val (.long (XT.ushrL q1 (38 : Int32))), .second] [(.int (26 : Int32)), (.long (1 : Int64)), (.long (XT.ushrL q1 (38 : Int32))), (.int (4 : Int32)), (.ref b1)]))
  refine OG.of (A := T20.setTop (mkF m 89 #[.val (.ref ar), .val (.int i1), .val (.ref b1), .val (.int (4 : Int32)), .val (.int (102 : Int32)), .val (.int (i1 + (1 : Int32))), .val (.int (38 : Int32)), .val (.long (XT.ushrL q1 (38 : Int32))), .second] [(.long ((XT.ushrL q1 (38 : Int32)) &&& (((1 : Int64) <<< ((26 : Int32).toInt64 &&& 63)) - (1 : Int64)))), (.int (4 : Int32)), (.ref b1)])) (fun oT oK => ?_) ?_
  · show Steps p.tables e below (T20.setTop (mkF m 85 #[.val (.ref ar), .val (.int i1), .val (.ref b1), .val (.int (4 : Int32)), .val (.int (102 : Int32)), .val (.int (i1 + (1 : Int32))), .val (.int (38 : Int32)), .val (.long (XT.ushrL q1 (38 : Int32))), .second] [(.int (26 : Int32)), (.long (1 : Int64)), (.long (XT.ushrL q1 (38 : Int32))), (.int (4 : Int32)), (.ref b1)])) oT
    refine XT.lshl X20.here hx rfl (hb hby dF_85) rfl ?_
    show Steps p.tables e below (T20.setTop (mkF m 86 #[.val (.ref ar), .val (.int i1), .val (.ref b1), .val (.int (4 : Int32)), .val (.int (102 : Int32)), .val (.int (i1 + (1 : Int32))), .val (.int (38 : Int32)), .val (.long (XT.ushrL q1 (38 : Int32))), .second] [(.long ((1 : Int64) <<< ((26 : Int32).toInt64 &&& 63))), (.long (XT.ushrL q1 (38 : Int32))), (.int (4 : Int32)), (.ref b1)])) _
    refine XT.lconst X20.here hx rfl (hb hby dF_86) ?_
    show Steps p.tables e below (T20.setTop (mkF m 87 #[.val (.ref ar), .val (.int i1), .val (.ref b1), .val (.int (4 : Int32)), .val (.int (102 : Int32)), .val (.int (i1 + (1 : Int32))), .val (.int (38 : Int32)), .val (.long (XT.ushrL q1 (38 : Int32))), .second] [(.long (1 : Int64)), (.long ((1 : Int64) <<< ((26 : Int32).toInt64 &&& 63))), (.long (XT.ushrL q1 (38 : Int32))), (.int (4 : Int32)), (.ref b1)])) _
    refine XT.lsub X20.here hx rfl (hb hby dF_87) rfl ?_
    show Steps p.tables e below (T20.setTop (mkF m 88 #[.val (.ref ar), .val (.int i1), .val (.ref b1), .val (.int (4 : Int32)), .val (.int (102 : Int32)), .val (.int (i1 + (1 : Int32))), .val (.int (38 : Int32)), .val (.long (XT.ushrL q1 (38 : Int32))), .second] [(.long (((1 : Int64) <<< ((26 : Int32).toInt64 &&& 63)) - (1 : Int64))), (.long (XT.ushrL q1 (38 : Int32))), (.int (4 : Int32)), (.ref b1)])) _
    refine XT.land X20.here hx rfl (hb hby dF_88) rfl ?_
    exact oK
  show OG _ _ _ _ _ _ _ (T20.setTop (mkF m 89 #[.val (.ref ar), .val (.int i1), .val (.ref b1), .val (.int (4 : Int32)), .val (.int (102 : Int32)), .val (.int (i1 + (1 : Int32))), .val (.int (38 : Int32)), .val (.long (XT.ushrL q1 (38 : Int32))), .second] [(.long ((XT.ushrL q1 (38 : Int32)) &&& (((1 : Int64) <<< ((26 : Int32).toInt64 &&& 63)) - (1 : Int64)))), (.int (4 : Int32)), (.ref b1)]))
  show OG _ _ _ _ _ _ _ (T20.setTop (mkF m 89 #[.val (.ref ar), .val (.int i1), .val (.ref b1), .val (.int (4 : Int32)), .val (.int (102 : Int32)), .val (.int (i1 + (1 : Int32))), .val (.int (38 : Int32)), .val (.long (XT.ushrL q1 (38 : Int32))), .second] [(.long (own_l4 q0 q1 q2 q3)), (.int (4 : Int32)), (.ref b1)]))
  have cf65 := V17
  obtain ⟨clf65, Arf65, qf65, Sf65, Mf65, Hf65, Gf65⟩ := cf65
  obtain ⟨T21, h21, X21, e21, W21, st21⟩ := stJ X20 hx hZ e20 Arf65 (j := (4 : Int32)) (inb_of Sf65 ⟨by decide, by decide⟩) (g := (mkF m 89 #[.val (.ref ar), .val (.int i1), .val (.ref b1), .val (.int (4 : Int32)), .val (.int (102 : Int32)), .val (.int (i1 + (1 : Int32))), .val (.int (38 : Int32)), .val (.long (XT.ushrL q1 (38 : Int32))), .second] [(.long (own_l4 q0 q1 q2 q3)), (.int (4 : Int32)), (.ref b1)])) rfl rfl (hb hby dF_89)
  have f66 := (f53).other W21 ne_ar_b1
  have f67 := (f54).other W21 ne_ar_b1
  have f68 := (f55).other W21 ne_ar_b1
  have f69 := (f56).other W21 ne_ar_b1
  have f70 := (f57).other W21 ne_ar_b1
  have f71 := (f58).other W21 ne_ar_b1
  have V21 : Arv Z h21 b1 kc1 .long (10 : Int32) [(.long (own_l0 q0 q1 q2 q3)), (.long (own_l1 q0 q1 q2 q3)), (.long (own_l2 q0 q1 q2 q3)), (.long (own_l3 q0 q1 q2 q3)), (.long (own_l4 q0 q1 q2 q3)), (.long (0 : Int64)), (.long (0 : Int64)), (.long (0 : Int64)), (.long (0 : Int64)), (.long (0 : Int64))] (.long (0 : Int64)) := Arv.set Arf65 qf65 Sf65 Mf65 Hf65 Gf65 rfl W21 4 rfl (Nat.le_of_ble_eq_true rfl)
  have f73 := (f60).wr W21 gn_b1
  have K21 : Keep h0 h21 [] := (K17).wr W21 (Or.inr sz_b1)
  have Z21 : n0 ≤ h21.size := Nat.le_trans Z17 (Keep.of_wr W21).1
  have N21 := Fr.snoc X21 N17 gn_b1
  refine OG.of st21 ?_
  show OG _ _ _ _ _ _ _ (T21.setTop (mkF m 90 #[.val (.ref ar), .val (.int i1), .val (.ref b1), .val (.int (4 : Int32)), .val (.int (102 : Int32)), .val (.int (i1 + (1 : Int32))), .val (.int (38 : Int32)), .val (.long (XT.ushrL q1 (38 : Int32))), .second] []))
  refine OG.of (A := T21.setTop (mkF m 13 #[.val (.ref ar), .val (.int i1), .val (.ref b1), .val (.int (5 : Int32)), .val (.int (102 : Int32)), .val (.int (i1 + (1 : Int32))), .val (.int (38 : Int32)), .val (.long (XT.ushrL q1 (38 : Int32))), .second] [])) (fun oT oK => ?_) ?_
  · show Steps p.tables e below (T21.setTop (mkF m 90 #[.val (.ref ar), .val (.int i1), .val (.ref b1), .val (.int (4 : Int32)), .val (.int (102 : Int32)), .val (.int (i1 + (1 : Int32))), .val (.int (38 : Int32)), .val (.long (XT.ushrL q1 (38 : Int32))), .second] [])) oT
    refine XS.iinc X21.here hx rfl (hb hby dF_90) rfl (l' := #[.val (.ref ar), .val (.int i1), .val (.ref b1), .val (.int (5 : Int32)), .val (.int (102 : Int32)), .val (.int (i1 + (1 : Int32))), .val (.int (38 : Int32)), .val (.long (XT.ushrL q1 (38 : Int32))), .second]) rfl ?_
    show Steps p.tables e below (T21.setTop (mkF m 93 #[.val (.ref ar), .val (.int i1), .val (.ref b1), .val (.int (5 : Int32)), .val (.int (102 : Int32)), .val (.int (i1 + (1 : Int32))), .val (.int (38 : Int32)), .val (.long (XT.ushrL q1 (38 : Int32))), .second] [])) _
    refine XS.goto X21.here hx rfl (pc0 := 93) (pc' := 7) rfl (hb hby dF_93) (by decide) (by decide) ?_
    show Steps p.tables e below (T21.setTop (mkF m 7 #[.val (.ref ar), .val (.int i1), .val (.ref b1), .val (.int (5 : Int32)), .val (.int (102 : Int32)), .val (.int (i1 + (1 : Int32))), .val (.int (38 : Int32)), .val (.long (XT.ushrL q1 (38 : Int32))), .second] [])) _
    refine XS.iloadN X21.here hx rfl (hb hby dF_7) rfl  ?_
    show Steps p.tables e below (T21.setTop (mkF m 8 #[.val (.ref ar), .val (.int i1), .val (.ref b1), .val (.int (5 : Int32)), .val (.int (102 : Int32)), .val (.int (i1 + (1 : Int32))), .val (.int (38 : Int32)), .val (.long (XT.ushrL q1 (38 : Int32))), .second] [(.int (5 : Int32))])) _
    refine XS.bipush X21.here hx rfl (hb hby dF_8) ?_
    show Steps p.tables e below (T21.setTop (mkF m 10 #[.val (.ref ar), .val (.int i1), .val (.ref b1), .val (.int (5 : Int32)), .val (.int (102 : Int32)), .val (.int (i1 + (1 : Int32))), .val (.int (38 : Int32)), .val (.long (XT.ushrL q1 (38 : Int32))), .second] [(.int (10 : Int32)), (.int (5 : Int32))])) _
    refine XS.icmpNo X21.here hx rfl (hb hby dF_10) rfl (XT.ii_ge_f (by decide)) ?_
    exact oK
  show OG _ _ _ _ _ _ _ (T21.setTop (mkF m 13 #[.val (.ref ar), .val (.int i1), .val (.ref b1), .val (.int (5 : Int32)), .val (.int (102 : Int32)), .val (.int (i1 + (1 : Int32))), .val (.int (38 : Int32)), .val (.long (XT.ushrL q1 (38 : Int32))), .second] []))
  obtain ⟨T22, X22, e22, st22⟩ := getS2 X21 hx hZ hown (host := "") (Or.inl (hw _ (List.mem_of_getElem? (i := 5) rfl))) Via.refl e21 (SP.ext (f73).2) (g := (mkF m 13 #[.val (.ref ar), .val (.int i1), .val (.ref b1), .val (.int (5 : Int32)), .val (.int (102 : Int32)), .val (.int (i1 + (1 : Int32))), .val (.int (38 : Int32)), .val (.long (XT.ushrL q1 (38 : Int32))), .second] [])) rfl (hb hby dF_13)
  refine OG.of st22 ?_
  show OG _ _ _ _ _ _ _ (T22.setTop (mkF m 16 #[.val (.ref ar), .val (.int i1), .val (.ref b1), .val (.int (5 : Int32)), .val (.int (102 : Int32)), .val (.int (i1 + (1 : Int32))), .val (.int (38 : Int32)), .val (.long (XT.ushrL q1 (38 : Int32))), .second] [(.ref wP)]))
  refine OG.of (A := T22.setTop (mkF m 17 #[.val (.ref ar), .val (.int i1), .val (.ref b1), .val (.int (5 : Int32)), .val (.int (102 : Int32)), .val (.int (i1 + (1 : Int32))), .val (.int (38 : Int32)), .val (.long (XT.ushrL q1 (38 : Int32))), .second] [(.int (5 : Int32)), (.ref wP)])) (fun oT oK => ?_) ?_
  · show Steps p.tables e below (T22.setTop (mkF m 16 #[.val (.ref ar), .val (.int i1), .val (.ref b1), .val (.int (5 : Int32)), .val (.int (102 : Int32)), .val (.int (i1 + (1 : Int32))), .val (.int (38 : Int32)), .val (.long (XT.ushrL q1 (38 : Int32))), .second] [(.ref wP)])) oT
    refine XS.iloadN X22.here hx rfl (hb hby dF_16) rfl  ?_
    exact oK
  show OG _ _ _ _ _ _ _ (T22.setTop (mkF m 17 #[.val (.ref ar), .val (.int i1), .val (.ref b1), .val (.int (5 : Int32)), .val (.int (102 : Int32)), .val (.int (i1 + (1 : Int32))), .val (.int (38 : Int32)), .val (.long (XT.ushrL q1 (38 : Int32))), .second] [(.int (5 : Int32)), (.ref wP)]))
  have cf74 := ((TP 5 (by decide)).ext (f73).2)
  obtain ⟨clf74, Arf74, If74, Hf74⟩ := cf74
  refine OG.of (X22.iaload hx (j := (5 : Int32)) (v := (.int (128 : Int32))) (by rw [e22]; exact Arf74.1) (State.isArrayOf_alike hZ.alike Arf74.2.1) Arf74.2.2 If74 Hf74 (g := (mkF m 17 #[.val (.ref ar), .val (.int i1), .val (.ref b1), .val (.int (5 : Int32)), .val (.int (102 : Int32)), .val (.int (i1 + (1 : Int32))), .val (.int (38 : Int32)), .val (.long (XT.ushrL q1 (38 : Int32))), .second] [(.int (5 : Int32)), (.ref wP)])) rfl rfl (hb hby dF_17)) ?_
  show OG _ _ _ _ _ _ _ (T22.setTop (mkF m 18 #[.val (.ref ar), .val (.int i1), .val (.ref b1), .val (.int (5 : Int32)), .val (.int (102 : Int32)), .val (.int (i1 + (1 : Int32))), .val (.int (38 : Int32)), .val (.long (XT.ushrL q1 (38 : Int32))), .second] [(.int (128 : Int32))]))
  refine OG.of (A := T22.setTop (mkF m 39 #[.val (.ref ar), .val (.int i1), .val (.ref b1), .val (.int (5 : Int32)), .val (.int (128 : Int32)), .val (.int (i1 + (2 : Int32))), .val (.int (0 : Int32)), .val (.long (XT.ushrL q1 (38 : Int32))), .second] [(.int (i1 + (2 : Int32))), (.ref ar)])) (fun oT oK => ?_) ?_
  · show Steps p.tables e below (T22.setTop (mkF m 18 #[.val (.ref ar), .val (.int i1), .val (.ref b1), .val (.int (5 : Int32)), .val (.int (102 : Int32)), .val (.int (i1 + (1 : Int32))), .val (.int (38 : Int32)), .val (.long (XT.ushrL q1 (38 : Int32))), .second] [(.int (128 : Int32))])) oT
    refine XS.istore X22.here hx rfl (hb hby dF_18) rfl (l' := #[.val (.ref ar), .val (.int i1), .val (.ref b1), .val (.int (5 : Int32)), .val (.int (128 : Int32)), .val (.int (i1 + (1 : Int32))), .val (.int (38 : Int32)), .val (.long (XT.ushrL q1 (38 : Int32))), .second]) rfl ?_
    show Steps p.tables e below (T22.setTop (mkF m 20 #[.val (.ref ar), .val (.int i1), .val (.ref b1), .val (.int (5 : Int32)), .val (.int (128 : Int32)), .val (.int (i1 + (1 : Int32))), .val (.int (38 : Int32)), .val (.long (XT.ushrL q1 (38 : Int32))), .second] [])) _
    refine XS.iloadN X22.here hx rfl (hb hby dF_20) rfl  ?_
    show Steps p.tables e below (T22.setTop (mkF m 21 #[.val (.ref ar), .val (.int i1), .val (.ref b1), .val (.int (5 : Int32)), .val (.int (128 : Int32)), .val (.int (i1 + (1 : Int32))), .val (.int (38 : Int32)), .val (.long (XT.ushrL q1 (38 : Int32))), .second] [(.int i1)])) _
    refine XS.iload X22.here hx rfl (hb hby dF_21) rfl  ?_
    show Steps p.tables e below (T22.setTop (mkF m 23 #[.val (.ref ar), .val (.int i1), .val (.ref b1), .val (.int (5 : Int32)), .val (.int (128 : Int32)), .val (.int (i1 + (1 : Int32))), .val (.int (38 : Int32)), .val (.long (XT.ushrL q1 (38 : Int32))), .second] [(.int (128 : Int32)), (.int i1)])) _
    refine XS.bipush X22.here hx rfl (hb hby dF_23) ?_
    show Steps p.tables e below (T22.setTop (mkF m 25 #[.val (.ref ar), .val (.int i1), .val (.ref b1), .val (.int (5 : Int32)), .val (.int (128 : Int32)), .val (.int (i1 + (1 : Int32))), .val (.int (38 : Int32)), .val (.long (XT.ushrL q1 (38 : Int32))), .second] [(.int (64 : Int32)), (.int (128 : Int32)), (.int i1)])) _
    refine XS.idiv X22.here hx rfl (hb hby dF_25) rfl (by decide) ?_
    show Steps p.tables e below (T22.setTop (mkF m 26 #[.val (.ref ar), .val (.int i1), .val (.ref b1), .val (.int (5 : Int32)), .val (.int (128 : Int32)), .val (.int (i1 + (1 : Int32))), .val (.int (38 : Int32)), .val (.long (XT.ushrL q1 (38 : Int32))), .second] [(.int (2 : Int32)), (.int i1)])) _
    refine XS.iadd X22.here hx rfl (hb hby dF_26) rfl ?_
    show Steps p.tables e below (T22.setTop (mkF m 27 #[.val (.ref ar), .val (.int i1), .val (.ref b1), .val (.int (5 : Int32)), .val (.int (128 : Int32)), .val (.int (i1 + (1 : Int32))), .val (.int (38 : Int32)), .val (.long (XT.ushrL q1 (38 : Int32))), .second] [(.int (i1 + (2 : Int32)))])) _
    refine XS.istore X22.here hx rfl (hb hby dF_27) rfl (l' := #[.val (.ref ar), .val (.int i1), .val (.ref b1), .val (.int (5 : Int32)), .val (.int (128 : Int32)), .val (.int (i1 + (2 : Int32))), .val (.int (38 : Int32)), .val (.long (XT.ushrL q1 (38 : Int32))), .second]) rfl ?_
    show Steps p.tables e below (T22.setTop (mkF m 29 #[.val (.ref ar), .val (.int i1), .val (.ref b1), .val (.int (5 : Int32)), .val (.int (128 : Int32)), .val (.int (i1 + (2 : Int32))), .val (.int (38 : Int32)), .val (.long (XT.ushrL q1 (38 : Int32))), .second] [])) _
    refine XS.iload X22.here hx rfl (hb hby dF_29) rfl  ?_
    show Steps p.tables e below (T22.setTop (mkF m 31 #[.val (.ref ar), .val (.int i1), .val (.ref b1), .val (.int (5 : Int32)), .val (.int (128 : Int32)), .val (.int (i1 + (2 : Int32))), .val (.int (38 : Int32)), .val (.long (XT.ushrL q1 (38 : Int32))), .second] [(.int (128 : Int32))])) _
    refine XS.bipush X22.here hx rfl (hb hby dF_31) ?_
    show Steps p.tables e below (T22.setTop (mkF m 33 #[.val (.ref ar), .val (.int i1), .val (.ref b1), .val (.int (5 : Int32)), .val (.int (128 : Int32)), .val (.int (i1 + (2 : Int32))), .val (.int (38 : Int32)), .val (.long (XT.ushrL q1 (38 : Int32))), .second] [(.int (64 : Int32)), (.int (128 : Int32))])) _
    refine Jvm.RoadKit.iremM X22 hx rfl (hb hby dF_33) rfl (by decide) ?_
    show Steps p.tables e below (T22.setTop (mkF m 34 #[.val (.ref ar), .val (.int i1), .val (.ref b1), .val (.int (5 : Int32)), .val (.int (128 : Int32)), .val (.int (i1 + (2 : Int32))), .val (.int (38 : Int32)), .val (.long (XT.ushrL q1 (38 : Int32))), .second] [(.int (0 : Int32))])) _
    refine XS.istore X22.here hx rfl (hb hby dF_34) rfl (l' := #[.val (.ref ar), .val (.int i1), .val (.ref b1), .val (.int (5 : Int32)), .val (.int (128 : Int32)), .val (.int (i1 + (2 : Int32))), .val (.int (0 : Int32)), .val (.long (XT.ushrL q1 (38 : Int32))), .second]) rfl ?_
    show Steps p.tables e below (T22.setTop (mkF m 36 #[.val (.ref ar), .val (.int i1), .val (.ref b1), .val (.int (5 : Int32)), .val (.int (128 : Int32)), .val (.int (i1 + (2 : Int32))), .val (.int (0 : Int32)), .val (.long (XT.ushrL q1 (38 : Int32))), .second] [])) _
    refine XS.aloadN X22.here hx rfl (hb hby dF_36) rfl rfl  ?_
    show Steps p.tables e below (T22.setTop (mkF m 37 #[.val (.ref ar), .val (.int i1), .val (.ref b1), .val (.int (5 : Int32)), .val (.int (128 : Int32)), .val (.int (i1 + (2 : Int32))), .val (.int (0 : Int32)), .val (.long (XT.ushrL q1 (38 : Int32))), .second] [(.ref ar)])) _
    refine XS.iload X22.here hx rfl (hb hby dF_37) rfl  ?_
    exact oK
  show OG _ _ _ _ _ _ _ (T22.setTop (mkF m 39 #[.val (.ref ar), .val (.int i1), .val (.ref b1), .val (.int (5 : Int32)), .val (.int (128 : Int32)), .val (.int (i1 + (2 : Int32))), .val (.int (0 : Int32)), .val (.long (XT.ushrL q1 (38 : Int32))), .second] [(.int (i1 + (2 : Int32))), (.ref ar)]))
  have cf75 := f68
  obtain ⟨clf75, Arf75, If75, Hf75⟩ := cf75
  refine OG.of (X22.laload hx (j := (i1 + (2 : Int32))) (v := (.long q2)) (by rw [e22]; exact Arf75.1) (State.isArrayOf_alike hZ.alike Arf75.2.1) Arf75.2.2 If75 Hf75 (g := (mkF m 39 #[.val (.ref ar), .val (.int i1), .val (.ref b1), .val (.int (5 : Int32)), .val (.int (128 : Int32)), .val (.int (i1 + (2 : Int32))), .val (.int (0 : Int32)), .val (.long (XT.ushrL q1 (38 : Int32))), .second] [(.int (i1 + (2 : Int32))), (.ref ar)])) rfl rfl (hb hby dF_39)) ?_
  show OG _ _ _ _ _ _ _ (T22.setTop (mkF m 40 #[.val (.ref ar), .val (.int i1), .val (.ref b1), .val (.int (5 : Int32)), .val (.int (128 : Int32)), .val (.int (i1 + (2 : Int32))), .val (.int (0 : Int32)), .val (.long (XT.ushrL q1 (38 : Int32))), .second] [(.long q2)]))
  refine OG.of (A := T22.setTop (mkF m 47 #[.val (.ref ar), .val (.int i1), .val (.ref b1), .val (.int (5 : Int32)), .val (.int (128 : Int32)), .val (.int (i1 + (2 : Int32))), .val (.int (0 : Int32)), .val (.long (XT.ushrL q2 (0 : Int32))), .second] [(.int (0 : Int32))])) (fun oT oK => ?_) ?_
  · show Steps p.tables e below (T22.setTop (mkF m 40 #[.val (.ref ar), .val (.int i1), .val (.ref b1), .val (.int (5 : Int32)), .val (.int (128 : Int32)), .val (.int (i1 + (2 : Int32))), .val (.int (0 : Int32)), .val (.long (XT.ushrL q1 (38 : Int32))), .second] [(.long q2)])) oT
    refine XS.iload X22.here hx rfl (hb hby dF_40) rfl  ?_
    show Steps p.tables e below (T22.setTop (mkF m 42 #[.val (.ref ar), .val (.int i1), .val (.ref b1), .val (.int (5 : Int32)), .val (.int (128 : Int32)), .val (.int (i1 + (2 : Int32))), .val (.int (0 : Int32)), .val (.long (XT.ushrL q1 (38 : Int32))), .second] [(.int (0 : Int32)), (.long q2)])) _
    refine XT.lushr X22.here hx rfl (hb hby dF_42) rfl ?_
    show Steps p.tables e below (T22.setTop (mkF m 43 #[.val (.ref ar), .val (.int i1), .val (.ref b1), .val (.int (5 : Int32)), .val (.int (128 : Int32)), .val (.int (i1 + (2 : Int32))), .val (.int (0 : Int32)), .val (.long (XT.ushrL q1 (38 : Int32))), .second] [(.long (XT.ushrL q2 (0 : Int32)))])) _
    refine XT.lstore X22.here hx rfl (hb hby dF_43) rfl (l' := #[.val (.ref ar), .val (.int i1), .val (.ref b1), .val (.int (5 : Int32)), .val (.int (128 : Int32)), .val (.int (i1 + (2 : Int32))), .val (.int (0 : Int32)), .val (.long (XT.ushrL q2 (0 : Int32))), .second]) rfl ?_
    show Steps p.tables e below (T22.setTop (mkF m 45 #[.val (.ref ar), .val (.int i1), .val (.ref b1), .val (.int (5 : Int32)), .val (.int (128 : Int32)), .val (.int (i1 + (2 : Int32))), .val (.int (0 : Int32)), .val (.long (XT.ushrL q2 (0 : Int32))), .second] [])) _
    refine XS.iload X22.here hx rfl (hb hby dF_45) rfl  ?_
    exact oK
  show OG _ _ _ _ _ _ _ (T22.setTop (mkF m 47 #[.val (.ref ar), .val (.int i1), .val (.ref b1), .val (.int (5 : Int32)), .val (.int (128 : Int32)), .val (.int (i1 + (2 : Int32))), .val (.int (0 : Int32)), .val (.long (XT.ushrL q2 (0 : Int32))), .second] [(.int (0 : Int32))]))
  obtain ⟨T23, X23, e23, st23⟩ := getS2 X22 hx hZ hown (host := "") (Or.inl (hw _ (List.mem_of_getElem? (i := 7) rfl))) Via.refl e22 (SB.ext (f73).2) (g := (mkF m 47 #[.val (.ref ar), .val (.int i1), .val (.ref b1), .val (.int (5 : Int32)), .val (.int (128 : Int32)), .val (.int (i1 + (2 : Int32))), .val (.int (0 : Int32)), .val (.long (XT.ushrL q2 (0 : Int32))), .second] [(.int (0 : Int32))])) rfl (hb hby dF_47)
  refine OG.of st23 ?_
  show OG _ _ _ _ _ _ _ (T23.setTop (mkF m 50 #[.val (.ref ar), .val (.int i1), .val (.ref b1), .val (.int (5 : Int32)), .val (.int (128 : Int32)), .val (.int (i1 + (2 : Int32))), .val (.int (0 : Int32)), .val (.long (XT.ushrL q2 (0 : Int32))), .second] [(.ref wB), (.int (0 : Int32))]))
  refine OG.of (A := T23.setTop (mkF m 51 #[.val (.ref ar), .val (.int i1), .val (.ref b1), .val (.int (5 : Int32)), .val (.int (128 : Int32)), .val (.int (i1 + (2 : Int32))), .val (.int (0 : Int32)), .val (.long (XT.ushrL q2 (0 : Int32))), .second] [(.int (5 : Int32)), (.ref wB), (.int (0 : Int32))])) (fun oT oK => ?_) ?_
  · show Steps p.tables e below (T23.setTop (mkF m 50 #[.val (.ref ar), .val (.int i1), .val (.ref b1), .val (.int (5 : Int32)), .val (.int (128 : Int32)), .val (.int (i1 + (2 : Int32))), .val (.int (0 : Int32)), .val (.long (XT.ushrL q2 (0 : Int32))), .second] [(.ref wB), (.int (0 : Int32))])) oT
    refine XS.iloadN X23.here hx rfl (hb hby dF_50) rfl  ?_
    exact oK
  show OG _ _ _ _ _ _ _ (T23.setTop (mkF m 51 #[.val (.ref ar), .val (.int i1), .val (.ref b1), .val (.int (5 : Int32)), .val (.int (128 : Int32)), .val (.int (i1 + (2 : Int32))), .val (.int (0 : Int32)), .val (.long (XT.ushrL q2 (0 : Int32))), .second] [(.int (5 : Int32)), (.ref wB), (.int (0 : Int32))]))
  have cf76 := ((TB 5 (by decide)).ext (f73).2)
  obtain ⟨clf76, Arf76, If76, Hf76⟩ := cf76
  refine OG.of (X23.iaload hx (j := (5 : Int32)) (v := (.int (25 : Int32))) (by rw [e23]; exact Arf76.1) (State.isArrayOf_alike hZ.alike Arf76.2.1) Arf76.2.2 If76 Hf76 (g := (mkF m 51 #[.val (.ref ar), .val (.int i1), .val (.ref b1), .val (.int (5 : Int32)), .val (.int (128 : Int32)), .val (.int (i1 + (2 : Int32))), .val (.int (0 : Int32)), .val (.long (XT.ushrL q2 (0 : Int32))), .second] [(.int (5 : Int32)), (.ref wB), (.int (0 : Int32))])) rfl rfl (hb hby dF_51)) ?_
  show OG _ _ _ _ _ _ _ (T23.setTop (mkF m 52 #[.val (.ref ar), .val (.int i1), .val (.ref b1), .val (.int (5 : Int32)), .val (.int (128 : Int32)), .val (.int (i1 + (2 : Int32))), .val (.int (0 : Int32)), .val (.long (XT.ushrL q2 (0 : Int32))), .second] [(.int (25 : Int32)), (.int (0 : Int32))]))
  refine OG.of (A := T23.setTop (mkF m 80 #[.val (.ref ar), .val (.int i1), .val (.ref b1), .val (.int (5 : Int32)), .val (.int (128 : Int32)), .val (.int (i1 + (2 : Int32))), .val (.int (0 : Int32)), .val (.long (XT.ushrL q2 (0 : Int32))), .second] [(.long (1 : Int64)), (.long (XT.ushrL q2 (0 : Int32))), (.int (5 : Int32)), (.ref b1)])) (fun oT oK => ?_) ?_
  · show Steps p.tables e below (T23.setTop (mkF m 52 #[.val (.ref ar), .val (.int i1), .val (.ref b1), .val (.int (5 : Int32)), .val (.int (128 : Int32)), .val (.int (i1 + (2 : Int32))), .val (.int (0 : Int32)), .val (.long (XT.ushrL q2 (0 : Int32))), .second] [(.int (25 : Int32)), (.int (0 : Int32))])) oT
    refine XS.iadd X23.here hx rfl (hb hby dF_52) rfl ?_
    show Steps p.tables e below (T23.setTop (mkF m 53 #[.val (.ref ar), .val (.int i1), .val (.ref b1), .val (.int (5 : Int32)), .val (.int (128 : Int32)), .val (.int (i1 + (2 : Int32))), .val (.int (0 : Int32)), .val (.long (XT.ushrL q2 (0 : Int32))), .second] [(.int (25 : Int32))])) _
    refine XS.bipush X23.here hx rfl (hb hby dF_53) ?_
    show Steps p.tables e below (T23.setTop (mkF m 55 #[.val (.ref ar), .val (.int i1), .val (.ref b1), .val (.int (5 : Int32)), .val (.int (128 : Int32)), .val (.int (i1 + (2 : Int32))), .val (.int (0 : Int32)), .val (.long (XT.ushrL q2 (0 : Int32))), .second] [(.int (64 : Int32)), (.int (25 : Int32))])) _
    refine XS.icmpYes X23.here hx rfl (pc0 := 55) (pc' := 75) rfl (hb hby dF_55) rfl (XT.ii_le_t (by decide)) (by decide) (by decide) ?_
    show Steps p.tables e below (T23.setTop (mkF m 75 #[.val (.ref ar), .val (.int i1), .val (.ref b1), .val (.int (5 : Int32)), .val (.int (128 : Int32)), .val (.int (i1 + (2 : Int32))), .val (.int (0 : Int32)), .val (.long (XT.ushrL q2 (0 : Int32))), .second] [])) _
    refine XS.aloadN X23.here hx rfl (hb hby dF_75) rfl rfl  ?_
    show Steps p.tables e below (T23.setTop (mkF m 76 #[.val (.ref ar), .val (.int i1), .val (.ref b1), .val (.int (5 : Int32)), .val (.int (128 : Int32)), .val (.int (i1 + (2 : Int32))), .val (.int (0 : Int32)), .val (.long (XT.ushrL q2 (0 : Int32))), .second] [(.ref b1)])) _
    refine XS.iloadN X23.here hx rfl (hb hby dF_76) rfl  ?_
    show Steps p.tables e below (T23.setTop (mkF m 77 #[.val (.ref ar), .val (.int i1), .val (.ref b1), .val (.int (5 : Int32)), .val (.int (128 : Int32)), .val (.int (i1 + (2 : Int32))), .val (.int (0 : Int32)), .val (.long (XT.ushrL q2 (0 : Int32))), .second] [(.int (5 : Int32)), (.ref b1)])) _
    refine XT.lload X23.here hx rfl (hb hby dF_77) rfl  ?_
    show Steps p.tables e below (T23.setTop (mkF m 79 #[.val (.ref ar), .val (.int i1), .val (.ref b1), .val (.int (5 : Int32)), .val (.int (128 : Int32)), .val (.int (i1 + (2 : Int32))), .val (.int (0 : Int32)), .val (.long (XT.ushrL q2 (0 : Int32))), .second] [(.long (XT.ushrL q2 (0 : Int32))), (.int (5 : Int32)), (.ref b1)])) _
    refine XT.lconst X23.here hx rfl (hb hby dF_79) ?_
    exact oK
  show OG _ _ _ _ _ _ _ (T23.setTop (mkF m 80 #[.val (.ref ar), .val (.int i1), .val (.ref b1), .val (.int (5 : Int32)), .val (.int (128 : Int32)), .val (.int (i1 + (2 : Int32))), .val (.int (0 : Int32)), .val (.long (XT.ushrL q2 (0 : Int32))), .second] [(.long (1 : Int64)), (.long (XT.ushrL q2 (0 : Int32))), (.int (5 : Int32)), (.ref b1)]))
  obtain ⟨T24, X24, e24, st24⟩ := getS2 X23 hx hZ hown (host := "") (Or.inl (hw _ (List.mem_of_getElem? (i := 7) rfl))) Via.refl e23 (SB.ext (f73).2) (g := (mkF m 80 #[.val (.ref ar), .val (.int i1), .val (.ref b1), .val (.int (5 : Int32)), .val (.int (128 : Int32)), .val (.int (i1 + (2 : Int32))), .val (.int (0 : Int32)), .val (.long (XT.ushrL q2 (0 : Int32))), .second] [(.long (1 : Int64)), (.long (XT.ushrL q2 (0 : Int32))), (.int (5 : Int32)), (.ref b1)])) rfl (hb hby dF_80)
  refine OG.of st24 ?_
  show OG _ _ _ _ _ _ _ (T24.setTop (mkF m 83 #[.val (.ref ar), .val (.int i1), .val (.ref b1), .val (.int (5 : Int32)), .val (.int (128 : Int32)), .val (.int (i1 + (2 : Int32))), .val (.int (0 : Int32)), .val (.long (XT.ushrL q2 (0 : Int32))), .second] [(.ref wB), (.long (1 : Int64)), (.long (XT.ushrL q2 (0 : Int32))), (.int (5 : Int32)), (.ref b1)]))
  refine OG.of (A := T24.setTop (mkF m 84 #[.val (.ref ar), .val (.int i1), .val (.ref b1), .val (.int (5 : Int32)), .val (.int (128 : Int32)), .val (.int (i1 + (2 : Int32))), .val (.int (0 : Int32)), .val (.long (XT.ushrL q2 (0 : Int32))), .second] [(.int (5 : Int32)), (.ref wB), (.long (1 : Int64)), (.long (XT.ushrL q2 (0 : Int32))), (.int (5 : Int32)), (.ref b1)])) (fun oT oK => ?_) ?_
  · show Steps p.tables e below (T24.setTop (mkF m 83 #[.val (.ref ar), .val (.int i1), .val (.ref b1), .val (.int (5 : Int32)), .val (.int (128 : Int32)), .val (.int (i1 + (2 : Int32))), .val (.int (0 : Int32)), .val (.long (XT.ushrL q2 (0 : Int32))), .second] [(.ref wB), (.long (1 : Int64)), (.long (XT.ushrL q2 (0 : Int32))), (.int (5 : Int32)), (.ref b1)])) oT
    refine XS.iloadN X24.here hx rfl (hb hby dF_83) rfl  ?_
    exact oK
  show OG _ _ _ _ _ _ _ (T24.setTop (mkF m 84 #[.val (.ref ar), .val (.int i1), .val (.ref b1), .val (.int (5 : Int32)), .val (.int (128 : Int32)), .val (.int (i1 + (2 : Int32))), .val (.int (0 : Int32)), .val (.long (XT.ushrL q2 (0 : Int32))), .second] [(.int (5 : Int32)), (.ref wB), (.long (1 : Int64)), (.long (XT.ushrL q2 (0 : Int32))), (.int (5 : Int32)), (.ref b1)]))
  have cf77 := ((TB 5 (by decide)).ext (f73).2)
  obtain ⟨clf77, Arf77, If77, Hf77⟩ := cf77
  refine OG.of (X24.iaload hx (j := (5 : Int32)) (v := (.int (25 : Int32))) (by rw [e24]; exact Arf77.1) (State.isArrayOf_alike hZ.alike Arf77.2.1) Arf77.2.2 If77 Hf77 (g := (mkF m 84 #[.val (.ref ar), .val (.int i1), .val (.ref b1), .val (.int (5 : Int32)), .val (.int (128 : Int32)), .val (.int (i1 + (2 : Int32))), .val (.int (0 : Int32)), .val (.long (XT.ushrL q2 (0 : Int32))), .second] [(.int (5 : Int32)), (.ref wB), (.long (1 : Int64)), (.long (XT.ushrL q2 (0 : Int32))), (.int (5 : Int32)), (.ref b1)])) rfl rfl (hb hby dF_84)) ?_
  show OG _ _ _ _ _ _ _ (T24.setTop (mkF m 85 #[.val (.ref ar), .val (.int i1), .val (.ref b1), .val (.int (5 : Int32)), .val (.int (128 : Int32)), .val (.int (i1 + (2 : Int32))), .val (.int (0 : Int32)), .val (.long (XT.ushrL q2 (0 : Int32))), .second] [(.int (25 : Int32)), (.long (1 : Int64)), (.long (XT.ushrL q2 (0 : Int32))), (.int (5 : Int32)), (.ref b1)]))
  refine OG.of (A := T24.setTop (mkF m 89 #[.val (.ref ar), .val (.int i1), .val (.ref b1), .val (.int (5 : Int32)), .val (.int (128 : Int32)), .val (.int (i1 + (2 : Int32))), .val (.int (0 : Int32)), .val (.long (XT.ushrL q2 (0 : Int32))), .second] [(.long ((XT.ushrL q2 (0 : Int32)) &&& (((1 : Int64) <<< ((25 : Int32).toInt64 &&& 63)) - (1 : Int64)))), (.int (5 : Int32)), (.ref b1)])) (fun oT oK => ?_) ?_
  · show Steps p.tables e below (T24.setTop (mkF m 85 #[.val (.ref ar), .val (.int i1), .val (.ref b1), .val (.int (5 : Int32)), .val (.int (128 : Int32)), .val (.int (i1 + (2 : Int32))), .val (.int (0 : Int32)), .val (.long (XT.ushrL q2 (0 : Int32))), .second] [(.int (25 : Int32)), (.long (1 : Int64)), (.long (XT.ushrL q2 (0 : Int32))), (.int (5 : Int32)), (.ref b1)])) oT
    refine XT.lshl X24.here hx rfl (hb hby dF_85) rfl ?_
    show Steps p.tables e below (T24.setTop (mkF m 86 #[.val (.ref ar), .val (.int i1), .val (.ref b1), .val (.int (5 : Int32)), .val (.int (128 : Int32)), .val (.int (i1 + (2 : Int32))), .val (.int (0 : Int32)), .val (.long (XT.ushrL q2 (0 : Int32))), .second] [(.long ((1 : Int64) <<< ((25 : Int32).toInt64 &&& 63))), (.long (XT.ushrL q2 (0 : Int32))), (.int (5 : Int32)), (.ref b1)])) _
    refine XT.lconst X24.here hx rfl (hb hby dF_86) ?_
    show Steps p.tables e below (T24.setTop (mkF m 87 #[.val (.ref ar), .val (.int i1), .val (.ref b1), .val (.int (5 : Int32)), .val (.int (128 : Int32)), .val (.int (i1 + (2 : Int32))), .val (.int (0 : Int32)), .val (.long (XT.ushrL q2 (0 : Int32))), .second] [(.long (1 : Int64)), (.long ((1 : Int64) <<< ((25 : Int32).toInt64 &&& 63))), (.long (XT.ushrL q2 (0 : Int32))), (.int (5 : Int32)), (.ref b1)])) _
    refine XT.lsub X24.here hx rfl (hb hby dF_87) rfl ?_
    show Steps p.tables e below (T24.setTop (mkF m 88 #[.val (.ref ar), .val (.int i1), .val (.ref b1), .val (.int (5 : Int32)), .val (.int (128 : Int32)), .val (.int (i1 + (2 : Int32))), .val (.int (0 : Int32)), .val (.long (XT.ushrL q2 (0 : Int32))), .second] [(.long (((1 : Int64) <<< ((25 : Int32).toInt64 &&& 63)) - (1 : Int64))), (.long (XT.ushrL q2 (0 : Int32))), (.int (5 : Int32)), (.ref b1)])) _
    refine XT.land X24.here hx rfl (hb hby dF_88) rfl ?_
    exact oK
  show OG _ _ _ _ _ _ _ (T24.setTop (mkF m 89 #[.val (.ref ar), .val (.int i1), .val (.ref b1), .val (.int (5 : Int32)), .val (.int (128 : Int32)), .val (.int (i1 + (2 : Int32))), .val (.int (0 : Int32)), .val (.long (XT.ushrL q2 (0 : Int32))), .second] [(.long ((XT.ushrL q2 (0 : Int32)) &&& (((1 : Int64) <<< ((25 : Int32).toInt64 &&& 63)) - (1 : Int64)))), (.int (5 : Int32)), (.ref b1)]))
  show OG _ _ _ _ _ _ _ (T24.setTop (mkF m 89 #[.val (.ref ar), .val (.int i1), .val (.ref b1), .val (.int (5 : Int32)), .val (.int (128 : Int32)), .val (.int (i1 + (2 : Int32))), .val (.int (0 : Int32)), .val (.long (XT.ushrL q2 (0 : Int32))), .second] [(.long (own_l5 q0 q1 q2 q3)), (.int (5 : Int32)), (.ref b1)]))
  have cf78 := V21
  obtain ⟨clf78, Arf78, qf78, Sf78, Mf78, Hf78, Gf78⟩ := cf78
  obtain ⟨T25, h25, X25, e25, W25, st25⟩ := stJ X24 hx hZ e24 Arf78 (j := (5 : Int32)) (inb_of Sf78 ⟨by decide, by decide⟩) (g := (mkF m 89 #[.val (.ref ar), .val (.int i1), .val (.ref b1), .val (.int (5 : Int32)), .val (.int (128 : Int32)), .val (.int (i1 + (2 : Int32))), .val (.int (0 : Int32)), .val (.long (XT.ushrL q2 (0 : Int32))), .second] [(.long (own_l5 q0 q1 q2 q3)), (.int (5 : Int32)), (.ref b1)])) rfl rfl (hb hby dF_89)
  have f79 := (f66).other W25 ne_ar_b1
  have f80 := (f67).other W25 ne_ar_b1
  have f81 := (f68).other W25 ne_ar_b1
  have f82 := (f69).other W25 ne_ar_b1
  have f83 := (f70).other W25 ne_ar_b1
  have f84 := (f71).other W25 ne_ar_b1
  have V25 : Arv Z h25 b1 kc1 .long (10 : Int32) [(.long (own_l0 q0 q1 q2 q3)), (.long (own_l1 q0 q1 q2 q3)), (.long (own_l2 q0 q1 q2 q3)), (.long (own_l3 q0 q1 q2 q3)), (.long (own_l4 q0 q1 q2 q3)), (.long (own_l5 q0 q1 q2 q3)), (.long (0 : Int64)), (.long (0 : Int64)), (.long (0 : Int64)), (.long (0 : Int64))] (.long (0 : Int64)) := Arv.set Arf78 qf78 Sf78 Mf78 Hf78 Gf78 rfl W25 5 rfl (Nat.le_of_ble_eq_true rfl)
  have f86 := (f73).wr W25 gn_b1
  have K25 : Keep h0 h25 [] := (K21).wr W25 (Or.inr sz_b1)
  have Z25 : n0 ≤ h25.size := Nat.le_trans Z21 (Keep.of_wr W25).1
  have N25 := Fr.snoc X25 N21 gn_b1
  refine OG.of st25 ?_
  show OG _ _ _ _ _ _ _ (T25.setTop (mkF m 90 #[.val (.ref ar), .val (.int i1), .val (.ref b1), .val (.int (5 : Int32)), .val (.int (128 : Int32)), .val (.int (i1 + (2 : Int32))), .val (.int (0 : Int32)), .val (.long (XT.ushrL q2 (0 : Int32))), .second] []))
  refine OG.of (A := T25.setTop (mkF m 13 #[.val (.ref ar), .val (.int i1), .val (.ref b1), .val (.int (6 : Int32)), .val (.int (128 : Int32)), .val (.int (i1 + (2 : Int32))), .val (.int (0 : Int32)), .val (.long (XT.ushrL q2 (0 : Int32))), .second] [])) (fun oT oK => ?_) ?_
  · show Steps p.tables e below (T25.setTop (mkF m 90 #[.val (.ref ar), .val (.int i1), .val (.ref b1), .val (.int (5 : Int32)), .val (.int (128 : Int32)), .val (.int (i1 + (2 : Int32))), .val (.int (0 : Int32)), .val (.long (XT.ushrL q2 (0 : Int32))), .second] [])) oT
    refine XS.iinc X25.here hx rfl (hb hby dF_90) rfl (l' := #[.val (.ref ar), .val (.int i1), .val (.ref b1), .val (.int (6 : Int32)), .val (.int (128 : Int32)), .val (.int (i1 + (2 : Int32))), .val (.int (0 : Int32)), .val (.long (XT.ushrL q2 (0 : Int32))), .second]) rfl ?_
    show Steps p.tables e below (T25.setTop (mkF m 93 #[.val (.ref ar), .val (.int i1), .val (.ref b1), .val (.int (6 : Int32)), .val (.int (128 : Int32)), .val (.int (i1 + (2 : Int32))), .val (.int (0 : Int32)), .val (.long (XT.ushrL q2 (0 : Int32))), .second] [])) _
    refine XS.goto X25.here hx rfl (pc0 := 93) (pc' := 7) rfl (hb hby dF_93) (by decide) (by decide) ?_
    show Steps p.tables e below (T25.setTop (mkF m 7 #[.val (.ref ar), .val (.int i1), .val (.ref b1), .val (.int (6 : Int32)), .val (.int (128 : Int32)), .val (.int (i1 + (2 : Int32))), .val (.int (0 : Int32)), .val (.long (XT.ushrL q2 (0 : Int32))), .second] [])) _
    refine XS.iloadN X25.here hx rfl (hb hby dF_7) rfl  ?_
    show Steps p.tables e below (T25.setTop (mkF m 8 #[.val (.ref ar), .val (.int i1), .val (.ref b1), .val (.int (6 : Int32)), .val (.int (128 : Int32)), .val (.int (i1 + (2 : Int32))), .val (.int (0 : Int32)), .val (.long (XT.ushrL q2 (0 : Int32))), .second] [(.int (6 : Int32))])) _
    refine XS.bipush X25.here hx rfl (hb hby dF_8) ?_
    show Steps p.tables e below (T25.setTop (mkF m 10 #[.val (.ref ar), .val (.int i1), .val (.ref b1), .val (.int (6 : Int32)), .val (.int (128 : Int32)), .val (.int (i1 + (2 : Int32))), .val (.int (0 : Int32)), .val (.long (XT.ushrL q2 (0 : Int32))), .second] [(.int (10 : Int32)), (.int (6 : Int32))])) _
    refine XS.icmpNo X25.here hx rfl (hb hby dF_10) rfl (XT.ii_ge_f (by decide)) ?_
    exact oK
  show OG _ _ _ _ _ _ _ (T25.setTop (mkF m 13 #[.val (.ref ar), .val (.int i1), .val (.ref b1), .val (.int (6 : Int32)), .val (.int (128 : Int32)), .val (.int (i1 + (2 : Int32))), .val (.int (0 : Int32)), .val (.long (XT.ushrL q2 (0 : Int32))), .second] []))
  obtain ⟨T26, X26, e26, st26⟩ := getS2 X25 hx hZ hown (host := "") (Or.inl (hw _ (List.mem_of_getElem? (i := 5) rfl))) Via.refl e25 (SP.ext (f86).2) (g := (mkF m 13 #[.val (.ref ar), .val (.int i1), .val (.ref b1), .val (.int (6 : Int32)), .val (.int (128 : Int32)), .val (.int (i1 + (2 : Int32))), .val (.int (0 : Int32)), .val (.long (XT.ushrL q2 (0 : Int32))), .second] [])) rfl (hb hby dF_13)
  refine OG.of st26 ?_
  show OG _ _ _ _ _ _ _ (T26.setTop (mkF m 16 #[.val (.ref ar), .val (.int i1), .val (.ref b1), .val (.int (6 : Int32)), .val (.int (128 : Int32)), .val (.int (i1 + (2 : Int32))), .val (.int (0 : Int32)), .val (.long (XT.ushrL q2 (0 : Int32))), .second] [(.ref wP)]))
  refine OG.of (A := T26.setTop (mkF m 17 #[.val (.ref ar), .val (.int i1), .val (.ref b1), .val (.int (6 : Int32)), .val (.int (128 : Int32)), .val (.int (i1 + (2 : Int32))), .val (.int (0 : Int32)), .val (.long (XT.ushrL q2 (0 : Int32))), .second] [(.int (6 : Int32)), (.ref wP)])) (fun oT oK => ?_) ?_
  · show Steps p.tables e below (T26.setTop (mkF m 16 #[.val (.ref ar), .val (.int i1), .val (.ref b1), .val (.int (6 : Int32)), .val (.int (128 : Int32)), .val (.int (i1 + (2 : Int32))), .val (.int (0 : Int32)), .val (.long (XT.ushrL q2 (0 : Int32))), .second] [(.ref wP)])) oT
    refine XS.iloadN X26.here hx rfl (hb hby dF_16) rfl  ?_
    exact oK
  show OG _ _ _ _ _ _ _ (T26.setTop (mkF m 17 #[.val (.ref ar), .val (.int i1), .val (.ref b1), .val (.int (6 : Int32)), .val (.int (128 : Int32)), .val (.int (i1 + (2 : Int32))), .val (.int (0 : Int32)), .val (.long (XT.ushrL q2 (0 : Int32))), .second] [(.int (6 : Int32)), (.ref wP)]))
  have cf87 := ((TP 6 (by decide)).ext (f86).2)
  obtain ⟨clf87, Arf87, If87, Hf87⟩ := cf87
  refine OG.of (X26.iaload hx (j := (6 : Int32)) (v := (.int (153 : Int32))) (by rw [e26]; exact Arf87.1) (State.isArrayOf_alike hZ.alike Arf87.2.1) Arf87.2.2 If87 Hf87 (g := (mkF m 17 #[.val (.ref ar), .val (.int i1), .val (.ref b1), .val (.int (6 : Int32)), .val (.int (128 : Int32)), .val (.int (i1 + (2 : Int32))), .val (.int (0 : Int32)), .val (.long (XT.ushrL q2 (0 : Int32))), .second] [(.int (6 : Int32)), (.ref wP)])) rfl rfl (hb hby dF_17)) ?_
  show OG _ _ _ _ _ _ _ (T26.setTop (mkF m 18 #[.val (.ref ar), .val (.int i1), .val (.ref b1), .val (.int (6 : Int32)), .val (.int (128 : Int32)), .val (.int (i1 + (2 : Int32))), .val (.int (0 : Int32)), .val (.long (XT.ushrL q2 (0 : Int32))), .second] [(.int (153 : Int32))]))
  refine OG.of (A := T26.setTop (mkF m 39 #[.val (.ref ar), .val (.int i1), .val (.ref b1), .val (.int (6 : Int32)), .val (.int (153 : Int32)), .val (.int (i1 + (2 : Int32))), .val (.int (25 : Int32)), .val (.long (XT.ushrL q2 (0 : Int32))), .second] [(.int (i1 + (2 : Int32))), (.ref ar)])) (fun oT oK => ?_) ?_
  · show Steps p.tables e below (T26.setTop (mkF m 18 #[.val (.ref ar), .val (.int i1), .val (.ref b1), .val (.int (6 : Int32)), .val (.int (128 : Int32)), .val (.int (i1 + (2 : Int32))), .val (.int (0 : Int32)), .val (.long (XT.ushrL q2 (0 : Int32))), .second] [(.int (153 : Int32))])) oT
    refine XS.istore X26.here hx rfl (hb hby dF_18) rfl (l' := #[.val (.ref ar), .val (.int i1), .val (.ref b1), .val (.int (6 : Int32)), .val (.int (153 : Int32)), .val (.int (i1 + (2 : Int32))), .val (.int (0 : Int32)), .val (.long (XT.ushrL q2 (0 : Int32))), .second]) rfl ?_
    show Steps p.tables e below (T26.setTop (mkF m 20 #[.val (.ref ar), .val (.int i1), .val (.ref b1), .val (.int (6 : Int32)), .val (.int (153 : Int32)), .val (.int (i1 + (2 : Int32))), .val (.int (0 : Int32)), .val (.long (XT.ushrL q2 (0 : Int32))), .second] [])) _
    refine XS.iloadN X26.here hx rfl (hb hby dF_20) rfl  ?_
    show Steps p.tables e below (T26.setTop (mkF m 21 #[.val (.ref ar), .val (.int i1), .val (.ref b1), .val (.int (6 : Int32)), .val (.int (153 : Int32)), .val (.int (i1 + (2 : Int32))), .val (.int (0 : Int32)), .val (.long (XT.ushrL q2 (0 : Int32))), .second] [(.int i1)])) _
    refine XS.iload X26.here hx rfl (hb hby dF_21) rfl  ?_
    show Steps p.tables e below (T26.setTop (mkF m 23 #[.val (.ref ar), .val (.int i1), .val (.ref b1), .val (.int (6 : Int32)), .val (.int (153 : Int32)), .val (.int (i1 + (2 : Int32))), .val (.int (0 : Int32)), .val (.long (XT.ushrL q2 (0 : Int32))), .second] [(.int (153 : Int32)), (.int i1)])) _
    refine XS.bipush X26.here hx rfl (hb hby dF_23) ?_
    show Steps p.tables e below (T26.setTop (mkF m 25 #[.val (.ref ar), .val (.int i1), .val (.ref b1), .val (.int (6 : Int32)), .val (.int (153 : Int32)), .val (.int (i1 + (2 : Int32))), .val (.int (0 : Int32)), .val (.long (XT.ushrL q2 (0 : Int32))), .second] [(.int (64 : Int32)), (.int (153 : Int32)), (.int i1)])) _
    refine XS.idiv X26.here hx rfl (hb hby dF_25) rfl (by decide) ?_
    show Steps p.tables e below (T26.setTop (mkF m 26 #[.val (.ref ar), .val (.int i1), .val (.ref b1), .val (.int (6 : Int32)), .val (.int (153 : Int32)), .val (.int (i1 + (2 : Int32))), .val (.int (0 : Int32)), .val (.long (XT.ushrL q2 (0 : Int32))), .second] [(.int (2 : Int32)), (.int i1)])) _
    refine XS.iadd X26.here hx rfl (hb hby dF_26) rfl ?_
    show Steps p.tables e below (T26.setTop (mkF m 27 #[.val (.ref ar), .val (.int i1), .val (.ref b1), .val (.int (6 : Int32)), .val (.int (153 : Int32)), .val (.int (i1 + (2 : Int32))), .val (.int (0 : Int32)), .val (.long (XT.ushrL q2 (0 : Int32))), .second] [(.int (i1 + (2 : Int32)))])) _
    refine XS.istore X26.here hx rfl (hb hby dF_27) rfl (l' := #[.val (.ref ar), .val (.int i1), .val (.ref b1), .val (.int (6 : Int32)), .val (.int (153 : Int32)), .val (.int (i1 + (2 : Int32))), .val (.int (0 : Int32)), .val (.long (XT.ushrL q2 (0 : Int32))), .second]) rfl ?_
    show Steps p.tables e below (T26.setTop (mkF m 29 #[.val (.ref ar), .val (.int i1), .val (.ref b1), .val (.int (6 : Int32)), .val (.int (153 : Int32)), .val (.int (i1 + (2 : Int32))), .val (.int (0 : Int32)), .val (.long (XT.ushrL q2 (0 : Int32))), .second] [])) _
    refine XS.iload X26.here hx rfl (hb hby dF_29) rfl  ?_
    show Steps p.tables e below (T26.setTop (mkF m 31 #[.val (.ref ar), .val (.int i1), .val (.ref b1), .val (.int (6 : Int32)), .val (.int (153 : Int32)), .val (.int (i1 + (2 : Int32))), .val (.int (0 : Int32)), .val (.long (XT.ushrL q2 (0 : Int32))), .second] [(.int (153 : Int32))])) _
    refine XS.bipush X26.here hx rfl (hb hby dF_31) ?_
    show Steps p.tables e below (T26.setTop (mkF m 33 #[.val (.ref ar), .val (.int i1), .val (.ref b1), .val (.int (6 : Int32)), .val (.int (153 : Int32)), .val (.int (i1 + (2 : Int32))), .val (.int (0 : Int32)), .val (.long (XT.ushrL q2 (0 : Int32))), .second] [(.int (64 : Int32)), (.int (153 : Int32))])) _
    refine Jvm.RoadKit.iremM X26 hx rfl (hb hby dF_33) rfl (by decide) ?_
    show Steps p.tables e below (T26.setTop (mkF m 34 #[.val (.ref ar), .val (.int i1), .val (.ref b1), .val (.int (6 : Int32)), .val (.int (153 : Int32)), .val (.int (i1 + (2 : Int32))), .val (.int (0 : Int32)), .val (.long (XT.ushrL q2 (0 : Int32))), .second] [(.int (25 : Int32))])) _
    refine XS.istore X26.here hx rfl (hb hby dF_34) rfl (l' := #[.val (.ref ar), .val (.int i1), .val (.ref b1), .val (.int (6 : Int32)), .val (.int (153 : Int32)), .val (.int (i1 + (2 : Int32))), .val (.int (25 : Int32)), .val (.long (XT.ushrL q2 (0 : Int32))), .second]) rfl ?_
    show Steps p.tables e below (T26.setTop (mkF m 36 #[.val (.ref ar), .val (.int i1), .val (.ref b1), .val (.int (6 : Int32)), .val (.int (153 : Int32)), .val (.int (i1 + (2 : Int32))), .val (.int (25 : Int32)), .val (.long (XT.ushrL q2 (0 : Int32))), .second] [])) _
    refine XS.aloadN X26.here hx rfl (hb hby dF_36) rfl rfl  ?_
    show Steps p.tables e below (T26.setTop (mkF m 37 #[.val (.ref ar), .val (.int i1), .val (.ref b1), .val (.int (6 : Int32)), .val (.int (153 : Int32)), .val (.int (i1 + (2 : Int32))), .val (.int (25 : Int32)), .val (.long (XT.ushrL q2 (0 : Int32))), .second] [(.ref ar)])) _
    refine XS.iload X26.here hx rfl (hb hby dF_37) rfl  ?_
    exact oK
  show OG _ _ _ _ _ _ _ (T26.setTop (mkF m 39 #[.val (.ref ar), .val (.int i1), .val (.ref b1), .val (.int (6 : Int32)), .val (.int (153 : Int32)), .val (.int (i1 + (2 : Int32))), .val (.int (25 : Int32)), .val (.long (XT.ushrL q2 (0 : Int32))), .second] [(.int (i1 + (2 : Int32))), (.ref ar)]))
  have cf88 := f81
  obtain ⟨clf88, Arf88, If88, Hf88⟩ := cf88
  refine OG.of (X26.laload hx (j := (i1 + (2 : Int32))) (v := (.long q2)) (by rw [e26]; exact Arf88.1) (State.isArrayOf_alike hZ.alike Arf88.2.1) Arf88.2.2 If88 Hf88 (g := (mkF m 39 #[.val (.ref ar), .val (.int i1), .val (.ref b1), .val (.int (6 : Int32)), .val (.int (153 : Int32)), .val (.int (i1 + (2 : Int32))), .val (.int (25 : Int32)), .val (.long (XT.ushrL q2 (0 : Int32))), .second] [(.int (i1 + (2 : Int32))), (.ref ar)])) rfl rfl (hb hby dF_39)) ?_
  show OG _ _ _ _ _ _ _ (T26.setTop (mkF m 40 #[.val (.ref ar), .val (.int i1), .val (.ref b1), .val (.int (6 : Int32)), .val (.int (153 : Int32)), .val (.int (i1 + (2 : Int32))), .val (.int (25 : Int32)), .val (.long (XT.ushrL q2 (0 : Int32))), .second] [(.long q2)]))
  refine OG.of (A := T26.setTop (mkF m 47 #[.val (.ref ar), .val (.int i1), .val (.ref b1), .val (.int (6 : Int32)), .val (.int (153 : Int32)), .val (.int (i1 + (2 : Int32))), .val (.int (25 : Int32)), .val (.long (XT.ushrL q2 (25 : Int32))), .second] [(.int (25 : Int32))])) (fun oT oK => ?_) ?_
  · show Steps p.tables e below (T26.setTop (mkF m 40 #[.val (.ref ar), .val (.int i1), .val (.ref b1), .val (.int (6 : Int32)), .val (.int (153 : Int32)), .val (.int (i1 + (2 : Int32))), .val (.int (25 : Int32)), .val (.long (XT.ushrL q2 (0 : Int32))), .second] [(.long q2)])) oT
    refine XS.iload X26.here hx rfl (hb hby dF_40) rfl  ?_
    show Steps p.tables e below (T26.setTop (mkF m 42 #[.val (.ref ar), .val (.int i1), .val (.ref b1), .val (.int (6 : Int32)), .val (.int (153 : Int32)), .val (.int (i1 + (2 : Int32))), .val (.int (25 : Int32)), .val (.long (XT.ushrL q2 (0 : Int32))), .second] [(.int (25 : Int32)), (.long q2)])) _
    refine XT.lushr X26.here hx rfl (hb hby dF_42) rfl ?_
    show Steps p.tables e below (T26.setTop (mkF m 43 #[.val (.ref ar), .val (.int i1), .val (.ref b1), .val (.int (6 : Int32)), .val (.int (153 : Int32)), .val (.int (i1 + (2 : Int32))), .val (.int (25 : Int32)), .val (.long (XT.ushrL q2 (0 : Int32))), .second] [(.long (XT.ushrL q2 (25 : Int32)))])) _
    refine XT.lstore X26.here hx rfl (hb hby dF_43) rfl (l' := #[.val (.ref ar), .val (.int i1), .val (.ref b1), .val (.int (6 : Int32)), .val (.int (153 : Int32)), .val (.int (i1 + (2 : Int32))), .val (.int (25 : Int32)), .val (.long (XT.ushrL q2 (25 : Int32))), .second]) rfl ?_
    show Steps p.tables e below (T26.setTop (mkF m 45 #[.val (.ref ar), .val (.int i1), .val (.ref b1), .val (.int (6 : Int32)), .val (.int (153 : Int32)), .val (.int (i1 + (2 : Int32))), .val (.int (25 : Int32)), .val (.long (XT.ushrL q2 (25 : Int32))), .second] [])) _
    refine XS.iload X26.here hx rfl (hb hby dF_45) rfl  ?_
    exact oK
  show OG _ _ _ _ _ _ _ (T26.setTop (mkF m 47 #[.val (.ref ar), .val (.int i1), .val (.ref b1), .val (.int (6 : Int32)), .val (.int (153 : Int32)), .val (.int (i1 + (2 : Int32))), .val (.int (25 : Int32)), .val (.long (XT.ushrL q2 (25 : Int32))), .second] [(.int (25 : Int32))]))
  obtain ⟨T27, X27, e27, st27⟩ := getS2 X26 hx hZ hown (host := "") (Or.inl (hw _ (List.mem_of_getElem? (i := 7) rfl))) Via.refl e26 (SB.ext (f86).2) (g := (mkF m 47 #[.val (.ref ar), .val (.int i1), .val (.ref b1), .val (.int (6 : Int32)), .val (.int (153 : Int32)), .val (.int (i1 + (2 : Int32))), .val (.int (25 : Int32)), .val (.long (XT.ushrL q2 (25 : Int32))), .second] [(.int (25 : Int32))])) rfl (hb hby dF_47)
  refine OG.of st27 ?_
  show OG _ _ _ _ _ _ _ (T27.setTop (mkF m 50 #[.val (.ref ar), .val (.int i1), .val (.ref b1), .val (.int (6 : Int32)), .val (.int (153 : Int32)), .val (.int (i1 + (2 : Int32))), .val (.int (25 : Int32)), .val (.long (XT.ushrL q2 (25 : Int32))), .second] [(.ref wB), (.int (25 : Int32))]))
  refine OG.of (A := T27.setTop (mkF m 51 #[.val (.ref ar), .val (.int i1), .val (.ref b1), .val (.int (6 : Int32)), .val (.int (153 : Int32)), .val (.int (i1 + (2 : Int32))), .val (.int (25 : Int32)), .val (.long (XT.ushrL q2 (25 : Int32))), .second] [(.int (6 : Int32)), (.ref wB), (.int (25 : Int32))])) (fun oT oK => ?_) ?_
  · show Steps p.tables e below (T27.setTop (mkF m 50 #[.val (.ref ar), .val (.int i1), .val (.ref b1), .val (.int (6 : Int32)), .val (.int (153 : Int32)), .val (.int (i1 + (2 : Int32))), .val (.int (25 : Int32)), .val (.long (XT.ushrL q2 (25 : Int32))), .second] [(.ref wB), (.int (25 : Int32))])) oT
    refine XS.iloadN X27.here hx rfl (hb hby dF_50) rfl  ?_
    exact oK
  show OG _ _ _ _ _ _ _ (T27.setTop (mkF m 51 #[.val (.ref ar), .val (.int i1), .val (.ref b1), .val (.int (6 : Int32)), .val (.int (153 : Int32)), .val (.int (i1 + (2 : Int32))), .val (.int (25 : Int32)), .val (.long (XT.ushrL q2 (25 : Int32))), .second] [(.int (6 : Int32)), (.ref wB), (.int (25 : Int32))]))
  have cf89 := ((TB 6 (by decide)).ext (f86).2)
  obtain ⟨clf89, Arf89, If89, Hf89⟩ := cf89
  refine OG.of (X27.iaload hx (j := (6 : Int32)) (v := (.int (26 : Int32))) (by rw [e27]; exact Arf89.1) (State.isArrayOf_alike hZ.alike Arf89.2.1) Arf89.2.2 If89 Hf89 (g := (mkF m 51 #[.val (.ref ar), .val (.int i1), .val (.ref b1), .val (.int (6 : Int32)), .val (.int (153 : Int32)), .val (.int (i1 + (2 : Int32))), .val (.int (25 : Int32)), .val (.long (XT.ushrL q2 (25 : Int32))), .second] [(.int (6 : Int32)), (.ref wB), (.int (25 : Int32))])) rfl rfl (hb hby dF_51)) ?_
  show OG _ _ _ _ _ _ _ (T27.setTop (mkF m 52 #[.val (.ref ar), .val (.int i1), .val (.ref b1), .val (.int (6 : Int32)), .val (.int (153 : Int32)), .val (.int (i1 + (2 : Int32))), .val (.int (25 : Int32)), .val (.long (XT.ushrL q2 (25 : Int32))), .second] [(.int (26 : Int32)), (.int (25 : Int32))]))
  refine OG.of (A := T27.setTop (mkF m 80 #[.val (.ref ar), .val (.int i1), .val (.ref b1), .val (.int (6 : Int32)), .val (.int (153 : Int32)), .val (.int (i1 + (2 : Int32))), .val (.int (25 : Int32)), .val (.long (XT.ushrL q2 (25 : Int32))), .second] [(.long (1 : Int64)), (.long (XT.ushrL q2 (25 : Int32))), (.int (6 : Int32)), (.ref b1)])) (fun oT oK => ?_) ?_
  · show Steps p.tables e below (T27.setTop (mkF m 52 #[.val (.ref ar), .val (.int i1), .val (.ref b1), .val (.int (6 : Int32)), .val (.int (153 : Int32)), .val (.int (i1 + (2 : Int32))), .val (.int (25 : Int32)), .val (.long (XT.ushrL q2 (25 : Int32))), .second] [(.int (26 : Int32)), (.int (25 : Int32))])) oT
    refine XS.iadd X27.here hx rfl (hb hby dF_52) rfl ?_
    show Steps p.tables e below (T27.setTop (mkF m 53 #[.val (.ref ar), .val (.int i1), .val (.ref b1), .val (.int (6 : Int32)), .val (.int (153 : Int32)), .val (.int (i1 + (2 : Int32))), .val (.int (25 : Int32)), .val (.long (XT.ushrL q2 (25 : Int32))), .second] [(.int (51 : Int32))])) _
    refine XS.bipush X27.here hx rfl (hb hby dF_53) ?_
    show Steps p.tables e below (T27.setTop (mkF m 55 #[.val (.ref ar), .val (.int i1), .val (.ref b1), .val (.int (6 : Int32)), .val (.int (153 : Int32)), .val (.int (i1 + (2 : Int32))), .val (.int (25 : Int32)), .val (.long (XT.ushrL q2 (25 : Int32))), .second] [(.int (64 : Int32)), (.int (51 : Int32))])) _
    refine XS.icmpYes X27.here hx rfl (pc0 := 55) (pc' := 75) rfl (hb hby dF_55) rfl (XT.ii_le_t (by decide)) (by decide) (by decide) ?_
    show Steps p.tables e below (T27.setTop (mkF m 75 #[.val (.ref ar), .val (.int i1), .val (.ref b1), .val (.int (6 : Int32)), .val (.int (153 : Int32)), .val (.int (i1 + (2 : Int32))), .val (.int (25 : Int32)), .val (.long (XT.ushrL q2 (25 : Int32))), .second] [])) _
    refine XS.aloadN X27.here hx rfl (hb hby dF_75) rfl rfl  ?_
    show Steps p.tables e below (T27.setTop (mkF m 76 #[.val (.ref ar), .val (.int i1), .val (.ref b1), .val (.int (6 : Int32)), .val (.int (153 : Int32)), .val (.int (i1 + (2 : Int32))), .val (.int (25 : Int32)), .val (.long (XT.ushrL q2 (25 : Int32))), .second] [(.ref b1)])) _
    refine XS.iloadN X27.here hx rfl (hb hby dF_76) rfl  ?_
    show Steps p.tables e below (T27.setTop (mkF m 77 #[.val (.ref ar), .val (.int i1), .val (.ref b1), .val (.int (6 : Int32)), .val (.int (153 : Int32)), .val (.int (i1 + (2 : Int32))), .val (.int (25 : Int32)), .val (.long (XT.ushrL q2 (25 : Int32))), .second] [(.int (6 : Int32)), (.ref b1)])) _
    refine XT.lload X27.here hx rfl (hb hby dF_77) rfl  ?_
    show Steps p.tables e below (T27.setTop (mkF m 79 #[.val (.ref ar), .val (.int i1), .val (.ref b1), .val (.int (6 : Int32)), .val (.int (153 : Int32)), .val (.int (i1 + (2 : Int32))), .val (.int (25 : Int32)), .val (.long (XT.ushrL q2 (25 : Int32))), .second] [(.long (XT.ushrL q2 (25 : Int32))), (.int (6 : Int32)), (.ref b1)])) _
    refine XT.lconst X27.here hx rfl (hb hby dF_79) ?_
    exact oK
  show OG _ _ _ _ _ _ _ (T27.setTop (mkF m 80 #[.val (.ref ar), .val (.int i1), .val (.ref b1), .val (.int (6 : Int32)), .val (.int (153 : Int32)), .val (.int (i1 + (2 : Int32))), .val (.int (25 : Int32)), .val (.long (XT.ushrL q2 (25 : Int32))), .second] [(.long (1 : Int64)), (.long (XT.ushrL q2 (25 : Int32))), (.int (6 : Int32)), (.ref b1)]))
  obtain ⟨T28, X28, e28, st28⟩ := getS2 X27 hx hZ hown (host := "") (Or.inl (hw _ (List.mem_of_getElem? (i := 7) rfl))) Via.refl e27 (SB.ext (f86).2) (g := (mkF m 80 #[.val (.ref ar), .val (.int i1), .val (.ref b1), .val (.int (6 : Int32)), .val (.int (153 : Int32)), .val (.int (i1 + (2 : Int32))), .val (.int (25 : Int32)), .val (.long (XT.ushrL q2 (25 : Int32))), .second] [(.long (1 : Int64)), (.long (XT.ushrL q2 (25 : Int32))), (.int (6 : Int32)), (.ref b1)])) rfl (hb hby dF_80)
  refine OG.of st28 ?_
  show OG _ _ _ _ _ _ _ (T28.setTop (mkF m 83 #[.val (.ref ar), .val (.int i1), .val (.ref b1), .val (.int (6 : Int32)), .val (.int (153 : Int32)), .val (.int (i1 + (2 : Int32))), .val (.int (25 : Int32)), .val (.long (XT.ushrL q2 (25 : Int32))), .second] [(.ref wB), (.long (1 : Int64)), (.long (XT.ushrL q2 (25 : Int32))), (.int (6 : Int32)), (.ref b1)]))
  refine OG.of (A := T28.setTop (mkF m 84 #[.val (.ref ar), .val (.int i1), .val (.ref b1), .val (.int (6 : Int32)), .val (.int (153 : Int32)), .val (.int (i1 + (2 : Int32))), .val (.int (25 : Int32)), .val (.long (XT.ushrL q2 (25 : Int32))), .second] [(.int (6 : Int32)), (.ref wB), (.long (1 : Int64)), (.long (XT.ushrL q2 (25 : Int32))), (.int (6 : Int32)), (.ref b1)])) (fun oT oK => ?_) ?_
  · show Steps p.tables e below (T28.setTop (mkF m 83 #[.val (.ref ar), .val (.int i1), .val (.ref b1), .val (.int (6 : Int32)), .val (.int (153 : Int32)), .val (.int (i1 + (2 : Int32))), .val (.int (25 : Int32)), .val (.long (XT.ushrL q2 (25 : Int32))), .second] [(.ref wB), (.long (1 : Int64)), (.long (XT.ushrL q2 (25 : Int32))), (.int (6 : Int32)), (.ref b1)])) oT
    refine XS.iloadN X28.here hx rfl (hb hby dF_83) rfl  ?_
    exact oK
  show OG _ _ _ _ _ _ _ (T28.setTop (mkF m 84 #[.val (.ref ar), .val (.int i1), .val (.ref b1), .val (.int (6 : Int32)), .val (.int (153 : Int32)), .val (.int (i1 + (2 : Int32))), .val (.int (25 : Int32)), .val (.long (XT.ushrL q2 (25 : Int32))), .second] [(.int (6 : Int32)), (.ref wB), (.long (1 : Int64)), (.long (XT.ushrL q2 (25 : Int32))), (.int (6 : Int32)), (.ref b1)]))
  have cf90 := ((TB 6 (by decide)).ext (f86).2)
  obtain ⟨clf90, Arf90, If90, Hf90⟩ := cf90
  refine OG.of (X28.iaload hx (j := (6 : Int32)) (v := (.int (26 : Int32))) (by rw [e28]; exact Arf90.1) (State.isArrayOf_alike hZ.alike Arf90.2.1) Arf90.2.2 If90 Hf90 (g := (mkF m 84 #[.val (.ref ar), .val (.int i1), .val (.ref b1), .val (.int (6 : Int32)), .val (.int (153 : Int32)), .val (.int (i1 + (2 : Int32))), .val (.int (25 : Int32)), .val (.long (XT.ushrL q2 (25 : Int32))), .second] [(.int (6 : Int32)), (.ref wB), (.long (1 : Int64)), (.long (XT.ushrL q2 (25 : Int32))), (.int (6 : Int32)), (.ref b1)])) rfl rfl (hb hby dF_84)) ?_
  show OG _ _ _ _ _ _ _ (T28.setTop (mkF m 85 #[.val (.ref ar), .val (.int i1), .val (.ref b1), .val (.int (6 : Int32)), .val (.int (153 : Int32)), .val (.int (i1 + (2 : Int32))), .val (.int (25 : Int32)), .val (.long (XT.ushrL q2 (25 : Int32))), .second] [(.int (26 : Int32)), (.long (1 : Int64)), (.long (XT.ushrL q2 (25 : Int32))), (.int (6 : Int32)), (.ref b1)]))
  refine OG.of (A := T28.setTop (mkF m 89 #[.val (.ref ar), .val (.int i1), .val (.ref b1), .val (.int (6 : Int32)), .val (.int (153 : Int32)), .val (.int (i1 + (2 : Int32))), .val (.int (25 : Int32)), .val (.long (XT.ushrL q2 (25 : Int32))), .second] [(.long ((XT.ushrL q2 (25 : Int32)) &&& (((1 : Int64) <<< ((26 : Int32).toInt64 &&& 63)) - (1 : Int64)))), (.int (6 : Int32)), (.ref b1)])) (fun oT oK => ?_) ?_
  · show Steps p.tables e below (T28.setTop (mkF m 85 #[.val (.ref ar), .val (.int i1), .val (.ref b1), .val (.int (6 : Int32)), .val (.int (153 : Int32)), .val (.int (i1 + (2 : Int32))), .val (.int (25 : Int32)), .val (.long (XT.ushrL q2 (25 : Int32))), .second] [(.int (26 : Int32)), (.long (1 : Int64)), (.long (XT.ushrL q2 (25 : Int32))), (.int (6 : Int32)), (.ref b1)])) oT
    refine XT.lshl X28.here hx rfl (hb hby dF_85) rfl ?_
    show Steps p.tables e below (T28.setTop (mkF m 86 #[.val (.ref ar), .val (.int i1), .val (.ref b1), .val (.int (6 : Int32)), .val (.int (153 : Int32)), .val (.int (i1 + (2 : Int32))), .val (.int (25 : Int32)), .val (.long (XT.ushrL q2 (25 : Int32))), .second] [(.long ((1 : Int64) <<< ((26 : Int32).toInt64 &&& 63))), (.long (XT.ushrL q2 (25 : Int32))), (.int (6 : Int32)), (.ref b1)])) _
    refine XT.lconst X28.here hx rfl (hb hby dF_86) ?_
    show Steps p.tables e below (T28.setTop (mkF m 87 #[.val (.ref ar), .val (.int i1), .val (.ref b1), .val (.int (6 : Int32)), .val (.int (153 : Int32)), .val (.int (i1 + (2 : Int32))), .val (.int (25 : Int32)), .val (.long (XT.ushrL q2 (25 : Int32))), .second] [(.long (1 : Int64)), (.long ((1 : Int64) <<< ((26 : Int32).toInt64 &&& 63))), (.long (XT.ushrL q2 (25 : Int32))), (.int (6 : Int32)), (.ref b1)])) _
    refine XT.lsub X28.here hx rfl (hb hby dF_87) rfl ?_
    show Steps p.tables e below (T28.setTop (mkF m 88 #[.val (.ref ar), .val (.int i1), .val (.ref b1), .val (.int (6 : Int32)), .val (.int (153 : Int32)), .val (.int (i1 + (2 : Int32))), .val (.int (25 : Int32)), .val (.long (XT.ushrL q2 (25 : Int32))), .second] [(.long (((1 : Int64) <<< ((26 : Int32).toInt64 &&& 63)) - (1 : Int64))), (.long (XT.ushrL q2 (25 : Int32))), (.int (6 : Int32)), (.ref b1)])) _
    refine XT.land X28.here hx rfl (hb hby dF_88) rfl ?_
    exact oK
  show OG _ _ _ _ _ _ _ (T28.setTop (mkF m 89 #[.val (.ref ar), .val (.int i1), .val (.ref b1), .val (.int (6 : Int32)), .val (.int (153 : Int32)), .val (.int (i1 + (2 : Int32))), .val (.int (25 : Int32)), .val (.long (XT.ushrL q2 (25 : Int32))), .second] [(.long ((XT.ushrL q2 (25 : Int32)) &&& (((1 : Int64) <<< ((26 : Int32).toInt64 &&& 63)) - (1 : Int64)))), (.int (6 : Int32)), (.ref b1)]))
  show OG _ _ _ _ _ _ _ (T28.setTop (mkF m 89 #[.val (.ref ar), .val (.int i1), .val (.ref b1), .val (.int (6 : Int32)), .val (.int (153 : Int32)), .val (.int (i1 + (2 : Int32))), .val (.int (25 : Int32)), .val (.long (XT.ushrL q2 (25 : Int32))), .second] [(.long (own_l6 q0 q1 q2 q3)), (.int (6 : Int32)), (.ref b1)]))
  have cf91 := V25
  obtain ⟨clf91, Arf91, qf91, Sf91, Mf91, Hf91, Gf91⟩ := cf91
  obtain ⟨T29, h29, X29, e29, W29, st29⟩ := stJ X28 hx hZ e28 Arf91 (j := (6 : Int32)) (inb_of Sf91 ⟨by decide, by decide⟩) (g := (mkF m 89 #[.val (.ref ar), .val (.int i1), .val (.ref b1), .val (.int (6 : Int32)), .val (.int (153 : Int32)), .val (.int (i1 + (2 : Int32))), .val (.int (25 : Int32)), .val (.long (XT.ushrL q2 (25 : Int32))), .second] [(.long (own_l6 q0 q1 q2 q3)), (.int (6 : Int32)), (.ref b1)])) rfl rfl (hb hby dF_89)
  have f92 := (f79).other W29 ne_ar_b1
  have f93 := (f80).other W29 ne_ar_b1
  have f94 := (f81).other W29 ne_ar_b1
  have f95 := (f82).other W29 ne_ar_b1
  have f96 := (f83).other W29 ne_ar_b1
  have f97 := (f84).other W29 ne_ar_b1
  have V29 : Arv Z h29 b1 kc1 .long (10 : Int32) [(.long (own_l0 q0 q1 q2 q3)), (.long (own_l1 q0 q1 q2 q3)), (.long (own_l2 q0 q1 q2 q3)), (.long (own_l3 q0 q1 q2 q3)), (.long (own_l4 q0 q1 q2 q3)), (.long (own_l5 q0 q1 q2 q3)), (.long (own_l6 q0 q1 q2 q3)), (.long (0 : Int64)), (.long (0 : Int64)), (.long (0 : Int64))] (.long (0 : Int64)) := Arv.set Arf91 qf91 Sf91 Mf91 Hf91 Gf91 rfl W29 6 rfl (Nat.le_of_ble_eq_true rfl)
  have f99 := (f86).wr W29 gn_b1
  have K29 : Keep h0 h29 [] := (K25).wr W29 (Or.inr sz_b1)
  have Z29 : n0 ≤ h29.size := Nat.le_trans Z25 (Keep.of_wr W29).1
  have N29 := Fr.snoc X29 N25 gn_b1
  refine OG.of st29 ?_
  show OG _ _ _ _ _ _ _ (T29.setTop (mkF m 90 #[.val (.ref ar), .val (.int i1), .val (.ref b1), .val (.int (6 : Int32)), .val (.int (153 : Int32)), .val (.int (i1 + (2 : Int32))), .val (.int (25 : Int32)), .val (.long (XT.ushrL q2 (25 : Int32))), .second] []))
  refine OG.of (A := T29.setTop (mkF m 13 #[.val (.ref ar), .val (.int i1), .val (.ref b1), .val (.int (7 : Int32)), .val (.int (153 : Int32)), .val (.int (i1 + (2 : Int32))), .val (.int (25 : Int32)), .val (.long (XT.ushrL q2 (25 : Int32))), .second] [])) (fun oT oK => ?_) ?_
  · show Steps p.tables e below (T29.setTop (mkF m 90 #[.val (.ref ar), .val (.int i1), .val (.ref b1), .val (.int (6 : Int32)), .val (.int (153 : Int32)), .val (.int (i1 + (2 : Int32))), .val (.int (25 : Int32)), .val (.long (XT.ushrL q2 (25 : Int32))), .second] [])) oT
    refine XS.iinc X29.here hx rfl (hb hby dF_90) rfl (l' := #[.val (.ref ar), .val (.int i1), .val (.ref b1), .val (.int (7 : Int32)), .val (.int (153 : Int32)), .val (.int (i1 + (2 : Int32))), .val (.int (25 : Int32)), .val (.long (XT.ushrL q2 (25 : Int32))), .second]) rfl ?_
    show Steps p.tables e below (T29.setTop (mkF m 93 #[.val (.ref ar), .val (.int i1), .val (.ref b1), .val (.int (7 : Int32)), .val (.int (153 : Int32)), .val (.int (i1 + (2 : Int32))), .val (.int (25 : Int32)), .val (.long (XT.ushrL q2 (25 : Int32))), .second] [])) _
    refine XS.goto X29.here hx rfl (pc0 := 93) (pc' := 7) rfl (hb hby dF_93) (by decide) (by decide) ?_
    show Steps p.tables e below (T29.setTop (mkF m 7 #[.val (.ref ar), .val (.int i1), .val (.ref b1), .val (.int (7 : Int32)), .val (.int (153 : Int32)), .val (.int (i1 + (2 : Int32))), .val (.int (25 : Int32)), .val (.long (XT.ushrL q2 (25 : Int32))), .second] [])) _
    refine XS.iloadN X29.here hx rfl (hb hby dF_7) rfl  ?_
    show Steps p.tables e below (T29.setTop (mkF m 8 #[.val (.ref ar), .val (.int i1), .val (.ref b1), .val (.int (7 : Int32)), .val (.int (153 : Int32)), .val (.int (i1 + (2 : Int32))), .val (.int (25 : Int32)), .val (.long (XT.ushrL q2 (25 : Int32))), .second] [(.int (7 : Int32))])) _
    refine XS.bipush X29.here hx rfl (hb hby dF_8) ?_
    show Steps p.tables e below (T29.setTop (mkF m 10 #[.val (.ref ar), .val (.int i1), .val (.ref b1), .val (.int (7 : Int32)), .val (.int (153 : Int32)), .val (.int (i1 + (2 : Int32))), .val (.int (25 : Int32)), .val (.long (XT.ushrL q2 (25 : Int32))), .second] [(.int (10 : Int32)), (.int (7 : Int32))])) _
    refine XS.icmpNo X29.here hx rfl (hb hby dF_10) rfl (XT.ii_ge_f (by decide)) ?_
    exact oK
  show OG _ _ _ _ _ _ _ (T29.setTop (mkF m 13 #[.val (.ref ar), .val (.int i1), .val (.ref b1), .val (.int (7 : Int32)), .val (.int (153 : Int32)), .val (.int (i1 + (2 : Int32))), .val (.int (25 : Int32)), .val (.long (XT.ushrL q2 (25 : Int32))), .second] []))
  obtain ⟨T30, X30, e30, st30⟩ := getS2 X29 hx hZ hown (host := "") (Or.inl (hw _ (List.mem_of_getElem? (i := 5) rfl))) Via.refl e29 (SP.ext (f99).2) (g := (mkF m 13 #[.val (.ref ar), .val (.int i1), .val (.ref b1), .val (.int (7 : Int32)), .val (.int (153 : Int32)), .val (.int (i1 + (2 : Int32))), .val (.int (25 : Int32)), .val (.long (XT.ushrL q2 (25 : Int32))), .second] [])) rfl (hb hby dF_13)
  refine OG.of st30 ?_
  show OG _ _ _ _ _ _ _ (T30.setTop (mkF m 16 #[.val (.ref ar), .val (.int i1), .val (.ref b1), .val (.int (7 : Int32)), .val (.int (153 : Int32)), .val (.int (i1 + (2 : Int32))), .val (.int (25 : Int32)), .val (.long (XT.ushrL q2 (25 : Int32))), .second] [(.ref wP)]))
  refine OG.of (A := T30.setTop (mkF m 17 #[.val (.ref ar), .val (.int i1), .val (.ref b1), .val (.int (7 : Int32)), .val (.int (153 : Int32)), .val (.int (i1 + (2 : Int32))), .val (.int (25 : Int32)), .val (.long (XT.ushrL q2 (25 : Int32))), .second] [(.int (7 : Int32)), (.ref wP)])) (fun oT oK => ?_) ?_
  · show Steps p.tables e below (T30.setTop (mkF m 16 #[.val (.ref ar), .val (.int i1), .val (.ref b1), .val (.int (7 : Int32)), .val (.int (153 : Int32)), .val (.int (i1 + (2 : Int32))), .val (.int (25 : Int32)), .val (.long (XT.ushrL q2 (25 : Int32))), .second] [(.ref wP)])) oT
    refine XS.iloadN X30.here hx rfl (hb hby dF_16) rfl  ?_
    exact oK
  show OG _ _ _ _ _ _ _ (T30.setTop (mkF m 17 #[.val (.ref ar), .val (.int i1), .val (.ref b1), .val (.int (7 : Int32)), .val (.int (153 : Int32)), .val (.int (i1 + (2 : Int32))), .val (.int (25 : Int32)), .val (.long (XT.ushrL q2 (25 : Int32))), .second] [(.int (7 : Int32)), (.ref wP)]))
  have cf100 := ((TP 7 (by decide)).ext (f99).2)
  obtain ⟨clf100, Arf100, If100, Hf100⟩ := cf100
  refine OG.of (X30.iaload hx (j := (7 : Int32)) (v := (.int (179 : Int32))) (by rw [e30]; exact Arf100.1) (State.isArrayOf_alike hZ.alike Arf100.2.1) Arf100.2.2 If100 Hf100 (g := (mkF m 17 #[.val (.ref ar), .val (.int i1), .val (.ref b1), .val (.int (7 : Int32)), .val (.int (153 : Int32)), .val (.int (i1 + (2 : Int32))), .val (.int (25 : Int32)), .val (.long (XT.ushrL q2 (25 : Int32))), .second] [(.int (7 : Int32)), (.ref wP)])) rfl rfl (hb hby dF_17)) ?_
  show OG _ _ _ _ _ _ _ (T30.setTop (mkF m 18 #[.val (.ref ar), .val (.int i1), .val (.ref b1), .val (.int (7 : Int32)), .val (.int (153 : Int32)), .val (.int (i1 + (2 : Int32))), .val (.int (25 : Int32)), .val (.long (XT.ushrL q2 (25 : Int32))), .second] [(.int (179 : Int32))]))
  refine OG.of (A := T30.setTop (mkF m 39 #[.val (.ref ar), .val (.int i1), .val (.ref b1), .val (.int (7 : Int32)), .val (.int (179 : Int32)), .val (.int (i1 + (2 : Int32))), .val (.int (51 : Int32)), .val (.long (XT.ushrL q2 (25 : Int32))), .second] [(.int (i1 + (2 : Int32))), (.ref ar)])) (fun oT oK => ?_) ?_
  · show Steps p.tables e below (T30.setTop (mkF m 18 #[.val (.ref ar), .val (.int i1), .val (.ref b1), .val (.int (7 : Int32)), .val (.int (153 : Int32)), .val (.int (i1 + (2 : Int32))), .val (.int (25 : Int32)), .val (.long (XT.ushrL q2 (25 : Int32))), .second] [(.int (179 : Int32))])) oT
    refine XS.istore X30.here hx rfl (hb hby dF_18) rfl (l' := #[.val (.ref ar), .val (.int i1), .val (.ref b1), .val (.int (7 : Int32)), .val (.int (179 : Int32)), .val (.int (i1 + (2 : Int32))), .val (.int (25 : Int32)), .val (.long (XT.ushrL q2 (25 : Int32))), .second]) rfl ?_
    show Steps p.tables e below (T30.setTop (mkF m 20 #[.val (.ref ar), .val (.int i1), .val (.ref b1), .val (.int (7 : Int32)), .val (.int (179 : Int32)), .val (.int (i1 + (2 : Int32))), .val (.int (25 : Int32)), .val (.long (XT.ushrL q2 (25 : Int32))), .second] [])) _
    refine XS.iloadN X30.here hx rfl (hb hby dF_20) rfl  ?_
    show Steps p.tables e below (T30.setTop (mkF m 21 #[.val (.ref ar), .val (.int i1), .val (.ref b1), .val (.int (7 : Int32)), .val (.int (179 : Int32)), .val (.int (i1 + (2 : Int32))), .val (.int (25 : Int32)), .val (.long (XT.ushrL q2 (25 : Int32))), .second] [(.int i1)])) _
    refine XS.iload X30.here hx rfl (hb hby dF_21) rfl  ?_
    show Steps p.tables e below (T30.setTop (mkF m 23 #[.val (.ref ar), .val (.int i1), .val (.ref b1), .val (.int (7 : Int32)), .val (.int (179 : Int32)), .val (.int (i1 + (2 : Int32))), .val (.int (25 : Int32)), .val (.long (XT.ushrL q2 (25 : Int32))), .second] [(.int (179 : Int32)), (.int i1)])) _
    refine XS.bipush X30.here hx rfl (hb hby dF_23) ?_
    show Steps p.tables e below (T30.setTop (mkF m 25 #[.val (.ref ar), .val (.int i1), .val (.ref b1), .val (.int (7 : Int32)), .val (.int (179 : Int32)), .val (.int (i1 + (2 : Int32))), .val (.int (25 : Int32)), .val (.long (XT.ushrL q2 (25 : Int32))), .second] [(.int (64 : Int32)), (.int (179 : Int32)), (.int i1)])) _
    refine XS.idiv X30.here hx rfl (hb hby dF_25) rfl (by decide) ?_
    show Steps p.tables e below (T30.setTop (mkF m 26 #[.val (.ref ar), .val (.int i1), .val (.ref b1), .val (.int (7 : Int32)), .val (.int (179 : Int32)), .val (.int (i1 + (2 : Int32))), .val (.int (25 : Int32)), .val (.long (XT.ushrL q2 (25 : Int32))), .second] [(.int (2 : Int32)), (.int i1)])) _
    refine XS.iadd X30.here hx rfl (hb hby dF_26) rfl ?_
    show Steps p.tables e below (T30.setTop (mkF m 27 #[.val (.ref ar), .val (.int i1), .val (.ref b1), .val (.int (7 : Int32)), .val (.int (179 : Int32)), .val (.int (i1 + (2 : Int32))), .val (.int (25 : Int32)), .val (.long (XT.ushrL q2 (25 : Int32))), .second] [(.int (i1 + (2 : Int32)))])) _
    refine XS.istore X30.here hx rfl (hb hby dF_27) rfl (l' := #[.val (.ref ar), .val (.int i1), .val (.ref b1), .val (.int (7 : Int32)), .val (.int (179 : Int32)), .val (.int (i1 + (2 : Int32))), .val (.int (25 : Int32)), .val (.long (XT.ushrL q2 (25 : Int32))), .second]) rfl ?_
    show Steps p.tables e below (T30.setTop (mkF m 29 #[.val (.ref ar), .val (.int i1), .val (.ref b1), .val (.int (7 : Int32)), .val (.int (179 : Int32)), .val (.int (i1 + (2 : Int32))), .val (.int (25 : Int32)), .val (.long (XT.ushrL q2 (25 : Int32))), .second] [])) _
    refine XS.iload X30.here hx rfl (hb hby dF_29) rfl  ?_
    show Steps p.tables e below (T30.setTop (mkF m 31 #[.val (.ref ar), .val (.int i1), .val (.ref b1), .val (.int (7 : Int32)), .val (.int (179 : Int32)), .val (.int (i1 + (2 : Int32))), .val (.int (25 : Int32)), .val (.long (XT.ushrL q2 (25 : Int32))), .second] [(.int (179 : Int32))])) _
    refine XS.bipush X30.here hx rfl (hb hby dF_31) ?_
    show Steps p.tables e below (T30.setTop (mkF m 33 #[.val (.ref ar), .val (.int i1), .val (.ref b1), .val (.int (7 : Int32)), .val (.int (179 : Int32)), .val (.int (i1 + (2 : Int32))), .val (.int (25 : Int32)), .val (.long (XT.ushrL q2 (25 : Int32))), .second] [(.int (64 : Int32)), (.int (179 : Int32))])) _
    refine Jvm.RoadKit.iremM X30 hx rfl (hb hby dF_33) rfl (by decide) ?_
    show Steps p.tables e below (T30.setTop (mkF m 34 #[.val (.ref ar), .val (.int i1), .val (.ref b1), .val (.int (7 : Int32)), .val (.int (179 : Int32)), .val (.int (i1 + (2 : Int32))), .val (.int (25 : Int32)), .val (.long (XT.ushrL q2 (25 : Int32))), .second] [(.int (51 : Int32))])) _
    refine XS.istore X30.here hx rfl (hb hby dF_34) rfl (l' := #[.val (.ref ar), .val (.int i1), .val (.ref b1), .val (.int (7 : Int32)), .val (.int (179 : Int32)), .val (.int (i1 + (2 : Int32))), .val (.int (51 : Int32)), .val (.long (XT.ushrL q2 (25 : Int32))), .second]) rfl ?_
    show Steps p.tables e below (T30.setTop (mkF m 36 #[.val (.ref ar), .val (.int i1), .val (.ref b1), .val (.int (7 : Int32)), .val (.int (179 : Int32)), .val (.int (i1 + (2 : Int32))), .val (.int (51 : Int32)), .val (.long (XT.ushrL q2 (25 : Int32))), .second] [])) _
    refine XS.aloadN X30.here hx rfl (hb hby dF_36) rfl rfl  ?_
    show Steps p.tables e below (T30.setTop (mkF m 37 #[.val (.ref ar), .val (.int i1), .val (.ref b1), .val (.int (7 : Int32)), .val (.int (179 : Int32)), .val (.int (i1 + (2 : Int32))), .val (.int (51 : Int32)), .val (.long (XT.ushrL q2 (25 : Int32))), .second] [(.ref ar)])) _
    refine XS.iload X30.here hx rfl (hb hby dF_37) rfl  ?_
    exact oK
  show OG _ _ _ _ _ _ _ (T30.setTop (mkF m 39 #[.val (.ref ar), .val (.int i1), .val (.ref b1), .val (.int (7 : Int32)), .val (.int (179 : Int32)), .val (.int (i1 + (2 : Int32))), .val (.int (51 : Int32)), .val (.long (XT.ushrL q2 (25 : Int32))), .second] [(.int (i1 + (2 : Int32))), (.ref ar)]))
  have cf101 := f94
  obtain ⟨clf101, Arf101, If101, Hf101⟩ := cf101
  refine OG.of (X30.laload hx (j := (i1 + (2 : Int32))) (v := (.long q2)) (by rw [e30]; exact Arf101.1) (State.isArrayOf_alike hZ.alike Arf101.2.1) Arf101.2.2 If101 Hf101 (g := (mkF m 39 #[.val (.ref ar), .val (.int i1), .val (.ref b1), .val (.int (7 : Int32)), .val (.int (179 : Int32)), .val (.int (i1 + (2 : Int32))), .val (.int (51 : Int32)), .val (.long (XT.ushrL q2 (25 : Int32))), .second] [(.int (i1 + (2 : Int32))), (.ref ar)])) rfl rfl (hb hby dF_39)) ?_
  show OG _ _ _ _ _ _ _ (T30.setTop (mkF m 40 #[.val (.ref ar), .val (.int i1), .val (.ref b1), .val (.int (7 : Int32)), .val (.int (179 : Int32)), .val (.int (i1 + (2 : Int32))), .val (.int (51 : Int32)), .val (.long (XT.ushrL q2 (25 : Int32))), .second] [(.long q2)]))
  refine OG.of (A := T30.setTop (mkF m 47 #[.val (.ref ar), .val (.int i1), .val (.ref b1), .val (.int (7 : Int32)), .val (.int (179 : Int32)), .val (.int (i1 + (2 : Int32))), .val (.int (51 : Int32)), .val (.long (XT.ushrL q2 (51 : Int32))), .second] [(.int (51 : Int32))])) (fun oT oK => ?_) ?_
  · show Steps p.tables e below (T30.setTop (mkF m 40 #[.val (.ref ar), .val (.int i1), .val (.ref b1), .val (.int (7 : Int32)), .val (.int (179 : Int32)), .val (.int (i1 + (2 : Int32))), .val (.int (51 : Int32)), .val (.long (XT.ushrL q2 (25 : Int32))), .second] [(.long q2)])) oT
    refine XS.iload X30.here hx rfl (hb hby dF_40) rfl  ?_
    show Steps p.tables e below (T30.setTop (mkF m 42 #[.val (.ref ar), .val (.int i1), .val (.ref b1), .val (.int (7 : Int32)), .val (.int (179 : Int32)), .val (.int (i1 + (2 : Int32))), .val (.int (51 : Int32)), .val (.long (XT.ushrL q2 (25 : Int32))), .second] [(.int (51 : Int32)), (.long q2)])) _
    refine XT.lushr X30.here hx rfl (hb hby dF_42) rfl ?_
    show Steps p.tables e below (T30.setTop (mkF m 43 #[.val (.ref ar), .val (.int i1), .val (.ref b1), .val (.int (7 : Int32)), .val (.int (179 : Int32)), .val (.int (i1 + (2 : Int32))), .val (.int (51 : Int32)), .val (.long (XT.ushrL q2 (25 : Int32))), .second] [(.long (XT.ushrL q2 (51 : Int32)))])) _
    refine XT.lstore X30.here hx rfl (hb hby dF_43) rfl (l' := #[.val (.ref ar), .val (.int i1), .val (.ref b1), .val (.int (7 : Int32)), .val (.int (179 : Int32)), .val (.int (i1 + (2 : Int32))), .val (.int (51 : Int32)), .val (.long (XT.ushrL q2 (51 : Int32))), .second]) rfl ?_
    show Steps p.tables e below (T30.setTop (mkF m 45 #[.val (.ref ar), .val (.int i1), .val (.ref b1), .val (.int (7 : Int32)), .val (.int (179 : Int32)), .val (.int (i1 + (2 : Int32))), .val (.int (51 : Int32)), .val (.long (XT.ushrL q2 (51 : Int32))), .second] [])) _
    refine XS.iload X30.here hx rfl (hb hby dF_45) rfl  ?_
    exact oK
  show OG _ _ _ _ _ _ _ (T30.setTop (mkF m 47 #[.val (.ref ar), .val (.int i1), .val (.ref b1), .val (.int (7 : Int32)), .val (.int (179 : Int32)), .val (.int (i1 + (2 : Int32))), .val (.int (51 : Int32)), .val (.long (XT.ushrL q2 (51 : Int32))), .second] [(.int (51 : Int32))]))
  obtain ⟨T31, X31, e31, st31⟩ := getS2 X30 hx hZ hown (host := "") (Or.inl (hw _ (List.mem_of_getElem? (i := 7) rfl))) Via.refl e30 (SB.ext (f99).2) (g := (mkF m 47 #[.val (.ref ar), .val (.int i1), .val (.ref b1), .val (.int (7 : Int32)), .val (.int (179 : Int32)), .val (.int (i1 + (2 : Int32))), .val (.int (51 : Int32)), .val (.long (XT.ushrL q2 (51 : Int32))), .second] [(.int (51 : Int32))])) rfl (hb hby dF_47)
  refine OG.of st31 ?_
  show OG _ _ _ _ _ _ _ (T31.setTop (mkF m 50 #[.val (.ref ar), .val (.int i1), .val (.ref b1), .val (.int (7 : Int32)), .val (.int (179 : Int32)), .val (.int (i1 + (2 : Int32))), .val (.int (51 : Int32)), .val (.long (XT.ushrL q2 (51 : Int32))), .second] [(.ref wB), (.int (51 : Int32))]))
  refine OG.of (A := T31.setTop (mkF m 51 #[.val (.ref ar), .val (.int i1), .val (.ref b1), .val (.int (7 : Int32)), .val (.int (179 : Int32)), .val (.int (i1 + (2 : Int32))), .val (.int (51 : Int32)), .val (.long (XT.ushrL q2 (51 : Int32))), .second] [(.int (7 : Int32)), (.ref wB), (.int (51 : Int32))])) (fun oT oK => ?_) ?_
  · show Steps p.tables e below (T31.setTop (mkF m 50 #[.val (.ref ar), .val (.int i1), .val (.ref b1), .val (.int (7 : Int32)), .val (.int (179 : Int32)), .val (.int (i1 + (2 : Int32))), .val (.int (51 : Int32)), .val (.long (XT.ushrL q2 (51 : Int32))), .second] [(.ref wB), (.int (51 : Int32))])) oT
    refine XS.iloadN X31.here hx rfl (hb hby dF_50) rfl  ?_
    exact oK
  show OG _ _ _ _ _ _ _ (T31.setTop (mkF m 51 #[.val (.ref ar), .val (.int i1), .val (.ref b1), .val (.int (7 : Int32)), .val (.int (179 : Int32)), .val (.int (i1 + (2 : Int32))), .val (.int (51 : Int32)), .val (.long (XT.ushrL q2 (51 : Int32))), .second] [(.int (7 : Int32)), (.ref wB), (.int (51 : Int32))]))
  have cf102 := ((TB 7 (by decide)).ext (f99).2)
  obtain ⟨clf102, Arf102, If102, Hf102⟩ := cf102
  refine OG.of (X31.iaload hx (j := (7 : Int32)) (v := (.int (25 : Int32))) (by rw [e31]; exact Arf102.1) (State.isArrayOf_alike hZ.alike Arf102.2.1) Arf102.2.2 If102 Hf102 (g := (mkF m 51 #[.val (.ref ar), .val (.int i1), .val (.ref b1), .val (.int (7 : Int32)), .val (.int (179 : Int32)), .val (.int (i1 + (2 : Int32))), .val (.int (51 : Int32)), .val (.long (XT.ushrL q2 (51 : Int32))), .second] [(.int (7 : Int32)), (.ref wB), (.int (51 : Int32))])) rfl rfl (hb hby dF_51)) ?_
  show OG _ _ _ _ _ _ _ (T31.setTop (mkF m 52 #[.val (.ref ar), .val (.int i1), .val (.ref b1), .val (.int (7 : Int32)), .val (.int (179 : Int32)), .val (.int (i1 + (2 : Int32))), .val (.int (51 : Int32)), .val (.long (XT.ushrL q2 (51 : Int32))), .second] [(.int (25 : Int32)), (.int (51 : Int32))]))
  refine OG.of (A := T31.setTop (mkF m 65 #[.val (.ref ar), .val (.int i1), .val (.ref b1), .val (.int (7 : Int32)), .val (.int (179 : Int32)), .val (.int (i1 + (2 : Int32))), .val (.int (51 : Int32)), .val (.long (XT.ushrL q2 (51 : Int32))), .second] [(.int ((i1 + (2 : Int32)) + (1 : Int32))), (.ref ar), (.long (XT.ushrL q2 (51 : Int32)))])) (fun oT oK => ?_) ?_
  · show Steps p.tables e below (T31.setTop (mkF m 52 #[.val (.ref ar), .val (.int i1), .val (.ref b1), .val (.int (7 : Int32)), .val (.int (179 : Int32)), .val (.int (i1 + (2 : Int32))), .val (.int (51 : Int32)), .val (.long (XT.ushrL q2 (51 : Int32))), .second] [(.int (25 : Int32)), (.int (51 : Int32))])) oT
    refine XS.iadd X31.here hx rfl (hb hby dF_52) rfl ?_
    show Steps p.tables e below (T31.setTop (mkF m 53 #[.val (.ref ar), .val (.int i1), .val (.ref b1), .val (.int (7 : Int32)), .val (.int (179 : Int32)), .val (.int (i1 + (2 : Int32))), .val (.int (51 : Int32)), .val (.long (XT.ushrL q2 (51 : Int32))), .second] [(.int (76 : Int32))])) _
    refine XS.bipush X31.here hx rfl (hb hby dF_53) ?_
    show Steps p.tables e below (T31.setTop (mkF m 55 #[.val (.ref ar), .val (.int i1), .val (.ref b1), .val (.int (7 : Int32)), .val (.int (179 : Int32)), .val (.int (i1 + (2 : Int32))), .val (.int (51 : Int32)), .val (.long (XT.ushrL q2 (51 : Int32))), .second] [(.int (64 : Int32)), (.int (76 : Int32))])) _
    refine XS.icmpNo X31.here hx rfl (hb hby dF_55) rfl (XT.ii_le_f (by decide)) ?_
    show Steps p.tables e below (T31.setTop (mkF m 58 #[.val (.ref ar), .val (.int i1), .val (.ref b1), .val (.int (7 : Int32)), .val (.int (179 : Int32)), .val (.int (i1 + (2 : Int32))), .val (.int (51 : Int32)), .val (.long (XT.ushrL q2 (51 : Int32))), .second] [])) _
    refine XT.lload X31.here hx rfl (hb hby dF_58) rfl  ?_
    show Steps p.tables e below (T31.setTop (mkF m 60 #[.val (.ref ar), .val (.int i1), .val (.ref b1), .val (.int (7 : Int32)), .val (.int (179 : Int32)), .val (.int (i1 + (2 : Int32))), .val (.int (51 : Int32)), .val (.long (XT.ushrL q2 (51 : Int32))), .second] [(.long (XT.ushrL q2 (51 : Int32)))])) _
    refine XS.aloadN X31.here hx rfl (hb hby dF_60) rfl rfl  ?_
    show Steps p.tables e below (T31.setTop (mkF m 61 #[.val (.ref ar), .val (.int i1), .val (.ref b1), .val (.int (7 : Int32)), .val (.int (179 : Int32)), .val (.int (i1 + (2 : Int32))), .val (.int (51 : Int32)), .val (.long (XT.ushrL q2 (51 : Int32))), .second] [(.ref ar), (.long (XT.ushrL q2 (51 : Int32)))])) _
    refine XS.iload X31.here hx rfl (hb hby dF_61) rfl  ?_
    show Steps p.tables e below (T31.setTop (mkF m 63 #[.val (.ref ar), .val (.int i1), .val (.ref b1), .val (.int (7 : Int32)), .val (.int (179 : Int32)), .val (.int (i1 + (2 : Int32))), .val (.int (51 : Int32)), .val (.long (XT.ushrL q2 (51 : Int32))), .second] [(.int (i1 + (2 : Int32))), (.ref ar), (.long (XT.ushrL q2 (51 : Int32)))])) _
    refine XS.iconst X31.here hx rfl (hb hby dF_63) ?_
    show Steps p.tables e below (T31.setTop (mkF m 64 #[.val (.ref ar), .val (.int i1), .val (.ref b1), .val (.int (7 : Int32)), .val (.int (179 : Int32)), .val (.int (i1 + (2 : Int32))), .val (.int (51 : Int32)), .val (.long (XT.ushrL q2 (51 : Int32))), .second] [(.int (1 : Int32)), (.int (i1 + (2 : Int32))), (.ref ar), (.long (XT.ushrL q2 (51 : Int32)))])) _
    refine XS.iadd X31.here hx rfl (hb hby dF_64) rfl ?_
    exact oK
  show OG _ _ _ _ _ _ _ (T31.setTop (mkF m 65 #[.val (.ref ar), .val (.int i1), .val (.ref b1), .val (.int (7 : Int32)), .val (.int (179 : Int32)), .val (.int (i1 + (2 : Int32))), .val (.int (51 : Int32)), .val (.long (XT.ushrL q2 (51 : Int32))), .second] [(.int ((i1 + (2 : Int32)) + (1 : Int32))), (.ref ar), (.long (XT.ushrL q2 (51 : Int32)))]))
  have cf103 := f97
  obtain ⟨clf103, Arf103, If103, Hf103⟩ := cf103
  refine OG.of (X31.laload hx (j := ((i1 + (2 : Int32)) + (1 : Int32))) (v := (.long q3)) (by rw [e31]; exact Arf103.1) (State.isArrayOf_alike hZ.alike Arf103.2.1) Arf103.2.2 If103 Hf103 (g := (mkF m 65 #[.val (.ref ar), .val (.int i1), .val (.ref b1), .val (.int (7 : Int32)), .val (.int (179 : Int32)), .val (.int (i1 + (2 : Int32))), .val (.int (51 : Int32)), .val (.long (XT.ushrL q2 (51 : Int32))), .second] [(.int ((i1 + (2 : Int32)) + (1 : Int32))), (.ref ar), (.long (XT.ushrL q2 (51 : Int32)))])) rfl rfl (hb hby dF_65)) ?_
  show OG _ _ _ _ _ _ _ (T31.setTop (mkF m 66 #[.val (.ref ar), .val (.int i1), .val (.ref b1), .val (.int (7 : Int32)), .val (.int (179 : Int32)), .val (.int (i1 + (2 : Int32))), .val (.int (51 : Int32)), .val (.long (XT.ushrL q2 (51 : Int32))), .second] [(.long q3), (.long (XT.ushrL q2 (51 : Int32)))]))
  refine OG.of (A := T31.setTop (mkF m 80 #[.val (.ref ar), .val (.int i1), .val (.ref b1), .val (.int (7 : Int32)), .val (.int (179 : Int32)), .val (.int (i1 + (2 : Int32))), .val (.int (51 : Int32)), .val (.long ((XT.ushrL q2 (51 : Int32)) ||| (q3 <<< ((13 : Int32).toInt64 &&& 63)))), .second] [(.long (1 : Int64)), (.long ((XT.ushrL q2 (51 : Int32)) ||| (q3 <<< ((13 : Int32).toInt64 &&& 63)))), (.int (7 : Int32)), (.ref b1)])) (fun oT oK => ?_) ?_
  · show Steps p.tables e below (T31.setTop (mkF m 66 #[.val (.ref ar), .val (.int i1), .val (.ref b1), .val (.int (7 : Int32)), .val (.int (179 : Int32)), .val (.int (i1 + (2 : Int32))), .val (.int (51 : Int32)), .val (.long (XT.ushrL q2 (51 : Int32))), .second] [(.long q3), (.long (XT.ushrL q2 (51 : Int32)))])) oT
    refine XS.bipush X31.here hx rfl (hb hby dF_66) ?_
    show Steps p.tables e below (T31.setTop (mkF m 68 #[.val (.ref ar), .val (.int i1), .val (.ref b1), .val (.int (7 : Int32)), .val (.int (179 : Int32)), .val (.int (i1 + (2 : Int32))), .val (.int (51 : Int32)), .val (.long (XT.ushrL q2 (51 : Int32))), .second] [(.int (64 : Int32)), (.long q3), (.long (XT.ushrL q2 (51 : Int32)))])) _
    refine XS.iload X31.here hx rfl (hb hby dF_68) rfl  ?_
    show Steps p.tables e below (T31.setTop (mkF m 70 #[.val (.ref ar), .val (.int i1), .val (.ref b1), .val (.int (7 : Int32)), .val (.int (179 : Int32)), .val (.int (i1 + (2 : Int32))), .val (.int (51 : Int32)), .val (.long (XT.ushrL q2 (51 : Int32))), .second] [(.int (51 : Int32)), (.int (64 : Int32)), (.long q3), (.long (XT.ushrL q2 (51 : Int32)))])) _
    refine XS.isub X31.here hx rfl (hb hby dF_70) rfl ?_
    show Steps p.tables e below (T31.setTop (mkF m 71 #[.val (.ref ar), .val (.int i1), .val (.ref b1), .val (.int (7 : Int32)), .val (.int (179 : Int32)), .val (.int (i1 + (2 : Int32))), .val (.int (51 : Int32)), .val (.long (XT.ushrL q2 (51 : Int32))), .second] [(.int (13 : Int32)), (.long q3), (.long (XT.ushrL q2 (51 : Int32)))])) _
    refine XT.lshl X31.here hx rfl (hb hby dF_71) rfl ?_
    show Steps p.tables e below (T31.setTop (mkF m 72 #[.val (.ref ar), .val (.int i1), .val (.ref b1), .val (.int (7 : Int32)), .val (.int (179 : Int32)), .val (.int (i1 + (2 : Int32))), .val (.int (51 : Int32)), .val (.long (XT.ushrL q2 (51 : Int32))), .second] [(.long (q3 <<< ((13 : Int32).toInt64 &&& 63))), (.long (XT.ushrL q2 (51 : Int32)))])) _
    refine XT.lor X31.here hx rfl (hb hby dF_72) rfl ?_
    show Steps p.tables e below (T31.setTop (mkF m 73 #[.val (.ref ar), .val (.int i1), .val (.ref b1), .val (.int (7 : Int32)), .val (.int (179 : Int32)), .val (.int (i1 + (2 : Int32))), .val (.int (51 : Int32)), .val (.long (XT.ushrL q2 (51 : Int32))), .second] [(.long ((XT.ushrL q2 (51 : Int32)) ||| (q3 <<< ((13 : Int32).toInt64 &&& 63))))])) _
    refine XT.lstore X31.here hx rfl (hb hby dF_73) rfl (l' := #[.val (.ref ar), .val (.int i1), .val (.ref b1), .val (.int (7 : Int32)), .val (.int (179 : Int32)), .val (.int (i1 + (2 : Int32))), .val (.int (51 : Int32)), .val (.long ((XT.ushrL q2 (51 : Int32)) ||| (q3 <<< ((13 : Int32).toInt64 &&& 63)))), .second]) rfl ?_
    show Steps p.tables e below (T31.setTop (mkF m 75 #[.val (.ref ar), .val (.int i1), .val (.ref b1), .val (.int (7 : Int32)), .val (.int (179 : Int32)), .val (.int (i1 + (2 : Int32))), .val (.int (51 : Int32)), .val (.long ((XT.ushrL q2 (51 : Int32)) ||| (q3 <<< ((13 : Int32).toInt64 &&& 63)))), .second] [])) _
    refine XS.aloadN X31.here hx rfl (hb hby dF_75) rfl rfl  ?_
    show Steps p.tables e below (T31.setTop (mkF m 76 #[.val (.ref ar), .val (.int i1), .val (.ref b1), .val (.int (7 : Int32)), .val (.int (179 : Int32)), .val (.int (i1 + (2 : Int32))), .val (.int (51 : Int32)), .val (.long ((XT.ushrL q2 (51 : Int32)) ||| (q3 <<< ((13 : Int32).toInt64 &&& 63)))), .second] [(.ref b1)])) _
    refine XS.iloadN X31.here hx rfl (hb hby dF_76) rfl  ?_
    show Steps p.tables e below (T31.setTop (mkF m 77 #[.val (.ref ar), .val (.int i1), .val (.ref b1), .val (.int (7 : Int32)), .val (.int (179 : Int32)), .val (.int (i1 + (2 : Int32))), .val (.int (51 : Int32)), .val (.long ((XT.ushrL q2 (51 : Int32)) ||| (q3 <<< ((13 : Int32).toInt64 &&& 63)))), .second] [(.int (7 : Int32)), (.ref b1)])) _
    refine XT.lload X31.here hx rfl (hb hby dF_77) rfl  ?_
    show Steps p.tables e below (T31.setTop (mkF m 79 #[.val (.ref ar), .val (.int i1), .val (.ref b1), .val (.int (7 : Int32)), .val (.int (179 : Int32)), .val (.int (i1 + (2 : Int32))), .val (.int (51 : Int32)), .val (.long ((XT.ushrL q2 (51 : Int32)) ||| (q3 <<< ((13 : Int32).toInt64 &&& 63)))), .second] [(.long ((XT.ushrL q2 (51 : Int32)) ||| (q3 <<< ((13 : Int32).toInt64 &&& 63)))), (.int (7 : Int32)), (.ref b1)])) _
    refine XT.lconst X31.here hx rfl (hb hby dF_79) ?_
    exact oK
  show OG _ _ _ _ _ _ _ (T31.setTop (mkF m 80 #[.val (.ref ar), .val (.int i1), .val (.ref b1), .val (.int (7 : Int32)), .val (.int (179 : Int32)), .val (.int (i1 + (2 : Int32))), .val (.int (51 : Int32)), .val (.long ((XT.ushrL q2 (51 : Int32)) ||| (q3 <<< ((13 : Int32).toInt64 &&& 63)))), .second] [(.long (1 : Int64)), (.long ((XT.ushrL q2 (51 : Int32)) ||| (q3 <<< ((13 : Int32).toInt64 &&& 63)))), (.int (7 : Int32)), (.ref b1)]))
  obtain ⟨T32, X32, e32, st32⟩ := getS2 X31 hx hZ hown (host := "") (Or.inl (hw _ (List.mem_of_getElem? (i := 7) rfl))) Via.refl e31 (SB.ext (f99).2) (g := (mkF m 80 #[.val (.ref ar), .val (.int i1), .val (.ref b1), .val (.int (7 : Int32)), .val (.int (179 : Int32)), .val (.int (i1 + (2 : Int32))), .val (.int (51 : Int32)), .val (.long ((XT.ushrL q2 (51 : Int32)) ||| (q3 <<< ((13 : Int32).toInt64 &&& 63)))), .second] [(.long (1 : Int64)), (.long ((XT.ushrL q2 (51 : Int32)) ||| (q3 <<< ((13 : Int32).toInt64 &&& 63)))), (.int (7 : Int32)), (.ref b1)])) rfl (hb hby dF_80)
  refine OG.of st32 ?_
  show OG _ _ _ _ _ _ _ (T32.setTop (mkF m 83 #[.val (.ref ar), .val (.int i1), .val (.ref b1), .val (.int (7 : Int32)), .val (.int (179 : Int32)), .val (.int (i1 + (2 : Int32))), .val (.int (51 : Int32)), .val (.long ((XT.ushrL q2 (51 : Int32)) ||| (q3 <<< ((13 : Int32).toInt64 &&& 63)))), .second] [(.ref wB), (.long (1 : Int64)), (.long ((XT.ushrL q2 (51 : Int32)) ||| (q3 <<< ((13 : Int32).toInt64 &&& 63)))), (.int (7 : Int32)), (.ref b1)]))
  refine OG.of (A := T32.setTop (mkF m 84 #[.val (.ref ar), .val (.int i1), .val (.ref b1), .val (.int (7 : Int32)), .val (.int (179 : Int32)), .val (.int (i1 + (2 : Int32))), .val (.int (51 : Int32)), .val (.long ((XT.ushrL q2 (51 : Int32)) ||| (q3 <<< ((13 : Int32).toInt64 &&& 63)))), .second] [(.int (7 : Int32)), (.ref wB), (.long (1 : Int64)), (.long ((XT.ushrL q2 (51 : Int32)) ||| (q3 <<< ((13 : Int32).toInt64 &&& 63)))), (.int (7 : Int32)), (.ref b1)])) (fun oT oK => ?_) ?_
  · show Steps p.tables e below (T32.setTop (mkF m 83 #[.val (.ref ar), .val (.int i1), .val (.ref b1), .val (.int (7 : Int32)), .val (.int (179 : Int32)), .val (.int (i1 + (2 : Int32))), .val (.int (51 : Int32)), .val (.long ((XT.ushrL q2 (51 : Int32)) ||| (q3 <<< ((13 : Int32).toInt64 &&& 63)))), .second] [(.ref wB), (.long (1 : Int64)), (.long ((XT.ushrL q2 (51 : Int32)) ||| (q3 <<< ((13 : Int32).toInt64 &&& 63)))), (.int (7 : Int32)), (.ref b1)])) oT
    refine XS.iloadN X32.here hx rfl (hb hby dF_83) rfl  ?_
    exact oK
  show OG _ _ _ _ _ _ _ (T32.setTop (mkF m 84 #[.val (.ref ar), .val (.int i1), .val (.ref b1), .val (.int (7 : Int32)), .val (.int (179 : Int32)), .val (.int (i1 + (2 : Int32))), .val (.int (51 : Int32)), .val (.long ((XT.ushrL q2 (51 : Int32)) ||| (q3 <<< ((13 : Int32).toInt64 &&& 63)))), .second] [(.int (7 : Int32)), (.ref wB), (.long (1 : Int64)), (.long ((XT.ushrL q2 (51 : Int32)) ||| (q3 <<< ((13 : Int32).toInt64 &&& 63)))), (.int (7 : Int32)), (.ref b1)]))
  have cf104 := ((TB 7 (by decide)).ext (f99).2)
  obtain ⟨clf104, Arf104, If104, Hf104⟩ := cf104
  refine OG.of (X32.iaload hx (j := (7 : Int32)) (v := (.int (25 : Int32))) (by rw [e32]; exact Arf104.1) (State.isArrayOf_alike hZ.alike Arf104.2.1) Arf104.2.2 If104 Hf104 (g := (mkF m 84 #[.val (.ref ar), .val (.int i1), .val (.ref b1), .val (.int (7 : Int32)), .val (.int (179 : Int32)), .val (.int (i1 + (2 : Int32))), .val (.int (51 : Int32)), .val (.long ((XT.ushrL q2 (51 : Int32)) ||| (q3 <<< ((13 : Int32).toInt64 &&& 63)))), .second] [(.int (7 : Int32)), (.ref wB), (.long (1 : Int64)), (.long ((XT.ushrL q2 (51 : Int32)) ||| (q3 <<< ((13 : Int32).toInt64 &&& 63)))), (.int (7 : Int32)), (.ref b1)])) rfl rfl (hb hby dF_84)) ?_
  show OG _ _ _ _ _ _ _ (T32.setTop (mkF m 85 #[.val (.ref ar), .val (.int i1), .val (.ref b1), .val (.int (7 : Int32)), .val (.int (179 : Int32)), .val (.int (i1 + (2 : Int32))), .val (.int (51 : Int32)), .val (.long ((XT.ushrL q2 (51 : Int32)) ||| (q3 <<< ((13 : Int32).toInt64 &&& 63)))), .second] [(.int (25 : Int32)), (.long (1 : Int64)), (.long ((XT.ushrL q2 (51 : Int32)) ||| (q3 <<< ((13 : Int32).toInt64 &&& 63)))), (.int (7 : Int32)), (.ref b1)]))
  refine OG.of (A := T32.setTop (mkF m 89 #[.val (.ref ar), .val (.int i1), .val (.ref b1), .val (.int (7 : Int32)), .val (.int (179 : Int32)), .val (.int (i1 + (2 : Int32))), .val (.int (51 : Int32)), .val (.long ((XT.ushrL q2 (51 : Int32)) ||| (q3 <<< ((13 : Int32).toInt64 &&& 63)))), .second] [(.long (((XT.ushrL q2 (51 : Int32)) ||| (q3 <<< ((13 : Int32).toInt64 &&& 63))) &&& (((1 : Int64) <<< ((25 : Int32).toInt64 &&& 63)) - (1 : Int64)))), (.int (7 : Int32)), (.ref b1)])) (fun oT oK => ?_) ?_
  · show Steps p.tables e below (T32.setTop (mkF m 85 #[.val (.ref ar), .val (.int i1), .val (.ref b1), .val (.int (7 : Int32)), .val (.int (179 : Int32)), .val (.int (i1 + (2 : Int32))), .val (.int (51 : Int32)), .val (.long ((XT.ushrL q2 (51 : Int32)) ||| (q3 <<< ((13 : Int32).toInt64 &&& 63)))), .second] [(.int (25 : Int32)), (.long (1 : Int64)), (.long ((XT.ushrL q2 (51 : Int32)) ||| (q3 <<< ((13 : Int32).toInt64 &&& 63)))), (.int (7 : Int32)), (.ref b1)])) oT
    refine XT.lshl X32.here hx rfl (hb hby dF_85) rfl ?_
    show Steps p.tables e below (T32.setTop (mkF m 86 #[.val (.ref ar), .val (.int i1), .val (.ref b1), .val (.int (7 : Int32)), .val (.int (179 : Int32)), .val (.int (i1 + (2 : Int32))), .val (.int (51 : Int32)), .val (.long ((XT.ushrL q2 (51 : Int32)) ||| (q3 <<< ((13 : Int32).toInt64 &&& 63)))), .second] [(.long ((1 : Int64) <<< ((25 : Int32).toInt64 &&& 63))), (.long ((XT.ushrL q2 (51 : Int32)) ||| (q3 <<< ((13 : Int32).toInt64 &&& 63)))), (.int (7 : Int32)), (.ref b1)])) _
    refine XT.lconst X32.here hx rfl (hb hby dF_86) ?_
    show Steps p.tables e below (T32.setTop (mkF m 87 #[.val (.ref ar), .val (.int i1), .val (.ref b1), .val (.int (7 : Int32)), .val (.int (179 : Int32)), .val (.int (i1 + (2 : Int32))), .val (.int (51 : Int32)), .val (.long ((XT.ushrL q2 (51 : Int32)) ||| (q3 <<< ((13 : Int32).toInt64 &&& 63)))), .second] [(.long (1 : Int64)), (.long ((1 : Int64) <<< ((25 : Int32).toInt64 &&& 63))), (.long ((XT.ushrL q2 (51 : Int32)) ||| (q3 <<< ((13 : Int32).toInt64 &&& 63)))), (.int (7 : Int32)), (.ref b1)])) _
    refine XT.lsub X32.here hx rfl (hb hby dF_87) rfl ?_
    show Steps p.tables e below (T32.setTop (mkF m 88 #[.val (.ref ar), .val (.int i1), .val (.ref b1), .val (.int (7 : Int32)), .val (.int (179 : Int32)), .val (.int (i1 + (2 : Int32))), .val (.int (51 : Int32)), .val (.long ((XT.ushrL q2 (51 : Int32)) ||| (q3 <<< ((13 : Int32).toInt64 &&& 63)))), .second] [(.long (((1 : Int64) <<< ((25 : Int32).toInt64 &&& 63)) - (1 : Int64))), (.long ((XT.ushrL q2 (51 : Int32)) ||| (q3 <<< ((13 : Int32).toInt64 &&& 63)))), (.int (7 : Int32)), (.ref b1)])) _
    refine XT.land X32.here hx rfl (hb hby dF_88) rfl ?_
    exact oK
  show OG _ _ _ _ _ _ _ (T32.setTop (mkF m 89 #[.val (.ref ar), .val (.int i1), .val (.ref b1), .val (.int (7 : Int32)), .val (.int (179 : Int32)), .val (.int (i1 + (2 : Int32))), .val (.int (51 : Int32)), .val (.long ((XT.ushrL q2 (51 : Int32)) ||| (q3 <<< ((13 : Int32).toInt64 &&& 63)))), .second] [(.long (((XT.ushrL q2 (51 : Int32)) ||| (q3 <<< ((13 : Int32).toInt64 &&& 63))) &&& (((1 : Int64) <<< ((25 : Int32).toInt64 &&& 63)) - (1 : Int64)))), (.int (7 : Int32)), (.ref b1)]))
  show OG _ _ _ _ _ _ _ (T32.setTop (mkF m 89 #[.val (.ref ar), .val (.int i1), .val (.ref b1), .val (.int (7 : Int32)), .val (.int (179 : Int32)), .val (.int (i1 + (2 : Int32))), .val (.int (51 : Int32)), .val (.long ((XT.ushrL q2 (51 : Int32)) ||| (q3 <<< ((13 : Int32).toInt64 &&& 63)))), .second] [(.long (own_l7 q0 q1 q2 q3)), (.int (7 : Int32)), (.ref b1)]))
  have cf105 := V29
  obtain ⟨clf105, Arf105, qf105, Sf105, Mf105, Hf105, Gf105⟩ := cf105
  obtain ⟨T33, h33, X33, e33, W33, st33⟩ := stJ X32 hx hZ e32 Arf105 (j := (7 : Int32)) (inb_of Sf105 ⟨by decide, by decide⟩) (g := (mkF m 89 #[.val (.ref ar), .val (.int i1), .val (.ref b1), .val (.int (7 : Int32)), .val (.int (179 : Int32)), .val (.int (i1 + (2 : Int32))), .val (.int (51 : Int32)), .val (.long ((XT.ushrL q2 (51 : Int32)) ||| (q3 <<< ((13 : Int32).toInt64 &&& 63)))), .second] [(.long (own_l7 q0 q1 q2 q3)), (.int (7 : Int32)), (.ref b1)])) rfl rfl (hb hby dF_89)
  have f106 := (f92).other W33 ne_ar_b1
  have f107 := (f93).other W33 ne_ar_b1
  have f108 := (f94).other W33 ne_ar_b1
  have f109 := (f95).other W33 ne_ar_b1
  have f110 := (f96).other W33 ne_ar_b1
  have f111 := (f97).other W33 ne_ar_b1
  have V33 : Arv Z h33 b1 kc1 .long (10 : Int32) [(.long (own_l0 q0 q1 q2 q3)), (.long (own_l1 q0 q1 q2 q3)), (.long (own_l2 q0 q1 q2 q3)), (.long (own_l3 q0 q1 q2 q3)), (.long (own_l4 q0 q1 q2 q3)), (.long (own_l5 q0 q1 q2 q3)), (.long (own_l6 q0 q1 q2 q3)), (.long (own_l7 q0 q1 q2 q3)), (.long (0 : Int64)), (.long (0 : Int64))] (.long (0 : Int64)) := Arv.set Arf105 qf105 Sf105 Mf105 Hf105 Gf105 rfl W33 7 rfl (Nat.le_of_ble_eq_true rfl)
  have f113 := (f99).wr W33 gn_b1
  have K33 : Keep h0 h33 [] := (K29).wr W33 (Or.inr sz_b1)
  have Z33 : n0 ≤ h33.size := Nat.le_trans Z29 (Keep.of_wr W33).1
  have N33 := Fr.snoc X33 N29 gn_b1
  refine OG.of st33 ?_
  show OG _ _ _ _ _ _ _ (T33.setTop (mkF m 90 #[.val (.ref ar), .val (.int i1), .val (.ref b1), .val (.int (7 : Int32)), .val (.int (179 : Int32)), .val (.int (i1 + (2 : Int32))), .val (.int (51 : Int32)), .val (.long ((XT.ushrL q2 (51 : Int32)) ||| (q3 <<< ((13 : Int32).toInt64 &&& 63)))), .second] []))
  refine OG.of (A := T33.setTop (mkF m 13 #[.val (.ref ar), .val (.int i1), .val (.ref b1), .val (.int (8 : Int32)), .val (.int (179 : Int32)), .val (.int (i1 + (2 : Int32))), .val (.int (51 : Int32)), .val (.long ((XT.ushrL q2 (51 : Int32)) ||| (q3 <<< ((13 : Int32).toInt64 &&& 63)))), .second] [])) (fun oT oK => ?_) ?_
  · show Steps p.tables e below (T33.setTop (mkF m 90 #[.val (.ref ar), .val (.int i1), .val (.ref b1), .val (.int (7 : Int32)), .val (.int (179 : Int32)), .val (.int (i1 + (2 : Int32))), .val (.int (51 : Int32)), .val (.long ((XT.ushrL q2 (51 : Int32)) ||| (q3 <<< ((13 : Int32).toInt64 &&& 63)))), .second] [])) oT
    refine XS.iinc X33.here hx rfl (hb hby dF_90) rfl (l' := #[.val (.ref ar), .val (.int i1), .val (.ref b1), .val (.int (8 : Int32)), .val (.int (179 : Int32)), .val (.int (i1 + (2 : Int32))), .val (.int (51 : Int32)), .val (.long ((XT.ushrL q2 (51 : Int32)) ||| (q3 <<< ((13 : Int32).toInt64 &&& 63)))), .second]) rfl ?_
    show Steps p.tables e below (T33.setTop (mkF m 93 #[.val (.ref ar), .val (.int i1), .val (.ref b1), .val (.int (8 : Int32)), .val (.int (179 : Int32)), .val (.int (i1 + (2 : Int32))), .val (.int (51 : Int32)), .val (.long ((XT.ushrL q2 (51 : Int32)) ||| (q3 <<< ((13 : Int32).toInt64 &&& 63)))), .second] [])) _
    refine XS.goto X33.here hx rfl (pc0 := 93) (pc' := 7) rfl (hb hby dF_93) (by decide) (by decide) ?_
    show Steps p.tables e below (T33.setTop (mkF m 7 #[.val (.ref ar), .val (.int i1), .val (.ref b1), .val (.int (8 : Int32)), .val (.int (179 : Int32)), .val (.int (i1 + (2 : Int32))), .val (.int (51 : Int32)), .val (.long ((XT.ushrL q2 (51 : Int32)) ||| (q3 <<< ((13 : Int32).toInt64 &&& 63)))), .second] [])) _
    refine XS.iloadN X33.here hx rfl (hb hby dF_7) rfl  ?_
    show Steps p.tables e below (T33.setTop (mkF m 8 #[.val (.ref ar), .val (.int i1), .val (.ref b1), .val (.int (8 : Int32)), .val (.int (179 : Int32)), .val (.int (i1 + (2 : Int32))), .val (.int (51 : Int32)), .val (.long ((XT.ushrL q2 (51 : Int32)) ||| (q3 <<< ((13 : Int32).toInt64 &&& 63)))), .second] [(.int (8 : Int32))])) _
    refine XS.bipush X33.here hx rfl (hb hby dF_8) ?_
    show Steps p.tables e below (T33.setTop (mkF m 10 #[.val (.ref ar), .val (.int i1), .val (.ref b1), .val (.int (8 : Int32)), .val (.int (179 : Int32)), .val (.int (i1 + (2 : Int32))), .val (.int (51 : Int32)), .val (.long ((XT.ushrL q2 (51 : Int32)) ||| (q3 <<< ((13 : Int32).toInt64 &&& 63)))), .second] [(.int (10 : Int32)), (.int (8 : Int32))])) _
    refine XS.icmpNo X33.here hx rfl (hb hby dF_10) rfl (XT.ii_ge_f (by decide)) ?_
    exact oK
  show OG _ _ _ _ _ _ _ (T33.setTop (mkF m 13 #[.val (.ref ar), .val (.int i1), .val (.ref b1), .val (.int (8 : Int32)), .val (.int (179 : Int32)), .val (.int (i1 + (2 : Int32))), .val (.int (51 : Int32)), .val (.long ((XT.ushrL q2 (51 : Int32)) ||| (q3 <<< ((13 : Int32).toInt64 &&& 63)))), .second] []))
  obtain ⟨T34, X34, e34, st34⟩ := getS2 X33 hx hZ hown (host := "") (Or.inl (hw _ (List.mem_of_getElem? (i := 5) rfl))) Via.refl e33 (SP.ext (f113).2) (g := (mkF m 13 #[.val (.ref ar), .val (.int i1), .val (.ref b1), .val (.int (8 : Int32)), .val (.int (179 : Int32)), .val (.int (i1 + (2 : Int32))), .val (.int (51 : Int32)), .val (.long ((XT.ushrL q2 (51 : Int32)) ||| (q3 <<< ((13 : Int32).toInt64 &&& 63)))), .second] [])) rfl (hb hby dF_13)
  refine OG.of st34 ?_
  show OG _ _ _ _ _ _ _ (T34.setTop (mkF m 16 #[.val (.ref ar), .val (.int i1), .val (.ref b1), .val (.int (8 : Int32)), .val (.int (179 : Int32)), .val (.int (i1 + (2 : Int32))), .val (.int (51 : Int32)), .val (.long ((XT.ushrL q2 (51 : Int32)) ||| (q3 <<< ((13 : Int32).toInt64 &&& 63)))), .second] [(.ref wP)]))
  refine OG.of (A := T34.setTop (mkF m 17 #[.val (.ref ar), .val (.int i1), .val (.ref b1), .val (.int (8 : Int32)), .val (.int (179 : Int32)), .val (.int (i1 + (2 : Int32))), .val (.int (51 : Int32)), .val (.long ((XT.ushrL q2 (51 : Int32)) ||| (q3 <<< ((13 : Int32).toInt64 &&& 63)))), .second] [(.int (8 : Int32)), (.ref wP)])) (fun oT oK => ?_) ?_
  · show Steps p.tables e below (T34.setTop (mkF m 16 #[.val (.ref ar), .val (.int i1), .val (.ref b1), .val (.int (8 : Int32)), .val (.int (179 : Int32)), .val (.int (i1 + (2 : Int32))), .val (.int (51 : Int32)), .val (.long ((XT.ushrL q2 (51 : Int32)) ||| (q3 <<< ((13 : Int32).toInt64 &&& 63)))), .second] [(.ref wP)])) oT
    refine XS.iloadN X34.here hx rfl (hb hby dF_16) rfl  ?_
    exact oK
  show OG _ _ _ _ _ _ _ (T34.setTop (mkF m 17 #[.val (.ref ar), .val (.int i1), .val (.ref b1), .val (.int (8 : Int32)), .val (.int (179 : Int32)), .val (.int (i1 + (2 : Int32))), .val (.int (51 : Int32)), .val (.long ((XT.ushrL q2 (51 : Int32)) ||| (q3 <<< ((13 : Int32).toInt64 &&& 63)))), .second] [(.int (8 : Int32)), (.ref wP)]))
  have cf114 := ((TP 8 (by decide)).ext (f113).2)
  obtain ⟨clf114, Arf114, If114, Hf114⟩ := cf114
  refine OG.of (X34.iaload hx (j := (8 : Int32)) (v := (.int (204 : Int32))) (by rw [e34]; exact Arf114.1) (State.isArrayOf_alike hZ.alike Arf114.2.1) Arf114.2.2 If114 Hf114 (g := (mkF m 17 #[.val (.ref ar), .val (.int i1), .val (.ref b1), .val (.int (8 : Int32)), .val (.int (179 : Int32)), .val (.int (i1 + (2 : Int32))), .val (.int (51 : Int32)), .val (.long ((XT.ushrL q2 (51 : Int32)) ||| (q3 <<< ((13 : Int32).toInt64 &&& 63)))), .second] [(.int (8 : Int32)), (.ref wP)])) rfl rfl (hb hby dF_17)) ?_
  show OG _ _ _ _ _ _ _ (T34.setTop (mkF m 18 #[.val (.ref ar), .val (.int i1), .val (.ref b1), .val (.int (8 : Int32)), .val (.int (179 : Int32)), .val (.int (i1 + (2 : Int32))), .val (.int (51 : Int32)), .val (.long ((XT.ushrL q2 (51 : Int32)) ||| (q3 <<< ((13 : Int32).toInt64 &&& 63)))), .second] [(.int (204 : Int32))]))
  refine OG.of (A := T34.setTop (mkF m 39 #[.val (.ref ar), .val (.int i1), .val (.ref b1), .val (.int (8 : Int32)), .val (.int (204 : Int32)), .val (.int (i1 + (3 : Int32))), .val (.int (12 : Int32)), .val (.long ((XT.ushrL q2 (51 : Int32)) ||| (q3 <<< ((13 : Int32).toInt64 &&& 63)))), .second] [(.int (i1 + (3 : Int32))), (.ref ar)])) (fun oT oK => ?_) ?_
  · show Steps p.tables e below (T34.setTop (mkF m 18 #[.val (.ref ar), .val (.int i1), .val (.ref b1), .val (.int (8 : Int32)), .val (.int (179 : Int32)), .val (.int (i1 + (2 : Int32))), .val (.int (51 : Int32)), .val (.long ((XT.ushrL q2 (51 : Int32)) ||| (q3 <<< ((13 : Int32).toInt64 &&& 63)))), .second] [(.int (204 : Int32))])) oT
    refine XS.istore X34.here hx rfl (hb hby dF_18) rfl (l' := #[.val (.ref ar), .val (.int i1), .val (.ref b1), .val (.int (8 : Int32)), .val (.int (204 : Int32)), .val (.int (i1 + (2 : Int32))), .val (.int (51 : Int32)), .val (.long ((XT.ushrL q2 (51 : Int32)) ||| (q3 <<< ((13 : Int32).toInt64 &&& 63)))), .second]) rfl ?_
    show Steps p.tables e below (T34.setTop (mkF m 20 #[.val (.ref ar), .val (.int i1), .val (.ref b1), .val (.int (8 : Int32)), .val (.int (204 : Int32)), .val (.int (i1 + (2 : Int32))), .val (.int (51 : Int32)), .val (.long ((XT.ushrL q2 (51 : Int32)) ||| (q3 <<< ((13 : Int32).toInt64 &&& 63)))), .second] [])) _
    refine XS.iloadN X34.here hx rfl (hb hby dF_20) rfl  ?_
    show Steps p.tables e below (T34.setTop (mkF m 21 #[.val (.ref ar), .val (.int i1), .val (.ref b1), .val (.int (8 : Int32)), .val (.int (204 : Int32)), .val (.int (i1 + (2 : Int32))), .val (.int (51 : Int32)), .val (.long ((XT.ushrL q2 (51 : Int32)) ||| (q3 <<< ((13 : Int32).toInt64 &&& 63)))), .second] [(.int i1)])) _
    refine XS.iload X34.here hx rfl (hb hby dF_21) rfl  ?_
    show Steps p.tables e below (T34.setTop (mkF m 23 #[.val (.ref ar), .val (.int i1), .val (.ref b1), .val (.int (8 : Int32)), .val (.int (204 : Int32)), .val (.int (i1 + (2 : Int32))), .val (.int (51 : Int32)), .val (.long ((XT.ushrL q2 (51 : Int32)) ||| (q3 <<< ((13 : Int32).toInt64 &&& 63)))), .second] [(.int (204 : Int32)), (.int i1)])) _
    refine XS.bipush X34.here hx rfl (hb hby dF_23) ?_
    show Steps p.tables e below (T34.setTop (mkF m 25 #[.val (.ref ar), .val (.int i1), .val (.ref b1), .val (.int (8 : Int32)), .val (.int (204 : Int32)), .val (.int (i1 + (2 : Int32))), .val (.int (51 : Int32)), .val (.long ((XT.ushrL q2 (51 : Int32)) ||| (q3 <<< ((13 : Int32).toInt64 &&& 63)))), .second] [(.int (64 : Int32)), (.int (204 : Int32)), (.int i1)])) _
    refine XS.idiv X34.here hx rfl (hb hby dF_25) rfl (by decide) ?_
    show Steps p.tables e below (T34.setTop (mkF m 26 #[.val (.ref ar), .val (.int i1), .val (.ref b1), .val (.int (8 : Int32)), .val (.int (204 : Int32)), .val (.int (i1 + (2 : Int32))), .val (.int (51 : Int32)), .val (.long ((XT.ushrL q2 (51 : Int32)) ||| (q3 <<< ((13 : Int32).toInt64 &&& 63)))), .second] [(.int (3 : Int32)), (.int i1)])) _
    refine XS.iadd X34.here hx rfl (hb hby dF_26) rfl ?_
    show Steps p.tables e below (T34.setTop (mkF m 27 #[.val (.ref ar), .val (.int i1), .val (.ref b1), .val (.int (8 : Int32)), .val (.int (204 : Int32)), .val (.int (i1 + (2 : Int32))), .val (.int (51 : Int32)), .val (.long ((XT.ushrL q2 (51 : Int32)) ||| (q3 <<< ((13 : Int32).toInt64 &&& 63)))), .second] [(.int (i1 + (3 : Int32)))])) _
    refine XS.istore X34.here hx rfl (hb hby dF_27) rfl (l' := #[.val (.ref ar), .val (.int i1), .val (.ref b1), .val (.int (8 : Int32)), .val (.int (204 : Int32)), .val (.int (i1 + (3 : Int32))), .val (.int (51 : Int32)), .val (.long ((XT.ushrL q2 (51 : Int32)) ||| (q3 <<< ((13 : Int32).toInt64 &&& 63)))), .second]) rfl ?_
    show Steps p.tables e below (T34.setTop (mkF m 29 #[.val (.ref ar), .val (.int i1), .val (.ref b1), .val (.int (8 : Int32)), .val (.int (204 : Int32)), .val (.int (i1 + (3 : Int32))), .val (.int (51 : Int32)), .val (.long ((XT.ushrL q2 (51 : Int32)) ||| (q3 <<< ((13 : Int32).toInt64 &&& 63)))), .second] [])) _
    refine XS.iload X34.here hx rfl (hb hby dF_29) rfl  ?_
    show Steps p.tables e below (T34.setTop (mkF m 31 #[.val (.ref ar), .val (.int i1), .val (.ref b1), .val (.int (8 : Int32)), .val (.int (204 : Int32)), .val (.int (i1 + (3 : Int32))), .val (.int (51 : Int32)), .val (.long ((XT.ushrL q2 (51 : Int32)) ||| (q3 <<< ((13 : Int32).toInt64 &&& 63)))), .second] [(.int (204 : Int32))])) _
    refine XS.bipush X34.here hx rfl (hb hby dF_31) ?_
    show Steps p.tables e below (T34.setTop (mkF m 33 #[.val (.ref ar), .val (.int i1), .val (.ref b1), .val (.int (8 : Int32)), .val (.int (204 : Int32)), .val (.int (i1 + (3 : Int32))), .val (.int (51 : Int32)), .val (.long ((XT.ushrL q2 (51 : Int32)) ||| (q3 <<< ((13 : Int32).toInt64 &&& 63)))), .second] [(.int (64 : Int32)), (.int (204 : Int32))])) _
    refine Jvm.RoadKit.iremM X34 hx rfl (hb hby dF_33) rfl (by decide) ?_
    show Steps p.tables e below (T34.setTop (mkF m 34 #[.val (.ref ar), .val (.int i1), .val (.ref b1), .val (.int (8 : Int32)), .val (.int (204 : Int32)), .val (.int (i1 + (3 : Int32))), .val (.int (51 : Int32)), .val (.long ((XT.ushrL q2 (51 : Int32)) ||| (q3 <<< ((13 : Int32).toInt64 &&& 63)))), .second] [(.int (12 : Int32))])) _
    refine XS.istore X34.here hx rfl (hb hby dF_34) rfl (l' := #[.val (.ref ar), .val (.int i1), .val (.ref b1), .val (.int (8 : Int32)), .val (.int (204 : Int32)), .val (.int (i1 + (3 : Int32))), .val (.int (12 : Int32)), .val (.long ((XT.ushrL q2 (51 : Int32)) ||| (q3 <<< ((13 : Int32).toInt64 &&& 63)))), .second]) rfl ?_
    show Steps p.tables e below (T34.setTop (mkF m 36 #[.val (.ref ar), .val (.int i1), .val (.ref b1), .val (.int (8 : Int32)), .val (.int (204 : Int32)), .val (.int (i1 + (3 : Int32))), .val (.int (12 : Int32)), .val (.long ((XT.ushrL q2 (51 : Int32)) ||| (q3 <<< ((13 : Int32).toInt64 &&& 63)))), .second] [])) _
    refine XS.aloadN X34.here hx rfl (hb hby dF_36) rfl rfl  ?_
    show Steps p.tables e below (T34.setTop (mkF m 37 #[.val (.ref ar), .val (.int i1), .val (.ref b1), .val (.int (8 : Int32)), .val (.int (204 : Int32)), .val (.int (i1 + (3 : Int32))), .val (.int (12 : Int32)), .val (.long ((XT.ushrL q2 (51 : Int32)) ||| (q3 <<< ((13 : Int32).toInt64 &&& 63)))), .second] [(.ref ar)])) _
    refine XS.iload X34.here hx rfl (hb hby dF_37) rfl  ?_
    exact oK
  show OG _ _ _ _ _ _ _ (T34.setTop (mkF m 39 #[.val (.ref ar), .val (.int i1), .val (.ref b1), .val (.int (8 : Int32)), .val (.int (204 : Int32)), .val (.int (i1 + (3 : Int32))), .val (.int (12 : Int32)), .val (.long ((XT.ushrL q2 (51 : Int32)) ||| (q3 <<< ((13 : Int32).toInt64 &&& 63)))), .second] [(.int (i1 + (3 : Int32))), (.ref ar)]))
  have cf115 := f109
  obtain ⟨clf115, Arf115, If115, Hf115⟩ := cf115
  refine OG.of (X34.laload hx (j := (i1 + (3 : Int32))) (v := (.long q3)) (by rw [e34]; exact Arf115.1) (State.isArrayOf_alike hZ.alike Arf115.2.1) Arf115.2.2 If115 Hf115 (g := (mkF m 39 #[.val (.ref ar), .val (.int i1), .val (.ref b1), .val (.int (8 : Int32)), .val (.int (204 : Int32)), .val (.int (i1 + (3 : Int32))), .val (.int (12 : Int32)), .val (.long ((XT.ushrL q2 (51 : Int32)) ||| (q3 <<< ((13 : Int32).toInt64 &&& 63)))), .second] [(.int (i1 + (3 : Int32))), (.ref ar)])) rfl rfl (hb hby dF_39)) ?_
  show OG _ _ _ _ _ _ _ (T34.setTop (mkF m 40 #[.val (.ref ar), .val (.int i1), .val (.ref b1), .val (.int (8 : Int32)), .val (.int (204 : Int32)), .val (.int (i1 + (3 : Int32))), .val (.int (12 : Int32)), .val (.long ((XT.ushrL q2 (51 : Int32)) ||| (q3 <<< ((13 : Int32).toInt64 &&& 63)))), .second] [(.long q3)]))
  refine OG.of (A := T34.setTop (mkF m 47 #[.val (.ref ar), .val (.int i1), .val (.ref b1), .val (.int (8 : Int32)), .val (.int (204 : Int32)), .val (.int (i1 + (3 : Int32))), .val (.int (12 : Int32)), .val (.long (XT.ushrL q3 (12 : Int32))), .second] [(.int (12 : Int32))])) (fun oT oK => ?_) ?_
  · show Steps p.tables e below (T34.setTop (mkF m 40 #[.val (.ref ar), .val (.int i1), .val (.ref b1), .val (.int (8 : Int32)), .val (.int (204 : Int32)), .val (.int (i1 + (3 : Int32))), .val (.int (12 : Int32)), .val (.long ((XT.ushrL q2 (51 : Int32)) ||| (q3 <<< ((13 : Int32).toInt64 &&& 63)))), .second] [(.long q3)])) oT
    refine XS.iload X34.here hx rfl (hb hby dF_40) rfl  ?_
    show Steps p.tables e below (T34.setTop (mkF m 42 #[.val (.ref ar), .val (.int i1), .val (.ref b1), .val (.int (8 : Int32)), .val (.int (204 : Int32)), .val (.int (i1 + (3 : Int32))), .val (.int (12 : Int32)), .val (.long ((XT.ushrL q2 (51 : Int32)) ||| (q3 <<< ((13 : Int32).toInt64 &&& 63)))), .second] [(.int (12 : Int32)), (.long q3)])) _
    refine XT.lushr X34.here hx rfl (hb hby dF_42) rfl ?_
    show Steps p.tables e below (T34.setTop (mkF m 43 #[.val (.ref ar), .val (.int i1), .val (.ref b1), .val (.int (8 : Int32)), .val (.int (204 : Int32)), .val (.int (i1 + (3 : Int32))), .val (.int (12 : Int32)), .val (.long ((XT.ushrL q2 (51 : Int32)) ||| (q3 <<< ((13 : Int32).toInt64 &&& 63)))), .second] [(.long (XT.ushrL q3 (12 : Int32)))])) _
    refine XT.lstore X34.here hx rfl (hb hby dF_43) rfl (l' := #[.val (.ref ar), .val (.int i1), .val (.ref b1), .val (.int (8 : Int32)), .val (.int (204 : Int32)), .val (.int (i1 + (3 : Int32))), .val (.int (12 : Int32)), .val (.long (XT.ushrL q3 (12 : Int32))), .second]) rfl ?_
    show Steps p.tables e below (T34.setTop (mkF m 45 #[.val (.ref ar), .val (.int i1), .val (.ref b1), .val (.int (8 : Int32)), .val (.int (204 : Int32)), .val (.int (i1 + (3 : Int32))), .val (.int (12 : Int32)), .val (.long (XT.ushrL q3 (12 : Int32))), .second] [])) _
    refine XS.iload X34.here hx rfl (hb hby dF_45) rfl  ?_
    exact oK
  show OG _ _ _ _ _ _ _ (T34.setTop (mkF m 47 #[.val (.ref ar), .val (.int i1), .val (.ref b1), .val (.int (8 : Int32)), .val (.int (204 : Int32)), .val (.int (i1 + (3 : Int32))), .val (.int (12 : Int32)), .val (.long (XT.ushrL q3 (12 : Int32))), .second] [(.int (12 : Int32))]))
  obtain ⟨T35, X35, e35, st35⟩ := getS2 X34 hx hZ hown (host := "") (Or.inl (hw _ (List.mem_of_getElem? (i := 7) rfl))) Via.refl e34 (SB.ext (f113).2) (g := (mkF m 47 #[.val (.ref ar), .val (.int i1), .val (.ref b1), .val (.int (8 : Int32)), .val (.int (204 : Int32)), .val (.int (i1 + (3 : Int32))), .val (.int (12 : Int32)), .val (.long (XT.ushrL q3 (12 : Int32))), .second] [(.int (12 : Int32))])) rfl (hb hby dF_47)
  refine OG.of st35 ?_
  show OG _ _ _ _ _ _ _ (T35.setTop (mkF m 50 #[.val (.ref ar), .val (.int i1), .val (.ref b1), .val (.int (8 : Int32)), .val (.int (204 : Int32)), .val (.int (i1 + (3 : Int32))), .val (.int (12 : Int32)), .val (.long (XT.ushrL q3 (12 : Int32))), .second] [(.ref wB), (.int (12 : Int32))]))
  refine OG.of (A := T35.setTop (mkF m 51 #[.val (.ref ar), .val (.int i1), .val (.ref b1), .val (.int (8 : Int32)), .val (.int (204 : Int32)), .val (.int (i1 + (3 : Int32))), .val (.int (12 : Int32)), .val (.long (XT.ushrL q3 (12 : Int32))), .second] [(.int (8 : Int32)), (.ref wB), (.int (12 : Int32))])) (fun oT oK => ?_) ?_
  · show Steps p.tables e below (T35.setTop (mkF m 50 #[.val (.ref ar), .val (.int i1), .val (.ref b1), .val (.int (8 : Int32)), .val (.int (204 : Int32)), .val (.int (i1 + (3 : Int32))), .val (.int (12 : Int32)), .val (.long (XT.ushrL q3 (12 : Int32))), .second] [(.ref wB), (.int (12 : Int32))])) oT
    refine XS.iloadN X35.here hx rfl (hb hby dF_50) rfl  ?_
    exact oK
  show OG _ _ _ _ _ _ _ (T35.setTop (mkF m 51 #[.val (.ref ar), .val (.int i1), .val (.ref b1), .val (.int (8 : Int32)), .val (.int (204 : Int32)), .val (.int (i1 + (3 : Int32))), .val (.int (12 : Int32)), .val (.long (XT.ushrL q3 (12 : Int32))), .second] [(.int (8 : Int32)), (.ref wB), (.int (12 : Int32))]))
  have cf116 := ((TB 8 (by decide)).ext (f113).2)
  obtain ⟨clf116, Arf116, If116, Hf116⟩ := cf116
  refine OG.of (X35.iaload hx (j := (8 : Int32)) (v := (.int (26 : Int32))) (by rw [e35]; exact Arf116.1) (State.isArrayOf_alike hZ.alike Arf116.2.1) Arf116.2.2 If116 Hf116 (g := (mkF m 51 #[.val (.ref ar), .val (.int i1), .val (.ref b1), .val (.int (8 : Int32)), .val (.int (204 : Int32)), .val (.int (i1 + (3 : Int32))), .val (.int (12 : Int32)), .val (.long (XT.ushrL q3 (12 : Int32))), .second] [(.int (8 : Int32)), (.ref wB), (.int (12 : Int32))])) rfl rfl (hb hby dF_51)) ?_
  show OG _ _ _ _ _ _ _ (T35.setTop (mkF m 52 #[.val (.ref ar), .val (.int i1), .val (.ref b1), .val (.int (8 : Int32)), .val (.int (204 : Int32)), .val (.int (i1 + (3 : Int32))), .val (.int (12 : Int32)), .val (.long (XT.ushrL q3 (12 : Int32))), .second] [(.int (26 : Int32)), (.int (12 : Int32))]))
  refine OG.of (A := T35.setTop (mkF m 80 #[.val (.ref ar), .val (.int i1), .val (.ref b1), .val (.int (8 : Int32)), .val (.int (204 : Int32)), .val (.int (i1 + (3 : Int32))), .val (.int (12 : Int32)), .val (.long (XT.ushrL q3 (12 : Int32))), .second] [(.long (1 : Int64)), (.long (XT.ushrL q3 (12 : Int32))), (.int (8 : Int32)), (.ref b1)])) (fun oT oK => ?_) ?_
  · show Steps p.tables e below (T35.setTop (mkF m 52 #[.val (.ref ar), .val (.int i1), .val (.ref b1), .val (.int (8 : Int32)), .val (.int (204 : Int32)), .val (.int (i1 + (3 : Int32))), .val (.int (12 : Int32)), .val (.long (XT.ushrL q3 (12 : Int32))), .second] [(.int (26 : Int32)), (.int (12 : Int32))])) oT
    refine XS.iadd X35.here hx rfl (hb hby dF_52) rfl ?_
    show Steps p.tables e below (T35.setTop (mkF m 53 #[.val (.ref ar), .val (.int i1), .val (.ref b1), .val (.int (8 : Int32)), .val (.int (204 : Int32)), .val (.int (i1 + (3 : Int32))), .val (.int (12 : Int32)), .val (.long (XT.ushrL q3 (12 : Int32))), .second] [(.int (38 : Int32))])) _
    refine XS.bipush X35.here hx rfl (hb hby dF_53) ?_
    show Steps p.tables e below (T35.setTop (mkF m 55 #[.val (.ref ar), .val (.int i1), .val (.ref b1), .val (.int (8 : Int32)), .val (.int (204 : Int32)), .val (.int (i1 + (3 : Int32))), .val (.int (12 : Int32)), .val (.long (XT.ushrL q3 (12 : Int32))), .second] [(.int (64 : Int32)), (.int (38 : Int32))])) _
    refine XS.icmpYes X35.here hx rfl (pc0 := 55) (pc' := 75) rfl (hb hby dF_55) rfl (XT.ii_le_t (by decide)) (by decide) (by decide) ?_
    show Steps p.tables e below (T35.setTop (mkF m 75 #[.val (.ref ar), .val (.int i1), .val (.ref b1), .val (.int (8 : Int32)), .val (.int (204 : Int32)), .val (.int (i1 + (3 : Int32))), .val (.int (12 : Int32)), .val (.long (XT.ushrL q3 (12 : Int32))), .second] [])) _
    refine XS.aloadN X35.here hx rfl (hb hby dF_75) rfl rfl  ?_
    show Steps p.tables e below (T35.setTop (mkF m 76 #[.val (.ref ar), .val (.int i1), .val (.ref b1), .val (.int (8 : Int32)), .val (.int (204 : Int32)), .val (.int (i1 + (3 : Int32))), .val (.int (12 : Int32)), .val (.long (XT.ushrL q3 (12 : Int32))), .second] [(.ref b1)])) _
    refine XS.iloadN X35.here hx rfl (hb hby dF_76) rfl  ?_
    show Steps p.tables e below (T35.setTop (mkF m 77 #[.val (.ref ar), .val (.int i1), .val (.ref b1), .val (.int (8 : Int32)), .val (.int (204 : Int32)), .val (.int (i1 + (3 : Int32))), .val (.int (12 : Int32)), .val (.long (XT.ushrL q3 (12 : Int32))), .second] [(.int (8 : Int32)), (.ref b1)])) _
    refine XT.lload X35.here hx rfl (hb hby dF_77) rfl  ?_
    show Steps p.tables e below (T35.setTop (mkF m 79 #[.val (.ref ar), .val (.int i1), .val (.ref b1), .val (.int (8 : Int32)), .val (.int (204 : Int32)), .val (.int (i1 + (3 : Int32))), .val (.int (12 : Int32)), .val (.long (XT.ushrL q3 (12 : Int32))), .second] [(.long (XT.ushrL q3 (12 : Int32))), (.int (8 : Int32)), (.ref b1)])) _
    refine XT.lconst X35.here hx rfl (hb hby dF_79) ?_
    exact oK
  show OG _ _ _ _ _ _ _ (T35.setTop (mkF m 80 #[.val (.ref ar), .val (.int i1), .val (.ref b1), .val (.int (8 : Int32)), .val (.int (204 : Int32)), .val (.int (i1 + (3 : Int32))), .val (.int (12 : Int32)), .val (.long (XT.ushrL q3 (12 : Int32))), .second] [(.long (1 : Int64)), (.long (XT.ushrL q3 (12 : Int32))), (.int (8 : Int32)), (.ref b1)]))
  obtain ⟨T36, X36, e36, st36⟩ := getS2 X35 hx hZ hown (host := "") (Or.inl (hw _ (List.mem_of_getElem? (i := 7) rfl))) Via.refl e35 (SB.ext (f113).2) (g := (mkF m 80 #[.val (.ref ar), .val (.int i1), .val (.ref b1), .val (.int (8 : Int32)), .val (.int (204 : Int32)), .val (.int (i1 + (3 : Int32))), .val (.int (12 : Int32)), .val (.long (XT.ushrL q3 (12 : Int32))), .second] [(.long (1 : Int64)), (.long (XT.ushrL q3 (12 : Int32))), (.int (8 : Int32)), (.ref b1)])) rfl (hb hby dF_80)
  refine OG.of st36 ?_
  show OG _ _ _ _ _ _ _ (T36.setTop (mkF m 83 #[.val (.ref ar), .val (.int i1), .val (.ref b1), .val (.int (8 : Int32)), .val (.int (204 : Int32)), .val (.int (i1 + (3 : Int32))), .val (.int (12 : Int32)), .val (.long (XT.ushrL q3 (12 : Int32))), .second] [(.ref wB), (.long (1 : Int64)), (.long (XT.ushrL q3 (12 : Int32))), (.int (8 : Int32)), (.ref b1)]))
  refine OG.of (A := T36.setTop (mkF m 84 #[.val (.ref ar), .val (.int i1), .val (.ref b1), .val (.int (8 : Int32)), .val (.int (204 : Int32)), .val (.int (i1 + (3 : Int32))), .val (.int (12 : Int32)), .val (.long (XT.ushrL q3 (12 : Int32))), .second] [(.int (8 : Int32)), (.ref wB), (.long (1 : Int64)), (.long (XT.ushrL q3 (12 : Int32))), (.int (8 : Int32)), (.ref b1)])) (fun oT oK => ?_) ?_
  · show Steps p.tables e below (T36.setTop (mkF m 83 #[.val (.ref ar), .val (.int i1), .val (.ref b1), .val (.int (8 : Int32)), .val (.int (204 : Int32)), .val (.int (i1 + (3 : Int32))), .val (.int (12 : Int32)), .val (.long (XT.ushrL q3 (12 : Int32))), .second] [(.ref wB), (.long (1 : Int64)), (.long (XT.ushrL q3 (12 : Int32))), (.int (8 : Int32)), (.ref b1)])) oT
    refine XS.iloadN X36.here hx rfl (hb hby dF_83) rfl  ?_
    exact oK
  show OG _ _ _ _ _ _ _ (T36.setTop (mkF m 84 #[.val (.ref ar), .val (.int i1), .val (.ref b1), .val (.int (8 : Int32)), .val (.int (204 : Int32)), .val (.int (i1 + (3 : Int32))), .val (.int (12 : Int32)), .val (.long (XT.ushrL q3 (12 : Int32))), .second] [(.int (8 : Int32)), (.ref wB), (.long (1 : Int64)), (.long (XT.ushrL q3 (12 : Int32))), (.int (8 : Int32)), (.ref b1)]))
  have cf117 := ((TB 8 (by decide)).ext (f113).2)
  obtain ⟨clf117, Arf117, If117, Hf117⟩ := cf117
  refine OG.of (X36.iaload hx (j := (8 : Int32)) (v := (.int (26 : Int32))) (by rw [e36]; exact Arf117.1) (State.isArrayOf_alike hZ.alike Arf117.2.1) Arf117.2.2 If117 Hf117 (g := (mkF m 84 #[.val (.ref ar), .val (.int i1), .val (.ref b1), .val (.int (8 : Int32)), .val (.int (204 : Int32)), .val (.int (i1 + (3 : Int32))), .val (.int (12 : Int32)), .val (.long (XT.ushrL q3 (12 : Int32))), .second] [(.int (8 : Int32)), (.ref wB), (.long (1 : Int64)), (.long (XT.ushrL q3 (12 : Int32))), (.int (8 : Int32)), (.ref b1)])) rfl rfl (hb hby dF_84)) ?_
  show OG _ _ _ _ _ _ _ (T36.setTop (mkF m 85 #[.val (.ref ar), .val (.int i1), .val (.ref b1), .val (.int (8 : Int32)), .val (.int (204 : Int32)), .val (.int (i1 + (3 : Int32))), .val (.int (12 : Int32)), .val (.long (XT.ushrL q3 (12 : Int32))), .second] [(.int (26 : Int32)), (.long (1 : Int64)), (.long (XT.ushrL q3 (12 : Int32))), (.int (8 : Int32)), (.ref b1)]))
  refine OG.of (A := T36.setTop (mkF m 89 #[.val (.ref ar), .val (.int i1), .val (.ref b1), .val (.int (8 : Int32)), .val (.int (204 : Int32)), .val (.int (i1 + (3 : Int32))), .val (.int (12 : Int32)), .val (.long (XT.ushrL q3 (12 : Int32))), .second] [(.long ((XT.ushrL q3 (12 : Int32)) &&& (((1 : Int64) <<< ((26 : Int32).toInt64 &&& 63)) - (1 : Int64)))), (.int (8 : Int32)), (.ref b1)])) (fun oT oK => ?_) ?_
  · show Steps p.tables e below (T36.setTop (mkF m 85 #[.val (.ref ar), .val (.int i1), .val (.ref b1), .val (.int (8 : Int32)), .val (.int (204 : Int32)), .val (.int (i1 + (3 : Int32))), .val (.int (12 : Int32)), .val (.long (XT.ushrL q3 (12 : Int32))), .second] [(.int (26 : Int32)), (.long (1 : Int64)), (.long (XT.ushrL q3 (12 : Int32))), (.int (8 : Int32)), (.ref b1)])) oT
    refine XT.lshl X36.here hx rfl (hb hby dF_85) rfl ?_
    show Steps p.tables e below (T36.setTop (mkF m 86 #[.val (.ref ar), .val (.int i1), .val (.ref b1), .val (.int (8 : Int32)), .val (.int (204 : Int32)), .val (.int (i1 + (3 : Int32))), .val (.int (12 : Int32)), .val (.long (XT.ushrL q3 (12 : Int32))), .second] [(.long ((1 : Int64) <<< ((26 : Int32).toInt64 &&& 63))), (.long (XT.ushrL q3 (12 : Int32))), (.int (8 : Int32)), (.ref b1)])) _
    refine XT.lconst X36.here hx rfl (hb hby dF_86) ?_
    show Steps p.tables e below (T36.setTop (mkF m 87 #[.val (.ref ar), .val (.int i1), .val (.ref b1), .val (.int (8 : Int32)), .val (.int (204 : Int32)), .val (.int (i1 + (3 : Int32))), .val (.int (12 : Int32)), .val (.long (XT.ushrL q3 (12 : Int32))), .second] [(.long (1 : Int64)), (.long ((1 : Int64) <<< ((26 : Int32).toInt64 &&& 63))), (.long (XT.ushrL q3 (12 : Int32))), (.int (8 : Int32)), (.ref b1)])) _
    refine XT.lsub X36.here hx rfl (hb hby dF_87) rfl ?_
    show Steps p.tables e below (T36.setTop (mkF m 88 #[.val (.ref ar), .val (.int i1), .val (.ref b1), .val (.int (8 : Int32)), .val (.int (204 : Int32)), .val (.int (i1 + (3 : Int32))), .val (.int (12 : Int32)), .val (.long (XT.ushrL q3 (12 : Int32))), .second] [(.long (((1 : Int64) <<< ((26 : Int32).toInt64 &&& 63)) - (1 : Int64))), (.long (XT.ushrL q3 (12 : Int32))), (.int (8 : Int32)), (.ref b1)])) _
    refine XT.land X36.here hx rfl (hb hby dF_88) rfl ?_
    exact oK
  show OG _ _ _ _ _ _ _ (T36.setTop (mkF m 89 #[.val (.ref ar), .val (.int i1), .val (.ref b1), .val (.int (8 : Int32)), .val (.int (204 : Int32)), .val (.int (i1 + (3 : Int32))), .val (.int (12 : Int32)), .val (.long (XT.ushrL q3 (12 : Int32))), .second] [(.long ((XT.ushrL q3 (12 : Int32)) &&& (((1 : Int64) <<< ((26 : Int32).toInt64 &&& 63)) - (1 : Int64)))), (.int (8 : Int32)), (.ref b1)]))
  show OG _ _ _ _ _ _ _ (T36.setTop (mkF m 89 #[.val (.ref ar), .val (.int i1), .val (.ref b1), .val (.int (8 : Int32)), .val (.int (204 : Int32)), .val (.int (i1 + (3 : Int32))), .val (.int (12 : Int32)), .val (.long (XT.ushrL q3 (12 : Int32))), .second] [(.long (own_l8 q0 q1 q2 q3)), (.int (8 : Int32)), (.ref b1)]))
  have cf118 := V33
  obtain ⟨clf118, Arf118, qf118, Sf118, Mf118, Hf118, Gf118⟩ := cf118
  obtain ⟨T37, h37, X37, e37, W37, st37⟩ := stJ X36 hx hZ e36 Arf118 (j := (8 : Int32)) (inb_of Sf118 ⟨by decide, by decide⟩) (g := (mkF m 89 #[.val (.ref ar), .val (.int i1), .val (.ref b1), .val (.int (8 : Int32)), .val (.int (204 : Int32)), .val (.int (i1 + (3 : Int32))), .val (.int (12 : Int32)), .val (.long (XT.ushrL q3 (12 : Int32))), .second] [(.long (own_l8 q0 q1 q2 q3)), (.int (8 : Int32)), (.ref b1)])) rfl rfl (hb hby dF_89)
  have f119 := (f106).other W37 ne_ar_b1
  have f120 := (f107).other W37 ne_ar_b1
  have f121 := (f108).other W37 ne_ar_b1
  have f122 := (f109).other W37 ne_ar_b1
  have f123 := (f110).other W37 ne_ar_b1
  have f124 := (f111).other W37 ne_ar_b1
  have V37 : Arv Z h37 b1 kc1 .long (10 : Int32) [(.long (own_l0 q0 q1 q2 q3)), (.long (own_l1 q0 q1 q2 q3)), (.long (own_l2 q0 q1 q2 q3)), (.long (own_l3 q0 q1 q2 q3)), (.long (own_l4 q0 q1 q2 q3)), (.long (own_l5 q0 q1 q2 q3)), (.long (own_l6 q0 q1 q2 q3)), (.long (own_l7 q0 q1 q2 q3)), (.long (own_l8 q0 q1 q2 q3)), (.long (0 : Int64))] (.long (0 : Int64)) := Arv.set Arf118 qf118 Sf118 Mf118 Hf118 Gf118 rfl W37 8 rfl (Nat.le_of_ble_eq_true rfl)
  have f126 := (f113).wr W37 gn_b1
  have K37 : Keep h0 h37 [] := (K33).wr W37 (Or.inr sz_b1)
  have Z37 : n0 ≤ h37.size := Nat.le_trans Z33 (Keep.of_wr W37).1
  have N37 := Fr.snoc X37 N33 gn_b1
  refine OG.of st37 ?_
  show OG _ _ _ _ _ _ _ (T37.setTop (mkF m 90 #[.val (.ref ar), .val (.int i1), .val (.ref b1), .val (.int (8 : Int32)), .val (.int (204 : Int32)), .val (.int (i1 + (3 : Int32))), .val (.int (12 : Int32)), .val (.long (XT.ushrL q3 (12 : Int32))), .second] []))
  refine OG.of (A := T37.setTop (mkF m 13 #[.val (.ref ar), .val (.int i1), .val (.ref b1), .val (.int (9 : Int32)), .val (.int (204 : Int32)), .val (.int (i1 + (3 : Int32))), .val (.int (12 : Int32)), .val (.long (XT.ushrL q3 (12 : Int32))), .second] [])) (fun oT oK => ?_) ?_
  · show Steps p.tables e below (T37.setTop (mkF m 90 #[.val (.ref ar), .val (.int i1), .val (.ref b1), .val (.int (8 : Int32)), .val (.int (204 : Int32)), .val (.int (i1 + (3 : Int32))), .val (.int (12 : Int32)), .val (.long (XT.ushrL q3 (12 : Int32))), .second] [])) oT
    refine XS.iinc X37.here hx rfl (hb hby dF_90) rfl (l' := #[.val (.ref ar), .val (.int i1), .val (.ref b1), .val (.int (9 : Int32)), .val (.int (204 : Int32)), .val (.int (i1 + (3 : Int32))), .val (.int (12 : Int32)), .val (.long (XT.ushrL q3 (12 : Int32))), .second]) rfl ?_
    show Steps p.tables e below (T37.setTop (mkF m 93 #[.val (.ref ar), .val (.int i1), .val (.ref b1), .val (.int (9 : Int32)), .val (.int (204 : Int32)), .val (.int (i1 + (3 : Int32))), .val (.int (12 : Int32)), .val (.long (XT.ushrL q3 (12 : Int32))), .second] [])) _
    refine XS.goto X37.here hx rfl (pc0 := 93) (pc' := 7) rfl (hb hby dF_93) (by decide) (by decide) ?_
    show Steps p.tables e below (T37.setTop (mkF m 7 #[.val (.ref ar), .val (.int i1), .val (.ref b1), .val (.int (9 : Int32)), .val (.int (204 : Int32)), .val (.int (i1 + (3 : Int32))), .val (.int (12 : Int32)), .val (.long (XT.ushrL q3 (12 : Int32))), .second] [])) _
    refine XS.iloadN X37.here hx rfl (hb hby dF_7) rfl  ?_
    show Steps p.tables e below (T37.setTop (mkF m 8 #[.val (.ref ar), .val (.int i1), .val (.ref b1), .val (.int (9 : Int32)), .val (.int (204 : Int32)), .val (.int (i1 + (3 : Int32))), .val (.int (12 : Int32)), .val (.long (XT.ushrL q3 (12 : Int32))), .second] [(.int (9 : Int32))])) _
    refine XS.bipush X37.here hx rfl (hb hby dF_8) ?_
    show Steps p.tables e below (T37.setTop (mkF m 10 #[.val (.ref ar), .val (.int i1), .val (.ref b1), .val (.int (9 : Int32)), .val (.int (204 : Int32)), .val (.int (i1 + (3 : Int32))), .val (.int (12 : Int32)), .val (.long (XT.ushrL q3 (12 : Int32))), .second] [(.int (10 : Int32)), (.int (9 : Int32))])) _
    refine XS.icmpNo X37.here hx rfl (hb hby dF_10) rfl (XT.ii_ge_f (by decide)) ?_
    exact oK
  show OG _ _ _ _ _ _ _ (T37.setTop (mkF m 13 #[.val (.ref ar), .val (.int i1), .val (.ref b1), .val (.int (9 : Int32)), .val (.int (204 : Int32)), .val (.int (i1 + (3 : Int32))), .val (.int (12 : Int32)), .val (.long (XT.ushrL q3 (12 : Int32))), .second] []))
  obtain ⟨T38, X38, e38, st38⟩ := getS2 X37 hx hZ hown (host := "") (Or.inl (hw _ (List.mem_of_getElem? (i := 5) rfl))) Via.refl e37 (SP.ext (f126).2) (g := (mkF m 13 #[.val (.ref ar), .val (.int i1), .val (.ref b1), .val (.int (9 : Int32)), .val (.int (204 : Int32)), .val (.int (i1 + (3 : Int32))), .val (.int (12 : Int32)), .val (.long (XT.ushrL q3 (12 : Int32))), .second] [])) rfl (hb hby dF_13)
  refine OG.of st38 ?_
  show OG _ _ _ _ _ _ _ (T38.setTop (mkF m 16 #[.val (.ref ar), .val (.int i1), .val (.ref b1), .val (.int (9 : Int32)), .val (.int (204 : Int32)), .val (.int (i1 + (3 : Int32))), .val (.int (12 : Int32)), .val (.long (XT.ushrL q3 (12 : Int32))), .second] [(.ref wP)]))
  refine OG.of (A := T38.setTop (mkF m 17 #[.val (.ref ar), .val (.int i1), .val (.ref b1), .val (.int (9 : Int32)), .val (.int (204 : Int32)), .val (.int (i1 + (3 : Int32))), .val (.int (12 : Int32)), .val (.long (XT.ushrL q3 (12 : Int32))), .second] [(.int (9 : Int32)), (.ref wP)])) (fun oT oK => ?_) ?_
  · show Steps p.tables e below (T38.setTop (mkF m 16 #[.val (.ref ar), .val (.int i1), .val (.ref b1), .val (.int (9 : Int32)), .val (.int (204 : Int32)), .val (.int (i1 + (3 : Int32))), .val (.int (12 : Int32)), .val (.long (XT.ushrL q3 (12 : Int32))), .second] [(.ref wP)])) oT
    refine XS.iloadN X38.here hx rfl (hb hby dF_16) rfl  ?_
    exact oK
  show OG _ _ _ _ _ _ _ (T38.setTop (mkF m 17 #[.val (.ref ar), .val (.int i1), .val (.ref b1), .val (.int (9 : Int32)), .val (.int (204 : Int32)), .val (.int (i1 + (3 : Int32))), .val (.int (12 : Int32)), .val (.long (XT.ushrL q3 (12 : Int32))), .second] [(.int (9 : Int32)), (.ref wP)]))
  have cf127 := ((TP 9 (by decide)).ext (f126).2)
  obtain ⟨clf127, Arf127, If127, Hf127⟩ := cf127
  refine OG.of (X38.iaload hx (j := (9 : Int32)) (v := (.int (230 : Int32))) (by rw [e38]; exact Arf127.1) (State.isArrayOf_alike hZ.alike Arf127.2.1) Arf127.2.2 If127 Hf127 (g := (mkF m 17 #[.val (.ref ar), .val (.int i1), .val (.ref b1), .val (.int (9 : Int32)), .val (.int (204 : Int32)), .val (.int (i1 + (3 : Int32))), .val (.int (12 : Int32)), .val (.long (XT.ushrL q3 (12 : Int32))), .second] [(.int (9 : Int32)), (.ref wP)])) rfl rfl (hb hby dF_17)) ?_
  show OG _ _ _ _ _ _ _ (T38.setTop (mkF m 18 #[.val (.ref ar), .val (.int i1), .val (.ref b1), .val (.int (9 : Int32)), .val (.int (204 : Int32)), .val (.int (i1 + (3 : Int32))), .val (.int (12 : Int32)), .val (.long (XT.ushrL q3 (12 : Int32))), .second] [(.int (230 : Int32))]))
  refine OG.of (A := T38.setTop (mkF m 39 #[.val (.ref ar), .val (.int i1), .val (.ref b1), .val (.int (9 : Int32)), .val (.int (230 : Int32)), .val (.int (i1 + (3 : Int32))), .val (.int (38 : Int32)), .val (.long (XT.ushrL q3 (12 : Int32))), .second] [(.int (i1 + (3 : Int32))), (.ref ar)])) (fun oT oK => ?_) ?_
  · show Steps p.tables e below (T38.setTop (mkF m 18 #[.val (.ref ar), .val (.int i1), .val (.ref b1), .val (.int (9 : Int32)), .val (.int (204 : Int32)), .val (.int (i1 + (3 : Int32))), .val (.int (12 : Int32)), .val (.long (XT.ushrL q3 (12 : Int32))), .second] [(.int (230 : Int32))])) oT
    refine XS.istore X38.here hx rfl (hb hby dF_18) rfl (l' := #[.val (.ref ar), .val (.int i1), .val (.ref b1), .val (.int (9 : Int32)), .val (.int (230 : Int32)), .val (.int (i1 + (3 : Int32))), .val (.int (12 : Int32)), .val (.long (XT.ushrL q3 (12 : Int32))), .second]) rfl ?_
    show Steps p.tables e below (T38.setTop (mkF m 20 #[.val (.ref ar), .val (.int i1), .val (.ref b1), .val (.int (9 : Int32)), .val (.int (230 : Int32)), .val (.int (i1 + (3 : Int32))), .val (.int (12 : Int32)), .val (.long (XT.ushrL q3 (12 : Int32))), .second] [])) _
    refine XS.iloadN X38.here hx rfl (hb hby dF_20) rfl  ?_
    show Steps p.tables e below (T38.setTop (mkF m 21 #[.val (.ref ar), .val (.int i1), .val (.ref b1), .val (.int (9 : Int32)), .val (.int (230 : Int32)), .val (.int (i1 + (3 : Int32))), .val (.int (12 : Int32)), .val (.long (XT.ushrL q3 (12 : Int32))), .second] [(.int i1)])) _
    refine XS.iload X38.here hx rfl (hb hby dF_21) rfl  ?_
    show Steps p.tables e below (T38.setTop (mkF m 23 #[.val (.ref ar), .val (.int i1), .val (.ref b1), .val (.int (9 : Int32)), .val (.int (230 : Int32)), .val (.int (i1 + (3 : Int32))), .val (.int (12 : Int32)), .val (.long (XT.ushrL q3 (12 : Int32))), .second] [(.int (230 : Int32)), (.int i1)])) _
    refine XS.bipush X38.here hx rfl (hb hby dF_23) ?_
    show Steps p.tables e below (T38.setTop (mkF m 25 #[.val (.ref ar), .val (.int i1), .val (.ref b1), .val (.int (9 : Int32)), .val (.int (230 : Int32)), .val (.int (i1 + (3 : Int32))), .val (.int (12 : Int32)), .val (.long (XT.ushrL q3 (12 : Int32))), .second] [(.int (64 : Int32)), (.int (230 : Int32)), (.int i1)])) _
    refine XS.idiv X38.here hx rfl (hb hby dF_25) rfl (by decide) ?_
    show Steps p.tables e below (T38.setTop (mkF m 26 #[.val (.ref ar), .val (.int i1), .val (.ref b1), .val (.int (9 : Int32)), .val (.int (230 : Int32)), .val (.int (i1 + (3 : Int32))), .val (.int (12 : Int32)), .val (.long (XT.ushrL q3 (12 : Int32))), .second] [(.int (3 : Int32)), (.int i1)])) _
    refine XS.iadd X38.here hx rfl (hb hby dF_26) rfl ?_
    show Steps p.tables e below (T38.setTop (mkF m 27 #[.val (.ref ar), .val (.int i1), .val (.ref b1), .val (.int (9 : Int32)), .val (.int (230 : Int32)), .val (.int (i1 + (3 : Int32))), .val (.int (12 : Int32)), .val (.long (XT.ushrL q3 (12 : Int32))), .second] [(.int (i1 + (3 : Int32)))])) _
    refine XS.istore X38.here hx rfl (hb hby dF_27) rfl (l' := #[.val (.ref ar), .val (.int i1), .val (.ref b1), .val (.int (9 : Int32)), .val (.int (230 : Int32)), .val (.int (i1 + (3 : Int32))), .val (.int (12 : Int32)), .val (.long (XT.ushrL q3 (12 : Int32))), .second]) rfl ?_
    show Steps p.tables e below (T38.setTop (mkF m 29 #[.val (.ref ar), .val (.int i1), .val (.ref b1), .val (.int (9 : Int32)), .val (.int (230 : Int32)), .val (.int (i1 + (3 : Int32))), .val (.int (12 : Int32)), .val (.long (XT.ushrL q3 (12 : Int32))), .second] [])) _
    refine XS.iload X38.here hx rfl (hb hby dF_29) rfl  ?_
    show Steps p.tables e below (T38.setTop (mkF m 31 #[.val (.ref ar), .val (.int i1), .val (.ref b1), .val (.int (9 : Int32)), .val (.int (230 : Int32)), .val (.int (i1 + (3 : Int32))), .val (.int (12 : Int32)), .val (.long (XT.ushrL q3 (12 : Int32))), .second] [(.int (230 : Int32))])) _
    refine XS.bipush X38.here hx rfl (hb hby dF_31) ?_
    show Steps p.tables e below (T38.setTop (mkF m 33 #[.val (.ref ar), .val (.int i1), .val (.ref b1), .val (.int (9 : Int32)), .val (.int (230 : Int32)), .val (.int (i1 + (3 : Int32))), .val (.int (12 : Int32)), .val (.long (XT.ushrL q3 (12 : Int32))), .second] [(.int (64 : Int32)), (.int (230 : Int32))])) _
    refine Jvm.RoadKit.iremM X38 hx rfl (hb hby dF_33) rfl (by decide) ?_
    show Steps p.tables e below (T38.setTop (mkF m 34 #[.val (.ref ar), .val (.int i1), .val (.ref b1), .val (.int (9 : Int32)), .val (.int (230 : Int32)), .val (.int (i1 + (3 : Int32))), .val (.int (12 : Int32)), .val (.long (XT.ushrL q3 (12 : Int32))), .second] [(.int (38 : Int32))])) _
    refine XS.istore X38.here hx rfl (hb hby dF_34) rfl (l' := #[.val (.ref ar), .val (.int i1), .val (.ref b1), .val (.int (9 : Int32)), .val (.int (230 : Int32)), .val (.int (i1 + (3 : Int32))), .val (.int (38 : Int32)), .val (.long (XT.ushrL q3 (12 : Int32))), .second]) rfl ?_
    show Steps p.tables e below (T38.setTop (mkF m 36 #[.val (.ref ar), .val (.int i1), .val (.ref b1), .val (.int (9 : Int32)), .val (.int (230 : Int32)), .val (.int (i1 + (3 : Int32))), .val (.int (38 : Int32)), .val (.long (XT.ushrL q3 (12 : Int32))), .second] [])) _
    refine XS.aloadN X38.here hx rfl (hb hby dF_36) rfl rfl  ?_
    show Steps p.tables e below (T38.setTop (mkF m 37 #[.val (.ref ar), .val (.int i1), .val (.ref b1), .val (.int (9 : Int32)), .val (.int (230 : Int32)), .val (.int (i1 + (3 : Int32))), .val (.int (38 : Int32)), .val (.long (XT.ushrL q3 (12 : Int32))), .second] [(.ref ar)])) _
    refine XS.iload X38.here hx rfl (hb hby dF_37) rfl  ?_
    exact oK
  show OG _ _ _ _ _ _ _ (T38.setTop (mkF m 39 #[.val (.ref ar), .val (.int i1), .val (.ref b1), .val (.int (9 : Int32)), .val (.int (230 : Int32)), .val (.int (i1 + (3 : Int32))), .val (.int (38 : Int32)), .val (.long (XT.ushrL q3 (12 : Int32))), .second] [(.int (i1 + (3 : Int32))), (.ref ar)]))
  have cf128 := f122
  obtain ⟨clf128, Arf128, If128, Hf128⟩ := cf128
  refine OG.of (X38.laload hx (j := (i1 + (3 : Int32))) (v := (.long q3)) (by rw [e38]; exact Arf128.1) (State.isArrayOf_alike hZ.alike Arf128.2.1) Arf128.2.2 If128 Hf128 (g := (mkF m 39 #[.val (.ref ar), .val (.int i1), .val (.ref b1), .val (.int (9 : Int32)), .val (.int (230 : Int32)), .val (.int (i1 + (3 : Int32))), .val (.int (38 : Int32)), .val (.long (XT.ushrL q3 (12 : Int32))), .second] [(.int (i1 + (3 : Int32))), (.ref ar)])) rfl rfl (hb hby dF_39)) ?_
  show OG _ _ _ _ _ _ _ (T38.setTop (mkF m 40 #[.val (.ref ar), .val (.int i1), .val (.ref b1), .val (.int (9 : Int32)), .val (.int (230 : Int32)), .val (.int (i1 + (3 : Int32))), .val (.int (38 : Int32)), .val (.long (XT.ushrL q3 (12 : Int32))), .second] [(.long q3)]))
  refine OG.of (A := T38.setTop (mkF m 47 #[.val (.ref ar), .val (.int i1), .val (.ref b1), .val (.int (9 : Int32)), .val (.int (230 : Int32)), .val (.int (i1 + (3 : Int32))), .val (.int (38 : Int32)), .val (.long (XT.ushrL q3 (38 : Int32))), .second] [(.int (38 : Int32))])) (fun oT oK => ?_) ?_
  · show Steps p.tables e below (T38.setTop (mkF m 40 #[.val (.ref ar), .val (.int i1), .val (.ref b1), .val (.int (9 : Int32)), .val (.int (230 : Int32)), .val (.int (i1 + (3 : Int32))), .val (.int (38 : Int32)), .val (.long (XT.ushrL q3 (12 : Int32))), .second] [(.long q3)])) oT
    refine XS.iload X38.here hx rfl (hb hby dF_40) rfl  ?_
    show Steps p.tables e below (T38.setTop (mkF m 42 #[.val (.ref ar), .val (.int i1), .val (.ref b1), .val (.int (9 : Int32)), .val (.int (230 : Int32)), .val (.int (i1 + (3 : Int32))), .val (.int (38 : Int32)), .val (.long (XT.ushrL q3 (12 : Int32))), .second] [(.int (38 : Int32)), (.long q3)])) _
    refine XT.lushr X38.here hx rfl (hb hby dF_42) rfl ?_
    show Steps p.tables e below (T38.setTop (mkF m 43 #[.val (.ref ar), .val (.int i1), .val (.ref b1), .val (.int (9 : Int32)), .val (.int (230 : Int32)), .val (.int (i1 + (3 : Int32))), .val (.int (38 : Int32)), .val (.long (XT.ushrL q3 (12 : Int32))), .second] [(.long (XT.ushrL q3 (38 : Int32)))])) _
    refine XT.lstore X38.here hx rfl (hb hby dF_43) rfl (l' := #[.val (.ref ar), .val (.int i1), .val (.ref b1), .val (.int (9 : Int32)), .val (.int (230 : Int32)), .val (.int (i1 + (3 : Int32))), .val (.int (38 : Int32)), .val (.long (XT.ushrL q3 (38 : Int32))), .second]) rfl ?_
    show Steps p.tables e below (T38.setTop (mkF m 45 #[.val (.ref ar), .val (.int i1), .val (.ref b1), .val (.int (9 : Int32)), .val (.int (230 : Int32)), .val (.int (i1 + (3 : Int32))), .val (.int (38 : Int32)), .val (.long (XT.ushrL q3 (38 : Int32))), .second] [])) _
    refine XS.iload X38.here hx rfl (hb hby dF_45) rfl  ?_
    exact oK
  show OG _ _ _ _ _ _ _ (T38.setTop (mkF m 47 #[.val (.ref ar), .val (.int i1), .val (.ref b1), .val (.int (9 : Int32)), .val (.int (230 : Int32)), .val (.int (i1 + (3 : Int32))), .val (.int (38 : Int32)), .val (.long (XT.ushrL q3 (38 : Int32))), .second] [(.int (38 : Int32))]))
  obtain ⟨T39, X39, e39, st39⟩ := getS2 X38 hx hZ hown (host := "") (Or.inl (hw _ (List.mem_of_getElem? (i := 7) rfl))) Via.refl e38 (SB.ext (f126).2) (g := (mkF m 47 #[.val (.ref ar), .val (.int i1), .val (.ref b1), .val (.int (9 : Int32)), .val (.int (230 : Int32)), .val (.int (i1 + (3 : Int32))), .val (.int (38 : Int32)), .val (.long (XT.ushrL q3 (38 : Int32))), .second] [(.int (38 : Int32))])) rfl (hb hby dF_47)
  refine OG.of st39 ?_
  show OG _ _ _ _ _ _ _ (T39.setTop (mkF m 50 #[.val (.ref ar), .val (.int i1), .val (.ref b1), .val (.int (9 : Int32)), .val (.int (230 : Int32)), .val (.int (i1 + (3 : Int32))), .val (.int (38 : Int32)), .val (.long (XT.ushrL q3 (38 : Int32))), .second] [(.ref wB), (.int (38 : Int32))]))
  refine OG.of (A := T39.setTop (mkF m 51 #[.val (.ref ar), .val (.int i1), .val (.ref b1), .val (.int (9 : Int32)), .val (.int (230 : Int32)), .val (.int (i1 + (3 : Int32))), .val (.int (38 : Int32)), .val (.long (XT.ushrL q3 (38 : Int32))), .second] [(.int (9 : Int32)), (.ref wB), (.int (38 : Int32))])) (fun oT oK => ?_) ?_
  · show Steps p.tables e below (T39.setTop (mkF m 50 #[.val (.ref ar), .val (.int i1), .val (.ref b1), .val (.int (9 : Int32)), .val (.int (230 : Int32)), .val (.int (i1 + (3 : Int32))), .val (.int (38 : Int32)), .val (.long (XT.ushrL q3 (38 : Int32))), .second] [(.ref wB), (.int (38 : Int32))])) oT
    refine XS.iloadN X39.here hx rfl (hb hby dF_50) rfl  ?_
    exact oK
  show OG _ _ _ _ _ _ _ (T39.setTop (mkF m 51 #[.val (.ref ar), .val (.int i1), .val (.ref b1), .val (.int (9 : Int32)), .val (.int (230 : Int32)), .val (.int (i1 + (3 : Int32))), .val (.int (38 : Int32)), .val (.long (XT.ushrL q3 (38 : Int32))), .second] [(.int (9 : Int32)), (.ref wB), (.int (38 : Int32))]))
  have cf129 := ((TB 9 (by decide)).ext (f126).2)
  obtain ⟨clf129, Arf129, If129, Hf129⟩ := cf129
  refine OG.of (X39.iaload hx (j := (9 : Int32)) (v := (.int (25 : Int32))) (by rw [e39]; exact Arf129.1) (State.isArrayOf_alike hZ.alike Arf129.2.1) Arf129.2.2 If129 Hf129 (g := (mkF m 51 #[.val (.ref ar), .val (.int i1), .val (.ref b1), .val (.int (9 : Int32)), .val (.int (230 : Int32)), .val (.int (i1 + (3 : Int32))), .val (.int (38 : Int32)), .val (.long (XT.ushrL q3 (38 : Int32))), .second] [(.int (9 : Int32)), (.ref wB), (.int (38 : Int32))])) rfl rfl (hb hby dF_51)) ?_
  show OG _ _ _ _ _ _ _ (T39.setTop (mkF m 52 #[.val (.ref ar), .val (.int i1), .val (.ref b1), .val (.int (9 : Int32)), .val (.int (230 : Int32)), .val (.int (i1 + (3 : Int32))), .val (.int (38 : Int32)), .val (.long (XT.ushrL q3 (38 : Int32))), .second] [(.int (25 : Int32)), (.int (38 : Int32))]))
  refine OG.of (A := T39.setTop (mkF m 80 #[.val (.ref ar), .val (.int i1), .val (.ref b1), .val (.int (9 : Int32)), .val (.int (230 : Int32)), .val (.int (i1 + (3 : Int32))), .val (.int (38 : Int32)), .val (.long (XT.ushrL q3 (38 : Int32))), .second] [(.long (1 : Int64)), (.long (XT.ushrL q3 (38 : Int32))), (.int (9 : Int32)), (.ref b1)])) (fun oT oK => ?_) ?_
  · show Steps p.tables e below (T39.setTop (mkF m 52 #[.val (.ref ar), .val (.int i1), .val (.ref b1), .val (.int (9 : Int32)), .val (.int (230 : Int32)), .val (.int (i1 + (3 : Int32))), .val (.int (38 : Int32)), .val (.long (XT.ushrL q3 (38 : Int32))), .second] [(.int (25 : Int32)), (.int (38 : Int32))])) oT
    refine XS.iadd X39.here hx rfl (hb hby dF_52) rfl ?_
    show Steps p.tables e below (T39.setTop (mkF m 53 #[.val (.ref ar), .val (.int i1), .val (.ref b1), .val (.int (9 : Int32)), .val (.int (230 : Int32)), .val (.int (i1 + (3 : Int32))), .val (.int (38 : Int32)), .val (.long (XT.ushrL q3 (38 : Int32))), .second] [(.int (63 : Int32))])) _
    refine XS.bipush X39.here hx rfl (hb hby dF_53) ?_
    show Steps p.tables e below (T39.setTop (mkF m 55 #[.val (.ref ar), .val (.int i1), .val (.ref b1), .val (.int (9 : Int32)), .val (.int (230 : Int32)), .val (.int (i1 + (3 : Int32))), .val (.int (38 : Int32)), .val (.long (XT.ushrL q3 (38 : Int32))), .second] [(.int (64 : Int32)), (.int (63 : Int32))])) _
    refine XS.icmpYes X39.here hx rfl (pc0 := 55) (pc' := 75) rfl (hb hby dF_55) rfl (XT.ii_le_t (by decide)) (by decide) (by decide) ?_
    show Steps p.tables e below (T39.setTop (mkF m 75 #[.val (.ref ar), .val (.int i1), .val (.ref b1), .val (.int (9 : Int32)), .val (.int (230 : Int32)), .val (.int (i1 + (3 : Int32))), .val (.int (38 : Int32)), .val (.long (XT.ushrL q3 (38 : Int32))), .second] [])) _
    refine XS.aloadN X39.here hx rfl (hb hby dF_75) rfl rfl  ?_
    show Steps p.tables e below (T39.setTop (mkF m 76 #[.val (.ref ar), .val (.int i1), .val (.ref b1), .val (.int (9 : Int32)), .val (.int (230 : Int32)), .val (.int (i1 + (3 : Int32))), .val (.int (38 : Int32)), .val (.long (XT.ushrL q3 (38 : Int32))), .second] [(.ref b1)])) _
    refine XS.iloadN X39.here hx rfl (hb hby dF_76) rfl  ?_
    show Steps p.tables e below (T39.setTop (mkF m 77 #[.val (.ref ar), .val (.int i1), .val (.ref b1), .val (.int (9 : Int32)), .val (.int (230 : Int32)), .val (.int (i1 + (3 : Int32))), .val (.int (38 : Int32)), .val (.long (XT.ushrL q3 (38 : Int32))), .second] [(.int (9 : Int32)), (.ref b1)])) _
    refine XT.lload X39.here hx rfl (hb hby dF_77) rfl  ?_
    show Steps p.tables e below (T39.setTop (mkF m 79 #[.val (.ref ar), .val (.int i1), .val (.ref b1), .val (.int (9 : Int32)), .val (.int (230 : Int32)), .val (.int (i1 + (3 : Int32))), .val (.int (38 : Int32)), .val (.long (XT.ushrL q3 (38 : Int32))), .second] [(.long (XT.ushrL q3 (38 : Int32))), (.int (9 : Int32)), (.ref b1)])) _
    refine XT.lconst X39.here hx rfl (hb hby dF_79) ?_
    exact oK
  show OG _ _ _ _ _ _ _ (T39.setTop (mkF m 80 #[.val (.ref ar), .val (.int i1), .val (.ref b1), .val (.int (9 : Int32)), .val (.int (230 : Int32)), .val (.int (i1 + (3 : Int32))), .val (.int (38 : Int32)), .val (.long (XT.ushrL q3 (38 : Int32))), .second] [(.long (1 : Int64)), (.long (XT.ushrL q3 (38 : Int32))), (.int (9 : Int32)), (.ref b1)]))
  obtain ⟨T40, X40, e40, st40⟩ := getS2 X39 hx hZ hown (host := "") (Or.inl (hw _ (List.mem_of_getElem? (i := 7) rfl))) Via.refl e39 (SB.ext (f126).2) (g := (mkF m 80 #[.val (.ref ar), .val (.int i1), .val (.ref b1), .val (.int (9 : Int32)), .val (.int (230 : Int32)), .val (.int (i1 + (3 : Int32))), .val (.int (38 : Int32)), .val (.long (XT.ushrL q3 (38 : Int32))), .second] [(.long (1 : Int64)), (.long (XT.ushrL q3 (38 : Int32))), (.int (9 : Int32)), (.ref b1)])) rfl (hb hby dF_80)
  refine OG.of st40 ?_
  show OG _ _ _ _ _ _ _ (T40.setTop (mkF m 83 #[.val (.ref ar), .val (.int i1), .val (.ref b1), .val (.int (9 : Int32)), .val (.int (230 : Int32)), .val (.int (i1 + (3 : Int32))), .val (.int (38 : Int32)), .val (.long (XT.ushrL q3 (38 : Int32))), .second] [(.ref wB), (.long (1 : Int64)), (.long (XT.ushrL q3 (38 : Int32))), (.int (9 : Int32)), (.ref b1)]))
  refine OG.of (A := T40.setTop (mkF m 84 #[.val (.ref ar), .val (.int i1), .val (.ref b1), .val (.int (9 : Int32)), .val (.int (230 : Int32)), .val (.int (i1 + (3 : Int32))), .val (.int (38 : Int32)), .val (.long (XT.ushrL q3 (38 : Int32))), .second] [(.int (9 : Int32)), (.ref wB), (.long (1 : Int64)), (.long (XT.ushrL q3 (38 : Int32))), (.int (9 : Int32)), (.ref b1)])) (fun oT oK => ?_) ?_
  · show Steps p.tables e below (T40.setTop (mkF m 83 #[.val (.ref ar), .val (.int i1), .val (.ref b1), .val (.int (9 : Int32)), .val (.int (230 : Int32)), .val (.int (i1 + (3 : Int32))), .val (.int (38 : Int32)), .val (.long (XT.ushrL q3 (38 : Int32))), .second] [(.ref wB), (.long (1 : Int64)), (.long (XT.ushrL q3 (38 : Int32))), (.int (9 : Int32)), (.ref b1)])) oT
    refine XS.iloadN X40.here hx rfl (hb hby dF_83) rfl  ?_
    exact oK
  show OG _ _ _ _ _ _ _ (T40.setTop (mkF m 84 #[.val (.ref ar), .val (.int i1), .val (.ref b1), .val (.int (9 : Int32)), .val (.int (230 : Int32)), .val (.int (i1 + (3 : Int32))), .val (.int (38 : Int32)), .val (.long (XT.ushrL q3 (38 : Int32))), .second] [(.int (9 : Int32)), (.ref wB), (.long (1 : Int64)), (.long (XT.ushrL q3 (38 : Int32))), (.int (9 : Int32)), (.ref b1)]))
  have cf130 := ((TB 9 (by decide)).ext (f126).2)
  obtain ⟨clf130, Arf130, If130, Hf130⟩ := cf130
  refine OG.of (X40.iaload hx (j := (9 : Int32)) (v := (.int (25 : Int32))) (by rw [e40]; exact Arf130.1) (State.isArrayOf_alike hZ.alike Arf130.2.1) Arf130.2.2 If130 Hf130 (g := (mkF m 84 #[.val (.ref ar), .val (.int i1), .val (.ref b1), .val (.int (9 : Int32)), .val (.int (230 : Int32)), .val (.int (i1 + (3 : Int32))), .val (.int (38 : Int32)), .val (.long (XT.ushrL q3 (38 : Int32))), .second] [(.int (9 : Int32)), (.ref wB), (.long (1 : Int64)), (.long (XT.ushrL q3 (38 : Int32))), (.int (9 : Int32)), (.ref b1)])) rfl rfl (hb hby dF_84)) ?_
  show OG _ _ _ _ _ _ _ (T40.setTop (mkF m 85 #[.val (.ref ar), .val (.int i1), .val (.ref b1), .val (.int (9 : Int32)), .val (.int (230 : Int32)), .val (.int (i1 + (3 : Int32))), .val (.int (38 : Int32)), .val (.long (XT.ushrL q3 (38 : Int32))), .second] [(.int (25 : Int32)), (.long (1 : Int64)), (.long (XT.ushrL q3 (38 : Int32))), (.int (9 : Int32)), (.ref b1)]))
  refine OG.of (A := T40.setTop (mkF m 89 #[.val (.ref ar), .val (.int i1), .val (.ref b1), .val (.int (9 : Int32)), .val (.int (230 : Int32)), .val (.int (i1 + (3 : Int32))), .val (.int (38 : Int32)), .val (.long (XT.ushrL q3 (38 : Int32))), .second] [(.long ((XT.ushrL q3 (38 : Int32)) &&& (((1 : Int64) <<< ((25 : Int32).toInt64 &&& 63)) - (1 : Int64)))), (.int (9 : Int32)), (.ref b1)])) (fun oT oK => ?_) ?_
  · show Steps p.tables e below (T40.setTop (mkF m 85 #[.val (.ref ar), .val (.int i1), .val (.ref b1), .val (.int (9 : Int32)), .val (.int (230 : Int32)), .val (.int (i1 + (3 : Int32))), .val (.int (38 : Int32)), .val (.long (XT.ushrL q3 (38 : Int32))), .second] [(.int (25 : Int32)), (.long (1 : Int64)), (.long (XT.ushrL q3 (38 : Int32))), (.int (9 : Int32)), (.ref b1)])) oT
    refine XT.lshl X40.here hx rfl (hb hby dF_85) rfl ?_
    show Steps p.tables e below (T40.setTop (mkF m 86 #[.val (.ref ar), .val (.int i1), .val (.ref b1), .val (.int (9 : Int32)), .val (.int (230 : Int32)), .val (.int (i1 + (3 : Int32))), .val (.int (38 : Int32)), .val (.long (XT.ushrL q3 (38 : Int32))), .second] [(.long ((1 : Int64) <<< ((25 : Int32).toInt64 &&& 63))), (.long (XT.ushrL q3 (38 : Int32))), (.int (9 : Int32)), (.ref b1)])) _
    refine XT.lconst X40.here hx rfl (hb hby dF_86) ?_
    show Steps p.tables e below (T40.setTop (mkF m 87 #[.val (.ref ar), .val (.int i1), .val (.ref b1), .val (.int (9 : Int32)), .val (.int (230 : Int32)), .val (.int (i1 + (3 : Int32))), .val (.int (38 : Int32)), .val (.long (XT.ushrL q3 (38 : Int32))), .second] [(.long (1 : Int64)), (.long ((1 : Int64) <<< ((25 : Int32).toInt64 &&& 63))), (.long (XT.ushrL q3 (38 : Int32))), (.int (9 : Int32)), (.ref b1)])) _
    refine XT.lsub X40.here hx rfl (hb hby dF_87) rfl ?_
    show Steps p.tables e below (T40.setTop (mkF m 88 #[.val (.ref ar), .val (.int i1), .val (.ref b1), .val (.int (9 : Int32)), .val (.int (230 : Int32)), .val (.int (i1 + (3 : Int32))), .val (.int (38 : Int32)), .val (.long (XT.ushrL q3 (38 : Int32))), .second] [(.long (((1 : Int64) <<< ((25 : Int32).toInt64 &&& 63)) - (1 : Int64))), (.long (XT.ushrL q3 (38 : Int32))), (.int (9 : Int32)), (.ref b1)])) _
    refine XT.land X40.here hx rfl (hb hby dF_88) rfl ?_
    exact oK
  show OG _ _ _ _ _ _ _ (T40.setTop (mkF m 89 #[.val (.ref ar), .val (.int i1), .val (.ref b1), .val (.int (9 : Int32)), .val (.int (230 : Int32)), .val (.int (i1 + (3 : Int32))), .val (.int (38 : Int32)), .val (.long (XT.ushrL q3 (38 : Int32))), .second] [(.long ((XT.ushrL q3 (38 : Int32)) &&& (((1 : Int64) <<< ((25 : Int32).toInt64 &&& 63)) - (1 : Int64)))), (.int (9 : Int32)), (.ref b1)]))
  show OG _ _ _ _ _ _ _ (T40.setTop (mkF m 89 #[.val (.ref ar), .val (.int i1), .val (.ref b1), .val (.int (9 : Int32)), .val (.int (230 : Int32)), .val (.int (i1 + (3 : Int32))), .val (.int (38 : Int32)), .val (.long (XT.ushrL q3 (38 : Int32))), .second] [(.long (own_l9 q0 q1 q2 q3)), (.int (9 : Int32)), (.ref b1)]))
  have cf131 := V37
  obtain ⟨clf131, Arf131, qf131, Sf131, Mf131, Hf131, Gf131⟩ := cf131
  obtain ⟨T41, h41, X41, e41, W41, st41⟩ := stJ X40 hx hZ e40 Arf131 (j := (9 : Int32)) (inb_of Sf131 ⟨by decide, by decide⟩) (g := (mkF m 89 #[.val (.ref ar), .val (.int i1), .val (.ref b1), .val (.int (9 : Int32)), .val (.int (230 : Int32)), .val (.int (i1 + (3 : Int32))), .val (.int (38 : Int32)), .val (.long (XT.ushrL q3 (38 : Int32))), .second] [(.long (own_l9 q0 q1 q2 q3)), (.int (9 : Int32)), (.ref b1)])) rfl rfl (hb hby dF_89)
  have f132 := (f119).other W41 ne_ar_b1
  have f133 := (f120).other W41 ne_ar_b1
  have f134 := (f121).other W41 ne_ar_b1
  have f135 := (f122).other W41 ne_ar_b1
  have f136 := (f123).other W41 ne_ar_b1
  have f137 := (f124).other W41 ne_ar_b1
  have V41 : Arv Z h41 b1 kc1 .long (10 : Int32) [(.long (own_l0 q0 q1 q2 q3)), (.long (own_l1 q0 q1 q2 q3)), (.long (own_l2 q0 q1 q2 q3)), (.long (own_l3 q0 q1 q2 q3)), (.long (own_l4 q0 q1 q2 q3)), (.long (own_l5 q0 q1 q2 q3)), (.long (own_l6 q0 q1 q2 q3)), (.long (own_l7 q0 q1 q2 q3)), (.long (own_l8 q0 q1 q2 q3)), (.long (own_l9 q0 q1 q2 q3))] (.long (0 : Int64)) := Arv.set Arf131 qf131 Sf131 Mf131 Hf131 Gf131 rfl W41 9 rfl (Nat.le_of_ble_eq_true rfl)
  have f139 := (f126).wr W41 gn_b1
  have K41 : Keep h0 h41 [] := (K37).wr W41 (Or.inr sz_b1)
  have Z41 : n0 ≤ h41.size := Nat.le_trans Z37 (Keep.of_wr W41).1
  have N41 := Fr.snoc X41 N37 gn_b1
  refine OG.of st41 ?_
  show OG _ _ _ _ _ _ _ (T41.setTop (mkF m 90 #[.val (.ref ar), .val (.int i1), .val (.ref b1), .val (.int (9 : Int32)), .val (.int (230 : Int32)), .val (.int (i1 + (3 : Int32))), .val (.int (38 : Int32)), .val (.long (XT.ushrL q3 (38 : Int32))), .second] []))
  refine OG.of (A := T41.setTop (mkF m 97 #[.val (.ref ar), .val (.int i1), .val (.ref b1), .val (.int (10 : Int32)), .val (.int (230 : Int32)), .val (.int (i1 + (3 : Int32))), .val (.int (38 : Int32)), .val (.long (XT.ushrL q3 (38 : Int32))), .second] [(.ref b1)])) (fun oT oK => ?_) ?_
  · show Steps p.tables e below (T41.setTop (mkF m 90 #[.val (.ref ar), .val (.int i1), .val (.ref b1), .val (.int (9 : Int32)), .val (.int (230 : Int32)), .val (.int (i1 + (3 : Int32))), .val (.int (38 : Int32)), .val (.long (XT.ushrL q3 (38 : Int32))), .second] [])) oT
    refine XS.iinc X41.here hx rfl (hb hby dF_90) rfl (l' := #[.val (.ref ar), .val (.int i1), .val (.ref b1), .val (.int (10 : Int32)), .val (.int (230 : Int32)), .val (.int (i1 + (3 : Int32))), .val (.int (38 : Int32)), .val (.long (XT.ushrL q3 (38 : Int32))), .second]) rfl ?_
    show Steps p.tables e below (T41.setTop (mkF m 93 #[.val (.ref ar), .val (.int i1), .val (.ref b1), .val (.int (10 : Int32)), .val (.int (230 : Int32)), .val (.int (i1 + (3 : Int32))), .val (.int (38 : Int32)), .val (.long (XT.ushrL q3 (38 : Int32))), .second] [])) _
    refine XS.goto X41.here hx rfl (pc0 := 93) (pc' := 7) rfl (hb hby dF_93) (by decide) (by decide) ?_
    show Steps p.tables e below (T41.setTop (mkF m 7 #[.val (.ref ar), .val (.int i1), .val (.ref b1), .val (.int (10 : Int32)), .val (.int (230 : Int32)), .val (.int (i1 + (3 : Int32))), .val (.int (38 : Int32)), .val (.long (XT.ushrL q3 (38 : Int32))), .second] [])) _
    refine XS.iloadN X41.here hx rfl (hb hby dF_7) rfl  ?_
    show Steps p.tables e below (T41.setTop (mkF m 8 #[.val (.ref ar), .val (.int i1), .val (.ref b1), .val (.int (10 : Int32)), .val (.int (230 : Int32)), .val (.int (i1 + (3 : Int32))), .val (.int (38 : Int32)), .val (.long (XT.ushrL q3 (38 : Int32))), .second] [(.int (10 : Int32))])) _
    refine XS.bipush X41.here hx rfl (hb hby dF_8) ?_
    show Steps p.tables e below (T41.setTop (mkF m 10 #[.val (.ref ar), .val (.int i1), .val (.ref b1), .val (.int (10 : Int32)), .val (.int (230 : Int32)), .val (.int (i1 + (3 : Int32))), .val (.int (38 : Int32)), .val (.long (XT.ushrL q3 (38 : Int32))), .second] [(.int (10 : Int32)), (.int (10 : Int32))])) _
    refine XS.icmpYes X41.here hx rfl (pc0 := 10) (pc' := 96) rfl (hb hby dF_10) rfl (XT.ii_ge_t (by decide)) (by decide) (by decide) ?_
    show Steps p.tables e below (T41.setTop (mkF m 96 #[.val (.ref ar), .val (.int i1), .val (.ref b1), .val (.int (10 : Int32)), .val (.int (230 : Int32)), .val (.int (i1 + (3 : Int32))), .val (.int (38 : Int32)), .val (.long (XT.ushrL q3 (38 : Int32))), .second] [])) _
    refine XS.aloadN X41.here hx rfl (hb hby dF_96) rfl rfl  ?_
    exact oK
  show OG _ _ _ _ _ _ _ (T41.setTop (mkF m 97 #[.val (.ref ar), .val (.int i1), .val (.ref b1), .val (.int (10 : Int32)), .val (.int (230 : Int32)), .val (.int (i1 + (3 : Int32))), .val (.int (38 : Int32)), .val (.long (XT.ushrL q3 (38 : Int32))), .second] [(.ref b1)]))
  refine OG.retA X41 hx Bd.returns rfl rfl (hb hby dF_97) hlk ?_ (by decide) (by decide)
  try rw [e41]
  exact ⟨b1, kc1, rfl, N41, K41, ⟨gn_b1, sz_b1⟩, V41⟩
theorem dI_0 : decode method_3_code 0 = .ok (.lload_n 0, 1) := by decide +kernel
theorem dI_1 : decode method_3_code 1 = .ok (.lconst 0, 1) := by decide +kernel
theorem dI_2 : decode method_3_code 2 = .ok (.lcmp, 1) := by decide +kernel
theorem dI_3 : decode method_3_code 3 = .ok (.ifCond .lt 15, 3) := by decide +kernel
theorem dI_18 : decode method_3_code 18 = .ok (.iconst 0, 1) := by decide +kernel
theorem dI_19 : decode method_3_code 19 = .ok (.ireturn, 1) := by decide +kernel
theorem dI_6 : decode method_3_code 6 = .ok (.lload_n 0, 1) := by decide +kernel
theorem dI_7 : decode method_3_code 7 = .ok (.lconst 1, 1) := by decide +kernel
theorem dI_8 : decode method_3_code 8 = .ok (.iload_n 2, 1) := by decide +kernel
theorem dI_9 : decode method_3_code 9 = .ok (.lshl, 1) := by decide +kernel
theorem dI_10 : decode method_3_code 10 = .ok (.lcmp, 1) := by decide +kernel
theorem dI_11 : decode method_3_code 11 = .ok (.ifCond .ge 7, 3) := by decide +kernel
theorem dI_14 : decode method_3_code 14 = .ok (.iconst 1, 1) := by decide +kernel
theorem dI_15 : decode method_3_code 15 = .ok (.goto 4, 3) := by decide +kernel
theorem pn_I : plainName "com/example/gate_to_gate/gatetogate/io/Field25519FromWordsPinLaw" = true := by first | (simp [plainName, overriddenIn]; done) | decide +kernel
theorem ef_I (m : MethodId) (x0 : Int64) (x1 : Int32) : entryFrame m #[(.long x0), (.int x1)] 3 = mkF m 0 #[.val (.long x0), .second, .val (.int x1)] [] := by first | (simp [entryFrame, mkF, argsToLocals, Value.category]; done) | rfl
def QI (Z : State) (q : Int64) (k0 : Int32) (h0 : Heap) (n0 : Nat) (v : Option Value) (h : Heap) (L : List Loc) : Prop := v = some (.int (own_in q k0)) ∧ Fr n0 L ∧ h = h0
set_option maxRecDepth 65536 in
set_option maxHeartbeats 40000000 in
theorem rmI (l : Launch) (Z : State) (a0 : Array Value) (hw : ∀ d ∈ tables_1, d.before a0 Z = true) (ws : List Jvm.Cond) (q : Int64) (k0 : Int32) (h0 : Heap) (n0 : Nat) (Z0 : n0 ≤ h0.size) :
    MetFree l (⟨"com/example/gate_to_gate/gatetogate/io/Field25519FromWordsPinLaw", "in", "(JI)Z"⟩ : MethodName) (head1 (Jvm.Cond.code (⟨"com/example/gate_to_gate/gatetogate/io/Field25519FromWordsPinLaw", "in", "(JI)Z"⟩ : MethodName) method_3_code 3 (some .boolean) :: ws) ({ frames := 0, cells := 0, slots := 0, locals := 0 } : Room)) (fun aA oU => aA = #[(.long q), (.int k0)] ∧ Z.Warmed39 oU.vm ∧ oU.heap = h0) (fun _ _ _ _ _ => True) (fun _ oU oO oU' => ∃ oV oL, oO = .returned oV ∧ QI Z q k0 h0 n0 oV oU'.heap oL ∧ FrameEnd oU oO oU' oL ({ frames := 0, cells := 0, slots := 0, locals := 0 } : Room).cells ({ frames := 0, cells := 0, slots := 0, locals := 0 } : Room).slots) := by
  refine MetFree.of_bodySF (plainFor_of_name pn_I) hisR ?_
  intro p e s m args below meth c s₁ Bd hml0 hP hK
  obtain ⟨rfl, hZ, hh⟩ := hP
  have hx := Bd.exec
  have hby := Bd.bytes
  have hlk := BodyLoose.notSynchronized Bd
  have hml : c.maxLocals = 3 := hml0
  have hown : s.vm.findClass "com/example/gate_to_gate/gatetogate/io/Field25519FromWordsPinLaw" = some m.cls := findClass_of_methodNamed Bd.named
  have hnm := (name_of_methodNamed Bd.named Bd.method).1
  have X0 : Stand p l e ({ frames := 0, cells := 0, slots := 0, locals := 0 } : Room) s m #[(.long q), (.int k0)] below meth c s₁ [] 0 0 := Stand.of_body Bd
  have e0 : s₁.heap = h0 := by rw [← hh, Bd.state]; rfl
  have N0 := Fr.nil n0
  show OG p e below s ({ frames := 0, cells := 0, slots := 0, locals := 0 } : Room).cells ({ frames := 0, cells := 0, slots := 0, locals := 0 } : Room).slots (QI Z q k0 h0 n0) _
  refine OG.of (fun oT oK => castTop (ef_I m q k0) oK) ?_
  show OG p e below s _ _ _ (s₁.setTop (mkF m 0 #[.val (.long q), .second, .val (.int k0)] []))
  refine OG.of (A := s₁.setTop (mkF m 3 #[.val (.long q), .second, .val (.int k0)] [(.int (XT.cmpL q (0 : Int64)))])) (fun oT oK => ?_) ?_
  · show Steps p.tables e below (s₁.setTop (mkF m 0 #[.val (.long q), .second, .val (.int k0)] [])) oT
    refine XT.lloadN X0.here hx rfl (hb hby dI_0) rfl  ?_
    show Steps p.tables e below (s₁.setTop (mkF m 1 #[.val (.long q), .second, .val (.int k0)] [(.long q)])) _
    refine XT.lconst X0.here hx rfl (hb hby dI_1) ?_
    show Steps p.tables e below (s₁.setTop (mkF m 2 #[.val (.long q), .second, .val (.int k0)] [(.long (0 : Int64)), (.long q)])) _
    refine XT.lcmp X0.here hx rfl (hb hby dI_2) rfl ?_
    exact oK
  show OG _ _ _ _ _ _ _ (s₁.setTop (mkF m 3 #[.val (.long q), .second, .val (.int k0)] [(.int (XT.cmpL q (0 : Int64)))]))
  by_cases hc3_1 : q < (0 : Int64)
  · refine OG.of (fun oT oK => XS.ifYes X0.here hx rfl (pc0 := 3) (pc' := 18) rfl (hb hby dI_3) rfl (XT.ll_lt_t hc3_1) (by decide) (by decide) oK) ?_
    show OG _ _ _ _ _ _ _ (s₁.setTop (mkF m 18 #[.val (.long q), .second, .val (.int k0)] []))
    refine OG.of (A := s₁.setTop (mkF m 19 #[.val (.long q), .second, .val (.int k0)] [(.int (0 : Int32))])) (fun oT oK => ?_) ?_
    · show Steps p.tables e below (s₁.setTop (mkF m 18 #[.val (.long q), .second, .val (.int k0)] [])) oT
      refine XS.iconst X0.here hx rfl (hb hby dI_18) ?_
      exact oK
    show OG _ _ _ _ _ _ _ (s₁.setTop (mkF m 19 #[.val (.long q), .second, .val (.int k0)] [(.int (0 : Int32))]))
    refine OG.retN X0 hx (t := .boolean) Bd.returns (by simp) (hb hby dI_19) hlk ?_ (by decide) (by decide)
    try rw [e0]
    exact ⟨by rw [own_in, if_pos hc3_1] <;> rfl, N0, rfl⟩
  · refine OG.of (fun oT oK => XS.ifNo X0.here hx rfl (hb hby dI_3) rfl (XT.ll_lt_f hc3_1) oK) ?_
    show OG _ _ _ _ _ _ _ (s₁.setTop (mkF m 6 #[.val (.long q), .second, .val (.int k0)] []))
    refine OG.of (A := s₁.setTop (mkF m 11 #[.val (.long q), .second, .val (.int k0)] [(.int (XT.cmpL q ((1 : Int64) <<< (k0.toInt64 &&& 63))))])) (fun oT oK => ?_) ?_
    · show Steps p.tables e below (s₁.setTop (mkF m 6 #[.val (.long q), .second, .val (.int k0)] [])) oT
      refine XT.lloadN X0.here hx rfl (hb hby dI_6) rfl  ?_
      show Steps p.tables e below (s₁.setTop (mkF m 7 #[.val (.long q), .second, .val (.int k0)] [(.long q)])) _
      refine XT.lconst X0.here hx rfl (hb hby dI_7) ?_
      show Steps p.tables e below (s₁.setTop (mkF m 8 #[.val (.long q), .second, .val (.int k0)] [(.long (1 : Int64)), (.long q)])) _
      refine XS.iloadN X0.here hx rfl (hb hby dI_8) rfl  ?_
      show Steps p.tables e below (s₁.setTop (mkF m 9 #[.val (.long q), .second, .val (.int k0)] [(.int k0), (.long (1 : Int64)), (.long q)])) _
      refine XT.lshl X0.here hx rfl (hb hby dI_9) rfl ?_
      show Steps p.tables e below (s₁.setTop (mkF m 10 #[.val (.long q), .second, .val (.int k0)] [(.long ((1 : Int64) <<< (k0.toInt64 &&& 63))), (.long q)])) _
      refine XT.lcmp X0.here hx rfl (hb hby dI_10) rfl ?_
      exact oK
    show OG _ _ _ _ _ _ _ (s₁.setTop (mkF m 11 #[.val (.long q), .second, .val (.int k0)] [(.int (XT.cmpL q ((1 : Int64) <<< (k0.toInt64 &&& 63))))]))
    by_cases hc11_2 : q < ((1 : Int64) <<< (k0.toInt64 &&& 63))
    · refine OG.of (fun oT oK => XS.ifNo X0.here hx rfl (hb hby dI_11) rfl (XT.ll_ge_f hc11_2) oK) ?_
      show OG _ _ _ _ _ _ _ (s₁.setTop (mkF m 14 #[.val (.long q), .second, .val (.int k0)] []))
      refine OG.of (A := s₁.setTop (mkF m 19 #[.val (.long q), .second, .val (.int k0)] [(.int (1 : Int32))])) (fun oT oK => ?_) ?_
      · show Steps p.tables e below (s₁.setTop (mkF m 14 #[.val (.long q), .second, .val (.int k0)] [])) oT
        refine XS.iconst X0.here hx rfl (hb hby dI_14) ?_
        show Steps p.tables e below (s₁.setTop (mkF m 15 #[.val (.long q), .second, .val (.int k0)] [(.int (1 : Int32))])) _
        refine XS.goto X0.here hx rfl (pc0 := 15) (pc' := 19) rfl (hb hby dI_15) (by decide) (by decide) ?_
        exact oK
      show OG _ _ _ _ _ _ _ (s₁.setTop (mkF m 19 #[.val (.long q), .second, .val (.int k0)] [(.int (1 : Int32))]))
      refine OG.retN X0 hx (t := .boolean) Bd.returns (by simp) (hb hby dI_19) hlk ?_ (by decide) (by decide)
      try rw [e0]
      exact ⟨by rw [own_in, if_neg hc3_1, if_pos hc11_2] <;> rfl, N0, rfl⟩
    · refine OG.of (fun oT oK => XS.ifYes X0.here hx rfl (pc0 := 11) (pc' := 18) rfl (hb hby dI_11) rfl (XT.ll_ge_t hc11_2) (by decide) (by decide) oK) ?_
      show OG _ _ _ _ _ _ _ (s₁.setTop (mkF m 18 #[.val (.long q), .second, .val (.int k0)] []))
      refine OG.of (A := s₁.setTop (mkF m 19 #[.val (.long q), .second, .val (.int k0)] [(.int (0 : Int32))])) (fun oT oK => ?_) ?_
      · show Steps p.tables e below (s₁.setTop (mkF m 18 #[.val (.long q), .second, .val (.int k0)] [])) oT
        refine XS.iconst X0.here hx rfl (hb hby dI_18) ?_
        exact oK
      show OG _ _ _ _ _ _ _ (s₁.setTop (mkF m 19 #[.val (.long q), .second, .val (.int k0)] [(.int (0 : Int32))]))
      refine OG.retN X0 hx (t := .boolean) Bd.returns (by simp) (hb hby dI_19) hlk ?_ (by decide) (by decide)
      try rw [e0]
      exact ⟨by rw [own_in, if_neg hc3_1, if_neg hc11_2] <;> rfl, N0, rfl⟩
theorem pd__JI_Z : parseMethodDescriptor "(JI)Z" = some ⟨[.long, .int], some .boolean⟩ := by decide +kernel
set_option maxRecDepth 65536 in
set_option maxHeartbeats 40000000 in
theorem own_tail {p : Program} {l : Launch} {e : Env} {s : State} {m : MethodId} {args : Array Value} {below : List Frame} {meth : Method} {c : Code} {T0 : State} {locs : List Loc} {Z : State} {a0 : Array Value} {h1 : Heap} {n0 : Nat} (q0 : Int64) (q1 : Int64) (q2 : Int64) (q3 : Int64) (qf : Int64) (p5 : Int32) (o5 : Int32) (w : Addr) (b : Addr) (kc : ClassId)
    (X0 : Stand p l e room_1 s m args below meth c T0 locs 2 17) (hx : p.tables.exec = Jvm.exec) (hZ : Z.Warmed39 s.vm) (hw : ∀ d ∈ tables_1, d.before a0 Z = true) (hby : c.code = code) (hml : c.maxLocals = 22) (hown : s.vm.findClass "com/example/gate_to_gate/gatetogate/io/Field25519FromWordsPinLaw" = some m.cls) (hlk : meth.locks = false) (hret : meth.sig.returnType = some .boolean) (e0 : T0.heap = h1) (N0 : Fr n0 locs) (Z0 : n0 ≤ h1.size) (V0 : Arv Z h1 b kc .long (10 : Int32) [(.long (own_l0 q0 q1 q2 q3)), (.long (own_l1 q0 q1 q2 q3)), (.long (own_l2 q0 q1 q2 q3)), (.long (own_l3 q0 q1 q2 q3)), (.long (own_l4 q0 q1 q2 q3)), (.long (own_l5 q0 q1 q2 q3)), (.long (own_l6 q0 q1 q2 q3)), (.long (own_l7 q0 q1 q2 q3)), (.long (own_l8 q0 q1 q2 q3)), (.long (own_l9 q0 q1 q2 q3))] (.long (0 : Int64))) :
    OG p e below s 16 128 (fun v _ L => v = some (.int 1) ∧ Fr n0 L) (T0.setTop (mkF m 94 #[.val (.long q0), .second, .val (.long q1), .second, .val (.long q2), .second, .val (.long q3), .second, .val (.long qf), .second, .val (.int p5), .val (.int o5), .val (.ref w), .unset, .unset, .unset, .unset, .unset, .unset, .unset, .unset, .unset] [(.ref b)])) := by
  refine OG.of (A := T0.setTop (mkF m 103 #[.val (.long q0), .second, .val (.long q1), .second, .val (.long q2), .second, .val (.long q3), .second, .val (.long qf), .second, .val (.int p5), .val (.int o5), .val (.ref w), .val (.ref b), .unset, .unset, .unset, .unset, .unset, .unset, .unset, .unset] [(.ref b)])) (fun oT oK => ?_) ?_
  · show Steps p.tables e below (T0.setTop (mkF m 94 #[.val (.long q0), .second, .val (.long q1), .second, .val (.long q2), .second, .val (.long q3), .second, .val (.long qf), .second, .val (.int p5), .val (.int o5), .val (.ref w), .unset, .unset, .unset, .unset, .unset, .unset, .unset, .unset, .unset] [(.ref b)])) oT
    refine XS.astore X0.here hx rfl (hb hby at_94) rfl rfl (l' := #[.val (.long q0), .second, .val (.long q1), .second, .val (.long q2), .second, .val (.long q3), .second, .val (.long qf), .second, .val (.int p5), .val (.int o5), .val (.ref w), .val (.ref b), .unset, .unset, .unset, .unset, .unset, .unset, .unset, .unset]) rfl ?_
    show Steps p.tables e below (T0.setTop (mkF m 96 #[.val (.long q0), .second, .val (.long q1), .second, .val (.long q2), .second, .val (.long q3), .second, .val (.long qf), .second, .val (.int p5), .val (.int o5), .val (.ref w), .val (.ref b), .unset, .unset, .unset, .unset, .unset, .unset, .unset, .unset] [])) _
    refine XS.aload X0.here hx rfl (hb hby at_96) rfl rfl  ?_
    show Steps p.tables e below (T0.setTop (mkF m 98 #[.val (.long q0), .second, .val (.long q1), .second, .val (.long q2), .second, .val (.long q3), .second, .val (.long qf), .second, .val (.int p5), .val (.int o5), .val (.ref w), .val (.ref b), .unset, .unset, .unset, .unset, .unset, .unset, .unset, .unset] [(.ref b)])) _
    refine XS.ifnullNo X0.here hx rfl (hb hby at_98) rfl ?_
    show Steps p.tables e below (T0.setTop (mkF m 101 #[.val (.long q0), .second, .val (.long q1), .second, .val (.long q2), .second, .val (.long q3), .second, .val (.long qf), .second, .val (.int p5), .val (.int o5), .val (.ref w), .val (.ref b), .unset, .unset, .unset, .unset, .unset, .unset, .unset, .unset] [])) _
    refine XS.aload X0.here hx rfl (hb hby at_101) rfl rfl  ?_
    exact oK
  show OG _ _ _ _ _ _ _ (T0.setTop (mkF m 103 #[.val (.long q0), .second, .val (.long q1), .second, .val (.long q2), .second, .val (.long q3), .second, .val (.long qf), .second, .val (.int p5), .val (.int o5), .val (.ref w), .val (.ref b), .unset, .unset, .unset, .unset, .unset, .unset, .unset, .unset] [(.ref b)]))
  have cf1 := V0
  obtain ⟨clf1, Arf1, qf1, Sf1, Mf1, Hf1, Gf1⟩ := cf1
  refine OG.of (X0.arraylength hx (by rw [e0]; exact Arf1.1) (State.isArrayOf_alike hZ.alike Arf1.2.1) (g := (mkF m 103 #[.val (.long q0), .second, .val (.long q1), .second, .val (.long q2), .second, .val (.long q3), .second, .val (.long qf), .second, .val (.int p5), .val (.int o5), .val (.ref w), .val (.ref b), .unset, .unset, .unset, .unset, .unset, .unset, .unset, .unset] [(.ref b)])) rfl rfl (hb hby at_103)) ?_
  rw [len_of Sf1 Mf1]
  show OG _ _ _ _ _ _ _ (T0.setTop (mkF m 104 #[.val (.long q0), .second, .val (.long q1), .second, .val (.long q2), .second, .val (.long q3), .second, .val (.long qf), .second, .val (.int p5), .val (.int o5), .val (.ref w), .val (.ref b), .unset, .unset, .unset, .unset, .unset, .unset, .unset, .unset] [(.int (10 : Int32))]))
  refine OG.of (A := T0.setTop (mkF m 114 #[.val (.long q0), .second, .val (.long q1), .second, .val (.long q2), .second, .val (.long q3), .second, .val (.long qf), .second, .val (.int p5), .val (.int o5), .val (.ref w), .val (.ref b), .unset, .unset, .unset, .unset, .unset, .unset, .unset, .unset] [(.int (0 : Int32)), (.ref b)])) (fun oT oK => ?_) ?_
  · show Steps p.tables e below (T0.setTop (mkF m 104 #[.val (.long q0), .second, .val (.long q1), .second, .val (.long q2), .second, .val (.long q3), .second, .val (.long qf), .second, .val (.int p5), .val (.int o5), .val (.ref w), .val (.ref b), .unset, .unset, .unset, .unset, .unset, .unset, .unset, .unset] [(.int (10 : Int32))])) oT
    refine XS.bipush X0.here hx rfl (hb hby at_104) ?_
    show Steps p.tables e below (T0.setTop (mkF m 106 #[.val (.long q0), .second, .val (.long q1), .second, .val (.long q2), .second, .val (.long q3), .second, .val (.long qf), .second, .val (.int p5), .val (.int o5), .val (.ref w), .val (.ref b), .unset, .unset, .unset, .unset, .unset, .unset, .unset, .unset] [(.int (10 : Int32)), (.int (10 : Int32))])) _
    refine XS.icmpYes X0.here hx rfl (pc0 := 106) (pc' := 111) rfl (hb hby at_106) rfl (XT.ii_eq_t rfl) (by decide) (by decide) ?_
    show Steps p.tables e below (T0.setTop (mkF m 111 #[.val (.long q0), .second, .val (.long q1), .second, .val (.long q2), .second, .val (.long q3), .second, .val (.long qf), .second, .val (.int p5), .val (.int o5), .val (.ref w), .val (.ref b), .unset, .unset, .unset, .unset, .unset, .unset, .unset, .unset] [])) _
    refine XS.aload X0.here hx rfl (hb hby at_111) rfl rfl  ?_
    show Steps p.tables e below (T0.setTop (mkF m 113 #[.val (.long q0), .second, .val (.long q1), .second, .val (.long q2), .second, .val (.long q3), .second, .val (.long qf), .second, .val (.int p5), .val (.int o5), .val (.ref w), .val (.ref b), .unset, .unset, .unset, .unset, .unset, .unset, .unset, .unset] [(.ref b)])) _
    refine XS.iconst X0.here hx rfl (hb hby at_113) ?_
    exact oK
  show OG _ _ _ _ _ _ _ (T0.setTop (mkF m 114 #[.val (.long q0), .second, .val (.long q1), .second, .val (.long q2), .second, .val (.long q3), .second, .val (.long qf), .second, .val (.int p5), .val (.int o5), .val (.ref w), .val (.ref b), .unset, .unset, .unset, .unset, .unset, .unset, .unset, .unset] [(.int (0 : Int32)), (.ref b)]))
  have cf2 := V0
  obtain ⟨clf2, Arf2, qf2, Sf2, Mf2, Hf2, Gf2⟩ := cf2
  refine OG.of (X0.laload hx (j := (0 : Int32)) (v := (.long (own_l0 q0 q1 q2 q3))) (by rw [e0]; exact Arf2.1) (State.isArrayOf_alike hZ.alike Arf2.2.1) Arf2.2.2 (inb_of Sf2 ⟨by decide, by decide⟩) (Hf2.at (inb_of Sf2 ⟨by decide, by decide⟩) rfl) (g := (mkF m 114 #[.val (.long q0), .second, .val (.long q1), .second, .val (.long q2), .second, .val (.long q3), .second, .val (.long qf), .second, .val (.int p5), .val (.int o5), .val (.ref w), .val (.ref b), .unset, .unset, .unset, .unset, .unset, .unset, .unset, .unset] [(.int (0 : Int32)), (.ref b)])) rfl rfl (hb hby at_114)) ?_
  show OG _ _ _ _ _ _ _ (T0.setTop (mkF m 115 #[.val (.long q0), .second, .val (.long q1), .second, .val (.long q2), .second, .val (.long q3), .second, .val (.long qf), .second, .val (.int p5), .val (.int o5), .val (.ref w), .val (.ref b), .unset, .unset, .unset, .unset, .unset, .unset, .unset, .unset] [(.long (own_l0 q0 q1 q2 q3))]))
  refine OG.of (A := T0.setTop (mkF m 117 #[.val (.long q0), .second, .val (.long q1), .second, .val (.long q2), .second, .val (.long q3), .second, .val (.long qf), .second, .val (.int p5), .val (.int o5), .val (.ref w), .val (.ref b), .unset, .unset, .unset, .unset, .unset, .unset, .unset, .unset] [(.int (26 : Int32)), (.long (own_l0 q0 q1 q2 q3))])) (fun oT oK => ?_) ?_
  · show Steps p.tables e below (T0.setTop (mkF m 115 #[.val (.long q0), .second, .val (.long q1), .second, .val (.long q2), .second, .val (.long q3), .second, .val (.long qf), .second, .val (.int p5), .val (.int o5), .val (.ref w), .val (.ref b), .unset, .unset, .unset, .unset, .unset, .unset, .unset, .unset] [(.long (own_l0 q0 q1 q2 q3))])) oT
    refine XS.bipush X0.here hx rfl (hb hby at_115) ?_
    exact oK
  show OG _ _ _ _ _ _ _ (T0.setTop (mkF m 117 #[.val (.long q0), .second, .val (.long q1), .second, .val (.long q2), .second, .val (.long q3), .second, .val (.long qf), .second, .val (.int p5), .val (.int o5), .val (.ref w), .val (.ref b), .unset, .unset, .unset, .unset, .unset, .unset, .unset, .unset] [(.int (26 : Int32)), (.long (own_l0 q0 q1 q2 q3))]))
  obtain ⟨_, _, ⟨T1, L1, k1, n1⟩, -, X1, ⟨Lc1, hQ1, l1, y1, z1⟩, st1⟩ := Jvm.LawKit.callS X0 hx (y := (⟨"com/example/gate_to_gate/gatetogate/io/Field25519FromWordsPinLaw", "in", "(JI)Z"⟩ : MethodName)) hown (mvT hZ (hw _ (List.mem_of_getElem? (i := 9) rfl))) (mvT hZ (hw _ (List.mem_of_getElem? (i := 10) rfl))) (mvT hZ (hw _ (List.mem_of_getElem? (i := 11) rfl))) (mvT hZ (hw _ (List.mem_of_getElem? (i := 12) rfl))) (by decide) (backOf (W := 0) (rmI l Z a0 hw [] (own_l0 q0 q1 q2 q3) (26 : Int32)  h1 n0 (Z0)) hZ (hw _ (List.mem_of_getElem? (i := 12) rfl)) (hw _ (List.mem_of_getElem? (i := 11) rfl)) (by decide) (by decide)) (g := (mkF m 117 #[.val (.long q0), .second, .val (.long q1), .second, .val (.long q2), .second, .val (.long q3), .second, .val (.long qf), .second, .val (.int p5), .val (.int o5), .val (.ref w), .val (.ref b), .unset, .unset, .unset, .unset, .unset, .unset, .unset, .unset] [(.int (26 : Int32)), (.long (own_l0 q0 q1 q2 q3))])) rfl (by rw [hml]; rfl) (argsL := [(.long (own_l0 q0 q1 q2 q3)), (.int (26 : Int32))]) (rest := []) (lenOf pd__JI_Z rfl) rfl (by show 2 * 0 + _ ≤ _; exact Nat.le_of_eq rfl) (hb hby at_117) (fun _ _ => ⟨rfl, e0, (by decide : 2 + 0 ≤ _), (by decide : 17 + 0 ≤ _)⟩)
  dsimp only [Pt.U, Pt.locs, Pt.cells, Pt.slots] at X1 l1 y1 z1 st1 hQ1
  subst l1 y1 z1
  obtain ⟨hv1, N1q, e1⟩ := hQ1
  obtain rfl := hv1.trans (show _ = some (.int (1 : Int32)) from congrArg (fun z => some (Value.int z)) (own_in_l0 q0 q1 q2 q3))
  have N1 := Fr.app N0 N1q
  refine OG.of st1 ?_
  show OG _ _ _ _ _ _ _ (T1.setTop (mkF m 120 #[.val (.long q0), .second, .val (.long q1), .second, .val (.long q2), .second, .val (.long q3), .second, .val (.long qf), .second, .val (.int p5), .val (.int o5), .val (.ref w), .val (.ref b), .unset, .unset, .unset, .unset, .unset, .unset, .unset, .unset] [(.int (1 : Int32))]))
  refine OG.of (A := T1.setTop (mkF m 126 #[.val (.long q0), .second, .val (.long q1), .second, .val (.long q2), .second, .val (.long q3), .second, .val (.long qf), .second, .val (.int p5), .val (.int o5), .val (.ref w), .val (.ref b), .unset, .unset, .unset, .unset, .unset, .unset, .unset, .unset] [(.int (1 : Int32)), (.ref b)])) (fun oT oK => ?_) ?_
  · show Steps p.tables e below (T1.setTop (mkF m 120 #[.val (.long q0), .second, .val (.long q1), .second, .val (.long q2), .second, .val (.long q3), .second, .val (.long qf), .second, .val (.int p5), .val (.int o5), .val (.ref w), .val (.ref b), .unset, .unset, .unset, .unset, .unset, .unset, .unset, .unset] [(.int (1 : Int32))])) oT
    refine XS.ifNo X1.here hx rfl (hb hby at_120) rfl (XT.i0_eq_f (by decide)) ?_
    show Steps p.tables e below (T1.setTop (mkF m 123 #[.val (.long q0), .second, .val (.long q1), .second, .val (.long q2), .second, .val (.long q3), .second, .val (.long qf), .second, .val (.int p5), .val (.int o5), .val (.ref w), .val (.ref b), .unset, .unset, .unset, .unset, .unset, .unset, .unset, .unset] [])) _
    refine XS.aload X1.here hx rfl (hb hby at_123) rfl rfl  ?_
    show Steps p.tables e below (T1.setTop (mkF m 125 #[.val (.long q0), .second, .val (.long q1), .second, .val (.long q2), .second, .val (.long q3), .second, .val (.long qf), .second, .val (.int p5), .val (.int o5), .val (.ref w), .val (.ref b), .unset, .unset, .unset, .unset, .unset, .unset, .unset, .unset] [(.ref b)])) _
    refine XS.iconst X1.here hx rfl (hb hby at_125) ?_
    exact oK
  show OG _ _ _ _ _ _ _ (T1.setTop (mkF m 126 #[.val (.long q0), .second, .val (.long q1), .second, .val (.long q2), .second, .val (.long q3), .second, .val (.long qf), .second, .val (.int p5), .val (.int o5), .val (.ref w), .val (.ref b), .unset, .unset, .unset, .unset, .unset, .unset, .unset, .unset] [(.int (1 : Int32)), (.ref b)]))
  have cf3 := V0
  obtain ⟨clf3, Arf3, qf3, Sf3, Mf3, Hf3, Gf3⟩ := cf3
  refine OG.of (X1.laload hx (j := (1 : Int32)) (v := (.long (own_l1 q0 q1 q2 q3))) (by rw [e1]; exact Arf3.1) (State.isArrayOf_alike hZ.alike Arf3.2.1) Arf3.2.2 (inb_of Sf3 ⟨by decide, by decide⟩) (Hf3.at (inb_of Sf3 ⟨by decide, by decide⟩) rfl) (g := (mkF m 126 #[.val (.long q0), .second, .val (.long q1), .second, .val (.long q2), .second, .val (.long q3), .second, .val (.long qf), .second, .val (.int p5), .val (.int o5), .val (.ref w), .val (.ref b), .unset, .unset, .unset, .unset, .unset, .unset, .unset, .unset] [(.int (1 : Int32)), (.ref b)])) rfl rfl (hb hby at_126)) ?_
  show OG _ _ _ _ _ _ _ (T1.setTop (mkF m 127 #[.val (.long q0), .second, .val (.long q1), .second, .val (.long q2), .second, .val (.long q3), .second, .val (.long qf), .second, .val (.int p5), .val (.int o5), .val (.ref w), .val (.ref b), .unset, .unset, .unset, .unset, .unset, .unset, .unset, .unset] [(.long (own_l1 q0 q1 q2 q3))]))
  refine OG.of (A := T1.setTop (mkF m 129 #[.val (.long q0), .second, .val (.long q1), .second, .val (.long q2), .second, .val (.long q3), .second, .val (.long qf), .second, .val (.int p5), .val (.int o5), .val (.ref w), .val (.ref b), .unset, .unset, .unset, .unset, .unset, .unset, .unset, .unset] [(.int (25 : Int32)), (.long (own_l1 q0 q1 q2 q3))])) (fun oT oK => ?_) ?_
  · show Steps p.tables e below (T1.setTop (mkF m 127 #[.val (.long q0), .second, .val (.long q1), .second, .val (.long q2), .second, .val (.long q3), .second, .val (.long qf), .second, .val (.int p5), .val (.int o5), .val (.ref w), .val (.ref b), .unset, .unset, .unset, .unset, .unset, .unset, .unset, .unset] [(.long (own_l1 q0 q1 q2 q3))])) oT
    refine XS.bipush X1.here hx rfl (hb hby at_127) ?_
    exact oK
  show OG _ _ _ _ _ _ _ (T1.setTop (mkF m 129 #[.val (.long q0), .second, .val (.long q1), .second, .val (.long q2), .second, .val (.long q3), .second, .val (.long qf), .second, .val (.int p5), .val (.int o5), .val (.ref w), .val (.ref b), .unset, .unset, .unset, .unset, .unset, .unset, .unset, .unset] [(.int (25 : Int32)), (.long (own_l1 q0 q1 q2 q3))]))
  obtain ⟨_, _, ⟨T2, L2, k2, n2⟩, -, X2, ⟨Lc2, hQ2, l2, y2, z2⟩, st2⟩ := Jvm.LawKit.callS X1 hx (y := (⟨"com/example/gate_to_gate/gatetogate/io/Field25519FromWordsPinLaw", "in", "(JI)Z"⟩ : MethodName)) hown (mvT hZ (hw _ (List.mem_of_getElem? (i := 9) rfl))) (mvT hZ (hw _ (List.mem_of_getElem? (i := 10) rfl))) (mvT hZ (hw _ (List.mem_of_getElem? (i := 11) rfl))) (mvT hZ (hw _ (List.mem_of_getElem? (i := 12) rfl))) (by decide) (backOf (W := 0) (rmI l Z a0 hw [] (own_l1 q0 q1 q2 q3) (25 : Int32)  h1 n0 (Z0)) hZ (hw _ (List.mem_of_getElem? (i := 12) rfl)) (hw _ (List.mem_of_getElem? (i := 11) rfl)) (by decide) (by decide)) (g := (mkF m 129 #[.val (.long q0), .second, .val (.long q1), .second, .val (.long q2), .second, .val (.long q3), .second, .val (.long qf), .second, .val (.int p5), .val (.int o5), .val (.ref w), .val (.ref b), .unset, .unset, .unset, .unset, .unset, .unset, .unset, .unset] [(.int (25 : Int32)), (.long (own_l1 q0 q1 q2 q3))])) rfl (by rw [hml]; rfl) (argsL := [(.long (own_l1 q0 q1 q2 q3)), (.int (25 : Int32))]) (rest := []) (lenOf pd__JI_Z rfl) rfl (by show 2 * 0 + _ ≤ _; exact Nat.le_of_eq rfl) (hb hby at_129) (fun _ _ => ⟨rfl, e1, (by decide : 2 + 0 ≤ _), (by decide : 17 + 0 ≤ _)⟩)
  dsimp only [Pt.U, Pt.locs, Pt.cells, Pt.slots] at X2 l2 y2 z2 st2 hQ2
  subst l2 y2 z2
  obtain ⟨hv2, N2q, e2⟩ := hQ2
  obtain rfl := hv2.trans (show _ = some (.int (1 : Int32)) from congrArg (fun z => some (Value.int z)) (own_in_l1 q0 q1 q2 q3))
  have N2 := Fr.app N1 N2q
  refine OG.of st2 ?_
  show OG _ _ _ _ _ _ _ (T2.setTop (mkF m 132 #[.val (.long q0), .second, .val (.long q1), .second, .val (.long q2), .second, .val (.long q3), .second, .val (.long qf), .second, .val (.int p5), .val (.int o5), .val (.ref w), .val (.ref b), .unset, .unset, .unset, .unset, .unset, .unset, .unset, .unset] [(.int (1 : Int32))]))
  refine OG.of (A := T2.setTop (mkF m 138 #[.val (.long q0), .second, .val (.long q1), .second, .val (.long q2), .second, .val (.long q3), .second, .val (.long qf), .second, .val (.int p5), .val (.int o5), .val (.ref w), .val (.ref b), .unset, .unset, .unset, .unset, .unset, .unset, .unset, .unset] [(.int (2 : Int32)), (.ref b)])) (fun oT oK => ?_) ?_
  · show Steps p.tables e below (T2.setTop (mkF m 132 #[.val (.long q0), .second, .val (.long q1), .second, .val (.long q2), .second, .val (.long q3), .second, .val (.long qf), .second, .val (.int p5), .val (.int o5), .val (.ref w), .val (.ref b), .unset, .unset, .unset, .unset, .unset, .unset, .unset, .unset] [(.int (1 : Int32))])) oT
    refine XS.ifNo X2.here hx rfl (hb hby at_132) rfl (XT.i0_eq_f (by decide)) ?_
    show Steps p.tables e below (T2.setTop (mkF m 135 #[.val (.long q0), .second, .val (.long q1), .second, .val (.long q2), .second, .val (.long q3), .second, .val (.long qf), .second, .val (.int p5), .val (.int o5), .val (.ref w), .val (.ref b), .unset, .unset, .unset, .unset, .unset, .unset, .unset, .unset] [])) _
    refine XS.aload X2.here hx rfl (hb hby at_135) rfl rfl  ?_
    show Steps p.tables e below (T2.setTop (mkF m 137 #[.val (.long q0), .second, .val (.long q1), .second, .val (.long q2), .second, .val (.long q3), .second, .val (.long qf), .second, .val (.int p5), .val (.int o5), .val (.ref w), .val (.ref b), .unset, .unset, .unset, .unset, .unset, .unset, .unset, .unset] [(.ref b)])) _
    refine XS.iconst X2.here hx rfl (hb hby at_137) ?_
    exact oK
  show OG _ _ _ _ _ _ _ (T2.setTop (mkF m 138 #[.val (.long q0), .second, .val (.long q1), .second, .val (.long q2), .second, .val (.long q3), .second, .val (.long qf), .second, .val (.int p5), .val (.int o5), .val (.ref w), .val (.ref b), .unset, .unset, .unset, .unset, .unset, .unset, .unset, .unset] [(.int (2 : Int32)), (.ref b)]))
  have cf4 := V0
  obtain ⟨clf4, Arf4, qf4, Sf4, Mf4, Hf4, Gf4⟩ := cf4
  refine OG.of (X2.laload hx (j := (2 : Int32)) (v := (.long (own_l2 q0 q1 q2 q3))) (by rw [e2]; exact Arf4.1) (State.isArrayOf_alike hZ.alike Arf4.2.1) Arf4.2.2 (inb_of Sf4 ⟨by decide, by decide⟩) (Hf4.at (inb_of Sf4 ⟨by decide, by decide⟩) rfl) (g := (mkF m 138 #[.val (.long q0), .second, .val (.long q1), .second, .val (.long q2), .second, .val (.long q3), .second, .val (.long qf), .second, .val (.int p5), .val (.int o5), .val (.ref w), .val (.ref b), .unset, .unset, .unset, .unset, .unset, .unset, .unset, .unset] [(.int (2 : Int32)), (.ref b)])) rfl rfl (hb hby at_138)) ?_
  show OG _ _ _ _ _ _ _ (T2.setTop (mkF m 139 #[.val (.long q0), .second, .val (.long q1), .second, .val (.long q2), .second, .val (.long q3), .second, .val (.long qf), .second, .val (.int p5), .val (.int o5), .val (.ref w), .val (.ref b), .unset, .unset, .unset, .unset, .unset, .unset, .unset, .unset] [(.long (own_l2 q0 q1 q2 q3))]))
  refine OG.of (A := T2.setTop (mkF m 141 #[.val (.long q0), .second, .val (.long q1), .second, .val (.long q2), .second, .val (.long q3), .second, .val (.long qf), .second, .val (.int p5), .val (.int o5), .val (.ref w), .val (.ref b), .unset, .unset, .unset, .unset, .unset, .unset, .unset, .unset] [(.int (26 : Int32)), (.long (own_l2 q0 q1 q2 q3))])) (fun oT oK => ?_) ?_
  · show Steps p.tables e below (T2.setTop (mkF m 139 #[.val (.long q0), .second, .val (.long q1), .second, .val (.long q2), .second, .val (.long q3), .second, .val (.long qf), .second, .val (.int p5), .val (.int o5), .val (.ref w), .val (.ref b), .unset, .unset, .unset, .unset, .unset, .unset, .unset, .unset] [(.long (own_l2 q0 q1 q2 q3))])) oT
    refine XS.bipush X2.here hx rfl (hb hby at_139) ?_
    exact oK
  show OG _ _ _ _ _ _ _ (T2.setTop (mkF m 141 #[.val (.long q0), .second, .val (.long q1), .second, .val (.long q2), .second, .val (.long q3), .second, .val (.long qf), .second, .val (.int p5), .val (.int o5), .val (.ref w), .val (.ref b), .unset, .unset, .unset, .unset, .unset, .unset, .unset, .unset] [(.int (26 : Int32)), (.long (own_l2 q0 q1 q2 q3))]))
  obtain ⟨_, _, ⟨T3, L3, k3, n3⟩, -, X3, ⟨Lc3, hQ3, l3, y3, z3⟩, st3⟩ := Jvm.LawKit.callS X2 hx (y := (⟨"com/example/gate_to_gate/gatetogate/io/Field25519FromWordsPinLaw", "in", "(JI)Z"⟩ : MethodName)) hown (mvT hZ (hw _ (List.mem_of_getElem? (i := 9) rfl))) (mvT hZ (hw _ (List.mem_of_getElem? (i := 10) rfl))) (mvT hZ (hw _ (List.mem_of_getElem? (i := 11) rfl))) (mvT hZ (hw _ (List.mem_of_getElem? (i := 12) rfl))) (by decide) (backOf (W := 0) (rmI l Z a0 hw [] (own_l2 q0 q1 q2 q3) (26 : Int32)  h1 n0 (Z0)) hZ (hw _ (List.mem_of_getElem? (i := 12) rfl)) (hw _ (List.mem_of_getElem? (i := 11) rfl)) (by decide) (by decide)) (g := (mkF m 141 #[.val (.long q0), .second, .val (.long q1), .second, .val (.long q2), .second, .val (.long q3), .second, .val (.long qf), .second, .val (.int p5), .val (.int o5), .val (.ref w), .val (.ref b), .unset, .unset, .unset, .unset, .unset, .unset, .unset, .unset] [(.int (26 : Int32)), (.long (own_l2 q0 q1 q2 q3))])) rfl (by rw [hml]; rfl) (argsL := [(.long (own_l2 q0 q1 q2 q3)), (.int (26 : Int32))]) (rest := []) (lenOf pd__JI_Z rfl) rfl (by show 2 * 0 + _ ≤ _; exact Nat.le_of_eq rfl) (hb hby at_141) (fun _ _ => ⟨rfl, e2, (by decide : 2 + 0 ≤ _), (by decide : 17 + 0 ≤ _)⟩)
  dsimp only [Pt.U, Pt.locs, Pt.cells, Pt.slots] at X3 l3 y3 z3 st3 hQ3
  subst l3 y3 z3
  obtain ⟨hv3, N3q, e3⟩ := hQ3
  obtain rfl := hv3.trans (show _ = some (.int (1 : Int32)) from congrArg (fun z => some (Value.int z)) (own_in_l2 q0 q1 q2 q3))
  have N3 := Fr.app N2 N3q
  refine OG.of st3 ?_
  show OG _ _ _ _ _ _ _ (T3.setTop (mkF m 144 #[.val (.long q0), .second, .val (.long q1), .second, .val (.long q2), .second, .val (.long q3), .second, .val (.long qf), .second, .val (.int p5), .val (.int o5), .val (.ref w), .val (.ref b), .unset, .unset, .unset, .unset, .unset, .unset, .unset, .unset] [(.int (1 : Int32))]))
  refine OG.of (A := T3.setTop (mkF m 150 #[.val (.long q0), .second, .val (.long q1), .second, .val (.long q2), .second, .val (.long q3), .second, .val (.long qf), .second, .val (.int p5), .val (.int o5), .val (.ref w), .val (.ref b), .unset, .unset, .unset, .unset, .unset, .unset, .unset, .unset] [(.int (3 : Int32)), (.ref b)])) (fun oT oK => ?_) ?_
  · show Steps p.tables e below (T3.setTop (mkF m 144 #[.val (.long q0), .second, .val (.long q1), .second, .val (.long q2), .second, .val (.long q3), .second, .val (.long qf), .second, .val (.int p5), .val (.int o5), .val (.ref w), .val (.ref b), .unset, .unset, .unset, .unset, .unset, .unset, .unset, .unset] [(.int (1 : Int32))])) oT
    refine XS.ifNo X3.here hx rfl (hb hby at_144) rfl (XT.i0_eq_f (by decide)) ?_
    show Steps p.tables e below (T3.setTop (mkF m 147 #[.val (.long q0), .second, .val (.long q1), .second, .val (.long q2), .second, .val (.long q3), .second, .val (.long qf), .second, .val (.int p5), .val (.int o5), .val (.ref w), .val (.ref b), .unset, .unset, .unset, .unset, .unset, .unset, .unset, .unset] [])) _
    refine XS.aload X3.here hx rfl (hb hby at_147) rfl rfl  ?_
    show Steps p.tables e below (T3.setTop (mkF m 149 #[.val (.long q0), .second, .val (.long q1), .second, .val (.long q2), .second, .val (.long q3), .second, .val (.long qf), .second, .val (.int p5), .val (.int o5), .val (.ref w), .val (.ref b), .unset, .unset, .unset, .unset, .unset, .unset, .unset, .unset] [(.ref b)])) _
    refine XS.iconst X3.here hx rfl (hb hby at_149) ?_
    exact oK
  show OG _ _ _ _ _ _ _ (T3.setTop (mkF m 150 #[.val (.long q0), .second, .val (.long q1), .second, .val (.long q2), .second, .val (.long q3), .second, .val (.long qf), .second, .val (.int p5), .val (.int o5), .val (.ref w), .val (.ref b), .unset, .unset, .unset, .unset, .unset, .unset, .unset, .unset] [(.int (3 : Int32)), (.ref b)]))
  have cf5 := V0
  obtain ⟨clf5, Arf5, qf5, Sf5, Mf5, Hf5, Gf5⟩ := cf5
  refine OG.of (X3.laload hx (j := (3 : Int32)) (v := (.long (own_l3 q0 q1 q2 q3))) (by rw [e3]; exact Arf5.1) (State.isArrayOf_alike hZ.alike Arf5.2.1) Arf5.2.2 (inb_of Sf5 ⟨by decide, by decide⟩) (Hf5.at (inb_of Sf5 ⟨by decide, by decide⟩) rfl) (g := (mkF m 150 #[.val (.long q0), .second, .val (.long q1), .second, .val (.long q2), .second, .val (.long q3), .second, .val (.long qf), .second, .val (.int p5), .val (.int o5), .val (.ref w), .val (.ref b), .unset, .unset, .unset, .unset, .unset, .unset, .unset, .unset] [(.int (3 : Int32)), (.ref b)])) rfl rfl (hb hby at_150)) ?_
  show OG _ _ _ _ _ _ _ (T3.setTop (mkF m 151 #[.val (.long q0), .second, .val (.long q1), .second, .val (.long q2), .second, .val (.long q3), .second, .val (.long qf), .second, .val (.int p5), .val (.int o5), .val (.ref w), .val (.ref b), .unset, .unset, .unset, .unset, .unset, .unset, .unset, .unset] [(.long (own_l3 q0 q1 q2 q3))]))
  refine OG.of (A := T3.setTop (mkF m 153 #[.val (.long q0), .second, .val (.long q1), .second, .val (.long q2), .second, .val (.long q3), .second, .val (.long qf), .second, .val (.int p5), .val (.int o5), .val (.ref w), .val (.ref b), .unset, .unset, .unset, .unset, .unset, .unset, .unset, .unset] [(.int (25 : Int32)), (.long (own_l3 q0 q1 q2 q3))])) (fun oT oK => ?_) ?_
  · show Steps p.tables e below (T3.setTop (mkF m 151 #[.val (.long q0), .second, .val (.long q1), .second, .val (.long q2), .second, .val (.long q3), .second, .val (.long qf), .second, .val (.int p5), .val (.int o5), .val (.ref w), .val (.ref b), .unset, .unset, .unset, .unset, .unset, .unset, .unset, .unset] [(.long (own_l3 q0 q1 q2 q3))])) oT
    refine XS.bipush X3.here hx rfl (hb hby at_151) ?_
    exact oK
  show OG _ _ _ _ _ _ _ (T3.setTop (mkF m 153 #[.val (.long q0), .second, .val (.long q1), .second, .val (.long q2), .second, .val (.long q3), .second, .val (.long qf), .second, .val (.int p5), .val (.int o5), .val (.ref w), .val (.ref b), .unset, .unset, .unset, .unset, .unset, .unset, .unset, .unset] [(.int (25 : Int32)), (.long (own_l3 q0 q1 q2 q3))]))
  obtain ⟨_, _, ⟨T4, L4, k4, n4⟩, -, X4, ⟨Lc4, hQ4, l4, y4, z4⟩, st4⟩ := Jvm.LawKit.callS X3 hx (y := (⟨"com/example/gate_to_gate/gatetogate/io/Field25519FromWordsPinLaw", "in", "(JI)Z"⟩ : MethodName)) hown (mvT hZ (hw _ (List.mem_of_getElem? (i := 9) rfl))) (mvT hZ (hw _ (List.mem_of_getElem? (i := 10) rfl))) (mvT hZ (hw _ (List.mem_of_getElem? (i := 11) rfl))) (mvT hZ (hw _ (List.mem_of_getElem? (i := 12) rfl))) (by decide) (backOf (W := 0) (rmI l Z a0 hw [] (own_l3 q0 q1 q2 q3) (25 : Int32)  h1 n0 (Z0)) hZ (hw _ (List.mem_of_getElem? (i := 12) rfl)) (hw _ (List.mem_of_getElem? (i := 11) rfl)) (by decide) (by decide)) (g := (mkF m 153 #[.val (.long q0), .second, .val (.long q1), .second, .val (.long q2), .second, .val (.long q3), .second, .val (.long qf), .second, .val (.int p5), .val (.int o5), .val (.ref w), .val (.ref b), .unset, .unset, .unset, .unset, .unset, .unset, .unset, .unset] [(.int (25 : Int32)), (.long (own_l3 q0 q1 q2 q3))])) rfl (by rw [hml]; rfl) (argsL := [(.long (own_l3 q0 q1 q2 q3)), (.int (25 : Int32))]) (rest := []) (lenOf pd__JI_Z rfl) rfl (by show 2 * 0 + _ ≤ _; exact Nat.le_of_eq rfl) (hb hby at_153) (fun _ _ => ⟨rfl, e3, (by decide : 2 + 0 ≤ _), (by decide : 17 + 0 ≤ _)⟩)
  dsimp only [Pt.U, Pt.locs, Pt.cells, Pt.slots] at X4 l4 y4 z4 st4 hQ4
  subst l4 y4 z4
  obtain ⟨hv4, N4q, e4⟩ := hQ4
  obtain rfl := hv4.trans (show _ = some (.int (1 : Int32)) from congrArg (fun z => some (Value.int z)) (own_in_l3 q0 q1 q2 q3))
  have N4 := Fr.app N3 N4q
  refine OG.of st4 ?_
  show OG _ _ _ _ _ _ _ (T4.setTop (mkF m 156 #[.val (.long q0), .second, .val (.long q1), .second, .val (.long q2), .second, .val (.long q3), .second, .val (.long qf), .second, .val (.int p5), .val (.int o5), .val (.ref w), .val (.ref b), .unset, .unset, .unset, .unset, .unset, .unset, .unset, .unset] [(.int (1 : Int32))]))
  refine OG.of (A := T4.setTop (mkF m 162 #[.val (.long q0), .second, .val (.long q1), .second, .val (.long q2), .second, .val (.long q3), .second, .val (.long qf), .second, .val (.int p5), .val (.int o5), .val (.ref w), .val (.ref b), .unset, .unset, .unset, .unset, .unset, .unset, .unset, .unset] [(.int (4 : Int32)), (.ref b)])) (fun oT oK => ?_) ?_
  · show Steps p.tables e below (T4.setTop (mkF m 156 #[.val (.long q0), .second, .val (.long q1), .second, .val (.long q2), .second, .val (.long q3), .second, .val (.long qf), .second, .val (.int p5), .val (.int o5), .val (.ref w), .val (.ref b), .unset, .unset, .unset, .unset, .unset, .unset, .unset, .unset] [(.int (1 : Int32))])) oT
    refine XS.ifNo X4.here hx rfl (hb hby at_156) rfl (XT.i0_eq_f (by decide)) ?_
    show Steps p.tables e below (T4.setTop (mkF m 159 #[.val (.long q0), .second, .val (.long q1), .second, .val (.long q2), .second, .val (.long q3), .second, .val (.long qf), .second, .val (.int p5), .val (.int o5), .val (.ref w), .val (.ref b), .unset, .unset, .unset, .unset, .unset, .unset, .unset, .unset] [])) _
    refine XS.aload X4.here hx rfl (hb hby at_159) rfl rfl  ?_
    show Steps p.tables e below (T4.setTop (mkF m 161 #[.val (.long q0), .second, .val (.long q1), .second, .val (.long q2), .second, .val (.long q3), .second, .val (.long qf), .second, .val (.int p5), .val (.int o5), .val (.ref w), .val (.ref b), .unset, .unset, .unset, .unset, .unset, .unset, .unset, .unset] [(.ref b)])) _
    refine XS.iconst X4.here hx rfl (hb hby at_161) ?_
    exact oK
  show OG _ _ _ _ _ _ _ (T4.setTop (mkF m 162 #[.val (.long q0), .second, .val (.long q1), .second, .val (.long q2), .second, .val (.long q3), .second, .val (.long qf), .second, .val (.int p5), .val (.int o5), .val (.ref w), .val (.ref b), .unset, .unset, .unset, .unset, .unset, .unset, .unset, .unset] [(.int (4 : Int32)), (.ref b)]))
  have cf6 := V0
  obtain ⟨clf6, Arf6, qf6, Sf6, Mf6, Hf6, Gf6⟩ := cf6
  refine OG.of (X4.laload hx (j := (4 : Int32)) (v := (.long (own_l4 q0 q1 q2 q3))) (by rw [e4]; exact Arf6.1) (State.isArrayOf_alike hZ.alike Arf6.2.1) Arf6.2.2 (inb_of Sf6 ⟨by decide, by decide⟩) (Hf6.at (inb_of Sf6 ⟨by decide, by decide⟩) rfl) (g := (mkF m 162 #[.val (.long q0), .second, .val (.long q1), .second, .val (.long q2), .second, .val (.long q3), .second, .val (.long qf), .second, .val (.int p5), .val (.int o5), .val (.ref w), .val (.ref b), .unset, .unset, .unset, .unset, .unset, .unset, .unset, .unset] [(.int (4 : Int32)), (.ref b)])) rfl rfl (hb hby at_162)) ?_
  show OG _ _ _ _ _ _ _ (T4.setTop (mkF m 163 #[.val (.long q0), .second, .val (.long q1), .second, .val (.long q2), .second, .val (.long q3), .second, .val (.long qf), .second, .val (.int p5), .val (.int o5), .val (.ref w), .val (.ref b), .unset, .unset, .unset, .unset, .unset, .unset, .unset, .unset] [(.long (own_l4 q0 q1 q2 q3))]))
  refine OG.of (A := T4.setTop (mkF m 165 #[.val (.long q0), .second, .val (.long q1), .second, .val (.long q2), .second, .val (.long q3), .second, .val (.long qf), .second, .val (.int p5), .val (.int o5), .val (.ref w), .val (.ref b), .unset, .unset, .unset, .unset, .unset, .unset, .unset, .unset] [(.int (26 : Int32)), (.long (own_l4 q0 q1 q2 q3))])) (fun oT oK => ?_) ?_
  · show Steps p.tables e below (T4.setTop (mkF m 163 #[.val (.long q0), .second, .val (.long q1), .second, .val (.long q2), .second, .val (.long q3), .second, .val (.long qf), .second, .val (.int p5), .val (.int o5), .val (.ref w), .val (.ref b), .unset, .unset, .unset, .unset, .unset, .unset, .unset, .unset] [(.long (own_l4 q0 q1 q2 q3))])) oT
    refine XS.bipush X4.here hx rfl (hb hby at_163) ?_
    exact oK
  show OG _ _ _ _ _ _ _ (T4.setTop (mkF m 165 #[.val (.long q0), .second, .val (.long q1), .second, .val (.long q2), .second, .val (.long q3), .second, .val (.long qf), .second, .val (.int p5), .val (.int o5), .val (.ref w), .val (.ref b), .unset, .unset, .unset, .unset, .unset, .unset, .unset, .unset] [(.int (26 : Int32)), (.long (own_l4 q0 q1 q2 q3))]))
  obtain ⟨_, _, ⟨T5, L5, k5, n5⟩, -, X5, ⟨Lc5, hQ5, l5, y5, z5⟩, st5⟩ := Jvm.LawKit.callS X4 hx (y := (⟨"com/example/gate_to_gate/gatetogate/io/Field25519FromWordsPinLaw", "in", "(JI)Z"⟩ : MethodName)) hown (mvT hZ (hw _ (List.mem_of_getElem? (i := 9) rfl))) (mvT hZ (hw _ (List.mem_of_getElem? (i := 10) rfl))) (mvT hZ (hw _ (List.mem_of_getElem? (i := 11) rfl))) (mvT hZ (hw _ (List.mem_of_getElem? (i := 12) rfl))) (by decide) (backOf (W := 0) (rmI l Z a0 hw [] (own_l4 q0 q1 q2 q3) (26 : Int32)  h1 n0 (Z0)) hZ (hw _ (List.mem_of_getElem? (i := 12) rfl)) (hw _ (List.mem_of_getElem? (i := 11) rfl)) (by decide) (by decide)) (g := (mkF m 165 #[.val (.long q0), .second, .val (.long q1), .second, .val (.long q2), .second, .val (.long q3), .second, .val (.long qf), .second, .val (.int p5), .val (.int o5), .val (.ref w), .val (.ref b), .unset, .unset, .unset, .unset, .unset, .unset, .unset, .unset] [(.int (26 : Int32)), (.long (own_l4 q0 q1 q2 q3))])) rfl (by rw [hml]; rfl) (argsL := [(.long (own_l4 q0 q1 q2 q3)), (.int (26 : Int32))]) (rest := []) (lenOf pd__JI_Z rfl) rfl (by show 2 * 0 + _ ≤ _; exact Nat.le_of_eq rfl) (hb hby at_165) (fun _ _ => ⟨rfl, e4, (by decide : 2 + 0 ≤ _), (by decide : 17 + 0 ≤ _)⟩)
  dsimp only [Pt.U, Pt.locs, Pt.cells, Pt.slots] at X5 l5 y5 z5 st5 hQ5
  subst l5 y5 z5
  obtain ⟨hv5, N5q, e5⟩ := hQ5
  obtain rfl := hv5.trans (show _ = some (.int (1 : Int32)) from congrArg (fun z => some (Value.int z)) (own_in_l4 q0 q1 q2 q3))
  have N5 := Fr.app N4 N5q
  refine OG.of st5 ?_
  show OG _ _ _ _ _ _ _ (T5.setTop (mkF m 168 #[.val (.long q0), .second, .val (.long q1), .second, .val (.long q2), .second, .val (.long q3), .second, .val (.long qf), .second, .val (.int p5), .val (.int o5), .val (.ref w), .val (.ref b), .unset, .unset, .unset, .unset, .unset, .unset, .unset, .unset] [(.int (1 : Int32))]))
  refine OG.of (A := T5.setTop (mkF m 174 #[.val (.long q0), .second, .val (.long q1), .second, .val (.long q2), .second, .val (.long q3), .second, .val (.long qf), .second, .val (.int p5), .val (.int o5), .val (.ref w), .val (.ref b), .unset, .unset, .unset, .unset, .unset, .unset, .unset, .unset] [(.int (5 : Int32)), (.ref b)])) (fun oT oK => ?_) ?_
  · show Steps p.tables e below (T5.setTop (mkF m 168 #[.val (.long q0), .second, .val (.long q1), .second, .val (.long q2), .second, .val (.long q3), .second, .val (.long qf), .second, .val (.int p5), .val (.int o5), .val (.ref w), .val (.ref b), .unset, .unset, .unset, .unset, .unset, .unset, .unset, .unset] [(.int (1 : Int32))])) oT
    refine XS.ifNo X5.here hx rfl (hb hby at_168) rfl (XT.i0_eq_f (by decide)) ?_
    show Steps p.tables e below (T5.setTop (mkF m 171 #[.val (.long q0), .second, .val (.long q1), .second, .val (.long q2), .second, .val (.long q3), .second, .val (.long qf), .second, .val (.int p5), .val (.int o5), .val (.ref w), .val (.ref b), .unset, .unset, .unset, .unset, .unset, .unset, .unset, .unset] [])) _
    refine XS.aload X5.here hx rfl (hb hby at_171) rfl rfl  ?_
    show Steps p.tables e below (T5.setTop (mkF m 173 #[.val (.long q0), .second, .val (.long q1), .second, .val (.long q2), .second, .val (.long q3), .second, .val (.long qf), .second, .val (.int p5), .val (.int o5), .val (.ref w), .val (.ref b), .unset, .unset, .unset, .unset, .unset, .unset, .unset, .unset] [(.ref b)])) _
    refine XS.iconst X5.here hx rfl (hb hby at_173) ?_
    exact oK
  show OG _ _ _ _ _ _ _ (T5.setTop (mkF m 174 #[.val (.long q0), .second, .val (.long q1), .second, .val (.long q2), .second, .val (.long q3), .second, .val (.long qf), .second, .val (.int p5), .val (.int o5), .val (.ref w), .val (.ref b), .unset, .unset, .unset, .unset, .unset, .unset, .unset, .unset] [(.int (5 : Int32)), (.ref b)]))
  have cf7 := V0
  obtain ⟨clf7, Arf7, qf7, Sf7, Mf7, Hf7, Gf7⟩ := cf7
  refine OG.of (X5.laload hx (j := (5 : Int32)) (v := (.long (own_l5 q0 q1 q2 q3))) (by rw [e5]; exact Arf7.1) (State.isArrayOf_alike hZ.alike Arf7.2.1) Arf7.2.2 (inb_of Sf7 ⟨by decide, by decide⟩) (Hf7.at (inb_of Sf7 ⟨by decide, by decide⟩) rfl) (g := (mkF m 174 #[.val (.long q0), .second, .val (.long q1), .second, .val (.long q2), .second, .val (.long q3), .second, .val (.long qf), .second, .val (.int p5), .val (.int o5), .val (.ref w), .val (.ref b), .unset, .unset, .unset, .unset, .unset, .unset, .unset, .unset] [(.int (5 : Int32)), (.ref b)])) rfl rfl (hb hby at_174)) ?_
  show OG _ _ _ _ _ _ _ (T5.setTop (mkF m 175 #[.val (.long q0), .second, .val (.long q1), .second, .val (.long q2), .second, .val (.long q3), .second, .val (.long qf), .second, .val (.int p5), .val (.int o5), .val (.ref w), .val (.ref b), .unset, .unset, .unset, .unset, .unset, .unset, .unset, .unset] [(.long (own_l5 q0 q1 q2 q3))]))
  refine OG.of (A := T5.setTop (mkF m 177 #[.val (.long q0), .second, .val (.long q1), .second, .val (.long q2), .second, .val (.long q3), .second, .val (.long qf), .second, .val (.int p5), .val (.int o5), .val (.ref w), .val (.ref b), .unset, .unset, .unset, .unset, .unset, .unset, .unset, .unset] [(.int (25 : Int32)), (.long (own_l5 q0 q1 q2 q3))])) (fun oT oK => ?_) ?_
  · show Steps p.tables e below (T5.setTop (mkF m 175 #[.val (.long q0), .second, .val (.long q1), .second, .val (.long q2), .second, .val (.long q3), .second, .val (.long qf), .second, .val (.int p5), .val (.int o5), .val (.ref w), .val (.ref b), .unset, .unset, .unset, .unset, .unset, .unset, .unset, .unset] [(.long (own_l5 q0 q1 q2 q3))])) oT
    refine XS.bipush X5.here hx rfl (hb hby at_175) ?_
    exact oK
  show OG _ _ _ _ _ _ _ (T5.setTop (mkF m 177 #[.val (.long q0), .second, .val (.long q1), .second, .val (.long q2), .second, .val (.long q3), .second, .val (.long qf), .second, .val (.int p5), .val (.int o5), .val (.ref w), .val (.ref b), .unset, .unset, .unset, .unset, .unset, .unset, .unset, .unset] [(.int (25 : Int32)), (.long (own_l5 q0 q1 q2 q3))]))
  obtain ⟨_, _, ⟨T6, L6, k6, n6⟩, -, X6, ⟨Lc6, hQ6, l6, y6, z6⟩, st6⟩ := Jvm.LawKit.callS X5 hx (y := (⟨"com/example/gate_to_gate/gatetogate/io/Field25519FromWordsPinLaw", "in", "(JI)Z"⟩ : MethodName)) hown (mvT hZ (hw _ (List.mem_of_getElem? (i := 9) rfl))) (mvT hZ (hw _ (List.mem_of_getElem? (i := 10) rfl))) (mvT hZ (hw _ (List.mem_of_getElem? (i := 11) rfl))) (mvT hZ (hw _ (List.mem_of_getElem? (i := 12) rfl))) (by decide) (backOf (W := 0) (rmI l Z a0 hw [] (own_l5 q0 q1 q2 q3) (25 : Int32)  h1 n0 (Z0)) hZ (hw _ (List.mem_of_getElem? (i := 12) rfl)) (hw _ (List.mem_of_getElem? (i := 11) rfl)) (by decide) (by decide)) (g := (mkF m 177 #[.val (.long q0), .second, .val (.long q1), .second, .val (.long q2), .second, .val (.long q3), .second, .val (.long qf), .second, .val (.int p5), .val (.int o5), .val (.ref w), .val (.ref b), .unset, .unset, .unset, .unset, .unset, .unset, .unset, .unset] [(.int (25 : Int32)), (.long (own_l5 q0 q1 q2 q3))])) rfl (by rw [hml]; rfl) (argsL := [(.long (own_l5 q0 q1 q2 q3)), (.int (25 : Int32))]) (rest := []) (lenOf pd__JI_Z rfl) rfl (by show 2 * 0 + _ ≤ _; exact Nat.le_of_eq rfl) (hb hby at_177) (fun _ _ => ⟨rfl, e5, (by decide : 2 + 0 ≤ _), (by decide : 17 + 0 ≤ _)⟩)
  dsimp only [Pt.U, Pt.locs, Pt.cells, Pt.slots] at X6 l6 y6 z6 st6 hQ6
  subst l6 y6 z6
  obtain ⟨hv6, N6q, e6⟩ := hQ6
  obtain rfl := hv6.trans (show _ = some (.int (1 : Int32)) from congrArg (fun z => some (Value.int z)) (own_in_l5 q0 q1 q2 q3))
  have N6 := Fr.app N5 N6q
  refine OG.of st6 ?_
  show OG _ _ _ _ _ _ _ (T6.setTop (mkF m 180 #[.val (.long q0), .second, .val (.long q1), .second, .val (.long q2), .second, .val (.long q3), .second, .val (.long qf), .second, .val (.int p5), .val (.int o5), .val (.ref w), .val (.ref b), .unset, .unset, .unset, .unset, .unset, .unset, .unset, .unset] [(.int (1 : Int32))]))
  refine OG.of (A := T6.setTop (mkF m 187 #[.val (.long q0), .second, .val (.long q1), .second, .val (.long q2), .second, .val (.long q3), .second, .val (.long qf), .second, .val (.int p5), .val (.int o5), .val (.ref w), .val (.ref b), .unset, .unset, .unset, .unset, .unset, .unset, .unset, .unset] [(.int (6 : Int32)), (.ref b)])) (fun oT oK => ?_) ?_
  · show Steps p.tables e below (T6.setTop (mkF m 180 #[.val (.long q0), .second, .val (.long q1), .second, .val (.long q2), .second, .val (.long q3), .second, .val (.long qf), .second, .val (.int p5), .val (.int o5), .val (.ref w), .val (.ref b), .unset, .unset, .unset, .unset, .unset, .unset, .unset, .unset] [(.int (1 : Int32))])) oT
    refine XS.ifNo X6.here hx rfl (hb hby at_180) rfl (XT.i0_eq_f (by decide)) ?_
    show Steps p.tables e below (T6.setTop (mkF m 183 #[.val (.long q0), .second, .val (.long q1), .second, .val (.long q2), .second, .val (.long q3), .second, .val (.long qf), .second, .val (.int p5), .val (.int o5), .val (.ref w), .val (.ref b), .unset, .unset, .unset, .unset, .unset, .unset, .unset, .unset] [])) _
    refine XS.aload X6.here hx rfl (hb hby at_183) rfl rfl  ?_
    show Steps p.tables e below (T6.setTop (mkF m 185 #[.val (.long q0), .second, .val (.long q1), .second, .val (.long q2), .second, .val (.long q3), .second, .val (.long qf), .second, .val (.int p5), .val (.int o5), .val (.ref w), .val (.ref b), .unset, .unset, .unset, .unset, .unset, .unset, .unset, .unset] [(.ref b)])) _
    refine XS.bipush X6.here hx rfl (hb hby at_185) ?_
    exact oK
  show OG _ _ _ _ _ _ _ (T6.setTop (mkF m 187 #[.val (.long q0), .second, .val (.long q1), .second, .val (.long q2), .second, .val (.long q3), .second, .val (.long qf), .second, .val (.int p5), .val (.int o5), .val (.ref w), .val (.ref b), .unset, .unset, .unset, .unset, .unset, .unset, .unset, .unset] [(.int (6 : Int32)), (.ref b)]))
  have cf8 := V0
  obtain ⟨clf8, Arf8, qf8, Sf8, Mf8, Hf8, Gf8⟩ := cf8
  refine OG.of (X6.laload hx (j := (6 : Int32)) (v := (.long (own_l6 q0 q1 q2 q3))) (by rw [e6]; exact Arf8.1) (State.isArrayOf_alike hZ.alike Arf8.2.1) Arf8.2.2 (inb_of Sf8 ⟨by decide, by decide⟩) (Hf8.at (inb_of Sf8 ⟨by decide, by decide⟩) rfl) (g := (mkF m 187 #[.val (.long q0), .second, .val (.long q1), .second, .val (.long q2), .second, .val (.long q3), .second, .val (.long qf), .second, .val (.int p5), .val (.int o5), .val (.ref w), .val (.ref b), .unset, .unset, .unset, .unset, .unset, .unset, .unset, .unset] [(.int (6 : Int32)), (.ref b)])) rfl rfl (hb hby at_187)) ?_
  show OG _ _ _ _ _ _ _ (T6.setTop (mkF m 188 #[.val (.long q0), .second, .val (.long q1), .second, .val (.long q2), .second, .val (.long q3), .second, .val (.long qf), .second, .val (.int p5), .val (.int o5), .val (.ref w), .val (.ref b), .unset, .unset, .unset, .unset, .unset, .unset, .unset, .unset] [(.long (own_l6 q0 q1 q2 q3))]))
  refine OG.of (A := T6.setTop (mkF m 190 #[.val (.long q0), .second, .val (.long q1), .second, .val (.long q2), .second, .val (.long q3), .second, .val (.long qf), .second, .val (.int p5), .val (.int o5), .val (.ref w), .val (.ref b), .unset, .unset, .unset, .unset, .unset, .unset, .unset, .unset] [(.int (26 : Int32)), (.long (own_l6 q0 q1 q2 q3))])) (fun oT oK => ?_) ?_
  · show Steps p.tables e below (T6.setTop (mkF m 188 #[.val (.long q0), .second, .val (.long q1), .second, .val (.long q2), .second, .val (.long q3), .second, .val (.long qf), .second, .val (.int p5), .val (.int o5), .val (.ref w), .val (.ref b), .unset, .unset, .unset, .unset, .unset, .unset, .unset, .unset] [(.long (own_l6 q0 q1 q2 q3))])) oT
    refine XS.bipush X6.here hx rfl (hb hby at_188) ?_
    exact oK
  show OG _ _ _ _ _ _ _ (T6.setTop (mkF m 190 #[.val (.long q0), .second, .val (.long q1), .second, .val (.long q2), .second, .val (.long q3), .second, .val (.long qf), .second, .val (.int p5), .val (.int o5), .val (.ref w), .val (.ref b), .unset, .unset, .unset, .unset, .unset, .unset, .unset, .unset] [(.int (26 : Int32)), (.long (own_l6 q0 q1 q2 q3))]))
  obtain ⟨_, _, ⟨T7, L7, k7, n7⟩, -, X7, ⟨Lc7, hQ7, l7, y7, z7⟩, st7⟩ := Jvm.LawKit.callS X6 hx (y := (⟨"com/example/gate_to_gate/gatetogate/io/Field25519FromWordsPinLaw", "in", "(JI)Z"⟩ : MethodName)) hown (mvT hZ (hw _ (List.mem_of_getElem? (i := 9) rfl))) (mvT hZ (hw _ (List.mem_of_getElem? (i := 10) rfl))) (mvT hZ (hw _ (List.mem_of_getElem? (i := 11) rfl))) (mvT hZ (hw _ (List.mem_of_getElem? (i := 12) rfl))) (by decide) (backOf (W := 0) (rmI l Z a0 hw [] (own_l6 q0 q1 q2 q3) (26 : Int32)  h1 n0 (Z0)) hZ (hw _ (List.mem_of_getElem? (i := 12) rfl)) (hw _ (List.mem_of_getElem? (i := 11) rfl)) (by decide) (by decide)) (g := (mkF m 190 #[.val (.long q0), .second, .val (.long q1), .second, .val (.long q2), .second, .val (.long q3), .second, .val (.long qf), .second, .val (.int p5), .val (.int o5), .val (.ref w), .val (.ref b), .unset, .unset, .unset, .unset, .unset, .unset, .unset, .unset] [(.int (26 : Int32)), (.long (own_l6 q0 q1 q2 q3))])) rfl (by rw [hml]; rfl) (argsL := [(.long (own_l6 q0 q1 q2 q3)), (.int (26 : Int32))]) (rest := []) (lenOf pd__JI_Z rfl) rfl (by show 2 * 0 + _ ≤ _; exact Nat.le_of_eq rfl) (hb hby at_190) (fun _ _ => ⟨rfl, e6, (by decide : 2 + 0 ≤ _), (by decide : 17 + 0 ≤ _)⟩)
  dsimp only [Pt.U, Pt.locs, Pt.cells, Pt.slots] at X7 l7 y7 z7 st7 hQ7
  subst l7 y7 z7
  obtain ⟨hv7, N7q, e7⟩ := hQ7
  obtain rfl := hv7.trans (show _ = some (.int (1 : Int32)) from congrArg (fun z => some (Value.int z)) (own_in_l6 q0 q1 q2 q3))
  have N7 := Fr.app N6 N7q
  refine OG.of st7 ?_
  show OG _ _ _ _ _ _ _ (T7.setTop (mkF m 193 #[.val (.long q0), .second, .val (.long q1), .second, .val (.long q2), .second, .val (.long q3), .second, .val (.long qf), .second, .val (.int p5), .val (.int o5), .val (.ref w), .val (.ref b), .unset, .unset, .unset, .unset, .unset, .unset, .unset, .unset] [(.int (1 : Int32))]))
  refine OG.of (A := T7.setTop (mkF m 200 #[.val (.long q0), .second, .val (.long q1), .second, .val (.long q2), .second, .val (.long q3), .second, .val (.long qf), .second, .val (.int p5), .val (.int o5), .val (.ref w), .val (.ref b), .unset, .unset, .unset, .unset, .unset, .unset, .unset, .unset] [(.int (7 : Int32)), (.ref b)])) (fun oT oK => ?_) ?_
  · show Steps p.tables e below (T7.setTop (mkF m 193 #[.val (.long q0), .second, .val (.long q1), .second, .val (.long q2), .second, .val (.long q3), .second, .val (.long qf), .second, .val (.int p5), .val (.int o5), .val (.ref w), .val (.ref b), .unset, .unset, .unset, .unset, .unset, .unset, .unset, .unset] [(.int (1 : Int32))])) oT
    refine XS.ifNo X7.here hx rfl (hb hby at_193) rfl (XT.i0_eq_f (by decide)) ?_
    show Steps p.tables e below (T7.setTop (mkF m 196 #[.val (.long q0), .second, .val (.long q1), .second, .val (.long q2), .second, .val (.long q3), .second, .val (.long qf), .second, .val (.int p5), .val (.int o5), .val (.ref w), .val (.ref b), .unset, .unset, .unset, .unset, .unset, .unset, .unset, .unset] [])) _
    refine XS.aload X7.here hx rfl (hb hby at_196) rfl rfl  ?_
    show Steps p.tables e below (T7.setTop (mkF m 198 #[.val (.long q0), .second, .val (.long q1), .second, .val (.long q2), .second, .val (.long q3), .second, .val (.long qf), .second, .val (.int p5), .val (.int o5), .val (.ref w), .val (.ref b), .unset, .unset, .unset, .unset, .unset, .unset, .unset, .unset] [(.ref b)])) _
    refine XS.bipush X7.here hx rfl (hb hby at_198) ?_
    exact oK
  show OG _ _ _ _ _ _ _ (T7.setTop (mkF m 200 #[.val (.long q0), .second, .val (.long q1), .second, .val (.long q2), .second, .val (.long q3), .second, .val (.long qf), .second, .val (.int p5), .val (.int o5), .val (.ref w), .val (.ref b), .unset, .unset, .unset, .unset, .unset, .unset, .unset, .unset] [(.int (7 : Int32)), (.ref b)]))
  have cf9 := V0
  obtain ⟨clf9, Arf9, qf9, Sf9, Mf9, Hf9, Gf9⟩ := cf9
  refine OG.of (X7.laload hx (j := (7 : Int32)) (v := (.long (own_l7 q0 q1 q2 q3))) (by rw [e7]; exact Arf9.1) (State.isArrayOf_alike hZ.alike Arf9.2.1) Arf9.2.2 (inb_of Sf9 ⟨by decide, by decide⟩) (Hf9.at (inb_of Sf9 ⟨by decide, by decide⟩) rfl) (g := (mkF m 200 #[.val (.long q0), .second, .val (.long q1), .second, .val (.long q2), .second, .val (.long q3), .second, .val (.long qf), .second, .val (.int p5), .val (.int o5), .val (.ref w), .val (.ref b), .unset, .unset, .unset, .unset, .unset, .unset, .unset, .unset] [(.int (7 : Int32)), (.ref b)])) rfl rfl (hb hby at_200)) ?_
  show OG _ _ _ _ _ _ _ (T7.setTop (mkF m 201 #[.val (.long q0), .second, .val (.long q1), .second, .val (.long q2), .second, .val (.long q3), .second, .val (.long qf), .second, .val (.int p5), .val (.int o5), .val (.ref w), .val (.ref b), .unset, .unset, .unset, .unset, .unset, .unset, .unset, .unset] [(.long (own_l7 q0 q1 q2 q3))]))
  refine OG.of (A := T7.setTop (mkF m 203 #[.val (.long q0), .second, .val (.long q1), .second, .val (.long q2), .second, .val (.long q3), .second, .val (.long qf), .second, .val (.int p5), .val (.int o5), .val (.ref w), .val (.ref b), .unset, .unset, .unset, .unset, .unset, .unset, .unset, .unset] [(.int (25 : Int32)), (.long (own_l7 q0 q1 q2 q3))])) (fun oT oK => ?_) ?_
  · show Steps p.tables e below (T7.setTop (mkF m 201 #[.val (.long q0), .second, .val (.long q1), .second, .val (.long q2), .second, .val (.long q3), .second, .val (.long qf), .second, .val (.int p5), .val (.int o5), .val (.ref w), .val (.ref b), .unset, .unset, .unset, .unset, .unset, .unset, .unset, .unset] [(.long (own_l7 q0 q1 q2 q3))])) oT
    refine XS.bipush X7.here hx rfl (hb hby at_201) ?_
    exact oK
  show OG _ _ _ _ _ _ _ (T7.setTop (mkF m 203 #[.val (.long q0), .second, .val (.long q1), .second, .val (.long q2), .second, .val (.long q3), .second, .val (.long qf), .second, .val (.int p5), .val (.int o5), .val (.ref w), .val (.ref b), .unset, .unset, .unset, .unset, .unset, .unset, .unset, .unset] [(.int (25 : Int32)), (.long (own_l7 q0 q1 q2 q3))]))
  obtain ⟨_, _, ⟨T8, L8, k8, n8⟩, -, X8, ⟨Lc8, hQ8, l8, y8, z8⟩, st8⟩ := Jvm.LawKit.callS X7 hx (y := (⟨"com/example/gate_to_gate/gatetogate/io/Field25519FromWordsPinLaw", "in", "(JI)Z"⟩ : MethodName)) hown (mvT hZ (hw _ (List.mem_of_getElem? (i := 9) rfl))) (mvT hZ (hw _ (List.mem_of_getElem? (i := 10) rfl))) (mvT hZ (hw _ (List.mem_of_getElem? (i := 11) rfl))) (mvT hZ (hw _ (List.mem_of_getElem? (i := 12) rfl))) (by decide) (backOf (W := 0) (rmI l Z a0 hw [] (own_l7 q0 q1 q2 q3) (25 : Int32)  h1 n0 (Z0)) hZ (hw _ (List.mem_of_getElem? (i := 12) rfl)) (hw _ (List.mem_of_getElem? (i := 11) rfl)) (by decide) (by decide)) (g := (mkF m 203 #[.val (.long q0), .second, .val (.long q1), .second, .val (.long q2), .second, .val (.long q3), .second, .val (.long qf), .second, .val (.int p5), .val (.int o5), .val (.ref w), .val (.ref b), .unset, .unset, .unset, .unset, .unset, .unset, .unset, .unset] [(.int (25 : Int32)), (.long (own_l7 q0 q1 q2 q3))])) rfl (by rw [hml]; rfl) (argsL := [(.long (own_l7 q0 q1 q2 q3)), (.int (25 : Int32))]) (rest := []) (lenOf pd__JI_Z rfl) rfl (by show 2 * 0 + _ ≤ _; exact Nat.le_of_eq rfl) (hb hby at_203) (fun _ _ => ⟨rfl, e7, (by decide : 2 + 0 ≤ _), (by decide : 17 + 0 ≤ _)⟩)
  dsimp only [Pt.U, Pt.locs, Pt.cells, Pt.slots] at X8 l8 y8 z8 st8 hQ8
  subst l8 y8 z8
  obtain ⟨hv8, N8q, e8⟩ := hQ8
  obtain rfl := hv8.trans (show _ = some (.int (1 : Int32)) from congrArg (fun z => some (Value.int z)) (own_in_l7 q0 q1 q2 q3))
  have N8 := Fr.app N7 N8q
  refine OG.of st8 ?_
  show OG _ _ _ _ _ _ _ (T8.setTop (mkF m 206 #[.val (.long q0), .second, .val (.long q1), .second, .val (.long q2), .second, .val (.long q3), .second, .val (.long qf), .second, .val (.int p5), .val (.int o5), .val (.ref w), .val (.ref b), .unset, .unset, .unset, .unset, .unset, .unset, .unset, .unset] [(.int (1 : Int32))]))
  refine OG.of (A := T8.setTop (mkF m 213 #[.val (.long q0), .second, .val (.long q1), .second, .val (.long q2), .second, .val (.long q3), .second, .val (.long qf), .second, .val (.int p5), .val (.int o5), .val (.ref w), .val (.ref b), .unset, .unset, .unset, .unset, .unset, .unset, .unset, .unset] [(.int (8 : Int32)), (.ref b)])) (fun oT oK => ?_) ?_
  · show Steps p.tables e below (T8.setTop (mkF m 206 #[.val (.long q0), .second, .val (.long q1), .second, .val (.long q2), .second, .val (.long q3), .second, .val (.long qf), .second, .val (.int p5), .val (.int o5), .val (.ref w), .val (.ref b), .unset, .unset, .unset, .unset, .unset, .unset, .unset, .unset] [(.int (1 : Int32))])) oT
    refine XS.ifNo X8.here hx rfl (hb hby at_206) rfl (XT.i0_eq_f (by decide)) ?_
    show Steps p.tables e below (T8.setTop (mkF m 209 #[.val (.long q0), .second, .val (.long q1), .second, .val (.long q2), .second, .val (.long q3), .second, .val (.long qf), .second, .val (.int p5), .val (.int o5), .val (.ref w), .val (.ref b), .unset, .unset, .unset, .unset, .unset, .unset, .unset, .unset] [])) _
    refine XS.aload X8.here hx rfl (hb hby at_209) rfl rfl  ?_
    show Steps p.tables e below (T8.setTop (mkF m 211 #[.val (.long q0), .second, .val (.long q1), .second, .val (.long q2), .second, .val (.long q3), .second, .val (.long qf), .second, .val (.int p5), .val (.int o5), .val (.ref w), .val (.ref b), .unset, .unset, .unset, .unset, .unset, .unset, .unset, .unset] [(.ref b)])) _
    refine XS.bipush X8.here hx rfl (hb hby at_211) ?_
    exact oK
  show OG _ _ _ _ _ _ _ (T8.setTop (mkF m 213 #[.val (.long q0), .second, .val (.long q1), .second, .val (.long q2), .second, .val (.long q3), .second, .val (.long qf), .second, .val (.int p5), .val (.int o5), .val (.ref w), .val (.ref b), .unset, .unset, .unset, .unset, .unset, .unset, .unset, .unset] [(.int (8 : Int32)), (.ref b)]))
  have cf10 := V0
  obtain ⟨clf10, Arf10, qf10, Sf10, Mf10, Hf10, Gf10⟩ := cf10
  refine OG.of (X8.laload hx (j := (8 : Int32)) (v := (.long (own_l8 q0 q1 q2 q3))) (by rw [e8]; exact Arf10.1) (State.isArrayOf_alike hZ.alike Arf10.2.1) Arf10.2.2 (inb_of Sf10 ⟨by decide, by decide⟩) (Hf10.at (inb_of Sf10 ⟨by decide, by decide⟩) rfl) (g := (mkF m 213 #[.val (.long q0), .second, .val (.long q1), .second, .val (.long q2), .second, .val (.long q3), .second, .val (.long qf), .second, .val (.int p5), .val (.int o5), .val (.ref w), .val (.ref b), .unset, .unset, .unset, .unset, .unset, .unset, .unset, .unset] [(.int (8 : Int32)), (.ref b)])) rfl rfl (hb hby at_213)) ?_
  show OG _ _ _ _ _ _ _ (T8.setTop (mkF m 214 #[.val (.long q0), .second, .val (.long q1), .second, .val (.long q2), .second, .val (.long q3), .second, .val (.long qf), .second, .val (.int p5), .val (.int o5), .val (.ref w), .val (.ref b), .unset, .unset, .unset, .unset, .unset, .unset, .unset, .unset] [(.long (own_l8 q0 q1 q2 q3))]))
  refine OG.of (A := T8.setTop (mkF m 216 #[.val (.long q0), .second, .val (.long q1), .second, .val (.long q2), .second, .val (.long q3), .second, .val (.long qf), .second, .val (.int p5), .val (.int o5), .val (.ref w), .val (.ref b), .unset, .unset, .unset, .unset, .unset, .unset, .unset, .unset] [(.int (26 : Int32)), (.long (own_l8 q0 q1 q2 q3))])) (fun oT oK => ?_) ?_
  · show Steps p.tables e below (T8.setTop (mkF m 214 #[.val (.long q0), .second, .val (.long q1), .second, .val (.long q2), .second, .val (.long q3), .second, .val (.long qf), .second, .val (.int p5), .val (.int o5), .val (.ref w), .val (.ref b), .unset, .unset, .unset, .unset, .unset, .unset, .unset, .unset] [(.long (own_l8 q0 q1 q2 q3))])) oT
    refine XS.bipush X8.here hx rfl (hb hby at_214) ?_
    exact oK
  show OG _ _ _ _ _ _ _ (T8.setTop (mkF m 216 #[.val (.long q0), .second, .val (.long q1), .second, .val (.long q2), .second, .val (.long q3), .second, .val (.long qf), .second, .val (.int p5), .val (.int o5), .val (.ref w), .val (.ref b), .unset, .unset, .unset, .unset, .unset, .unset, .unset, .unset] [(.int (26 : Int32)), (.long (own_l8 q0 q1 q2 q3))]))
  obtain ⟨_, _, ⟨T9, L9, k9, n9⟩, -, X9, ⟨Lc9, hQ9, l9, y9, z9⟩, st9⟩ := Jvm.LawKit.callS X8 hx (y := (⟨"com/example/gate_to_gate/gatetogate/io/Field25519FromWordsPinLaw", "in", "(JI)Z"⟩ : MethodName)) hown (mvT hZ (hw _ (List.mem_of_getElem? (i := 9) rfl))) (mvT hZ (hw _ (List.mem_of_getElem? (i := 10) rfl))) (mvT hZ (hw _ (List.mem_of_getElem? (i := 11) rfl))) (mvT hZ (hw _ (List.mem_of_getElem? (i := 12) rfl))) (by decide) (backOf (W := 0) (rmI l Z a0 hw [] (own_l8 q0 q1 q2 q3) (26 : Int32)  h1 n0 (Z0)) hZ (hw _ (List.mem_of_getElem? (i := 12) rfl)) (hw _ (List.mem_of_getElem? (i := 11) rfl)) (by decide) (by decide)) (g := (mkF m 216 #[.val (.long q0), .second, .val (.long q1), .second, .val (.long q2), .second, .val (.long q3), .second, .val (.long qf), .second, .val (.int p5), .val (.int o5), .val (.ref w), .val (.ref b), .unset, .unset, .unset, .unset, .unset, .unset, .unset, .unset] [(.int (26 : Int32)), (.long (own_l8 q0 q1 q2 q3))])) rfl (by rw [hml]; rfl) (argsL := [(.long (own_l8 q0 q1 q2 q3)), (.int (26 : Int32))]) (rest := []) (lenOf pd__JI_Z rfl) rfl (by show 2 * 0 + _ ≤ _; exact Nat.le_of_eq rfl) (hb hby at_216) (fun _ _ => ⟨rfl, e8, (by decide : 2 + 0 ≤ _), (by decide : 17 + 0 ≤ _)⟩)
  dsimp only [Pt.U, Pt.locs, Pt.cells, Pt.slots] at X9 l9 y9 z9 st9 hQ9
  subst l9 y9 z9
  obtain ⟨hv9, N9q, e9⟩ := hQ9
  obtain rfl := hv9.trans (show _ = some (.int (1 : Int32)) from congrArg (fun z => some (Value.int z)) (own_in_l8 q0 q1 q2 q3))
  have N9 := Fr.app N8 N9q
  refine OG.of st9 ?_
  show OG _ _ _ _ _ _ _ (T9.setTop (mkF m 219 #[.val (.long q0), .second, .val (.long q1), .second, .val (.long q2), .second, .val (.long q3), .second, .val (.long qf), .second, .val (.int p5), .val (.int o5), .val (.ref w), .val (.ref b), .unset, .unset, .unset, .unset, .unset, .unset, .unset, .unset] [(.int (1 : Int32))]))
  refine OG.of (A := T9.setTop (mkF m 226 #[.val (.long q0), .second, .val (.long q1), .second, .val (.long q2), .second, .val (.long q3), .second, .val (.long qf), .second, .val (.int p5), .val (.int o5), .val (.ref w), .val (.ref b), .unset, .unset, .unset, .unset, .unset, .unset, .unset, .unset] [(.int (9 : Int32)), (.ref b)])) (fun oT oK => ?_) ?_
  · show Steps p.tables e below (T9.setTop (mkF m 219 #[.val (.long q0), .second, .val (.long q1), .second, .val (.long q2), .second, .val (.long q3), .second, .val (.long qf), .second, .val (.int p5), .val (.int o5), .val (.ref w), .val (.ref b), .unset, .unset, .unset, .unset, .unset, .unset, .unset, .unset] [(.int (1 : Int32))])) oT
    refine XS.ifNo X9.here hx rfl (hb hby at_219) rfl (XT.i0_eq_f (by decide)) ?_
    show Steps p.tables e below (T9.setTop (mkF m 222 #[.val (.long q0), .second, .val (.long q1), .second, .val (.long q2), .second, .val (.long q3), .second, .val (.long qf), .second, .val (.int p5), .val (.int o5), .val (.ref w), .val (.ref b), .unset, .unset, .unset, .unset, .unset, .unset, .unset, .unset] [])) _
    refine XS.aload X9.here hx rfl (hb hby at_222) rfl rfl  ?_
    show Steps p.tables e below (T9.setTop (mkF m 224 #[.val (.long q0), .second, .val (.long q1), .second, .val (.long q2), .second, .val (.long q3), .second, .val (.long qf), .second, .val (.int p5), .val (.int o5), .val (.ref w), .val (.ref b), .unset, .unset, .unset, .unset, .unset, .unset, .unset, .unset] [(.ref b)])) _
    refine XS.bipush X9.here hx rfl (hb hby at_224) ?_
    exact oK
  show OG _ _ _ _ _ _ _ (T9.setTop (mkF m 226 #[.val (.long q0), .second, .val (.long q1), .second, .val (.long q2), .second, .val (.long q3), .second, .val (.long qf), .second, .val (.int p5), .val (.int o5), .val (.ref w), .val (.ref b), .unset, .unset, .unset, .unset, .unset, .unset, .unset, .unset] [(.int (9 : Int32)), (.ref b)]))
  have cf11 := V0
  obtain ⟨clf11, Arf11, qf11, Sf11, Mf11, Hf11, Gf11⟩ := cf11
  refine OG.of (X9.laload hx (j := (9 : Int32)) (v := (.long (own_l9 q0 q1 q2 q3))) (by rw [e9]; exact Arf11.1) (State.isArrayOf_alike hZ.alike Arf11.2.1) Arf11.2.2 (inb_of Sf11 ⟨by decide, by decide⟩) (Hf11.at (inb_of Sf11 ⟨by decide, by decide⟩) rfl) (g := (mkF m 226 #[.val (.long q0), .second, .val (.long q1), .second, .val (.long q2), .second, .val (.long q3), .second, .val (.long qf), .second, .val (.int p5), .val (.int o5), .val (.ref w), .val (.ref b), .unset, .unset, .unset, .unset, .unset, .unset, .unset, .unset] [(.int (9 : Int32)), (.ref b)])) rfl rfl (hb hby at_226)) ?_
  show OG _ _ _ _ _ _ _ (T9.setTop (mkF m 227 #[.val (.long q0), .second, .val (.long q1), .second, .val (.long q2), .second, .val (.long q3), .second, .val (.long qf), .second, .val (.int p5), .val (.int o5), .val (.ref w), .val (.ref b), .unset, .unset, .unset, .unset, .unset, .unset, .unset, .unset] [(.long (own_l9 q0 q1 q2 q3))]))
  refine OG.of (A := T9.setTop (mkF m 229 #[.val (.long q0), .second, .val (.long q1), .second, .val (.long q2), .second, .val (.long q3), .second, .val (.long qf), .second, .val (.int p5), .val (.int o5), .val (.ref w), .val (.ref b), .unset, .unset, .unset, .unset, .unset, .unset, .unset, .unset] [(.int (25 : Int32)), (.long (own_l9 q0 q1 q2 q3))])) (fun oT oK => ?_) ?_
  · show Steps p.tables e below (T9.setTop (mkF m 227 #[.val (.long q0), .second, .val (.long q1), .second, .val (.long q2), .second, .val (.long q3), .second, .val (.long qf), .second, .val (.int p5), .val (.int o5), .val (.ref w), .val (.ref b), .unset, .unset, .unset, .unset, .unset, .unset, .unset, .unset] [(.long (own_l9 q0 q1 q2 q3))])) oT
    refine XS.bipush X9.here hx rfl (hb hby at_227) ?_
    exact oK
  show OG _ _ _ _ _ _ _ (T9.setTop (mkF m 229 #[.val (.long q0), .second, .val (.long q1), .second, .val (.long q2), .second, .val (.long q3), .second, .val (.long qf), .second, .val (.int p5), .val (.int o5), .val (.ref w), .val (.ref b), .unset, .unset, .unset, .unset, .unset, .unset, .unset, .unset] [(.int (25 : Int32)), (.long (own_l9 q0 q1 q2 q3))]))
  obtain ⟨_, _, ⟨T10, L10, k10, n10⟩, -, X10, ⟨Lc10, hQ10, l10, y10, z10⟩, st10⟩ := Jvm.LawKit.callS X9 hx (y := (⟨"com/example/gate_to_gate/gatetogate/io/Field25519FromWordsPinLaw", "in", "(JI)Z"⟩ : MethodName)) hown (mvT hZ (hw _ (List.mem_of_getElem? (i := 9) rfl))) (mvT hZ (hw _ (List.mem_of_getElem? (i := 10) rfl))) (mvT hZ (hw _ (List.mem_of_getElem? (i := 11) rfl))) (mvT hZ (hw _ (List.mem_of_getElem? (i := 12) rfl))) (by decide) (backOf (W := 0) (rmI l Z a0 hw [] (own_l9 q0 q1 q2 q3) (25 : Int32)  h1 n0 (Z0)) hZ (hw _ (List.mem_of_getElem? (i := 12) rfl)) (hw _ (List.mem_of_getElem? (i := 11) rfl)) (by decide) (by decide)) (g := (mkF m 229 #[.val (.long q0), .second, .val (.long q1), .second, .val (.long q2), .second, .val (.long q3), .second, .val (.long qf), .second, .val (.int p5), .val (.int o5), .val (.ref w), .val (.ref b), .unset, .unset, .unset, .unset, .unset, .unset, .unset, .unset] [(.int (25 : Int32)), (.long (own_l9 q0 q1 q2 q3))])) rfl (by rw [hml]; rfl) (argsL := [(.long (own_l9 q0 q1 q2 q3)), (.int (25 : Int32))]) (rest := []) (lenOf pd__JI_Z rfl) rfl (by show 2 * 0 + _ ≤ _; exact Nat.le_of_eq rfl) (hb hby at_229) (fun _ _ => ⟨rfl, e9, (by decide : 2 + 0 ≤ _), (by decide : 17 + 0 ≤ _)⟩)
  dsimp only [Pt.U, Pt.locs, Pt.cells, Pt.slots] at X10 l10 y10 z10 st10 hQ10
  subst l10 y10 z10
  obtain ⟨hv10, N10q, e10⟩ := hQ10
  obtain rfl := hv10.trans (show _ = some (.int (1 : Int32)) from congrArg (fun z => some (Value.int z)) (own_in_l9 q0 q1 q2 q3))
  have N10 := Fr.app N9 N10q
  refine OG.of st10 ?_
  show OG _ _ _ _ _ _ _ (T10.setTop (mkF m 232 #[.val (.long q0), .second, .val (.long q1), .second, .val (.long q2), .second, .val (.long q3), .second, .val (.long qf), .second, .val (.int p5), .val (.int o5), .val (.ref w), .val (.ref b), .unset, .unset, .unset, .unset, .unset, .unset, .unset, .unset] [(.int (1 : Int32))]))
  refine OG.of (A := T10.setTop (mkF m 240 #[.val (.long q0), .second, .val (.long q1), .second, .val (.long q2), .second, .val (.long q3), .second, .val (.long qf), .second, .val (.int p5), .val (.int o5), .val (.ref w), .val (.ref b), .unset, .unset, .unset, .unset, .unset, .unset, .unset, .unset] [(.int (0 : Int32)), (.ref b)])) (fun oT oK => ?_) ?_
  · show Steps p.tables e below (T10.setTop (mkF m 232 #[.val (.long q0), .second, .val (.long q1), .second, .val (.long q2), .second, .val (.long q3), .second, .val (.long qf), .second, .val (.int p5), .val (.int o5), .val (.ref w), .val (.ref b), .unset, .unset, .unset, .unset, .unset, .unset, .unset, .unset] [(.int (1 : Int32))])) oT
    refine XS.ifYes X10.here hx rfl (pc0 := 232) (pc' := 237) rfl (hb hby at_232) rfl (XT.i0_ne_t (by decide)) (by decide) (by decide) ?_
    show Steps p.tables e below (T10.setTop (mkF m 237 #[.val (.long q0), .second, .val (.long q1), .second, .val (.long q2), .second, .val (.long q3), .second, .val (.long qf), .second, .val (.int p5), .val (.int o5), .val (.ref w), .val (.ref b), .unset, .unset, .unset, .unset, .unset, .unset, .unset, .unset] [])) _
    refine XS.aload X10.here hx rfl (hb hby at_237) rfl rfl  ?_
    show Steps p.tables e below (T10.setTop (mkF m 239 #[.val (.long q0), .second, .val (.long q1), .second, .val (.long q2), .second, .val (.long q3), .second, .val (.long qf), .second, .val (.int p5), .val (.int o5), .val (.ref w), .val (.ref b), .unset, .unset, .unset, .unset, .unset, .unset, .unset, .unset] [(.ref b)])) _
    refine XS.iconst X10.here hx rfl (hb hby at_239) ?_
    exact oK
  show OG _ _ _ _ _ _ _ (T10.setTop (mkF m 240 #[.val (.long q0), .second, .val (.long q1), .second, .val (.long q2), .second, .val (.long q3), .second, .val (.long qf), .second, .val (.int p5), .val (.int o5), .val (.ref w), .val (.ref b), .unset, .unset, .unset, .unset, .unset, .unset, .unset, .unset] [(.int (0 : Int32)), (.ref b)]))
  have cf12 := V0
  obtain ⟨clf12, Arf12, qf12, Sf12, Mf12, Hf12, Gf12⟩ := cf12
  refine OG.of (X10.laload hx (j := (0 : Int32)) (v := (.long (own_l0 q0 q1 q2 q3))) (by rw [e10]; exact Arf12.1) (State.isArrayOf_alike hZ.alike Arf12.2.1) Arf12.2.2 (inb_of Sf12 ⟨by decide, by decide⟩) (Hf12.at (inb_of Sf12 ⟨by decide, by decide⟩) rfl) (g := (mkF m 240 #[.val (.long q0), .second, .val (.long q1), .second, .val (.long q2), .second, .val (.long q3), .second, .val (.long qf), .second, .val (.int p5), .val (.int o5), .val (.ref w), .val (.ref b), .unset, .unset, .unset, .unset, .unset, .unset, .unset, .unset] [(.int (0 : Int32)), (.ref b)])) rfl rfl (hb hby at_240)) ?_
  show OG _ _ _ _ _ _ _ (T10.setTop (mkF m 241 #[.val (.long q0), .second, .val (.long q1), .second, .val (.long q2), .second, .val (.long q3), .second, .val (.long qf), .second, .val (.int p5), .val (.int o5), .val (.ref w), .val (.ref b), .unset, .unset, .unset, .unset, .unset, .unset, .unset, .unset] [(.long (own_l0 q0 q1 q2 q3))]))
  refine OG.of (A := T10.setTop (mkF m 244 #[.val (.long q0), .second, .val (.long q1), .second, .val (.long q2), .second, .val (.long q3), .second, .val (.long qf), .second, .val (.int p5), .val (.int o5), .val (.ref w), .val (.ref b), .unset, .unset, .unset, .unset, .unset, .unset, .unset, .unset] [(.int (1 : Int32)), (.ref b), (.long (own_l0 q0 q1 q2 q3))])) (fun oT oK => ?_) ?_
  · show Steps p.tables e below (T10.setTop (mkF m 241 #[.val (.long q0), .second, .val (.long q1), .second, .val (.long q2), .second, .val (.long q3), .second, .val (.long qf), .second, .val (.int p5), .val (.int o5), .val (.ref w), .val (.ref b), .unset, .unset, .unset, .unset, .unset, .unset, .unset, .unset] [(.long (own_l0 q0 q1 q2 q3))])) oT
    refine XS.aload X10.here hx rfl (hb hby at_241) rfl rfl  ?_
    show Steps p.tables e below (T10.setTop (mkF m 243 #[.val (.long q0), .second, .val (.long q1), .second, .val (.long q2), .second, .val (.long q3), .second, .val (.long qf), .second, .val (.int p5), .val (.int o5), .val (.ref w), .val (.ref b), .unset, .unset, .unset, .unset, .unset, .unset, .unset, .unset] [(.ref b), (.long (own_l0 q0 q1 q2 q3))])) _
    refine XS.iconst X10.here hx rfl (hb hby at_243) ?_
    exact oK
  show OG _ _ _ _ _ _ _ (T10.setTop (mkF m 244 #[.val (.long q0), .second, .val (.long q1), .second, .val (.long q2), .second, .val (.long q3), .second, .val (.long qf), .second, .val (.int p5), .val (.int o5), .val (.ref w), .val (.ref b), .unset, .unset, .unset, .unset, .unset, .unset, .unset, .unset] [(.int (1 : Int32)), (.ref b), (.long (own_l0 q0 q1 q2 q3))]))
  have cf13 := V0
  obtain ⟨clf13, Arf13, qf13, Sf13, Mf13, Hf13, Gf13⟩ := cf13
  refine OG.of (X10.laload hx (j := (1 : Int32)) (v := (.long (own_l1 q0 q1 q2 q3))) (by rw [e10]; exact Arf13.1) (State.isArrayOf_alike hZ.alike Arf13.2.1) Arf13.2.2 (inb_of Sf13 ⟨by decide, by decide⟩) (Hf13.at (inb_of Sf13 ⟨by decide, by decide⟩) rfl) (g := (mkF m 244 #[.val (.long q0), .second, .val (.long q1), .second, .val (.long q2), .second, .val (.long q3), .second, .val (.long qf), .second, .val (.int p5), .val (.int o5), .val (.ref w), .val (.ref b), .unset, .unset, .unset, .unset, .unset, .unset, .unset, .unset] [(.int (1 : Int32)), (.ref b), (.long (own_l0 q0 q1 q2 q3))])) rfl rfl (hb hby at_244)) ?_
  show OG _ _ _ _ _ _ _ (T10.setTop (mkF m 245 #[.val (.long q0), .second, .val (.long q1), .second, .val (.long q2), .second, .val (.long q3), .second, .val (.long qf), .second, .val (.int p5), .val (.int o5), .val (.ref w), .val (.ref b), .unset, .unset, .unset, .unset, .unset, .unset, .unset, .unset] [(.long (own_l1 q0 q1 q2 q3)), (.long (own_l0 q0 q1 q2 q3))]))
  refine OG.of (A := T10.setTop (mkF m 252 #[.val (.long q0), .second, .val (.long q1), .second, .val (.long q2), .second, .val (.long q3), .second, .val (.long qf), .second, .val (.int p5), .val (.int o5), .val (.ref w), .val (.ref b), .unset, .unset, .unset, .unset, .unset, .unset, .unset, .unset] [(.int (2 : Int32)), (.ref b), (.long ((own_l0 q0 q1 q2 q3) ||| ((own_l1 q0 q1 q2 q3) <<< ((26 : Int32).toInt64 &&& 63))))])) (fun oT oK => ?_) ?_
  · show Steps p.tables e below (T10.setTop (mkF m 245 #[.val (.long q0), .second, .val (.long q1), .second, .val (.long q2), .second, .val (.long q3), .second, .val (.long qf), .second, .val (.int p5), .val (.int o5), .val (.ref w), .val (.ref b), .unset, .unset, .unset, .unset, .unset, .unset, .unset, .unset] [(.long (own_l1 q0 q1 q2 q3)), (.long (own_l0 q0 q1 q2 q3))])) oT
    refine XS.bipush X10.here hx rfl (hb hby at_245) ?_
    show Steps p.tables e below (T10.setTop (mkF m 247 #[.val (.long q0), .second, .val (.long q1), .second, .val (.long q2), .second, .val (.long q3), .second, .val (.long qf), .second, .val (.int p5), .val (.int o5), .val (.ref w), .val (.ref b), .unset, .unset, .unset, .unset, .unset, .unset, .unset, .unset] [(.int (26 : Int32)), (.long (own_l1 q0 q1 q2 q3)), (.long (own_l0 q0 q1 q2 q3))])) _
    refine XT.lshl X10.here hx rfl (hb hby at_247) rfl ?_
    show Steps p.tables e below (T10.setTop (mkF m 248 #[.val (.long q0), .second, .val (.long q1), .second, .val (.long q2), .second, .val (.long q3), .second, .val (.long qf), .second, .val (.int p5), .val (.int o5), .val (.ref w), .val (.ref b), .unset, .unset, .unset, .unset, .unset, .unset, .unset, .unset] [(.long ((own_l1 q0 q1 q2 q3) <<< ((26 : Int32).toInt64 &&& 63))), (.long (own_l0 q0 q1 q2 q3))])) _
    refine XT.lor X10.here hx rfl (hb hby at_248) rfl ?_
    show Steps p.tables e below (T10.setTop (mkF m 249 #[.val (.long q0), .second, .val (.long q1), .second, .val (.long q2), .second, .val (.long q3), .second, .val (.long qf), .second, .val (.int p5), .val (.int o5), .val (.ref w), .val (.ref b), .unset, .unset, .unset, .unset, .unset, .unset, .unset, .unset] [(.long ((own_l0 q0 q1 q2 q3) ||| ((own_l1 q0 q1 q2 q3) <<< ((26 : Int32).toInt64 &&& 63))))])) _
    refine XS.aload X10.here hx rfl (hb hby at_249) rfl rfl  ?_
    show Steps p.tables e below (T10.setTop (mkF m 251 #[.val (.long q0), .second, .val (.long q1), .second, .val (.long q2), .second, .val (.long q3), .second, .val (.long qf), .second, .val (.int p5), .val (.int o5), .val (.ref w), .val (.ref b), .unset, .unset, .unset, .unset, .unset, .unset, .unset, .unset] [(.ref b), (.long ((own_l0 q0 q1 q2 q3) ||| ((own_l1 q0 q1 q2 q3) <<< ((26 : Int32).toInt64 &&& 63))))])) _
    refine XS.iconst X10.here hx rfl (hb hby at_251) ?_
    exact oK
  show OG _ _ _ _ _ _ _ (T10.setTop (mkF m 252 #[.val (.long q0), .second, .val (.long q1), .second, .val (.long q2), .second, .val (.long q3), .second, .val (.long qf), .second, .val (.int p5), .val (.int o5), .val (.ref w), .val (.ref b), .unset, .unset, .unset, .unset, .unset, .unset, .unset, .unset] [(.int (2 : Int32)), (.ref b), (.long ((own_l0 q0 q1 q2 q3) ||| ((own_l1 q0 q1 q2 q3) <<< ((26 : Int32).toInt64 &&& 63))))]))
  have cf14 := V0
  obtain ⟨clf14, Arf14, qf14, Sf14, Mf14, Hf14, Gf14⟩ := cf14
  refine OG.of (X10.laload hx (j := (2 : Int32)) (v := (.long (own_l2 q0 q1 q2 q3))) (by rw [e10]; exact Arf14.1) (State.isArrayOf_alike hZ.alike Arf14.2.1) Arf14.2.2 (inb_of Sf14 ⟨by decide, by decide⟩) (Hf14.at (inb_of Sf14 ⟨by decide, by decide⟩) rfl) (g := (mkF m 252 #[.val (.long q0), .second, .val (.long q1), .second, .val (.long q2), .second, .val (.long q3), .second, .val (.long qf), .second, .val (.int p5), .val (.int o5), .val (.ref w), .val (.ref b), .unset, .unset, .unset, .unset, .unset, .unset, .unset, .unset] [(.int (2 : Int32)), (.ref b), (.long ((own_l0 q0 q1 q2 q3) ||| ((own_l1 q0 q1 q2 q3) <<< ((26 : Int32).toInt64 &&& 63))))])) rfl rfl (hb hby at_252)) ?_
  show OG _ _ _ _ _ _ _ (T10.setTop (mkF m 253 #[.val (.long q0), .second, .val (.long q1), .second, .val (.long q2), .second, .val (.long q3), .second, .val (.long qf), .second, .val (.int p5), .val (.int o5), .val (.ref w), .val (.ref b), .unset, .unset, .unset, .unset, .unset, .unset, .unset, .unset] [(.long (own_l2 q0 q1 q2 q3)), (.long ((own_l0 q0 q1 q2 q3) ||| ((own_l1 q0 q1 q2 q3) <<< ((26 : Int32).toInt64 &&& 63))))]))
  refine OG.of (A := T10.setTop (mkF m 262 #[.val (.long q0), .second, .val (.long q1), .second, .val (.long q2), .second, .val (.long q3), .second, .val (.long qf), .second, .val (.int p5), .val (.int o5), .val (.ref w), .val (.ref b), .val (.long (((own_l0 q0 q1 q2 q3) ||| ((own_l1 q0 q1 q2 q3) <<< ((26 : Int32).toInt64 &&& 63))) ||| ((own_l2 q0 q1 q2 q3) <<< ((51 : Int32).toInt64 &&& 63)))), .second, .unset, .unset, .unset, .unset, .unset, .unset] [(.int (2 : Int32)), (.ref b)])) (fun oT oK => ?_) ?_
  · show Steps p.tables e below (T10.setTop (mkF m 253 #[.val (.long q0), .second, .val (.long q1), .second, .val (.long q2), .second, .val (.long q3), .second, .val (.long qf), .second, .val (.int p5), .val (.int o5), .val (.ref w), .val (.ref b), .unset, .unset, .unset, .unset, .unset, .unset, .unset, .unset] [(.long (own_l2 q0 q1 q2 q3)), (.long ((own_l0 q0 q1 q2 q3) ||| ((own_l1 q0 q1 q2 q3) <<< ((26 : Int32).toInt64 &&& 63))))])) oT
    refine XS.bipush X10.here hx rfl (hb hby at_253) ?_
    show Steps p.tables e below (T10.setTop (mkF m 255 #[.val (.long q0), .second, .val (.long q1), .second, .val (.long q2), .second, .val (.long q3), .second, .val (.long qf), .second, .val (.int p5), .val (.int o5), .val (.ref w), .val (.ref b), .unset, .unset, .unset, .unset, .unset, .unset, .unset, .unset] [(.int (51 : Int32)), (.long (own_l2 q0 q1 q2 q3)), (.long ((own_l0 q0 q1 q2 q3) ||| ((own_l1 q0 q1 q2 q3) <<< ((26 : Int32).toInt64 &&& 63))))])) _
    refine XT.lshl X10.here hx rfl (hb hby at_255) rfl ?_
    show Steps p.tables e below (T10.setTop (mkF m 256 #[.val (.long q0), .second, .val (.long q1), .second, .val (.long q2), .second, .val (.long q3), .second, .val (.long qf), .second, .val (.int p5), .val (.int o5), .val (.ref w), .val (.ref b), .unset, .unset, .unset, .unset, .unset, .unset, .unset, .unset] [(.long ((own_l2 q0 q1 q2 q3) <<< ((51 : Int32).toInt64 &&& 63))), (.long ((own_l0 q0 q1 q2 q3) ||| ((own_l1 q0 q1 q2 q3) <<< ((26 : Int32).toInt64 &&& 63))))])) _
    refine XT.lor X10.here hx rfl (hb hby at_256) rfl ?_
    show Steps p.tables e below (T10.setTop (mkF m 257 #[.val (.long q0), .second, .val (.long q1), .second, .val (.long q2), .second, .val (.long q3), .second, .val (.long qf), .second, .val (.int p5), .val (.int o5), .val (.ref w), .val (.ref b), .unset, .unset, .unset, .unset, .unset, .unset, .unset, .unset] [(.long (((own_l0 q0 q1 q2 q3) ||| ((own_l1 q0 q1 q2 q3) <<< ((26 : Int32).toInt64 &&& 63))) ||| ((own_l2 q0 q1 q2 q3) <<< ((51 : Int32).toInt64 &&& 63))))])) _
    refine XT.lstore X10.here hx rfl (hb hby at_257) rfl (l' := #[.val (.long q0), .second, .val (.long q1), .second, .val (.long q2), .second, .val (.long q3), .second, .val (.long qf), .second, .val (.int p5), .val (.int o5), .val (.ref w), .val (.ref b), .val (.long (((own_l0 q0 q1 q2 q3) ||| ((own_l1 q0 q1 q2 q3) <<< ((26 : Int32).toInt64 &&& 63))) ||| ((own_l2 q0 q1 q2 q3) <<< ((51 : Int32).toInt64 &&& 63)))), .second, .unset, .unset, .unset, .unset, .unset, .unset]) rfl ?_
    show Steps p.tables e below (T10.setTop (mkF m 259 #[.val (.long q0), .second, .val (.long q1), .second, .val (.long q2), .second, .val (.long q3), .second, .val (.long qf), .second, .val (.int p5), .val (.int o5), .val (.ref w), .val (.ref b), .val (.long (((own_l0 q0 q1 q2 q3) ||| ((own_l1 q0 q1 q2 q3) <<< ((26 : Int32).toInt64 &&& 63))) ||| ((own_l2 q0 q1 q2 q3) <<< ((51 : Int32).toInt64 &&& 63)))), .second, .unset, .unset, .unset, .unset, .unset, .unset] [])) _
    refine XS.aload X10.here hx rfl (hb hby at_259) rfl rfl  ?_
    show Steps p.tables e below (T10.setTop (mkF m 261 #[.val (.long q0), .second, .val (.long q1), .second, .val (.long q2), .second, .val (.long q3), .second, .val (.long qf), .second, .val (.int p5), .val (.int o5), .val (.ref w), .val (.ref b), .val (.long (((own_l0 q0 q1 q2 q3) ||| ((own_l1 q0 q1 q2 q3) <<< ((26 : Int32).toInt64 &&& 63))) ||| ((own_l2 q0 q1 q2 q3) <<< ((51 : Int32).toInt64 &&& 63)))), .second, .unset, .unset, .unset, .unset, .unset, .unset] [(.ref b)])) _
    refine XS.iconst X10.here hx rfl (hb hby at_261) ?_
    exact oK
  show OG _ _ _ _ _ _ _ (T10.setTop (mkF m 262 #[.val (.long q0), .second, .val (.long q1), .second, .val (.long q2), .second, .val (.long q3), .second, .val (.long qf), .second, .val (.int p5), .val (.int o5), .val (.ref w), .val (.ref b), .val (.long (((own_l0 q0 q1 q2 q3) ||| ((own_l1 q0 q1 q2 q3) <<< ((26 : Int32).toInt64 &&& 63))) ||| ((own_l2 q0 q1 q2 q3) <<< ((51 : Int32).toInt64 &&& 63)))), .second, .unset, .unset, .unset, .unset, .unset, .unset] [(.int (2 : Int32)), (.ref b)]))
  have cf15 := V0
  obtain ⟨clf15, Arf15, qf15, Sf15, Mf15, Hf15, Gf15⟩ := cf15
  refine OG.of (X10.laload hx (j := (2 : Int32)) (v := (.long (own_l2 q0 q1 q2 q3))) (by rw [e10]; exact Arf15.1) (State.isArrayOf_alike hZ.alike Arf15.2.1) Arf15.2.2 (inb_of Sf15 ⟨by decide, by decide⟩) (Hf15.at (inb_of Sf15 ⟨by decide, by decide⟩) rfl) (g := (mkF m 262 #[.val (.long q0), .second, .val (.long q1), .second, .val (.long q2), .second, .val (.long q3), .second, .val (.long qf), .second, .val (.int p5), .val (.int o5), .val (.ref w), .val (.ref b), .val (.long (((own_l0 q0 q1 q2 q3) ||| ((own_l1 q0 q1 q2 q3) <<< ((26 : Int32).toInt64 &&& 63))) ||| ((own_l2 q0 q1 q2 q3) <<< ((51 : Int32).toInt64 &&& 63)))), .second, .unset, .unset, .unset, .unset, .unset, .unset] [(.int (2 : Int32)), (.ref b)])) rfl rfl (hb hby at_262)) ?_
  show OG _ _ _ _ _ _ _ (T10.setTop (mkF m 263 #[.val (.long q0), .second, .val (.long q1), .second, .val (.long q2), .second, .val (.long q3), .second, .val (.long qf), .second, .val (.int p5), .val (.int o5), .val (.ref w), .val (.ref b), .val (.long (((own_l0 q0 q1 q2 q3) ||| ((own_l1 q0 q1 q2 q3) <<< ((26 : Int32).toInt64 &&& 63))) ||| ((own_l2 q0 q1 q2 q3) <<< ((51 : Int32).toInt64 &&& 63)))), .second, .unset, .unset, .unset, .unset, .unset, .unset] [(.long (own_l2 q0 q1 q2 q3))]))
  refine OG.of (A := T10.setTop (mkF m 269 #[.val (.long q0), .second, .val (.long q1), .second, .val (.long q2), .second, .val (.long q3), .second, .val (.long qf), .second, .val (.int p5), .val (.int o5), .val (.ref w), .val (.ref b), .val (.long (((own_l0 q0 q1 q2 q3) ||| ((own_l1 q0 q1 q2 q3) <<< ((26 : Int32).toInt64 &&& 63))) ||| ((own_l2 q0 q1 q2 q3) <<< ((51 : Int32).toInt64 &&& 63)))), .second, .unset, .unset, .unset, .unset, .unset, .unset] [(.int (3 : Int32)), (.ref b), (.long (XT.ushrL (own_l2 q0 q1 q2 q3) (13 : Int32)))])) (fun oT oK => ?_) ?_
  · show Steps p.tables e below (T10.setTop (mkF m 263 #[.val (.long q0), .second, .val (.long q1), .second, .val (.long q2), .second, .val (.long q3), .second, .val (.long qf), .second, .val (.int p5), .val (.int o5), .val (.ref w), .val (.ref b), .val (.long (((own_l0 q0 q1 q2 q3) ||| ((own_l1 q0 q1 q2 q3) <<< ((26 : Int32).toInt64 &&& 63))) ||| ((own_l2 q0 q1 q2 q3) <<< ((51 : Int32).toInt64 &&& 63)))), .second, .unset, .unset, .unset, .unset, .unset, .unset] [(.long (own_l2 q0 q1 q2 q3))])) oT
    refine XS.bipush X10.here hx rfl (hb hby at_263) ?_
    show Steps p.tables e below (T10.setTop (mkF m 265 #[.val (.long q0), .second, .val (.long q1), .second, .val (.long q2), .second, .val (.long q3), .second, .val (.long qf), .second, .val (.int p5), .val (.int o5), .val (.ref w), .val (.ref b), .val (.long (((own_l0 q0 q1 q2 q3) ||| ((own_l1 q0 q1 q2 q3) <<< ((26 : Int32).toInt64 &&& 63))) ||| ((own_l2 q0 q1 q2 q3) <<< ((51 : Int32).toInt64 &&& 63)))), .second, .unset, .unset, .unset, .unset, .unset, .unset] [(.int (13 : Int32)), (.long (own_l2 q0 q1 q2 q3))])) _
    refine XT.lushr X10.here hx rfl (hb hby at_265) rfl ?_
    show Steps p.tables e below (T10.setTop (mkF m 266 #[.val (.long q0), .second, .val (.long q1), .second, .val (.long q2), .second, .val (.long q3), .second, .val (.long qf), .second, .val (.int p5), .val (.int o5), .val (.ref w), .val (.ref b), .val (.long (((own_l0 q0 q1 q2 q3) ||| ((own_l1 q0 q1 q2 q3) <<< ((26 : Int32).toInt64 &&& 63))) ||| ((own_l2 q0 q1 q2 q3) <<< ((51 : Int32).toInt64 &&& 63)))), .second, .unset, .unset, .unset, .unset, .unset, .unset] [(.long (XT.ushrL (own_l2 q0 q1 q2 q3) (13 : Int32)))])) _
    refine XS.aload X10.here hx rfl (hb hby at_266) rfl rfl  ?_
    show Steps p.tables e below (T10.setTop (mkF m 268 #[.val (.long q0), .second, .val (.long q1), .second, .val (.long q2), .second, .val (.long q3), .second, .val (.long qf), .second, .val (.int p5), .val (.int o5), .val (.ref w), .val (.ref b), .val (.long (((own_l0 q0 q1 q2 q3) ||| ((own_l1 q0 q1 q2 q3) <<< ((26 : Int32).toInt64 &&& 63))) ||| ((own_l2 q0 q1 q2 q3) <<< ((51 : Int32).toInt64 &&& 63)))), .second, .unset, .unset, .unset, .unset, .unset, .unset] [(.ref b), (.long (XT.ushrL (own_l2 q0 q1 q2 q3) (13 : Int32)))])) _
    refine XS.iconst X10.here hx rfl (hb hby at_268) ?_
    exact oK
  show OG _ _ _ _ _ _ _ (T10.setTop (mkF m 269 #[.val (.long q0), .second, .val (.long q1), .second, .val (.long q2), .second, .val (.long q3), .second, .val (.long qf), .second, .val (.int p5), .val (.int o5), .val (.ref w), .val (.ref b), .val (.long (((own_l0 q0 q1 q2 q3) ||| ((own_l1 q0 q1 q2 q3) <<< ((26 : Int32).toInt64 &&& 63))) ||| ((own_l2 q0 q1 q2 q3) <<< ((51 : Int32).toInt64 &&& 63)))), .second, .unset, .unset, .unset, .unset, .unset, .unset] [(.int (3 : Int32)), (.ref b), (.long (XT.ushrL (own_l2 q0 q1 q2 q3) (13 : Int32)))]))
  have cf16 := V0
  obtain ⟨clf16, Arf16, qf16, Sf16, Mf16, Hf16, Gf16⟩ := cf16
  refine OG.of (X10.laload hx (j := (3 : Int32)) (v := (.long (own_l3 q0 q1 q2 q3))) (by rw [e10]; exact Arf16.1) (State.isArrayOf_alike hZ.alike Arf16.2.1) Arf16.2.2 (inb_of Sf16 ⟨by decide, by decide⟩) (Hf16.at (inb_of Sf16 ⟨by decide, by decide⟩) rfl) (g := (mkF m 269 #[.val (.long q0), .second, .val (.long q1), .second, .val (.long q2), .second, .val (.long q3), .second, .val (.long qf), .second, .val (.int p5), .val (.int o5), .val (.ref w), .val (.ref b), .val (.long (((own_l0 q0 q1 q2 q3) ||| ((own_l1 q0 q1 q2 q3) <<< ((26 : Int32).toInt64 &&& 63))) ||| ((own_l2 q0 q1 q2 q3) <<< ((51 : Int32).toInt64 &&& 63)))), .second, .unset, .unset, .unset, .unset, .unset, .unset] [(.int (3 : Int32)), (.ref b), (.long (XT.ushrL (own_l2 q0 q1 q2 q3) (13 : Int32)))])) rfl rfl (hb hby at_269)) ?_
  show OG _ _ _ _ _ _ _ (T10.setTop (mkF m 270 #[.val (.long q0), .second, .val (.long q1), .second, .val (.long q2), .second, .val (.long q3), .second, .val (.long qf), .second, .val (.int p5), .val (.int o5), .val (.ref w), .val (.ref b), .val (.long (((own_l0 q0 q1 q2 q3) ||| ((own_l1 q0 q1 q2 q3) <<< ((26 : Int32).toInt64 &&& 63))) ||| ((own_l2 q0 q1 q2 q3) <<< ((51 : Int32).toInt64 &&& 63)))), .second, .unset, .unset, .unset, .unset, .unset, .unset] [(.long (own_l3 q0 q1 q2 q3)), (.long (XT.ushrL (own_l2 q0 q1 q2 q3) (13 : Int32)))]))
  refine OG.of (A := T10.setTop (mkF m 277 #[.val (.long q0), .second, .val (.long q1), .second, .val (.long q2), .second, .val (.long q3), .second, .val (.long qf), .second, .val (.int p5), .val (.int o5), .val (.ref w), .val (.ref b), .val (.long (((own_l0 q0 q1 q2 q3) ||| ((own_l1 q0 q1 q2 q3) <<< ((26 : Int32).toInt64 &&& 63))) ||| ((own_l2 q0 q1 q2 q3) <<< ((51 : Int32).toInt64 &&& 63)))), .second, .unset, .unset, .unset, .unset, .unset, .unset] [(.int (4 : Int32)), (.ref b), (.long ((XT.ushrL (own_l2 q0 q1 q2 q3) (13 : Int32)) ||| ((own_l3 q0 q1 q2 q3) <<< ((13 : Int32).toInt64 &&& 63))))])) (fun oT oK => ?_) ?_
  · show Steps p.tables e below (T10.setTop (mkF m 270 #[.val (.long q0), .second, .val (.long q1), .second, .val (.long q2), .second, .val (.long q3), .second, .val (.long qf), .second, .val (.int p5), .val (.int o5), .val (.ref w), .val (.ref b), .val (.long (((own_l0 q0 q1 q2 q3) ||| ((own_l1 q0 q1 q2 q3) <<< ((26 : Int32).toInt64 &&& 63))) ||| ((own_l2 q0 q1 q2 q3) <<< ((51 : Int32).toInt64 &&& 63)))), .second, .unset, .unset, .unset, .unset, .unset, .unset] [(.long (own_l3 q0 q1 q2 q3)), (.long (XT.ushrL (own_l2 q0 q1 q2 q3) (13 : Int32)))])) oT
    refine XS.bipush X10.here hx rfl (hb hby at_270) ?_
    show Steps p.tables e below (T10.setTop (mkF m 272 #[.val (.long q0), .second, .val (.long q1), .second, .val (.long q2), .second, .val (.long q3), .second, .val (.long qf), .second, .val (.int p5), .val (.int o5), .val (.ref w), .val (.ref b), .val (.long (((own_l0 q0 q1 q2 q3) ||| ((own_l1 q0 q1 q2 q3) <<< ((26 : Int32).toInt64 &&& 63))) ||| ((own_l2 q0 q1 q2 q3) <<< ((51 : Int32).toInt64 &&& 63)))), .second, .unset, .unset, .unset, .unset, .unset, .unset] [(.int (13 : Int32)), (.long (own_l3 q0 q1 q2 q3)), (.long (XT.ushrL (own_l2 q0 q1 q2 q3) (13 : Int32)))])) _
    refine XT.lshl X10.here hx rfl (hb hby at_272) rfl ?_
    show Steps p.tables e below (T10.setTop (mkF m 273 #[.val (.long q0), .second, .val (.long q1), .second, .val (.long q2), .second, .val (.long q3), .second, .val (.long qf), .second, .val (.int p5), .val (.int o5), .val (.ref w), .val (.ref b), .val (.long (((own_l0 q0 q1 q2 q3) ||| ((own_l1 q0 q1 q2 q3) <<< ((26 : Int32).toInt64 &&& 63))) ||| ((own_l2 q0 q1 q2 q3) <<< ((51 : Int32).toInt64 &&& 63)))), .second, .unset, .unset, .unset, .unset, .unset, .unset] [(.long ((own_l3 q0 q1 q2 q3) <<< ((13 : Int32).toInt64 &&& 63))), (.long (XT.ushrL (own_l2 q0 q1 q2 q3) (13 : Int32)))])) _
    refine XT.lor X10.here hx rfl (hb hby at_273) rfl ?_
    show Steps p.tables e below (T10.setTop (mkF m 274 #[.val (.long q0), .second, .val (.long q1), .second, .val (.long q2), .second, .val (.long q3), .second, .val (.long qf), .second, .val (.int p5), .val (.int o5), .val (.ref w), .val (.ref b), .val (.long (((own_l0 q0 q1 q2 q3) ||| ((own_l1 q0 q1 q2 q3) <<< ((26 : Int32).toInt64 &&& 63))) ||| ((own_l2 q0 q1 q2 q3) <<< ((51 : Int32).toInt64 &&& 63)))), .second, .unset, .unset, .unset, .unset, .unset, .unset] [(.long ((XT.ushrL (own_l2 q0 q1 q2 q3) (13 : Int32)) ||| ((own_l3 q0 q1 q2 q3) <<< ((13 : Int32).toInt64 &&& 63))))])) _
    refine XS.aload X10.here hx rfl (hb hby at_274) rfl rfl  ?_
    show Steps p.tables e below (T10.setTop (mkF m 276 #[.val (.long q0), .second, .val (.long q1), .second, .val (.long q2), .second, .val (.long q3), .second, .val (.long qf), .second, .val (.int p5), .val (.int o5), .val (.ref w), .val (.ref b), .val (.long (((own_l0 q0 q1 q2 q3) ||| ((own_l1 q0 q1 q2 q3) <<< ((26 : Int32).toInt64 &&& 63))) ||| ((own_l2 q0 q1 q2 q3) <<< ((51 : Int32).toInt64 &&& 63)))), .second, .unset, .unset, .unset, .unset, .unset, .unset] [(.ref b), (.long ((XT.ushrL (own_l2 q0 q1 q2 q3) (13 : Int32)) ||| ((own_l3 q0 q1 q2 q3) <<< ((13 : Int32).toInt64 &&& 63))))])) _
    refine XS.iconst X10.here hx rfl (hb hby at_276) ?_
    exact oK
  show OG _ _ _ _ _ _ _ (T10.setTop (mkF m 277 #[.val (.long q0), .second, .val (.long q1), .second, .val (.long q2), .second, .val (.long q3), .second, .val (.long qf), .second, .val (.int p5), .val (.int o5), .val (.ref w), .val (.ref b), .val (.long (((own_l0 q0 q1 q2 q3) ||| ((own_l1 q0 q1 q2 q3) <<< ((26 : Int32).toInt64 &&& 63))) ||| ((own_l2 q0 q1 q2 q3) <<< ((51 : Int32).toInt64 &&& 63)))), .second, .unset, .unset, .unset, .unset, .unset, .unset] [(.int (4 : Int32)), (.ref b), (.long ((XT.ushrL (own_l2 q0 q1 q2 q3) (13 : Int32)) ||| ((own_l3 q0 q1 q2 q3) <<< ((13 : Int32).toInt64 &&& 63))))]))
  have cf17 := V0
  obtain ⟨clf17, Arf17, qf17, Sf17, Mf17, Hf17, Gf17⟩ := cf17
  refine OG.of (X10.laload hx (j := (4 : Int32)) (v := (.long (own_l4 q0 q1 q2 q3))) (by rw [e10]; exact Arf17.1) (State.isArrayOf_alike hZ.alike Arf17.2.1) Arf17.2.2 (inb_of Sf17 ⟨by decide, by decide⟩) (Hf17.at (inb_of Sf17 ⟨by decide, by decide⟩) rfl) (g := (mkF m 277 #[.val (.long q0), .second, .val (.long q1), .second, .val (.long q2), .second, .val (.long q3), .second, .val (.long qf), .second, .val (.int p5), .val (.int o5), .val (.ref w), .val (.ref b), .val (.long (((own_l0 q0 q1 q2 q3) ||| ((own_l1 q0 q1 q2 q3) <<< ((26 : Int32).toInt64 &&& 63))) ||| ((own_l2 q0 q1 q2 q3) <<< ((51 : Int32).toInt64 &&& 63)))), .second, .unset, .unset, .unset, .unset, .unset, .unset] [(.int (4 : Int32)), (.ref b), (.long ((XT.ushrL (own_l2 q0 q1 q2 q3) (13 : Int32)) ||| ((own_l3 q0 q1 q2 q3) <<< ((13 : Int32).toInt64 &&& 63))))])) rfl rfl (hb hby at_277)) ?_
  show OG _ _ _ _ _ _ _ (T10.setTop (mkF m 278 #[.val (.long q0), .second, .val (.long q1), .second, .val (.long q2), .second, .val (.long q3), .second, .val (.long qf), .second, .val (.int p5), .val (.int o5), .val (.ref w), .val (.ref b), .val (.long (((own_l0 q0 q1 q2 q3) ||| ((own_l1 q0 q1 q2 q3) <<< ((26 : Int32).toInt64 &&& 63))) ||| ((own_l2 q0 q1 q2 q3) <<< ((51 : Int32).toInt64 &&& 63)))), .second, .unset, .unset, .unset, .unset, .unset, .unset] [(.long (own_l4 q0 q1 q2 q3)), (.long ((XT.ushrL (own_l2 q0 q1 q2 q3) (13 : Int32)) ||| ((own_l3 q0 q1 q2 q3) <<< ((13 : Int32).toInt64 &&& 63))))]))
  refine OG.of (A := T10.setTop (mkF m 287 #[.val (.long q0), .second, .val (.long q1), .second, .val (.long q2), .second, .val (.long q3), .second, .val (.long qf), .second, .val (.int p5), .val (.int o5), .val (.ref w), .val (.ref b), .val (.long (((own_l0 q0 q1 q2 q3) ||| ((own_l1 q0 q1 q2 q3) <<< ((26 : Int32).toInt64 &&& 63))) ||| ((own_l2 q0 q1 q2 q3) <<< ((51 : Int32).toInt64 &&& 63)))), .second, .val (.long (((XT.ushrL (own_l2 q0 q1 q2 q3) (13 : Int32)) ||| ((own_l3 q0 q1 q2 q3) <<< ((13 : Int32).toInt64 &&& 63))) ||| ((own_l4 q0 q1 q2 q3) <<< ((38 : Int32).toInt64 &&& 63)))), .second, .unset, .unset, .unset, .unset] [(.int (5 : Int32)), (.ref b)])) (fun oT oK => ?_) ?_
  · show Steps p.tables e below (T10.setTop (mkF m 278 #[.val (.long q0), .second, .val (.long q1), .second, .val (.long q2), .second, .val (.long q3), .second, .val (.long qf), .second, .val (.int p5), .val (.int o5), .val (.ref w), .val (.ref b), .val (.long (((own_l0 q0 q1 q2 q3) ||| ((own_l1 q0 q1 q2 q3) <<< ((26 : Int32).toInt64 &&& 63))) ||| ((own_l2 q0 q1 q2 q3) <<< ((51 : Int32).toInt64 &&& 63)))), .second, .unset, .unset, .unset, .unset, .unset, .unset] [(.long (own_l4 q0 q1 q2 q3)), (.long ((XT.ushrL (own_l2 q0 q1 q2 q3) (13 : Int32)) ||| ((own_l3 q0 q1 q2 q3) <<< ((13 : Int32).toInt64 &&& 63))))])) oT
    refine XS.bipush X10.here hx rfl (hb hby at_278) ?_
    show Steps p.tables e below (T10.setTop (mkF m 280 #[.val (.long q0), .second, .val (.long q1), .second, .val (.long q2), .second, .val (.long q3), .second, .val (.long qf), .second, .val (.int p5), .val (.int o5), .val (.ref w), .val (.ref b), .val (.long (((own_l0 q0 q1 q2 q3) ||| ((own_l1 q0 q1 q2 q3) <<< ((26 : Int32).toInt64 &&& 63))) ||| ((own_l2 q0 q1 q2 q3) <<< ((51 : Int32).toInt64 &&& 63)))), .second, .unset, .unset, .unset, .unset, .unset, .unset] [(.int (38 : Int32)), (.long (own_l4 q0 q1 q2 q3)), (.long ((XT.ushrL (own_l2 q0 q1 q2 q3) (13 : Int32)) ||| ((own_l3 q0 q1 q2 q3) <<< ((13 : Int32).toInt64 &&& 63))))])) _
    refine XT.lshl X10.here hx rfl (hb hby at_280) rfl ?_
    show Steps p.tables e below (T10.setTop (mkF m 281 #[.val (.long q0), .second, .val (.long q1), .second, .val (.long q2), .second, .val (.long q3), .second, .val (.long qf), .second, .val (.int p5), .val (.int o5), .val (.ref w), .val (.ref b), .val (.long (((own_l0 q0 q1 q2 q3) ||| ((own_l1 q0 q1 q2 q3) <<< ((26 : Int32).toInt64 &&& 63))) ||| ((own_l2 q0 q1 q2 q3) <<< ((51 : Int32).toInt64 &&& 63)))), .second, .unset, .unset, .unset, .unset, .unset, .unset] [(.long ((own_l4 q0 q1 q2 q3) <<< ((38 : Int32).toInt64 &&& 63))), (.long ((XT.ushrL (own_l2 q0 q1 q2 q3) (13 : Int32)) ||| ((own_l3 q0 q1 q2 q3) <<< ((13 : Int32).toInt64 &&& 63))))])) _
    refine XT.lor X10.here hx rfl (hb hby at_281) rfl ?_
    show Steps p.tables e below (T10.setTop (mkF m 282 #[.val (.long q0), .second, .val (.long q1), .second, .val (.long q2), .second, .val (.long q3), .second, .val (.long qf), .second, .val (.int p5), .val (.int o5), .val (.ref w), .val (.ref b), .val (.long (((own_l0 q0 q1 q2 q3) ||| ((own_l1 q0 q1 q2 q3) <<< ((26 : Int32).toInt64 &&& 63))) ||| ((own_l2 q0 q1 q2 q3) <<< ((51 : Int32).toInt64 &&& 63)))), .second, .unset, .unset, .unset, .unset, .unset, .unset] [(.long (((XT.ushrL (own_l2 q0 q1 q2 q3) (13 : Int32)) ||| ((own_l3 q0 q1 q2 q3) <<< ((13 : Int32).toInt64 &&& 63))) ||| ((own_l4 q0 q1 q2 q3) <<< ((38 : Int32).toInt64 &&& 63))))])) _
    refine XT.lstore X10.here hx rfl (hb hby at_282) rfl (l' := #[.val (.long q0), .second, .val (.long q1), .second, .val (.long q2), .second, .val (.long q3), .second, .val (.long qf), .second, .val (.int p5), .val (.int o5), .val (.ref w), .val (.ref b), .val (.long (((own_l0 q0 q1 q2 q3) ||| ((own_l1 q0 q1 q2 q3) <<< ((26 : Int32).toInt64 &&& 63))) ||| ((own_l2 q0 q1 q2 q3) <<< ((51 : Int32).toInt64 &&& 63)))), .second, .val (.long (((XT.ushrL (own_l2 q0 q1 q2 q3) (13 : Int32)) ||| ((own_l3 q0 q1 q2 q3) <<< ((13 : Int32).toInt64 &&& 63))) ||| ((own_l4 q0 q1 q2 q3) <<< ((38 : Int32).toInt64 &&& 63)))), .second, .unset, .unset, .unset, .unset]) rfl ?_
    show Steps p.tables e below (T10.setTop (mkF m 284 #[.val (.long q0), .second, .val (.long q1), .second, .val (.long q2), .second, .val (.long q3), .second, .val (.long qf), .second, .val (.int p5), .val (.int o5), .val (.ref w), .val (.ref b), .val (.long (((own_l0 q0 q1 q2 q3) ||| ((own_l1 q0 q1 q2 q3) <<< ((26 : Int32).toInt64 &&& 63))) ||| ((own_l2 q0 q1 q2 q3) <<< ((51 : Int32).toInt64 &&& 63)))), .second, .val (.long (((XT.ushrL (own_l2 q0 q1 q2 q3) (13 : Int32)) ||| ((own_l3 q0 q1 q2 q3) <<< ((13 : Int32).toInt64 &&& 63))) ||| ((own_l4 q0 q1 q2 q3) <<< ((38 : Int32).toInt64 &&& 63)))), .second, .unset, .unset, .unset, .unset] [])) _
    refine XS.aload X10.here hx rfl (hb hby at_284) rfl rfl  ?_
    show Steps p.tables e below (T10.setTop (mkF m 286 #[.val (.long q0), .second, .val (.long q1), .second, .val (.long q2), .second, .val (.long q3), .second, .val (.long qf), .second, .val (.int p5), .val (.int o5), .val (.ref w), .val (.ref b), .val (.long (((own_l0 q0 q1 q2 q3) ||| ((own_l1 q0 q1 q2 q3) <<< ((26 : Int32).toInt64 &&& 63))) ||| ((own_l2 q0 q1 q2 q3) <<< ((51 : Int32).toInt64 &&& 63)))), .second, .val (.long (((XT.ushrL (own_l2 q0 q1 q2 q3) (13 : Int32)) ||| ((own_l3 q0 q1 q2 q3) <<< ((13 : Int32).toInt64 &&& 63))) ||| ((own_l4 q0 q1 q2 q3) <<< ((38 : Int32).toInt64 &&& 63)))), .second, .unset, .unset, .unset, .unset] [(.ref b)])) _
    refine XS.iconst X10.here hx rfl (hb hby at_286) ?_
    exact oK
  show OG _ _ _ _ _ _ _ (T10.setTop (mkF m 287 #[.val (.long q0), .second, .val (.long q1), .second, .val (.long q2), .second, .val (.long q3), .second, .val (.long qf), .second, .val (.int p5), .val (.int o5), .val (.ref w), .val (.ref b), .val (.long (((own_l0 q0 q1 q2 q3) ||| ((own_l1 q0 q1 q2 q3) <<< ((26 : Int32).toInt64 &&& 63))) ||| ((own_l2 q0 q1 q2 q3) <<< ((51 : Int32).toInt64 &&& 63)))), .second, .val (.long (((XT.ushrL (own_l2 q0 q1 q2 q3) (13 : Int32)) ||| ((own_l3 q0 q1 q2 q3) <<< ((13 : Int32).toInt64 &&& 63))) ||| ((own_l4 q0 q1 q2 q3) <<< ((38 : Int32).toInt64 &&& 63)))), .second, .unset, .unset, .unset, .unset] [(.int (5 : Int32)), (.ref b)]))
  have cf18 := V0
  obtain ⟨clf18, Arf18, qf18, Sf18, Mf18, Hf18, Gf18⟩ := cf18
  refine OG.of (X10.laload hx (j := (5 : Int32)) (v := (.long (own_l5 q0 q1 q2 q3))) (by rw [e10]; exact Arf18.1) (State.isArrayOf_alike hZ.alike Arf18.2.1) Arf18.2.2 (inb_of Sf18 ⟨by decide, by decide⟩) (Hf18.at (inb_of Sf18 ⟨by decide, by decide⟩) rfl) (g := (mkF m 287 #[.val (.long q0), .second, .val (.long q1), .second, .val (.long q2), .second, .val (.long q3), .second, .val (.long qf), .second, .val (.int p5), .val (.int o5), .val (.ref w), .val (.ref b), .val (.long (((own_l0 q0 q1 q2 q3) ||| ((own_l1 q0 q1 q2 q3) <<< ((26 : Int32).toInt64 &&& 63))) ||| ((own_l2 q0 q1 q2 q3) <<< ((51 : Int32).toInt64 &&& 63)))), .second, .val (.long (((XT.ushrL (own_l2 q0 q1 q2 q3) (13 : Int32)) ||| ((own_l3 q0 q1 q2 q3) <<< ((13 : Int32).toInt64 &&& 63))) ||| ((own_l4 q0 q1 q2 q3) <<< ((38 : Int32).toInt64 &&& 63)))), .second, .unset, .unset, .unset, .unset] [(.int (5 : Int32)), (.ref b)])) rfl rfl (hb hby at_287)) ?_
  show OG _ _ _ _ _ _ _ (T10.setTop (mkF m 288 #[.val (.long q0), .second, .val (.long q1), .second, .val (.long q2), .second, .val (.long q3), .second, .val (.long qf), .second, .val (.int p5), .val (.int o5), .val (.ref w), .val (.ref b), .val (.long (((own_l0 q0 q1 q2 q3) ||| ((own_l1 q0 q1 q2 q3) <<< ((26 : Int32).toInt64 &&& 63))) ||| ((own_l2 q0 q1 q2 q3) <<< ((51 : Int32).toInt64 &&& 63)))), .second, .val (.long (((XT.ushrL (own_l2 q0 q1 q2 q3) (13 : Int32)) ||| ((own_l3 q0 q1 q2 q3) <<< ((13 : Int32).toInt64 &&& 63))) ||| ((own_l4 q0 q1 q2 q3) <<< ((38 : Int32).toInt64 &&& 63)))), .second, .unset, .unset, .unset, .unset] [(.long (own_l5 q0 q1 q2 q3))]))
  refine OG.of (A := T10.setTop (mkF m 292 #[.val (.long q0), .second, .val (.long q1), .second, .val (.long q2), .second, .val (.long q3), .second, .val (.long qf), .second, .val (.int p5), .val (.int o5), .val (.ref w), .val (.ref b), .val (.long (((own_l0 q0 q1 q2 q3) ||| ((own_l1 q0 q1 q2 q3) <<< ((26 : Int32).toInt64 &&& 63))) ||| ((own_l2 q0 q1 q2 q3) <<< ((51 : Int32).toInt64 &&& 63)))), .second, .val (.long (((XT.ushrL (own_l2 q0 q1 q2 q3) (13 : Int32)) ||| ((own_l3 q0 q1 q2 q3) <<< ((13 : Int32).toInt64 &&& 63))) ||| ((own_l4 q0 q1 q2 q3) <<< ((38 : Int32).toInt64 &&& 63)))), .second, .unset, .unset, .unset, .unset] [(.int (6 : Int32)), (.ref b), (.long (own_l5 q0 q1 q2 q3))])) (fun oT oK => ?_) ?_
  · show Steps p.tables e below (T10.setTop (mkF m 288 #[.val (.long q0), .second, .val (.long q1), .second, .val (.long q2), .second, .val (.long q3), .second, .val (.long qf), .second, .val (.int p5), .val (.int o5), .val (.ref w), .val (.ref b), .val (.long (((own_l0 q0 q1 q2 q3) ||| ((own_l1 q0 q1 q2 q3) <<< ((26 : Int32).toInt64 &&& 63))) ||| ((own_l2 q0 q1 q2 q3) <<< ((51 : Int32).toInt64 &&& 63)))), .second, .val (.long (((XT.ushrL (own_l2 q0 q1 q2 q3) (13 : Int32)) ||| ((own_l3 q0 q1 q2 q3) <<< ((13 : Int32).toInt64 &&& 63))) ||| ((own_l4 q0 q1 q2 q3) <<< ((38 : Int32).toInt64 &&& 63)))), .second, .unset, .unset, .unset, .unset] [(.long (own_l5 q0 q1 q2 q3))])) oT
    refine XS.aload X10.here hx rfl (hb hby at_288) rfl rfl  ?_
    show Steps p.tables e below (T10.setTop (mkF m 290 #[.val (.long q0), .second, .val (.long q1), .second, .val (.long q2), .second, .val (.long q3), .second, .val (.long qf), .second, .val (.int p5), .val (.int o5), .val (.ref w), .val (.ref b), .val (.long (((own_l0 q0 q1 q2 q3) ||| ((own_l1 q0 q1 q2 q3) <<< ((26 : Int32).toInt64 &&& 63))) ||| ((own_l2 q0 q1 q2 q3) <<< ((51 : Int32).toInt64 &&& 63)))), .second, .val (.long (((XT.ushrL (own_l2 q0 q1 q2 q3) (13 : Int32)) ||| ((own_l3 q0 q1 q2 q3) <<< ((13 : Int32).toInt64 &&& 63))) ||| ((own_l4 q0 q1 q2 q3) <<< ((38 : Int32).toInt64 &&& 63)))), .second, .unset, .unset, .unset, .unset] [(.ref b), (.long (own_l5 q0 q1 q2 q3))])) _
    refine XS.bipush X10.here hx rfl (hb hby at_290) ?_
    exact oK
  show OG _ _ _ _ _ _ _ (T10.setTop (mkF m 292 #[.val (.long q0), .second, .val (.long q1), .second, .val (.long q2), .second, .val (.long q3), .second, .val (.long qf), .second, .val (.int p5), .val (.int o5), .val (.ref w), .val (.ref b), .val (.long (((own_l0 q0 q1 q2 q3) ||| ((own_l1 q0 q1 q2 q3) <<< ((26 : Int32).toInt64 &&& 63))) ||| ((own_l2 q0 q1 q2 q3) <<< ((51 : Int32).toInt64 &&& 63)))), .second, .val (.long (((XT.ushrL (own_l2 q0 q1 q2 q3) (13 : Int32)) ||| ((own_l3 q0 q1 q2 q3) <<< ((13 : Int32).toInt64 &&& 63))) ||| ((own_l4 q0 q1 q2 q3) <<< ((38 : Int32).toInt64 &&& 63)))), .second, .unset, .unset, .unset, .unset] [(.int (6 : Int32)), (.ref b), (.long (own_l5 q0 q1 q2 q3))]))
  have cf19 := V0
  obtain ⟨clf19, Arf19, qf19, Sf19, Mf19, Hf19, Gf19⟩ := cf19
  refine OG.of (X10.laload hx (j := (6 : Int32)) (v := (.long (own_l6 q0 q1 q2 q3))) (by rw [e10]; exact Arf19.1) (State.isArrayOf_alike hZ.alike Arf19.2.1) Arf19.2.2 (inb_of Sf19 ⟨by decide, by decide⟩) (Hf19.at (inb_of Sf19 ⟨by decide, by decide⟩) rfl) (g := (mkF m 292 #[.val (.long q0), .second, .val (.long q1), .second, .val (.long q2), .second, .val (.long q3), .second, .val (.long qf), .second, .val (.int p5), .val (.int o5), .val (.ref w), .val (.ref b), .val (.long (((own_l0 q0 q1 q2 q3) ||| ((own_l1 q0 q1 q2 q3) <<< ((26 : Int32).toInt64 &&& 63))) ||| ((own_l2 q0 q1 q2 q3) <<< ((51 : Int32).toInt64 &&& 63)))), .second, .val (.long (((XT.ushrL (own_l2 q0 q1 q2 q3) (13 : Int32)) ||| ((own_l3 q0 q1 q2 q3) <<< ((13 : Int32).toInt64 &&& 63))) ||| ((own_l4 q0 q1 q2 q3) <<< ((38 : Int32).toInt64 &&& 63)))), .second, .unset, .unset, .unset, .unset] [(.int (6 : Int32)), (.ref b), (.long (own_l5 q0 q1 q2 q3))])) rfl rfl (hb hby at_292)) ?_
  show OG _ _ _ _ _ _ _ (T10.setTop (mkF m 293 #[.val (.long q0), .second, .val (.long q1), .second, .val (.long q2), .second, .val (.long q3), .second, .val (.long qf), .second, .val (.int p5), .val (.int o5), .val (.ref w), .val (.ref b), .val (.long (((own_l0 q0 q1 q2 q3) ||| ((own_l1 q0 q1 q2 q3) <<< ((26 : Int32).toInt64 &&& 63))) ||| ((own_l2 q0 q1 q2 q3) <<< ((51 : Int32).toInt64 &&& 63)))), .second, .val (.long (((XT.ushrL (own_l2 q0 q1 q2 q3) (13 : Int32)) ||| ((own_l3 q0 q1 q2 q3) <<< ((13 : Int32).toInt64 &&& 63))) ||| ((own_l4 q0 q1 q2 q3) <<< ((38 : Int32).toInt64 &&& 63)))), .second, .unset, .unset, .unset, .unset] [(.long (own_l6 q0 q1 q2 q3)), (.long (own_l5 q0 q1 q2 q3))]))
  refine OG.of (A := T10.setTop (mkF m 301 #[.val (.long q0), .second, .val (.long q1), .second, .val (.long q2), .second, .val (.long q3), .second, .val (.long qf), .second, .val (.int p5), .val (.int o5), .val (.ref w), .val (.ref b), .val (.long (((own_l0 q0 q1 q2 q3) ||| ((own_l1 q0 q1 q2 q3) <<< ((26 : Int32).toInt64 &&& 63))) ||| ((own_l2 q0 q1 q2 q3) <<< ((51 : Int32).toInt64 &&& 63)))), .second, .val (.long (((XT.ushrL (own_l2 q0 q1 q2 q3) (13 : Int32)) ||| ((own_l3 q0 q1 q2 q3) <<< ((13 : Int32).toInt64 &&& 63))) ||| ((own_l4 q0 q1 q2 q3) <<< ((38 : Int32).toInt64 &&& 63)))), .second, .unset, .unset, .unset, .unset] [(.int (7 : Int32)), (.ref b), (.long ((own_l5 q0 q1 q2 q3) ||| ((own_l6 q0 q1 q2 q3) <<< ((25 : Int32).toInt64 &&& 63))))])) (fun oT oK => ?_) ?_
  · show Steps p.tables e below (T10.setTop (mkF m 293 #[.val (.long q0), .second, .val (.long q1), .second, .val (.long q2), .second, .val (.long q3), .second, .val (.long qf), .second, .val (.int p5), .val (.int o5), .val (.ref w), .val (.ref b), .val (.long (((own_l0 q0 q1 q2 q3) ||| ((own_l1 q0 q1 q2 q3) <<< ((26 : Int32).toInt64 &&& 63))) ||| ((own_l2 q0 q1 q2 q3) <<< ((51 : Int32).toInt64 &&& 63)))), .second, .val (.long (((XT.ushrL (own_l2 q0 q1 q2 q3) (13 : Int32)) ||| ((own_l3 q0 q1 q2 q3) <<< ((13 : Int32).toInt64 &&& 63))) ||| ((own_l4 q0 q1 q2 q3) <<< ((38 : Int32).toInt64 &&& 63)))), .second, .unset, .unset, .unset, .unset] [(.long (own_l6 q0 q1 q2 q3)), (.long (own_l5 q0 q1 q2 q3))])) oT
    refine XS.bipush X10.here hx rfl (hb hby at_293) ?_
    show Steps p.tables e below (T10.setTop (mkF m 295 #[.val (.long q0), .second, .val (.long q1), .second, .val (.long q2), .second, .val (.long q3), .second, .val (.long qf), .second, .val (.int p5), .val (.int o5), .val (.ref w), .val (.ref b), .val (.long (((own_l0 q0 q1 q2 q3) ||| ((own_l1 q0 q1 q2 q3) <<< ((26 : Int32).toInt64 &&& 63))) ||| ((own_l2 q0 q1 q2 q3) <<< ((51 : Int32).toInt64 &&& 63)))), .second, .val (.long (((XT.ushrL (own_l2 q0 q1 q2 q3) (13 : Int32)) ||| ((own_l3 q0 q1 q2 q3) <<< ((13 : Int32).toInt64 &&& 63))) ||| ((own_l4 q0 q1 q2 q3) <<< ((38 : Int32).toInt64 &&& 63)))), .second, .unset, .unset, .unset, .unset] [(.int (25 : Int32)), (.long (own_l6 q0 q1 q2 q3)), (.long (own_l5 q0 q1 q2 q3))])) _
    refine XT.lshl X10.here hx rfl (hb hby at_295) rfl ?_
    show Steps p.tables e below (T10.setTop (mkF m 296 #[.val (.long q0), .second, .val (.long q1), .second, .val (.long q2), .second, .val (.long q3), .second, .val (.long qf), .second, .val (.int p5), .val (.int o5), .val (.ref w), .val (.ref b), .val (.long (((own_l0 q0 q1 q2 q3) ||| ((own_l1 q0 q1 q2 q3) <<< ((26 : Int32).toInt64 &&& 63))) ||| ((own_l2 q0 q1 q2 q3) <<< ((51 : Int32).toInt64 &&& 63)))), .second, .val (.long (((XT.ushrL (own_l2 q0 q1 q2 q3) (13 : Int32)) ||| ((own_l3 q0 q1 q2 q3) <<< ((13 : Int32).toInt64 &&& 63))) ||| ((own_l4 q0 q1 q2 q3) <<< ((38 : Int32).toInt64 &&& 63)))), .second, .unset, .unset, .unset, .unset] [(.long ((own_l6 q0 q1 q2 q3) <<< ((25 : Int32).toInt64 &&& 63))), (.long (own_l5 q0 q1 q2 q3))])) _
    refine XT.lor X10.here hx rfl (hb hby at_296) rfl ?_
    show Steps p.tables e below (T10.setTop (mkF m 297 #[.val (.long q0), .second, .val (.long q1), .second, .val (.long q2), .second, .val (.long q3), .second, .val (.long qf), .second, .val (.int p5), .val (.int o5), .val (.ref w), .val (.ref b), .val (.long (((own_l0 q0 q1 q2 q3) ||| ((own_l1 q0 q1 q2 q3) <<< ((26 : Int32).toInt64 &&& 63))) ||| ((own_l2 q0 q1 q2 q3) <<< ((51 : Int32).toInt64 &&& 63)))), .second, .val (.long (((XT.ushrL (own_l2 q0 q1 q2 q3) (13 : Int32)) ||| ((own_l3 q0 q1 q2 q3) <<< ((13 : Int32).toInt64 &&& 63))) ||| ((own_l4 q0 q1 q2 q3) <<< ((38 : Int32).toInt64 &&& 63)))), .second, .unset, .unset, .unset, .unset] [(.long ((own_l5 q0 q1 q2 q3) ||| ((own_l6 q0 q1 q2 q3) <<< ((25 : Int32).toInt64 &&& 63))))])) _
    refine XS.aload X10.here hx rfl (hb hby at_297) rfl rfl  ?_
    show Steps p.tables e below (T10.setTop (mkF m 299 #[.val (.long q0), .second, .val (.long q1), .second, .val (.long q2), .second, .val (.long q3), .second, .val (.long qf), .second, .val (.int p5), .val (.int o5), .val (.ref w), .val (.ref b), .val (.long (((own_l0 q0 q1 q2 q3) ||| ((own_l1 q0 q1 q2 q3) <<< ((26 : Int32).toInt64 &&& 63))) ||| ((own_l2 q0 q1 q2 q3) <<< ((51 : Int32).toInt64 &&& 63)))), .second, .val (.long (((XT.ushrL (own_l2 q0 q1 q2 q3) (13 : Int32)) ||| ((own_l3 q0 q1 q2 q3) <<< ((13 : Int32).toInt64 &&& 63))) ||| ((own_l4 q0 q1 q2 q3) <<< ((38 : Int32).toInt64 &&& 63)))), .second, .unset, .unset, .unset, .unset] [(.ref b), (.long ((own_l5 q0 q1 q2 q3) ||| ((own_l6 q0 q1 q2 q3) <<< ((25 : Int32).toInt64 &&& 63))))])) _
    refine XS.bipush X10.here hx rfl (hb hby at_299) ?_
    exact oK
  show OG _ _ _ _ _ _ _ (T10.setTop (mkF m 301 #[.val (.long q0), .second, .val (.long q1), .second, .val (.long q2), .second, .val (.long q3), .second, .val (.long qf), .second, .val (.int p5), .val (.int o5), .val (.ref w), .val (.ref b), .val (.long (((own_l0 q0 q1 q2 q3) ||| ((own_l1 q0 q1 q2 q3) <<< ((26 : Int32).toInt64 &&& 63))) ||| ((own_l2 q0 q1 q2 q3) <<< ((51 : Int32).toInt64 &&& 63)))), .second, .val (.long (((XT.ushrL (own_l2 q0 q1 q2 q3) (13 : Int32)) ||| ((own_l3 q0 q1 q2 q3) <<< ((13 : Int32).toInt64 &&& 63))) ||| ((own_l4 q0 q1 q2 q3) <<< ((38 : Int32).toInt64 &&& 63)))), .second, .unset, .unset, .unset, .unset] [(.int (7 : Int32)), (.ref b), (.long ((own_l5 q0 q1 q2 q3) ||| ((own_l6 q0 q1 q2 q3) <<< ((25 : Int32).toInt64 &&& 63))))]))
  have cf20 := V0
  obtain ⟨clf20, Arf20, qf20, Sf20, Mf20, Hf20, Gf20⟩ := cf20
  refine OG.of (X10.laload hx (j := (7 : Int32)) (v := (.long (own_l7 q0 q1 q2 q3))) (by rw [e10]; exact Arf20.1) (State.isArrayOf_alike hZ.alike Arf20.2.1) Arf20.2.2 (inb_of Sf20 ⟨by decide, by decide⟩) (Hf20.at (inb_of Sf20 ⟨by decide, by decide⟩) rfl) (g := (mkF m 301 #[.val (.long q0), .second, .val (.long q1), .second, .val (.long q2), .second, .val (.long q3), .second, .val (.long qf), .second, .val (.int p5), .val (.int o5), .val (.ref w), .val (.ref b), .val (.long (((own_l0 q0 q1 q2 q3) ||| ((own_l1 q0 q1 q2 q3) <<< ((26 : Int32).toInt64 &&& 63))) ||| ((own_l2 q0 q1 q2 q3) <<< ((51 : Int32).toInt64 &&& 63)))), .second, .val (.long (((XT.ushrL (own_l2 q0 q1 q2 q3) (13 : Int32)) ||| ((own_l3 q0 q1 q2 q3) <<< ((13 : Int32).toInt64 &&& 63))) ||| ((own_l4 q0 q1 q2 q3) <<< ((38 : Int32).toInt64 &&& 63)))), .second, .unset, .unset, .unset, .unset] [(.int (7 : Int32)), (.ref b), (.long ((own_l5 q0 q1 q2 q3) ||| ((own_l6 q0 q1 q2 q3) <<< ((25 : Int32).toInt64 &&& 63))))])) rfl rfl (hb hby at_301)) ?_
  show OG _ _ _ _ _ _ _ (T10.setTop (mkF m 302 #[.val (.long q0), .second, .val (.long q1), .second, .val (.long q2), .second, .val (.long q3), .second, .val (.long qf), .second, .val (.int p5), .val (.int o5), .val (.ref w), .val (.ref b), .val (.long (((own_l0 q0 q1 q2 q3) ||| ((own_l1 q0 q1 q2 q3) <<< ((26 : Int32).toInt64 &&& 63))) ||| ((own_l2 q0 q1 q2 q3) <<< ((51 : Int32).toInt64 &&& 63)))), .second, .val (.long (((XT.ushrL (own_l2 q0 q1 q2 q3) (13 : Int32)) ||| ((own_l3 q0 q1 q2 q3) <<< ((13 : Int32).toInt64 &&& 63))) ||| ((own_l4 q0 q1 q2 q3) <<< ((38 : Int32).toInt64 &&& 63)))), .second, .unset, .unset, .unset, .unset] [(.long (own_l7 q0 q1 q2 q3)), (.long ((own_l5 q0 q1 q2 q3) ||| ((own_l6 q0 q1 q2 q3) <<< ((25 : Int32).toInt64 &&& 63))))]))
  refine OG.of (A := T10.setTop (mkF m 312 #[.val (.long q0), .second, .val (.long q1), .second, .val (.long q2), .second, .val (.long q3), .second, .val (.long qf), .second, .val (.int p5), .val (.int o5), .val (.ref w), .val (.ref b), .val (.long (((own_l0 q0 q1 q2 q3) ||| ((own_l1 q0 q1 q2 q3) <<< ((26 : Int32).toInt64 &&& 63))) ||| ((own_l2 q0 q1 q2 q3) <<< ((51 : Int32).toInt64 &&& 63)))), .second, .val (.long (((XT.ushrL (own_l2 q0 q1 q2 q3) (13 : Int32)) ||| ((own_l3 q0 q1 q2 q3) <<< ((13 : Int32).toInt64 &&& 63))) ||| ((own_l4 q0 q1 q2 q3) <<< ((38 : Int32).toInt64 &&& 63)))), .second, .val (.long (((own_l5 q0 q1 q2 q3) ||| ((own_l6 q0 q1 q2 q3) <<< ((25 : Int32).toInt64 &&& 63))) ||| ((own_l7 q0 q1 q2 q3) <<< ((51 : Int32).toInt64 &&& 63)))), .second, .unset, .unset] [(.int (7 : Int32)), (.ref b)])) (fun oT oK => ?_) ?_
  · show Steps p.tables e below (T10.setTop (mkF m 302 #[.val (.long q0), .second, .val (.long q1), .second, .val (.long q2), .second, .val (.long q3), .second, .val (.long qf), .second, .val (.int p5), .val (.int o5), .val (.ref w), .val (.ref b), .val (.long (((own_l0 q0 q1 q2 q3) ||| ((own_l1 q0 q1 q2 q3) <<< ((26 : Int32).toInt64 &&& 63))) ||| ((own_l2 q0 q1 q2 q3) <<< ((51 : Int32).toInt64 &&& 63)))), .second, .val (.long (((XT.ushrL (own_l2 q0 q1 q2 q3) (13 : Int32)) ||| ((own_l3 q0 q1 q2 q3) <<< ((13 : Int32).toInt64 &&& 63))) ||| ((own_l4 q0 q1 q2 q3) <<< ((38 : Int32).toInt64 &&& 63)))), .second, .unset, .unset, .unset, .unset] [(.long (own_l7 q0 q1 q2 q3)), (.long ((own_l5 q0 q1 q2 q3) ||| ((own_l6 q0 q1 q2 q3) <<< ((25 : Int32).toInt64 &&& 63))))])) oT
    refine XS.bipush X10.here hx rfl (hb hby at_302) ?_
    show Steps p.tables e below (T10.setTop (mkF m 304 #[.val (.long q0), .second, .val (.long q1), .second, .val (.long q2), .second, .val (.long q3), .second, .val (.long qf), .second, .val (.int p5), .val (.int o5), .val (.ref w), .val (.ref b), .val (.long (((own_l0 q0 q1 q2 q3) ||| ((own_l1 q0 q1 q2 q3) <<< ((26 : Int32).toInt64 &&& 63))) ||| ((own_l2 q0 q1 q2 q3) <<< ((51 : Int32).toInt64 &&& 63)))), .second, .val (.long (((XT.ushrL (own_l2 q0 q1 q2 q3) (13 : Int32)) ||| ((own_l3 q0 q1 q2 q3) <<< ((13 : Int32).toInt64 &&& 63))) ||| ((own_l4 q0 q1 q2 q3) <<< ((38 : Int32).toInt64 &&& 63)))), .second, .unset, .unset, .unset, .unset] [(.int (51 : Int32)), (.long (own_l7 q0 q1 q2 q3)), (.long ((own_l5 q0 q1 q2 q3) ||| ((own_l6 q0 q1 q2 q3) <<< ((25 : Int32).toInt64 &&& 63))))])) _
    refine XT.lshl X10.here hx rfl (hb hby at_304) rfl ?_
    show Steps p.tables e below (T10.setTop (mkF m 305 #[.val (.long q0), .second, .val (.long q1), .second, .val (.long q2), .second, .val (.long q3), .second, .val (.long qf), .second, .val (.int p5), .val (.int o5), .val (.ref w), .val (.ref b), .val (.long (((own_l0 q0 q1 q2 q3) ||| ((own_l1 q0 q1 q2 q3) <<< ((26 : Int32).toInt64 &&& 63))) ||| ((own_l2 q0 q1 q2 q3) <<< ((51 : Int32).toInt64 &&& 63)))), .second, .val (.long (((XT.ushrL (own_l2 q0 q1 q2 q3) (13 : Int32)) ||| ((own_l3 q0 q1 q2 q3) <<< ((13 : Int32).toInt64 &&& 63))) ||| ((own_l4 q0 q1 q2 q3) <<< ((38 : Int32).toInt64 &&& 63)))), .second, .unset, .unset, .unset, .unset] [(.long ((own_l7 q0 q1 q2 q3) <<< ((51 : Int32).toInt64 &&& 63))), (.long ((own_l5 q0 q1 q2 q3) ||| ((own_l6 q0 q1 q2 q3) <<< ((25 : Int32).toInt64 &&& 63))))])) _
    refine XT.lor X10.here hx rfl (hb hby at_305) rfl ?_
    show Steps p.tables e below (T10.setTop (mkF m 306 #[.val (.long q0), .second, .val (.long q1), .second, .val (.long q2), .second, .val (.long q3), .second, .val (.long qf), .second, .val (.int p5), .val (.int o5), .val (.ref w), .val (.ref b), .val (.long (((own_l0 q0 q1 q2 q3) ||| ((own_l1 q0 q1 q2 q3) <<< ((26 : Int32).toInt64 &&& 63))) ||| ((own_l2 q0 q1 q2 q3) <<< ((51 : Int32).toInt64 &&& 63)))), .second, .val (.long (((XT.ushrL (own_l2 q0 q1 q2 q3) (13 : Int32)) ||| ((own_l3 q0 q1 q2 q3) <<< ((13 : Int32).toInt64 &&& 63))) ||| ((own_l4 q0 q1 q2 q3) <<< ((38 : Int32).toInt64 &&& 63)))), .second, .unset, .unset, .unset, .unset] [(.long (((own_l5 q0 q1 q2 q3) ||| ((own_l6 q0 q1 q2 q3) <<< ((25 : Int32).toInt64 &&& 63))) ||| ((own_l7 q0 q1 q2 q3) <<< ((51 : Int32).toInt64 &&& 63))))])) _
    refine XT.lstore X10.here hx rfl (hb hby at_306) rfl (l' := #[.val (.long q0), .second, .val (.long q1), .second, .val (.long q2), .second, .val (.long q3), .second, .val (.long qf), .second, .val (.int p5), .val (.int o5), .val (.ref w), .val (.ref b), .val (.long (((own_l0 q0 q1 q2 q3) ||| ((own_l1 q0 q1 q2 q3) <<< ((26 : Int32).toInt64 &&& 63))) ||| ((own_l2 q0 q1 q2 q3) <<< ((51 : Int32).toInt64 &&& 63)))), .second, .val (.long (((XT.ushrL (own_l2 q0 q1 q2 q3) (13 : Int32)) ||| ((own_l3 q0 q1 q2 q3) <<< ((13 : Int32).toInt64 &&& 63))) ||| ((own_l4 q0 q1 q2 q3) <<< ((38 : Int32).toInt64 &&& 63)))), .second, .val (.long (((own_l5 q0 q1 q2 q3) ||| ((own_l6 q0 q1 q2 q3) <<< ((25 : Int32).toInt64 &&& 63))) ||| ((own_l7 q0 q1 q2 q3) <<< ((51 : Int32).toInt64 &&& 63)))), .second, .unset, .unset]) rfl ?_
    show Steps p.tables e below (T10.setTop (mkF m 308 #[.val (.long q0), .second, .val (.long q1), .second, .val (.long q2), .second, .val (.long q3), .second, .val (.long qf), .second, .val (.int p5), .val (.int o5), .val (.ref w), .val (.ref b), .val (.long (((own_l0 q0 q1 q2 q3) ||| ((own_l1 q0 q1 q2 q3) <<< ((26 : Int32).toInt64 &&& 63))) ||| ((own_l2 q0 q1 q2 q3) <<< ((51 : Int32).toInt64 &&& 63)))), .second, .val (.long (((XT.ushrL (own_l2 q0 q1 q2 q3) (13 : Int32)) ||| ((own_l3 q0 q1 q2 q3) <<< ((13 : Int32).toInt64 &&& 63))) ||| ((own_l4 q0 q1 q2 q3) <<< ((38 : Int32).toInt64 &&& 63)))), .second, .val (.long (((own_l5 q0 q1 q2 q3) ||| ((own_l6 q0 q1 q2 q3) <<< ((25 : Int32).toInt64 &&& 63))) ||| ((own_l7 q0 q1 q2 q3) <<< ((51 : Int32).toInt64 &&& 63)))), .second, .unset, .unset] [])) _
    refine XS.aload X10.here hx rfl (hb hby at_308) rfl rfl  ?_
    show Steps p.tables e below (T10.setTop (mkF m 310 #[.val (.long q0), .second, .val (.long q1), .second, .val (.long q2), .second, .val (.long q3), .second, .val (.long qf), .second, .val (.int p5), .val (.int o5), .val (.ref w), .val (.ref b), .val (.long (((own_l0 q0 q1 q2 q3) ||| ((own_l1 q0 q1 q2 q3) <<< ((26 : Int32).toInt64 &&& 63))) ||| ((own_l2 q0 q1 q2 q3) <<< ((51 : Int32).toInt64 &&& 63)))), .second, .val (.long (((XT.ushrL (own_l2 q0 q1 q2 q3) (13 : Int32)) ||| ((own_l3 q0 q1 q2 q3) <<< ((13 : Int32).toInt64 &&& 63))) ||| ((own_l4 q0 q1 q2 q3) <<< ((38 : Int32).toInt64 &&& 63)))), .second, .val (.long (((own_l5 q0 q1 q2 q3) ||| ((own_l6 q0 q1 q2 q3) <<< ((25 : Int32).toInt64 &&& 63))) ||| ((own_l7 q0 q1 q2 q3) <<< ((51 : Int32).toInt64 &&& 63)))), .second, .unset, .unset] [(.ref b)])) _
    refine XS.bipush X10.here hx rfl (hb hby at_310) ?_
    exact oK
  show OG _ _ _ _ _ _ _ (T10.setTop (mkF m 312 #[.val (.long q0), .second, .val (.long q1), .second, .val (.long q2), .second, .val (.long q3), .second, .val (.long qf), .second, .val (.int p5), .val (.int o5), .val (.ref w), .val (.ref b), .val (.long (((own_l0 q0 q1 q2 q3) ||| ((own_l1 q0 q1 q2 q3) <<< ((26 : Int32).toInt64 &&& 63))) ||| ((own_l2 q0 q1 q2 q3) <<< ((51 : Int32).toInt64 &&& 63)))), .second, .val (.long (((XT.ushrL (own_l2 q0 q1 q2 q3) (13 : Int32)) ||| ((own_l3 q0 q1 q2 q3) <<< ((13 : Int32).toInt64 &&& 63))) ||| ((own_l4 q0 q1 q2 q3) <<< ((38 : Int32).toInt64 &&& 63)))), .second, .val (.long (((own_l5 q0 q1 q2 q3) ||| ((own_l6 q0 q1 q2 q3) <<< ((25 : Int32).toInt64 &&& 63))) ||| ((own_l7 q0 q1 q2 q3) <<< ((51 : Int32).toInt64 &&& 63)))), .second, .unset, .unset] [(.int (7 : Int32)), (.ref b)]))
  have cf21 := V0
  obtain ⟨clf21, Arf21, qf21, Sf21, Mf21, Hf21, Gf21⟩ := cf21
  refine OG.of (X10.laload hx (j := (7 : Int32)) (v := (.long (own_l7 q0 q1 q2 q3))) (by rw [e10]; exact Arf21.1) (State.isArrayOf_alike hZ.alike Arf21.2.1) Arf21.2.2 (inb_of Sf21 ⟨by decide, by decide⟩) (Hf21.at (inb_of Sf21 ⟨by decide, by decide⟩) rfl) (g := (mkF m 312 #[.val (.long q0), .second, .val (.long q1), .second, .val (.long q2), .second, .val (.long q3), .second, .val (.long qf), .second, .val (.int p5), .val (.int o5), .val (.ref w), .val (.ref b), .val (.long (((own_l0 q0 q1 q2 q3) ||| ((own_l1 q0 q1 q2 q3) <<< ((26 : Int32).toInt64 &&& 63))) ||| ((own_l2 q0 q1 q2 q3) <<< ((51 : Int32).toInt64 &&& 63)))), .second, .val (.long (((XT.ushrL (own_l2 q0 q1 q2 q3) (13 : Int32)) ||| ((own_l3 q0 q1 q2 q3) <<< ((13 : Int32).toInt64 &&& 63))) ||| ((own_l4 q0 q1 q2 q3) <<< ((38 : Int32).toInt64 &&& 63)))), .second, .val (.long (((own_l5 q0 q1 q2 q3) ||| ((own_l6 q0 q1 q2 q3) <<< ((25 : Int32).toInt64 &&& 63))) ||| ((own_l7 q0 q1 q2 q3) <<< ((51 : Int32).toInt64 &&& 63)))), .second, .unset, .unset] [(.int (7 : Int32)), (.ref b)])) rfl rfl (hb hby at_312)) ?_
  show OG _ _ _ _ _ _ _ (T10.setTop (mkF m 313 #[.val (.long q0), .second, .val (.long q1), .second, .val (.long q2), .second, .val (.long q3), .second, .val (.long qf), .second, .val (.int p5), .val (.int o5), .val (.ref w), .val (.ref b), .val (.long (((own_l0 q0 q1 q2 q3) ||| ((own_l1 q0 q1 q2 q3) <<< ((26 : Int32).toInt64 &&& 63))) ||| ((own_l2 q0 q1 q2 q3) <<< ((51 : Int32).toInt64 &&& 63)))), .second, .val (.long (((XT.ushrL (own_l2 q0 q1 q2 q3) (13 : Int32)) ||| ((own_l3 q0 q1 q2 q3) <<< ((13 : Int32).toInt64 &&& 63))) ||| ((own_l4 q0 q1 q2 q3) <<< ((38 : Int32).toInt64 &&& 63)))), .second, .val (.long (((own_l5 q0 q1 q2 q3) ||| ((own_l6 q0 q1 q2 q3) <<< ((25 : Int32).toInt64 &&& 63))) ||| ((own_l7 q0 q1 q2 q3) <<< ((51 : Int32).toInt64 &&& 63)))), .second, .unset, .unset] [(.long (own_l7 q0 q1 q2 q3))]))
  refine OG.of (A := T10.setTop (mkF m 320 #[.val (.long q0), .second, .val (.long q1), .second, .val (.long q2), .second, .val (.long q3), .second, .val (.long qf), .second, .val (.int p5), .val (.int o5), .val (.ref w), .val (.ref b), .val (.long (((own_l0 q0 q1 q2 q3) ||| ((own_l1 q0 q1 q2 q3) <<< ((26 : Int32).toInt64 &&& 63))) ||| ((own_l2 q0 q1 q2 q3) <<< ((51 : Int32).toInt64 &&& 63)))), .second, .val (.long (((XT.ushrL (own_l2 q0 q1 q2 q3) (13 : Int32)) ||| ((own_l3 q0 q1 q2 q3) <<< ((13 : Int32).toInt64 &&& 63))) ||| ((own_l4 q0 q1 q2 q3) <<< ((38 : Int32).toInt64 &&& 63)))), .second, .val (.long (((own_l5 q0 q1 q2 q3) ||| ((own_l6 q0 q1 q2 q3) <<< ((25 : Int32).toInt64 &&& 63))) ||| ((own_l7 q0 q1 q2 q3) <<< ((51 : Int32).toInt64 &&& 63)))), .second, .unset, .unset] [(.int (8 : Int32)), (.ref b), (.long (XT.ushrL (own_l7 q0 q1 q2 q3) (13 : Int32)))])) (fun oT oK => ?_) ?_
  · show Steps p.tables e below (T10.setTop (mkF m 313 #[.val (.long q0), .second, .val (.long q1), .second, .val (.long q2), .second, .val (.long q3), .second, .val (.long qf), .second, .val (.int p5), .val (.int o5), .val (.ref w), .val (.ref b), .val (.long (((own_l0 q0 q1 q2 q3) ||| ((own_l1 q0 q1 q2 q3) <<< ((26 : Int32).toInt64 &&& 63))) ||| ((own_l2 q0 q1 q2 q3) <<< ((51 : Int32).toInt64 &&& 63)))), .second, .val (.long (((XT.ushrL (own_l2 q0 q1 q2 q3) (13 : Int32)) ||| ((own_l3 q0 q1 q2 q3) <<< ((13 : Int32).toInt64 &&& 63))) ||| ((own_l4 q0 q1 q2 q3) <<< ((38 : Int32).toInt64 &&& 63)))), .second, .val (.long (((own_l5 q0 q1 q2 q3) ||| ((own_l6 q0 q1 q2 q3) <<< ((25 : Int32).toInt64 &&& 63))) ||| ((own_l7 q0 q1 q2 q3) <<< ((51 : Int32).toInt64 &&& 63)))), .second, .unset, .unset] [(.long (own_l7 q0 q1 q2 q3))])) oT
    refine XS.bipush X10.here hx rfl (hb hby at_313) ?_
    show Steps p.tables e below (T10.setTop (mkF m 315 #[.val (.long q0), .second, .val (.long q1), .second, .val (.long q2), .second, .val (.long q3), .second, .val (.long qf), .second, .val (.int p5), .val (.int o5), .val (.ref w), .val (.ref b), .val (.long (((own_l0 q0 q1 q2 q3) ||| ((own_l1 q0 q1 q2 q3) <<< ((26 : Int32).toInt64 &&& 63))) ||| ((own_l2 q0 q1 q2 q3) <<< ((51 : Int32).toInt64 &&& 63)))), .second, .val (.long (((XT.ushrL (own_l2 q0 q1 q2 q3) (13 : Int32)) ||| ((own_l3 q0 q1 q2 q3) <<< ((13 : Int32).toInt64 &&& 63))) ||| ((own_l4 q0 q1 q2 q3) <<< ((38 : Int32).toInt64 &&& 63)))), .second, .val (.long (((own_l5 q0 q1 q2 q3) ||| ((own_l6 q0 q1 q2 q3) <<< ((25 : Int32).toInt64 &&& 63))) ||| ((own_l7 q0 q1 q2 q3) <<< ((51 : Int32).toInt64 &&& 63)))), .second, .unset, .unset] [(.int (13 : Int32)), (.long (own_l7 q0 q1 q2 q3))])) _
    refine XT.lushr X10.here hx rfl (hb hby at_315) rfl ?_
    show Steps p.tables e below (T10.setTop (mkF m 316 #[.val (.long q0), .second, .val (.long q1), .second, .val (.long q2), .second, .val (.long q3), .second, .val (.long qf), .second, .val (.int p5), .val (.int o5), .val (.ref w), .val (.ref b), .val (.long (((own_l0 q0 q1 q2 q3) ||| ((own_l1 q0 q1 q2 q3) <<< ((26 : Int32).toInt64 &&& 63))) ||| ((own_l2 q0 q1 q2 q3) <<< ((51 : Int32).toInt64 &&& 63)))), .second, .val (.long (((XT.ushrL (own_l2 q0 q1 q2 q3) (13 : Int32)) ||| ((own_l3 q0 q1 q2 q3) <<< ((13 : Int32).toInt64 &&& 63))) ||| ((own_l4 q0 q1 q2 q3) <<< ((38 : Int32).toInt64 &&& 63)))), .second, .val (.long (((own_l5 q0 q1 q2 q3) ||| ((own_l6 q0 q1 q2 q3) <<< ((25 : Int32).toInt64 &&& 63))) ||| ((own_l7 q0 q1 q2 q3) <<< ((51 : Int32).toInt64 &&& 63)))), .second, .unset, .unset] [(.long (XT.ushrL (own_l7 q0 q1 q2 q3) (13 : Int32)))])) _
    refine XS.aload X10.here hx rfl (hb hby at_316) rfl rfl  ?_
    show Steps p.tables e below (T10.setTop (mkF m 318 #[.val (.long q0), .second, .val (.long q1), .second, .val (.long q2), .second, .val (.long q3), .second, .val (.long qf), .second, .val (.int p5), .val (.int o5), .val (.ref w), .val (.ref b), .val (.long (((own_l0 q0 q1 q2 q3) ||| ((own_l1 q0 q1 q2 q3) <<< ((26 : Int32).toInt64 &&& 63))) ||| ((own_l2 q0 q1 q2 q3) <<< ((51 : Int32).toInt64 &&& 63)))), .second, .val (.long (((XT.ushrL (own_l2 q0 q1 q2 q3) (13 : Int32)) ||| ((own_l3 q0 q1 q2 q3) <<< ((13 : Int32).toInt64 &&& 63))) ||| ((own_l4 q0 q1 q2 q3) <<< ((38 : Int32).toInt64 &&& 63)))), .second, .val (.long (((own_l5 q0 q1 q2 q3) ||| ((own_l6 q0 q1 q2 q3) <<< ((25 : Int32).toInt64 &&& 63))) ||| ((own_l7 q0 q1 q2 q3) <<< ((51 : Int32).toInt64 &&& 63)))), .second, .unset, .unset] [(.ref b), (.long (XT.ushrL (own_l7 q0 q1 q2 q3) (13 : Int32)))])) _
    refine XS.bipush X10.here hx rfl (hb hby at_318) ?_
    exact oK
  show OG _ _ _ _ _ _ _ (T10.setTop (mkF m 320 #[.val (.long q0), .second, .val (.long q1), .second, .val (.long q2), .second, .val (.long q3), .second, .val (.long qf), .second, .val (.int p5), .val (.int o5), .val (.ref w), .val (.ref b), .val (.long (((own_l0 q0 q1 q2 q3) ||| ((own_l1 q0 q1 q2 q3) <<< ((26 : Int32).toInt64 &&& 63))) ||| ((own_l2 q0 q1 q2 q3) <<< ((51 : Int32).toInt64 &&& 63)))), .second, .val (.long (((XT.ushrL (own_l2 q0 q1 q2 q3) (13 : Int32)) ||| ((own_l3 q0 q1 q2 q3) <<< ((13 : Int32).toInt64 &&& 63))) ||| ((own_l4 q0 q1 q2 q3) <<< ((38 : Int32).toInt64 &&& 63)))), .second, .val (.long (((own_l5 q0 q1 q2 q3) ||| ((own_l6 q0 q1 q2 q3) <<< ((25 : Int32).toInt64 &&& 63))) ||| ((own_l7 q0 q1 q2 q3) <<< ((51 : Int32).toInt64 &&& 63)))), .second, .unset, .unset] [(.int (8 : Int32)), (.ref b), (.long (XT.ushrL (own_l7 q0 q1 q2 q3) (13 : Int32)))]))
  have cf22 := V0
  obtain ⟨clf22, Arf22, qf22, Sf22, Mf22, Hf22, Gf22⟩ := cf22
  refine OG.of (X10.laload hx (j := (8 : Int32)) (v := (.long (own_l8 q0 q1 q2 q3))) (by rw [e10]; exact Arf22.1) (State.isArrayOf_alike hZ.alike Arf22.2.1) Arf22.2.2 (inb_of Sf22 ⟨by decide, by decide⟩) (Hf22.at (inb_of Sf22 ⟨by decide, by decide⟩) rfl) (g := (mkF m 320 #[.val (.long q0), .second, .val (.long q1), .second, .val (.long q2), .second, .val (.long q3), .second, .val (.long qf), .second, .val (.int p5), .val (.int o5), .val (.ref w), .val (.ref b), .val (.long (((own_l0 q0 q1 q2 q3) ||| ((own_l1 q0 q1 q2 q3) <<< ((26 : Int32).toInt64 &&& 63))) ||| ((own_l2 q0 q1 q2 q3) <<< ((51 : Int32).toInt64 &&& 63)))), .second, .val (.long (((XT.ushrL (own_l2 q0 q1 q2 q3) (13 : Int32)) ||| ((own_l3 q0 q1 q2 q3) <<< ((13 : Int32).toInt64 &&& 63))) ||| ((own_l4 q0 q1 q2 q3) <<< ((38 : Int32).toInt64 &&& 63)))), .second, .val (.long (((own_l5 q0 q1 q2 q3) ||| ((own_l6 q0 q1 q2 q3) <<< ((25 : Int32).toInt64 &&& 63))) ||| ((own_l7 q0 q1 q2 q3) <<< ((51 : Int32).toInt64 &&& 63)))), .second, .unset, .unset] [(.int (8 : Int32)), (.ref b), (.long (XT.ushrL (own_l7 q0 q1 q2 q3) (13 : Int32)))])) rfl rfl (hb hby at_320)) ?_
  show OG _ _ _ _ _ _ _ (T10.setTop (mkF m 321 #[.val (.long q0), .second, .val (.long q1), .second, .val (.long q2), .second, .val (.long q3), .second, .val (.long qf), .second, .val (.int p5), .val (.int o5), .val (.ref w), .val (.ref b), .val (.long (((own_l0 q0 q1 q2 q3) ||| ((own_l1 q0 q1 q2 q3) <<< ((26 : Int32).toInt64 &&& 63))) ||| ((own_l2 q0 q1 q2 q3) <<< ((51 : Int32).toInt64 &&& 63)))), .second, .val (.long (((XT.ushrL (own_l2 q0 q1 q2 q3) (13 : Int32)) ||| ((own_l3 q0 q1 q2 q3) <<< ((13 : Int32).toInt64 &&& 63))) ||| ((own_l4 q0 q1 q2 q3) <<< ((38 : Int32).toInt64 &&& 63)))), .second, .val (.long (((own_l5 q0 q1 q2 q3) ||| ((own_l6 q0 q1 q2 q3) <<< ((25 : Int32).toInt64 &&& 63))) ||| ((own_l7 q0 q1 q2 q3) <<< ((51 : Int32).toInt64 &&& 63)))), .second, .unset, .unset] [(.long (own_l8 q0 q1 q2 q3)), (.long (XT.ushrL (own_l7 q0 q1 q2 q3) (13 : Int32)))]))
  refine OG.of (A := T10.setTop (mkF m 329 #[.val (.long q0), .second, .val (.long q1), .second, .val (.long q2), .second, .val (.long q3), .second, .val (.long qf), .second, .val (.int p5), .val (.int o5), .val (.ref w), .val (.ref b), .val (.long (((own_l0 q0 q1 q2 q3) ||| ((own_l1 q0 q1 q2 q3) <<< ((26 : Int32).toInt64 &&& 63))) ||| ((own_l2 q0 q1 q2 q3) <<< ((51 : Int32).toInt64 &&& 63)))), .second, .val (.long (((XT.ushrL (own_l2 q0 q1 q2 q3) (13 : Int32)) ||| ((own_l3 q0 q1 q2 q3) <<< ((13 : Int32).toInt64 &&& 63))) ||| ((own_l4 q0 q1 q2 q3) <<< ((38 : Int32).toInt64 &&& 63)))), .second, .val (.long (((own_l5 q0 q1 q2 q3) ||| ((own_l6 q0 q1 q2 q3) <<< ((25 : Int32).toInt64 &&& 63))) ||| ((own_l7 q0 q1 q2 q3) <<< ((51 : Int32).toInt64 &&& 63)))), .second, .unset, .unset] [(.int (9 : Int32)), (.ref b), (.long ((XT.ushrL (own_l7 q0 q1 q2 q3) (13 : Int32)) ||| ((own_l8 q0 q1 q2 q3) <<< ((12 : Int32).toInt64 &&& 63))))])) (fun oT oK => ?_) ?_
  · show Steps p.tables e below (T10.setTop (mkF m 321 #[.val (.long q0), .second, .val (.long q1), .second, .val (.long q2), .second, .val (.long q3), .second, .val (.long qf), .second, .val (.int p5), .val (.int o5), .val (.ref w), .val (.ref b), .val (.long (((own_l0 q0 q1 q2 q3) ||| ((own_l1 q0 q1 q2 q3) <<< ((26 : Int32).toInt64 &&& 63))) ||| ((own_l2 q0 q1 q2 q3) <<< ((51 : Int32).toInt64 &&& 63)))), .second, .val (.long (((XT.ushrL (own_l2 q0 q1 q2 q3) (13 : Int32)) ||| ((own_l3 q0 q1 q2 q3) <<< ((13 : Int32).toInt64 &&& 63))) ||| ((own_l4 q0 q1 q2 q3) <<< ((38 : Int32).toInt64 &&& 63)))), .second, .val (.long (((own_l5 q0 q1 q2 q3) ||| ((own_l6 q0 q1 q2 q3) <<< ((25 : Int32).toInt64 &&& 63))) ||| ((own_l7 q0 q1 q2 q3) <<< ((51 : Int32).toInt64 &&& 63)))), .second, .unset, .unset] [(.long (own_l8 q0 q1 q2 q3)), (.long (XT.ushrL (own_l7 q0 q1 q2 q3) (13 : Int32)))])) oT
    refine XS.bipush X10.here hx rfl (hb hby at_321) ?_
    show Steps p.tables e below (T10.setTop (mkF m 323 #[.val (.long q0), .second, .val (.long q1), .second, .val (.long q2), .second, .val (.long q3), .second, .val (.long qf), .second, .val (.int p5), .val (.int o5), .val (.ref w), .val (.ref b), .val (.long (((own_l0 q0 q1 q2 q3) ||| ((own_l1 q0 q1 q2 q3) <<< ((26 : Int32).toInt64 &&& 63))) ||| ((own_l2 q0 q1 q2 q3) <<< ((51 : Int32).toInt64 &&& 63)))), .second, .val (.long (((XT.ushrL (own_l2 q0 q1 q2 q3) (13 : Int32)) ||| ((own_l3 q0 q1 q2 q3) <<< ((13 : Int32).toInt64 &&& 63))) ||| ((own_l4 q0 q1 q2 q3) <<< ((38 : Int32).toInt64 &&& 63)))), .second, .val (.long (((own_l5 q0 q1 q2 q3) ||| ((own_l6 q0 q1 q2 q3) <<< ((25 : Int32).toInt64 &&& 63))) ||| ((own_l7 q0 q1 q2 q3) <<< ((51 : Int32).toInt64 &&& 63)))), .second, .unset, .unset] [(.int (12 : Int32)), (.long (own_l8 q0 q1 q2 q3)), (.long (XT.ushrL (own_l7 q0 q1 q2 q3) (13 : Int32)))])) _
    refine XT.lshl X10.here hx rfl (hb hby at_323) rfl ?_
    show Steps p.tables e below (T10.setTop (mkF m 324 #[.val (.long q0), .second, .val (.long q1), .second, .val (.long q2), .second, .val (.long q3), .second, .val (.long qf), .second, .val (.int p5), .val (.int o5), .val (.ref w), .val (.ref b), .val (.long (((own_l0 q0 q1 q2 q3) ||| ((own_l1 q0 q1 q2 q3) <<< ((26 : Int32).toInt64 &&& 63))) ||| ((own_l2 q0 q1 q2 q3) <<< ((51 : Int32).toInt64 &&& 63)))), .second, .val (.long (((XT.ushrL (own_l2 q0 q1 q2 q3) (13 : Int32)) ||| ((own_l3 q0 q1 q2 q3) <<< ((13 : Int32).toInt64 &&& 63))) ||| ((own_l4 q0 q1 q2 q3) <<< ((38 : Int32).toInt64 &&& 63)))), .second, .val (.long (((own_l5 q0 q1 q2 q3) ||| ((own_l6 q0 q1 q2 q3) <<< ((25 : Int32).toInt64 &&& 63))) ||| ((own_l7 q0 q1 q2 q3) <<< ((51 : Int32).toInt64 &&& 63)))), .second, .unset, .unset] [(.long ((own_l8 q0 q1 q2 q3) <<< ((12 : Int32).toInt64 &&& 63))), (.long (XT.ushrL (own_l7 q0 q1 q2 q3) (13 : Int32)))])) _
    refine XT.lor X10.here hx rfl (hb hby at_324) rfl ?_
    show Steps p.tables e below (T10.setTop (mkF m 325 #[.val (.long q0), .second, .val (.long q1), .second, .val (.long q2), .second, .val (.long q3), .second, .val (.long qf), .second, .val (.int p5), .val (.int o5), .val (.ref w), .val (.ref b), .val (.long (((own_l0 q0 q1 q2 q3) ||| ((own_l1 q0 q1 q2 q3) <<< ((26 : Int32).toInt64 &&& 63))) ||| ((own_l2 q0 q1 q2 q3) <<< ((51 : Int32).toInt64 &&& 63)))), .second, .val (.long (((XT.ushrL (own_l2 q0 q1 q2 q3) (13 : Int32)) ||| ((own_l3 q0 q1 q2 q3) <<< ((13 : Int32).toInt64 &&& 63))) ||| ((own_l4 q0 q1 q2 q3) <<< ((38 : Int32).toInt64 &&& 63)))), .second, .val (.long (((own_l5 q0 q1 q2 q3) ||| ((own_l6 q0 q1 q2 q3) <<< ((25 : Int32).toInt64 &&& 63))) ||| ((own_l7 q0 q1 q2 q3) <<< ((51 : Int32).toInt64 &&& 63)))), .second, .unset, .unset] [(.long ((XT.ushrL (own_l7 q0 q1 q2 q3) (13 : Int32)) ||| ((own_l8 q0 q1 q2 q3) <<< ((12 : Int32).toInt64 &&& 63))))])) _
    refine XS.aload X10.here hx rfl (hb hby at_325) rfl rfl  ?_
    show Steps p.tables e below (T10.setTop (mkF m 327 #[.val (.long q0), .second, .val (.long q1), .second, .val (.long q2), .second, .val (.long q3), .second, .val (.long qf), .second, .val (.int p5), .val (.int o5), .val (.ref w), .val (.ref b), .val (.long (((own_l0 q0 q1 q2 q3) ||| ((own_l1 q0 q1 q2 q3) <<< ((26 : Int32).toInt64 &&& 63))) ||| ((own_l2 q0 q1 q2 q3) <<< ((51 : Int32).toInt64 &&& 63)))), .second, .val (.long (((XT.ushrL (own_l2 q0 q1 q2 q3) (13 : Int32)) ||| ((own_l3 q0 q1 q2 q3) <<< ((13 : Int32).toInt64 &&& 63))) ||| ((own_l4 q0 q1 q2 q3) <<< ((38 : Int32).toInt64 &&& 63)))), .second, .val (.long (((own_l5 q0 q1 q2 q3) ||| ((own_l6 q0 q1 q2 q3) <<< ((25 : Int32).toInt64 &&& 63))) ||| ((own_l7 q0 q1 q2 q3) <<< ((51 : Int32).toInt64 &&& 63)))), .second, .unset, .unset] [(.ref b), (.long ((XT.ushrL (own_l7 q0 q1 q2 q3) (13 : Int32)) ||| ((own_l8 q0 q1 q2 q3) <<< ((12 : Int32).toInt64 &&& 63))))])) _
    refine XS.bipush X10.here hx rfl (hb hby at_327) ?_
    exact oK
  show OG _ _ _ _ _ _ _ (T10.setTop (mkF m 329 #[.val (.long q0), .second, .val (.long q1), .second, .val (.long q2), .second, .val (.long q3), .second, .val (.long qf), .second, .val (.int p5), .val (.int o5), .val (.ref w), .val (.ref b), .val (.long (((own_l0 q0 q1 q2 q3) ||| ((own_l1 q0 q1 q2 q3) <<< ((26 : Int32).toInt64 &&& 63))) ||| ((own_l2 q0 q1 q2 q3) <<< ((51 : Int32).toInt64 &&& 63)))), .second, .val (.long (((XT.ushrL (own_l2 q0 q1 q2 q3) (13 : Int32)) ||| ((own_l3 q0 q1 q2 q3) <<< ((13 : Int32).toInt64 &&& 63))) ||| ((own_l4 q0 q1 q2 q3) <<< ((38 : Int32).toInt64 &&& 63)))), .second, .val (.long (((own_l5 q0 q1 q2 q3) ||| ((own_l6 q0 q1 q2 q3) <<< ((25 : Int32).toInt64 &&& 63))) ||| ((own_l7 q0 q1 q2 q3) <<< ((51 : Int32).toInt64 &&& 63)))), .second, .unset, .unset] [(.int (9 : Int32)), (.ref b), (.long ((XT.ushrL (own_l7 q0 q1 q2 q3) (13 : Int32)) ||| ((own_l8 q0 q1 q2 q3) <<< ((12 : Int32).toInt64 &&& 63))))]))
  have cf23 := V0
  obtain ⟨clf23, Arf23, qf23, Sf23, Mf23, Hf23, Gf23⟩ := cf23
  refine OG.of (X10.laload hx (j := (9 : Int32)) (v := (.long (own_l9 q0 q1 q2 q3))) (by rw [e10]; exact Arf23.1) (State.isArrayOf_alike hZ.alike Arf23.2.1) Arf23.2.2 (inb_of Sf23 ⟨by decide, by decide⟩) (Hf23.at (inb_of Sf23 ⟨by decide, by decide⟩) rfl) (g := (mkF m 329 #[.val (.long q0), .second, .val (.long q1), .second, .val (.long q2), .second, .val (.long q3), .second, .val (.long qf), .second, .val (.int p5), .val (.int o5), .val (.ref w), .val (.ref b), .val (.long (((own_l0 q0 q1 q2 q3) ||| ((own_l1 q0 q1 q2 q3) <<< ((26 : Int32).toInt64 &&& 63))) ||| ((own_l2 q0 q1 q2 q3) <<< ((51 : Int32).toInt64 &&& 63)))), .second, .val (.long (((XT.ushrL (own_l2 q0 q1 q2 q3) (13 : Int32)) ||| ((own_l3 q0 q1 q2 q3) <<< ((13 : Int32).toInt64 &&& 63))) ||| ((own_l4 q0 q1 q2 q3) <<< ((38 : Int32).toInt64 &&& 63)))), .second, .val (.long (((own_l5 q0 q1 q2 q3) ||| ((own_l6 q0 q1 q2 q3) <<< ((25 : Int32).toInt64 &&& 63))) ||| ((own_l7 q0 q1 q2 q3) <<< ((51 : Int32).toInt64 &&& 63)))), .second, .unset, .unset] [(.int (9 : Int32)), (.ref b), (.long ((XT.ushrL (own_l7 q0 q1 q2 q3) (13 : Int32)) ||| ((own_l8 q0 q1 q2 q3) <<< ((12 : Int32).toInt64 &&& 63))))])) rfl rfl (hb hby at_329)) ?_
  show OG _ _ _ _ _ _ _ (T10.setTop (mkF m 330 #[.val (.long q0), .second, .val (.long q1), .second, .val (.long q2), .second, .val (.long q3), .second, .val (.long qf), .second, .val (.int p5), .val (.int o5), .val (.ref w), .val (.ref b), .val (.long (((own_l0 q0 q1 q2 q3) ||| ((own_l1 q0 q1 q2 q3) <<< ((26 : Int32).toInt64 &&& 63))) ||| ((own_l2 q0 q1 q2 q3) <<< ((51 : Int32).toInt64 &&& 63)))), .second, .val (.long (((XT.ushrL (own_l2 q0 q1 q2 q3) (13 : Int32)) ||| ((own_l3 q0 q1 q2 q3) <<< ((13 : Int32).toInt64 &&& 63))) ||| ((own_l4 q0 q1 q2 q3) <<< ((38 : Int32).toInt64 &&& 63)))), .second, .val (.long (((own_l5 q0 q1 q2 q3) ||| ((own_l6 q0 q1 q2 q3) <<< ((25 : Int32).toInt64 &&& 63))) ||| ((own_l7 q0 q1 q2 q3) <<< ((51 : Int32).toInt64 &&& 63)))), .second, .unset, .unset] [(.long (own_l9 q0 q1 q2 q3)), (.long ((XT.ushrL (own_l7 q0 q1 q2 q3) (13 : Int32)) ||| ((own_l8 q0 q1 q2 q3) <<< ((12 : Int32).toInt64 &&& 63))))]))
  refine OG.of (A := T10.setTop (mkF m 375 #[.val (.long q0), .second, .val (.long q1), .second, .val (.long q2), .second, .val (.long q3), .second, .val (.long qf), .second, .val (.int p5), .val (.int o5), .val (.ref w), .val (.ref b), .val (.long (((own_l0 q0 q1 q2 q3) ||| ((own_l1 q0 q1 q2 q3) <<< ((26 : Int32).toInt64 &&& 63))) ||| ((own_l2 q0 q1 q2 q3) <<< ((51 : Int32).toInt64 &&& 63)))), .second, .val (.long (((XT.ushrL (own_l2 q0 q1 q2 q3) (13 : Int32)) ||| ((own_l3 q0 q1 q2 q3) <<< ((13 : Int32).toInt64 &&& 63))) ||| ((own_l4 q0 q1 q2 q3) <<< ((38 : Int32).toInt64 &&& 63)))), .second, .val (.long (((own_l5 q0 q1 q2 q3) ||| ((own_l6 q0 q1 q2 q3) <<< ((25 : Int32).toInt64 &&& 63))) ||| ((own_l7 q0 q1 q2 q3) <<< ((51 : Int32).toInt64 &&& 63)))), .second, .val (.long (((XT.ushrL (own_l7 q0 q1 q2 q3) (13 : Int32)) ||| ((own_l8 q0 q1 q2 q3) <<< ((12 : Int32).toInt64 &&& 63))) ||| ((own_l9 q0 q1 q2 q3) <<< ((38 : Int32).toInt64 &&& 63)))), .second] [(.int (1 : Int32))])) (fun oT oK => ?_) ?_
  · show Steps p.tables e below (T10.setTop (mkF m 330 #[.val (.long q0), .second, .val (.long q1), .second, .val (.long q2), .second, .val (.long q3), .second, .val (.long qf), .second, .val (.int p5), .val (.int o5), .val (.ref w), .val (.ref b), .val (.long (((own_l0 q0 q1 q2 q3) ||| ((own_l1 q0 q1 q2 q3) <<< ((26 : Int32).toInt64 &&& 63))) ||| ((own_l2 q0 q1 q2 q3) <<< ((51 : Int32).toInt64 &&& 63)))), .second, .val (.long (((XT.ushrL (own_l2 q0 q1 q2 q3) (13 : Int32)) ||| ((own_l3 q0 q1 q2 q3) <<< ((13 : Int32).toInt64 &&& 63))) ||| ((own_l4 q0 q1 q2 q3) <<< ((38 : Int32).toInt64 &&& 63)))), .second, .val (.long (((own_l5 q0 q1 q2 q3) ||| ((own_l6 q0 q1 q2 q3) <<< ((25 : Int32).toInt64 &&& 63))) ||| ((own_l7 q0 q1 q2 q3) <<< ((51 : Int32).toInt64 &&& 63)))), .second, .unset, .unset] [(.long (own_l9 q0 q1 q2 q3)), (.long ((XT.ushrL (own_l7 q0 q1 q2 q3) (13 : Int32)) ||| ((own_l8 q0 q1 q2 q3) <<< ((12 : Int32).toInt64 &&& 63))))])) oT
    refine XS.bipush X10.here hx rfl (hb hby at_330) ?_
    show Steps p.tables e below (T10.setTop (mkF m 332 #[.val (.long q0), .second, .val (.long q1), .second, .val (.long q2), .second, .val (.long q3), .second, .val (.long qf), .second, .val (.int p5), .val (.int o5), .val (.ref w), .val (.ref b), .val (.long (((own_l0 q0 q1 q2 q3) ||| ((own_l1 q0 q1 q2 q3) <<< ((26 : Int32).toInt64 &&& 63))) ||| ((own_l2 q0 q1 q2 q3) <<< ((51 : Int32).toInt64 &&& 63)))), .second, .val (.long (((XT.ushrL (own_l2 q0 q1 q2 q3) (13 : Int32)) ||| ((own_l3 q0 q1 q2 q3) <<< ((13 : Int32).toInt64 &&& 63))) ||| ((own_l4 q0 q1 q2 q3) <<< ((38 : Int32).toInt64 &&& 63)))), .second, .val (.long (((own_l5 q0 q1 q2 q3) ||| ((own_l6 q0 q1 q2 q3) <<< ((25 : Int32).toInt64 &&& 63))) ||| ((own_l7 q0 q1 q2 q3) <<< ((51 : Int32).toInt64 &&& 63)))), .second, .unset, .unset] [(.int (38 : Int32)), (.long (own_l9 q0 q1 q2 q3)), (.long ((XT.ushrL (own_l7 q0 q1 q2 q3) (13 : Int32)) ||| ((own_l8 q0 q1 q2 q3) <<< ((12 : Int32).toInt64 &&& 63))))])) _
    refine XT.lshl X10.here hx rfl (hb hby at_332) rfl ?_
    show Steps p.tables e below (T10.setTop (mkF m 333 #[.val (.long q0), .second, .val (.long q1), .second, .val (.long q2), .second, .val (.long q3), .second, .val (.long qf), .second, .val (.int p5), .val (.int o5), .val (.ref w), .val (.ref b), .val (.long (((own_l0 q0 q1 q2 q3) ||| ((own_l1 q0 q1 q2 q3) <<< ((26 : Int32).toInt64 &&& 63))) ||| ((own_l2 q0 q1 q2 q3) <<< ((51 : Int32).toInt64 &&& 63)))), .second, .val (.long (((XT.ushrL (own_l2 q0 q1 q2 q3) (13 : Int32)) ||| ((own_l3 q0 q1 q2 q3) <<< ((13 : Int32).toInt64 &&& 63))) ||| ((own_l4 q0 q1 q2 q3) <<< ((38 : Int32).toInt64 &&& 63)))), .second, .val (.long (((own_l5 q0 q1 q2 q3) ||| ((own_l6 q0 q1 q2 q3) <<< ((25 : Int32).toInt64 &&& 63))) ||| ((own_l7 q0 q1 q2 q3) <<< ((51 : Int32).toInt64 &&& 63)))), .second, .unset, .unset] [(.long ((own_l9 q0 q1 q2 q3) <<< ((38 : Int32).toInt64 &&& 63))), (.long ((XT.ushrL (own_l7 q0 q1 q2 q3) (13 : Int32)) ||| ((own_l8 q0 q1 q2 q3) <<< ((12 : Int32).toInt64 &&& 63))))])) _
    refine XT.lor X10.here hx rfl (hb hby at_333) rfl ?_
    show Steps p.tables e below (T10.setTop (mkF m 334 #[.val (.long q0), .second, .val (.long q1), .second, .val (.long q2), .second, .val (.long q3), .second, .val (.long qf), .second, .val (.int p5), .val (.int o5), .val (.ref w), .val (.ref b), .val (.long (((own_l0 q0 q1 q2 q3) ||| ((own_l1 q0 q1 q2 q3) <<< ((26 : Int32).toInt64 &&& 63))) ||| ((own_l2 q0 q1 q2 q3) <<< ((51 : Int32).toInt64 &&& 63)))), .second, .val (.long (((XT.ushrL (own_l2 q0 q1 q2 q3) (13 : Int32)) ||| ((own_l3 q0 q1 q2 q3) <<< ((13 : Int32).toInt64 &&& 63))) ||| ((own_l4 q0 q1 q2 q3) <<< ((38 : Int32).toInt64 &&& 63)))), .second, .val (.long (((own_l5 q0 q1 q2 q3) ||| ((own_l6 q0 q1 q2 q3) <<< ((25 : Int32).toInt64 &&& 63))) ||| ((own_l7 q0 q1 q2 q3) <<< ((51 : Int32).toInt64 &&& 63)))), .second, .unset, .unset] [(.long (((XT.ushrL (own_l7 q0 q1 q2 q3) (13 : Int32)) ||| ((own_l8 q0 q1 q2 q3) <<< ((12 : Int32).toInt64 &&& 63))) ||| ((own_l9 q0 q1 q2 q3) <<< ((38 : Int32).toInt64 &&& 63))))])) _
    refine XT.lstore X10.here hx rfl (hb hby at_334) rfl (l' := #[.val (.long q0), .second, .val (.long q1), .second, .val (.long q2), .second, .val (.long q3), .second, .val (.long qf), .second, .val (.int p5), .val (.int o5), .val (.ref w), .val (.ref b), .val (.long (((own_l0 q0 q1 q2 q3) ||| ((own_l1 q0 q1 q2 q3) <<< ((26 : Int32).toInt64 &&& 63))) ||| ((own_l2 q0 q1 q2 q3) <<< ((51 : Int32).toInt64 &&& 63)))), .second, .val (.long (((XT.ushrL (own_l2 q0 q1 q2 q3) (13 : Int32)) ||| ((own_l3 q0 q1 q2 q3) <<< ((13 : Int32).toInt64 &&& 63))) ||| ((own_l4 q0 q1 q2 q3) <<< ((38 : Int32).toInt64 &&& 63)))), .second, .val (.long (((own_l5 q0 q1 q2 q3) ||| ((own_l6 q0 q1 q2 q3) <<< ((25 : Int32).toInt64 &&& 63))) ||| ((own_l7 q0 q1 q2 q3) <<< ((51 : Int32).toInt64 &&& 63)))), .second, .val (.long (((XT.ushrL (own_l7 q0 q1 q2 q3) (13 : Int32)) ||| ((own_l8 q0 q1 q2 q3) <<< ((12 : Int32).toInt64 &&& 63))) ||| ((own_l9 q0 q1 q2 q3) <<< ((38 : Int32).toInt64 &&& 63)))), .second]) rfl ?_
    show Steps p.tables e below (T10.setTop (mkF m 336 #[.val (.long q0), .second, .val (.long q1), .second, .val (.long q2), .second, .val (.long q3), .second, .val (.long qf), .second, .val (.int p5), .val (.int o5), .val (.ref w), .val (.ref b), .val (.long (((own_l0 q0 q1 q2 q3) ||| ((own_l1 q0 q1 q2 q3) <<< ((26 : Int32).toInt64 &&& 63))) ||| ((own_l2 q0 q1 q2 q3) <<< ((51 : Int32).toInt64 &&& 63)))), .second, .val (.long (((XT.ushrL (own_l2 q0 q1 q2 q3) (13 : Int32)) ||| ((own_l3 q0 q1 q2 q3) <<< ((13 : Int32).toInt64 &&& 63))) ||| ((own_l4 q0 q1 q2 q3) <<< ((38 : Int32).toInt64 &&& 63)))), .second, .val (.long (((own_l5 q0 q1 q2 q3) ||| ((own_l6 q0 q1 q2 q3) <<< ((25 : Int32).toInt64 &&& 63))) ||| ((own_l7 q0 q1 q2 q3) <<< ((51 : Int32).toInt64 &&& 63)))), .second, .val (.long (((XT.ushrL (own_l7 q0 q1 q2 q3) (13 : Int32)) ||| ((own_l8 q0 q1 q2 q3) <<< ((12 : Int32).toInt64 &&& 63))) ||| ((own_l9 q0 q1 q2 q3) <<< ((38 : Int32).toInt64 &&& 63)))), .second] [])) _
    refine XT.lload X10.here hx rfl (hb hby at_336) rfl  ?_
    show Steps p.tables e below (T10.setTop (mkF m 338 #[.val (.long q0), .second, .val (.long q1), .second, .val (.long q2), .second, .val (.long q3), .second, .val (.long qf), .second, .val (.int p5), .val (.int o5), .val (.ref w), .val (.ref b), .val (.long (((own_l0 q0 q1 q2 q3) ||| ((own_l1 q0 q1 q2 q3) <<< ((26 : Int32).toInt64 &&& 63))) ||| ((own_l2 q0 q1 q2 q3) <<< ((51 : Int32).toInt64 &&& 63)))), .second, .val (.long (((XT.ushrL (own_l2 q0 q1 q2 q3) (13 : Int32)) ||| ((own_l3 q0 q1 q2 q3) <<< ((13 : Int32).toInt64 &&& 63))) ||| ((own_l4 q0 q1 q2 q3) <<< ((38 : Int32).toInt64 &&& 63)))), .second, .val (.long (((own_l5 q0 q1 q2 q3) ||| ((own_l6 q0 q1 q2 q3) <<< ((25 : Int32).toInt64 &&& 63))) ||| ((own_l7 q0 q1 q2 q3) <<< ((51 : Int32).toInt64 &&& 63)))), .second, .val (.long (((XT.ushrL (own_l7 q0 q1 q2 q3) (13 : Int32)) ||| ((own_l8 q0 q1 q2 q3) <<< ((12 : Int32).toInt64 &&& 63))) ||| ((own_l9 q0 q1 q2 q3) <<< ((38 : Int32).toInt64 &&& 63)))), .second] [(.long (((own_l0 q0 q1 q2 q3) ||| ((own_l1 q0 q1 q2 q3) <<< ((26 : Int32).toInt64 &&& 63))) ||| ((own_l2 q0 q1 q2 q3) <<< ((51 : Int32).toInt64 &&& 63))))])) _
    refine XT.lloadN X10.here hx rfl (hb hby at_338) rfl  ?_
    show Steps p.tables e below (T10.setTop (mkF m 339 #[.val (.long q0), .second, .val (.long q1), .second, .val (.long q2), .second, .val (.long q3), .second, .val (.long qf), .second, .val (.int p5), .val (.int o5), .val (.ref w), .val (.ref b), .val (.long (((own_l0 q0 q1 q2 q3) ||| ((own_l1 q0 q1 q2 q3) <<< ((26 : Int32).toInt64 &&& 63))) ||| ((own_l2 q0 q1 q2 q3) <<< ((51 : Int32).toInt64 &&& 63)))), .second, .val (.long (((XT.ushrL (own_l2 q0 q1 q2 q3) (13 : Int32)) ||| ((own_l3 q0 q1 q2 q3) <<< ((13 : Int32).toInt64 &&& 63))) ||| ((own_l4 q0 q1 q2 q3) <<< ((38 : Int32).toInt64 &&& 63)))), .second, .val (.long (((own_l5 q0 q1 q2 q3) ||| ((own_l6 q0 q1 q2 q3) <<< ((25 : Int32).toInt64 &&& 63))) ||| ((own_l7 q0 q1 q2 q3) <<< ((51 : Int32).toInt64 &&& 63)))), .second, .val (.long (((XT.ushrL (own_l7 q0 q1 q2 q3) (13 : Int32)) ||| ((own_l8 q0 q1 q2 q3) <<< ((12 : Int32).toInt64 &&& 63))) ||| ((own_l9 q0 q1 q2 q3) <<< ((38 : Int32).toInt64 &&& 63)))), .second] [(.long q0), (.long (((own_l0 q0 q1 q2 q3) ||| ((own_l1 q0 q1 q2 q3) <<< ((26 : Int32).toInt64 &&& 63))) ||| ((own_l2 q0 q1 q2 q3) <<< ((51 : Int32).toInt64 &&& 63))))])) _
    refine XT.lcmp X10.here hx rfl (hb hby at_339) rfl ?_
    show Steps p.tables e below (T10.setTop (mkF m 340 #[.val (.long q0), .second, .val (.long q1), .second, .val (.long q2), .second, .val (.long q3), .second, .val (.long qf), .second, .val (.int p5), .val (.int o5), .val (.ref w), .val (.ref b), .val (.long (((own_l0 q0 q1 q2 q3) ||| ((own_l1 q0 q1 q2 q3) <<< ((26 : Int32).toInt64 &&& 63))) ||| ((own_l2 q0 q1 q2 q3) <<< ((51 : Int32).toInt64 &&& 63)))), .second, .val (.long (((XT.ushrL (own_l2 q0 q1 q2 q3) (13 : Int32)) ||| ((own_l3 q0 q1 q2 q3) <<< ((13 : Int32).toInt64 &&& 63))) ||| ((own_l4 q0 q1 q2 q3) <<< ((38 : Int32).toInt64 &&& 63)))), .second, .val (.long (((own_l5 q0 q1 q2 q3) ||| ((own_l6 q0 q1 q2 q3) <<< ((25 : Int32).toInt64 &&& 63))) ||| ((own_l7 q0 q1 q2 q3) <<< ((51 : Int32).toInt64 &&& 63)))), .second, .val (.long (((XT.ushrL (own_l7 q0 q1 q2 q3) (13 : Int32)) ||| ((own_l8 q0 q1 q2 q3) <<< ((12 : Int32).toInt64 &&& 63))) ||| ((own_l9 q0 q1 q2 q3) <<< ((38 : Int32).toInt64 &&& 63)))), .second] [(.int (XT.cmpL (((own_l0 q0 q1 q2 q3) ||| ((own_l1 q0 q1 q2 q3) <<< ((26 : Int32).toInt64 &&& 63))) ||| ((own_l2 q0 q1 q2 q3) <<< ((51 : Int32).toInt64 &&& 63))) q0))])) _
    refine XS.ifNo X10.here hx rfl (hb hby at_340) rfl (XT.ll_ne_f (own_law340 q0 q1 q2 q3)) ?_
    show Steps p.tables e below (T10.setTop (mkF m 343 #[.val (.long q0), .second, .val (.long q1), .second, .val (.long q2), .second, .val (.long q3), .second, .val (.long qf), .second, .val (.int p5), .val (.int o5), .val (.ref w), .val (.ref b), .val (.long (((own_l0 q0 q1 q2 q3) ||| ((own_l1 q0 q1 q2 q3) <<< ((26 : Int32).toInt64 &&& 63))) ||| ((own_l2 q0 q1 q2 q3) <<< ((51 : Int32).toInt64 &&& 63)))), .second, .val (.long (((XT.ushrL (own_l2 q0 q1 q2 q3) (13 : Int32)) ||| ((own_l3 q0 q1 q2 q3) <<< ((13 : Int32).toInt64 &&& 63))) ||| ((own_l4 q0 q1 q2 q3) <<< ((38 : Int32).toInt64 &&& 63)))), .second, .val (.long (((own_l5 q0 q1 q2 q3) ||| ((own_l6 q0 q1 q2 q3) <<< ((25 : Int32).toInt64 &&& 63))) ||| ((own_l7 q0 q1 q2 q3) <<< ((51 : Int32).toInt64 &&& 63)))), .second, .val (.long (((XT.ushrL (own_l7 q0 q1 q2 q3) (13 : Int32)) ||| ((own_l8 q0 q1 q2 q3) <<< ((12 : Int32).toInt64 &&& 63))) ||| ((own_l9 q0 q1 q2 q3) <<< ((38 : Int32).toInt64 &&& 63)))), .second] [])) _
    refine XT.lload X10.here hx rfl (hb hby at_343) rfl  ?_
    show Steps p.tables e below (T10.setTop (mkF m 345 #[.val (.long q0), .second, .val (.long q1), .second, .val (.long q2), .second, .val (.long q3), .second, .val (.long qf), .second, .val (.int p5), .val (.int o5), .val (.ref w), .val (.ref b), .val (.long (((own_l0 q0 q1 q2 q3) ||| ((own_l1 q0 q1 q2 q3) <<< ((26 : Int32).toInt64 &&& 63))) ||| ((own_l2 q0 q1 q2 q3) <<< ((51 : Int32).toInt64 &&& 63)))), .second, .val (.long (((XT.ushrL (own_l2 q0 q1 q2 q3) (13 : Int32)) ||| ((own_l3 q0 q1 q2 q3) <<< ((13 : Int32).toInt64 &&& 63))) ||| ((own_l4 q0 q1 q2 q3) <<< ((38 : Int32).toInt64 &&& 63)))), .second, .val (.long (((own_l5 q0 q1 q2 q3) ||| ((own_l6 q0 q1 q2 q3) <<< ((25 : Int32).toInt64 &&& 63))) ||| ((own_l7 q0 q1 q2 q3) <<< ((51 : Int32).toInt64 &&& 63)))), .second, .val (.long (((XT.ushrL (own_l7 q0 q1 q2 q3) (13 : Int32)) ||| ((own_l8 q0 q1 q2 q3) <<< ((12 : Int32).toInt64 &&& 63))) ||| ((own_l9 q0 q1 q2 q3) <<< ((38 : Int32).toInt64 &&& 63)))), .second] [(.long (((XT.ushrL (own_l2 q0 q1 q2 q3) (13 : Int32)) ||| ((own_l3 q0 q1 q2 q3) <<< ((13 : Int32).toInt64 &&& 63))) ||| ((own_l4 q0 q1 q2 q3) <<< ((38 : Int32).toInt64 &&& 63))))])) _
    refine XT.lloadN X10.here hx rfl (hb hby at_345) rfl  ?_
    show Steps p.tables e below (T10.setTop (mkF m 346 #[.val (.long q0), .second, .val (.long q1), .second, .val (.long q2), .second, .val (.long q3), .second, .val (.long qf), .second, .val (.int p5), .val (.int o5), .val (.ref w), .val (.ref b), .val (.long (((own_l0 q0 q1 q2 q3) ||| ((own_l1 q0 q1 q2 q3) <<< ((26 : Int32).toInt64 &&& 63))) ||| ((own_l2 q0 q1 q2 q3) <<< ((51 : Int32).toInt64 &&& 63)))), .second, .val (.long (((XT.ushrL (own_l2 q0 q1 q2 q3) (13 : Int32)) ||| ((own_l3 q0 q1 q2 q3) <<< ((13 : Int32).toInt64 &&& 63))) ||| ((own_l4 q0 q1 q2 q3) <<< ((38 : Int32).toInt64 &&& 63)))), .second, .val (.long (((own_l5 q0 q1 q2 q3) ||| ((own_l6 q0 q1 q2 q3) <<< ((25 : Int32).toInt64 &&& 63))) ||| ((own_l7 q0 q1 q2 q3) <<< ((51 : Int32).toInt64 &&& 63)))), .second, .val (.long (((XT.ushrL (own_l7 q0 q1 q2 q3) (13 : Int32)) ||| ((own_l8 q0 q1 q2 q3) <<< ((12 : Int32).toInt64 &&& 63))) ||| ((own_l9 q0 q1 q2 q3) <<< ((38 : Int32).toInt64 &&& 63)))), .second] [(.long q1), (.long (((XT.ushrL (own_l2 q0 q1 q2 q3) (13 : Int32)) ||| ((own_l3 q0 q1 q2 q3) <<< ((13 : Int32).toInt64 &&& 63))) ||| ((own_l4 q0 q1 q2 q3) <<< ((38 : Int32).toInt64 &&& 63))))])) _
    refine XT.lcmp X10.here hx rfl (hb hby at_346) rfl ?_
    show Steps p.tables e below (T10.setTop (mkF m 347 #[.val (.long q0), .second, .val (.long q1), .second, .val (.long q2), .second, .val (.long q3), .second, .val (.long qf), .second, .val (.int p5), .val (.int o5), .val (.ref w), .val (.ref b), .val (.long (((own_l0 q0 q1 q2 q3) ||| ((own_l1 q0 q1 q2 q3) <<< ((26 : Int32).toInt64 &&& 63))) ||| ((own_l2 q0 q1 q2 q3) <<< ((51 : Int32).toInt64 &&& 63)))), .second, .val (.long (((XT.ushrL (own_l2 q0 q1 q2 q3) (13 : Int32)) ||| ((own_l3 q0 q1 q2 q3) <<< ((13 : Int32).toInt64 &&& 63))) ||| ((own_l4 q0 q1 q2 q3) <<< ((38 : Int32).toInt64 &&& 63)))), .second, .val (.long (((own_l5 q0 q1 q2 q3) ||| ((own_l6 q0 q1 q2 q3) <<< ((25 : Int32).toInt64 &&& 63))) ||| ((own_l7 q0 q1 q2 q3) <<< ((51 : Int32).toInt64 &&& 63)))), .second, .val (.long (((XT.ushrL (own_l7 q0 q1 q2 q3) (13 : Int32)) ||| ((own_l8 q0 q1 q2 q3) <<< ((12 : Int32).toInt64 &&& 63))) ||| ((own_l9 q0 q1 q2 q3) <<< ((38 : Int32).toInt64 &&& 63)))), .second] [(.int (XT.cmpL (((XT.ushrL (own_l2 q0 q1 q2 q3) (13 : Int32)) ||| ((own_l3 q0 q1 q2 q3) <<< ((13 : Int32).toInt64 &&& 63))) ||| ((own_l4 q0 q1 q2 q3) <<< ((38 : Int32).toInt64 &&& 63))) q1))])) _
    refine XS.ifNo X10.here hx rfl (hb hby at_347) rfl (XT.ll_ne_f (own_law347 q0 q1 q2 q3)) ?_
    show Steps p.tables e below (T10.setTop (mkF m 350 #[.val (.long q0), .second, .val (.long q1), .second, .val (.long q2), .second, .val (.long q3), .second, .val (.long qf), .second, .val (.int p5), .val (.int o5), .val (.ref w), .val (.ref b), .val (.long (((own_l0 q0 q1 q2 q3) ||| ((own_l1 q0 q1 q2 q3) <<< ((26 : Int32).toInt64 &&& 63))) ||| ((own_l2 q0 q1 q2 q3) <<< ((51 : Int32).toInt64 &&& 63)))), .second, .val (.long (((XT.ushrL (own_l2 q0 q1 q2 q3) (13 : Int32)) ||| ((own_l3 q0 q1 q2 q3) <<< ((13 : Int32).toInt64 &&& 63))) ||| ((own_l4 q0 q1 q2 q3) <<< ((38 : Int32).toInt64 &&& 63)))), .second, .val (.long (((own_l5 q0 q1 q2 q3) ||| ((own_l6 q0 q1 q2 q3) <<< ((25 : Int32).toInt64 &&& 63))) ||| ((own_l7 q0 q1 q2 q3) <<< ((51 : Int32).toInt64 &&& 63)))), .second, .val (.long (((XT.ushrL (own_l7 q0 q1 q2 q3) (13 : Int32)) ||| ((own_l8 q0 q1 q2 q3) <<< ((12 : Int32).toInt64 &&& 63))) ||| ((own_l9 q0 q1 q2 q3) <<< ((38 : Int32).toInt64 &&& 63)))), .second] [])) _
    refine XT.lload X10.here hx rfl (hb hby at_350) rfl  ?_
    show Steps p.tables e below (T10.setTop (mkF m 352 #[.val (.long q0), .second, .val (.long q1), .second, .val (.long q2), .second, .val (.long q3), .second, .val (.long qf), .second, .val (.int p5), .val (.int o5), .val (.ref w), .val (.ref b), .val (.long (((own_l0 q0 q1 q2 q3) ||| ((own_l1 q0 q1 q2 q3) <<< ((26 : Int32).toInt64 &&& 63))) ||| ((own_l2 q0 q1 q2 q3) <<< ((51 : Int32).toInt64 &&& 63)))), .second, .val (.long (((XT.ushrL (own_l2 q0 q1 q2 q3) (13 : Int32)) ||| ((own_l3 q0 q1 q2 q3) <<< ((13 : Int32).toInt64 &&& 63))) ||| ((own_l4 q0 q1 q2 q3) <<< ((38 : Int32).toInt64 &&& 63)))), .second, .val (.long (((own_l5 q0 q1 q2 q3) ||| ((own_l6 q0 q1 q2 q3) <<< ((25 : Int32).toInt64 &&& 63))) ||| ((own_l7 q0 q1 q2 q3) <<< ((51 : Int32).toInt64 &&& 63)))), .second, .val (.long (((XT.ushrL (own_l7 q0 q1 q2 q3) (13 : Int32)) ||| ((own_l8 q0 q1 q2 q3) <<< ((12 : Int32).toInt64 &&& 63))) ||| ((own_l9 q0 q1 q2 q3) <<< ((38 : Int32).toInt64 &&& 63)))), .second] [(.long (((own_l5 q0 q1 q2 q3) ||| ((own_l6 q0 q1 q2 q3) <<< ((25 : Int32).toInt64 &&& 63))) ||| ((own_l7 q0 q1 q2 q3) <<< ((51 : Int32).toInt64 &&& 63))))])) _
    refine XT.lload X10.here hx rfl (hb hby at_352) rfl  ?_
    show Steps p.tables e below (T10.setTop (mkF m 354 #[.val (.long q0), .second, .val (.long q1), .second, .val (.long q2), .second, .val (.long q3), .second, .val (.long qf), .second, .val (.int p5), .val (.int o5), .val (.ref w), .val (.ref b), .val (.long (((own_l0 q0 q1 q2 q3) ||| ((own_l1 q0 q1 q2 q3) <<< ((26 : Int32).toInt64 &&& 63))) ||| ((own_l2 q0 q1 q2 q3) <<< ((51 : Int32).toInt64 &&& 63)))), .second, .val (.long (((XT.ushrL (own_l2 q0 q1 q2 q3) (13 : Int32)) ||| ((own_l3 q0 q1 q2 q3) <<< ((13 : Int32).toInt64 &&& 63))) ||| ((own_l4 q0 q1 q2 q3) <<< ((38 : Int32).toInt64 &&& 63)))), .second, .val (.long (((own_l5 q0 q1 q2 q3) ||| ((own_l6 q0 q1 q2 q3) <<< ((25 : Int32).toInt64 &&& 63))) ||| ((own_l7 q0 q1 q2 q3) <<< ((51 : Int32).toInt64 &&& 63)))), .second, .val (.long (((XT.ushrL (own_l7 q0 q1 q2 q3) (13 : Int32)) ||| ((own_l8 q0 q1 q2 q3) <<< ((12 : Int32).toInt64 &&& 63))) ||| ((own_l9 q0 q1 q2 q3) <<< ((38 : Int32).toInt64 &&& 63)))), .second] [(.long q2), (.long (((own_l5 q0 q1 q2 q3) ||| ((own_l6 q0 q1 q2 q3) <<< ((25 : Int32).toInt64 &&& 63))) ||| ((own_l7 q0 q1 q2 q3) <<< ((51 : Int32).toInt64 &&& 63))))])) _
    refine XT.lcmp X10.here hx rfl (hb hby at_354) rfl ?_
    show Steps p.tables e below (T10.setTop (mkF m 355 #[.val (.long q0), .second, .val (.long q1), .second, .val (.long q2), .second, .val (.long q3), .second, .val (.long qf), .second, .val (.int p5), .val (.int o5), .val (.ref w), .val (.ref b), .val (.long (((own_l0 q0 q1 q2 q3) ||| ((own_l1 q0 q1 q2 q3) <<< ((26 : Int32).toInt64 &&& 63))) ||| ((own_l2 q0 q1 q2 q3) <<< ((51 : Int32).toInt64 &&& 63)))), .second, .val (.long (((XT.ushrL (own_l2 q0 q1 q2 q3) (13 : Int32)) ||| ((own_l3 q0 q1 q2 q3) <<< ((13 : Int32).toInt64 &&& 63))) ||| ((own_l4 q0 q1 q2 q3) <<< ((38 : Int32).toInt64 &&& 63)))), .second, .val (.long (((own_l5 q0 q1 q2 q3) ||| ((own_l6 q0 q1 q2 q3) <<< ((25 : Int32).toInt64 &&& 63))) ||| ((own_l7 q0 q1 q2 q3) <<< ((51 : Int32).toInt64 &&& 63)))), .second, .val (.long (((XT.ushrL (own_l7 q0 q1 q2 q3) (13 : Int32)) ||| ((own_l8 q0 q1 q2 q3) <<< ((12 : Int32).toInt64 &&& 63))) ||| ((own_l9 q0 q1 q2 q3) <<< ((38 : Int32).toInt64 &&& 63)))), .second] [(.int (XT.cmpL (((own_l5 q0 q1 q2 q3) ||| ((own_l6 q0 q1 q2 q3) <<< ((25 : Int32).toInt64 &&& 63))) ||| ((own_l7 q0 q1 q2 q3) <<< ((51 : Int32).toInt64 &&& 63))) q2))])) _
    refine XS.ifNo X10.here hx rfl (hb hby at_355) rfl (XT.ll_ne_f (own_law355 q0 q1 q2 q3)) ?_
    show Steps p.tables e below (T10.setTop (mkF m 358 #[.val (.long q0), .second, .val (.long q1), .second, .val (.long q2), .second, .val (.long q3), .second, .val (.long qf), .second, .val (.int p5), .val (.int o5), .val (.ref w), .val (.ref b), .val (.long (((own_l0 q0 q1 q2 q3) ||| ((own_l1 q0 q1 q2 q3) <<< ((26 : Int32).toInt64 &&& 63))) ||| ((own_l2 q0 q1 q2 q3) <<< ((51 : Int32).toInt64 &&& 63)))), .second, .val (.long (((XT.ushrL (own_l2 q0 q1 q2 q3) (13 : Int32)) ||| ((own_l3 q0 q1 q2 q3) <<< ((13 : Int32).toInt64 &&& 63))) ||| ((own_l4 q0 q1 q2 q3) <<< ((38 : Int32).toInt64 &&& 63)))), .second, .val (.long (((own_l5 q0 q1 q2 q3) ||| ((own_l6 q0 q1 q2 q3) <<< ((25 : Int32).toInt64 &&& 63))) ||| ((own_l7 q0 q1 q2 q3) <<< ((51 : Int32).toInt64 &&& 63)))), .second, .val (.long (((XT.ushrL (own_l7 q0 q1 q2 q3) (13 : Int32)) ||| ((own_l8 q0 q1 q2 q3) <<< ((12 : Int32).toInt64 &&& 63))) ||| ((own_l9 q0 q1 q2 q3) <<< ((38 : Int32).toInt64 &&& 63)))), .second] [])) _
    refine XT.lload X10.here hx rfl (hb hby at_358) rfl  ?_
    show Steps p.tables e below (T10.setTop (mkF m 360 #[.val (.long q0), .second, .val (.long q1), .second, .val (.long q2), .second, .val (.long q3), .second, .val (.long qf), .second, .val (.int p5), .val (.int o5), .val (.ref w), .val (.ref b), .val (.long (((own_l0 q0 q1 q2 q3) ||| ((own_l1 q0 q1 q2 q3) <<< ((26 : Int32).toInt64 &&& 63))) ||| ((own_l2 q0 q1 q2 q3) <<< ((51 : Int32).toInt64 &&& 63)))), .second, .val (.long (((XT.ushrL (own_l2 q0 q1 q2 q3) (13 : Int32)) ||| ((own_l3 q0 q1 q2 q3) <<< ((13 : Int32).toInt64 &&& 63))) ||| ((own_l4 q0 q1 q2 q3) <<< ((38 : Int32).toInt64 &&& 63)))), .second, .val (.long (((own_l5 q0 q1 q2 q3) ||| ((own_l6 q0 q1 q2 q3) <<< ((25 : Int32).toInt64 &&& 63))) ||| ((own_l7 q0 q1 q2 q3) <<< ((51 : Int32).toInt64 &&& 63)))), .second, .val (.long (((XT.ushrL (own_l7 q0 q1 q2 q3) (13 : Int32)) ||| ((own_l8 q0 q1 q2 q3) <<< ((12 : Int32).toInt64 &&& 63))) ||| ((own_l9 q0 q1 q2 q3) <<< ((38 : Int32).toInt64 &&& 63)))), .second] [(.long (((XT.ushrL (own_l7 q0 q1 q2 q3) (13 : Int32)) ||| ((own_l8 q0 q1 q2 q3) <<< ((12 : Int32).toInt64 &&& 63))) ||| ((own_l9 q0 q1 q2 q3) <<< ((38 : Int32).toInt64 &&& 63))))])) _
    refine XT.lload X10.here hx rfl (hb hby at_360) rfl  ?_
    show Steps p.tables e below (T10.setTop (mkF m 362 #[.val (.long q0), .second, .val (.long q1), .second, .val (.long q2), .second, .val (.long q3), .second, .val (.long qf), .second, .val (.int p5), .val (.int o5), .val (.ref w), .val (.ref b), .val (.long (((own_l0 q0 q1 q2 q3) ||| ((own_l1 q0 q1 q2 q3) <<< ((26 : Int32).toInt64 &&& 63))) ||| ((own_l2 q0 q1 q2 q3) <<< ((51 : Int32).toInt64 &&& 63)))), .second, .val (.long (((XT.ushrL (own_l2 q0 q1 q2 q3) (13 : Int32)) ||| ((own_l3 q0 q1 q2 q3) <<< ((13 : Int32).toInt64 &&& 63))) ||| ((own_l4 q0 q1 q2 q3) <<< ((38 : Int32).toInt64 &&& 63)))), .second, .val (.long (((own_l5 q0 q1 q2 q3) ||| ((own_l6 q0 q1 q2 q3) <<< ((25 : Int32).toInt64 &&& 63))) ||| ((own_l7 q0 q1 q2 q3) <<< ((51 : Int32).toInt64 &&& 63)))), .second, .val (.long (((XT.ushrL (own_l7 q0 q1 q2 q3) (13 : Int32)) ||| ((own_l8 q0 q1 q2 q3) <<< ((12 : Int32).toInt64 &&& 63))) ||| ((own_l9 q0 q1 q2 q3) <<< ((38 : Int32).toInt64 &&& 63)))), .second] [(.long q3), (.long (((XT.ushrL (own_l7 q0 q1 q2 q3) (13 : Int32)) ||| ((own_l8 q0 q1 q2 q3) <<< ((12 : Int32).toInt64 &&& 63))) ||| ((own_l9 q0 q1 q2 q3) <<< ((38 : Int32).toInt64 &&& 63))))])) _
    refine X10.ldc2Long hx hown (mvT hZ (hw _ (List.mem_of_getElem? (i := 13) rfl))) (g := (mkF m 362 #[.val (.long q0), .second, .val (.long q1), .second, .val (.long q2), .second, .val (.long q3), .second, .val (.long qf), .second, .val (.int p5), .val (.int o5), .val (.ref w), .val (.ref b), .val (.long (((own_l0 q0 q1 q2 q3) ||| ((own_l1 q0 q1 q2 q3) <<< ((26 : Int32).toInt64 &&& 63))) ||| ((own_l2 q0 q1 q2 q3) <<< ((51 : Int32).toInt64 &&& 63)))), .second, .val (.long (((XT.ushrL (own_l2 q0 q1 q2 q3) (13 : Int32)) ||| ((own_l3 q0 q1 q2 q3) <<< ((13 : Int32).toInt64 &&& 63))) ||| ((own_l4 q0 q1 q2 q3) <<< ((38 : Int32).toInt64 &&& 63)))), .second, .val (.long (((own_l5 q0 q1 q2 q3) ||| ((own_l6 q0 q1 q2 q3) <<< ((25 : Int32).toInt64 &&& 63))) ||| ((own_l7 q0 q1 q2 q3) <<< ((51 : Int32).toInt64 &&& 63)))), .second, .val (.long (((XT.ushrL (own_l7 q0 q1 q2 q3) (13 : Int32)) ||| ((own_l8 q0 q1 q2 q3) <<< ((12 : Int32).toInt64 &&& 63))) ||| ((own_l9 q0 q1 q2 q3) <<< ((38 : Int32).toInt64 &&& 63)))), .second] [(.long q3), (.long (((XT.ushrL (own_l7 q0 q1 q2 q3) (13 : Int32)) ||| ((own_l8 q0 q1 q2 q3) <<< ((12 : Int32).toInt64 &&& 63))) ||| ((own_l9 q0 q1 q2 q3) <<< ((38 : Int32).toInt64 &&& 63))))])) rfl (hb hby at_362) _ ?_
    show Steps p.tables e below (T10.setTop (mkF m 365 #[.val (.long q0), .second, .val (.long q1), .second, .val (.long q2), .second, .val (.long q3), .second, .val (.long qf), .second, .val (.int p5), .val (.int o5), .val (.ref w), .val (.ref b), .val (.long (((own_l0 q0 q1 q2 q3) ||| ((own_l1 q0 q1 q2 q3) <<< ((26 : Int32).toInt64 &&& 63))) ||| ((own_l2 q0 q1 q2 q3) <<< ((51 : Int32).toInt64 &&& 63)))), .second, .val (.long (((XT.ushrL (own_l2 q0 q1 q2 q3) (13 : Int32)) ||| ((own_l3 q0 q1 q2 q3) <<< ((13 : Int32).toInt64 &&& 63))) ||| ((own_l4 q0 q1 q2 q3) <<< ((38 : Int32).toInt64 &&& 63)))), .second, .val (.long (((own_l5 q0 q1 q2 q3) ||| ((own_l6 q0 q1 q2 q3) <<< ((25 : Int32).toInt64 &&& 63))) ||| ((own_l7 q0 q1 q2 q3) <<< ((51 : Int32).toInt64 &&& 63)))), .second, .val (.long (((XT.ushrL (own_l7 q0 q1 q2 q3) (13 : Int32)) ||| ((own_l8 q0 q1 q2 q3) <<< ((12 : Int32).toInt64 &&& 63))) ||| ((own_l9 q0 q1 q2 q3) <<< ((38 : Int32).toInt64 &&& 63)))), .second] [(.long (9223372036854775807 : Int64)), (.long q3), (.long (((XT.ushrL (own_l7 q0 q1 q2 q3) (13 : Int32)) ||| ((own_l8 q0 q1 q2 q3) <<< ((12 : Int32).toInt64 &&& 63))) ||| ((own_l9 q0 q1 q2 q3) <<< ((38 : Int32).toInt64 &&& 63))))])) _
    refine XT.land X10.here hx rfl (hb hby at_365) rfl ?_
    show Steps p.tables e below (T10.setTop (mkF m 366 #[.val (.long q0), .second, .val (.long q1), .second, .val (.long q2), .second, .val (.long q3), .second, .val (.long qf), .second, .val (.int p5), .val (.int o5), .val (.ref w), .val (.ref b), .val (.long (((own_l0 q0 q1 q2 q3) ||| ((own_l1 q0 q1 q2 q3) <<< ((26 : Int32).toInt64 &&& 63))) ||| ((own_l2 q0 q1 q2 q3) <<< ((51 : Int32).toInt64 &&& 63)))), .second, .val (.long (((XT.ushrL (own_l2 q0 q1 q2 q3) (13 : Int32)) ||| ((own_l3 q0 q1 q2 q3) <<< ((13 : Int32).toInt64 &&& 63))) ||| ((own_l4 q0 q1 q2 q3) <<< ((38 : Int32).toInt64 &&& 63)))), .second, .val (.long (((own_l5 q0 q1 q2 q3) ||| ((own_l6 q0 q1 q2 q3) <<< ((25 : Int32).toInt64 &&& 63))) ||| ((own_l7 q0 q1 q2 q3) <<< ((51 : Int32).toInt64 &&& 63)))), .second, .val (.long (((XT.ushrL (own_l7 q0 q1 q2 q3) (13 : Int32)) ||| ((own_l8 q0 q1 q2 q3) <<< ((12 : Int32).toInt64 &&& 63))) ||| ((own_l9 q0 q1 q2 q3) <<< ((38 : Int32).toInt64 &&& 63)))), .second] [(.long (q3 &&& (9223372036854775807 : Int64))), (.long (((XT.ushrL (own_l7 q0 q1 q2 q3) (13 : Int32)) ||| ((own_l8 q0 q1 q2 q3) <<< ((12 : Int32).toInt64 &&& 63))) ||| ((own_l9 q0 q1 q2 q3) <<< ((38 : Int32).toInt64 &&& 63))))])) _
    refine XT.lcmp X10.here hx rfl (hb hby at_366) rfl ?_
    show Steps p.tables e below (T10.setTop (mkF m 367 #[.val (.long q0), .second, .val (.long q1), .second, .val (.long q2), .second, .val (.long q3), .second, .val (.long qf), .second, .val (.int p5), .val (.int o5), .val (.ref w), .val (.ref b), .val (.long (((own_l0 q0 q1 q2 q3) ||| ((own_l1 q0 q1 q2 q3) <<< ((26 : Int32).toInt64 &&& 63))) ||| ((own_l2 q0 q1 q2 q3) <<< ((51 : Int32).toInt64 &&& 63)))), .second, .val (.long (((XT.ushrL (own_l2 q0 q1 q2 q3) (13 : Int32)) ||| ((own_l3 q0 q1 q2 q3) <<< ((13 : Int32).toInt64 &&& 63))) ||| ((own_l4 q0 q1 q2 q3) <<< ((38 : Int32).toInt64 &&& 63)))), .second, .val (.long (((own_l5 q0 q1 q2 q3) ||| ((own_l6 q0 q1 q2 q3) <<< ((25 : Int32).toInt64 &&& 63))) ||| ((own_l7 q0 q1 q2 q3) <<< ((51 : Int32).toInt64 &&& 63)))), .second, .val (.long (((XT.ushrL (own_l7 q0 q1 q2 q3) (13 : Int32)) ||| ((own_l8 q0 q1 q2 q3) <<< ((12 : Int32).toInt64 &&& 63))) ||| ((own_l9 q0 q1 q2 q3) <<< ((38 : Int32).toInt64 &&& 63)))), .second] [(.int (XT.cmpL (((XT.ushrL (own_l7 q0 q1 q2 q3) (13 : Int32)) ||| ((own_l8 q0 q1 q2 q3) <<< ((12 : Int32).toInt64 &&& 63))) ||| ((own_l9 q0 q1 q2 q3) <<< ((38 : Int32).toInt64 &&& 63))) (q3 &&& (9223372036854775807 : Int64))))])) _
    refine XS.ifNo X10.here hx rfl (hb hby at_367) rfl (XT.ll_ne_f (own_law367 q0 q1 q2 q3)) ?_
    show Steps p.tables e below (T10.setTop (mkF m 370 #[.val (.long q0), .second, .val (.long q1), .second, .val (.long q2), .second, .val (.long q3), .second, .val (.long qf), .second, .val (.int p5), .val (.int o5), .val (.ref w), .val (.ref b), .val (.long (((own_l0 q0 q1 q2 q3) ||| ((own_l1 q0 q1 q2 q3) <<< ((26 : Int32).toInt64 &&& 63))) ||| ((own_l2 q0 q1 q2 q3) <<< ((51 : Int32).toInt64 &&& 63)))), .second, .val (.long (((XT.ushrL (own_l2 q0 q1 q2 q3) (13 : Int32)) ||| ((own_l3 q0 q1 q2 q3) <<< ((13 : Int32).toInt64 &&& 63))) ||| ((own_l4 q0 q1 q2 q3) <<< ((38 : Int32).toInt64 &&& 63)))), .second, .val (.long (((own_l5 q0 q1 q2 q3) ||| ((own_l6 q0 q1 q2 q3) <<< ((25 : Int32).toInt64 &&& 63))) ||| ((own_l7 q0 q1 q2 q3) <<< ((51 : Int32).toInt64 &&& 63)))), .second, .val (.long (((XT.ushrL (own_l7 q0 q1 q2 q3) (13 : Int32)) ||| ((own_l8 q0 q1 q2 q3) <<< ((12 : Int32).toInt64 &&& 63))) ||| ((own_l9 q0 q1 q2 q3) <<< ((38 : Int32).toInt64 &&& 63)))), .second] [])) _
    refine XS.iconst X10.here hx rfl (hb hby at_370) ?_
    show Steps p.tables e below (T10.setTop (mkF m 371 #[.val (.long q0), .second, .val (.long q1), .second, .val (.long q2), .second, .val (.long q3), .second, .val (.long qf), .second, .val (.int p5), .val (.int o5), .val (.ref w), .val (.ref b), .val (.long (((own_l0 q0 q1 q2 q3) ||| ((own_l1 q0 q1 q2 q3) <<< ((26 : Int32).toInt64 &&& 63))) ||| ((own_l2 q0 q1 q2 q3) <<< ((51 : Int32).toInt64 &&& 63)))), .second, .val (.long (((XT.ushrL (own_l2 q0 q1 q2 q3) (13 : Int32)) ||| ((own_l3 q0 q1 q2 q3) <<< ((13 : Int32).toInt64 &&& 63))) ||| ((own_l4 q0 q1 q2 q3) <<< ((38 : Int32).toInt64 &&& 63)))), .second, .val (.long (((own_l5 q0 q1 q2 q3) ||| ((own_l6 q0 q1 q2 q3) <<< ((25 : Int32).toInt64 &&& 63))) ||| ((own_l7 q0 q1 q2 q3) <<< ((51 : Int32).toInt64 &&& 63)))), .second, .val (.long (((XT.ushrL (own_l7 q0 q1 q2 q3) (13 : Int32)) ||| ((own_l8 q0 q1 q2 q3) <<< ((12 : Int32).toInt64 &&& 63))) ||| ((own_l9 q0 q1 q2 q3) <<< ((38 : Int32).toInt64 &&& 63)))), .second] [(.int (1 : Int32))])) _
    refine XS.goto X10.here hx rfl (pc0 := 371) (pc' := 375) rfl (hb hby at_371) (by decide) (by decide) ?_
    exact oK
  show OG _ _ _ _ _ _ _ (T10.setTop (mkF m 375 #[.val (.long q0), .second, .val (.long q1), .second, .val (.long q2), .second, .val (.long q3), .second, .val (.long qf), .second, .val (.int p5), .val (.int o5), .val (.ref w), .val (.ref b), .val (.long (((own_l0 q0 q1 q2 q3) ||| ((own_l1 q0 q1 q2 q3) <<< ((26 : Int32).toInt64 &&& 63))) ||| ((own_l2 q0 q1 q2 q3) <<< ((51 : Int32).toInt64 &&& 63)))), .second, .val (.long (((XT.ushrL (own_l2 q0 q1 q2 q3) (13 : Int32)) ||| ((own_l3 q0 q1 q2 q3) <<< ((13 : Int32).toInt64 &&& 63))) ||| ((own_l4 q0 q1 q2 q3) <<< ((38 : Int32).toInt64 &&& 63)))), .second, .val (.long (((own_l5 q0 q1 q2 q3) ||| ((own_l6 q0 q1 q2 q3) <<< ((25 : Int32).toInt64 &&& 63))) ||| ((own_l7 q0 q1 q2 q3) <<< ((51 : Int32).toInt64 &&& 63)))), .second, .val (.long (((XT.ushrL (own_l7 q0 q1 q2 q3) (13 : Int32)) ||| ((own_l8 q0 q1 q2 q3) <<< ((12 : Int32).toInt64 &&& 63))) ||| ((own_l9 q0 q1 q2 q3) <<< ((38 : Int32).toInt64 &&& 63)))), .second] [(.int (1 : Int32))]))
  refine OG.retN X10 hx (t := .boolean) hret (by simp) (hb hby at_375) hlk ?_ (by decide) (by decide)
  try rw [e10]
  exact ⟨rfl, N10⟩
theorem pd___JI__J : parseMethodDescriptor "([JI)[J" = some ⟨[(.array .long), .int], some (.array .long)⟩ := by decide +kernel
theorem pn_0 : plainName "com/example/gate_to_gate/gatetogate/io/Field25519FromWordsPinLaw" = true := by first | (simp [plainName, overriddenIn]; done) | decide +kernel
theorem ef_0 (m : MethodId) (x0 : Int64) (x1 : Int64) (x2 : Int64) (x3 : Int64) (x4 : Int64) (x5 : Int32) : entryFrame m #[(.long x0), (.long x1), (.long x2), (.long x3), (.long x4), (.int x5)] maxLocals = mkF m 0 #[.val (.long x0), .second, .val (.long x1), .second, .val (.long x2), .second, .val (.long x3), .second, .val (.long x4), .second, .val (.int x5), .unset, .unset, .unset, .unset, .unset, .unset, .unset, .unset, .unset, .unset, .unset] [] := by first | (simp [entryFrame, mkF, argsToLocals, Value.category, maxLocals]; done) | rfl
def Q0 (Z : State) (q0 : Int64) (q1 : Int64) (q2 : Int64) (q3 : Int64) (qf : Int64) (p5 : Int32) (wP : Addr) (wB : Addr) (h0 : Heap) (n0 : Nat) (v : Option Value) (h : Heap) (L : List Loc) : Prop := v = some (.int 1) ∧ Fr n0 L
set_option maxRecDepth 65536 in
set_option maxHeartbeats 40000000 in
theorem rm0 (l : Launch) (Z : State) (a0 : Array Value) (hw : ∀ d ∈ tables_1, d.before a0 Z = true) (ws : List Jvm.Cond) (q0 : Int64) (q1 : Int64) (q2 : Int64) (q3 : Int64) (qf : Int64) (p5 : Int32) (wP : Addr) (wB : Addr) (h0 : Heap) (n0 : Nat) (Z0 : n0 ≤ h0.size) (hO : Old Z n0 h0) (SP : Sta Z Z.heap "com/example/gate_to_gate/gatetogate/io/Field25519" "POSITIONS" "[I" (.ref wP)) (SB : Sta Z Z.heap "com/example/gate_to_gate/gatetogate/io/Field25519" "BITS" "[I" (.ref wB)) (TP : ∀ j, j < 10 → ORd Z Z.heap wP .int (Int32.ofNat j) (.int (own_pos j))) (TB : ∀ j, j < 10 → ORd Z Z.heap wB .int (Int32.ofNat j) (.int (own_bits j))) :
    MetFree l x (head1 (Jvm.Cond.code x code maxLocals ret :: ws) room_1) (fun aA oU => aA = #[(.long q0), (.long q1), (.long q2), (.long q3), (.long qf), (.int p5)] ∧ Z.Warmed39 oU.vm ∧ oU.heap = h0) (fun _ _ _ _ _ => True) (fun _ oU oO oU' => ∃ oV oL, oO = .returned oV ∧ Q0 Z q0 q1 q2 q3 qf p5 wP wB h0 n0 oV oU'.heap oL ∧ FrameEnd oU oO oU' oL 16 128) := by
  refine MetFree.of_bodySF (plainFor_of_name pn_0) hisR ?_
  intro p e s m args below meth c s₁ Bd hml0 hP hK
  obtain ⟨rfl, hZ, hh⟩ := hP
  have hx := Bd.exec
  have hby := Bd.bytes
  have hlk := BodyLoose.notSynchronized Bd
  have hml : c.maxLocals = 22 := hml0
  have hown : s.vm.findClass "com/example/gate_to_gate/gatetogate/io/Field25519FromWordsPinLaw" = some m.cls := findClass_of_methodNamed Bd.named
  have hnm := (name_of_methodNamed Bd.named Bd.method).1
  have X0 : Stand p l e room_1 s m #[(.long q0), (.long q1), (.long q2), (.long q3), (.long qf), (.int p5)] below meth c s₁ [] 0 0 := Stand.of_body Bd
  have e0 : s₁.heap = h0 := by rw [← hh, Bd.state]; rfl
  have N0 := Fr.nil n0
  show OG p e below s 16 128 (Q0 Z q0 q1 q2 q3 qf p5 wP wB h0 n0) _
  refine OG.of (fun oT oK => castTop (ef_0 m q0 q1 q2 q3 qf p5) oK) ?_
  show OG p e below s _ _ _ (s₁.setTop (mkF m 0 #[.val (.long q0), .second, .val (.long q1), .second, .val (.long q2), .second, .val (.long q3), .second, .val (.long qf), .second, .val (.int p5), .unset, .unset, .unset, .unset, .unset, .unset, .unset, .unset, .unset, .unset, .unset] []))
  refine OG.of (A := s₁.setTop (mkF m 6 #[.val (.long q0), .second, .val (.long q1), .second, .val (.long q2), .second, .val (.long q3), .second, .val (.long qf), .second, .val (.int p5), .val (.int (p5 &&& (3 : Int32))), .unset, .unset, .unset, .unset, .unset, .unset, .unset, .unset, .unset, .unset] [])) (fun oT oK => ?_) ?_
  · show Steps p.tables e below (s₁.setTop (mkF m 0 #[.val (.long q0), .second, .val (.long q1), .second, .val (.long q2), .second, .val (.long q3), .second, .val (.long qf), .second, .val (.int p5), .unset, .unset, .unset, .unset, .unset, .unset, .unset, .unset, .unset, .unset, .unset] [])) oT
    refine XS.iload X0.here hx rfl (hb hby at_0) rfl  ?_
    show Steps p.tables e below (s₁.setTop (mkF m 2 #[.val (.long q0), .second, .val (.long q1), .second, .val (.long q2), .second, .val (.long q3), .second, .val (.long qf), .second, .val (.int p5), .unset, .unset, .unset, .unset, .unset, .unset, .unset, .unset, .unset, .unset, .unset] [(.int p5)])) _
    refine XS.iconst X0.here hx rfl (hb hby at_2) ?_
    show Steps p.tables e below (s₁.setTop (mkF m 3 #[.val (.long q0), .second, .val (.long q1), .second, .val (.long q2), .second, .val (.long q3), .second, .val (.long qf), .second, .val (.int p5), .unset, .unset, .unset, .unset, .unset, .unset, .unset, .unset, .unset, .unset, .unset] [(.int (3 : Int32)), (.int p5)])) _
    refine XS.iand X0.here hx rfl (hb hby at_3) rfl ?_
    show Steps p.tables e below (s₁.setTop (mkF m 4 #[.val (.long q0), .second, .val (.long q1), .second, .val (.long q2), .second, .val (.long q3), .second, .val (.long qf), .second, .val (.int p5), .unset, .unset, .unset, .unset, .unset, .unset, .unset, .unset, .unset, .unset, .unset] [(.int (p5 &&& (3 : Int32)))])) _
    refine XS.istore X0.here hx rfl (hb hby at_4) rfl (l' := #[.val (.long q0), .second, .val (.long q1), .second, .val (.long q2), .second, .val (.long q3), .second, .val (.long qf), .second, .val (.int p5), .val (.int (p5 &&& (3 : Int32))), .unset, .unset, .unset, .unset, .unset, .unset, .unset, .unset, .unset, .unset]) rfl ?_
    exact oK
  show OG _ _ _ _ _ _ _ (s₁.setTop (mkF m 6 #[.val (.long q0), .second, .val (.long q1), .second, .val (.long q2), .second, .val (.long q3), .second, .val (.long qf), .second, .val (.int p5), .val (.int (p5 &&& (3 : Int32))), .unset, .unset, .unset, .unset, .unset, .unset, .unset, .unset, .unset, .unset] []))
  obtain ⟨o, ho, eo⟩ := own_m3 p5
  match o, ho, eo with
  | 0, _, eo =>
    rw [show (p5 &&& (3 : Int32)) = (0 : Int32) from eo]
    show OG _ _ _ _ _ _ _ (s₁.setTop (mkF m 6 #[.val (.long q0), .second, .val (.long q1), .second, .val (.long q2), .second, .val (.long q3), .second, .val (.long qf), .second, .val (.int p5), .val (.int (0 : Int32)), .unset, .unset, .unset, .unset, .unset, .unset, .unset, .unset, .unset, .unset] []))
    refine OG.of (A := s₁.setTop (mkF m 8 #[.val (.long q0), .second, .val (.long q1), .second, .val (.long q2), .second, .val (.long q3), .second, .val (.long qf), .second, .val (.int p5), .val (.int (0 : Int32)), .unset, .unset, .unset, .unset, .unset, .unset, .unset, .unset, .unset, .unset] [(.int (7 : Int32))])) (fun oT oK => ?_) ?_
    · show Steps p.tables e below (s₁.setTop (mkF m 6 #[.val (.long q0), .second, .val (.long q1), .second, .val (.long q2), .second, .val (.long q3), .second, .val (.long qf), .second, .val (.int p5), .val (.int (0 : Int32)), .unset, .unset, .unset, .unset, .unset, .unset, .unset, .unset, .unset, .unset] [])) oT
      refine XS.bipush X0.here hx rfl (hb hby at_6) ?_
      exact oK
    show OG _ _ _ _ _ _ _ (s₁.setTop (mkF m 8 #[.val (.long q0), .second, .val (.long q1), .second, .val (.long q2), .second, .val (.long q3), .second, .val (.long qf), .second, .val (.int p5), .val (.int (0 : Int32)), .unset, .unset, .unset, .unset, .unset, .unset, .unset, .unset, .unset, .unset] [(.int (7 : Int32))]))
    obtain ⟨T11, h11, kc11, X11, e11, E11, A11, st11⟩ := newP X0 hx hZ (hw _ (List.mem_of_getElem? (i := 0) rfl)) e0 (g := (mkF m 8 #[.val (.long q0), .second, .val (.long q1), .second, .val (.long q2), .second, .val (.long q3), .second, .val (.long qf), .second, .val (.int p5), .val (.int (0 : Int32)), .unset, .unset, .unset, .unset, .unset, .unset, .unset, .unset, .unset, .unset] [(.int (7 : Int32))])) rfl (hb hby at_8) rfl (by decide) (cap := 7) (by decide) (by decide) (by decide) (by decide)
    obtain ⟨b11, g11⟩ : ∃ z, z = (h0).size := ⟨_, rfl⟩
    have gn_b11 : n0 ≤ b11 := Nat.le_trans Z0 (Nat.le_of_eq g11.symm)
    have sz_b11 : h0.size ≤ b11 := Nat.le_trans (Keep.refl h0 []).1 (Nat.le_of_eq g11.symm)
    rw [← g11] at A11 st11
    have f24 := (hO).ext E11
    have K11 : Keep h0 h11 [] := (Keep.refl h0 []).ext E11
    have Z11 : n0 ≤ h11.size := Nat.le_trans Z0 E11.1
    have V11 : Arv Z h11 b11 kc11 .long (7 : Int32) [(.long (0 : Int64)), (.long (0 : Int64)), (.long (0 : Int64)), (.long (0 : Int64)), (.long (0 : Int64)), (.long (0 : Int64)), (.long (0 : Int64))] (.long (0 : Int64)) := (Arv.new A11 (by decide)).pad (pad_rep [] (.long (0 : Int64)) 7)
    refine OG.of st11 ?_
    show OG _ _ _ _ _ _ _ (T11.setTop (mkF m 10 #[.val (.long q0), .second, .val (.long q1), .second, .val (.long q2), .second, .val (.long q3), .second, .val (.long qf), .second, .val (.int p5), .val (.int (0 : Int32)), .unset, .unset, .unset, .unset, .unset, .unset, .unset, .unset, .unset, .unset] [(.ref b11)]))
    refine OG.of (A := T11.setTop (mkF m 17 #[.val (.long q0), .second, .val (.long q1), .second, .val (.long q2), .second, .val (.long q3), .second, .val (.long qf), .second, .val (.int p5), .val (.int (0 : Int32)), .val (.ref b11), .unset, .unset, .unset, .unset, .unset, .unset, .unset, .unset, .unset] [(.long qf), (.int (0 : Int32)), (.ref b11)])) (fun oT oK => ?_) ?_
    · show Steps p.tables e below (T11.setTop (mkF m 10 #[.val (.long q0), .second, .val (.long q1), .second, .val (.long q2), .second, .val (.long q3), .second, .val (.long qf), .second, .val (.int p5), .val (.int (0 : Int32)), .unset, .unset, .unset, .unset, .unset, .unset, .unset, .unset, .unset, .unset] [(.ref b11)])) oT
      refine XS.astore X11.here hx rfl (hb hby at_10) rfl rfl (l' := #[.val (.long q0), .second, .val (.long q1), .second, .val (.long q2), .second, .val (.long q3), .second, .val (.long qf), .second, .val (.int p5), .val (.int (0 : Int32)), .val (.ref b11), .unset, .unset, .unset, .unset, .unset, .unset, .unset, .unset, .unset]) rfl ?_
      show Steps p.tables e below (T11.setTop (mkF m 12 #[.val (.long q0), .second, .val (.long q1), .second, .val (.long q2), .second, .val (.long q3), .second, .val (.long qf), .second, .val (.int p5), .val (.int (0 : Int32)), .val (.ref b11), .unset, .unset, .unset, .unset, .unset, .unset, .unset, .unset, .unset] [])) _
      refine XS.aload X11.here hx rfl (hb hby at_12) rfl rfl  ?_
      show Steps p.tables e below (T11.setTop (mkF m 14 #[.val (.long q0), .second, .val (.long q1), .second, .val (.long q2), .second, .val (.long q3), .second, .val (.long qf), .second, .val (.int p5), .val (.int (0 : Int32)), .val (.ref b11), .unset, .unset, .unset, .unset, .unset, .unset, .unset, .unset, .unset] [(.ref b11)])) _
      refine XS.iconst X11.here hx rfl (hb hby at_14) ?_
      show Steps p.tables e below (T11.setTop (mkF m 15 #[.val (.long q0), .second, .val (.long q1), .second, .val (.long q2), .second, .val (.long q3), .second, .val (.long qf), .second, .val (.int p5), .val (.int (0 : Int32)), .val (.ref b11), .unset, .unset, .unset, .unset, .unset, .unset, .unset, .unset, .unset] [(.int (0 : Int32)), (.ref b11)])) _
      refine XT.lload X11.here hx rfl (hb hby at_15) rfl  ?_
      exact oK
    show OG _ _ _ _ _ _ _ (T11.setTop (mkF m 17 #[.val (.long q0), .second, .val (.long q1), .second, .val (.long q2), .second, .val (.long q3), .second, .val (.long qf), .second, .val (.int p5), .val (.int (0 : Int32)), .val (.ref b11), .unset, .unset, .unset, .unset, .unset, .unset, .unset, .unset, .unset] [(.long qf), (.int (0 : Int32)), (.ref b11)]))
    have cf25 := V11
    obtain ⟨clf25, Arf25, qf25, Sf25, Mf25, Hf25, Gf25⟩ := cf25
    obtain ⟨T12, h12, X12, e12, W12, st12⟩ := stJ X11 hx hZ e11 Arf25 (j := (0 : Int32)) (inb_of Sf25 ⟨by decide, by decide⟩) (g := (mkF m 17 #[.val (.long q0), .second, .val (.long q1), .second, .val (.long q2), .second, .val (.long q3), .second, .val (.long qf), .second, .val (.int p5), .val (.int (0 : Int32)), .val (.ref b11), .unset, .unset, .unset, .unset, .unset, .unset, .unset, .unset, .unset] [(.long qf), (.int (0 : Int32)), (.ref b11)])) rfl rfl (hb hby at_17)
    have V12 : Arv Z h12 b11 kc11 .long (7 : Int32) [(.long qf), (.long (0 : Int64)), (.long (0 : Int64)), (.long (0 : Int64)), (.long (0 : Int64)), (.long (0 : Int64)), (.long (0 : Int64))] (.long (0 : Int64)) := Arv.set Arf25 qf25 Sf25 Mf25 Hf25 Gf25 rfl W12 0 rfl (Nat.le_of_ble_eq_true rfl)
    have f27 := (f24).wr W12 gn_b11
    have K12 : Keep h0 h12 [] := (K11).wr W12 (Or.inr sz_b11)
    have Z12 : n0 ≤ h12.size := Nat.le_trans Z11 (Keep.of_wr W12).1
    have N12 := Fr.snoc X12 N0 gn_b11
    refine OG.of st12 ?_
    show OG _ _ _ _ _ _ _ (T12.setTop (mkF m 18 #[.val (.long q0), .second, .val (.long q1), .second, .val (.long q2), .second, .val (.long q3), .second, .val (.long qf), .second, .val (.int p5), .val (.int (0 : Int32)), .val (.ref b11), .unset, .unset, .unset, .unset, .unset, .unset, .unset, .unset, .unset] []))
    refine OG.of (A := T12.setTop (mkF m 23 #[.val (.long q0), .second, .val (.long q1), .second, .val (.long q2), .second, .val (.long q3), .second, .val (.long qf), .second, .val (.int p5), .val (.int (0 : Int32)), .val (.ref b11), .unset, .unset, .unset, .unset, .unset, .unset, .unset, .unset, .unset] [(.long qf), (.int (1 : Int32)), (.ref b11)])) (fun oT oK => ?_) ?_
    · show Steps p.tables e below (T12.setTop (mkF m 18 #[.val (.long q0), .second, .val (.long q1), .second, .val (.long q2), .second, .val (.long q3), .second, .val (.long qf), .second, .val (.int p5), .val (.int (0 : Int32)), .val (.ref b11), .unset, .unset, .unset, .unset, .unset, .unset, .unset, .unset, .unset] [])) oT
      refine XS.aload X12.here hx rfl (hb hby at_18) rfl rfl  ?_
      show Steps p.tables e below (T12.setTop (mkF m 20 #[.val (.long q0), .second, .val (.long q1), .second, .val (.long q2), .second, .val (.long q3), .second, .val (.long qf), .second, .val (.int p5), .val (.int (0 : Int32)), .val (.ref b11), .unset, .unset, .unset, .unset, .unset, .unset, .unset, .unset, .unset] [(.ref b11)])) _
      refine XS.iconst X12.here hx rfl (hb hby at_20) ?_
      show Steps p.tables e below (T12.setTop (mkF m 21 #[.val (.long q0), .second, .val (.long q1), .second, .val (.long q2), .second, .val (.long q3), .second, .val (.long qf), .second, .val (.int p5), .val (.int (0 : Int32)), .val (.ref b11), .unset, .unset, .unset, .unset, .unset, .unset, .unset, .unset, .unset] [(.int (1 : Int32)), (.ref b11)])) _
      refine XT.lload X12.here hx rfl (hb hby at_21) rfl  ?_
      exact oK
    show OG _ _ _ _ _ _ _ (T12.setTop (mkF m 23 #[.val (.long q0), .second, .val (.long q1), .second, .val (.long q2), .second, .val (.long q3), .second, .val (.long qf), .second, .val (.int p5), .val (.int (0 : Int32)), .val (.ref b11), .unset, .unset, .unset, .unset, .unset, .unset, .unset, .unset, .unset] [(.long qf), (.int (1 : Int32)), (.ref b11)]))
    have cf28 := V12
    obtain ⟨clf28, Arf28, qf28, Sf28, Mf28, Hf28, Gf28⟩ := cf28
    obtain ⟨T13, h13, X13, e13, W13, st13⟩ := stJ X12 hx hZ e12 Arf28 (j := (1 : Int32)) (inb_of Sf28 ⟨by decide, by decide⟩) (g := (mkF m 23 #[.val (.long q0), .second, .val (.long q1), .second, .val (.long q2), .second, .val (.long q3), .second, .val (.long qf), .second, .val (.int p5), .val (.int (0 : Int32)), .val (.ref b11), .unset, .unset, .unset, .unset, .unset, .unset, .unset, .unset, .unset] [(.long qf), (.int (1 : Int32)), (.ref b11)])) rfl rfl (hb hby at_23)
    have V13 : Arv Z h13 b11 kc11 .long (7 : Int32) [(.long qf), (.long qf), (.long (0 : Int64)), (.long (0 : Int64)), (.long (0 : Int64)), (.long (0 : Int64)), (.long (0 : Int64))] (.long (0 : Int64)) := Arv.set Arf28 qf28 Sf28 Mf28 Hf28 Gf28 rfl W13 1 rfl (Nat.le_of_ble_eq_true rfl)
    have f30 := (f27).wr W13 gn_b11
    have K13 : Keep h0 h13 [] := (K12).wr W13 (Or.inr sz_b11)
    have Z13 : n0 ≤ h13.size := Nat.le_trans Z12 (Keep.of_wr W13).1
    have N13 := Fr.snoc X13 N12 gn_b11
    refine OG.of st13 ?_
    show OG _ _ _ _ _ _ _ (T13.setTop (mkF m 24 #[.val (.long q0), .second, .val (.long q1), .second, .val (.long q2), .second, .val (.long q3), .second, .val (.long qf), .second, .val (.int p5), .val (.int (0 : Int32)), .val (.ref b11), .unset, .unset, .unset, .unset, .unset, .unset, .unset, .unset, .unset] []))
    refine OG.of (A := T13.setTop (mkF m 29 #[.val (.long q0), .second, .val (.long q1), .second, .val (.long q2), .second, .val (.long q3), .second, .val (.long qf), .second, .val (.int p5), .val (.int (0 : Int32)), .val (.ref b11), .unset, .unset, .unset, .unset, .unset, .unset, .unset, .unset, .unset] [(.long qf), (.int (2 : Int32)), (.ref b11)])) (fun oT oK => ?_) ?_
    · show Steps p.tables e below (T13.setTop (mkF m 24 #[.val (.long q0), .second, .val (.long q1), .second, .val (.long q2), .second, .val (.long q3), .second, .val (.long qf), .second, .val (.int p5), .val (.int (0 : Int32)), .val (.ref b11), .unset, .unset, .unset, .unset, .unset, .unset, .unset, .unset, .unset] [])) oT
      refine XS.aload X13.here hx rfl (hb hby at_24) rfl rfl  ?_
      show Steps p.tables e below (T13.setTop (mkF m 26 #[.val (.long q0), .second, .val (.long q1), .second, .val (.long q2), .second, .val (.long q3), .second, .val (.long qf), .second, .val (.int p5), .val (.int (0 : Int32)), .val (.ref b11), .unset, .unset, .unset, .unset, .unset, .unset, .unset, .unset, .unset] [(.ref b11)])) _
      refine XS.iconst X13.here hx rfl (hb hby at_26) ?_
      show Steps p.tables e below (T13.setTop (mkF m 27 #[.val (.long q0), .second, .val (.long q1), .second, .val (.long q2), .second, .val (.long q3), .second, .val (.long qf), .second, .val (.int p5), .val (.int (0 : Int32)), .val (.ref b11), .unset, .unset, .unset, .unset, .unset, .unset, .unset, .unset, .unset] [(.int (2 : Int32)), (.ref b11)])) _
      refine XT.lload X13.here hx rfl (hb hby at_27) rfl  ?_
      exact oK
    show OG _ _ _ _ _ _ _ (T13.setTop (mkF m 29 #[.val (.long q0), .second, .val (.long q1), .second, .val (.long q2), .second, .val (.long q3), .second, .val (.long qf), .second, .val (.int p5), .val (.int (0 : Int32)), .val (.ref b11), .unset, .unset, .unset, .unset, .unset, .unset, .unset, .unset, .unset] [(.long qf), (.int (2 : Int32)), (.ref b11)]))
    have cf31 := V13
    obtain ⟨clf31, Arf31, qf31, Sf31, Mf31, Hf31, Gf31⟩ := cf31
    obtain ⟨T14, h14, X14, e14, W14, st14⟩ := stJ X13 hx hZ e13 Arf31 (j := (2 : Int32)) (inb_of Sf31 ⟨by decide, by decide⟩) (g := (mkF m 29 #[.val (.long q0), .second, .val (.long q1), .second, .val (.long q2), .second, .val (.long q3), .second, .val (.long qf), .second, .val (.int p5), .val (.int (0 : Int32)), .val (.ref b11), .unset, .unset, .unset, .unset, .unset, .unset, .unset, .unset, .unset] [(.long qf), (.int (2 : Int32)), (.ref b11)])) rfl rfl (hb hby at_29)
    have V14 : Arv Z h14 b11 kc11 .long (7 : Int32) [(.long qf), (.long qf), (.long qf), (.long (0 : Int64)), (.long (0 : Int64)), (.long (0 : Int64)), (.long (0 : Int64))] (.long (0 : Int64)) := Arv.set Arf31 qf31 Sf31 Mf31 Hf31 Gf31 rfl W14 2 rfl (Nat.le_of_ble_eq_true rfl)
    have f33 := (f30).wr W14 gn_b11
    have K14 : Keep h0 h14 [] := (K13).wr W14 (Or.inr sz_b11)
    have Z14 : n0 ≤ h14.size := Nat.le_trans Z13 (Keep.of_wr W14).1
    have N14 := Fr.snoc X14 N13 gn_b11
    refine OG.of st14 ?_
    show OG _ _ _ _ _ _ _ (T14.setTop (mkF m 30 #[.val (.long q0), .second, .val (.long q1), .second, .val (.long q2), .second, .val (.long q3), .second, .val (.long qf), .second, .val (.int p5), .val (.int (0 : Int32)), .val (.ref b11), .unset, .unset, .unset, .unset, .unset, .unset, .unset, .unset, .unset] []))
    refine OG.of (A := T14.setTop (mkF m 35 #[.val (.long q0), .second, .val (.long q1), .second, .val (.long q2), .second, .val (.long q3), .second, .val (.long qf), .second, .val (.int p5), .val (.int (0 : Int32)), .val (.ref b11), .unset, .unset, .unset, .unset, .unset, .unset, .unset, .unset, .unset] [(.long qf), (.int (3 : Int32)), (.ref b11)])) (fun oT oK => ?_) ?_
    · show Steps p.tables e below (T14.setTop (mkF m 30 #[.val (.long q0), .second, .val (.long q1), .second, .val (.long q2), .second, .val (.long q3), .second, .val (.long qf), .second, .val (.int p5), .val (.int (0 : Int32)), .val (.ref b11), .unset, .unset, .unset, .unset, .unset, .unset, .unset, .unset, .unset] [])) oT
      refine XS.aload X14.here hx rfl (hb hby at_30) rfl rfl  ?_
      show Steps p.tables e below (T14.setTop (mkF m 32 #[.val (.long q0), .second, .val (.long q1), .second, .val (.long q2), .second, .val (.long q3), .second, .val (.long qf), .second, .val (.int p5), .val (.int (0 : Int32)), .val (.ref b11), .unset, .unset, .unset, .unset, .unset, .unset, .unset, .unset, .unset] [(.ref b11)])) _
      refine XS.iconst X14.here hx rfl (hb hby at_32) ?_
      show Steps p.tables e below (T14.setTop (mkF m 33 #[.val (.long q0), .second, .val (.long q1), .second, .val (.long q2), .second, .val (.long q3), .second, .val (.long qf), .second, .val (.int p5), .val (.int (0 : Int32)), .val (.ref b11), .unset, .unset, .unset, .unset, .unset, .unset, .unset, .unset, .unset] [(.int (3 : Int32)), (.ref b11)])) _
      refine XT.lload X14.here hx rfl (hb hby at_33) rfl  ?_
      exact oK
    show OG _ _ _ _ _ _ _ (T14.setTop (mkF m 35 #[.val (.long q0), .second, .val (.long q1), .second, .val (.long q2), .second, .val (.long q3), .second, .val (.long qf), .second, .val (.int p5), .val (.int (0 : Int32)), .val (.ref b11), .unset, .unset, .unset, .unset, .unset, .unset, .unset, .unset, .unset] [(.long qf), (.int (3 : Int32)), (.ref b11)]))
    have cf34 := V14
    obtain ⟨clf34, Arf34, qf34, Sf34, Mf34, Hf34, Gf34⟩ := cf34
    obtain ⟨T15, h15, X15, e15, W15, st15⟩ := stJ X14 hx hZ e14 Arf34 (j := (3 : Int32)) (inb_of Sf34 ⟨by decide, by decide⟩) (g := (mkF m 35 #[.val (.long q0), .second, .val (.long q1), .second, .val (.long q2), .second, .val (.long q3), .second, .val (.long qf), .second, .val (.int p5), .val (.int (0 : Int32)), .val (.ref b11), .unset, .unset, .unset, .unset, .unset, .unset, .unset, .unset, .unset] [(.long qf), (.int (3 : Int32)), (.ref b11)])) rfl rfl (hb hby at_35)
    have V15 : Arv Z h15 b11 kc11 .long (7 : Int32) [(.long qf), (.long qf), (.long qf), (.long qf), (.long (0 : Int64)), (.long (0 : Int64)), (.long (0 : Int64))] (.long (0 : Int64)) := Arv.set Arf34 qf34 Sf34 Mf34 Hf34 Gf34 rfl W15 3 rfl (Nat.le_of_ble_eq_true rfl)
    have f36 := (f33).wr W15 gn_b11
    have K15 : Keep h0 h15 [] := (K14).wr W15 (Or.inr sz_b11)
    have Z15 : n0 ≤ h15.size := Nat.le_trans Z14 (Keep.of_wr W15).1
    have N15 := Fr.snoc X15 N14 gn_b11
    refine OG.of st15 ?_
    show OG _ _ _ _ _ _ _ (T15.setTop (mkF m 36 #[.val (.long q0), .second, .val (.long q1), .second, .val (.long q2), .second, .val (.long q3), .second, .val (.long qf), .second, .val (.int p5), .val (.int (0 : Int32)), .val (.ref b11), .unset, .unset, .unset, .unset, .unset, .unset, .unset, .unset, .unset] []))
    refine OG.of (A := T15.setTop (mkF m 41 #[.val (.long q0), .second, .val (.long q1), .second, .val (.long q2), .second, .val (.long q3), .second, .val (.long qf), .second, .val (.int p5), .val (.int (0 : Int32)), .val (.ref b11), .unset, .unset, .unset, .unset, .unset, .unset, .unset, .unset, .unset] [(.long qf), (.int (4 : Int32)), (.ref b11)])) (fun oT oK => ?_) ?_
    · show Steps p.tables e below (T15.setTop (mkF m 36 #[.val (.long q0), .second, .val (.long q1), .second, .val (.long q2), .second, .val (.long q3), .second, .val (.long qf), .second, .val (.int p5), .val (.int (0 : Int32)), .val (.ref b11), .unset, .unset, .unset, .unset, .unset, .unset, .unset, .unset, .unset] [])) oT
      refine XS.aload X15.here hx rfl (hb hby at_36) rfl rfl  ?_
      show Steps p.tables e below (T15.setTop (mkF m 38 #[.val (.long q0), .second, .val (.long q1), .second, .val (.long q2), .second, .val (.long q3), .second, .val (.long qf), .second, .val (.int p5), .val (.int (0 : Int32)), .val (.ref b11), .unset, .unset, .unset, .unset, .unset, .unset, .unset, .unset, .unset] [(.ref b11)])) _
      refine XS.iconst X15.here hx rfl (hb hby at_38) ?_
      show Steps p.tables e below (T15.setTop (mkF m 39 #[.val (.long q0), .second, .val (.long q1), .second, .val (.long q2), .second, .val (.long q3), .second, .val (.long qf), .second, .val (.int p5), .val (.int (0 : Int32)), .val (.ref b11), .unset, .unset, .unset, .unset, .unset, .unset, .unset, .unset, .unset] [(.int (4 : Int32)), (.ref b11)])) _
      refine XT.lload X15.here hx rfl (hb hby at_39) rfl  ?_
      exact oK
    show OG _ _ _ _ _ _ _ (T15.setTop (mkF m 41 #[.val (.long q0), .second, .val (.long q1), .second, .val (.long q2), .second, .val (.long q3), .second, .val (.long qf), .second, .val (.int p5), .val (.int (0 : Int32)), .val (.ref b11), .unset, .unset, .unset, .unset, .unset, .unset, .unset, .unset, .unset] [(.long qf), (.int (4 : Int32)), (.ref b11)]))
    have cf37 := V15
    obtain ⟨clf37, Arf37, qf37, Sf37, Mf37, Hf37, Gf37⟩ := cf37
    obtain ⟨T16, h16, X16, e16, W16, st16⟩ := stJ X15 hx hZ e15 Arf37 (j := (4 : Int32)) (inb_of Sf37 ⟨by decide, by decide⟩) (g := (mkF m 41 #[.val (.long q0), .second, .val (.long q1), .second, .val (.long q2), .second, .val (.long q3), .second, .val (.long qf), .second, .val (.int p5), .val (.int (0 : Int32)), .val (.ref b11), .unset, .unset, .unset, .unset, .unset, .unset, .unset, .unset, .unset] [(.long qf), (.int (4 : Int32)), (.ref b11)])) rfl rfl (hb hby at_41)
    have V16 : Arv Z h16 b11 kc11 .long (7 : Int32) [(.long qf), (.long qf), (.long qf), (.long qf), (.long qf), (.long (0 : Int64)), (.long (0 : Int64))] (.long (0 : Int64)) := Arv.set Arf37 qf37 Sf37 Mf37 Hf37 Gf37 rfl W16 4 rfl (Nat.le_of_ble_eq_true rfl)
    have f39 := (f36).wr W16 gn_b11
    have K16 : Keep h0 h16 [] := (K15).wr W16 (Or.inr sz_b11)
    have Z16 : n0 ≤ h16.size := Nat.le_trans Z15 (Keep.of_wr W16).1
    have N16 := Fr.snoc X16 N15 gn_b11
    refine OG.of st16 ?_
    show OG _ _ _ _ _ _ _ (T16.setTop (mkF m 42 #[.val (.long q0), .second, .val (.long q1), .second, .val (.long q2), .second, .val (.long q3), .second, .val (.long qf), .second, .val (.int p5), .val (.int (0 : Int32)), .val (.ref b11), .unset, .unset, .unset, .unset, .unset, .unset, .unset, .unset, .unset] []))
    refine OG.of (A := T16.setTop (mkF m 47 #[.val (.long q0), .second, .val (.long q1), .second, .val (.long q2), .second, .val (.long q3), .second, .val (.long qf), .second, .val (.int p5), .val (.int (0 : Int32)), .val (.ref b11), .unset, .unset, .unset, .unset, .unset, .unset, .unset, .unset, .unset] [(.long qf), (.int (5 : Int32)), (.ref b11)])) (fun oT oK => ?_) ?_
    · show Steps p.tables e below (T16.setTop (mkF m 42 #[.val (.long q0), .second, .val (.long q1), .second, .val (.long q2), .second, .val (.long q3), .second, .val (.long qf), .second, .val (.int p5), .val (.int (0 : Int32)), .val (.ref b11), .unset, .unset, .unset, .unset, .unset, .unset, .unset, .unset, .unset] [])) oT
      refine XS.aload X16.here hx rfl (hb hby at_42) rfl rfl  ?_
      show Steps p.tables e below (T16.setTop (mkF m 44 #[.val (.long q0), .second, .val (.long q1), .second, .val (.long q2), .second, .val (.long q3), .second, .val (.long qf), .second, .val (.int p5), .val (.int (0 : Int32)), .val (.ref b11), .unset, .unset, .unset, .unset, .unset, .unset, .unset, .unset, .unset] [(.ref b11)])) _
      refine XS.iconst X16.here hx rfl (hb hby at_44) ?_
      show Steps p.tables e below (T16.setTop (mkF m 45 #[.val (.long q0), .second, .val (.long q1), .second, .val (.long q2), .second, .val (.long q3), .second, .val (.long qf), .second, .val (.int p5), .val (.int (0 : Int32)), .val (.ref b11), .unset, .unset, .unset, .unset, .unset, .unset, .unset, .unset, .unset] [(.int (5 : Int32)), (.ref b11)])) _
      refine XT.lload X16.here hx rfl (hb hby at_45) rfl  ?_
      exact oK
    show OG _ _ _ _ _ _ _ (T16.setTop (mkF m 47 #[.val (.long q0), .second, .val (.long q1), .second, .val (.long q2), .second, .val (.long q3), .second, .val (.long qf), .second, .val (.int p5), .val (.int (0 : Int32)), .val (.ref b11), .unset, .unset, .unset, .unset, .unset, .unset, .unset, .unset, .unset] [(.long qf), (.int (5 : Int32)), (.ref b11)]))
    have cf40 := V16
    obtain ⟨clf40, Arf40, qf40, Sf40, Mf40, Hf40, Gf40⟩ := cf40
    obtain ⟨T17, h17, X17, e17, W17, st17⟩ := stJ X16 hx hZ e16 Arf40 (j := (5 : Int32)) (inb_of Sf40 ⟨by decide, by decide⟩) (g := (mkF m 47 #[.val (.long q0), .second, .val (.long q1), .second, .val (.long q2), .second, .val (.long q3), .second, .val (.long qf), .second, .val (.int p5), .val (.int (0 : Int32)), .val (.ref b11), .unset, .unset, .unset, .unset, .unset, .unset, .unset, .unset, .unset] [(.long qf), (.int (5 : Int32)), (.ref b11)])) rfl rfl (hb hby at_47)
    have V17 : Arv Z h17 b11 kc11 .long (7 : Int32) [(.long qf), (.long qf), (.long qf), (.long qf), (.long qf), (.long qf), (.long (0 : Int64))] (.long (0 : Int64)) := Arv.set Arf40 qf40 Sf40 Mf40 Hf40 Gf40 rfl W17 5 rfl (Nat.le_of_ble_eq_true rfl)
    have f42 := (f39).wr W17 gn_b11
    have K17 : Keep h0 h17 [] := (K16).wr W17 (Or.inr sz_b11)
    have Z17 : n0 ≤ h17.size := Nat.le_trans Z16 (Keep.of_wr W17).1
    have N17 := Fr.snoc X17 N16 gn_b11
    refine OG.of st17 ?_
    show OG _ _ _ _ _ _ _ (T17.setTop (mkF m 48 #[.val (.long q0), .second, .val (.long q1), .second, .val (.long q2), .second, .val (.long q3), .second, .val (.long qf), .second, .val (.int p5), .val (.int (0 : Int32)), .val (.ref b11), .unset, .unset, .unset, .unset, .unset, .unset, .unset, .unset, .unset] []))
    refine OG.of (A := T17.setTop (mkF m 54 #[.val (.long q0), .second, .val (.long q1), .second, .val (.long q2), .second, .val (.long q3), .second, .val (.long qf), .second, .val (.int p5), .val (.int (0 : Int32)), .val (.ref b11), .unset, .unset, .unset, .unset, .unset, .unset, .unset, .unset, .unset] [(.long qf), (.int (6 : Int32)), (.ref b11)])) (fun oT oK => ?_) ?_
    · show Steps p.tables e below (T17.setTop (mkF m 48 #[.val (.long q0), .second, .val (.long q1), .second, .val (.long q2), .second, .val (.long q3), .second, .val (.long qf), .second, .val (.int p5), .val (.int (0 : Int32)), .val (.ref b11), .unset, .unset, .unset, .unset, .unset, .unset, .unset, .unset, .unset] [])) oT
      refine XS.aload X17.here hx rfl (hb hby at_48) rfl rfl  ?_
      show Steps p.tables e below (T17.setTop (mkF m 50 #[.val (.long q0), .second, .val (.long q1), .second, .val (.long q2), .second, .val (.long q3), .second, .val (.long qf), .second, .val (.int p5), .val (.int (0 : Int32)), .val (.ref b11), .unset, .unset, .unset, .unset, .unset, .unset, .unset, .unset, .unset] [(.ref b11)])) _
      refine XS.bipush X17.here hx rfl (hb hby at_50) ?_
      show Steps p.tables e below (T17.setTop (mkF m 52 #[.val (.long q0), .second, .val (.long q1), .second, .val (.long q2), .second, .val (.long q3), .second, .val (.long qf), .second, .val (.int p5), .val (.int (0 : Int32)), .val (.ref b11), .unset, .unset, .unset, .unset, .unset, .unset, .unset, .unset, .unset] [(.int (6 : Int32)), (.ref b11)])) _
      refine XT.lload X17.here hx rfl (hb hby at_52) rfl  ?_
      exact oK
    show OG _ _ _ _ _ _ _ (T17.setTop (mkF m 54 #[.val (.long q0), .second, .val (.long q1), .second, .val (.long q2), .second, .val (.long q3), .second, .val (.long qf), .second, .val (.int p5), .val (.int (0 : Int32)), .val (.ref b11), .unset, .unset, .unset, .unset, .unset, .unset, .unset, .unset, .unset] [(.long qf), (.int (6 : Int32)), (.ref b11)]))
    have cf43 := V17
    obtain ⟨clf43, Arf43, qf43, Sf43, Mf43, Hf43, Gf43⟩ := cf43
    obtain ⟨T18, h18, X18, e18, W18, st18⟩ := stJ X17 hx hZ e17 Arf43 (j := (6 : Int32)) (inb_of Sf43 ⟨by decide, by decide⟩) (g := (mkF m 54 #[.val (.long q0), .second, .val (.long q1), .second, .val (.long q2), .second, .val (.long q3), .second, .val (.long qf), .second, .val (.int p5), .val (.int (0 : Int32)), .val (.ref b11), .unset, .unset, .unset, .unset, .unset, .unset, .unset, .unset, .unset] [(.long qf), (.int (6 : Int32)), (.ref b11)])) rfl rfl (hb hby at_54)
    have V18 : Arv Z h18 b11 kc11 .long (7 : Int32) [(.long qf), (.long qf), (.long qf), (.long qf), (.long qf), (.long qf), (.long qf)] (.long (0 : Int64)) := Arv.set Arf43 qf43 Sf43 Mf43 Hf43 Gf43 rfl W18 6 rfl (Nat.le_of_ble_eq_true rfl)
    have f45 := (f42).wr W18 gn_b11
    have K18 : Keep h0 h18 [] := (K17).wr W18 (Or.inr sz_b11)
    have Z18 : n0 ≤ h18.size := Nat.le_trans Z17 (Keep.of_wr W18).1
    have N18 := Fr.snoc X18 N17 gn_b11
    refine OG.of st18 ?_
    show OG _ _ _ _ _ _ _ (T18.setTop (mkF m 55 #[.val (.long q0), .second, .val (.long q1), .second, .val (.long q2), .second, .val (.long q3), .second, .val (.long qf), .second, .val (.int p5), .val (.int (0 : Int32)), .val (.ref b11), .unset, .unset, .unset, .unset, .unset, .unset, .unset, .unset, .unset] []))
    refine OG.of (A := T18.setTop (mkF m 60 #[.val (.long q0), .second, .val (.long q1), .second, .val (.long q2), .second, .val (.long q3), .second, .val (.long qf), .second, .val (.int p5), .val (.int (0 : Int32)), .val (.ref b11), .unset, .unset, .unset, .unset, .unset, .unset, .unset, .unset, .unset] [(.long q0), (.int (0 : Int32)), (.ref b11)])) (fun oT oK => ?_) ?_
    · show Steps p.tables e below (T18.setTop (mkF m 55 #[.val (.long q0), .second, .val (.long q1), .second, .val (.long q2), .second, .val (.long q3), .second, .val (.long qf), .second, .val (.int p5), .val (.int (0 : Int32)), .val (.ref b11), .unset, .unset, .unset, .unset, .unset, .unset, .unset, .unset, .unset] [])) oT
      refine XS.aload X18.here hx rfl (hb hby at_55) rfl rfl  ?_
      show Steps p.tables e below (T18.setTop (mkF m 57 #[.val (.long q0), .second, .val (.long q1), .second, .val (.long q2), .second, .val (.long q3), .second, .val (.long qf), .second, .val (.int p5), .val (.int (0 : Int32)), .val (.ref b11), .unset, .unset, .unset, .unset, .unset, .unset, .unset, .unset, .unset] [(.ref b11)])) _
      refine XS.iload X18.here hx rfl (hb hby at_57) rfl  ?_
      show Steps p.tables e below (T18.setTop (mkF m 59 #[.val (.long q0), .second, .val (.long q1), .second, .val (.long q2), .second, .val (.long q3), .second, .val (.long qf), .second, .val (.int p5), .val (.int (0 : Int32)), .val (.ref b11), .unset, .unset, .unset, .unset, .unset, .unset, .unset, .unset, .unset] [(.int (0 : Int32)), (.ref b11)])) _
      refine XT.lloadN X18.here hx rfl (hb hby at_59) rfl  ?_
      exact oK
    show OG _ _ _ _ _ _ _ (T18.setTop (mkF m 60 #[.val (.long q0), .second, .val (.long q1), .second, .val (.long q2), .second, .val (.long q3), .second, .val (.long qf), .second, .val (.int p5), .val (.int (0 : Int32)), .val (.ref b11), .unset, .unset, .unset, .unset, .unset, .unset, .unset, .unset, .unset] [(.long q0), (.int (0 : Int32)), (.ref b11)]))
    have cf46 := V18
    obtain ⟨clf46, Arf46, qf46, Sf46, Mf46, Hf46, Gf46⟩ := cf46
    obtain ⟨T19, h19, X19, e19, W19, st19⟩ := stJ X18 hx hZ e18 Arf46 (j := (0 : Int32)) (inb_of Sf46 ⟨by decide, by decide⟩) (g := (mkF m 60 #[.val (.long q0), .second, .val (.long q1), .second, .val (.long q2), .second, .val (.long q3), .second, .val (.long qf), .second, .val (.int p5), .val (.int (0 : Int32)), .val (.ref b11), .unset, .unset, .unset, .unset, .unset, .unset, .unset, .unset, .unset] [(.long q0), (.int (0 : Int32)), (.ref b11)])) rfl rfl (hb hby at_60)
    have V19 : Arv Z h19 b11 kc11 .long (7 : Int32) [(.long q0), (.long qf), (.long qf), (.long qf), (.long qf), (.long qf), (.long qf)] (.long (0 : Int64)) := Arv.set Arf46 qf46 Sf46 Mf46 Hf46 Gf46 rfl W19 0 rfl (Nat.le_of_ble_eq_true rfl)
    have f48 := (f45).wr W19 gn_b11
    have K19 : Keep h0 h19 [] := (K18).wr W19 (Or.inr sz_b11)
    have Z19 : n0 ≤ h19.size := Nat.le_trans Z18 (Keep.of_wr W19).1
    have N19 := Fr.snoc X19 N18 gn_b11
    refine OG.of st19 ?_
    show OG _ _ _ _ _ _ _ (T19.setTop (mkF m 61 #[.val (.long q0), .second, .val (.long q1), .second, .val (.long q2), .second, .val (.long q3), .second, .val (.long qf), .second, .val (.int p5), .val (.int (0 : Int32)), .val (.ref b11), .unset, .unset, .unset, .unset, .unset, .unset, .unset, .unset, .unset] []))
    refine OG.of (A := T19.setTop (mkF m 68 #[.val (.long q0), .second, .val (.long q1), .second, .val (.long q2), .second, .val (.long q3), .second, .val (.long qf), .second, .val (.int p5), .val (.int (0 : Int32)), .val (.ref b11), .unset, .unset, .unset, .unset, .unset, .unset, .unset, .unset, .unset] [(.long q1), (.int (1 : Int32)), (.ref b11)])) (fun oT oK => ?_) ?_
    · show Steps p.tables e below (T19.setTop (mkF m 61 #[.val (.long q0), .second, .val (.long q1), .second, .val (.long q2), .second, .val (.long q3), .second, .val (.long qf), .second, .val (.int p5), .val (.int (0 : Int32)), .val (.ref b11), .unset, .unset, .unset, .unset, .unset, .unset, .unset, .unset, .unset] [])) oT
      refine XS.aload X19.here hx rfl (hb hby at_61) rfl rfl  ?_
      show Steps p.tables e below (T19.setTop (mkF m 63 #[.val (.long q0), .second, .val (.long q1), .second, .val (.long q2), .second, .val (.long q3), .second, .val (.long qf), .second, .val (.int p5), .val (.int (0 : Int32)), .val (.ref b11), .unset, .unset, .unset, .unset, .unset, .unset, .unset, .unset, .unset] [(.ref b11)])) _
      refine XS.iload X19.here hx rfl (hb hby at_63) rfl  ?_
      show Steps p.tables e below (T19.setTop (mkF m 65 #[.val (.long q0), .second, .val (.long q1), .second, .val (.long q2), .second, .val (.long q3), .second, .val (.long qf), .second, .val (.int p5), .val (.int (0 : Int32)), .val (.ref b11), .unset, .unset, .unset, .unset, .unset, .unset, .unset, .unset, .unset] [(.int (0 : Int32)), (.ref b11)])) _
      refine XS.iconst X19.here hx rfl (hb hby at_65) ?_
      show Steps p.tables e below (T19.setTop (mkF m 66 #[.val (.long q0), .second, .val (.long q1), .second, .val (.long q2), .second, .val (.long q3), .second, .val (.long qf), .second, .val (.int p5), .val (.int (0 : Int32)), .val (.ref b11), .unset, .unset, .unset, .unset, .unset, .unset, .unset, .unset, .unset] [(.int (1 : Int32)), (.int (0 : Int32)), (.ref b11)])) _
      refine XS.iadd X19.here hx rfl (hb hby at_66) rfl ?_
      show Steps p.tables e below (T19.setTop (mkF m 67 #[.val (.long q0), .second, .val (.long q1), .second, .val (.long q2), .second, .val (.long q3), .second, .val (.long qf), .second, .val (.int p5), .val (.int (0 : Int32)), .val (.ref b11), .unset, .unset, .unset, .unset, .unset, .unset, .unset, .unset, .unset] [(.int (1 : Int32)), (.ref b11)])) _
      refine XT.lloadN X19.here hx rfl (hb hby at_67) rfl  ?_
      exact oK
    show OG _ _ _ _ _ _ _ (T19.setTop (mkF m 68 #[.val (.long q0), .second, .val (.long q1), .second, .val (.long q2), .second, .val (.long q3), .second, .val (.long qf), .second, .val (.int p5), .val (.int (0 : Int32)), .val (.ref b11), .unset, .unset, .unset, .unset, .unset, .unset, .unset, .unset, .unset] [(.long q1), (.int (1 : Int32)), (.ref b11)]))
    have cf49 := V19
    obtain ⟨clf49, Arf49, qf49, Sf49, Mf49, Hf49, Gf49⟩ := cf49
    obtain ⟨T20, h20, X20, e20, W20, st20⟩ := stJ X19 hx hZ e19 Arf49 (j := (1 : Int32)) (inb_of Sf49 ⟨by decide, by decide⟩) (g := (mkF m 68 #[.val (.long q0), .second, .val (.long q1), .second, .val (.long q2), .second, .val (.long q3), .second, .val (.long qf), .second, .val (.int p5), .val (.int (0 : Int32)), .val (.ref b11), .unset, .unset, .unset, .unset, .unset, .unset, .unset, .unset, .unset] [(.long q1), (.int (1 : Int32)), (.ref b11)])) rfl rfl (hb hby at_68)
    have V20 : Arv Z h20 b11 kc11 .long (7 : Int32) [(.long q0), (.long q1), (.long qf), (.long qf), (.long qf), (.long qf), (.long qf)] (.long (0 : Int64)) := Arv.set Arf49 qf49 Sf49 Mf49 Hf49 Gf49 rfl W20 1 rfl (Nat.le_of_ble_eq_true rfl)
    have f51 := (f48).wr W20 gn_b11
    have K20 : Keep h0 h20 [] := (K19).wr W20 (Or.inr sz_b11)
    have Z20 : n0 ≤ h20.size := Nat.le_trans Z19 (Keep.of_wr W20).1
    have N20 := Fr.snoc X20 N19 gn_b11
    refine OG.of st20 ?_
    show OG _ _ _ _ _ _ _ (T20.setTop (mkF m 69 #[.val (.long q0), .second, .val (.long q1), .second, .val (.long q2), .second, .val (.long q3), .second, .val (.long qf), .second, .val (.int p5), .val (.int (0 : Int32)), .val (.ref b11), .unset, .unset, .unset, .unset, .unset, .unset, .unset, .unset, .unset] []))
    refine OG.of (A := T20.setTop (mkF m 77 #[.val (.long q0), .second, .val (.long q1), .second, .val (.long q2), .second, .val (.long q3), .second, .val (.long qf), .second, .val (.int p5), .val (.int (0 : Int32)), .val (.ref b11), .unset, .unset, .unset, .unset, .unset, .unset, .unset, .unset, .unset] [(.long q2), (.int (2 : Int32)), (.ref b11)])) (fun oT oK => ?_) ?_
    · show Steps p.tables e below (T20.setTop (mkF m 69 #[.val (.long q0), .second, .val (.long q1), .second, .val (.long q2), .second, .val (.long q3), .second, .val (.long qf), .second, .val (.int p5), .val (.int (0 : Int32)), .val (.ref b11), .unset, .unset, .unset, .unset, .unset, .unset, .unset, .unset, .unset] [])) oT
      refine XS.aload X20.here hx rfl (hb hby at_69) rfl rfl  ?_
      show Steps p.tables e below (T20.setTop (mkF m 71 #[.val (.long q0), .second, .val (.long q1), .second, .val (.long q2), .second, .val (.long q3), .second, .val (.long qf), .second, .val (.int p5), .val (.int (0 : Int32)), .val (.ref b11), .unset, .unset, .unset, .unset, .unset, .unset, .unset, .unset, .unset] [(.ref b11)])) _
      refine XS.iload X20.here hx rfl (hb hby at_71) rfl  ?_
      show Steps p.tables e below (T20.setTop (mkF m 73 #[.val (.long q0), .second, .val (.long q1), .second, .val (.long q2), .second, .val (.long q3), .second, .val (.long qf), .second, .val (.int p5), .val (.int (0 : Int32)), .val (.ref b11), .unset, .unset, .unset, .unset, .unset, .unset, .unset, .unset, .unset] [(.int (0 : Int32)), (.ref b11)])) _
      refine XS.iconst X20.here hx rfl (hb hby at_73) ?_
      show Steps p.tables e below (T20.setTop (mkF m 74 #[.val (.long q0), .second, .val (.long q1), .second, .val (.long q2), .second, .val (.long q3), .second, .val (.long qf), .second, .val (.int p5), .val (.int (0 : Int32)), .val (.ref b11), .unset, .unset, .unset, .unset, .unset, .unset, .unset, .unset, .unset] [(.int (2 : Int32)), (.int (0 : Int32)), (.ref b11)])) _
      refine XS.iadd X20.here hx rfl (hb hby at_74) rfl ?_
      show Steps p.tables e below (T20.setTop (mkF m 75 #[.val (.long q0), .second, .val (.long q1), .second, .val (.long q2), .second, .val (.long q3), .second, .val (.long qf), .second, .val (.int p5), .val (.int (0 : Int32)), .val (.ref b11), .unset, .unset, .unset, .unset, .unset, .unset, .unset, .unset, .unset] [(.int (2 : Int32)), (.ref b11)])) _
      refine XT.lload X20.here hx rfl (hb hby at_75) rfl  ?_
      exact oK
    show OG _ _ _ _ _ _ _ (T20.setTop (mkF m 77 #[.val (.long q0), .second, .val (.long q1), .second, .val (.long q2), .second, .val (.long q3), .second, .val (.long qf), .second, .val (.int p5), .val (.int (0 : Int32)), .val (.ref b11), .unset, .unset, .unset, .unset, .unset, .unset, .unset, .unset, .unset] [(.long q2), (.int (2 : Int32)), (.ref b11)]))
    have cf52 := V20
    obtain ⟨clf52, Arf52, qf52, Sf52, Mf52, Hf52, Gf52⟩ := cf52
    obtain ⟨T21, h21, X21, e21, W21, st21⟩ := stJ X20 hx hZ e20 Arf52 (j := (2 : Int32)) (inb_of Sf52 ⟨by decide, by decide⟩) (g := (mkF m 77 #[.val (.long q0), .second, .val (.long q1), .second, .val (.long q2), .second, .val (.long q3), .second, .val (.long qf), .second, .val (.int p5), .val (.int (0 : Int32)), .val (.ref b11), .unset, .unset, .unset, .unset, .unset, .unset, .unset, .unset, .unset] [(.long q2), (.int (2 : Int32)), (.ref b11)])) rfl rfl (hb hby at_77)
    have V21 : Arv Z h21 b11 kc11 .long (7 : Int32) [(.long q0), (.long q1), (.long q2), (.long qf), (.long qf), (.long qf), (.long qf)] (.long (0 : Int64)) := Arv.set Arf52 qf52 Sf52 Mf52 Hf52 Gf52 rfl W21 2 rfl (Nat.le_of_ble_eq_true rfl)
    have f54 := (f51).wr W21 gn_b11
    have K21 : Keep h0 h21 [] := (K20).wr W21 (Or.inr sz_b11)
    have Z21 : n0 ≤ h21.size := Nat.le_trans Z20 (Keep.of_wr W21).1
    have N21 := Fr.snoc X21 N20 gn_b11
    refine OG.of st21 ?_
    show OG _ _ _ _ _ _ _ (T21.setTop (mkF m 78 #[.val (.long q0), .second, .val (.long q1), .second, .val (.long q2), .second, .val (.long q3), .second, .val (.long qf), .second, .val (.int p5), .val (.int (0 : Int32)), .val (.ref b11), .unset, .unset, .unset, .unset, .unset, .unset, .unset, .unset, .unset] []))
    refine OG.of (A := T21.setTop (mkF m 86 #[.val (.long q0), .second, .val (.long q1), .second, .val (.long q2), .second, .val (.long q3), .second, .val (.long qf), .second, .val (.int p5), .val (.int (0 : Int32)), .val (.ref b11), .unset, .unset, .unset, .unset, .unset, .unset, .unset, .unset, .unset] [(.long q3), (.int (3 : Int32)), (.ref b11)])) (fun oT oK => ?_) ?_
    · show Steps p.tables e below (T21.setTop (mkF m 78 #[.val (.long q0), .second, .val (.long q1), .second, .val (.long q2), .second, .val (.long q3), .second, .val (.long qf), .second, .val (.int p5), .val (.int (0 : Int32)), .val (.ref b11), .unset, .unset, .unset, .unset, .unset, .unset, .unset, .unset, .unset] [])) oT
      refine XS.aload X21.here hx rfl (hb hby at_78) rfl rfl  ?_
      show Steps p.tables e below (T21.setTop (mkF m 80 #[.val (.long q0), .second, .val (.long q1), .second, .val (.long q2), .second, .val (.long q3), .second, .val (.long qf), .second, .val (.int p5), .val (.int (0 : Int32)), .val (.ref b11), .unset, .unset, .unset, .unset, .unset, .unset, .unset, .unset, .unset] [(.ref b11)])) _
      refine XS.iload X21.here hx rfl (hb hby at_80) rfl  ?_
      show Steps p.tables e below (T21.setTop (mkF m 82 #[.val (.long q0), .second, .val (.long q1), .second, .val (.long q2), .second, .val (.long q3), .second, .val (.long qf), .second, .val (.int p5), .val (.int (0 : Int32)), .val (.ref b11), .unset, .unset, .unset, .unset, .unset, .unset, .unset, .unset, .unset] [(.int (0 : Int32)), (.ref b11)])) _
      refine XS.iconst X21.here hx rfl (hb hby at_82) ?_
      show Steps p.tables e below (T21.setTop (mkF m 83 #[.val (.long q0), .second, .val (.long q1), .second, .val (.long q2), .second, .val (.long q3), .second, .val (.long qf), .second, .val (.int p5), .val (.int (0 : Int32)), .val (.ref b11), .unset, .unset, .unset, .unset, .unset, .unset, .unset, .unset, .unset] [(.int (3 : Int32)), (.int (0 : Int32)), (.ref b11)])) _
      refine XS.iadd X21.here hx rfl (hb hby at_83) rfl ?_
      show Steps p.tables e below (T21.setTop (mkF m 84 #[.val (.long q0), .second, .val (.long q1), .second, .val (.long q2), .second, .val (.long q3), .second, .val (.long qf), .second, .val (.int p5), .val (.int (0 : Int32)), .val (.ref b11), .unset, .unset, .unset, .unset, .unset, .unset, .unset, .unset, .unset] [(.int (3 : Int32)), (.ref b11)])) _
      refine XT.lload X21.here hx rfl (hb hby at_84) rfl  ?_
      exact oK
    show OG _ _ _ _ _ _ _ (T21.setTop (mkF m 86 #[.val (.long q0), .second, .val (.long q1), .second, .val (.long q2), .second, .val (.long q3), .second, .val (.long qf), .second, .val (.int p5), .val (.int (0 : Int32)), .val (.ref b11), .unset, .unset, .unset, .unset, .unset, .unset, .unset, .unset, .unset] [(.long q3), (.int (3 : Int32)), (.ref b11)]))
    have cf55 := V21
    obtain ⟨clf55, Arf55, qf55, Sf55, Mf55, Hf55, Gf55⟩ := cf55
    obtain ⟨T22, h22, X22, e22, W22, st22⟩ := stJ X21 hx hZ e21 Arf55 (j := (3 : Int32)) (inb_of Sf55 ⟨by decide, by decide⟩) (g := (mkF m 86 #[.val (.long q0), .second, .val (.long q1), .second, .val (.long q2), .second, .val (.long q3), .second, .val (.long qf), .second, .val (.int p5), .val (.int (0 : Int32)), .val (.ref b11), .unset, .unset, .unset, .unset, .unset, .unset, .unset, .unset, .unset] [(.long q3), (.int (3 : Int32)), (.ref b11)])) rfl rfl (hb hby at_86)
    have V22 : Arv Z h22 b11 kc11 .long (7 : Int32) [(.long q0), (.long q1), (.long q2), (.long q3), (.long qf), (.long qf), (.long qf)] (.long (0 : Int64)) := Arv.set Arf55 qf55 Sf55 Mf55 Hf55 Gf55 rfl W22 3 rfl (Nat.le_of_ble_eq_true rfl)
    have f57 := (f54).wr W22 gn_b11
    have K22 : Keep h0 h22 [] := (K21).wr W22 (Or.inr sz_b11)
    have Z22 : n0 ≤ h22.size := Nat.le_trans Z21 (Keep.of_wr W22).1
    have N22 := Fr.snoc X22 N21 gn_b11
    refine OG.of st22 ?_
    show OG _ _ _ _ _ _ _ (T22.setTop (mkF m 87 #[.val (.long q0), .second, .val (.long q1), .second, .val (.long q2), .second, .val (.long q3), .second, .val (.long qf), .second, .val (.int p5), .val (.int (0 : Int32)), .val (.ref b11), .unset, .unset, .unset, .unset, .unset, .unset, .unset, .unset, .unset] []))
    refine OG.of (A := T22.setTop (mkF m 91 #[.val (.long q0), .second, .val (.long q1), .second, .val (.long q2), .second, .val (.long q3), .second, .val (.long qf), .second, .val (.int p5), .val (.int (0 : Int32)), .val (.ref b11), .unset, .unset, .unset, .unset, .unset, .unset, .unset, .unset, .unset] [(.int (0 : Int32)), (.ref b11)])) (fun oT oK => ?_) ?_
    · show Steps p.tables e below (T22.setTop (mkF m 87 #[.val (.long q0), .second, .val (.long q1), .second, .val (.long q2), .second, .val (.long q3), .second, .val (.long qf), .second, .val (.int p5), .val (.int (0 : Int32)), .val (.ref b11), .unset, .unset, .unset, .unset, .unset, .unset, .unset, .unset, .unset] [])) oT
      refine XS.aload X22.here hx rfl (hb hby at_87) rfl rfl  ?_
      show Steps p.tables e below (T22.setTop (mkF m 89 #[.val (.long q0), .second, .val (.long q1), .second, .val (.long q2), .second, .val (.long q3), .second, .val (.long qf), .second, .val (.int p5), .val (.int (0 : Int32)), .val (.ref b11), .unset, .unset, .unset, .unset, .unset, .unset, .unset, .unset, .unset] [(.ref b11)])) _
      refine XS.iload X22.here hx rfl (hb hby at_89) rfl  ?_
      exact oK
    show OG _ _ _ _ _ _ _ (T22.setTop (mkF m 91 #[.val (.long q0), .second, .val (.long q1), .second, .val (.long q2), .second, .val (.long q3), .second, .val (.long qf), .second, .val (.int p5), .val (.int (0 : Int32)), .val (.ref b11), .unset, .unset, .unset, .unset, .unset, .unset, .unset, .unset, .unset] [(.int (0 : Int32)), (.ref b11)]))
    obtain ⟨_, _, ⟨T23, L23, k23, n23⟩, -, X23, ⟨Lc23, hQ23, l23, y23, z23⟩, st23⟩ := Jvm.LawKit.callS X22 hx (y := (⟨"com/example/gate_to_gate/gatetogate/io/Field25519", "fromWords", "([JI)[J"⟩ : MethodName)) hown (mvT hZ (hw _ (List.mem_of_getElem? (i := 1) rfl))) (mvT hZ (hw _ (List.mem_of_getElem? (i := 2) rfl))) (mvT hZ (hw _ (List.mem_of_getElem? (i := 3) rfl))) (mvT hZ (hw _ (List.mem_of_getElem? (i := 4) rfl))) (by decide) (backOf (W := 0) (rmF l Z a0 hw [] b11 (0 : Int32) q0 q1 q2 q3 wP wB h22 n0 (Z22) f57 SP SB TP TB (own_rd V22 ⟨by decide, by decide⟩ rfl) (own_rd V22 ⟨by decide, by decide⟩ rfl) (own_rd V22 ⟨by decide, by decide⟩ rfl) (own_rd V22 ⟨by decide, by decide⟩ rfl) (own_rd V22 ⟨by decide, by decide⟩ rfl) (own_rd V22 ⟨by decide, by decide⟩ rfl)) hZ (hw _ (List.mem_of_getElem? (i := 4) rfl)) (hw _ (List.mem_of_getElem? (i := 3) rfl)) (by decide) (by decide)) (g := (mkF m 91 #[.val (.long q0), .second, .val (.long q1), .second, .val (.long q2), .second, .val (.long q3), .second, .val (.long qf), .second, .val (.int p5), .val (.int (0 : Int32)), .val (.ref b11), .unset, .unset, .unset, .unset, .unset, .unset, .unset, .unset, .unset] [(.int (0 : Int32)), (.ref b11)])) rfl (by rw [hml]; rfl) (argsL := [(.ref b11), (.int (0 : Int32))]) (rest := []) (lenOf pd___JI__J rfl) rfl (by show 2 * 0 + _ ≤ _; exact Nat.le_of_eq rfl) (hb hby at_91) (fun _ _ => ⟨rfl, e22, (by decide : 1 + 1 ≤ _), (by decide : 7 + 10 ≤ _)⟩)
    dsimp only [Pt.U, Pt.locs, Pt.cells, Pt.slots] at X23 l23 y23 z23 st23 hQ23
    subst l23 y23 z23
    obtain ⟨b, kc, rfl, N23q, Kc23, -, V23⟩ := hQ23
    have N23 := Fr.app N22 N23q
    have Z23 : n0 ≤ T23.heap.size := Nat.le_trans Z22 Kc23.1
    refine OG.of st23 ?_
    exact own_tail q0 q1 q2 q3 qf p5 (0 : Int32) b11 b kc X23 hx hZ hw hby hml hown hlk Bd.returns rfl N23 Z23 V23
  | 1, _, eo =>
    rw [show (p5 &&& (3 : Int32)) = (1 : Int32) from eo]
    show OG _ _ _ _ _ _ _ (s₁.setTop (mkF m 6 #[.val (.long q0), .second, .val (.long q1), .second, .val (.long q2), .second, .val (.long q3), .second, .val (.long qf), .second, .val (.int p5), .val (.int (1 : Int32)), .unset, .unset, .unset, .unset, .unset, .unset, .unset, .unset, .unset, .unset] []))
    refine OG.of (A := s₁.setTop (mkF m 8 #[.val (.long q0), .second, .val (.long q1), .second, .val (.long q2), .second, .val (.long q3), .second, .val (.long qf), .second, .val (.int p5), .val (.int (1 : Int32)), .unset, .unset, .unset, .unset, .unset, .unset, .unset, .unset, .unset, .unset] [(.int (7 : Int32))])) (fun oT oK => ?_) ?_
    · show Steps p.tables e below (s₁.setTop (mkF m 6 #[.val (.long q0), .second, .val (.long q1), .second, .val (.long q2), .second, .val (.long q3), .second, .val (.long qf), .second, .val (.int p5), .val (.int (1 : Int32)), .unset, .unset, .unset, .unset, .unset, .unset, .unset, .unset, .unset, .unset] [])) oT
      refine XS.bipush X0.here hx rfl (hb hby at_6) ?_
      exact oK
    show OG _ _ _ _ _ _ _ (s₁.setTop (mkF m 8 #[.val (.long q0), .second, .val (.long q1), .second, .val (.long q2), .second, .val (.long q3), .second, .val (.long qf), .second, .val (.int p5), .val (.int (1 : Int32)), .unset, .unset, .unset, .unset, .unset, .unset, .unset, .unset, .unset, .unset] [(.int (7 : Int32))]))
    obtain ⟨T24, h24, kc24, X24, e24, E24, A24, st24⟩ := newP X0 hx hZ (hw _ (List.mem_of_getElem? (i := 0) rfl)) e0 (g := (mkF m 8 #[.val (.long q0), .second, .val (.long q1), .second, .val (.long q2), .second, .val (.long q3), .second, .val (.long qf), .second, .val (.int p5), .val (.int (1 : Int32)), .unset, .unset, .unset, .unset, .unset, .unset, .unset, .unset, .unset, .unset] [(.int (7 : Int32))])) rfl (hb hby at_8) rfl (by decide) (cap := 7) (by decide) (by decide) (by decide) (by decide)
    obtain ⟨b24, g24⟩ : ∃ z, z = (h0).size := ⟨_, rfl⟩
    have gn_b24 : n0 ≤ b24 := Nat.le_trans Z0 (Nat.le_of_eq g24.symm)
    have sz_b24 : h0.size ≤ b24 := Nat.le_trans (Keep.refl h0 []).1 (Nat.le_of_eq g24.symm)
    rw [← g24] at A24 st24
    have f58 := (hO).ext E24
    have K24 : Keep h0 h24 [] := (Keep.refl h0 []).ext E24
    have Z24 : n0 ≤ h24.size := Nat.le_trans Z0 E24.1
    have V24 : Arv Z h24 b24 kc24 .long (7 : Int32) [(.long (0 : Int64)), (.long (0 : Int64)), (.long (0 : Int64)), (.long (0 : Int64)), (.long (0 : Int64)), (.long (0 : Int64)), (.long (0 : Int64))] (.long (0 : Int64)) := (Arv.new A24 (by decide)).pad (pad_rep [] (.long (0 : Int64)) 7)
    refine OG.of st24 ?_
    show OG _ _ _ _ _ _ _ (T24.setTop (mkF m 10 #[.val (.long q0), .second, .val (.long q1), .second, .val (.long q2), .second, .val (.long q3), .second, .val (.long qf), .second, .val (.int p5), .val (.int (1 : Int32)), .unset, .unset, .unset, .unset, .unset, .unset, .unset, .unset, .unset, .unset] [(.ref b24)]))
    refine OG.of (A := T24.setTop (mkF m 17 #[.val (.long q0), .second, .val (.long q1), .second, .val (.long q2), .second, .val (.long q3), .second, .val (.long qf), .second, .val (.int p5), .val (.int (1 : Int32)), .val (.ref b24), .unset, .unset, .unset, .unset, .unset, .unset, .unset, .unset, .unset] [(.long qf), (.int (0 : Int32)), (.ref b24)])) (fun oT oK => ?_) ?_
    · show Steps p.tables e below (T24.setTop (mkF m 10 #[.val (.long q0), .second, .val (.long q1), .second, .val (.long q2), .second, .val (.long q3), .second, .val (.long qf), .second, .val (.int p5), .val (.int (1 : Int32)), .unset, .unset, .unset, .unset, .unset, .unset, .unset, .unset, .unset, .unset] [(.ref b24)])) oT
      refine XS.astore X24.here hx rfl (hb hby at_10) rfl rfl (l' := #[.val (.long q0), .second, .val (.long q1), .second, .val (.long q2), .second, .val (.long q3), .second, .val (.long qf), .second, .val (.int p5), .val (.int (1 : Int32)), .val (.ref b24), .unset, .unset, .unset, .unset, .unset, .unset, .unset, .unset, .unset]) rfl ?_
      show Steps p.tables e below (T24.setTop (mkF m 12 #[.val (.long q0), .second, .val (.long q1), .second, .val (.long q2), .second, .val (.long q3), .second, .val (.long qf), .second, .val (.int p5), .val (.int (1 : Int32)), .val (.ref b24), .unset, .unset, .unset, .unset, .unset, .unset, .unset, .unset, .unset] [])) _
      refine XS.aload X24.here hx rfl (hb hby at_12) rfl rfl  ?_
      show Steps p.tables e below (T24.setTop (mkF m 14 #[.val (.long q0), .second, .val (.long q1), .second, .val (.long q2), .second, .val (.long q3), .second, .val (.long qf), .second, .val (.int p5), .val (.int (1 : Int32)), .val (.ref b24), .unset, .unset, .unset, .unset, .unset, .unset, .unset, .unset, .unset] [(.ref b24)])) _
      refine XS.iconst X24.here hx rfl (hb hby at_14) ?_
      show Steps p.tables e below (T24.setTop (mkF m 15 #[.val (.long q0), .second, .val (.long q1), .second, .val (.long q2), .second, .val (.long q3), .second, .val (.long qf), .second, .val (.int p5), .val (.int (1 : Int32)), .val (.ref b24), .unset, .unset, .unset, .unset, .unset, .unset, .unset, .unset, .unset] [(.int (0 : Int32)), (.ref b24)])) _
      refine XT.lload X24.here hx rfl (hb hby at_15) rfl  ?_
      exact oK
    show OG _ _ _ _ _ _ _ (T24.setTop (mkF m 17 #[.val (.long q0), .second, .val (.long q1), .second, .val (.long q2), .second, .val (.long q3), .second, .val (.long qf), .second, .val (.int p5), .val (.int (1 : Int32)), .val (.ref b24), .unset, .unset, .unset, .unset, .unset, .unset, .unset, .unset, .unset] [(.long qf), (.int (0 : Int32)), (.ref b24)]))
    have cf59 := V24
    obtain ⟨clf59, Arf59, qf59, Sf59, Mf59, Hf59, Gf59⟩ := cf59
    obtain ⟨T25, h25, X25, e25, W25, st25⟩ := stJ X24 hx hZ e24 Arf59 (j := (0 : Int32)) (inb_of Sf59 ⟨by decide, by decide⟩) (g := (mkF m 17 #[.val (.long q0), .second, .val (.long q1), .second, .val (.long q2), .second, .val (.long q3), .second, .val (.long qf), .second, .val (.int p5), .val (.int (1 : Int32)), .val (.ref b24), .unset, .unset, .unset, .unset, .unset, .unset, .unset, .unset, .unset] [(.long qf), (.int (0 : Int32)), (.ref b24)])) rfl rfl (hb hby at_17)
    have V25 : Arv Z h25 b24 kc24 .long (7 : Int32) [(.long qf), (.long (0 : Int64)), (.long (0 : Int64)), (.long (0 : Int64)), (.long (0 : Int64)), (.long (0 : Int64)), (.long (0 : Int64))] (.long (0 : Int64)) := Arv.set Arf59 qf59 Sf59 Mf59 Hf59 Gf59 rfl W25 0 rfl (Nat.le_of_ble_eq_true rfl)
    have f61 := (f58).wr W25 gn_b24
    have K25 : Keep h0 h25 [] := (K24).wr W25 (Or.inr sz_b24)
    have Z25 : n0 ≤ h25.size := Nat.le_trans Z24 (Keep.of_wr W25).1
    have N25 := Fr.snoc X25 N0 gn_b24
    refine OG.of st25 ?_
    show OG _ _ _ _ _ _ _ (T25.setTop (mkF m 18 #[.val (.long q0), .second, .val (.long q1), .second, .val (.long q2), .second, .val (.long q3), .second, .val (.long qf), .second, .val (.int p5), .val (.int (1 : Int32)), .val (.ref b24), .unset, .unset, .unset, .unset, .unset, .unset, .unset, .unset, .unset] []))
    refine OG.of (A := T25.setTop (mkF m 23 #[.val (.long q0), .second, .val (.long q1), .second, .val (.long q2), .second, .val (.long q3), .second, .val (.long qf), .second, .val (.int p5), .val (.int (1 : Int32)), .val (.ref b24), .unset, .unset, .unset, .unset, .unset, .unset, .unset, .unset, .unset] [(.long qf), (.int (1 : Int32)), (.ref b24)])) (fun oT oK => ?_) ?_
    · show Steps p.tables e below (T25.setTop (mkF m 18 #[.val (.long q0), .second, .val (.long q1), .second, .val (.long q2), .second, .val (.long q3), .second, .val (.long qf), .second, .val (.int p5), .val (.int (1 : Int32)), .val (.ref b24), .unset, .unset, .unset, .unset, .unset, .unset, .unset, .unset, .unset] [])) oT
      refine XS.aload X25.here hx rfl (hb hby at_18) rfl rfl  ?_
      show Steps p.tables e below (T25.setTop (mkF m 20 #[.val (.long q0), .second, .val (.long q1), .second, .val (.long q2), .second, .val (.long q3), .second, .val (.long qf), .second, .val (.int p5), .val (.int (1 : Int32)), .val (.ref b24), .unset, .unset, .unset, .unset, .unset, .unset, .unset, .unset, .unset] [(.ref b24)])) _
      refine XS.iconst X25.here hx rfl (hb hby at_20) ?_
      show Steps p.tables e below (T25.setTop (mkF m 21 #[.val (.long q0), .second, .val (.long q1), .second, .val (.long q2), .second, .val (.long q3), .second, .val (.long qf), .second, .val (.int p5), .val (.int (1 : Int32)), .val (.ref b24), .unset, .unset, .unset, .unset, .unset, .unset, .unset, .unset, .unset] [(.int (1 : Int32)), (.ref b24)])) _
      refine XT.lload X25.here hx rfl (hb hby at_21) rfl  ?_
      exact oK
    show OG _ _ _ _ _ _ _ (T25.setTop (mkF m 23 #[.val (.long q0), .second, .val (.long q1), .second, .val (.long q2), .second, .val (.long q3), .second, .val (.long qf), .second, .val (.int p5), .val (.int (1 : Int32)), .val (.ref b24), .unset, .unset, .unset, .unset, .unset, .unset, .unset, .unset, .unset] [(.long qf), (.int (1 : Int32)), (.ref b24)]))
    have cf62 := V25
    obtain ⟨clf62, Arf62, qf62, Sf62, Mf62, Hf62, Gf62⟩ := cf62
    obtain ⟨T26, h26, X26, e26, W26, st26⟩ := stJ X25 hx hZ e25 Arf62 (j := (1 : Int32)) (inb_of Sf62 ⟨by decide, by decide⟩) (g := (mkF m 23 #[.val (.long q0), .second, .val (.long q1), .second, .val (.long q2), .second, .val (.long q3), .second, .val (.long qf), .second, .val (.int p5), .val (.int (1 : Int32)), .val (.ref b24), .unset, .unset, .unset, .unset, .unset, .unset, .unset, .unset, .unset] [(.long qf), (.int (1 : Int32)), (.ref b24)])) rfl rfl (hb hby at_23)
    have V26 : Arv Z h26 b24 kc24 .long (7 : Int32) [(.long qf), (.long qf), (.long (0 : Int64)), (.long (0 : Int64)), (.long (0 : Int64)), (.long (0 : Int64)), (.long (0 : Int64))] (.long (0 : Int64)) := Arv.set Arf62 qf62 Sf62 Mf62 Hf62 Gf62 rfl W26 1 rfl (Nat.le_of_ble_eq_true rfl)
    have f64 := (f61).wr W26 gn_b24
    have K26 : Keep h0 h26 [] := (K25).wr W26 (Or.inr sz_b24)
    have Z26 : n0 ≤ h26.size := Nat.le_trans Z25 (Keep.of_wr W26).1
    have N26 := Fr.snoc X26 N25 gn_b24
    refine OG.of st26 ?_
    show OG _ _ _ _ _ _ _ (T26.setTop (mkF m 24 #[.val (.long q0), .second, .val (.long q1), .second, .val (.long q2), .second, .val (.long q3), .second, .val (.long qf), .second, .val (.int p5), .val (.int (1 : Int32)), .val (.ref b24), .unset, .unset, .unset, .unset, .unset, .unset, .unset, .unset, .unset] []))
    refine OG.of (A := T26.setTop (mkF m 29 #[.val (.long q0), .second, .val (.long q1), .second, .val (.long q2), .second, .val (.long q3), .second, .val (.long qf), .second, .val (.int p5), .val (.int (1 : Int32)), .val (.ref b24), .unset, .unset, .unset, .unset, .unset, .unset, .unset, .unset, .unset] [(.long qf), (.int (2 : Int32)), (.ref b24)])) (fun oT oK => ?_) ?_
    · show Steps p.tables e below (T26.setTop (mkF m 24 #[.val (.long q0), .second, .val (.long q1), .second, .val (.long q2), .second, .val (.long q3), .second, .val (.long qf), .second, .val (.int p5), .val (.int (1 : Int32)), .val (.ref b24), .unset, .unset, .unset, .unset, .unset, .unset, .unset, .unset, .unset] [])) oT
      refine XS.aload X26.here hx rfl (hb hby at_24) rfl rfl  ?_
      show Steps p.tables e below (T26.setTop (mkF m 26 #[.val (.long q0), .second, .val (.long q1), .second, .val (.long q2), .second, .val (.long q3), .second, .val (.long qf), .second, .val (.int p5), .val (.int (1 : Int32)), .val (.ref b24), .unset, .unset, .unset, .unset, .unset, .unset, .unset, .unset, .unset] [(.ref b24)])) _
      refine XS.iconst X26.here hx rfl (hb hby at_26) ?_
      show Steps p.tables e below (T26.setTop (mkF m 27 #[.val (.long q0), .second, .val (.long q1), .second, .val (.long q2), .second, .val (.long q3), .second, .val (.long qf), .second, .val (.int p5), .val (.int (1 : Int32)), .val (.ref b24), .unset, .unset, .unset, .unset, .unset, .unset, .unset, .unset, .unset] [(.int (2 : Int32)), (.ref b24)])) _
      refine XT.lload X26.here hx rfl (hb hby at_27) rfl  ?_
      exact oK
    show OG _ _ _ _ _ _ _ (T26.setTop (mkF m 29 #[.val (.long q0), .second, .val (.long q1), .second, .val (.long q2), .second, .val (.long q3), .second, .val (.long qf), .second, .val (.int p5), .val (.int (1 : Int32)), .val (.ref b24), .unset, .unset, .unset, .unset, .unset, .unset, .unset, .unset, .unset] [(.long qf), (.int (2 : Int32)), (.ref b24)]))
    have cf65 := V26
    obtain ⟨clf65, Arf65, qf65, Sf65, Mf65, Hf65, Gf65⟩ := cf65
    obtain ⟨T27, h27, X27, e27, W27, st27⟩ := stJ X26 hx hZ e26 Arf65 (j := (2 : Int32)) (inb_of Sf65 ⟨by decide, by decide⟩) (g := (mkF m 29 #[.val (.long q0), .second, .val (.long q1), .second, .val (.long q2), .second, .val (.long q3), .second, .val (.long qf), .second, .val (.int p5), .val (.int (1 : Int32)), .val (.ref b24), .unset, .unset, .unset, .unset, .unset, .unset, .unset, .unset, .unset] [(.long qf), (.int (2 : Int32)), (.ref b24)])) rfl rfl (hb hby at_29)
    have V27 : Arv Z h27 b24 kc24 .long (7 : Int32) [(.long qf), (.long qf), (.long qf), (.long (0 : Int64)), (.long (0 : Int64)), (.long (0 : Int64)), (.long (0 : Int64))] (.long (0 : Int64)) := Arv.set Arf65 qf65 Sf65 Mf65 Hf65 Gf65 rfl W27 2 rfl (Nat.le_of_ble_eq_true rfl)
    have f67 := (f64).wr W27 gn_b24
    have K27 : Keep h0 h27 [] := (K26).wr W27 (Or.inr sz_b24)
    have Z27 : n0 ≤ h27.size := Nat.le_trans Z26 (Keep.of_wr W27).1
    have N27 := Fr.snoc X27 N26 gn_b24
    refine OG.of st27 ?_
    show OG _ _ _ _ _ _ _ (T27.setTop (mkF m 30 #[.val (.long q0), .second, .val (.long q1), .second, .val (.long q2), .second, .val (.long q3), .second, .val (.long qf), .second, .val (.int p5), .val (.int (1 : Int32)), .val (.ref b24), .unset, .unset, .unset, .unset, .unset, .unset, .unset, .unset, .unset] []))
    refine OG.of (A := T27.setTop (mkF m 35 #[.val (.long q0), .second, .val (.long q1), .second, .val (.long q2), .second, .val (.long q3), .second, .val (.long qf), .second, .val (.int p5), .val (.int (1 : Int32)), .val (.ref b24), .unset, .unset, .unset, .unset, .unset, .unset, .unset, .unset, .unset] [(.long qf), (.int (3 : Int32)), (.ref b24)])) (fun oT oK => ?_) ?_
    · show Steps p.tables e below (T27.setTop (mkF m 30 #[.val (.long q0), .second, .val (.long q1), .second, .val (.long q2), .second, .val (.long q3), .second, .val (.long qf), .second, .val (.int p5), .val (.int (1 : Int32)), .val (.ref b24), .unset, .unset, .unset, .unset, .unset, .unset, .unset, .unset, .unset] [])) oT
      refine XS.aload X27.here hx rfl (hb hby at_30) rfl rfl  ?_
      show Steps p.tables e below (T27.setTop (mkF m 32 #[.val (.long q0), .second, .val (.long q1), .second, .val (.long q2), .second, .val (.long q3), .second, .val (.long qf), .second, .val (.int p5), .val (.int (1 : Int32)), .val (.ref b24), .unset, .unset, .unset, .unset, .unset, .unset, .unset, .unset, .unset] [(.ref b24)])) _
      refine XS.iconst X27.here hx rfl (hb hby at_32) ?_
      show Steps p.tables e below (T27.setTop (mkF m 33 #[.val (.long q0), .second, .val (.long q1), .second, .val (.long q2), .second, .val (.long q3), .second, .val (.long qf), .second, .val (.int p5), .val (.int (1 : Int32)), .val (.ref b24), .unset, .unset, .unset, .unset, .unset, .unset, .unset, .unset, .unset] [(.int (3 : Int32)), (.ref b24)])) _
      refine XT.lload X27.here hx rfl (hb hby at_33) rfl  ?_
      exact oK
    show OG _ _ _ _ _ _ _ (T27.setTop (mkF m 35 #[.val (.long q0), .second, .val (.long q1), .second, .val (.long q2), .second, .val (.long q3), .second, .val (.long qf), .second, .val (.int p5), .val (.int (1 : Int32)), .val (.ref b24), .unset, .unset, .unset, .unset, .unset, .unset, .unset, .unset, .unset] [(.long qf), (.int (3 : Int32)), (.ref b24)]))
    have cf68 := V27
    obtain ⟨clf68, Arf68, qf68, Sf68, Mf68, Hf68, Gf68⟩ := cf68
    obtain ⟨T28, h28, X28, e28, W28, st28⟩ := stJ X27 hx hZ e27 Arf68 (j := (3 : Int32)) (inb_of Sf68 ⟨by decide, by decide⟩) (g := (mkF m 35 #[.val (.long q0), .second, .val (.long q1), .second, .val (.long q2), .second, .val (.long q3), .second, .val (.long qf), .second, .val (.int p5), .val (.int (1 : Int32)), .val (.ref b24), .unset, .unset, .unset, .unset, .unset, .unset, .unset, .unset, .unset] [(.long qf), (.int (3 : Int32)), (.ref b24)])) rfl rfl (hb hby at_35)
    have V28 : Arv Z h28 b24 kc24 .long (7 : Int32) [(.long qf), (.long qf), (.long qf), (.long qf), (.long (0 : Int64)), (.long (0 : Int64)), (.long (0 : Int64))] (.long (0 : Int64)) := Arv.set Arf68 qf68 Sf68 Mf68 Hf68 Gf68 rfl W28 3 rfl (Nat.le_of_ble_eq_true rfl)
    have f70 := (f67).wr W28 gn_b24
    have K28 : Keep h0 h28 [] := (K27).wr W28 (Or.inr sz_b24)
    have Z28 : n0 ≤ h28.size := Nat.le_trans Z27 (Keep.of_wr W28).1
    have N28 := Fr.snoc X28 N27 gn_b24
    refine OG.of st28 ?_
    show OG _ _ _ _ _ _ _ (T28.setTop (mkF m 36 #[.val (.long q0), .second, .val (.long q1), .second, .val (.long q2), .second, .val (.long q3), .second, .val (.long qf), .second, .val (.int p5), .val (.int (1 : Int32)), .val (.ref b24), .unset, .unset, .unset, .unset, .unset, .unset, .unset, .unset, .unset] []))
    refine OG.of (A := T28.setTop (mkF m 41 #[.val (.long q0), .second, .val (.long q1), .second, .val (.long q2), .second, .val (.long q3), .second, .val (.long qf), .second, .val (.int p5), .val (.int (1 : Int32)), .val (.ref b24), .unset, .unset, .unset, .unset, .unset, .unset, .unset, .unset, .unset] [(.long qf), (.int (4 : Int32)), (.ref b24)])) (fun oT oK => ?_) ?_
    · show Steps p.tables e below (T28.setTop (mkF m 36 #[.val (.long q0), .second, .val (.long q1), .second, .val (.long q2), .second, .val (.long q3), .second, .val (.long qf), .second, .val (.int p5), .val (.int (1 : Int32)), .val (.ref b24), .unset, .unset, .unset, .unset, .unset, .unset, .unset, .unset, .unset] [])) oT
      refine XS.aload X28.here hx rfl (hb hby at_36) rfl rfl  ?_
      show Steps p.tables e below (T28.setTop (mkF m 38 #[.val (.long q0), .second, .val (.long q1), .second, .val (.long q2), .second, .val (.long q3), .second, .val (.long qf), .second, .val (.int p5), .val (.int (1 : Int32)), .val (.ref b24), .unset, .unset, .unset, .unset, .unset, .unset, .unset, .unset, .unset] [(.ref b24)])) _
      refine XS.iconst X28.here hx rfl (hb hby at_38) ?_
      show Steps p.tables e below (T28.setTop (mkF m 39 #[.val (.long q0), .second, .val (.long q1), .second, .val (.long q2), .second, .val (.long q3), .second, .val (.long qf), .second, .val (.int p5), .val (.int (1 : Int32)), .val (.ref b24), .unset, .unset, .unset, .unset, .unset, .unset, .unset, .unset, .unset] [(.int (4 : Int32)), (.ref b24)])) _
      refine XT.lload X28.here hx rfl (hb hby at_39) rfl  ?_
      exact oK
    show OG _ _ _ _ _ _ _ (T28.setTop (mkF m 41 #[.val (.long q0), .second, .val (.long q1), .second, .val (.long q2), .second, .val (.long q3), .second, .val (.long qf), .second, .val (.int p5), .val (.int (1 : Int32)), .val (.ref b24), .unset, .unset, .unset, .unset, .unset, .unset, .unset, .unset, .unset] [(.long qf), (.int (4 : Int32)), (.ref b24)]))
    have cf71 := V28
    obtain ⟨clf71, Arf71, qf71, Sf71, Mf71, Hf71, Gf71⟩ := cf71
    obtain ⟨T29, h29, X29, e29, W29, st29⟩ := stJ X28 hx hZ e28 Arf71 (j := (4 : Int32)) (inb_of Sf71 ⟨by decide, by decide⟩) (g := (mkF m 41 #[.val (.long q0), .second, .val (.long q1), .second, .val (.long q2), .second, .val (.long q3), .second, .val (.long qf), .second, .val (.int p5), .val (.int (1 : Int32)), .val (.ref b24), .unset, .unset, .unset, .unset, .unset, .unset, .unset, .unset, .unset] [(.long qf), (.int (4 : Int32)), (.ref b24)])) rfl rfl (hb hby at_41)
    have V29 : Arv Z h29 b24 kc24 .long (7 : Int32) [(.long qf), (.long qf), (.long qf), (.long qf), (.long qf), (.long (0 : Int64)), (.long (0 : Int64))] (.long (0 : Int64)) := Arv.set Arf71 qf71 Sf71 Mf71 Hf71 Gf71 rfl W29 4 rfl (Nat.le_of_ble_eq_true rfl)
    have f73 := (f70).wr W29 gn_b24
    have K29 : Keep h0 h29 [] := (K28).wr W29 (Or.inr sz_b24)
    have Z29 : n0 ≤ h29.size := Nat.le_trans Z28 (Keep.of_wr W29).1
    have N29 := Fr.snoc X29 N28 gn_b24
    refine OG.of st29 ?_
    show OG _ _ _ _ _ _ _ (T29.setTop (mkF m 42 #[.val (.long q0), .second, .val (.long q1), .second, .val (.long q2), .second, .val (.long q3), .second, .val (.long qf), .second, .val (.int p5), .val (.int (1 : Int32)), .val (.ref b24), .unset, .unset, .unset, .unset, .unset, .unset, .unset, .unset, .unset] []))
    refine OG.of (A := T29.setTop (mkF m 47 #[.val (.long q0), .second, .val (.long q1), .second, .val (.long q2), .second, .val (.long q3), .second, .val (.long qf), .second, .val (.int p5), .val (.int (1 : Int32)), .val (.ref b24), .unset, .unset, .unset, .unset, .unset, .unset, .unset, .unset, .unset] [(.long qf), (.int (5 : Int32)), (.ref b24)])) (fun oT oK => ?_) ?_
    · show Steps p.tables e below (T29.setTop (mkF m 42 #[.val (.long q0), .second, .val (.long q1), .second, .val (.long q2), .second, .val (.long q3), .second, .val (.long qf), .second, .val (.int p5), .val (.int (1 : Int32)), .val (.ref b24), .unset, .unset, .unset, .unset, .unset, .unset, .unset, .unset, .unset] [])) oT
      refine XS.aload X29.here hx rfl (hb hby at_42) rfl rfl  ?_
      show Steps p.tables e below (T29.setTop (mkF m 44 #[.val (.long q0), .second, .val (.long q1), .second, .val (.long q2), .second, .val (.long q3), .second, .val (.long qf), .second, .val (.int p5), .val (.int (1 : Int32)), .val (.ref b24), .unset, .unset, .unset, .unset, .unset, .unset, .unset, .unset, .unset] [(.ref b24)])) _
      refine XS.iconst X29.here hx rfl (hb hby at_44) ?_
      show Steps p.tables e below (T29.setTop (mkF m 45 #[.val (.long q0), .second, .val (.long q1), .second, .val (.long q2), .second, .val (.long q3), .second, .val (.long qf), .second, .val (.int p5), .val (.int (1 : Int32)), .val (.ref b24), .unset, .unset, .unset, .unset, .unset, .unset, .unset, .unset, .unset] [(.int (5 : Int32)), (.ref b24)])) _
      refine XT.lload X29.here hx rfl (hb hby at_45) rfl  ?_
      exact oK
    show OG _ _ _ _ _ _ _ (T29.setTop (mkF m 47 #[.val (.long q0), .second, .val (.long q1), .second, .val (.long q2), .second, .val (.long q3), .second, .val (.long qf), .second, .val (.int p5), .val (.int (1 : Int32)), .val (.ref b24), .unset, .unset, .unset, .unset, .unset, .unset, .unset, .unset, .unset] [(.long qf), (.int (5 : Int32)), (.ref b24)]))
    have cf74 := V29
    obtain ⟨clf74, Arf74, qf74, Sf74, Mf74, Hf74, Gf74⟩ := cf74
    obtain ⟨T30, h30, X30, e30, W30, st30⟩ := stJ X29 hx hZ e29 Arf74 (j := (5 : Int32)) (inb_of Sf74 ⟨by decide, by decide⟩) (g := (mkF m 47 #[.val (.long q0), .second, .val (.long q1), .second, .val (.long q2), .second, .val (.long q3), .second, .val (.long qf), .second, .val (.int p5), .val (.int (1 : Int32)), .val (.ref b24), .unset, .unset, .unset, .unset, .unset, .unset, .unset, .unset, .unset] [(.long qf), (.int (5 : Int32)), (.ref b24)])) rfl rfl (hb hby at_47)
    have V30 : Arv Z h30 b24 kc24 .long (7 : Int32) [(.long qf), (.long qf), (.long qf), (.long qf), (.long qf), (.long qf), (.long (0 : Int64))] (.long (0 : Int64)) := Arv.set Arf74 qf74 Sf74 Mf74 Hf74 Gf74 rfl W30 5 rfl (Nat.le_of_ble_eq_true rfl)
    have f76 := (f73).wr W30 gn_b24
    have K30 : Keep h0 h30 [] := (K29).wr W30 (Or.inr sz_b24)
    have Z30 : n0 ≤ h30.size := Nat.le_trans Z29 (Keep.of_wr W30).1
    have N30 := Fr.snoc X30 N29 gn_b24
    refine OG.of st30 ?_
    show OG _ _ _ _ _ _ _ (T30.setTop (mkF m 48 #[.val (.long q0), .second, .val (.long q1), .second, .val (.long q2), .second, .val (.long q3), .second, .val (.long qf), .second, .val (.int p5), .val (.int (1 : Int32)), .val (.ref b24), .unset, .unset, .unset, .unset, .unset, .unset, .unset, .unset, .unset] []))
    refine OG.of (A := T30.setTop (mkF m 54 #[.val (.long q0), .second, .val (.long q1), .second, .val (.long q2), .second, .val (.long q3), .second, .val (.long qf), .second, .val (.int p5), .val (.int (1 : Int32)), .val (.ref b24), .unset, .unset, .unset, .unset, .unset, .unset, .unset, .unset, .unset] [(.long qf), (.int (6 : Int32)), (.ref b24)])) (fun oT oK => ?_) ?_
    · show Steps p.tables e below (T30.setTop (mkF m 48 #[.val (.long q0), .second, .val (.long q1), .second, .val (.long q2), .second, .val (.long q3), .second, .val (.long qf), .second, .val (.int p5), .val (.int (1 : Int32)), .val (.ref b24), .unset, .unset, .unset, .unset, .unset, .unset, .unset, .unset, .unset] [])) oT
      refine XS.aload X30.here hx rfl (hb hby at_48) rfl rfl  ?_
      show Steps p.tables e below (T30.setTop (mkF m 50 #[.val (.long q0), .second, .val (.long q1), .second, .val (.long q2), .second, .val (.long q3), .second, .val (.long qf), .second, .val (.int p5), .val (.int (1 : Int32)), .val (.ref b24), .unset, .unset, .unset, .unset, .unset, .unset, .unset, .unset, .unset] [(.ref b24)])) _
      refine XS.bipush X30.here hx rfl (hb hby at_50) ?_
      show Steps p.tables e below (T30.setTop (mkF m 52 #[.val (.long q0), .second, .val (.long q1), .second, .val (.long q2), .second, .val (.long q3), .second, .val (.long qf), .second, .val (.int p5), .val (.int (1 : Int32)), .val (.ref b24), .unset, .unset, .unset, .unset, .unset, .unset, .unset, .unset, .unset] [(.int (6 : Int32)), (.ref b24)])) _
      refine XT.lload X30.here hx rfl (hb hby at_52) rfl  ?_
      exact oK
    show OG _ _ _ _ _ _ _ (T30.setTop (mkF m 54 #[.val (.long q0), .second, .val (.long q1), .second, .val (.long q2), .second, .val (.long q3), .second, .val (.long qf), .second, .val (.int p5), .val (.int (1 : Int32)), .val (.ref b24), .unset, .unset, .unset, .unset, .unset, .unset, .unset, .unset, .unset] [(.long qf), (.int (6 : Int32)), (.ref b24)]))
    have cf77 := V30
    obtain ⟨clf77, Arf77, qf77, Sf77, Mf77, Hf77, Gf77⟩ := cf77
    obtain ⟨T31, h31, X31, e31, W31, st31⟩ := stJ X30 hx hZ e30 Arf77 (j := (6 : Int32)) (inb_of Sf77 ⟨by decide, by decide⟩) (g := (mkF m 54 #[.val (.long q0), .second, .val (.long q1), .second, .val (.long q2), .second, .val (.long q3), .second, .val (.long qf), .second, .val (.int p5), .val (.int (1 : Int32)), .val (.ref b24), .unset, .unset, .unset, .unset, .unset, .unset, .unset, .unset, .unset] [(.long qf), (.int (6 : Int32)), (.ref b24)])) rfl rfl (hb hby at_54)
    have V31 : Arv Z h31 b24 kc24 .long (7 : Int32) [(.long qf), (.long qf), (.long qf), (.long qf), (.long qf), (.long qf), (.long qf)] (.long (0 : Int64)) := Arv.set Arf77 qf77 Sf77 Mf77 Hf77 Gf77 rfl W31 6 rfl (Nat.le_of_ble_eq_true rfl)
    have f79 := (f76).wr W31 gn_b24
    have K31 : Keep h0 h31 [] := (K30).wr W31 (Or.inr sz_b24)
    have Z31 : n0 ≤ h31.size := Nat.le_trans Z30 (Keep.of_wr W31).1
    have N31 := Fr.snoc X31 N30 gn_b24
    refine OG.of st31 ?_
    show OG _ _ _ _ _ _ _ (T31.setTop (mkF m 55 #[.val (.long q0), .second, .val (.long q1), .second, .val (.long q2), .second, .val (.long q3), .second, .val (.long qf), .second, .val (.int p5), .val (.int (1 : Int32)), .val (.ref b24), .unset, .unset, .unset, .unset, .unset, .unset, .unset, .unset, .unset] []))
    refine OG.of (A := T31.setTop (mkF m 60 #[.val (.long q0), .second, .val (.long q1), .second, .val (.long q2), .second, .val (.long q3), .second, .val (.long qf), .second, .val (.int p5), .val (.int (1 : Int32)), .val (.ref b24), .unset, .unset, .unset, .unset, .unset, .unset, .unset, .unset, .unset] [(.long q0), (.int (1 : Int32)), (.ref b24)])) (fun oT oK => ?_) ?_
    · show Steps p.tables e below (T31.setTop (mkF m 55 #[.val (.long q0), .second, .val (.long q1), .second, .val (.long q2), .second, .val (.long q3), .second, .val (.long qf), .second, .val (.int p5), .val (.int (1 : Int32)), .val (.ref b24), .unset, .unset, .unset, .unset, .unset, .unset, .unset, .unset, .unset] [])) oT
      refine XS.aload X31.here hx rfl (hb hby at_55) rfl rfl  ?_
      show Steps p.tables e below (T31.setTop (mkF m 57 #[.val (.long q0), .second, .val (.long q1), .second, .val (.long q2), .second, .val (.long q3), .second, .val (.long qf), .second, .val (.int p5), .val (.int (1 : Int32)), .val (.ref b24), .unset, .unset, .unset, .unset, .unset, .unset, .unset, .unset, .unset] [(.ref b24)])) _
      refine XS.iload X31.here hx rfl (hb hby at_57) rfl  ?_
      show Steps p.tables e below (T31.setTop (mkF m 59 #[.val (.long q0), .second, .val (.long q1), .second, .val (.long q2), .second, .val (.long q3), .second, .val (.long qf), .second, .val (.int p5), .val (.int (1 : Int32)), .val (.ref b24), .unset, .unset, .unset, .unset, .unset, .unset, .unset, .unset, .unset] [(.int (1 : Int32)), (.ref b24)])) _
      refine XT.lloadN X31.here hx rfl (hb hby at_59) rfl  ?_
      exact oK
    show OG _ _ _ _ _ _ _ (T31.setTop (mkF m 60 #[.val (.long q0), .second, .val (.long q1), .second, .val (.long q2), .second, .val (.long q3), .second, .val (.long qf), .second, .val (.int p5), .val (.int (1 : Int32)), .val (.ref b24), .unset, .unset, .unset, .unset, .unset, .unset, .unset, .unset, .unset] [(.long q0), (.int (1 : Int32)), (.ref b24)]))
    have cf80 := V31
    obtain ⟨clf80, Arf80, qf80, Sf80, Mf80, Hf80, Gf80⟩ := cf80
    obtain ⟨T32, h32, X32, e32, W32, st32⟩ := stJ X31 hx hZ e31 Arf80 (j := (1 : Int32)) (inb_of Sf80 ⟨by decide, by decide⟩) (g := (mkF m 60 #[.val (.long q0), .second, .val (.long q1), .second, .val (.long q2), .second, .val (.long q3), .second, .val (.long qf), .second, .val (.int p5), .val (.int (1 : Int32)), .val (.ref b24), .unset, .unset, .unset, .unset, .unset, .unset, .unset, .unset, .unset] [(.long q0), (.int (1 : Int32)), (.ref b24)])) rfl rfl (hb hby at_60)
    have V32 : Arv Z h32 b24 kc24 .long (7 : Int32) [(.long qf), (.long q0), (.long qf), (.long qf), (.long qf), (.long qf), (.long qf)] (.long (0 : Int64)) := Arv.set Arf80 qf80 Sf80 Mf80 Hf80 Gf80 rfl W32 1 rfl (Nat.le_of_ble_eq_true rfl)
    have f82 := (f79).wr W32 gn_b24
    have K32 : Keep h0 h32 [] := (K31).wr W32 (Or.inr sz_b24)
    have Z32 : n0 ≤ h32.size := Nat.le_trans Z31 (Keep.of_wr W32).1
    have N32 := Fr.snoc X32 N31 gn_b24
    refine OG.of st32 ?_
    show OG _ _ _ _ _ _ _ (T32.setTop (mkF m 61 #[.val (.long q0), .second, .val (.long q1), .second, .val (.long q2), .second, .val (.long q3), .second, .val (.long qf), .second, .val (.int p5), .val (.int (1 : Int32)), .val (.ref b24), .unset, .unset, .unset, .unset, .unset, .unset, .unset, .unset, .unset] []))
    refine OG.of (A := T32.setTop (mkF m 68 #[.val (.long q0), .second, .val (.long q1), .second, .val (.long q2), .second, .val (.long q3), .second, .val (.long qf), .second, .val (.int p5), .val (.int (1 : Int32)), .val (.ref b24), .unset, .unset, .unset, .unset, .unset, .unset, .unset, .unset, .unset] [(.long q1), (.int (2 : Int32)), (.ref b24)])) (fun oT oK => ?_) ?_
    · show Steps p.tables e below (T32.setTop (mkF m 61 #[.val (.long q0), .second, .val (.long q1), .second, .val (.long q2), .second, .val (.long q3), .second, .val (.long qf), .second, .val (.int p5), .val (.int (1 : Int32)), .val (.ref b24), .unset, .unset, .unset, .unset, .unset, .unset, .unset, .unset, .unset] [])) oT
      refine XS.aload X32.here hx rfl (hb hby at_61) rfl rfl  ?_
      show Steps p.tables e below (T32.setTop (mkF m 63 #[.val (.long q0), .second, .val (.long q1), .second, .val (.long q2), .second, .val (.long q3), .second, .val (.long qf), .second, .val (.int p5), .val (.int (1 : Int32)), .val (.ref b24), .unset, .unset, .unset, .unset, .unset, .unset, .unset, .unset, .unset] [(.ref b24)])) _
      refine XS.iload X32.here hx rfl (hb hby at_63) rfl  ?_
      show Steps p.tables e below (T32.setTop (mkF m 65 #[.val (.long q0), .second, .val (.long q1), .second, .val (.long q2), .second, .val (.long q3), .second, .val (.long qf), .second, .val (.int p5), .val (.int (1 : Int32)), .val (.ref b24), .unset, .unset, .unset, .unset, .unset, .unset, .unset, .unset, .unset] [(.int (1 : Int32)), (.ref b24)])) _
      refine XS.iconst X32.here hx rfl (hb hby at_65) ?_
      show Steps p.tables e below (T32.setTop (mkF m 66 #[.val (.long q0), .second, .val (.long q1), .second, .val (.long q2), .second, .val (.long q3), .second, .val (.long qf), .second, .val (.int p5), .val (.int (1 : Int32)), .val (.ref b24), .unset, .unset, .unset, .unset, .unset, .unset, .unset, .unset, .unset] [(.int (1 : Int32)), (.int (1 : Int32)), (.ref b24)])) _
      refine XS.iadd X32.here hx rfl (hb hby at_66) rfl ?_
      show Steps p.tables e below (T32.setTop (mkF m 67 #[.val (.long q0), .second, .val (.long q1), .second, .val (.long q2), .second, .val (.long q3), .second, .val (.long qf), .second, .val (.int p5), .val (.int (1 : Int32)), .val (.ref b24), .unset, .unset, .unset, .unset, .unset, .unset, .unset, .unset, .unset] [(.int (2 : Int32)), (.ref b24)])) _
      refine XT.lloadN X32.here hx rfl (hb hby at_67) rfl  ?_
      exact oK
    show OG _ _ _ _ _ _ _ (T32.setTop (mkF m 68 #[.val (.long q0), .second, .val (.long q1), .second, .val (.long q2), .second, .val (.long q3), .second, .val (.long qf), .second, .val (.int p5), .val (.int (1 : Int32)), .val (.ref b24), .unset, .unset, .unset, .unset, .unset, .unset, .unset, .unset, .unset] [(.long q1), (.int (2 : Int32)), (.ref b24)]))
    have cf83 := V32
    obtain ⟨clf83, Arf83, qf83, Sf83, Mf83, Hf83, Gf83⟩ := cf83
    obtain ⟨T33, h33, X33, e33, W33, st33⟩ := stJ X32 hx hZ e32 Arf83 (j := (2 : Int32)) (inb_of Sf83 ⟨by decide, by decide⟩) (g := (mkF m 68 #[.val (.long q0), .second, .val (.long q1), .second, .val (.long q2), .second, .val (.long q3), .second, .val (.long qf), .second, .val (.int p5), .val (.int (1 : Int32)), .val (.ref b24), .unset, .unset, .unset, .unset, .unset, .unset, .unset, .unset, .unset] [(.long q1), (.int (2 : Int32)), (.ref b24)])) rfl rfl (hb hby at_68)
    have V33 : Arv Z h33 b24 kc24 .long (7 : Int32) [(.long qf), (.long q0), (.long q1), (.long qf), (.long qf), (.long qf), (.long qf)] (.long (0 : Int64)) := Arv.set Arf83 qf83 Sf83 Mf83 Hf83 Gf83 rfl W33 2 rfl (Nat.le_of_ble_eq_true rfl)
    have f85 := (f82).wr W33 gn_b24
    have K33 : Keep h0 h33 [] := (K32).wr W33 (Or.inr sz_b24)
    have Z33 : n0 ≤ h33.size := Nat.le_trans Z32 (Keep.of_wr W33).1
    have N33 := Fr.snoc X33 N32 gn_b24
    refine OG.of st33 ?_
    show OG _ _ _ _ _ _ _ (T33.setTop (mkF m 69 #[.val (.long q0), .second, .val (.long q1), .second, .val (.long q2), .second, .val (.long q3), .second, .val (.long qf), .second, .val (.int p5), .val (.int (1 : Int32)), .val (.ref b24), .unset, .unset, .unset, .unset, .unset, .unset, .unset, .unset, .unset] []))
    refine OG.of (A := T33.setTop (mkF m 77 #[.val (.long q0), .second, .val (.long q1), .second, .val (.long q2), .second, .val (.long q3), .second, .val (.long qf), .second, .val (.int p5), .val (.int (1 : Int32)), .val (.ref b24), .unset, .unset, .unset, .unset, .unset, .unset, .unset, .unset, .unset] [(.long q2), (.int (3 : Int32)), (.ref b24)])) (fun oT oK => ?_) ?_
    · show Steps p.tables e below (T33.setTop (mkF m 69 #[.val (.long q0), .second, .val (.long q1), .second, .val (.long q2), .second, .val (.long q3), .second, .val (.long qf), .second, .val (.int p5), .val (.int (1 : Int32)), .val (.ref b24), .unset, .unset, .unset, .unset, .unset, .unset, .unset, .unset, .unset] [])) oT
      refine XS.aload X33.here hx rfl (hb hby at_69) rfl rfl  ?_
      show Steps p.tables e below (T33.setTop (mkF m 71 #[.val (.long q0), .second, .val (.long q1), .second, .val (.long q2), .second, .val (.long q3), .second, .val (.long qf), .second, .val (.int p5), .val (.int (1 : Int32)), .val (.ref b24), .unset, .unset, .unset, .unset, .unset, .unset, .unset, .unset, .unset] [(.ref b24)])) _
      refine XS.iload X33.here hx rfl (hb hby at_71) rfl  ?_
      show Steps p.tables e below (T33.setTop (mkF m 73 #[.val (.long q0), .second, .val (.long q1), .second, .val (.long q2), .second, .val (.long q3), .second, .val (.long qf), .second, .val (.int p5), .val (.int (1 : Int32)), .val (.ref b24), .unset, .unset, .unset, .unset, .unset, .unset, .unset, .unset, .unset] [(.int (1 : Int32)), (.ref b24)])) _
      refine XS.iconst X33.here hx rfl (hb hby at_73) ?_
      show Steps p.tables e below (T33.setTop (mkF m 74 #[.val (.long q0), .second, .val (.long q1), .second, .val (.long q2), .second, .val (.long q3), .second, .val (.long qf), .second, .val (.int p5), .val (.int (1 : Int32)), .val (.ref b24), .unset, .unset, .unset, .unset, .unset, .unset, .unset, .unset, .unset] [(.int (2 : Int32)), (.int (1 : Int32)), (.ref b24)])) _
      refine XS.iadd X33.here hx rfl (hb hby at_74) rfl ?_
      show Steps p.tables e below (T33.setTop (mkF m 75 #[.val (.long q0), .second, .val (.long q1), .second, .val (.long q2), .second, .val (.long q3), .second, .val (.long qf), .second, .val (.int p5), .val (.int (1 : Int32)), .val (.ref b24), .unset, .unset, .unset, .unset, .unset, .unset, .unset, .unset, .unset] [(.int (3 : Int32)), (.ref b24)])) _
      refine XT.lload X33.here hx rfl (hb hby at_75) rfl  ?_
      exact oK
    show OG _ _ _ _ _ _ _ (T33.setTop (mkF m 77 #[.val (.long q0), .second, .val (.long q1), .second, .val (.long q2), .second, .val (.long q3), .second, .val (.long qf), .second, .val (.int p5), .val (.int (1 : Int32)), .val (.ref b24), .unset, .unset, .unset, .unset, .unset, .unset, .unset, .unset, .unset] [(.long q2), (.int (3 : Int32)), (.ref b24)]))
    have cf86 := V33
    obtain ⟨clf86, Arf86, qf86, Sf86, Mf86, Hf86, Gf86⟩ := cf86
    obtain ⟨T34, h34, X34, e34, W34, st34⟩ := stJ X33 hx hZ e33 Arf86 (j := (3 : Int32)) (inb_of Sf86 ⟨by decide, by decide⟩) (g := (mkF m 77 #[.val (.long q0), .second, .val (.long q1), .second, .val (.long q2), .second, .val (.long q3), .second, .val (.long qf), .second, .val (.int p5), .val (.int (1 : Int32)), .val (.ref b24), .unset, .unset, .unset, .unset, .unset, .unset, .unset, .unset, .unset] [(.long q2), (.int (3 : Int32)), (.ref b24)])) rfl rfl (hb hby at_77)
    have V34 : Arv Z h34 b24 kc24 .long (7 : Int32) [(.long qf), (.long q0), (.long q1), (.long q2), (.long qf), (.long qf), (.long qf)] (.long (0 : Int64)) := Arv.set Arf86 qf86 Sf86 Mf86 Hf86 Gf86 rfl W34 3 rfl (Nat.le_of_ble_eq_true rfl)
    have f88 := (f85).wr W34 gn_b24
    have K34 : Keep h0 h34 [] := (K33).wr W34 (Or.inr sz_b24)
    have Z34 : n0 ≤ h34.size := Nat.le_trans Z33 (Keep.of_wr W34).1
    have N34 := Fr.snoc X34 N33 gn_b24
    refine OG.of st34 ?_
    show OG _ _ _ _ _ _ _ (T34.setTop (mkF m 78 #[.val (.long q0), .second, .val (.long q1), .second, .val (.long q2), .second, .val (.long q3), .second, .val (.long qf), .second, .val (.int p5), .val (.int (1 : Int32)), .val (.ref b24), .unset, .unset, .unset, .unset, .unset, .unset, .unset, .unset, .unset] []))
    refine OG.of (A := T34.setTop (mkF m 86 #[.val (.long q0), .second, .val (.long q1), .second, .val (.long q2), .second, .val (.long q3), .second, .val (.long qf), .second, .val (.int p5), .val (.int (1 : Int32)), .val (.ref b24), .unset, .unset, .unset, .unset, .unset, .unset, .unset, .unset, .unset] [(.long q3), (.int (4 : Int32)), (.ref b24)])) (fun oT oK => ?_) ?_
    · show Steps p.tables e below (T34.setTop (mkF m 78 #[.val (.long q0), .second, .val (.long q1), .second, .val (.long q2), .second, .val (.long q3), .second, .val (.long qf), .second, .val (.int p5), .val (.int (1 : Int32)), .val (.ref b24), .unset, .unset, .unset, .unset, .unset, .unset, .unset, .unset, .unset] [])) oT
      refine XS.aload X34.here hx rfl (hb hby at_78) rfl rfl  ?_
      show Steps p.tables e below (T34.setTop (mkF m 80 #[.val (.long q0), .second, .val (.long q1), .second, .val (.long q2), .second, .val (.long q3), .second, .val (.long qf), .second, .val (.int p5), .val (.int (1 : Int32)), .val (.ref b24), .unset, .unset, .unset, .unset, .unset, .unset, .unset, .unset, .unset] [(.ref b24)])) _
      refine XS.iload X34.here hx rfl (hb hby at_80) rfl  ?_
      show Steps p.tables e below (T34.setTop (mkF m 82 #[.val (.long q0), .second, .val (.long q1), .second, .val (.long q2), .second, .val (.long q3), .second, .val (.long qf), .second, .val (.int p5), .val (.int (1 : Int32)), .val (.ref b24), .unset, .unset, .unset, .unset, .unset, .unset, .unset, .unset, .unset] [(.int (1 : Int32)), (.ref b24)])) _
      refine XS.iconst X34.here hx rfl (hb hby at_82) ?_
      show Steps p.tables e below (T34.setTop (mkF m 83 #[.val (.long q0), .second, .val (.long q1), .second, .val (.long q2), .second, .val (.long q3), .second, .val (.long qf), .second, .val (.int p5), .val (.int (1 : Int32)), .val (.ref b24), .unset, .unset, .unset, .unset, .unset, .unset, .unset, .unset, .unset] [(.int (3 : Int32)), (.int (1 : Int32)), (.ref b24)])) _
      refine XS.iadd X34.here hx rfl (hb hby at_83) rfl ?_
      show Steps p.tables e below (T34.setTop (mkF m 84 #[.val (.long q0), .second, .val (.long q1), .second, .val (.long q2), .second, .val (.long q3), .second, .val (.long qf), .second, .val (.int p5), .val (.int (1 : Int32)), .val (.ref b24), .unset, .unset, .unset, .unset, .unset, .unset, .unset, .unset, .unset] [(.int (4 : Int32)), (.ref b24)])) _
      refine XT.lload X34.here hx rfl (hb hby at_84) rfl  ?_
      exact oK
    show OG _ _ _ _ _ _ _ (T34.setTop (mkF m 86 #[.val (.long q0), .second, .val (.long q1), .second, .val (.long q2), .second, .val (.long q3), .second, .val (.long qf), .second, .val (.int p5), .val (.int (1 : Int32)), .val (.ref b24), .unset, .unset, .unset, .unset, .unset, .unset, .unset, .unset, .unset] [(.long q3), (.int (4 : Int32)), (.ref b24)]))
    have cf89 := V34
    obtain ⟨clf89, Arf89, qf89, Sf89, Mf89, Hf89, Gf89⟩ := cf89
    obtain ⟨T35, h35, X35, e35, W35, st35⟩ := stJ X34 hx hZ e34 Arf89 (j := (4 : Int32)) (inb_of Sf89 ⟨by decide, by decide⟩) (g := (mkF m 86 #[.val (.long q0), .second, .val (.long q1), .second, .val (.long q2), .second, .val (.long q3), .second, .val (.long qf), .second, .val (.int p5), .val (.int (1 : Int32)), .val (.ref b24), .unset, .unset, .unset, .unset, .unset, .unset, .unset, .unset, .unset] [(.long q3), (.int (4 : Int32)), (.ref b24)])) rfl rfl (hb hby at_86)
    have V35 : Arv Z h35 b24 kc24 .long (7 : Int32) [(.long qf), (.long q0), (.long q1), (.long q2), (.long q3), (.long qf), (.long qf)] (.long (0 : Int64)) := Arv.set Arf89 qf89 Sf89 Mf89 Hf89 Gf89 rfl W35 4 rfl (Nat.le_of_ble_eq_true rfl)
    have f91 := (f88).wr W35 gn_b24
    have K35 : Keep h0 h35 [] := (K34).wr W35 (Or.inr sz_b24)
    have Z35 : n0 ≤ h35.size := Nat.le_trans Z34 (Keep.of_wr W35).1
    have N35 := Fr.snoc X35 N34 gn_b24
    refine OG.of st35 ?_
    show OG _ _ _ _ _ _ _ (T35.setTop (mkF m 87 #[.val (.long q0), .second, .val (.long q1), .second, .val (.long q2), .second, .val (.long q3), .second, .val (.long qf), .second, .val (.int p5), .val (.int (1 : Int32)), .val (.ref b24), .unset, .unset, .unset, .unset, .unset, .unset, .unset, .unset, .unset] []))
    refine OG.of (A := T35.setTop (mkF m 91 #[.val (.long q0), .second, .val (.long q1), .second, .val (.long q2), .second, .val (.long q3), .second, .val (.long qf), .second, .val (.int p5), .val (.int (1 : Int32)), .val (.ref b24), .unset, .unset, .unset, .unset, .unset, .unset, .unset, .unset, .unset] [(.int (1 : Int32)), (.ref b24)])) (fun oT oK => ?_) ?_
    · show Steps p.tables e below (T35.setTop (mkF m 87 #[.val (.long q0), .second, .val (.long q1), .second, .val (.long q2), .second, .val (.long q3), .second, .val (.long qf), .second, .val (.int p5), .val (.int (1 : Int32)), .val (.ref b24), .unset, .unset, .unset, .unset, .unset, .unset, .unset, .unset, .unset] [])) oT
      refine XS.aload X35.here hx rfl (hb hby at_87) rfl rfl  ?_
      show Steps p.tables e below (T35.setTop (mkF m 89 #[.val (.long q0), .second, .val (.long q1), .second, .val (.long q2), .second, .val (.long q3), .second, .val (.long qf), .second, .val (.int p5), .val (.int (1 : Int32)), .val (.ref b24), .unset, .unset, .unset, .unset, .unset, .unset, .unset, .unset, .unset] [(.ref b24)])) _
      refine XS.iload X35.here hx rfl (hb hby at_89) rfl  ?_
      exact oK
    show OG _ _ _ _ _ _ _ (T35.setTop (mkF m 91 #[.val (.long q0), .second, .val (.long q1), .second, .val (.long q2), .second, .val (.long q3), .second, .val (.long qf), .second, .val (.int p5), .val (.int (1 : Int32)), .val (.ref b24), .unset, .unset, .unset, .unset, .unset, .unset, .unset, .unset, .unset] [(.int (1 : Int32)), (.ref b24)]))
    obtain ⟨_, _, ⟨T36, L36, k36, n36⟩, -, X36, ⟨Lc36, hQ36, l36, y36, z36⟩, st36⟩ := Jvm.LawKit.callS X35 hx (y := (⟨"com/example/gate_to_gate/gatetogate/io/Field25519", "fromWords", "([JI)[J"⟩ : MethodName)) hown (mvT hZ (hw _ (List.mem_of_getElem? (i := 1) rfl))) (mvT hZ (hw _ (List.mem_of_getElem? (i := 2) rfl))) (mvT hZ (hw _ (List.mem_of_getElem? (i := 3) rfl))) (mvT hZ (hw _ (List.mem_of_getElem? (i := 4) rfl))) (by decide) (backOf (W := 0) (rmF l Z a0 hw [] b24 (1 : Int32) q0 q1 q2 q3 wP wB h35 n0 (Z35) f91 SP SB TP TB (own_rd V35 ⟨by decide, by decide⟩ rfl) (own_rd V35 ⟨by decide, by decide⟩ rfl) (own_rd V35 ⟨by decide, by decide⟩ rfl) (own_rd V35 ⟨by decide, by decide⟩ rfl) (own_rd V35 ⟨by decide, by decide⟩ rfl) (own_rd V35 ⟨by decide, by decide⟩ rfl)) hZ (hw _ (List.mem_of_getElem? (i := 4) rfl)) (hw _ (List.mem_of_getElem? (i := 3) rfl)) (by decide) (by decide)) (g := (mkF m 91 #[.val (.long q0), .second, .val (.long q1), .second, .val (.long q2), .second, .val (.long q3), .second, .val (.long qf), .second, .val (.int p5), .val (.int (1 : Int32)), .val (.ref b24), .unset, .unset, .unset, .unset, .unset, .unset, .unset, .unset, .unset] [(.int (1 : Int32)), (.ref b24)])) rfl (by rw [hml]; rfl) (argsL := [(.ref b24), (.int (1 : Int32))]) (rest := []) (lenOf pd___JI__J rfl) rfl (by show 2 * 0 + _ ≤ _; exact Nat.le_of_eq rfl) (hb hby at_91) (fun _ _ => ⟨rfl, e35, (by decide : 1 + 1 ≤ _), (by decide : 7 + 10 ≤ _)⟩)
    dsimp only [Pt.U, Pt.locs, Pt.cells, Pt.slots] at X36 l36 y36 z36 st36 hQ36
    subst l36 y36 z36
    obtain ⟨b, kc, rfl, N36q, Kc36, -, V36⟩ := hQ36
    have N36 := Fr.app N35 N36q
    have Z36 : n0 ≤ T36.heap.size := Nat.le_trans Z35 Kc36.1
    refine OG.of st36 ?_
    exact own_tail q0 q1 q2 q3 qf p5 (1 : Int32) b24 b kc X36 hx hZ hw hby hml hown hlk Bd.returns rfl N36 Z36 V36
  | 2, _, eo =>
    rw [show (p5 &&& (3 : Int32)) = (2 : Int32) from eo]
    show OG _ _ _ _ _ _ _ (s₁.setTop (mkF m 6 #[.val (.long q0), .second, .val (.long q1), .second, .val (.long q2), .second, .val (.long q3), .second, .val (.long qf), .second, .val (.int p5), .val (.int (2 : Int32)), .unset, .unset, .unset, .unset, .unset, .unset, .unset, .unset, .unset, .unset] []))
    refine OG.of (A := s₁.setTop (mkF m 8 #[.val (.long q0), .second, .val (.long q1), .second, .val (.long q2), .second, .val (.long q3), .second, .val (.long qf), .second, .val (.int p5), .val (.int (2 : Int32)), .unset, .unset, .unset, .unset, .unset, .unset, .unset, .unset, .unset, .unset] [(.int (7 : Int32))])) (fun oT oK => ?_) ?_
    · show Steps p.tables e below (s₁.setTop (mkF m 6 #[.val (.long q0), .second, .val (.long q1), .second, .val (.long q2), .second, .val (.long q3), .second, .val (.long qf), .second, .val (.int p5), .val (.int (2 : Int32)), .unset, .unset, .unset, .unset, .unset, .unset, .unset, .unset, .unset, .unset] [])) oT
      refine XS.bipush X0.here hx rfl (hb hby at_6) ?_
      exact oK
    show OG _ _ _ _ _ _ _ (s₁.setTop (mkF m 8 #[.val (.long q0), .second, .val (.long q1), .second, .val (.long q2), .second, .val (.long q3), .second, .val (.long qf), .second, .val (.int p5), .val (.int (2 : Int32)), .unset, .unset, .unset, .unset, .unset, .unset, .unset, .unset, .unset, .unset] [(.int (7 : Int32))]))
    obtain ⟨T37, h37, kc37, X37, e37, E37, A37, st37⟩ := newP X0 hx hZ (hw _ (List.mem_of_getElem? (i := 0) rfl)) e0 (g := (mkF m 8 #[.val (.long q0), .second, .val (.long q1), .second, .val (.long q2), .second, .val (.long q3), .second, .val (.long qf), .second, .val (.int p5), .val (.int (2 : Int32)), .unset, .unset, .unset, .unset, .unset, .unset, .unset, .unset, .unset, .unset] [(.int (7 : Int32))])) rfl (hb hby at_8) rfl (by decide) (cap := 7) (by decide) (by decide) (by decide) (by decide)
    obtain ⟨b37, g37⟩ : ∃ z, z = (h0).size := ⟨_, rfl⟩
    have gn_b37 : n0 ≤ b37 := Nat.le_trans Z0 (Nat.le_of_eq g37.symm)
    have sz_b37 : h0.size ≤ b37 := Nat.le_trans (Keep.refl h0 []).1 (Nat.le_of_eq g37.symm)
    rw [← g37] at A37 st37
    have f92 := (hO).ext E37
    have K37 : Keep h0 h37 [] := (Keep.refl h0 []).ext E37
    have Z37 : n0 ≤ h37.size := Nat.le_trans Z0 E37.1
    have V37 : Arv Z h37 b37 kc37 .long (7 : Int32) [(.long (0 : Int64)), (.long (0 : Int64)), (.long (0 : Int64)), (.long (0 : Int64)), (.long (0 : Int64)), (.long (0 : Int64)), (.long (0 : Int64))] (.long (0 : Int64)) := (Arv.new A37 (by decide)).pad (pad_rep [] (.long (0 : Int64)) 7)
    refine OG.of st37 ?_
    show OG _ _ _ _ _ _ _ (T37.setTop (mkF m 10 #[.val (.long q0), .second, .val (.long q1), .second, .val (.long q2), .second, .val (.long q3), .second, .val (.long qf), .second, .val (.int p5), .val (.int (2 : Int32)), .unset, .unset, .unset, .unset, .unset, .unset, .unset, .unset, .unset, .unset] [(.ref b37)]))
    refine OG.of (A := T37.setTop (mkF m 17 #[.val (.long q0), .second, .val (.long q1), .second, .val (.long q2), .second, .val (.long q3), .second, .val (.long qf), .second, .val (.int p5), .val (.int (2 : Int32)), .val (.ref b37), .unset, .unset, .unset, .unset, .unset, .unset, .unset, .unset, .unset] [(.long qf), (.int (0 : Int32)), (.ref b37)])) (fun oT oK => ?_) ?_
    · show Steps p.tables e below (T37.setTop (mkF m 10 #[.val (.long q0), .second, .val (.long q1), .second, .val (.long q2), .second, .val (.long q3), .second, .val (.long qf), .second, .val (.int p5), .val (.int (2 : Int32)), .unset, .unset, .unset, .unset, .unset, .unset, .unset, .unset, .unset, .unset] [(.ref b37)])) oT
      refine XS.astore X37.here hx rfl (hb hby at_10) rfl rfl (l' := #[.val (.long q0), .second, .val (.long q1), .second, .val (.long q2), .second, .val (.long q3), .second, .val (.long qf), .second, .val (.int p5), .val (.int (2 : Int32)), .val (.ref b37), .unset, .unset, .unset, .unset, .unset, .unset, .unset, .unset, .unset]) rfl ?_
      show Steps p.tables e below (T37.setTop (mkF m 12 #[.val (.long q0), .second, .val (.long q1), .second, .val (.long q2), .second, .val (.long q3), .second, .val (.long qf), .second, .val (.int p5), .val (.int (2 : Int32)), .val (.ref b37), .unset, .unset, .unset, .unset, .unset, .unset, .unset, .unset, .unset] [])) _
      refine XS.aload X37.here hx rfl (hb hby at_12) rfl rfl  ?_
      show Steps p.tables e below (T37.setTop (mkF m 14 #[.val (.long q0), .second, .val (.long q1), .second, .val (.long q2), .second, .val (.long q3), .second, .val (.long qf), .second, .val (.int p5), .val (.int (2 : Int32)), .val (.ref b37), .unset, .unset, .unset, .unset, .unset, .unset, .unset, .unset, .unset] [(.ref b37)])) _
      refine XS.iconst X37.here hx rfl (hb hby at_14) ?_
      show Steps p.tables e below (T37.setTop (mkF m 15 #[.val (.long q0), .second, .val (.long q1), .second, .val (.long q2), .second, .val (.long q3), .second, .val (.long qf), .second, .val (.int p5), .val (.int (2 : Int32)), .val (.ref b37), .unset, .unset, .unset, .unset, .unset, .unset, .unset, .unset, .unset] [(.int (0 : Int32)), (.ref b37)])) _
      refine XT.lload X37.here hx rfl (hb hby at_15) rfl  ?_
      exact oK
    show OG _ _ _ _ _ _ _ (T37.setTop (mkF m 17 #[.val (.long q0), .second, .val (.long q1), .second, .val (.long q2), .second, .val (.long q3), .second, .val (.long qf), .second, .val (.int p5), .val (.int (2 : Int32)), .val (.ref b37), .unset, .unset, .unset, .unset, .unset, .unset, .unset, .unset, .unset] [(.long qf), (.int (0 : Int32)), (.ref b37)]))
    have cf93 := V37
    obtain ⟨clf93, Arf93, qf93, Sf93, Mf93, Hf93, Gf93⟩ := cf93
    obtain ⟨T38, h38, X38, e38, W38, st38⟩ := stJ X37 hx hZ e37 Arf93 (j := (0 : Int32)) (inb_of Sf93 ⟨by decide, by decide⟩) (g := (mkF m 17 #[.val (.long q0), .second, .val (.long q1), .second, .val (.long q2), .second, .val (.long q3), .second, .val (.long qf), .second, .val (.int p5), .val (.int (2 : Int32)), .val (.ref b37), .unset, .unset, .unset, .unset, .unset, .unset, .unset, .unset, .unset] [(.long qf), (.int (0 : Int32)), (.ref b37)])) rfl rfl (hb hby at_17)
    have V38 : Arv Z h38 b37 kc37 .long (7 : Int32) [(.long qf), (.long (0 : Int64)), (.long (0 : Int64)), (.long (0 : Int64)), (.long (0 : Int64)), (.long (0 : Int64)), (.long (0 : Int64))] (.long (0 : Int64)) := Arv.set Arf93 qf93 Sf93 Mf93 Hf93 Gf93 rfl W38 0 rfl (Nat.le_of_ble_eq_true rfl)
    have f95 := (f92).wr W38 gn_b37
    have K38 : Keep h0 h38 [] := (K37).wr W38 (Or.inr sz_b37)
    have Z38 : n0 ≤ h38.size := Nat.le_trans Z37 (Keep.of_wr W38).1
    have N38 := Fr.snoc X38 N0 gn_b37
    refine OG.of st38 ?_
    show OG _ _ _ _ _ _ _ (T38.setTop (mkF m 18 #[.val (.long q0), .second, .val (.long q1), .second, .val (.long q2), .second, .val (.long q3), .second, .val (.long qf), .second, .val (.int p5), .val (.int (2 : Int32)), .val (.ref b37), .unset, .unset, .unset, .unset, .unset, .unset, .unset, .unset, .unset] []))
    refine OG.of (A := T38.setTop (mkF m 23 #[.val (.long q0), .second, .val (.long q1), .second, .val (.long q2), .second, .val (.long q3), .second, .val (.long qf), .second, .val (.int p5), .val (.int (2 : Int32)), .val (.ref b37), .unset, .unset, .unset, .unset, .unset, .unset, .unset, .unset, .unset] [(.long qf), (.int (1 : Int32)), (.ref b37)])) (fun oT oK => ?_) ?_
    · show Steps p.tables e below (T38.setTop (mkF m 18 #[.val (.long q0), .second, .val (.long q1), .second, .val (.long q2), .second, .val (.long q3), .second, .val (.long qf), .second, .val (.int p5), .val (.int (2 : Int32)), .val (.ref b37), .unset, .unset, .unset, .unset, .unset, .unset, .unset, .unset, .unset] [])) oT
      refine XS.aload X38.here hx rfl (hb hby at_18) rfl rfl  ?_
      show Steps p.tables e below (T38.setTop (mkF m 20 #[.val (.long q0), .second, .val (.long q1), .second, .val (.long q2), .second, .val (.long q3), .second, .val (.long qf), .second, .val (.int p5), .val (.int (2 : Int32)), .val (.ref b37), .unset, .unset, .unset, .unset, .unset, .unset, .unset, .unset, .unset] [(.ref b37)])) _
      refine XS.iconst X38.here hx rfl (hb hby at_20) ?_
      show Steps p.tables e below (T38.setTop (mkF m 21 #[.val (.long q0), .second, .val (.long q1), .second, .val (.long q2), .second, .val (.long q3), .second, .val (.long qf), .second, .val (.int p5), .val (.int (2 : Int32)), .val (.ref b37), .unset, .unset, .unset, .unset, .unset, .unset, .unset, .unset, .unset] [(.int (1 : Int32)), (.ref b37)])) _
      refine XT.lload X38.here hx rfl (hb hby at_21) rfl  ?_
      exact oK
    show OG _ _ _ _ _ _ _ (T38.setTop (mkF m 23 #[.val (.long q0), .second, .val (.long q1), .second, .val (.long q2), .second, .val (.long q3), .second, .val (.long qf), .second, .val (.int p5), .val (.int (2 : Int32)), .val (.ref b37), .unset, .unset, .unset, .unset, .unset, .unset, .unset, .unset, .unset] [(.long qf), (.int (1 : Int32)), (.ref b37)]))
    have cf96 := V38
    obtain ⟨clf96, Arf96, qf96, Sf96, Mf96, Hf96, Gf96⟩ := cf96
    obtain ⟨T39, h39, X39, e39, W39, st39⟩ := stJ X38 hx hZ e38 Arf96 (j := (1 : Int32)) (inb_of Sf96 ⟨by decide, by decide⟩) (g := (mkF m 23 #[.val (.long q0), .second, .val (.long q1), .second, .val (.long q2), .second, .val (.long q3), .second, .val (.long qf), .second, .val (.int p5), .val (.int (2 : Int32)), .val (.ref b37), .unset, .unset, .unset, .unset, .unset, .unset, .unset, .unset, .unset] [(.long qf), (.int (1 : Int32)), (.ref b37)])) rfl rfl (hb hby at_23)
    have V39 : Arv Z h39 b37 kc37 .long (7 : Int32) [(.long qf), (.long qf), (.long (0 : Int64)), (.long (0 : Int64)), (.long (0 : Int64)), (.long (0 : Int64)), (.long (0 : Int64))] (.long (0 : Int64)) := Arv.set Arf96 qf96 Sf96 Mf96 Hf96 Gf96 rfl W39 1 rfl (Nat.le_of_ble_eq_true rfl)
    have f98 := (f95).wr W39 gn_b37
    have K39 : Keep h0 h39 [] := (K38).wr W39 (Or.inr sz_b37)
    have Z39 : n0 ≤ h39.size := Nat.le_trans Z38 (Keep.of_wr W39).1
    have N39 := Fr.snoc X39 N38 gn_b37
    refine OG.of st39 ?_
    show OG _ _ _ _ _ _ _ (T39.setTop (mkF m 24 #[.val (.long q0), .second, .val (.long q1), .second, .val (.long q2), .second, .val (.long q3), .second, .val (.long qf), .second, .val (.int p5), .val (.int (2 : Int32)), .val (.ref b37), .unset, .unset, .unset, .unset, .unset, .unset, .unset, .unset, .unset] []))
    refine OG.of (A := T39.setTop (mkF m 29 #[.val (.long q0), .second, .val (.long q1), .second, .val (.long q2), .second, .val (.long q3), .second, .val (.long qf), .second, .val (.int p5), .val (.int (2 : Int32)), .val (.ref b37), .unset, .unset, .unset, .unset, .unset, .unset, .unset, .unset, .unset] [(.long qf), (.int (2 : Int32)), (.ref b37)])) (fun oT oK => ?_) ?_
    · show Steps p.tables e below (T39.setTop (mkF m 24 #[.val (.long q0), .second, .val (.long q1), .second, .val (.long q2), .second, .val (.long q3), .second, .val (.long qf), .second, .val (.int p5), .val (.int (2 : Int32)), .val (.ref b37), .unset, .unset, .unset, .unset, .unset, .unset, .unset, .unset, .unset] [])) oT
      refine XS.aload X39.here hx rfl (hb hby at_24) rfl rfl  ?_
      show Steps p.tables e below (T39.setTop (mkF m 26 #[.val (.long q0), .second, .val (.long q1), .second, .val (.long q2), .second, .val (.long q3), .second, .val (.long qf), .second, .val (.int p5), .val (.int (2 : Int32)), .val (.ref b37), .unset, .unset, .unset, .unset, .unset, .unset, .unset, .unset, .unset] [(.ref b37)])) _
      refine XS.iconst X39.here hx rfl (hb hby at_26) ?_
      show Steps p.tables e below (T39.setTop (mkF m 27 #[.val (.long q0), .second, .val (.long q1), .second, .val (.long q2), .second, .val (.long q3), .second, .val (.long qf), .second, .val (.int p5), .val (.int (2 : Int32)), .val (.ref b37), .unset, .unset, .unset, .unset, .unset, .unset, .unset, .unset, .unset] [(.int (2 : Int32)), (.ref b37)])) _
      refine XT.lload X39.here hx rfl (hb hby at_27) rfl  ?_
      exact oK
    show OG _ _ _ _ _ _ _ (T39.setTop (mkF m 29 #[.val (.long q0), .second, .val (.long q1), .second, .val (.long q2), .second, .val (.long q3), .second, .val (.long qf), .second, .val (.int p5), .val (.int (2 : Int32)), .val (.ref b37), .unset, .unset, .unset, .unset, .unset, .unset, .unset, .unset, .unset] [(.long qf), (.int (2 : Int32)), (.ref b37)]))
    have cf99 := V39
    obtain ⟨clf99, Arf99, qf99, Sf99, Mf99, Hf99, Gf99⟩ := cf99
    obtain ⟨T40, h40, X40, e40, W40, st40⟩ := stJ X39 hx hZ e39 Arf99 (j := (2 : Int32)) (inb_of Sf99 ⟨by decide, by decide⟩) (g := (mkF m 29 #[.val (.long q0), .second, .val (.long q1), .second, .val (.long q2), .second, .val (.long q3), .second, .val (.long qf), .second, .val (.int p5), .val (.int (2 : Int32)), .val (.ref b37), .unset, .unset, .unset, .unset, .unset, .unset, .unset, .unset, .unset] [(.long qf), (.int (2 : Int32)), (.ref b37)])) rfl rfl (hb hby at_29)
    have V40 : Arv Z h40 b37 kc37 .long (7 : Int32) [(.long qf), (.long qf), (.long qf), (.long (0 : Int64)), (.long (0 : Int64)), (.long (0 : Int64)), (.long (0 : Int64))] (.long (0 : Int64)) := Arv.set Arf99 qf99 Sf99 Mf99 Hf99 Gf99 rfl W40 2 rfl (Nat.le_of_ble_eq_true rfl)
    have f101 := (f98).wr W40 gn_b37
    have K40 : Keep h0 h40 [] := (K39).wr W40 (Or.inr sz_b37)
    have Z40 : n0 ≤ h40.size := Nat.le_trans Z39 (Keep.of_wr W40).1
    have N40 := Fr.snoc X40 N39 gn_b37
    refine OG.of st40 ?_
    show OG _ _ _ _ _ _ _ (T40.setTop (mkF m 30 #[.val (.long q0), .second, .val (.long q1), .second, .val (.long q2), .second, .val (.long q3), .second, .val (.long qf), .second, .val (.int p5), .val (.int (2 : Int32)), .val (.ref b37), .unset, .unset, .unset, .unset, .unset, .unset, .unset, .unset, .unset] []))
    refine OG.of (A := T40.setTop (mkF m 35 #[.val (.long q0), .second, .val (.long q1), .second, .val (.long q2), .second, .val (.long q3), .second, .val (.long qf), .second, .val (.int p5), .val (.int (2 : Int32)), .val (.ref b37), .unset, .unset, .unset, .unset, .unset, .unset, .unset, .unset, .unset] [(.long qf), (.int (3 : Int32)), (.ref b37)])) (fun oT oK => ?_) ?_
    · show Steps p.tables e below (T40.setTop (mkF m 30 #[.val (.long q0), .second, .val (.long q1), .second, .val (.long q2), .second, .val (.long q3), .second, .val (.long qf), .second, .val (.int p5), .val (.int (2 : Int32)), .val (.ref b37), .unset, .unset, .unset, .unset, .unset, .unset, .unset, .unset, .unset] [])) oT
      refine XS.aload X40.here hx rfl (hb hby at_30) rfl rfl  ?_
      show Steps p.tables e below (T40.setTop (mkF m 32 #[.val (.long q0), .second, .val (.long q1), .second, .val (.long q2), .second, .val (.long q3), .second, .val (.long qf), .second, .val (.int p5), .val (.int (2 : Int32)), .val (.ref b37), .unset, .unset, .unset, .unset, .unset, .unset, .unset, .unset, .unset] [(.ref b37)])) _
      refine XS.iconst X40.here hx rfl (hb hby at_32) ?_
      show Steps p.tables e below (T40.setTop (mkF m 33 #[.val (.long q0), .second, .val (.long q1), .second, .val (.long q2), .second, .val (.long q3), .second, .val (.long qf), .second, .val (.int p5), .val (.int (2 : Int32)), .val (.ref b37), .unset, .unset, .unset, .unset, .unset, .unset, .unset, .unset, .unset] [(.int (3 : Int32)), (.ref b37)])) _
      refine XT.lload X40.here hx rfl (hb hby at_33) rfl  ?_
      exact oK
    show OG _ _ _ _ _ _ _ (T40.setTop (mkF m 35 #[.val (.long q0), .second, .val (.long q1), .second, .val (.long q2), .second, .val (.long q3), .second, .val (.long qf), .second, .val (.int p5), .val (.int (2 : Int32)), .val (.ref b37), .unset, .unset, .unset, .unset, .unset, .unset, .unset, .unset, .unset] [(.long qf), (.int (3 : Int32)), (.ref b37)]))
    have cf102 := V40
    obtain ⟨clf102, Arf102, qf102, Sf102, Mf102, Hf102, Gf102⟩ := cf102
    obtain ⟨T41, h41, X41, e41, W41, st41⟩ := stJ X40 hx hZ e40 Arf102 (j := (3 : Int32)) (inb_of Sf102 ⟨by decide, by decide⟩) (g := (mkF m 35 #[.val (.long q0), .second, .val (.long q1), .second, .val (.long q2), .second, .val (.long q3), .second, .val (.long qf), .second, .val (.int p5), .val (.int (2 : Int32)), .val (.ref b37), .unset, .unset, .unset, .unset, .unset, .unset, .unset, .unset, .unset] [(.long qf), (.int (3 : Int32)), (.ref b37)])) rfl rfl (hb hby at_35)
    have V41 : Arv Z h41 b37 kc37 .long (7 : Int32) [(.long qf), (.long qf), (.long qf), (.long qf), (.long (0 : Int64)), (.long (0 : Int64)), (.long (0 : Int64))] (.long (0 : Int64)) := Arv.set Arf102 qf102 Sf102 Mf102 Hf102 Gf102 rfl W41 3 rfl (Nat.le_of_ble_eq_true rfl)
    have f104 := (f101).wr W41 gn_b37
    have K41 : Keep h0 h41 [] := (K40).wr W41 (Or.inr sz_b37)
    have Z41 : n0 ≤ h41.size := Nat.le_trans Z40 (Keep.of_wr W41).1
    have N41 := Fr.snoc X41 N40 gn_b37
    refine OG.of st41 ?_
    show OG _ _ _ _ _ _ _ (T41.setTop (mkF m 36 #[.val (.long q0), .second, .val (.long q1), .second, .val (.long q2), .second, .val (.long q3), .second, .val (.long qf), .second, .val (.int p5), .val (.int (2 : Int32)), .val (.ref b37), .unset, .unset, .unset, .unset, .unset, .unset, .unset, .unset, .unset] []))
    refine OG.of (A := T41.setTop (mkF m 41 #[.val (.long q0), .second, .val (.long q1), .second, .val (.long q2), .second, .val (.long q3), .second, .val (.long qf), .second, .val (.int p5), .val (.int (2 : Int32)), .val (.ref b37), .unset, .unset, .unset, .unset, .unset, .unset, .unset, .unset, .unset] [(.long qf), (.int (4 : Int32)), (.ref b37)])) (fun oT oK => ?_) ?_
    · show Steps p.tables e below (T41.setTop (mkF m 36 #[.val (.long q0), .second, .val (.long q1), .second, .val (.long q2), .second, .val (.long q3), .second, .val (.long qf), .second, .val (.int p5), .val (.int (2 : Int32)), .val (.ref b37), .unset, .unset, .unset, .unset, .unset, .unset, .unset, .unset, .unset] [])) oT
      refine XS.aload X41.here hx rfl (hb hby at_36) rfl rfl  ?_
      show Steps p.tables e below (T41.setTop (mkF m 38 #[.val (.long q0), .second, .val (.long q1), .second, .val (.long q2), .second, .val (.long q3), .second, .val (.long qf), .second, .val (.int p5), .val (.int (2 : Int32)), .val (.ref b37), .unset, .unset, .unset, .unset, .unset, .unset, .unset, .unset, .unset] [(.ref b37)])) _
      refine XS.iconst X41.here hx rfl (hb hby at_38) ?_
      show Steps p.tables e below (T41.setTop (mkF m 39 #[.val (.long q0), .second, .val (.long q1), .second, .val (.long q2), .second, .val (.long q3), .second, .val (.long qf), .second, .val (.int p5), .val (.int (2 : Int32)), .val (.ref b37), .unset, .unset, .unset, .unset, .unset, .unset, .unset, .unset, .unset] [(.int (4 : Int32)), (.ref b37)])) _
      refine XT.lload X41.here hx rfl (hb hby at_39) rfl  ?_
      exact oK
    show OG _ _ _ _ _ _ _ (T41.setTop (mkF m 41 #[.val (.long q0), .second, .val (.long q1), .second, .val (.long q2), .second, .val (.long q3), .second, .val (.long qf), .second, .val (.int p5), .val (.int (2 : Int32)), .val (.ref b37), .unset, .unset, .unset, .unset, .unset, .unset, .unset, .unset, .unset] [(.long qf), (.int (4 : Int32)), (.ref b37)]))
    have cf105 := V41
    obtain ⟨clf105, Arf105, qf105, Sf105, Mf105, Hf105, Gf105⟩ := cf105
    obtain ⟨T42, h42, X42, e42, W42, st42⟩ := stJ X41 hx hZ e41 Arf105 (j := (4 : Int32)) (inb_of Sf105 ⟨by decide, by decide⟩) (g := (mkF m 41 #[.val (.long q0), .second, .val (.long q1), .second, .val (.long q2), .second, .val (.long q3), .second, .val (.long qf), .second, .val (.int p5), .val (.int (2 : Int32)), .val (.ref b37), .unset, .unset, .unset, .unset, .unset, .unset, .unset, .unset, .unset] [(.long qf), (.int (4 : Int32)), (.ref b37)])) rfl rfl (hb hby at_41)
    have V42 : Arv Z h42 b37 kc37 .long (7 : Int32) [(.long qf), (.long qf), (.long qf), (.long qf), (.long qf), (.long (0 : Int64)), (.long (0 : Int64))] (.long (0 : Int64)) := Arv.set Arf105 qf105 Sf105 Mf105 Hf105 Gf105 rfl W42 4 rfl (Nat.le_of_ble_eq_true rfl)
    have f107 := (f104).wr W42 gn_b37
    have K42 : Keep h0 h42 [] := (K41).wr W42 (Or.inr sz_b37)
    have Z42 : n0 ≤ h42.size := Nat.le_trans Z41 (Keep.of_wr W42).1
    have N42 := Fr.snoc X42 N41 gn_b37
    refine OG.of st42 ?_
    show OG _ _ _ _ _ _ _ (T42.setTop (mkF m 42 #[.val (.long q0), .second, .val (.long q1), .second, .val (.long q2), .second, .val (.long q3), .second, .val (.long qf), .second, .val (.int p5), .val (.int (2 : Int32)), .val (.ref b37), .unset, .unset, .unset, .unset, .unset, .unset, .unset, .unset, .unset] []))
    refine OG.of (A := T42.setTop (mkF m 47 #[.val (.long q0), .second, .val (.long q1), .second, .val (.long q2), .second, .val (.long q3), .second, .val (.long qf), .second, .val (.int p5), .val (.int (2 : Int32)), .val (.ref b37), .unset, .unset, .unset, .unset, .unset, .unset, .unset, .unset, .unset] [(.long qf), (.int (5 : Int32)), (.ref b37)])) (fun oT oK => ?_) ?_
    · show Steps p.tables e below (T42.setTop (mkF m 42 #[.val (.long q0), .second, .val (.long q1), .second, .val (.long q2), .second, .val (.long q3), .second, .val (.long qf), .second, .val (.int p5), .val (.int (2 : Int32)), .val (.ref b37), .unset, .unset, .unset, .unset, .unset, .unset, .unset, .unset, .unset] [])) oT
      refine XS.aload X42.here hx rfl (hb hby at_42) rfl rfl  ?_
      show Steps p.tables e below (T42.setTop (mkF m 44 #[.val (.long q0), .second, .val (.long q1), .second, .val (.long q2), .second, .val (.long q3), .second, .val (.long qf), .second, .val (.int p5), .val (.int (2 : Int32)), .val (.ref b37), .unset, .unset, .unset, .unset, .unset, .unset, .unset, .unset, .unset] [(.ref b37)])) _
      refine XS.iconst X42.here hx rfl (hb hby at_44) ?_
      show Steps p.tables e below (T42.setTop (mkF m 45 #[.val (.long q0), .second, .val (.long q1), .second, .val (.long q2), .second, .val (.long q3), .second, .val (.long qf), .second, .val (.int p5), .val (.int (2 : Int32)), .val (.ref b37), .unset, .unset, .unset, .unset, .unset, .unset, .unset, .unset, .unset] [(.int (5 : Int32)), (.ref b37)])) _
      refine XT.lload X42.here hx rfl (hb hby at_45) rfl  ?_
      exact oK
    show OG _ _ _ _ _ _ _ (T42.setTop (mkF m 47 #[.val (.long q0), .second, .val (.long q1), .second, .val (.long q2), .second, .val (.long q3), .second, .val (.long qf), .second, .val (.int p5), .val (.int (2 : Int32)), .val (.ref b37), .unset, .unset, .unset, .unset, .unset, .unset, .unset, .unset, .unset] [(.long qf), (.int (5 : Int32)), (.ref b37)]))
    have cf108 := V42
    obtain ⟨clf108, Arf108, qf108, Sf108, Mf108, Hf108, Gf108⟩ := cf108
    obtain ⟨T43, h43, X43, e43, W43, st43⟩ := stJ X42 hx hZ e42 Arf108 (j := (5 : Int32)) (inb_of Sf108 ⟨by decide, by decide⟩) (g := (mkF m 47 #[.val (.long q0), .second, .val (.long q1), .second, .val (.long q2), .second, .val (.long q3), .second, .val (.long qf), .second, .val (.int p5), .val (.int (2 : Int32)), .val (.ref b37), .unset, .unset, .unset, .unset, .unset, .unset, .unset, .unset, .unset] [(.long qf), (.int (5 : Int32)), (.ref b37)])) rfl rfl (hb hby at_47)
    have V43 : Arv Z h43 b37 kc37 .long (7 : Int32) [(.long qf), (.long qf), (.long qf), (.long qf), (.long qf), (.long qf), (.long (0 : Int64))] (.long (0 : Int64)) := Arv.set Arf108 qf108 Sf108 Mf108 Hf108 Gf108 rfl W43 5 rfl (Nat.le_of_ble_eq_true rfl)
    have f110 := (f107).wr W43 gn_b37
    have K43 : Keep h0 h43 [] := (K42).wr W43 (Or.inr sz_b37)
    have Z43 : n0 ≤ h43.size := Nat.le_trans Z42 (Keep.of_wr W43).1
    have N43 := Fr.snoc X43 N42 gn_b37
    refine OG.of st43 ?_
    show OG _ _ _ _ _ _ _ (T43.setTop (mkF m 48 #[.val (.long q0), .second, .val (.long q1), .second, .val (.long q2), .second, .val (.long q3), .second, .val (.long qf), .second, .val (.int p5), .val (.int (2 : Int32)), .val (.ref b37), .unset, .unset, .unset, .unset, .unset, .unset, .unset, .unset, .unset] []))
    refine OG.of (A := T43.setTop (mkF m 54 #[.val (.long q0), .second, .val (.long q1), .second, .val (.long q2), .second, .val (.long q3), .second, .val (.long qf), .second, .val (.int p5), .val (.int (2 : Int32)), .val (.ref b37), .unset, .unset, .unset, .unset, .unset, .unset, .unset, .unset, .unset] [(.long qf), (.int (6 : Int32)), (.ref b37)])) (fun oT oK => ?_) ?_
    · show Steps p.tables e below (T43.setTop (mkF m 48 #[.val (.long q0), .second, .val (.long q1), .second, .val (.long q2), .second, .val (.long q3), .second, .val (.long qf), .second, .val (.int p5), .val (.int (2 : Int32)), .val (.ref b37), .unset, .unset, .unset, .unset, .unset, .unset, .unset, .unset, .unset] [])) oT
      refine XS.aload X43.here hx rfl (hb hby at_48) rfl rfl  ?_
      show Steps p.tables e below (T43.setTop (mkF m 50 #[.val (.long q0), .second, .val (.long q1), .second, .val (.long q2), .second, .val (.long q3), .second, .val (.long qf), .second, .val (.int p5), .val (.int (2 : Int32)), .val (.ref b37), .unset, .unset, .unset, .unset, .unset, .unset, .unset, .unset, .unset] [(.ref b37)])) _
      refine XS.bipush X43.here hx rfl (hb hby at_50) ?_
      show Steps p.tables e below (T43.setTop (mkF m 52 #[.val (.long q0), .second, .val (.long q1), .second, .val (.long q2), .second, .val (.long q3), .second, .val (.long qf), .second, .val (.int p5), .val (.int (2 : Int32)), .val (.ref b37), .unset, .unset, .unset, .unset, .unset, .unset, .unset, .unset, .unset] [(.int (6 : Int32)), (.ref b37)])) _
      refine XT.lload X43.here hx rfl (hb hby at_52) rfl  ?_
      exact oK
    show OG _ _ _ _ _ _ _ (T43.setTop (mkF m 54 #[.val (.long q0), .second, .val (.long q1), .second, .val (.long q2), .second, .val (.long q3), .second, .val (.long qf), .second, .val (.int p5), .val (.int (2 : Int32)), .val (.ref b37), .unset, .unset, .unset, .unset, .unset, .unset, .unset, .unset, .unset] [(.long qf), (.int (6 : Int32)), (.ref b37)]))
    have cf111 := V43
    obtain ⟨clf111, Arf111, qf111, Sf111, Mf111, Hf111, Gf111⟩ := cf111
    obtain ⟨T44, h44, X44, e44, W44, st44⟩ := stJ X43 hx hZ e43 Arf111 (j := (6 : Int32)) (inb_of Sf111 ⟨by decide, by decide⟩) (g := (mkF m 54 #[.val (.long q0), .second, .val (.long q1), .second, .val (.long q2), .second, .val (.long q3), .second, .val (.long qf), .second, .val (.int p5), .val (.int (2 : Int32)), .val (.ref b37), .unset, .unset, .unset, .unset, .unset, .unset, .unset, .unset, .unset] [(.long qf), (.int (6 : Int32)), (.ref b37)])) rfl rfl (hb hby at_54)
    have V44 : Arv Z h44 b37 kc37 .long (7 : Int32) [(.long qf), (.long qf), (.long qf), (.long qf), (.long qf), (.long qf), (.long qf)] (.long (0 : Int64)) := Arv.set Arf111 qf111 Sf111 Mf111 Hf111 Gf111 rfl W44 6 rfl (Nat.le_of_ble_eq_true rfl)
    have f113 := (f110).wr W44 gn_b37
    have K44 : Keep h0 h44 [] := (K43).wr W44 (Or.inr sz_b37)
    have Z44 : n0 ≤ h44.size := Nat.le_trans Z43 (Keep.of_wr W44).1
    have N44 := Fr.snoc X44 N43 gn_b37
    refine OG.of st44 ?_
    show OG _ _ _ _ _ _ _ (T44.setTop (mkF m 55 #[.val (.long q0), .second, .val (.long q1), .second, .val (.long q2), .second, .val (.long q3), .second, .val (.long qf), .second, .val (.int p5), .val (.int (2 : Int32)), .val (.ref b37), .unset, .unset, .unset, .unset, .unset, .unset, .unset, .unset, .unset] []))
    refine OG.of (A := T44.setTop (mkF m 60 #[.val (.long q0), .second, .val (.long q1), .second, .val (.long q2), .second, .val (.long q3), .second, .val (.long qf), .second, .val (.int p5), .val (.int (2 : Int32)), .val (.ref b37), .unset, .unset, .unset, .unset, .unset, .unset, .unset, .unset, .unset] [(.long q0), (.int (2 : Int32)), (.ref b37)])) (fun oT oK => ?_) ?_
    · show Steps p.tables e below (T44.setTop (mkF m 55 #[.val (.long q0), .second, .val (.long q1), .second, .val (.long q2), .second, .val (.long q3), .second, .val (.long qf), .second, .val (.int p5), .val (.int (2 : Int32)), .val (.ref b37), .unset, .unset, .unset, .unset, .unset, .unset, .unset, .unset, .unset] [])) oT
      refine XS.aload X44.here hx rfl (hb hby at_55) rfl rfl  ?_
      show Steps p.tables e below (T44.setTop (mkF m 57 #[.val (.long q0), .second, .val (.long q1), .second, .val (.long q2), .second, .val (.long q3), .second, .val (.long qf), .second, .val (.int p5), .val (.int (2 : Int32)), .val (.ref b37), .unset, .unset, .unset, .unset, .unset, .unset, .unset, .unset, .unset] [(.ref b37)])) _
      refine XS.iload X44.here hx rfl (hb hby at_57) rfl  ?_
      show Steps p.tables e below (T44.setTop (mkF m 59 #[.val (.long q0), .second, .val (.long q1), .second, .val (.long q2), .second, .val (.long q3), .second, .val (.long qf), .second, .val (.int p5), .val (.int (2 : Int32)), .val (.ref b37), .unset, .unset, .unset, .unset, .unset, .unset, .unset, .unset, .unset] [(.int (2 : Int32)), (.ref b37)])) _
      refine XT.lloadN X44.here hx rfl (hb hby at_59) rfl  ?_
      exact oK
    show OG _ _ _ _ _ _ _ (T44.setTop (mkF m 60 #[.val (.long q0), .second, .val (.long q1), .second, .val (.long q2), .second, .val (.long q3), .second, .val (.long qf), .second, .val (.int p5), .val (.int (2 : Int32)), .val (.ref b37), .unset, .unset, .unset, .unset, .unset, .unset, .unset, .unset, .unset] [(.long q0), (.int (2 : Int32)), (.ref b37)]))
    have cf114 := V44
    obtain ⟨clf114, Arf114, qf114, Sf114, Mf114, Hf114, Gf114⟩ := cf114
    obtain ⟨T45, h45, X45, e45, W45, st45⟩ := stJ X44 hx hZ e44 Arf114 (j := (2 : Int32)) (inb_of Sf114 ⟨by decide, by decide⟩) (g := (mkF m 60 #[.val (.long q0), .second, .val (.long q1), .second, .val (.long q2), .second, .val (.long q3), .second, .val (.long qf), .second, .val (.int p5), .val (.int (2 : Int32)), .val (.ref b37), .unset, .unset, .unset, .unset, .unset, .unset, .unset, .unset, .unset] [(.long q0), (.int (2 : Int32)), (.ref b37)])) rfl rfl (hb hby at_60)
    have V45 : Arv Z h45 b37 kc37 .long (7 : Int32) [(.long qf), (.long qf), (.long q0), (.long qf), (.long qf), (.long qf), (.long qf)] (.long (0 : Int64)) := Arv.set Arf114 qf114 Sf114 Mf114 Hf114 Gf114 rfl W45 2 rfl (Nat.le_of_ble_eq_true rfl)
    have f116 := (f113).wr W45 gn_b37
    have K45 : Keep h0 h45 [] := (K44).wr W45 (Or.inr sz_b37)
    have Z45 : n0 ≤ h45.size := Nat.le_trans Z44 (Keep.of_wr W45).1
    have N45 := Fr.snoc X45 N44 gn_b37
    refine OG.of st45 ?_
    show OG _ _ _ _ _ _ _ (T45.setTop (mkF m 61 #[.val (.long q0), .second, .val (.long q1), .second, .val (.long q2), .second, .val (.long q3), .second, .val (.long qf), .second, .val (.int p5), .val (.int (2 : Int32)), .val (.ref b37), .unset, .unset, .unset, .unset, .unset, .unset, .unset, .unset, .unset] []))
    refine OG.of (A := T45.setTop (mkF m 68 #[.val (.long q0), .second, .val (.long q1), .second, .val (.long q2), .second, .val (.long q3), .second, .val (.long qf), .second, .val (.int p5), .val (.int (2 : Int32)), .val (.ref b37), .unset, .unset, .unset, .unset, .unset, .unset, .unset, .unset, .unset] [(.long q1), (.int (3 : Int32)), (.ref b37)])) (fun oT oK => ?_) ?_
    · show Steps p.tables e below (T45.setTop (mkF m 61 #[.val (.long q0), .second, .val (.long q1), .second, .val (.long q2), .second, .val (.long q3), .second, .val (.long qf), .second, .val (.int p5), .val (.int (2 : Int32)), .val (.ref b37), .unset, .unset, .unset, .unset, .unset, .unset, .unset, .unset, .unset] [])) oT
      refine XS.aload X45.here hx rfl (hb hby at_61) rfl rfl  ?_
      show Steps p.tables e below (T45.setTop (mkF m 63 #[.val (.long q0), .second, .val (.long q1), .second, .val (.long q2), .second, .val (.long q3), .second, .val (.long qf), .second, .val (.int p5), .val (.int (2 : Int32)), .val (.ref b37), .unset, .unset, .unset, .unset, .unset, .unset, .unset, .unset, .unset] [(.ref b37)])) _
      refine XS.iload X45.here hx rfl (hb hby at_63) rfl  ?_
      show Steps p.tables e below (T45.setTop (mkF m 65 #[.val (.long q0), .second, .val (.long q1), .second, .val (.long q2), .second, .val (.long q3), .second, .val (.long qf), .second, .val (.int p5), .val (.int (2 : Int32)), .val (.ref b37), .unset, .unset, .unset, .unset, .unset, .unset, .unset, .unset, .unset] [(.int (2 : Int32)), (.ref b37)])) _
      refine XS.iconst X45.here hx rfl (hb hby at_65) ?_
      show Steps p.tables e below (T45.setTop (mkF m 66 #[.val (.long q0), .second, .val (.long q1), .second, .val (.long q2), .second, .val (.long q3), .second, .val (.long qf), .second, .val (.int p5), .val (.int (2 : Int32)), .val (.ref b37), .unset, .unset, .unset, .unset, .unset, .unset, .unset, .unset, .unset] [(.int (1 : Int32)), (.int (2 : Int32)), (.ref b37)])) _
      refine XS.iadd X45.here hx rfl (hb hby at_66) rfl ?_
      show Steps p.tables e below (T45.setTop (mkF m 67 #[.val (.long q0), .second, .val (.long q1), .second, .val (.long q2), .second, .val (.long q3), .second, .val (.long qf), .second, .val (.int p5), .val (.int (2 : Int32)), .val (.ref b37), .unset, .unset, .unset, .unset, .unset, .unset, .unset, .unset, .unset] [(.int (3 : Int32)), (.ref b37)])) _
      refine XT.lloadN X45.here hx rfl (hb hby at_67) rfl  ?_
      exact oK
    show OG _ _ _ _ _ _ _ (T45.setTop (mkF m 68 #[.val (.long q0), .second, .val (.long q1), .second, .val (.long q2), .second, .val (.long q3), .second, .val (.long qf), .second, .val (.int p5), .val (.int (2 : Int32)), .val (.ref b37), .unset, .unset, .unset, .unset, .unset, .unset, .unset, .unset, .unset] [(.long q1), (.int (3 : Int32)), (.ref b37)]))
    have cf117 := V45
    obtain ⟨clf117, Arf117, qf117, Sf117, Mf117, Hf117, Gf117⟩ := cf117
    obtain ⟨T46, h46, X46, e46, W46, st46⟩ := stJ X45 hx hZ e45 Arf117 (j := (3 : Int32)) (inb_of Sf117 ⟨by decide, by decide⟩) (g := (mkF m 68 #[.val (.long q0), .second, .val (.long q1), .second, .val (.long q2), .second, .val (.long q3), .second, .val (.long qf), .second, .val (.int p5), .val (.int (2 : Int32)), .val (.ref b37), .unset, .unset, .unset, .unset, .unset, .unset, .unset, .unset, .unset] [(.long q1), (.int (3 : Int32)), (.ref b37)])) rfl rfl (hb hby at_68)
    have V46 : Arv Z h46 b37 kc37 .long (7 : Int32) [(.long qf), (.long qf), (.long q0), (.long q1), (.long qf), (.long qf), (.long qf)] (.long (0 : Int64)) := Arv.set Arf117 qf117 Sf117 Mf117 Hf117 Gf117 rfl W46 3 rfl (Nat.le_of_ble_eq_true rfl)
    have f119 := (f116).wr W46 gn_b37
    have K46 : Keep h0 h46 [] := (K45).wr W46 (Or.inr sz_b37)
    have Z46 : n0 ≤ h46.size := Nat.le_trans Z45 (Keep.of_wr W46).1
    have N46 := Fr.snoc X46 N45 gn_b37
    refine OG.of st46 ?_
    show OG _ _ _ _ _ _ _ (T46.setTop (mkF m 69 #[.val (.long q0), .second, .val (.long q1), .second, .val (.long q2), .second, .val (.long q3), .second, .val (.long qf), .second, .val (.int p5), .val (.int (2 : Int32)), .val (.ref b37), .unset, .unset, .unset, .unset, .unset, .unset, .unset, .unset, .unset] []))
    refine OG.of (A := T46.setTop (mkF m 77 #[.val (.long q0), .second, .val (.long q1), .second, .val (.long q2), .second, .val (.long q3), .second, .val (.long qf), .second, .val (.int p5), .val (.int (2 : Int32)), .val (.ref b37), .unset, .unset, .unset, .unset, .unset, .unset, .unset, .unset, .unset] [(.long q2), (.int (4 : Int32)), (.ref b37)])) (fun oT oK => ?_) ?_
    · show Steps p.tables e below (T46.setTop (mkF m 69 #[.val (.long q0), .second, .val (.long q1), .second, .val (.long q2), .second, .val (.long q3), .second, .val (.long qf), .second, .val (.int p5), .val (.int (2 : Int32)), .val (.ref b37), .unset, .unset, .unset, .unset, .unset, .unset, .unset, .unset, .unset] [])) oT
      refine XS.aload X46.here hx rfl (hb hby at_69) rfl rfl  ?_
      show Steps p.tables e below (T46.setTop (mkF m 71 #[.val (.long q0), .second, .val (.long q1), .second, .val (.long q2), .second, .val (.long q3), .second, .val (.long qf), .second, .val (.int p5), .val (.int (2 : Int32)), .val (.ref b37), .unset, .unset, .unset, .unset, .unset, .unset, .unset, .unset, .unset] [(.ref b37)])) _
      refine XS.iload X46.here hx rfl (hb hby at_71) rfl  ?_
      show Steps p.tables e below (T46.setTop (mkF m 73 #[.val (.long q0), .second, .val (.long q1), .second, .val (.long q2), .second, .val (.long q3), .second, .val (.long qf), .second, .val (.int p5), .val (.int (2 : Int32)), .val (.ref b37), .unset, .unset, .unset, .unset, .unset, .unset, .unset, .unset, .unset] [(.int (2 : Int32)), (.ref b37)])) _
      refine XS.iconst X46.here hx rfl (hb hby at_73) ?_
      show Steps p.tables e below (T46.setTop (mkF m 74 #[.val (.long q0), .second, .val (.long q1), .second, .val (.long q2), .second, .val (.long q3), .second, .val (.long qf), .second, .val (.int p5), .val (.int (2 : Int32)), .val (.ref b37), .unset, .unset, .unset, .unset, .unset, .unset, .unset, .unset, .unset] [(.int (2 : Int32)), (.int (2 : Int32)), (.ref b37)])) _
      refine XS.iadd X46.here hx rfl (hb hby at_74) rfl ?_
      show Steps p.tables e below (T46.setTop (mkF m 75 #[.val (.long q0), .second, .val (.long q1), .second, .val (.long q2), .second, .val (.long q3), .second, .val (.long qf), .second, .val (.int p5), .val (.int (2 : Int32)), .val (.ref b37), .unset, .unset, .unset, .unset, .unset, .unset, .unset, .unset, .unset] [(.int (4 : Int32)), (.ref b37)])) _
      refine XT.lload X46.here hx rfl (hb hby at_75) rfl  ?_
      exact oK
    show OG _ _ _ _ _ _ _ (T46.setTop (mkF m 77 #[.val (.long q0), .second, .val (.long q1), .second, .val (.long q2), .second, .val (.long q3), .second, .val (.long qf), .second, .val (.int p5), .val (.int (2 : Int32)), .val (.ref b37), .unset, .unset, .unset, .unset, .unset, .unset, .unset, .unset, .unset] [(.long q2), (.int (4 : Int32)), (.ref b37)]))
    have cf120 := V46
    obtain ⟨clf120, Arf120, qf120, Sf120, Mf120, Hf120, Gf120⟩ := cf120
    obtain ⟨T47, h47, X47, e47, W47, st47⟩ := stJ X46 hx hZ e46 Arf120 (j := (4 : Int32)) (inb_of Sf120 ⟨by decide, by decide⟩) (g := (mkF m 77 #[.val (.long q0), .second, .val (.long q1), .second, .val (.long q2), .second, .val (.long q3), .second, .val (.long qf), .second, .val (.int p5), .val (.int (2 : Int32)), .val (.ref b37), .unset, .unset, .unset, .unset, .unset, .unset, .unset, .unset, .unset] [(.long q2), (.int (4 : Int32)), (.ref b37)])) rfl rfl (hb hby at_77)
    have V47 : Arv Z h47 b37 kc37 .long (7 : Int32) [(.long qf), (.long qf), (.long q0), (.long q1), (.long q2), (.long qf), (.long qf)] (.long (0 : Int64)) := Arv.set Arf120 qf120 Sf120 Mf120 Hf120 Gf120 rfl W47 4 rfl (Nat.le_of_ble_eq_true rfl)
    have f122 := (f119).wr W47 gn_b37
    have K47 : Keep h0 h47 [] := (K46).wr W47 (Or.inr sz_b37)
    have Z47 : n0 ≤ h47.size := Nat.le_trans Z46 (Keep.of_wr W47).1
    have N47 := Fr.snoc X47 N46 gn_b37
    refine OG.of st47 ?_
    show OG _ _ _ _ _ _ _ (T47.setTop (mkF m 78 #[.val (.long q0), .second, .val (.long q1), .second, .val (.long q2), .second, .val (.long q3), .second, .val (.long qf), .second, .val (.int p5), .val (.int (2 : Int32)), .val (.ref b37), .unset, .unset, .unset, .unset, .unset, .unset, .unset, .unset, .unset] []))
    refine OG.of (A := T47.setTop (mkF m 86 #[.val (.long q0), .second, .val (.long q1), .second, .val (.long q2), .second, .val (.long q3), .second, .val (.long qf), .second, .val (.int p5), .val (.int (2 : Int32)), .val (.ref b37), .unset, .unset, .unset, .unset, .unset, .unset, .unset, .unset, .unset] [(.long q3), (.int (5 : Int32)), (.ref b37)])) (fun oT oK => ?_) ?_
    · show Steps p.tables e below (T47.setTop (mkF m 78 #[.val (.long q0), .second, .val (.long q1), .second, .val (.long q2), .second, .val (.long q3), .second, .val (.long qf), .second, .val (.int p5), .val (.int (2 : Int32)), .val (.ref b37), .unset, .unset, .unset, .unset, .unset, .unset, .unset, .unset, .unset] [])) oT
      refine XS.aload X47.here hx rfl (hb hby at_78) rfl rfl  ?_
      show Steps p.tables e below (T47.setTop (mkF m 80 #[.val (.long q0), .second, .val (.long q1), .second, .val (.long q2), .second, .val (.long q3), .second, .val (.long qf), .second, .val (.int p5), .val (.int (2 : Int32)), .val (.ref b37), .unset, .unset, .unset, .unset, .unset, .unset, .unset, .unset, .unset] [(.ref b37)])) _
      refine XS.iload X47.here hx rfl (hb hby at_80) rfl  ?_
      show Steps p.tables e below (T47.setTop (mkF m 82 #[.val (.long q0), .second, .val (.long q1), .second, .val (.long q2), .second, .val (.long q3), .second, .val (.long qf), .second, .val (.int p5), .val (.int (2 : Int32)), .val (.ref b37), .unset, .unset, .unset, .unset, .unset, .unset, .unset, .unset, .unset] [(.int (2 : Int32)), (.ref b37)])) _
      refine XS.iconst X47.here hx rfl (hb hby at_82) ?_
      show Steps p.tables e below (T47.setTop (mkF m 83 #[.val (.long q0), .second, .val (.long q1), .second, .val (.long q2), .second, .val (.long q3), .second, .val (.long qf), .second, .val (.int p5), .val (.int (2 : Int32)), .val (.ref b37), .unset, .unset, .unset, .unset, .unset, .unset, .unset, .unset, .unset] [(.int (3 : Int32)), (.int (2 : Int32)), (.ref b37)])) _
      refine XS.iadd X47.here hx rfl (hb hby at_83) rfl ?_
      show Steps p.tables e below (T47.setTop (mkF m 84 #[.val (.long q0), .second, .val (.long q1), .second, .val (.long q2), .second, .val (.long q3), .second, .val (.long qf), .second, .val (.int p5), .val (.int (2 : Int32)), .val (.ref b37), .unset, .unset, .unset, .unset, .unset, .unset, .unset, .unset, .unset] [(.int (5 : Int32)), (.ref b37)])) _
      refine XT.lload X47.here hx rfl (hb hby at_84) rfl  ?_
      exact oK
    show OG _ _ _ _ _ _ _ (T47.setTop (mkF m 86 #[.val (.long q0), .second, .val (.long q1), .second, .val (.long q2), .second, .val (.long q3), .second, .val (.long qf), .second, .val (.int p5), .val (.int (2 : Int32)), .val (.ref b37), .unset, .unset, .unset, .unset, .unset, .unset, .unset, .unset, .unset] [(.long q3), (.int (5 : Int32)), (.ref b37)]))
    have cf123 := V47
    obtain ⟨clf123, Arf123, qf123, Sf123, Mf123, Hf123, Gf123⟩ := cf123
    obtain ⟨T48, h48, X48, e48, W48, st48⟩ := stJ X47 hx hZ e47 Arf123 (j := (5 : Int32)) (inb_of Sf123 ⟨by decide, by decide⟩) (g := (mkF m 86 #[.val (.long q0), .second, .val (.long q1), .second, .val (.long q2), .second, .val (.long q3), .second, .val (.long qf), .second, .val (.int p5), .val (.int (2 : Int32)), .val (.ref b37), .unset, .unset, .unset, .unset, .unset, .unset, .unset, .unset, .unset] [(.long q3), (.int (5 : Int32)), (.ref b37)])) rfl rfl (hb hby at_86)
    have V48 : Arv Z h48 b37 kc37 .long (7 : Int32) [(.long qf), (.long qf), (.long q0), (.long q1), (.long q2), (.long q3), (.long qf)] (.long (0 : Int64)) := Arv.set Arf123 qf123 Sf123 Mf123 Hf123 Gf123 rfl W48 5 rfl (Nat.le_of_ble_eq_true rfl)
    have f125 := (f122).wr W48 gn_b37
    have K48 : Keep h0 h48 [] := (K47).wr W48 (Or.inr sz_b37)
    have Z48 : n0 ≤ h48.size := Nat.le_trans Z47 (Keep.of_wr W48).1
    have N48 := Fr.snoc X48 N47 gn_b37
    refine OG.of st48 ?_
    show OG _ _ _ _ _ _ _ (T48.setTop (mkF m 87 #[.val (.long q0), .second, .val (.long q1), .second, .val (.long q2), .second, .val (.long q3), .second, .val (.long qf), .second, .val (.int p5), .val (.int (2 : Int32)), .val (.ref b37), .unset, .unset, .unset, .unset, .unset, .unset, .unset, .unset, .unset] []))
    refine OG.of (A := T48.setTop (mkF m 91 #[.val (.long q0), .second, .val (.long q1), .second, .val (.long q2), .second, .val (.long q3), .second, .val (.long qf), .second, .val (.int p5), .val (.int (2 : Int32)), .val (.ref b37), .unset, .unset, .unset, .unset, .unset, .unset, .unset, .unset, .unset] [(.int (2 : Int32)), (.ref b37)])) (fun oT oK => ?_) ?_
    · show Steps p.tables e below (T48.setTop (mkF m 87 #[.val (.long q0), .second, .val (.long q1), .second, .val (.long q2), .second, .val (.long q3), .second, .val (.long qf), .second, .val (.int p5), .val (.int (2 : Int32)), .val (.ref b37), .unset, .unset, .unset, .unset, .unset, .unset, .unset, .unset, .unset] [])) oT
      refine XS.aload X48.here hx rfl (hb hby at_87) rfl rfl  ?_
      show Steps p.tables e below (T48.setTop (mkF m 89 #[.val (.long q0), .second, .val (.long q1), .second, .val (.long q2), .second, .val (.long q3), .second, .val (.long qf), .second, .val (.int p5), .val (.int (2 : Int32)), .val (.ref b37), .unset, .unset, .unset, .unset, .unset, .unset, .unset, .unset, .unset] [(.ref b37)])) _
      refine XS.iload X48.here hx rfl (hb hby at_89) rfl  ?_
      exact oK
    show OG _ _ _ _ _ _ _ (T48.setTop (mkF m 91 #[.val (.long q0), .second, .val (.long q1), .second, .val (.long q2), .second, .val (.long q3), .second, .val (.long qf), .second, .val (.int p5), .val (.int (2 : Int32)), .val (.ref b37), .unset, .unset, .unset, .unset, .unset, .unset, .unset, .unset, .unset] [(.int (2 : Int32)), (.ref b37)]))
    obtain ⟨_, _, ⟨T49, L49, k49, n49⟩, -, X49, ⟨Lc49, hQ49, l49, y49, z49⟩, st49⟩ := Jvm.LawKit.callS X48 hx (y := (⟨"com/example/gate_to_gate/gatetogate/io/Field25519", "fromWords", "([JI)[J"⟩ : MethodName)) hown (mvT hZ (hw _ (List.mem_of_getElem? (i := 1) rfl))) (mvT hZ (hw _ (List.mem_of_getElem? (i := 2) rfl))) (mvT hZ (hw _ (List.mem_of_getElem? (i := 3) rfl))) (mvT hZ (hw _ (List.mem_of_getElem? (i := 4) rfl))) (by decide) (backOf (W := 0) (rmF l Z a0 hw [] b37 (2 : Int32) q0 q1 q2 q3 wP wB h48 n0 (Z48) f125 SP SB TP TB (own_rd V48 ⟨by decide, by decide⟩ rfl) (own_rd V48 ⟨by decide, by decide⟩ rfl) (own_rd V48 ⟨by decide, by decide⟩ rfl) (own_rd V48 ⟨by decide, by decide⟩ rfl) (own_rd V48 ⟨by decide, by decide⟩ rfl) (own_rd V48 ⟨by decide, by decide⟩ rfl)) hZ (hw _ (List.mem_of_getElem? (i := 4) rfl)) (hw _ (List.mem_of_getElem? (i := 3) rfl)) (by decide) (by decide)) (g := (mkF m 91 #[.val (.long q0), .second, .val (.long q1), .second, .val (.long q2), .second, .val (.long q3), .second, .val (.long qf), .second, .val (.int p5), .val (.int (2 : Int32)), .val (.ref b37), .unset, .unset, .unset, .unset, .unset, .unset, .unset, .unset, .unset] [(.int (2 : Int32)), (.ref b37)])) rfl (by rw [hml]; rfl) (argsL := [(.ref b37), (.int (2 : Int32))]) (rest := []) (lenOf pd___JI__J rfl) rfl (by show 2 * 0 + _ ≤ _; exact Nat.le_of_eq rfl) (hb hby at_91) (fun _ _ => ⟨rfl, e48, (by decide : 1 + 1 ≤ _), (by decide : 7 + 10 ≤ _)⟩)
    dsimp only [Pt.U, Pt.locs, Pt.cells, Pt.slots] at X49 l49 y49 z49 st49 hQ49
    subst l49 y49 z49
    obtain ⟨b, kc, rfl, N49q, Kc49, -, V49⟩ := hQ49
    have N49 := Fr.app N48 N49q
    have Z49 : n0 ≤ T49.heap.size := Nat.le_trans Z48 Kc49.1
    refine OG.of st49 ?_
    exact own_tail q0 q1 q2 q3 qf p5 (2 : Int32) b37 b kc X49 hx hZ hw hby hml hown hlk Bd.returns rfl N49 Z49 V49
  | 3, _, eo =>
    rw [show (p5 &&& (3 : Int32)) = (3 : Int32) from eo]
    show OG _ _ _ _ _ _ _ (s₁.setTop (mkF m 6 #[.val (.long q0), .second, .val (.long q1), .second, .val (.long q2), .second, .val (.long q3), .second, .val (.long qf), .second, .val (.int p5), .val (.int (3 : Int32)), .unset, .unset, .unset, .unset, .unset, .unset, .unset, .unset, .unset, .unset] []))
    refine OG.of (A := s₁.setTop (mkF m 8 #[.val (.long q0), .second, .val (.long q1), .second, .val (.long q2), .second, .val (.long q3), .second, .val (.long qf), .second, .val (.int p5), .val (.int (3 : Int32)), .unset, .unset, .unset, .unset, .unset, .unset, .unset, .unset, .unset, .unset] [(.int (7 : Int32))])) (fun oT oK => ?_) ?_
    · show Steps p.tables e below (s₁.setTop (mkF m 6 #[.val (.long q0), .second, .val (.long q1), .second, .val (.long q2), .second, .val (.long q3), .second, .val (.long qf), .second, .val (.int p5), .val (.int (3 : Int32)), .unset, .unset, .unset, .unset, .unset, .unset, .unset, .unset, .unset, .unset] [])) oT
      refine XS.bipush X0.here hx rfl (hb hby at_6) ?_
      exact oK
    show OG _ _ _ _ _ _ _ (s₁.setTop (mkF m 8 #[.val (.long q0), .second, .val (.long q1), .second, .val (.long q2), .second, .val (.long q3), .second, .val (.long qf), .second, .val (.int p5), .val (.int (3 : Int32)), .unset, .unset, .unset, .unset, .unset, .unset, .unset, .unset, .unset, .unset] [(.int (7 : Int32))]))
    obtain ⟨T50, h50, kc50, X50, e50, E50, A50, st50⟩ := newP X0 hx hZ (hw _ (List.mem_of_getElem? (i := 0) rfl)) e0 (g := (mkF m 8 #[.val (.long q0), .second, .val (.long q1), .second, .val (.long q2), .second, .val (.long q3), .second, .val (.long qf), .second, .val (.int p5), .val (.int (3 : Int32)), .unset, .unset, .unset, .unset, .unset, .unset, .unset, .unset, .unset, .unset] [(.int (7 : Int32))])) rfl (hb hby at_8) rfl (by decide) (cap := 7) (by decide) (by decide) (by decide) (by decide)
    obtain ⟨b50, g50⟩ : ∃ z, z = (h0).size := ⟨_, rfl⟩
    have gn_b50 : n0 ≤ b50 := Nat.le_trans Z0 (Nat.le_of_eq g50.symm)
    have sz_b50 : h0.size ≤ b50 := Nat.le_trans (Keep.refl h0 []).1 (Nat.le_of_eq g50.symm)
    rw [← g50] at A50 st50
    have f126 := (hO).ext E50
    have K50 : Keep h0 h50 [] := (Keep.refl h0 []).ext E50
    have Z50 : n0 ≤ h50.size := Nat.le_trans Z0 E50.1
    have V50 : Arv Z h50 b50 kc50 .long (7 : Int32) [(.long (0 : Int64)), (.long (0 : Int64)), (.long (0 : Int64)), (.long (0 : Int64)), (.long (0 : Int64)), (.long (0 : Int64)), (.long (0 : Int64))] (.long (0 : Int64)) := (Arv.new A50 (by decide)).pad (pad_rep [] (.long (0 : Int64)) 7)
    refine OG.of st50 ?_
    show OG _ _ _ _ _ _ _ (T50.setTop (mkF m 10 #[.val (.long q0), .second, .val (.long q1), .second, .val (.long q2), .second, .val (.long q3), .second, .val (.long qf), .second, .val (.int p5), .val (.int (3 : Int32)), .unset, .unset, .unset, .unset, .unset, .unset, .unset, .unset, .unset, .unset] [(.ref b50)]))
    refine OG.of (A := T50.setTop (mkF m 17 #[.val (.long q0), .second, .val (.long q1), .second, .val (.long q2), .second, .val (.long q3), .second, .val (.long qf), .second, .val (.int p5), .val (.int (3 : Int32)), .val (.ref b50), .unset, .unset, .unset, .unset, .unset, .unset, .unset, .unset, .unset] [(.long qf), (.int (0 : Int32)), (.ref b50)])) (fun oT oK => ?_) ?_
    · show Steps p.tables e below (T50.setTop (mkF m 10 #[.val (.long q0), .second, .val (.long q1), .second, .val (.long q2), .second, .val (.long q3), .second, .val (.long qf), .second, .val (.int p5), .val (.int (3 : Int32)), .unset, .unset, .unset, .unset, .unset, .unset, .unset, .unset, .unset, .unset] [(.ref b50)])) oT
      refine XS.astore X50.here hx rfl (hb hby at_10) rfl rfl (l' := #[.val (.long q0), .second, .val (.long q1), .second, .val (.long q2), .second, .val (.long q3), .second, .val (.long qf), .second, .val (.int p5), .val (.int (3 : Int32)), .val (.ref b50), .unset, .unset, .unset, .unset, .unset, .unset, .unset, .unset, .unset]) rfl ?_
      show Steps p.tables e below (T50.setTop (mkF m 12 #[.val (.long q0), .second, .val (.long q1), .second, .val (.long q2), .second, .val (.long q3), .second, .val (.long qf), .second, .val (.int p5), .val (.int (3 : Int32)), .val (.ref b50), .unset, .unset, .unset, .unset, .unset, .unset, .unset, .unset, .unset] [])) _
      refine XS.aload X50.here hx rfl (hb hby at_12) rfl rfl  ?_
      show Steps p.tables e below (T50.setTop (mkF m 14 #[.val (.long q0), .second, .val (.long q1), .second, .val (.long q2), .second, .val (.long q3), .second, .val (.long qf), .second, .val (.int p5), .val (.int (3 : Int32)), .val (.ref b50), .unset, .unset, .unset, .unset, .unset, .unset, .unset, .unset, .unset] [(.ref b50)])) _
      refine XS.iconst X50.here hx rfl (hb hby at_14) ?_
      show Steps p.tables e below (T50.setTop (mkF m 15 #[.val (.long q0), .second, .val (.long q1), .second, .val (.long q2), .second, .val (.long q3), .second, .val (.long qf), .second, .val (.int p5), .val (.int (3 : Int32)), .val (.ref b50), .unset, .unset, .unset, .unset, .unset, .unset, .unset, .unset, .unset] [(.int (0 : Int32)), (.ref b50)])) _
      refine XT.lload X50.here hx rfl (hb hby at_15) rfl  ?_
      exact oK
    show OG _ _ _ _ _ _ _ (T50.setTop (mkF m 17 #[.val (.long q0), .second, .val (.long q1), .second, .val (.long q2), .second, .val (.long q3), .second, .val (.long qf), .second, .val (.int p5), .val (.int (3 : Int32)), .val (.ref b50), .unset, .unset, .unset, .unset, .unset, .unset, .unset, .unset, .unset] [(.long qf), (.int (0 : Int32)), (.ref b50)]))
    have cf127 := V50
    obtain ⟨clf127, Arf127, qf127, Sf127, Mf127, Hf127, Gf127⟩ := cf127
    obtain ⟨T51, h51, X51, e51, W51, st51⟩ := stJ X50 hx hZ e50 Arf127 (j := (0 : Int32)) (inb_of Sf127 ⟨by decide, by decide⟩) (g := (mkF m 17 #[.val (.long q0), .second, .val (.long q1), .second, .val (.long q2), .second, .val (.long q3), .second, .val (.long qf), .second, .val (.int p5), .val (.int (3 : Int32)), .val (.ref b50), .unset, .unset, .unset, .unset, .unset, .unset, .unset, .unset, .unset] [(.long qf), (.int (0 : Int32)), (.ref b50)])) rfl rfl (hb hby at_17)
    have V51 : Arv Z h51 b50 kc50 .long (7 : Int32) [(.long qf), (.long (0 : Int64)), (.long (0 : Int64)), (.long (0 : Int64)), (.long (0 : Int64)), (.long (0 : Int64)), (.long (0 : Int64))] (.long (0 : Int64)) := Arv.set Arf127 qf127 Sf127 Mf127 Hf127 Gf127 rfl W51 0 rfl (Nat.le_of_ble_eq_true rfl)
    have f129 := (f126).wr W51 gn_b50
    have K51 : Keep h0 h51 [] := (K50).wr W51 (Or.inr sz_b50)
    have Z51 : n0 ≤ h51.size := Nat.le_trans Z50 (Keep.of_wr W51).1
    have N51 := Fr.snoc X51 N0 gn_b50
    refine OG.of st51 ?_
    show OG _ _ _ _ _ _ _ (T51.setTop (mkF m 18 #[.val (.long q0), .second, .val (.long q1), .second, .val (.long q2), .second, .val (.long q3), .second, .val (.long qf), .second, .val (.int p5), .val (.int (3 : Int32)), .val (.ref b50), .unset, .unset, .unset, .unset, .unset, .unset, .unset, .unset, .unset] []))
    refine OG.of (A := T51.setTop (mkF m 23 #[.val (.long q0), .second, .val (.long q1), .second, .val (.long q2), .second, .val (.long q3), .second, .val (.long qf), .second, .val (.int p5), .val (.int (3 : Int32)), .val (.ref b50), .unset, .unset, .unset, .unset, .unset, .unset, .unset, .unset, .unset] [(.long qf), (.int (1 : Int32)), (.ref b50)])) (fun oT oK => ?_) ?_
    · show Steps p.tables e below (T51.setTop (mkF m 18 #[.val (.long q0), .second, .val (.long q1), .second, .val (.long q2), .second, .val (.long q3), .second, .val (.long qf), .second, .val (.int p5), .val (.int (3 : Int32)), .val (.ref b50), .unset, .unset, .unset, .unset, .unset, .unset, .unset, .unset, .unset] [])) oT
      refine XS.aload X51.here hx rfl (hb hby at_18) rfl rfl  ?_
      show Steps p.tables e below (T51.setTop (mkF m 20 #[.val (.long q0), .second, .val (.long q1), .second, .val (.long q2), .second, .val (.long q3), .second, .val (.long qf), .second, .val (.int p5), .val (.int (3 : Int32)), .val (.ref b50), .unset, .unset, .unset, .unset, .unset, .unset, .unset, .unset, .unset] [(.ref b50)])) _
      refine XS.iconst X51.here hx rfl (hb hby at_20) ?_
      show Steps p.tables e below (T51.setTop (mkF m 21 #[.val (.long q0), .second, .val (.long q1), .second, .val (.long q2), .second, .val (.long q3), .second, .val (.long qf), .second, .val (.int p5), .val (.int (3 : Int32)), .val (.ref b50), .unset, .unset, .unset, .unset, .unset, .unset, .unset, .unset, .unset] [(.int (1 : Int32)), (.ref b50)])) _
      refine XT.lload X51.here hx rfl (hb hby at_21) rfl  ?_
      exact oK
    show OG _ _ _ _ _ _ _ (T51.setTop (mkF m 23 #[.val (.long q0), .second, .val (.long q1), .second, .val (.long q2), .second, .val (.long q3), .second, .val (.long qf), .second, .val (.int p5), .val (.int (3 : Int32)), .val (.ref b50), .unset, .unset, .unset, .unset, .unset, .unset, .unset, .unset, .unset] [(.long qf), (.int (1 : Int32)), (.ref b50)]))
    have cf130 := V51
    obtain ⟨clf130, Arf130, qf130, Sf130, Mf130, Hf130, Gf130⟩ := cf130
    obtain ⟨T52, h52, X52, e52, W52, st52⟩ := stJ X51 hx hZ e51 Arf130 (j := (1 : Int32)) (inb_of Sf130 ⟨by decide, by decide⟩) (g := (mkF m 23 #[.val (.long q0), .second, .val (.long q1), .second, .val (.long q2), .second, .val (.long q3), .second, .val (.long qf), .second, .val (.int p5), .val (.int (3 : Int32)), .val (.ref b50), .unset, .unset, .unset, .unset, .unset, .unset, .unset, .unset, .unset] [(.long qf), (.int (1 : Int32)), (.ref b50)])) rfl rfl (hb hby at_23)
    have V52 : Arv Z h52 b50 kc50 .long (7 : Int32) [(.long qf), (.long qf), (.long (0 : Int64)), (.long (0 : Int64)), (.long (0 : Int64)), (.long (0 : Int64)), (.long (0 : Int64))] (.long (0 : Int64)) := Arv.set Arf130 qf130 Sf130 Mf130 Hf130 Gf130 rfl W52 1 rfl (Nat.le_of_ble_eq_true rfl)
    have f132 := (f129).wr W52 gn_b50
    have K52 : Keep h0 h52 [] := (K51).wr W52 (Or.inr sz_b50)
    have Z52 : n0 ≤ h52.size := Nat.le_trans Z51 (Keep.of_wr W52).1
    have N52 := Fr.snoc X52 N51 gn_b50
    refine OG.of st52 ?_
    show OG _ _ _ _ _ _ _ (T52.setTop (mkF m 24 #[.val (.long q0), .second, .val (.long q1), .second, .val (.long q2), .second, .val (.long q3), .second, .val (.long qf), .second, .val (.int p5), .val (.int (3 : Int32)), .val (.ref b50), .unset, .unset, .unset, .unset, .unset, .unset, .unset, .unset, .unset] []))
    refine OG.of (A := T52.setTop (mkF m 29 #[.val (.long q0), .second, .val (.long q1), .second, .val (.long q2), .second, .val (.long q3), .second, .val (.long qf), .second, .val (.int p5), .val (.int (3 : Int32)), .val (.ref b50), .unset, .unset, .unset, .unset, .unset, .unset, .unset, .unset, .unset] [(.long qf), (.int (2 : Int32)), (.ref b50)])) (fun oT oK => ?_) ?_
    · show Steps p.tables e below (T52.setTop (mkF m 24 #[.val (.long q0), .second, .val (.long q1), .second, .val (.long q2), .second, .val (.long q3), .second, .val (.long qf), .second, .val (.int p5), .val (.int (3 : Int32)), .val (.ref b50), .unset, .unset, .unset, .unset, .unset, .unset, .unset, .unset, .unset] [])) oT
      refine XS.aload X52.here hx rfl (hb hby at_24) rfl rfl  ?_
      show Steps p.tables e below (T52.setTop (mkF m 26 #[.val (.long q0), .second, .val (.long q1), .second, .val (.long q2), .second, .val (.long q3), .second, .val (.long qf), .second, .val (.int p5), .val (.int (3 : Int32)), .val (.ref b50), .unset, .unset, .unset, .unset, .unset, .unset, .unset, .unset, .unset] [(.ref b50)])) _
      refine XS.iconst X52.here hx rfl (hb hby at_26) ?_
      show Steps p.tables e below (T52.setTop (mkF m 27 #[.val (.long q0), .second, .val (.long q1), .second, .val (.long q2), .second, .val (.long q3), .second, .val (.long qf), .second, .val (.int p5), .val (.int (3 : Int32)), .val (.ref b50), .unset, .unset, .unset, .unset, .unset, .unset, .unset, .unset, .unset] [(.int (2 : Int32)), (.ref b50)])) _
      refine XT.lload X52.here hx rfl (hb hby at_27) rfl  ?_
      exact oK
    show OG _ _ _ _ _ _ _ (T52.setTop (mkF m 29 #[.val (.long q0), .second, .val (.long q1), .second, .val (.long q2), .second, .val (.long q3), .second, .val (.long qf), .second, .val (.int p5), .val (.int (3 : Int32)), .val (.ref b50), .unset, .unset, .unset, .unset, .unset, .unset, .unset, .unset, .unset] [(.long qf), (.int (2 : Int32)), (.ref b50)]))
    have cf133 := V52
    obtain ⟨clf133, Arf133, qf133, Sf133, Mf133, Hf133, Gf133⟩ := cf133
    obtain ⟨T53, h53, X53, e53, W53, st53⟩ := stJ X52 hx hZ e52 Arf133 (j := (2 : Int32)) (inb_of Sf133 ⟨by decide, by decide⟩) (g := (mkF m 29 #[.val (.long q0), .second, .val (.long q1), .second, .val (.long q2), .second, .val (.long q3), .second, .val (.long qf), .second, .val (.int p5), .val (.int (3 : Int32)), .val (.ref b50), .unset, .unset, .unset, .unset, .unset, .unset, .unset, .unset, .unset] [(.long qf), (.int (2 : Int32)), (.ref b50)])) rfl rfl (hb hby at_29)
    have V53 : Arv Z h53 b50 kc50 .long (7 : Int32) [(.long qf), (.long qf), (.long qf), (.long (0 : Int64)), (.long (0 : Int64)), (.long (0 : Int64)), (.long (0 : Int64))] (.long (0 : Int64)) := Arv.set Arf133 qf133 Sf133 Mf133 Hf133 Gf133 rfl W53 2 rfl (Nat.le_of_ble_eq_true rfl)
    have f135 := (f132).wr W53 gn_b50
    have K53 : Keep h0 h53 [] := (K52).wr W53 (Or.inr sz_b50)
    have Z53 : n0 ≤ h53.size := Nat.le_trans Z52 (Keep.of_wr W53).1
    have N53 := Fr.snoc X53 N52 gn_b50
    refine OG.of st53 ?_
    show OG _ _ _ _ _ _ _ (T53.setTop (mkF m 30 #[.val (.long q0), .second, .val (.long q1), .second, .val (.long q2), .second, .val (.long q3), .second, .val (.long qf), .second, .val (.int p5), .val (.int (3 : Int32)), .val (.ref b50), .unset, .unset, .unset, .unset, .unset, .unset, .unset, .unset, .unset] []))
    refine OG.of (A := T53.setTop (mkF m 35 #[.val (.long q0), .second, .val (.long q1), .second, .val (.long q2), .second, .val (.long q3), .second, .val (.long qf), .second, .val (.int p5), .val (.int (3 : Int32)), .val (.ref b50), .unset, .unset, .unset, .unset, .unset, .unset, .unset, .unset, .unset] [(.long qf), (.int (3 : Int32)), (.ref b50)])) (fun oT oK => ?_) ?_
    · show Steps p.tables e below (T53.setTop (mkF m 30 #[.val (.long q0), .second, .val (.long q1), .second, .val (.long q2), .second, .val (.long q3), .second, .val (.long qf), .second, .val (.int p5), .val (.int (3 : Int32)), .val (.ref b50), .unset, .unset, .unset, .unset, .unset, .unset, .unset, .unset, .unset] [])) oT
      refine XS.aload X53.here hx rfl (hb hby at_30) rfl rfl  ?_
      show Steps p.tables e below (T53.setTop (mkF m 32 #[.val (.long q0), .second, .val (.long q1), .second, .val (.long q2), .second, .val (.long q3), .second, .val (.long qf), .second, .val (.int p5), .val (.int (3 : Int32)), .val (.ref b50), .unset, .unset, .unset, .unset, .unset, .unset, .unset, .unset, .unset] [(.ref b50)])) _
      refine XS.iconst X53.here hx rfl (hb hby at_32) ?_
      show Steps p.tables e below (T53.setTop (mkF m 33 #[.val (.long q0), .second, .val (.long q1), .second, .val (.long q2), .second, .val (.long q3), .second, .val (.long qf), .second, .val (.int p5), .val (.int (3 : Int32)), .val (.ref b50), .unset, .unset, .unset, .unset, .unset, .unset, .unset, .unset, .unset] [(.int (3 : Int32)), (.ref b50)])) _
      refine XT.lload X53.here hx rfl (hb hby at_33) rfl  ?_
      exact oK
    show OG _ _ _ _ _ _ _ (T53.setTop (mkF m 35 #[.val (.long q0), .second, .val (.long q1), .second, .val (.long q2), .second, .val (.long q3), .second, .val (.long qf), .second, .val (.int p5), .val (.int (3 : Int32)), .val (.ref b50), .unset, .unset, .unset, .unset, .unset, .unset, .unset, .unset, .unset] [(.long qf), (.int (3 : Int32)), (.ref b50)]))
    have cf136 := V53
    obtain ⟨clf136, Arf136, qf136, Sf136, Mf136, Hf136, Gf136⟩ := cf136
    obtain ⟨T54, h54, X54, e54, W54, st54⟩ := stJ X53 hx hZ e53 Arf136 (j := (3 : Int32)) (inb_of Sf136 ⟨by decide, by decide⟩) (g := (mkF m 35 #[.val (.long q0), .second, .val (.long q1), .second, .val (.long q2), .second, .val (.long q3), .second, .val (.long qf), .second, .val (.int p5), .val (.int (3 : Int32)), .val (.ref b50), .unset, .unset, .unset, .unset, .unset, .unset, .unset, .unset, .unset] [(.long qf), (.int (3 : Int32)), (.ref b50)])) rfl rfl (hb hby at_35)
    have V54 : Arv Z h54 b50 kc50 .long (7 : Int32) [(.long qf), (.long qf), (.long qf), (.long qf), (.long (0 : Int64)), (.long (0 : Int64)), (.long (0 : Int64))] (.long (0 : Int64)) := Arv.set Arf136 qf136 Sf136 Mf136 Hf136 Gf136 rfl W54 3 rfl (Nat.le_of_ble_eq_true rfl)
    have f138 := (f135).wr W54 gn_b50
    have K54 : Keep h0 h54 [] := (K53).wr W54 (Or.inr sz_b50)
    have Z54 : n0 ≤ h54.size := Nat.le_trans Z53 (Keep.of_wr W54).1
    have N54 := Fr.snoc X54 N53 gn_b50
    refine OG.of st54 ?_
    show OG _ _ _ _ _ _ _ (T54.setTop (mkF m 36 #[.val (.long q0), .second, .val (.long q1), .second, .val (.long q2), .second, .val (.long q3), .second, .val (.long qf), .second, .val (.int p5), .val (.int (3 : Int32)), .val (.ref b50), .unset, .unset, .unset, .unset, .unset, .unset, .unset, .unset, .unset] []))
    refine OG.of (A := T54.setTop (mkF m 41 #[.val (.long q0), .second, .val (.long q1), .second, .val (.long q2), .second, .val (.long q3), .second, .val (.long qf), .second, .val (.int p5), .val (.int (3 : Int32)), .val (.ref b50), .unset, .unset, .unset, .unset, .unset, .unset, .unset, .unset, .unset] [(.long qf), (.int (4 : Int32)), (.ref b50)])) (fun oT oK => ?_) ?_
    · show Steps p.tables e below (T54.setTop (mkF m 36 #[.val (.long q0), .second, .val (.long q1), .second, .val (.long q2), .second, .val (.long q3), .second, .val (.long qf), .second, .val (.int p5), .val (.int (3 : Int32)), .val (.ref b50), .unset, .unset, .unset, .unset, .unset, .unset, .unset, .unset, .unset] [])) oT
      refine XS.aload X54.here hx rfl (hb hby at_36) rfl rfl  ?_
      show Steps p.tables e below (T54.setTop (mkF m 38 #[.val (.long q0), .second, .val (.long q1), .second, .val (.long q2), .second, .val (.long q3), .second, .val (.long qf), .second, .val (.int p5), .val (.int (3 : Int32)), .val (.ref b50), .unset, .unset, .unset, .unset, .unset, .unset, .unset, .unset, .unset] [(.ref b50)])) _
      refine XS.iconst X54.here hx rfl (hb hby at_38) ?_
      show Steps p.tables e below (T54.setTop (mkF m 39 #[.val (.long q0), .second, .val (.long q1), .second, .val (.long q2), .second, .val (.long q3), .second, .val (.long qf), .second, .val (.int p5), .val (.int (3 : Int32)), .val (.ref b50), .unset, .unset, .unset, .unset, .unset, .unset, .unset, .unset, .unset] [(.int (4 : Int32)), (.ref b50)])) _
      refine XT.lload X54.here hx rfl (hb hby at_39) rfl  ?_
      exact oK
    show OG _ _ _ _ _ _ _ (T54.setTop (mkF m 41 #[.val (.long q0), .second, .val (.long q1), .second, .val (.long q2), .second, .val (.long q3), .second, .val (.long qf), .second, .val (.int p5), .val (.int (3 : Int32)), .val (.ref b50), .unset, .unset, .unset, .unset, .unset, .unset, .unset, .unset, .unset] [(.long qf), (.int (4 : Int32)), (.ref b50)]))
    have cf139 := V54
    obtain ⟨clf139, Arf139, qf139, Sf139, Mf139, Hf139, Gf139⟩ := cf139
    obtain ⟨T55, h55, X55, e55, W55, st55⟩ := stJ X54 hx hZ e54 Arf139 (j := (4 : Int32)) (inb_of Sf139 ⟨by decide, by decide⟩) (g := (mkF m 41 #[.val (.long q0), .second, .val (.long q1), .second, .val (.long q2), .second, .val (.long q3), .second, .val (.long qf), .second, .val (.int p5), .val (.int (3 : Int32)), .val (.ref b50), .unset, .unset, .unset, .unset, .unset, .unset, .unset, .unset, .unset] [(.long qf), (.int (4 : Int32)), (.ref b50)])) rfl rfl (hb hby at_41)
    have V55 : Arv Z h55 b50 kc50 .long (7 : Int32) [(.long qf), (.long qf), (.long qf), (.long qf), (.long qf), (.long (0 : Int64)), (.long (0 : Int64))] (.long (0 : Int64)) := Arv.set Arf139 qf139 Sf139 Mf139 Hf139 Gf139 rfl W55 4 rfl (Nat.le_of_ble_eq_true rfl)
    have f141 := (f138).wr W55 gn_b50
    have K55 : Keep h0 h55 [] := (K54).wr W55 (Or.inr sz_b50)
    have Z55 : n0 ≤ h55.size := Nat.le_trans Z54 (Keep.of_wr W55).1
    have N55 := Fr.snoc X55 N54 gn_b50
    refine OG.of st55 ?_
    show OG _ _ _ _ _ _ _ (T55.setTop (mkF m 42 #[.val (.long q0), .second, .val (.long q1), .second, .val (.long q2), .second, .val (.long q3), .second, .val (.long qf), .second, .val (.int p5), .val (.int (3 : Int32)), .val (.ref b50), .unset, .unset, .unset, .unset, .unset, .unset, .unset, .unset, .unset] []))
    refine OG.of (A := T55.setTop (mkF m 47 #[.val (.long q0), .second, .val (.long q1), .second, .val (.long q2), .second, .val (.long q3), .second, .val (.long qf), .second, .val (.int p5), .val (.int (3 : Int32)), .val (.ref b50), .unset, .unset, .unset, .unset, .unset, .unset, .unset, .unset, .unset] [(.long qf), (.int (5 : Int32)), (.ref b50)])) (fun oT oK => ?_) ?_
    · show Steps p.tables e below (T55.setTop (mkF m 42 #[.val (.long q0), .second, .val (.long q1), .second, .val (.long q2), .second, .val (.long q3), .second, .val (.long qf), .second, .val (.int p5), .val (.int (3 : Int32)), .val (.ref b50), .unset, .unset, .unset, .unset, .unset, .unset, .unset, .unset, .unset] [])) oT
      refine XS.aload X55.here hx rfl (hb hby at_42) rfl rfl  ?_
      show Steps p.tables e below (T55.setTop (mkF m 44 #[.val (.long q0), .second, .val (.long q1), .second, .val (.long q2), .second, .val (.long q3), .second, .val (.long qf), .second, .val (.int p5), .val (.int (3 : Int32)), .val (.ref b50), .unset, .unset, .unset, .unset, .unset, .unset, .unset, .unset, .unset] [(.ref b50)])) _
      refine XS.iconst X55.here hx rfl (hb hby at_44) ?_
      show Steps p.tables e below (T55.setTop (mkF m 45 #[.val (.long q0), .second, .val (.long q1), .second, .val (.long q2), .second, .val (.long q3), .second, .val (.long qf), .second, .val (.int p5), .val (.int (3 : Int32)), .val (.ref b50), .unset, .unset, .unset, .unset, .unset, .unset, .unset, .unset, .unset] [(.int (5 : Int32)), (.ref b50)])) _
      refine XT.lload X55.here hx rfl (hb hby at_45) rfl  ?_
      exact oK
    show OG _ _ _ _ _ _ _ (T55.setTop (mkF m 47 #[.val (.long q0), .second, .val (.long q1), .second, .val (.long q2), .second, .val (.long q3), .second, .val (.long qf), .second, .val (.int p5), .val (.int (3 : Int32)), .val (.ref b50), .unset, .unset, .unset, .unset, .unset, .unset, .unset, .unset, .unset] [(.long qf), (.int (5 : Int32)), (.ref b50)]))
    have cf142 := V55
    obtain ⟨clf142, Arf142, qf142, Sf142, Mf142, Hf142, Gf142⟩ := cf142
    obtain ⟨T56, h56, X56, e56, W56, st56⟩ := stJ X55 hx hZ e55 Arf142 (j := (5 : Int32)) (inb_of Sf142 ⟨by decide, by decide⟩) (g := (mkF m 47 #[.val (.long q0), .second, .val (.long q1), .second, .val (.long q2), .second, .val (.long q3), .second, .val (.long qf), .second, .val (.int p5), .val (.int (3 : Int32)), .val (.ref b50), .unset, .unset, .unset, .unset, .unset, .unset, .unset, .unset, .unset] [(.long qf), (.int (5 : Int32)), (.ref b50)])) rfl rfl (hb hby at_47)
    have V56 : Arv Z h56 b50 kc50 .long (7 : Int32) [(.long qf), (.long qf), (.long qf), (.long qf), (.long qf), (.long qf), (.long (0 : Int64))] (.long (0 : Int64)) := Arv.set Arf142 qf142 Sf142 Mf142 Hf142 Gf142 rfl W56 5 rfl (Nat.le_of_ble_eq_true rfl)
    have f144 := (f141).wr W56 gn_b50
    have K56 : Keep h0 h56 [] := (K55).wr W56 (Or.inr sz_b50)
    have Z56 : n0 ≤ h56.size := Nat.le_trans Z55 (Keep.of_wr W56).1
    have N56 := Fr.snoc X56 N55 gn_b50
    refine OG.of st56 ?_
    show OG _ _ _ _ _ _ _ (T56.setTop (mkF m 48 #[.val (.long q0), .second, .val (.long q1), .second, .val (.long q2), .second, .val (.long q3), .second, .val (.long qf), .second, .val (.int p5), .val (.int (3 : Int32)), .val (.ref b50), .unset, .unset, .unset, .unset, .unset, .unset, .unset, .unset, .unset] []))
    refine OG.of (A := T56.setTop (mkF m 54 #[.val (.long q0), .second, .val (.long q1), .second, .val (.long q2), .second, .val (.long q3), .second, .val (.long qf), .second, .val (.int p5), .val (.int (3 : Int32)), .val (.ref b50), .unset, .unset, .unset, .unset, .unset, .unset, .unset, .unset, .unset] [(.long qf), (.int (6 : Int32)), (.ref b50)])) (fun oT oK => ?_) ?_
    · show Steps p.tables e below (T56.setTop (mkF m 48 #[.val (.long q0), .second, .val (.long q1), .second, .val (.long q2), .second, .val (.long q3), .second, .val (.long qf), .second, .val (.int p5), .val (.int (3 : Int32)), .val (.ref b50), .unset, .unset, .unset, .unset, .unset, .unset, .unset, .unset, .unset] [])) oT
      refine XS.aload X56.here hx rfl (hb hby at_48) rfl rfl  ?_
      show Steps p.tables e below (T56.setTop (mkF m 50 #[.val (.long q0), .second, .val (.long q1), .second, .val (.long q2), .second, .val (.long q3), .second, .val (.long qf), .second, .val (.int p5), .val (.int (3 : Int32)), .val (.ref b50), .unset, .unset, .unset, .unset, .unset, .unset, .unset, .unset, .unset] [(.ref b50)])) _
      refine XS.bipush X56.here hx rfl (hb hby at_50) ?_
      show Steps p.tables e below (T56.setTop (mkF m 52 #[.val (.long q0), .second, .val (.long q1), .second, .val (.long q2), .second, .val (.long q3), .second, .val (.long qf), .second, .val (.int p5), .val (.int (3 : Int32)), .val (.ref b50), .unset, .unset, .unset, .unset, .unset, .unset, .unset, .unset, .unset] [(.int (6 : Int32)), (.ref b50)])) _
      refine XT.lload X56.here hx rfl (hb hby at_52) rfl  ?_
      exact oK
    show OG _ _ _ _ _ _ _ (T56.setTop (mkF m 54 #[.val (.long q0), .second, .val (.long q1), .second, .val (.long q2), .second, .val (.long q3), .second, .val (.long qf), .second, .val (.int p5), .val (.int (3 : Int32)), .val (.ref b50), .unset, .unset, .unset, .unset, .unset, .unset, .unset, .unset, .unset] [(.long qf), (.int (6 : Int32)), (.ref b50)]))
    have cf145 := V56
    obtain ⟨clf145, Arf145, qf145, Sf145, Mf145, Hf145, Gf145⟩ := cf145
    obtain ⟨T57, h57, X57, e57, W57, st57⟩ := stJ X56 hx hZ e56 Arf145 (j := (6 : Int32)) (inb_of Sf145 ⟨by decide, by decide⟩) (g := (mkF m 54 #[.val (.long q0), .second, .val (.long q1), .second, .val (.long q2), .second, .val (.long q3), .second, .val (.long qf), .second, .val (.int p5), .val (.int (3 : Int32)), .val (.ref b50), .unset, .unset, .unset, .unset, .unset, .unset, .unset, .unset, .unset] [(.long qf), (.int (6 : Int32)), (.ref b50)])) rfl rfl (hb hby at_54)
    have V57 : Arv Z h57 b50 kc50 .long (7 : Int32) [(.long qf), (.long qf), (.long qf), (.long qf), (.long qf), (.long qf), (.long qf)] (.long (0 : Int64)) := Arv.set Arf145 qf145 Sf145 Mf145 Hf145 Gf145 rfl W57 6 rfl (Nat.le_of_ble_eq_true rfl)
    have f147 := (f144).wr W57 gn_b50
    have K57 : Keep h0 h57 [] := (K56).wr W57 (Or.inr sz_b50)
    have Z57 : n0 ≤ h57.size := Nat.le_trans Z56 (Keep.of_wr W57).1
    have N57 := Fr.snoc X57 N56 gn_b50
    refine OG.of st57 ?_
    show OG _ _ _ _ _ _ _ (T57.setTop (mkF m 55 #[.val (.long q0), .second, .val (.long q1), .second, .val (.long q2), .second, .val (.long q3), .second, .val (.long qf), .second, .val (.int p5), .val (.int (3 : Int32)), .val (.ref b50), .unset, .unset, .unset, .unset, .unset, .unset, .unset, .unset, .unset] []))
    refine OG.of (A := T57.setTop (mkF m 60 #[.val (.long q0), .second, .val (.long q1), .second, .val (.long q2), .second, .val (.long q3), .second, .val (.long qf), .second, .val (.int p5), .val (.int (3 : Int32)), .val (.ref b50), .unset, .unset, .unset, .unset, .unset, .unset, .unset, .unset, .unset] [(.long q0), (.int (3 : Int32)), (.ref b50)])) (fun oT oK => ?_) ?_
    · show Steps p.tables e below (T57.setTop (mkF m 55 #[.val (.long q0), .second, .val (.long q1), .second, .val (.long q2), .second, .val (.long q3), .second, .val (.long qf), .second, .val (.int p5), .val (.int (3 : Int32)), .val (.ref b50), .unset, .unset, .unset, .unset, .unset, .unset, .unset, .unset, .unset] [])) oT
      refine XS.aload X57.here hx rfl (hb hby at_55) rfl rfl  ?_
      show Steps p.tables e below (T57.setTop (mkF m 57 #[.val (.long q0), .second, .val (.long q1), .second, .val (.long q2), .second, .val (.long q3), .second, .val (.long qf), .second, .val (.int p5), .val (.int (3 : Int32)), .val (.ref b50), .unset, .unset, .unset, .unset, .unset, .unset, .unset, .unset, .unset] [(.ref b50)])) _
      refine XS.iload X57.here hx rfl (hb hby at_57) rfl  ?_
      show Steps p.tables e below (T57.setTop (mkF m 59 #[.val (.long q0), .second, .val (.long q1), .second, .val (.long q2), .second, .val (.long q3), .second, .val (.long qf), .second, .val (.int p5), .val (.int (3 : Int32)), .val (.ref b50), .unset, .unset, .unset, .unset, .unset, .unset, .unset, .unset, .unset] [(.int (3 : Int32)), (.ref b50)])) _
      refine XT.lloadN X57.here hx rfl (hb hby at_59) rfl  ?_
      exact oK
    show OG _ _ _ _ _ _ _ (T57.setTop (mkF m 60 #[.val (.long q0), .second, .val (.long q1), .second, .val (.long q2), .second, .val (.long q3), .second, .val (.long qf), .second, .val (.int p5), .val (.int (3 : Int32)), .val (.ref b50), .unset, .unset, .unset, .unset, .unset, .unset, .unset, .unset, .unset] [(.long q0), (.int (3 : Int32)), (.ref b50)]))
    have cf148 := V57
    obtain ⟨clf148, Arf148, qf148, Sf148, Mf148, Hf148, Gf148⟩ := cf148
    obtain ⟨T58, h58, X58, e58, W58, st58⟩ := stJ X57 hx hZ e57 Arf148 (j := (3 : Int32)) (inb_of Sf148 ⟨by decide, by decide⟩) (g := (mkF m 60 #[.val (.long q0), .second, .val (.long q1), .second, .val (.long q2), .second, .val (.long q3), .second, .val (.long qf), .second, .val (.int p5), .val (.int (3 : Int32)), .val (.ref b50), .unset, .unset, .unset, .unset, .unset, .unset, .unset, .unset, .unset] [(.long q0), (.int (3 : Int32)), (.ref b50)])) rfl rfl (hb hby at_60)
    have V58 : Arv Z h58 b50 kc50 .long (7 : Int32) [(.long qf), (.long qf), (.long qf), (.long q0), (.long qf), (.long qf), (.long qf)] (.long (0 : Int64)) := Arv.set Arf148 qf148 Sf148 Mf148 Hf148 Gf148 rfl W58 3 rfl (Nat.le_of_ble_eq_true rfl)
    have f150 := (f147).wr W58 gn_b50
    have K58 : Keep h0 h58 [] := (K57).wr W58 (Or.inr sz_b50)
    have Z58 : n0 ≤ h58.size := Nat.le_trans Z57 (Keep.of_wr W58).1
    have N58 := Fr.snoc X58 N57 gn_b50
    refine OG.of st58 ?_
    show OG _ _ _ _ _ _ _ (T58.setTop (mkF m 61 #[.val (.long q0), .second, .val (.long q1), .second, .val (.long q2), .second, .val (.long q3), .second, .val (.long qf), .second, .val (.int p5), .val (.int (3 : Int32)), .val (.ref b50), .unset, .unset, .unset, .unset, .unset, .unset, .unset, .unset, .unset] []))
    refine OG.of (A := T58.setTop (mkF m 68 #[.val (.long q0), .second, .val (.long q1), .second, .val (.long q2), .second, .val (.long q3), .second, .val (.long qf), .second, .val (.int p5), .val (.int (3 : Int32)), .val (.ref b50), .unset, .unset, .unset, .unset, .unset, .unset, .unset, .unset, .unset] [(.long q1), (.int (4 : Int32)), (.ref b50)])) (fun oT oK => ?_) ?_
    · show Steps p.tables e below (T58.setTop (mkF m 61 #[.val (.long q0), .second, .val (.long q1), .second, .val (.long q2), .second, .val (.long q3), .second, .val (.long qf), .second, .val (.int p5), .val (.int (3 : Int32)), .val (.ref b50), .unset, .unset, .unset, .unset, .unset, .unset, .unset, .unset, .unset] [])) oT
      refine XS.aload X58.here hx rfl (hb hby at_61) rfl rfl  ?_
      show Steps p.tables e below (T58.setTop (mkF m 63 #[.val (.long q0), .second, .val (.long q1), .second, .val (.long q2), .second, .val (.long q3), .second, .val (.long qf), .second, .val (.int p5), .val (.int (3 : Int32)), .val (.ref b50), .unset, .unset, .unset, .unset, .unset, .unset, .unset, .unset, .unset] [(.ref b50)])) _
      refine XS.iload X58.here hx rfl (hb hby at_63) rfl  ?_
      show Steps p.tables e below (T58.setTop (mkF m 65 #[.val (.long q0), .second, .val (.long q1), .second, .val (.long q2), .second, .val (.long q3), .second, .val (.long qf), .second, .val (.int p5), .val (.int (3 : Int32)), .val (.ref b50), .unset, .unset, .unset, .unset, .unset, .unset, .unset, .unset, .unset] [(.int (3 : Int32)), (.ref b50)])) _
      refine XS.iconst X58.here hx rfl (hb hby at_65) ?_
      show Steps p.tables e below (T58.setTop (mkF m 66 #[.val (.long q0), .second, .val (.long q1), .second, .val (.long q2), .second, .val (.long q3), .second, .val (.long qf), .second, .val (.int p5), .val (.int (3 : Int32)), .val (.ref b50), .unset, .unset, .unset, .unset, .unset, .unset, .unset, .unset, .unset] [(.int (1 : Int32)), (.int (3 : Int32)), (.ref b50)])) _
      refine XS.iadd X58.here hx rfl (hb hby at_66) rfl ?_
      show Steps p.tables e below (T58.setTop (mkF m 67 #[.val (.long q0), .second, .val (.long q1), .second, .val (.long q2), .second, .val (.long q3), .second, .val (.long qf), .second, .val (.int p5), .val (.int (3 : Int32)), .val (.ref b50), .unset, .unset, .unset, .unset, .unset, .unset, .unset, .unset, .unset] [(.int (4 : Int32)), (.ref b50)])) _
      refine XT.lloadN X58.here hx rfl (hb hby at_67) rfl  ?_
      exact oK
    show OG _ _ _ _ _ _ _ (T58.setTop (mkF m 68 #[.val (.long q0), .second, .val (.long q1), .second, .val (.long q2), .second, .val (.long q3), .second, .val (.long qf), .second, .val (.int p5), .val (.int (3 : Int32)), .val (.ref b50), .unset, .unset, .unset, .unset, .unset, .unset, .unset, .unset, .unset] [(.long q1), (.int (4 : Int32)), (.ref b50)]))
    have cf151 := V58
    obtain ⟨clf151, Arf151, qf151, Sf151, Mf151, Hf151, Gf151⟩ := cf151
    obtain ⟨T59, h59, X59, e59, W59, st59⟩ := stJ X58 hx hZ e58 Arf151 (j := (4 : Int32)) (inb_of Sf151 ⟨by decide, by decide⟩) (g := (mkF m 68 #[.val (.long q0), .second, .val (.long q1), .second, .val (.long q2), .second, .val (.long q3), .second, .val (.long qf), .second, .val (.int p5), .val (.int (3 : Int32)), .val (.ref b50), .unset, .unset, .unset, .unset, .unset, .unset, .unset, .unset, .unset] [(.long q1), (.int (4 : Int32)), (.ref b50)])) rfl rfl (hb hby at_68)
    have V59 : Arv Z h59 b50 kc50 .long (7 : Int32) [(.long qf), (.long qf), (.long qf), (.long q0), (.long q1), (.long qf), (.long qf)] (.long (0 : Int64)) := Arv.set Arf151 qf151 Sf151 Mf151 Hf151 Gf151 rfl W59 4 rfl (Nat.le_of_ble_eq_true rfl)
    have f153 := (f150).wr W59 gn_b50
    have K59 : Keep h0 h59 [] := (K58).wr W59 (Or.inr sz_b50)
    have Z59 : n0 ≤ h59.size := Nat.le_trans Z58 (Keep.of_wr W59).1
    have N59 := Fr.snoc X59 N58 gn_b50
    refine OG.of st59 ?_
    show OG _ _ _ _ _ _ _ (T59.setTop (mkF m 69 #[.val (.long q0), .second, .val (.long q1), .second, .val (.long q2), .second, .val (.long q3), .second, .val (.long qf), .second, .val (.int p5), .val (.int (3 : Int32)), .val (.ref b50), .unset, .unset, .unset, .unset, .unset, .unset, .unset, .unset, .unset] []))
    refine OG.of (A := T59.setTop (mkF m 77 #[.val (.long q0), .second, .val (.long q1), .second, .val (.long q2), .second, .val (.long q3), .second, .val (.long qf), .second, .val (.int p5), .val (.int (3 : Int32)), .val (.ref b50), .unset, .unset, .unset, .unset, .unset, .unset, .unset, .unset, .unset] [(.long q2), (.int (5 : Int32)), (.ref b50)])) (fun oT oK => ?_) ?_
    · show Steps p.tables e below (T59.setTop (mkF m 69 #[.val (.long q0), .second, .val (.long q1), .second, .val (.long q2), .second, .val (.long q3), .second, .val (.long qf), .second, .val (.int p5), .val (.int (3 : Int32)), .val (.ref b50), .unset, .unset, .unset, .unset, .unset, .unset, .unset, .unset, .unset] [])) oT
      refine XS.aload X59.here hx rfl (hb hby at_69) rfl rfl  ?_
      show Steps p.tables e below (T59.setTop (mkF m 71 #[.val (.long q0), .second, .val (.long q1), .second, .val (.long q2), .second, .val (.long q3), .second, .val (.long qf), .second, .val (.int p5), .val (.int (3 : Int32)), .val (.ref b50), .unset, .unset, .unset, .unset, .unset, .unset, .unset, .unset, .unset] [(.ref b50)])) _
      refine XS.iload X59.here hx rfl (hb hby at_71) rfl  ?_
      show Steps p.tables e below (T59.setTop (mkF m 73 #[.val (.long q0), .second, .val (.long q1), .second, .val (.long q2), .second, .val (.long q3), .second, .val (.long qf), .second, .val (.int p5), .val (.int (3 : Int32)), .val (.ref b50), .unset, .unset, .unset, .unset, .unset, .unset, .unset, .unset, .unset] [(.int (3 : Int32)), (.ref b50)])) _
      refine XS.iconst X59.here hx rfl (hb hby at_73) ?_
      show Steps p.tables e below (T59.setTop (mkF m 74 #[.val (.long q0), .second, .val (.long q1), .second, .val (.long q2), .second, .val (.long q3), .second, .val (.long qf), .second, .val (.int p5), .val (.int (3 : Int32)), .val (.ref b50), .unset, .unset, .unset, .unset, .unset, .unset, .unset, .unset, .unset] [(.int (2 : Int32)), (.int (3 : Int32)), (.ref b50)])) _
      refine XS.iadd X59.here hx rfl (hb hby at_74) rfl ?_
      show Steps p.tables e below (T59.setTop (mkF m 75 #[.val (.long q0), .second, .val (.long q1), .second, .val (.long q2), .second, .val (.long q3), .second, .val (.long qf), .second, .val (.int p5), .val (.int (3 : Int32)), .val (.ref b50), .unset, .unset, .unset, .unset, .unset, .unset, .unset, .unset, .unset] [(.int (5 : Int32)), (.ref b50)])) _
      refine XT.lload X59.here hx rfl (hb hby at_75) rfl  ?_
      exact oK
    show OG _ _ _ _ _ _ _ (T59.setTop (mkF m 77 #[.val (.long q0), .second, .val (.long q1), .second, .val (.long q2), .second, .val (.long q3), .second, .val (.long qf), .second, .val (.int p5), .val (.int (3 : Int32)), .val (.ref b50), .unset, .unset, .unset, .unset, .unset, .unset, .unset, .unset, .unset] [(.long q2), (.int (5 : Int32)), (.ref b50)]))
    have cf154 := V59
    obtain ⟨clf154, Arf154, qf154, Sf154, Mf154, Hf154, Gf154⟩ := cf154
    obtain ⟨T60, h60, X60, e60, W60, st60⟩ := stJ X59 hx hZ e59 Arf154 (j := (5 : Int32)) (inb_of Sf154 ⟨by decide, by decide⟩) (g := (mkF m 77 #[.val (.long q0), .second, .val (.long q1), .second, .val (.long q2), .second, .val (.long q3), .second, .val (.long qf), .second, .val (.int p5), .val (.int (3 : Int32)), .val (.ref b50), .unset, .unset, .unset, .unset, .unset, .unset, .unset, .unset, .unset] [(.long q2), (.int (5 : Int32)), (.ref b50)])) rfl rfl (hb hby at_77)
    have V60 : Arv Z h60 b50 kc50 .long (7 : Int32) [(.long qf), (.long qf), (.long qf), (.long q0), (.long q1), (.long q2), (.long qf)] (.long (0 : Int64)) := Arv.set Arf154 qf154 Sf154 Mf154 Hf154 Gf154 rfl W60 5 rfl (Nat.le_of_ble_eq_true rfl)
    have f156 := (f153).wr W60 gn_b50
    have K60 : Keep h0 h60 [] := (K59).wr W60 (Or.inr sz_b50)
    have Z60 : n0 ≤ h60.size := Nat.le_trans Z59 (Keep.of_wr W60).1
    have N60 := Fr.snoc X60 N59 gn_b50
    refine OG.of st60 ?_
    show OG _ _ _ _ _ _ _ (T60.setTop (mkF m 78 #[.val (.long q0), .second, .val (.long q1), .second, .val (.long q2), .second, .val (.long q3), .second, .val (.long qf), .second, .val (.int p5), .val (.int (3 : Int32)), .val (.ref b50), .unset, .unset, .unset, .unset, .unset, .unset, .unset, .unset, .unset] []))
    refine OG.of (A := T60.setTop (mkF m 86 #[.val (.long q0), .second, .val (.long q1), .second, .val (.long q2), .second, .val (.long q3), .second, .val (.long qf), .second, .val (.int p5), .val (.int (3 : Int32)), .val (.ref b50), .unset, .unset, .unset, .unset, .unset, .unset, .unset, .unset, .unset] [(.long q3), (.int (6 : Int32)), (.ref b50)])) (fun oT oK => ?_) ?_
    · show Steps p.tables e below (T60.setTop (mkF m 78 #[.val (.long q0), .second, .val (.long q1), .second, .val (.long q2), .second, .val (.long q3), .second, .val (.long qf), .second, .val (.int p5), .val (.int (3 : Int32)), .val (.ref b50), .unset, .unset, .unset, .unset, .unset, .unset, .unset, .unset, .unset] [])) oT
      refine XS.aload X60.here hx rfl (hb hby at_78) rfl rfl  ?_
      show Steps p.tables e below (T60.setTop (mkF m 80 #[.val (.long q0), .second, .val (.long q1), .second, .val (.long q2), .second, .val (.long q3), .second, .val (.long qf), .second, .val (.int p5), .val (.int (3 : Int32)), .val (.ref b50), .unset, .unset, .unset, .unset, .unset, .unset, .unset, .unset, .unset] [(.ref b50)])) _
      refine XS.iload X60.here hx rfl (hb hby at_80) rfl  ?_
      show Steps p.tables e below (T60.setTop (mkF m 82 #[.val (.long q0), .second, .val (.long q1), .second, .val (.long q2), .second, .val (.long q3), .second, .val (.long qf), .second, .val (.int p5), .val (.int (3 : Int32)), .val (.ref b50), .unset, .unset, .unset, .unset, .unset, .unset, .unset, .unset, .unset] [(.int (3 : Int32)), (.ref b50)])) _
      refine XS.iconst X60.here hx rfl (hb hby at_82) ?_
      show Steps p.tables e below (T60.setTop (mkF m 83 #[.val (.long q0), .second, .val (.long q1), .second, .val (.long q2), .second, .val (.long q3), .second, .val (.long qf), .second, .val (.int p5), .val (.int (3 : Int32)), .val (.ref b50), .unset, .unset, .unset, .unset, .unset, .unset, .unset, .unset, .unset] [(.int (3 : Int32)), (.int (3 : Int32)), (.ref b50)])) _
      refine XS.iadd X60.here hx rfl (hb hby at_83) rfl ?_
      show Steps p.tables e below (T60.setTop (mkF m 84 #[.val (.long q0), .second, .val (.long q1), .second, .val (.long q2), .second, .val (.long q3), .second, .val (.long qf), .second, .val (.int p5), .val (.int (3 : Int32)), .val (.ref b50), .unset, .unset, .unset, .unset, .unset, .unset, .unset, .unset, .unset] [(.int (6 : Int32)), (.ref b50)])) _
      refine XT.lload X60.here hx rfl (hb hby at_84) rfl  ?_
      exact oK
    show OG _ _ _ _ _ _ _ (T60.setTop (mkF m 86 #[.val (.long q0), .second, .val (.long q1), .second, .val (.long q2), .second, .val (.long q3), .second, .val (.long qf), .second, .val (.int p5), .val (.int (3 : Int32)), .val (.ref b50), .unset, .unset, .unset, .unset, .unset, .unset, .unset, .unset, .unset] [(.long q3), (.int (6 : Int32)), (.ref b50)]))
    have cf157 := V60
    obtain ⟨clf157, Arf157, qf157, Sf157, Mf157, Hf157, Gf157⟩ := cf157
    obtain ⟨T61, h61, X61, e61, W61, st61⟩ := stJ X60 hx hZ e60 Arf157 (j := (6 : Int32)) (inb_of Sf157 ⟨by decide, by decide⟩) (g := (mkF m 86 #[.val (.long q0), .second, .val (.long q1), .second, .val (.long q2), .second, .val (.long q3), .second, .val (.long qf), .second, .val (.int p5), .val (.int (3 : Int32)), .val (.ref b50), .unset, .unset, .unset, .unset, .unset, .unset, .unset, .unset, .unset] [(.long q3), (.int (6 : Int32)), (.ref b50)])) rfl rfl (hb hby at_86)
    have V61 : Arv Z h61 b50 kc50 .long (7 : Int32) [(.long qf), (.long qf), (.long qf), (.long q0), (.long q1), (.long q2), (.long q3)] (.long (0 : Int64)) := Arv.set Arf157 qf157 Sf157 Mf157 Hf157 Gf157 rfl W61 6 rfl (Nat.le_of_ble_eq_true rfl)
    have f159 := (f156).wr W61 gn_b50
    have K61 : Keep h0 h61 [] := (K60).wr W61 (Or.inr sz_b50)
    have Z61 : n0 ≤ h61.size := Nat.le_trans Z60 (Keep.of_wr W61).1
    have N61 := Fr.snoc X61 N60 gn_b50
    refine OG.of st61 ?_
    show OG _ _ _ _ _ _ _ (T61.setTop (mkF m 87 #[.val (.long q0), .second, .val (.long q1), .second, .val (.long q2), .second, .val (.long q3), .second, .val (.long qf), .second, .val (.int p5), .val (.int (3 : Int32)), .val (.ref b50), .unset, .unset, .unset, .unset, .unset, .unset, .unset, .unset, .unset] []))
    refine OG.of (A := T61.setTop (mkF m 91 #[.val (.long q0), .second, .val (.long q1), .second, .val (.long q2), .second, .val (.long q3), .second, .val (.long qf), .second, .val (.int p5), .val (.int (3 : Int32)), .val (.ref b50), .unset, .unset, .unset, .unset, .unset, .unset, .unset, .unset, .unset] [(.int (3 : Int32)), (.ref b50)])) (fun oT oK => ?_) ?_
    · show Steps p.tables e below (T61.setTop (mkF m 87 #[.val (.long q0), .second, .val (.long q1), .second, .val (.long q2), .second, .val (.long q3), .second, .val (.long qf), .second, .val (.int p5), .val (.int (3 : Int32)), .val (.ref b50), .unset, .unset, .unset, .unset, .unset, .unset, .unset, .unset, .unset] [])) oT
      refine XS.aload X61.here hx rfl (hb hby at_87) rfl rfl  ?_
      show Steps p.tables e below (T61.setTop (mkF m 89 #[.val (.long q0), .second, .val (.long q1), .second, .val (.long q2), .second, .val (.long q3), .second, .val (.long qf), .second, .val (.int p5), .val (.int (3 : Int32)), .val (.ref b50), .unset, .unset, .unset, .unset, .unset, .unset, .unset, .unset, .unset] [(.ref b50)])) _
      refine XS.iload X61.here hx rfl (hb hby at_89) rfl  ?_
      exact oK
    show OG _ _ _ _ _ _ _ (T61.setTop (mkF m 91 #[.val (.long q0), .second, .val (.long q1), .second, .val (.long q2), .second, .val (.long q3), .second, .val (.long qf), .second, .val (.int p5), .val (.int (3 : Int32)), .val (.ref b50), .unset, .unset, .unset, .unset, .unset, .unset, .unset, .unset, .unset] [(.int (3 : Int32)), (.ref b50)]))
    obtain ⟨_, _, ⟨T62, L62, k62, n62⟩, -, X62, ⟨Lc62, hQ62, l62, y62, z62⟩, st62⟩ := Jvm.LawKit.callS X61 hx (y := (⟨"com/example/gate_to_gate/gatetogate/io/Field25519", "fromWords", "([JI)[J"⟩ : MethodName)) hown (mvT hZ (hw _ (List.mem_of_getElem? (i := 1) rfl))) (mvT hZ (hw _ (List.mem_of_getElem? (i := 2) rfl))) (mvT hZ (hw _ (List.mem_of_getElem? (i := 3) rfl))) (mvT hZ (hw _ (List.mem_of_getElem? (i := 4) rfl))) (by decide) (backOf (W := 0) (rmF l Z a0 hw [] b50 (3 : Int32) q0 q1 q2 q3 wP wB h61 n0 (Z61) f159 SP SB TP TB (own_rd V61 ⟨by decide, by decide⟩ rfl) (own_rd V61 ⟨by decide, by decide⟩ rfl) (own_rd V61 ⟨by decide, by decide⟩ rfl) (own_rd V61 ⟨by decide, by decide⟩ rfl) (own_rd V61 ⟨by decide, by decide⟩ rfl) (own_rd V61 ⟨by decide, by decide⟩ rfl)) hZ (hw _ (List.mem_of_getElem? (i := 4) rfl)) (hw _ (List.mem_of_getElem? (i := 3) rfl)) (by decide) (by decide)) (g := (mkF m 91 #[.val (.long q0), .second, .val (.long q1), .second, .val (.long q2), .second, .val (.long q3), .second, .val (.long qf), .second, .val (.int p5), .val (.int (3 : Int32)), .val (.ref b50), .unset, .unset, .unset, .unset, .unset, .unset, .unset, .unset, .unset] [(.int (3 : Int32)), (.ref b50)])) rfl (by rw [hml]; rfl) (argsL := [(.ref b50), (.int (3 : Int32))]) (rest := []) (lenOf pd___JI__J rfl) rfl (by show 2 * 0 + _ ≤ _; exact Nat.le_of_eq rfl) (hb hby at_91) (fun _ _ => ⟨rfl, e61, (by decide : 1 + 1 ≤ _), (by decide : 7 + 10 ≤ _)⟩)
    dsimp only [Pt.U, Pt.locs, Pt.cells, Pt.slots] at X62 l62 y62 z62 st62 hQ62
    subst l62 y62 z62
    obtain ⟨b, kc, rfl, N62q, Kc62, -, V62⟩ := hQ62
    have N62 := Fr.app N61 N62q
    have Z62 : n0 ≤ T62.heap.size := Nat.le_trans Z61 Kc62.1
    refine OG.of st62 ?_
    exact own_tail q0 q1 q2 q3 qf p5 (3 : Int32) b50 b kc X62 hx hZ hw hby hml hown hlk Bd.returns rfl N62 Z62 V62
set_option maxRecDepth 65536 in
set_option maxHeartbeats 40000000 in
theorem comes_1 {Post : Tables → Env → Array Value → State → Outcome → State → Prop} (hpost : ∀ tb e args s v u, (limb_1_1.after args s (.returned v) u = true ∧ limb_1_2.after args s (.returned v) u = true ∧ True) → FrameEnd s (.returned v) u (Jvm.fieldLocs frame_1_writes args s ++ Jvm.arrayLocs frame_1_arrays args s ++ Jvm.staticLocs frame_1_statics s) 16 128 → Post tb e args s (.returned v) u) :
    ArmFor flags0 classFile x code maxLocals ret World_1 tables_1 room_1 Calls_1 rest_1 Pre_1 Post := by
  intro l hfl _ _ p e ha hc hk s m args below hf hA hF happ hP
  obtain ⟨hcalls, hrest, hpre⟩ := hP
  obtain ⟨-, -, -, hnamed, -, -, -, hat⟩ := (Spec.applies_iff hf).mp happ
  obtain ⟨hg, hn⟩ := and_e (Cond.before_iff.mp (show (Jvm.Cond.and given_1 narrow_1).before args s = true from hpre))
  obtain ⟨g1, g2⟩ := and_e hg
  obtain ⟨g3, g4⟩ := and_e g2
  obtain ⟨g5, g6⟩ := and_e g4
  obtain ⟨g7, g8⟩ := and_e g6
  obtain ⟨g9, g10⟩ := and_e g8
  obtain ⟨g11, g12⟩ := and_e g10
  obtain ⟨w0, w1, w2, w3, w4, w5, rfl⟩ : ∃ w0 w1 w2 w3 w4 w5 : Value, args = #[w0, w1, w2, w3, w4, w5] := by
    have hs : args.size = 6 := by simpa [Cond.value, given_1] using g1
    obtain ⟨L⟩ := args
    match L, hs with
    | [w0, w1, w2, w3, w4, w5], _ => exact ⟨w0, w1, w2, w3, w4, w5, rfl⟩
  have hw := fun d (hd : d ∈ tables_1) => atoms_spec (ws := Jvm.Cond.code x code maxLocals ret :: tables_1) hat d (List.mem_cons_of_mem _ hd)
  have hfit : Fit s := fun {y c} hc i hi => by
    obtain ⟨ha, rfl⟩ := Array.getElem?_eq_some_iff.mp hc
    have q := List.all_eq_true.mp ((Array.all_eq_true_iff_forall_mem.mp hF) _ (Array.getElem_mem ha)) i (List.mem_range.mpr hi)
    simpa [Array.getElem?_eq_getElem hi] using q
  obtain ⟨i0, ei0⟩ := isL_v g3
  obtain rfl : w0 = (.long i0) := Option.some.inj ei0
  obtain ⟨i1, ei1⟩ := isL_v g5
  obtain rfl : w1 = (.long i1) := Option.some.inj ei1
  obtain ⟨i2, ei2⟩ := isL_v g7
  obtain rfl : w2 = (.long i2) := Option.some.inj ei2
  obtain ⟨i3, ei3⟩ := isL_v g9
  obtain rfl : w3 = (.long i3) := Option.some.inj ei3
  obtain ⟨i4, ei4⟩ := isL_v g11
  obtain rfl : w4 = (.long i4) := Option.some.inj ei4
  obtain ⟨i5, ei5⟩ := is_v g12
  obtain rfl : w5 = (.int i5) := Option.some.inj ei5
  obtain ⟨na1, na2⟩ := and_e hn
  obtain ⟨na3, na4⟩ := and_e na2
  obtain ⟨na5, na6⟩ := and_e na4
  obtain ⟨na7, na8⟩ := and_e na6
  obtain ⟨na9, na10⟩ := and_e na8
  obtain ⟨na11, na12⟩ := and_e na10
  obtain ⟨na13, na14⟩ := and_e na12
  obtain ⟨na15, na16⟩ := and_e na14
  obtain ⟨na17, na18⟩ := and_e na16
  obtain ⟨na19, na20⟩ := and_e na18
  obtain ⟨na21, na22⟩ := and_e na20
  obtain ⟨na23, na24⟩ := and_e na22
  obtain ⟨na25, na26⟩ := and_e na24
  obtain ⟨na27, na28⟩ := and_e na26
  obtain ⟨na29, na30⟩ := and_e na28
  obtain ⟨na31, na32⟩ := and_e na30
  obtain ⟨na33, na34⟩ := and_e na32
  obtain ⟨na35, na36⟩ := and_e na34
  obtain ⟨na37, na38⟩ := and_e na36
  obtain ⟨na39, na40⟩ := and_e na38
  obtain ⟨na41, na42⟩ := and_e na40
  obtain ⟨na43, na44⟩ := and_e na42
  obtain ⟨na45, na46⟩ := and_e na44
  obtain ⟨w_POSITIONS, ev_POSITIONS⟩ := arr_v na1
  have S_POSITIONS := Sta.start ev_POSITIONS (Or.inr ⟨(hw _ (List.mem_of_getElem? (i := 3) rfl)), (hw _ (List.mem_of_getElem? (i := 6) rfl))⟩)
  have T_POSITIONS : ∀ j, j < 10 → ORd s s.heap w_POSITIONS .int (Int32.ofNat j) (.int (own_pos j)) := fun j hj => by
    match j, hj with
    | 0, _ => exact ORd.start ev_POSITIONS na1 (by decide) (own_eqI na9)
    | 1, _ => exact ORd.start ev_POSITIONS na1 (by decide) (own_eqI na11)
    | 2, _ => exact ORd.start ev_POSITIONS na1 (by decide) (own_eqI na13)
    | 3, _ => exact ORd.start ev_POSITIONS na1 (by decide) (own_eqI na15)
    | 4, _ => exact ORd.start ev_POSITIONS na1 (by decide) (own_eqI na17)
    | 5, _ => exact ORd.start ev_POSITIONS na1 (by decide) (own_eqI na19)
    | 6, _ => exact ORd.start ev_POSITIONS na1 (by decide) (own_eqI na21)
    | 7, _ => exact ORd.start ev_POSITIONS na1 (by decide) (own_eqI na23)
    | 8, _ => exact ORd.start ev_POSITIONS na1 (by decide) (own_eqI na25)
    | 9, _ => exact ORd.start ev_POSITIONS na1 (by decide) (own_eqI na27)
  obtain ⟨w_BITS, ev_BITS⟩ := arr_v na5
  have S_BITS := Sta.start ev_BITS (Or.inr ⟨(hw _ (List.mem_of_getElem? (i := 3) rfl)), (hw _ (List.mem_of_getElem? (i := 8) rfl))⟩)
  have T_BITS : ∀ j, j < 10 → ORd s s.heap w_BITS .int (Int32.ofNat j) (.int (own_bits j)) := fun j hj => by
    match j, hj with
    | 0, _ => exact ORd.start ev_BITS na5 (by decide) (own_eqI na29)
    | 1, _ => exact ORd.start ev_BITS na5 (by decide) (own_eqI na31)
    | 2, _ => exact ORd.start ev_BITS na5 (by decide) (own_eqI na33)
    | 3, _ => exact ORd.start ev_BITS na5 (by decide) (own_eqI na35)
    | 4, _ => exact ORd.start ev_BITS na5 (by decide) (own_eqI na37)
    | 5, _ => exact ORd.start ev_BITS na5 (by decide) (own_eqI na39)
    | 6, _ => exact ORd.start ev_BITS na5 (by decide) (own_eqI na41)
    | 7, _ => exact ORd.start ev_BITS na5 (by decide) (own_eqI na43)
    | 8, _ => exact ORd.start ev_BITS na5 (by decide) (own_eqI na45)
    | 9, _ => exact ORd.start ev_BITS na5 (by decide) (own_eqI na46)
  obtain ⟨n, o, h1, h2, h3, _, L, rfl, ⟨rfl, N⟩, hq⟩ := rm0 l s _ hw tables_1 i0 i1 i2 i3 i4 i5 w_POSITIONS w_BITS s.heap s.heap.size (Nat.le_refl _) (Old.start s) S_POSITIONS S_BITS T_POSITIONS T_BITS p e ha hc hk s m _ below hf ((Spec.applies_iff_loose hf).mp happ).1 ⟨rfl, State.Warmed39.refl s, rfl⟩ trivial
  refine ⟨n, _, h1, h2, h3, hpost _ _ _ _ _ _ ⟨Cond.after_iff.mpr rfl, Cond.after_iff.mpr (eq_i res_at (Term.int_eval (1)) rfl), trivial⟩ ⟨hq.1, hq.2.1, (hq.2.2.sift fun y hy => Or.inr (N y hy)).mono (by decide) (by decide)⟩⟩
theorem main_1_1 : Claimed_1_1 := comes_1 fun _ _ _ _ _ _ h hF => ⟨h.1, hF⟩
theorem main_1_2 : Claimed_1_2 := comes_1 fun _ _ _ _ _ _ h hF => ⟨h.2.1, hF⟩
end Jvm.Pilot.@@N@@
namespace Jvm.Pilot.@@N@@
open Jvm Jvm.ClassFile Sem Op Lib Jvm.Free Jvm.Stand Jvm.Pilot.@@N@@.Jvm.D
/-! MADE BY PROGRAM (witnessworld.py) out of the Statement's table words and the real class files: 11 classes; the members and pool entries that the words name. The judged class is class 1, her method 1. -/
namespace start1
open Jvm.ClassFile
def u (s : String) : CpInfo := .utf8 (stringToUtf16 s)
/-- a pool by its gaps: so many unusable entries, then the entry; so many at the end -/
def gap : Nat → List CpInfo → List CpInfo
  | 0, r => r
  | n + 1, r => .unusable :: gap n r
def poolList (es : List (Nat × CpInfo)) (last : Nat) : List CpInfo := es.foldr (fun e r => gap e.1 (e.2 :: r)) (gap last [])
def pool (es : List (Nat × CpInfo)) (last : Nat) : Array CpInfo := ⟨poolList es last⟩
def fileOf (pool : Array CpInfo) (this : Nat) (attrs : Array Attribute := #[]) (ms : Array MethodInfo := #[]) (fl : Nat := 33) (sup : Nat := 0) (ifs : Array Nat := #[]) (fds : Array FieldInfo := #[]) : ClassFile where
  minorVersion := 0
  majorVersion := 65
  constantPool := pool
  accessFlags := fl
  thisClass := this
  superClass := sup
  interfaces := ifs
  fields := fds
  methods := ms
  attributes := attrs
def plain (name : String) (sup : Option ClassId) : Class where
  name := name
  kind := .ordinary
  loader := none
  accessFlags := 33
  super := sup
  interfaces := #[]
  cf := none
  fields := #[]
  methods := #[]
  instanceTypes := #[]
  staticTypes := #[]
  resolved := #[]
  callSites := []
  init := .initialized
  statics := none
  mirror := none

def pool0 : Array CpInfo := pool [(5, u "<init>"), (0, u "()V"), (1, .class_ 10), (1, u "java/lang/Object")] 113

def k0m0 : Method := { name := "<init>", desc := "()V", sig := { parameters := [], returnType := none }, accessFlags := 1, code := none }
/-- java/lang/Object -/
def k0 : Class := { plain "java/lang/Object" none with
  accessFlags := 33
  interfaces := #[]
  cf := some (fileOf pool0 8 #[] #[{ accessFlags := 1, nameIndex := 5, descriptorIndex := 6, attributes := #[] }] 33 0 #[] #[])
  fields := #[]
  methods := #[k0m0]
  instanceTypes := #[]
  staticTypes := #[]
  resolved := Array.replicate 124 none
  statics := none }

def pool1 : Array CpInfo := pool [(2, .class_ 4), (1, u "java/lang/Object"), (0, u "<init>"), (0, u "()V"), (0, .methodref 8 9), (0, .class_ 10), (0, .nameAndType 11 12), (0, u "com/example/gate_to_gate/gatetogate/io/Field25519"), (0, u "fromWords"), (0, u "([JI)[J"), (0, .methodref 14 15), (0, .class_ 16), (0, .nameAndType 17 18), (0, u "com/example/gate_to_gate/gatetogate/io/Field25519FromWordsPinLaw"), (0, u "in"), (0, u "(JI)Z"), (0, .long 9223372036854775807), (3, u "law"), (0, u "(JJJJJI)Z")] 5

def k1m0 : Method := { name := "<init>", desc := "()V", sig := { parameters := [], returnType := none }, accessFlags := 1, code := none }
def k1c1 : Code := { maxStack := 6, maxLocals := 22, code := code, exceptionTable := #[], attributes := #[] }
def k1m1 : Method := { name := "law", desc := "(JJJJJI)Z", sig := { parameters := [.long, .long, .long, .long, .long, .int], returnType := some .boolean }, accessFlags := 9, code := some k1c1 }
def k1c2 : Code := { maxStack := 5, maxLocals := 3, code := method_3_code, exceptionTable := #[], attributes := #[] }
def k1m2 : Method := { name := "in", desc := "(JI)Z", sig := { parameters := [.long, .int], returnType := some .boolean }, accessFlags := 10, code := some k1c2 }
/-- com/example/gate_to_gate/gatetogate/io/Field25519FromWordsPinLaw -/
def k1 : Class := { plain "com/example/gate_to_gate/gatetogate/io/Field25519FromWordsPinLaw" (some 0) with
  accessFlags := 49
  interfaces := #[]
  cf := some (fileOf pool1 14 #[] #[{ accessFlags := 1, nameIndex := 5, descriptorIndex := 6, attributes := #[] }, { accessFlags := 9, nameIndex := 23, descriptorIndex := 24, attributes := #[] }, { accessFlags := 10, nameIndex := 17, descriptorIndex := 18, attributes := #[] }] 49 2 #[] #[])
  fields := #[]
  methods := #[k1m0, k1m1, k1m2]
  instanceTypes := #[]
  staticTypes := #[]
  resolved := Array.replicate 30 none
  statics := none }

def pool2 : Array CpInfo := pool [(2, .class_ 4), (1, u "java/lang/Object"), (0, u "<init>"), (0, u "()V"), (0, .class_ 8), (0, u "com/example/gate_to_gate/gatetogate/io/Field25519"), (0, .fieldref 7 10), (0, .nameAndType 11 12), (0, u "POSITIONS"), (0, u "[I"), (4, .fieldref 7 18), (0, .nameAndType 19 12), (0, u "BITS"), (35, u "([JI)[J"), (9, u "LIMBS"), (0, u "I"), (2, u "ENCODED_LENGTH"), (8, u "fromWords")] 13

def k2m0 : Method := { name := "<init>", desc := "()V", sig := { parameters := [], returnType := none }, accessFlags := 2, code := none }
def k2c1 : Code := { maxStack := 8, maxLocals := 9, code := prog_16_method_4_code, exceptionTable := #[], attributes := #[] }
def k2m1 : Method := { name := "fromWords", desc := "([JI)[J", sig := { parameters := [(.array .long), .int], returnType := some (.array .long) }, accessFlags := 8, code := some k2c1 }
/-- com/example/gate_to_gate/gatetogate/io/Field25519 -/
def k2 : Class := { plain "com/example/gate_to_gate/gatetogate/io/Field25519" (some 0) with
  accessFlags := 48
  interfaces := #[]
  cf := some (fileOf pool2 7 #[] #[{ accessFlags := 2, nameIndex := 5, descriptorIndex := 6, attributes := #[] }, { accessFlags := 8, nameIndex := 78, descriptorIndex := 55, attributes := #[] }] 48 2 #[] #[{ accessFlags := 24, nameIndex := 65, descriptorIndex := 66, attributes := #[] }, { accessFlags := 26, nameIndex := 19, descriptorIndex := 12, attributes := #[] }, { accessFlags := 26, nameIndex := 11, descriptorIndex := 12, attributes := #[] }, { accessFlags := 24, nameIndex := 69, descriptorIndex := 66, attributes := #[] }])
  fields := #[{ name := "LIMBS", type := .int, accessFlags := 24, slot := 0, constantValue := 0 }, { name := "BITS", type := (.array .int), accessFlags := 26, slot := 1, constantValue := 0 }, { name := "POSITIONS", type := (.array .int), accessFlags := 26, slot := 2, constantValue := 0 }, { name := "ENCODED_LENGTH", type := .int, accessFlags := 24, slot := 3, constantValue := 0 }]
  methods := #[k2m0, k2m1]
  instanceTypes := #[]
  staticTypes := #[.int, (.array .int), (.array .int), .int]
  resolved := Array.replicate 92 none
  statics := some 0 }

def pool3 : Array CpInfo := pool [(1, u "java/lang/Cloneable"), (0, .class_ 1), (0, u "java/lang/Object"), (0, .class_ 3)] 3

/-- java/lang/Cloneable -/
def k3 : Class := { plain "java/lang/Cloneable" (some 0) with
  accessFlags := 1537
  interfaces := #[]
  cf := some (fileOf pool3 2 #[] #[] 1537 4 #[] #[])
  fields := #[]
  methods := #[]
  instanceTypes := #[]
  staticTypes := #[]
  resolved := Array.replicate 8 none
  statics := none }

def pool4 : Array CpInfo := pool [(1, u "java/io/Serializable"), (0, .class_ 1), (0, u "java/lang/Object"), (0, .class_ 3)] 3

/-- java/io/Serializable -/
def k4 : Class := { plain "java/io/Serializable" (some 0) with
  accessFlags := 1537
  interfaces := #[]
  cf := some (fileOf pool4 2 #[] #[] 1537 4 #[] #[])
  fields := #[]
  methods := #[]
  instanceTypes := #[]
  staticTypes := #[]
  resolved := Array.replicate 8 none
  statics := none }

/-- the primitive byte -/
def k5 : Class := { plain "byte" none with kind := .primitive 'B', accessFlags := 0x411 }
/-- [B -/
def k6 : Class := { plain "[B" (some 0) with kind := .array 5 .byte, interfaces := #[3, 4], accessFlags := 1041 }

/-- the primitive int -/
def k7 : Class := { plain "int" none with kind := .primitive 'I', accessFlags := 0x411 }
/-- [I -/
def k8 : Class := { plain "[I" (some 0) with kind := .array 7 .int, interfaces := #[3, 4], accessFlags := 1041 }

/-- the primitive long -/
def k9 : Class := { plain "long" none with kind := .primitive 'J', accessFlags := 0x411 }
/-- [J -/
def k10 : Class := { plain "[J" (some 0) with kind := .array 9 .long, interfaces := #[3, 4], accessFlags := 1041 }

def heap : Heap := #[{ cls := 2, slots := #[.int 0, .ref 2, .ref 1, .int 0], vm := .statics 2 },
  { cls := 8, slots := #[.int 0, .int 26, .int 51, .int 77, .int 102, .int 128, .int 153, .int 179, .int 204, .int 230], vm := .none },
  { cls := 8, slots := #[.int 26, .int 25, .int 26, .int 25, .int 26, .int 25, .int 26, .int 25, .int 26, .int 25], vm := .none }]
def classes : Array Class := #[k0, k1, k2, k3, k4, k5, k6, k7, k8, k9, k10]
def interned : List (Array UInt16 × Addr) := []
def slotsUsed : Nat := 24
def theMethod : MethodId := ⟨1, 1⟩
def args0 : Array Value := #[.long 5, .long 6, .long 7, .long 8, .long 9, .int 1]
def aboutOver (below : List Frame) : State where
  vm := { classes := classes, interned := interned.toArray }
  heap := heap
  slotsUsed := slotsUsed
  threads := #[{ frames := .invoking theMethod args0 :: below }]
def below0 : List Frame := [.native { method := ⟨0, 0⟩, args := #[] }]
def about1 : State := aboutOver below0
def p0 : Program := .bare "" "" ""
def e0 : Env := launch0.env 0 0 0
theorem w_frames : about1.frames = Frame.invoking theMethod args0 :: below0 := rfl
set_option maxRecDepth 65536 in
theorem w_args : argsFit about1.vm theMethod args0 = true := by decide +kernel
set_option maxRecDepth 65536 in
theorem w_heap : heapFits about1 = true := by decide +kernel
set_option maxRecDepth 65536 in
theorem w_runnable : about1.curStatus? = some .runnable := by decide +kernel
set_option maxRecDepth 65536 in
theorem w_alone : about1.alone = true := by decide +kernel
set_option maxRecDepth 65536 in
theorem w_named : about1.methodNamed? x = some theMethod := by decide +kernel
set_option maxRecDepth 65536 in
theorem w_hears : about1.hears theMethod below0 = true := by decide +kernel
set_option maxRecDepth 65536 in
theorem w_ripe : about1.ripe theMethod args0 below0 = true := by decide +kernel
theorem w_running : about1.status = .running := rfl
set_option maxRecDepth 65536 in
theorem w_room : about1.hasRoom e0.platform room_1 = true :=
  launch0.hasRoom_least _ room_1 (by decide +kernel) (by decide +kernel) (by decide +kernel) (by decide +kernel) (by decide +kernel) (by decide +kernel)
theorem allAtoms_all (ts : List Jvm.Cond) (a : Array Jvm.Value) (st : Jvm.State) : (allAtoms ts).before a st = ts.all (fun c => c.before a st) := by
  induction ts with
  | nil => rfl
  | cons c t ih =>
    show (Jvm.Cond.and c (allAtoms t)).before a st = _
    rw [Jvm.Cond.before_and, ih, List.all_cons]
def words1 : List Jvm.Cond := Jvm.Cond.code x code maxLocals ret :: tables_1
/-- a 'code' word, met by the world's own term for the bytes: nothing is compared byte by byte -/
theorem code_word {y : MethodName} {bytes : ByteArray} {mx : Nat} {rt : Option FieldType} {a : Array Value} {s : State} {m : MethodId} {meth : Method} {c : Code} (h1 : s.methodNamed? y = some m) (h2 : s.vm.method? m = some meth) (h3 : meth.code = some c) (h4 : c.code = bytes)
    (h5 : (c.maxLocals == mx && c.exceptionTable.isEmpty && decide (c.maxStack ≤ mostOperands) && decide (meth.sig.returnType = rt) && !meth.locks && decide (parseMethodDescriptor y.desc = some meth.sig)) = true) : (Jvm.Cond.code y bytes mx rt).before a s = true := by
  simp only [Bool.and_eq_true, beq_iff_eq, Bool.not_eq_true', decide_eq_true_eq] at h5
  obtain ⟨⟨⟨⟨⟨g1, g2⟩, g3⟩, g4⟩, g5⟩, g6⟩ := h5
  simp [Cond.before, Cond.holds, Cond.value, h1, h2, h3, h4, g1, g2, g3, g4, g5, g6]
def isCode : Jvm.Cond → Bool
  | .code _ _ _ _ => true
  | _ => false
theorem all_split {L : List Jvm.Cond} {P : Jvm.Cond → Bool} (h1 : L.all (fun c => isCode c || P c) = true) (h2 : ∀ c ∈ L.filter isCode, P c = true) : L.all P = true := by
  refine List.all_eq_true.mpr fun c hc => ?_
  have h := List.all_eq_true.mp h1 c hc
  rcases Bool.eq_false_or_eq_true (isCode c) with hi | hi
  · exact h2 c (List.mem_filter.mpr ⟨hc, hi⟩)
  · simpa [hi] using h
set_option maxRecDepth 65536 in
theorem w_c0 : (Jvm.Cond.code x code maxLocals ret).before args0 about1 = true := code_word (m := ⟨1, 1⟩) (meth := k1m1) (c := k1c1) (by decide +kernel) rfl rfl rfl (by decide +kernel)
set_option maxRecDepth 65536 in
theorem w_c1 : (Jvm.Cond.code ({ cls := "com/example/gate_to_gate/gatetogate/io/Field25519", name := "fromWords", desc := "([JI)[J" } : Jvm.MethodName) prog_16_method_4_code (9 : Nat) (Option.some (Jvm.ClassFile.FieldType.array Jvm.ClassFile.FieldType.long))).before args0 about1 = true := code_word (m := ⟨2, 1⟩) (meth := k2m1) (c := k2c1) (by decide +kernel) rfl rfl rfl (by decide +kernel)
set_option maxRecDepth 65536 in
theorem w_c2 : (Jvm.Cond.code ({ cls := "com/example/gate_to_gate/gatetogate/io/Field25519FromWordsPinLaw", name := "in", desc := "(JI)Z" } : Jvm.MethodName) method_3_code (3 : Nat) (Option.some Jvm.ClassFile.FieldType.boolean)).before args0 about1 = true := code_word (m := ⟨1, 2⟩) (meth := k1m2) (c := k1c2) (by decide +kernel) rfl rfl rfl (by decide +kernel)
def codes1 : List Jvm.Cond := [Jvm.Cond.code x code maxLocals ret, Jvm.Cond.code ({ cls := "com/example/gate_to_gate/gatetogate/io/Field25519", name := "fromWords", desc := "([JI)[J" } : Jvm.MethodName) prog_16_method_4_code (9 : Nat) (Option.some (Jvm.ClassFile.FieldType.array Jvm.ClassFile.FieldType.long)), Jvm.Cond.code ({ cls := "com/example/gate_to_gate/gatetogate/io/Field25519FromWordsPinLaw", name := "in", desc := "(JI)Z" } : Jvm.MethodName) method_3_code (3 : Nat) (Option.some Jvm.ClassFile.FieldType.boolean)]
set_option maxRecDepth 65536 in
theorem codes_eq : words1.filter isCode = codes1 := rfl
theorem w_codes : ∀ c ∈ words1.filter isCode, c.before args0 about1 = true := by
  rw [codes_eq]
  intro c hc
  simp only [codes1, List.mem_cons, List.not_mem_nil, or_false] at hc
  rcases hc with rfl | rfl | rfl
  · exact w_c0
  · exact w_c1
  · exact w_c2
set_option maxRecDepth 65536 in
theorem w_t1 : words1.all (fun c => isCode c || c.before args0 about1) = true := by decide +kernel
theorem w_tables : (allAtoms (Jvm.Cond.code x code maxLocals ret :: tables_1)).before args0 about1 = true := by
  rw [allAtoms_all]
  show words1.all (fun c => c.before args0 about1) = true
  refine all_split ?_ w_codes
  rw [w_t1]
set_option maxRecDepth 65536 in
theorem w_case : (Jvm.Cond.and given_1 narrow_1).before args0 about1 = true := by decide +kernel
theorem w_applies : (headSpec (Jvm.Cond.code x code maxLocals ret :: tables_1) room_1).applies x e0.platform about1 = true :=
  (Spec.applies_iff w_frames).mpr ⟨w_running, w_runnable, w_alone, w_named, w_hears, w_ripe, w_room, w_tables⟩
theorem atStart : AtStart classFile x code maxLocals ret World_1 tables_1 room_1 Calls_1 rest_1 Pre_1 launch0 p0 e0 about1 theMethod args0 below0 :=
  ⟨lists_1, trivial, launch0.admits_env _ _ _, launch0.least_env, fairChoices_fair.cas, fairChoices_fair.clock, w_frames, w_args, w_heap, w_applies, trivial, trivial, w_case⟩
end start1
theorem witness_1 : WitnessClaimed_1 := ⟨start1.p0, start1.e0, start1.about1, start1.theMethod, start1.args0, start1.below0, start1.atStart⟩
end Jvm.Pilot.@@N@@
