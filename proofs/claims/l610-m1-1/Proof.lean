import JvmDerived
import JvmDerived.Pilot.@@N@@Statement
import JvmDerived.Pilot.@@N@@Code
set_option linter.unusedVariables false
set_option linter.unusedSimpArgs false
namespace Jvm.Pilot.@@N@@
open Jvm Jvm.ClassFile Sem Op Lib Jvm.Free Jvm.Stand Jvm.LawKit Jvm.RoadKit Bundle Jvm.Pilot.@@N@@.Jvm.D
section Own
variable {p : Program} {l : Launch} {e : Env} {R : Room} {s : State} {m : MethodId} {args : Array Value} {below : List Frame} {meth : Method} {c : Code} {T : State} {locs : List Loc} {cells slots : Nat} {k n : Nat} {P : Option Value → Heap → List Loc → Prop} {A B : State}
/-- from S0 the run comes to a return with what P says -/
def OG (p : Program) (e : Env) (below : List Frame) (s : State) (k n : Nat) (P : Option Value → Heap → List Loc → Prop) (S0 : State) : Prop :=
  ∃ s₂ o, Steps p.tables e below S0 s₂ ∧ s₂.status = .running ∧ Ended s₂ below o ∧ ∃ v L, o = .returned v ∧ P v s₂.heap L ∧ FrameEnd s o s₂ L k n
theorem OG.trans (h : Steps p.tables e below B A) (g : OG p e below s k n P A) : OG p e below s k n P B := by
  obtain ⟨s₂, o, h1, r⟩ := g
  exact ⟨s₂, o, h.trans h1, r⟩
theorem OG.of (h : ∀ t, Steps p.tables e below A t → Steps p.tables e below B t) (g : OG p e below s k n P A) : OG p e below s k n P B := by
  obtain ⟨s₂, o, h1, r⟩ := g
  exact ⟨s₂, o, h _ h1, r⟩
theorem OG.retN (X : Stand p l e R s m args below meth c T locs cells slots) (hx : p.tables.exec = Jvm.exec) {pc : Nat} {Ls : Array Slot} {z : Int32} {t : FieldType} {rest : List Value} (hret : meth.sig.returnType = some t) (ht : t = .boolean ∨ t = .byte ∨ t = .char ∨ t = .short) (hd : decode c.code pc = .ok (.ireturn, 1)) (hlk : meth.locks = false)
    (hP : P (some (.int (nar t z))) T.heap locs) (hc : cells ≤ k) (hs : slots ≤ n) : OG p e below s k n P (T.setTop (mkF m pc Ls (.int z :: rest))) := by
  obtain ⟨fs, hr, hrun, hended, hW, hsame⟩ := X.leave (v := some (.int (nar t z))) (fun h => by rw [hret] at h; cases h) hlk
  exact ⟨_, _, Jvm.RoadKit.retN X hx hret ht hd hr, hrun, hended, _, _, rfl, hP, ⟨_, rfl⟩, hW, hsame.mono hc hs⟩
theorem OG.retI (X : Stand p l e R s m args below meth c T locs cells slots) (hx : p.tables.exec = Jvm.exec) {pc : Nat} {Ls : Array Slot} {z : Int32} {rest : List Value} (hret : meth.sig.returnType = some .int) (hd : decode c.code pc = .ok (.ireturn, 1)) (hlk : meth.locks = false)
    (hP : P (some (.int z)) T.heap locs) (hc : cells ≤ k) (hs : slots ≤ n) : OG p e below s k n P (T.setTop (mkF m pc Ls (.int z :: rest))) := by
  obtain ⟨fs, hr, hrun, hended, hW, hsame⟩ := X.leave (v := some (.int z)) (fun h => by rw [hret] at h; cases h) hlk
  exact ⟨_, _, retOut X hx hret rfl (Or.inl ⟨rfl, Or.inl rfl, _, rfl⟩) hd hr, hrun, hended, _, _, rfl, hP, ⟨_, rfl⟩, hW, hsame.mono hc hs⟩
theorem OG.retJ (X : Stand p l e R s m args below meth c T locs cells slots) (hx : p.tables.exec = Jvm.exec) {pc : Nat} {Ls : Array Slot} {z : Int64} {rest : List Value} (hret : meth.sig.returnType = some .long) (hd : decode c.code pc = .ok (.lreturn, 1)) (hlk : meth.locks = false)
    (hP : P (some (.long z)) T.heap locs) (hc : cells ≤ k) (hs : slots ≤ n) : OG p e below s k n P (T.setTop (mkF m pc Ls (.long z :: rest))) := by
  obtain ⟨fs, hr, hrun, hended, hW, hsame⟩ := X.leave (v := some (.long z)) (fun h => by rw [hret] at h; cases h) hlk
  exact ⟨_, _, retOut X hx hret rfl (Or.inr (Or.inl ⟨rfl, rfl, _, rfl⟩)) hd hr, hrun, hended, _, _, rfl, hP, ⟨_, rfl⟩, hW, hsame.mono hc hs⟩
theorem OG.retA (X : Stand p l e R s m args below meth c T locs cells slots) (hx : p.tables.exec = Jvm.exec) {pc : Nat} {Ls : Array Slot} {w : Value} {t : FieldType} {rest : List Value} (hret : meth.sig.returnType = some t) (ht : t.isReference = true) (hw : w.isRef = true) (hd : decode c.code pc = .ok (.areturn, 1)) (hlk : meth.locks = false)
    (hP : P (some w) T.heap locs) (hc : cells ≤ k) (hs : slots ≤ n) : OG p e below s k n P (T.setTop (mkF m pc Ls (w :: rest))) := by
  obtain ⟨fs, hr, hrun, hended, hW, hsame⟩ := X.leave (v := some w) (fun h => by rw [hret] at h; cases h) hlk
  have hn : narrow t w = w := by cases t <;> first | (cases ht; done) | rfl
  exact ⟨_, _, retOut X hx hret hn (Or.inr (Or.inr (Or.inr (Or.inr ⟨rfl, ht, hw⟩)))) hd hr, hrun, hended, _, _, rfl, hP, ⟨_, rfl⟩, hW, hsame.mono hc hs⟩
theorem OG.retV (X : Stand p l e R s m args below meth c T locs cells slots) (hx : p.tables.exec = Jvm.exec) {pc : Nat} {Ls : Array Slot} (hret : meth.sig.returnType = none) (hd : decode c.code pc = .ok (.return_, 1)) (hlk : meth.locks = false)
    (hP : P none T.heap locs) (hc : cells ≤ k) (hs : slots ≤ n) : OG p e below s k n P (T.setTop (mkF m pc Ls [])) := by
  obtain ⟨fs, hr, hrun, hended, hW, hsame⟩ := X.leave (v := none) (fun _ => rfl) hlk
  exact ⟨_, _, X.returnOut hx hret hd hr, hrun, hended, _, _, rfl, hP, ⟨_, rfl⟩, hW, hsame.mono hc hs⟩
theorem own_catI (x : Int32) : (Value.int x).category = 1 := rfl
theorem own_catJ (x : Int64) : (Value.long x).category = 2 := rfl
theorem own_catR (x : Addr) : (Value.ref x).category = 1 := rfl
theorem own_catN : Value.null.category = 1 := rfl
theorem own_narB {z : Int32} (h : z = 0 ∨ z = 1) : nar .boolean z = z := by rcases h with rfl | rfl <;> rfl
theorem own_ite01 {c : Prop} [Decidable c] : (if c then (1 : Int32) else 0) = 0 ∨ (if c then (1 : Int32) else 0) = 1 := by by_cases h : c <;> simp [h]
theorem own_eqI {args : Array Value} {first st : State} {o : Option Outcome} {idx : List Nat} {t : Term} {x : Int32} (h : (Jvm.Cond.eq t (.int x)).value args first o st idx = some true) : t.eval args first o idx st = some (.int x) := by
  obtain ⟨a, b, ha, hb, k1, k2⟩ := cmp_v (Or.inl h)
  obtain rfl : Value.int x = b := Option.some.inj hb
  obtain ⟨z, rfl⟩ := k2
  have hz := gotT (P := z = x) (by simp [Cond.value, ha, hb]) h
  rw [ha, hz]
/-- the array at a (of the kind ty) holds v at the place j -/
def ORd (Z : State) (h : Heap) (a : Addr) (ty : FieldType) (j : Int32) (v : Value) : Prop := ∃ cl : Cell, Arr Z h a cl ty ∧ ¬ (j < 0 ∨ cl.slots.size ≤ j.toNatClampNeg) ∧ cl.slots[j.toNatClampNeg]? = some v
theorem own_rd {Z : State} {h : Heap} {a : Addr} {kc : ClassId} {ty : FieldType} {z j : Int32} {vs : List Value} {d v : Value} (F : Arv Z h a kc ty z vs d) (hj : ¬ j < 0 ∧ j < z) (hv : vs.getD j.toNatClampNeg d = v) : ORd Z h a ty j v := by
  obtain ⟨cl, A, -, S, -, H, -⟩ := F
  exact ⟨cl, A, inb_of S hj, H.at (inb_of S hj) hv⟩
theorem ORd.ext {Z : State} {h h' : Heap} {a : Addr} {ty : FieldType} {j : Int32} {v : Value} (F : ORd Z h a ty j v) (E : Ext h h') : ORd Z h' a ty j v := by
  obtain ⟨cl, A, r⟩ := F; exact ⟨cl, A.ext E, r⟩
theorem ORd.other {Z : State} {h h' : Heap} {a b : Addr} {ty : FieldType} {j : Int32} {v w : Value} {sl : Nat} (F : ORd Z h a ty j v) (W : Wr h h' b sl w) (q : a ≠ b) : ORd Z h' a ty j v := by
  obtain ⟨cl, A, r⟩ := F; exact ⟨cl, A.other W q, r⟩
theorem ORd.keep {Z : State} {h h' : Heap} {a : Addr} {ty : FieldType} {j : Int32} {v : Value} {ws : List Addr} (F : ORd Z h a ty j v) (K : Keep h h' ws) (q : a ∉ ws) : ORd Z h' a ty j v := by
  obtain ⟨cl, A, r⟩ := F; exact ⟨cl, ⟨K.2.1 a cl A.1 q, A.2⟩, r⟩
theorem ORd.lt {Z : State} {h : Heap} {a : Addr} {ty : FieldType} {j : Int32} {v : Value} (F : ORd Z h a ty j v) : a < h.size := by
  obtain ⟨cl, A, r⟩ := F; exact A.lt
theorem ORd.start {Z : State} {args : Array Value} {t : Term} {a : Addr} {ty : FieldType} {j : Int32} {v : Value} (ev : t.eval args Z none [] Z = some (.ref a)) (hx : (Jvm.Cond.arrayOf t ty).value args Z none Z [] = some true) (hj : ¬ j < 0) (he : (Term.elem t (.int j)).eval args Z none [] Z = some v) : ORd Z Z.heap a ty j v := by
  obtain ⟨c, A⟩ := Arr.start ev hx
  have hA : Z.arrayAt? a = some c := Arr.fin (Vm.Alike.refl _) A
  rw [elem_f ev (Term.int_eval j) hA hj] at he
  exact ⟨c, A, fun q => q.elim hj fun q => (by rw [Array.getElem?_eq_none q] at he; cases he), he⟩
end Own


def own_asc (f : Nat → Int32) : Nat → Nat → Int32
  | 0, _ => 1
  | k + 1, i => if f i < (0 : Int32) then 0 else own_asc f k (i + 1)
def own_f (x0 x1 x2 x3 x4 x5 x6 x7 : Int32) (j : Nat) : Int32 := match j with | 0 => x0 | 1 => x1 | 2 => x2 | 3 => x3 | 4 => x4 | 5 => x5 | 6 => x6 | _ => x7
theorem own_one (i : Nat) : Int32.ofNat i + (1 : Int32) = Int32.ofNat (i + 1) := (Int32.ofNat_add i 1).symm
theorem own_sum (o n : Nat) : Int32.ofNat o + Int32.ofNat n = Int32.ofNat (o + n) := (Int32.ofNat_add o n).symm
theorem own_nat {n : Nat} (hn : n < 256) : (Int32.ofNat n).toInt = n := Int32.toInt_ofNat_of_lt (by omega)
theorem own_lt {i n : Nat} (hi : i < 256) (hn : n < 256) : Int32.ofNat i < Int32.ofNat n ↔ i < n := by
  rw [Int32.lt_iff_toInt_lt, own_nat hi, own_nat hn]; omega
theorem own_eq {i n : Nat} (hi : i < 256) (hn : n < 256) : Int32.ofNat i = Int32.ofNat n ↔ i = n := by
  refine ⟨fun h => ?_, fun h => by rw [h]⟩
  have := congrArg Int32.toInt h
  rw [own_nat hi, own_nat hn] at this; omega
theorem own_asc01 (f : Nat → Int32) : ∀ k i, own_asc f k i = 0 ∨ own_asc f k i = 1
  | 0, _ => Or.inr rfl
  | k + 1, i => by
    rw [own_asc]
    by_cases h : f i < (0 : Int32)
    · rw [if_pos h]; exact Or.inl rfl
    · rw [if_neg h]; exact own_asc01 f k (i + 1)
theorem own_asc_no (f : Nat → Int32) : ∀ k i j, i ≤ j → j < i + k → f j < (0 : Int32) → own_asc f k i = 0
  | 0, i, j, h1, h2, _ => absurd h2 (by omega)
  | k + 1, i, j, h1, h2, h3 => by
    rw [own_asc]
    by_cases h : f i < (0 : Int32)
    · rw [if_pos h]
    · rw [if_neg h]
      have : i ≠ j := fun q => h (q ▸ h3)
      exact own_asc_no f k (i + 1) j (by omega) (by omega) h3
theorem own_asc_yes (f : Nat → Int32) : ∀ k i, (∀ j, i ≤ j → j < i + k → ¬ f j < (0 : Int32)) → own_asc f k i = 1
  | 0, _, _ => rfl
  | k + 1, i, h => by
    rw [own_asc, if_neg (h i (by omega) (by omega))]
    exact own_asc_yes f k (i + 1) fun j h1 h2 => h j (by omega) (by omega)

def own_neg (x1 x2 x3 y : Int32) : Int32 :=
  if x1 < x2 then
    (0 : Int32)
  else
    if x1 < (x2 + x3) then
      if y < (0 : Int32) then
        (1 : Int32)
      else
        (0 : Int32)
    else
      (0 : Int32)

theorem own_m (x : Int32) (c : Nat) (hc : c < 256) : ∃ n : Nat, n ≤ c ∧ (x &&& Int32.ofNat c) = Int32.ofNat n := by
  refine ⟨(x &&& Int32.ofNat c).toBitVec.toNat, ?_, ?_⟩
  · simp only [Int32.toBitVec_and, BitVec.toNat_and]
    refine Nat.le_trans Nat.and_le_right ?_
    show (BitVec.ofNat 32 c).toNat ≤ c
    rw [BitVec.toNat_ofNat]; exact Nat.mod_le _ _
  · apply Int32.toBitVec_inj.mp
    show _ = BitVec.ofNat 32 _
    rw [BitVec.ofNat_toNat]; simp
theorem own_table : ∀ o, o ≤ 7 → ∀ q, q ≤ 15 → (Int32.ofNat q % ((9 : Int32) - Int32.ofNat o)) = Int32.ofNat (q % (9 - o)) ∧ o + q % (9 - o) ≤ 8 ∧ ((9 : Int32) - Int32.ofNat o) ≠ 0 := by decide +kernel
theorem own_on (p1 : Int32) : ∃ o n : Nat, o + n ≤ 8 ∧ (((XT.ushr p1 (3 : Int32)) &&& (15 : Int32)) % ((9 : Int32) - (p1 &&& (7 : Int32)))) = Int32.ofNat n ∧ (p1 &&& (7 : Int32)) = Int32.ofNat o := by
  obtain ⟨o, ho, eo⟩ := own_m p1 7 (by decide)
  obtain ⟨q, hq, eq⟩ := own_m (XT.ushr p1 3) 15 (by decide)
  have t := own_table o ho q hq
  refine ⟨o, q % (9 - o), t.2.1, ?_, eo⟩
  rw [show (p1 &&& (7 : Int32)) = Int32.ofNat o from eo, show ((XT.ushr p1 (3 : Int32)) &&& (15 : Int32)) = Int32.ofNat q from eq]
  exact t.1
theorem own_nz (p1 : Int32) : ((9 : Int32) - (p1 &&& (7 : Int32))) ≠ 0 := by
  obtain ⟨o, ho, eo⟩ := own_m p1 7 (by decide)
  rw [show (p1 &&& (7 : Int32)) = Int32.ofNat o from eo]
  exact (own_table o ho 0 (by decide)).2.2
theorem own_neg0 {j o n : Nat} (hj : j < 8) (hon : o + n ≤ 8) (y : Int32) : own_neg (Int32.ofNat j) (Int32.ofNat o) (Int32.ofNat n) y = 0 ↔ ¬ (o ≤ j ∧ j < o + n ∧ y < (0 : Int32)) := by
  rw [own_neg, own_sum]
  simp only [own_lt (show j < 256 by omega) (show o < 256 by omega), own_lt (show j < 256 by omega) (show o + n < 256 by omega)]
  by_cases h1 : j < o
  · rw [if_pos h1]; exact ⟨fun _ q => by omega, fun _ => rfl⟩
  · rw [if_neg h1]
    by_cases h2 : j < o + n
    · rw [if_pos h2]
      by_cases h3 : y < (0 : Int32)
      · rw [if_pos h3]; exact ⟨fun q => absurd q (by decide), fun q => absurd ⟨by omega, h2, h3⟩ q⟩
      · rw [if_neg h3]; exact ⟨fun _ q => h3 q.2.2, fun _ => rfl⟩
    · rw [if_neg h2]; exact ⟨fun _ q => h2 q.2.1, fun _ => rfl⟩
theorem own_some {x0 x1 x2 x3 x4 x5 x6 x7 : Int32} {o n : Nat} (hon : o + n ≤ 8) (j : Nat) (hj : j < 8) (h : ¬ own_neg (Int32.ofNat j) (Int32.ofNat o) (Int32.ofNat n) (own_f x0 x1 x2 x3 x4 x5 x6 x7 j) = (0 : Int32)) : own_asc (own_f x0 x1 x2 x3 x4 x5 x6 x7) n o = 0 := by
  rw [own_neg0 hj hon] at h
  have h := Classical.not_not.mp h
  exact own_asc_no _ _ _ j h.1 h.2.1 h.2.2
theorem own_all {x0 x1 x2 x3 x4 x5 x6 x7 : Int32} {o n : Nat} (hon : o + n ≤ 8) (k0 : own_neg (0 : Int32) (Int32.ofNat o) (Int32.ofNat n) x0 = (0 : Int32)) (k1 : own_neg (1 : Int32) (Int32.ofNat o) (Int32.ofNat n) x1 = (0 : Int32)) (k2 : own_neg (2 : Int32) (Int32.ofNat o) (Int32.ofNat n) x2 = (0 : Int32)) (k3 : own_neg (3 : Int32) (Int32.ofNat o) (Int32.ofNat n) x3 = (0 : Int32)) (k4 : own_neg (4 : Int32) (Int32.ofNat o) (Int32.ofNat n) x4 = (0 : Int32)) (k5 : own_neg (5 : Int32) (Int32.ofNat o) (Int32.ofNat n) x5 = (0 : Int32)) (k6 : own_neg (6 : Int32) (Int32.ofNat o) (Int32.ofNat n) x6 = (0 : Int32)) (k7 : own_neg (7 : Int32) (Int32.ofNat o) (Int32.ofNat n) x7 = (0 : Int32)) : own_asc (own_f x0 x1 x2 x3 x4 x5 x6 x7) n o = 1 := by
  refine own_asc_yes _ _ _ fun j h1 h2 h3 => ?_
  have hj : j < 8 := by omega
  have key : own_neg (Int32.ofNat j) (Int32.ofNat o) (Int32.ofNat n) (own_f x0 x1 x2 x3 x4 x5 x6 x7 j) = 0 := by
    match j, hj with
    | 0, _ => exact k0
    | 1, _ => exact k1
    | 2, _ => exact k2
    | 3, _ => exact k3
    | 4, _ => exact k4
    | 5, _ => exact k5
    | 6, _ => exact k6
    | 7, _ => exact k7
  exact (own_neg0 hj hon _).mp key ⟨h1, h2, h3⟩

theorem dN_0 : decode method_3_code 0 = .ok (.iload_n 1, 1) := by decide +kernel
theorem dN_1 : decode method_3_code 1 = .ok (.iload_n 2, 1) := by decide +kernel
theorem dN_2 : decode method_3_code 2 = .ok (.if_icmp .lt 20, 3) := by decide +kernel
theorem dN_22 : decode method_3_code 22 = .ok (.iconst 0, 1) := by decide +kernel
theorem dN_23 : decode method_3_code 23 = .ok (.ireturn, 1) := by decide +kernel
theorem dN_5 : decode method_3_code 5 = .ok (.iload_n 1, 1) := by decide +kernel
theorem dN_6 : decode method_3_code 6 = .ok (.iload_n 2, 1) := by decide +kernel
theorem dN_7 : decode method_3_code 7 = .ok (.iload_n 3, 1) := by decide +kernel
theorem dN_8 : decode method_3_code 8 = .ok (.iadd, 1) := by decide +kernel
theorem dN_9 : decode method_3_code 9 = .ok (.if_icmp .ge 13, 3) := by decide +kernel
theorem dN_12 : decode method_3_code 12 = .ok (.aload_n 0, 1) := by decide +kernel
theorem dN_13 : decode method_3_code 13 = .ok (.iload_n 1, 1) := by decide +kernel
theorem dN_14 : decode method_3_code 14 = .ok (.baload, 1) := by decide +kernel
theorem dN_15 : decode method_3_code 15 = .ok (.ifCond .ge 7, 3) := by decide +kernel
theorem dN_18 : decode method_3_code 18 = .ok (.iconst 1, 1) := by decide +kernel
theorem dN_19 : decode method_3_code 19 = .ok (.goto 4, 3) := by decide +kernel
theorem pn_N : plainName "com/example/vett/vett/Utf8IsAsciiPinLaw" = true := by first | (simp [plainName, overriddenIn]; done) | decide +kernel
theorem ef_N (m : MethodId) (x0 : Addr) (x1 : Int32) (x2 : Int32) (x3 : Int32) : entryFrame m #[(.ref x0), (.int x1), (.int x2), (.int x3)] 4 = mkF m 0 #[.val (.ref x0), .val (.int x1), .val (.int x2), .val (.int x3)] [] := by first | (simp [entryFrame, mkF, argsToLocals, Value.category]; done) | rfl
def QN (Z : State) (ar : Addr) (x1 : Int32) (x2 : Int32) (x3 : Int32) (y : Int32) (h0 : Heap) (n0 : Nat) (v : Option Value) (h : Heap) (L : List Loc) : Prop := v = some (.int (own_neg x1 x2 x3 y)) ∧ Fr n0 L ∧ h = h0
set_option maxRecDepth 65536 in
set_option maxHeartbeats 40000000 in
theorem rmN (l : Launch) (Z : State) (a0 : Array Value) (hw : ∀ d ∈ tables_1, d.before a0 Z = true) (ws : List Jvm.Cond) (ar : Addr) (x1 : Int32) (x2 : Int32) (x3 : Int32) (y : Int32) (h0 : Heap) (n0 : Nat) (Z0 : n0 ≤ h0.size) (Rd : ORd Z h0 ar .byte x1 (.int y)) :
    MetFree l (⟨"com/example/vett/vett/Utf8IsAsciiPinLaw", "neg", "([BIII)Z"⟩ : MethodName) (head1 (Jvm.Cond.code (⟨"com/example/vett/vett/Utf8IsAsciiPinLaw", "neg", "([BIII)Z"⟩ : MethodName) method_3_code 4 (some .boolean) :: ws) ({ frames := 0, cells := 0, slots := 0, locals := 0 } : Room)) (fun aA oU => aA = #[(.ref ar), (.int x1), (.int x2), (.int x3)] ∧ Z.Warmed39 oU.vm ∧ oU.heap = h0) (fun _ _ _ _ _ => True) (fun _ oU oO oU' => ∃ oV oL, oO = .returned oV ∧ QN Z ar x1 x2 x3 y h0 n0 oV oU'.heap oL ∧ FrameEnd oU oO oU' oL ({ frames := 0, cells := 0, slots := 0, locals := 0 } : Room).cells ({ frames := 0, cells := 0, slots := 0, locals := 0 } : Room).slots) := by
  refine MetFree.of_bodySF (plainFor_of_name pn_N) hisR ?_
  intro p e s m args below meth c s₁ Bd hml0 hP hK
  obtain ⟨rfl, hZ, hh⟩ := hP
  have hx := Bd.exec
  have hby := Bd.bytes
  have hlk := BodyLoose.notSynchronized Bd
  have hml : c.maxLocals = 4 := hml0
  have hown : s.vm.findClass "com/example/vett/vett/Utf8IsAsciiPinLaw" = some m.cls := findClass_of_methodNamed Bd.named
  have hnm := (name_of_methodNamed Bd.named Bd.method).1
  have X0 : Stand p l e ({ frames := 0, cells := 0, slots := 0, locals := 0 } : Room) s m #[(.ref ar), (.int x1), (.int x2), (.int x3)] below meth c s₁ [] 0 0 := Stand.of_body Bd
  have e0 : s₁.heap = h0 := by rw [← hh, Bd.state]; rfl
  have N0 := Fr.nil n0
  show OG p e below s ({ frames := 0, cells := 0, slots := 0, locals := 0 } : Room).cells ({ frames := 0, cells := 0, slots := 0, locals := 0 } : Room).slots (QN Z ar x1 x2 x3 y h0 n0) _
  refine OG.of (fun oT oK => castTop (ef_N m ar x1 x2 x3) oK) ?_
  show OG p e below s _ _ _ (s₁.setTop (mkF m 0 #[.val (.ref ar), .val (.int x1), .val (.int x2), .val (.int x3)] []))
  refine OG.of (A := s₁.setTop (mkF m 2 #[.val (.ref ar), .val (.int x1), .val (.int x2), .val (.int x3)] [(.int x2), (.int x1)])) (fun oT oK => ?_) ?_
  · show Steps p.tables e below (s₁.setTop (mkF m 0 #[.val (.ref ar), .val (.int x1), .val (.int x2), .val (.int x3)] [])) oT
    refine XS.iloadN X0.here hx rfl (hb hby dN_0) rfl  ?_
    show Steps p.tables e below (s₁.setTop (mkF m 1 #[.val (.ref ar), .val (.int x1), .val (.int x2), .val (.int x3)] [(.int x1)])) _
    refine XS.iloadN X0.here hx rfl (hb hby dN_1) rfl  ?_
    exact oK
  show OG _ _ _ _ _ _ _ (s₁.setTop (mkF m 2 #[.val (.ref ar), .val (.int x1), .val (.int x2), .val (.int x3)] [(.int x2), (.int x1)]))
  by_cases hc2_1 : x1 < x2
  · refine OG.of (fun oT oK => XS.icmpYes X0.here hx rfl (pc0 := 2) (pc' := 22) rfl (hb hby dN_2) rfl (XT.ii_lt_t hc2_1) (by decide) (by decide) oK) ?_
    show OG _ _ _ _ _ _ _ (s₁.setTop (mkF m 22 #[.val (.ref ar), .val (.int x1), .val (.int x2), .val (.int x3)] []))
    refine OG.of (A := s₁.setTop (mkF m 23 #[.val (.ref ar), .val (.int x1), .val (.int x2), .val (.int x3)] [(.int (0 : Int32))])) (fun oT oK => ?_) ?_
    · show Steps p.tables e below (s₁.setTop (mkF m 22 #[.val (.ref ar), .val (.int x1), .val (.int x2), .val (.int x3)] [])) oT
      refine XS.iconst X0.here hx rfl (hb hby dN_22) ?_
      exact oK
    show OG _ _ _ _ _ _ _ (s₁.setTop (mkF m 23 #[.val (.ref ar), .val (.int x1), .val (.int x2), .val (.int x3)] [(.int (0 : Int32))]))
    refine OG.retN X0 hx (t := .boolean) Bd.returns (by simp) (hb hby dN_23) hlk ?_ (by decide) (by decide)
    try rw [e0]
    exact ⟨by rw [own_neg, if_pos hc2_1] <;> rfl, N0, rfl⟩
  · refine OG.of (fun oT oK => XS.icmpNo X0.here hx rfl (hb hby dN_2) rfl (XT.ii_lt_f hc2_1) oK) ?_
    show OG _ _ _ _ _ _ _ (s₁.setTop (mkF m 5 #[.val (.ref ar), .val (.int x1), .val (.int x2), .val (.int x3)] []))
    refine OG.of (A := s₁.setTop (mkF m 9 #[.val (.ref ar), .val (.int x1), .val (.int x2), .val (.int x3)] [(.int (x2 + x3)), (.int x1)])) (fun oT oK => ?_) ?_
    · show Steps p.tables e below (s₁.setTop (mkF m 5 #[.val (.ref ar), .val (.int x1), .val (.int x2), .val (.int x3)] [])) oT
      refine XS.iloadN X0.here hx rfl (hb hby dN_5) rfl  ?_
      show Steps p.tables e below (s₁.setTop (mkF m 6 #[.val (.ref ar), .val (.int x1), .val (.int x2), .val (.int x3)] [(.int x1)])) _
      refine XS.iloadN X0.here hx rfl (hb hby dN_6) rfl  ?_
      show Steps p.tables e below (s₁.setTop (mkF m 7 #[.val (.ref ar), .val (.int x1), .val (.int x2), .val (.int x3)] [(.int x2), (.int x1)])) _
      refine XS.iloadN X0.here hx rfl (hb hby dN_7) rfl  ?_
      show Steps p.tables e below (s₁.setTop (mkF m 8 #[.val (.ref ar), .val (.int x1), .val (.int x2), .val (.int x3)] [(.int x3), (.int x2), (.int x1)])) _
      refine XS.iadd X0.here hx rfl (hb hby dN_8) rfl ?_
      exact oK
    show OG _ _ _ _ _ _ _ (s₁.setTop (mkF m 9 #[.val (.ref ar), .val (.int x1), .val (.int x2), .val (.int x3)] [(.int (x2 + x3)), (.int x1)]))
    by_cases hc9_2 : x1 < (x2 + x3)
    · refine OG.of (fun oT oK => XS.icmpNo X0.here hx rfl (hb hby dN_9) rfl (XT.ii_ge_f hc9_2) oK) ?_
      show OG _ _ _ _ _ _ _ (s₁.setTop (mkF m 12 #[.val (.ref ar), .val (.int x1), .val (.int x2), .val (.int x3)] []))
      refine OG.of (A := s₁.setTop (mkF m 14 #[.val (.ref ar), .val (.int x1), .val (.int x2), .val (.int x3)] [(.int x1), (.ref ar)])) (fun oT oK => ?_) ?_
      · show Steps p.tables e below (s₁.setTop (mkF m 12 #[.val (.ref ar), .val (.int x1), .val (.int x2), .val (.int x3)] [])) oT
        refine XS.aloadN X0.here hx rfl (hb hby dN_12) rfl rfl  ?_
        show Steps p.tables e below (s₁.setTop (mkF m 13 #[.val (.ref ar), .val (.int x1), .val (.int x2), .val (.int x3)] [(.ref ar)])) _
        refine XS.iloadN X0.here hx rfl (hb hby dN_13) rfl  ?_
        exact oK
      show OG _ _ _ _ _ _ _ (s₁.setTop (mkF m 14 #[.val (.ref ar), .val (.int x1), .val (.int x2), .val (.int x3)] [(.int x1), (.ref ar)]))
      have cf3 := Rd
      obtain ⟨clf3, Arf3, If3, Hf3⟩ := cf3
      refine OG.of (X0.baloadBytes hx (j := x1) (v := (.int y)) (by rw [e0]; exact Arf3.1) (State.isArrayOf_alike hZ.alike Arf3.2.1) Arf3.2.2 If3 Hf3 (g := (mkF m 14 #[.val (.ref ar), .val (.int x1), .val (.int x2), .val (.int x3)] [(.int x1), (.ref ar)])) rfl rfl (hb hby dN_14)) ?_
      show OG _ _ _ _ _ _ _ (s₁.setTop (mkF m 15 #[.val (.ref ar), .val (.int x1), .val (.int x2), .val (.int x3)] [(.int y)]))
      by_cases hc15_4 : y < (0 : Int32)
      · refine OG.of (fun oT oK => XS.ifNo X0.here hx rfl (hb hby dN_15) rfl (XT.i0_ge_f hc15_4) oK) ?_
        show OG _ _ _ _ _ _ _ (s₁.setTop (mkF m 18 #[.val (.ref ar), .val (.int x1), .val (.int x2), .val (.int x3)] []))
        refine OG.of (A := s₁.setTop (mkF m 23 #[.val (.ref ar), .val (.int x1), .val (.int x2), .val (.int x3)] [(.int (1 : Int32))])) (fun oT oK => ?_) ?_
        · show Steps p.tables e below (s₁.setTop (mkF m 18 #[.val (.ref ar), .val (.int x1), .val (.int x2), .val (.int x3)] [])) oT
          refine XS.iconst X0.here hx rfl (hb hby dN_18) ?_
          show Steps p.tables e below (s₁.setTop (mkF m 19 #[.val (.ref ar), .val (.int x1), .val (.int x2), .val (.int x3)] [(.int (1 : Int32))])) _
          refine XS.goto X0.here hx rfl (pc0 := 19) (pc' := 23) rfl (hb hby dN_19) (by decide) (by decide) ?_
          exact oK
        show OG _ _ _ _ _ _ _ (s₁.setTop (mkF m 23 #[.val (.ref ar), .val (.int x1), .val (.int x2), .val (.int x3)] [(.int (1 : Int32))]))
        refine OG.retN X0 hx (t := .boolean) Bd.returns (by simp) (hb hby dN_23) hlk ?_ (by decide) (by decide)
        try rw [e0]
        exact ⟨by rw [own_neg, if_neg hc2_1, if_pos hc9_2, if_pos hc15_4] <;> rfl, N0, rfl⟩
      · refine OG.of (fun oT oK => XS.ifYes X0.here hx rfl (pc0 := 15) (pc' := 22) rfl (hb hby dN_15) rfl (XT.i0_ge_t hc15_4) (by decide) (by decide) oK) ?_
        show OG _ _ _ _ _ _ _ (s₁.setTop (mkF m 22 #[.val (.ref ar), .val (.int x1), .val (.int x2), .val (.int x3)] []))
        refine OG.of (A := s₁.setTop (mkF m 23 #[.val (.ref ar), .val (.int x1), .val (.int x2), .val (.int x3)] [(.int (0 : Int32))])) (fun oT oK => ?_) ?_
        · show Steps p.tables e below (s₁.setTop (mkF m 22 #[.val (.ref ar), .val (.int x1), .val (.int x2), .val (.int x3)] [])) oT
          refine XS.iconst X0.here hx rfl (hb hby dN_22) ?_
          exact oK
        show OG _ _ _ _ _ _ _ (s₁.setTop (mkF m 23 #[.val (.ref ar), .val (.int x1), .val (.int x2), .val (.int x3)] [(.int (0 : Int32))]))
        refine OG.retN X0 hx (t := .boolean) Bd.returns (by simp) (hb hby dN_23) hlk ?_ (by decide) (by decide)
        try rw [e0]
        exact ⟨by rw [own_neg, if_neg hc2_1, if_pos hc9_2, if_neg hc15_4] <;> rfl, N0, rfl⟩
    · refine OG.of (fun oT oK => XS.icmpYes X0.here hx rfl (pc0 := 9) (pc' := 22) rfl (hb hby dN_9) rfl (XT.ii_ge_t hc9_2) (by decide) (by decide) oK) ?_
      show OG _ _ _ _ _ _ _ (s₁.setTop (mkF m 22 #[.val (.ref ar), .val (.int x1), .val (.int x2), .val (.int x3)] []))
      refine OG.of (A := s₁.setTop (mkF m 23 #[.val (.ref ar), .val (.int x1), .val (.int x2), .val (.int x3)] [(.int (0 : Int32))])) (fun oT oK => ?_) ?_
      · show Steps p.tables e below (s₁.setTop (mkF m 22 #[.val (.ref ar), .val (.int x1), .val (.int x2), .val (.int x3)] [])) oT
        refine XS.iconst X0.here hx rfl (hb hby dN_22) ?_
        exact oK
      show OG _ _ _ _ _ _ _ (s₁.setTop (mkF m 23 #[.val (.ref ar), .val (.int x1), .val (.int x2), .val (.int x3)] [(.int (0 : Int32))]))
      refine OG.retN X0 hx (t := .boolean) Bd.returns (by simp) (hb hby dN_23) hlk ?_ (by decide) (by decide)
      try rw [e0]
      exact ⟨by rw [own_neg, if_neg hc2_1, if_neg hc9_2] <;> rfl, N0, rfl⟩
theorem dA_0 : decode prog_13_method_3_code 0 = .ok (.iload_n 1, 1) := by decide +kernel
theorem dA_1 : decode prog_13_method_3_code 1 = .ok (.istore_n 3, 1) := by decide +kernel
theorem dA_2 : decode prog_13_method_3_code 2 = .ok (.iload_n 3, 1) := by decide +kernel
theorem dA_3 : decode prog_13_method_3_code 3 = .ok (.iload_n 1, 1) := by decide +kernel
theorem dA_4 : decode prog_13_method_3_code 4 = .ok (.iload_n 2, 1) := by decide +kernel
theorem dA_5 : decode prog_13_method_3_code 5 = .ok (.iadd, 1) := by decide +kernel
theorem dA_6 : decode prog_13_method_3_code 6 = .ok (.if_icmp .ge 15, 3) := by decide +kernel
theorem dA_21 : decode prog_13_method_3_code 21 = .ok (.iload_n 3, 1) := by decide +kernel
theorem dA_22 : decode prog_13_method_3_code 22 = .ok (.iload_n 1, 1) := by decide +kernel
theorem dA_23 : decode prog_13_method_3_code 23 = .ok (.iload_n 2, 1) := by decide +kernel
theorem dA_24 : decode prog_13_method_3_code 24 = .ok (.iadd, 1) := by decide +kernel
theorem dA_25 : decode prog_13_method_3_code 25 = .ok (.if_icmp .ne 7, 3) := by decide +kernel
theorem dA_28 : decode prog_13_method_3_code 28 = .ok (.iconst 1, 1) := by decide +kernel
theorem dA_29 : decode prog_13_method_3_code 29 = .ok (.goto 4, 3) := by decide +kernel
theorem dA_33 : decode prog_13_method_3_code 33 = .ok (.ireturn, 1) := by decide +kernel
theorem dA_9 : decode prog_13_method_3_code 9 = .ok (.aload_n 0, 1) := by decide +kernel
theorem dA_10 : decode prog_13_method_3_code 10 = .ok (.iload_n 3, 1) := by decide +kernel
theorem dA_11 : decode prog_13_method_3_code 11 = .ok (.baload, 1) := by decide +kernel
theorem dA_12 : decode prog_13_method_3_code 12 = .ok (.ifCond .lt 9, 3) := by decide +kernel
theorem dA_32 : decode prog_13_method_3_code 32 = .ok (.iconst 0, 1) := by decide +kernel
theorem dA_15 : decode prog_13_method_3_code 15 = .ok (.iinc 3 1, 3) := by decide +kernel
theorem dA_18 : decode prog_13_method_3_code 18 = .ok (.goto (-16), 3) := by decide +kernel
theorem pn_A : plainName "com/example/vett/vett/Utf8" = true := by first | (simp [plainName, overriddenIn]; done) | decide +kernel
theorem ef_A (m : MethodId) (x0 : Addr) (x1 : Int32) (x2 : Int32) : entryFrame m #[(.ref x0), (.int x1), (.int x2)] 4 = mkF m 0 #[.val (.ref x0), .val (.int x1), .val (.int x2), .unset] [] := by first | (simp [entryFrame, mkF, argsToLocals, Value.category]; done) | rfl
def QA (Z : State) (ar : Addr) (o : Nat) (n : Nat) (f : Nat → Int32) (h0 : Heap) (n0 : Nat) (v : Option Value) (h : Heap) (L : List Loc) : Prop := v = some (.int (own_asc f n o)) ∧ Fr n0 L ∧ h = h0
set_option maxRecDepth 65536 in
set_option maxHeartbeats 40000000 in
theorem rmA (l : Launch) (Z : State) (a0 : Array Value) (hw : ∀ d ∈ tables_1, d.before a0 Z = true) (ws : List Jvm.Cond) (ar : Addr) (o : Nat) (n : Nat) (f : Nat → Int32) (h0 : Heap) (n0 : Nat) (Z0 : n0 ≤ h0.size) (hon : o + n ≤ 8) (Rd : ∀ j, j < 8 → ORd Z h0 ar .byte (Int32.ofNat j) (.int (f j))) :
    MetFree l (⟨"com/example/vett/vett/Utf8", "isAscii", "([BII)Z"⟩ : MethodName) (head1 (Jvm.Cond.code (⟨"com/example/vett/vett/Utf8", "isAscii", "([BII)Z"⟩ : MethodName) prog_13_method_3_code 4 (some .boolean) :: ws) ({ frames := 0, cells := 0, slots := 0, locals := 0 } : Room)) (fun aA oU => aA = #[(.ref ar), (.int (Int32.ofNat o)), (.int (Int32.ofNat n))] ∧ Z.Warmed39 oU.vm ∧ oU.heap = h0) (fun _ _ _ _ _ => True) (fun _ oU oO oU' => ∃ oV oL, oO = .returned oV ∧ QA Z ar o n f h0 n0 oV oU'.heap oL ∧ FrameEnd oU oO oU' oL ({ frames := 0, cells := 0, slots := 0, locals := 0 } : Room).cells ({ frames := 0, cells := 0, slots := 0, locals := 0 } : Room).slots) := by
  refine MetFree.of_bodySF (plainFor_of_name pn_A) hisR ?_
  intro p e s m args below meth c s₁ Bd hml0 hP hK
  obtain ⟨rfl, hZ, hh⟩ := hP
  have hx := Bd.exec
  have hby := Bd.bytes
  have hlk := BodyLoose.notSynchronized Bd
  have hml : c.maxLocals = 4 := hml0
  have hown : s.vm.findClass "com/example/vett/vett/Utf8" = some m.cls := findClass_of_methodNamed Bd.named
  have hnm := (name_of_methodNamed Bd.named Bd.method).1
  have X0 : Stand p l e ({ frames := 0, cells := 0, slots := 0, locals := 0 } : Room) s m #[(.ref ar), (.int (Int32.ofNat o)), (.int (Int32.ofNat n))] below meth c s₁ [] 0 0 := Stand.of_body Bd
  have e0 : s₁.heap = h0 := by rw [← hh, Bd.state]; rfl
  have N0 := Fr.nil n0
  show OG p e below s ({ frames := 0, cells := 0, slots := 0, locals := 0 } : Room).cells ({ frames := 0, cells := 0, slots := 0, locals := 0 } : Room).slots (QA Z ar o n f h0 n0) _
  refine OG.of (fun oT oK => castTop (ef_A m ar (Int32.ofNat o) (Int32.ofNat n)) oK) ?_
  show OG p e below s _ _ _ (s₁.setTop (mkF m 0 #[.val (.ref ar), .val (.int (Int32.ofNat o)), .val (.int (Int32.ofNat n)), .unset] []))
  refine OG.of (A := s₁.setTop (mkF m 2 #[.val (.ref ar), .val (.int (Int32.ofNat o)), .val (.int (Int32.ofNat n)), .val (.int (Int32.ofNat o))] [])) (fun oT oK => ?_) ?_
  · show Steps p.tables e below (s₁.setTop (mkF m 0 #[.val (.ref ar), .val (.int (Int32.ofNat o)), .val (.int (Int32.ofNat n)), .unset] [])) oT
    refine XS.iloadN X0.here hx rfl (hb hby dA_0) rfl  ?_
    show Steps p.tables e below (s₁.setTop (mkF m 1 #[.val (.ref ar), .val (.int (Int32.ofNat o)), .val (.int (Int32.ofNat n)), .unset] [(.int (Int32.ofNat o))])) _
    refine XS.istoreN X0.here hx rfl (hb hby dA_1) rfl (l' := #[.val (.ref ar), .val (.int (Int32.ofNat o)), .val (.int (Int32.ofNat n)), .val (.int (Int32.ofNat o))]) rfl ?_
    exact oK
  show OG _ _ _ _ _ _ _ (s₁.setTop (mkF m 2 #[.val (.ref ar), .val (.int (Int32.ofNat o)), .val (.int (Int32.ofNat n)), .val (.int (Int32.ofNat o))] []))
  have loop : ∀ (k i : Nat), i + k = o + n → own_asc f k i = own_asc f n o → OG p e below s 0 0 (QA Z ar o n f h0 n0) (s₁.setTop (mkF m 2 #[.val (.ref ar), .val (.int (Int32.ofNat o)), .val (.int (Int32.ofNat n)), .val (.int (Int32.ofNat i))] [])) := by
    intro k
    induction k with
    | zero =>
      intro i hi ha
      have hi' : i = o + n := by omega
      have hge : ¬ (Int32.ofNat i) < ((Int32.ofNat o) + (Int32.ofNat n)) := by rw [own_sum, own_lt (by omega) (by omega)]; omega
      have heq : (Int32.ofNat i) = ((Int32.ofNat o) + (Int32.ofNat n)) := by rw [own_sum, hi']
      refine OG.of (A := s₁.setTop (mkF m 33 #[.val (.ref ar), .val (.int (Int32.ofNat o)), .val (.int (Int32.ofNat n)), .val (.int (Int32.ofNat i))] [(.int (1 : Int32))])) (fun oT oK => ?_) ?_
      · show Steps p.tables e below (s₁.setTop (mkF m 2 #[.val (.ref ar), .val (.int (Int32.ofNat o)), .val (.int (Int32.ofNat n)), .val (.int (Int32.ofNat i))] [])) oT
        refine XS.iloadN X0.here hx rfl (hb hby dA_2) rfl  ?_
        show Steps p.tables e below (s₁.setTop (mkF m 3 #[.val (.ref ar), .val (.int (Int32.ofNat o)), .val (.int (Int32.ofNat n)), .val (.int (Int32.ofNat i))] [(.int (Int32.ofNat i))])) _
        refine XS.iloadN X0.here hx rfl (hb hby dA_3) rfl  ?_
        show Steps p.tables e below (s₁.setTop (mkF m 4 #[.val (.ref ar), .val (.int (Int32.ofNat o)), .val (.int (Int32.ofNat n)), .val (.int (Int32.ofNat i))] [(.int (Int32.ofNat o)), (.int (Int32.ofNat i))])) _
        refine XS.iloadN X0.here hx rfl (hb hby dA_4) rfl  ?_
        show Steps p.tables e below (s₁.setTop (mkF m 5 #[.val (.ref ar), .val (.int (Int32.ofNat o)), .val (.int (Int32.ofNat n)), .val (.int (Int32.ofNat i))] [(.int (Int32.ofNat n)), (.int (Int32.ofNat o)), (.int (Int32.ofNat i))])) _
        refine XS.iadd X0.here hx rfl (hb hby dA_5) rfl ?_
        show Steps p.tables e below (s₁.setTop (mkF m 6 #[.val (.ref ar), .val (.int (Int32.ofNat o)), .val (.int (Int32.ofNat n)), .val (.int (Int32.ofNat i))] [(.int ((Int32.ofNat o) + (Int32.ofNat n))), (.int (Int32.ofNat i))])) _
        refine XS.icmpYes X0.here hx rfl (pc0 := 6) (pc' := 21) rfl (hb hby dA_6) rfl (XT.ii_ge_t hge) (by decide) (by decide) ?_
        show Steps p.tables e below (s₁.setTop (mkF m 21 #[.val (.ref ar), .val (.int (Int32.ofNat o)), .val (.int (Int32.ofNat n)), .val (.int (Int32.ofNat i))] [])) _
        refine XS.iloadN X0.here hx rfl (hb hby dA_21) rfl  ?_
        show Steps p.tables e below (s₁.setTop (mkF m 22 #[.val (.ref ar), .val (.int (Int32.ofNat o)), .val (.int (Int32.ofNat n)), .val (.int (Int32.ofNat i))] [(.int (Int32.ofNat i))])) _
        refine XS.iloadN X0.here hx rfl (hb hby dA_22) rfl  ?_
        show Steps p.tables e below (s₁.setTop (mkF m 23 #[.val (.ref ar), .val (.int (Int32.ofNat o)), .val (.int (Int32.ofNat n)), .val (.int (Int32.ofNat i))] [(.int (Int32.ofNat o)), (.int (Int32.ofNat i))])) _
        refine XS.iloadN X0.here hx rfl (hb hby dA_23) rfl  ?_
        show Steps p.tables e below (s₁.setTop (mkF m 24 #[.val (.ref ar), .val (.int (Int32.ofNat o)), .val (.int (Int32.ofNat n)), .val (.int (Int32.ofNat i))] [(.int (Int32.ofNat n)), (.int (Int32.ofNat o)), (.int (Int32.ofNat i))])) _
        refine XS.iadd X0.here hx rfl (hb hby dA_24) rfl ?_
        show Steps p.tables e below (s₁.setTop (mkF m 25 #[.val (.ref ar), .val (.int (Int32.ofNat o)), .val (.int (Int32.ofNat n)), .val (.int (Int32.ofNat i))] [(.int ((Int32.ofNat o) + (Int32.ofNat n))), (.int (Int32.ofNat i))])) _
        refine XS.icmpNo X0.here hx rfl (hb hby dA_25) rfl (XT.ii_ne_f heq) ?_
        show Steps p.tables e below (s₁.setTop (mkF m 28 #[.val (.ref ar), .val (.int (Int32.ofNat o)), .val (.int (Int32.ofNat n)), .val (.int (Int32.ofNat i))] [])) _
        refine XS.iconst X0.here hx rfl (hb hby dA_28) ?_
        show Steps p.tables e below (s₁.setTop (mkF m 29 #[.val (.ref ar), .val (.int (Int32.ofNat o)), .val (.int (Int32.ofNat n)), .val (.int (Int32.ofNat i))] [(.int (1 : Int32))])) _
        refine XS.goto X0.here hx rfl (pc0 := 29) (pc' := 33) rfl (hb hby dA_29) (by decide) (by decide) ?_
        exact oK
      show OG _ _ _ _ _ _ _ (s₁.setTop (mkF m 33 #[.val (.ref ar), .val (.int (Int32.ofNat o)), .val (.int (Int32.ofNat n)), .val (.int (Int32.ofNat i))] [(.int (1 : Int32))]))
      refine OG.retN X0 hx (t := .boolean) Bd.returns (by simp) (hb hby dA_33) hlk ?_ (by decide) (by decide)
      try rw [e0]
      exact ⟨by rw [← ha] <;> rfl, N0, rfl⟩
    | succ k ih =>
      intro i hi ha
      have hl : (Int32.ofNat i) < ((Int32.ofNat o) + (Int32.ofNat n)) := by rw [own_sum, own_lt (by omega) (by omega)]; omega
      have hne : ¬ (Int32.ofNat i) = ((Int32.ofNat o) + (Int32.ofNat n)) := by rw [own_sum, own_eq (by omega) (by omega)]; omega
      refine OG.of (A := s₁.setTop (mkF m 11 #[.val (.ref ar), .val (.int (Int32.ofNat o)), .val (.int (Int32.ofNat n)), .val (.int (Int32.ofNat i))] [(.int (Int32.ofNat i)), (.ref ar)])) (fun oT oK => ?_) ?_
      · show Steps p.tables e below (s₁.setTop (mkF m 2 #[.val (.ref ar), .val (.int (Int32.ofNat o)), .val (.int (Int32.ofNat n)), .val (.int (Int32.ofNat i))] [])) oT
        refine XS.iloadN X0.here hx rfl (hb hby dA_2) rfl  ?_
        show Steps p.tables e below (s₁.setTop (mkF m 3 #[.val (.ref ar), .val (.int (Int32.ofNat o)), .val (.int (Int32.ofNat n)), .val (.int (Int32.ofNat i))] [(.int (Int32.ofNat i))])) _
        refine XS.iloadN X0.here hx rfl (hb hby dA_3) rfl  ?_
        show Steps p.tables e below (s₁.setTop (mkF m 4 #[.val (.ref ar), .val (.int (Int32.ofNat o)), .val (.int (Int32.ofNat n)), .val (.int (Int32.ofNat i))] [(.int (Int32.ofNat o)), (.int (Int32.ofNat i))])) _
        refine XS.iloadN X0.here hx rfl (hb hby dA_4) rfl  ?_
        show Steps p.tables e below (s₁.setTop (mkF m 5 #[.val (.ref ar), .val (.int (Int32.ofNat o)), .val (.int (Int32.ofNat n)), .val (.int (Int32.ofNat i))] [(.int (Int32.ofNat n)), (.int (Int32.ofNat o)), (.int (Int32.ofNat i))])) _
        refine XS.iadd X0.here hx rfl (hb hby dA_5) rfl ?_
        show Steps p.tables e below (s₁.setTop (mkF m 6 #[.val (.ref ar), .val (.int (Int32.ofNat o)), .val (.int (Int32.ofNat n)), .val (.int (Int32.ofNat i))] [(.int ((Int32.ofNat o) + (Int32.ofNat n))), (.int (Int32.ofNat i))])) _
        refine XS.icmpNo X0.here hx rfl (hb hby dA_6) rfl (XT.ii_ge_f hl) ?_
        show Steps p.tables e below (s₁.setTop (mkF m 9 #[.val (.ref ar), .val (.int (Int32.ofNat o)), .val (.int (Int32.ofNat n)), .val (.int (Int32.ofNat i))] [])) _
        refine XS.aloadN X0.here hx rfl (hb hby dA_9) rfl rfl  ?_
        show Steps p.tables e below (s₁.setTop (mkF m 10 #[.val (.ref ar), .val (.int (Int32.ofNat o)), .val (.int (Int32.ofNat n)), .val (.int (Int32.ofNat i))] [(.ref ar)])) _
        refine XS.iloadN X0.here hx rfl (hb hby dA_10) rfl  ?_
        exact oK
      show OG _ _ _ _ _ _ _ (s₁.setTop (mkF m 11 #[.val (.ref ar), .val (.int (Int32.ofNat o)), .val (.int (Int32.ofNat n)), .val (.int (Int32.ofNat i))] [(.int (Int32.ofNat i)), (.ref ar)]))
      have cf1 := (Rd i (by omega))
      obtain ⟨clf1, Arf1, If1, Hf1⟩ := cf1
      refine OG.of (X0.baloadBytes hx (j := (Int32.ofNat i)) (v := (.int (f i))) (by rw [e0]; exact Arf1.1) (State.isArrayOf_alike hZ.alike Arf1.2.1) Arf1.2.2 If1 Hf1 (g := (mkF m 11 #[.val (.ref ar), .val (.int (Int32.ofNat o)), .val (.int (Int32.ofNat n)), .val (.int (Int32.ofNat i))] [(.int (Int32.ofNat i)), (.ref ar)])) rfl rfl (hb hby dA_11)) ?_
      show OG _ _ _ _ _ _ _ (s₁.setTop (mkF m 12 #[.val (.ref ar), .val (.int (Int32.ofNat o)), .val (.int (Int32.ofNat n)), .val (.int (Int32.ofNat i))] [(.int (f i))]))
      by_cases hc12_2 : (f i) < (0 : Int32)
      · refine OG.of (fun oT oK => XS.ifYes X0.here hx rfl (pc0 := 12) (pc' := 21) rfl (hb hby dA_12) rfl (XT.i0_lt_t hc12_2) (by decide) (by decide) oK) ?_
        show OG _ _ _ _ _ _ _ (s₁.setTop (mkF m 21 #[.val (.ref ar), .val (.int (Int32.ofNat o)), .val (.int (Int32.ofNat n)), .val (.int (Int32.ofNat i))] []))
        refine OG.of (A := s₁.setTop (mkF m 33 #[.val (.ref ar), .val (.int (Int32.ofNat o)), .val (.int (Int32.ofNat n)), .val (.int (Int32.ofNat i))] [(.int (0 : Int32))])) (fun oT oK => ?_) ?_
        · show Steps p.tables e below (s₁.setTop (mkF m 21 #[.val (.ref ar), .val (.int (Int32.ofNat o)), .val (.int (Int32.ofNat n)), .val (.int (Int32.ofNat i))] [])) oT
          refine XS.iloadN X0.here hx rfl (hb hby dA_21) rfl  ?_
          show Steps p.tables e below (s₁.setTop (mkF m 22 #[.val (.ref ar), .val (.int (Int32.ofNat o)), .val (.int (Int32.ofNat n)), .val (.int (Int32.ofNat i))] [(.int (Int32.ofNat i))])) _
          refine XS.iloadN X0.here hx rfl (hb hby dA_22) rfl  ?_
          show Steps p.tables e below (s₁.setTop (mkF m 23 #[.val (.ref ar), .val (.int (Int32.ofNat o)), .val (.int (Int32.ofNat n)), .val (.int (Int32.ofNat i))] [(.int (Int32.ofNat o)), (.int (Int32.ofNat i))])) _
          refine XS.iloadN X0.here hx rfl (hb hby dA_23) rfl  ?_
          show Steps p.tables e below (s₁.setTop (mkF m 24 #[.val (.ref ar), .val (.int (Int32.ofNat o)), .val (.int (Int32.ofNat n)), .val (.int (Int32.ofNat i))] [(.int (Int32.ofNat n)), (.int (Int32.ofNat o)), (.int (Int32.ofNat i))])) _
          refine XS.iadd X0.here hx rfl (hb hby dA_24) rfl ?_
          show Steps p.tables e below (s₁.setTop (mkF m 25 #[.val (.ref ar), .val (.int (Int32.ofNat o)), .val (.int (Int32.ofNat n)), .val (.int (Int32.ofNat i))] [(.int ((Int32.ofNat o) + (Int32.ofNat n))), (.int (Int32.ofNat i))])) _
          refine XS.icmpYes X0.here hx rfl (pc0 := 25) (pc' := 32) rfl (hb hby dA_25) rfl (XT.ii_ne_t hne) (by decide) (by decide) ?_
          show Steps p.tables e below (s₁.setTop (mkF m 32 #[.val (.ref ar), .val (.int (Int32.ofNat o)), .val (.int (Int32.ofNat n)), .val (.int (Int32.ofNat i))] [])) _
          refine XS.iconst X0.here hx rfl (hb hby dA_32) ?_
          exact oK
        show OG _ _ _ _ _ _ _ (s₁.setTop (mkF m 33 #[.val (.ref ar), .val (.int (Int32.ofNat o)), .val (.int (Int32.ofNat n)), .val (.int (Int32.ofNat i))] [(.int (0 : Int32))]))
        refine OG.retN X0 hx (t := .boolean) Bd.returns (by simp) (hb hby dA_33) hlk ?_ (by decide) (by decide)
        try rw [e0]
        exact ⟨by rw [← ha, own_asc, if_pos hc12_2] <;> rfl, N0, rfl⟩
      · refine OG.of (fun oT oK => XS.ifNo X0.here hx rfl (hb hby dA_12) rfl (XT.i0_lt_f hc12_2) oK) ?_
        show OG _ _ _ _ _ _ _ (s₁.setTop (mkF m 15 #[.val (.ref ar), .val (.int (Int32.ofNat o)), .val (.int (Int32.ofNat n)), .val (.int (Int32.ofNat i))] []))
        have hlt := hc12_2
        refine OG.of (A := s₁.setTop (mkF m 2 #[.val (.ref ar), .val (.int (Int32.ofNat o)), .val (.int (Int32.ofNat n)), .val (.int ((Int32.ofNat i) + (1 : Int32)))] [])) (fun oT oK => ?_) ?_
        · show Steps p.tables e below (s₁.setTop (mkF m 15 #[.val (.ref ar), .val (.int (Int32.ofNat o)), .val (.int (Int32.ofNat n)), .val (.int (Int32.ofNat i))] [])) oT
          refine XS.iinc X0.here hx rfl (hb hby dA_15) rfl (l' := #[.val (.ref ar), .val (.int (Int32.ofNat o)), .val (.int (Int32.ofNat n)), .val (.int ((Int32.ofNat i) + (1 : Int32)))]) rfl ?_
          show Steps p.tables e below (s₁.setTop (mkF m 18 #[.val (.ref ar), .val (.int (Int32.ofNat o)), .val (.int (Int32.ofNat n)), .val (.int ((Int32.ofNat i) + (1 : Int32)))] [])) _
          refine XS.goto X0.here hx rfl (pc0 := 18) (pc' := 2) rfl (hb hby dA_18) (by decide) (by decide) ?_
          exact oK
        show OG _ _ _ _ _ _ _ (s₁.setTop (mkF m 2 #[.val (.ref ar), .val (.int (Int32.ofNat o)), .val (.int (Int32.ofNat n)), .val (.int ((Int32.ofNat i) + (1 : Int32)))] []))
        rw [own_one]
        exact ih (i + 1) (by omega) (by rw [← ha, own_asc, if_neg hlt])
  exact loop n o rfl rfl
theorem pd___BIII_Z : parseMethodDescriptor "([BIII)Z" = some ⟨[(.array .byte), .int, .int, .int], some .boolean⟩ := by decide +kernel
theorem pd___BII_Z : parseMethodDescriptor "([BII)Z" = some ⟨[(.array .byte), .int, .int], some .boolean⟩ := by decide +kernel
theorem pn_0 : plainName "com/example/vett/vett/Utf8IsAsciiPinLaw" = true := by first | (simp [plainName, overriddenIn]; done) | decide +kernel
theorem ef_0 (m : MethodId) (x0 : Int64) (x1 : Int32) : entryFrame m #[(.long x0), (.int x1)] maxLocals = mkF m 0 #[.val (.long x0), .second, .val (.int x1), .unset, .unset, .unset, .unset, .unset] [] := by first | (simp [entryFrame, mkF, argsToLocals, Value.category, maxLocals]; done) | rfl
def Q0 (Z : State) (p0 : Int64) (p1 : Int32) (h0 : Heap) (n0 : Nat) (v : Option Value) (h : Heap) (L : List Loc) : Prop := v = some (.int 1) ∧ Fr n0 L
set_option maxRecDepth 65536 in
set_option maxHeartbeats 40000000 in
theorem rm0 (l : Launch) (Z : State) (a0 : Array Value) (hw : ∀ d ∈ tables_1, d.before a0 Z = true) (ws : List Jvm.Cond) (p0 : Int64) (p1 : Int32) (h0 : Heap) (n0 : Nat) (Z0 : n0 ≤ h0.size) :
    MetFree l x (head1 (Jvm.Cond.code x code maxLocals ret :: ws) room_1) (fun aA oU => aA = #[(.long p0), (.int p1)] ∧ Z.Warmed39 oU.vm ∧ oU.heap = h0) (fun _ _ _ _ _ => True) (fun _ oU oO oU' => ∃ oV oL, oO = .returned oV ∧ Q0 Z p0 p1 h0 n0 oV oU'.heap oL ∧ FrameEnd oU oO oU' oL 16 128) := by
  refine MetFree.of_bodySF (plainFor_of_name pn_0) hisR ?_
  intro p e s m args below meth c s₁ Bd hml0 hP hK
  obtain ⟨rfl, hZ, hh⟩ := hP
  have hx := Bd.exec
  have hby := Bd.bytes
  have hlk := BodyLoose.notSynchronized Bd
  have hml : c.maxLocals = 8 := hml0
  have hown : s.vm.findClass "com/example/vett/vett/Utf8IsAsciiPinLaw" = some m.cls := findClass_of_methodNamed Bd.named
  have hnm := (name_of_methodNamed Bd.named Bd.method).1
  have X0 : Stand p l e room_1 s m #[(.long p0), (.int p1)] below meth c s₁ [] 0 0 := Stand.of_body Bd
  have e0 : s₁.heap = h0 := by rw [← hh, Bd.state]; rfl
  have N0 := Fr.nil n0
  show OG p e below s 16 128 (Q0 Z p0 p1 h0 n0) _
  refine OG.of (fun oT oK => castTop (ef_0 m p0 p1) oK) ?_
  show OG p e below s _ _ _ (s₁.setTop (mkF m 0 #[.val (.long p0), .second, .val (.int p1), .unset, .unset, .unset, .unset, .unset] []))
  have hnz := own_nz p1
  refine OG.of (A := s₁.setTop (mkF m 2 #[.val (.long p0), .second, .val (.int p1), .unset, .unset, .unset, .unset, .unset] [(.int (8 : Int32))])) (fun oT oK => ?_) ?_
  · show Steps p.tables e below (s₁.setTop (mkF m 0 #[.val (.long p0), .second, .val (.int p1), .unset, .unset, .unset, .unset, .unset] [])) oT
    refine XS.bipush X0.here hx rfl (hb hby at_0) ?_
    exact oK
  show OG _ _ _ _ _ _ _ (s₁.setTop (mkF m 2 #[.val (.long p0), .second, .val (.int p1), .unset, .unset, .unset, .unset, .unset] [(.int (8 : Int32))]))
  obtain ⟨T1, h1, kc1, X1, e1, E1, A1, st1⟩ := newP X0 hx hZ (hw _ (List.mem_of_getElem? (i := 0) rfl)) e0 (g := (mkF m 2 #[.val (.long p0), .second, .val (.int p1), .unset, .unset, .unset, .unset, .unset] [(.int (8 : Int32))])) rfl (hb hby at_2) rfl (by decide) (cap := 8) (by decide) (by decide) (by decide) (by decide)
  obtain ⟨b1, g1⟩ : ∃ z, z = (h0).size := ⟨_, rfl⟩
  have gn_b1 : n0 ≤ b1 := Nat.le_trans Z0 (Nat.le_of_eq g1.symm)
  have sz_b1 : h0.size ≤ b1 := Nat.le_trans (Keep.refl h0 []).1 (Nat.le_of_eq g1.symm)
  rw [← g1] at A1 st1
  have K1 : Keep h0 h1 [] := (Keep.refl h0 []).ext E1
  have Z1 : n0 ≤ h1.size := Nat.le_trans Z0 E1.1
  have V1 : Arv Z h1 b1 kc1 .byte (8 : Int32) [(.int (0 : Int32)), (.int (0 : Int32)), (.int (0 : Int32)), (.int (0 : Int32)), (.int (0 : Int32)), (.int (0 : Int32)), (.int (0 : Int32)), (.int (0 : Int32))] (.int (0 : Int32)) := (Arv.new A1 (by decide)).pad (pad_rep [] (.int (0 : Int32)) 8)
  refine OG.of st1 ?_
  show OG _ _ _ _ _ _ _ (T1.setTop (mkF m 4 #[.val (.long p0), .second, .val (.int p1), .unset, .unset, .unset, .unset, .unset] [(.ref b1)]))
  refine OG.of (A := T1.setTop (mkF m 10 #[.val (.long p0), .second, .val (.int p1), .val (.ref b1), .unset, .unset, .unset, .unset] [(.int p0.toInt32.toInt8.toInt32), (.int (0 : Int32)), (.ref b1)])) (fun oT oK => ?_) ?_
  · show Steps p.tables e below (T1.setTop (mkF m 4 #[.val (.long p0), .second, .val (.int p1), .unset, .unset, .unset, .unset, .unset] [(.ref b1)])) oT
    refine XS.astoreN X1.here hx rfl (hb hby at_4) rfl rfl (l' := #[.val (.long p0), .second, .val (.int p1), .val (.ref b1), .unset, .unset, .unset, .unset]) rfl ?_
    show Steps p.tables e below (T1.setTop (mkF m 5 #[.val (.long p0), .second, .val (.int p1), .val (.ref b1), .unset, .unset, .unset, .unset] [])) _
    refine XS.aloadN X1.here hx rfl (hb hby at_5) rfl rfl  ?_
    show Steps p.tables e below (T1.setTop (mkF m 6 #[.val (.long p0), .second, .val (.int p1), .val (.ref b1), .unset, .unset, .unset, .unset] [(.ref b1)])) _
    refine XS.iconst X1.here hx rfl (hb hby at_6) ?_
    show Steps p.tables e below (T1.setTop (mkF m 7 #[.val (.long p0), .second, .val (.int p1), .val (.ref b1), .unset, .unset, .unset, .unset] [(.int (0 : Int32)), (.ref b1)])) _
    refine XT.lloadN X1.here hx rfl (hb hby at_7) rfl  ?_
    show Steps p.tables e below (T1.setTop (mkF m 8 #[.val (.long p0), .second, .val (.int p1), .val (.ref b1), .unset, .unset, .unset, .unset] [(.long p0), (.int (0 : Int32)), (.ref b1)])) _
    refine XT.l2i X1.here hx rfl (hb hby at_8) rfl ?_
    show Steps p.tables e below (T1.setTop (mkF m 9 #[.val (.long p0), .second, .val (.int p1), .val (.ref b1), .unset, .unset, .unset, .unset] [(.int p0.toInt32), (.int (0 : Int32)), (.ref b1)])) _
    refine XT.i2b X1.here hx rfl (hb hby at_9) rfl ?_
    exact oK
  show OG _ _ _ _ _ _ _ (T1.setTop (mkF m 10 #[.val (.long p0), .second, .val (.int p1), .val (.ref b1), .unset, .unset, .unset, .unset] [(.int p0.toInt32.toInt8.toInt32), (.int (0 : Int32)), (.ref b1)]))
  have cf1 := V1
  obtain ⟨clf1, Arf1, qf1, Sf1, Mf1, Hf1, Gf1⟩ := cf1
  obtain ⟨T2, h2, X2, e2, W2, st2⟩ := stB X1 hx hZ e1 Arf1 (j := (0 : Int32)) (inb_of Sf1 ⟨by decide, by decide⟩) (g := (mkF m 10 #[.val (.long p0), .second, .val (.int p1), .val (.ref b1), .unset, .unset, .unset, .unset] [(.int p0.toInt32.toInt8.toInt32), (.int (0 : Int32)), (.ref b1)])) rfl rfl (hb hby at_10)
  have V2 : Arv Z h2 b1 kc1 .byte (8 : Int32) [(.int (p0.toInt32.toInt8.toInt32).toInt8.toInt32), (.int (0 : Int32)), (.int (0 : Int32)), (.int (0 : Int32)), (.int (0 : Int32)), (.int (0 : Int32)), (.int (0 : Int32)), (.int (0 : Int32))] (.int (0 : Int32)) := Arv.set Arf1 qf1 Sf1 Mf1 Hf1 Gf1 (fits_nar_byte _) W2 0 rfl (Nat.le_of_ble_eq_true rfl)
  have K2 : Keep h0 h2 [] := (K1).wr W2 (Or.inr sz_b1)
  have Z2 : n0 ≤ h2.size := Nat.le_trans Z1 (Keep.of_wr W2).1
  have N2 := Fr.snoc X2 N0 gn_b1
  refine OG.of st2 ?_
  show OG _ _ _ _ _ _ _ (T2.setTop (mkF m 11 #[.val (.long p0), .second, .val (.int p1), .val (.ref b1), .unset, .unset, .unset, .unset] []))
  refine OG.of (A := T2.setTop (mkF m 19 #[.val (.long p0), .second, .val (.int p1), .val (.ref b1), .unset, .unset, .unset, .unset] [(.int (XT.ushrL p0 (8 : Int32)).toInt32.toInt8.toInt32), (.int (1 : Int32)), (.ref b1)])) (fun oT oK => ?_) ?_
  · show Steps p.tables e below (T2.setTop (mkF m 11 #[.val (.long p0), .second, .val (.int p1), .val (.ref b1), .unset, .unset, .unset, .unset] [])) oT
    refine XS.aloadN X2.here hx rfl (hb hby at_11) rfl rfl  ?_
    show Steps p.tables e below (T2.setTop (mkF m 12 #[.val (.long p0), .second, .val (.int p1), .val (.ref b1), .unset, .unset, .unset, .unset] [(.ref b1)])) _
    refine XS.iconst X2.here hx rfl (hb hby at_12) ?_
    show Steps p.tables e below (T2.setTop (mkF m 13 #[.val (.long p0), .second, .val (.int p1), .val (.ref b1), .unset, .unset, .unset, .unset] [(.int (1 : Int32)), (.ref b1)])) _
    refine XT.lloadN X2.here hx rfl (hb hby at_13) rfl  ?_
    show Steps p.tables e below (T2.setTop (mkF m 14 #[.val (.long p0), .second, .val (.int p1), .val (.ref b1), .unset, .unset, .unset, .unset] [(.long p0), (.int (1 : Int32)), (.ref b1)])) _
    refine XS.bipush X2.here hx rfl (hb hby at_14) ?_
    show Steps p.tables e below (T2.setTop (mkF m 16 #[.val (.long p0), .second, .val (.int p1), .val (.ref b1), .unset, .unset, .unset, .unset] [(.int (8 : Int32)), (.long p0), (.int (1 : Int32)), (.ref b1)])) _
    refine XT.lushr X2.here hx rfl (hb hby at_16) rfl ?_
    show Steps p.tables e below (T2.setTop (mkF m 17 #[.val (.long p0), .second, .val (.int p1), .val (.ref b1), .unset, .unset, .unset, .unset] [(.long (XT.ushrL p0 (8 : Int32))), (.int (1 : Int32)), (.ref b1)])) _
    refine XT.l2i X2.here hx rfl (hb hby at_17) rfl ?_
    show Steps p.tables e below (T2.setTop (mkF m 18 #[.val (.long p0), .second, .val (.int p1), .val (.ref b1), .unset, .unset, .unset, .unset] [(.int (XT.ushrL p0 (8 : Int32)).toInt32), (.int (1 : Int32)), (.ref b1)])) _
    refine XT.i2b X2.here hx rfl (hb hby at_18) rfl ?_
    exact oK
  show OG _ _ _ _ _ _ _ (T2.setTop (mkF m 19 #[.val (.long p0), .second, .val (.int p1), .val (.ref b1), .unset, .unset, .unset, .unset] [(.int (XT.ushrL p0 (8 : Int32)).toInt32.toInt8.toInt32), (.int (1 : Int32)), (.ref b1)]))
  have cf3 := V2
  obtain ⟨clf3, Arf3, qf3, Sf3, Mf3, Hf3, Gf3⟩ := cf3
  obtain ⟨T3, h3, X3, e3, W3, st3⟩ := stB X2 hx hZ e2 Arf3 (j := (1 : Int32)) (inb_of Sf3 ⟨by decide, by decide⟩) (g := (mkF m 19 #[.val (.long p0), .second, .val (.int p1), .val (.ref b1), .unset, .unset, .unset, .unset] [(.int (XT.ushrL p0 (8 : Int32)).toInt32.toInt8.toInt32), (.int (1 : Int32)), (.ref b1)])) rfl rfl (hb hby at_19)
  have V3 : Arv Z h3 b1 kc1 .byte (8 : Int32) [(.int (p0.toInt32.toInt8.toInt32).toInt8.toInt32), (.int ((XT.ushrL p0 (8 : Int32)).toInt32.toInt8.toInt32).toInt8.toInt32), (.int (0 : Int32)), (.int (0 : Int32)), (.int (0 : Int32)), (.int (0 : Int32)), (.int (0 : Int32)), (.int (0 : Int32))] (.int (0 : Int32)) := Arv.set Arf3 qf3 Sf3 Mf3 Hf3 Gf3 (fits_nar_byte _) W3 1 rfl (Nat.le_of_ble_eq_true rfl)
  have K3 : Keep h0 h3 [] := (K2).wr W3 (Or.inr sz_b1)
  have Z3 : n0 ≤ h3.size := Nat.le_trans Z2 (Keep.of_wr W3).1
  have N3 := Fr.snoc X3 N2 gn_b1
  refine OG.of st3 ?_
  show OG _ _ _ _ _ _ _ (T3.setTop (mkF m 20 #[.val (.long p0), .second, .val (.int p1), .val (.ref b1), .unset, .unset, .unset, .unset] []))
  refine OG.of (A := T3.setTop (mkF m 28 #[.val (.long p0), .second, .val (.int p1), .val (.ref b1), .unset, .unset, .unset, .unset] [(.int (XT.ushrL p0 (16 : Int32)).toInt32.toInt8.toInt32), (.int (2 : Int32)), (.ref b1)])) (fun oT oK => ?_) ?_
  · show Steps p.tables e below (T3.setTop (mkF m 20 #[.val (.long p0), .second, .val (.int p1), .val (.ref b1), .unset, .unset, .unset, .unset] [])) oT
    refine XS.aloadN X3.here hx rfl (hb hby at_20) rfl rfl  ?_
    show Steps p.tables e below (T3.setTop (mkF m 21 #[.val (.long p0), .second, .val (.int p1), .val (.ref b1), .unset, .unset, .unset, .unset] [(.ref b1)])) _
    refine XS.iconst X3.here hx rfl (hb hby at_21) ?_
    show Steps p.tables e below (T3.setTop (mkF m 22 #[.val (.long p0), .second, .val (.int p1), .val (.ref b1), .unset, .unset, .unset, .unset] [(.int (2 : Int32)), (.ref b1)])) _
    refine XT.lloadN X3.here hx rfl (hb hby at_22) rfl  ?_
    show Steps p.tables e below (T3.setTop (mkF m 23 #[.val (.long p0), .second, .val (.int p1), .val (.ref b1), .unset, .unset, .unset, .unset] [(.long p0), (.int (2 : Int32)), (.ref b1)])) _
    refine XS.bipush X3.here hx rfl (hb hby at_23) ?_
    show Steps p.tables e below (T3.setTop (mkF m 25 #[.val (.long p0), .second, .val (.int p1), .val (.ref b1), .unset, .unset, .unset, .unset] [(.int (16 : Int32)), (.long p0), (.int (2 : Int32)), (.ref b1)])) _
    refine XT.lushr X3.here hx rfl (hb hby at_25) rfl ?_
    show Steps p.tables e below (T3.setTop (mkF m 26 #[.val (.long p0), .second, .val (.int p1), .val (.ref b1), .unset, .unset, .unset, .unset] [(.long (XT.ushrL p0 (16 : Int32))), (.int (2 : Int32)), (.ref b1)])) _
    refine XT.l2i X3.here hx rfl (hb hby at_26) rfl ?_
    show Steps p.tables e below (T3.setTop (mkF m 27 #[.val (.long p0), .second, .val (.int p1), .val (.ref b1), .unset, .unset, .unset, .unset] [(.int (XT.ushrL p0 (16 : Int32)).toInt32), (.int (2 : Int32)), (.ref b1)])) _
    refine XT.i2b X3.here hx rfl (hb hby at_27) rfl ?_
    exact oK
  show OG _ _ _ _ _ _ _ (T3.setTop (mkF m 28 #[.val (.long p0), .second, .val (.int p1), .val (.ref b1), .unset, .unset, .unset, .unset] [(.int (XT.ushrL p0 (16 : Int32)).toInt32.toInt8.toInt32), (.int (2 : Int32)), (.ref b1)]))
  have cf5 := V3
  obtain ⟨clf5, Arf5, qf5, Sf5, Mf5, Hf5, Gf5⟩ := cf5
  obtain ⟨T4, h4, X4, e4, W4, st4⟩ := stB X3 hx hZ e3 Arf5 (j := (2 : Int32)) (inb_of Sf5 ⟨by decide, by decide⟩) (g := (mkF m 28 #[.val (.long p0), .second, .val (.int p1), .val (.ref b1), .unset, .unset, .unset, .unset] [(.int (XT.ushrL p0 (16 : Int32)).toInt32.toInt8.toInt32), (.int (2 : Int32)), (.ref b1)])) rfl rfl (hb hby at_28)
  have V4 : Arv Z h4 b1 kc1 .byte (8 : Int32) [(.int (p0.toInt32.toInt8.toInt32).toInt8.toInt32), (.int ((XT.ushrL p0 (8 : Int32)).toInt32.toInt8.toInt32).toInt8.toInt32), (.int ((XT.ushrL p0 (16 : Int32)).toInt32.toInt8.toInt32).toInt8.toInt32), (.int (0 : Int32)), (.int (0 : Int32)), (.int (0 : Int32)), (.int (0 : Int32)), (.int (0 : Int32))] (.int (0 : Int32)) := Arv.set Arf5 qf5 Sf5 Mf5 Hf5 Gf5 (fits_nar_byte _) W4 2 rfl (Nat.le_of_ble_eq_true rfl)
  have K4 : Keep h0 h4 [] := (K3).wr W4 (Or.inr sz_b1)
  have Z4 : n0 ≤ h4.size := Nat.le_trans Z3 (Keep.of_wr W4).1
  have N4 := Fr.snoc X4 N3 gn_b1
  refine OG.of st4 ?_
  show OG _ _ _ _ _ _ _ (T4.setTop (mkF m 29 #[.val (.long p0), .second, .val (.int p1), .val (.ref b1), .unset, .unset, .unset, .unset] []))
  refine OG.of (A := T4.setTop (mkF m 37 #[.val (.long p0), .second, .val (.int p1), .val (.ref b1), .unset, .unset, .unset, .unset] [(.int (XT.ushrL p0 (24 : Int32)).toInt32.toInt8.toInt32), (.int (3 : Int32)), (.ref b1)])) (fun oT oK => ?_) ?_
  · show Steps p.tables e below (T4.setTop (mkF m 29 #[.val (.long p0), .second, .val (.int p1), .val (.ref b1), .unset, .unset, .unset, .unset] [])) oT
    refine XS.aloadN X4.here hx rfl (hb hby at_29) rfl rfl  ?_
    show Steps p.tables e below (T4.setTop (mkF m 30 #[.val (.long p0), .second, .val (.int p1), .val (.ref b1), .unset, .unset, .unset, .unset] [(.ref b1)])) _
    refine XS.iconst X4.here hx rfl (hb hby at_30) ?_
    show Steps p.tables e below (T4.setTop (mkF m 31 #[.val (.long p0), .second, .val (.int p1), .val (.ref b1), .unset, .unset, .unset, .unset] [(.int (3 : Int32)), (.ref b1)])) _
    refine XT.lloadN X4.here hx rfl (hb hby at_31) rfl  ?_
    show Steps p.tables e below (T4.setTop (mkF m 32 #[.val (.long p0), .second, .val (.int p1), .val (.ref b1), .unset, .unset, .unset, .unset] [(.long p0), (.int (3 : Int32)), (.ref b1)])) _
    refine XS.bipush X4.here hx rfl (hb hby at_32) ?_
    show Steps p.tables e below (T4.setTop (mkF m 34 #[.val (.long p0), .second, .val (.int p1), .val (.ref b1), .unset, .unset, .unset, .unset] [(.int (24 : Int32)), (.long p0), (.int (3 : Int32)), (.ref b1)])) _
    refine XT.lushr X4.here hx rfl (hb hby at_34) rfl ?_
    show Steps p.tables e below (T4.setTop (mkF m 35 #[.val (.long p0), .second, .val (.int p1), .val (.ref b1), .unset, .unset, .unset, .unset] [(.long (XT.ushrL p0 (24 : Int32))), (.int (3 : Int32)), (.ref b1)])) _
    refine XT.l2i X4.here hx rfl (hb hby at_35) rfl ?_
    show Steps p.tables e below (T4.setTop (mkF m 36 #[.val (.long p0), .second, .val (.int p1), .val (.ref b1), .unset, .unset, .unset, .unset] [(.int (XT.ushrL p0 (24 : Int32)).toInt32), (.int (3 : Int32)), (.ref b1)])) _
    refine XT.i2b X4.here hx rfl (hb hby at_36) rfl ?_
    exact oK
  show OG _ _ _ _ _ _ _ (T4.setTop (mkF m 37 #[.val (.long p0), .second, .val (.int p1), .val (.ref b1), .unset, .unset, .unset, .unset] [(.int (XT.ushrL p0 (24 : Int32)).toInt32.toInt8.toInt32), (.int (3 : Int32)), (.ref b1)]))
  have cf7 := V4
  obtain ⟨clf7, Arf7, qf7, Sf7, Mf7, Hf7, Gf7⟩ := cf7
  obtain ⟨T5, h5, X5, e5, W5, st5⟩ := stB X4 hx hZ e4 Arf7 (j := (3 : Int32)) (inb_of Sf7 ⟨by decide, by decide⟩) (g := (mkF m 37 #[.val (.long p0), .second, .val (.int p1), .val (.ref b1), .unset, .unset, .unset, .unset] [(.int (XT.ushrL p0 (24 : Int32)).toInt32.toInt8.toInt32), (.int (3 : Int32)), (.ref b1)])) rfl rfl (hb hby at_37)
  have V5 : Arv Z h5 b1 kc1 .byte (8 : Int32) [(.int (p0.toInt32.toInt8.toInt32).toInt8.toInt32), (.int ((XT.ushrL p0 (8 : Int32)).toInt32.toInt8.toInt32).toInt8.toInt32), (.int ((XT.ushrL p0 (16 : Int32)).toInt32.toInt8.toInt32).toInt8.toInt32), (.int ((XT.ushrL p0 (24 : Int32)).toInt32.toInt8.toInt32).toInt8.toInt32), (.int (0 : Int32)), (.int (0 : Int32)), (.int (0 : Int32)), (.int (0 : Int32))] (.int (0 : Int32)) := Arv.set Arf7 qf7 Sf7 Mf7 Hf7 Gf7 (fits_nar_byte _) W5 3 rfl (Nat.le_of_ble_eq_true rfl)
  have K5 : Keep h0 h5 [] := (K4).wr W5 (Or.inr sz_b1)
  have Z5 : n0 ≤ h5.size := Nat.le_trans Z4 (Keep.of_wr W5).1
  have N5 := Fr.snoc X5 N4 gn_b1
  refine OG.of st5 ?_
  show OG _ _ _ _ _ _ _ (T5.setTop (mkF m 38 #[.val (.long p0), .second, .val (.int p1), .val (.ref b1), .unset, .unset, .unset, .unset] []))
  refine OG.of (A := T5.setTop (mkF m 46 #[.val (.long p0), .second, .val (.int p1), .val (.ref b1), .unset, .unset, .unset, .unset] [(.int (XT.ushrL p0 (32 : Int32)).toInt32.toInt8.toInt32), (.int (4 : Int32)), (.ref b1)])) (fun oT oK => ?_) ?_
  · show Steps p.tables e below (T5.setTop (mkF m 38 #[.val (.long p0), .second, .val (.int p1), .val (.ref b1), .unset, .unset, .unset, .unset] [])) oT
    refine XS.aloadN X5.here hx rfl (hb hby at_38) rfl rfl  ?_
    show Steps p.tables e below (T5.setTop (mkF m 39 #[.val (.long p0), .second, .val (.int p1), .val (.ref b1), .unset, .unset, .unset, .unset] [(.ref b1)])) _
    refine XS.iconst X5.here hx rfl (hb hby at_39) ?_
    show Steps p.tables e below (T5.setTop (mkF m 40 #[.val (.long p0), .second, .val (.int p1), .val (.ref b1), .unset, .unset, .unset, .unset] [(.int (4 : Int32)), (.ref b1)])) _
    refine XT.lloadN X5.here hx rfl (hb hby at_40) rfl  ?_
    show Steps p.tables e below (T5.setTop (mkF m 41 #[.val (.long p0), .second, .val (.int p1), .val (.ref b1), .unset, .unset, .unset, .unset] [(.long p0), (.int (4 : Int32)), (.ref b1)])) _
    refine XS.bipush X5.here hx rfl (hb hby at_41) ?_
    show Steps p.tables e below (T5.setTop (mkF m 43 #[.val (.long p0), .second, .val (.int p1), .val (.ref b1), .unset, .unset, .unset, .unset] [(.int (32 : Int32)), (.long p0), (.int (4 : Int32)), (.ref b1)])) _
    refine XT.lushr X5.here hx rfl (hb hby at_43) rfl ?_
    show Steps p.tables e below (T5.setTop (mkF m 44 #[.val (.long p0), .second, .val (.int p1), .val (.ref b1), .unset, .unset, .unset, .unset] [(.long (XT.ushrL p0 (32 : Int32))), (.int (4 : Int32)), (.ref b1)])) _
    refine XT.l2i X5.here hx rfl (hb hby at_44) rfl ?_
    show Steps p.tables e below (T5.setTop (mkF m 45 #[.val (.long p0), .second, .val (.int p1), .val (.ref b1), .unset, .unset, .unset, .unset] [(.int (XT.ushrL p0 (32 : Int32)).toInt32), (.int (4 : Int32)), (.ref b1)])) _
    refine XT.i2b X5.here hx rfl (hb hby at_45) rfl ?_
    exact oK
  show OG _ _ _ _ _ _ _ (T5.setTop (mkF m 46 #[.val (.long p0), .second, .val (.int p1), .val (.ref b1), .unset, .unset, .unset, .unset] [(.int (XT.ushrL p0 (32 : Int32)).toInt32.toInt8.toInt32), (.int (4 : Int32)), (.ref b1)]))
  have cf9 := V5
  obtain ⟨clf9, Arf9, qf9, Sf9, Mf9, Hf9, Gf9⟩ := cf9
  obtain ⟨T6, h6, X6, e6, W6, st6⟩ := stB X5 hx hZ e5 Arf9 (j := (4 : Int32)) (inb_of Sf9 ⟨by decide, by decide⟩) (g := (mkF m 46 #[.val (.long p0), .second, .val (.int p1), .val (.ref b1), .unset, .unset, .unset, .unset] [(.int (XT.ushrL p0 (32 : Int32)).toInt32.toInt8.toInt32), (.int (4 : Int32)), (.ref b1)])) rfl rfl (hb hby at_46)
  have V6 : Arv Z h6 b1 kc1 .byte (8 : Int32) [(.int (p0.toInt32.toInt8.toInt32).toInt8.toInt32), (.int ((XT.ushrL p0 (8 : Int32)).toInt32.toInt8.toInt32).toInt8.toInt32), (.int ((XT.ushrL p0 (16 : Int32)).toInt32.toInt8.toInt32).toInt8.toInt32), (.int ((XT.ushrL p0 (24 : Int32)).toInt32.toInt8.toInt32).toInt8.toInt32), (.int ((XT.ushrL p0 (32 : Int32)).toInt32.toInt8.toInt32).toInt8.toInt32), (.int (0 : Int32)), (.int (0 : Int32)), (.int (0 : Int32))] (.int (0 : Int32)) := Arv.set Arf9 qf9 Sf9 Mf9 Hf9 Gf9 (fits_nar_byte _) W6 4 rfl (Nat.le_of_ble_eq_true rfl)
  have K6 : Keep h0 h6 [] := (K5).wr W6 (Or.inr sz_b1)
  have Z6 : n0 ≤ h6.size := Nat.le_trans Z5 (Keep.of_wr W6).1
  have N6 := Fr.snoc X6 N5 gn_b1
  refine OG.of st6 ?_
  show OG _ _ _ _ _ _ _ (T6.setTop (mkF m 47 #[.val (.long p0), .second, .val (.int p1), .val (.ref b1), .unset, .unset, .unset, .unset] []))
  refine OG.of (A := T6.setTop (mkF m 55 #[.val (.long p0), .second, .val (.int p1), .val (.ref b1), .unset, .unset, .unset, .unset] [(.int (XT.ushrL p0 (40 : Int32)).toInt32.toInt8.toInt32), (.int (5 : Int32)), (.ref b1)])) (fun oT oK => ?_) ?_
  · show Steps p.tables e below (T6.setTop (mkF m 47 #[.val (.long p0), .second, .val (.int p1), .val (.ref b1), .unset, .unset, .unset, .unset] [])) oT
    refine XS.aloadN X6.here hx rfl (hb hby at_47) rfl rfl  ?_
    show Steps p.tables e below (T6.setTop (mkF m 48 #[.val (.long p0), .second, .val (.int p1), .val (.ref b1), .unset, .unset, .unset, .unset] [(.ref b1)])) _
    refine XS.iconst X6.here hx rfl (hb hby at_48) ?_
    show Steps p.tables e below (T6.setTop (mkF m 49 #[.val (.long p0), .second, .val (.int p1), .val (.ref b1), .unset, .unset, .unset, .unset] [(.int (5 : Int32)), (.ref b1)])) _
    refine XT.lloadN X6.here hx rfl (hb hby at_49) rfl  ?_
    show Steps p.tables e below (T6.setTop (mkF m 50 #[.val (.long p0), .second, .val (.int p1), .val (.ref b1), .unset, .unset, .unset, .unset] [(.long p0), (.int (5 : Int32)), (.ref b1)])) _
    refine XS.bipush X6.here hx rfl (hb hby at_50) ?_
    show Steps p.tables e below (T6.setTop (mkF m 52 #[.val (.long p0), .second, .val (.int p1), .val (.ref b1), .unset, .unset, .unset, .unset] [(.int (40 : Int32)), (.long p0), (.int (5 : Int32)), (.ref b1)])) _
    refine XT.lushr X6.here hx rfl (hb hby at_52) rfl ?_
    show Steps p.tables e below (T6.setTop (mkF m 53 #[.val (.long p0), .second, .val (.int p1), .val (.ref b1), .unset, .unset, .unset, .unset] [(.long (XT.ushrL p0 (40 : Int32))), (.int (5 : Int32)), (.ref b1)])) _
    refine XT.l2i X6.here hx rfl (hb hby at_53) rfl ?_
    show Steps p.tables e below (T6.setTop (mkF m 54 #[.val (.long p0), .second, .val (.int p1), .val (.ref b1), .unset, .unset, .unset, .unset] [(.int (XT.ushrL p0 (40 : Int32)).toInt32), (.int (5 : Int32)), (.ref b1)])) _
    refine XT.i2b X6.here hx rfl (hb hby at_54) rfl ?_
    exact oK
  show OG _ _ _ _ _ _ _ (T6.setTop (mkF m 55 #[.val (.long p0), .second, .val (.int p1), .val (.ref b1), .unset, .unset, .unset, .unset] [(.int (XT.ushrL p0 (40 : Int32)).toInt32.toInt8.toInt32), (.int (5 : Int32)), (.ref b1)]))
  have cf11 := V6
  obtain ⟨clf11, Arf11, qf11, Sf11, Mf11, Hf11, Gf11⟩ := cf11
  obtain ⟨T7, h7, X7, e7, W7, st7⟩ := stB X6 hx hZ e6 Arf11 (j := (5 : Int32)) (inb_of Sf11 ⟨by decide, by decide⟩) (g := (mkF m 55 #[.val (.long p0), .second, .val (.int p1), .val (.ref b1), .unset, .unset, .unset, .unset] [(.int (XT.ushrL p0 (40 : Int32)).toInt32.toInt8.toInt32), (.int (5 : Int32)), (.ref b1)])) rfl rfl (hb hby at_55)
  have V7 : Arv Z h7 b1 kc1 .byte (8 : Int32) [(.int (p0.toInt32.toInt8.toInt32).toInt8.toInt32), (.int ((XT.ushrL p0 (8 : Int32)).toInt32.toInt8.toInt32).toInt8.toInt32), (.int ((XT.ushrL p0 (16 : Int32)).toInt32.toInt8.toInt32).toInt8.toInt32), (.int ((XT.ushrL p0 (24 : Int32)).toInt32.toInt8.toInt32).toInt8.toInt32), (.int ((XT.ushrL p0 (32 : Int32)).toInt32.toInt8.toInt32).toInt8.toInt32), (.int ((XT.ushrL p0 (40 : Int32)).toInt32.toInt8.toInt32).toInt8.toInt32), (.int (0 : Int32)), (.int (0 : Int32))] (.int (0 : Int32)) := Arv.set Arf11 qf11 Sf11 Mf11 Hf11 Gf11 (fits_nar_byte _) W7 5 rfl (Nat.le_of_ble_eq_true rfl)
  have K7 : Keep h0 h7 [] := (K6).wr W7 (Or.inr sz_b1)
  have Z7 : n0 ≤ h7.size := Nat.le_trans Z6 (Keep.of_wr W7).1
  have N7 := Fr.snoc X7 N6 gn_b1
  refine OG.of st7 ?_
  show OG _ _ _ _ _ _ _ (T7.setTop (mkF m 56 #[.val (.long p0), .second, .val (.int p1), .val (.ref b1), .unset, .unset, .unset, .unset] []))
  refine OG.of (A := T7.setTop (mkF m 65 #[.val (.long p0), .second, .val (.int p1), .val (.ref b1), .unset, .unset, .unset, .unset] [(.int (XT.ushrL p0 (48 : Int32)).toInt32.toInt8.toInt32), (.int (6 : Int32)), (.ref b1)])) (fun oT oK => ?_) ?_
  · show Steps p.tables e below (T7.setTop (mkF m 56 #[.val (.long p0), .second, .val (.int p1), .val (.ref b1), .unset, .unset, .unset, .unset] [])) oT
    refine XS.aloadN X7.here hx rfl (hb hby at_56) rfl rfl  ?_
    show Steps p.tables e below (T7.setTop (mkF m 57 #[.val (.long p0), .second, .val (.int p1), .val (.ref b1), .unset, .unset, .unset, .unset] [(.ref b1)])) _
    refine XS.bipush X7.here hx rfl (hb hby at_57) ?_
    show Steps p.tables e below (T7.setTop (mkF m 59 #[.val (.long p0), .second, .val (.int p1), .val (.ref b1), .unset, .unset, .unset, .unset] [(.int (6 : Int32)), (.ref b1)])) _
    refine XT.lloadN X7.here hx rfl (hb hby at_59) rfl  ?_
    show Steps p.tables e below (T7.setTop (mkF m 60 #[.val (.long p0), .second, .val (.int p1), .val (.ref b1), .unset, .unset, .unset, .unset] [(.long p0), (.int (6 : Int32)), (.ref b1)])) _
    refine XS.bipush X7.here hx rfl (hb hby at_60) ?_
    show Steps p.tables e below (T7.setTop (mkF m 62 #[.val (.long p0), .second, .val (.int p1), .val (.ref b1), .unset, .unset, .unset, .unset] [(.int (48 : Int32)), (.long p0), (.int (6 : Int32)), (.ref b1)])) _
    refine XT.lushr X7.here hx rfl (hb hby at_62) rfl ?_
    show Steps p.tables e below (T7.setTop (mkF m 63 #[.val (.long p0), .second, .val (.int p1), .val (.ref b1), .unset, .unset, .unset, .unset] [(.long (XT.ushrL p0 (48 : Int32))), (.int (6 : Int32)), (.ref b1)])) _
    refine XT.l2i X7.here hx rfl (hb hby at_63) rfl ?_
    show Steps p.tables e below (T7.setTop (mkF m 64 #[.val (.long p0), .second, .val (.int p1), .val (.ref b1), .unset, .unset, .unset, .unset] [(.int (XT.ushrL p0 (48 : Int32)).toInt32), (.int (6 : Int32)), (.ref b1)])) _
    refine XT.i2b X7.here hx rfl (hb hby at_64) rfl ?_
    exact oK
  show OG _ _ _ _ _ _ _ (T7.setTop (mkF m 65 #[.val (.long p0), .second, .val (.int p1), .val (.ref b1), .unset, .unset, .unset, .unset] [(.int (XT.ushrL p0 (48 : Int32)).toInt32.toInt8.toInt32), (.int (6 : Int32)), (.ref b1)]))
  have cf13 := V7
  obtain ⟨clf13, Arf13, qf13, Sf13, Mf13, Hf13, Gf13⟩ := cf13
  obtain ⟨T8, h8, X8, e8, W8, st8⟩ := stB X7 hx hZ e7 Arf13 (j := (6 : Int32)) (inb_of Sf13 ⟨by decide, by decide⟩) (g := (mkF m 65 #[.val (.long p0), .second, .val (.int p1), .val (.ref b1), .unset, .unset, .unset, .unset] [(.int (XT.ushrL p0 (48 : Int32)).toInt32.toInt8.toInt32), (.int (6 : Int32)), (.ref b1)])) rfl rfl (hb hby at_65)
  have V8 : Arv Z h8 b1 kc1 .byte (8 : Int32) [(.int (p0.toInt32.toInt8.toInt32).toInt8.toInt32), (.int ((XT.ushrL p0 (8 : Int32)).toInt32.toInt8.toInt32).toInt8.toInt32), (.int ((XT.ushrL p0 (16 : Int32)).toInt32.toInt8.toInt32).toInt8.toInt32), (.int ((XT.ushrL p0 (24 : Int32)).toInt32.toInt8.toInt32).toInt8.toInt32), (.int ((XT.ushrL p0 (32 : Int32)).toInt32.toInt8.toInt32).toInt8.toInt32), (.int ((XT.ushrL p0 (40 : Int32)).toInt32.toInt8.toInt32).toInt8.toInt32), (.int ((XT.ushrL p0 (48 : Int32)).toInt32.toInt8.toInt32).toInt8.toInt32), (.int (0 : Int32))] (.int (0 : Int32)) := Arv.set Arf13 qf13 Sf13 Mf13 Hf13 Gf13 (fits_nar_byte _) W8 6 rfl (Nat.le_of_ble_eq_true rfl)
  have K8 : Keep h0 h8 [] := (K7).wr W8 (Or.inr sz_b1)
  have Z8 : n0 ≤ h8.size := Nat.le_trans Z7 (Keep.of_wr W8).1
  have N8 := Fr.snoc X8 N7 gn_b1
  refine OG.of st8 ?_
  show OG _ _ _ _ _ _ _ (T8.setTop (mkF m 66 #[.val (.long p0), .second, .val (.int p1), .val (.ref b1), .unset, .unset, .unset, .unset] []))
  refine OG.of (A := T8.setTop (mkF m 75 #[.val (.long p0), .second, .val (.int p1), .val (.ref b1), .unset, .unset, .unset, .unset] [(.int (XT.ushrL p0 (56 : Int32)).toInt32.toInt8.toInt32), (.int (7 : Int32)), (.ref b1)])) (fun oT oK => ?_) ?_
  · show Steps p.tables e below (T8.setTop (mkF m 66 #[.val (.long p0), .second, .val (.int p1), .val (.ref b1), .unset, .unset, .unset, .unset] [])) oT
    refine XS.aloadN X8.here hx rfl (hb hby at_66) rfl rfl  ?_
    show Steps p.tables e below (T8.setTop (mkF m 67 #[.val (.long p0), .second, .val (.int p1), .val (.ref b1), .unset, .unset, .unset, .unset] [(.ref b1)])) _
    refine XS.bipush X8.here hx rfl (hb hby at_67) ?_
    show Steps p.tables e below (T8.setTop (mkF m 69 #[.val (.long p0), .second, .val (.int p1), .val (.ref b1), .unset, .unset, .unset, .unset] [(.int (7 : Int32)), (.ref b1)])) _
    refine XT.lloadN X8.here hx rfl (hb hby at_69) rfl  ?_
    show Steps p.tables e below (T8.setTop (mkF m 70 #[.val (.long p0), .second, .val (.int p1), .val (.ref b1), .unset, .unset, .unset, .unset] [(.long p0), (.int (7 : Int32)), (.ref b1)])) _
    refine XS.bipush X8.here hx rfl (hb hby at_70) ?_
    show Steps p.tables e below (T8.setTop (mkF m 72 #[.val (.long p0), .second, .val (.int p1), .val (.ref b1), .unset, .unset, .unset, .unset] [(.int (56 : Int32)), (.long p0), (.int (7 : Int32)), (.ref b1)])) _
    refine XT.lushr X8.here hx rfl (hb hby at_72) rfl ?_
    show Steps p.tables e below (T8.setTop (mkF m 73 #[.val (.long p0), .second, .val (.int p1), .val (.ref b1), .unset, .unset, .unset, .unset] [(.long (XT.ushrL p0 (56 : Int32))), (.int (7 : Int32)), (.ref b1)])) _
    refine XT.l2i X8.here hx rfl (hb hby at_73) rfl ?_
    show Steps p.tables e below (T8.setTop (mkF m 74 #[.val (.long p0), .second, .val (.int p1), .val (.ref b1), .unset, .unset, .unset, .unset] [(.int (XT.ushrL p0 (56 : Int32)).toInt32), (.int (7 : Int32)), (.ref b1)])) _
    refine XT.i2b X8.here hx rfl (hb hby at_74) rfl ?_
    exact oK
  show OG _ _ _ _ _ _ _ (T8.setTop (mkF m 75 #[.val (.long p0), .second, .val (.int p1), .val (.ref b1), .unset, .unset, .unset, .unset] [(.int (XT.ushrL p0 (56 : Int32)).toInt32.toInt8.toInt32), (.int (7 : Int32)), (.ref b1)]))
  have cf15 := V8
  obtain ⟨clf15, Arf15, qf15, Sf15, Mf15, Hf15, Gf15⟩ := cf15
  obtain ⟨T9, h9, X9, e9, W9, st9⟩ := stB X8 hx hZ e8 Arf15 (j := (7 : Int32)) (inb_of Sf15 ⟨by decide, by decide⟩) (g := (mkF m 75 #[.val (.long p0), .second, .val (.int p1), .val (.ref b1), .unset, .unset, .unset, .unset] [(.int (XT.ushrL p0 (56 : Int32)).toInt32.toInt8.toInt32), (.int (7 : Int32)), (.ref b1)])) rfl rfl (hb hby at_75)
  have V9 : Arv Z h9 b1 kc1 .byte (8 : Int32) [(.int (p0.toInt32.toInt8.toInt32).toInt8.toInt32), (.int ((XT.ushrL p0 (8 : Int32)).toInt32.toInt8.toInt32).toInt8.toInt32), (.int ((XT.ushrL p0 (16 : Int32)).toInt32.toInt8.toInt32).toInt8.toInt32), (.int ((XT.ushrL p0 (24 : Int32)).toInt32.toInt8.toInt32).toInt8.toInt32), (.int ((XT.ushrL p0 (32 : Int32)).toInt32.toInt8.toInt32).toInt8.toInt32), (.int ((XT.ushrL p0 (40 : Int32)).toInt32.toInt8.toInt32).toInt8.toInt32), (.int ((XT.ushrL p0 (48 : Int32)).toInt32.toInt8.toInt32).toInt8.toInt32), (.int ((XT.ushrL p0 (56 : Int32)).toInt32.toInt8.toInt32).toInt8.toInt32)] (.int (0 : Int32)) := Arv.set Arf15 qf15 Sf15 Mf15 Hf15 Gf15 (fits_nar_byte _) W9 7 rfl (Nat.le_of_ble_eq_true rfl)
  have K9 : Keep h0 h9 [] := (K8).wr W9 (Or.inr sz_b1)
  have Z9 : n0 ≤ h9.size := Nat.le_trans Z8 (Keep.of_wr W9).1
  have N9 := Fr.snoc X9 N8 gn_b1
  refine OG.of st9 ?_
  show OG _ _ _ _ _ _ _ (T9.setTop (mkF m 76 #[.val (.long p0), .second, .val (.int p1), .val (.ref b1), .unset, .unset, .unset, .unset] []))
  refine OG.of (A := T9.setTop (mkF m 96 #[.val (.long p0), .second, .val (.int p1), .val (.ref b1), .val (.int (p1 &&& (7 : Int32))), .val (.int (((XT.ushr p1 (3 : Int32)) &&& (15 : Int32)) % ((9 : Int32) - (p1 &&& (7 : Int32))))), .unset, .unset] [])) (fun oT oK => ?_) ?_
  · show Steps p.tables e below (T9.setTop (mkF m 76 #[.val (.long p0), .second, .val (.int p1), .val (.ref b1), .unset, .unset, .unset, .unset] [])) oT
    refine XS.iloadN X9.here hx rfl (hb hby at_76) rfl  ?_
    show Steps p.tables e below (T9.setTop (mkF m 77 #[.val (.long p0), .second, .val (.int p1), .val (.ref b1), .unset, .unset, .unset, .unset] [(.int p1)])) _
    refine XS.bipush X9.here hx rfl (hb hby at_77) ?_
    show Steps p.tables e below (T9.setTop (mkF m 79 #[.val (.long p0), .second, .val (.int p1), .val (.ref b1), .unset, .unset, .unset, .unset] [(.int (7 : Int32)), (.int p1)])) _
    refine XS.iand X9.here hx rfl (hb hby at_79) rfl ?_
    show Steps p.tables e below (T9.setTop (mkF m 80 #[.val (.long p0), .second, .val (.int p1), .val (.ref b1), .unset, .unset, .unset, .unset] [(.int (p1 &&& (7 : Int32)))])) _
    refine XS.istore X9.here hx rfl (hb hby at_80) rfl (l' := #[.val (.long p0), .second, .val (.int p1), .val (.ref b1), .val (.int (p1 &&& (7 : Int32))), .unset, .unset, .unset]) rfl ?_
    show Steps p.tables e below (T9.setTop (mkF m 82 #[.val (.long p0), .second, .val (.int p1), .val (.ref b1), .val (.int (p1 &&& (7 : Int32))), .unset, .unset, .unset] [])) _
    refine XS.iloadN X9.here hx rfl (hb hby at_82) rfl  ?_
    show Steps p.tables e below (T9.setTop (mkF m 83 #[.val (.long p0), .second, .val (.int p1), .val (.ref b1), .val (.int (p1 &&& (7 : Int32))), .unset, .unset, .unset] [(.int p1)])) _
    refine XS.iconst X9.here hx rfl (hb hby at_83) ?_
    show Steps p.tables e below (T9.setTop (mkF m 84 #[.val (.long p0), .second, .val (.int p1), .val (.ref b1), .val (.int (p1 &&& (7 : Int32))), .unset, .unset, .unset] [(.int (3 : Int32)), (.int p1)])) _
    refine XT.iushr X9.here hx rfl (hb hby at_84) rfl ?_
    show Steps p.tables e below (T9.setTop (mkF m 85 #[.val (.long p0), .second, .val (.int p1), .val (.ref b1), .val (.int (p1 &&& (7 : Int32))), .unset, .unset, .unset] [(.int (XT.ushr p1 (3 : Int32)))])) _
    refine XS.bipush X9.here hx rfl (hb hby at_85) ?_
    show Steps p.tables e below (T9.setTop (mkF m 87 #[.val (.long p0), .second, .val (.int p1), .val (.ref b1), .val (.int (p1 &&& (7 : Int32))), .unset, .unset, .unset] [(.int (15 : Int32)), (.int (XT.ushr p1 (3 : Int32)))])) _
    refine XS.iand X9.here hx rfl (hb hby at_87) rfl ?_
    show Steps p.tables e below (T9.setTop (mkF m 88 #[.val (.long p0), .second, .val (.int p1), .val (.ref b1), .val (.int (p1 &&& (7 : Int32))), .unset, .unset, .unset] [(.int ((XT.ushr p1 (3 : Int32)) &&& (15 : Int32)))])) _
    refine XS.bipush X9.here hx rfl (hb hby at_88) ?_
    show Steps p.tables e below (T9.setTop (mkF m 90 #[.val (.long p0), .second, .val (.int p1), .val (.ref b1), .val (.int (p1 &&& (7 : Int32))), .unset, .unset, .unset] [(.int (9 : Int32)), (.int ((XT.ushr p1 (3 : Int32)) &&& (15 : Int32)))])) _
    refine XS.iload X9.here hx rfl (hb hby at_90) rfl  ?_
    show Steps p.tables e below (T9.setTop (mkF m 92 #[.val (.long p0), .second, .val (.int p1), .val (.ref b1), .val (.int (p1 &&& (7 : Int32))), .unset, .unset, .unset] [(.int (p1 &&& (7 : Int32))), (.int (9 : Int32)), (.int ((XT.ushr p1 (3 : Int32)) &&& (15 : Int32)))])) _
    refine XS.isub X9.here hx rfl (hb hby at_92) rfl ?_
    show Steps p.tables e below (T9.setTop (mkF m 93 #[.val (.long p0), .second, .val (.int p1), .val (.ref b1), .val (.int (p1 &&& (7 : Int32))), .unset, .unset, .unset] [(.int ((9 : Int32) - (p1 &&& (7 : Int32)))), (.int ((XT.ushr p1 (3 : Int32)) &&& (15 : Int32)))])) _
    refine Jvm.RoadKit.iremM X9 hx rfl (hb hby at_93) rfl hnz ?_
    show Steps p.tables e below (T9.setTop (mkF m 94 #[.val (.long p0), .second, .val (.int p1), .val (.ref b1), .val (.int (p1 &&& (7 : Int32))), .unset, .unset, .unset] [(.int (((XT.ushr p1 (3 : Int32)) &&& (15 : Int32)) % ((9 : Int32) - (p1 &&& (7 : Int32)))))])) _
    refine XS.istore X9.here hx rfl (hb hby at_94) rfl (l' := #[.val (.long p0), .second, .val (.int p1), .val (.ref b1), .val (.int (p1 &&& (7 : Int32))), .val (.int (((XT.ushr p1 (3 : Int32)) &&& (15 : Int32)) % ((9 : Int32) - (p1 &&& (7 : Int32))))), .unset, .unset]) rfl ?_
    exact oK
  show OG _ _ _ _ _ _ _ (T9.setTop (mkF m 96 #[.val (.long p0), .second, .val (.int p1), .val (.ref b1), .val (.int (p1 &&& (7 : Int32))), .val (.int (((XT.ushr p1 (3 : Int32)) &&& (15 : Int32)) % ((9 : Int32) - (p1 &&& (7 : Int32))))), .unset, .unset] []))
  obtain ⟨o, n, hon, hlen, hoff⟩ := own_on p1
  rw [hlen, hoff]
  show OG _ _ _ _ _ _ _ (T9.setTop (mkF m 96 #[.val (.long p0), .second, .val (.int p1), .val (.ref b1), .val (.int (Int32.ofNat o)), .val (.int (Int32.ofNat n)), .unset, .unset] []))
  refine OG.of (A := T9.setTop (mkF m 102 #[.val (.long p0), .second, .val (.int p1), .val (.ref b1), .val (.int (Int32.ofNat o)), .val (.int (Int32.ofNat n)), .unset, .unset] [(.int (Int32.ofNat n)), (.int (Int32.ofNat o)), (.int (0 : Int32)), (.ref b1)])) (fun oT oK => ?_) ?_
  · show Steps p.tables e below (T9.setTop (mkF m 96 #[.val (.long p0), .second, .val (.int p1), .val (.ref b1), .val (.int (Int32.ofNat o)), .val (.int (Int32.ofNat n)), .unset, .unset] [])) oT
    refine XS.aloadN X9.here hx rfl (hb hby at_96) rfl rfl  ?_
    show Steps p.tables e below (T9.setTop (mkF m 97 #[.val (.long p0), .second, .val (.int p1), .val (.ref b1), .val (.int (Int32.ofNat o)), .val (.int (Int32.ofNat n)), .unset, .unset] [(.ref b1)])) _
    refine XS.iconst X9.here hx rfl (hb hby at_97) ?_
    show Steps p.tables e below (T9.setTop (mkF m 98 #[.val (.long p0), .second, .val (.int p1), .val (.ref b1), .val (.int (Int32.ofNat o)), .val (.int (Int32.ofNat n)), .unset, .unset] [(.int (0 : Int32)), (.ref b1)])) _
    refine XS.iload X9.here hx rfl (hb hby at_98) rfl  ?_
    show Steps p.tables e below (T9.setTop (mkF m 100 #[.val (.long p0), .second, .val (.int p1), .val (.ref b1), .val (.int (Int32.ofNat o)), .val (.int (Int32.ofNat n)), .unset, .unset] [(.int (Int32.ofNat o)), (.int (0 : Int32)), (.ref b1)])) _
    refine XS.iload X9.here hx rfl (hb hby at_100) rfl  ?_
    exact oK
  show OG _ _ _ _ _ _ _ (T9.setTop (mkF m 102 #[.val (.long p0), .second, .val (.int p1), .val (.ref b1), .val (.int (Int32.ofNat o)), .val (.int (Int32.ofNat n)), .unset, .unset] [(.int (Int32.ofNat n)), (.int (Int32.ofNat o)), (.int (0 : Int32)), (.ref b1)]))
  obtain ⟨_, _, ⟨T10, L10, k10, n10⟩, -, X10, ⟨Lc10, hQ10, l10, y10, z10⟩, st10⟩ := Jvm.LawKit.callS X9 hx (y := (⟨"com/example/vett/vett/Utf8IsAsciiPinLaw", "neg", "([BIII)Z"⟩ : MethodName)) hown (mvT hZ (hw _ (List.mem_of_getElem? (i := 1) rfl))) (mvT hZ (hw _ (List.mem_of_getElem? (i := 2) rfl))) (mvT hZ (hw _ (List.mem_of_getElem? (i := 3) rfl))) (mvT hZ (hw _ (List.mem_of_getElem? (i := 4) rfl))) (by decide) (backOf (W := 0) (rmN l Z a0 hw [] b1 (0 : Int32) (Int32.ofNat o) (Int32.ofNat n) ((p0.toInt32.toInt8.toInt32).toInt8.toInt32) h9 n0 (Z9) (own_rd V9 ⟨by decide, by decide⟩ rfl)) hZ (hw _ (List.mem_of_getElem? (i := 4) rfl)) (hw _ (List.mem_of_getElem? (i := 3) rfl)) (by decide) (by decide)) (g := (mkF m 102 #[.val (.long p0), .second, .val (.int p1), .val (.ref b1), .val (.int (Int32.ofNat o)), .val (.int (Int32.ofNat n)), .unset, .unset] [(.int (Int32.ofNat n)), (.int (Int32.ofNat o)), (.int (0 : Int32)), (.ref b1)])) rfl (by rw [hml]; rfl) (argsL := [(.ref b1), (.int (0 : Int32)), (.int (Int32.ofNat o)), (.int (Int32.ofNat n))]) (rest := []) (lenOf pd___BIII_Z rfl) rfl (by show 2 * 0 + _ ≤ _; exact Nat.le_of_eq rfl) (hb hby at_102) (fun _ _ => ⟨rfl, e9, (by decide : 1 + 0 ≤ _), (by decide : 8 + 0 ≤ _)⟩)
  dsimp only [Pt.U, Pt.locs, Pt.cells, Pt.slots] at X10 l10 y10 z10 st10 hQ10
  subst l10 y10 z10
  obtain ⟨hv10, N10q, e10⟩ := hQ10
  obtain rfl := hv10.trans (show _ = some (.int (own_neg (0 : Int32) (Int32.ofNat o) (Int32.ofNat n) ((p0.toInt32.toInt8.toInt32).toInt8.toInt32))) from rfl)
  have N10 := Fr.app N9 N10q
  refine OG.of st10 ?_
  show OG _ _ _ _ _ _ _ (T10.setTop (mkF m 105 #[.val (.long p0), .second, .val (.int p1), .val (.ref b1), .val (.int (Int32.ofNat o)), .val (.int (Int32.ofNat n)), .unset, .unset] [(.int (own_neg (0 : Int32) (Int32.ofNat o) (Int32.ofNat n) ((p0.toInt32.toInt8.toInt32).toInt8.toInt32)))]))
  by_cases hc105_17 : (own_neg (0 : Int32) (Int32.ofNat o) (Int32.ofNat n) ((p0.toInt32.toInt8.toInt32).toInt8.toInt32)) = (0 : Int32)
  · refine OG.of (fun oT oK => XS.ifNo X10.here hx rfl (hb hby at_105) rfl (XT.i0_ne_f hc105_17) oK) ?_
    show OG _ _ _ _ _ _ _ (T10.setTop (mkF m 108 #[.val (.long p0), .second, .val (.int p1), .val (.ref b1), .val (.int (Int32.ofNat o)), .val (.int (Int32.ofNat n)), .unset, .unset] []))
    refine OG.of (A := T10.setTop (mkF m 114 #[.val (.long p0), .second, .val (.int p1), .val (.ref b1), .val (.int (Int32.ofNat o)), .val (.int (Int32.ofNat n)), .unset, .unset] [(.int (Int32.ofNat n)), (.int (Int32.ofNat o)), (.int (1 : Int32)), (.ref b1)])) (fun oT oK => ?_) ?_
    · show Steps p.tables e below (T10.setTop (mkF m 108 #[.val (.long p0), .second, .val (.int p1), .val (.ref b1), .val (.int (Int32.ofNat o)), .val (.int (Int32.ofNat n)), .unset, .unset] [])) oT
      refine XS.aloadN X10.here hx rfl (hb hby at_108) rfl rfl  ?_
      show Steps p.tables e below (T10.setTop (mkF m 109 #[.val (.long p0), .second, .val (.int p1), .val (.ref b1), .val (.int (Int32.ofNat o)), .val (.int (Int32.ofNat n)), .unset, .unset] [(.ref b1)])) _
      refine XS.iconst X10.here hx rfl (hb hby at_109) ?_
      show Steps p.tables e below (T10.setTop (mkF m 110 #[.val (.long p0), .second, .val (.int p1), .val (.ref b1), .val (.int (Int32.ofNat o)), .val (.int (Int32.ofNat n)), .unset, .unset] [(.int (1 : Int32)), (.ref b1)])) _
      refine XS.iload X10.here hx rfl (hb hby at_110) rfl  ?_
      show Steps p.tables e below (T10.setTop (mkF m 112 #[.val (.long p0), .second, .val (.int p1), .val (.ref b1), .val (.int (Int32.ofNat o)), .val (.int (Int32.ofNat n)), .unset, .unset] [(.int (Int32.ofNat o)), (.int (1 : Int32)), (.ref b1)])) _
      refine XS.iload X10.here hx rfl (hb hby at_112) rfl  ?_
      exact oK
    show OG _ _ _ _ _ _ _ (T10.setTop (mkF m 114 #[.val (.long p0), .second, .val (.int p1), .val (.ref b1), .val (.int (Int32.ofNat o)), .val (.int (Int32.ofNat n)), .unset, .unset] [(.int (Int32.ofNat n)), (.int (Int32.ofNat o)), (.int (1 : Int32)), (.ref b1)]))
    obtain ⟨_, _, ⟨T11, L11, k11, n11⟩, -, X11, ⟨Lc11, hQ11, l11, y11, z11⟩, st11⟩ := Jvm.LawKit.callS X10 hx (y := (⟨"com/example/vett/vett/Utf8IsAsciiPinLaw", "neg", "([BIII)Z"⟩ : MethodName)) hown (mvT hZ (hw _ (List.mem_of_getElem? (i := 1) rfl))) (mvT hZ (hw _ (List.mem_of_getElem? (i := 2) rfl))) (mvT hZ (hw _ (List.mem_of_getElem? (i := 3) rfl))) (mvT hZ (hw _ (List.mem_of_getElem? (i := 4) rfl))) (by decide) (backOf (W := 0) (rmN l Z a0 hw [] b1 (1 : Int32) (Int32.ofNat o) (Int32.ofNat n) (((XT.ushrL p0 (8 : Int32)).toInt32.toInt8.toInt32).toInt8.toInt32) h9 n0 (Z9) (own_rd V9 ⟨by decide, by decide⟩ rfl)) hZ (hw _ (List.mem_of_getElem? (i := 4) rfl)) (hw _ (List.mem_of_getElem? (i := 3) rfl)) (by decide) (by decide)) (g := (mkF m 114 #[.val (.long p0), .second, .val (.int p1), .val (.ref b1), .val (.int (Int32.ofNat o)), .val (.int (Int32.ofNat n)), .unset, .unset] [(.int (Int32.ofNat n)), (.int (Int32.ofNat o)), (.int (1 : Int32)), (.ref b1)])) rfl (by rw [hml]; rfl) (argsL := [(.ref b1), (.int (1 : Int32)), (.int (Int32.ofNat o)), (.int (Int32.ofNat n))]) (rest := []) (lenOf pd___BIII_Z rfl) rfl (by show 2 * 0 + _ ≤ _; exact Nat.le_of_eq rfl) (hb hby at_114) (fun _ _ => ⟨rfl, e10, (by decide : 1 + 0 ≤ _), (by decide : 8 + 0 ≤ _)⟩)
    dsimp only [Pt.U, Pt.locs, Pt.cells, Pt.slots] at X11 l11 y11 z11 st11 hQ11
    subst l11 y11 z11
    obtain ⟨hv11, N11q, e11⟩ := hQ11
    obtain rfl := hv11.trans (show _ = some (.int (own_neg (1 : Int32) (Int32.ofNat o) (Int32.ofNat n) (((XT.ushrL p0 (8 : Int32)).toInt32.toInt8.toInt32).toInt8.toInt32))) from rfl)
    have N11 := Fr.app N10 N11q
    refine OG.of st11 ?_
    show OG _ _ _ _ _ _ _ (T11.setTop (mkF m 117 #[.val (.long p0), .second, .val (.int p1), .val (.ref b1), .val (.int (Int32.ofNat o)), .val (.int (Int32.ofNat n)), .unset, .unset] [(.int (own_neg (1 : Int32) (Int32.ofNat o) (Int32.ofNat n) (((XT.ushrL p0 (8 : Int32)).toInt32.toInt8.toInt32).toInt8.toInt32)))]))
    by_cases hc117_18 : (own_neg (1 : Int32) (Int32.ofNat o) (Int32.ofNat n) (((XT.ushrL p0 (8 : Int32)).toInt32.toInt8.toInt32).toInt8.toInt32)) = (0 : Int32)
    · refine OG.of (fun oT oK => XS.ifNo X11.here hx rfl (hb hby at_117) rfl (XT.i0_ne_f hc117_18) oK) ?_
      show OG _ _ _ _ _ _ _ (T11.setTop (mkF m 120 #[.val (.long p0), .second, .val (.int p1), .val (.ref b1), .val (.int (Int32.ofNat o)), .val (.int (Int32.ofNat n)), .unset, .unset] []))
      refine OG.of (A := T11.setTop (mkF m 126 #[.val (.long p0), .second, .val (.int p1), .val (.ref b1), .val (.int (Int32.ofNat o)), .val (.int (Int32.ofNat n)), .unset, .unset] [(.int (Int32.ofNat n)), (.int (Int32.ofNat o)), (.int (2 : Int32)), (.ref b1)])) (fun oT oK => ?_) ?_
      · show Steps p.tables e below (T11.setTop (mkF m 120 #[.val (.long p0), .second, .val (.int p1), .val (.ref b1), .val (.int (Int32.ofNat o)), .val (.int (Int32.ofNat n)), .unset, .unset] [])) oT
        refine XS.aloadN X11.here hx rfl (hb hby at_120) rfl rfl  ?_
        show Steps p.tables e below (T11.setTop (mkF m 121 #[.val (.long p0), .second, .val (.int p1), .val (.ref b1), .val (.int (Int32.ofNat o)), .val (.int (Int32.ofNat n)), .unset, .unset] [(.ref b1)])) _
        refine XS.iconst X11.here hx rfl (hb hby at_121) ?_
        show Steps p.tables e below (T11.setTop (mkF m 122 #[.val (.long p0), .second, .val (.int p1), .val (.ref b1), .val (.int (Int32.ofNat o)), .val (.int (Int32.ofNat n)), .unset, .unset] [(.int (2 : Int32)), (.ref b1)])) _
        refine XS.iload X11.here hx rfl (hb hby at_122) rfl  ?_
        show Steps p.tables e below (T11.setTop (mkF m 124 #[.val (.long p0), .second, .val (.int p1), .val (.ref b1), .val (.int (Int32.ofNat o)), .val (.int (Int32.ofNat n)), .unset, .unset] [(.int (Int32.ofNat o)), (.int (2 : Int32)), (.ref b1)])) _
        refine XS.iload X11.here hx rfl (hb hby at_124) rfl  ?_
        exact oK
      show OG _ _ _ _ _ _ _ (T11.setTop (mkF m 126 #[.val (.long p0), .second, .val (.int p1), .val (.ref b1), .val (.int (Int32.ofNat o)), .val (.int (Int32.ofNat n)), .unset, .unset] [(.int (Int32.ofNat n)), (.int (Int32.ofNat o)), (.int (2 : Int32)), (.ref b1)]))
      obtain ⟨_, _, ⟨T12, L12, k12, n12⟩, -, X12, ⟨Lc12, hQ12, l12, y12, z12⟩, st12⟩ := Jvm.LawKit.callS X11 hx (y := (⟨"com/example/vett/vett/Utf8IsAsciiPinLaw", "neg", "([BIII)Z"⟩ : MethodName)) hown (mvT hZ (hw _ (List.mem_of_getElem? (i := 1) rfl))) (mvT hZ (hw _ (List.mem_of_getElem? (i := 2) rfl))) (mvT hZ (hw _ (List.mem_of_getElem? (i := 3) rfl))) (mvT hZ (hw _ (List.mem_of_getElem? (i := 4) rfl))) (by decide) (backOf (W := 0) (rmN l Z a0 hw [] b1 (2 : Int32) (Int32.ofNat o) (Int32.ofNat n) (((XT.ushrL p0 (16 : Int32)).toInt32.toInt8.toInt32).toInt8.toInt32) h9 n0 (Z9) (own_rd V9 ⟨by decide, by decide⟩ rfl)) hZ (hw _ (List.mem_of_getElem? (i := 4) rfl)) (hw _ (List.mem_of_getElem? (i := 3) rfl)) (by decide) (by decide)) (g := (mkF m 126 #[.val (.long p0), .second, .val (.int p1), .val (.ref b1), .val (.int (Int32.ofNat o)), .val (.int (Int32.ofNat n)), .unset, .unset] [(.int (Int32.ofNat n)), (.int (Int32.ofNat o)), (.int (2 : Int32)), (.ref b1)])) rfl (by rw [hml]; rfl) (argsL := [(.ref b1), (.int (2 : Int32)), (.int (Int32.ofNat o)), (.int (Int32.ofNat n))]) (rest := []) (lenOf pd___BIII_Z rfl) rfl (by show 2 * 0 + _ ≤ _; exact Nat.le_of_eq rfl) (hb hby at_126) (fun _ _ => ⟨rfl, e11, (by decide : 1 + 0 ≤ _), (by decide : 8 + 0 ≤ _)⟩)
      dsimp only [Pt.U, Pt.locs, Pt.cells, Pt.slots] at X12 l12 y12 z12 st12 hQ12
      subst l12 y12 z12
      obtain ⟨hv12, N12q, e12⟩ := hQ12
      obtain rfl := hv12.trans (show _ = some (.int (own_neg (2 : Int32) (Int32.ofNat o) (Int32.ofNat n) (((XT.ushrL p0 (16 : Int32)).toInt32.toInt8.toInt32).toInt8.toInt32))) from rfl)
      have N12 := Fr.app N11 N12q
      refine OG.of st12 ?_
      show OG _ _ _ _ _ _ _ (T12.setTop (mkF m 129 #[.val (.long p0), .second, .val (.int p1), .val (.ref b1), .val (.int (Int32.ofNat o)), .val (.int (Int32.ofNat n)), .unset, .unset] [(.int (own_neg (2 : Int32) (Int32.ofNat o) (Int32.ofNat n) (((XT.ushrL p0 (16 : Int32)).toInt32.toInt8.toInt32).toInt8.toInt32)))]))
      by_cases hc129_19 : (own_neg (2 : Int32) (Int32.ofNat o) (Int32.ofNat n) (((XT.ushrL p0 (16 : Int32)).toInt32.toInt8.toInt32).toInt8.toInt32)) = (0 : Int32)
      · refine OG.of (fun oT oK => XS.ifNo X12.here hx rfl (hb hby at_129) rfl (XT.i0_ne_f hc129_19) oK) ?_
        show OG _ _ _ _ _ _ _ (T12.setTop (mkF m 132 #[.val (.long p0), .second, .val (.int p1), .val (.ref b1), .val (.int (Int32.ofNat o)), .val (.int (Int32.ofNat n)), .unset, .unset] []))
        refine OG.of (A := T12.setTop (mkF m 138 #[.val (.long p0), .second, .val (.int p1), .val (.ref b1), .val (.int (Int32.ofNat o)), .val (.int (Int32.ofNat n)), .unset, .unset] [(.int (Int32.ofNat n)), (.int (Int32.ofNat o)), (.int (3 : Int32)), (.ref b1)])) (fun oT oK => ?_) ?_
        · show Steps p.tables e below (T12.setTop (mkF m 132 #[.val (.long p0), .second, .val (.int p1), .val (.ref b1), .val (.int (Int32.ofNat o)), .val (.int (Int32.ofNat n)), .unset, .unset] [])) oT
          refine XS.aloadN X12.here hx rfl (hb hby at_132) rfl rfl  ?_
          show Steps p.tables e below (T12.setTop (mkF m 133 #[.val (.long p0), .second, .val (.int p1), .val (.ref b1), .val (.int (Int32.ofNat o)), .val (.int (Int32.ofNat n)), .unset, .unset] [(.ref b1)])) _
          refine XS.iconst X12.here hx rfl (hb hby at_133) ?_
          show Steps p.tables e below (T12.setTop (mkF m 134 #[.val (.long p0), .second, .val (.int p1), .val (.ref b1), .val (.int (Int32.ofNat o)), .val (.int (Int32.ofNat n)), .unset, .unset] [(.int (3 : Int32)), (.ref b1)])) _
          refine XS.iload X12.here hx rfl (hb hby at_134) rfl  ?_
          show Steps p.tables e below (T12.setTop (mkF m 136 #[.val (.long p0), .second, .val (.int p1), .val (.ref b1), .val (.int (Int32.ofNat o)), .val (.int (Int32.ofNat n)), .unset, .unset] [(.int (Int32.ofNat o)), (.int (3 : Int32)), (.ref b1)])) _
          refine XS.iload X12.here hx rfl (hb hby at_136) rfl  ?_
          exact oK
        show OG _ _ _ _ _ _ _ (T12.setTop (mkF m 138 #[.val (.long p0), .second, .val (.int p1), .val (.ref b1), .val (.int (Int32.ofNat o)), .val (.int (Int32.ofNat n)), .unset, .unset] [(.int (Int32.ofNat n)), (.int (Int32.ofNat o)), (.int (3 : Int32)), (.ref b1)]))
        obtain ⟨_, _, ⟨T13, L13, k13, n13⟩, -, X13, ⟨Lc13, hQ13, l13, y13, z13⟩, st13⟩ := Jvm.LawKit.callS X12 hx (y := (⟨"com/example/vett/vett/Utf8IsAsciiPinLaw", "neg", "([BIII)Z"⟩ : MethodName)) hown (mvT hZ (hw _ (List.mem_of_getElem? (i := 1) rfl))) (mvT hZ (hw _ (List.mem_of_getElem? (i := 2) rfl))) (mvT hZ (hw _ (List.mem_of_getElem? (i := 3) rfl))) (mvT hZ (hw _ (List.mem_of_getElem? (i := 4) rfl))) (by decide) (backOf (W := 0) (rmN l Z a0 hw [] b1 (3 : Int32) (Int32.ofNat o) (Int32.ofNat n) (((XT.ushrL p0 (24 : Int32)).toInt32.toInt8.toInt32).toInt8.toInt32) h9 n0 (Z9) (own_rd V9 ⟨by decide, by decide⟩ rfl)) hZ (hw _ (List.mem_of_getElem? (i := 4) rfl)) (hw _ (List.mem_of_getElem? (i := 3) rfl)) (by decide) (by decide)) (g := (mkF m 138 #[.val (.long p0), .second, .val (.int p1), .val (.ref b1), .val (.int (Int32.ofNat o)), .val (.int (Int32.ofNat n)), .unset, .unset] [(.int (Int32.ofNat n)), (.int (Int32.ofNat o)), (.int (3 : Int32)), (.ref b1)])) rfl (by rw [hml]; rfl) (argsL := [(.ref b1), (.int (3 : Int32)), (.int (Int32.ofNat o)), (.int (Int32.ofNat n))]) (rest := []) (lenOf pd___BIII_Z rfl) rfl (by show 2 * 0 + _ ≤ _; exact Nat.le_of_eq rfl) (hb hby at_138) (fun _ _ => ⟨rfl, e12, (by decide : 1 + 0 ≤ _), (by decide : 8 + 0 ≤ _)⟩)
        dsimp only [Pt.U, Pt.locs, Pt.cells, Pt.slots] at X13 l13 y13 z13 st13 hQ13
        subst l13 y13 z13
        obtain ⟨hv13, N13q, e13⟩ := hQ13
        obtain rfl := hv13.trans (show _ = some (.int (own_neg (3 : Int32) (Int32.ofNat o) (Int32.ofNat n) (((XT.ushrL p0 (24 : Int32)).toInt32.toInt8.toInt32).toInt8.toInt32))) from rfl)
        have N13 := Fr.app N12 N13q
        refine OG.of st13 ?_
        show OG _ _ _ _ _ _ _ (T13.setTop (mkF m 141 #[.val (.long p0), .second, .val (.int p1), .val (.ref b1), .val (.int (Int32.ofNat o)), .val (.int (Int32.ofNat n)), .unset, .unset] [(.int (own_neg (3 : Int32) (Int32.ofNat o) (Int32.ofNat n) (((XT.ushrL p0 (24 : Int32)).toInt32.toInt8.toInt32).toInt8.toInt32)))]))
        by_cases hc141_20 : (own_neg (3 : Int32) (Int32.ofNat o) (Int32.ofNat n) (((XT.ushrL p0 (24 : Int32)).toInt32.toInt8.toInt32).toInt8.toInt32)) = (0 : Int32)
        · refine OG.of (fun oT oK => XS.ifNo X13.here hx rfl (hb hby at_141) rfl (XT.i0_ne_f hc141_20) oK) ?_
          show OG _ _ _ _ _ _ _ (T13.setTop (mkF m 144 #[.val (.long p0), .second, .val (.int p1), .val (.ref b1), .val (.int (Int32.ofNat o)), .val (.int (Int32.ofNat n)), .unset, .unset] []))
          refine OG.of (A := T13.setTop (mkF m 150 #[.val (.long p0), .second, .val (.int p1), .val (.ref b1), .val (.int (Int32.ofNat o)), .val (.int (Int32.ofNat n)), .unset, .unset] [(.int (Int32.ofNat n)), (.int (Int32.ofNat o)), (.int (4 : Int32)), (.ref b1)])) (fun oT oK => ?_) ?_
          · show Steps p.tables e below (T13.setTop (mkF m 144 #[.val (.long p0), .second, .val (.int p1), .val (.ref b1), .val (.int (Int32.ofNat o)), .val (.int (Int32.ofNat n)), .unset, .unset] [])) oT
            refine XS.aloadN X13.here hx rfl (hb hby at_144) rfl rfl  ?_
            show Steps p.tables e below (T13.setTop (mkF m 145 #[.val (.long p0), .second, .val (.int p1), .val (.ref b1), .val (.int (Int32.ofNat o)), .val (.int (Int32.ofNat n)), .unset, .unset] [(.ref b1)])) _
            refine XS.iconst X13.here hx rfl (hb hby at_145) ?_
            show Steps p.tables e below (T13.setTop (mkF m 146 #[.val (.long p0), .second, .val (.int p1), .val (.ref b1), .val (.int (Int32.ofNat o)), .val (.int (Int32.ofNat n)), .unset, .unset] [(.int (4 : Int32)), (.ref b1)])) _
            refine XS.iload X13.here hx rfl (hb hby at_146) rfl  ?_
            show Steps p.tables e below (T13.setTop (mkF m 148 #[.val (.long p0), .second, .val (.int p1), .val (.ref b1), .val (.int (Int32.ofNat o)), .val (.int (Int32.ofNat n)), .unset, .unset] [(.int (Int32.ofNat o)), (.int (4 : Int32)), (.ref b1)])) _
            refine XS.iload X13.here hx rfl (hb hby at_148) rfl  ?_
            exact oK
          show OG _ _ _ _ _ _ _ (T13.setTop (mkF m 150 #[.val (.long p0), .second, .val (.int p1), .val (.ref b1), .val (.int (Int32.ofNat o)), .val (.int (Int32.ofNat n)), .unset, .unset] [(.int (Int32.ofNat n)), (.int (Int32.ofNat o)), (.int (4 : Int32)), (.ref b1)]))
          obtain ⟨_, _, ⟨T14, L14, k14, n14⟩, -, X14, ⟨Lc14, hQ14, l14, y14, z14⟩, st14⟩ := Jvm.LawKit.callS X13 hx (y := (⟨"com/example/vett/vett/Utf8IsAsciiPinLaw", "neg", "([BIII)Z"⟩ : MethodName)) hown (mvT hZ (hw _ (List.mem_of_getElem? (i := 1) rfl))) (mvT hZ (hw _ (List.mem_of_getElem? (i := 2) rfl))) (mvT hZ (hw _ (List.mem_of_getElem? (i := 3) rfl))) (mvT hZ (hw _ (List.mem_of_getElem? (i := 4) rfl))) (by decide) (backOf (W := 0) (rmN l Z a0 hw [] b1 (4 : Int32) (Int32.ofNat o) (Int32.ofNat n) (((XT.ushrL p0 (32 : Int32)).toInt32.toInt8.toInt32).toInt8.toInt32) h9 n0 (Z9) (own_rd V9 ⟨by decide, by decide⟩ rfl)) hZ (hw _ (List.mem_of_getElem? (i := 4) rfl)) (hw _ (List.mem_of_getElem? (i := 3) rfl)) (by decide) (by decide)) (g := (mkF m 150 #[.val (.long p0), .second, .val (.int p1), .val (.ref b1), .val (.int (Int32.ofNat o)), .val (.int (Int32.ofNat n)), .unset, .unset] [(.int (Int32.ofNat n)), (.int (Int32.ofNat o)), (.int (4 : Int32)), (.ref b1)])) rfl (by rw [hml]; rfl) (argsL := [(.ref b1), (.int (4 : Int32)), (.int (Int32.ofNat o)), (.int (Int32.ofNat n))]) (rest := []) (lenOf pd___BIII_Z rfl) rfl (by show 2 * 0 + _ ≤ _; exact Nat.le_of_eq rfl) (hb hby at_150) (fun _ _ => ⟨rfl, e13, (by decide : 1 + 0 ≤ _), (by decide : 8 + 0 ≤ _)⟩)
          dsimp only [Pt.U, Pt.locs, Pt.cells, Pt.slots] at X14 l14 y14 z14 st14 hQ14
          subst l14 y14 z14
          obtain ⟨hv14, N14q, e14⟩ := hQ14
          obtain rfl := hv14.trans (show _ = some (.int (own_neg (4 : Int32) (Int32.ofNat o) (Int32.ofNat n) (((XT.ushrL p0 (32 : Int32)).toInt32.toInt8.toInt32).toInt8.toInt32))) from rfl)
          have N14 := Fr.app N13 N14q
          refine OG.of st14 ?_
          show OG _ _ _ _ _ _ _ (T14.setTop (mkF m 153 #[.val (.long p0), .second, .val (.int p1), .val (.ref b1), .val (.int (Int32.ofNat o)), .val (.int (Int32.ofNat n)), .unset, .unset] [(.int (own_neg (4 : Int32) (Int32.ofNat o) (Int32.ofNat n) (((XT.ushrL p0 (32 : Int32)).toInt32.toInt8.toInt32).toInt8.toInt32)))]))
          by_cases hc153_21 : (own_neg (4 : Int32) (Int32.ofNat o) (Int32.ofNat n) (((XT.ushrL p0 (32 : Int32)).toInt32.toInt8.toInt32).toInt8.toInt32)) = (0 : Int32)
          · refine OG.of (fun oT oK => XS.ifNo X14.here hx rfl (hb hby at_153) rfl (XT.i0_ne_f hc153_21) oK) ?_
            show OG _ _ _ _ _ _ _ (T14.setTop (mkF m 156 #[.val (.long p0), .second, .val (.int p1), .val (.ref b1), .val (.int (Int32.ofNat o)), .val (.int (Int32.ofNat n)), .unset, .unset] []))
            refine OG.of (A := T14.setTop (mkF m 162 #[.val (.long p0), .second, .val (.int p1), .val (.ref b1), .val (.int (Int32.ofNat o)), .val (.int (Int32.ofNat n)), .unset, .unset] [(.int (Int32.ofNat n)), (.int (Int32.ofNat o)), (.int (5 : Int32)), (.ref b1)])) (fun oT oK => ?_) ?_
            · show Steps p.tables e below (T14.setTop (mkF m 156 #[.val (.long p0), .second, .val (.int p1), .val (.ref b1), .val (.int (Int32.ofNat o)), .val (.int (Int32.ofNat n)), .unset, .unset] [])) oT
              refine XS.aloadN X14.here hx rfl (hb hby at_156) rfl rfl  ?_
              show Steps p.tables e below (T14.setTop (mkF m 157 #[.val (.long p0), .second, .val (.int p1), .val (.ref b1), .val (.int (Int32.ofNat o)), .val (.int (Int32.ofNat n)), .unset, .unset] [(.ref b1)])) _
              refine XS.iconst X14.here hx rfl (hb hby at_157) ?_
              show Steps p.tables e below (T14.setTop (mkF m 158 #[.val (.long p0), .second, .val (.int p1), .val (.ref b1), .val (.int (Int32.ofNat o)), .val (.int (Int32.ofNat n)), .unset, .unset] [(.int (5 : Int32)), (.ref b1)])) _
              refine XS.iload X14.here hx rfl (hb hby at_158) rfl  ?_
              show Steps p.tables e below (T14.setTop (mkF m 160 #[.val (.long p0), .second, .val (.int p1), .val (.ref b1), .val (.int (Int32.ofNat o)), .val (.int (Int32.ofNat n)), .unset, .unset] [(.int (Int32.ofNat o)), (.int (5 : Int32)), (.ref b1)])) _
              refine XS.iload X14.here hx rfl (hb hby at_160) rfl  ?_
              exact oK
            show OG _ _ _ _ _ _ _ (T14.setTop (mkF m 162 #[.val (.long p0), .second, .val (.int p1), .val (.ref b1), .val (.int (Int32.ofNat o)), .val (.int (Int32.ofNat n)), .unset, .unset] [(.int (Int32.ofNat n)), (.int (Int32.ofNat o)), (.int (5 : Int32)), (.ref b1)]))
            obtain ⟨_, _, ⟨T15, L15, k15, n15⟩, -, X15, ⟨Lc15, hQ15, l15, y15, z15⟩, st15⟩ := Jvm.LawKit.callS X14 hx (y := (⟨"com/example/vett/vett/Utf8IsAsciiPinLaw", "neg", "([BIII)Z"⟩ : MethodName)) hown (mvT hZ (hw _ (List.mem_of_getElem? (i := 1) rfl))) (mvT hZ (hw _ (List.mem_of_getElem? (i := 2) rfl))) (mvT hZ (hw _ (List.mem_of_getElem? (i := 3) rfl))) (mvT hZ (hw _ (List.mem_of_getElem? (i := 4) rfl))) (by decide) (backOf (W := 0) (rmN l Z a0 hw [] b1 (5 : Int32) (Int32.ofNat o) (Int32.ofNat n) (((XT.ushrL p0 (40 : Int32)).toInt32.toInt8.toInt32).toInt8.toInt32) h9 n0 (Z9) (own_rd V9 ⟨by decide, by decide⟩ rfl)) hZ (hw _ (List.mem_of_getElem? (i := 4) rfl)) (hw _ (List.mem_of_getElem? (i := 3) rfl)) (by decide) (by decide)) (g := (mkF m 162 #[.val (.long p0), .second, .val (.int p1), .val (.ref b1), .val (.int (Int32.ofNat o)), .val (.int (Int32.ofNat n)), .unset, .unset] [(.int (Int32.ofNat n)), (.int (Int32.ofNat o)), (.int (5 : Int32)), (.ref b1)])) rfl (by rw [hml]; rfl) (argsL := [(.ref b1), (.int (5 : Int32)), (.int (Int32.ofNat o)), (.int (Int32.ofNat n))]) (rest := []) (lenOf pd___BIII_Z rfl) rfl (by show 2 * 0 + _ ≤ _; exact Nat.le_of_eq rfl) (hb hby at_162) (fun _ _ => ⟨rfl, e14, (by decide : 1 + 0 ≤ _), (by decide : 8 + 0 ≤ _)⟩)
            dsimp only [Pt.U, Pt.locs, Pt.cells, Pt.slots] at X15 l15 y15 z15 st15 hQ15
            subst l15 y15 z15
            obtain ⟨hv15, N15q, e15⟩ := hQ15
            obtain rfl := hv15.trans (show _ = some (.int (own_neg (5 : Int32) (Int32.ofNat o) (Int32.ofNat n) (((XT.ushrL p0 (40 : Int32)).toInt32.toInt8.toInt32).toInt8.toInt32))) from rfl)
            have N15 := Fr.app N14 N15q
            refine OG.of st15 ?_
            show OG _ _ _ _ _ _ _ (T15.setTop (mkF m 165 #[.val (.long p0), .second, .val (.int p1), .val (.ref b1), .val (.int (Int32.ofNat o)), .val (.int (Int32.ofNat n)), .unset, .unset] [(.int (own_neg (5 : Int32) (Int32.ofNat o) (Int32.ofNat n) (((XT.ushrL p0 (40 : Int32)).toInt32.toInt8.toInt32).toInt8.toInt32)))]))
            by_cases hc165_22 : (own_neg (5 : Int32) (Int32.ofNat o) (Int32.ofNat n) (((XT.ushrL p0 (40 : Int32)).toInt32.toInt8.toInt32).toInt8.toInt32)) = (0 : Int32)
            · refine OG.of (fun oT oK => XS.ifNo X15.here hx rfl (hb hby at_165) rfl (XT.i0_ne_f hc165_22) oK) ?_
              show OG _ _ _ _ _ _ _ (T15.setTop (mkF m 168 #[.val (.long p0), .second, .val (.int p1), .val (.ref b1), .val (.int (Int32.ofNat o)), .val (.int (Int32.ofNat n)), .unset, .unset] []))
              refine OG.of (A := T15.setTop (mkF m 175 #[.val (.long p0), .second, .val (.int p1), .val (.ref b1), .val (.int (Int32.ofNat o)), .val (.int (Int32.ofNat n)), .unset, .unset] [(.int (Int32.ofNat n)), (.int (Int32.ofNat o)), (.int (6 : Int32)), (.ref b1)])) (fun oT oK => ?_) ?_
              · show Steps p.tables e below (T15.setTop (mkF m 168 #[.val (.long p0), .second, .val (.int p1), .val (.ref b1), .val (.int (Int32.ofNat o)), .val (.int (Int32.ofNat n)), .unset, .unset] [])) oT
                refine XS.aloadN X15.here hx rfl (hb hby at_168) rfl rfl  ?_
                show Steps p.tables e below (T15.setTop (mkF m 169 #[.val (.long p0), .second, .val (.int p1), .val (.ref b1), .val (.int (Int32.ofNat o)), .val (.int (Int32.ofNat n)), .unset, .unset] [(.ref b1)])) _
                refine XS.bipush X15.here hx rfl (hb hby at_169) ?_
                show Steps p.tables e below (T15.setTop (mkF m 171 #[.val (.long p0), .second, .val (.int p1), .val (.ref b1), .val (.int (Int32.ofNat o)), .val (.int (Int32.ofNat n)), .unset, .unset] [(.int (6 : Int32)), (.ref b1)])) _
                refine XS.iload X15.here hx rfl (hb hby at_171) rfl  ?_
                show Steps p.tables e below (T15.setTop (mkF m 173 #[.val (.long p0), .second, .val (.int p1), .val (.ref b1), .val (.int (Int32.ofNat o)), .val (.int (Int32.ofNat n)), .unset, .unset] [(.int (Int32.ofNat o)), (.int (6 : Int32)), (.ref b1)])) _
                refine XS.iload X15.here hx rfl (hb hby at_173) rfl  ?_
                exact oK
              show OG _ _ _ _ _ _ _ (T15.setTop (mkF m 175 #[.val (.long p0), .second, .val (.int p1), .val (.ref b1), .val (.int (Int32.ofNat o)), .val (.int (Int32.ofNat n)), .unset, .unset] [(.int (Int32.ofNat n)), (.int (Int32.ofNat o)), (.int (6 : Int32)), (.ref b1)]))
              obtain ⟨_, _, ⟨T16, L16, k16, n16⟩, -, X16, ⟨Lc16, hQ16, l16, y16, z16⟩, st16⟩ := Jvm.LawKit.callS X15 hx (y := (⟨"com/example/vett/vett/Utf8IsAsciiPinLaw", "neg", "([BIII)Z"⟩ : MethodName)) hown (mvT hZ (hw _ (List.mem_of_getElem? (i := 1) rfl))) (mvT hZ (hw _ (List.mem_of_getElem? (i := 2) rfl))) (mvT hZ (hw _ (List.mem_of_getElem? (i := 3) rfl))) (mvT hZ (hw _ (List.mem_of_getElem? (i := 4) rfl))) (by decide) (backOf (W := 0) (rmN l Z a0 hw [] b1 (6 : Int32) (Int32.ofNat o) (Int32.ofNat n) (((XT.ushrL p0 (48 : Int32)).toInt32.toInt8.toInt32).toInt8.toInt32) h9 n0 (Z9) (own_rd V9 ⟨by decide, by decide⟩ rfl)) hZ (hw _ (List.mem_of_getElem? (i := 4) rfl)) (hw _ (List.mem_of_getElem? (i := 3) rfl)) (by decide) (by decide)) (g := (mkF m 175 #[.val (.long p0), .second, .val (.int p1), .val (.ref b1), .val (.int (Int32.ofNat o)), .val (.int (Int32.ofNat n)), .unset, .unset] [(.int (Int32.ofNat n)), (.int (Int32.ofNat o)), (.int (6 : Int32)), (.ref b1)])) rfl (by rw [hml]; rfl) (argsL := [(.ref b1), (.int (6 : Int32)), (.int (Int32.ofNat o)), (.int (Int32.ofNat n))]) (rest := []) (lenOf pd___BIII_Z rfl) rfl (by show 2 * 0 + _ ≤ _; exact Nat.le_of_eq rfl) (hb hby at_175) (fun _ _ => ⟨rfl, e15, (by decide : 1 + 0 ≤ _), (by decide : 8 + 0 ≤ _)⟩)
              dsimp only [Pt.U, Pt.locs, Pt.cells, Pt.slots] at X16 l16 y16 z16 st16 hQ16
              subst l16 y16 z16
              obtain ⟨hv16, N16q, e16⟩ := hQ16
              obtain rfl := hv16.trans (show _ = some (.int (own_neg (6 : Int32) (Int32.ofNat o) (Int32.ofNat n) (((XT.ushrL p0 (48 : Int32)).toInt32.toInt8.toInt32).toInt8.toInt32))) from rfl)
              have N16 := Fr.app N15 N16q
              refine OG.of st16 ?_
              show OG _ _ _ _ _ _ _ (T16.setTop (mkF m 178 #[.val (.long p0), .second, .val (.int p1), .val (.ref b1), .val (.int (Int32.ofNat o)), .val (.int (Int32.ofNat n)), .unset, .unset] [(.int (own_neg (6 : Int32) (Int32.ofNat o) (Int32.ofNat n) (((XT.ushrL p0 (48 : Int32)).toInt32.toInt8.toInt32).toInt8.toInt32)))]))
              by_cases hc178_23 : (own_neg (6 : Int32) (Int32.ofNat o) (Int32.ofNat n) (((XT.ushrL p0 (48 : Int32)).toInt32.toInt8.toInt32).toInt8.toInt32)) = (0 : Int32)
              · refine OG.of (fun oT oK => XS.ifNo X16.here hx rfl (hb hby at_178) rfl (XT.i0_ne_f hc178_23) oK) ?_
                show OG _ _ _ _ _ _ _ (T16.setTop (mkF m 181 #[.val (.long p0), .second, .val (.int p1), .val (.ref b1), .val (.int (Int32.ofNat o)), .val (.int (Int32.ofNat n)), .unset, .unset] []))
                refine OG.of (A := T16.setTop (mkF m 188 #[.val (.long p0), .second, .val (.int p1), .val (.ref b1), .val (.int (Int32.ofNat o)), .val (.int (Int32.ofNat n)), .unset, .unset] [(.int (Int32.ofNat n)), (.int (Int32.ofNat o)), (.int (7 : Int32)), (.ref b1)])) (fun oT oK => ?_) ?_
                · show Steps p.tables e below (T16.setTop (mkF m 181 #[.val (.long p0), .second, .val (.int p1), .val (.ref b1), .val (.int (Int32.ofNat o)), .val (.int (Int32.ofNat n)), .unset, .unset] [])) oT
                  refine XS.aloadN X16.here hx rfl (hb hby at_181) rfl rfl  ?_
                  show Steps p.tables e below (T16.setTop (mkF m 182 #[.val (.long p0), .second, .val (.int p1), .val (.ref b1), .val (.int (Int32.ofNat o)), .val (.int (Int32.ofNat n)), .unset, .unset] [(.ref b1)])) _
                  refine XS.bipush X16.here hx rfl (hb hby at_182) ?_
                  show Steps p.tables e below (T16.setTop (mkF m 184 #[.val (.long p0), .second, .val (.int p1), .val (.ref b1), .val (.int (Int32.ofNat o)), .val (.int (Int32.ofNat n)), .unset, .unset] [(.int (7 : Int32)), (.ref b1)])) _
                  refine XS.iload X16.here hx rfl (hb hby at_184) rfl  ?_
                  show Steps p.tables e below (T16.setTop (mkF m 186 #[.val (.long p0), .second, .val (.int p1), .val (.ref b1), .val (.int (Int32.ofNat o)), .val (.int (Int32.ofNat n)), .unset, .unset] [(.int (Int32.ofNat o)), (.int (7 : Int32)), (.ref b1)])) _
                  refine XS.iload X16.here hx rfl (hb hby at_186) rfl  ?_
                  exact oK
                show OG _ _ _ _ _ _ _ (T16.setTop (mkF m 188 #[.val (.long p0), .second, .val (.int p1), .val (.ref b1), .val (.int (Int32.ofNat o)), .val (.int (Int32.ofNat n)), .unset, .unset] [(.int (Int32.ofNat n)), (.int (Int32.ofNat o)), (.int (7 : Int32)), (.ref b1)]))
                obtain ⟨_, _, ⟨T17, L17, k17, n17⟩, -, X17, ⟨Lc17, hQ17, l17, y17, z17⟩, st17⟩ := Jvm.LawKit.callS X16 hx (y := (⟨"com/example/vett/vett/Utf8IsAsciiPinLaw", "neg", "([BIII)Z"⟩ : MethodName)) hown (mvT hZ (hw _ (List.mem_of_getElem? (i := 1) rfl))) (mvT hZ (hw _ (List.mem_of_getElem? (i := 2) rfl))) (mvT hZ (hw _ (List.mem_of_getElem? (i := 3) rfl))) (mvT hZ (hw _ (List.mem_of_getElem? (i := 4) rfl))) (by decide) (backOf (W := 0) (rmN l Z a0 hw [] b1 (7 : Int32) (Int32.ofNat o) (Int32.ofNat n) (((XT.ushrL p0 (56 : Int32)).toInt32.toInt8.toInt32).toInt8.toInt32) h9 n0 (Z9) (own_rd V9 ⟨by decide, by decide⟩ rfl)) hZ (hw _ (List.mem_of_getElem? (i := 4) rfl)) (hw _ (List.mem_of_getElem? (i := 3) rfl)) (by decide) (by decide)) (g := (mkF m 188 #[.val (.long p0), .second, .val (.int p1), .val (.ref b1), .val (.int (Int32.ofNat o)), .val (.int (Int32.ofNat n)), .unset, .unset] [(.int (Int32.ofNat n)), (.int (Int32.ofNat o)), (.int (7 : Int32)), (.ref b1)])) rfl (by rw [hml]; rfl) (argsL := [(.ref b1), (.int (7 : Int32)), (.int (Int32.ofNat o)), (.int (Int32.ofNat n))]) (rest := []) (lenOf pd___BIII_Z rfl) rfl (by show 2 * 0 + _ ≤ _; exact Nat.le_of_eq rfl) (hb hby at_188) (fun _ _ => ⟨rfl, e16, (by decide : 1 + 0 ≤ _), (by decide : 8 + 0 ≤ _)⟩)
                dsimp only [Pt.U, Pt.locs, Pt.cells, Pt.slots] at X17 l17 y17 z17 st17 hQ17
                subst l17 y17 z17
                obtain ⟨hv17, N17q, e17⟩ := hQ17
                obtain rfl := hv17.trans (show _ = some (.int (own_neg (7 : Int32) (Int32.ofNat o) (Int32.ofNat n) (((XT.ushrL p0 (56 : Int32)).toInt32.toInt8.toInt32).toInt8.toInt32))) from rfl)
                have N17 := Fr.app N16 N17q
                refine OG.of st17 ?_
                show OG _ _ _ _ _ _ _ (T17.setTop (mkF m 191 #[.val (.long p0), .second, .val (.int p1), .val (.ref b1), .val (.int (Int32.ofNat o)), .val (.int (Int32.ofNat n)), .unset, .unset] [(.int (own_neg (7 : Int32) (Int32.ofNat o) (Int32.ofNat n) (((XT.ushrL p0 (56 : Int32)).toInt32.toInt8.toInt32).toInt8.toInt32)))]))
                by_cases hc191_24 : (own_neg (7 : Int32) (Int32.ofNat o) (Int32.ofNat n) (((XT.ushrL p0 (56 : Int32)).toInt32.toInt8.toInt32).toInt8.toInt32)) = (0 : Int32)
                · refine OG.of (fun oT oK => XS.ifYes X17.here hx rfl (pc0 := 191) (pc' := 198) rfl (hb hby at_191) rfl (XT.i0_eq_t hc191_24) (by decide) (by decide) oK) ?_
                  show OG _ _ _ _ _ _ _ (T17.setTop (mkF m 198 #[.val (.long p0), .second, .val (.int p1), .val (.ref b1), .val (.int (Int32.ofNat o)), .val (.int (Int32.ofNat n)), .unset, .unset] []))
                  refine OG.of (A := T17.setTop (mkF m 218 #[.val (.long p0), .second, .val (.int p1), .val (.ref b1), .val (.int (Int32.ofNat o)), .val (.int (Int32.ofNat n)), .val (.int (0 : Int32)), .val (.int (1 : Int32))] [(.int (Int32.ofNat n)), (.int (Int32.ofNat o)), (.ref b1)])) (fun oT oK => ?_) ?_
                  · show Steps p.tables e below (T17.setTop (mkF m 198 #[.val (.long p0), .second, .val (.int p1), .val (.ref b1), .val (.int (Int32.ofNat o)), .val (.int (Int32.ofNat n)), .unset, .unset] [])) oT
                    refine XS.iconst X17.here hx rfl (hb hby at_198) ?_
                    show Steps p.tables e below (T17.setTop (mkF m 199 #[.val (.long p0), .second, .val (.int p1), .val (.ref b1), .val (.int (Int32.ofNat o)), .val (.int (Int32.ofNat n)), .unset, .unset] [(.int (0 : Int32))])) _
                    refine XS.istore X17.here hx rfl (hb hby at_199) rfl (l' := #[.val (.long p0), .second, .val (.int p1), .val (.ref b1), .val (.int (Int32.ofNat o)), .val (.int (Int32.ofNat n)), .val (.int (0 : Int32)), .unset]) rfl ?_
                    show Steps p.tables e below (T17.setTop (mkF m 201 #[.val (.long p0), .second, .val (.int p1), .val (.ref b1), .val (.int (Int32.ofNat o)), .val (.int (Int32.ofNat n)), .val (.int (0 : Int32)), .unset] [])) _
                    refine XS.iload X17.here hx rfl (hb hby at_201) rfl  ?_
                    show Steps p.tables e below (T17.setTop (mkF m 203 #[.val (.long p0), .second, .val (.int p1), .val (.ref b1), .val (.int (Int32.ofNat o)), .val (.int (Int32.ofNat n)), .val (.int (0 : Int32)), .unset] [(.int (0 : Int32))])) _
                    refine XS.ifNo X17.here hx rfl (hb hby at_203) rfl (XT.i0_ne_f rfl) ?_
                    show Steps p.tables e below (T17.setTop (mkF m 206 #[.val (.long p0), .second, .val (.int p1), .val (.ref b1), .val (.int (Int32.ofNat o)), .val (.int (Int32.ofNat n)), .val (.int (0 : Int32)), .unset] [])) _
                    refine XS.iconst X17.here hx rfl (hb hby at_206) ?_
                    show Steps p.tables e below (T17.setTop (mkF m 207 #[.val (.long p0), .second, .val (.int p1), .val (.ref b1), .val (.int (Int32.ofNat o)), .val (.int (Int32.ofNat n)), .val (.int (0 : Int32)), .unset] [(.int (1 : Int32))])) _
                    refine XS.goto X17.here hx rfl (pc0 := 207) (pc' := 211) rfl (hb hby at_207) (by decide) (by decide) ?_
                    show Steps p.tables e below (T17.setTop (mkF m 211 #[.val (.long p0), .second, .val (.int p1), .val (.ref b1), .val (.int (Int32.ofNat o)), .val (.int (Int32.ofNat n)), .val (.int (0 : Int32)), .unset] [(.int (1 : Int32))])) _
                    refine XS.istore X17.here hx rfl (hb hby at_211) rfl (l' := #[.val (.long p0), .second, .val (.int p1), .val (.ref b1), .val (.int (Int32.ofNat o)), .val (.int (Int32.ofNat n)), .val (.int (0 : Int32)), .val (.int (1 : Int32))]) rfl ?_
                    show Steps p.tables e below (T17.setTop (mkF m 213 #[.val (.long p0), .second, .val (.int p1), .val (.ref b1), .val (.int (Int32.ofNat o)), .val (.int (Int32.ofNat n)), .val (.int (0 : Int32)), .val (.int (1 : Int32))] [])) _
                    refine XS.aloadN X17.here hx rfl (hb hby at_213) rfl rfl  ?_
                    show Steps p.tables e below (T17.setTop (mkF m 214 #[.val (.long p0), .second, .val (.int p1), .val (.ref b1), .val (.int (Int32.ofNat o)), .val (.int (Int32.ofNat n)), .val (.int (0 : Int32)), .val (.int (1 : Int32))] [(.ref b1)])) _
                    refine XS.iload X17.here hx rfl (hb hby at_214) rfl  ?_
                    show Steps p.tables e below (T17.setTop (mkF m 216 #[.val (.long p0), .second, .val (.int p1), .val (.ref b1), .val (.int (Int32.ofNat o)), .val (.int (Int32.ofNat n)), .val (.int (0 : Int32)), .val (.int (1 : Int32))] [(.int (Int32.ofNat o)), (.ref b1)])) _
                    refine XS.iload X17.here hx rfl (hb hby at_216) rfl  ?_
                    exact oK
                  show OG _ _ _ _ _ _ _ (T17.setTop (mkF m 218 #[.val (.long p0), .second, .val (.int p1), .val (.ref b1), .val (.int (Int32.ofNat o)), .val (.int (Int32.ofNat n)), .val (.int (0 : Int32)), .val (.int (1 : Int32))] [(.int (Int32.ofNat n)), (.int (Int32.ofNat o)), (.ref b1)]))
                  have f25 : ∀ j, j < 8 → ORd Z h9 b1 .byte (Int32.ofNat j) (.int ((own_f ((p0.toInt32.toInt8.toInt32).toInt8.toInt32) (((XT.ushrL p0 (8 : Int32)).toInt32.toInt8.toInt32).toInt8.toInt32) (((XT.ushrL p0 (16 : Int32)).toInt32.toInt8.toInt32).toInt8.toInt32) (((XT.ushrL p0 (24 : Int32)).toInt32.toInt8.toInt32).toInt8.toInt32) (((XT.ushrL p0 (32 : Int32)).toInt32.toInt8.toInt32).toInt8.toInt32) (((XT.ushrL p0 (40 : Int32)).toInt32.toInt8.toInt32).toInt8.toInt32) (((XT.ushrL p0 (48 : Int32)).toInt32.toInt8.toInt32).toInt8.toInt32) (((XT.ushrL p0 (56 : Int32)).toInt32.toInt8.toInt32).toInt8.toInt32)) j)) := fun j hj => by
                    match j, hj with
                    | 0, _ => exact own_rd V9 ⟨by decide, by decide⟩ rfl
                    | 1, _ => exact own_rd V9 ⟨by decide, by decide⟩ rfl
                    | 2, _ => exact own_rd V9 ⟨by decide, by decide⟩ rfl
                    | 3, _ => exact own_rd V9 ⟨by decide, by decide⟩ rfl
                    | 4, _ => exact own_rd V9 ⟨by decide, by decide⟩ rfl
                    | 5, _ => exact own_rd V9 ⟨by decide, by decide⟩ rfl
                    | 6, _ => exact own_rd V9 ⟨by decide, by decide⟩ rfl
                    | 7, _ => exact own_rd V9 ⟨by decide, by decide⟩ rfl
                  obtain ⟨_, _, ⟨T18, L18, k18, n18⟩, -, X18, ⟨Lc18, hQ18, l18, y18, z18⟩, st18⟩ := Jvm.LawKit.callS X17 hx (y := (⟨"com/example/vett/vett/Utf8", "isAscii", "([BII)Z"⟩ : MethodName)) hown (mvT hZ (hw _ (List.mem_of_getElem? (i := 5) rfl))) (mvT hZ (hw _ (List.mem_of_getElem? (i := 6) rfl))) (mvT hZ (hw _ (List.mem_of_getElem? (i := 7) rfl))) (mvT hZ (hw _ (List.mem_of_getElem? (i := 8) rfl))) (by decide) (backOf (W := 0) (rmA l Z a0 hw [] b1 o n (own_f ((p0.toInt32.toInt8.toInt32).toInt8.toInt32) (((XT.ushrL p0 (8 : Int32)).toInt32.toInt8.toInt32).toInt8.toInt32) (((XT.ushrL p0 (16 : Int32)).toInt32.toInt8.toInt32).toInt8.toInt32) (((XT.ushrL p0 (24 : Int32)).toInt32.toInt8.toInt32).toInt8.toInt32) (((XT.ushrL p0 (32 : Int32)).toInt32.toInt8.toInt32).toInt8.toInt32) (((XT.ushrL p0 (40 : Int32)).toInt32.toInt8.toInt32).toInt8.toInt32) (((XT.ushrL p0 (48 : Int32)).toInt32.toInt8.toInt32).toInt8.toInt32) (((XT.ushrL p0 (56 : Int32)).toInt32.toInt8.toInt32).toInt8.toInt32)) h9 n0 (Z9) hon f25) hZ (hw _ (List.mem_of_getElem? (i := 8) rfl)) (hw _ (List.mem_of_getElem? (i := 7) rfl)) (by decide) (by decide)) (g := (mkF m 218 #[.val (.long p0), .second, .val (.int p1), .val (.ref b1), .val (.int (Int32.ofNat o)), .val (.int (Int32.ofNat n)), .val (.int (0 : Int32)), .val (.int (1 : Int32))] [(.int (Int32.ofNat n)), (.int (Int32.ofNat o)), (.ref b1)])) rfl (by rw [hml]; rfl) (argsL := [(.ref b1), (.int (Int32.ofNat o)), (.int (Int32.ofNat n))]) (rest := []) (lenOf pd___BII_Z rfl) rfl (by show 2 * 0 + _ ≤ _; exact Nat.le_of_eq rfl) (hb hby at_218) (fun _ _ => ⟨rfl, e17, (by decide : 1 + 0 ≤ _), (by decide : 8 + 0 ≤ _)⟩)
                  dsimp only [Pt.U, Pt.locs, Pt.cells, Pt.slots] at X18 l18 y18 z18 st18 hQ18
                  subst l18 y18 z18
                  obtain ⟨hv18, N18q, e18⟩ := hQ18
                  obtain rfl := hv18.trans (show _ = some (.int (1 : Int32)) from congrArg (fun z => some (Value.int z)) (own_all hon hc105_17 hc117_18 hc129_19 hc141_20 hc153_21 hc165_22 hc178_23 hc191_24))
                  have N18 := Fr.app N17 N18q
                  refine OG.of st18 ?_
                  show OG _ _ _ _ _ _ _ (T18.setTop (mkF m 221 #[.val (.long p0), .second, .val (.int p1), .val (.ref b1), .val (.int (Int32.ofNat o)), .val (.int (Int32.ofNat n)), .val (.int (0 : Int32)), .val (.int (1 : Int32))] [(.int (1 : Int32))]))
                  refine OG.of (A := T18.setTop (mkF m 231 #[.val (.long p0), .second, .val (.int p1), .val (.ref b1), .val (.int (Int32.ofNat o)), .val (.int (Int32.ofNat n)), .val (.int (0 : Int32)), .val (.int (1 : Int32))] [(.int (1 : Int32))])) (fun oT oK => ?_) ?_
                  · show Steps p.tables e below (T18.setTop (mkF m 221 #[.val (.long p0), .second, .val (.int p1), .val (.ref b1), .val (.int (Int32.ofNat o)), .val (.int (Int32.ofNat n)), .val (.int (0 : Int32)), .val (.int (1 : Int32))] [(.int (1 : Int32))])) oT
                    refine XS.iload X18.here hx rfl (hb hby at_221) rfl  ?_
                    show Steps p.tables e below (T18.setTop (mkF m 223 #[.val (.long p0), .second, .val (.int p1), .val (.ref b1), .val (.int (Int32.ofNat o)), .val (.int (Int32.ofNat n)), .val (.int (0 : Int32)), .val (.int (1 : Int32))] [(.int (1 : Int32)), (.int (1 : Int32))])) _
                    refine XS.icmpNo X18.here hx rfl (hb hby at_223) rfl (XT.ii_ne_f rfl) ?_
                    show Steps p.tables e below (T18.setTop (mkF m 226 #[.val (.long p0), .second, .val (.int p1), .val (.ref b1), .val (.int (Int32.ofNat o)), .val (.int (Int32.ofNat n)), .val (.int (0 : Int32)), .val (.int (1 : Int32))] [])) _
                    refine XS.iconst X18.here hx rfl (hb hby at_226) ?_
                    show Steps p.tables e below (T18.setTop (mkF m 227 #[.val (.long p0), .second, .val (.int p1), .val (.ref b1), .val (.int (Int32.ofNat o)), .val (.int (Int32.ofNat n)), .val (.int (0 : Int32)), .val (.int (1 : Int32))] [(.int (1 : Int32))])) _
                    refine XS.goto X18.here hx rfl (pc0 := 227) (pc' := 231) rfl (hb hby at_227) (by decide) (by decide) ?_
                    exact oK
                  show OG _ _ _ _ _ _ _ (T18.setTop (mkF m 231 #[.val (.long p0), .second, .val (.int p1), .val (.ref b1), .val (.int (Int32.ofNat o)), .val (.int (Int32.ofNat n)), .val (.int (0 : Int32)), .val (.int (1 : Int32))] [(.int (1 : Int32))]))
                  refine OG.retN X18 hx (t := .boolean) Bd.returns (by simp) (hb hby at_231) hlk ?_ (by decide) (by decide)
                  try rw [e18]
                  exact ⟨rfl, N18⟩
                · refine OG.of (fun oT oK => XS.ifNo X17.here hx rfl (hb hby at_191) rfl (XT.i0_eq_f hc191_24) oK) ?_
                  show OG _ _ _ _ _ _ _ (T17.setTop (mkF m 194 #[.val (.long p0), .second, .val (.int p1), .val (.ref b1), .val (.int (Int32.ofNat o)), .val (.int (Int32.ofNat n)), .unset, .unset] []))
                  refine OG.of (A := T17.setTop (mkF m 218 #[.val (.long p0), .second, .val (.int p1), .val (.ref b1), .val (.int (Int32.ofNat o)), .val (.int (Int32.ofNat n)), .val (.int (1 : Int32)), .val (.int (0 : Int32))] [(.int (Int32.ofNat n)), (.int (Int32.ofNat o)), (.ref b1)])) (fun oT oK => ?_) ?_
                  · show Steps p.tables e below (T17.setTop (mkF m 194 #[.val (.long p0), .second, .val (.int p1), .val (.ref b1), .val (.int (Int32.ofNat o)), .val (.int (Int32.ofNat n)), .unset, .unset] [])) oT
                    refine XS.iconst X17.here hx rfl (hb hby at_194) ?_
                    show Steps p.tables e below (T17.setTop (mkF m 195 #[.val (.long p0), .second, .val (.int p1), .val (.ref b1), .val (.int (Int32.ofNat o)), .val (.int (Int32.ofNat n)), .unset, .unset] [(.int (1 : Int32))])) _
                    refine XS.goto X17.here hx rfl (pc0 := 195) (pc' := 199) rfl (hb hby at_195) (by decide) (by decide) ?_
                    show Steps p.tables e below (T17.setTop (mkF m 199 #[.val (.long p0), .second, .val (.int p1), .val (.ref b1), .val (.int (Int32.ofNat o)), .val (.int (Int32.ofNat n)), .unset, .unset] [(.int (1 : Int32))])) _
                    refine XS.istore X17.here hx rfl (hb hby at_199) rfl (l' := #[.val (.long p0), .second, .val (.int p1), .val (.ref b1), .val (.int (Int32.ofNat o)), .val (.int (Int32.ofNat n)), .val (.int (1 : Int32)), .unset]) rfl ?_
                    show Steps p.tables e below (T17.setTop (mkF m 201 #[.val (.long p0), .second, .val (.int p1), .val (.ref b1), .val (.int (Int32.ofNat o)), .val (.int (Int32.ofNat n)), .val (.int (1 : Int32)), .unset] [])) _
                    refine XS.iload X17.here hx rfl (hb hby at_201) rfl  ?_
                    show Steps p.tables e below (T17.setTop (mkF m 203 #[.val (.long p0), .second, .val (.int p1), .val (.ref b1), .val (.int (Int32.ofNat o)), .val (.int (Int32.ofNat n)), .val (.int (1 : Int32)), .unset] [(.int (1 : Int32))])) _
                    refine XS.ifYes X17.here hx rfl (pc0 := 203) (pc' := 210) rfl (hb hby at_203) rfl (XT.i0_ne_t (by decide)) (by decide) (by decide) ?_
                    show Steps p.tables e below (T17.setTop (mkF m 210 #[.val (.long p0), .second, .val (.int p1), .val (.ref b1), .val (.int (Int32.ofNat o)), .val (.int (Int32.ofNat n)), .val (.int (1 : Int32)), .unset] [])) _
                    refine XS.iconst X17.here hx rfl (hb hby at_210) ?_
                    show Steps p.tables e below (T17.setTop (mkF m 211 #[.val (.long p0), .second, .val (.int p1), .val (.ref b1), .val (.int (Int32.ofNat o)), .val (.int (Int32.ofNat n)), .val (.int (1 : Int32)), .unset] [(.int (0 : Int32))])) _
                    refine XS.istore X17.here hx rfl (hb hby at_211) rfl (l' := #[.val (.long p0), .second, .val (.int p1), .val (.ref b1), .val (.int (Int32.ofNat o)), .val (.int (Int32.ofNat n)), .val (.int (1 : Int32)), .val (.int (0 : Int32))]) rfl ?_
                    show Steps p.tables e below (T17.setTop (mkF m 213 #[.val (.long p0), .second, .val (.int p1), .val (.ref b1), .val (.int (Int32.ofNat o)), .val (.int (Int32.ofNat n)), .val (.int (1 : Int32)), .val (.int (0 : Int32))] [])) _
                    refine XS.aloadN X17.here hx rfl (hb hby at_213) rfl rfl  ?_
                    show Steps p.tables e below (T17.setTop (mkF m 214 #[.val (.long p0), .second, .val (.int p1), .val (.ref b1), .val (.int (Int32.ofNat o)), .val (.int (Int32.ofNat n)), .val (.int (1 : Int32)), .val (.int (0 : Int32))] [(.ref b1)])) _
                    refine XS.iload X17.here hx rfl (hb hby at_214) rfl  ?_
                    show Steps p.tables e below (T17.setTop (mkF m 216 #[.val (.long p0), .second, .val (.int p1), .val (.ref b1), .val (.int (Int32.ofNat o)), .val (.int (Int32.ofNat n)), .val (.int (1 : Int32)), .val (.int (0 : Int32))] [(.int (Int32.ofNat o)), (.ref b1)])) _
                    refine XS.iload X17.here hx rfl (hb hby at_216) rfl  ?_
                    exact oK
                  show OG _ _ _ _ _ _ _ (T17.setTop (mkF m 218 #[.val (.long p0), .second, .val (.int p1), .val (.ref b1), .val (.int (Int32.ofNat o)), .val (.int (Int32.ofNat n)), .val (.int (1 : Int32)), .val (.int (0 : Int32))] [(.int (Int32.ofNat n)), (.int (Int32.ofNat o)), (.ref b1)]))
                  have f26 : ∀ j, j < 8 → ORd Z h9 b1 .byte (Int32.ofNat j) (.int ((own_f ((p0.toInt32.toInt8.toInt32).toInt8.toInt32) (((XT.ushrL p0 (8 : Int32)).toInt32.toInt8.toInt32).toInt8.toInt32) (((XT.ushrL p0 (16 : Int32)).toInt32.toInt8.toInt32).toInt8.toInt32) (((XT.ushrL p0 (24 : Int32)).toInt32.toInt8.toInt32).toInt8.toInt32) (((XT.ushrL p0 (32 : Int32)).toInt32.toInt8.toInt32).toInt8.toInt32) (((XT.ushrL p0 (40 : Int32)).toInt32.toInt8.toInt32).toInt8.toInt32) (((XT.ushrL p0 (48 : Int32)).toInt32.toInt8.toInt32).toInt8.toInt32) (((XT.ushrL p0 (56 : Int32)).toInt32.toInt8.toInt32).toInt8.toInt32)) j)) := fun j hj => by
                    match j, hj with
                    | 0, _ => exact own_rd V9 ⟨by decide, by decide⟩ rfl
                    | 1, _ => exact own_rd V9 ⟨by decide, by decide⟩ rfl
                    | 2, _ => exact own_rd V9 ⟨by decide, by decide⟩ rfl
                    | 3, _ => exact own_rd V9 ⟨by decide, by decide⟩ rfl
                    | 4, _ => exact own_rd V9 ⟨by decide, by decide⟩ rfl
                    | 5, _ => exact own_rd V9 ⟨by decide, by decide⟩ rfl
                    | 6, _ => exact own_rd V9 ⟨by decide, by decide⟩ rfl
                    | 7, _ => exact own_rd V9 ⟨by decide, by decide⟩ rfl
                  obtain ⟨_, _, ⟨T19, L19, k19, n19⟩, -, X19, ⟨Lc19, hQ19, l19, y19, z19⟩, st19⟩ := Jvm.LawKit.callS X17 hx (y := (⟨"com/example/vett/vett/Utf8", "isAscii", "([BII)Z"⟩ : MethodName)) hown (mvT hZ (hw _ (List.mem_of_getElem? (i := 5) rfl))) (mvT hZ (hw _ (List.mem_of_getElem? (i := 6) rfl))) (mvT hZ (hw _ (List.mem_of_getElem? (i := 7) rfl))) (mvT hZ (hw _ (List.mem_of_getElem? (i := 8) rfl))) (by decide) (backOf (W := 0) (rmA l Z a0 hw [] b1 o n (own_f ((p0.toInt32.toInt8.toInt32).toInt8.toInt32) (((XT.ushrL p0 (8 : Int32)).toInt32.toInt8.toInt32).toInt8.toInt32) (((XT.ushrL p0 (16 : Int32)).toInt32.toInt8.toInt32).toInt8.toInt32) (((XT.ushrL p0 (24 : Int32)).toInt32.toInt8.toInt32).toInt8.toInt32) (((XT.ushrL p0 (32 : Int32)).toInt32.toInt8.toInt32).toInt8.toInt32) (((XT.ushrL p0 (40 : Int32)).toInt32.toInt8.toInt32).toInt8.toInt32) (((XT.ushrL p0 (48 : Int32)).toInt32.toInt8.toInt32).toInt8.toInt32) (((XT.ushrL p0 (56 : Int32)).toInt32.toInt8.toInt32).toInt8.toInt32)) h9 n0 (Z9) hon f26) hZ (hw _ (List.mem_of_getElem? (i := 8) rfl)) (hw _ (List.mem_of_getElem? (i := 7) rfl)) (by decide) (by decide)) (g := (mkF m 218 #[.val (.long p0), .second, .val (.int p1), .val (.ref b1), .val (.int (Int32.ofNat o)), .val (.int (Int32.ofNat n)), .val (.int (1 : Int32)), .val (.int (0 : Int32))] [(.int (Int32.ofNat n)), (.int (Int32.ofNat o)), (.ref b1)])) rfl (by rw [hml]; rfl) (argsL := [(.ref b1), (.int (Int32.ofNat o)), (.int (Int32.ofNat n))]) (rest := []) (lenOf pd___BII_Z rfl) rfl (by show 2 * 0 + _ ≤ _; exact Nat.le_of_eq rfl) (hb hby at_218) (fun _ _ => ⟨rfl, e17, (by decide : 1 + 0 ≤ _), (by decide : 8 + 0 ≤ _)⟩)
                  dsimp only [Pt.U, Pt.locs, Pt.cells, Pt.slots] at X19 l19 y19 z19 st19 hQ19
                  subst l19 y19 z19
                  obtain ⟨hv19, N19q, e19⟩ := hQ19
                  obtain rfl := hv19.trans (show _ = some (.int (0 : Int32)) from congrArg (fun z => some (Value.int z)) (own_some hon 7 (by decide) hc191_24))
                  have N19 := Fr.app N17 N19q
                  refine OG.of st19 ?_
                  show OG _ _ _ _ _ _ _ (T19.setTop (mkF m 221 #[.val (.long p0), .second, .val (.int p1), .val (.ref b1), .val (.int (Int32.ofNat o)), .val (.int (Int32.ofNat n)), .val (.int (1 : Int32)), .val (.int (0 : Int32))] [(.int (0 : Int32))]))
                  refine OG.of (A := T19.setTop (mkF m 231 #[.val (.long p0), .second, .val (.int p1), .val (.ref b1), .val (.int (Int32.ofNat o)), .val (.int (Int32.ofNat n)), .val (.int (1 : Int32)), .val (.int (0 : Int32))] [(.int (1 : Int32))])) (fun oT oK => ?_) ?_
                  · show Steps p.tables e below (T19.setTop (mkF m 221 #[.val (.long p0), .second, .val (.int p1), .val (.ref b1), .val (.int (Int32.ofNat o)), .val (.int (Int32.ofNat n)), .val (.int (1 : Int32)), .val (.int (0 : Int32))] [(.int (0 : Int32))])) oT
                    refine XS.iload X19.here hx rfl (hb hby at_221) rfl  ?_
                    show Steps p.tables e below (T19.setTop (mkF m 223 #[.val (.long p0), .second, .val (.int p1), .val (.ref b1), .val (.int (Int32.ofNat o)), .val (.int (Int32.ofNat n)), .val (.int (1 : Int32)), .val (.int (0 : Int32))] [(.int (0 : Int32)), (.int (0 : Int32))])) _
                    refine XS.icmpNo X19.here hx rfl (hb hby at_223) rfl (XT.ii_ne_f rfl) ?_
                    show Steps p.tables e below (T19.setTop (mkF m 226 #[.val (.long p0), .second, .val (.int p1), .val (.ref b1), .val (.int (Int32.ofNat o)), .val (.int (Int32.ofNat n)), .val (.int (1 : Int32)), .val (.int (0 : Int32))] [])) _
                    refine XS.iconst X19.here hx rfl (hb hby at_226) ?_
                    show Steps p.tables e below (T19.setTop (mkF m 227 #[.val (.long p0), .second, .val (.int p1), .val (.ref b1), .val (.int (Int32.ofNat o)), .val (.int (Int32.ofNat n)), .val (.int (1 : Int32)), .val (.int (0 : Int32))] [(.int (1 : Int32))])) _
                    refine XS.goto X19.here hx rfl (pc0 := 227) (pc' := 231) rfl (hb hby at_227) (by decide) (by decide) ?_
                    exact oK
                  show OG _ _ _ _ _ _ _ (T19.setTop (mkF m 231 #[.val (.long p0), .second, .val (.int p1), .val (.ref b1), .val (.int (Int32.ofNat o)), .val (.int (Int32.ofNat n)), .val (.int (1 : Int32)), .val (.int (0 : Int32))] [(.int (1 : Int32))]))
                  refine OG.retN X19 hx (t := .boolean) Bd.returns (by simp) (hb hby at_231) hlk ?_ (by decide) (by decide)
                  try rw [e19]
                  exact ⟨rfl, N19⟩
              · refine OG.of (fun oT oK => XS.ifYes X16.here hx rfl (pc0 := 178) (pc' := 194) rfl (hb hby at_178) rfl (XT.i0_ne_t hc178_23) (by decide) (by decide) oK) ?_
                show OG _ _ _ _ _ _ _ (T16.setTop (mkF m 194 #[.val (.long p0), .second, .val (.int p1), .val (.ref b1), .val (.int (Int32.ofNat o)), .val (.int (Int32.ofNat n)), .unset, .unset] []))
                refine OG.of (A := T16.setTop (mkF m 218 #[.val (.long p0), .second, .val (.int p1), .val (.ref b1), .val (.int (Int32.ofNat o)), .val (.int (Int32.ofNat n)), .val (.int (1 : Int32)), .val (.int (0 : Int32))] [(.int (Int32.ofNat n)), (.int (Int32.ofNat o)), (.ref b1)])) (fun oT oK => ?_) ?_
                · show Steps p.tables e below (T16.setTop (mkF m 194 #[.val (.long p0), .second, .val (.int p1), .val (.ref b1), .val (.int (Int32.ofNat o)), .val (.int (Int32.ofNat n)), .unset, .unset] [])) oT
                  refine XS.iconst X16.here hx rfl (hb hby at_194) ?_
                  show Steps p.tables e below (T16.setTop (mkF m 195 #[.val (.long p0), .second, .val (.int p1), .val (.ref b1), .val (.int (Int32.ofNat o)), .val (.int (Int32.ofNat n)), .unset, .unset] [(.int (1 : Int32))])) _
                  refine XS.goto X16.here hx rfl (pc0 := 195) (pc' := 199) rfl (hb hby at_195) (by decide) (by decide) ?_
                  show Steps p.tables e below (T16.setTop (mkF m 199 #[.val (.long p0), .second, .val (.int p1), .val (.ref b1), .val (.int (Int32.ofNat o)), .val (.int (Int32.ofNat n)), .unset, .unset] [(.int (1 : Int32))])) _
                  refine XS.istore X16.here hx rfl (hb hby at_199) rfl (l' := #[.val (.long p0), .second, .val (.int p1), .val (.ref b1), .val (.int (Int32.ofNat o)), .val (.int (Int32.ofNat n)), .val (.int (1 : Int32)), .unset]) rfl ?_
                  show Steps p.tables e below (T16.setTop (mkF m 201 #[.val (.long p0), .second, .val (.int p1), .val (.ref b1), .val (.int (Int32.ofNat o)), .val (.int (Int32.ofNat n)), .val (.int (1 : Int32)), .unset] [])) _
                  refine XS.iload X16.here hx rfl (hb hby at_201) rfl  ?_
                  show Steps p.tables e below (T16.setTop (mkF m 203 #[.val (.long p0), .second, .val (.int p1), .val (.ref b1), .val (.int (Int32.ofNat o)), .val (.int (Int32.ofNat n)), .val (.int (1 : Int32)), .unset] [(.int (1 : Int32))])) _
                  refine XS.ifYes X16.here hx rfl (pc0 := 203) (pc' := 210) rfl (hb hby at_203) rfl (XT.i0_ne_t (by decide)) (by decide) (by decide) ?_
                  show Steps p.tables e below (T16.setTop (mkF m 210 #[.val (.long p0), .second, .val (.int p1), .val (.ref b1), .val (.int (Int32.ofNat o)), .val (.int (Int32.ofNat n)), .val (.int (1 : Int32)), .unset] [])) _
                  refine XS.iconst X16.here hx rfl (hb hby at_210) ?_
                  show Steps p.tables e below (T16.setTop (mkF m 211 #[.val (.long p0), .second, .val (.int p1), .val (.ref b1), .val (.int (Int32.ofNat o)), .val (.int (Int32.ofNat n)), .val (.int (1 : Int32)), .unset] [(.int (0 : Int32))])) _
                  refine XS.istore X16.here hx rfl (hb hby at_211) rfl (l' := #[.val (.long p0), .second, .val (.int p1), .val (.ref b1), .val (.int (Int32.ofNat o)), .val (.int (Int32.ofNat n)), .val (.int (1 : Int32)), .val (.int (0 : Int32))]) rfl ?_
                  show Steps p.tables e below (T16.setTop (mkF m 213 #[.val (.long p0), .second, .val (.int p1), .val (.ref b1), .val (.int (Int32.ofNat o)), .val (.int (Int32.ofNat n)), .val (.int (1 : Int32)), .val (.int (0 : Int32))] [])) _
                  refine XS.aloadN X16.here hx rfl (hb hby at_213) rfl rfl  ?_
                  show Steps p.tables e below (T16.setTop (mkF m 214 #[.val (.long p0), .second, .val (.int p1), .val (.ref b1), .val (.int (Int32.ofNat o)), .val (.int (Int32.ofNat n)), .val (.int (1 : Int32)), .val (.int (0 : Int32))] [(.ref b1)])) _
                  refine XS.iload X16.here hx rfl (hb hby at_214) rfl  ?_
                  show Steps p.tables e below (T16.setTop (mkF m 216 #[.val (.long p0), .second, .val (.int p1), .val (.ref b1), .val (.int (Int32.ofNat o)), .val (.int (Int32.ofNat n)), .val (.int (1 : Int32)), .val (.int (0 : Int32))] [(.int (Int32.ofNat o)), (.ref b1)])) _
                  refine XS.iload X16.here hx rfl (hb hby at_216) rfl  ?_
                  exact oK
                show OG _ _ _ _ _ _ _ (T16.setTop (mkF m 218 #[.val (.long p0), .second, .val (.int p1), .val (.ref b1), .val (.int (Int32.ofNat o)), .val (.int (Int32.ofNat n)), .val (.int (1 : Int32)), .val (.int (0 : Int32))] [(.int (Int32.ofNat n)), (.int (Int32.ofNat o)), (.ref b1)]))
                have f27 : ∀ j, j < 8 → ORd Z h9 b1 .byte (Int32.ofNat j) (.int ((own_f ((p0.toInt32.toInt8.toInt32).toInt8.toInt32) (((XT.ushrL p0 (8 : Int32)).toInt32.toInt8.toInt32).toInt8.toInt32) (((XT.ushrL p0 (16 : Int32)).toInt32.toInt8.toInt32).toInt8.toInt32) (((XT.ushrL p0 (24 : Int32)).toInt32.toInt8.toInt32).toInt8.toInt32) (((XT.ushrL p0 (32 : Int32)).toInt32.toInt8.toInt32).toInt8.toInt32) (((XT.ushrL p0 (40 : Int32)).toInt32.toInt8.toInt32).toInt8.toInt32) (((XT.ushrL p0 (48 : Int32)).toInt32.toInt8.toInt32).toInt8.toInt32) (((XT.ushrL p0 (56 : Int32)).toInt32.toInt8.toInt32).toInt8.toInt32)) j)) := fun j hj => by
                  match j, hj with
                  | 0, _ => exact own_rd V9 ⟨by decide, by decide⟩ rfl
                  | 1, _ => exact own_rd V9 ⟨by decide, by decide⟩ rfl
                  | 2, _ => exact own_rd V9 ⟨by decide, by decide⟩ rfl
                  | 3, _ => exact own_rd V9 ⟨by decide, by decide⟩ rfl
                  | 4, _ => exact own_rd V9 ⟨by decide, by decide⟩ rfl
                  | 5, _ => exact own_rd V9 ⟨by decide, by decide⟩ rfl
                  | 6, _ => exact own_rd V9 ⟨by decide, by decide⟩ rfl
                  | 7, _ => exact own_rd V9 ⟨by decide, by decide⟩ rfl
                obtain ⟨_, _, ⟨T20, L20, k20, n20⟩, -, X20, ⟨Lc20, hQ20, l20, y20, z20⟩, st20⟩ := Jvm.LawKit.callS X16 hx (y := (⟨"com/example/vett/vett/Utf8", "isAscii", "([BII)Z"⟩ : MethodName)) hown (mvT hZ (hw _ (List.mem_of_getElem? (i := 5) rfl))) (mvT hZ (hw _ (List.mem_of_getElem? (i := 6) rfl))) (mvT hZ (hw _ (List.mem_of_getElem? (i := 7) rfl))) (mvT hZ (hw _ (List.mem_of_getElem? (i := 8) rfl))) (by decide) (backOf (W := 0) (rmA l Z a0 hw [] b1 o n (own_f ((p0.toInt32.toInt8.toInt32).toInt8.toInt32) (((XT.ushrL p0 (8 : Int32)).toInt32.toInt8.toInt32).toInt8.toInt32) (((XT.ushrL p0 (16 : Int32)).toInt32.toInt8.toInt32).toInt8.toInt32) (((XT.ushrL p0 (24 : Int32)).toInt32.toInt8.toInt32).toInt8.toInt32) (((XT.ushrL p0 (32 : Int32)).toInt32.toInt8.toInt32).toInt8.toInt32) (((XT.ushrL p0 (40 : Int32)).toInt32.toInt8.toInt32).toInt8.toInt32) (((XT.ushrL p0 (48 : Int32)).toInt32.toInt8.toInt32).toInt8.toInt32) (((XT.ushrL p0 (56 : Int32)).toInt32.toInt8.toInt32).toInt8.toInt32)) h9 n0 (Z9) hon f27) hZ (hw _ (List.mem_of_getElem? (i := 8) rfl)) (hw _ (List.mem_of_getElem? (i := 7) rfl)) (by decide) (by decide)) (g := (mkF m 218 #[.val (.long p0), .second, .val (.int p1), .val (.ref b1), .val (.int (Int32.ofNat o)), .val (.int (Int32.ofNat n)), .val (.int (1 : Int32)), .val (.int (0 : Int32))] [(.int (Int32.ofNat n)), (.int (Int32.ofNat o)), (.ref b1)])) rfl (by rw [hml]; rfl) (argsL := [(.ref b1), (.int (Int32.ofNat o)), (.int (Int32.ofNat n))]) (rest := []) (lenOf pd___BII_Z rfl) rfl (by show 2 * 0 + _ ≤ _; exact Nat.le_of_eq rfl) (hb hby at_218) (fun _ _ => ⟨rfl, e16, (by decide : 1 + 0 ≤ _), (by decide : 8 + 0 ≤ _)⟩)
                dsimp only [Pt.U, Pt.locs, Pt.cells, Pt.slots] at X20 l20 y20 z20 st20 hQ20
                subst l20 y20 z20
                obtain ⟨hv20, N20q, e20⟩ := hQ20
                obtain rfl := hv20.trans (show _ = some (.int (0 : Int32)) from congrArg (fun z => some (Value.int z)) (own_some hon 6 (by decide) hc178_23))
                have N20 := Fr.app N16 N20q
                refine OG.of st20 ?_
                show OG _ _ _ _ _ _ _ (T20.setTop (mkF m 221 #[.val (.long p0), .second, .val (.int p1), .val (.ref b1), .val (.int (Int32.ofNat o)), .val (.int (Int32.ofNat n)), .val (.int (1 : Int32)), .val (.int (0 : Int32))] [(.int (0 : Int32))]))
                refine OG.of (A := T20.setTop (mkF m 231 #[.val (.long p0), .second, .val (.int p1), .val (.ref b1), .val (.int (Int32.ofNat o)), .val (.int (Int32.ofNat n)), .val (.int (1 : Int32)), .val (.int (0 : Int32))] [(.int (1 : Int32))])) (fun oT oK => ?_) ?_
                · show Steps p.tables e below (T20.setTop (mkF m 221 #[.val (.long p0), .second, .val (.int p1), .val (.ref b1), .val (.int (Int32.ofNat o)), .val (.int (Int32.ofNat n)), .val (.int (1 : Int32)), .val (.int (0 : Int32))] [(.int (0 : Int32))])) oT
                  refine XS.iload X20.here hx rfl (hb hby at_221) rfl  ?_
                  show Steps p.tables e below (T20.setTop (mkF m 223 #[.val (.long p0), .second, .val (.int p1), .val (.ref b1), .val (.int (Int32.ofNat o)), .val (.int (Int32.ofNat n)), .val (.int (1 : Int32)), .val (.int (0 : Int32))] [(.int (0 : Int32)), (.int (0 : Int32))])) _
                  refine XS.icmpNo X20.here hx rfl (hb hby at_223) rfl (XT.ii_ne_f rfl) ?_
                  show Steps p.tables e below (T20.setTop (mkF m 226 #[.val (.long p0), .second, .val (.int p1), .val (.ref b1), .val (.int (Int32.ofNat o)), .val (.int (Int32.ofNat n)), .val (.int (1 : Int32)), .val (.int (0 : Int32))] [])) _
                  refine XS.iconst X20.here hx rfl (hb hby at_226) ?_
                  show Steps p.tables e below (T20.setTop (mkF m 227 #[.val (.long p0), .second, .val (.int p1), .val (.ref b1), .val (.int (Int32.ofNat o)), .val (.int (Int32.ofNat n)), .val (.int (1 : Int32)), .val (.int (0 : Int32))] [(.int (1 : Int32))])) _
                  refine XS.goto X20.here hx rfl (pc0 := 227) (pc' := 231) rfl (hb hby at_227) (by decide) (by decide) ?_
                  exact oK
                show OG _ _ _ _ _ _ _ (T20.setTop (mkF m 231 #[.val (.long p0), .second, .val (.int p1), .val (.ref b1), .val (.int (Int32.ofNat o)), .val (.int (Int32.ofNat n)), .val (.int (1 : Int32)), .val (.int (0 : Int32))] [(.int (1 : Int32))]))
                refine OG.retN X20 hx (t := .boolean) Bd.returns (by simp) (hb hby at_231) hlk ?_ (by decide) (by decide)
                try rw [e20]
                exact ⟨rfl, N20⟩
            · refine OG.of (fun oT oK => XS.ifYes X15.here hx rfl (pc0 := 165) (pc' := 194) rfl (hb hby at_165) rfl (XT.i0_ne_t hc165_22) (by decide) (by decide) oK) ?_
              show OG _ _ _ _ _ _ _ (T15.setTop (mkF m 194 #[.val (.long p0), .second, .val (.int p1), .val (.ref b1), .val (.int (Int32.ofNat o)), .val (.int (Int32.ofNat n)), .unset, .unset] []))
              refine OG.of (A := T15.setTop (mkF m 218 #[.val (.long p0), .second, .val (.int p1), .val (.ref b1), .val (.int (Int32.ofNat o)), .val (.int (Int32.ofNat n)), .val (.int (1 : Int32)), .val (.int (0 : Int32))] [(.int (Int32.ofNat n)), (.int (Int32.ofNat o)), (.ref b1)])) (fun oT oK => ?_) ?_
              · show Steps p.tables e below (T15.setTop (mkF m 194 #[.val (.long p0), .second, .val (.int p1), .val (.ref b1), .val (.int (Int32.ofNat o)), .val (.int (Int32.ofNat n)), .unset, .unset] [])) oT
                refine XS.iconst X15.here hx rfl (hb hby at_194) ?_
                show Steps p.tables e below (T15.setTop (mkF m 195 #[.val (.long p0), .second, .val (.int p1), .val (.ref b1), .val (.int (Int32.ofNat o)), .val (.int (Int32.ofNat n)), .unset, .unset] [(.int (1 : Int32))])) _
                refine XS.goto X15.here hx rfl (pc0 := 195) (pc' := 199) rfl (hb hby at_195) (by decide) (by decide) ?_
                show Steps p.tables e below (T15.setTop (mkF m 199 #[.val (.long p0), .second, .val (.int p1), .val (.ref b1), .val (.int (Int32.ofNat o)), .val (.int (Int32.ofNat n)), .unset, .unset] [(.int (1 : Int32))])) _
                refine XS.istore X15.here hx rfl (hb hby at_199) rfl (l' := #[.val (.long p0), .second, .val (.int p1), .val (.ref b1), .val (.int (Int32.ofNat o)), .val (.int (Int32.ofNat n)), .val (.int (1 : Int32)), .unset]) rfl ?_
                show Steps p.tables e below (T15.setTop (mkF m 201 #[.val (.long p0), .second, .val (.int p1), .val (.ref b1), .val (.int (Int32.ofNat o)), .val (.int (Int32.ofNat n)), .val (.int (1 : Int32)), .unset] [])) _
                refine XS.iload X15.here hx rfl (hb hby at_201) rfl  ?_
                show Steps p.tables e below (T15.setTop (mkF m 203 #[.val (.long p0), .second, .val (.int p1), .val (.ref b1), .val (.int (Int32.ofNat o)), .val (.int (Int32.ofNat n)), .val (.int (1 : Int32)), .unset] [(.int (1 : Int32))])) _
                refine XS.ifYes X15.here hx rfl (pc0 := 203) (pc' := 210) rfl (hb hby at_203) rfl (XT.i0_ne_t (by decide)) (by decide) (by decide) ?_
                show Steps p.tables e below (T15.setTop (mkF m 210 #[.val (.long p0), .second, .val (.int p1), .val (.ref b1), .val (.int (Int32.ofNat o)), .val (.int (Int32.ofNat n)), .val (.int (1 : Int32)), .unset] [])) _
                refine XS.iconst X15.here hx rfl (hb hby at_210) ?_
                show Steps p.tables e below (T15.setTop (mkF m 211 #[.val (.long p0), .second, .val (.int p1), .val (.ref b1), .val (.int (Int32.ofNat o)), .val (.int (Int32.ofNat n)), .val (.int (1 : Int32)), .unset] [(.int (0 : Int32))])) _
                refine XS.istore X15.here hx rfl (hb hby at_211) rfl (l' := #[.val (.long p0), .second, .val (.int p1), .val (.ref b1), .val (.int (Int32.ofNat o)), .val (.int (Int32.ofNat n)), .val (.int (1 : Int32)), .val (.int (0 : Int32))]) rfl ?_
                show Steps p.tables e below (T15.setTop (mkF m 213 #[.val (.long p0), .second, .val (.int p1), .val (.ref b1), .val (.int (Int32.ofNat o)), .val (.int (Int32.ofNat n)), .val (.int (1 : Int32)), .val (.int (0 : Int32))] [])) _
                refine XS.aloadN X15.here hx rfl (hb hby at_213) rfl rfl  ?_
                show Steps p.tables e below (T15.setTop (mkF m 214 #[.val (.long p0), .second, .val (.int p1), .val (.ref b1), .val (.int (Int32.ofNat o)), .val (.int (Int32.ofNat n)), .val (.int (1 : Int32)), .val (.int (0 : Int32))] [(.ref b1)])) _
                refine XS.iload X15.here hx rfl (hb hby at_214) rfl  ?_
                show Steps p.tables e below (T15.setTop (mkF m 216 #[.val (.long p0), .second, .val (.int p1), .val (.ref b1), .val (.int (Int32.ofNat o)), .val (.int (Int32.ofNat n)), .val (.int (1 : Int32)), .val (.int (0 : Int32))] [(.int (Int32.ofNat o)), (.ref b1)])) _
                refine XS.iload X15.here hx rfl (hb hby at_216) rfl  ?_
                exact oK
              show OG _ _ _ _ _ _ _ (T15.setTop (mkF m 218 #[.val (.long p0), .second, .val (.int p1), .val (.ref b1), .val (.int (Int32.ofNat o)), .val (.int (Int32.ofNat n)), .val (.int (1 : Int32)), .val (.int (0 : Int32))] [(.int (Int32.ofNat n)), (.int (Int32.ofNat o)), (.ref b1)]))
              have f28 : ∀ j, j < 8 → ORd Z h9 b1 .byte (Int32.ofNat j) (.int ((own_f ((p0.toInt32.toInt8.toInt32).toInt8.toInt32) (((XT.ushrL p0 (8 : Int32)).toInt32.toInt8.toInt32).toInt8.toInt32) (((XT.ushrL p0 (16 : Int32)).toInt32.toInt8.toInt32).toInt8.toInt32) (((XT.ushrL p0 (24 : Int32)).toInt32.toInt8.toInt32).toInt8.toInt32) (((XT.ushrL p0 (32 : Int32)).toInt32.toInt8.toInt32).toInt8.toInt32) (((XT.ushrL p0 (40 : Int32)).toInt32.toInt8.toInt32).toInt8.toInt32) (((XT.ushrL p0 (48 : Int32)).toInt32.toInt8.toInt32).toInt8.toInt32) (((XT.ushrL p0 (56 : Int32)).toInt32.toInt8.toInt32).toInt8.toInt32)) j)) := fun j hj => by
                match j, hj with
                | 0, _ => exact own_rd V9 ⟨by decide, by decide⟩ rfl
                | 1, _ => exact own_rd V9 ⟨by decide, by decide⟩ rfl
                | 2, _ => exact own_rd V9 ⟨by decide, by decide⟩ rfl
                | 3, _ => exact own_rd V9 ⟨by decide, by decide⟩ rfl
                | 4, _ => exact own_rd V9 ⟨by decide, by decide⟩ rfl
                | 5, _ => exact own_rd V9 ⟨by decide, by decide⟩ rfl
                | 6, _ => exact own_rd V9 ⟨by decide, by decide⟩ rfl
                | 7, _ => exact own_rd V9 ⟨by decide, by decide⟩ rfl
              obtain ⟨_, _, ⟨T21, L21, k21, n21⟩, -, X21, ⟨Lc21, hQ21, l21, y21, z21⟩, st21⟩ := Jvm.LawKit.callS X15 hx (y := (⟨"com/example/vett/vett/Utf8", "isAscii", "([BII)Z"⟩ : MethodName)) hown (mvT hZ (hw _ (List.mem_of_getElem? (i := 5) rfl))) (mvT hZ (hw _ (List.mem_of_getElem? (i := 6) rfl))) (mvT hZ (hw _ (List.mem_of_getElem? (i := 7) rfl))) (mvT hZ (hw _ (List.mem_of_getElem? (i := 8) rfl))) (by decide) (backOf (W := 0) (rmA l Z a0 hw [] b1 o n (own_f ((p0.toInt32.toInt8.toInt32).toInt8.toInt32) (((XT.ushrL p0 (8 : Int32)).toInt32.toInt8.toInt32).toInt8.toInt32) (((XT.ushrL p0 (16 : Int32)).toInt32.toInt8.toInt32).toInt8.toInt32) (((XT.ushrL p0 (24 : Int32)).toInt32.toInt8.toInt32).toInt8.toInt32) (((XT.ushrL p0 (32 : Int32)).toInt32.toInt8.toInt32).toInt8.toInt32) (((XT.ushrL p0 (40 : Int32)).toInt32.toInt8.toInt32).toInt8.toInt32) (((XT.ushrL p0 (48 : Int32)).toInt32.toInt8.toInt32).toInt8.toInt32) (((XT.ushrL p0 (56 : Int32)).toInt32.toInt8.toInt32).toInt8.toInt32)) h9 n0 (Z9) hon f28) hZ (hw _ (List.mem_of_getElem? (i := 8) rfl)) (hw _ (List.mem_of_getElem? (i := 7) rfl)) (by decide) (by decide)) (g := (mkF m 218 #[.val (.long p0), .second, .val (.int p1), .val (.ref b1), .val (.int (Int32.ofNat o)), .val (.int (Int32.ofNat n)), .val (.int (1 : Int32)), .val (.int (0 : Int32))] [(.int (Int32.ofNat n)), (.int (Int32.ofNat o)), (.ref b1)])) rfl (by rw [hml]; rfl) (argsL := [(.ref b1), (.int (Int32.ofNat o)), (.int (Int32.ofNat n))]) (rest := []) (lenOf pd___BII_Z rfl) rfl (by show 2 * 0 + _ ≤ _; exact Nat.le_of_eq rfl) (hb hby at_218) (fun _ _ => ⟨rfl, e15, (by decide : 1 + 0 ≤ _), (by decide : 8 + 0 ≤ _)⟩)
              dsimp only [Pt.U, Pt.locs, Pt.cells, Pt.slots] at X21 l21 y21 z21 st21 hQ21
              subst l21 y21 z21
              obtain ⟨hv21, N21q, e21⟩ := hQ21
              obtain rfl := hv21.trans (show _ = some (.int (0 : Int32)) from congrArg (fun z => some (Value.int z)) (own_some hon 5 (by decide) hc165_22))
              have N21 := Fr.app N15 N21q
              refine OG.of st21 ?_
              show OG _ _ _ _ _ _ _ (T21.setTop (mkF m 221 #[.val (.long p0), .second, .val (.int p1), .val (.ref b1), .val (.int (Int32.ofNat o)), .val (.int (Int32.ofNat n)), .val (.int (1 : Int32)), .val (.int (0 : Int32))] [(.int (0 : Int32))]))
              refine OG.of (A := T21.setTop (mkF m 231 #[.val (.long p0), .second, .val (.int p1), .val (.ref b1), .val (.int (Int32.ofNat o)), .val (.int (Int32.ofNat n)), .val (.int (1 : Int32)), .val (.int (0 : Int32))] [(.int (1 : Int32))])) (fun oT oK => ?_) ?_
              · show Steps p.tables e below (T21.setTop (mkF m 221 #[.val (.long p0), .second, .val (.int p1), .val (.ref b1), .val (.int (Int32.ofNat o)), .val (.int (Int32.ofNat n)), .val (.int (1 : Int32)), .val (.int (0 : Int32))] [(.int (0 : Int32))])) oT
                refine XS.iload X21.here hx rfl (hb hby at_221) rfl  ?_
                show Steps p.tables e below (T21.setTop (mkF m 223 #[.val (.long p0), .second, .val (.int p1), .val (.ref b1), .val (.int (Int32.ofNat o)), .val (.int (Int32.ofNat n)), .val (.int (1 : Int32)), .val (.int (0 : Int32))] [(.int (0 : Int32)), (.int (0 : Int32))])) _
                refine XS.icmpNo X21.here hx rfl (hb hby at_223) rfl (XT.ii_ne_f rfl) ?_
                show Steps p.tables e below (T21.setTop (mkF m 226 #[.val (.long p0), .second, .val (.int p1), .val (.ref b1), .val (.int (Int32.ofNat o)), .val (.int (Int32.ofNat n)), .val (.int (1 : Int32)), .val (.int (0 : Int32))] [])) _
                refine XS.iconst X21.here hx rfl (hb hby at_226) ?_
                show Steps p.tables e below (T21.setTop (mkF m 227 #[.val (.long p0), .second, .val (.int p1), .val (.ref b1), .val (.int (Int32.ofNat o)), .val (.int (Int32.ofNat n)), .val (.int (1 : Int32)), .val (.int (0 : Int32))] [(.int (1 : Int32))])) _
                refine XS.goto X21.here hx rfl (pc0 := 227) (pc' := 231) rfl (hb hby at_227) (by decide) (by decide) ?_
                exact oK
              show OG _ _ _ _ _ _ _ (T21.setTop (mkF m 231 #[.val (.long p0), .second, .val (.int p1), .val (.ref b1), .val (.int (Int32.ofNat o)), .val (.int (Int32.ofNat n)), .val (.int (1 : Int32)), .val (.int (0 : Int32))] [(.int (1 : Int32))]))
              refine OG.retN X21 hx (t := .boolean) Bd.returns (by simp) (hb hby at_231) hlk ?_ (by decide) (by decide)
              try rw [e21]
              exact ⟨rfl, N21⟩
          · refine OG.of (fun oT oK => XS.ifYes X14.here hx rfl (pc0 := 153) (pc' := 194) rfl (hb hby at_153) rfl (XT.i0_ne_t hc153_21) (by decide) (by decide) oK) ?_
            show OG _ _ _ _ _ _ _ (T14.setTop (mkF m 194 #[.val (.long p0), .second, .val (.int p1), .val (.ref b1), .val (.int (Int32.ofNat o)), .val (.int (Int32.ofNat n)), .unset, .unset] []))
            refine OG.of (A := T14.setTop (mkF m 218 #[.val (.long p0), .second, .val (.int p1), .val (.ref b1), .val (.int (Int32.ofNat o)), .val (.int (Int32.ofNat n)), .val (.int (1 : Int32)), .val (.int (0 : Int32))] [(.int (Int32.ofNat n)), (.int (Int32.ofNat o)), (.ref b1)])) (fun oT oK => ?_) ?_
            · show Steps p.tables e below (T14.setTop (mkF m 194 #[.val (.long p0), .second, .val (.int p1), .val (.ref b1), .val (.int (Int32.ofNat o)), .val (.int (Int32.ofNat n)), .unset, .unset] [])) oT
              refine XS.iconst X14.here hx rfl (hb hby at_194) ?_
              show Steps p.tables e below (T14.setTop (mkF m 195 #[.val (.long p0), .second, .val (.int p1), .val (.ref b1), .val (.int (Int32.ofNat o)), .val (.int (Int32.ofNat n)), .unset, .unset] [(.int (1 : Int32))])) _
              refine XS.goto X14.here hx rfl (pc0 := 195) (pc' := 199) rfl (hb hby at_195) (by decide) (by decide) ?_
              show Steps p.tables e below (T14.setTop (mkF m 199 #[.val (.long p0), .second, .val (.int p1), .val (.ref b1), .val (.int (Int32.ofNat o)), .val (.int (Int32.ofNat n)), .unset, .unset] [(.int (1 : Int32))])) _
              refine XS.istore X14.here hx rfl (hb hby at_199) rfl (l' := #[.val (.long p0), .second, .val (.int p1), .val (.ref b1), .val (.int (Int32.ofNat o)), .val (.int (Int32.ofNat n)), .val (.int (1 : Int32)), .unset]) rfl ?_
              show Steps p.tables e below (T14.setTop (mkF m 201 #[.val (.long p0), .second, .val (.int p1), .val (.ref b1), .val (.int (Int32.ofNat o)), .val (.int (Int32.ofNat n)), .val (.int (1 : Int32)), .unset] [])) _
              refine XS.iload X14.here hx rfl (hb hby at_201) rfl  ?_
              show Steps p.tables e below (T14.setTop (mkF m 203 #[.val (.long p0), .second, .val (.int p1), .val (.ref b1), .val (.int (Int32.ofNat o)), .val (.int (Int32.ofNat n)), .val (.int (1 : Int32)), .unset] [(.int (1 : Int32))])) _
              refine XS.ifYes X14.here hx rfl (pc0 := 203) (pc' := 210) rfl (hb hby at_203) rfl (XT.i0_ne_t (by decide)) (by decide) (by decide) ?_
              show Steps p.tables e below (T14.setTop (mkF m 210 #[.val (.long p0), .second, .val (.int p1), .val (.ref b1), .val (.int (Int32.ofNat o)), .val (.int (Int32.ofNat n)), .val (.int (1 : Int32)), .unset] [])) _
              refine XS.iconst X14.here hx rfl (hb hby at_210) ?_
              show Steps p.tables e below (T14.setTop (mkF m 211 #[.val (.long p0), .second, .val (.int p1), .val (.ref b1), .val (.int (Int32.ofNat o)), .val (.int (Int32.ofNat n)), .val (.int (1 : Int32)), .unset] [(.int (0 : Int32))])) _
              refine XS.istore X14.here hx rfl (hb hby at_211) rfl (l' := #[.val (.long p0), .second, .val (.int p1), .val (.ref b1), .val (.int (Int32.ofNat o)), .val (.int (Int32.ofNat n)), .val (.int (1 : Int32)), .val (.int (0 : Int32))]) rfl ?_
              show Steps p.tables e below (T14.setTop (mkF m 213 #[.val (.long p0), .second, .val (.int p1), .val (.ref b1), .val (.int (Int32.ofNat o)), .val (.int (Int32.ofNat n)), .val (.int (1 : Int32)), .val (.int (0 : Int32))] [])) _
              refine XS.aloadN X14.here hx rfl (hb hby at_213) rfl rfl  ?_
              show Steps p.tables e below (T14.setTop (mkF m 214 #[.val (.long p0), .second, .val (.int p1), .val (.ref b1), .val (.int (Int32.ofNat o)), .val (.int (Int32.ofNat n)), .val (.int (1 : Int32)), .val (.int (0 : Int32))] [(.ref b1)])) _
              refine XS.iload X14.here hx rfl (hb hby at_214) rfl  ?_
              show Steps p.tables e below (T14.setTop (mkF m 216 #[.val (.long p0), .second, .val (.int p1), .val (.ref b1), .val (.int (Int32.ofNat o)), .val (.int (Int32.ofNat n)), .val (.int (1 : Int32)), .val (.int (0 : Int32))] [(.int (Int32.ofNat o)), (.ref b1)])) _
              refine XS.iload X14.here hx rfl (hb hby at_216) rfl  ?_
              exact oK
            show OG _ _ _ _ _ _ _ (T14.setTop (mkF m 218 #[.val (.long p0), .second, .val (.int p1), .val (.ref b1), .val (.int (Int32.ofNat o)), .val (.int (Int32.ofNat n)), .val (.int (1 : Int32)), .val (.int (0 : Int32))] [(.int (Int32.ofNat n)), (.int (Int32.ofNat o)), (.ref b1)]))
            have f29 : ∀ j, j < 8 → ORd Z h9 b1 .byte (Int32.ofNat j) (.int ((own_f ((p0.toInt32.toInt8.toInt32).toInt8.toInt32) (((XT.ushrL p0 (8 : Int32)).toInt32.toInt8.toInt32).toInt8.toInt32) (((XT.ushrL p0 (16 : Int32)).toInt32.toInt8.toInt32).toInt8.toInt32) (((XT.ushrL p0 (24 : Int32)).toInt32.toInt8.toInt32).toInt8.toInt32) (((XT.ushrL p0 (32 : Int32)).toInt32.toInt8.toInt32).toInt8.toInt32) (((XT.ushrL p0 (40 : Int32)).toInt32.toInt8.toInt32).toInt8.toInt32) (((XT.ushrL p0 (48 : Int32)).toInt32.toInt8.toInt32).toInt8.toInt32) (((XT.ushrL p0 (56 : Int32)).toInt32.toInt8.toInt32).toInt8.toInt32)) j)) := fun j hj => by
              match j, hj with
              | 0, _ => exact own_rd V9 ⟨by decide, by decide⟩ rfl
              | 1, _ => exact own_rd V9 ⟨by decide, by decide⟩ rfl
              | 2, _ => exact own_rd V9 ⟨by decide, by decide⟩ rfl
              | 3, _ => exact own_rd V9 ⟨by decide, by decide⟩ rfl
              | 4, _ => exact own_rd V9 ⟨by decide, by decide⟩ rfl
              | 5, _ => exact own_rd V9 ⟨by decide, by decide⟩ rfl
              | 6, _ => exact own_rd V9 ⟨by decide, by decide⟩ rfl
              | 7, _ => exact own_rd V9 ⟨by decide, by decide⟩ rfl
            obtain ⟨_, _, ⟨T22, L22, k22, n22⟩, -, X22, ⟨Lc22, hQ22, l22, y22, z22⟩, st22⟩ := Jvm.LawKit.callS X14 hx (y := (⟨"com/example/vett/vett/Utf8", "isAscii", "([BII)Z"⟩ : MethodName)) hown (mvT hZ (hw _ (List.mem_of_getElem? (i := 5) rfl))) (mvT hZ (hw _ (List.mem_of_getElem? (i := 6) rfl))) (mvT hZ (hw _ (List.mem_of_getElem? (i := 7) rfl))) (mvT hZ (hw _ (List.mem_of_getElem? (i := 8) rfl))) (by decide) (backOf (W := 0) (rmA l Z a0 hw [] b1 o n (own_f ((p0.toInt32.toInt8.toInt32).toInt8.toInt32) (((XT.ushrL p0 (8 : Int32)).toInt32.toInt8.toInt32).toInt8.toInt32) (((XT.ushrL p0 (16 : Int32)).toInt32.toInt8.toInt32).toInt8.toInt32) (((XT.ushrL p0 (24 : Int32)).toInt32.toInt8.toInt32).toInt8.toInt32) (((XT.ushrL p0 (32 : Int32)).toInt32.toInt8.toInt32).toInt8.toInt32) (((XT.ushrL p0 (40 : Int32)).toInt32.toInt8.toInt32).toInt8.toInt32) (((XT.ushrL p0 (48 : Int32)).toInt32.toInt8.toInt32).toInt8.toInt32) (((XT.ushrL p0 (56 : Int32)).toInt32.toInt8.toInt32).toInt8.toInt32)) h9 n0 (Z9) hon f29) hZ (hw _ (List.mem_of_getElem? (i := 8) rfl)) (hw _ (List.mem_of_getElem? (i := 7) rfl)) (by decide) (by decide)) (g := (mkF m 218 #[.val (.long p0), .second, .val (.int p1), .val (.ref b1), .val (.int (Int32.ofNat o)), .val (.int (Int32.ofNat n)), .val (.int (1 : Int32)), .val (.int (0 : Int32))] [(.int (Int32.ofNat n)), (.int (Int32.ofNat o)), (.ref b1)])) rfl (by rw [hml]; rfl) (argsL := [(.ref b1), (.int (Int32.ofNat o)), (.int (Int32.ofNat n))]) (rest := []) (lenOf pd___BII_Z rfl) rfl (by show 2 * 0 + _ ≤ _; exact Nat.le_of_eq rfl) (hb hby at_218) (fun _ _ => ⟨rfl, e14, (by decide : 1 + 0 ≤ _), (by decide : 8 + 0 ≤ _)⟩)
            dsimp only [Pt.U, Pt.locs, Pt.cells, Pt.slots] at X22 l22 y22 z22 st22 hQ22
            subst l22 y22 z22
            obtain ⟨hv22, N22q, e22⟩ := hQ22
            obtain rfl := hv22.trans (show _ = some (.int (0 : Int32)) from congrArg (fun z => some (Value.int z)) (own_some hon 4 (by decide) hc153_21))
            have N22 := Fr.app N14 N22q
            refine OG.of st22 ?_
            show OG _ _ _ _ _ _ _ (T22.setTop (mkF m 221 #[.val (.long p0), .second, .val (.int p1), .val (.ref b1), .val (.int (Int32.ofNat o)), .val (.int (Int32.ofNat n)), .val (.int (1 : Int32)), .val (.int (0 : Int32))] [(.int (0 : Int32))]))
            refine OG.of (A := T22.setTop (mkF m 231 #[.val (.long p0), .second, .val (.int p1), .val (.ref b1), .val (.int (Int32.ofNat o)), .val (.int (Int32.ofNat n)), .val (.int (1 : Int32)), .val (.int (0 : Int32))] [(.int (1 : Int32))])) (fun oT oK => ?_) ?_
            · show Steps p.tables e below (T22.setTop (mkF m 221 #[.val (.long p0), .second, .val (.int p1), .val (.ref b1), .val (.int (Int32.ofNat o)), .val (.int (Int32.ofNat n)), .val (.int (1 : Int32)), .val (.int (0 : Int32))] [(.int (0 : Int32))])) oT
              refine XS.iload X22.here hx rfl (hb hby at_221) rfl  ?_
              show Steps p.tables e below (T22.setTop (mkF m 223 #[.val (.long p0), .second, .val (.int p1), .val (.ref b1), .val (.int (Int32.ofNat o)), .val (.int (Int32.ofNat n)), .val (.int (1 : Int32)), .val (.int (0 : Int32))] [(.int (0 : Int32)), (.int (0 : Int32))])) _
              refine XS.icmpNo X22.here hx rfl (hb hby at_223) rfl (XT.ii_ne_f rfl) ?_
              show Steps p.tables e below (T22.setTop (mkF m 226 #[.val (.long p0), .second, .val (.int p1), .val (.ref b1), .val (.int (Int32.ofNat o)), .val (.int (Int32.ofNat n)), .val (.int (1 : Int32)), .val (.int (0 : Int32))] [])) _
              refine XS.iconst X22.here hx rfl (hb hby at_226) ?_
              show Steps p.tables e below (T22.setTop (mkF m 227 #[.val (.long p0), .second, .val (.int p1), .val (.ref b1), .val (.int (Int32.ofNat o)), .val (.int (Int32.ofNat n)), .val (.int (1 : Int32)), .val (.int (0 : Int32))] [(.int (1 : Int32))])) _
              refine XS.goto X22.here hx rfl (pc0 := 227) (pc' := 231) rfl (hb hby at_227) (by decide) (by decide) ?_
              exact oK
            show OG _ _ _ _ _ _ _ (T22.setTop (mkF m 231 #[.val (.long p0), .second, .val (.int p1), .val (.ref b1), .val (.int (Int32.ofNat o)), .val (.int (Int32.ofNat n)), .val (.int (1 : Int32)), .val (.int (0 : Int32))] [(.int (1 : Int32))]))
            refine OG.retN X22 hx (t := .boolean) Bd.returns (by simp) (hb hby at_231) hlk ?_ (by decide) (by decide)
            try rw [e22]
            exact ⟨rfl, N22⟩
        · refine OG.of (fun oT oK => XS.ifYes X13.here hx rfl (pc0 := 141) (pc' := 194) rfl (hb hby at_141) rfl (XT.i0_ne_t hc141_20) (by decide) (by decide) oK) ?_
          show OG _ _ _ _ _ _ _ (T13.setTop (mkF m 194 #[.val (.long p0), .second, .val (.int p1), .val (.ref b1), .val (.int (Int32.ofNat o)), .val (.int (Int32.ofNat n)), .unset, .unset] []))
          refine OG.of (A := T13.setTop (mkF m 218 #[.val (.long p0), .second, .val (.int p1), .val (.ref b1), .val (.int (Int32.ofNat o)), .val (.int (Int32.ofNat n)), .val (.int (1 : Int32)), .val (.int (0 : Int32))] [(.int (Int32.ofNat n)), (.int (Int32.ofNat o)), (.ref b1)])) (fun oT oK => ?_) ?_
          · show Steps p.tables e below (T13.setTop (mkF m 194 #[.val (.long p0), .second, .val (.int p1), .val (.ref b1), .val (.int (Int32.ofNat o)), .val (.int (Int32.ofNat n)), .unset, .unset] [])) oT
            refine XS.iconst X13.here hx rfl (hb hby at_194) ?_
            show Steps p.tables e below (T13.setTop (mkF m 195 #[.val (.long p0), .second, .val (.int p1), .val (.ref b1), .val (.int (Int32.ofNat o)), .val (.int (Int32.ofNat n)), .unset, .unset] [(.int (1 : Int32))])) _
            refine XS.goto X13.here hx rfl (pc0 := 195) (pc' := 199) rfl (hb hby at_195) (by decide) (by decide) ?_
            show Steps p.tables e below (T13.setTop (mkF m 199 #[.val (.long p0), .second, .val (.int p1), .val (.ref b1), .val (.int (Int32.ofNat o)), .val (.int (Int32.ofNat n)), .unset, .unset] [(.int (1 : Int32))])) _
            refine XS.istore X13.here hx rfl (hb hby at_199) rfl (l' := #[.val (.long p0), .second, .val (.int p1), .val (.ref b1), .val (.int (Int32.ofNat o)), .val (.int (Int32.ofNat n)), .val (.int (1 : Int32)), .unset]) rfl ?_
            show Steps p.tables e below (T13.setTop (mkF m 201 #[.val (.long p0), .second, .val (.int p1), .val (.ref b1), .val (.int (Int32.ofNat o)), .val (.int (Int32.ofNat n)), .val (.int (1 : Int32)), .unset] [])) _
            refine XS.iload X13.here hx rfl (hb hby at_201) rfl  ?_
            show Steps p.tables e below (T13.setTop (mkF m 203 #[.val (.long p0), .second, .val (.int p1), .val (.ref b1), .val (.int (Int32.ofNat o)), .val (.int (Int32.ofNat n)), .val (.int (1 : Int32)), .unset] [(.int (1 : Int32))])) _
            refine XS.ifYes X13.here hx rfl (pc0 := 203) (pc' := 210) rfl (hb hby at_203) rfl (XT.i0_ne_t (by decide)) (by decide) (by decide) ?_
            show Steps p.tables e below (T13.setTop (mkF m 210 #[.val (.long p0), .second, .val (.int p1), .val (.ref b1), .val (.int (Int32.ofNat o)), .val (.int (Int32.ofNat n)), .val (.int (1 : Int32)), .unset] [])) _
            refine XS.iconst X13.here hx rfl (hb hby at_210) ?_
            show Steps p.tables e below (T13.setTop (mkF m 211 #[.val (.long p0), .second, .val (.int p1), .val (.ref b1), .val (.int (Int32.ofNat o)), .val (.int (Int32.ofNat n)), .val (.int (1 : Int32)), .unset] [(.int (0 : Int32))])) _
            refine XS.istore X13.here hx rfl (hb hby at_211) rfl (l' := #[.val (.long p0), .second, .val (.int p1), .val (.ref b1), .val (.int (Int32.ofNat o)), .val (.int (Int32.ofNat n)), .val (.int (1 : Int32)), .val (.int (0 : Int32))]) rfl ?_
            show Steps p.tables e below (T13.setTop (mkF m 213 #[.val (.long p0), .second, .val (.int p1), .val (.ref b1), .val (.int (Int32.ofNat o)), .val (.int (Int32.ofNat n)), .val (.int (1 : Int32)), .val (.int (0 : Int32))] [])) _
            refine XS.aloadN X13.here hx rfl (hb hby at_213) rfl rfl  ?_
            show Steps p.tables e below (T13.setTop (mkF m 214 #[.val (.long p0), .second, .val (.int p1), .val (.ref b1), .val (.int (Int32.ofNat o)), .val (.int (Int32.ofNat n)), .val (.int (1 : Int32)), .val (.int (0 : Int32))] [(.ref b1)])) _
            refine XS.iload X13.here hx rfl (hb hby at_214) rfl  ?_
            show Steps p.tables e below (T13.setTop (mkF m 216 #[.val (.long p0), .second, .val (.int p1), .val (.ref b1), .val (.int (Int32.ofNat o)), .val (.int (Int32.ofNat n)), .val (.int (1 : Int32)), .val (.int (0 : Int32))] [(.int (Int32.ofNat o)), (.ref b1)])) _
            refine XS.iload X13.here hx rfl (hb hby at_216) rfl  ?_
            exact oK
          show OG _ _ _ _ _ _ _ (T13.setTop (mkF m 218 #[.val (.long p0), .second, .val (.int p1), .val (.ref b1), .val (.int (Int32.ofNat o)), .val (.int (Int32.ofNat n)), .val (.int (1 : Int32)), .val (.int (0 : Int32))] [(.int (Int32.ofNat n)), (.int (Int32.ofNat o)), (.ref b1)]))
          have f30 : ∀ j, j < 8 → ORd Z h9 b1 .byte (Int32.ofNat j) (.int ((own_f ((p0.toInt32.toInt8.toInt32).toInt8.toInt32) (((XT.ushrL p0 (8 : Int32)).toInt32.toInt8.toInt32).toInt8.toInt32) (((XT.ushrL p0 (16 : Int32)).toInt32.toInt8.toInt32).toInt8.toInt32) (((XT.ushrL p0 (24 : Int32)).toInt32.toInt8.toInt32).toInt8.toInt32) (((XT.ushrL p0 (32 : Int32)).toInt32.toInt8.toInt32).toInt8.toInt32) (((XT.ushrL p0 (40 : Int32)).toInt32.toInt8.toInt32).toInt8.toInt32) (((XT.ushrL p0 (48 : Int32)).toInt32.toInt8.toInt32).toInt8.toInt32) (((XT.ushrL p0 (56 : Int32)).toInt32.toInt8.toInt32).toInt8.toInt32)) j)) := fun j hj => by
            match j, hj with
            | 0, _ => exact own_rd V9 ⟨by decide, by decide⟩ rfl
            | 1, _ => exact own_rd V9 ⟨by decide, by decide⟩ rfl
            | 2, _ => exact own_rd V9 ⟨by decide, by decide⟩ rfl
            | 3, _ => exact own_rd V9 ⟨by decide, by decide⟩ rfl
            | 4, _ => exact own_rd V9 ⟨by decide, by decide⟩ rfl
            | 5, _ => exact own_rd V9 ⟨by decide, by decide⟩ rfl
            | 6, _ => exact own_rd V9 ⟨by decide, by decide⟩ rfl
            | 7, _ => exact own_rd V9 ⟨by decide, by decide⟩ rfl
          obtain ⟨_, _, ⟨T23, L23, k23, n23⟩, -, X23, ⟨Lc23, hQ23, l23, y23, z23⟩, st23⟩ := Jvm.LawKit.callS X13 hx (y := (⟨"com/example/vett/vett/Utf8", "isAscii", "([BII)Z"⟩ : MethodName)) hown (mvT hZ (hw _ (List.mem_of_getElem? (i := 5) rfl))) (mvT hZ (hw _ (List.mem_of_getElem? (i := 6) rfl))) (mvT hZ (hw _ (List.mem_of_getElem? (i := 7) rfl))) (mvT hZ (hw _ (List.mem_of_getElem? (i := 8) rfl))) (by decide) (backOf (W := 0) (rmA l Z a0 hw [] b1 o n (own_f ((p0.toInt32.toInt8.toInt32).toInt8.toInt32) (((XT.ushrL p0 (8 : Int32)).toInt32.toInt8.toInt32).toInt8.toInt32) (((XT.ushrL p0 (16 : Int32)).toInt32.toInt8.toInt32).toInt8.toInt32) (((XT.ushrL p0 (24 : Int32)).toInt32.toInt8.toInt32).toInt8.toInt32) (((XT.ushrL p0 (32 : Int32)).toInt32.toInt8.toInt32).toInt8.toInt32) (((XT.ushrL p0 (40 : Int32)).toInt32.toInt8.toInt32).toInt8.toInt32) (((XT.ushrL p0 (48 : Int32)).toInt32.toInt8.toInt32).toInt8.toInt32) (((XT.ushrL p0 (56 : Int32)).toInt32.toInt8.toInt32).toInt8.toInt32)) h9 n0 (Z9) hon f30) hZ (hw _ (List.mem_of_getElem? (i := 8) rfl)) (hw _ (List.mem_of_getElem? (i := 7) rfl)) (by decide) (by decide)) (g := (mkF m 218 #[.val (.long p0), .second, .val (.int p1), .val (.ref b1), .val (.int (Int32.ofNat o)), .val (.int (Int32.ofNat n)), .val (.int (1 : Int32)), .val (.int (0 : Int32))] [(.int (Int32.ofNat n)), (.int (Int32.ofNat o)), (.ref b1)])) rfl (by rw [hml]; rfl) (argsL := [(.ref b1), (.int (Int32.ofNat o)), (.int (Int32.ofNat n))]) (rest := []) (lenOf pd___BII_Z rfl) rfl (by show 2 * 0 + _ ≤ _; exact Nat.le_of_eq rfl) (hb hby at_218) (fun _ _ => ⟨rfl, e13, (by decide : 1 + 0 ≤ _), (by decide : 8 + 0 ≤ _)⟩)
          dsimp only [Pt.U, Pt.locs, Pt.cells, Pt.slots] at X23 l23 y23 z23 st23 hQ23
          subst l23 y23 z23
          obtain ⟨hv23, N23q, e23⟩ := hQ23
          obtain rfl := hv23.trans (show _ = some (.int (0 : Int32)) from congrArg (fun z => some (Value.int z)) (own_some hon 3 (by decide) hc141_20))
          have N23 := Fr.app N13 N23q
          refine OG.of st23 ?_
          show OG _ _ _ _ _ _ _ (T23.setTop (mkF m 221 #[.val (.long p0), .second, .val (.int p1), .val (.ref b1), .val (.int (Int32.ofNat o)), .val (.int (Int32.ofNat n)), .val (.int (1 : Int32)), .val (.int (0 : Int32))] [(.int (0 : Int32))]))
          refine OG.of (A := T23.setTop (mkF m 231 #[.val (.long p0), .second, .val (.int p1), .val (.ref b1), .val (.int (Int32.ofNat o)), .val (.int (Int32.ofNat n)), .val (.int (1 : Int32)), .val (.int (0 : Int32))] [(.int (1 : Int32))])) (fun oT oK => ?_) ?_
          · show Steps p.tables e below (T23.setTop (mkF m 221 #[.val (.long p0), .second, .val (.int p1), .val (.ref b1), .val (.int (Int32.ofNat o)), .val (.int (Int32.ofNat n)), .val (.int (1 : Int32)), .val (.int (0 : Int32))] [(.int (0 : Int32))])) oT
            refine XS.iload X23.here hx rfl (hb hby at_221) rfl  ?_
            show Steps p.tables e below (T23.setTop (mkF m 223 #[.val (.long p0), .second, .val (.int p1), .val (.ref b1), .val (.int (Int32.ofNat o)), .val (.int (Int32.ofNat n)), .val (.int (1 : Int32)), .val (.int (0 : Int32))] [(.int (0 : Int32)), (.int (0 : Int32))])) _
            refine XS.icmpNo X23.here hx rfl (hb hby at_223) rfl (XT.ii_ne_f rfl) ?_
            show Steps p.tables e below (T23.setTop (mkF m 226 #[.val (.long p0), .second, .val (.int p1), .val (.ref b1), .val (.int (Int32.ofNat o)), .val (.int (Int32.ofNat n)), .val (.int (1 : Int32)), .val (.int (0 : Int32))] [])) _
            refine XS.iconst X23.here hx rfl (hb hby at_226) ?_
            show Steps p.tables e below (T23.setTop (mkF m 227 #[.val (.long p0), .second, .val (.int p1), .val (.ref b1), .val (.int (Int32.ofNat o)), .val (.int (Int32.ofNat n)), .val (.int (1 : Int32)), .val (.int (0 : Int32))] [(.int (1 : Int32))])) _
            refine XS.goto X23.here hx rfl (pc0 := 227) (pc' := 231) rfl (hb hby at_227) (by decide) (by decide) ?_
            exact oK
          show OG _ _ _ _ _ _ _ (T23.setTop (mkF m 231 #[.val (.long p0), .second, .val (.int p1), .val (.ref b1), .val (.int (Int32.ofNat o)), .val (.int (Int32.ofNat n)), .val (.int (1 : Int32)), .val (.int (0 : Int32))] [(.int (1 : Int32))]))
          refine OG.retN X23 hx (t := .boolean) Bd.returns (by simp) (hb hby at_231) hlk ?_ (by decide) (by decide)
          try rw [e23]
          exact ⟨rfl, N23⟩
      · refine OG.of (fun oT oK => XS.ifYes X12.here hx rfl (pc0 := 129) (pc' := 194) rfl (hb hby at_129) rfl (XT.i0_ne_t hc129_19) (by decide) (by decide) oK) ?_
        show OG _ _ _ _ _ _ _ (T12.setTop (mkF m 194 #[.val (.long p0), .second, .val (.int p1), .val (.ref b1), .val (.int (Int32.ofNat o)), .val (.int (Int32.ofNat n)), .unset, .unset] []))
        refine OG.of (A := T12.setTop (mkF m 218 #[.val (.long p0), .second, .val (.int p1), .val (.ref b1), .val (.int (Int32.ofNat o)), .val (.int (Int32.ofNat n)), .val (.int (1 : Int32)), .val (.int (0 : Int32))] [(.int (Int32.ofNat n)), (.int (Int32.ofNat o)), (.ref b1)])) (fun oT oK => ?_) ?_
        · show Steps p.tables e below (T12.setTop (mkF m 194 #[.val (.long p0), .second, .val (.int p1), .val (.ref b1), .val (.int (Int32.ofNat o)), .val (.int (Int32.ofNat n)), .unset, .unset] [])) oT
          refine XS.iconst X12.here hx rfl (hb hby at_194) ?_
          show Steps p.tables e below (T12.setTop (mkF m 195 #[.val (.long p0), .second, .val (.int p1), .val (.ref b1), .val (.int (Int32.ofNat o)), .val (.int (Int32.ofNat n)), .unset, .unset] [(.int (1 : Int32))])) _
          refine XS.goto X12.here hx rfl (pc0 := 195) (pc' := 199) rfl (hb hby at_195) (by decide) (by decide) ?_
          show Steps p.tables e below (T12.setTop (mkF m 199 #[.val (.long p0), .second, .val (.int p1), .val (.ref b1), .val (.int (Int32.ofNat o)), .val (.int (Int32.ofNat n)), .unset, .unset] [(.int (1 : Int32))])) _
          refine XS.istore X12.here hx rfl (hb hby at_199) rfl (l' := #[.val (.long p0), .second, .val (.int p1), .val (.ref b1), .val (.int (Int32.ofNat o)), .val (.int (Int32.ofNat n)), .val (.int (1 : Int32)), .unset]) rfl ?_
          show Steps p.tables e below (T12.setTop (mkF m 201 #[.val (.long p0), .second, .val (.int p1), .val (.ref b1), .val (.int (Int32.ofNat o)), .val (.int (Int32.ofNat n)), .val (.int (1 : Int32)), .unset] [])) _
          refine XS.iload X12.here hx rfl (hb hby at_201) rfl  ?_
          show Steps p.tables e below (T12.setTop (mkF m 203 #[.val (.long p0), .second, .val (.int p1), .val (.ref b1), .val (.int (Int32.ofNat o)), .val (.int (Int32.ofNat n)), .val (.int (1 : Int32)), .unset] [(.int (1 : Int32))])) _
          refine XS.ifYes X12.here hx rfl (pc0 := 203) (pc' := 210) rfl (hb hby at_203) rfl (XT.i0_ne_t (by decide)) (by decide) (by decide) ?_
          show Steps p.tables e below (T12.setTop (mkF m 210 #[.val (.long p0), .second, .val (.int p1), .val (.ref b1), .val (.int (Int32.ofNat o)), .val (.int (Int32.ofNat n)), .val (.int (1 : Int32)), .unset] [])) _
          refine XS.iconst X12.here hx rfl (hb hby at_210) ?_
          show Steps p.tables e below (T12.setTop (mkF m 211 #[.val (.long p0), .second, .val (.int p1), .val (.ref b1), .val (.int (Int32.ofNat o)), .val (.int (Int32.ofNat n)), .val (.int (1 : Int32)), .unset] [(.int (0 : Int32))])) _
          refine XS.istore X12.here hx rfl (hb hby at_211) rfl (l' := #[.val (.long p0), .second, .val (.int p1), .val (.ref b1), .val (.int (Int32.ofNat o)), .val (.int (Int32.ofNat n)), .val (.int (1 : Int32)), .val (.int (0 : Int32))]) rfl ?_
          show Steps p.tables e below (T12.setTop (mkF m 213 #[.val (.long p0), .second, .val (.int p1), .val (.ref b1), .val (.int (Int32.ofNat o)), .val (.int (Int32.ofNat n)), .val (.int (1 : Int32)), .val (.int (0 : Int32))] [])) _
          refine XS.aloadN X12.here hx rfl (hb hby at_213) rfl rfl  ?_
          show Steps p.tables e below (T12.setTop (mkF m 214 #[.val (.long p0), .second, .val (.int p1), .val (.ref b1), .val (.int (Int32.ofNat o)), .val (.int (Int32.ofNat n)), .val (.int (1 : Int32)), .val (.int (0 : Int32))] [(.ref b1)])) _
          refine XS.iload X12.here hx rfl (hb hby at_214) rfl  ?_
          show Steps p.tables e below (T12.setTop (mkF m 216 #[.val (.long p0), .second, .val (.int p1), .val (.ref b1), .val (.int (Int32.ofNat o)), .val (.int (Int32.ofNat n)), .val (.int (1 : Int32)), .val (.int (0 : Int32))] [(.int (Int32.ofNat o)), (.ref b1)])) _
          refine XS.iload X12.here hx rfl (hb hby at_216) rfl  ?_
          exact oK
        show OG _ _ _ _ _ _ _ (T12.setTop (mkF m 218 #[.val (.long p0), .second, .val (.int p1), .val (.ref b1), .val (.int (Int32.ofNat o)), .val (.int (Int32.ofNat n)), .val (.int (1 : Int32)), .val (.int (0 : Int32))] [(.int (Int32.ofNat n)), (.int (Int32.ofNat o)), (.ref b1)]))
        have f31 : ∀ j, j < 8 → ORd Z h9 b1 .byte (Int32.ofNat j) (.int ((own_f ((p0.toInt32.toInt8.toInt32).toInt8.toInt32) (((XT.ushrL p0 (8 : Int32)).toInt32.toInt8.toInt32).toInt8.toInt32) (((XT.ushrL p0 (16 : Int32)).toInt32.toInt8.toInt32).toInt8.toInt32) (((XT.ushrL p0 (24 : Int32)).toInt32.toInt8.toInt32).toInt8.toInt32) (((XT.ushrL p0 (32 : Int32)).toInt32.toInt8.toInt32).toInt8.toInt32) (((XT.ushrL p0 (40 : Int32)).toInt32.toInt8.toInt32).toInt8.toInt32) (((XT.ushrL p0 (48 : Int32)).toInt32.toInt8.toInt32).toInt8.toInt32) (((XT.ushrL p0 (56 : Int32)).toInt32.toInt8.toInt32).toInt8.toInt32)) j)) := fun j hj => by
          match j, hj with
          | 0, _ => exact own_rd V9 ⟨by decide, by decide⟩ rfl
          | 1, _ => exact own_rd V9 ⟨by decide, by decide⟩ rfl
          | 2, _ => exact own_rd V9 ⟨by decide, by decide⟩ rfl
          | 3, _ => exact own_rd V9 ⟨by decide, by decide⟩ rfl
          | 4, _ => exact own_rd V9 ⟨by decide, by decide⟩ rfl
          | 5, _ => exact own_rd V9 ⟨by decide, by decide⟩ rfl
          | 6, _ => exact own_rd V9 ⟨by decide, by decide⟩ rfl
          | 7, _ => exact own_rd V9 ⟨by decide, by decide⟩ rfl
        obtain ⟨_, _, ⟨T24, L24, k24, n24⟩, -, X24, ⟨Lc24, hQ24, l24, y24, z24⟩, st24⟩ := Jvm.LawKit.callS X12 hx (y := (⟨"com/example/vett/vett/Utf8", "isAscii", "([BII)Z"⟩ : MethodName)) hown (mvT hZ (hw _ (List.mem_of_getElem? (i := 5) rfl))) (mvT hZ (hw _ (List.mem_of_getElem? (i := 6) rfl))) (mvT hZ (hw _ (List.mem_of_getElem? (i := 7) rfl))) (mvT hZ (hw _ (List.mem_of_getElem? (i := 8) rfl))) (by decide) (backOf (W := 0) (rmA l Z a0 hw [] b1 o n (own_f ((p0.toInt32.toInt8.toInt32).toInt8.toInt32) (((XT.ushrL p0 (8 : Int32)).toInt32.toInt8.toInt32).toInt8.toInt32) (((XT.ushrL p0 (16 : Int32)).toInt32.toInt8.toInt32).toInt8.toInt32) (((XT.ushrL p0 (24 : Int32)).toInt32.toInt8.toInt32).toInt8.toInt32) (((XT.ushrL p0 (32 : Int32)).toInt32.toInt8.toInt32).toInt8.toInt32) (((XT.ushrL p0 (40 : Int32)).toInt32.toInt8.toInt32).toInt8.toInt32) (((XT.ushrL p0 (48 : Int32)).toInt32.toInt8.toInt32).toInt8.toInt32) (((XT.ushrL p0 (56 : Int32)).toInt32.toInt8.toInt32).toInt8.toInt32)) h9 n0 (Z9) hon f31) hZ (hw _ (List.mem_of_getElem? (i := 8) rfl)) (hw _ (List.mem_of_getElem? (i := 7) rfl)) (by decide) (by decide)) (g := (mkF m 218 #[.val (.long p0), .second, .val (.int p1), .val (.ref b1), .val (.int (Int32.ofNat o)), .val (.int (Int32.ofNat n)), .val (.int (1 : Int32)), .val (.int (0 : Int32))] [(.int (Int32.ofNat n)), (.int (Int32.ofNat o)), (.ref b1)])) rfl (by rw [hml]; rfl) (argsL := [(.ref b1), (.int (Int32.ofNat o)), (.int (Int32.ofNat n))]) (rest := []) (lenOf pd___BII_Z rfl) rfl (by show 2 * 0 + _ ≤ _; exact Nat.le_of_eq rfl) (hb hby at_218) (fun _ _ => ⟨rfl, e12, (by decide : 1 + 0 ≤ _), (by decide : 8 + 0 ≤ _)⟩)
        dsimp only [Pt.U, Pt.locs, Pt.cells, Pt.slots] at X24 l24 y24 z24 st24 hQ24
        subst l24 y24 z24
        obtain ⟨hv24, N24q, e24⟩ := hQ24
        obtain rfl := hv24.trans (show _ = some (.int (0 : Int32)) from congrArg (fun z => some (Value.int z)) (own_some hon 2 (by decide) hc129_19))
        have N24 := Fr.app N12 N24q
        refine OG.of st24 ?_
        show OG _ _ _ _ _ _ _ (T24.setTop (mkF m 221 #[.val (.long p0), .second, .val (.int p1), .val (.ref b1), .val (.int (Int32.ofNat o)), .val (.int (Int32.ofNat n)), .val (.int (1 : Int32)), .val (.int (0 : Int32))] [(.int (0 : Int32))]))
        refine OG.of (A := T24.setTop (mkF m 231 #[.val (.long p0), .second, .val (.int p1), .val (.ref b1), .val (.int (Int32.ofNat o)), .val (.int (Int32.ofNat n)), .val (.int (1 : Int32)), .val (.int (0 : Int32))] [(.int (1 : Int32))])) (fun oT oK => ?_) ?_
        · show Steps p.tables e below (T24.setTop (mkF m 221 #[.val (.long p0), .second, .val (.int p1), .val (.ref b1), .val (.int (Int32.ofNat o)), .val (.int (Int32.ofNat n)), .val (.int (1 : Int32)), .val (.int (0 : Int32))] [(.int (0 : Int32))])) oT
          refine XS.iload X24.here hx rfl (hb hby at_221) rfl  ?_
          show Steps p.tables e below (T24.setTop (mkF m 223 #[.val (.long p0), .second, .val (.int p1), .val (.ref b1), .val (.int (Int32.ofNat o)), .val (.int (Int32.ofNat n)), .val (.int (1 : Int32)), .val (.int (0 : Int32))] [(.int (0 : Int32)), (.int (0 : Int32))])) _
          refine XS.icmpNo X24.here hx rfl (hb hby at_223) rfl (XT.ii_ne_f rfl) ?_
          show Steps p.tables e below (T24.setTop (mkF m 226 #[.val (.long p0), .second, .val (.int p1), .val (.ref b1), .val (.int (Int32.ofNat o)), .val (.int (Int32.ofNat n)), .val (.int (1 : Int32)), .val (.int (0 : Int32))] [])) _
          refine XS.iconst X24.here hx rfl (hb hby at_226) ?_
          show Steps p.tables e below (T24.setTop (mkF m 227 #[.val (.long p0), .second, .val (.int p1), .val (.ref b1), .val (.int (Int32.ofNat o)), .val (.int (Int32.ofNat n)), .val (.int (1 : Int32)), .val (.int (0 : Int32))] [(.int (1 : Int32))])) _
          refine XS.goto X24.here hx rfl (pc0 := 227) (pc' := 231) rfl (hb hby at_227) (by decide) (by decide) ?_
          exact oK
        show OG _ _ _ _ _ _ _ (T24.setTop (mkF m 231 #[.val (.long p0), .second, .val (.int p1), .val (.ref b1), .val (.int (Int32.ofNat o)), .val (.int (Int32.ofNat n)), .val (.int (1 : Int32)), .val (.int (0 : Int32))] [(.int (1 : Int32))]))
        refine OG.retN X24 hx (t := .boolean) Bd.returns (by simp) (hb hby at_231) hlk ?_ (by decide) (by decide)
        try rw [e24]
        exact ⟨rfl, N24⟩
    · refine OG.of (fun oT oK => XS.ifYes X11.here hx rfl (pc0 := 117) (pc' := 194) rfl (hb hby at_117) rfl (XT.i0_ne_t hc117_18) (by decide) (by decide) oK) ?_
      show OG _ _ _ _ _ _ _ (T11.setTop (mkF m 194 #[.val (.long p0), .second, .val (.int p1), .val (.ref b1), .val (.int (Int32.ofNat o)), .val (.int (Int32.ofNat n)), .unset, .unset] []))
      refine OG.of (A := T11.setTop (mkF m 218 #[.val (.long p0), .second, .val (.int p1), .val (.ref b1), .val (.int (Int32.ofNat o)), .val (.int (Int32.ofNat n)), .val (.int (1 : Int32)), .val (.int (0 : Int32))] [(.int (Int32.ofNat n)), (.int (Int32.ofNat o)), (.ref b1)])) (fun oT oK => ?_) ?_
      · show Steps p.tables e below (T11.setTop (mkF m 194 #[.val (.long p0), .second, .val (.int p1), .val (.ref b1), .val (.int (Int32.ofNat o)), .val (.int (Int32.ofNat n)), .unset, .unset] [])) oT
        refine XS.iconst X11.here hx rfl (hb hby at_194) ?_
        show Steps p.tables e below (T11.setTop (mkF m 195 #[.val (.long p0), .second, .val (.int p1), .val (.ref b1), .val (.int (Int32.ofNat o)), .val (.int (Int32.ofNat n)), .unset, .unset] [(.int (1 : Int32))])) _
        refine XS.goto X11.here hx rfl (pc0 := 195) (pc' := 199) rfl (hb hby at_195) (by decide) (by decide) ?_
        show Steps p.tables e below (T11.setTop (mkF m 199 #[.val (.long p0), .second, .val (.int p1), .val (.ref b1), .val (.int (Int32.ofNat o)), .val (.int (Int32.ofNat n)), .unset, .unset] [(.int (1 : Int32))])) _
        refine XS.istore X11.here hx rfl (hb hby at_199) rfl (l' := #[.val (.long p0), .second, .val (.int p1), .val (.ref b1), .val (.int (Int32.ofNat o)), .val (.int (Int32.ofNat n)), .val (.int (1 : Int32)), .unset]) rfl ?_
        show Steps p.tables e below (T11.setTop (mkF m 201 #[.val (.long p0), .second, .val (.int p1), .val (.ref b1), .val (.int (Int32.ofNat o)), .val (.int (Int32.ofNat n)), .val (.int (1 : Int32)), .unset] [])) _
        refine XS.iload X11.here hx rfl (hb hby at_201) rfl  ?_
        show Steps p.tables e below (T11.setTop (mkF m 203 #[.val (.long p0), .second, .val (.int p1), .val (.ref b1), .val (.int (Int32.ofNat o)), .val (.int (Int32.ofNat n)), .val (.int (1 : Int32)), .unset] [(.int (1 : Int32))])) _
        refine XS.ifYes X11.here hx rfl (pc0 := 203) (pc' := 210) rfl (hb hby at_203) rfl (XT.i0_ne_t (by decide)) (by decide) (by decide) ?_
        show Steps p.tables e below (T11.setTop (mkF m 210 #[.val (.long p0), .second, .val (.int p1), .val (.ref b1), .val (.int (Int32.ofNat o)), .val (.int (Int32.ofNat n)), .val (.int (1 : Int32)), .unset] [])) _
        refine XS.iconst X11.here hx rfl (hb hby at_210) ?_
        show Steps p.tables e below (T11.setTop (mkF m 211 #[.val (.long p0), .second, .val (.int p1), .val (.ref b1), .val (.int (Int32.ofNat o)), .val (.int (Int32.ofNat n)), .val (.int (1 : Int32)), .unset] [(.int (0 : Int32))])) _
        refine XS.istore X11.here hx rfl (hb hby at_211) rfl (l' := #[.val (.long p0), .second, .val (.int p1), .val (.ref b1), .val (.int (Int32.ofNat o)), .val (.int (Int32.ofNat n)), .val (.int (1 : Int32)), .val (.int (0 : Int32))]) rfl ?_
        show Steps p.tables e below (T11.setTop (mkF m 213 #[.val (.long p0), .second, .val (.int p1), .val (.ref b1), .val (.int (Int32.ofNat o)), .val (.int (Int32.ofNat n)), .val (.int (1 : Int32)), .val (.int (0 : Int32))] [])) _
        refine XS.aloadN X11.here hx rfl (hb hby at_213) rfl rfl  ?_
        show Steps p.tables e below (T11.setTop (mkF m 214 #[.val (.long p0), .second, .val (.int p1), .val (.ref b1), .val (.int (Int32.ofNat o)), .val (.int (Int32.ofNat n)), .val (.int (1 : Int32)), .val (.int (0 : Int32))] [(.ref b1)])) _
        refine XS.iload X11.here hx rfl (hb hby at_214) rfl  ?_
        show Steps p.tables e below (T11.setTop (mkF m 216 #[.val (.long p0), .second, .val (.int p1), .val (.ref b1), .val (.int (Int32.ofNat o)), .val (.int (Int32.ofNat n)), .val (.int (1 : Int32)), .val (.int (0 : Int32))] [(.int (Int32.ofNat o)), (.ref b1)])) _
        refine XS.iload X11.here hx rfl (hb hby at_216) rfl  ?_
        exact oK
      show OG _ _ _ _ _ _ _ (T11.setTop (mkF m 218 #[.val (.long p0), .second, .val (.int p1), .val (.ref b1), .val (.int (Int32.ofNat o)), .val (.int (Int32.ofNat n)), .val (.int (1 : Int32)), .val (.int (0 : Int32))] [(.int (Int32.ofNat n)), (.int (Int32.ofNat o)), (.ref b1)]))
      have f32 : ∀ j, j < 8 → ORd Z h9 b1 .byte (Int32.ofNat j) (.int ((own_f ((p0.toInt32.toInt8.toInt32).toInt8.toInt32) (((XT.ushrL p0 (8 : Int32)).toInt32.toInt8.toInt32).toInt8.toInt32) (((XT.ushrL p0 (16 : Int32)).toInt32.toInt8.toInt32).toInt8.toInt32) (((XT.ushrL p0 (24 : Int32)).toInt32.toInt8.toInt32).toInt8.toInt32) (((XT.ushrL p0 (32 : Int32)).toInt32.toInt8.toInt32).toInt8.toInt32) (((XT.ushrL p0 (40 : Int32)).toInt32.toInt8.toInt32).toInt8.toInt32) (((XT.ushrL p0 (48 : Int32)).toInt32.toInt8.toInt32).toInt8.toInt32) (((XT.ushrL p0 (56 : Int32)).toInt32.toInt8.toInt32).toInt8.toInt32)) j)) := fun j hj => by
        match j, hj with
        | 0, _ => exact own_rd V9 ⟨by decide, by decide⟩ rfl
        | 1, _ => exact own_rd V9 ⟨by decide, by decide⟩ rfl
        | 2, _ => exact own_rd V9 ⟨by decide, by decide⟩ rfl
        | 3, _ => exact own_rd V9 ⟨by decide, by decide⟩ rfl
        | 4, _ => exact own_rd V9 ⟨by decide, by decide⟩ rfl
        | 5, _ => exact own_rd V9 ⟨by decide, by decide⟩ rfl
        | 6, _ => exact own_rd V9 ⟨by decide, by decide⟩ rfl
        | 7, _ => exact own_rd V9 ⟨by decide, by decide⟩ rfl
      obtain ⟨_, _, ⟨T25, L25, k25, n25⟩, -, X25, ⟨Lc25, hQ25, l25, y25, z25⟩, st25⟩ := Jvm.LawKit.callS X11 hx (y := (⟨"com/example/vett/vett/Utf8", "isAscii", "([BII)Z"⟩ : MethodName)) hown (mvT hZ (hw _ (List.mem_of_getElem? (i := 5) rfl))) (mvT hZ (hw _ (List.mem_of_getElem? (i := 6) rfl))) (mvT hZ (hw _ (List.mem_of_getElem? (i := 7) rfl))) (mvT hZ (hw _ (List.mem_of_getElem? (i := 8) rfl))) (by decide) (backOf (W := 0) (rmA l Z a0 hw [] b1 o n (own_f ((p0.toInt32.toInt8.toInt32).toInt8.toInt32) (((XT.ushrL p0 (8 : Int32)).toInt32.toInt8.toInt32).toInt8.toInt32) (((XT.ushrL p0 (16 : Int32)).toInt32.toInt8.toInt32).toInt8.toInt32) (((XT.ushrL p0 (24 : Int32)).toInt32.toInt8.toInt32).toInt8.toInt32) (((XT.ushrL p0 (32 : Int32)).toInt32.toInt8.toInt32).toInt8.toInt32) (((XT.ushrL p0 (40 : Int32)).toInt32.toInt8.toInt32).toInt8.toInt32) (((XT.ushrL p0 (48 : Int32)).toInt32.toInt8.toInt32).toInt8.toInt32) (((XT.ushrL p0 (56 : Int32)).toInt32.toInt8.toInt32).toInt8.toInt32)) h9 n0 (Z9) hon f32) hZ (hw _ (List.mem_of_getElem? (i := 8) rfl)) (hw _ (List.mem_of_getElem? (i := 7) rfl)) (by decide) (by decide)) (g := (mkF m 218 #[.val (.long p0), .second, .val (.int p1), .val (.ref b1), .val (.int (Int32.ofNat o)), .val (.int (Int32.ofNat n)), .val (.int (1 : Int32)), .val (.int (0 : Int32))] [(.int (Int32.ofNat n)), (.int (Int32.ofNat o)), (.ref b1)])) rfl (by rw [hml]; rfl) (argsL := [(.ref b1), (.int (Int32.ofNat o)), (.int (Int32.ofNat n))]) (rest := []) (lenOf pd___BII_Z rfl) rfl (by show 2 * 0 + _ ≤ _; exact Nat.le_of_eq rfl) (hb hby at_218) (fun _ _ => ⟨rfl, e11, (by decide : 1 + 0 ≤ _), (by decide : 8 + 0 ≤ _)⟩)
      dsimp only [Pt.U, Pt.locs, Pt.cells, Pt.slots] at X25 l25 y25 z25 st25 hQ25
      subst l25 y25 z25
      obtain ⟨hv25, N25q, e25⟩ := hQ25
      obtain rfl := hv25.trans (show _ = some (.int (0 : Int32)) from congrArg (fun z => some (Value.int z)) (own_some hon 1 (by decide) hc117_18))
      have N25 := Fr.app N11 N25q
      refine OG.of st25 ?_
      show OG _ _ _ _ _ _ _ (T25.setTop (mkF m 221 #[.val (.long p0), .second, .val (.int p1), .val (.ref b1), .val (.int (Int32.ofNat o)), .val (.int (Int32.ofNat n)), .val (.int (1 : Int32)), .val (.int (0 : Int32))] [(.int (0 : Int32))]))
      refine OG.of (A := T25.setTop (mkF m 231 #[.val (.long p0), .second, .val (.int p1), .val (.ref b1), .val (.int (Int32.ofNat o)), .val (.int (Int32.ofNat n)), .val (.int (1 : Int32)), .val (.int (0 : Int32))] [(.int (1 : Int32))])) (fun oT oK => ?_) ?_
      · show Steps p.tables e below (T25.setTop (mkF m 221 #[.val (.long p0), .second, .val (.int p1), .val (.ref b1), .val (.int (Int32.ofNat o)), .val (.int (Int32.ofNat n)), .val (.int (1 : Int32)), .val (.int (0 : Int32))] [(.int (0 : Int32))])) oT
        refine XS.iload X25.here hx rfl (hb hby at_221) rfl  ?_
        show Steps p.tables e below (T25.setTop (mkF m 223 #[.val (.long p0), .second, .val (.int p1), .val (.ref b1), .val (.int (Int32.ofNat o)), .val (.int (Int32.ofNat n)), .val (.int (1 : Int32)), .val (.int (0 : Int32))] [(.int (0 : Int32)), (.int (0 : Int32))])) _
        refine XS.icmpNo X25.here hx rfl (hb hby at_223) rfl (XT.ii_ne_f rfl) ?_
        show Steps p.tables e below (T25.setTop (mkF m 226 #[.val (.long p0), .second, .val (.int p1), .val (.ref b1), .val (.int (Int32.ofNat o)), .val (.int (Int32.ofNat n)), .val (.int (1 : Int32)), .val (.int (0 : Int32))] [])) _
        refine XS.iconst X25.here hx rfl (hb hby at_226) ?_
        show Steps p.tables e below (T25.setTop (mkF m 227 #[.val (.long p0), .second, .val (.int p1), .val (.ref b1), .val (.int (Int32.ofNat o)), .val (.int (Int32.ofNat n)), .val (.int (1 : Int32)), .val (.int (0 : Int32))] [(.int (1 : Int32))])) _
        refine XS.goto X25.here hx rfl (pc0 := 227) (pc' := 231) rfl (hb hby at_227) (by decide) (by decide) ?_
        exact oK
      show OG _ _ _ _ _ _ _ (T25.setTop (mkF m 231 #[.val (.long p0), .second, .val (.int p1), .val (.ref b1), .val (.int (Int32.ofNat o)), .val (.int (Int32.ofNat n)), .val (.int (1 : Int32)), .val (.int (0 : Int32))] [(.int (1 : Int32))]))
      refine OG.retN X25 hx (t := .boolean) Bd.returns (by simp) (hb hby at_231) hlk ?_ (by decide) (by decide)
      try rw [e25]
      exact ⟨rfl, N25⟩
  · refine OG.of (fun oT oK => XS.ifYes X10.here hx rfl (pc0 := 105) (pc' := 194) rfl (hb hby at_105) rfl (XT.i0_ne_t hc105_17) (by decide) (by decide) oK) ?_
    show OG _ _ _ _ _ _ _ (T10.setTop (mkF m 194 #[.val (.long p0), .second, .val (.int p1), .val (.ref b1), .val (.int (Int32.ofNat o)), .val (.int (Int32.ofNat n)), .unset, .unset] []))
    refine OG.of (A := T10.setTop (mkF m 218 #[.val (.long p0), .second, .val (.int p1), .val (.ref b1), .val (.int (Int32.ofNat o)), .val (.int (Int32.ofNat n)), .val (.int (1 : Int32)), .val (.int (0 : Int32))] [(.int (Int32.ofNat n)), (.int (Int32.ofNat o)), (.ref b1)])) (fun oT oK => ?_) ?_
    · show Steps p.tables e below (T10.setTop (mkF m 194 #[.val (.long p0), .second, .val (.int p1), .val (.ref b1), .val (.int (Int32.ofNat o)), .val (.int (Int32.ofNat n)), .unset, .unset] [])) oT
      refine XS.iconst X10.here hx rfl (hb hby at_194) ?_
      show Steps p.tables e below (T10.setTop (mkF m 195 #[.val (.long p0), .second, .val (.int p1), .val (.ref b1), .val (.int (Int32.ofNat o)), .val (.int (Int32.ofNat n)), .unset, .unset] [(.int (1 : Int32))])) _
      refine XS.goto X10.here hx rfl (pc0 := 195) (pc' := 199) rfl (hb hby at_195) (by decide) (by decide) ?_
      show Steps p.tables e below (T10.setTop (mkF m 199 #[.val (.long p0), .second, .val (.int p1), .val (.ref b1), .val (.int (Int32.ofNat o)), .val (.int (Int32.ofNat n)), .unset, .unset] [(.int (1 : Int32))])) _
      refine XS.istore X10.here hx rfl (hb hby at_199) rfl (l' := #[.val (.long p0), .second, .val (.int p1), .val (.ref b1), .val (.int (Int32.ofNat o)), .val (.int (Int32.ofNat n)), .val (.int (1 : Int32)), .unset]) rfl ?_
      show Steps p.tables e below (T10.setTop (mkF m 201 #[.val (.long p0), .second, .val (.int p1), .val (.ref b1), .val (.int (Int32.ofNat o)), .val (.int (Int32.ofNat n)), .val (.int (1 : Int32)), .unset] [])) _
      refine XS.iload X10.here hx rfl (hb hby at_201) rfl  ?_
      show Steps p.tables e below (T10.setTop (mkF m 203 #[.val (.long p0), .second, .val (.int p1), .val (.ref b1), .val (.int (Int32.ofNat o)), .val (.int (Int32.ofNat n)), .val (.int (1 : Int32)), .unset] [(.int (1 : Int32))])) _
      refine XS.ifYes X10.here hx rfl (pc0 := 203) (pc' := 210) rfl (hb hby at_203) rfl (XT.i0_ne_t (by decide)) (by decide) (by decide) ?_
      show Steps p.tables e below (T10.setTop (mkF m 210 #[.val (.long p0), .second, .val (.int p1), .val (.ref b1), .val (.int (Int32.ofNat o)), .val (.int (Int32.ofNat n)), .val (.int (1 : Int32)), .unset] [])) _
      refine XS.iconst X10.here hx rfl (hb hby at_210) ?_
      show Steps p.tables e below (T10.setTop (mkF m 211 #[.val (.long p0), .second, .val (.int p1), .val (.ref b1), .val (.int (Int32.ofNat o)), .val (.int (Int32.ofNat n)), .val (.int (1 : Int32)), .unset] [(.int (0 : Int32))])) _
      refine XS.istore X10.here hx rfl (hb hby at_211) rfl (l' := #[.val (.long p0), .second, .val (.int p1), .val (.ref b1), .val (.int (Int32.ofNat o)), .val (.int (Int32.ofNat n)), .val (.int (1 : Int32)), .val (.int (0 : Int32))]) rfl ?_
      show Steps p.tables e below (T10.setTop (mkF m 213 #[.val (.long p0), .second, .val (.int p1), .val (.ref b1), .val (.int (Int32.ofNat o)), .val (.int (Int32.ofNat n)), .val (.int (1 : Int32)), .val (.int (0 : Int32))] [])) _
      refine XS.aloadN X10.here hx rfl (hb hby at_213) rfl rfl  ?_
      show Steps p.tables e below (T10.setTop (mkF m 214 #[.val (.long p0), .second, .val (.int p1), .val (.ref b1), .val (.int (Int32.ofNat o)), .val (.int (Int32.ofNat n)), .val (.int (1 : Int32)), .val (.int (0 : Int32))] [(.ref b1)])) _
      refine XS.iload X10.here hx rfl (hb hby at_214) rfl  ?_
      show Steps p.tables e below (T10.setTop (mkF m 216 #[.val (.long p0), .second, .val (.int p1), .val (.ref b1), .val (.int (Int32.ofNat o)), .val (.int (Int32.ofNat n)), .val (.int (1 : Int32)), .val (.int (0 : Int32))] [(.int (Int32.ofNat o)), (.ref b1)])) _
      refine XS.iload X10.here hx rfl (hb hby at_216) rfl  ?_
      exact oK
    show OG _ _ _ _ _ _ _ (T10.setTop (mkF m 218 #[.val (.long p0), .second, .val (.int p1), .val (.ref b1), .val (.int (Int32.ofNat o)), .val (.int (Int32.ofNat n)), .val (.int (1 : Int32)), .val (.int (0 : Int32))] [(.int (Int32.ofNat n)), (.int (Int32.ofNat o)), (.ref b1)]))
    have f33 : ∀ j, j < 8 → ORd Z h9 b1 .byte (Int32.ofNat j) (.int ((own_f ((p0.toInt32.toInt8.toInt32).toInt8.toInt32) (((XT.ushrL p0 (8 : Int32)).toInt32.toInt8.toInt32).toInt8.toInt32) (((XT.ushrL p0 (16 : Int32)).toInt32.toInt8.toInt32).toInt8.toInt32) (((XT.ushrL p0 (24 : Int32)).toInt32.toInt8.toInt32).toInt8.toInt32) (((XT.ushrL p0 (32 : Int32)).toInt32.toInt8.toInt32).toInt8.toInt32) (((XT.ushrL p0 (40 : Int32)).toInt32.toInt8.toInt32).toInt8.toInt32) (((XT.ushrL p0 (48 : Int32)).toInt32.toInt8.toInt32).toInt8.toInt32) (((XT.ushrL p0 (56 : Int32)).toInt32.toInt8.toInt32).toInt8.toInt32)) j)) := fun j hj => by
      match j, hj with
      | 0, _ => exact own_rd V9 ⟨by decide, by decide⟩ rfl
      | 1, _ => exact own_rd V9 ⟨by decide, by decide⟩ rfl
      | 2, _ => exact own_rd V9 ⟨by decide, by decide⟩ rfl
      | 3, _ => exact own_rd V9 ⟨by decide, by decide⟩ rfl
      | 4, _ => exact own_rd V9 ⟨by decide, by decide⟩ rfl
      | 5, _ => exact own_rd V9 ⟨by decide, by decide⟩ rfl
      | 6, _ => exact own_rd V9 ⟨by decide, by decide⟩ rfl
      | 7, _ => exact own_rd V9 ⟨by decide, by decide⟩ rfl
    obtain ⟨_, _, ⟨T26, L26, k26, n26⟩, -, X26, ⟨Lc26, hQ26, l26, y26, z26⟩, st26⟩ := Jvm.LawKit.callS X10 hx (y := (⟨"com/example/vett/vett/Utf8", "isAscii", "([BII)Z"⟩ : MethodName)) hown (mvT hZ (hw _ (List.mem_of_getElem? (i := 5) rfl))) (mvT hZ (hw _ (List.mem_of_getElem? (i := 6) rfl))) (mvT hZ (hw _ (List.mem_of_getElem? (i := 7) rfl))) (mvT hZ (hw _ (List.mem_of_getElem? (i := 8) rfl))) (by decide) (backOf (W := 0) (rmA l Z a0 hw [] b1 o n (own_f ((p0.toInt32.toInt8.toInt32).toInt8.toInt32) (((XT.ushrL p0 (8 : Int32)).toInt32.toInt8.toInt32).toInt8.toInt32) (((XT.ushrL p0 (16 : Int32)).toInt32.toInt8.toInt32).toInt8.toInt32) (((XT.ushrL p0 (24 : Int32)).toInt32.toInt8.toInt32).toInt8.toInt32) (((XT.ushrL p0 (32 : Int32)).toInt32.toInt8.toInt32).toInt8.toInt32) (((XT.ushrL p0 (40 : Int32)).toInt32.toInt8.toInt32).toInt8.toInt32) (((XT.ushrL p0 (48 : Int32)).toInt32.toInt8.toInt32).toInt8.toInt32) (((XT.ushrL p0 (56 : Int32)).toInt32.toInt8.toInt32).toInt8.toInt32)) h9 n0 (Z9) hon f33) hZ (hw _ (List.mem_of_getElem? (i := 8) rfl)) (hw _ (List.mem_of_getElem? (i := 7) rfl)) (by decide) (by decide)) (g := (mkF m 218 #[.val (.long p0), .second, .val (.int p1), .val (.ref b1), .val (.int (Int32.ofNat o)), .val (.int (Int32.ofNat n)), .val (.int (1 : Int32)), .val (.int (0 : Int32))] [(.int (Int32.ofNat n)), (.int (Int32.ofNat o)), (.ref b1)])) rfl (by rw [hml]; rfl) (argsL := [(.ref b1), (.int (Int32.ofNat o)), (.int (Int32.ofNat n))]) (rest := []) (lenOf pd___BII_Z rfl) rfl (by show 2 * 0 + _ ≤ _; exact Nat.le_of_eq rfl) (hb hby at_218) (fun _ _ => ⟨rfl, e10, (by decide : 1 + 0 ≤ _), (by decide : 8 + 0 ≤ _)⟩)
    dsimp only [Pt.U, Pt.locs, Pt.cells, Pt.slots] at X26 l26 y26 z26 st26 hQ26
    subst l26 y26 z26
    obtain ⟨hv26, N26q, e26⟩ := hQ26
    obtain rfl := hv26.trans (show _ = some (.int (0 : Int32)) from congrArg (fun z => some (Value.int z)) (own_some hon 0 (by decide) hc105_17))
    have N26 := Fr.app N10 N26q
    refine OG.of st26 ?_
    show OG _ _ _ _ _ _ _ (T26.setTop (mkF m 221 #[.val (.long p0), .second, .val (.int p1), .val (.ref b1), .val (.int (Int32.ofNat o)), .val (.int (Int32.ofNat n)), .val (.int (1 : Int32)), .val (.int (0 : Int32))] [(.int (0 : Int32))]))
    refine OG.of (A := T26.setTop (mkF m 231 #[.val (.long p0), .second, .val (.int p1), .val (.ref b1), .val (.int (Int32.ofNat o)), .val (.int (Int32.ofNat n)), .val (.int (1 : Int32)), .val (.int (0 : Int32))] [(.int (1 : Int32))])) (fun oT oK => ?_) ?_
    · show Steps p.tables e below (T26.setTop (mkF m 221 #[.val (.long p0), .second, .val (.int p1), .val (.ref b1), .val (.int (Int32.ofNat o)), .val (.int (Int32.ofNat n)), .val (.int (1 : Int32)), .val (.int (0 : Int32))] [(.int (0 : Int32))])) oT
      refine XS.iload X26.here hx rfl (hb hby at_221) rfl  ?_
      show Steps p.tables e below (T26.setTop (mkF m 223 #[.val (.long p0), .second, .val (.int p1), .val (.ref b1), .val (.int (Int32.ofNat o)), .val (.int (Int32.ofNat n)), .val (.int (1 : Int32)), .val (.int (0 : Int32))] [(.int (0 : Int32)), (.int (0 : Int32))])) _
      refine XS.icmpNo X26.here hx rfl (hb hby at_223) rfl (XT.ii_ne_f rfl) ?_
      show Steps p.tables e below (T26.setTop (mkF m 226 #[.val (.long p0), .second, .val (.int p1), .val (.ref b1), .val (.int (Int32.ofNat o)), .val (.int (Int32.ofNat n)), .val (.int (1 : Int32)), .val (.int (0 : Int32))] [])) _
      refine XS.iconst X26.here hx rfl (hb hby at_226) ?_
      show Steps p.tables e below (T26.setTop (mkF m 227 #[.val (.long p0), .second, .val (.int p1), .val (.ref b1), .val (.int (Int32.ofNat o)), .val (.int (Int32.ofNat n)), .val (.int (1 : Int32)), .val (.int (0 : Int32))] [(.int (1 : Int32))])) _
      refine XS.goto X26.here hx rfl (pc0 := 227) (pc' := 231) rfl (hb hby at_227) (by decide) (by decide) ?_
      exact oK
    show OG _ _ _ _ _ _ _ (T26.setTop (mkF m 231 #[.val (.long p0), .second, .val (.int p1), .val (.ref b1), .val (.int (Int32.ofNat o)), .val (.int (Int32.ofNat n)), .val (.int (1 : Int32)), .val (.int (0 : Int32))] [(.int (1 : Int32))]))
    refine OG.retN X26 hx (t := .boolean) Bd.returns (by simp) (hb hby at_231) hlk ?_ (by decide) (by decide)
    try rw [e26]
    exact ⟨rfl, N26⟩
set_option maxRecDepth 65536 in
set_option maxHeartbeats 40000000 in
theorem comes_1 {Post : Tables → Env → Array Value → State → Outcome → State → Prop} (hpost : ∀ tb e args s v u, (limb_1_1.after args s (.returned v) u = true ∧ limb_1_2.after args s (.returned v) u = true ∧ True) → FrameEnd s (.returned v) u (Jvm.fieldLocs frame_1_writes args s ++ Jvm.arrayLocs frame_1_arrays args s ++ Jvm.staticLocs frame_1_statics s) 16 128 → Post tb e args s (.returned v) u) :
    ArmFor flags0 classFile x code maxLocals ret World_1 tables_1 room_1 Calls_1 rest_1 Pre_1 Post := by
  intro l hfl _ _ p e ha hc hk s m args below hf hA hF happ hP
  obtain ⟨hcalls, hrest, hpre⟩ := hP
  obtain ⟨-, -, -, hnamed, -, -, -, hat⟩ := (Spec.applies_iff hf).mp happ
  obtain ⟨hg, hn⟩ := and_e (Cond.before_iff.mp (show (Jvm.Cond.and given_1 narrow_1).before args s = true from hpre))
  obtain ⟨g1, g2⟩ := and_e hg
  obtain ⟨g3, g4⟩ := and_e g2
  obtain ⟨w0, w1, rfl⟩ : ∃ w0 w1 : Value, args = #[w0, w1] := by
    have hs : args.size = 2 := by simpa [Cond.value, given_1] using g1
    obtain ⟨L⟩ := args
    match L, hs with
    | [w0, w1], _ => exact ⟨w0, w1, rfl⟩
  have hw := fun d (hd : d ∈ tables_1) => atoms_spec (ws := Jvm.Cond.code x code maxLocals ret :: tables_1) hat d (List.mem_cons_of_mem _ hd)
  have hfit : Fit s := fun {y c} hc i hi => by
    obtain ⟨ha, rfl⟩ := Array.getElem?_eq_some_iff.mp hc
    have q := List.all_eq_true.mp ((Array.all_eq_true_iff_forall_mem.mp hF) _ (Array.getElem_mem ha)) i (List.mem_range.mpr hi)
    simpa [Array.getElem?_eq_getElem hi] using q
  obtain ⟨i0, ei0⟩ := isL_v g3
  obtain rfl : w0 = (.long i0) := Option.some.inj ei0
  obtain ⟨i1, ei1⟩ := is_v g4
  obtain rfl : w1 = (.int i1) := Option.some.inj ei1
  obtain ⟨n, o, h1, h2, h3, _, L, rfl, ⟨rfl, N⟩, hq⟩ := rm0 l s _ hw tables_1 i0 i1 s.heap s.heap.size (Nat.le_refl _) p e ha hc hk s m _ below hf ((Spec.applies_iff_loose hf).mp happ).1 ⟨rfl, State.Warmed39.refl s, rfl⟩ trivial
  refine ⟨n, _, h1, h2, h3, hpost _ _ _ _ _ _ ⟨Cond.after_iff.mpr rfl, Cond.after_iff.mpr (eq_i res_at (Term.int_eval (1)) rfl), trivial⟩ ⟨hq.1, hq.2.1, (hq.2.2.sift fun y hy => Or.inr (N y hy)).mono (by decide) (by decide)⟩⟩
theorem main_1_1 : Claimed_1_1 := comes_1 fun _ _ _ _ _ _ h hF => ⟨h.1, hF⟩
theorem main_1_2 : Claimed_1_2 := comes_1 fun _ _ _ _ _ _ h hF => ⟨h.2.1, hF⟩
end Jvm.Pilot.@@N@@
namespace Jvm.Pilot.@@N@@
open Jvm Jvm.ClassFile Sem Op Lib Jvm.Free Jvm.Stand Jvm.Pilot.@@N@@.Jvm.D
/-! MADE BY PROGRAM (witnessworld.py) out of the Statement's table words and the real class files: 9 classes; the members and pool entries that the words name. The judged class is class 1, her method 1. -/
namespace start1
open Jvm.ClassFile
def u (s : String) : CpInfo := .utf8 (stringToUtf16 s)
/-- a pool by its gaps: so many unusable entries, then the entry; so many at the end -/
def gap : Nat → List CpInfo → List CpInfo
  | 0, r => r
  | n + 1, r => .unusable :: gap n r
def poolList (es : List (Nat × CpInfo)) (last : Nat) : List CpInfo := es.foldr (fun e r => gap e.1 (e.2 :: r)) (gap last [])
def pool (es : List (Nat × CpInfo)) (last : Nat) : Array CpInfo := ⟨poolList es last⟩
def fileOf (pool : Array CpInfo) (this : Nat) (attrs : Array Attribute := #[]) (ms : Array MethodInfo := #[]) (fl : Nat := 33) (sup : Nat := 0) (ifs : Array Nat := #[]) (fds : Array FieldInfo := #[]) : ClassFile where
  minorVersion := 0
  majorVersion := 65
  constantPool := pool
  accessFlags := fl
  thisClass := this
  superClass := sup
  interfaces := ifs
  fields := fds
  methods := ms
  attributes := attrs
def plain (name : String) (sup : Option ClassId) : Class where
  name := name
  kind := .ordinary
  loader := none
  accessFlags := 33
  super := sup
  interfaces := #[]
  cf := none
  fields := #[]
  methods := #[]
  instanceTypes := #[]
  staticTypes := #[]
  resolved := #[]
  callSites := []
  init := .initialized
  statics := none
  mirror := none

def pool0 : Array CpInfo := pool [(5, u "<init>"), (0, u "()V"), (1, .class_ 10), (1, u "java/lang/Object")] 113

def k0m0 : Method := { name := "<init>", desc := "()V", sig := { parameters := [], returnType := none }, accessFlags := 1, code := none }
/-- java/lang/Object -/
def k0 : Class := { plain "java/lang/Object" none with
  accessFlags := 33
  interfaces := #[]
  cf := some (fileOf pool0 8 #[] #[{ accessFlags := 1, nameIndex := 5, descriptorIndex := 6, attributes := #[] }] 33 0 #[] #[])
  fields := #[]
  methods := #[k0m0]
  instanceTypes := #[]
  staticTypes := #[]
  resolved := Array.replicate 124 none
  statics := none }

def pool1 : Array CpInfo := pool [(2, .class_ 4), (1, u "java/lang/Object"), (0, u "<init>"), (0, u "()V"), (0, .methodref 8 9), (0, .class_ 10), (0, .nameAndType 11 12), (0, u "com/example/vett/vett/Utf8IsAsciiPinLaw"), (0, u "neg"), (0, u "([BIII)Z"), (0, .methodref 14 15), (0, .class_ 16), (0, .nameAndType 17 18), (0, u "com/example/vett/vett/Utf8"), (0, u "isAscii"), (0, u "([BII)Z"), (2, u "law"), (0, u "(JI)Z")] 5

def k1m0 : Method := { name := "<init>", desc := "()V", sig := { parameters := [], returnType := none }, accessFlags := 1, code := none }
def k1c1 : Code := { maxStack := 5, maxLocals := 8, code := code, exceptionTable := #[], attributes := #[] }
def k1m1 : Method := { name := "law", desc := "(JI)Z", sig := { parameters := [.long, .int], returnType := some .boolean }, accessFlags := 9, code := some k1c1 }
def k1c2 : Code := { maxStack := 3, maxLocals := 4, code := method_3_code, exceptionTable := #[], attributes := #[] }
def k1m2 : Method := { name := "neg", desc := "([BIII)Z", sig := { parameters := [(.array .byte), .int, .int, .int], returnType := some .boolean }, accessFlags := 10, code := some k1c2 }
/-- com/example/vett/vett/Utf8IsAsciiPinLaw -/
def k1 : Class := { plain "com/example/vett/vett/Utf8IsAsciiPinLaw" (some 0) with
  accessFlags := 49
  interfaces := #[]
  cf := some (fileOf pool1 8 #[] #[{ accessFlags := 1, nameIndex := 5, descriptorIndex := 6, attributes := #[] }, { accessFlags := 9, nameIndex := 21, descriptorIndex := 22, attributes := #[] }, { accessFlags := 10, nameIndex := 11, descriptorIndex := 12, attributes := #[] }] 49 2 #[] #[])
  fields := #[]
  methods := #[k1m0, k1m1, k1m2]
  instanceTypes := #[]
  staticTypes := #[]
  resolved := Array.replicate 28 none
  statics := none }

def pool2 : Array CpInfo := pool [(2, .class_ 4), (1, u "java/lang/Object"), (0, u "<init>"), (0, u "()V"), (1, .class_ 10), (1, u "com/example/vett/vett/Utf8"), (0, u "isAscii"), (0, u "([BII)Z")] 60

def k2m0 : Method := { name := "<init>", desc := "()V", sig := { parameters := [], returnType := none }, accessFlags := 2, code := none }
def k2c1 : Code := { maxStack := 3, maxLocals := 4, code := prog_13_method_3_code, exceptionTable := #[], attributes := #[] }
def k2m1 : Method := { name := "isAscii", desc := "([BII)Z", sig := { parameters := [(.array .byte), .int, .int], returnType := some .boolean }, accessFlags := 8, code := some k2c1 }
/-- com/example/vett/vett/Utf8 -/
def k2 : Class := { plain "com/example/vett/vett/Utf8" (some 0) with
  accessFlags := 48
  interfaces := #[]
  cf := some (fileOf pool2 8 #[] #[{ accessFlags := 2, nameIndex := 5, descriptorIndex := 6, attributes := #[] }, { accessFlags := 8, nameIndex := 11, descriptorIndex := 12, attributes := #[] }] 48 2 #[] #[])
  fields := #[]
  methods := #[k2m0, k2m1]
  instanceTypes := #[]
  staticTypes := #[]
  resolved := Array.replicate 73 none
  statics := none }

def pool3 : Array CpInfo := pool [(1, u "java/lang/Cloneable"), (0, .class_ 1), (0, u "java/lang/Object"), (0, .class_ 3)] 3

/-- java/lang/Cloneable -/
def k3 : Class := { plain "java/lang/Cloneable" (some 0) with
  accessFlags := 1537
  interfaces := #[]
  cf := some (fileOf pool3 2 #[] #[] 1537 4 #[] #[])
  fields := #[]
  methods := #[]
  instanceTypes := #[]
  staticTypes := #[]
  resolved := Array.replicate 8 none
  statics := none }

def pool4 : Array CpInfo := pool [(1, u "java/io/Serializable"), (0, .class_ 1), (0, u "java/lang/Object"), (0, .class_ 3)] 3

/-- java/io/Serializable -/
def k4 : Class := { plain "java/io/Serializable" (some 0) with
  accessFlags := 1537
  interfaces := #[]
  cf := some (fileOf pool4 2 #[] #[] 1537 4 #[] #[])
  fields := #[]
  methods := #[]
  instanceTypes := #[]
  staticTypes := #[]
  resolved := Array.replicate 8 none
  statics := none }

/-- the primitive byte -/
def k5 : Class := { plain "byte" none with kind := .primitive 'B', accessFlags := 0x411 }
/-- [B -/
def k6 : Class := { plain "[B" (some 0) with kind := .array 5 .byte, interfaces := #[3, 4], accessFlags := 1041 }

/-- the primitive int -/
def k7 : Class := { plain "int" none with kind := .primitive 'I', accessFlags := 0x411 }
/-- [I -/
def k8 : Class := { plain "[I" (some 0) with kind := .array 7 .int, interfaces := #[3, 4], accessFlags := 1041 }

def heap : Heap := #[]
def classes : Array Class := #[k0, k1, k2, k3, k4, k5, k6, k7, k8]
def interned : List (Array UInt16 × Addr) := []
def slotsUsed : Nat := 0
def theMethod : MethodId := ⟨1, 1⟩
def args0 : Array Value := #[.long 5, .int 3]
def aboutOver (below : List Frame) : State where
  vm := { classes := classes, interned := interned.toArray }
  heap := heap
  slotsUsed := slotsUsed
  threads := #[{ frames := .invoking theMethod args0 :: below }]
def below0 : List Frame := [.native { method := ⟨0, 0⟩, args := #[] }]
def about1 : State := aboutOver below0
def p0 : Program := .bare "" "" ""
def e0 : Env := launch0.env 0 0 0
theorem w_frames : about1.frames = Frame.invoking theMethod args0 :: below0 := rfl
set_option maxRecDepth 65536 in
theorem w_args : argsFit about1.vm theMethod args0 = true := by decide +kernel
set_option maxRecDepth 65536 in
theorem w_heap : heapFits about1 = true := by decide +kernel
set_option maxRecDepth 65536 in
theorem w_runnable : about1.curStatus? = some .runnable := by decide +kernel
set_option maxRecDepth 65536 in
theorem w_alone : about1.alone = true := by decide +kernel
set_option maxRecDepth 65536 in
theorem w_named : about1.methodNamed? x = some theMethod := by decide +kernel
set_option maxRecDepth 65536 in
theorem w_hears : about1.hears theMethod below0 = true := by decide +kernel
set_option maxRecDepth 65536 in
theorem w_ripe : about1.ripe theMethod args0 below0 = true := by decide +kernel
theorem w_running : about1.status = .running := rfl
set_option maxRecDepth 65536 in
theorem w_room : about1.hasRoom e0.platform room_1 = true :=
  launch0.hasRoom_least _ room_1 (by decide +kernel) (by decide +kernel) (by decide +kernel) (by decide +kernel) (by decide +kernel) (by decide +kernel)
theorem allAtoms_all (ts : List Jvm.Cond) (a : Array Jvm.Value) (st : Jvm.State) : (allAtoms ts).before a st = ts.all (fun c => c.before a st) := by
  induction ts with
  | nil => rfl
  | cons c t ih =>
    show (Jvm.Cond.and c (allAtoms t)).before a st = _
    rw [Jvm.Cond.before_and, ih, List.all_cons]
def words1 : List Jvm.Cond := Jvm.Cond.code x code maxLocals ret :: tables_1
/-- a 'code' word, met by the world's own term for the bytes: nothing is compared byte by byte -/
theorem code_word {y : MethodName} {bytes : ByteArray} {mx : Nat} {rt : Option FieldType} {a : Array Value} {s : State} {m : MethodId} {meth : Method} {c : Code} (h1 : s.methodNamed? y = some m) (h2 : s.vm.method? m = some meth) (h3 : meth.code = some c) (h4 : c.code = bytes)
    (h5 : (c.maxLocals == mx && c.exceptionTable.isEmpty && decide (c.maxStack ≤ mostOperands) && decide (meth.sig.returnType = rt) && !meth.locks && decide (parseMethodDescriptor y.desc = some meth.sig)) = true) : (Jvm.Cond.code y bytes mx rt).before a s = true := by
  simp only [Bool.and_eq_true, beq_iff_eq, Bool.not_eq_true', decide_eq_true_eq] at h5
  obtain ⟨⟨⟨⟨⟨g1, g2⟩, g3⟩, g4⟩, g5⟩, g6⟩ := h5
  simp [Cond.before, Cond.holds, Cond.value, h1, h2, h3, h4, g1, g2, g3, g4, g5, g6]
def isCode : Jvm.Cond → Bool
  | .code _ _ _ _ => true
  | _ => false
theorem all_split {L : List Jvm.Cond} {P : Jvm.Cond → Bool} (h1 : L.all (fun c => isCode c || P c) = true) (h2 : ∀ c ∈ L.filter isCode, P c = true) : L.all P = true := by
  refine List.all_eq_true.mpr fun c hc => ?_
  have h := List.all_eq_true.mp h1 c hc
  rcases Bool.eq_false_or_eq_true (isCode c) with hi | hi
  · exact h2 c (List.mem_filter.mpr ⟨hc, hi⟩)
  · simpa [hi] using h
set_option maxRecDepth 65536 in
theorem w_c0 : (Jvm.Cond.code x code maxLocals ret).before args0 about1 = true := code_word (m := ⟨1, 1⟩) (meth := k1m1) (c := k1c1) (by decide +kernel) rfl rfl rfl (by decide +kernel)
set_option maxRecDepth 65536 in
theorem w_c1 : (Jvm.Cond.code ({ cls := "com/example/vett/vett/Utf8IsAsciiPinLaw", name := "neg", desc := "([BIII)Z" } : Jvm.MethodName) method_3_code (4 : Nat) (Option.some Jvm.ClassFile.FieldType.boolean)).before args0 about1 = true := code_word (m := ⟨1, 2⟩) (meth := k1m2) (c := k1c2) (by decide +kernel) rfl rfl rfl (by decide +kernel)
set_option maxRecDepth 65536 in
theorem w_c2 : (Jvm.Cond.code ({ cls := "com/example/vett/vett/Utf8", name := "isAscii", desc := "([BII)Z" } : Jvm.MethodName) prog_13_method_3_code (4 : Nat) (Option.some Jvm.ClassFile.FieldType.boolean)).before args0 about1 = true := code_word (m := ⟨2, 1⟩) (meth := k2m1) (c := k2c1) (by decide +kernel) rfl rfl rfl (by decide +kernel)
def codes1 : List Jvm.Cond := [Jvm.Cond.code x code maxLocals ret, Jvm.Cond.code ({ cls := "com/example/vett/vett/Utf8IsAsciiPinLaw", name := "neg", desc := "([BIII)Z" } : Jvm.MethodName) method_3_code (4 : Nat) (Option.some Jvm.ClassFile.FieldType.boolean), Jvm.Cond.code ({ cls := "com/example/vett/vett/Utf8", name := "isAscii", desc := "([BII)Z" } : Jvm.MethodName) prog_13_method_3_code (4 : Nat) (Option.some Jvm.ClassFile.FieldType.boolean)]
set_option maxRecDepth 65536 in
theorem codes_eq : words1.filter isCode = codes1 := rfl
theorem w_codes : ∀ c ∈ words1.filter isCode, c.before args0 about1 = true := by
  rw [codes_eq]
  intro c hc
  simp only [codes1, List.mem_cons, List.not_mem_nil, or_false] at hc
  rcases hc with rfl | rfl | rfl
  · exact w_c0
  · exact w_c1
  · exact w_c2
set_option maxRecDepth 65536 in
theorem w_t1 : words1.all (fun c => isCode c || c.before args0 about1) = true := by decide +kernel
theorem w_tables : (allAtoms (Jvm.Cond.code x code maxLocals ret :: tables_1)).before args0 about1 = true := by
  rw [allAtoms_all]
  show words1.all (fun c => c.before args0 about1) = true
  refine all_split ?_ w_codes
  rw [w_t1]
set_option maxRecDepth 65536 in
theorem w_case : (Jvm.Cond.and given_1 narrow_1).before args0 about1 = true := by decide +kernel
theorem w_applies : (headSpec (Jvm.Cond.code x code maxLocals ret :: tables_1) room_1).applies x e0.platform about1 = true :=
  (Spec.applies_iff w_frames).mpr ⟨w_running, w_runnable, w_alone, w_named, w_hears, w_ripe, w_room, w_tables⟩
theorem atStart : AtStart classFile x code maxLocals ret World_1 tables_1 room_1 Calls_1 rest_1 Pre_1 launch0 p0 e0 about1 theMethod args0 below0 :=
  ⟨lists_1, trivial, launch0.admits_env _ _ _, launch0.least_env, fairChoices_fair.cas, fairChoices_fair.clock, w_frames, w_args, w_heap, w_applies, trivial, trivial, w_case⟩
end start1
theorem witness_1 : WitnessClaimed_1 := ⟨start1.p0, start1.e0, start1.about1, start1.theMethod, start1.args0, start1.below0, start1.atStart⟩
end Jvm.Pilot.@@N@@
