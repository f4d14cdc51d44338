import JvmDerived
import JvmDerived.Pilot.@@N@@Statement
import JvmDerived.Pilot.@@N@@Code
set_option linter.unusedVariables false
set_option linter.unusedSimpArgs false
namespace Jvm.Pilot.@@N@@
open Jvm Jvm.ClassFile Sem Op Lib Jvm.Free Jvm.Stand Jvm.LawKit Jvm.RoadKit Bundle Jvm.Pilot.@@N@@.Jvm.D
section Own
variable {p : Program} {l : Launch} {e : Env} {R : Room} {s : State} {m : MethodId} {args : Array Value} {below : List Frame} {meth : Method} {c : Code} {T : State} {locs : List Loc} {cells slots : Nat} {k n : Nat} {P : Option Value → Heap → List Loc → Prop} {A B : State}
/-- from S0 the run comes to a return with what P says -/
def OG (p : Program) (e : Env) (below : List Frame) (s : State) (k n : Nat) (P : Option Value → Heap → List Loc → Prop) (S0 : State) : Prop :=
  ∃ s₂ o, Steps p.tables e below S0 s₂ ∧ s₂.status = .running ∧ Ended s₂ below o ∧ ∃ v L, o = .returned v ∧ P v s₂.heap L ∧ FrameEnd s o s₂ L k n
theorem OG.trans (h : Steps p.tables e below B A) (g : OG p e below s k n P A) : OG p e below s k n P B := by
  obtain ⟨s₂, o, h1, r⟩ := g
  exact ⟨s₂, o, h.trans h1, r⟩
theorem OG.of (h : ∀ t, Steps p.tables e below A t → Steps p.tables e below B t) (g : OG p e below s k n P A) : OG p e below s k n P B := by
  obtain ⟨s₂, o, h1, r⟩ := g
  exact ⟨s₂, o, h _ h1, r⟩
theorem OG.retN (X : Stand p l e R s m args below meth c T locs cells slots) (hx : p.tables.exec = Jvm.exec) {pc : Nat} {Ls : Array Slot} {z : Int32} {t : FieldType} {rest : List Value} (hret : meth.sig.returnType = some t) (ht : t = .boolean ∨ t = .byte ∨ t = .char ∨ t = .short) (hd : decode c.code pc = .ok (.ireturn, 1)) (hlk : meth.locks = false)
    (hP : P (some (.int (nar t z))) T.heap locs) (hc : cells ≤ k) (hs : slots ≤ n) : OG p e below s k n P (T.setTop (mkF m pc Ls (.int z :: rest))) := by
  obtain ⟨fs, hr, hrun, hended, hW, hsame⟩ := X.leave (v := some (.int (nar t z))) (fun h => by rw [hret] at h; cases h) hlk
  exact ⟨_, _, Jvm.RoadKit.retN X hx hret ht hd hr, hrun, hended, _, _, rfl, hP, ⟨_, rfl⟩, hW, hsame.mono hc hs⟩
theorem OG.retI (X : Stand p l e R s m args below meth c T locs cells slots) (hx : p.tables.exec = Jvm.exec) {pc : Nat} {Ls : Array Slot} {z : Int32} {rest : List Value} (hret : meth.sig.returnType = some .int) (hd : decode c.code pc = .ok (.ireturn, 1)) (hlk : meth.locks = false)
    (hP : P (some (.int z)) T.heap locs) (hc : cells ≤ k) (hs : slots ≤ n) : OG p e below s k n P (T.setTop (mkF m pc Ls (.int z :: rest))) := by
  obtain ⟨fs, hr, hrun, hended, hW, hsame⟩ := X.leave (v := some (.int z)) (fun h => by rw [hret] at h; cases h) hlk
  exact ⟨_, _, retOut X hx hret rfl (Or.inl ⟨rfl, Or.inl rfl, _, rfl⟩) hd hr, hrun, hended, _, _, rfl, hP, ⟨_, rfl⟩, hW, hsame.mono hc hs⟩
theorem OG.retJ (X : Stand p l e R s m args below meth c T locs cells slots) (hx : p.tables.exec = Jvm.exec) {pc : Nat} {Ls : Array Slot} {z : Int64} {rest : List Value} (hret : meth.sig.returnType = some .long) (hd : decode c.code pc = .ok (.lreturn, 1)) (hlk : meth.locks = false)
    (hP : P (some (.long z)) T.heap locs) (hc : cells ≤ k) (hs : slots ≤ n) : OG p e below s k n P (T.setTop (mkF m pc Ls (.long z :: rest))) := by
  obtain ⟨fs, hr, hrun, hended, hW, hsame⟩ := X.leave (v := some (.long z)) (fun h => by rw [hret] at h; cases h) hlk
  exact ⟨_, _, retOut X hx hret rfl (Or.inr (Or.inl ⟨rfl, rfl, _, rfl⟩)) hd hr, hrun, hended, _, _, rfl, hP, ⟨_, rfl⟩, hW, hsame.mono hc hs⟩
theorem OG.retA (X : Stand p l e R s m args below meth c T locs cells slots) (hx : p.tables.exec = Jvm.exec) {pc : Nat} {Ls : Array Slot} {w : Value} {t : FieldType} {rest : List Value} (hret : meth.sig.returnType = some t) (ht : t.isReference = true) (hw : w.isRef = true) (hd : decode c.code pc = .ok (.areturn, 1)) (hlk : meth.locks = false)
    (hP : P (some w) T.heap locs) (hc : cells ≤ k) (hs : slots ≤ n) : OG p e below s k n P (T.setTop (mkF m pc Ls (w :: rest))) := by
  obtain ⟨fs, hr, hrun, hended, hW, hsame⟩ := X.leave (v := some w) (fun h => by rw [hret] at h; cases h) hlk
  have hn : narrow t w = w := by cases t <;> first | (cases ht; done) | rfl
  exact ⟨_, _, retOut X hx hret hn (Or.inr (Or.inr (Or.inr (Or.inr ⟨rfl, ht, hw⟩)))) hd hr, hrun, hended, _, _, rfl, hP, ⟨_, rfl⟩, hW, hsame.mono hc hs⟩
theorem OG.retV (X : Stand p l e R s m args below meth c T locs cells slots) (hx : p.tables.exec = Jvm.exec) {pc : Nat} {Ls : Array Slot} (hret : meth.sig.returnType = none) (hd : decode c.code pc = .ok (.return_, 1)) (hlk : meth.locks = false)
    (hP : P none T.heap locs) (hc : cells ≤ k) (hs : slots ≤ n) : OG p e below s k n P (T.setTop (mkF m pc Ls [])) := by
  obtain ⟨fs, hr, hrun, hended, hW, hsame⟩ := X.leave (v := none) (fun _ => rfl) hlk
  exact ⟨_, _, X.returnOut hx hret hd hr, hrun, hended, _, _, rfl, hP, ⟨_, rfl⟩, hW, hsame.mono hc hs⟩
theorem own_catI (x : Int32) : (Value.int x).category = 1 := rfl
theorem own_catJ (x : Int64) : (Value.long x).category = 2 := rfl
theorem own_catR (x : Addr) : (Value.ref x).category = 1 := rfl
theorem own_catN : Value.null.category = 1 := rfl
theorem own_narB {z : Int32} (h : z = 0 ∨ z = 1) : nar .boolean z = z := by rcases h with rfl | rfl <;> rfl
theorem own_ite01 {c : Prop} [Decidable c] : (if c then (1 : Int32) else 0) = 0 ∨ (if c then (1 : Int32) else 0) = 1 := by by_cases h : c <;> simp [h]
theorem own_eqI {args : Array Value} {first st : State} {o : Option Outcome} {idx : List Nat} {t : Term} {x : Int32} (h : (Jvm.Cond.eq t (.int x)).value args first o st idx = some true) : t.eval args first o idx st = some (.int x) := by
  obtain ⟨a, b, ha, hb, k1, k2⟩ := cmp_v (Or.inl h)
  obtain rfl : Value.int x = b := Option.some.inj hb
  obtain ⟨z, rfl⟩ := k2
  have hz := gotT (P := z = x) (by simp [Cond.value, ha, hb]) h
  rw [ha, hz]
/-- the array at a (of the kind ty) holds v at the place j -/
def ORd (Z : State) (h : Heap) (a : Addr) (ty : FieldType) (j : Int32) (v : Value) : Prop := ∃ cl : Cell, Arr Z h a cl ty ∧ ¬ (j < 0 ∨ cl.slots.size ≤ j.toNatClampNeg) ∧ cl.slots[j.toNatClampNeg]? = some v
theorem own_rd {Z : State} {h : Heap} {a : Addr} {kc : ClassId} {ty : FieldType} {z j : Int32} {vs : List Value} {d v : Value} (F : Arv Z h a kc ty z vs d) (hj : ¬ j < 0 ∧ j < z) (hv : vs.getD j.toNatClampNeg d = v) : ORd Z h a ty j v := by
  obtain ⟨cl, A, -, S, -, H, -⟩ := F
  exact ⟨cl, A, inb_of S hj, H.at (inb_of S hj) hv⟩
theorem ORd.ext {Z : State} {h h' : Heap} {a : Addr} {ty : FieldType} {j : Int32} {v : Value} (F : ORd Z h a ty j v) (E : Ext h h') : ORd Z h' a ty j v := by
  obtain ⟨cl, A, r⟩ := F; exact ⟨cl, A.ext E, r⟩
theorem ORd.other {Z : State} {h h' : Heap} {a b : Addr} {ty : FieldType} {j : Int32} {v w : Value} {sl : Nat} (F : ORd Z h a ty j v) (W : Wr h h' b sl w) (q : a ≠ b) : ORd Z h' a ty j v := by
  obtain ⟨cl, A, r⟩ := F; exact ⟨cl, A.other W q, r⟩
theorem ORd.keep {Z : State} {h h' : Heap} {a : Addr} {ty : FieldType} {j : Int32} {v : Value} {ws : List Addr} (F : ORd Z h a ty j v) (K : Keep h h' ws) (q : a ∉ ws) : ORd Z h' a ty j v := by
  obtain ⟨cl, A, r⟩ := F; exact ⟨cl, ⟨K.2.1 a cl A.1 q, A.2⟩, r⟩
theorem ORd.lt {Z : State} {h : Heap} {a : Addr} {ty : FieldType} {j : Int32} {v : Value} (F : ORd Z h a ty j v) : a < h.size := by
  obtain ⟨cl, A, r⟩ := F; exact A.lt
theorem ORd.start {Z : State} {args : Array Value} {t : Term} {a : Addr} {ty : FieldType} {j : Int32} {v : Value} (ev : t.eval args Z none [] Z = some (.ref a)) (hx : (Jvm.Cond.arrayOf t ty).value args Z none Z [] = some true) (hj : ¬ j < 0) (he : (Term.elem t (.int j)).eval args Z none [] Z = some v) : ORd Z Z.heap a ty j v := by
  obtain ⟨c, A⟩ := Arr.start ev hx
  have hA : Z.arrayAt? a = some c := Arr.fin (Vm.Alike.refl _) A
  rw [elem_f ev (Term.int_eval j) hA hj] at he
  exact ⟨c, A, fun q => q.elim hj fun q => (by rw [Array.getElem?_eq_none q] at he; cases he), he⟩
end Own


def own_ord (j : Nat) : Int32 := match j with | 0 => 0 | 1 => 1 | 2 => 2 | 3 => 3 | 4 => 4 | 5 => 5 | 6 => 6 | 7 => 7 | 8 => 8 | 9 => 9 | 10 => 10 | 11 => 11 | 12 => 12 | 13 => 13 | _ => (-1)
theorem own_ord_inj : ∀ i, i < 14 → ∀ j, j < 14 → own_ord i = own_ord j → i = j := by decide +kernel

def own_ix (k0 : Int32) : Nat :=
  if k0 = (0 : Int32) then
    (0)
  else
    if k0 = (1 : Int32) then
      (1)
    else
      if k0 = (2 : Int32) then
        (2)
      else
        if k0 = (3 : Int32) then
          (3)
        else
          if k0 = (4 : Int32) then
            (4)
          else
            if k0 = (5 : Int32) then
              (5)
            else
              if k0 = (6 : Int32) then
                (6)
              else
                if k0 = (7 : Int32) then
                  (7)
                else
                  if k0 = (8 : Int32) then
                    (8)
                  else
                    if k0 = (9 : Int32) then
                      (9)
                    else
                      if k0 = (10 : Int32) then
                        (10)
                      else
                        if k0 = (11 : Int32) then
                          (11)
                        else
                          if k0 = (12 : Int32) then
                            (12)
                          else
                            (13)
def own_same (pa pb : Addr) (sa sb : Int32) : Int32 :=
  if (Value.ref pa) = (Value.ref pb) then
    if sa = sb then
      (1 : Int32)
    else
      (0 : Int32)
  else
    (0 : Int32)
end Jvm.Pilot.@@N@@
/- laws to paste: Road.backV (cut by pick.py; bodies as the Statement names them) -/
namespace Jvm.Pilot.@@N@@
namespace StrChars
open Jvm Sem ClassFile Op Lib Jvm.Stand Jvm.Free.XT Jvm.Free.ALB Jvm.Free.JM Jvm.Free
open Jvm.Lib.Cold (StaticIs)
/-- a char array whose places are chars -/
def Ch (a : Addr) (A : Cell) (U : State) : Prop := Arr .char a A U ∧ Typed .char A
theorem Ch.mv {a : Addr} {A : Cell} {U U' : State} (h : Ch a A U) (hal : U.vm.Alike U'.vm) (hh : U'.heap = U.heap) : Ch a A U' := ⟨h.1.mv hal hh, h.2⟩
theorem Ch.keep {a : Addr} {A : Cell} {U U' : State} (h : Ch a A U) (hal : U.vm.Alike U'.vm) (hk : U'.heap[a]? = some A) : Ch a A U' := ⟨h.1.keep hal hk, h.2⟩
/-- what place i of a char[]'s cell holds -/
def cv (A : Cell) (i : Nat) : Int32 := match A.slots[i]? with | some (.int x) => x | _ => 0
theorem Ch.get {a : Addr} {A : Cell} {U : State} (h : Ch a A U) {i : Nat} (hi : i < A.slots.size) : A.slots[i]? = some (.int (cv A i)) := by
  have e := Array.getElem?_eq_getElem hi
  have f := h.2 i _ e
  unfold cv; rw [e]
  generalize A.slots[i] = v at f
  cases v <;> simp [fits] at f ⊢
/-- the byte that i2b leaves of a char -/
def lo8 (x : Int32) : Int32 := x.toInt8.toInt32
theorem fits_lo8 (y : Int32) : fits .byte (.int (lo8 y)) = true := by
  have h1 := y.toInt8.le_toInt
  have h2 := y.toInt8.toInt_lt
  simp only [lo8, fits, Bool.and_eq_true, decide_eq_true_eq, Int32.le_iff_toInt_le, Int8.toInt_toInt32, show (-128 : Int32).toInt = -128 from by decide, show (127 : Int32).toInt = 127 from by decide]
  omega
/-- A' is A but that each place j of lo .. hi - 1 holds f j -/
def Laid (A A' : Cell) (lo hi : Nat) (f : Nat → Value) : Prop := A'.cls = A.cls ∧ A'.vm = A.vm ∧ A'.slots.size = A.slots.size ∧ ∀ i, A'.slots[i]? = if lo ≤ i ∧ i < hi then some (f i) else A.slots[i]?
theorem Laid.zero (A : Cell) (lo : Nat) (f : Nat → Value) : Laid A A lo (lo + 0) f := ⟨rfl, rfl, rfl, fun i => by rw [if_neg (by omega)]⟩
theorem Laid.step {A Ak : Cell} {lo k : Nat} {f : Nat → Value} {v : Value} (h : Laid A Ak lo k f) (hlo : lo ≤ k) (hk : k < Ak.slots.size) (hv : v = f k) : Laid A (Ak.setSlot k v) lo (k + 1) f := by
  refine ⟨h.1, h.2.1, by simpa [Cell.setSlot] using h.2.2.1, fun i => ?_⟩
  by_cases e : k = i
  · subst e; rw [Cell.slots_setSlot_self v hk, if_pos (by omega), hv]
  · rw [Cell.slots_setSlot_ne v e, h.2.2.2 i]
    by_cases q : lo ≤ i ∧ i < k
    · rw [if_pos q, if_pos (by omega)]
    · rw [if_neg q, if_neg (by omega)]
def U16 : String := "java/lang/StringUTF16"
namespace Cmp5
def yN : MethodName := ⟨"java/lang/StringUTF16", "compress", "([CI[BII)I"⟩
abbrev yB : ByteArray := jdk_52_method_21_code
theorem d0 : decode yB 0 = .ok (.iconst 0, 1) := by decide +kernel
theorem d1 : decode yB 1 = .ok (.istore 5, 2) := by decide +kernel
theorem d3 : decode yB 3 = .ok (.iload 5, 2) := by decide +kernel
theorem d5 : decode yB 5 = .ok (.iload 4, 2) := by decide +kernel
theorem d7 : decode yB 7 = .ok (.if_icmp (.ge) 37, 3) := by decide +kernel
theorem d10 : decode yB 10 = .ok (.aload_n 0, 1) := by decide +kernel
theorem d11 : decode yB 11 = .ok (.iload_n 1, 1) := by decide +kernel
theorem d12 : decode yB 12 = .ok (.caload, 1) := by decide +kernel
theorem d13 : decode yB 13 = .ok (.istore 6, 2) := by decide +kernel
theorem d15 : decode yB 15 = .ok (.iload 6, 2) := by decide +kernel
theorem d17 : decode yB 17 = .ok (.sipush 255, 3) := by decide +kernel
theorem d20 : decode yB 20 = .ok (.if_icmp (.le) 6, 3) := by decide +kernel
theorem d26 : decode yB 26 = .ok (.aload_n 2, 1) := by decide +kernel
theorem d27 : decode yB 27 = .ok (.iload_n 3, 1) := by decide +kernel
theorem d28 : decode yB 28 = .ok (.iload 6, 2) := by decide +kernel
theorem d30 : decode yB 30 = .ok (.i2b, 1) := by decide +kernel
theorem d31 : decode yB 31 = .ok (.bastore, 1) := by decide +kernel
theorem d32 : decode yB 32 = .ok (.iinc 1 1, 3) := by decide +kernel
theorem d35 : decode yB 35 = .ok (.iinc 3 1, 3) := by decide +kernel
theorem d38 : decode yB 38 = .ok (.iinc 5 1, 3) := by decide +kernel
theorem d41 : decode yB 41 = .ok (.goto (-38), 3) := by decide +kernel
theorem d44 : decode yB 44 = .ok (.iload 4, 2) := by decide +kernel
theorem d46 : decode yB 46 = .ok (.ireturn, 1) := by decide +kernel
def site : List Cond := []
def tab : Cond := tabOf yN yB 7 (some .int) site
def P (b : Addr) (A : Cell) (d : Addr) (B : Cell) (o q len : Nat) (args : Array Value) (s : State) : Prop := args = #[.ref b, .int (Int32.ofNat o), .ref d, .int (Int32.ofNat q), .int (Int32.ofNat len)] ∧ Ch b A s ∧ Arr .byte d B s ∧ b ≠ d ∧ o + len ≤ A.slots.size ∧ q + len ≤ B.slots.size ∧ ∀ i, i < len → ¬ 255 < cv A (o + i)
def E (b : Addr) (A : Cell) (d : Addr) (B : Cell) (o q len : Nat) (r : Option Value) (s u : State) : Prop := r = some (.int (Int32.ofNat len)) ∧ ∃ B', Put d B' s u ∧ Laid B B' q (q + len) (fun j => Value.int (lo8 (cv A (o + (j - q)))))
/-- no char of the range above 255: len; the places written hold each char's low byte -/
theorem law (l : Launch) (b : Addr) (A : Cell) (d : Addr) (B : Cell) (o q len : Nat) : Law l yN 5 5 0 0 yB 7 (some .int) site (P b A d B o q len) (E b A d B o q len) (copyLocs d q len) 0 0 := by
  refine Law.of_walk (plainFor_of_name (by decide +kernel)) (by decide +kernel) (by decide +kernel) (by decide) (fun _ _ h => by rw [h.1]; rfl) (fun _ U U' hal hh h => ⟨h.1, h.2.1.mv hal hh, h.2.2.1.mv hal hh, h.2.2.2⟩) (fun r U U' V V' h1 hal h2 h => ⟨h.1, h.2.elim fun B' q => ⟨B', q.1.mv h1 h2, q.2⟩⟩) ?_
  intro p e s m args below meth c s₁ X0 hexec hbytes hml hret hlk hnm hown hh0 W hP
  obtain ⟨rfl, hA, hB, hne, l1, l2, hp⟩ := hP
  have c1 : Steps p.tables e below (s₁.setTop (entryFrame m #[.ref b, .int (Int32.ofNat o), .ref d, .int (Int32.ofNat q), .int (Int32.ofNat len)] 7)) (s₁.setTop (mkF m 0 #[.val (.ref b), .val (.int (Int32.ofNat o)), .val (.ref d), .val (.int (Int32.ofNat q)), .val (.int (Int32.ofNat len)), .unset, .unset] [])) := entry rfl
  have hA0 := hA.1.mv X0.warmed.alike hh0
  have hB0 := hB.mv X0.warmed.alike hh0
  have a31 := hA.1.2.2.2
  have c2 : Steps p.tables e below (s₁.setTop (entryFrame m #[.ref b, .int (Int32.ofNat o), .ref d, .int (Int32.ofNat q), .int (Int32.ofNat len)] 7)) (s₁.setTop (mkF m 3 #[.val (.ref b), .val (.int (Int32.ofNat o)), .val (.ref d), .val (.int (Int32.ofNat q)), .val (.int (Int32.ofNat len)), .val (.int 0), .unset] [])) := c1.trans (by
    refine iconstV X0.here hexec rfl 0 (hb hbytes d0) (by decide) ?_
    refine XS.istore X0.here hexec rfl (hb hbytes d1) rfl rfl ?_
    exact Steps.refl _)
  have loop : ∀ (r i : Nat), i + r = len → ∀ (z : Slot), (z = .unset ∨ ∃ w, z = .val w ∧ w.category = 1) → ∀ (Tl : State) (Bk : Cell), Stand p l e { frames := 0, locals := 0, cells := 0, slots := 0 } s m #[.ref b, .int (Int32.ofNat o), .ref d, .int (Int32.ofNat q), .int (Int32.ofNat len)] below meth c Tl ([] ++ copyLocs d q i) 0 0 → Put d Bk s₁ Tl → Laid B Bk q (q + i) (fun j => Value.int (lo8 (cv A (o + (j - q))))) →
      Steps p.tables e below (s₁.setTop (entryFrame m #[.ref b, .int (Int32.ofNat o), .ref d, .int (Int32.ofNat q), .int (Int32.ofNat len)] 7)) (Tl.setTop (mkF m 3 #[.val (.ref b), .val (.int (Int32.ofNat (o + i))), .val (.ref d), .val (.int (Int32.ofNat (q + i))), .val (.int (Int32.ofNat len)), .val (.int (Int32.ofNat i)), z] [])) → ∃ (T' : State) (B' : Cell) (z' : Slot), Stand p l e { frames := 0, locals := 0, cells := 0, slots := 0 } s m #[.ref b, .int (Int32.ofNat o), .ref d, .int (Int32.ofNat q), .int (Int32.ofNat len)] below meth c T' ([] ++ copyLocs d q len) 0 0 ∧ Put d B' s₁ T' ∧ Laid B B' q (q + len) (fun j => Value.int (lo8 (cv A (o + (j - q))))) ∧
      Steps p.tables e below (s₁.setTop (entryFrame m #[.ref b, .int (Int32.ofNat o), .ref d, .int (Int32.ofNat q), .int (Int32.ofNat len)] 7)) (T'.setTop (mkF m 3 #[.val (.ref b), .val (.int (Int32.ofNat (o + len))), .val (.ref d), .val (.int (Int32.ofNat (q + len))), .val (.int (Int32.ofNat len)), .val (.int (Int32.ofNat len)), z'] [])) := by
    intro r
    induction r with
    | zero =>
      intro i hi z hz Tl Bk Xl pl fl cl
      have hil : i = len := by omega
      rw [hil] at Xl fl cl
      exact ⟨Tl, Bk, z, Xl, pl, fl, cl⟩
    | succ r ih =>
      intro i hi z hz Tl Bk Xl pl fl cl
      have all := X0.warmed.alike.symm.trans Xl.warmed.alike
      have hAl := hA0.keep all (pl.other hne hA0.1)
      have hBk := hB0.like all pl.1 fl.1 fl.2.1 fl.2.2.1
      have hlt : q + i < Bk.slots.size := by rw [fl.2.2.1]; omega
      have c3 : Steps p.tables e below (s₁.setTop (entryFrame m #[.ref b, .int (Int32.ofNat o), .ref d, .int (Int32.ofNat q), .int (Int32.ofNat len)] 7)) (Tl.setTop (mkF m 12 #[.val (.ref b), .val (.int (Int32.ofNat (o + i))), .val (.ref d), .val (.int (Int32.ofNat (q + i))), .val (.int (Int32.ofNat len)), .val (.int (Int32.ofNat i)), z] [.int (Int32.ofNat (o + i)), .ref b])) := cl.trans (by
        refine XS.iload Xl.here hexec rfl (hb hbytes d3) rfl ?_
        refine XS.iload Xl.here hexec rfl (hb hbytes d5) rfl ?_
        refine XS.icmpNo Xl.here hexec rfl (hb hbytes d7) rfl (ii_ge_f (lt32 (by omega) (by omega))) ?_
        refine XS.aloadN Xl.here hexec rfl (hb hbytes d10) rfl rfl ?_
        refine XS.iloadN Xl.here hexec rfl (hb hbytes d11) rfl ?_
        exact Steps.refl _)
      have c4 : Steps p.tables e below (s₁.setTop (entryFrame m #[.ref b, .int (Int32.ofNat o), .ref d, .int (Int32.ofNat q), .int (Int32.ofNat len)] 7)) (Tl.setTop (mkF m 13 #[.val (.ref b), .val (.int (Int32.ofNat (o + i))), .val (.ref d), .val (.int (Int32.ofNat (q + i))), .val (.int (Int32.ofNat len)), .val (.int (Int32.ofNat i)), z] [.int (cv A (o + i))])) := c3.trans (by
        refine Xl.aget hexec hAl rfl (hA.get (i := o + i) (by omega)) rfl rfl (hb hbytes d12) ?_
        exact Steps.refl _)
      have c5 : Steps p.tables e below (s₁.setTop (entryFrame m #[.ref b, .int (Int32.ofNat o), .ref d, .int (Int32.ofNat q), .int (Int32.ofNat len)] 7)) (Tl.setTop (mkF m 15 #[.val (.ref b), .val (.int (Int32.ofNat (o + i))), .val (.ref d), .val (.int (Int32.ofNat (q + i))), .val (.int (Int32.ofNat len)), .val (.int (Int32.ofNat i)), .val (.int (cv A (o + i)))] [])) := c4.trans (by
        refine XS.istoreS Xl.here hexec rfl (hb hbytes d13) rfl rfl hz ?_
        exact Steps.refl _)
      have c6 : Steps p.tables e below (s₁.setTop (entryFrame m #[.ref b, .int (Int32.ofNat o), .ref d, .int (Int32.ofNat q), .int (Int32.ofNat len)] 7)) (Tl.setTop (mkF m 31 #[.val (.ref b), .val (.int (Int32.ofNat (o + i))), .val (.ref d), .val (.int (Int32.ofNat (q + i))), .val (.int (Int32.ofNat len)), .val (.int (Int32.ofNat i)), .val (.int (cv A (o + i)))] [.int (lo8 (cv A (o + i))), .int (Int32.ofNat (q + i)), .ref d])) := c5.trans (by
        refine XS.iload Xl.here hexec rfl (hb hbytes d15) rfl ?_
        refine sipushV Xl.here hexec rfl 255 (hb hbytes d17) (by decide) ?_
        refine XS.icmpYes Xl.here hexec rfl (pc0 := 20) rfl (hb hbytes d20) rfl (ii_le_t (hp i (by omega))) (by decide) rfl ?_
        refine XS.aloadN Xl.here hexec rfl (hb hbytes d26) rfl rfl ?_
        refine XS.iloadN Xl.here hexec rfl (hb hbytes d27) rfl ?_
        refine XS.iload Xl.here hexec rfl (hb hbytes d28) rfl ?_
        refine i2b Xl.here hexec rfl (hb hbytes d30) rfl ?_
        exact Steps.refl _)
      obtain ⟨T7, X7, p7, st7⟩ := Xl.aput hexec hBk rfl hlt rfl (fits_lo8 (cv A (o + i))) (g := (mkF m 31 #[.val (.ref b), .val (.int (Int32.ofNat (o + i))), .val (.ref d), .val (.int (Int32.ofNat (q + i))), .val (.int (Int32.ofNat len)), .val (.int (Int32.ofNat i)), .val (.int (cv A (o + i)))] [.int (lo8 (cv A (o + i))), .int (Int32.ofNat (q + i)), .ref d])) rfl (rest := []) rfl (hb hbytes d31)
      have c8 : Steps p.tables e below (s₁.setTop (entryFrame m #[.ref b, .int (Int32.ofNat o), .ref d, .int (Int32.ofNat q), .int (Int32.ofNat len)] 7)) (T7.setTop (mkF m 32 #[.val (.ref b), .val (.int (Int32.ofNat (o + i))), .val (.ref d), .val (.int (Int32.ofNat (q + i))), .val (.int (Int32.ofNat len)), .val (.int (Int32.ofNat i)), .val (.int (cv A (o + i)))] [])) := c6.trans (st7 _ (Steps.refl _))
      have c9 : Steps p.tables e below (s₁.setTop (entryFrame m #[.ref b, .int (Int32.ofNat o), .ref d, .int (Int32.ofNat q), .int (Int32.ofNat len)] 7)) (T7.setTop (mkF m 3 #[.val (.ref b), .val (.int (Int32.ofNat (o + i) + 1)), .val (.ref d), .val (.int (Int32.ofNat (q + i) + 1)), .val (.int (Int32.ofNat len)), .val (.int (Int32.ofNat i + 1)), .val (.int (cv A (o + i)))] [])) := c8.trans (by
        refine iincV X7.here hexec rfl 1 (hb hbytes d32) (by decide) rfl rfl ?_
        refine iincV X7.here hexec rfl 1 (hb hbytes d35) (by decide) rfl rfl ?_
        refine iincV X7.here hexec rfl 1 (hb hbytes d38) (by decide) rfl rfl ?_
        refine XS.goto X7.here hexec rfl (pc0 := 41) rfl (hb hbytes d41) (by decide) rfl ?_
        exact Steps.refl _)
      have c10 : Steps p.tables e below (s₁.setTop (entryFrame m #[.ref b, .int (Int32.ofNat o), .ref d, .int (Int32.ofNat q), .int (Int32.ofNat len)] 7)) (T7.setTop (mkF m 3 #[.val (.ref b), .val (.int (Int32.ofNat (o + (i + 1)))), .val (.ref d), .val (.int (Int32.ofNat (q + (i + 1)))), .val (.int (Int32.ofNat len)), .val (.int (Int32.ofNat (i + 1))), .val (.int (cv A (o + i)))] [])) := by
        have := c9
        rw [succ32, succ32, succ32] at this
        exact this
      exact ih (i + 1) (by omega) _ (Or.inr ⟨_, rfl, rfl⟩) T7 _ (by rw [copyLocs_step, ← List.append_assoc]; exact X7) (pl.trans p7) (fl.step (by omega) hlt (by simp)) c10
  obtain ⟨T9, B9, z9, X9, p9, f9, g9⟩ := loop len 0 (by omega) .unset (Or.inl rfl) s₁ B (by simpa [copyLocs] using X0) ⟨hB0.1, fun _ _ => rfl, rfl⟩ (Laid.zero _ _ _) c2
  have c11 : Steps p.tables e below (s₁.setTop (entryFrame m #[.ref b, .int (Int32.ofNat o), .ref d, .int (Int32.ofNat q), .int (Int32.ofNat len)] 7)) (T9.setTop (mkF m 46 #[.val (.ref b), .val (.int (Int32.ofNat (o + len))), .val (.ref d), .val (.int (Int32.ofNat (q + len))), .val (.int (Int32.ofNat len)), .val (.int (Int32.ofNat len)), z9] [.int (Int32.ofNat len)])) := g9.trans (by
    refine XS.iload X9.here hexec rfl (hb hbytes d3) rfl ?_
    refine XS.iload X9.here hexec rfl (hb hbytes d5) rfl ?_
    refine XS.icmpYes X9.here hexec rfl (pc0 := 7) rfl (hb hbytes d7) rfl (ii_ge_t (nlt32 (by omega) (Nat.le_refl _))) (by decide) rfl ?_
    refine XS.iload X9.here hexec rfl (hb hbytes d44) rfl ?_
    exact Steps.refl _)
  exact ⟨T9, some (.int (Int32.ofNat len)), _, _, _, X9, by simp, rfl, rfl, (fun h => by cases h), ⟨rfl, B9, p9.from hh0, f9⟩, fun fs hl => c11.trans (X9.ireturnOut hexec hret rfl (Or.inl rfl) (hb hbytes d46) hl)⟩
end Cmp5
namespace Cmp3
def yN : MethodName := ⟨"java/lang/StringUTF16", "compress", "([CII)[B"⟩
abbrev yB : ByteArray := jdk_52_method_16_code
theorem d0 : decode yB 0 = .ok (.iload_n 2, 1) := by decide +kernel
theorem d1 : decode yB 1 = .ok (.newarray .byte, 2) := by decide +kernel
theorem d3 : decode yB 3 = .ok (.astore_n 3, 1) := by decide +kernel
theorem d4 : decode yB 4 = .ok (.aload_n 0, 1) := by decide +kernel
theorem d5 : decode yB 5 = .ok (.iload_n 1, 1) := by decide +kernel
theorem d6 : decode yB 6 = .ok (.aload_n 3, 1) := by decide +kernel
theorem d7 : decode yB 7 = .ok (.iconst 0, 1) := by decide +kernel
theorem d8 : decode yB 8 = .ok (.iload_n 2, 1) := by decide +kernel
theorem d9 : decode yB 9 = .ok (.invokestatic 115, 3) := by decide +kernel
theorem d12 : decode yB 12 = .ok (.istore 4, 2) := by decide +kernel
theorem d14 : decode yB 14 = .ok (.iload 4, 2) := by decide +kernel
theorem d16 : decode yB 16 = .ok (.iload_n 2, 1) := by decide +kernel
theorem d17 : decode yB 17 = .ok (.if_icmp (.eq) 40, 3) := by decide +kernel
theorem d57 : decode yB 57 = .ok (.aload_n 3, 1) := by decide +kernel
theorem d58 : decode yB 58 = .ok (.areturn, 1) := by decide +kernel
def site : List Cond := [.arrayClass .byte, Cmp5.tab] ++ staticW U16 115 Cmp5.yN
def tab : Cond := tabOf yN yB 6 (some (.array .byte)) site
def P (b : Addr) (A : Cell) (o len : Nat) (args : Array Value) (s : State) : Prop := args = #[.ref b, .int (Int32.ofNat o), .int (Int32.ofNat len)] ∧ Ch b A s ∧ o + len ≤ A.slots.size ∧ len ≤ 536870912 ∧ ∀ i, i < len → ¬ 255 < cv A (o + i)
def E (b : Addr) (A : Cell) (o len : Nat) (r : Option Value) (s u : State) : Prop := NewArr .byte "[B" len (fun j => .int (lo8 (cv A (o + j)))) r s u ∧ u.heap.size = s.heap.size + 1
/-- no char of the range above 255: a new byte[] of their low bytes -/
theorem law (l : Launch) (b : Addr) (A : Cell) (o len : Nat) : Law l yN 3 3 1 18 yB 6 (some (.array .byte)) site (P b A o len) (E b A o len) [] 1 len := by
  refine Law.of_walk (plainFor_of_name (by decide +kernel)) (by decide +kernel) (by decide +kernel) (by decide) (fun _ _ h => by rw [h.1]; rfl) (fun _ U U' hal hh h => ⟨h.1, h.2.1.mv hal hh, h.2.2⟩) (fun r U U' V V' h1 hal h2 h => ⟨NewArr.mv r U U' V V' h1 hal h2 h.1, by rw [h1, h2]; exact h.2⟩) ?_
  intro p e s m args below meth c s₁ X0 hexec hbytes hml hret hlk hnm hown hh0 W hP
  obtain ⟨rfl, hA, l1, l2, hp⟩ := hP
  have a31 := hA.1.2.2.2
  have c1 : Steps p.tables e below (s₁.setTop (entryFrame m #[.ref b, .int (Int32.ofNat o), .int (Int32.ofNat len)] 6)) (s₁.setTop (mkF m 0 #[.val (.ref b), .val (.int (Int32.ofNat o)), .val (.int (Int32.ofNat len)), .unset, .unset, .unset] [])) := entry rfl
  have c2 : Steps p.tables e below (s₁.setTop (entryFrame m #[.ref b, .int (Int32.ofNat o), .int (Int32.ofNat len)] 6)) (s₁.setTop (mkF m 1 #[.val (.ref b), .val (.int (Int32.ofNat o)), .val (.int (Int32.ofNat len)), .unset, .unset, .unset] [.int (Int32.ofNat len)])) := c1.trans (by
    refine XS.iloadN X0.here hexec rfl (hb hbytes d0) rfl ?_
    exact Steps.refl _)
  obtain ⟨T3, B3, X3, ba3, bs3, bv3, bh3, bf3, st3⟩ := X0.anew hexec (atype := .byte) (wk W (.arrayClass .byte)) rfl (by show len * 1 ≤ _; omega) (by omega) (g := (mkF m 1 #[.val (.ref b), .val (.int (Int32.ofNat o)), .val (.int (Int32.ofNat len)), .unset, .unset, .unset] [.int (Int32.ofNat len)])) rfl (hb hbytes d1) (rest := []) rfl (Nat.le_refl _) (by show 0 + len ≤ len; omega)
  rw [hh0] at ba3 st3
  have kp3 : XT.Kept s T3 := (XT.Kept.of_eq hh0).push bh3
  have hA3 := hA.keep X3.warmed.alike (kp3 _ _ hA.1.1)
  have hne : b ≠ s.heap.size := hA.1.ne
  have c4 : Steps p.tables e below (s₁.setTop (entryFrame m #[.ref b, .int (Int32.ofNat o), .int (Int32.ofNat len)] 6)) (T3.setTop (mkF m 3 #[.val (.ref b), .val (.int (Int32.ofNat o)), .val (.int (Int32.ofNat len)), .unset, .unset, .unset] [.ref s.heap.size])) := c2.trans (st3 _ (Steps.refl _))
  have c5 : Steps p.tables e below (s₁.setTop (entryFrame m #[.ref b, .int (Int32.ofNat o), .int (Int32.ofNat len)] 6)) (T3.setTop (mkF m 9 #[.val (.ref b), .val (.int (Int32.ofNat o)), .val (.int (Int32.ofNat len)), .val (.ref s.heap.size), .unset, .unset] [.int (Int32.ofNat len), .int 0, .ref s.heap.size, .int (Int32.ofNat o), .ref b])) := c4.trans (by
    refine XS.astoreN X3.here hexec rfl (hb hbytes d3) rfl rfl rfl ?_
    refine XS.aloadN X3.here hexec rfl (hb hbytes d4) rfl rfl ?_
    refine XS.iloadN X3.here hexec rfl (hb hbytes d5) rfl ?_
    refine XS.aloadN X3.here hexec rfl (hb hbytes d6) rfl rfl ?_
    refine iconstV X3.here hexec rfl 0 (hb hbytes d7) (by decide) ?_
    refine XS.iloadN X3.here hexec rfl (hb hbytes d8) rfl ?_
    exact Steps.refl _)
  obtain ⟨v6, T6, X6, E6, g6⟩ := X3.callS hexec (Cmp5.law l b A s.heap.size B3 o 0 len) hown (wks W (staticW U16 115 Cmp5.yN)) (wk W Cmp5.tab) (W := 0) (Nat.le_of_ble_eq_true rfl) (Nat.le_of_ble_eq_true rfl) (Nat.le_refl _) (by show 0 + len + 0 ≤ len; omega) (g := (mkF m 9 #[.val (.ref b), .val (.int (Int32.ofNat o)), .val (.int (Int32.ofNat len)), .val (.ref s.heap.size), .unset, .unset] [.int (Int32.ofNat len), .int (Int32.ofNat 0), .ref s.heap.size, .int (Int32.ofNat o), .ref b])) rfl (by rw [hml]; rfl) c5 (argsL := [.ref b, .int (Int32.ofNat o), .ref s.heap.size, .int (Int32.ofNat 0), .int (Int32.ofNat len)]) (rest := []) rfl rfl (by show 2 * 0 + 0 ≤ _; decide) (hb hbytes d9) (⟨rfl, hA3, ba3, hne, l1, by rw [bs3]; simp, hp⟩)
  obtain ⟨rfl, B6, p6, f6⟩ := E6
  have c7 : Steps p.tables e below (s₁.setTop (entryFrame m #[.ref b, .int (Int32.ofNat o), .int (Int32.ofNat len)] 6)) (T6.setTop (mkF m 12 #[.val (.ref b), .val (.int (Int32.ofNat o)), .val (.int (Int32.ofNat len)), .val (.ref s.heap.size), .unset, .unset] [.int (Int32.ofNat len)])) := g6
  have c8 : Steps p.tables e below (s₁.setTop (entryFrame m #[.ref b, .int (Int32.ofNat o), .int (Int32.ofNat len)] 6)) (T6.setTop (mkF m 58 #[.val (.ref b), .val (.int (Int32.ofNat o)), .val (.int (Int32.ofNat len)), .val (.ref s.heap.size), .val (.int (Int32.ofNat len)), .unset] [.ref s.heap.size])) := c7.trans (by
    refine XS.istore X6.here hexec rfl (hb hbytes d12) rfl rfl ?_
    refine XS.iload X6.here hexec rfl (hb hbytes d14) rfl ?_
    refine XS.iloadN X6.here hexec rfl (hb hbytes d16) rfl ?_
    refine XS.icmpYes X6.here hexec rfl (pc0 := 17) rfl (hb hbytes d17) rfl (ii_eq_t rfl) (by decide) rfl ?_
    refine XS.aloadN X6.here hexec rfl (hb hbytes d57) rfl rfl ?_
    exact Steps.refl _)
  have X8 := X6.wide (L' := []) (cells' := 1) (slots' := len) (fun x hx hlt => by
    simp only [List.nil_append, copyLocs, List.mem_map, List.mem_range] at hx
    obtain ⟨i, -, rfl⟩ := hx
    exact absurd hlt (Nat.lt_irrefl _)) (Nat.le_refl _) (by omega)
  exact ⟨T6, some (.ref s.heap.size), _, _, _, X8, rfl, rfl, rfl, (fun h => by cases h), ⟨⟨rfl, B6, ba3.like (X3.warmed.alike.symm.trans X6.warmed.alike) p6.1 f6.1 f6.2.1 f6.2.2.1, f6.2.1.trans bv3, by rw [X6.warmed.alike.findClass, f6.1]; exact bf3, by rw [f6.2.2.1, bs3]; simp, fun j hj => by rw [f6.2.2.2 j, if_pos (by omega)]; rfl, kp3.put p6 (Nat.le_refl _)⟩, by rw [p6.2.2, bh3, hh0]; simp⟩, fun fs hl => c8.trans (X8.areturnOut hexec rfl hret rfl (hb hbytes d58) hl)⟩
end Cmp3
namespace CodL
def yN : MethodName := ⟨"java/lang/StringUTF16", "coderFromArrayLen", "([BI)B"⟩
abbrev yB : ByteArray := jdk_52_method_15_code
theorem d0 : decode yB 0 = .ok (.iload_n 1, 1) := by decide +kernel
theorem d1 : decode yB 1 = .ok (.aload_n 0, 1) := by decide +kernel
theorem d2 : decode yB 2 = .ok (.arraylength, 1) := by decide +kernel
theorem d3 : decode yB 3 = .ok (.isub, 1) := by decide +kernel
theorem d4 : decode yB 4 = .ok (.bipush 31, 2) := by decide +kernel
theorem d6 : decode yB 6 = .ok (.iushr, 1) := by decide +kernel
theorem d7 : decode yB 7 = .ok (.i2b, 1) := by decide +kernel
theorem d8 : decode yB 8 = .ok (.ireturn, 1) := by decide +kernel
def site : List Cond := []
def tab : Cond := tabOf yN yB 2 (some .byte) site
def P (d : Addr) (B : Cell) (args : Array Value) (s : State) : Prop := args = #[.ref d, .int (Int32.ofNat B.slots.size)] ∧ Arr .byte d B s
def E (r : Option Value) (s u : State) : Prop := XT.PureE (some (.int 0)) r s u
/-- an array as long as the number of chars: LATIN1 -/
theorem law (l : Launch) (d : Addr) (B : Cell) : Law l yN 2 2 0 0 yB 2 (some .byte) site (P d B) E [] 0 0 := by
  refine Law.of_walk (plainFor_of_name (by decide +kernel)) (by decide +kernel) (by decide +kernel) (by decide) (fun _ _ h => by rw [h.1]; rfl) (fun _ U U' hal hh h => ⟨h.1, h.2.mv hal hh⟩) (fun r U U' V V' h1 hal h2 h => XT.PureE.mv r U U' V V' h1 hal h2 h) ?_
  intro p e s m args below meth c s₁ X0 hexec hbytes hml hret hlk hnm hown hh0 W hP
  obtain ⟨rfl, hB⟩ := hP
  have hB0 := hB.mv X0.warmed.alike hh0
  have c1 : Steps p.tables e below (s₁.setTop (entryFrame m #[.ref d, .int (Int32.ofNat B.slots.size)] 2)) (s₁.setTop (mkF m 0 #[.val (.ref d), .val (.int (Int32.ofNat B.slots.size))] [])) := entry rfl
  have c2 : Steps p.tables e below (s₁.setTop (entryFrame m #[.ref d, .int (Int32.ofNat B.slots.size)] 2)) (s₁.setTop (mkF m 2 #[.val (.ref d), .val (.int (Int32.ofNat B.slots.size))] [.ref d, .int (Int32.ofNat B.slots.size)])) := c1.trans (by
    refine XS.iloadN X0.here hexec rfl (hb hbytes d0) rfl ?_
    refine XS.aloadN X0.here hexec rfl (hb hbytes d1) rfl rfl ?_
    exact Steps.refl _)
  have c3 : Steps p.tables e below (s₁.setTop (entryFrame m #[.ref d, .int (Int32.ofNat B.slots.size)] 2)) (s₁.setTop (mkF m 8 #[.val (.ref d), .val (.int (Int32.ofNat B.slots.size))] [.int (lo8 (ushr (Int32.ofNat B.slots.size - Int32.ofNat B.slots.size) 31))])) := c2.trans (by
    refine X0.alen hexec hB0 rfl rfl (hb hbytes d2) ?_
    refine XS.isub X0.here hexec rfl (hb hbytes d3) rfl ?_
    refine bipushV X0.here hexec rfl 31 (hb hbytes d4) (by decide) ?_
    refine iushr X0.here hexec rfl (hb hbytes d6) rfl ?_
    refine i2b X0.here hexec rfl (hb hbytes d7) rfl ?_
    exact Steps.refl _)
  have e0 : lo8 (ushr (Int32.ofNat B.slots.size - Int32.ofNat B.slots.size) 31) = 0 := by rw [Int32.sub_self]; decide
  rw [e0] at c3
  exact ⟨s₁, some (.int 0), _, _, _, X0, rfl, rfl, rfl, (fun h => by cases h), ⟨rfl, hh0⟩, fun fs hl => c3.trans (X0.ireturnOut hexec hret rfl (Or.inr (Or.inr (Or.inl rfl))) (hb hbytes d8) hl)⟩
end CodL
/-- the String at a is Latin-1 over a new byte[] (the heap's one new cell): the low bytes of the len chars of A from o on; every cell but a is kept -/
def Got (a : Addr) (D : Cell) (fV fC : Field) (A : Cell) (o len : Nat) (r : Option Value) (s u : State) : Prop := r = none ∧ ∃ D' V : Cell, Blank "java/lang/String" a D' u ∧ Same D D' [fV.slot, fC.slot] ∧ D'.slots[fV.slot]? = some (.ref s.heap.size) ∧ D'.slots[fC.slot]? = some (.int 0) ∧ Arr .byte s.heap.size V u ∧ V.vm = .none ∧ u.vm.findClass "[B" = some V.cls ∧ V.slots.size = len ∧ (∀ j, j < len → V.slots[j]? = some (.int (lo8 (cv A (o + j))))) ∧ (∀ (y : Addr) (c : Cell), y ≠ a → s.heap[y]? = some c → u.heap[y]? = some c) ∧ u.heap.size = s.heap.size + 1
theorem Got.mv {a : Addr} {D A : Cell} {fV fC : Field} {o len : Nat} : ∀ r (U U' V V' : State), U'.heap = U.heap → V.vm.Alike V'.vm → V'.heap = V.heap → Got a D fV fC A o len r U V → Got a D fV fC A o len r U' V' :=
  fun r U U' V V' h1 hal h2 ⟨e0, D', X, a1, a2, a3, a4, a5, a6, a7, a8, a9, a10, a11⟩ => ⟨e0, D', X, a1.mv hal h2, a2, by rw [h1]; exact a3, a4, by rw [h1]; exact a5.mv hal h2, a6, by rw [hal.findClass]; exact a7, a8, a9, by rw [h1, h2]; exact a10, by rw [h1, h2]; exact a11⟩
namespace New4
def yN : MethodName := ⟨"java/lang/String", "<init>", "([CIILjava/lang/Void;)V"⟩
abbrev yB : ByteArray := jdk_42_method_149_code
theorem d0 : decode yB 0 = .ok (.aload_n 0, 1) := by decide +kernel
theorem d1 : decode yB 1 = .ok (.invokespecial 1, 3) := by decide +kernel
theorem d4 : decode yB 4 = .ok (.iload_n 3, 1) := by decide +kernel
theorem d5 : decode yB 5 = .ok (.ifCond (.ne) 22, 3) := by decide +kernel
theorem d27 : decode yB 27 = .ok (.getstatic 38, 3) := by decide +kernel
theorem d30 : decode yB 30 = .ok (.ifCond (.eq) 28, 3) := by decide +kernel
theorem d33 : decode yB 33 = .ok (.aload_n 1, 1) := by decide +kernel
theorem d34 : decode yB 34 = .ok (.iload_n 2, 1) := by decide +kernel
theorem d35 : decode yB 35 = .ok (.iload_n 3, 1) := by decide +kernel
theorem d36 : decode yB 36 = .ok (.invokestatic 177, 3) := by decide +kernel
theorem d39 : decode yB 39 = .ok (.astore 5, 2) := by decide +kernel
theorem d41 : decode yB 41 = .ok (.aload_n 0, 1) := by decide +kernel
theorem d42 : decode yB 42 = .ok (.aload 5, 2) := by decide +kernel
theorem d44 : decode yB 44 = .ok (.iload_n 3, 1) := by decide +kernel
theorem d45 : decode yB 45 = .ok (.invokestatic 47, 3) := by decide +kernel
theorem d48 : decode yB 48 = .ok (.putfield 15, 3) := by decide +kernel
theorem d51 : decode yB 51 = .ok (.aload_n 0, 1) := by decide +kernel
theorem d52 : decode yB 52 = .ok (.aload 5, 2) := by decide +kernel
theorem d54 : decode yB 54 = .ok (.putfield 9, 3) := by decide +kernel
theorem d57 : decode yB 57 = .ok (.return_, 1) := by decide +kernel
def site : List Cond := [.fieldLink "java/lang/String" 38 "java/lang/String" "COMPACT_STRINGS" "Z", Cmp3.tab, CodL.tab, .laysFinal "java/lang/String" "java/lang/String" "value" "[B", .fieldLink "java/lang/String" 9 "java/lang/String" "value" "[B", .laysFinal "java/lang/String" "java/lang/String" "coder" "B", .fieldLink "java/lang/String" 15 "java/lang/String" "coder" "B"] ++ objW "java/lang/String" 1 ++ staticW "java/lang/String" 177 Cmp3.yN ++ staticW "java/lang/String" 47 CodL.yN
def tab : Cond := tabOf yN yB 6 none site
def P (a : Addr) (D : Cell) (fV fC : Field) (b : Addr) (A : Cell) (z : Int32) (o len : Nat) (args : Array Value) (s : State) : Prop := args = #[.ref a, .ref b, .int (Int32.ofNat o), .int (Int32.ofNat len), .null] ∧ Blank "java/lang/String" a D s ∧ Found "java/lang/String" "value" "[B" fV s ∧ Found "java/lang/String" "coder" "B" fC s ∧ Ch b A s ∧ StaticIs s "java/lang/String" "COMPACT_STRINGS" "Z" (.int z) ∧ ¬ z = 0 ∧ 0 < len ∧ o + len ≤ A.slots.size ∧ len ≤ 536870912 ∧ ∀ i, i < len → ¬ 255 < cv A (o + i)
def E (a : Addr) (D : Cell) (fV fC : Field) (A : Cell) (o len : Nat) (r : Option Value) (s u : State) : Prop := Got a D fV fC A o len r s u
/-- len > 0, no char of the range above 255: a Latin-1 String of their low bytes -/
theorem law (l : Launch) (a : Addr) (D : Cell) (fV fC : Field) (b : Addr) (A : Cell) (z : Int32) (o len : Nat) : Law l yN 5 4 2 35 yB 6 none site (P a D fV fC b A z o len) (E a D fV fC A o len) [⟨a, fC.slot⟩, ⟨a, fV.slot⟩] 1 len := by
  refine Law.of_walk (plainFor_of_name (by decide +kernel)) (by decide +kernel) (by decide +kernel) (by decide) (fun _ _ h => by rw [h.1]; rfl) (fun _ U U' hal hh h => ⟨h.1, h.2.1.mv hal hh, h.2.2.1.al hal, h.2.2.2.1.al hal, h.2.2.2.2.1.mv hal hh, h.2.2.2.2.2.1.there hal hh, h.2.2.2.2.2.2⟩) (fun r U U' V V' h1 hal h2 h => Got.mv r U U' V V' h1 hal h2 h) ?_
  intro p e s m args below meth c s₁ X0 hexec hbytes hml hret hlk hnm hown hh0 W hP
  obtain ⟨rfl, hB, f1, f2, hA, s1, hz, l0, l1, l2, hp⟩ := hP
  have a31 := hA.1.2.2.2
  have c1 : Steps p.tables e below (s₁.setTop (entryFrame m #[.ref a, .ref b, .int (Int32.ofNat o), .int (Int32.ofNat len), .null] 6)) (s₁.setTop (mkF m 0 #[.val (.ref a), .val (.ref b), .val (.int (Int32.ofNat o)), .val (.int (Int32.ofNat len)), .val .null, .unset] [])) := entry rfl
  have c2 : Steps p.tables e below (s₁.setTop (entryFrame m #[.ref a, .ref b, .int (Int32.ofNat o), .int (Int32.ofNat len), .null] 6)) (s₁.setTop (mkF m 1 #[.val (.ref a), .val (.ref b), .val (.int (Int32.ofNat o)), .val (.int (Int32.ofNat len)), .val .null, .unset] [.ref a])) := c1.trans (by
    refine XS.aloadN X0.here hexec rfl (hb hbytes d0) rfl rfl ?_
    exact Steps.refl _)
  obtain ⟨T3, X3, q3, st3⟩ := X0.oinit hexec hown (wks W (objW "java/lang/String" 1)) (g := (mkF m 1 #[.val (.ref a), .val (.ref b), .val (.int (Int32.ofNat o)), .val (.int (Int32.ofNat len)), .val .null, .unset] [.ref a])) rfl (by rw [hml]; rfl) (rest := []) rfl (hb hbytes d1) (W := 0) (by show 2 * 0 + 0 ≤ _; decide) (Nat.le_of_ble_eq_true rfl) (Nat.le_of_ble_eq_true rfl)
  have hh3 := q3.trans hh0
  have c4 : Steps p.tables e below (s₁.setTop (entryFrame m #[.ref a, .ref b, .int (Int32.ofNat o), .int (Int32.ofNat len), .null] 6)) (T3.setTop (mkF m 27 #[.val (.ref a), .val (.ref b), .val (.int (Int32.ofNat o)), .val (.int (Int32.ofNat len)), .val .null, .unset] [])) := (c2.trans (st3 _ (Steps.refl _))).trans (by
    refine XS.iloadN X3.here hexec rfl (hb hbytes d4) rfl ?_
    refine XS.ifYes X3.here hexec rfl (pc0 := 5) rfl (hb hbytes d5) rfl (i0_ne_t (nz32 (by omega) l0)) (by decide) rfl ?_
    exact Steps.refl _)
  obtain ⟨T5, X5, q5, st5⟩ := X3.sget hexec hown (wk W (.fieldLink "java/lang/String" 38 "java/lang/String" "COMPACT_STRINGS" "Z")) s1 (fun _ _ h => by rw [hh3]; exact h) (g := (mkF m 27 #[.val (.ref a), .val (.ref b), .val (.int (Int32.ofNat o)), .val (.int (Int32.ofNat len)), .val .null, .unset] [])) rfl (hb hbytes d27)
  have hh5 := q5.trans hh3
  have c6 : Steps p.tables e below (s₁.setTop (entryFrame m #[.ref a, .ref b, .int (Int32.ofNat o), .int (Int32.ofNat len), .null] 6)) (T5.setTop (mkF m 30 #[.val (.ref a), .val (.ref b), .val (.int (Int32.ofNat o)), .val (.int (Int32.ofNat len)), .val .null, .unset] [.int z])) := c4.trans (st5 _ (Steps.refl _))
  have c7 : Steps p.tables e below (s₁.setTop (entryFrame m #[.ref a, .ref b, .int (Int32.ofNat o), .int (Int32.ofNat len), .null] 6)) (T5.setTop (mkF m 36 #[.val (.ref a), .val (.ref b), .val (.int (Int32.ofNat o)), .val (.int (Int32.ofNat len)), .val .null, .unset] [.int (Int32.ofNat len), .int (Int32.ofNat o), .ref b])) := c6.trans (by
    refine XS.ifNo X5.here hexec rfl (hb hbytes d30) rfl (i0_eq_f hz) ?_
    refine XS.aloadN X5.here hexec rfl (hb hbytes d33) rfl rfl ?_
    refine XS.iloadN X5.here hexec rfl (hb hbytes d34) rfl ?_
    refine XS.iloadN X5.here hexec rfl (hb hbytes d35) rfl ?_
    exact Steps.refl _)
  obtain ⟨v8, T8, X8, E8, g8⟩ := X5.callS hexec (Cmp3.law l b A o len) hown (wks W (staticW "java/lang/String" 177 Cmp3.yN)) (wk W Cmp3.tab) (W := 0) (Nat.le_of_ble_eq_true rfl) (Nat.le_of_ble_eq_true rfl) (Nat.le_refl _) (by show 0 + len ≤ len; omega) (g := (mkF m 36 #[.val (.ref a), .val (.ref b), .val (.int (Int32.ofNat o)), .val (.int (Int32.ofNat len)), .val .null, .unset] [.int (Int32.ofNat len), .int (Int32.ofNat o), .ref b])) rfl (by rw [hml]; rfl) c7 (argsL := [.ref b, .int (Int32.ofNat o), .int (Int32.ofNat len)]) (rest := []) rfl rfl (by show 2 * 0 + 0 ≤ _; decide) (hb hbytes d36) (⟨rfl, hA.mv X5.warmed.alike hh5, l1, l2, hp⟩)
  obtain ⟨e8, z8⟩ := E8
  obtain ⟨rfl, N, n1, n2, n3, n4, n5, n6⟩ := NewArr.mv _ T5 s _ _ hh5.symm (Vm.Alike.refl _) rfl e8
  rw [hh5] at z8
  have hB1 := hB.keep X8.warmed.alike (n6 _ _ hB.1)
  have hne : s.heap.size ≠ a := (Nat.ne_of_lt (Array.getElem?_eq_some_iff.mp hB.1).1).symm
  have c9 : Steps p.tables e below (s₁.setTop (entryFrame m #[.ref a, .ref b, .int (Int32.ofNat o), .int (Int32.ofNat len), .null] 6)) (T8.setTop (mkF m 39 #[.val (.ref a), .val (.ref b), .val (.int (Int32.ofNat o)), .val (.int (Int32.ofNat len)), .val .null, .unset] [.ref s.heap.size])) := g8
  have c10 : Steps p.tables e below (s₁.setTop (entryFrame m #[.ref a, .ref b, .int (Int32.ofNat o), .int (Int32.ofNat len), .null] 6)) (T8.setTop (mkF m 45 #[.val (.ref a), .val (.ref b), .val (.int (Int32.ofNat o)), .val (.int (Int32.ofNat len)), .val .null, .val (.ref s.heap.size)] [.int (Int32.ofNat N.slots.size), .ref s.heap.size, .ref a])) := by
    have hc : Steps p.tables e below (s₁.setTop (entryFrame m #[.ref a, .ref b, .int (Int32.ofNat o), .int (Int32.ofNat len), .null] 6)) (T8.setTop (mkF m 45 #[.val (.ref a), .val (.ref b), .val (.int (Int32.ofNat o)), .val (.int (Int32.ofNat len)), .val .null, .val (.ref s.heap.size)] [.int (Int32.ofNat len), .ref s.heap.size, .ref a])) := c9.trans (by
      refine XS.astore X8.here hexec rfl (hb hbytes d39) rfl rfl rfl ?_
      refine XS.aloadN X8.here hexec rfl (hb hbytes d41) rfl rfl ?_
      refine XS.aload X8.here hexec rfl (hb hbytes d42) rfl rfl ?_
      refine XS.iloadN X8.here hexec rfl (hb hbytes d44) rfl ?_
      exact Steps.refl _)
    rw [n4]; exact hc
  obtain ⟨v11, T11, X11, E11, g11⟩ := X8.callS hexec (CodL.law l s.heap.size N) hown (wks W (staticW "java/lang/String" 47 CodL.yN)) (wk W CodL.tab) (W := 1) (Nat.le_of_ble_eq_true rfl) (Nat.le_of_ble_eq_true rfl) (Nat.le_refl _) (by show 0 + len + 0 ≤ len; omega) (g := (mkF m 45 #[.val (.ref a), .val (.ref b), .val (.int (Int32.ofNat o)), .val (.int (Int32.ofNat len)), .val .null, .val (.ref s.heap.size)] [.int (Int32.ofNat N.slots.size), .ref s.heap.size, .ref a])) rfl (by rw [hml]; rfl) c10 (argsL := [.ref s.heap.size, .int (Int32.ofNat N.slots.size)]) (rest := [.ref a]) rfl rfl (by show 2 * 0 + (1 + 0) ≤ _; decide) (hb hbytes d45) (⟨rfl, n1⟩)
  obtain ⟨rfl, q11⟩ := E11
  have hB11 := hB1.mv (X8.warmed.alike.symm.trans X11.warmed.alike) q11
  have c12 : Steps p.tables e below (s₁.setTop (entryFrame m #[.ref a, .ref b, .int (Int32.ofNat o), .int (Int32.ofNat len), .null] 6)) (T11.setTop (mkF m 48 #[.val (.ref a), .val (.ref b), .val (.int (Int32.ofNat o)), .val (.int (Int32.ofNat len)), .val .null, .val (.ref s.heap.size)] [.int 0, .ref a])) := g11
  obtain ⟨T13, X13, p13, bl13, sl13, st13⟩ := X11.finit hexec hown (wk W (.fieldLink "java/lang/String" 15 "java/lang/String" "coder" "B")) (Or.inr ⟨_, (wk W (.laysFinal "java/lang/String" "java/lang/String" "coder" "B"))⟩) (Or.inl ⟨rfl, hnm⟩) f2 (Or.inl rfl) hB11 (t := .byte) (by decide +kernel) rfl (g := (mkF m 48 #[.val (.ref a), .val (.ref b), .val (.int (Int32.ofNat o)), .val (.int (Int32.ofNat len)), .val .null, .val (.ref s.heap.size)] [.int 0, .ref a])) rfl (rest := []) rfl (hb hbytes d48)
  have c14 : Steps p.tables e below (s₁.setTop (entryFrame m #[.ref a, .ref b, .int (Int32.ofNat o), .int (Int32.ofNat len), .null] 6)) (T13.setTop (mkF m 54 #[.val (.ref a), .val (.ref b), .val (.int (Int32.ofNat o)), .val (.int (Int32.ofNat len)), .val .null, .val (.ref s.heap.size)] [.ref s.heap.size, .ref a])) := (c12.trans (st13 _ (Steps.refl _))).trans (by
    refine XS.aloadN X13.here hexec rfl (hb hbytes d51) rfl rfl ?_
    refine XS.aload X13.here hexec rfl (hb hbytes d52) rfl rfl ?_
    exact Steps.refl _)
  obtain ⟨T15, X15, p15, bl15, sl15, st15⟩ := X13.finit hexec hown (wk W (.fieldLink "java/lang/String" 9 "java/lang/String" "value" "[B")) (Or.inr ⟨_, (wk W (.laysFinal "java/lang/String" "java/lang/String" "value" "[B"))⟩) (Or.inl ⟨rfl, hnm⟩) f1 (Or.inl rfl) bl13 (t := (.array .byte)) (by decide +kernel) rfl (g := (mkF m 54 #[.val (.ref a), .val (.ref b), .val (.int (Int32.ofNat o)), .val (.int (Int32.ofNat len)), .val .null, .val (.ref s.heap.size)] [.ref s.heap.size, .ref a])) rfl (rest := []) rfl (hb hbytes d54)
  have c16 : Steps p.tables e below (s₁.setTop (entryFrame m #[.ref a, .ref b, .int (Int32.ofNat o), .int (Int32.ofNat len), .null] 6)) (T15.setTop (mkF m 57 #[.val (.ref a), .val (.ref b), .val (.int (Int32.ofNat o)), .val (.int (Int32.ofNat len)), .val .null, .val (.ref s.heap.size)] [])) := c14.trans (st15 _ (Steps.refl _))
  have ap := apart (Or.inr ⟨_, (wk W (.laysFinal "java/lang/String" "java/lang/String" "value" "[B"))⟩) (Or.inr ⟨_, (wk W (.laysFinal "java/lang/String" "java/lang/String" "coder" "B"))⟩) f1 f2 (t₁ := .array .byte) (t₂ := .byte) (by decide +kernel) (by decide +kernel) (by decide)
  have al := X8.warmed.alike.symm.trans X15.warmed.alike
  have n7 : T11.heap[s.heap.size]? = some N := by rw [q11]; exact n1.1
  exact ⟨T15, none, _, _, _, X15, by simp, rfl, by omega, (fun _ => rfl), ⟨rfl, _, N, bl15, ((Same.refl D _).set _ (by simp)).set _ (by simp), sl15, (Cell.slots_setSlot_ne _ ap).trans sl13, n1.keep al (p15.other hne (p13.other hne n7)), n2, by rw [al.findClass]; exact n3, n4, n5, fun y c h1 h2 => p15.other h1 (p13.other h1 (by rw [q11]; exact n6 y c h2)), by rw [p15.2.2, p13.2.2, q11]; exact z8⟩, fun fs hl => c16.trans (X15.returnOut hexec hret (hb hbytes d57) hl)⟩
end New4
namespace New1
def yN : MethodName := ⟨"java/lang/String", "<init>", "([C)V"⟩
abbrev yB : ByteArray := jdk_42_method_3_code
theorem d0 : decode yB 0 = .ok (.aload_n 0, 1) := by decide +kernel
theorem d1 : decode yB 1 = .ok (.aload_n 1, 1) := by decide +kernel
theorem d2 : decode yB 2 = .ok (.iconst 0, 1) := by decide +kernel
theorem d3 : decode yB 3 = .ok (.aload_n 1, 1) := by decide +kernel
theorem d4 : decode yB 4 = .ok (.arraylength, 1) := by decide +kernel
theorem d5 : decode yB 5 = .ok (.aconst_null, 1) := by decide +kernel
theorem d6 : decode yB 6 = .ok (.invokespecial 27, 3) := by decide +kernel
theorem d9 : decode yB 9 = .ok (.return_, 1) := by decide +kernel
def site : List Cond := [New4.tab] ++ initW "java/lang/String" 27 New4.yN
def tab : Cond := tabOf yN yB 2 none site
def P (a : Addr) (D : Cell) (fV fC : Field) (b : Addr) (A : Cell) (z : Int32) (args : Array Value) (s : State) : Prop := args = #[.ref a, .ref b] ∧ Blank "java/lang/String" a D s ∧ Found "java/lang/String" "value" "[B" fV s ∧ Found "java/lang/String" "coder" "B" fC s ∧ Ch b A s ∧ StaticIs s "java/lang/String" "COMPACT_STRINGS" "Z" (.int z) ∧ ¬ z = 0 ∧ 0 < A.slots.size ∧ A.slots.size ≤ 536870912 ∧ ∀ i, i < A.slots.size → ¬ 255 < cv A i
def E (a : Addr) (D : Cell) (fV fC : Field) (A : Cell) (r : Option Value) (s u : State) : Prop := Got a D fV fC A 0 A.slots.size r s u
/-- new String(chars), not empty, no char above 255: a Latin-1 String of their low bytes -/
theorem law (l : Launch) (a : Addr) (D : Cell) (fV fC : Field) (b : Addr) (A : Cell) (z : Int32) : Law l yN 2 1 3 52 yB 2 none site (P a D fV fC b A z) (E a D fV fC A) [⟨a, fC.slot⟩, ⟨a, fV.slot⟩] 1 A.slots.size := by
  refine Law.of_walk (plainFor_of_name (by decide +kernel)) (by decide +kernel) (by decide +kernel) (by decide) (fun _ _ h => by rw [h.1]; rfl) (fun _ U U' hal hh h => ⟨h.1, h.2.1.mv hal hh, h.2.2.1.al hal, h.2.2.2.1.al hal, h.2.2.2.2.1.mv hal hh, h.2.2.2.2.2.1.there hal hh, h.2.2.2.2.2.2⟩) (fun r U U' V V' h1 hal h2 h => Got.mv r U U' V V' h1 hal h2 h) ?_
  intro p e s m args below meth c s₁ X0 hexec hbytes hml hret hlk hnm hown hh0 W hP
  obtain ⟨rfl, hB, f1, f2, hA, s1, hz, l0, l2, hp⟩ := hP
  have c1 : Steps p.tables e below (s₁.setTop (entryFrame m #[.ref a, .ref b] 2)) (s₁.setTop (mkF m 0 #[.val (.ref a), .val (.ref b)] [])) := entry rfl
  have c2 : Steps p.tables e below (s₁.setTop (entryFrame m #[.ref a, .ref b] 2)) (s₁.setTop (mkF m 6 #[.val (.ref a), .val (.ref b)] [.null, .int (Int32.ofNat A.slots.size), .int 0, .ref b, .ref a])) := c1.trans (by
    refine XS.aloadN X0.here hexec rfl (hb hbytes d0) rfl rfl ?_
    refine XS.aloadN X0.here hexec rfl (hb hbytes d1) rfl rfl ?_
    refine iconstV X0.here hexec rfl 0 (hb hbytes d2) (by decide) ?_
    refine XS.aloadN X0.here hexec rfl (hb hbytes d3) rfl rfl ?_
    refine X0.alen hexec (hA.1.mv X0.warmed.alike hh0) rfl rfl (hb hbytes d4) ?_
    refine XS.aconstNull X0.here hexec rfl (hb hbytes d5) ?_
    exact Steps.refl _)
  obtain ⟨v3, T3, X3, E3, g3⟩ := X0.callN hexec (New4.law l a D fV fC b A z 0 A.slots.size) rfl hown (wks W (initW "java/lang/String" 27 New4.yN)) (W New4.tab (by simp only [site, List.mem_cons, List.mem_append, true_or, or_true])) (W := 0) (Nat.le_of_ble_eq_true rfl) (Nat.le_of_ble_eq_true rfl) (Nat.le_refl _) (by show 0 + A.slots.size ≤ A.slots.size; omega) (g := (mkF m 6 #[.val (.ref a), .val (.ref b)] [.null, .int (Int32.ofNat A.slots.size), .int (Int32.ofNat 0), .ref b, .ref a])) rfl (by rw [hml]; rfl) c2 (argsL := [.ref b, .int (Int32.ofNat 0), .int (Int32.ofNat A.slots.size), .null]) (rest := []) rfl rfl (by show 2 * 0 + 0 ≤ _; decide) (hb hbytes d6) (⟨rfl, hB.mv X0.warmed.alike hh0, f1.al X0.warmed.alike, f2.al X0.warmed.alike, hA.mv X0.warmed.alike hh0, s1.there X0.warmed.alike hh0, hz, l0, by omega, l2, fun i hi => by rw [Nat.zero_add]; exact hp i hi⟩)
  have e0 := Got.mv _ s₁ s _ _ hh0.symm (Vm.Alike.refl _) rfl E3
  obtain rfl := e0.1
  have c4 : Steps p.tables e below (s₁.setTop (entryFrame m #[.ref a, .ref b] 2)) (T3.setTop (mkF m 9 #[.val (.ref a), .val (.ref b)] [])) := g3
  exact ⟨T3, none, _, _, _, X3, by simp, rfl, by omega, (fun _ => rfl), e0, fun fs hl => c4.trans (X3.returnOut hexec hret (hb hbytes d9) hl)⟩
theorem pays {l : Launch} {R : Room} {p : Program} {e : Env} {below : List Frame} {s : State} {sargs : Array Value} {len W : Nat} (a : Addr) (D : Cell) (fV fC : Field) (b : Addr) (A : Cell) (z : Int32) (htab : tab.before sargs s = true) (hfr : 4 ≤ R.frames) (hlo : W + 65 ≤ R.locals) :
    Back l R p e below s sargs yN len W (fun A₁ a₁ => A₁.cells + 1 ≤ R.cells ∧ A₁.slots + A.slots.size ≤ R.slots ∧ P a D fV fC b A z a₁ A₁.U) (fun A₁ _ v₁ B₁ => E a D fV fC A v₁ A₁.U B₁.U ∧ B₁.locs = A₁.locs ++ [⟨a, fC.slot⟩, ⟨a, fV.slot⟩] ∧ B₁.cells = A₁.cells + 1 ∧ B₁.slots = A₁.slots + A.slots.size) :=
  (law l a D fV fC b A z).pays htab hfr (by omega)
end New1
end StrChars
namespace StrChars.Road
open Jvm Sem ClassFile Op Lib Jvm.Stand Jvm.Free Jvm.Free.XT
open Jvm.Lib.Cold (StaticIs)
abbrev ST : String := "java/lang/String"
/-- every table word that New1's law asks, flat -/
abbrev words : List Jvm.Cond := [.code New1.yN New1.yB 2 none, .initialized ST, .methodLink ST 27 New4.yN, .instanceMethod New4.yN,
  .code New4.yN New4.yB 6 none, .fieldLink ST 38 ST "COMPACT_STRINGS" "Z", .laysFinal ST ST "value" "[B", .fieldLink ST 9 ST "value" "[B", .laysFinal ST ST "coder" "B", .fieldLink ST 15 ST "coder" "B",
  .methodLink ST 1 Lib.objectInit, .instanceMethod Lib.objectInit, .code Lib.objectInit ⟨#[0xb1]⟩ 1 none, .methodLink ST 177 Cmp3.yN, .static Cmp3.yN, .methodLink ST 47 CodL.yN, .static CodL.yN,
  .code Cmp3.yN Cmp3.yB 6 (some (.array .byte)), .initialized U16, .arrayClass .byte, .methodLink U16 115 Cmp5.yN, .static Cmp5.yN, .code Cmp5.yN Cmp5.yB 7 (some .int), .code CodL.yN CodL.yB 2 (some .byte)]
theorem tab_of {a : Array Value} {s : State} (h : ∀ w ∈ words, w.before a s = true) : New1.tab.before a s = true := by
  have h5 : Cmp5.tab.before a s = true := unparts (wk h (.code Cmp5.yN Cmp5.yB 7 (some .int))) (wks h (.initialized Cmp5.yN.cls :: Cmp5.site))
  have hc : CodL.tab.before a s = true := unparts (wk h (.code CodL.yN CodL.yB 2 (some .byte))) (wks h (.initialized CodL.yN.cls :: CodL.site))
  have q5 : ∀ w ∈ Cmp5.tab :: words, w.before a s = true := fun w hw => (List.mem_cons.mp hw).elim (fun e => e ▸ h5) (h w)
  have h3 : Cmp3.tab.before a s = true := unparts (wk q5 (.code Cmp3.yN Cmp3.yB 6 (some (.array .byte)))) (wks q5 (.initialized Cmp3.yN.cls :: Cmp3.site))
  have q3 : ∀ w ∈ Cmp3.tab :: CodL.tab :: words, w.before a s = true := fun w hw => (List.mem_cons.mp hw).elim (fun e => e ▸ h3) fun hw => (List.mem_cons.mp hw).elim (fun e => e ▸ hc) (h w)
  have h4 : New4.tab.before a s = true := unparts (wk q3 (.code New4.yN New4.yB 6 none)) (wks q3 (.initialized New4.yN.cls :: New4.site))
  have q4 : ∀ w ∈ New4.tab :: words, w.before a s = true := fun w hw => (List.mem_cons.mp hw).elim (fun e => e ▸ h4) (h w)
  exact unparts (wk q4 (.code New1.yN New1.yB 2 none)) (wks q4 (.initialized New1.yN.cls :: New1.site))
/-- the words ride from the start Z to the walk's own state -/
theorem moved {Z s : State} {a0 args : Array Value} (hZ : Z.Warmed39 s.vm) (hw : ∀ d ∈ words, d.before a0 Z = true) : ∀ d ∈ words, d.before args s = true := fun d hd => by
  have q := hw d hd
  have t : ∀ d ∈ words, d = .arrayClass .byte ∨ (d.onTables && d.keepsFace) = true := by decide +kernel
  rcases t d hd with rfl | t
  · exact RoadKit.mvA hZ q
  · exact RoadKit.mv hZ q t
/-- WHAT COMES BACK, over the tables of the start Z: h the heap at the call, h' behind it -/
def Q (Z : State) (x : Addr) (A : Cell) (h : Heap) (v : Option Value) (h' : Heap) (L : List Loc) : Prop := v = none ∧ (∀ y ∈ L, y.base = x) ∧ RoadKit.Keep h h' [x] ∧ h'.size = h.size + 1 ∧ RoadKit.Exa Z h' x ST ∧ RoadKit.Fld Z h' x ST "value" "[B" (.ref h.size) ∧ RoadKit.Fld Z h' x ST "coder" "B" (.int 0) ∧
  (∃ V : Cell, RoadKit.Arr Z h' h.size V .byte ∧ V.vm = .none ∧ Z.vm.findClass "[B" = some V.cls ∧ V.slots.size = A.slots.size ∧ ∀ j, j < A.slots.size → V.slots[j]? = some (.int (lo8 (cv A j)))) ∧
  ∀ (O n d : String) (w : Value), RoadKit.Fld Z h x O n d w → RoadKit.slotOf Z O n d ≠ RoadKit.slotOf Z ST "value" "[B" → RoadKit.slotOf Z O n d ≠ RoadKit.slotOf Z ST "coder" "B" → RoadKit.Fld Z h' x O n d w
/-- **new String(chars) AT A CALL, IN THE ROAD'S FORM**: for specialBack behind newO: x the fresh String, b the char[] with the cell A -/
theorem back {p : Program} {l : Launch} {e : Env} {R : Room} {s : State} {args : Array Value} {below : List Frame} {len W : Nat} {Z : State} {a0 : Array Value} {h : Heap} (hZ : Z.Warmed39 s.vm) (hw : ∀ d ∈ words, d.before a0 Z = true) {kI : Nat} (wi : (Jvm.Cond.instantiable ST kI).before a0 Z = true)
    {x b : Addr} {A : Cell} {z : Int32} {v0 c0 : Value} (E : RoadKit.Exa Z h x ST) (V : RoadKit.Fld Z h x ST "value" "[B" v0) (C : RoadKit.Fld Z h x ST "coder" "B" c0) (K : RoadKit.Arr Z h b A .char) (hty : Typed .char A) (S : RoadKit.Sta Z h ST "COMPACT_STRINGS" "Z" (.int z)) (hz : ¬ z = 0)
    (l0 : 0 < A.slots.size) (l2 : A.slots.size ≤ 536870912) (hp : ∀ i, i < A.slots.size → ¬ 255 < cv A i) (hfr : 4 ≤ R.frames) (hlo : W + 65 ≤ R.locals) :
    Back l R p e below s args New1.yN len W (fun P a => a = #[.ref x, .ref b] ∧ P.U.heap = h ∧ P.cells + 1 ≤ R.cells ∧ P.slots + A.slots.size ≤ R.slots)
      (fun P _ v B => ∃ L, Q Z x A h v B.U.heap L ∧ B.locs = P.locs ++ L ∧ B.cells = P.cells + 1 ∧ B.slots = P.slots + A.slots.size) := by
  intro m meth c P g ig mk a X hg hsize hdg hW hn hp'
  obtain ⟨rfl, rfl, r1, r2⟩ := hp'
  have al : Z.vm.Alike P.U.vm := hZ.alike.trans X.warmed.alike
  obtain ⟨D, cfV, kV, iV, fV, hD, gV, stV, knV, obV, asV, slV⟩ := id V
  obtain ⟨D', cfC, kC, iC, fC, hD', gC, stC, -, -, asC, slC⟩ := id C
  cases hD.symm.trans hD'
  obtain ⟨D2, kD, e1, e2, e3, e4, e5⟩ := id E
  cases hD.symm.trans e1
  obtain ⟨c2, k2, i1, i2, i3, -⟩ := Cond.instantiable_spec wi
  cases e2.symm.trans i1
  cases e3.symm.trans i2
  obtain ⟨kU, u1, u2⟩ := al.2.2 _ _ e3
  have hB : Blank ST x D P.U := ⟨hD, ⟨knV, fun q hq => by rw [hq] at obV; cases obV⟩, by rw [al.findClass]; exact e2, kU, u1, by rw [u2]; exact i3, by rw [u2]; exact e5 i3⟩
  have F1 : Found ST "value" "[B" fV P.U := ⟨SBG.found_only al ⟨cfV, kV, iV, gV⟩, stV⟩
  have F2 : Found ST "coder" "B" fC P.U := ⟨SBG.found_only al ⟨cfC, kC, iC, gC⟩, stC⟩
  have hA : Ch b A P.U := ⟨⟨K.1, State.isArrayOf_alike al K.2.1, K.2.2, by omega⟩, hty⟩
  have hS : StaticIs P.U ST "COMPACT_STRINGS" "Z" (.int z) := by
    obtain ⟨cfS, iS, kS, fS, st, cS, t1, t2, t3, t4, t5, t6, t7⟩ := S
    exact StaticIs.there (s := { Z with heap := P.U.heap }) ⟨cfS, iS, kS, fS, st, cS, t1, t2, t3, t4, t5, (fun q => by rw [q] at t6; cases t6), t7⟩ al rfl
  obtain ⟨v, B, X', ⟨⟨hv, E', V', q1, q2, q3, q4, q5, q6, q7, q8, q9, q10, q11⟩, hl, hc, hs⟩, st⟩ := New1.pays x D fV fC b A z (tab_of (moved hZ hw)) hfr hlo m meth c P g ig mk _ X hg hsize hdg hW hn ⟨r1, r2, rfl, hB, F1, F2, hA, hS, hz, l0, l2, hp⟩
  have al' : Z.vm.Alike B.U.vm := hZ.alike.trans X'.warmed.alike
  have hsz : E'.slots.size = D.slots.size := by
    obtain ⟨-, -, -, kB, w1, w2, w3⟩ := q1
    obtain ⟨kB', y1, y2⟩ := al'.2.2 _ _ e3
    rw [q2.2.1] at w1
    cases w1.symm.trans y1
    rw [w3, e5 i3, y2]
  refine ⟨v, B, X', ⟨_, ⟨hv, ?_, ⟨by omega, fun y cy hy hn' => q10 y cy (by simpa using hn') hy, fun y cy hy => ?_⟩, q11, ⟨E', _, q1.1, by rw [q2.2.1]; exact e2, by rw [q2.2.1]; exact e3, by rw [q2.1]; exact obV, fun _ => by rw [hsz]; exact e5 i3⟩,
    ⟨E', cfV, kV, iV, fV, q1.1, gV, stV, by rw [q2.1]; exact knV, by rw [q2.1]; exact obV, by rw [q2.2.1]; exact asV, q3⟩, ⟨E', cfC, kC, iC, fC, q1.1, gC, stC, by rw [q2.1]; exact knV, by rw [q2.1]; exact obV, by rw [q2.2.1]; exact asC, q4⟩,
    ⟨V', ⟨q5.1, State.isArrayOf_alike al'.symm q5.2.1, q5.2.2.1⟩, q6, by rw [← al'.findClass]; exact q7, q8, fun j hj => by have := q9 j hj; rwa [Nat.zero_add] at this⟩, fun O n d w F n1 n2 => ?_⟩, hl, hc, hs⟩, st⟩
  · intro y hy
    simp only [List.mem_cons, List.not_mem_nil, or_false] at hy
    rcases hy with rfl | rfl <;> rfl
  · by_cases q : y = x
    · subst q
      cases hD.symm.trans hy
      exact ⟨E', q1.1, q2.2.1, q2.1, hsz⟩
    · exact ⟨cy, q10 y cy q hy, rfl, rfl, rfl⟩
  · obtain ⟨D3, cf, k, i, f, g1, g2, g3, g4, g5, g6, g7⟩ := F
    cases hD.symm.trans g1
    simp only [RoadKit.slotOf, g2, gV, gC, Option.map_some, Option.getD_some] at n1 n2
    exact ⟨E', cf, k, i, f, q1.1, g2, g3, by rw [q2.1]; exact g4, by rw [q2.1]; exact g5, by rw [q2.2.1]; exact g6, by rw [q2.2.2 f.slot (by simp [n1, n2])]; exact g7⟩
end StrChars.Road
namespace StrChars.Road
open Jvm Sem ClassFile Op Lib Jvm.Stand Jvm.Free Jvm.Free.XT
/-- WHAT COMES BACK, the byte[] as a list of values -/
def QA (Z : State) (x : Addr) (zn : Int32) (cs : List Int32) (h : Heap) (v : Option Value) (h' : Heap) (L : List Loc) : Prop := v = none ∧ (∀ y ∈ L, y.base = x) ∧ RoadKit.Keep h h' [x] ∧ h'.size = h.size + 1 ∧ RoadKit.Exa Z h' x ST ∧ RoadKit.Fld Z h' x ST "value" "[B" (.ref h.size) ∧ RoadKit.Fld Z h' x ST "coder" "B" (.int 0) ∧
  (∃ kb, Z.vm.findClass "[B" = some kb ∧ RoadKit.Arv Z h' h.size kb .byte zn (cs.map fun c => .int (lo8 c)) (.int 0)) ∧
  ∀ (O n d : String) (w : Value), RoadKit.Fld Z h x O n d w → RoadKit.slotOf Z O n d ≠ RoadKit.slotOf Z ST "value" "[B" → RoadKit.slotOf Z O n d ≠ RoadKit.slotOf Z ST "coder" "B" → RoadKit.Fld Z h' x O n d w
/-- **new String(chars) AT A CALL, THE ARRAYS AS LISTS**: the char[] at b holds cs, not empty, no char above 255 -/
theorem backArv {p : Program} {l : Launch} {e : Env} {R : Room} {s : State} {args : Array Value} {below : List Frame} {len W : Nat} {Z : State} {a0 : Array Value} {h : Heap} (hZ : Z.Warmed39 s.vm) (hw : ∀ d ∈ words, d.before a0 Z = true) {kI : Nat} (wi : (Jvm.Cond.instantiable ST kI).before a0 Z = true)
    {x b : Addr} {k : ClassId} {zn z : Int32} {cs : List Int32} {dv v0 c0 : Value} (E : RoadKit.Exa Z h x ST) (V : RoadKit.Fld Z h x ST "value" "[B" v0) (C : RoadKit.Fld Z h x ST "coder" "B" c0) (K : RoadKit.Arv Z h b k .char zn (cs.map Value.int) dv) (S : RoadKit.Sta Z h ST "COMPACT_STRINGS" "Z" (.int z)) (hz : ¬ z = 0)
    (hlen : zn.toNatClampNeg = cs.length) (h0 : 0 < cs.length) (hbig : cs.length ≤ 536870912) (hall : ∀ c ∈ cs, ¬ 255 < c) (hfr : 4 ≤ R.frames) (hlo : W + 65 ≤ R.locals) :
    Back l R p e below s args New1.yN len W (fun P a => a = #[.ref x, .ref b] ∧ P.U.heap = h ∧ P.cells + 1 ≤ R.cells ∧ P.slots + cs.length ≤ R.slots)
      (fun P _ v B => ∃ L, QA Z x zn cs h v B.U.heap L ∧ B.locs = P.locs ++ L ∧ B.cells = P.cells + 1 ∧ B.slots = P.slots + cs.length) := by
  obtain ⟨A, K1, K2, K3, K4, K5, K6⟩ := K
  have e : A.slots.size = cs.length := K3.trans hlen
  have hat : ∀ (i : Nat) (hi : i < cs.length), A.slots[i]? = some (.int cs[i]) := fun i hi => by rw [K5 i (by omega)]; simp [List.getD_eq_getElem?_getD, hi]
  have hcv : ∀ (i : Nat) (hi : i < cs.length), cv A i = cs[i] := fun i hi => by unfold cv; rw [hat i hi]
  have hty : Typed .char A := fun i v hv => by
    have hi : i < A.slots.size := (Array.getElem?_eq_some_iff.mp hv).1
    have q := K5 i hi
    rw [hv] at q
    rw [Option.some.inj q]
    exact K6 i hi
  refine Back.mono (back hZ hw wi E V C K1 hty S hz (by omega) (by omega) (fun i hi => by rw [hcv i (by omega)]; exact hall _ (List.getElem_mem _)) hfr hlo) (fun P a hp => ⟨hp.1, hp.2.1, hp.2.2.1, by rw [e]; exact hp.2.2.2⟩) (fun P a v B hp hq => ?_)
  obtain ⟨L, ⟨q1, q2, q3, q4, q5, q6, q7, ⟨V', v1, v2, v3, v4, v5⟩, q9⟩, hl, hc, hs⟩ := hq
  refine ⟨L, ⟨q1, q2, q3, q4, q5, q6, q7, ⟨V'.cls, v3, V', v1, rfl, by rw [v4, e, hlen], K4, fun i hi => ?_, fun i hi => ?_⟩, q9⟩, hl, hc, by rw [hs, e]⟩
  · have hi' : i < cs.length := by omega
    rw [v5 i (by omega), hcv i hi']; simp [List.getD_eq_getElem?_getD, hi']
  · have hi' : i < cs.length := by omega
    simp only [List.getD_eq_getElem?_getD, List.getElem?_map, List.getElem?_eq_getElem hi', Option.map_some, Option.getD_some]
    exact fits_lo8 _
end StrChars.Road
namespace StrChars.Road
open Jvm Sem ClassFile Op Lib Jvm.Stand Jvm.Free Jvm.Free.XT
/-- WHAT COMES BACK, in the writer's own shape -/
def QV (Z : State) (x : Addr) (N : Int32) (bs : List Int32) (h : Heap) (n0 : Nat) (v : Option Value) (h' : Heap) (L : List Loc) : Prop := v = none ∧ RoadKit.Fr n0 L ∧ RoadKit.Keep h h' [x] ∧ RoadKit.Exa Z h' x ST ∧ RoadKit.Fld Z h' x ST "coder" "B" (.int 0) ∧
  ∃ (t : Addr) (kb : ClassId), n0 ≤ t ∧ h.size ≤ t ∧ ¬ t = x ∧ RoadKit.Fld Z h' x ST "value" "[B" (.ref t) ∧ RoadKit.Arv Z h' t kb .byte N (bs.map Value.int) (.int 0)
/-- **new String(chars) AT A CALL, FOR THE WRITER**: a char[] of n known ints, each 0 to 255 -/
theorem backV {p : Program} {l : Launch} {e : Env} {R : Room} {s : State} {args : Array Value} {below : List Frame} {len W : Nat} {Z : State} {a0 : Array Value} {h : Heap} (hZ : Z.Warmed39 s.vm) (hw : ∀ d ∈ words, d.before a0 Z = true) {kI : Nat} (wi : (Jvm.Cond.instantiable ST kI).before a0 Z = true)
    {x b : Addr} {kC : ClassId} {cs bs : List Int32} {d v0 c0 : Value} {z N : Int32} {n n0 : Nat} (hx0 : n0 ≤ x) (hh0 : n0 ≤ h.size) (E : RoadKit.Exa Z h x ST) (V : RoadKit.Fld Z h x ST "value" "[B" v0) (C : RoadKit.Fld Z h x ST "coder" "B" c0) (K : RoadKit.Arv Z h b kC .char N (cs.map Value.int) d) (S : RoadKit.Sta Z h ST "COMPACT_STRINGS" "Z" (.int z)) (hz : ¬ z = 0)
    (hn : cs.length = n) (hN : N = Int32.ofNat n) (l0 : 0 < n) (l2 : n ≤ 4000) (hp : ∀ c ∈ cs, ¬ c < 0 ∧ ¬ (255 : Int32) < c) (hb : bs = cs.map (fun c => c.toInt8.toInt32)) (hfr : 4 ≤ R.frames) (hlo : W + 65 ≤ R.locals) :
    Back l R p e below s args (⟨"java/lang/String", "<init>", "([C)V"⟩ : MethodName) len W (fun P a => a = #[.ref x, .ref b] ∧ P.U.heap = h ∧ P.cells + 1 ≤ R.cells ∧ P.slots + n ≤ R.slots)
      (fun P _ v B => ∃ L, QV Z x N bs h n0 v B.U.heap L ∧ B.locs = P.locs ++ L ∧ B.cells = P.cells + 1 ∧ B.slots = P.slots + n) := by
  subst hn hN hb
  refine Back.mono (backArv hZ hw wi E V C K S hz (n32 (by omega)) l0 (by omega) (fun c hc => (hp c hc).2) hfr hlo) (fun P a hp => hp) (fun P a v B hp hq => ?_)
  obtain ⟨L, ⟨q1, q2, q3, q4, q5, q6, q7, ⟨kb, v1, v2⟩, q9⟩, hl, hc, hs⟩ := hq
  exact ⟨L, ⟨q1, fun y hy => by rw [q2 y hy]; exact hx0, q3, q5, q7, h.size, kb, hh0, Nat.le_refl _, Nat.ne_of_gt E.lt, q6, by rw [List.map_map]; exact v2⟩, hl, hc, hs⟩
end StrChars.Road
end Jvm.Pilot.@@N@@

namespace Jvm.Pilot.@@N@@
open Jvm Jvm.ClassFile Sem Op Lib Jvm.Free Jvm.Stand Jvm.LawKit Jvm.RoadKit Bundle Jvm.Pilot.@@N@@.Jvm.D


theorem own_and255 (x : Int32) : ¬ (x &&& 255) < 0 ∧ ¬ (255 : Int32) < (x &&& 255) := by
  have h1 : (x &&& 255).toBitVec.toNat ≤ 255 := by
    rw [Int32.toBitVec_and, BitVec.toNat_and]
    exact Nat.and_le_right
  have h2 : (x &&& 255).toInt = ((x &&& 255).toBitVec.toNat : Int) := by
    show (x &&& 255).toBitVec.toInt = _
    rw [BitVec.toInt_eq_toNat_of_lt (by omega)]
  have e0 : (0 : Int32).toInt = 0 := rfl
  have e255 : (255 : Int32).toInt = 255 := rfl
  rw [Int32.lt_iff_toInt_lt, Int32.lt_iff_toInt_lt]
  omega
theorem own_lat (x : Int32) : ∀ c ∈ [(nar .char (x &&& (255 : Int32)).toUInt32.toUInt16.toUInt32.toInt32)], ¬ c < 0 ∧ ¬ (255 : Int32) < c := by
  intro c hc
  obtain rfl := List.mem_singleton.mp hc
  rw [show nar .char ((x &&& (255 : Int32)).toUInt32.toUInt16.toUInt32.toInt32) = x &&& 255 from by simp only [nar, i2c_mask]]
  exact own_and255 x
theorem own_ix14 : ∀ j, j < 14 → own_ix (Int32.ofNat j) = j := by decide +kernel
theorem own_mod (x : Int32) : ∃ j : Nat, j < 14 ∧ ((x &&& (2147483647 : Int32)) % (14 : Int32)) = Int32.ofNat j := by
  have h1 : (x &&& 2147483647).toBitVec.toNat < 2 ^ 31 := by
    rw [Int32.toBitVec_and, BitVec.toNat_and]
    exact Nat.lt_of_le_of_lt Nat.and_le_right (by decide)
  have h2 : (x &&& 2147483647).toInt = ((x &&& 2147483647).toBitVec.toNat : Int) := by
    show (x &&& 2147483647).toBitVec.toInt = _
    rw [BitVec.toInt_eq_toNat_of_lt (by omega)]
  have h3 : ((x &&& 2147483647) % 14).toInt = (x &&& 2147483647).toInt % 14 := by
    rw [Int32.toInt_mod, Int.tmod_eq_emod_of_nonneg (by omega)]; rfl
  refine ⟨((x &&& 2147483647) % 14).toInt.toNat, by omega, ?_⟩
  apply Int32.toInt_inj.mp
  rw [Int32.toInt_ofNat_of_lt (by omega)]
  omega
theorem own_same_ref {Z : State} {wf : Nat → Addr} (hOrd : ∀ j, j < 14 → Fld Z Z.heap (wf j) "java/lang/Enum" "ordinal" "I" (.int (own_ord j))) {i j : Nat} (hi : i < 14) (hj : j < 14) : Value.ref (wf i) = Value.ref (wf j) ↔ (Int32.ofNat i = Int32.ofNat j) := by
  refine ⟨fun h => ?_, fun h => ?_⟩
  · have e := Value.ref.inj h
    by_cases q : own_ord i = own_ord j
    · rw [own_ord_inj i hi j hj q]
    · exact absurd e (Fld.ne (hOrd i hi) (hOrd j hj) fun z => q (Value.int.inj z))
  · have h := congrArg Int32.toInt h
    rw [Int32.toInt_ofNat_of_lt (by omega), Int32.toInt_ofNat_of_lt (by omega)] at h
    rw [show i = j by omega]
theorem own_core {Z : State} {wf : Nat → Addr} (hOrd : ∀ j, j < 14 → Fld Z Z.heap (wf j) "java/lang/Enum" "ordinal" "I" (.int (own_ord j))) {x y : Int32} (hx : ∃ j, j < 14 ∧ x = Int32.ofNat j) (hy : ∃ j, j < 14 ∧ y = Int32.ofNat j) (s t : Int32) :
    own_same (wf (own_ix x)) (wf (own_ix y)) s t = (if x = y then (if s = t then (1 : Int32) else (0 : Int32)) else (0 : Int32)) := by
  obtain ⟨i, hi, rfl⟩ := hx
  obtain ⟨j, hj, rfl⟩ := hy
  rw [own_ix14 i hi, own_ix14 j hj, own_same]
  by_cases h : Int32.ofNat i = Int32.ofNat j
  · rw [if_pos ((own_same_ref hOrd hi hj).mpr h), if_pos h]
  · rw [if_neg (fun q => h ((own_same_ref hOrd hi hj).mp q)), if_neg h]
theorem own_pick (x y c : Int32) : ∃ j, j < 14 ∧ (if c = (0 : Int32) then ((y &&& (2147483647 : Int32)) % (14 : Int32)) else ((x &&& (2147483647 : Int32)) % (14 : Int32))) = Int32.ofNat j := by
  by_cases h : c = (0 : Int32)
  · rw [if_pos h]; exact own_mod y
  · rw [if_neg h]; exact own_mod x
theorem own_law1 {Z : State} {wf : Nat → Addr} (hOrd : ∀ j, j < 14 → Fld Z Z.heap (wf j) "java/lang/Enum" "ordinal" "I" (.int (own_ord j))) (p0 p1 p2 p3 p4 : Int32) : (own_same (wf (own_ix ((p0 &&& (2147483647 : Int32)) % (14 : Int32)))) (wf (own_ix (if (p4 &&& (1 : Int32)) = (0 : Int32) then ((p1 &&& (2147483647 : Int32)) % (14 : Int32)) else ((p0 &&& (2147483647 : Int32)) % (14 : Int32))))) p2 (if (p4 &&& (2 : Int32)) = (0 : Int32) then p3 else p2)) = (if ((p0 &&& (2147483647 : Int32)) % (14 : Int32)) = (if (p4 &&& (1 : Int32)) = (0 : Int32) then ((p1 &&& (2147483647 : Int32)) % (14 : Int32)) else ((p0 &&& (2147483647 : Int32)) % (14 : Int32))) then (if p2 = (if (p4 &&& (2 : Int32)) = (0 : Int32) then p3 else p2) then (1 : Int32) else (0 : Int32)) else (0 : Int32)) := own_core hOrd (own_mod _) (own_pick _ _ _) _ _
theorem own_law2 {Z : State} {wf : Nat → Addr} (hOrd : ∀ j, j < 14 → Fld Z Z.heap (wf j) "java/lang/Enum" "ordinal" "I" (.int (own_ord j))) (p0 p1 p2 p3 p4 : Int32) : (own_same (wf (own_ix (if (p4 &&& (1 : Int32)) = (0 : Int32) then ((p1 &&& (2147483647 : Int32)) % (14 : Int32)) else ((p0 &&& (2147483647 : Int32)) % (14 : Int32))))) (wf (own_ix ((p0 &&& (2147483647 : Int32)) % (14 : Int32)))) (if (p4 &&& (2 : Int32)) = (0 : Int32) then p3 else p2) p2) = (if ((p0 &&& (2147483647 : Int32)) % (14 : Int32)) = (if (p4 &&& (1 : Int32)) = (0 : Int32) then ((p1 &&& (2147483647 : Int32)) % (14 : Int32)) else ((p0 &&& (2147483647 : Int32)) % (14 : Int32))) then (if p2 = (if (p4 &&& (2 : Int32)) = (0 : Int32) then p3 else p2) then (1 : Int32) else (0 : Int32)) else (0 : Int32)) := (own_core hOrd (own_pick _ _ _) (own_mod _) _ _).trans (by simp only [eq_comm])

theorem dP_0 : decode method_2_code 0 = .ok (.iload_n 0, 1) := by decide +kernel
theorem dP_1 : decode method_2_code 1 = .ok (.ifCond .ne 7, 3) := by decide +kernel
theorem dP_4 : decode method_2_code 4 = .ok (.getstatic 7, 3) := by decide +kernel
theorem dP_7 : decode method_2_code 7 = .ok (.areturn, 1) := by decide +kernel
theorem dP_8 : decode method_2_code 8 = .ok (.iload_n 0, 1) := by decide +kernel
theorem dP_9 : decode method_2_code 9 = .ok (.iconst 1, 1) := by decide +kernel
theorem dP_10 : decode method_2_code 10 = .ok (.if_icmp .ne 7, 3) := by decide +kernel
theorem dP_13 : decode method_2_code 13 = .ok (.getstatic 13, 3) := by decide +kernel
theorem dP_16 : decode method_2_code 16 = .ok (.areturn, 1) := by decide +kernel
theorem dP_17 : decode method_2_code 17 = .ok (.iload_n 0, 1) := by decide +kernel
theorem dP_18 : decode method_2_code 18 = .ok (.iconst 2, 1) := by decide +kernel
theorem dP_19 : decode method_2_code 19 = .ok (.if_icmp .ne 7, 3) := by decide +kernel
theorem dP_22 : decode method_2_code 22 = .ok (.getstatic 16, 3) := by decide +kernel
theorem dP_25 : decode method_2_code 25 = .ok (.areturn, 1) := by decide +kernel
theorem dP_26 : decode method_2_code 26 = .ok (.iload_n 0, 1) := by decide +kernel
theorem dP_27 : decode method_2_code 27 = .ok (.iconst 3, 1) := by decide +kernel
theorem dP_28 : decode method_2_code 28 = .ok (.if_icmp .ne 7, 3) := by decide +kernel
theorem dP_31 : decode method_2_code 31 = .ok (.getstatic 19, 3) := by decide +kernel
theorem dP_34 : decode method_2_code 34 = .ok (.areturn, 1) := by decide +kernel
theorem dP_35 : decode method_2_code 35 = .ok (.iload_n 0, 1) := by decide +kernel
theorem dP_36 : decode method_2_code 36 = .ok (.iconst 4, 1) := by decide +kernel
theorem dP_37 : decode method_2_code 37 = .ok (.if_icmp .ne 7, 3) := by decide +kernel
theorem dP_40 : decode method_2_code 40 = .ok (.getstatic 22, 3) := by decide +kernel
theorem dP_43 : decode method_2_code 43 = .ok (.areturn, 1) := by decide +kernel
theorem dP_44 : decode method_2_code 44 = .ok (.iload_n 0, 1) := by decide +kernel
theorem dP_45 : decode method_2_code 45 = .ok (.iconst 5, 1) := by decide +kernel
theorem dP_46 : decode method_2_code 46 = .ok (.if_icmp .ne 7, 3) := by decide +kernel
theorem dP_49 : decode method_2_code 49 = .ok (.getstatic 25, 3) := by decide +kernel
theorem dP_52 : decode method_2_code 52 = .ok (.areturn, 1) := by decide +kernel
theorem dP_53 : decode method_2_code 53 = .ok (.iload_n 0, 1) := by decide +kernel
theorem dP_54 : decode method_2_code 54 = .ok (.bipush 6, 2) := by decide +kernel
theorem dP_56 : decode method_2_code 56 = .ok (.if_icmp .ne 7, 3) := by decide +kernel
theorem dP_59 : decode method_2_code 59 = .ok (.getstatic 28, 3) := by decide +kernel
theorem dP_62 : decode method_2_code 62 = .ok (.areturn, 1) := by decide +kernel
theorem dP_63 : decode method_2_code 63 = .ok (.iload_n 0, 1) := by decide +kernel
theorem dP_64 : decode method_2_code 64 = .ok (.bipush 7, 2) := by decide +kernel
theorem dP_66 : decode method_2_code 66 = .ok (.if_icmp .ne 7, 3) := by decide +kernel
theorem dP_69 : decode method_2_code 69 = .ok (.getstatic 31, 3) := by decide +kernel
theorem dP_72 : decode method_2_code 72 = .ok (.areturn, 1) := by decide +kernel
theorem dP_73 : decode method_2_code 73 = .ok (.iload_n 0, 1) := by decide +kernel
theorem dP_74 : decode method_2_code 74 = .ok (.bipush 8, 2) := by decide +kernel
theorem dP_76 : decode method_2_code 76 = .ok (.if_icmp .ne 7, 3) := by decide +kernel
theorem dP_79 : decode method_2_code 79 = .ok (.getstatic 34, 3) := by decide +kernel
theorem dP_82 : decode method_2_code 82 = .ok (.areturn, 1) := by decide +kernel
theorem dP_83 : decode method_2_code 83 = .ok (.iload_n 0, 1) := by decide +kernel
theorem dP_84 : decode method_2_code 84 = .ok (.bipush 9, 2) := by decide +kernel
theorem dP_86 : decode method_2_code 86 = .ok (.if_icmp .ne 7, 3) := by decide +kernel
theorem dP_89 : decode method_2_code 89 = .ok (.getstatic 37, 3) := by decide +kernel
theorem dP_92 : decode method_2_code 92 = .ok (.areturn, 1) := by decide +kernel
theorem dP_93 : decode method_2_code 93 = .ok (.iload_n 0, 1) := by decide +kernel
theorem dP_94 : decode method_2_code 94 = .ok (.bipush 10, 2) := by decide +kernel
theorem dP_96 : decode method_2_code 96 = .ok (.if_icmp .ne 7, 3) := by decide +kernel
theorem dP_99 : decode method_2_code 99 = .ok (.getstatic 40, 3) := by decide +kernel
theorem dP_102 : decode method_2_code 102 = .ok (.areturn, 1) := by decide +kernel
theorem dP_103 : decode method_2_code 103 = .ok (.iload_n 0, 1) := by decide +kernel
theorem dP_104 : decode method_2_code 104 = .ok (.bipush 11, 2) := by decide +kernel
theorem dP_106 : decode method_2_code 106 = .ok (.if_icmp .ne 7, 3) := by decide +kernel
theorem dP_109 : decode method_2_code 109 = .ok (.getstatic 43, 3) := by decide +kernel
theorem dP_112 : decode method_2_code 112 = .ok (.areturn, 1) := by decide +kernel
theorem dP_113 : decode method_2_code 113 = .ok (.iload_n 0, 1) := by decide +kernel
theorem dP_114 : decode method_2_code 114 = .ok (.bipush 12, 2) := by decide +kernel
theorem dP_116 : decode method_2_code 116 = .ok (.if_icmp .ne 7, 3) := by decide +kernel
theorem dP_119 : decode method_2_code 119 = .ok (.getstatic 46, 3) := by decide +kernel
theorem dP_122 : decode method_2_code 122 = .ok (.areturn, 1) := by decide +kernel
theorem dP_123 : decode method_2_code 123 = .ok (.getstatic 49, 3) := by decide +kernel
theorem dP_126 : decode method_2_code 126 = .ok (.areturn, 1) := by decide +kernel
theorem pn_P : plainName "com/example/kind4/kind4/model/DomainSameTypePinLaw" = true := by first | (simp [plainName, overriddenIn]; done) | decide +kernel
theorem ef_P (m : MethodId) (x0 : Int32) : entryFrame m #[(.int x0)] 1 = mkF m 0 #[.val (.int x0)] [] := by first | (simp [entryFrame, mkF, argsToLocals, Value.category]; done) | rfl
def QP (Z : State) (k0 : Int32) (wf : Nat → Addr) (h0 : Heap) (n0 : Nat) (v : Option Value) (h : Heap) (L : List Loc) : Prop := v = some (.ref (wf (own_ix k0))) ∧ Fr n0 L ∧ h = h0
set_option maxRecDepth 65536 in
set_option maxHeartbeats 40000000 in
theorem rmP (l : Launch) (Z : State) (a0 : Array Value) (hw : ∀ d ∈ tables_1, d.before a0 Z = true) (ws : List Jvm.Cond) (k0 : Int32) (wf : Nat → Addr) (h0 : Heap) (n0 : Nat) (Z0 : n0 ≤ h0.size) (hO : Old Z n0 h0) (S_STRING : Sta Z Z.heap "com/example/kind4/kind4/model/Primitive" "STRING" "Lcom/example/kind4/kind4/model/Primitive;" (.ref (wf 0))) (S_UNBOUNDED_STRING : Sta Z Z.heap "com/example/kind4/kind4/model/Primitive" "UNBOUNDED_STRING" "Lcom/example/kind4/kind4/model/Primitive;" (.ref (wf 1))) (S_BLOB : Sta Z Z.heap "com/example/kind4/kind4/model/Primitive" "BLOB" "Lcom/example/kind4/kind4/model/Primitive;" (.ref (wf 2))) (S_BOOLEAN : Sta Z Z.heap "com/example/kind4/kind4/model/Primitive" "BOOLEAN" "Lcom/example/kind4/kind4/model/Primitive;" (.ref (wf 3))) (S_CHAR : Sta Z Z.heap "com/example/kind4/kind4/model/Primitive" "CHAR" "Lcom/example/kind4/kind4/model/Primitive;" (.ref (wf 4))) (S_DATE : Sta Z Z.heap "com/example/kind4/kind4/model/Primitive" "DATE" "Lcom/example/kind4/kind4/model/Primitive;" (.ref (wf 5))) (S_DATETIME : Sta Z Z.heap "com/example/kind4/kind4/model/Primitive" "DATETIME" "Lcom/example/kind4/kind4/model/Primitive;" (.ref (wf 6))) (S_DOUBLE : Sta Z Z.heap "com/example/kind4/kind4/model/Primitive" "DOUBLE" "Lcom/example/kind4/kind4/model/Primitive;" (.ref (wf 7))) (S_FLOAT : Sta Z Z.heap "com/example/kind4/kind4/model/Primitive" "FLOAT" "Lcom/example/kind4/kind4/model/Primitive;" (.ref (wf 8))) (S_INT8 : Sta Z Z.heap "com/example/kind4/kind4/model/Primitive" "INT8" "Lcom/example/kind4/kind4/model/Primitive;" (.ref (wf 9))) (S_INT16 : Sta Z Z.heap "com/example/kind4/kind4/model/Primitive" "INT16" "Lcom/example/kind4/kind4/model/Primitive;" (.ref (wf 10))) (S_INT32 : Sta Z Z.heap "com/example/kind4/kind4/model/Primitive" "INT32" "Lcom/example/kind4/kind4/model/Primitive;" (.ref (wf 11))) (S_INT64 : Sta Z Z.heap "com/example/kind4/kind4/model/Primitive" "INT64" "Lcom/example/kind4/kind4/model/Primitive;" (.ref (wf 12))) (S_MONEY : Sta Z Z.heap "com/example/kind4/kind4/model/Primitive" "MONEY" "Lcom/example/kind4/kind4/model/Primitive;" (.ref (wf 13))) :
    MetFree l (⟨"com/example/kind4/kind4/model/DomainSameTypePinLaw", "prim", "(I)Lcom/example/kind4/kind4/model/Primitive;"⟩ : MethodName) (head1 (Jvm.Cond.code (⟨"com/example/kind4/kind4/model/DomainSameTypePinLaw", "prim", "(I)Lcom/example/kind4/kind4/model/Primitive;"⟩ : MethodName) method_2_code 1 (some (.object "com/example/kind4/kind4/model/Primitive")) :: ws) ({ frames := 0, cells := 0, slots := 0, locals := 0 } : Room)) (fun aA oU => aA = #[(.int k0)] ∧ Z.Warmed39 oU.vm ∧ oU.heap = h0) (fun _ _ _ _ _ => True) (fun _ oU oO oU' => ∃ oV oL, oO = .returned oV ∧ QP Z k0 wf h0 n0 oV oU'.heap oL ∧ FrameEnd oU oO oU' oL ({ frames := 0, cells := 0, slots := 0, locals := 0 } : Room).cells ({ frames := 0, cells := 0, slots := 0, locals := 0 } : Room).slots) := by
  refine MetFree.of_bodySF (plainFor_of_name pn_P) hisR ?_
  intro p e s m args below meth c s₁ Bd hml0 hP hK
  obtain ⟨rfl, hZ, hh⟩ := hP
  have hx := Bd.exec
  have hby := Bd.bytes
  have hlk := BodyLoose.notSynchronized Bd
  have hml : c.maxLocals = 1 := hml0
  have hown : s.vm.findClass "com/example/kind4/kind4/model/DomainSameTypePinLaw" = some m.cls := findClass_of_methodNamed Bd.named
  have hnm := (name_of_methodNamed Bd.named Bd.method).1
  have X0 : Stand p l e ({ frames := 0, cells := 0, slots := 0, locals := 0 } : Room) s m #[(.int k0)] below meth c s₁ [] 0 0 := Stand.of_body Bd
  have e0 : s₁.heap = h0 := by rw [← hh, Bd.state]; rfl
  have N0 := Fr.nil n0
  show OG p e below s ({ frames := 0, cells := 0, slots := 0, locals := 0 } : Room).cells ({ frames := 0, cells := 0, slots := 0, locals := 0 } : Room).slots (QP Z k0 wf h0 n0) _
  refine OG.of (fun oT oK => castTop (ef_P m k0) oK) ?_
  show OG p e below s _ _ _ (s₁.setTop (mkF m 0 #[.val (.int k0)] []))
  refine OG.of (A := s₁.setTop (mkF m 1 #[.val (.int k0)] [(.int k0)])) (fun oT oK => ?_) ?_
  · show Steps p.tables e below (s₁.setTop (mkF m 0 #[.val (.int k0)] [])) oT
    refine XS.iloadN X0.here hx rfl (hb hby dP_0) rfl  ?_
    exact oK
  show OG _ _ _ _ _ _ _ (s₁.setTop (mkF m 1 #[.val (.int k0)] [(.int k0)]))
  by_cases hc1_1 : k0 = (0 : Int32)
  · refine OG.of (fun oT oK => XS.ifNo X0.here hx rfl (hb hby dP_1) rfl (XT.i0_ne_f hc1_1) oK) ?_
    show OG _ _ _ _ _ _ _ (s₁.setTop (mkF m 4 #[.val (.int k0)] []))
    obtain ⟨T1, X1, e1, st1⟩ := getS2 X0 hx hZ hown (host := "") (Or.inl (hw _ (List.mem_of_getElem? (i := 44) rfl))) Via.refl e0 (S_STRING.ext (hO).2) (g := (mkF m 4 #[.val (.int k0)] [])) rfl (hb hby dP_4)
    refine OG.of st1 ?_
    show OG _ _ _ _ _ _ _ (T1.setTop (mkF m 7 #[.val (.int k0)] [(.ref (wf 0))]))
    refine OG.retA X1 hx Bd.returns rfl rfl (hb hby dP_7) hlk ?_ (by decide) (by decide)
    try rw [e1]
    exact ⟨by rw [own_ix, if_pos hc1_1] <;> rfl, N0, rfl⟩
  · refine OG.of (fun oT oK => XS.ifYes X0.here hx rfl (pc0 := 1) (pc' := 8) rfl (hb hby dP_1) rfl (XT.i0_ne_t hc1_1) (by decide) (by decide) oK) ?_
    show OG _ _ _ _ _ _ _ (s₁.setTop (mkF m 8 #[.val (.int k0)] []))
    refine OG.of (A := s₁.setTop (mkF m 10 #[.val (.int k0)] [(.int (1 : Int32)), (.int k0)])) (fun oT oK => ?_) ?_
    · show Steps p.tables e below (s₁.setTop (mkF m 8 #[.val (.int k0)] [])) oT
      refine XS.iloadN X0.here hx rfl (hb hby dP_8) rfl  ?_
      show Steps p.tables e below (s₁.setTop (mkF m 9 #[.val (.int k0)] [(.int k0)])) _
      refine XS.iconst X0.here hx rfl (hb hby dP_9) ?_
      exact oK
    show OG _ _ _ _ _ _ _ (s₁.setTop (mkF m 10 #[.val (.int k0)] [(.int (1 : Int32)), (.int k0)]))
    by_cases hc10_2 : k0 = (1 : Int32)
    · refine OG.of (fun oT oK => XS.icmpNo X0.here hx rfl (hb hby dP_10) rfl (XT.ii_ne_f hc10_2) oK) ?_
      show OG _ _ _ _ _ _ _ (s₁.setTop (mkF m 13 #[.val (.int k0)] []))
      obtain ⟨T2, X2, e2, st2⟩ := getS2 X0 hx hZ hown (host := "") (Or.inl (hw _ (List.mem_of_getElem? (i := 89) rfl))) Via.refl e0 (S_UNBOUNDED_STRING.ext (hO).2) (g := (mkF m 13 #[.val (.int k0)] [])) rfl (hb hby dP_13)
      refine OG.of st2 ?_
      show OG _ _ _ _ _ _ _ (T2.setTop (mkF m 16 #[.val (.int k0)] [(.ref (wf 1))]))
      refine OG.retA X2 hx Bd.returns rfl rfl (hb hby dP_16) hlk ?_ (by decide) (by decide)
      try rw [e2]
      exact ⟨by rw [own_ix, if_neg hc1_1, if_pos hc10_2] <;> rfl, N0, rfl⟩
    · refine OG.of (fun oT oK => XS.icmpYes X0.here hx rfl (pc0 := 10) (pc' := 17) rfl (hb hby dP_10) rfl (XT.ii_ne_t hc10_2) (by decide) (by decide) oK) ?_
      show OG _ _ _ _ _ _ _ (s₁.setTop (mkF m 17 #[.val (.int k0)] []))
      refine OG.of (A := s₁.setTop (mkF m 19 #[.val (.int k0)] [(.int (2 : Int32)), (.int k0)])) (fun oT oK => ?_) ?_
      · show Steps p.tables e below (s₁.setTop (mkF m 17 #[.val (.int k0)] [])) oT
        refine XS.iloadN X0.here hx rfl (hb hby dP_17) rfl  ?_
        show Steps p.tables e below (s₁.setTop (mkF m 18 #[.val (.int k0)] [(.int k0)])) _
        refine XS.iconst X0.here hx rfl (hb hby dP_18) ?_
        exact oK
      show OG _ _ _ _ _ _ _ (s₁.setTop (mkF m 19 #[.val (.int k0)] [(.int (2 : Int32)), (.int k0)]))
      by_cases hc19_3 : k0 = (2 : Int32)
      · refine OG.of (fun oT oK => XS.icmpNo X0.here hx rfl (hb hby dP_19) rfl (XT.ii_ne_f hc19_3) oK) ?_
        show OG _ _ _ _ _ _ _ (s₁.setTop (mkF m 22 #[.val (.int k0)] []))
        obtain ⟨T3, X3, e3, st3⟩ := getS2 X0 hx hZ hown (host := "") (Or.inl (hw _ (List.mem_of_getElem? (i := 91) rfl))) Via.refl e0 (S_BLOB.ext (hO).2) (g := (mkF m 22 #[.val (.int k0)] [])) rfl (hb hby dP_22)
        refine OG.of st3 ?_
        show OG _ _ _ _ _ _ _ (T3.setTop (mkF m 25 #[.val (.int k0)] [(.ref (wf 2))]))
        refine OG.retA X3 hx Bd.returns rfl rfl (hb hby dP_25) hlk ?_ (by decide) (by decide)
        try rw [e3]
        exact ⟨by rw [own_ix, if_neg hc1_1, if_neg hc10_2, if_pos hc19_3] <;> rfl, N0, rfl⟩
      · refine OG.of (fun oT oK => XS.icmpYes X0.here hx rfl (pc0 := 19) (pc' := 26) rfl (hb hby dP_19) rfl (XT.ii_ne_t hc19_3) (by decide) (by decide) oK) ?_
        show OG _ _ _ _ _ _ _ (s₁.setTop (mkF m 26 #[.val (.int k0)] []))
        refine OG.of (A := s₁.setTop (mkF m 28 #[.val (.int k0)] [(.int (3 : Int32)), (.int k0)])) (fun oT oK => ?_) ?_
        · show Steps p.tables e below (s₁.setTop (mkF m 26 #[.val (.int k0)] [])) oT
          refine XS.iloadN X0.here hx rfl (hb hby dP_26) rfl  ?_
          show Steps p.tables e below (s₁.setTop (mkF m 27 #[.val (.int k0)] [(.int k0)])) _
          refine XS.iconst X0.here hx rfl (hb hby dP_27) ?_
          exact oK
        show OG _ _ _ _ _ _ _ (s₁.setTop (mkF m 28 #[.val (.int k0)] [(.int (3 : Int32)), (.int k0)]))
        by_cases hc28_4 : k0 = (3 : Int32)
        · refine OG.of (fun oT oK => XS.icmpNo X0.here hx rfl (hb hby dP_28) rfl (XT.ii_ne_f hc28_4) oK) ?_
          show OG _ _ _ _ _ _ _ (s₁.setTop (mkF m 31 #[.val (.int k0)] []))
          obtain ⟨T4, X4, e4, st4⟩ := getS2 X0 hx hZ hown (host := "") (Or.inl (hw _ (List.mem_of_getElem? (i := 66) rfl))) Via.refl e0 (S_BOOLEAN.ext (hO).2) (g := (mkF m 31 #[.val (.int k0)] [])) rfl (hb hby dP_31)
          refine OG.of st4 ?_
          show OG _ _ _ _ _ _ _ (T4.setTop (mkF m 34 #[.val (.int k0)] [(.ref (wf 3))]))
          refine OG.retA X4 hx Bd.returns rfl rfl (hb hby dP_34) hlk ?_ (by decide) (by decide)
          try rw [e4]
          exact ⟨by rw [own_ix, if_neg hc1_1, if_neg hc10_2, if_neg hc19_3, if_pos hc28_4] <;> rfl, N0, rfl⟩
        · refine OG.of (fun oT oK => XS.icmpYes X0.here hx rfl (pc0 := 28) (pc' := 35) rfl (hb hby dP_28) rfl (XT.ii_ne_t hc28_4) (by decide) (by decide) oK) ?_
          show OG _ _ _ _ _ _ _ (s₁.setTop (mkF m 35 #[.val (.int k0)] []))
          refine OG.of (A := s₁.setTop (mkF m 37 #[.val (.int k0)] [(.int (4 : Int32)), (.int k0)])) (fun oT oK => ?_) ?_
          · show Steps p.tables e below (s₁.setTop (mkF m 35 #[.val (.int k0)] [])) oT
            refine XS.iloadN X0.here hx rfl (hb hby dP_35) rfl  ?_
            show Steps p.tables e below (s₁.setTop (mkF m 36 #[.val (.int k0)] [(.int k0)])) _
            refine XS.iconst X0.here hx rfl (hb hby dP_36) ?_
            exact oK
          show OG _ _ _ _ _ _ _ (s₁.setTop (mkF m 37 #[.val (.int k0)] [(.int (4 : Int32)), (.int k0)]))
          by_cases hc37_5 : k0 = (4 : Int32)
          · refine OG.of (fun oT oK => XS.icmpNo X0.here hx rfl (hb hby dP_37) rfl (XT.ii_ne_f hc37_5) oK) ?_
            show OG _ _ _ _ _ _ _ (s₁.setTop (mkF m 40 #[.val (.int k0)] []))
            obtain ⟨T5, X5, e5, st5⟩ := getS2 X0 hx hZ hown (host := "") (Or.inl (hw _ (List.mem_of_getElem? (i := 73) rfl))) Via.refl e0 (S_CHAR.ext (hO).2) (g := (mkF m 40 #[.val (.int k0)] [])) rfl (hb hby dP_40)
            refine OG.of st5 ?_
            show OG _ _ _ _ _ _ _ (T5.setTop (mkF m 43 #[.val (.int k0)] [(.ref (wf 4))]))
            refine OG.retA X5 hx Bd.returns rfl rfl (hb hby dP_43) hlk ?_ (by decide) (by decide)
            try rw [e5]
            exact ⟨by rw [own_ix, if_neg hc1_1, if_neg hc10_2, if_neg hc19_3, if_neg hc28_4, if_pos hc37_5] <;> rfl, N0, rfl⟩
          · refine OG.of (fun oT oK => XS.icmpYes X0.here hx rfl (pc0 := 37) (pc' := 44) rfl (hb hby dP_37) rfl (XT.ii_ne_t hc37_5) (by decide) (by decide) oK) ?_
            show OG _ _ _ _ _ _ _ (s₁.setTop (mkF m 44 #[.val (.int k0)] []))
            refine OG.of (A := s₁.setTop (mkF m 46 #[.val (.int k0)] [(.int (5 : Int32)), (.int k0)])) (fun oT oK => ?_) ?_
            · show Steps p.tables e below (s₁.setTop (mkF m 44 #[.val (.int k0)] [])) oT
              refine XS.iloadN X0.here hx rfl (hb hby dP_44) rfl  ?_
              show Steps p.tables e below (s₁.setTop (mkF m 45 #[.val (.int k0)] [(.int k0)])) _
              refine XS.iconst X0.here hx rfl (hb hby dP_45) ?_
              exact oK
            show OG _ _ _ _ _ _ _ (s₁.setTop (mkF m 46 #[.val (.int k0)] [(.int (5 : Int32)), (.int k0)]))
            by_cases hc46_6 : k0 = (5 : Int32)
            · refine OG.of (fun oT oK => XS.icmpNo X0.here hx rfl (hb hby dP_46) rfl (XT.ii_ne_f hc46_6) oK) ?_
              show OG _ _ _ _ _ _ _ (s₁.setTop (mkF m 49 #[.val (.int k0)] []))
              obtain ⟨T6, X6, e6, st6⟩ := getS2 X0 hx hZ hown (host := "") (Or.inl (hw _ (List.mem_of_getElem? (i := 93) rfl))) Via.refl e0 (S_DATE.ext (hO).2) (g := (mkF m 49 #[.val (.int k0)] [])) rfl (hb hby dP_49)
              refine OG.of st6 ?_
              show OG _ _ _ _ _ _ _ (T6.setTop (mkF m 52 #[.val (.int k0)] [(.ref (wf 5))]))
              refine OG.retA X6 hx Bd.returns rfl rfl (hb hby dP_52) hlk ?_ (by decide) (by decide)
              try rw [e6]
              exact ⟨by rw [own_ix, if_neg hc1_1, if_neg hc10_2, if_neg hc19_3, if_neg hc28_4, if_neg hc37_5, if_pos hc46_6] <;> rfl, N0, rfl⟩
            · refine OG.of (fun oT oK => XS.icmpYes X0.here hx rfl (pc0 := 46) (pc' := 53) rfl (hb hby dP_46) rfl (XT.ii_ne_t hc46_6) (by decide) (by decide) oK) ?_
              show OG _ _ _ _ _ _ _ (s₁.setTop (mkF m 53 #[.val (.int k0)] []))
              refine OG.of (A := s₁.setTop (mkF m 56 #[.val (.int k0)] [(.int (6 : Int32)), (.int k0)])) (fun oT oK => ?_) ?_
              · show Steps p.tables e below (s₁.setTop (mkF m 53 #[.val (.int k0)] [])) oT
                refine XS.iloadN X0.here hx rfl (hb hby dP_53) rfl  ?_
                show Steps p.tables e below (s₁.setTop (mkF m 54 #[.val (.int k0)] [(.int k0)])) _
                refine XS.bipush X0.here hx rfl (hb hby dP_54) ?_
                exact oK
              show OG _ _ _ _ _ _ _ (s₁.setTop (mkF m 56 #[.val (.int k0)] [(.int (6 : Int32)), (.int k0)]))
              by_cases hc56_7 : k0 = (6 : Int32)
              · refine OG.of (fun oT oK => XS.icmpNo X0.here hx rfl (hb hby dP_56) rfl (XT.ii_ne_f hc56_7) oK) ?_
                show OG _ _ _ _ _ _ _ (s₁.setTop (mkF m 59 #[.val (.int k0)] []))
                obtain ⟨T7, X7, e7, st7⟩ := getS2 X0 hx hZ hown (host := "") (Or.inl (hw _ (List.mem_of_getElem? (i := 95) rfl))) Via.refl e0 (S_DATETIME.ext (hO).2) (g := (mkF m 59 #[.val (.int k0)] [])) rfl (hb hby dP_59)
                refine OG.of st7 ?_
                show OG _ _ _ _ _ _ _ (T7.setTop (mkF m 62 #[.val (.int k0)] [(.ref (wf 6))]))
                refine OG.retA X7 hx Bd.returns rfl rfl (hb hby dP_62) hlk ?_ (by decide) (by decide)
                try rw [e7]
                exact ⟨by rw [own_ix, if_neg hc1_1, if_neg hc10_2, if_neg hc19_3, if_neg hc28_4, if_neg hc37_5, if_neg hc46_6, if_pos hc56_7] <;> rfl, N0, rfl⟩
              · refine OG.of (fun oT oK => XS.icmpYes X0.here hx rfl (pc0 := 56) (pc' := 63) rfl (hb hby dP_56) rfl (XT.ii_ne_t hc56_7) (by decide) (by decide) oK) ?_
                show OG _ _ _ _ _ _ _ (s₁.setTop (mkF m 63 #[.val (.int k0)] []))
                refine OG.of (A := s₁.setTop (mkF m 66 #[.val (.int k0)] [(.int (7 : Int32)), (.int k0)])) (fun oT oK => ?_) ?_
                · show Steps p.tables e below (s₁.setTop (mkF m 63 #[.val (.int k0)] [])) oT
                  refine XS.iloadN X0.here hx rfl (hb hby dP_63) rfl  ?_
                  show Steps p.tables e below (s₁.setTop (mkF m 64 #[.val (.int k0)] [(.int k0)])) _
                  refine XS.bipush X0.here hx rfl (hb hby dP_64) ?_
                  exact oK
                show OG _ _ _ _ _ _ _ (s₁.setTop (mkF m 66 #[.val (.int k0)] [(.int (7 : Int32)), (.int k0)]))
                by_cases hc66_8 : k0 = (7 : Int32)
                · refine OG.of (fun oT oK => XS.icmpNo X0.here hx rfl (hb hby dP_66) rfl (XT.ii_ne_f hc66_8) oK) ?_
                  show OG _ _ _ _ _ _ _ (s₁.setTop (mkF m 69 #[.val (.int k0)] []))
                  obtain ⟨T8, X8, e8, st8⟩ := getS2 X0 hx hZ hown (host := "") (Or.inl (hw _ (List.mem_of_getElem? (i := 97) rfl))) Via.refl e0 (S_DOUBLE.ext (hO).2) (g := (mkF m 69 #[.val (.int k0)] [])) rfl (hb hby dP_69)
                  refine OG.of st8 ?_
                  show OG _ _ _ _ _ _ _ (T8.setTop (mkF m 72 #[.val (.int k0)] [(.ref (wf 7))]))
                  refine OG.retA X8 hx Bd.returns rfl rfl (hb hby dP_72) hlk ?_ (by decide) (by decide)
                  try rw [e8]
                  exact ⟨by rw [own_ix, if_neg hc1_1, if_neg hc10_2, if_neg hc19_3, if_neg hc28_4, if_neg hc37_5, if_neg hc46_6, if_neg hc56_7, if_pos hc66_8] <;> rfl, N0, rfl⟩
                · refine OG.of (fun oT oK => XS.icmpYes X0.here hx rfl (pc0 := 66) (pc' := 73) rfl (hb hby dP_66) rfl (XT.ii_ne_t hc66_8) (by decide) (by decide) oK) ?_
                  show OG _ _ _ _ _ _ _ (s₁.setTop (mkF m 73 #[.val (.int k0)] []))
                  refine OG.of (A := s₁.setTop (mkF m 76 #[.val (.int k0)] [(.int (8 : Int32)), (.int k0)])) (fun oT oK => ?_) ?_
                  · show Steps p.tables e below (s₁.setTop (mkF m 73 #[.val (.int k0)] [])) oT
                    refine XS.iloadN X0.here hx rfl (hb hby dP_73) rfl  ?_
                    show Steps p.tables e below (s₁.setTop (mkF m 74 #[.val (.int k0)] [(.int k0)])) _
                    refine XS.bipush X0.here hx rfl (hb hby dP_74) ?_
                    exact oK
                  show OG _ _ _ _ _ _ _ (s₁.setTop (mkF m 76 #[.val (.int k0)] [(.int (8 : Int32)), (.int k0)]))
                  by_cases hc76_9 : k0 = (8 : Int32)
                  · refine OG.of (fun oT oK => XS.icmpNo X0.here hx rfl (hb hby dP_76) rfl (XT.ii_ne_f hc76_9) oK) ?_
                    show OG _ _ _ _ _ _ _ (s₁.setTop (mkF m 79 #[.val (.int k0)] []))
                    obtain ⟨T9, X9, e9, st9⟩ := getS2 X0 hx hZ hown (host := "") (Or.inl (hw _ (List.mem_of_getElem? (i := 83) rfl))) Via.refl e0 (S_FLOAT.ext (hO).2) (g := (mkF m 79 #[.val (.int k0)] [])) rfl (hb hby dP_79)
                    refine OG.of st9 ?_
                    show OG _ _ _ _ _ _ _ (T9.setTop (mkF m 82 #[.val (.int k0)] [(.ref (wf 8))]))
                    refine OG.retA X9 hx Bd.returns rfl rfl (hb hby dP_82) hlk ?_ (by decide) (by decide)
                    try rw [e9]
                    exact ⟨by rw [own_ix, if_neg hc1_1, if_neg hc10_2, if_neg hc19_3, if_neg hc28_4, if_neg hc37_5, if_neg hc46_6, if_neg hc56_7, if_neg hc66_8, if_pos hc76_9] <;> rfl, N0, rfl⟩
                  · refine OG.of (fun oT oK => XS.icmpYes X0.here hx rfl (pc0 := 76) (pc' := 83) rfl (hb hby dP_76) rfl (XT.ii_ne_t hc76_9) (by decide) (by decide) oK) ?_
                    show OG _ _ _ _ _ _ _ (s₁.setTop (mkF m 83 #[.val (.int k0)] []))
                    refine OG.of (A := s₁.setTop (mkF m 86 #[.val (.int k0)] [(.int (9 : Int32)), (.int k0)])) (fun oT oK => ?_) ?_
                    · show Steps p.tables e below (s₁.setTop (mkF m 83 #[.val (.int k0)] [])) oT
                      refine XS.iloadN X0.here hx rfl (hb hby dP_83) rfl  ?_
                      show Steps p.tables e below (s₁.setTop (mkF m 84 #[.val (.int k0)] [(.int k0)])) _
                      refine XS.bipush X0.here hx rfl (hb hby dP_84) ?_
                      exact oK
                    show OG _ _ _ _ _ _ _ (s₁.setTop (mkF m 86 #[.val (.int k0)] [(.int (9 : Int32)), (.int k0)]))
                    by_cases hc86_10 : k0 = (9 : Int32)
                    · refine OG.of (fun oT oK => XS.icmpNo X0.here hx rfl (hb hby dP_86) rfl (XT.ii_ne_f hc86_10) oK) ?_
                      show OG _ _ _ _ _ _ _ (s₁.setTop (mkF m 89 #[.val (.int k0)] []))
                      obtain ⟨T10, X10, e10, st10⟩ := getS2 X0 hx hZ hown (host := "") (Or.inl (hw _ (List.mem_of_getElem? (i := 77) rfl))) Via.refl e0 (S_INT8.ext (hO).2) (g := (mkF m 89 #[.val (.int k0)] [])) rfl (hb hby dP_89)
                      refine OG.of st10 ?_
                      show OG _ _ _ _ _ _ _ (T10.setTop (mkF m 92 #[.val (.int k0)] [(.ref (wf 9))]))
                      refine OG.retA X10 hx Bd.returns rfl rfl (hb hby dP_92) hlk ?_ (by decide) (by decide)
                      try rw [e10]
                      exact ⟨by rw [own_ix, if_neg hc1_1, if_neg hc10_2, if_neg hc19_3, if_neg hc28_4, if_neg hc37_5, if_neg hc46_6, if_neg hc56_7, if_neg hc66_8, if_neg hc76_9, if_pos hc86_10] <;> rfl, N0, rfl⟩
                    · refine OG.of (fun oT oK => XS.icmpYes X0.here hx rfl (pc0 := 86) (pc' := 93) rfl (hb hby dP_86) rfl (XT.ii_ne_t hc86_10) (by decide) (by decide) oK) ?_
                      show OG _ _ _ _ _ _ _ (s₁.setTop (mkF m 93 #[.val (.int k0)] []))
                      refine OG.of (A := s₁.setTop (mkF m 96 #[.val (.int k0)] [(.int (10 : Int32)), (.int k0)])) (fun oT oK => ?_) ?_
                      · show Steps p.tables e below (s₁.setTop (mkF m 93 #[.val (.int k0)] [])) oT
                        refine XS.iloadN X0.here hx rfl (hb hby dP_93) rfl  ?_
                        show Steps p.tables e below (s₁.setTop (mkF m 94 #[.val (.int k0)] [(.int k0)])) _
                        refine XS.bipush X0.here hx rfl (hb hby dP_94) ?_
                        exact oK
                      show OG _ _ _ _ _ _ _ (s₁.setTop (mkF m 96 #[.val (.int k0)] [(.int (10 : Int32)), (.int k0)]))
                      by_cases hc96_11 : k0 = (10 : Int32)
                      · refine OG.of (fun oT oK => XS.icmpNo X0.here hx rfl (hb hby dP_96) rfl (XT.ii_ne_f hc96_11) oK) ?_
                        show OG _ _ _ _ _ _ _ (s₁.setTop (mkF m 99 #[.val (.int k0)] []))
                        obtain ⟨T11, X11, e11, st11⟩ := getS2 X0 hx hZ hown (host := "") (Or.inl (hw _ (List.mem_of_getElem? (i := 75) rfl))) Via.refl e0 (S_INT16.ext (hO).2) (g := (mkF m 99 #[.val (.int k0)] [])) rfl (hb hby dP_99)
                        refine OG.of st11 ?_
                        show OG _ _ _ _ _ _ _ (T11.setTop (mkF m 102 #[.val (.int k0)] [(.ref (wf 10))]))
                        refine OG.retA X11 hx Bd.returns rfl rfl (hb hby dP_102) hlk ?_ (by decide) (by decide)
                        try rw [e11]
                        exact ⟨by rw [own_ix, if_neg hc1_1, if_neg hc10_2, if_neg hc19_3, if_neg hc28_4, if_neg hc37_5, if_neg hc46_6, if_neg hc56_7, if_neg hc66_8, if_neg hc76_9, if_neg hc86_10, if_pos hc96_11] <;> rfl, N0, rfl⟩
                      · refine OG.of (fun oT oK => XS.icmpYes X0.here hx rfl (pc0 := 96) (pc' := 103) rfl (hb hby dP_96) rfl (XT.ii_ne_t hc96_11) (by decide) (by decide) oK) ?_
                        show OG _ _ _ _ _ _ _ (s₁.setTop (mkF m 103 #[.val (.int k0)] []))
                        refine OG.of (A := s₁.setTop (mkF m 106 #[.val (.int k0)] [(.int (11 : Int32)), (.int k0)])) (fun oT oK => ?_) ?_
                        · show Steps p.tables e below (s₁.setTop (mkF m 103 #[.val (.int k0)] [])) oT
                          refine XS.iloadN X0.here hx rfl (hb hby dP_103) rfl  ?_
                          show Steps p.tables e below (s₁.setTop (mkF m 104 #[.val (.int k0)] [(.int k0)])) _
                          refine XS.bipush X0.here hx rfl (hb hby dP_104) ?_
                          exact oK
                        show OG _ _ _ _ _ _ _ (s₁.setTop (mkF m 106 #[.val (.int k0)] [(.int (11 : Int32)), (.int k0)]))
                        by_cases hc106_12 : k0 = (11 : Int32)
                        · refine OG.of (fun oT oK => XS.icmpNo X0.here hx rfl (hb hby dP_106) rfl (XT.ii_ne_f hc106_12) oK) ?_
                          show OG _ _ _ _ _ _ _ (s₁.setTop (mkF m 109 #[.val (.int k0)] []))
                          obtain ⟨T12, X12, e12, st12⟩ := getS2 X0 hx hZ hown (host := "") (Or.inl (hw _ (List.mem_of_getElem? (i := 99) rfl))) Via.refl e0 (S_INT32.ext (hO).2) (g := (mkF m 109 #[.val (.int k0)] [])) rfl (hb hby dP_109)
                          refine OG.of st12 ?_
                          show OG _ _ _ _ _ _ _ (T12.setTop (mkF m 112 #[.val (.int k0)] [(.ref (wf 11))]))
                          refine OG.retA X12 hx Bd.returns rfl rfl (hb hby dP_112) hlk ?_ (by decide) (by decide)
                          try rw [e12]
                          exact ⟨by rw [own_ix, if_neg hc1_1, if_neg hc10_2, if_neg hc19_3, if_neg hc28_4, if_neg hc37_5, if_neg hc46_6, if_neg hc56_7, if_neg hc66_8, if_neg hc76_9, if_neg hc86_10, if_neg hc96_11, if_pos hc106_12] <;> rfl, N0, rfl⟩
                        · refine OG.of (fun oT oK => XS.icmpYes X0.here hx rfl (pc0 := 106) (pc' := 113) rfl (hb hby dP_106) rfl (XT.ii_ne_t hc106_12) (by decide) (by decide) oK) ?_
                          show OG _ _ _ _ _ _ _ (s₁.setTop (mkF m 113 #[.val (.int k0)] []))
                          refine OG.of (A := s₁.setTop (mkF m 116 #[.val (.int k0)] [(.int (12 : Int32)), (.int k0)])) (fun oT oK => ?_) ?_
                          · show Steps p.tables e below (s₁.setTop (mkF m 113 #[.val (.int k0)] [])) oT
                            refine XS.iloadN X0.here hx rfl (hb hby dP_113) rfl  ?_
                            show Steps p.tables e below (s₁.setTop (mkF m 114 #[.val (.int k0)] [(.int k0)])) _
                            refine XS.bipush X0.here hx rfl (hb hby dP_114) ?_
                            exact oK
                          show OG _ _ _ _ _ _ _ (s₁.setTop (mkF m 116 #[.val (.int k0)] [(.int (12 : Int32)), (.int k0)]))
                          by_cases hc116_13 : k0 = (12 : Int32)
                          · refine OG.of (fun oT oK => XS.icmpNo X0.here hx rfl (hb hby dP_116) rfl (XT.ii_ne_f hc116_13) oK) ?_
                            show OG _ _ _ _ _ _ _ (s₁.setTop (mkF m 119 #[.val (.int k0)] []))
                            obtain ⟨T13, X13, e13, st13⟩ := getS2 X0 hx hZ hown (host := "") (Or.inl (hw _ (List.mem_of_getElem? (i := 87) rfl))) Via.refl e0 (S_INT64.ext (hO).2) (g := (mkF m 119 #[.val (.int k0)] [])) rfl (hb hby dP_119)
                            refine OG.of st13 ?_
                            show OG _ _ _ _ _ _ _ (T13.setTop (mkF m 122 #[.val (.int k0)] [(.ref (wf 12))]))
                            refine OG.retA X13 hx Bd.returns rfl rfl (hb hby dP_122) hlk ?_ (by decide) (by decide)
                            try rw [e13]
                            exact ⟨by rw [own_ix, if_neg hc1_1, if_neg hc10_2, if_neg hc19_3, if_neg hc28_4, if_neg hc37_5, if_neg hc46_6, if_neg hc56_7, if_neg hc66_8, if_neg hc76_9, if_neg hc86_10, if_neg hc96_11, if_neg hc106_12, if_pos hc116_13] <;> rfl, N0, rfl⟩
                          · refine OG.of (fun oT oK => XS.icmpYes X0.here hx rfl (pc0 := 116) (pc' := 123) rfl (hb hby dP_116) rfl (XT.ii_ne_t hc116_13) (by decide) (by decide) oK) ?_
                            show OG _ _ _ _ _ _ _ (s₁.setTop (mkF m 123 #[.val (.int k0)] []))
                            obtain ⟨T14, X14, e14, st14⟩ := getS2 X0 hx hZ hown (host := "") (Or.inl (hw _ (List.mem_of_getElem? (i := 85) rfl))) Via.refl e0 (S_MONEY.ext (hO).2) (g := (mkF m 123 #[.val (.int k0)] [])) rfl (hb hby dP_123)
                            refine OG.of st14 ?_
                            show OG _ _ _ _ _ _ _ (T14.setTop (mkF m 126 #[.val (.int k0)] [(.ref (wf 13))]))
                            refine OG.retA X14 hx Bd.returns rfl rfl (hb hby dP_126) hlk ?_ (by decide) (by decide)
                            try rw [e14]
                            exact ⟨by rw [own_ix, if_neg hc1_1, if_neg hc10_2, if_neg hc19_3, if_neg hc28_4, if_neg hc37_5, if_neg hc46_6, if_neg hc56_7, if_neg hc66_8, if_neg hc76_9, if_neg hc86_10, if_neg hc96_11, if_neg hc106_12, if_neg hc116_13] <;> rfl, N0, rfl⟩
theorem dS_0 : decode method_3_code 0 = .ok (.iload_n 0, 1) := by decide +kernel
theorem dS_1 : decode method_3_code 1 = .ok (.ifCond .ne 7, 3) := by decide +kernel
theorem dS_4 : decode method_3_code 4 = .ok (.getstatic 52, 3) := by decide +kernel
theorem dS_7 : decode method_3_code 7 = .ok (.areturn, 1) := by decide +kernel
theorem dS_8 : decode method_3_code 8 = .ok (.iload_n 0, 1) := by decide +kernel
theorem dS_9 : decode method_3_code 9 = .ok (.iconst 1, 1) := by decide +kernel
theorem dS_10 : decode method_3_code 10 = .ok (.if_icmp .ne 7, 3) := by decide +kernel
theorem dS_13 : decode method_3_code 13 = .ok (.getstatic 58, 3) := by decide +kernel
theorem dS_16 : decode method_3_code 16 = .ok (.areturn, 1) := by decide +kernel
theorem dS_17 : decode method_3_code 17 = .ok (.getstatic 60, 3) := by decide +kernel
theorem dS_20 : decode method_3_code 20 = .ok (.areturn, 1) := by decide +kernel
theorem pn_S : plainName "com/example/kind4/kind4/model/DomainSameTypePinLaw" = true := by first | (simp [plainName, overriddenIn]; done) | decide +kernel
theorem ef_S (m : MethodId) (x0 : Int32) : entryFrame m #[(.int x0)] 1 = mkF m 0 #[.val (.int x0)] [] := by first | (simp [entryFrame, mkF, argsToLocals, Value.category]; done) | rfl
def QS (Z : State) (k0 : Int32) (h0 : Heap) (n0 : Nat) (v : Option Value) (h : Heap) (L : List Loc) : Prop := ∃ w : Addr, v = some (.ref w) ∧ Fr n0 L ∧ h = h0
set_option maxRecDepth 65536 in
set_option maxHeartbeats 40000000 in
theorem rmS (l : Launch) (Z : State) (a0 : Array Value) (hw : ∀ d ∈ tables_1, d.before a0 Z = true) (ws : List Jvm.Cond) (k0 : Int32) (h0 : Heap) (n0 : Nat) (Z0 : n0 ≤ h0.size) (hO : Old Z n0 h0) (T_VARCHAR : ∃ w : Addr, Sta Z Z.heap "com/example/kind4/kind4/model/Storage" "VARCHAR" "Lcom/example/kind4/kind4/model/Storage;" (.ref w)) (T_CHAR : ∃ w : Addr, Sta Z Z.heap "com/example/kind4/kind4/model/Storage" "CHAR" "Lcom/example/kind4/kind4/model/Storage;" (.ref w)) (T_CLOB : ∃ w : Addr, Sta Z Z.heap "com/example/kind4/kind4/model/Storage" "CLOB" "Lcom/example/kind4/kind4/model/Storage;" (.ref w)) :
    MetFree l (⟨"com/example/kind4/kind4/model/DomainSameTypePinLaw", "stor", "(I)Lcom/example/kind4/kind4/model/Storage;"⟩ : MethodName) (head1 (Jvm.Cond.code (⟨"com/example/kind4/kind4/model/DomainSameTypePinLaw", "stor", "(I)Lcom/example/kind4/kind4/model/Storage;"⟩ : MethodName) method_3_code 1 (some (.object "com/example/kind4/kind4/model/Storage")) :: ws) ({ frames := 0, cells := 0, slots := 0, locals := 0 } : Room)) (fun aA oU => aA = #[(.int k0)] ∧ Z.Warmed39 oU.vm ∧ oU.heap = h0) (fun _ _ _ _ _ => True) (fun _ oU oO oU' => ∃ oV oL, oO = .returned oV ∧ QS Z k0 h0 n0 oV oU'.heap oL ∧ FrameEnd oU oO oU' oL ({ frames := 0, cells := 0, slots := 0, locals := 0 } : Room).cells ({ frames := 0, cells := 0, slots := 0, locals := 0 } : Room).slots) := by
  refine MetFree.of_bodySF (plainFor_of_name pn_S) hisR ?_
  intro p e s m args below meth c s₁ Bd hml0 hP hK
  obtain ⟨rfl, hZ, hh⟩ := hP
  have hx := Bd.exec
  have hby := Bd.bytes
  have hlk := BodyLoose.notSynchronized Bd
  have hml : c.maxLocals = 1 := hml0
  have hown : s.vm.findClass "com/example/kind4/kind4/model/DomainSameTypePinLaw" = some m.cls := findClass_of_methodNamed Bd.named
  have hnm := (name_of_methodNamed Bd.named Bd.method).1
  have X0 : Stand p l e ({ frames := 0, cells := 0, slots := 0, locals := 0 } : Room) s m #[(.int k0)] below meth c s₁ [] 0 0 := Stand.of_body Bd
  have e0 : s₁.heap = h0 := by rw [← hh, Bd.state]; rfl
  have N0 := Fr.nil n0
  show OG p e below s ({ frames := 0, cells := 0, slots := 0, locals := 0 } : Room).cells ({ frames := 0, cells := 0, slots := 0, locals := 0 } : Room).slots (QS Z k0 h0 n0) _
  refine OG.of (fun oT oK => castTop (ef_S m k0) oK) ?_
  show OG p e below s _ _ _ (s₁.setTop (mkF m 0 #[.val (.int k0)] []))
  refine OG.of (A := s₁.setTop (mkF m 1 #[.val (.int k0)] [(.int k0)])) (fun oT oK => ?_) ?_
  · show Steps p.tables e below (s₁.setTop (mkF m 0 #[.val (.int k0)] [])) oT
    refine XS.iloadN X0.here hx rfl (hb hby dS_0) rfl  ?_
    exact oK
  show OG _ _ _ _ _ _ _ (s₁.setTop (mkF m 1 #[.val (.int k0)] [(.int k0)]))
  by_cases hc1_1 : k0 = (0 : Int32)
  · refine OG.of (fun oT oK => XS.ifNo X0.here hx rfl (hb hby dS_1) rfl (XT.i0_ne_f hc1_1) oK) ?_
    show OG _ _ _ _ _ _ _ (s₁.setTop (mkF m 4 #[.val (.int k0)] []))
    obtain ⟨w, hs⟩ := T_VARCHAR
    obtain ⟨T1, X1, e1, st1⟩ := getS2 X0 hx hZ hown (host := "") (Or.inl (hw _ (List.mem_of_getElem? (i := 35) rfl))) Via.refl e0 (hs.ext (hO).2) (g := (mkF m 4 #[.val (.int k0)] [])) rfl (hb hby dS_4)
    refine OG.of st1 ?_
    show OG _ _ _ _ _ _ _ (T1.setTop (mkF m 7 #[.val (.int k0)] [(.ref w)]))
    refine OG.retA X1 hx Bd.returns rfl rfl (hb hby dS_7) hlk ?_ (by decide) (by decide)
    try rw [e1]
    exact ⟨w, rfl, N0, rfl⟩
  · refine OG.of (fun oT oK => XS.ifYes X0.here hx rfl (pc0 := 1) (pc' := 8) rfl (hb hby dS_1) rfl (XT.i0_ne_t hc1_1) (by decide) (by decide) oK) ?_
    show OG _ _ _ _ _ _ _ (s₁.setTop (mkF m 8 #[.val (.int k0)] []))
    refine OG.of (A := s₁.setTop (mkF m 10 #[.val (.int k0)] [(.int (1 : Int32)), (.int k0)])) (fun oT oK => ?_) ?_
    · show Steps p.tables e below (s₁.setTop (mkF m 8 #[.val (.int k0)] [])) oT
      refine XS.iloadN X0.here hx rfl (hb hby dS_8) rfl  ?_
      show Steps p.tables e below (s₁.setTop (mkF m 9 #[.val (.int k0)] [(.int k0)])) _
      refine XS.iconst X0.here hx rfl (hb hby dS_9) ?_
      exact oK
    show OG _ _ _ _ _ _ _ (s₁.setTop (mkF m 10 #[.val (.int k0)] [(.int (1 : Int32)), (.int k0)]))
    by_cases hc10_2 : k0 = (1 : Int32)
    · refine OG.of (fun oT oK => XS.icmpNo X0.here hx rfl (hb hby dS_10) rfl (XT.ii_ne_f hc10_2) oK) ?_
      show OG _ _ _ _ _ _ _ (s₁.setTop (mkF m 13 #[.val (.int k0)] []))
      obtain ⟨w, hs⟩ := T_CHAR
      obtain ⟨T2, X2, e2, st2⟩ := getS2 X0 hx hZ hown (host := "") (Or.inl (hw _ (List.mem_of_getElem? (i := 81) rfl))) Via.refl e0 (hs.ext (hO).2) (g := (mkF m 13 #[.val (.int k0)] [])) rfl (hb hby dS_13)
      refine OG.of st2 ?_
      show OG _ _ _ _ _ _ _ (T2.setTop (mkF m 16 #[.val (.int k0)] [(.ref w)]))
      refine OG.retA X2 hx Bd.returns rfl rfl (hb hby dS_16) hlk ?_ (by decide) (by decide)
      try rw [e2]
      exact ⟨w, rfl, N0, rfl⟩
    · refine OG.of (fun oT oK => XS.icmpYes X0.here hx rfl (pc0 := 10) (pc' := 17) rfl (hb hby dS_10) rfl (XT.ii_ne_t hc10_2) (by decide) (by decide) oK) ?_
      show OG _ _ _ _ _ _ _ (s₁.setTop (mkF m 17 #[.val (.int k0)] []))
      obtain ⟨w, hs⟩ := T_CLOB
      obtain ⟨T3, X3, e3, st3⟩ := getS2 X0 hx hZ hown (host := "") (Or.inl (hw _ (List.mem_of_getElem? (i := 79) rfl))) Via.refl e0 (hs.ext (hO).2) (g := (mkF m 17 #[.val (.int k0)] [])) rfl (hb hby dS_17)
      refine OG.of st3 ?_
      show OG _ _ _ _ _ _ _ (T3.setTop (mkF m 20 #[.val (.int k0)] [(.ref w)]))
      refine OG.retA X3 hx Bd.returns rfl rfl (hb hby dS_20) hlk ?_ (by decide) (by decide)
      try rw [e3]
      exact ⟨w, rfl, N0, rfl⟩
theorem dR_0 : decode jdk_30_method_1_code 0 = .ok (.aload_n 0, 1) := by decide +kernel
theorem dR_1 : decode jdk_30_method_1_code 1 = .ok (.invokespecial 1, 3) := by decide +kernel
theorem dR_4 : decode jdk_30_method_1_code 4 = .ok (.return_, 1) := by decide +kernel
theorem pn_R : plainName "java/lang/Record" = true := by first | (simp [plainName, overriddenIn]; done) | decide +kernel
theorem ef_R (m : MethodId) (x0 : Addr) : entryFrame m #[(.ref x0)] 1 = mkF m 0 #[.val (.ref x0)] [] := by first | (simp [entryFrame, mkF, argsToLocals, Value.category]; done) | rfl
def QR (Z : State) (a : Addr) (h0 : Heap) (n0 : Nat) (v : Option Value) (h : Heap) (L : List Loc) : Prop := v = none ∧ Fr n0 L ∧ h = h0
set_option maxRecDepth 65536 in
set_option maxHeartbeats 40000000 in
theorem rmR (l : Launch) (Z : State) (a0 : Array Value) (hw : ∀ d ∈ tables_1, d.before a0 Z = true) (ws : List Jvm.Cond) (a : Addr) (h0 : Heap) (n0 : Nat) (Z0 : n0 ≤ h0.size) :
    MetFree l (⟨"java/lang/Record", "<init>", "()V"⟩ : MethodName) (head1 (Jvm.Cond.code (⟨"java/lang/Record", "<init>", "()V"⟩ : MethodName) jdk_30_method_1_code 1 none :: ws) ({ frames := 1, cells := 0, slots := 0, locals := 12 } : Room)) (fun aA oU => aA = #[(.ref a)] ∧ Z.Warmed39 oU.vm ∧ oU.heap = h0) (fun _ _ _ _ _ => True) (fun _ oU oO oU' => ∃ oV oL, oO = .returned oV ∧ QR Z a h0 n0 oV oU'.heap oL ∧ FrameEnd oU oO oU' oL ({ frames := 1, cells := 0, slots := 0, locals := 12 } : Room).cells ({ frames := 1, cells := 0, slots := 0, locals := 12 } : Room).slots) := by
  refine MetFree.of_bodySF (plainFor_of_name pn_R) hisR ?_
  intro p e s m args below meth c s₁ Bd hml0 hP hK
  obtain ⟨rfl, hZ, hh⟩ := hP
  have hx := Bd.exec
  have hby := Bd.bytes
  have hlk := BodyLoose.notSynchronized Bd
  have hml : c.maxLocals = 1 := hml0
  have hown : s.vm.findClass "java/lang/Record" = some m.cls := findClass_of_methodNamed Bd.named
  have hnm := (name_of_methodNamed Bd.named Bd.method).1
  have X0 : Stand p l e ({ frames := 1, cells := 0, slots := 0, locals := 12 } : Room) s m #[(.ref a)] below meth c s₁ [] 0 0 := Stand.of_body Bd
  have e0 : s₁.heap = h0 := by rw [← hh, Bd.state]; rfl
  have N0 := Fr.nil n0
  show OG p e below s ({ frames := 1, cells := 0, slots := 0, locals := 12 } : Room).cells ({ frames := 1, cells := 0, slots := 0, locals := 12 } : Room).slots (QR Z a h0 n0) _
  refine OG.of (fun oT oK => castTop (ef_R m a) oK) ?_
  show OG p e below s _ _ _ (s₁.setTop (mkF m 0 #[.val (.ref a)] []))
  refine OG.of (A := s₁.setTop (mkF m 1 #[.val (.ref a)] [(.ref a)])) (fun oT oK => ?_) ?_
  · show Steps p.tables e below (s₁.setTop (mkF m 0 #[.val (.ref a)] [])) oT
    refine XS.aloadN X0.here hx rfl (hb hby dR_0) rfl rfl  ?_
    exact oK
  show OG _ _ _ _ _ _ _ (s₁.setTop (mkF m 1 #[.val (.ref a)] [(.ref a)]))
  obtain ⟨T1, X1, e1, st1⟩ := initO X0 hx hZ hown (hw _ (List.mem_of_getElem? (i := 55) rfl)) (hw _ (List.mem_of_getElem? (i := 13) rfl)) (hw _ (List.mem_of_getElem? (i := 14) rfl)) e0 (g := (mkF m 1 #[.val (.ref a)] [(.ref a)])) rfl (by rw [hml]; rfl) rfl (hb hby dR_1) (by decide) (W := 0) (by show 2 * 0 + _ ≤ _; exact Nat.le_of_eq rfl) (by decide)
  refine OG.of st1 ?_
  show OG _ _ _ _ _ _ _ (T1.setTop (mkF m 4 #[.val (.ref a)] []))
  refine OG.retV X1 hx Bd.returns (hb hby dR_4) hlk ?_ (by decide) (by decide)
  try rw [e1]
  exact ⟨rfl, N0, rfl⟩
theorem pd___V : parseMethodDescriptor "()V" = some ⟨[], none⟩ := by decide +kernel
theorem dD_0 : decode prog_39_method_1_code 0 = .ok (.aload_n 0, 1) := by decide +kernel
theorem dD_1 : decode prog_39_method_1_code 1 = .ok (.invokespecial 1, 3) := by decide +kernel
theorem dD_4 : decode prog_39_method_1_code 4 = .ok (.aload_n 0, 1) := by decide +kernel
theorem dD_5 : decode prog_39_method_1_code 5 = .ok (.aload_n 1, 1) := by decide +kernel
theorem dD_6 : decode prog_39_method_1_code 6 = .ok (.putfield 7, 3) := by decide +kernel
theorem dD_9 : decode prog_39_method_1_code 9 = .ok (.aload_n 0, 1) := by decide +kernel
theorem dD_10 : decode prog_39_method_1_code 10 = .ok (.aload_n 2, 1) := by decide +kernel
theorem dD_11 : decode prog_39_method_1_code 11 = .ok (.putfield 13, 3) := by decide +kernel
theorem dD_14 : decode prog_39_method_1_code 14 = .ok (.aload_n 0, 1) := by decide +kernel
theorem dD_15 : decode prog_39_method_1_code 15 = .ok (.iload_n 3, 1) := by decide +kernel
theorem dD_16 : decode prog_39_method_1_code 16 = .ok (.putfield 17, 3) := by decide +kernel
theorem dD_19 : decode prog_39_method_1_code 19 = .ok (.aload_n 0, 1) := by decide +kernel
theorem dD_20 : decode prog_39_method_1_code 20 = .ok (.aload 4, 2) := by decide +kernel
theorem dD_22 : decode prog_39_method_1_code 22 = .ok (.putfield 21, 3) := by decide +kernel
theorem dD_25 : decode prog_39_method_1_code 25 = .ok (.aload_n 0, 1) := by decide +kernel
theorem dD_26 : decode prog_39_method_1_code 26 = .ok (.iload 5, 2) := by decide +kernel
theorem dD_28 : decode prog_39_method_1_code 28 = .ok (.putfield 25, 3) := by decide +kernel
theorem dD_31 : decode prog_39_method_1_code 31 = .ok (.return_, 1) := by decide +kernel
theorem pn_D : plainName "com/example/kind4/kind4/model/Domain" = true := by first | (simp [plainName, overriddenIn]; done) | decide +kernel
theorem ef_D (m : MethodId) (x0 : Addr) (x1 : Addr) (x2 : Addr) (x3 : Int32) (x4 : Addr) (x5 : Int32) : entryFrame m #[(.ref x0), (.ref x1), (.ref x2), (.int x3), (.ref x4), (.int x5)] 6 = mkF m 0 #[.val (.ref x0), .val (.ref x1), .val (.ref x2), .val (.int x3), .val (.ref x4), .val (.int x5)] [] := by first | (simp [entryFrame, mkF, argsToLocals, Value.category]; done) | rfl
def QD (Z : State) (a : Addr) (nm : Addr) (pr : Addr) (sz : Int32) (sg : Addr) (ln : Int32) (h0 : Heap) (n0 : Nat) (v : Option Value) (h : Heap) (L : List Loc) : Prop := v = none ∧ Fr n0 L ∧ Keep h0 h [a] ∧ Exa Z h a "com/example/kind4/kind4/model/Domain" ∧ Fld Z h a "com/example/kind4/kind4/model/Domain" "name" "Ljava/lang/String;" (.ref nm) ∧ Fld Z h a "com/example/kind4/kind4/model/Domain" "primitive" "Lcom/example/kind4/kind4/model/Primitive;" (.ref pr) ∧ Fld Z h a "com/example/kind4/kind4/model/Domain" "size" "I" (.int sz) ∧ Fld Z h a "com/example/kind4/kind4/model/Domain" "storage" "Lcom/example/kind4/kind4/model/Storage;" (.ref sg) ∧ Fld Z h a "com/example/kind4/kind4/model/Domain" "line" "I" (.int ln)
set_option maxRecDepth 65536 in
set_option maxHeartbeats 40000000 in
theorem rmD (l : Launch) (Z : State) (a0 : Array Value) (hw : ∀ d ∈ tables_1, d.before a0 Z = true) (ws : List Jvm.Cond) (a : Addr) (nm : Addr) (pr : Addr) (sz : Int32) (sg : Addr) (ln : Int32) (h0 : Heap) (n0 : Nat) (Z0 : n0 ≤ h0.size) (E_a : Exa Z h0 a "com/example/kind4/kind4/model/Domain") (F_a_name : Fld Z h0 a "com/example/kind4/kind4/model/Domain" "name" "Ljava/lang/String;" .null) (F_a_primitive : Fld Z h0 a "com/example/kind4/kind4/model/Domain" "primitive" "Lcom/example/kind4/kind4/model/Primitive;" .null) (F_a_size : Fld Z h0 a "com/example/kind4/kind4/model/Domain" "size" "I" (.int (0 : Int32))) (F_a_storage : Fld Z h0 a "com/example/kind4/kind4/model/Domain" "storage" "Lcom/example/kind4/kind4/model/Storage;" .null) (F_a_line : Fld Z h0 a "com/example/kind4/kind4/model/Domain" "line" "I" (.int (0 : Int32))) (g_a : n0 ≤ a) :
    MetFree l (⟨"com/example/kind4/kind4/model/Domain", "<init>", "(Ljava/lang/String;Lcom/example/kind4/kind4/model/Primitive;ILcom/example/kind4/kind4/model/Storage;I)V"⟩ : MethodName) (head1 (Jvm.Cond.code (⟨"com/example/kind4/kind4/model/Domain", "<init>", "(Ljava/lang/String;Lcom/example/kind4/kind4/model/Primitive;ILcom/example/kind4/kind4/model/Storage;I)V"⟩ : MethodName) prog_39_method_1_code 6 none :: ws) ({ frames := 2, cells := 0, slots := 0, locals := 24 } : Room)) (fun aA oU => aA = #[(.ref a), (.ref nm), (.ref pr), (.int sz), (.ref sg), (.int ln)] ∧ Z.Warmed39 oU.vm ∧ oU.heap = h0) (fun _ _ _ _ _ => True) (fun _ oU oO oU' => ∃ oV oL, oO = .returned oV ∧ QD Z a nm pr sz sg ln h0 n0 oV oU'.heap oL ∧ FrameEnd oU oO oU' oL ({ frames := 2, cells := 0, slots := 0, locals := 24 } : Room).cells ({ frames := 2, cells := 0, slots := 0, locals := 24 } : Room).slots) := by
  refine MetFree.of_bodySF (plainFor_of_name pn_D) hisR ?_
  intro p e s m args below meth c s₁ Bd hml0 hP hK
  obtain ⟨rfl, hZ, hh⟩ := hP
  have hx := Bd.exec
  have hby := Bd.bytes
  have hlk := BodyLoose.notSynchronized Bd
  have hml : c.maxLocals = 6 := hml0
  have hown : s.vm.findClass "com/example/kind4/kind4/model/Domain" = some m.cls := findClass_of_methodNamed Bd.named
  have hnm := (name_of_methodNamed Bd.named Bd.method).1
  have X0 : Stand p l e ({ frames := 2, cells := 0, slots := 0, locals := 24 } : Room) s m #[(.ref a), (.ref nm), (.ref pr), (.int sz), (.ref sg), (.int ln)] below meth c s₁ [] 0 0 := Stand.of_body Bd
  have e0 : s₁.heap = h0 := by rw [← hh, Bd.state]; rfl
  have N0 := Fr.nil n0
  show OG p e below s ({ frames := 2, cells := 0, slots := 0, locals := 24 } : Room).cells ({ frames := 2, cells := 0, slots := 0, locals := 24 } : Room).slots (QD Z a nm pr sz sg ln h0 n0) _
  refine OG.of (fun oT oK => castTop (ef_D m a nm pr sz sg ln) oK) ?_
  show OG p e below s _ _ _ (s₁.setTop (mkF m 0 #[.val (.ref a), .val (.ref nm), .val (.ref pr), .val (.int sz), .val (.ref sg), .val (.int ln)] []))
  refine OG.of (A := s₁.setTop (mkF m 1 #[.val (.ref a), .val (.ref nm), .val (.ref pr), .val (.int sz), .val (.ref sg), .val (.int ln)] [(.ref a)])) (fun oT oK => ?_) ?_
  · show Steps p.tables e below (s₁.setTop (mkF m 0 #[.val (.ref a), .val (.ref nm), .val (.ref pr), .val (.int sz), .val (.ref sg), .val (.int ln)] [])) oT
    refine XS.aloadN X0.here hx rfl (hb hby dD_0) rfl rfl  ?_
    exact oK
  show OG _ _ _ _ _ _ _ (s₁.setTop (mkF m 1 #[.val (.ref a), .val (.ref nm), .val (.ref pr), .val (.int sz), .val (.ref sg), .val (.int ln)] [(.ref a)]))
  obtain ⟨_, _, ⟨T1, L1, k1, n1⟩, -, X1, ⟨Lc1, hQ1, l1, y1, z1⟩, st1⟩ := X0.specialBack hx (y := (⟨"java/lang/Record", "<init>", "()V"⟩ : MethodName)) rfl hown (mvT hZ (hw _ (List.mem_of_getElem? (i := 50) rfl))) (mvT hZ (hw _ (List.mem_of_getElem? (i := 51) rfl))) (mvT hZ (hw _ (List.mem_of_getElem? (i := 54) rfl))) (by decide) (backOf (W := 0) (rmR l Z a0 hw [] a  h0 n0 (Z0)) hZ (hw _ (List.mem_of_getElem? (i := 54) rfl)) (hw _ (List.mem_of_getElem? (i := 53) rfl)) (by decide) (by decide)) (g := (mkF m 1 #[.val (.ref a), .val (.ref nm), .val (.ref pr), .val (.int sz), .val (.ref sg), .val (.int ln)] [(.ref a)])) rfl (by rw [hml]; rfl) (Steps.refl _) (a := a) (argsL := []) (rest := []) (lenOf pd___V rfl) rfl (by show 2 * 0 + _ ≤ _; exact Nat.le_of_eq rfl) (hb hby dD_1) (fun _ _ => ⟨rfl, e0, (by decide : 0 + 0 ≤ _), (by decide : 0 + 0 ≤ _)⟩)
  dsimp only [Pt.U, Pt.locs, Pt.cells, Pt.slots] at X1 l1 y1 z1 st1 hQ1
  subst l1 y1 z1
  obtain ⟨rfl, N1q, e1⟩ := hQ1
  have N1 := Fr.app N0 N1q
  refine OG.trans st1 ?_
  show OG _ _ _ _ _ _ _ (T1.setTop (mkF m 4 #[.val (.ref a), .val (.ref nm), .val (.ref pr), .val (.int sz), .val (.ref sg), .val (.int ln)] []))
  refine OG.of (A := T1.setTop (mkF m 6 #[.val (.ref a), .val (.ref nm), .val (.ref pr), .val (.int sz), .val (.ref sg), .val (.int ln)] [(.ref nm), (.ref a)])) (fun oT oK => ?_) ?_
  · show Steps p.tables e below (T1.setTop (mkF m 4 #[.val (.ref a), .val (.ref nm), .val (.ref pr), .val (.int sz), .val (.ref sg), .val (.int ln)] [])) oT
    refine XS.aloadN X1.here hx rfl (hb hby dD_4) rfl rfl  ?_
    show Steps p.tables e below (T1.setTop (mkF m 5 #[.val (.ref a), .val (.ref nm), .val (.ref pr), .val (.int sz), .val (.ref sg), .val (.int ln)] [(.ref a)])) _
    refine XS.aloadN X1.here hx rfl (hb hby dD_5) rfl rfl  ?_
    exact oK
  show OG _ _ _ _ _ _ _ (T1.setTop (mkF m 6 #[.val (.ref a), .val (.ref nm), .val (.ref pr), .val (.int sz), .val (.ref sg), .val (.int ln)] [(.ref nm), (.ref a)]))
  obtain ⟨T2, h2, X2, e2, W2, st2⟩ := putF X1 hx hZ hown (host := "") (Or.inl (hw _ (List.mem_of_getElem? (i := 56) rfl))) Via.refl e1 F_a_name E_a (Or.inr ⟨(hw _ (List.mem_of_getElem? (i := 57) rfl)), rfl, hnm⟩) (hw _ (List.mem_of_getElem? (i := 39) rfl)) (ty := (.object "java/lang/String")) (by decide) rfl rfl (g := (mkF m 6 #[.val (.ref a), .val (.ref nm), .val (.ref pr), .val (.int sz), .val (.ref sg), .val (.int ln)] [(.ref nm), (.ref a)])) rfl rfl (hb hby dD_6)
  have f1 := (E_a).wr W2
  have f2 := (F_a_name).same W2
  have f3 := (F_a_primitive).other W2 (Or.inr (slot_ne (Or.inr (hw _ (List.mem_of_getElem? (i := 59) rfl))) (Or.inr (hw _ (List.mem_of_getElem? (i := 57) rfl))) (by decide) (t := (.object "com/example/kind4/kind4/model/Primitive")) (t' := (.object "java/lang/String")) (by decide) (by decide)))
  have f4 := (F_a_size).other W2 (Or.inr (slot_ne (Or.inr (hw _ (List.mem_of_getElem? (i := 61) rfl))) (Or.inr (hw _ (List.mem_of_getElem? (i := 57) rfl))) (by decide) (t := .int) (t' := (.object "java/lang/String")) (by decide) (by decide)))
  have f5 := (F_a_storage).other W2 (Or.inr (slot_ne (Or.inr (hw _ (List.mem_of_getElem? (i := 63) rfl))) (Or.inr (hw _ (List.mem_of_getElem? (i := 57) rfl))) (by decide) (t := (.object "com/example/kind4/kind4/model/Storage")) (t' := (.object "java/lang/String")) (by decide) (by decide)))
  have f6 := (F_a_line).other W2 (Or.inr (slot_ne (Or.inr (hw _ (List.mem_of_getElem? (i := 65) rfl))) (Or.inr (hw _ (List.mem_of_getElem? (i := 57) rfl))) (by decide) (t := .int) (t' := (.object "java/lang/String")) (by decide) (by decide)))
  have K2 : Keep h0 h2 [a] := (Keep.refl h0 [a]).wr W2 (Or.inl (by simp))
  have Z2 : n0 ≤ h2.size := Nat.le_trans Z0 (Keep.of_wr W2).1
  have N2 := Fr.snoc X2 N1 g_a
  refine OG.of st2 ?_
  show OG _ _ _ _ _ _ _ (T2.setTop (mkF m 9 #[.val (.ref a), .val (.ref nm), .val (.ref pr), .val (.int sz), .val (.ref sg), .val (.int ln)] []))
  refine OG.of (A := T2.setTop (mkF m 11 #[.val (.ref a), .val (.ref nm), .val (.ref pr), .val (.int sz), .val (.ref sg), .val (.int ln)] [(.ref pr), (.ref a)])) (fun oT oK => ?_) ?_
  · show Steps p.tables e below (T2.setTop (mkF m 9 #[.val (.ref a), .val (.ref nm), .val (.ref pr), .val (.int sz), .val (.ref sg), .val (.int ln)] [])) oT
    refine XS.aloadN X2.here hx rfl (hb hby dD_9) rfl rfl  ?_
    show Steps p.tables e below (T2.setTop (mkF m 10 #[.val (.ref a), .val (.ref nm), .val (.ref pr), .val (.int sz), .val (.ref sg), .val (.int ln)] [(.ref a)])) _
    refine XS.aloadN X2.here hx rfl (hb hby dD_10) rfl rfl  ?_
    exact oK
  show OG _ _ _ _ _ _ _ (T2.setTop (mkF m 11 #[.val (.ref a), .val (.ref nm), .val (.ref pr), .val (.int sz), .val (.ref sg), .val (.int ln)] [(.ref pr), (.ref a)]))
  obtain ⟨T3, h3, X3, e3, W3, st3⟩ := putF X2 hx hZ hown (host := "") (Or.inl (hw _ (List.mem_of_getElem? (i := 58) rfl))) Via.refl e2 f3 f1 (Or.inr ⟨(hw _ (List.mem_of_getElem? (i := 59) rfl)), rfl, hnm⟩) (hw _ (List.mem_of_getElem? (i := 39) rfl)) (ty := (.object "com/example/kind4/kind4/model/Primitive")) (by decide) rfl rfl (g := (mkF m 11 #[.val (.ref a), .val (.ref nm), .val (.ref pr), .val (.int sz), .val (.ref sg), .val (.int ln)] [(.ref pr), (.ref a)])) rfl rfl (hb hby dD_11)
  have f7 := (f1).wr W3
  have f8 := (f2).other W3 (Or.inr (slot_ne (Or.inr (hw _ (List.mem_of_getElem? (i := 57) rfl))) (Or.inr (hw _ (List.mem_of_getElem? (i := 59) rfl))) (by decide) (t := (.object "java/lang/String")) (t' := (.object "com/example/kind4/kind4/model/Primitive")) (by decide) (by decide)))
  have f9 := (f3).same W3
  have f10 := (f4).other W3 (Or.inr (slot_ne (Or.inr (hw _ (List.mem_of_getElem? (i := 61) rfl))) (Or.inr (hw _ (List.mem_of_getElem? (i := 59) rfl))) (by decide) (t := .int) (t' := (.object "com/example/kind4/kind4/model/Primitive")) (by decide) (by decide)))
  have f11 := (f5).other W3 (Or.inr (slot_ne (Or.inr (hw _ (List.mem_of_getElem? (i := 63) rfl))) (Or.inr (hw _ (List.mem_of_getElem? (i := 59) rfl))) (by decide) (t := (.object "com/example/kind4/kind4/model/Storage")) (t' := (.object "com/example/kind4/kind4/model/Primitive")) (by decide) (by decide)))
  have f12 := (f6).other W3 (Or.inr (slot_ne (Or.inr (hw _ (List.mem_of_getElem? (i := 65) rfl))) (Or.inr (hw _ (List.mem_of_getElem? (i := 59) rfl))) (by decide) (t := .int) (t' := (.object "com/example/kind4/kind4/model/Primitive")) (by decide) (by decide)))
  have K3 : Keep h0 h3 [a] := (K2).wr W3 (Or.inl (by simp))
  have Z3 : n0 ≤ h3.size := Nat.le_trans Z2 (Keep.of_wr W3).1
  have N3 := Fr.snoc X3 N2 g_a
  refine OG.of st3 ?_
  show OG _ _ _ _ _ _ _ (T3.setTop (mkF m 14 #[.val (.ref a), .val (.ref nm), .val (.ref pr), .val (.int sz), .val (.ref sg), .val (.int ln)] []))
  refine OG.of (A := T3.setTop (mkF m 16 #[.val (.ref a), .val (.ref nm), .val (.ref pr), .val (.int sz), .val (.ref sg), .val (.int ln)] [(.int sz), (.ref a)])) (fun oT oK => ?_) ?_
  · show Steps p.tables e below (T3.setTop (mkF m 14 #[.val (.ref a), .val (.ref nm), .val (.ref pr), .val (.int sz), .val (.ref sg), .val (.int ln)] [])) oT
    refine XS.aloadN X3.here hx rfl (hb hby dD_14) rfl rfl  ?_
    show Steps p.tables e below (T3.setTop (mkF m 15 #[.val (.ref a), .val (.ref nm), .val (.ref pr), .val (.int sz), .val (.ref sg), .val (.int ln)] [(.ref a)])) _
    refine XS.iloadN X3.here hx rfl (hb hby dD_15) rfl  ?_
    exact oK
  show OG _ _ _ _ _ _ _ (T3.setTop (mkF m 16 #[.val (.ref a), .val (.ref nm), .val (.ref pr), .val (.int sz), .val (.ref sg), .val (.int ln)] [(.int sz), (.ref a)]))
  obtain ⟨T4, h4, X4, e4, W4, st4⟩ := putF X3 hx hZ hown (host := "") (Or.inl (hw _ (List.mem_of_getElem? (i := 60) rfl))) Via.refl e3 f10 f7 (Or.inr ⟨(hw _ (List.mem_of_getElem? (i := 61) rfl)), rfl, hnm⟩) (hw _ (List.mem_of_getElem? (i := 39) rfl)) (ty := .int) (by decide) rfl rfl (g := (mkF m 16 #[.val (.ref a), .val (.ref nm), .val (.ref pr), .val (.int sz), .val (.ref sg), .val (.int ln)] [(.int sz), (.ref a)])) rfl rfl (hb hby dD_16)
  have f13 := (f7).wr W4
  have f14 := (f8).other W4 (Or.inr (slot_ne (Or.inr (hw _ (List.mem_of_getElem? (i := 57) rfl))) (Or.inr (hw _ (List.mem_of_getElem? (i := 61) rfl))) (by decide) (t := (.object "java/lang/String")) (t' := .int) (by decide) (by decide)))
  have f15 := (f9).other W4 (Or.inr (slot_ne (Or.inr (hw _ (List.mem_of_getElem? (i := 59) rfl))) (Or.inr (hw _ (List.mem_of_getElem? (i := 61) rfl))) (by decide) (t := (.object "com/example/kind4/kind4/model/Primitive")) (t' := .int) (by decide) (by decide)))
  have f16 := (f10).same W4
  have f17 := (f11).other W4 (Or.inr (slot_ne (Or.inr (hw _ (List.mem_of_getElem? (i := 63) rfl))) (Or.inr (hw _ (List.mem_of_getElem? (i := 61) rfl))) (by decide) (t := (.object "com/example/kind4/kind4/model/Storage")) (t' := .int) (by decide) (by decide)))
  have f18 := (f12).other W4 (Or.inr (slot_ne (Or.inr (hw _ (List.mem_of_getElem? (i := 65) rfl))) (Or.inr (hw _ (List.mem_of_getElem? (i := 61) rfl))) (by decide) (t := .int) (t' := .int) (by decide) (by decide)))
  have K4 : Keep h0 h4 [a] := (K3).wr W4 (Or.inl (by simp))
  have Z4 : n0 ≤ h4.size := Nat.le_trans Z3 (Keep.of_wr W4).1
  have N4 := Fr.snoc X4 N3 g_a
  refine OG.of st4 ?_
  show OG _ _ _ _ _ _ _ (T4.setTop (mkF m 19 #[.val (.ref a), .val (.ref nm), .val (.ref pr), .val (.int sz), .val (.ref sg), .val (.int ln)] []))
  refine OG.of (A := T4.setTop (mkF m 22 #[.val (.ref a), .val (.ref nm), .val (.ref pr), .val (.int sz), .val (.ref sg), .val (.int ln)] [(.ref sg), (.ref a)])) (fun oT oK => ?_) ?_
  · show Steps p.tables e below (T4.setTop (mkF m 19 #[.val (.ref a), .val (.ref nm), .val (.ref pr), .val (.int sz), .val (.ref sg), .val (.int ln)] [])) oT
    refine XS.aloadN X4.here hx rfl (hb hby dD_19) rfl rfl  ?_
    show Steps p.tables e below (T4.setTop (mkF m 20 #[.val (.ref a), .val (.ref nm), .val (.ref pr), .val (.int sz), .val (.ref sg), .val (.int ln)] [(.ref a)])) _
    refine XS.aload X4.here hx rfl (hb hby dD_20) rfl rfl  ?_
    exact oK
  show OG _ _ _ _ _ _ _ (T4.setTop (mkF m 22 #[.val (.ref a), .val (.ref nm), .val (.ref pr), .val (.int sz), .val (.ref sg), .val (.int ln)] [(.ref sg), (.ref a)]))
  obtain ⟨T5, h5, X5, e5, W5, st5⟩ := putF X4 hx hZ hown (host := "") (Or.inl (hw _ (List.mem_of_getElem? (i := 62) rfl))) Via.refl e4 f17 f13 (Or.inr ⟨(hw _ (List.mem_of_getElem? (i := 63) rfl)), rfl, hnm⟩) (hw _ (List.mem_of_getElem? (i := 39) rfl)) (ty := (.object "com/example/kind4/kind4/model/Storage")) (by decide) rfl rfl (g := (mkF m 22 #[.val (.ref a), .val (.ref nm), .val (.ref pr), .val (.int sz), .val (.ref sg), .val (.int ln)] [(.ref sg), (.ref a)])) rfl rfl (hb hby dD_22)
  have f19 := (f13).wr W5
  have f20 := (f14).other W5 (Or.inr (slot_ne (Or.inr (hw _ (List.mem_of_getElem? (i := 57) rfl))) (Or.inr (hw _ (List.mem_of_getElem? (i := 63) rfl))) (by decide) (t := (.object "java/lang/String")) (t' := (.object "com/example/kind4/kind4/model/Storage")) (by decide) (by decide)))
  have f21 := (f15).other W5 (Or.inr (slot_ne (Or.inr (hw _ (List.mem_of_getElem? (i := 59) rfl))) (Or.inr (hw _ (List.mem_of_getElem? (i := 63) rfl))) (by decide) (t := (.object "com/example/kind4/kind4/model/Primitive")) (t' := (.object "com/example/kind4/kind4/model/Storage")) (by decide) (by decide)))
  have f22 := (f16).other W5 (Or.inr (slot_ne (Or.inr (hw _ (List.mem_of_getElem? (i := 61) rfl))) (Or.inr (hw _ (List.mem_of_getElem? (i := 63) rfl))) (by decide) (t := .int) (t' := (.object "com/example/kind4/kind4/model/Storage")) (by decide) (by decide)))
  have f23 := (f17).same W5
  have f24 := (f18).other W5 (Or.inr (slot_ne (Or.inr (hw _ (List.mem_of_getElem? (i := 65) rfl))) (Or.inr (hw _ (List.mem_of_getElem? (i := 63) rfl))) (by decide) (t := .int) (t' := (.object "com/example/kind4/kind4/model/Storage")) (by decide) (by decide)))
  have K5 : Keep h0 h5 [a] := (K4).wr W5 (Or.inl (by simp))
  have Z5 : n0 ≤ h5.size := Nat.le_trans Z4 (Keep.of_wr W5).1
  have N5 := Fr.snoc X5 N4 g_a
  refine OG.of st5 ?_
  show OG _ _ _ _ _ _ _ (T5.setTop (mkF m 25 #[.val (.ref a), .val (.ref nm), .val (.ref pr), .val (.int sz), .val (.ref sg), .val (.int ln)] []))
  refine OG.of (A := T5.setTop (mkF m 28 #[.val (.ref a), .val (.ref nm), .val (.ref pr), .val (.int sz), .val (.ref sg), .val (.int ln)] [(.int ln), (.ref a)])) (fun oT oK => ?_) ?_
  · show Steps p.tables e below (T5.setTop (mkF m 25 #[.val (.ref a), .val (.ref nm), .val (.ref pr), .val (.int sz), .val (.ref sg), .val (.int ln)] [])) oT
    refine XS.aloadN X5.here hx rfl (hb hby dD_25) rfl rfl  ?_
    show Steps p.tables e below (T5.setTop (mkF m 26 #[.val (.ref a), .val (.ref nm), .val (.ref pr), .val (.int sz), .val (.ref sg), .val (.int ln)] [(.ref a)])) _
    refine XS.iload X5.here hx rfl (hb hby dD_26) rfl  ?_
    exact oK
  show OG _ _ _ _ _ _ _ (T5.setTop (mkF m 28 #[.val (.ref a), .val (.ref nm), .val (.ref pr), .val (.int sz), .val (.ref sg), .val (.int ln)] [(.int ln), (.ref a)]))
  obtain ⟨T6, h6, X6, e6, W6, st6⟩ := putF X5 hx hZ hown (host := "") (Or.inl (hw _ (List.mem_of_getElem? (i := 64) rfl))) Via.refl e5 f24 f19 (Or.inr ⟨(hw _ (List.mem_of_getElem? (i := 65) rfl)), rfl, hnm⟩) (hw _ (List.mem_of_getElem? (i := 39) rfl)) (ty := .int) (by decide) rfl rfl (g := (mkF m 28 #[.val (.ref a), .val (.ref nm), .val (.ref pr), .val (.int sz), .val (.ref sg), .val (.int ln)] [(.int ln), (.ref a)])) rfl rfl (hb hby dD_28)
  have f25 := (f19).wr W6
  have f26 := (f20).other W6 (Or.inr (slot_ne (Or.inr (hw _ (List.mem_of_getElem? (i := 57) rfl))) (Or.inr (hw _ (List.mem_of_getElem? (i := 65) rfl))) (by decide) (t := (.object "java/lang/String")) (t' := .int) (by decide) (by decide)))
  have f27 := (f21).other W6 (Or.inr (slot_ne (Or.inr (hw _ (List.mem_of_getElem? (i := 59) rfl))) (Or.inr (hw _ (List.mem_of_getElem? (i := 65) rfl))) (by decide) (t := (.object "com/example/kind4/kind4/model/Primitive")) (t' := .int) (by decide) (by decide)))
  have f28 := (f22).other W6 (Or.inr (slot_ne (Or.inr (hw _ (List.mem_of_getElem? (i := 61) rfl))) (Or.inr (hw _ (List.mem_of_getElem? (i := 65) rfl))) (by decide) (t := .int) (t' := .int) (by decide) (by decide)))
  have f29 := (f23).other W6 (Or.inr (slot_ne (Or.inr (hw _ (List.mem_of_getElem? (i := 63) rfl))) (Or.inr (hw _ (List.mem_of_getElem? (i := 65) rfl))) (by decide) (t := (.object "com/example/kind4/kind4/model/Storage")) (t' := .int) (by decide) (by decide)))
  have f30 := (f24).same W6
  have K6 : Keep h0 h6 [a] := (K5).wr W6 (Or.inl (by simp))
  have Z6 : n0 ≤ h6.size := Nat.le_trans Z5 (Keep.of_wr W6).1
  have N6 := Fr.snoc X6 N5 g_a
  refine OG.of st6 ?_
  show OG _ _ _ _ _ _ _ (T6.setTop (mkF m 31 #[.val (.ref a), .val (.ref nm), .val (.ref pr), .val (.int sz), .val (.ref sg), .val (.int ln)] []))
  refine OG.retV X6 hx Bd.returns (hb hby dD_31) hlk ?_ (by decide) (by decide)
  try rw [e6]
  exact ⟨rfl, N6, K6, f25, f26, f27, f28, f29, f30⟩
theorem dT_0 : decode prog_39_method_2_code 0 = .ok (.aload_n 0, 1) := by decide +kernel
theorem dT_1 : decode prog_39_method_2_code 1 = .ok (.getfield 13, 3) := by decide +kernel
theorem dT_4 : decode prog_39_method_2_code 4 = .ok (.aload_n 1, 1) := by decide +kernel
theorem dT_5 : decode prog_39_method_2_code 5 = .ok (.getfield 13, 3) := by decide +kernel
theorem dT_8 : decode prog_39_method_2_code 8 = .ok (.if_acmp .ne 18, 3) := by decide +kernel
theorem dT_11 : decode prog_39_method_2_code 11 = .ok (.aload_n 0, 1) := by decide +kernel
theorem dT_12 : decode prog_39_method_2_code 12 = .ok (.getfield 17, 3) := by decide +kernel
theorem dT_15 : decode prog_39_method_2_code 15 = .ok (.aload_n 1, 1) := by decide +kernel
theorem dT_16 : decode prog_39_method_2_code 16 = .ok (.getfield 17, 3) := by decide +kernel
theorem dT_19 : decode prog_39_method_2_code 19 = .ok (.if_icmp .ne 7, 3) := by decide +kernel
theorem dT_22 : decode prog_39_method_2_code 22 = .ok (.iconst 1, 1) := by decide +kernel
theorem dT_23 : decode prog_39_method_2_code 23 = .ok (.goto 4, 3) := by decide +kernel
theorem dT_27 : decode prog_39_method_2_code 27 = .ok (.ireturn, 1) := by decide +kernel
theorem dT_26 : decode prog_39_method_2_code 26 = .ok (.iconst 0, 1) := by decide +kernel
theorem pn_T : plainName "com/example/kind4/kind4/model/Domain" = true := by first | (simp [plainName, overriddenIn]; done) | decide +kernel
theorem ef_T (m : MethodId) (x0 : Addr) (x1 : Addr) : entryFrame m #[(.ref x0), (.ref x1)] 2 = mkF m 0 #[.val (.ref x0), .val (.ref x1)] [] := by first | (simp [entryFrame, mkF, argsToLocals, Value.category]; done) | rfl
def QT (Z : State) (a : Addr) (b : Addr) (pa : Addr) (pb : Addr) (sa : Int32) (sb : Int32) (h0 : Heap) (n0 : Nat) (v : Option Value) (h : Heap) (L : List Loc) : Prop := v = some (.int (own_same pa pb sa sb)) ∧ Fr n0 L ∧ h = h0
set_option maxRecDepth 65536 in
set_option maxHeartbeats 40000000 in
theorem rmT (l : Launch) (Z : State) (a0 : Array Value) (hw : ∀ d ∈ tables_1, d.before a0 Z = true) (ws : List Jvm.Cond) (a : Addr) (b : Addr) (pa : Addr) (pb : Addr) (sa : Int32) (sb : Int32) (h0 : Heap) (n0 : Nat) (Z0 : n0 ≤ h0.size) (Fp_a : Fld Z h0 a "com/example/kind4/kind4/model/Domain" "primitive" "Lcom/example/kind4/kind4/model/Primitive;" (.ref pa)) (Fs_a : Fld Z h0 a "com/example/kind4/kind4/model/Domain" "size" "I" (.int sa)) (Fp_b : Fld Z h0 b "com/example/kind4/kind4/model/Domain" "primitive" "Lcom/example/kind4/kind4/model/Primitive;" (.ref pb)) (Fs_b : Fld Z h0 b "com/example/kind4/kind4/model/Domain" "size" "I" (.int sb)) :
    MetFree l (⟨"com/example/kind4/kind4/model/Domain", "sameType", "(Lcom/example/kind4/kind4/model/Domain;)Z"⟩ : MethodName) (head1 (Jvm.Cond.code (⟨"com/example/kind4/kind4/model/Domain", "sameType", "(Lcom/example/kind4/kind4/model/Domain;)Z"⟩ : MethodName) prog_39_method_2_code 2 (some .boolean) :: ws) ({ frames := 0, cells := 0, slots := 0, locals := 0 } : Room)) (fun aA oU => aA = #[(.ref a), (.ref b)] ∧ Z.Warmed39 oU.vm ∧ oU.heap = h0) (fun _ _ _ _ _ => True) (fun _ oU oO oU' => ∃ oV oL, oO = .returned oV ∧ QT Z a b pa pb sa sb h0 n0 oV oU'.heap oL ∧ FrameEnd oU oO oU' oL ({ frames := 0, cells := 0, slots := 0, locals := 0 } : Room).cells ({ frames := 0, cells := 0, slots := 0, locals := 0 } : Room).slots) := by
  refine MetFree.of_bodySF (plainFor_of_name pn_T) hisR ?_
  intro p e s m args below meth c s₁ Bd hml0 hP hK
  obtain ⟨rfl, hZ, hh⟩ := hP
  have hx := Bd.exec
  have hby := Bd.bytes
  have hlk := BodyLoose.notSynchronized Bd
  have hml : c.maxLocals = 2 := hml0
  have hown : s.vm.findClass "com/example/kind4/kind4/model/Domain" = some m.cls := findClass_of_methodNamed Bd.named
  have hnm := (name_of_methodNamed Bd.named Bd.method).1
  have X0 : Stand p l e ({ frames := 0, cells := 0, slots := 0, locals := 0 } : Room) s m #[(.ref a), (.ref b)] below meth c s₁ [] 0 0 := Stand.of_body Bd
  have e0 : s₁.heap = h0 := by rw [← hh, Bd.state]; rfl
  have N0 := Fr.nil n0
  show OG p e below s ({ frames := 0, cells := 0, slots := 0, locals := 0 } : Room).cells ({ frames := 0, cells := 0, slots := 0, locals := 0 } : Room).slots (QT Z a b pa pb sa sb h0 n0) _
  refine OG.of (fun oT oK => castTop (ef_T m a b) oK) ?_
  show OG p e below s _ _ _ (s₁.setTop (mkF m 0 #[.val (.ref a), .val (.ref b)] []))
  refine OG.of (A := s₁.setTop (mkF m 1 #[.val (.ref a), .val (.ref b)] [(.ref a)])) (fun oT oK => ?_) ?_
  · show Steps p.tables e below (s₁.setTop (mkF m 0 #[.val (.ref a), .val (.ref b)] [])) oT
    refine XS.aloadN X0.here hx rfl (hb hby dT_0) rfl rfl  ?_
    exact oK
  show OG _ _ _ _ _ _ _ (s₁.setTop (mkF m 1 #[.val (.ref a), .val (.ref b)] [(.ref a)]))
  obtain ⟨T1, X1, e1, st1⟩ := getF X0 hx hZ hown (host := "") (Or.inl (hw _ (List.mem_of_getElem? (i := 58) rfl))) Via.refl e0 Fp_a (g := (mkF m 1 #[.val (.ref a), .val (.ref b)] [(.ref a)])) rfl rfl (hb hby dT_1)
  refine OG.of st1 ?_
  show OG _ _ _ _ _ _ _ (T1.setTop (mkF m 4 #[.val (.ref a), .val (.ref b)] [(.ref pa)]))
  refine OG.of (A := T1.setTop (mkF m 5 #[.val (.ref a), .val (.ref b)] [(.ref b), (.ref pa)])) (fun oT oK => ?_) ?_
  · show Steps p.tables e below (T1.setTop (mkF m 4 #[.val (.ref a), .val (.ref b)] [(.ref pa)])) oT
    refine XS.aloadN X1.here hx rfl (hb hby dT_4) rfl rfl  ?_
    exact oK
  show OG _ _ _ _ _ _ _ (T1.setTop (mkF m 5 #[.val (.ref a), .val (.ref b)] [(.ref b), (.ref pa)]))
  obtain ⟨T2, X2, e2, st2⟩ := getF X1 hx hZ hown (host := "") (Or.inl (hw _ (List.mem_of_getElem? (i := 58) rfl))) Via.refl e1 Fp_b (g := (mkF m 5 #[.val (.ref a), .val (.ref b)] [(.ref b), (.ref pa)])) rfl rfl (hb hby dT_5)
  refine OG.of st2 ?_
  show OG _ _ _ _ _ _ _ (T2.setTop (mkF m 8 #[.val (.ref a), .val (.ref b)] [(.ref pb), (.ref pa)]))
  by_cases hc8_1 : (Value.ref pa) = (Value.ref pb)
  · refine OG.of (fun oT oK => XT.acmpNo X2.here hx rfl (hb hby dT_8) rfl rfl rfl (XT.aa_ne_f hc8_1) oK) ?_
    show OG _ _ _ _ _ _ _ (T2.setTop (mkF m 11 #[.val (.ref a), .val (.ref b)] []))
    refine OG.of (A := T2.setTop (mkF m 12 #[.val (.ref a), .val (.ref b)] [(.ref a)])) (fun oT oK => ?_) ?_
    · show Steps p.tables e below (T2.setTop (mkF m 11 #[.val (.ref a), .val (.ref b)] [])) oT
      refine XS.aloadN X2.here hx rfl (hb hby dT_11) rfl rfl  ?_
      exact oK
    show OG _ _ _ _ _ _ _ (T2.setTop (mkF m 12 #[.val (.ref a), .val (.ref b)] [(.ref a)]))
    obtain ⟨T3, X3, e3, st3⟩ := getF X2 hx hZ hown (host := "") (Or.inl (hw _ (List.mem_of_getElem? (i := 60) rfl))) Via.refl e2 Fs_a (g := (mkF m 12 #[.val (.ref a), .val (.ref b)] [(.ref a)])) rfl rfl (hb hby dT_12)
    refine OG.of st3 ?_
    show OG _ _ _ _ _ _ _ (T3.setTop (mkF m 15 #[.val (.ref a), .val (.ref b)] [(.int sa)]))
    refine OG.of (A := T3.setTop (mkF m 16 #[.val (.ref a), .val (.ref b)] [(.ref b), (.int sa)])) (fun oT oK => ?_) ?_
    · show Steps p.tables e below (T3.setTop (mkF m 15 #[.val (.ref a), .val (.ref b)] [(.int sa)])) oT
      refine XS.aloadN X3.here hx rfl (hb hby dT_15) rfl rfl  ?_
      exact oK
    show OG _ _ _ _ _ _ _ (T3.setTop (mkF m 16 #[.val (.ref a), .val (.ref b)] [(.ref b), (.int sa)]))
    obtain ⟨T4, X4, e4, st4⟩ := getF X3 hx hZ hown (host := "") (Or.inl (hw _ (List.mem_of_getElem? (i := 60) rfl))) Via.refl e3 Fs_b (g := (mkF m 16 #[.val (.ref a), .val (.ref b)] [(.ref b), (.int sa)])) rfl rfl (hb hby dT_16)
    refine OG.of st4 ?_
    show OG _ _ _ _ _ _ _ (T4.setTop (mkF m 19 #[.val (.ref a), .val (.ref b)] [(.int sb), (.int sa)]))
    by_cases hc19_2 : sa = sb
    · refine OG.of (fun oT oK => XS.icmpNo X4.here hx rfl (hb hby dT_19) rfl (XT.ii_ne_f hc19_2) oK) ?_
      show OG _ _ _ _ _ _ _ (T4.setTop (mkF m 22 #[.val (.ref a), .val (.ref b)] []))
      refine OG.of (A := T4.setTop (mkF m 27 #[.val (.ref a), .val (.ref b)] [(.int (1 : Int32))])) (fun oT oK => ?_) ?_
      · show Steps p.tables e below (T4.setTop (mkF m 22 #[.val (.ref a), .val (.ref b)] [])) oT
        refine XS.iconst X4.here hx rfl (hb hby dT_22) ?_
        show Steps p.tables e below (T4.setTop (mkF m 23 #[.val (.ref a), .val (.ref b)] [(.int (1 : Int32))])) _
        refine XS.goto X4.here hx rfl (pc0 := 23) (pc' := 27) rfl (hb hby dT_23) (by decide) (by decide) ?_
        exact oK
      show OG _ _ _ _ _ _ _ (T4.setTop (mkF m 27 #[.val (.ref a), .val (.ref b)] [(.int (1 : Int32))]))
      refine OG.retN X4 hx (t := .boolean) Bd.returns (by simp) (hb hby dT_27) hlk ?_ (by decide) (by decide)
      try rw [e4]
      exact ⟨by rw [own_same, if_pos hc8_1, if_pos hc19_2] <;> rfl, N0, rfl⟩
    · refine OG.of (fun oT oK => XS.icmpYes X4.here hx rfl (pc0 := 19) (pc' := 26) rfl (hb hby dT_19) rfl (XT.ii_ne_t hc19_2) (by decide) (by decide) oK) ?_
      show OG _ _ _ _ _ _ _ (T4.setTop (mkF m 26 #[.val (.ref a), .val (.ref b)] []))
      refine OG.of (A := T4.setTop (mkF m 27 #[.val (.ref a), .val (.ref b)] [(.int (0 : Int32))])) (fun oT oK => ?_) ?_
      · show Steps p.tables e below (T4.setTop (mkF m 26 #[.val (.ref a), .val (.ref b)] [])) oT
        refine XS.iconst X4.here hx rfl (hb hby dT_26) ?_
        exact oK
      show OG _ _ _ _ _ _ _ (T4.setTop (mkF m 27 #[.val (.ref a), .val (.ref b)] [(.int (0 : Int32))]))
      refine OG.retN X4 hx (t := .boolean) Bd.returns (by simp) (hb hby dT_27) hlk ?_ (by decide) (by decide)
      try rw [e4]
      exact ⟨by rw [own_same, if_pos hc8_1, if_neg hc19_2] <;> rfl, N0, rfl⟩
  · refine OG.of (fun oT oK => XT.acmpYes X2.here hx rfl (pc0 := 8) (pc' := 26) rfl (hb hby dT_8) rfl rfl rfl (XT.aa_ne_t hc8_1) (by decide) (by decide) oK) ?_
    show OG _ _ _ _ _ _ _ (T2.setTop (mkF m 26 #[.val (.ref a), .val (.ref b)] []))
    refine OG.of (A := T2.setTop (mkF m 27 #[.val (.ref a), .val (.ref b)] [(.int (0 : Int32))])) (fun oT oK => ?_) ?_
    · show Steps p.tables e below (T2.setTop (mkF m 26 #[.val (.ref a), .val (.ref b)] [])) oT
      refine XS.iconst X2.here hx rfl (hb hby dT_26) ?_
      exact oK
    show OG _ _ _ _ _ _ _ (T2.setTop (mkF m 27 #[.val (.ref a), .val (.ref b)] [(.int (0 : Int32))]))
    refine OG.retN X2 hx (t := .boolean) Bd.returns (by simp) (hb hby dT_27) hlk ?_ (by decide) (by decide)
    try rw [e2]
    exact ⟨by rw [own_same, if_neg hc8_1] <;> rfl, N0, rfl⟩
theorem pd___C_V : parseMethodDescriptor "([C)V" = some ⟨[(.array .char)], none⟩ := by decide +kernel
theorem pd__I_Lcom_example_kind4_kind4_model_Storage_ : parseMethodDescriptor "(I)Lcom/example/kind4/kind4/model/Storage;" = some ⟨[.int], some (.object "com/example/kind4/kind4/model/Storage")⟩ := by decide +kernel
theorem pd__I_Lcom_example_kind4_kind4_model_Primitive_ : parseMethodDescriptor "(I)Lcom/example/kind4/kind4/model/Primitive;" = some ⟨[.int], some (.object "com/example/kind4/kind4/model/Primitive")⟩ := by decide +kernel
theorem pd_8fa24af6 : parseMethodDescriptor "(Ljava/lang/String;Lcom/example/kind4/kind4/model/Primitive;ILcom/example/kind4/kind4/model/Storage;I)V" = some ⟨[(.object "java/lang/String"), (.object "com/example/kind4/kind4/model/Primitive"), .int, (.object "com/example/kind4/kind4/model/Storage"), .int], none⟩ := by decide +kernel
theorem pd__Lcom_example_kind4_kind4_model_Domain__Z : parseMethodDescriptor "(Lcom/example/kind4/kind4/model/Domain;)Z" = some ⟨[(.object "com/example/kind4/kind4/model/Domain")], some .boolean⟩ := by decide +kernel
theorem pn_0 : plainName "com/example/kind4/kind4/model/DomainSameTypePinLaw" = true := by first | (simp [plainName, overriddenIn]; done) | decide +kernel
theorem ef_0 (m : MethodId) (x0 : Int32) (x1 : Int32) (x2 : Int32) (x3 : Int32) (x4 : Int32) (x5 : Int32) : entryFrame m #[(.int x0), (.int x1), (.int x2), (.int x3), (.int x4), (.int x5)] maxLocals = mkF m 0 #[.val (.int x0), .val (.int x1), .val (.int x2), .val (.int x3), .val (.int x4), .val (.int x5), .unset, .unset, .unset, .unset, .unset, .unset, .unset, .unset, .unset, .unset, .unset, .unset, .unset] [] := by first | (simp [entryFrame, mkF, argsToLocals, Value.category, maxLocals]; done) | rfl
def Q0 (Z : State) (p0 : Int32) (p1 : Int32) (p2 : Int32) (p3 : Int32) (p4 : Int32) (p5 : Int32) (wf : Nat → Addr) (zc : Int32) (h0 : Heap) (n0 : Nat) (v : Option Value) (h : Heap) (L : List Loc) : Prop := v = some (.int 1) ∧ Fr n0 L
set_option maxRecDepth 65536 in
set_option maxHeartbeats 40000000 in
theorem rm0 (l : Launch) (Z : State) (a0 : Array Value) (hw : ∀ d ∈ tables_1, d.before a0 Z = true) (ws : List Jvm.Cond) (p0 : Int32) (p1 : Int32) (p2 : Int32) (p3 : Int32) (p4 : Int32) (p5 : Int32) (wf : Nat → Addr) (zc : Int32) (h0 : Heap) (n0 : Nat) (Z0 : n0 ≤ h0.size) (hO : Old Z n0 h0) (S_STRING : Sta Z Z.heap "com/example/kind4/kind4/model/Primitive" "STRING" "Lcom/example/kind4/kind4/model/Primitive;" (.ref (wf 0))) (S_UNBOUNDED_STRING : Sta Z Z.heap "com/example/kind4/kind4/model/Primitive" "UNBOUNDED_STRING" "Lcom/example/kind4/kind4/model/Primitive;" (.ref (wf 1))) (S_BLOB : Sta Z Z.heap "com/example/kind4/kind4/model/Primitive" "BLOB" "Lcom/example/kind4/kind4/model/Primitive;" (.ref (wf 2))) (S_BOOLEAN : Sta Z Z.heap "com/example/kind4/kind4/model/Primitive" "BOOLEAN" "Lcom/example/kind4/kind4/model/Primitive;" (.ref (wf 3))) (S_CHAR : Sta Z Z.heap "com/example/kind4/kind4/model/Primitive" "CHAR" "Lcom/example/kind4/kind4/model/Primitive;" (.ref (wf 4))) (S_DATE : Sta Z Z.heap "com/example/kind4/kind4/model/Primitive" "DATE" "Lcom/example/kind4/kind4/model/Primitive;" (.ref (wf 5))) (S_DATETIME : Sta Z Z.heap "com/example/kind4/kind4/model/Primitive" "DATETIME" "Lcom/example/kind4/kind4/model/Primitive;" (.ref (wf 6))) (S_DOUBLE : Sta Z Z.heap "com/example/kind4/kind4/model/Primitive" "DOUBLE" "Lcom/example/kind4/kind4/model/Primitive;" (.ref (wf 7))) (S_FLOAT : Sta Z Z.heap "com/example/kind4/kind4/model/Primitive" "FLOAT" "Lcom/example/kind4/kind4/model/Primitive;" (.ref (wf 8))) (S_INT8 : Sta Z Z.heap "com/example/kind4/kind4/model/Primitive" "INT8" "Lcom/example/kind4/kind4/model/Primitive;" (.ref (wf 9))) (S_INT16 : Sta Z Z.heap "com/example/kind4/kind4/model/Primitive" "INT16" "Lcom/example/kind4/kind4/model/Primitive;" (.ref (wf 10))) (S_INT32 : Sta Z Z.heap "com/example/kind4/kind4/model/Primitive" "INT32" "Lcom/example/kind4/kind4/model/Primitive;" (.ref (wf 11))) (S_INT64 : Sta Z Z.heap "com/example/kind4/kind4/model/Primitive" "INT64" "Lcom/example/kind4/kind4/model/Primitive;" (.ref (wf 12))) (S_MONEY : Sta Z Z.heap "com/example/kind4/kind4/model/Primitive" "MONEY" "Lcom/example/kind4/kind4/model/Primitive;" (.ref (wf 13))) (T_VARCHAR : ∃ w : Addr, Sta Z Z.heap "com/example/kind4/kind4/model/Storage" "VARCHAR" "Lcom/example/kind4/kind4/model/Storage;" (.ref w)) (T_CHAR : ∃ w : Addr, Sta Z Z.heap "com/example/kind4/kind4/model/Storage" "CHAR" "Lcom/example/kind4/kind4/model/Storage;" (.ref w)) (T_CLOB : ∃ w : Addr, Sta Z Z.heap "com/example/kind4/kind4/model/Storage" "CLOB" "Lcom/example/kind4/kind4/model/Storage;" (.ref w)) (SC : Sta Z Z.heap "java/lang/String" "COMPACT_STRINGS" "Z" (.int zc)) (hzc : ¬ zc = 0) (hOrd : ∀ j, j < 14 → Fld Z Z.heap (wf j) "java/lang/Enum" "ordinal" "I" (.int (own_ord j))) :
    MetFree l x (head1 (Jvm.Cond.code x code maxLocals ret :: ws) room_1) (fun aA oU => aA = #[(.int p0), (.int p1), (.int p2), (.int p3), (.int p4), (.int p5)] ∧ Z.Warmed39 oU.vm ∧ oU.heap = h0) (fun _ _ _ _ _ => True) (fun _ oU oO oU' => ∃ oV oL, oO = .returned oV ∧ Q0 Z p0 p1 p2 p3 p4 p5 wf zc h0 n0 oV oU'.heap oL ∧ FrameEnd oU oO oU' oL 24 128) := by
  refine MetFree.of_bodySF (plainFor_of_name pn_0) hisR ?_
  intro p e s m args below meth c s₁ Bd hml0 hP hK
  obtain ⟨rfl, hZ, hh⟩ := hP
  have hx := Bd.exec
  have hby := Bd.bytes
  have hlk := BodyLoose.notSynchronized Bd
  have hml : c.maxLocals = 19 := hml0
  have hown : s.vm.findClass "com/example/kind4/kind4/model/DomainSameTypePinLaw" = some m.cls := findClass_of_methodNamed Bd.named
  have hnm := (name_of_methodNamed Bd.named Bd.method).1
  have X0 : Stand p l e room_1 s m #[(.int p0), (.int p1), (.int p2), (.int p3), (.int p4), (.int p5)] below meth c s₁ [] 0 0 := Stand.of_body Bd
  have e0 : s₁.heap = h0 := by rw [← hh, Bd.state]; rfl
  have N0 := Fr.nil n0
  show OG p e below s 24 128 (Q0 Z p0 p1 p2 p3 p4 p5 wf zc h0 n0) _
  refine OG.of (fun oT oK => castTop (ef_0 m p0 p1 p2 p3 p4 p5) oK) ?_
  show OG p e below s _ _ _ (s₁.setTop (mkF m 0 #[.val (.int p0), .val (.int p1), .val (.int p2), .val (.int p3), .val (.int p4), .val (.int p5), .unset, .unset, .unset, .unset, .unset, .unset, .unset, .unset, .unset, .unset, .unset, .unset, .unset] []))
  have hws : ∀ d ∈ StrChars.Road.words, d.before a0 Z = true := fun d hd => hw d ((by decide +kernel : ∀ d ∈ StrChars.Road.words, d ∈ tables_1) d hd)
  refine OG.of (A := s₁.setTop (mkF m 70 #[.val (.int p0), .val (.int p1), .val (.int p2), .val (.int p3), .val (.int p4), .val (.int p5), .val (.int ((p0 &&& (2147483647 : Int32)) % (14 : Int32))), .val (.int (if (p4 &&& (1 : Int32)) = (0 : Int32) then ((p1 &&& (2147483647 : Int32)) % (14 : Int32)) else ((p0 &&& (2147483647 : Int32)) % (14 : Int32)))), .val (.int p2), .val (.int (if (p4 &&& (2 : Int32)) = (0 : Int32) then p3 else p2)), .val (.int ((XT.ushr p4 (2 : Int32)) &&& (255 : Int32)).toUInt32.toUInt16.toUInt32.toInt32), .val (.int ((XT.ushr p4 (10 : Int32)) &&& (255 : Int32)).toUInt32.toUInt16.toUInt32.toInt32), .unset, .unset, .unset, .unset, .unset, .unset, .unset] [])) (fun oT oK => ?_) ?_
  · show Steps p.tables e below (s₁.setTop (mkF m 0 #[.val (.int p0), .val (.int p1), .val (.int p2), .val (.int p3), .val (.int p4), .val (.int p5), .unset, .unset, .unset, .unset, .unset, .unset, .unset, .unset, .unset, .unset, .unset, .unset, .unset] [])) oT
    refine XS.iloadN X0.here hx rfl (hb hby at_0) rfl  ?_
    show Steps p.tables e below (s₁.setTop (mkF m 1 #[.val (.int p0), .val (.int p1), .val (.int p2), .val (.int p3), .val (.int p4), .val (.int p5), .unset, .unset, .unset, .unset, .unset, .unset, .unset, .unset, .unset, .unset, .unset, .unset, .unset] [(.int p0)])) _
    refine X0.ldcInt hx hown (mvT hZ (hw _ (List.mem_of_getElem? (i := 0) rfl))) (g := (mkF m 1 #[.val (.int p0), .val (.int p1), .val (.int p2), .val (.int p3), .val (.int p4), .val (.int p5), .unset, .unset, .unset, .unset, .unset, .unset, .unset, .unset, .unset, .unset, .unset, .unset, .unset] [(.int p0)])) rfl (hb hby at_1) _ ?_
    show Steps p.tables e below (s₁.setTop (mkF m 3 #[.val (.int p0), .val (.int p1), .val (.int p2), .val (.int p3), .val (.int p4), .val (.int p5), .unset, .unset, .unset, .unset, .unset, .unset, .unset, .unset, .unset, .unset, .unset, .unset, .unset] [(.int (2147483647 : Int32)), (.int p0)])) _
    refine XS.iand X0.here hx rfl (hb hby at_3) rfl ?_
    show Steps p.tables e below (s₁.setTop (mkF m 4 #[.val (.int p0), .val (.int p1), .val (.int p2), .val (.int p3), .val (.int p4), .val (.int p5), .unset, .unset, .unset, .unset, .unset, .unset, .unset, .unset, .unset, .unset, .unset, .unset, .unset] [(.int (p0 &&& (2147483647 : Int32)))])) _
    refine XS.bipush X0.here hx rfl (hb hby at_4) ?_
    show Steps p.tables e below (s₁.setTop (mkF m 6 #[.val (.int p0), .val (.int p1), .val (.int p2), .val (.int p3), .val (.int p4), .val (.int p5), .unset, .unset, .unset, .unset, .unset, .unset, .unset, .unset, .unset, .unset, .unset, .unset, .unset] [(.int (14 : Int32)), (.int (p0 &&& (2147483647 : Int32)))])) _
    refine Jvm.RoadKit.iremM X0 hx rfl (hb hby at_6) rfl (by decide) ?_
    show Steps p.tables e below (s₁.setTop (mkF m 7 #[.val (.int p0), .val (.int p1), .val (.int p2), .val (.int p3), .val (.int p4), .val (.int p5), .unset, .unset, .unset, .unset, .unset, .unset, .unset, .unset, .unset, .unset, .unset, .unset, .unset] [(.int ((p0 &&& (2147483647 : Int32)) % (14 : Int32)))])) _
    refine XS.istore X0.here hx rfl (hb hby at_7) rfl (l' := #[.val (.int p0), .val (.int p1), .val (.int p2), .val (.int p3), .val (.int p4), .val (.int p5), .val (.int ((p0 &&& (2147483647 : Int32)) % (14 : Int32))), .unset, .unset, .unset, .unset, .unset, .unset, .unset, .unset, .unset, .unset, .unset, .unset]) rfl ?_
    show Steps p.tables e below (s₁.setTop (mkF m 9 #[.val (.int p0), .val (.int p1), .val (.int p2), .val (.int p3), .val (.int p4), .val (.int p5), .val (.int ((p0 &&& (2147483647 : Int32)) % (14 : Int32))), .unset, .unset, .unset, .unset, .unset, .unset, .unset, .unset, .unset, .unset, .unset, .unset] [])) _
    refine XS.iload X0.here hx rfl (hb hby at_9) rfl  ?_
    show Steps p.tables e below (s₁.setTop (mkF m 11 #[.val (.int p0), .val (.int p1), .val (.int p2), .val (.int p3), .val (.int p4), .val (.int p5), .val (.int ((p0 &&& (2147483647 : Int32)) % (14 : Int32))), .unset, .unset, .unset, .unset, .unset, .unset, .unset, .unset, .unset, .unset, .unset, .unset] [(.int p4)])) _
    refine XS.iconst X0.here hx rfl (hb hby at_11) ?_
    show Steps p.tables e below (s₁.setTop (mkF m 12 #[.val (.int p0), .val (.int p1), .val (.int p2), .val (.int p3), .val (.int p4), .val (.int p5), .val (.int ((p0 &&& (2147483647 : Int32)) % (14 : Int32))), .unset, .unset, .unset, .unset, .unset, .unset, .unset, .unset, .unset, .unset, .unset, .unset] [(.int (1 : Int32)), (.int p4)])) _
    refine XS.iand X0.here hx rfl (hb hby at_12) rfl ?_
    show Steps p.tables e below (s₁.setTop (mkF m 13 #[.val (.int p0), .val (.int p1), .val (.int p2), .val (.int p3), .val (.int p4), .val (.int p5), .val (.int ((p0 &&& (2147483647 : Int32)) % (14 : Int32))), .unset, .unset, .unset, .unset, .unset, .unset, .unset, .unset, .unset, .unset, .unset, .unset] [(.int (p4 &&& (1 : Int32)))])) _
    refine (show ∀ oT, Steps p.tables e below (s₁.setTop (mkF m 28 #[.val (.int p0), .val (.int p1), .val (.int p2), .val (.int p3), .val (.int p4), .val (.int p5), .val (.int ((p0 &&& (2147483647 : Int32)) % (14 : Int32))), .unset, .unset, .unset, .unset, .unset, .unset, .unset, .unset, .unset, .unset, .unset, .unset] [(.int (if (p4 &&& (1 : Int32)) = (0 : Int32) then ((p1 &&& (2147483647 : Int32)) % (14 : Int32)) else ((p0 &&& (2147483647 : Int32)) % (14 : Int32))))])) oT → Steps p.tables e below (s₁.setTop (mkF m 13 #[.val (.int p0), .val (.int p1), .val (.int p2), .val (.int p3), .val (.int p4), .val (.int p5), .val (.int ((p0 &&& (2147483647 : Int32)) % (14 : Int32))), .unset, .unset, .unset, .unset, .unset, .unset, .unset, .unset, .unset, .unset, .unset, .unset] [(.int (p4 &&& (1 : Int32)))])) oT from fun oT oK => ?_) _ ?_
    · skip
      show Steps p.tables e below (s₁.setTop (mkF m 13 #[.val (.int p0), .val (.int p1), .val (.int p2), .val (.int p3), .val (.int p4), .val (.int p5), .val (.int ((p0 &&& (2147483647 : Int32)) % (14 : Int32))), .unset, .unset, .unset, .unset, .unset, .unset, .unset, .unset, .unset, .unset, .unset, .unset] [(.int (p4 &&& (1 : Int32)))])) _
      by_cases hj13_2 : (p4 &&& (1 : Int32)) = (0 : Int32)
      · try simp only [if_pos hj13_2] at oK
        refine XS.ifYes X0.here hx rfl (pc0 := 13) (pc' := 21) rfl (hb hby at_13) rfl (XT.i0_eq_t hj13_2) (by decide) (by decide) ?_
        show Steps p.tables e below (s₁.setTop (mkF m 21 #[.val (.int p0), .val (.int p1), .val (.int p2), .val (.int p3), .val (.int p4), .val (.int p5), .val (.int ((p0 &&& (2147483647 : Int32)) % (14 : Int32))), .unset, .unset, .unset, .unset, .unset, .unset, .unset, .unset, .unset, .unset, .unset, .unset] [])) _
        refine XS.iloadN X0.here hx rfl (hb hby at_21) rfl  ?_
        show Steps p.tables e below (s₁.setTop (mkF m 22 #[.val (.int p0), .val (.int p1), .val (.int p2), .val (.int p3), .val (.int p4), .val (.int p5), .val (.int ((p0 &&& (2147483647 : Int32)) % (14 : Int32))), .unset, .unset, .unset, .unset, .unset, .unset, .unset, .unset, .unset, .unset, .unset, .unset] [(.int p1)])) _
        refine X0.ldcInt hx hown (mvT hZ (hw _ (List.mem_of_getElem? (i := 0) rfl))) (g := (mkF m 22 #[.val (.int p0), .val (.int p1), .val (.int p2), .val (.int p3), .val (.int p4), .val (.int p5), .val (.int ((p0 &&& (2147483647 : Int32)) % (14 : Int32))), .unset, .unset, .unset, .unset, .unset, .unset, .unset, .unset, .unset, .unset, .unset, .unset] [(.int p1)])) rfl (hb hby at_22) _ ?_
        show Steps p.tables e below (s₁.setTop (mkF m 24 #[.val (.int p0), .val (.int p1), .val (.int p2), .val (.int p3), .val (.int p4), .val (.int p5), .val (.int ((p0 &&& (2147483647 : Int32)) % (14 : Int32))), .unset, .unset, .unset, .unset, .unset, .unset, .unset, .unset, .unset, .unset, .unset, .unset] [(.int (2147483647 : Int32)), (.int p1)])) _
        refine XS.iand X0.here hx rfl (hb hby at_24) rfl ?_
        show Steps p.tables e below (s₁.setTop (mkF m 25 #[.val (.int p0), .val (.int p1), .val (.int p2), .val (.int p3), .val (.int p4), .val (.int p5), .val (.int ((p0 &&& (2147483647 : Int32)) % (14 : Int32))), .unset, .unset, .unset, .unset, .unset, .unset, .unset, .unset, .unset, .unset, .unset, .unset] [(.int (p1 &&& (2147483647 : Int32)))])) _
        refine XS.bipush X0.here hx rfl (hb hby at_25) ?_
        show Steps p.tables e below (s₁.setTop (mkF m 27 #[.val (.int p0), .val (.int p1), .val (.int p2), .val (.int p3), .val (.int p4), .val (.int p5), .val (.int ((p0 &&& (2147483647 : Int32)) % (14 : Int32))), .unset, .unset, .unset, .unset, .unset, .unset, .unset, .unset, .unset, .unset, .unset, .unset] [(.int (14 : Int32)), (.int (p1 &&& (2147483647 : Int32)))])) _
        refine Jvm.RoadKit.iremM X0 hx rfl (hb hby at_27) rfl (by decide) ?_
        exact oK
      · try simp only [if_neg hj13_2] at oK
        refine XS.ifNo X0.here hx rfl (hb hby at_13) rfl (XT.i0_eq_f hj13_2) ?_
        show Steps p.tables e below (s₁.setTop (mkF m 16 #[.val (.int p0), .val (.int p1), .val (.int p2), .val (.int p3), .val (.int p4), .val (.int p5), .val (.int ((p0 &&& (2147483647 : Int32)) % (14 : Int32))), .unset, .unset, .unset, .unset, .unset, .unset, .unset, .unset, .unset, .unset, .unset, .unset] [])) _
        refine XS.iload X0.here hx rfl (hb hby at_16) rfl  ?_
        show Steps p.tables e below (s₁.setTop (mkF m 18 #[.val (.int p0), .val (.int p1), .val (.int p2), .val (.int p3), .val (.int p4), .val (.int p5), .val (.int ((p0 &&& (2147483647 : Int32)) % (14 : Int32))), .unset, .unset, .unset, .unset, .unset, .unset, .unset, .unset, .unset, .unset, .unset, .unset] [(.int ((p0 &&& (2147483647 : Int32)) % (14 : Int32)))])) _
        refine XS.goto X0.here hx rfl (pc0 := 18) (pc' := 28) rfl (hb hby at_18) (by decide) (by decide) ?_
        exact oK
    show Steps p.tables e below (s₁.setTop (mkF m 28 #[.val (.int p0), .val (.int p1), .val (.int p2), .val (.int p3), .val (.int p4), .val (.int p5), .val (.int ((p0 &&& (2147483647 : Int32)) % (14 : Int32))), .unset, .unset, .unset, .unset, .unset, .unset, .unset, .unset, .unset, .unset, .unset, .unset] [(.int (if (p4 &&& (1 : Int32)) = (0 : Int32) then ((p1 &&& (2147483647 : Int32)) % (14 : Int32)) else ((p0 &&& (2147483647 : Int32)) % (14 : Int32))))])) _
    refine XS.istore X0.here hx rfl (hb hby at_28) rfl (l' := #[.val (.int p0), .val (.int p1), .val (.int p2), .val (.int p3), .val (.int p4), .val (.int p5), .val (.int ((p0 &&& (2147483647 : Int32)) % (14 : Int32))), .val (.int (if (p4 &&& (1 : Int32)) = (0 : Int32) then ((p1 &&& (2147483647 : Int32)) % (14 : Int32)) else ((p0 &&& (2147483647 : Int32)) % (14 : Int32)))), .unset, .unset, .unset, .unset, .unset, .unset, .unset, .unset, .unset, .unset, .unset]) rfl ?_
    show Steps p.tables e below (s₁.setTop (mkF m 30 #[.val (.int p0), .val (.int p1), .val (.int p2), .val (.int p3), .val (.int p4), .val (.int p5), .val (.int ((p0 &&& (2147483647 : Int32)) % (14 : Int32))), .val (.int (if (p4 &&& (1 : Int32)) = (0 : Int32) then ((p1 &&& (2147483647 : Int32)) % (14 : Int32)) else ((p0 &&& (2147483647 : Int32)) % (14 : Int32)))), .unset, .unset, .unset, .unset, .unset, .unset, .unset, .unset, .unset, .unset, .unset] [])) _
    refine XS.iloadN X0.here hx rfl (hb hby at_30) rfl  ?_
    show Steps p.tables e below (s₁.setTop (mkF m 31 #[.val (.int p0), .val (.int p1), .val (.int p2), .val (.int p3), .val (.int p4), .val (.int p5), .val (.int ((p0 &&& (2147483647 : Int32)) % (14 : Int32))), .val (.int (if (p4 &&& (1 : Int32)) = (0 : Int32) then ((p1 &&& (2147483647 : Int32)) % (14 : Int32)) else ((p0 &&& (2147483647 : Int32)) % (14 : Int32)))), .unset, .unset, .unset, .unset, .unset, .unset, .unset, .unset, .unset, .unset, .unset] [(.int p2)])) _
    refine XS.istore X0.here hx rfl (hb hby at_31) rfl (l' := #[.val (.int p0), .val (.int p1), .val (.int p2), .val (.int p3), .val (.int p4), .val (.int p5), .val (.int ((p0 &&& (2147483647 : Int32)) % (14 : Int32))), .val (.int (if (p4 &&& (1 : Int32)) = (0 : Int32) then ((p1 &&& (2147483647 : Int32)) % (14 : Int32)) else ((p0 &&& (2147483647 : Int32)) % (14 : Int32)))), .val (.int p2), .unset, .unset, .unset, .unset, .unset, .unset, .unset, .unset, .unset, .unset]) rfl ?_
    show Steps p.tables e below (s₁.setTop (mkF m 33 #[.val (.int p0), .val (.int p1), .val (.int p2), .val (.int p3), .val (.int p4), .val (.int p5), .val (.int ((p0 &&& (2147483647 : Int32)) % (14 : Int32))), .val (.int (if (p4 &&& (1 : Int32)) = (0 : Int32) then ((p1 &&& (2147483647 : Int32)) % (14 : Int32)) else ((p0 &&& (2147483647 : Int32)) % (14 : Int32)))), .val (.int p2), .unset, .unset, .unset, .unset, .unset, .unset, .unset, .unset, .unset, .unset] [])) _
    refine XS.iload X0.here hx rfl (hb hby at_33) rfl  ?_
    show Steps p.tables e below (s₁.setTop (mkF m 35 #[.val (.int p0), .val (.int p1), .val (.int p2), .val (.int p3), .val (.int p4), .val (.int p5), .val (.int ((p0 &&& (2147483647 : Int32)) % (14 : Int32))), .val (.int (if (p4 &&& (1 : Int32)) = (0 : Int32) then ((p1 &&& (2147483647 : Int32)) % (14 : Int32)) else ((p0 &&& (2147483647 : Int32)) % (14 : Int32)))), .val (.int p2), .unset, .unset, .unset, .unset, .unset, .unset, .unset, .unset, .unset, .unset] [(.int p4)])) _
    refine XS.iconst X0.here hx rfl (hb hby at_35) ?_
    show Steps p.tables e below (s₁.setTop (mkF m 36 #[.val (.int p0), .val (.int p1), .val (.int p2), .val (.int p3), .val (.int p4), .val (.int p5), .val (.int ((p0 &&& (2147483647 : Int32)) % (14 : Int32))), .val (.int (if (p4 &&& (1 : Int32)) = (0 : Int32) then ((p1 &&& (2147483647 : Int32)) % (14 : Int32)) else ((p0 &&& (2147483647 : Int32)) % (14 : Int32)))), .val (.int p2), .unset, .unset, .unset, .unset, .unset, .unset, .unset, .unset, .unset, .unset] [(.int (2 : Int32)), (.int p4)])) _
    refine XS.iand X0.here hx rfl (hb hby at_36) rfl ?_
    show Steps p.tables e below (s₁.setTop (mkF m 37 #[.val (.int p0), .val (.int p1), .val (.int p2), .val (.int p3), .val (.int p4), .val (.int p5), .val (.int ((p0 &&& (2147483647 : Int32)) % (14 : Int32))), .val (.int (if (p4 &&& (1 : Int32)) = (0 : Int32) then ((p1 &&& (2147483647 : Int32)) % (14 : Int32)) else ((p0 &&& (2147483647 : Int32)) % (14 : Int32)))), .val (.int p2), .unset, .unset, .unset, .unset, .unset, .unset, .unset, .unset, .unset, .unset] [(.int (p4 &&& (2 : Int32)))])) _
    refine (show ∀ oT, Steps p.tables e below (s₁.setTop (mkF m 45 #[.val (.int p0), .val (.int p1), .val (.int p2), .val (.int p3), .val (.int p4), .val (.int p5), .val (.int ((p0 &&& (2147483647 : Int32)) % (14 : Int32))), .val (.int (if (p4 &&& (1 : Int32)) = (0 : Int32) then ((p1 &&& (2147483647 : Int32)) % (14 : Int32)) else ((p0 &&& (2147483647 : Int32)) % (14 : Int32)))), .val (.int p2), .unset, .unset, .unset, .unset, .unset, .unset, .unset, .unset, .unset, .unset] [(.int (if (p4 &&& (2 : Int32)) = (0 : Int32) then p3 else p2))])) oT → Steps p.tables e below (s₁.setTop (mkF m 37 #[.val (.int p0), .val (.int p1), .val (.int p2), .val (.int p3), .val (.int p4), .val (.int p5), .val (.int ((p0 &&& (2147483647 : Int32)) % (14 : Int32))), .val (.int (if (p4 &&& (1 : Int32)) = (0 : Int32) then ((p1 &&& (2147483647 : Int32)) % (14 : Int32)) else ((p0 &&& (2147483647 : Int32)) % (14 : Int32)))), .val (.int p2), .unset, .unset, .unset, .unset, .unset, .unset, .unset, .unset, .unset, .unset] [(.int (p4 &&& (2 : Int32)))])) oT from fun oT oK => ?_) _ ?_
    · skip
      show Steps p.tables e below (s₁.setTop (mkF m 37 #[.val (.int p0), .val (.int p1), .val (.int p2), .val (.int p3), .val (.int p4), .val (.int p5), .val (.int ((p0 &&& (2147483647 : Int32)) % (14 : Int32))), .val (.int (if (p4 &&& (1 : Int32)) = (0 : Int32) then ((p1 &&& (2147483647 : Int32)) % (14 : Int32)) else ((p0 &&& (2147483647 : Int32)) % (14 : Int32)))), .val (.int p2), .unset, .unset, .unset, .unset, .unset, .unset, .unset, .unset, .unset, .unset] [(.int (p4 &&& (2 : Int32)))])) _
      by_cases hj37_4 : (p4 &&& (2 : Int32)) = (0 : Int32)
      · try simp only [if_pos hj37_4] at oK
        refine XS.ifYes X0.here hx rfl (pc0 := 37) (pc' := 44) rfl (hb hby at_37) rfl (XT.i0_eq_t hj37_4) (by decide) (by decide) ?_
        show Steps p.tables e below (s₁.setTop (mkF m 44 #[.val (.int p0), .val (.int p1), .val (.int p2), .val (.int p3), .val (.int p4), .val (.int p5), .val (.int ((p0 &&& (2147483647 : Int32)) % (14 : Int32))), .val (.int (if (p4 &&& (1 : Int32)) = (0 : Int32) then ((p1 &&& (2147483647 : Int32)) % (14 : Int32)) else ((p0 &&& (2147483647 : Int32)) % (14 : Int32)))), .val (.int p2), .unset, .unset, .unset, .unset, .unset, .unset, .unset, .unset, .unset, .unset] [])) _
        refine XS.iloadN X0.here hx rfl (hb hby at_44) rfl  ?_
        exact oK
      · try simp only [if_neg hj37_4] at oK
        refine XS.ifNo X0.here hx rfl (hb hby at_37) rfl (XT.i0_eq_f hj37_4) ?_
        show Steps p.tables e below (s₁.setTop (mkF m 40 #[.val (.int p0), .val (.int p1), .val (.int p2), .val (.int p3), .val (.int p4), .val (.int p5), .val (.int ((p0 &&& (2147483647 : Int32)) % (14 : Int32))), .val (.int (if (p4 &&& (1 : Int32)) = (0 : Int32) then ((p1 &&& (2147483647 : Int32)) % (14 : Int32)) else ((p0 &&& (2147483647 : Int32)) % (14 : Int32)))), .val (.int p2), .unset, .unset, .unset, .unset, .unset, .unset, .unset, .unset, .unset, .unset] [])) _
        refine XS.iloadN X0.here hx rfl (hb hby at_40) rfl  ?_
        show Steps p.tables e below (s₁.setTop (mkF m 41 #[.val (.int p0), .val (.int p1), .val (.int p2), .val (.int p3), .val (.int p4), .val (.int p5), .val (.int ((p0 &&& (2147483647 : Int32)) % (14 : Int32))), .val (.int (if (p4 &&& (1 : Int32)) = (0 : Int32) then ((p1 &&& (2147483647 : Int32)) % (14 : Int32)) else ((p0 &&& (2147483647 : Int32)) % (14 : Int32)))), .val (.int p2), .unset, .unset, .unset, .unset, .unset, .unset, .unset, .unset, .unset, .unset] [(.int p2)])) _
        refine XS.goto X0.here hx rfl (pc0 := 41) (pc' := 45) rfl (hb hby at_41) (by decide) (by decide) ?_
        exact oK
    show Steps p.tables e below (s₁.setTop (mkF m 45 #[.val (.int p0), .val (.int p1), .val (.int p2), .val (.int p3), .val (.int p4), .val (.int p5), .val (.int ((p0 &&& (2147483647 : Int32)) % (14 : Int32))), .val (.int (if (p4 &&& (1 : Int32)) = (0 : Int32) then ((p1 &&& (2147483647 : Int32)) % (14 : Int32)) else ((p0 &&& (2147483647 : Int32)) % (14 : Int32)))), .val (.int p2), .unset, .unset, .unset, .unset, .unset, .unset, .unset, .unset, .unset, .unset] [(.int (if (p4 &&& (2 : Int32)) = (0 : Int32) then p3 else p2))])) _
    refine XS.istore X0.here hx rfl (hb hby at_45) rfl (l' := #[.val (.int p0), .val (.int p1), .val (.int p2), .val (.int p3), .val (.int p4), .val (.int p5), .val (.int ((p0 &&& (2147483647 : Int32)) % (14 : Int32))), .val (.int (if (p4 &&& (1 : Int32)) = (0 : Int32) then ((p1 &&& (2147483647 : Int32)) % (14 : Int32)) else ((p0 &&& (2147483647 : Int32)) % (14 : Int32)))), .val (.int p2), .val (.int (if (p4 &&& (2 : Int32)) = (0 : Int32) then p3 else p2)), .unset, .unset, .unset, .unset, .unset, .unset, .unset, .unset, .unset]) rfl ?_
    show Steps p.tables e below (s₁.setTop (mkF m 47 #[.val (.int p0), .val (.int p1), .val (.int p2), .val (.int p3), .val (.int p4), .val (.int p5), .val (.int ((p0 &&& (2147483647 : Int32)) % (14 : Int32))), .val (.int (if (p4 &&& (1 : Int32)) = (0 : Int32) then ((p1 &&& (2147483647 : Int32)) % (14 : Int32)) else ((p0 &&& (2147483647 : Int32)) % (14 : Int32)))), .val (.int p2), .val (.int (if (p4 &&& (2 : Int32)) = (0 : Int32) then p3 else p2)), .unset, .unset, .unset, .unset, .unset, .unset, .unset, .unset, .unset] [])) _
    refine XS.iload X0.here hx rfl (hb hby at_47) rfl  ?_
    show Steps p.tables e below (s₁.setTop (mkF m 49 #[.val (.int p0), .val (.int p1), .val (.int p2), .val (.int p3), .val (.int p4), .val (.int p5), .val (.int ((p0 &&& (2147483647 : Int32)) % (14 : Int32))), .val (.int (if (p4 &&& (1 : Int32)) = (0 : Int32) then ((p1 &&& (2147483647 : Int32)) % (14 : Int32)) else ((p0 &&& (2147483647 : Int32)) % (14 : Int32)))), .val (.int p2), .val (.int (if (p4 &&& (2 : Int32)) = (0 : Int32) then p3 else p2)), .unset, .unset, .unset, .unset, .unset, .unset, .unset, .unset, .unset] [(.int p4)])) _
    refine XS.iconst X0.here hx rfl (hb hby at_49) ?_
    show Steps p.tables e below (s₁.setTop (mkF m 50 #[.val (.int p0), .val (.int p1), .val (.int p2), .val (.int p3), .val (.int p4), .val (.int p5), .val (.int ((p0 &&& (2147483647 : Int32)) % (14 : Int32))), .val (.int (if (p4 &&& (1 : Int32)) = (0 : Int32) then ((p1 &&& (2147483647 : Int32)) % (14 : Int32)) else ((p0 &&& (2147483647 : Int32)) % (14 : Int32)))), .val (.int p2), .val (.int (if (p4 &&& (2 : Int32)) = (0 : Int32) then p3 else p2)), .unset, .unset, .unset, .unset, .unset, .unset, .unset, .unset, .unset] [(.int (2 : Int32)), (.int p4)])) _
    refine XT.iushr X0.here hx rfl (hb hby at_50) rfl ?_
    show Steps p.tables e below (s₁.setTop (mkF m 51 #[.val (.int p0), .val (.int p1), .val (.int p2), .val (.int p3), .val (.int p4), .val (.int p5), .val (.int ((p0 &&& (2147483647 : Int32)) % (14 : Int32))), .val (.int (if (p4 &&& (1 : Int32)) = (0 : Int32) then ((p1 &&& (2147483647 : Int32)) % (14 : Int32)) else ((p0 &&& (2147483647 : Int32)) % (14 : Int32)))), .val (.int p2), .val (.int (if (p4 &&& (2 : Int32)) = (0 : Int32) then p3 else p2)), .unset, .unset, .unset, .unset, .unset, .unset, .unset, .unset, .unset] [(.int (XT.ushr p4 (2 : Int32)))])) _
    refine XS.sipush X0.here hx rfl (hb hby at_51) ?_
    show Steps p.tables e below (s₁.setTop (mkF m 54 #[.val (.int p0), .val (.int p1), .val (.int p2), .val (.int p3), .val (.int p4), .val (.int p5), .val (.int ((p0 &&& (2147483647 : Int32)) % (14 : Int32))), .val (.int (if (p4 &&& (1 : Int32)) = (0 : Int32) then ((p1 &&& (2147483647 : Int32)) % (14 : Int32)) else ((p0 &&& (2147483647 : Int32)) % (14 : Int32)))), .val (.int p2), .val (.int (if (p4 &&& (2 : Int32)) = (0 : Int32) then p3 else p2)), .unset, .unset, .unset, .unset, .unset, .unset, .unset, .unset, .unset] [(.int (255 : Int32)), (.int (XT.ushr p4 (2 : Int32)))])) _
    refine XS.iand X0.here hx rfl (hb hby at_54) rfl ?_
    show Steps p.tables e below (s₁.setTop (mkF m 55 #[.val (.int p0), .val (.int p1), .val (.int p2), .val (.int p3), .val (.int p4), .val (.int p5), .val (.int ((p0 &&& (2147483647 : Int32)) % (14 : Int32))), .val (.int (if (p4 &&& (1 : Int32)) = (0 : Int32) then ((p1 &&& (2147483647 : Int32)) % (14 : Int32)) else ((p0 &&& (2147483647 : Int32)) % (14 : Int32)))), .val (.int p2), .val (.int (if (p4 &&& (2 : Int32)) = (0 : Int32) then p3 else p2)), .unset, .unset, .unset, .unset, .unset, .unset, .unset, .unset, .unset] [(.int ((XT.ushr p4 (2 : Int32)) &&& (255 : Int32)))])) _
    refine XT.i2c X0.here hx rfl (hb hby at_55) rfl ?_
    show Steps p.tables e below (s₁.setTop (mkF m 56 #[.val (.int p0), .val (.int p1), .val (.int p2), .val (.int p3), .val (.int p4), .val (.int p5), .val (.int ((p0 &&& (2147483647 : Int32)) % (14 : Int32))), .val (.int (if (p4 &&& (1 : Int32)) = (0 : Int32) then ((p1 &&& (2147483647 : Int32)) % (14 : Int32)) else ((p0 &&& (2147483647 : Int32)) % (14 : Int32)))), .val (.int p2), .val (.int (if (p4 &&& (2 : Int32)) = (0 : Int32) then p3 else p2)), .unset, .unset, .unset, .unset, .unset, .unset, .unset, .unset, .unset] [(.int ((XT.ushr p4 (2 : Int32)) &&& (255 : Int32)).toUInt32.toUInt16.toUInt32.toInt32)])) _
    refine XS.istore X0.here hx rfl (hb hby at_56) rfl (l' := #[.val (.int p0), .val (.int p1), .val (.int p2), .val (.int p3), .val (.int p4), .val (.int p5), .val (.int ((p0 &&& (2147483647 : Int32)) % (14 : Int32))), .val (.int (if (p4 &&& (1 : Int32)) = (0 : Int32) then ((p1 &&& (2147483647 : Int32)) % (14 : Int32)) else ((p0 &&& (2147483647 : Int32)) % (14 : Int32)))), .val (.int p2), .val (.int (if (p4 &&& (2 : Int32)) = (0 : Int32) then p3 else p2)), .val (.int ((XT.ushr p4 (2 : Int32)) &&& (255 : Int32)).toUInt32.toUInt16.toUInt32.toInt32), .unset, .unset, .unset, .unset, .unset, .unset, .unset, .unset]) rfl ?_
    show Steps p.tables e below (s₁.setTop (mkF m 58 #[.val (.int p0), .val (.int p1), .val (.int p2), .val (.int p3), .val (.int p4), .val (.int p5), .val (.int ((p0 &&& (2147483647 : Int32)) % (14 : Int32))), .val (.int (if (p4 &&& (1 : Int32)) = (0 : Int32) then ((p1 &&& (2147483647 : Int32)) % (14 : Int32)) else ((p0 &&& (2147483647 : Int32)) % (14 : Int32)))), .val (.int p2), .val (.int (if (p4 &&& (2 : Int32)) = (0 : Int32) then p3 else p2)), .val (.int ((XT.ushr p4 (2 : Int32)) &&& (255 : Int32)).toUInt32.toUInt16.toUInt32.toInt32), .unset, .unset, .unset, .unset, .unset, .unset, .unset, .unset] [])) _
    refine XS.iload X0.here hx rfl (hb hby at_58) rfl  ?_
    show Steps p.tables e below (s₁.setTop (mkF m 60 #[.val (.int p0), .val (.int p1), .val (.int p2), .val (.int p3), .val (.int p4), .val (.int p5), .val (.int ((p0 &&& (2147483647 : Int32)) % (14 : Int32))), .val (.int (if (p4 &&& (1 : Int32)) = (0 : Int32) then ((p1 &&& (2147483647 : Int32)) % (14 : Int32)) else ((p0 &&& (2147483647 : Int32)) % (14 : Int32)))), .val (.int p2), .val (.int (if (p4 &&& (2 : Int32)) = (0 : Int32) then p3 else p2)), .val (.int ((XT.ushr p4 (2 : Int32)) &&& (255 : Int32)).toUInt32.toUInt16.toUInt32.toInt32), .unset, .unset, .unset, .unset, .unset, .unset, .unset, .unset] [(.int p4)])) _
    refine XS.bipush X0.here hx rfl (hb hby at_60) ?_
    show Steps p.tables e below (s₁.setTop (mkF m 62 #[.val (.int p0), .val (.int p1), .val (.int p2), .val (.int p3), .val (.int p4), .val (.int p5), .val (.int ((p0 &&& (2147483647 : Int32)) % (14 : Int32))), .val (.int (if (p4 &&& (1 : Int32)) = (0 : Int32) then ((p1 &&& (2147483647 : Int32)) % (14 : Int32)) else ((p0 &&& (2147483647 : Int32)) % (14 : Int32)))), .val (.int p2), .val (.int (if (p4 &&& (2 : Int32)) = (0 : Int32) then p3 else p2)), .val (.int ((XT.ushr p4 (2 : Int32)) &&& (255 : Int32)).toUInt32.toUInt16.toUInt32.toInt32), .unset, .unset, .unset, .unset, .unset, .unset, .unset, .unset] [(.int (10 : Int32)), (.int p4)])) _
    refine XT.iushr X0.here hx rfl (hb hby at_62) rfl ?_
    show Steps p.tables e below (s₁.setTop (mkF m 63 #[.val (.int p0), .val (.int p1), .val (.int p2), .val (.int p3), .val (.int p4), .val (.int p5), .val (.int ((p0 &&& (2147483647 : Int32)) % (14 : Int32))), .val (.int (if (p4 &&& (1 : Int32)) = (0 : Int32) then ((p1 &&& (2147483647 : Int32)) % (14 : Int32)) else ((p0 &&& (2147483647 : Int32)) % (14 : Int32)))), .val (.int p2), .val (.int (if (p4 &&& (2 : Int32)) = (0 : Int32) then p3 else p2)), .val (.int ((XT.ushr p4 (2 : Int32)) &&& (255 : Int32)).toUInt32.toUInt16.toUInt32.toInt32), .unset, .unset, .unset, .unset, .unset, .unset, .unset, .unset] [(.int (XT.ushr p4 (10 : Int32)))])) _
    refine XS.sipush X0.here hx rfl (hb hby at_63) ?_
    show Steps p.tables e below (s₁.setTop (mkF m 66 #[.val (.int p0), .val (.int p1), .val (.int p2), .val (.int p3), .val (.int p4), .val (.int p5), .val (.int ((p0 &&& (2147483647 : Int32)) % (14 : Int32))), .val (.int (if (p4 &&& (1 : Int32)) = (0 : Int32) then ((p1 &&& (2147483647 : Int32)) % (14 : Int32)) else ((p0 &&& (2147483647 : Int32)) % (14 : Int32)))), .val (.int p2), .val (.int (if (p4 &&& (2 : Int32)) = (0 : Int32) then p3 else p2)), .val (.int ((XT.ushr p4 (2 : Int32)) &&& (255 : Int32)).toUInt32.toUInt16.toUInt32.toInt32), .unset, .unset, .unset, .unset, .unset, .unset, .unset, .unset] [(.int (255 : Int32)), (.int (XT.ushr p4 (10 : Int32)))])) _
    refine XS.iand X0.here hx rfl (hb hby at_66) rfl ?_
    show Steps p.tables e below (s₁.setTop (mkF m 67 #[.val (.int p0), .val (.int p1), .val (.int p2), .val (.int p3), .val (.int p4), .val (.int p5), .val (.int ((p0 &&& (2147483647 : Int32)) % (14 : Int32))), .val (.int (if (p4 &&& (1 : Int32)) = (0 : Int32) then ((p1 &&& (2147483647 : Int32)) % (14 : Int32)) else ((p0 &&& (2147483647 : Int32)) % (14 : Int32)))), .val (.int p2), .val (.int (if (p4 &&& (2 : Int32)) = (0 : Int32) then p3 else p2)), .val (.int ((XT.ushr p4 (2 : Int32)) &&& (255 : Int32)).toUInt32.toUInt16.toUInt32.toInt32), .unset, .unset, .unset, .unset, .unset, .unset, .unset, .unset] [(.int ((XT.ushr p4 (10 : Int32)) &&& (255 : Int32)))])) _
    refine XT.i2c X0.here hx rfl (hb hby at_67) rfl ?_
    show Steps p.tables e below (s₁.setTop (mkF m 68 #[.val (.int p0), .val (.int p1), .val (.int p2), .val (.int p3), .val (.int p4), .val (.int p5), .val (.int ((p0 &&& (2147483647 : Int32)) % (14 : Int32))), .val (.int (if (p4 &&& (1 : Int32)) = (0 : Int32) then ((p1 &&& (2147483647 : Int32)) % (14 : Int32)) else ((p0 &&& (2147483647 : Int32)) % (14 : Int32)))), .val (.int p2), .val (.int (if (p4 &&& (2 : Int32)) = (0 : Int32) then p3 else p2)), .val (.int ((XT.ushr p4 (2 : Int32)) &&& (255 : Int32)).toUInt32.toUInt16.toUInt32.toInt32), .unset, .unset, .unset, .unset, .unset, .unset, .unset, .unset] [(.int ((XT.ushr p4 (10 : Int32)) &&& (255 : Int32)).toUInt32.toUInt16.toUInt32.toInt32)])) _
    refine XS.istore X0.here hx rfl (hb hby at_68) rfl (l' := #[.val (.int p0), .val (.int p1), .val (.int p2), .val (.int p3), .val (.int p4), .val (.int p5), .val (.int ((p0 &&& (2147483647 : Int32)) % (14 : Int32))), .val (.int (if (p4 &&& (1 : Int32)) = (0 : Int32) then ((p1 &&& (2147483647 : Int32)) % (14 : Int32)) else ((p0 &&& (2147483647 : Int32)) % (14 : Int32)))), .val (.int p2), .val (.int (if (p4 &&& (2 : Int32)) = (0 : Int32) then p3 else p2)), .val (.int ((XT.ushr p4 (2 : Int32)) &&& (255 : Int32)).toUInt32.toUInt16.toUInt32.toInt32), .val (.int ((XT.ushr p4 (10 : Int32)) &&& (255 : Int32)).toUInt32.toUInt16.toUInt32.toInt32), .unset, .unset, .unset, .unset, .unset, .unset, .unset]) rfl ?_
    exact oK
  show OG _ _ _ _ _ _ _ (s₁.setTop (mkF m 70 #[.val (.int p0), .val (.int p1), .val (.int p2), .val (.int p3), .val (.int p4), .val (.int p5), .val (.int ((p0 &&& (2147483647 : Int32)) % (14 : Int32))), .val (.int (if (p4 &&& (1 : Int32)) = (0 : Int32) then ((p1 &&& (2147483647 : Int32)) % (14 : Int32)) else ((p0 &&& (2147483647 : Int32)) % (14 : Int32)))), .val (.int p2), .val (.int (if (p4 &&& (2 : Int32)) = (0 : Int32) then p3 else p2)), .val (.int ((XT.ushr p4 (2 : Int32)) &&& (255 : Int32)).toUInt32.toUInt16.toUInt32.toInt32), .val (.int ((XT.ushr p4 (10 : Int32)) &&& (255 : Int32)).toUInt32.toUInt16.toUInt32.toInt32), .unset, .unset, .unset, .unset, .unset, .unset, .unset] []))
  obtain ⟨T1, h1, X1, e1, E1, A1, D1, -, st1⟩ := newO X0 hx hZ hown (hw _ (List.mem_of_getElem? (i := 1) rfl)) (hw _ (List.mem_of_getElem? (i := 2) rfl)) (hw _ (List.mem_of_getElem? (i := 3) rfl)) e0 (g := (mkF m 70 #[.val (.int p0), .val (.int p1), .val (.int p2), .val (.int p3), .val (.int p4), .val (.int p5), .val (.int ((p0 &&& (2147483647 : Int32)) % (14 : Int32))), .val (.int (if (p4 &&& (1 : Int32)) = (0 : Int32) then ((p1 &&& (2147483647 : Int32)) % (14 : Int32)) else ((p0 &&& (2147483647 : Int32)) % (14 : Int32)))), .val (.int p2), .val (.int (if (p4 &&& (2 : Int32)) = (0 : Int32) then p3 else p2)), .val (.int ((XT.ushr p4 (2 : Int32)) &&& (255 : Int32)).toUInt32.toUInt16.toUInt32.toInt32), .val (.int ((XT.ushr p4 (10 : Int32)) &&& (255 : Int32)).toUInt32.toUInt16.toUInt32.toInt32), .unset, .unset, .unset, .unset, .unset, .unset, .unset] [])) rfl (hb hby at_70) (by decide) (by decide)
  obtain ⟨b1, g1⟩ : ∃ z, z = (h0).size := ⟨_, rfl⟩
  have gn_b1 : n0 ≤ b1 := Nat.le_trans Z0 (Nat.le_of_eq g1.symm)
  have sz_b1 : h0.size ≤ b1 := Nat.le_trans (Keep.refl h0 []).1 (Nat.le_of_eq g1.symm)
  rw [← g1] at A1 D1 st1
  have f5 := (hO).ext E1
  have K1 : Keep h0 h1 [] := (Keep.refl h0 []).ext E1
  have Z1 : n0 ≤ h1.size := Nat.le_trans Z0 E1.1
  have F1_coder : Fld Z h1 b1 "java/lang/String" "coder" "B" (.int (0 : Int32)) := D1 (Or.inr (hw _ (List.mem_of_getElem? (i := 28) rfl))) (ty := .byte) (by decide)
  have F1_value : Fld Z h1 b1 "java/lang/String" "value" "[B" .null := D1 (Or.inr (hw _ (List.mem_of_getElem? (i := 30) rfl))) (ty := (.array .byte)) (by decide)
  refine OG.of st1 ?_
  show OG _ _ _ _ _ _ _ (T1.setTop (mkF m 73 #[.val (.int p0), .val (.int p1), .val (.int p2), .val (.int p3), .val (.int p4), .val (.int p5), .val (.int ((p0 &&& (2147483647 : Int32)) % (14 : Int32))), .val (.int (if (p4 &&& (1 : Int32)) = (0 : Int32) then ((p1 &&& (2147483647 : Int32)) % (14 : Int32)) else ((p0 &&& (2147483647 : Int32)) % (14 : Int32)))), .val (.int p2), .val (.int (if (p4 &&& (2 : Int32)) = (0 : Int32) then p3 else p2)), .val (.int ((XT.ushr p4 (2 : Int32)) &&& (255 : Int32)).toUInt32.toUInt16.toUInt32.toInt32), .val (.int ((XT.ushr p4 (10 : Int32)) &&& (255 : Int32)).toUInt32.toUInt16.toUInt32.toInt32), .unset, .unset, .unset, .unset, .unset, .unset, .unset] [(.ref b1)]))
  refine OG.of (A := T1.setTop (mkF m 75 #[.val (.int p0), .val (.int p1), .val (.int p2), .val (.int p3), .val (.int p4), .val (.int p5), .val (.int ((p0 &&& (2147483647 : Int32)) % (14 : Int32))), .val (.int (if (p4 &&& (1 : Int32)) = (0 : Int32) then ((p1 &&& (2147483647 : Int32)) % (14 : Int32)) else ((p0 &&& (2147483647 : Int32)) % (14 : Int32)))), .val (.int p2), .val (.int (if (p4 &&& (2 : Int32)) = (0 : Int32) then p3 else p2)), .val (.int ((XT.ushr p4 (2 : Int32)) &&& (255 : Int32)).toUInt32.toUInt16.toUInt32.toInt32), .val (.int ((XT.ushr p4 (10 : Int32)) &&& (255 : Int32)).toUInt32.toUInt16.toUInt32.toInt32), .unset, .unset, .unset, .unset, .unset, .unset, .unset] [(.int (1 : Int32)), (.ref b1), (.ref b1)])) (fun oT oK => ?_) ?_
  · show Steps p.tables e below (T1.setTop (mkF m 73 #[.val (.int p0), .val (.int p1), .val (.int p2), .val (.int p3), .val (.int p4), .val (.int p5), .val (.int ((p0 &&& (2147483647 : Int32)) % (14 : Int32))), .val (.int (if (p4 &&& (1 : Int32)) = (0 : Int32) then ((p1 &&& (2147483647 : Int32)) % (14 : Int32)) else ((p0 &&& (2147483647 : Int32)) % (14 : Int32)))), .val (.int p2), .val (.int (if (p4 &&& (2 : Int32)) = (0 : Int32) then p3 else p2)), .val (.int ((XT.ushr p4 (2 : Int32)) &&& (255 : Int32)).toUInt32.toUInt16.toUInt32.toInt32), .val (.int ((XT.ushr p4 (10 : Int32)) &&& (255 : Int32)).toUInt32.toUInt16.toUInt32.toInt32), .unset, .unset, .unset, .unset, .unset, .unset, .unset] [(.ref b1)])) oT
    refine XS.dup X1.here hx rfl (hb hby at_73) rfl rfl ?_
    show Steps p.tables e below (T1.setTop (mkF m 74 #[.val (.int p0), .val (.int p1), .val (.int p2), .val (.int p3), .val (.int p4), .val (.int p5), .val (.int ((p0 &&& (2147483647 : Int32)) % (14 : Int32))), .val (.int (if (p4 &&& (1 : Int32)) = (0 : Int32) then ((p1 &&& (2147483647 : Int32)) % (14 : Int32)) else ((p0 &&& (2147483647 : Int32)) % (14 : Int32)))), .val (.int p2), .val (.int (if (p4 &&& (2 : Int32)) = (0 : Int32) then p3 else p2)), .val (.int ((XT.ushr p4 (2 : Int32)) &&& (255 : Int32)).toUInt32.toUInt16.toUInt32.toInt32), .val (.int ((XT.ushr p4 (10 : Int32)) &&& (255 : Int32)).toUInt32.toUInt16.toUInt32.toInt32), .unset, .unset, .unset, .unset, .unset, .unset, .unset] [(.ref b1), (.ref b1)])) _
    refine XS.iconst X1.here hx rfl (hb hby at_74) ?_
    exact oK
  show OG _ _ _ _ _ _ _ (T1.setTop (mkF m 75 #[.val (.int p0), .val (.int p1), .val (.int p2), .val (.int p3), .val (.int p4), .val (.int p5), .val (.int ((p0 &&& (2147483647 : Int32)) % (14 : Int32))), .val (.int (if (p4 &&& (1 : Int32)) = (0 : Int32) then ((p1 &&& (2147483647 : Int32)) % (14 : Int32)) else ((p0 &&& (2147483647 : Int32)) % (14 : Int32)))), .val (.int p2), .val (.int (if (p4 &&& (2 : Int32)) = (0 : Int32) then p3 else p2)), .val (.int ((XT.ushr p4 (2 : Int32)) &&& (255 : Int32)).toUInt32.toUInt16.toUInt32.toInt32), .val (.int ((XT.ushr p4 (10 : Int32)) &&& (255 : Int32)).toUInt32.toUInt16.toUInt32.toInt32), .unset, .unset, .unset, .unset, .unset, .unset, .unset] [(.int (1 : Int32)), (.ref b1), (.ref b1)]))
  obtain ⟨T2, h2, kc2, X2, e2, E2, A2, st2⟩ := newP X1 hx hZ (hw _ (List.mem_of_getElem? (i := 4) rfl)) e1 (g := (mkF m 75 #[.val (.int p0), .val (.int p1), .val (.int p2), .val (.int p3), .val (.int p4), .val (.int p5), .val (.int ((p0 &&& (2147483647 : Int32)) % (14 : Int32))), .val (.int (if (p4 &&& (1 : Int32)) = (0 : Int32) then ((p1 &&& (2147483647 : Int32)) % (14 : Int32)) else ((p0 &&& (2147483647 : Int32)) % (14 : Int32)))), .val (.int p2), .val (.int (if (p4 &&& (2 : Int32)) = (0 : Int32) then p3 else p2)), .val (.int ((XT.ushr p4 (2 : Int32)) &&& (255 : Int32)).toUInt32.toUInt16.toUInt32.toInt32), .val (.int ((XT.ushr p4 (10 : Int32)) &&& (255 : Int32)).toUInt32.toUInt16.toUInt32.toInt32), .unset, .unset, .unset, .unset, .unset, .unset, .unset] [(.int (1 : Int32)), (.ref b1), (.ref b1)])) rfl (hb hby at_75) rfl (by decide) (cap := 1) (by decide) (by decide) (by decide) (by decide)
  obtain ⟨b2, g2⟩ : ∃ z, z = (h1).size := ⟨_, rfl⟩
  have ne_b1_b2 : b1 ≠ b2 := Nat.ne_of_lt (Nat.lt_of_lt_of_le (A1).lt (Nat.le_of_eq g2.symm))
  have gn_b2 : n0 ≤ b2 := Nat.le_trans Z1 (Nat.le_of_eq g2.symm)
  have sz_b2 : h0.size ≤ b2 := Nat.le_trans (K1).1 (Nat.le_of_eq g2.symm)
  rw [← g2] at A2 st2
  have f6 := (A1).ext E2
  have f7 := (F1_coder).ext E2
  have f8 := (F1_value).ext E2
  have f9 := (f5).ext E2
  have K2 : Keep h0 h2 [] := (K1).ext E2
  have Z2 : n0 ≤ h2.size := Nat.le_trans Z1 E2.1
  have V2 : Arv Z h2 b2 kc2 .char (1 : Int32) [(.int (0 : Int32))] (.int (0 : Int32)) := (Arv.new A2 (by decide)).pad (pad_rep [] (.int (0 : Int32)) 1)
  refine OG.of st2 ?_
  show OG _ _ _ _ _ _ _ (T2.setTop (mkF m 77 #[.val (.int p0), .val (.int p1), .val (.int p2), .val (.int p3), .val (.int p4), .val (.int p5), .val (.int ((p0 &&& (2147483647 : Int32)) % (14 : Int32))), .val (.int (if (p4 &&& (1 : Int32)) = (0 : Int32) then ((p1 &&& (2147483647 : Int32)) % (14 : Int32)) else ((p0 &&& (2147483647 : Int32)) % (14 : Int32)))), .val (.int p2), .val (.int (if (p4 &&& (2 : Int32)) = (0 : Int32) then p3 else p2)), .val (.int ((XT.ushr p4 (2 : Int32)) &&& (255 : Int32)).toUInt32.toUInt16.toUInt32.toInt32), .val (.int ((XT.ushr p4 (10 : Int32)) &&& (255 : Int32)).toUInt32.toUInt16.toUInt32.toInt32), .unset, .unset, .unset, .unset, .unset, .unset, .unset] [(.ref b2), (.ref b1), (.ref b1)]))
  refine OG.of (A := T2.setTop (mkF m 81 #[.val (.int p0), .val (.int p1), .val (.int p2), .val (.int p3), .val (.int p4), .val (.int p5), .val (.int ((p0 &&& (2147483647 : Int32)) % (14 : Int32))), .val (.int (if (p4 &&& (1 : Int32)) = (0 : Int32) then ((p1 &&& (2147483647 : Int32)) % (14 : Int32)) else ((p0 &&& (2147483647 : Int32)) % (14 : Int32)))), .val (.int p2), .val (.int (if (p4 &&& (2 : Int32)) = (0 : Int32) then p3 else p2)), .val (.int ((XT.ushr p4 (2 : Int32)) &&& (255 : Int32)).toUInt32.toUInt16.toUInt32.toInt32), .val (.int ((XT.ushr p4 (10 : Int32)) &&& (255 : Int32)).toUInt32.toUInt16.toUInt32.toInt32), .unset, .unset, .unset, .unset, .unset, .unset, .unset] [(.int ((XT.ushr p4 (2 : Int32)) &&& (255 : Int32)).toUInt32.toUInt16.toUInt32.toInt32), (.int (0 : Int32)), (.ref b2), (.ref b2), (.ref b1), (.ref b1)])) (fun oT oK => ?_) ?_
  · show Steps p.tables e below (T2.setTop (mkF m 77 #[.val (.int p0), .val (.int p1), .val (.int p2), .val (.int p3), .val (.int p4), .val (.int p5), .val (.int ((p0 &&& (2147483647 : Int32)) % (14 : Int32))), .val (.int (if (p4 &&& (1 : Int32)) = (0 : Int32) then ((p1 &&& (2147483647 : Int32)) % (14 : Int32)) else ((p0 &&& (2147483647 : Int32)) % (14 : Int32)))), .val (.int p2), .val (.int (if (p4 &&& (2 : Int32)) = (0 : Int32) then p3 else p2)), .val (.int ((XT.ushr p4 (2 : Int32)) &&& (255 : Int32)).toUInt32.toUInt16.toUInt32.toInt32), .val (.int ((XT.ushr p4 (10 : Int32)) &&& (255 : Int32)).toUInt32.toUInt16.toUInt32.toInt32), .unset, .unset, .unset, .unset, .unset, .unset, .unset] [(.ref b2), (.ref b1), (.ref b1)])) oT
    refine XS.dup X2.here hx rfl (hb hby at_77) rfl rfl ?_
    show Steps p.tables e below (T2.setTop (mkF m 78 #[.val (.int p0), .val (.int p1), .val (.int p2), .val (.int p3), .val (.int p4), .val (.int p5), .val (.int ((p0 &&& (2147483647 : Int32)) % (14 : Int32))), .val (.int (if (p4 &&& (1 : Int32)) = (0 : Int32) then ((p1 &&& (2147483647 : Int32)) % (14 : Int32)) else ((p0 &&& (2147483647 : Int32)) % (14 : Int32)))), .val (.int p2), .val (.int (if (p4 &&& (2 : Int32)) = (0 : Int32) then p3 else p2)), .val (.int ((XT.ushr p4 (2 : Int32)) &&& (255 : Int32)).toUInt32.toUInt16.toUInt32.toInt32), .val (.int ((XT.ushr p4 (10 : Int32)) &&& (255 : Int32)).toUInt32.toUInt16.toUInt32.toInt32), .unset, .unset, .unset, .unset, .unset, .unset, .unset] [(.ref b2), (.ref b2), (.ref b1), (.ref b1)])) _
    refine XS.iconst X2.here hx rfl (hb hby at_78) ?_
    show Steps p.tables e below (T2.setTop (mkF m 79 #[.val (.int p0), .val (.int p1), .val (.int p2), .val (.int p3), .val (.int p4), .val (.int p5), .val (.int ((p0 &&& (2147483647 : Int32)) % (14 : Int32))), .val (.int (if (p4 &&& (1 : Int32)) = (0 : Int32) then ((p1 &&& (2147483647 : Int32)) % (14 : Int32)) else ((p0 &&& (2147483647 : Int32)) % (14 : Int32)))), .val (.int p2), .val (.int (if (p4 &&& (2 : Int32)) = (0 : Int32) then p3 else p2)), .val (.int ((XT.ushr p4 (2 : Int32)) &&& (255 : Int32)).toUInt32.toUInt16.toUInt32.toInt32), .val (.int ((XT.ushr p4 (10 : Int32)) &&& (255 : Int32)).toUInt32.toUInt16.toUInt32.toInt32), .unset, .unset, .unset, .unset, .unset, .unset, .unset] [(.int (0 : Int32)), (.ref b2), (.ref b2), (.ref b1), (.ref b1)])) _
    refine XS.iload X2.here hx rfl (hb hby at_79) rfl  ?_
    exact oK
  show OG _ _ _ _ _ _ _ (T2.setTop (mkF m 81 #[.val (.int p0), .val (.int p1), .val (.int p2), .val (.int p3), .val (.int p4), .val (.int p5), .val (.int ((p0 &&& (2147483647 : Int32)) % (14 : Int32))), .val (.int (if (p4 &&& (1 : Int32)) = (0 : Int32) then ((p1 &&& (2147483647 : Int32)) % (14 : Int32)) else ((p0 &&& (2147483647 : Int32)) % (14 : Int32)))), .val (.int p2), .val (.int (if (p4 &&& (2 : Int32)) = (0 : Int32) then p3 else p2)), .val (.int ((XT.ushr p4 (2 : Int32)) &&& (255 : Int32)).toUInt32.toUInt16.toUInt32.toInt32), .val (.int ((XT.ushr p4 (10 : Int32)) &&& (255 : Int32)).toUInt32.toUInt16.toUInt32.toInt32), .unset, .unset, .unset, .unset, .unset, .unset, .unset] [(.int ((XT.ushr p4 (2 : Int32)) &&& (255 : Int32)).toUInt32.toUInt16.toUInt32.toInt32), (.int (0 : Int32)), (.ref b2), (.ref b2), (.ref b1), (.ref b1)]))
  have cf10 := V2
  obtain ⟨clf10, Arf10, qf10, Sf10, Mf10, Hf10, Gf10⟩ := cf10
  obtain ⟨T3, h3, X3, e3, W3, st3⟩ := stC X2 hx hZ e2 Arf10 (j := (0 : Int32)) (inb_of Sf10 ⟨by decide, by decide⟩) (g := (mkF m 81 #[.val (.int p0), .val (.int p1), .val (.int p2), .val (.int p3), .val (.int p4), .val (.int p5), .val (.int ((p0 &&& (2147483647 : Int32)) % (14 : Int32))), .val (.int (if (p4 &&& (1 : Int32)) = (0 : Int32) then ((p1 &&& (2147483647 : Int32)) % (14 : Int32)) else ((p0 &&& (2147483647 : Int32)) % (14 : Int32)))), .val (.int p2), .val (.int (if (p4 &&& (2 : Int32)) = (0 : Int32) then p3 else p2)), .val (.int ((XT.ushr p4 (2 : Int32)) &&& (255 : Int32)).toUInt32.toUInt16.toUInt32.toInt32), .val (.int ((XT.ushr p4 (10 : Int32)) &&& (255 : Int32)).toUInt32.toUInt16.toUInt32.toInt32), .unset, .unset, .unset, .unset, .unset, .unset, .unset] [(.int ((XT.ushr p4 (2 : Int32)) &&& (255 : Int32)).toUInt32.toUInt16.toUInt32.toInt32), (.int (0 : Int32)), (.ref b2), (.ref b2), (.ref b1), (.ref b1)])) rfl rfl (hb hby at_81)
  have f11 := (f6).wr W3
  have f12 := (f7).other W3 (Or.inl ne_b1_b2)
  have f13 := (f8).other W3 (Or.inl ne_b1_b2)
  have V3 : Arv Z h3 b2 kc2 .char (1 : Int32) [(.int (nar .char ((XT.ushr p4 (2 : Int32)) &&& (255 : Int32)).toUInt32.toUInt16.toUInt32.toInt32))] (.int (0 : Int32)) := Arv.set Arf10 qf10 Sf10 Mf10 Hf10 Gf10 (fits_nar_char _) W3 0 rfl (Nat.le_of_ble_eq_true rfl)
  have f15 := (f9).wr W3 gn_b2
  have K3 : Keep h0 h3 [] := (K2).wr W3 (Or.inr sz_b2)
  have Z3 : n0 ≤ h3.size := Nat.le_trans Z2 (Keep.of_wr W3).1
  have N3 := Fr.snoc X3 N0 gn_b2
  refine OG.of st3 ?_
  show OG _ _ _ _ _ _ _ (T3.setTop (mkF m 82 #[.val (.int p0), .val (.int p1), .val (.int p2), .val (.int p3), .val (.int p4), .val (.int p5), .val (.int ((p0 &&& (2147483647 : Int32)) % (14 : Int32))), .val (.int (if (p4 &&& (1 : Int32)) = (0 : Int32) then ((p1 &&& (2147483647 : Int32)) % (14 : Int32)) else ((p0 &&& (2147483647 : Int32)) % (14 : Int32)))), .val (.int p2), .val (.int (if (p4 &&& (2 : Int32)) = (0 : Int32) then p3 else p2)), .val (.int ((XT.ushr p4 (2 : Int32)) &&& (255 : Int32)).toUInt32.toUInt16.toUInt32.toInt32), .val (.int ((XT.ushr p4 (10 : Int32)) &&& (255 : Int32)).toUInt32.toUInt16.toUInt32.toInt32), .unset, .unset, .unset, .unset, .unset, .unset, .unset] [(.ref b2), (.ref b1), (.ref b1)]))
  have hlat4 : ∀ c ∈ ([(nar .char ((XT.ushr p4 (2 : Int32)) &&& (255 : Int32)).toUInt32.toUInt16.toUInt32.toInt32)] : List Int32), ¬ c < 0 ∧ ¬ (255 : Int32) < c := own_lat _
  obtain ⟨_, _, ⟨T4, L4, k4, n4⟩, -, X4, ⟨Lc4, hQ4, l4, y4, z4⟩, st4⟩ := X3.specialBack hx (y := (⟨"java/lang/String", "<init>", "([C)V"⟩ : MethodName)) rfl hown (mvT hZ (hw _ (List.mem_of_getElem? (i := 5) rfl))) (mvT hZ (hw _ (List.mem_of_getElem? (i := 6) rfl))) (mvT hZ (hw _ (List.mem_of_getElem? (i := 7) rfl))) (by decide) (StrChars.Road.backV (W := 1) hZ hws (kI := 4) (hw _ (List.mem_of_getElem? (i := 2) rfl)) (cs := [(nar .char ((XT.ushr p4 (2 : Int32)) &&& (255 : Int32)).toUInt32.toUInt16.toUInt32.toInt32)]) (bs := [((nar .char ((XT.ushr p4 (2 : Int32)) &&& (255 : Int32)).toUInt32.toUInt16.toUInt32.toInt32)).toInt8.toInt32]) (n := 1) gn_b1 (Z3) f11 f13 f12 V3 (SC.ext (f15).2) hzc rfl rfl (by decide) (by decide) hlat4 rfl (by decide) (by decide)) (g := (mkF m 82 #[.val (.int p0), .val (.int p1), .val (.int p2), .val (.int p3), .val (.int p4), .val (.int p5), .val (.int ((p0 &&& (2147483647 : Int32)) % (14 : Int32))), .val (.int (if (p4 &&& (1 : Int32)) = (0 : Int32) then ((p1 &&& (2147483647 : Int32)) % (14 : Int32)) else ((p0 &&& (2147483647 : Int32)) % (14 : Int32)))), .val (.int p2), .val (.int (if (p4 &&& (2 : Int32)) = (0 : Int32) then p3 else p2)), .val (.int ((XT.ushr p4 (2 : Int32)) &&& (255 : Int32)).toUInt32.toUInt16.toUInt32.toInt32), .val (.int ((XT.ushr p4 (10 : Int32)) &&& (255 : Int32)).toUInt32.toUInt16.toUInt32.toInt32), .unset, .unset, .unset, .unset, .unset, .unset, .unset] [(.ref b2), (.ref b1), (.ref b1)])) rfl (by rw [hml]; rfl) (Steps.refl _) (a := b1) (argsL := [(.ref b2)]) (rest := [(.ref b1)]) (lenOf pd___C_V rfl) rfl (by show 2 * 0 + _ ≤ _; exact Nat.le_of_eq rfl) (hb hby at_82) (fun _ _ => ⟨rfl, e3, (by decide : 2 + 1 ≤ _), (by decide : 5 + 1 ≤ _)⟩)
  dsimp only [Pt.U, Pt.locs, Pt.cells, Pt.slots] at X4 l4 y4 z4 st4 hQ4
  subst l4 y4 z4
  obtain ⟨rfl, N4q, Kc4, fE4, fC4, t4, kb4, gn_t4, gs4, nx4, fV4, fA4⟩ := hQ4
  have N4 := Fr.app N3 N4q
  have sz_t4 : h0.size ≤ t4 := Nat.le_trans (K3).1 gs4
  have ne_b1_t4 : b1 ≠ t4 := Nat.ne_of_lt (Nat.lt_of_lt_of_le (f11).lt gs4)
  have ne_b2_t4 : b2 ≠ t4 := Nat.ne_of_lt (Nat.lt_of_lt_of_le (V3).lt gs4)
  have f16 := (f11).keep Kc4
  have f19 := (V3).keep Kc4 (ninS (Ne.symm ne_b1_b2) nin0)
  have f20 := (f15).keep Kc4 (allS gn_b1 all0)
  have K4 : Keep h0 T4.heap [] := (K3).trans Kc4 (allS (Or.inr sz_b1) all0)
  have Z4 : n0 ≤ T4.heap.size := Nat.le_trans Z3 Kc4.1
  refine OG.trans st4 ?_
  show OG _ _ _ _ _ _ _ (T4.setTop (mkF m 85 #[.val (.int p0), .val (.int p1), .val (.int p2), .val (.int p3), .val (.int p4), .val (.int p5), .val (.int ((p0 &&& (2147483647 : Int32)) % (14 : Int32))), .val (.int (if (p4 &&& (1 : Int32)) = (0 : Int32) then ((p1 &&& (2147483647 : Int32)) % (14 : Int32)) else ((p0 &&& (2147483647 : Int32)) % (14 : Int32)))), .val (.int p2), .val (.int (if (p4 &&& (2 : Int32)) = (0 : Int32) then p3 else p2)), .val (.int ((XT.ushr p4 (2 : Int32)) &&& (255 : Int32)).toUInt32.toUInt16.toUInt32.toInt32), .val (.int ((XT.ushr p4 (10 : Int32)) &&& (255 : Int32)).toUInt32.toUInt16.toUInt32.toInt32), .unset, .unset, .unset, .unset, .unset, .unset, .unset] [(.ref b1)]))
  refine OG.of (A := T4.setTop (mkF m 87 #[.val (.int p0), .val (.int p1), .val (.int p2), .val (.int p3), .val (.int p4), .val (.int p5), .val (.int ((p0 &&& (2147483647 : Int32)) % (14 : Int32))), .val (.int (if (p4 &&& (1 : Int32)) = (0 : Int32) then ((p1 &&& (2147483647 : Int32)) % (14 : Int32)) else ((p0 &&& (2147483647 : Int32)) % (14 : Int32)))), .val (.int p2), .val (.int (if (p4 &&& (2 : Int32)) = (0 : Int32) then p3 else p2)), .val (.int ((XT.ushr p4 (2 : Int32)) &&& (255 : Int32)).toUInt32.toUInt16.toUInt32.toInt32), .val (.int ((XT.ushr p4 (10 : Int32)) &&& (255 : Int32)).toUInt32.toUInt16.toUInt32.toInt32), .val (.ref b1), .unset, .unset, .unset, .unset, .unset, .unset] [])) (fun oT oK => ?_) ?_
  · show Steps p.tables e below (T4.setTop (mkF m 85 #[.val (.int p0), .val (.int p1), .val (.int p2), .val (.int p3), .val (.int p4), .val (.int p5), .val (.int ((p0 &&& (2147483647 : Int32)) % (14 : Int32))), .val (.int (if (p4 &&& (1 : Int32)) = (0 : Int32) then ((p1 &&& (2147483647 : Int32)) % (14 : Int32)) else ((p0 &&& (2147483647 : Int32)) % (14 : Int32)))), .val (.int p2), .val (.int (if (p4 &&& (2 : Int32)) = (0 : Int32) then p3 else p2)), .val (.int ((XT.ushr p4 (2 : Int32)) &&& (255 : Int32)).toUInt32.toUInt16.toUInt32.toInt32), .val (.int ((XT.ushr p4 (10 : Int32)) &&& (255 : Int32)).toUInt32.toUInt16.toUInt32.toInt32), .unset, .unset, .unset, .unset, .unset, .unset, .unset] [(.ref b1)])) oT
    refine XS.astore X4.here hx rfl (hb hby at_85) rfl rfl (l' := #[.val (.int p0), .val (.int p1), .val (.int p2), .val (.int p3), .val (.int p4), .val (.int p5), .val (.int ((p0 &&& (2147483647 : Int32)) % (14 : Int32))), .val (.int (if (p4 &&& (1 : Int32)) = (0 : Int32) then ((p1 &&& (2147483647 : Int32)) % (14 : Int32)) else ((p0 &&& (2147483647 : Int32)) % (14 : Int32)))), .val (.int p2), .val (.int (if (p4 &&& (2 : Int32)) = (0 : Int32) then p3 else p2)), .val (.int ((XT.ushr p4 (2 : Int32)) &&& (255 : Int32)).toUInt32.toUInt16.toUInt32.toInt32), .val (.int ((XT.ushr p4 (10 : Int32)) &&& (255 : Int32)).toUInt32.toUInt16.toUInt32.toInt32), .val (.ref b1), .unset, .unset, .unset, .unset, .unset, .unset]) rfl ?_
    exact oK
  show OG _ _ _ _ _ _ _ (T4.setTop (mkF m 87 #[.val (.int p0), .val (.int p1), .val (.int p2), .val (.int p3), .val (.int p4), .val (.int p5), .val (.int ((p0 &&& (2147483647 : Int32)) % (14 : Int32))), .val (.int (if (p4 &&& (1 : Int32)) = (0 : Int32) then ((p1 &&& (2147483647 : Int32)) % (14 : Int32)) else ((p0 &&& (2147483647 : Int32)) % (14 : Int32)))), .val (.int p2), .val (.int (if (p4 &&& (2 : Int32)) = (0 : Int32) then p3 else p2)), .val (.int ((XT.ushr p4 (2 : Int32)) &&& (255 : Int32)).toUInt32.toUInt16.toUInt32.toInt32), .val (.int ((XT.ushr p4 (10 : Int32)) &&& (255 : Int32)).toUInt32.toUInt16.toUInt32.toInt32), .val (.ref b1), .unset, .unset, .unset, .unset, .unset, .unset] []))
  obtain ⟨T5, h5, X5, e5, E5, A5, D5, -, st5⟩ := newO X4 hx hZ hown (hw _ (List.mem_of_getElem? (i := 1) rfl)) (hw _ (List.mem_of_getElem? (i := 2) rfl)) (hw _ (List.mem_of_getElem? (i := 3) rfl)) rfl (g := (mkF m 87 #[.val (.int p0), .val (.int p1), .val (.int p2), .val (.int p3), .val (.int p4), .val (.int p5), .val (.int ((p0 &&& (2147483647 : Int32)) % (14 : Int32))), .val (.int (if (p4 &&& (1 : Int32)) = (0 : Int32) then ((p1 &&& (2147483647 : Int32)) % (14 : Int32)) else ((p0 &&& (2147483647 : Int32)) % (14 : Int32)))), .val (.int p2), .val (.int (if (p4 &&& (2 : Int32)) = (0 : Int32) then p3 else p2)), .val (.int ((XT.ushr p4 (2 : Int32)) &&& (255 : Int32)).toUInt32.toUInt16.toUInt32.toInt32), .val (.int ((XT.ushr p4 (10 : Int32)) &&& (255 : Int32)).toUInt32.toUInt16.toUInt32.toInt32), .val (.ref b1), .unset, .unset, .unset, .unset, .unset, .unset] [])) rfl (hb hby at_87) (by decide) (by decide)
  obtain ⟨b5, g5⟩ : ∃ z, z = (T4.heap).size := ⟨_, rfl⟩
  have ne_b1_b5 : b1 ≠ b5 := Nat.ne_of_lt (Nat.lt_of_lt_of_le (fE4).lt (Nat.le_of_eq g5.symm))
  have ne_b2_b5 : b2 ≠ b5 := Nat.ne_of_lt (Nat.lt_of_lt_of_le (f19).lt (Nat.le_of_eq g5.symm))
  have ne_t4_b5 : t4 ≠ b5 := Nat.ne_of_lt (Nat.lt_of_lt_of_le (fA4).lt (Nat.le_of_eq g5.symm))
  have gn_b5 : n0 ≤ b5 := Nat.le_trans Z4 (Nat.le_of_eq g5.symm)
  have sz_b5 : h0.size ≤ b5 := Nat.le_trans (K4).1 (Nat.le_of_eq g5.symm)
  rw [← g5] at A5 D5 st5
  have f21 := (fE4).ext E5
  have f22 := (f19).ext E5
  have f23 := (fC4).ext E5
  have f24 := (fV4).ext E5
  have f25 := (fA4).ext E5
  have f26 := (f20).ext E5
  have K5 : Keep h0 h5 [] := (K4).ext E5
  have Z5 : n0 ≤ h5.size := Nat.le_trans Z4 E5.1
  have F5_coder : Fld Z h5 b5 "java/lang/String" "coder" "B" (.int (0 : Int32)) := D5 (Or.inr (hw _ (List.mem_of_getElem? (i := 28) rfl))) (ty := .byte) (by decide)
  have F5_value : Fld Z h5 b5 "java/lang/String" "value" "[B" .null := D5 (Or.inr (hw _ (List.mem_of_getElem? (i := 30) rfl))) (ty := (.array .byte)) (by decide)
  refine OG.of st5 ?_
  show OG _ _ _ _ _ _ _ (T5.setTop (mkF m 90 #[.val (.int p0), .val (.int p1), .val (.int p2), .val (.int p3), .val (.int p4), .val (.int p5), .val (.int ((p0 &&& (2147483647 : Int32)) % (14 : Int32))), .val (.int (if (p4 &&& (1 : Int32)) = (0 : Int32) then ((p1 &&& (2147483647 : Int32)) % (14 : Int32)) else ((p0 &&& (2147483647 : Int32)) % (14 : Int32)))), .val (.int p2), .val (.int (if (p4 &&& (2 : Int32)) = (0 : Int32) then p3 else p2)), .val (.int ((XT.ushr p4 (2 : Int32)) &&& (255 : Int32)).toUInt32.toUInt16.toUInt32.toInt32), .val (.int ((XT.ushr p4 (10 : Int32)) &&& (255 : Int32)).toUInt32.toUInt16.toUInt32.toInt32), .val (.ref b1), .unset, .unset, .unset, .unset, .unset, .unset] [(.ref b5)]))
  refine OG.of (A := T5.setTop (mkF m 92 #[.val (.int p0), .val (.int p1), .val (.int p2), .val (.int p3), .val (.int p4), .val (.int p5), .val (.int ((p0 &&& (2147483647 : Int32)) % (14 : Int32))), .val (.int (if (p4 &&& (1 : Int32)) = (0 : Int32) then ((p1 &&& (2147483647 : Int32)) % (14 : Int32)) else ((p0 &&& (2147483647 : Int32)) % (14 : Int32)))), .val (.int p2), .val (.int (if (p4 &&& (2 : Int32)) = (0 : Int32) then p3 else p2)), .val (.int ((XT.ushr p4 (2 : Int32)) &&& (255 : Int32)).toUInt32.toUInt16.toUInt32.toInt32), .val (.int ((XT.ushr p4 (10 : Int32)) &&& (255 : Int32)).toUInt32.toUInt16.toUInt32.toInt32), .val (.ref b1), .unset, .unset, .unset, .unset, .unset, .unset] [(.int (1 : Int32)), (.ref b5), (.ref b5)])) (fun oT oK => ?_) ?_
  · show Steps p.tables e below (T5.setTop (mkF m 90 #[.val (.int p0), .val (.int p1), .val (.int p2), .val (.int p3), .val (.int p4), .val (.int p5), .val (.int ((p0 &&& (2147483647 : Int32)) % (14 : Int32))), .val (.int (if (p4 &&& (1 : Int32)) = (0 : Int32) then ((p1 &&& (2147483647 : Int32)) % (14 : Int32)) else ((p0 &&& (2147483647 : Int32)) % (14 : Int32)))), .val (.int p2), .val (.int (if (p4 &&& (2 : Int32)) = (0 : Int32) then p3 else p2)), .val (.int ((XT.ushr p4 (2 : Int32)) &&& (255 : Int32)).toUInt32.toUInt16.toUInt32.toInt32), .val (.int ((XT.ushr p4 (10 : Int32)) &&& (255 : Int32)).toUInt32.toUInt16.toUInt32.toInt32), .val (.ref b1), .unset, .unset, .unset, .unset, .unset, .unset] [(.ref b5)])) oT
    refine XS.dup X5.here hx rfl (hb hby at_90) rfl rfl ?_
    show Steps p.tables e below (T5.setTop (mkF m 91 #[.val (.int p0), .val (.int p1), .val (.int p2), .val (.int p3), .val (.int p4), .val (.int p5), .val (.int ((p0 &&& (2147483647 : Int32)) % (14 : Int32))), .val (.int (if (p4 &&& (1 : Int32)) = (0 : Int32) then ((p1 &&& (2147483647 : Int32)) % (14 : Int32)) else ((p0 &&& (2147483647 : Int32)) % (14 : Int32)))), .val (.int p2), .val (.int (if (p4 &&& (2 : Int32)) = (0 : Int32) then p3 else p2)), .val (.int ((XT.ushr p4 (2 : Int32)) &&& (255 : Int32)).toUInt32.toUInt16.toUInt32.toInt32), .val (.int ((XT.ushr p4 (10 : Int32)) &&& (255 : Int32)).toUInt32.toUInt16.toUInt32.toInt32), .val (.ref b1), .unset, .unset, .unset, .unset, .unset, .unset] [(.ref b5), (.ref b5)])) _
    refine XS.iconst X5.here hx rfl (hb hby at_91) ?_
    exact oK
  show OG _ _ _ _ _ _ _ (T5.setTop (mkF m 92 #[.val (.int p0), .val (.int p1), .val (.int p2), .val (.int p3), .val (.int p4), .val (.int p5), .val (.int ((p0 &&& (2147483647 : Int32)) % (14 : Int32))), .val (.int (if (p4 &&& (1 : Int32)) = (0 : Int32) then ((p1 &&& (2147483647 : Int32)) % (14 : Int32)) else ((p0 &&& (2147483647 : Int32)) % (14 : Int32)))), .val (.int p2), .val (.int (if (p4 &&& (2 : Int32)) = (0 : Int32) then p3 else p2)), .val (.int ((XT.ushr p4 (2 : Int32)) &&& (255 : Int32)).toUInt32.toUInt16.toUInt32.toInt32), .val (.int ((XT.ushr p4 (10 : Int32)) &&& (255 : Int32)).toUInt32.toUInt16.toUInt32.toInt32), .val (.ref b1), .unset, .unset, .unset, .unset, .unset, .unset] [(.int (1 : Int32)), (.ref b5), (.ref b5)]))
  obtain ⟨T6, h6, kc6, X6, e6, E6, A6, st6⟩ := newP X5 hx hZ (hw _ (List.mem_of_getElem? (i := 4) rfl)) e5 (g := (mkF m 92 #[.val (.int p0), .val (.int p1), .val (.int p2), .val (.int p3), .val (.int p4), .val (.int p5), .val (.int ((p0 &&& (2147483647 : Int32)) % (14 : Int32))), .val (.int (if (p4 &&& (1 : Int32)) = (0 : Int32) then ((p1 &&& (2147483647 : Int32)) % (14 : Int32)) else ((p0 &&& (2147483647 : Int32)) % (14 : Int32)))), .val (.int p2), .val (.int (if (p4 &&& (2 : Int32)) = (0 : Int32) then p3 else p2)), .val (.int ((XT.ushr p4 (2 : Int32)) &&& (255 : Int32)).toUInt32.toUInt16.toUInt32.toInt32), .val (.int ((XT.ushr p4 (10 : Int32)) &&& (255 : Int32)).toUInt32.toUInt16.toUInt32.toInt32), .val (.ref b1), .unset, .unset, .unset, .unset, .unset, .unset] [(.int (1 : Int32)), (.ref b5), (.ref b5)])) rfl (hb hby at_92) rfl (by decide) (cap := 1) (by decide) (by decide) (by decide) (by decide)
  obtain ⟨b6, g6⟩ : ∃ z, z = (h5).size := ⟨_, rfl⟩
  have ne_b1_b6 : b1 ≠ b6 := Nat.ne_of_lt (Nat.lt_of_lt_of_le (f21).lt (Nat.le_of_eq g6.symm))
  have ne_b2_b6 : b2 ≠ b6 := Nat.ne_of_lt (Nat.lt_of_lt_of_le (f22).lt (Nat.le_of_eq g6.symm))
  have ne_t4_b6 : t4 ≠ b6 := Nat.ne_of_lt (Nat.lt_of_lt_of_le (f25).lt (Nat.le_of_eq g6.symm))
  have ne_b5_b6 : b5 ≠ b6 := Nat.ne_of_lt (Nat.lt_of_lt_of_le (A5).lt (Nat.le_of_eq g6.symm))
  have gn_b6 : n0 ≤ b6 := Nat.le_trans Z5 (Nat.le_of_eq g6.symm)
  have sz_b6 : h0.size ≤ b6 := Nat.le_trans (K5).1 (Nat.le_of_eq g6.symm)
  rw [← g6] at A6 st6
  have f27 := (f21).ext E6
  have f28 := (f22).ext E6
  have f29 := (f23).ext E6
  have f30 := (f24).ext E6
  have f31 := (f25).ext E6
  have f32 := (A5).ext E6
  have f33 := (F5_coder).ext E6
  have f34 := (F5_value).ext E6
  have f35 := (f26).ext E6
  have K6 : Keep h0 h6 [] := (K5).ext E6
  have Z6 : n0 ≤ h6.size := Nat.le_trans Z5 E6.1
  have V6 : Arv Z h6 b6 kc6 .char (1 : Int32) [(.int (0 : Int32))] (.int (0 : Int32)) := (Arv.new A6 (by decide)).pad (pad_rep [] (.int (0 : Int32)) 1)
  refine OG.of st6 ?_
  show OG _ _ _ _ _ _ _ (T6.setTop (mkF m 94 #[.val (.int p0), .val (.int p1), .val (.int p2), .val (.int p3), .val (.int p4), .val (.int p5), .val (.int ((p0 &&& (2147483647 : Int32)) % (14 : Int32))), .val (.int (if (p4 &&& (1 : Int32)) = (0 : Int32) then ((p1 &&& (2147483647 : Int32)) % (14 : Int32)) else ((p0 &&& (2147483647 : Int32)) % (14 : Int32)))), .val (.int p2), .val (.int (if (p4 &&& (2 : Int32)) = (0 : Int32) then p3 else p2)), .val (.int ((XT.ushr p4 (2 : Int32)) &&& (255 : Int32)).toUInt32.toUInt16.toUInt32.toInt32), .val (.int ((XT.ushr p4 (10 : Int32)) &&& (255 : Int32)).toUInt32.toUInt16.toUInt32.toInt32), .val (.ref b1), .unset, .unset, .unset, .unset, .unset, .unset] [(.ref b6), (.ref b5), (.ref b5)]))
  refine OG.of (A := T6.setTop (mkF m 98 #[.val (.int p0), .val (.int p1), .val (.int p2), .val (.int p3), .val (.int p4), .val (.int p5), .val (.int ((p0 &&& (2147483647 : Int32)) % (14 : Int32))), .val (.int (if (p4 &&& (1 : Int32)) = (0 : Int32) then ((p1 &&& (2147483647 : Int32)) % (14 : Int32)) else ((p0 &&& (2147483647 : Int32)) % (14 : Int32)))), .val (.int p2), .val (.int (if (p4 &&& (2 : Int32)) = (0 : Int32) then p3 else p2)), .val (.int ((XT.ushr p4 (2 : Int32)) &&& (255 : Int32)).toUInt32.toUInt16.toUInt32.toInt32), .val (.int ((XT.ushr p4 (10 : Int32)) &&& (255 : Int32)).toUInt32.toUInt16.toUInt32.toInt32), .val (.ref b1), .unset, .unset, .unset, .unset, .unset, .unset] [(.int ((XT.ushr p4 (10 : Int32)) &&& (255 : Int32)).toUInt32.toUInt16.toUInt32.toInt32), (.int (0 : Int32)), (.ref b6), (.ref b6), (.ref b5), (.ref b5)])) (fun oT oK => ?_) ?_
  · show Steps p.tables e below (T6.setTop (mkF m 94 #[.val (.int p0), .val (.int p1), .val (.int p2), .val (.int p3), .val (.int p4), .val (.int p5), .val (.int ((p0 &&& (2147483647 : Int32)) % (14 : Int32))), .val (.int (if (p4 &&& (1 : Int32)) = (0 : Int32) then ((p1 &&& (2147483647 : Int32)) % (14 : Int32)) else ((p0 &&& (2147483647 : Int32)) % (14 : Int32)))), .val (.int p2), .val (.int (if (p4 &&& (2 : Int32)) = (0 : Int32) then p3 else p2)), .val (.int ((XT.ushr p4 (2 : Int32)) &&& (255 : Int32)).toUInt32.toUInt16.toUInt32.toInt32), .val (.int ((XT.ushr p4 (10 : Int32)) &&& (255 : Int32)).toUInt32.toUInt16.toUInt32.toInt32), .val (.ref b1), .unset, .unset, .unset, .unset, .unset, .unset] [(.ref b6), (.ref b5), (.ref b5)])) oT
    refine XS.dup X6.here hx rfl (hb hby at_94) rfl rfl ?_
    show Steps p.tables e below (T6.setTop (mkF m 95 #[.val (.int p0), .val (.int p1), .val (.int p2), .val (.int p3), .val (.int p4), .val (.int p5), .val (.int ((p0 &&& (2147483647 : Int32)) % (14 : Int32))), .val (.int (if (p4 &&& (1 : Int32)) = (0 : Int32) then ((p1 &&& (2147483647 : Int32)) % (14 : Int32)) else ((p0 &&& (2147483647 : Int32)) % (14 : Int32)))), .val (.int p2), .val (.int (if (p4 &&& (2 : Int32)) = (0 : Int32) then p3 else p2)), .val (.int ((XT.ushr p4 (2 : Int32)) &&& (255 : Int32)).toUInt32.toUInt16.toUInt32.toInt32), .val (.int ((XT.ushr p4 (10 : Int32)) &&& (255 : Int32)).toUInt32.toUInt16.toUInt32.toInt32), .val (.ref b1), .unset, .unset, .unset, .unset, .unset, .unset] [(.ref b6), (.ref b6), (.ref b5), (.ref b5)])) _
    refine XS.iconst X6.here hx rfl (hb hby at_95) ?_
    show Steps p.tables e below (T6.setTop (mkF m 96 #[.val (.int p0), .val (.int p1), .val (.int p2), .val (.int p3), .val (.int p4), .val (.int p5), .val (.int ((p0 &&& (2147483647 : Int32)) % (14 : Int32))), .val (.int (if (p4 &&& (1 : Int32)) = (0 : Int32) then ((p1 &&& (2147483647 : Int32)) % (14 : Int32)) else ((p0 &&& (2147483647 : Int32)) % (14 : Int32)))), .val (.int p2), .val (.int (if (p4 &&& (2 : Int32)) = (0 : Int32) then p3 else p2)), .val (.int ((XT.ushr p4 (2 : Int32)) &&& (255 : Int32)).toUInt32.toUInt16.toUInt32.toInt32), .val (.int ((XT.ushr p4 (10 : Int32)) &&& (255 : Int32)).toUInt32.toUInt16.toUInt32.toInt32), .val (.ref b1), .unset, .unset, .unset, .unset, .unset, .unset] [(.int (0 : Int32)), (.ref b6), (.ref b6), (.ref b5), (.ref b5)])) _
    refine XS.iload X6.here hx rfl (hb hby at_96) rfl  ?_
    exact oK
  show OG _ _ _ _ _ _ _ (T6.setTop (mkF m 98 #[.val (.int p0), .val (.int p1), .val (.int p2), .val (.int p3), .val (.int p4), .val (.int p5), .val (.int ((p0 &&& (2147483647 : Int32)) % (14 : Int32))), .val (.int (if (p4 &&& (1 : Int32)) = (0 : Int32) then ((p1 &&& (2147483647 : Int32)) % (14 : Int32)) else ((p0 &&& (2147483647 : Int32)) % (14 : Int32)))), .val (.int p2), .val (.int (if (p4 &&& (2 : Int32)) = (0 : Int32) then p3 else p2)), .val (.int ((XT.ushr p4 (2 : Int32)) &&& (255 : Int32)).toUInt32.toUInt16.toUInt32.toInt32), .val (.int ((XT.ushr p4 (10 : Int32)) &&& (255 : Int32)).toUInt32.toUInt16.toUInt32.toInt32), .val (.ref b1), .unset, .unset, .unset, .unset, .unset, .unset] [(.int ((XT.ushr p4 (10 : Int32)) &&& (255 : Int32)).toUInt32.toUInt16.toUInt32.toInt32), (.int (0 : Int32)), (.ref b6), (.ref b6), (.ref b5), (.ref b5)]))
  have cf36 := V6
  obtain ⟨clf36, Arf36, qf36, Sf36, Mf36, Hf36, Gf36⟩ := cf36
  obtain ⟨T7, h7, X7, e7, W7, st7⟩ := stC X6 hx hZ e6 Arf36 (j := (0 : Int32)) (inb_of Sf36 ⟨by decide, by decide⟩) (g := (mkF m 98 #[.val (.int p0), .val (.int p1), .val (.int p2), .val (.int p3), .val (.int p4), .val (.int p5), .val (.int ((p0 &&& (2147483647 : Int32)) % (14 : Int32))), .val (.int (if (p4 &&& (1 : Int32)) = (0 : Int32) then ((p1 &&& (2147483647 : Int32)) % (14 : Int32)) else ((p0 &&& (2147483647 : Int32)) % (14 : Int32)))), .val (.int p2), .val (.int (if (p4 &&& (2 : Int32)) = (0 : Int32) then p3 else p2)), .val (.int ((XT.ushr p4 (2 : Int32)) &&& (255 : Int32)).toUInt32.toUInt16.toUInt32.toInt32), .val (.int ((XT.ushr p4 (10 : Int32)) &&& (255 : Int32)).toUInt32.toUInt16.toUInt32.toInt32), .val (.ref b1), .unset, .unset, .unset, .unset, .unset, .unset] [(.int ((XT.ushr p4 (10 : Int32)) &&& (255 : Int32)).toUInt32.toUInt16.toUInt32.toInt32), (.int (0 : Int32)), (.ref b6), (.ref b6), (.ref b5), (.ref b5)])) rfl rfl (hb hby at_98)
  have f37 := (f27).wr W7
  have f38 := (f28).other W7 ne_b2_b6
  have f39 := (f29).other W7 (Or.inl ne_b1_b6)
  have f40 := (f30).other W7 (Or.inl ne_b1_b6)
  have f41 := (f31).other W7 ne_t4_b6
  have f42 := (f32).wr W7
  have f43 := (f33).other W7 (Or.inl ne_b5_b6)
  have f44 := (f34).other W7 (Or.inl ne_b5_b6)
  have V7 : Arv Z h7 b6 kc6 .char (1 : Int32) [(.int (nar .char ((XT.ushr p4 (10 : Int32)) &&& (255 : Int32)).toUInt32.toUInt16.toUInt32.toInt32))] (.int (0 : Int32)) := Arv.set Arf36 qf36 Sf36 Mf36 Hf36 Gf36 (fits_nar_char _) W7 0 rfl (Nat.le_of_ble_eq_true rfl)
  have f46 := (f35).wr W7 gn_b6
  have K7 : Keep h0 h7 [] := (K6).wr W7 (Or.inr sz_b6)
  have Z7 : n0 ≤ h7.size := Nat.le_trans Z6 (Keep.of_wr W7).1
  have N7 := Fr.snoc X7 N4 gn_b6
  refine OG.of st7 ?_
  show OG _ _ _ _ _ _ _ (T7.setTop (mkF m 99 #[.val (.int p0), .val (.int p1), .val (.int p2), .val (.int p3), .val (.int p4), .val (.int p5), .val (.int ((p0 &&& (2147483647 : Int32)) % (14 : Int32))), .val (.int (if (p4 &&& (1 : Int32)) = (0 : Int32) then ((p1 &&& (2147483647 : Int32)) % (14 : Int32)) else ((p0 &&& (2147483647 : Int32)) % (14 : Int32)))), .val (.int p2), .val (.int (if (p4 &&& (2 : Int32)) = (0 : Int32) then p3 else p2)), .val (.int ((XT.ushr p4 (2 : Int32)) &&& (255 : Int32)).toUInt32.toUInt16.toUInt32.toInt32), .val (.int ((XT.ushr p4 (10 : Int32)) &&& (255 : Int32)).toUInt32.toUInt16.toUInt32.toInt32), .val (.ref b1), .unset, .unset, .unset, .unset, .unset, .unset] [(.ref b6), (.ref b5), (.ref b5)]))
  have hlat8 : ∀ c ∈ ([(nar .char ((XT.ushr p4 (10 : Int32)) &&& (255 : Int32)).toUInt32.toUInt16.toUInt32.toInt32)] : List Int32), ¬ c < 0 ∧ ¬ (255 : Int32) < c := own_lat _
  obtain ⟨_, _, ⟨T8, L8, k8, n8⟩, -, X8, ⟨Lc8, hQ8, l8, y8, z8⟩, st8⟩ := X7.specialBack hx (y := (⟨"java/lang/String", "<init>", "([C)V"⟩ : MethodName)) rfl hown (mvT hZ (hw _ (List.mem_of_getElem? (i := 5) rfl))) (mvT hZ (hw _ (List.mem_of_getElem? (i := 6) rfl))) (mvT hZ (hw _ (List.mem_of_getElem? (i := 7) rfl))) (by decide) (StrChars.Road.backV (W := 1) hZ hws (kI := 4) (hw _ (List.mem_of_getElem? (i := 2) rfl)) (cs := [(nar .char ((XT.ushr p4 (10 : Int32)) &&& (255 : Int32)).toUInt32.toUInt16.toUInt32.toInt32)]) (bs := [((nar .char ((XT.ushr p4 (10 : Int32)) &&& (255 : Int32)).toUInt32.toUInt16.toUInt32.toInt32)).toInt8.toInt32]) (n := 1) gn_b5 (Z7) f42 f44 f43 V7 (SC.ext (f46).2) hzc rfl rfl (by decide) (by decide) hlat8 rfl (by decide) (by decide)) (g := (mkF m 99 #[.val (.int p0), .val (.int p1), .val (.int p2), .val (.int p3), .val (.int p4), .val (.int p5), .val (.int ((p0 &&& (2147483647 : Int32)) % (14 : Int32))), .val (.int (if (p4 &&& (1 : Int32)) = (0 : Int32) then ((p1 &&& (2147483647 : Int32)) % (14 : Int32)) else ((p0 &&& (2147483647 : Int32)) % (14 : Int32)))), .val (.int p2), .val (.int (if (p4 &&& (2 : Int32)) = (0 : Int32) then p3 else p2)), .val (.int ((XT.ushr p4 (2 : Int32)) &&& (255 : Int32)).toUInt32.toUInt16.toUInt32.toInt32), .val (.int ((XT.ushr p4 (10 : Int32)) &&& (255 : Int32)).toUInt32.toUInt16.toUInt32.toInt32), .val (.ref b1), .unset, .unset, .unset, .unset, .unset, .unset] [(.ref b6), (.ref b5), (.ref b5)])) rfl (by rw [hml]; rfl) (Steps.refl _) (a := b5) (argsL := [(.ref b6)]) (rest := [(.ref b5)]) (lenOf pd___C_V rfl) rfl (by show 2 * 0 + _ ≤ _; exact Nat.le_of_eq rfl) (hb hby at_99) (fun _ _ => ⟨rfl, e7, (by decide : 5 + 1 ≤ _), (by decide : 11 + 1 ≤ _)⟩)
  dsimp only [Pt.U, Pt.locs, Pt.cells, Pt.slots] at X8 l8 y8 z8 st8 hQ8
  subst l8 y8 z8
  obtain ⟨rfl, N8q, Kc8, fE8, fC8, t8, kb8, gn_t8, gs8, nx8, fV8, fA8⟩ := hQ8
  have N8 := Fr.app N7 N8q
  have sz_t8 : h0.size ≤ t8 := Nat.le_trans (K7).1 gs8
  have ne_b1_t8 : b1 ≠ t8 := Nat.ne_of_lt (Nat.lt_of_lt_of_le (f37).lt gs8)
  have ne_b2_t8 : b2 ≠ t8 := Nat.ne_of_lt (Nat.lt_of_lt_of_le (f38).lt gs8)
  have ne_t4_t8 : t4 ≠ t8 := Nat.ne_of_lt (Nat.lt_of_lt_of_le (f41).lt gs8)
  have ne_b5_t8 : b5 ≠ t8 := Nat.ne_of_lt (Nat.lt_of_lt_of_le (f42).lt gs8)
  have ne_b6_t8 : b6 ≠ t8 := Nat.ne_of_lt (Nat.lt_of_lt_of_le (V7).lt gs8)
  have f47 := (f37).keep Kc8
  have f48 := (f38).keep Kc8 (ninS ne_b2_b5 nin0)
  have f49 := (f39).keep Kc8 (ninS ne_b1_b5 nin0)
  have f50 := (f40).keep Kc8 (ninS ne_b1_b5 nin0)
  have f51 := (f41).keep Kc8 (ninS ne_t4_b5 nin0)
  have f52 := (f42).keep Kc8
  have f55 := (V7).keep Kc8 (ninS (Ne.symm ne_b5_b6) nin0)
  have f56 := (f46).keep Kc8 (allS gn_b5 all0)
  have K8 : Keep h0 T8.heap [] := (K7).trans Kc8 (allS (Or.inr sz_b5) all0)
  have Z8 : n0 ≤ T8.heap.size := Nat.le_trans Z7 Kc8.1
  refine OG.trans st8 ?_
  show OG _ _ _ _ _ _ _ (T8.setTop (mkF m 102 #[.val (.int p0), .val (.int p1), .val (.int p2), .val (.int p3), .val (.int p4), .val (.int p5), .val (.int ((p0 &&& (2147483647 : Int32)) % (14 : Int32))), .val (.int (if (p4 &&& (1 : Int32)) = (0 : Int32) then ((p1 &&& (2147483647 : Int32)) % (14 : Int32)) else ((p0 &&& (2147483647 : Int32)) % (14 : Int32)))), .val (.int p2), .val (.int (if (p4 &&& (2 : Int32)) = (0 : Int32) then p3 else p2)), .val (.int ((XT.ushr p4 (2 : Int32)) &&& (255 : Int32)).toUInt32.toUInt16.toUInt32.toInt32), .val (.int ((XT.ushr p4 (10 : Int32)) &&& (255 : Int32)).toUInt32.toUInt16.toUInt32.toInt32), .val (.ref b1), .unset, .unset, .unset, .unset, .unset, .unset] [(.ref b5)]))
  refine OG.of (A := T8.setTop (mkF m 111 #[.val (.int p0), .val (.int p1), .val (.int p2), .val (.int p3), .val (.int p4), .val (.int p5), .val (.int ((p0 &&& (2147483647 : Int32)) % (14 : Int32))), .val (.int (if (p4 &&& (1 : Int32)) = (0 : Int32) then ((p1 &&& (2147483647 : Int32)) % (14 : Int32)) else ((p0 &&& (2147483647 : Int32)) % (14 : Int32)))), .val (.int p2), .val (.int (if (p4 &&& (2 : Int32)) = (0 : Int32) then p3 else p2)), .val (.int ((XT.ushr p4 (2 : Int32)) &&& (255 : Int32)).toUInt32.toUInt16.toUInt32.toInt32), .val (.int ((XT.ushr p4 (10 : Int32)) &&& (255 : Int32)).toUInt32.toUInt16.toUInt32.toInt32), .val (.ref b1), .val (.ref b5), .unset, .unset, .unset, .unset, .unset] [(.int ((XT.ushr p4 (18 : Int32)) % (3 : Int32)))])) (fun oT oK => ?_) ?_
  · show Steps p.tables e below (T8.setTop (mkF m 102 #[.val (.int p0), .val (.int p1), .val (.int p2), .val (.int p3), .val (.int p4), .val (.int p5), .val (.int ((p0 &&& (2147483647 : Int32)) % (14 : Int32))), .val (.int (if (p4 &&& (1 : Int32)) = (0 : Int32) then ((p1 &&& (2147483647 : Int32)) % (14 : Int32)) else ((p0 &&& (2147483647 : Int32)) % (14 : Int32)))), .val (.int p2), .val (.int (if (p4 &&& (2 : Int32)) = (0 : Int32) then p3 else p2)), .val (.int ((XT.ushr p4 (2 : Int32)) &&& (255 : Int32)).toUInt32.toUInt16.toUInt32.toInt32), .val (.int ((XT.ushr p4 (10 : Int32)) &&& (255 : Int32)).toUInt32.toUInt16.toUInt32.toInt32), .val (.ref b1), .unset, .unset, .unset, .unset, .unset, .unset] [(.ref b5)])) oT
    refine XS.astore X8.here hx rfl (hb hby at_102) rfl rfl (l' := #[.val (.int p0), .val (.int p1), .val (.int p2), .val (.int p3), .val (.int p4), .val (.int p5), .val (.int ((p0 &&& (2147483647 : Int32)) % (14 : Int32))), .val (.int (if (p4 &&& (1 : Int32)) = (0 : Int32) then ((p1 &&& (2147483647 : Int32)) % (14 : Int32)) else ((p0 &&& (2147483647 : Int32)) % (14 : Int32)))), .val (.int p2), .val (.int (if (p4 &&& (2 : Int32)) = (0 : Int32) then p3 else p2)), .val (.int ((XT.ushr p4 (2 : Int32)) &&& (255 : Int32)).toUInt32.toUInt16.toUInt32.toInt32), .val (.int ((XT.ushr p4 (10 : Int32)) &&& (255 : Int32)).toUInt32.toUInt16.toUInt32.toInt32), .val (.ref b1), .val (.ref b5), .unset, .unset, .unset, .unset, .unset]) rfl ?_
    show Steps p.tables e below (T8.setTop (mkF m 104 #[.val (.int p0), .val (.int p1), .val (.int p2), .val (.int p3), .val (.int p4), .val (.int p5), .val (.int ((p0 &&& (2147483647 : Int32)) % (14 : Int32))), .val (.int (if (p4 &&& (1 : Int32)) = (0 : Int32) then ((p1 &&& (2147483647 : Int32)) % (14 : Int32)) else ((p0 &&& (2147483647 : Int32)) % (14 : Int32)))), .val (.int p2), .val (.int (if (p4 &&& (2 : Int32)) = (0 : Int32) then p3 else p2)), .val (.int ((XT.ushr p4 (2 : Int32)) &&& (255 : Int32)).toUInt32.toUInt16.toUInt32.toInt32), .val (.int ((XT.ushr p4 (10 : Int32)) &&& (255 : Int32)).toUInt32.toUInt16.toUInt32.toInt32), .val (.ref b1), .val (.ref b5), .unset, .unset, .unset, .unset, .unset] [])) _
    refine XS.iload X8.here hx rfl (hb hby at_104) rfl  ?_
    show Steps p.tables e below (T8.setTop (mkF m 106 #[.val (.int p0), .val (.int p1), .val (.int p2), .val (.int p3), .val (.int p4), .val (.int p5), .val (.int ((p0 &&& (2147483647 : Int32)) % (14 : Int32))), .val (.int (if (p4 &&& (1 : Int32)) = (0 : Int32) then ((p1 &&& (2147483647 : Int32)) % (14 : Int32)) else ((p0 &&& (2147483647 : Int32)) % (14 : Int32)))), .val (.int p2), .val (.int (if (p4 &&& (2 : Int32)) = (0 : Int32) then p3 else p2)), .val (.int ((XT.ushr p4 (2 : Int32)) &&& (255 : Int32)).toUInt32.toUInt16.toUInt32.toInt32), .val (.int ((XT.ushr p4 (10 : Int32)) &&& (255 : Int32)).toUInt32.toUInt16.toUInt32.toInt32), .val (.ref b1), .val (.ref b5), .unset, .unset, .unset, .unset, .unset] [(.int p4)])) _
    refine XS.bipush X8.here hx rfl (hb hby at_106) ?_
    show Steps p.tables e below (T8.setTop (mkF m 108 #[.val (.int p0), .val (.int p1), .val (.int p2), .val (.int p3), .val (.int p4), .val (.int p5), .val (.int ((p0 &&& (2147483647 : Int32)) % (14 : Int32))), .val (.int (if (p4 &&& (1 : Int32)) = (0 : Int32) then ((p1 &&& (2147483647 : Int32)) % (14 : Int32)) else ((p0 &&& (2147483647 : Int32)) % (14 : Int32)))), .val (.int p2), .val (.int (if (p4 &&& (2 : Int32)) = (0 : Int32) then p3 else p2)), .val (.int ((XT.ushr p4 (2 : Int32)) &&& (255 : Int32)).toUInt32.toUInt16.toUInt32.toInt32), .val (.int ((XT.ushr p4 (10 : Int32)) &&& (255 : Int32)).toUInt32.toUInt16.toUInt32.toInt32), .val (.ref b1), .val (.ref b5), .unset, .unset, .unset, .unset, .unset] [(.int (18 : Int32)), (.int p4)])) _
    refine XT.iushr X8.here hx rfl (hb hby at_108) rfl ?_
    show Steps p.tables e below (T8.setTop (mkF m 109 #[.val (.int p0), .val (.int p1), .val (.int p2), .val (.int p3), .val (.int p4), .val (.int p5), .val (.int ((p0 &&& (2147483647 : Int32)) % (14 : Int32))), .val (.int (if (p4 &&& (1 : Int32)) = (0 : Int32) then ((p1 &&& (2147483647 : Int32)) % (14 : Int32)) else ((p0 &&& (2147483647 : Int32)) % (14 : Int32)))), .val (.int p2), .val (.int (if (p4 &&& (2 : Int32)) = (0 : Int32) then p3 else p2)), .val (.int ((XT.ushr p4 (2 : Int32)) &&& (255 : Int32)).toUInt32.toUInt16.toUInt32.toInt32), .val (.int ((XT.ushr p4 (10 : Int32)) &&& (255 : Int32)).toUInt32.toUInt16.toUInt32.toInt32), .val (.ref b1), .val (.ref b5), .unset, .unset, .unset, .unset, .unset] [(.int (XT.ushr p4 (18 : Int32)))])) _
    refine XS.iconst X8.here hx rfl (hb hby at_109) ?_
    show Steps p.tables e below (T8.setTop (mkF m 110 #[.val (.int p0), .val (.int p1), .val (.int p2), .val (.int p3), .val (.int p4), .val (.int p5), .val (.int ((p0 &&& (2147483647 : Int32)) % (14 : Int32))), .val (.int (if (p4 &&& (1 : Int32)) = (0 : Int32) then ((p1 &&& (2147483647 : Int32)) % (14 : Int32)) else ((p0 &&& (2147483647 : Int32)) % (14 : Int32)))), .val (.int p2), .val (.int (if (p4 &&& (2 : Int32)) = (0 : Int32) then p3 else p2)), .val (.int ((XT.ushr p4 (2 : Int32)) &&& (255 : Int32)).toUInt32.toUInt16.toUInt32.toInt32), .val (.int ((XT.ushr p4 (10 : Int32)) &&& (255 : Int32)).toUInt32.toUInt16.toUInt32.toInt32), .val (.ref b1), .val (.ref b5), .unset, .unset, .unset, .unset, .unset] [(.int (3 : Int32)), (.int (XT.ushr p4 (18 : Int32)))])) _
    refine Jvm.RoadKit.iremM X8 hx rfl (hb hby at_110) rfl (by decide) ?_
    exact oK
  show OG _ _ _ _ _ _ _ (T8.setTop (mkF m 111 #[.val (.int p0), .val (.int p1), .val (.int p2), .val (.int p3), .val (.int p4), .val (.int p5), .val (.int ((p0 &&& (2147483647 : Int32)) % (14 : Int32))), .val (.int (if (p4 &&& (1 : Int32)) = (0 : Int32) then ((p1 &&& (2147483647 : Int32)) % (14 : Int32)) else ((p0 &&& (2147483647 : Int32)) % (14 : Int32)))), .val (.int p2), .val (.int (if (p4 &&& (2 : Int32)) = (0 : Int32) then p3 else p2)), .val (.int ((XT.ushr p4 (2 : Int32)) &&& (255 : Int32)).toUInt32.toUInt16.toUInt32.toInt32), .val (.int ((XT.ushr p4 (10 : Int32)) &&& (255 : Int32)).toUInt32.toUInt16.toUInt32.toInt32), .val (.ref b1), .val (.ref b5), .unset, .unset, .unset, .unset, .unset] [(.int ((XT.ushr p4 (18 : Int32)) % (3 : Int32)))]))
  obtain ⟨_, _, ⟨T9, L9, k9, n9⟩, -, X9, ⟨Lc9, hQ9, l9, y9, z9⟩, st9⟩ := Jvm.LawKit.callS X8 hx (y := (⟨"com/example/kind4/kind4/model/DomainSameTypePinLaw", "stor", "(I)Lcom/example/kind4/kind4/model/Storage;"⟩ : MethodName)) hown (mvT hZ (hw _ (List.mem_of_getElem? (i := 31) rfl))) (mvT hZ (hw _ (List.mem_of_getElem? (i := 32) rfl))) (mvT hZ (hw _ (List.mem_of_getElem? (i := 33) rfl))) (mvT hZ (hw _ (List.mem_of_getElem? (i := 34) rfl))) (by decide) (backOf (W := 0) (rmS l Z a0 hw [] ((XT.ushr p4 (18 : Int32)) % (3 : Int32)) T8.heap n0 (Z8) f56 T_VARCHAR T_CHAR T_CLOB) hZ (hw _ (List.mem_of_getElem? (i := 34) rfl)) (hw _ (List.mem_of_getElem? (i := 33) rfl)) (by decide) (by decide)) (g := (mkF m 111 #[.val (.int p0), .val (.int p1), .val (.int p2), .val (.int p3), .val (.int p4), .val (.int p5), .val (.int ((p0 &&& (2147483647 : Int32)) % (14 : Int32))), .val (.int (if (p4 &&& (1 : Int32)) = (0 : Int32) then ((p1 &&& (2147483647 : Int32)) % (14 : Int32)) else ((p0 &&& (2147483647 : Int32)) % (14 : Int32)))), .val (.int p2), .val (.int (if (p4 &&& (2 : Int32)) = (0 : Int32) then p3 else p2)), .val (.int ((XT.ushr p4 (2 : Int32)) &&& (255 : Int32)).toUInt32.toUInt16.toUInt32.toInt32), .val (.int ((XT.ushr p4 (10 : Int32)) &&& (255 : Int32)).toUInt32.toUInt16.toUInt32.toInt32), .val (.ref b1), .val (.ref b5), .unset, .unset, .unset, .unset, .unset] [(.int ((XT.ushr p4 (18 : Int32)) % (3 : Int32)))])) rfl (by rw [hml]; rfl) (argsL := [(.int ((XT.ushr p4 (18 : Int32)) % (3 : Int32)))]) (rest := []) (lenOf pd__I_Lcom_example_kind4_kind4_model_Storage_ rfl) rfl (by show 2 * 0 + _ ≤ _; exact Nat.le_of_eq rfl) (hb hby at_111) (fun _ _ => ⟨rfl, rfl, (by decide : 6 + 0 ≤ _), (by decide : 12 + 0 ≤ _)⟩)
  dsimp only [Pt.U, Pt.locs, Pt.cells, Pt.slots] at X9 l9 y9 z9 st9 hQ9
  subst l9 y9 z9
  obtain ⟨ws9, rfl, N9q, e9⟩ := hQ9
  have N9 := Fr.app N8 N9q
  refine OG.of st9 ?_
  show OG _ _ _ _ _ _ _ (T9.setTop (mkF m 114 #[.val (.int p0), .val (.int p1), .val (.int p2), .val (.int p3), .val (.int p4), .val (.int p5), .val (.int ((p0 &&& (2147483647 : Int32)) % (14 : Int32))), .val (.int (if (p4 &&& (1 : Int32)) = (0 : Int32) then ((p1 &&& (2147483647 : Int32)) % (14 : Int32)) else ((p0 &&& (2147483647 : Int32)) % (14 : Int32)))), .val (.int p2), .val (.int (if (p4 &&& (2 : Int32)) = (0 : Int32) then p3 else p2)), .val (.int ((XT.ushr p4 (2 : Int32)) &&& (255 : Int32)).toUInt32.toUInt16.toUInt32.toInt32), .val (.int ((XT.ushr p4 (10 : Int32)) &&& (255 : Int32)).toUInt32.toUInt16.toUInt32.toInt32), .val (.ref b1), .val (.ref b5), .unset, .unset, .unset, .unset, .unset] [(.ref ws9)]))
  refine OG.of (A := T9.setTop (mkF m 123 #[.val (.int p0), .val (.int p1), .val (.int p2), .val (.int p3), .val (.int p4), .val (.int p5), .val (.int ((p0 &&& (2147483647 : Int32)) % (14 : Int32))), .val (.int (if (p4 &&& (1 : Int32)) = (0 : Int32) then ((p1 &&& (2147483647 : Int32)) % (14 : Int32)) else ((p0 &&& (2147483647 : Int32)) % (14 : Int32)))), .val (.int p2), .val (.int (if (p4 &&& (2 : Int32)) = (0 : Int32) then p3 else p2)), .val (.int ((XT.ushr p4 (2 : Int32)) &&& (255 : Int32)).toUInt32.toUInt16.toUInt32.toInt32), .val (.int ((XT.ushr p4 (10 : Int32)) &&& (255 : Int32)).toUInt32.toUInt16.toUInt32.toInt32), .val (.ref b1), .val (.ref b5), .val (.ref ws9), .unset, .unset, .unset, .unset] [(.int ((XT.ushr p4 (22 : Int32)) % (3 : Int32)))])) (fun oT oK => ?_) ?_
  · show Steps p.tables e below (T9.setTop (mkF m 114 #[.val (.int p0), .val (.int p1), .val (.int p2), .val (.int p3), .val (.int p4), .val (.int p5), .val (.int ((p0 &&& (2147483647 : Int32)) % (14 : Int32))), .val (.int (if (p4 &&& (1 : Int32)) = (0 : Int32) then ((p1 &&& (2147483647 : Int32)) % (14 : Int32)) else ((p0 &&& (2147483647 : Int32)) % (14 : Int32)))), .val (.int p2), .val (.int (if (p4 &&& (2 : Int32)) = (0 : Int32) then p3 else p2)), .val (.int ((XT.ushr p4 (2 : Int32)) &&& (255 : Int32)).toUInt32.toUInt16.toUInt32.toInt32), .val (.int ((XT.ushr p4 (10 : Int32)) &&& (255 : Int32)).toUInt32.toUInt16.toUInt32.toInt32), .val (.ref b1), .val (.ref b5), .unset, .unset, .unset, .unset, .unset] [(.ref ws9)])) oT
    refine XS.astore X9.here hx rfl (hb hby at_114) rfl rfl (l' := #[.val (.int p0), .val (.int p1), .val (.int p2), .val (.int p3), .val (.int p4), .val (.int p5), .val (.int ((p0 &&& (2147483647 : Int32)) % (14 : Int32))), .val (.int (if (p4 &&& (1 : Int32)) = (0 : Int32) then ((p1 &&& (2147483647 : Int32)) % (14 : Int32)) else ((p0 &&& (2147483647 : Int32)) % (14 : Int32)))), .val (.int p2), .val (.int (if (p4 &&& (2 : Int32)) = (0 : Int32) then p3 else p2)), .val (.int ((XT.ushr p4 (2 : Int32)) &&& (255 : Int32)).toUInt32.toUInt16.toUInt32.toInt32), .val (.int ((XT.ushr p4 (10 : Int32)) &&& (255 : Int32)).toUInt32.toUInt16.toUInt32.toInt32), .val (.ref b1), .val (.ref b5), .val (.ref ws9), .unset, .unset, .unset, .unset]) rfl ?_
    show Steps p.tables e below (T9.setTop (mkF m 116 #[.val (.int p0), .val (.int p1), .val (.int p2), .val (.int p3), .val (.int p4), .val (.int p5), .val (.int ((p0 &&& (2147483647 : Int32)) % (14 : Int32))), .val (.int (if (p4 &&& (1 : Int32)) = (0 : Int32) then ((p1 &&& (2147483647 : Int32)) % (14 : Int32)) else ((p0 &&& (2147483647 : Int32)) % (14 : Int32)))), .val (.int p2), .val (.int (if (p4 &&& (2 : Int32)) = (0 : Int32) then p3 else p2)), .val (.int ((XT.ushr p4 (2 : Int32)) &&& (255 : Int32)).toUInt32.toUInt16.toUInt32.toInt32), .val (.int ((XT.ushr p4 (10 : Int32)) &&& (255 : Int32)).toUInt32.toUInt16.toUInt32.toInt32), .val (.ref b1), .val (.ref b5), .val (.ref ws9), .unset, .unset, .unset, .unset] [])) _
    refine XS.iload X9.here hx rfl (hb hby at_116) rfl  ?_
    show Steps p.tables e below (T9.setTop (mkF m 118 #[.val (.int p0), .val (.int p1), .val (.int p2), .val (.int p3), .val (.int p4), .val (.int p5), .val (.int ((p0 &&& (2147483647 : Int32)) % (14 : Int32))), .val (.int (if (p4 &&& (1 : Int32)) = (0 : Int32) then ((p1 &&& (2147483647 : Int32)) % (14 : Int32)) else ((p0 &&& (2147483647 : Int32)) % (14 : Int32)))), .val (.int p2), .val (.int (if (p4 &&& (2 : Int32)) = (0 : Int32) then p3 else p2)), .val (.int ((XT.ushr p4 (2 : Int32)) &&& (255 : Int32)).toUInt32.toUInt16.toUInt32.toInt32), .val (.int ((XT.ushr p4 (10 : Int32)) &&& (255 : Int32)).toUInt32.toUInt16.toUInt32.toInt32), .val (.ref b1), .val (.ref b5), .val (.ref ws9), .unset, .unset, .unset, .unset] [(.int p4)])) _
    refine XS.bipush X9.here hx rfl (hb hby at_118) ?_
    show Steps p.tables e below (T9.setTop (mkF m 120 #[.val (.int p0), .val (.int p1), .val (.int p2), .val (.int p3), .val (.int p4), .val (.int p5), .val (.int ((p0 &&& (2147483647 : Int32)) % (14 : Int32))), .val (.int (if (p4 &&& (1 : Int32)) = (0 : Int32) then ((p1 &&& (2147483647 : Int32)) % (14 : Int32)) else ((p0 &&& (2147483647 : Int32)) % (14 : Int32)))), .val (.int p2), .val (.int (if (p4 &&& (2 : Int32)) = (0 : Int32) then p3 else p2)), .val (.int ((XT.ushr p4 (2 : Int32)) &&& (255 : Int32)).toUInt32.toUInt16.toUInt32.toInt32), .val (.int ((XT.ushr p4 (10 : Int32)) &&& (255 : Int32)).toUInt32.toUInt16.toUInt32.toInt32), .val (.ref b1), .val (.ref b5), .val (.ref ws9), .unset, .unset, .unset, .unset] [(.int (22 : Int32)), (.int p4)])) _
    refine XT.iushr X9.here hx rfl (hb hby at_120) rfl ?_
    show Steps p.tables e below (T9.setTop (mkF m 121 #[.val (.int p0), .val (.int p1), .val (.int p2), .val (.int p3), .val (.int p4), .val (.int p5), .val (.int ((p0 &&& (2147483647 : Int32)) % (14 : Int32))), .val (.int (if (p4 &&& (1 : Int32)) = (0 : Int32) then ((p1 &&& (2147483647 : Int32)) % (14 : Int32)) else ((p0 &&& (2147483647 : Int32)) % (14 : Int32)))), .val (.int p2), .val (.int (if (p4 &&& (2 : Int32)) = (0 : Int32) then p3 else p2)), .val (.int ((XT.ushr p4 (2 : Int32)) &&& (255 : Int32)).toUInt32.toUInt16.toUInt32.toInt32), .val (.int ((XT.ushr p4 (10 : Int32)) &&& (255 : Int32)).toUInt32.toUInt16.toUInt32.toInt32), .val (.ref b1), .val (.ref b5), .val (.ref ws9), .unset, .unset, .unset, .unset] [(.int (XT.ushr p4 (22 : Int32)))])) _
    refine XS.iconst X9.here hx rfl (hb hby at_121) ?_
    show Steps p.tables e below (T9.setTop (mkF m 122 #[.val (.int p0), .val (.int p1), .val (.int p2), .val (.int p3), .val (.int p4), .val (.int p5), .val (.int ((p0 &&& (2147483647 : Int32)) % (14 : Int32))), .val (.int (if (p4 &&& (1 : Int32)) = (0 : Int32) then ((p1 &&& (2147483647 : Int32)) % (14 : Int32)) else ((p0 &&& (2147483647 : Int32)) % (14 : Int32)))), .val (.int p2), .val (.int (if (p4 &&& (2 : Int32)) = (0 : Int32) then p3 else p2)), .val (.int ((XT.ushr p4 (2 : Int32)) &&& (255 : Int32)).toUInt32.toUInt16.toUInt32.toInt32), .val (.int ((XT.ushr p4 (10 : Int32)) &&& (255 : Int32)).toUInt32.toUInt16.toUInt32.toInt32), .val (.ref b1), .val (.ref b5), .val (.ref ws9), .unset, .unset, .unset, .unset] [(.int (3 : Int32)), (.int (XT.ushr p4 (22 : Int32)))])) _
    refine Jvm.RoadKit.iremM X9 hx rfl (hb hby at_122) rfl (by decide) ?_
    exact oK
  show OG _ _ _ _ _ _ _ (T9.setTop (mkF m 123 #[.val (.int p0), .val (.int p1), .val (.int p2), .val (.int p3), .val (.int p4), .val (.int p5), .val (.int ((p0 &&& (2147483647 : Int32)) % (14 : Int32))), .val (.int (if (p4 &&& (1 : Int32)) = (0 : Int32) then ((p1 &&& (2147483647 : Int32)) % (14 : Int32)) else ((p0 &&& (2147483647 : Int32)) % (14 : Int32)))), .val (.int p2), .val (.int (if (p4 &&& (2 : Int32)) = (0 : Int32) then p3 else p2)), .val (.int ((XT.ushr p4 (2 : Int32)) &&& (255 : Int32)).toUInt32.toUInt16.toUInt32.toInt32), .val (.int ((XT.ushr p4 (10 : Int32)) &&& (255 : Int32)).toUInt32.toUInt16.toUInt32.toInt32), .val (.ref b1), .val (.ref b5), .val (.ref ws9), .unset, .unset, .unset, .unset] [(.int ((XT.ushr p4 (22 : Int32)) % (3 : Int32)))]))
  obtain ⟨_, _, ⟨T10, L10, k10, n10⟩, -, X10, ⟨Lc10, hQ10, l10, y10, z10⟩, st10⟩ := Jvm.LawKit.callS X9 hx (y := (⟨"com/example/kind4/kind4/model/DomainSameTypePinLaw", "stor", "(I)Lcom/example/kind4/kind4/model/Storage;"⟩ : MethodName)) hown (mvT hZ (hw _ (List.mem_of_getElem? (i := 31) rfl))) (mvT hZ (hw _ (List.mem_of_getElem? (i := 32) rfl))) (mvT hZ (hw _ (List.mem_of_getElem? (i := 33) rfl))) (mvT hZ (hw _ (List.mem_of_getElem? (i := 34) rfl))) (by decide) (backOf (W := 0) (rmS l Z a0 hw [] ((XT.ushr p4 (22 : Int32)) % (3 : Int32)) T8.heap n0 (Z8) f56 T_VARCHAR T_CHAR T_CLOB) hZ (hw _ (List.mem_of_getElem? (i := 34) rfl)) (hw _ (List.mem_of_getElem? (i := 33) rfl)) (by decide) (by decide)) (g := (mkF m 123 #[.val (.int p0), .val (.int p1), .val (.int p2), .val (.int p3), .val (.int p4), .val (.int p5), .val (.int ((p0 &&& (2147483647 : Int32)) % (14 : Int32))), .val (.int (if (p4 &&& (1 : Int32)) = (0 : Int32) then ((p1 &&& (2147483647 : Int32)) % (14 : Int32)) else ((p0 &&& (2147483647 : Int32)) % (14 : Int32)))), .val (.int p2), .val (.int (if (p4 &&& (2 : Int32)) = (0 : Int32) then p3 else p2)), .val (.int ((XT.ushr p4 (2 : Int32)) &&& (255 : Int32)).toUInt32.toUInt16.toUInt32.toInt32), .val (.int ((XT.ushr p4 (10 : Int32)) &&& (255 : Int32)).toUInt32.toUInt16.toUInt32.toInt32), .val (.ref b1), .val (.ref b5), .val (.ref ws9), .unset, .unset, .unset, .unset] [(.int ((XT.ushr p4 (22 : Int32)) % (3 : Int32)))])) rfl (by rw [hml]; rfl) (argsL := [(.int ((XT.ushr p4 (22 : Int32)) % (3 : Int32)))]) (rest := []) (lenOf pd__I_Lcom_example_kind4_kind4_model_Storage_ rfl) rfl (by show 2 * 0 + _ ≤ _; exact Nat.le_of_eq rfl) (hb hby at_123) (fun _ _ => ⟨rfl, e9, (by decide : 6 + 0 ≤ _), (by decide : 12 + 0 ≤ _)⟩)
  dsimp only [Pt.U, Pt.locs, Pt.cells, Pt.slots] at X10 l10 y10 z10 st10 hQ10
  subst l10 y10 z10
  obtain ⟨ws10, rfl, N10q, e10⟩ := hQ10
  have N10 := Fr.app N9 N10q
  refine OG.of st10 ?_
  show OG _ _ _ _ _ _ _ (T10.setTop (mkF m 126 #[.val (.int p0), .val (.int p1), .val (.int p2), .val (.int p3), .val (.int p4), .val (.int p5), .val (.int ((p0 &&& (2147483647 : Int32)) % (14 : Int32))), .val (.int (if (p4 &&& (1 : Int32)) = (0 : Int32) then ((p1 &&& (2147483647 : Int32)) % (14 : Int32)) else ((p0 &&& (2147483647 : Int32)) % (14 : Int32)))), .val (.int p2), .val (.int (if (p4 &&& (2 : Int32)) = (0 : Int32) then p3 else p2)), .val (.int ((XT.ushr p4 (2 : Int32)) &&& (255 : Int32)).toUInt32.toUInt16.toUInt32.toInt32), .val (.int ((XT.ushr p4 (10 : Int32)) &&& (255 : Int32)).toUInt32.toUInt16.toUInt32.toInt32), .val (.ref b1), .val (.ref b5), .val (.ref ws9), .unset, .unset, .unset, .unset] [(.ref ws10)]))
  refine OG.of (A := T10.setTop (mkF m 128 #[.val (.int p0), .val (.int p1), .val (.int p2), .val (.int p3), .val (.int p4), .val (.int p5), .val (.int ((p0 &&& (2147483647 : Int32)) % (14 : Int32))), .val (.int (if (p4 &&& (1 : Int32)) = (0 : Int32) then ((p1 &&& (2147483647 : Int32)) % (14 : Int32)) else ((p0 &&& (2147483647 : Int32)) % (14 : Int32)))), .val (.int p2), .val (.int (if (p4 &&& (2 : Int32)) = (0 : Int32) then p3 else p2)), .val (.int ((XT.ushr p4 (2 : Int32)) &&& (255 : Int32)).toUInt32.toUInt16.toUInt32.toInt32), .val (.int ((XT.ushr p4 (10 : Int32)) &&& (255 : Int32)).toUInt32.toUInt16.toUInt32.toInt32), .val (.ref b1), .val (.ref b5), .val (.ref ws9), .val (.ref ws10), .unset, .unset, .unset] [])) (fun oT oK => ?_) ?_
  · show Steps p.tables e below (T10.setTop (mkF m 126 #[.val (.int p0), .val (.int p1), .val (.int p2), .val (.int p3), .val (.int p4), .val (.int p5), .val (.int ((p0 &&& (2147483647 : Int32)) % (14 : Int32))), .val (.int (if (p4 &&& (1 : Int32)) = (0 : Int32) then ((p1 &&& (2147483647 : Int32)) % (14 : Int32)) else ((p0 &&& (2147483647 : Int32)) % (14 : Int32)))), .val (.int p2), .val (.int (if (p4 &&& (2 : Int32)) = (0 : Int32) then p3 else p2)), .val (.int ((XT.ushr p4 (2 : Int32)) &&& (255 : Int32)).toUInt32.toUInt16.toUInt32.toInt32), .val (.int ((XT.ushr p4 (10 : Int32)) &&& (255 : Int32)).toUInt32.toUInt16.toUInt32.toInt32), .val (.ref b1), .val (.ref b5), .val (.ref ws9), .unset, .unset, .unset, .unset] [(.ref ws10)])) oT
    refine XS.astore X10.here hx rfl (hb hby at_126) rfl rfl (l' := #[.val (.int p0), .val (.int p1), .val (.int p2), .val (.int p3), .val (.int p4), .val (.int p5), .val (.int ((p0 &&& (2147483647 : Int32)) % (14 : Int32))), .val (.int (if (p4 &&& (1 : Int32)) = (0 : Int32) then ((p1 &&& (2147483647 : Int32)) % (14 : Int32)) else ((p0 &&& (2147483647 : Int32)) % (14 : Int32)))), .val (.int p2), .val (.int (if (p4 &&& (2 : Int32)) = (0 : Int32) then p3 else p2)), .val (.int ((XT.ushr p4 (2 : Int32)) &&& (255 : Int32)).toUInt32.toUInt16.toUInt32.toInt32), .val (.int ((XT.ushr p4 (10 : Int32)) &&& (255 : Int32)).toUInt32.toUInt16.toUInt32.toInt32), .val (.ref b1), .val (.ref b5), .val (.ref ws9), .val (.ref ws10), .unset, .unset, .unset]) rfl ?_
    exact oK
  show OG _ _ _ _ _ _ _ (T10.setTop (mkF m 128 #[.val (.int p0), .val (.int p1), .val (.int p2), .val (.int p3), .val (.int p4), .val (.int p5), .val (.int ((p0 &&& (2147483647 : Int32)) % (14 : Int32))), .val (.int (if (p4 &&& (1 : Int32)) = (0 : Int32) then ((p1 &&& (2147483647 : Int32)) % (14 : Int32)) else ((p0 &&& (2147483647 : Int32)) % (14 : Int32)))), .val (.int p2), .val (.int (if (p4 &&& (2 : Int32)) = (0 : Int32) then p3 else p2)), .val (.int ((XT.ushr p4 (2 : Int32)) &&& (255 : Int32)).toUInt32.toUInt16.toUInt32.toInt32), .val (.int ((XT.ushr p4 (10 : Int32)) &&& (255 : Int32)).toUInt32.toUInt16.toUInt32.toInt32), .val (.ref b1), .val (.ref b5), .val (.ref ws9), .val (.ref ws10), .unset, .unset, .unset] []))
  obtain ⟨T11, h11, X11, e11, E11, A11, D11, -, st11⟩ := newO X10 hx hZ hown (hw _ (List.mem_of_getElem? (i := 38) rfl)) (hw _ (List.mem_of_getElem? (i := 39) rfl)) (hw _ (List.mem_of_getElem? (i := 40) rfl)) e10 (g := (mkF m 128 #[.val (.int p0), .val (.int p1), .val (.int p2), .val (.int p3), .val (.int p4), .val (.int p5), .val (.int ((p0 &&& (2147483647 : Int32)) % (14 : Int32))), .val (.int (if (p4 &&& (1 : Int32)) = (0 : Int32) then ((p1 &&& (2147483647 : Int32)) % (14 : Int32)) else ((p0 &&& (2147483647 : Int32)) % (14 : Int32)))), .val (.int p2), .val (.int (if (p4 &&& (2 : Int32)) = (0 : Int32) then p3 else p2)), .val (.int ((XT.ushr p4 (2 : Int32)) &&& (255 : Int32)).toUInt32.toUInt16.toUInt32.toInt32), .val (.int ((XT.ushr p4 (10 : Int32)) &&& (255 : Int32)).toUInt32.toUInt16.toUInt32.toInt32), .val (.ref b1), .val (.ref b5), .val (.ref ws9), .val (.ref ws10), .unset, .unset, .unset] [])) rfl (hb hby at_128) (by decide) (by decide)
  obtain ⟨b11, g11⟩ : ∃ z, z = (T8.heap).size := ⟨_, rfl⟩
  have ne_b1_b11 : b1 ≠ b11 := Nat.ne_of_lt (Nat.lt_of_lt_of_le (f47).lt (Nat.le_of_eq g11.symm))
  have ne_b2_b11 : b2 ≠ b11 := Nat.ne_of_lt (Nat.lt_of_lt_of_le (f48).lt (Nat.le_of_eq g11.symm))
  have ne_t4_b11 : t4 ≠ b11 := Nat.ne_of_lt (Nat.lt_of_lt_of_le (f51).lt (Nat.le_of_eq g11.symm))
  have ne_b5_b11 : b5 ≠ b11 := Nat.ne_of_lt (Nat.lt_of_lt_of_le (fE8).lt (Nat.le_of_eq g11.symm))
  have ne_b6_b11 : b6 ≠ b11 := Nat.ne_of_lt (Nat.lt_of_lt_of_le (f55).lt (Nat.le_of_eq g11.symm))
  have ne_t8_b11 : t8 ≠ b11 := Nat.ne_of_lt (Nat.lt_of_lt_of_le (fA8).lt (Nat.le_of_eq g11.symm))
  have gn_b11 : n0 ≤ b11 := Nat.le_trans Z8 (Nat.le_of_eq g11.symm)
  have sz_b11 : h0.size ≤ b11 := Nat.le_trans (K8).1 (Nat.le_of_eq g11.symm)
  rw [← g11] at A11 D11 st11
  have f57 := (f47).ext E11
  have f58 := (f48).ext E11
  have f59 := (f49).ext E11
  have f60 := (f50).ext E11
  have f61 := (f51).ext E11
  have f62 := (fE8).ext E11
  have f63 := (f55).ext E11
  have f64 := (fC8).ext E11
  have f65 := (fV8).ext E11
  have f66 := (fA8).ext E11
  have f67 := (f56).ext E11
  have K11 : Keep h0 h11 [] := (K8).ext E11
  have Z11 : n0 ≤ h11.size := Nat.le_trans Z8 E11.1
  have F11_name : Fld Z h11 b11 "com/example/kind4/kind4/model/Domain" "name" "Ljava/lang/String;" .null := D11 (Or.inr (hw _ (List.mem_of_getElem? (i := 57) rfl))) (ty := (.object "java/lang/String")) (by decide)
  have F11_primitive : Fld Z h11 b11 "com/example/kind4/kind4/model/Domain" "primitive" "Lcom/example/kind4/kind4/model/Primitive;" .null := D11 (Or.inr (hw _ (List.mem_of_getElem? (i := 59) rfl))) (ty := (.object "com/example/kind4/kind4/model/Primitive")) (by decide)
  have F11_size : Fld Z h11 b11 "com/example/kind4/kind4/model/Domain" "size" "I" (.int (0 : Int32)) := D11 (Or.inr (hw _ (List.mem_of_getElem? (i := 61) rfl))) (ty := .int) (by decide)
  have F11_storage : Fld Z h11 b11 "com/example/kind4/kind4/model/Domain" "storage" "Lcom/example/kind4/kind4/model/Storage;" .null := D11 (Or.inr (hw _ (List.mem_of_getElem? (i := 63) rfl))) (ty := (.object "com/example/kind4/kind4/model/Storage")) (by decide)
  have F11_line : Fld Z h11 b11 "com/example/kind4/kind4/model/Domain" "line" "I" (.int (0 : Int32)) := D11 (Or.inr (hw _ (List.mem_of_getElem? (i := 65) rfl))) (ty := .int) (by decide)
  refine OG.of st11 ?_
  show OG _ _ _ _ _ _ _ (T11.setTop (mkF m 131 #[.val (.int p0), .val (.int p1), .val (.int p2), .val (.int p3), .val (.int p4), .val (.int p5), .val (.int ((p0 &&& (2147483647 : Int32)) % (14 : Int32))), .val (.int (if (p4 &&& (1 : Int32)) = (0 : Int32) then ((p1 &&& (2147483647 : Int32)) % (14 : Int32)) else ((p0 &&& (2147483647 : Int32)) % (14 : Int32)))), .val (.int p2), .val (.int (if (p4 &&& (2 : Int32)) = (0 : Int32) then p3 else p2)), .val (.int ((XT.ushr p4 (2 : Int32)) &&& (255 : Int32)).toUInt32.toUInt16.toUInt32.toInt32), .val (.int ((XT.ushr p4 (10 : Int32)) &&& (255 : Int32)).toUInt32.toUInt16.toUInt32.toInt32), .val (.ref b1), .val (.ref b5), .val (.ref ws9), .val (.ref ws10), .unset, .unset, .unset] [(.ref b11)]))
  refine OG.of (A := T11.setTop (mkF m 136 #[.val (.int p0), .val (.int p1), .val (.int p2), .val (.int p3), .val (.int p4), .val (.int p5), .val (.int ((p0 &&& (2147483647 : Int32)) % (14 : Int32))), .val (.int (if (p4 &&& (1 : Int32)) = (0 : Int32) then ((p1 &&& (2147483647 : Int32)) % (14 : Int32)) else ((p0 &&& (2147483647 : Int32)) % (14 : Int32)))), .val (.int p2), .val (.int (if (p4 &&& (2 : Int32)) = (0 : Int32) then p3 else p2)), .val (.int ((XT.ushr p4 (2 : Int32)) &&& (255 : Int32)).toUInt32.toUInt16.toUInt32.toInt32), .val (.int ((XT.ushr p4 (10 : Int32)) &&& (255 : Int32)).toUInt32.toUInt16.toUInt32.toInt32), .val (.ref b1), .val (.ref b5), .val (.ref ws9), .val (.ref ws10), .unset, .unset, .unset] [(.int ((p0 &&& (2147483647 : Int32)) % (14 : Int32))), (.ref b1), (.ref b11), (.ref b11)])) (fun oT oK => ?_) ?_
  · show Steps p.tables e below (T11.setTop (mkF m 131 #[.val (.int p0), .val (.int p1), .val (.int p2), .val (.int p3), .val (.int p4), .val (.int p5), .val (.int ((p0 &&& (2147483647 : Int32)) % (14 : Int32))), .val (.int (if (p4 &&& (1 : Int32)) = (0 : Int32) then ((p1 &&& (2147483647 : Int32)) % (14 : Int32)) else ((p0 &&& (2147483647 : Int32)) % (14 : Int32)))), .val (.int p2), .val (.int (if (p4 &&& (2 : Int32)) = (0 : Int32) then p3 else p2)), .val (.int ((XT.ushr p4 (2 : Int32)) &&& (255 : Int32)).toUInt32.toUInt16.toUInt32.toInt32), .val (.int ((XT.ushr p4 (10 : Int32)) &&& (255 : Int32)).toUInt32.toUInt16.toUInt32.toInt32), .val (.ref b1), .val (.ref b5), .val (.ref ws9), .val (.ref ws10), .unset, .unset, .unset] [(.ref b11)])) oT
    refine XS.dup X11.here hx rfl (hb hby at_131) rfl rfl ?_
    show Steps p.tables e below (T11.setTop (mkF m 132 #[.val (.int p0), .val (.int p1), .val (.int p2), .val (.int p3), .val (.int p4), .val (.int p5), .val (.int ((p0 &&& (2147483647 : Int32)) % (14 : Int32))), .val (.int (if (p4 &&& (1 : Int32)) = (0 : Int32) then ((p1 &&& (2147483647 : Int32)) % (14 : Int32)) else ((p0 &&& (2147483647 : Int32)) % (14 : Int32)))), .val (.int p2), .val (.int (if (p4 &&& (2 : Int32)) = (0 : Int32) then p3 else p2)), .val (.int ((XT.ushr p4 (2 : Int32)) &&& (255 : Int32)).toUInt32.toUInt16.toUInt32.toInt32), .val (.int ((XT.ushr p4 (10 : Int32)) &&& (255 : Int32)).toUInt32.toUInt16.toUInt32.toInt32), .val (.ref b1), .val (.ref b5), .val (.ref ws9), .val (.ref ws10), .unset, .unset, .unset] [(.ref b11), (.ref b11)])) _
    refine XS.aload X11.here hx rfl (hb hby at_132) rfl rfl  ?_
    show Steps p.tables e below (T11.setTop (mkF m 134 #[.val (.int p0), .val (.int p1), .val (.int p2), .val (.int p3), .val (.int p4), .val (.int p5), .val (.int ((p0 &&& (2147483647 : Int32)) % (14 : Int32))), .val (.int (if (p4 &&& (1 : Int32)) = (0 : Int32) then ((p1 &&& (2147483647 : Int32)) % (14 : Int32)) else ((p0 &&& (2147483647 : Int32)) % (14 : Int32)))), .val (.int p2), .val (.int (if (p4 &&& (2 : Int32)) = (0 : Int32) then p3 else p2)), .val (.int ((XT.ushr p4 (2 : Int32)) &&& (255 : Int32)).toUInt32.toUInt16.toUInt32.toInt32), .val (.int ((XT.ushr p4 (10 : Int32)) &&& (255 : Int32)).toUInt32.toUInt16.toUInt32.toInt32), .val (.ref b1), .val (.ref b5), .val (.ref ws9), .val (.ref ws10), .unset, .unset, .unset] [(.ref b1), (.ref b11), (.ref b11)])) _
    refine XS.iload X11.here hx rfl (hb hby at_134) rfl  ?_
    exact oK
  show OG _ _ _ _ _ _ _ (T11.setTop (mkF m 136 #[.val (.int p0), .val (.int p1), .val (.int p2), .val (.int p3), .val (.int p4), .val (.int p5), .val (.int ((p0 &&& (2147483647 : Int32)) % (14 : Int32))), .val (.int (if (p4 &&& (1 : Int32)) = (0 : Int32) then ((p1 &&& (2147483647 : Int32)) % (14 : Int32)) else ((p0 &&& (2147483647 : Int32)) % (14 : Int32)))), .val (.int p2), .val (.int (if (p4 &&& (2 : Int32)) = (0 : Int32) then p3 else p2)), .val (.int ((XT.ushr p4 (2 : Int32)) &&& (255 : Int32)).toUInt32.toUInt16.toUInt32.toInt32), .val (.int ((XT.ushr p4 (10 : Int32)) &&& (255 : Int32)).toUInt32.toUInt16.toUInt32.toInt32), .val (.ref b1), .val (.ref b5), .val (.ref ws9), .val (.ref ws10), .unset, .unset, .unset] [(.int ((p0 &&& (2147483647 : Int32)) % (14 : Int32))), (.ref b1), (.ref b11), (.ref b11)]))
  obtain ⟨_, _, ⟨T12, L12, k12, n12⟩, -, X12, ⟨Lc12, hQ12, l12, y12, z12⟩, st12⟩ := Jvm.LawKit.callS X11 hx (y := (⟨"com/example/kind4/kind4/model/DomainSameTypePinLaw", "prim", "(I)Lcom/example/kind4/kind4/model/Primitive;"⟩ : MethodName)) hown (mvT hZ (hw _ (List.mem_of_getElem? (i := 41) rfl))) (mvT hZ (hw _ (List.mem_of_getElem? (i := 42) rfl))) (mvT hZ (hw _ (List.mem_of_getElem? (i := 33) rfl))) (mvT hZ (hw _ (List.mem_of_getElem? (i := 43) rfl))) (by decide) (backOf (W := 3) (rmP l Z a0 hw [] ((p0 &&& (2147483647 : Int32)) % (14 : Int32)) wf h11 n0 (Z11) f67 S_STRING S_UNBOUNDED_STRING S_BLOB S_BOOLEAN S_CHAR S_DATE S_DATETIME S_DOUBLE S_FLOAT S_INT8 S_INT16 S_INT32 S_INT64 S_MONEY) hZ (hw _ (List.mem_of_getElem? (i := 43) rfl)) (hw _ (List.mem_of_getElem? (i := 33) rfl)) (by decide) (by decide)) (g := (mkF m 136 #[.val (.int p0), .val (.int p1), .val (.int p2), .val (.int p3), .val (.int p4), .val (.int p5), .val (.int ((p0 &&& (2147483647 : Int32)) % (14 : Int32))), .val (.int (if (p4 &&& (1 : Int32)) = (0 : Int32) then ((p1 &&& (2147483647 : Int32)) % (14 : Int32)) else ((p0 &&& (2147483647 : Int32)) % (14 : Int32)))), .val (.int p2), .val (.int (if (p4 &&& (2 : Int32)) = (0 : Int32) then p3 else p2)), .val (.int ((XT.ushr p4 (2 : Int32)) &&& (255 : Int32)).toUInt32.toUInt16.toUInt32.toInt32), .val (.int ((XT.ushr p4 (10 : Int32)) &&& (255 : Int32)).toUInt32.toUInt16.toUInt32.toInt32), .val (.ref b1), .val (.ref b5), .val (.ref ws9), .val (.ref ws10), .unset, .unset, .unset] [(.int ((p0 &&& (2147483647 : Int32)) % (14 : Int32))), (.ref b1), (.ref b11), (.ref b11)])) rfl (by rw [hml]; rfl) (argsL := [(.int ((p0 &&& (2147483647 : Int32)) % (14 : Int32)))]) (rest := [(.ref b1), (.ref b11), (.ref b11)]) (lenOf pd__I_Lcom_example_kind4_kind4_model_Primitive_ rfl) rfl (by show 2 * 0 + _ ≤ _; exact Nat.le_of_eq rfl) (hb hby at_136) (fun _ _ => ⟨rfl, e11, (by decide : 7 + 0 ≤ _), (by decide : 17 + 0 ≤ _)⟩)
  dsimp only [Pt.U, Pt.locs, Pt.cells, Pt.slots] at X12 l12 y12 z12 st12 hQ12
  subst l12 y12 z12
  obtain ⟨hv12, N12q, e12⟩ := hQ12
  obtain rfl := hv12.trans (show _ = some (.ref (wf (own_ix ((p0 &&& (2147483647 : Int32)) % (14 : Int32))))) from rfl)
  have N12 := Fr.app N10 N12q
  refine OG.of st12 ?_
  show OG _ _ _ _ _ _ _ (T12.setTop (mkF m 139 #[.val (.int p0), .val (.int p1), .val (.int p2), .val (.int p3), .val (.int p4), .val (.int p5), .val (.int ((p0 &&& (2147483647 : Int32)) % (14 : Int32))), .val (.int (if (p4 &&& (1 : Int32)) = (0 : Int32) then ((p1 &&& (2147483647 : Int32)) % (14 : Int32)) else ((p0 &&& (2147483647 : Int32)) % (14 : Int32)))), .val (.int p2), .val (.int (if (p4 &&& (2 : Int32)) = (0 : Int32) then p3 else p2)), .val (.int ((XT.ushr p4 (2 : Int32)) &&& (255 : Int32)).toUInt32.toUInt16.toUInt32.toInt32), .val (.int ((XT.ushr p4 (10 : Int32)) &&& (255 : Int32)).toUInt32.toUInt16.toUInt32.toInt32), .val (.ref b1), .val (.ref b5), .val (.ref ws9), .val (.ref ws10), .unset, .unset, .unset] [(.ref (wf (own_ix ((p0 &&& (2147483647 : Int32)) % (14 : Int32))))), (.ref b1), (.ref b11), (.ref b11)]))
  refine OG.of (A := T12.setTop (mkF m 145 #[.val (.int p0), .val (.int p1), .val (.int p2), .val (.int p3), .val (.int p4), .val (.int p5), .val (.int ((p0 &&& (2147483647 : Int32)) % (14 : Int32))), .val (.int (if (p4 &&& (1 : Int32)) = (0 : Int32) then ((p1 &&& (2147483647 : Int32)) % (14 : Int32)) else ((p0 &&& (2147483647 : Int32)) % (14 : Int32)))), .val (.int p2), .val (.int (if (p4 &&& (2 : Int32)) = (0 : Int32) then p3 else p2)), .val (.int ((XT.ushr p4 (2 : Int32)) &&& (255 : Int32)).toUInt32.toUInt16.toUInt32.toInt32), .val (.int ((XT.ushr p4 (10 : Int32)) &&& (255 : Int32)).toUInt32.toUInt16.toUInt32.toInt32), .val (.ref b1), .val (.ref b5), .val (.ref ws9), .val (.ref ws10), .unset, .unset, .unset] [(.int p5), (.ref ws9), (.int p2), (.ref (wf (own_ix ((p0 &&& (2147483647 : Int32)) % (14 : Int32))))), (.ref b1), (.ref b11), (.ref b11)])) (fun oT oK => ?_) ?_
  · show Steps p.tables e below (T12.setTop (mkF m 139 #[.val (.int p0), .val (.int p1), .val (.int p2), .val (.int p3), .val (.int p4), .val (.int p5), .val (.int ((p0 &&& (2147483647 : Int32)) % (14 : Int32))), .val (.int (if (p4 &&& (1 : Int32)) = (0 : Int32) then ((p1 &&& (2147483647 : Int32)) % (14 : Int32)) else ((p0 &&& (2147483647 : Int32)) % (14 : Int32)))), .val (.int p2), .val (.int (if (p4 &&& (2 : Int32)) = (0 : Int32) then p3 else p2)), .val (.int ((XT.ushr p4 (2 : Int32)) &&& (255 : Int32)).toUInt32.toUInt16.toUInt32.toInt32), .val (.int ((XT.ushr p4 (10 : Int32)) &&& (255 : Int32)).toUInt32.toUInt16.toUInt32.toInt32), .val (.ref b1), .val (.ref b5), .val (.ref ws9), .val (.ref ws10), .unset, .unset, .unset] [(.ref (wf (own_ix ((p0 &&& (2147483647 : Int32)) % (14 : Int32))))), (.ref b1), (.ref b11), (.ref b11)])) oT
    refine XS.iload X12.here hx rfl (hb hby at_139) rfl  ?_
    show Steps p.tables e below (T12.setTop (mkF m 141 #[.val (.int p0), .val (.int p1), .val (.int p2), .val (.int p3), .val (.int p4), .val (.int p5), .val (.int ((p0 &&& (2147483647 : Int32)) % (14 : Int32))), .val (.int (if (p4 &&& (1 : Int32)) = (0 : Int32) then ((p1 &&& (2147483647 : Int32)) % (14 : Int32)) else ((p0 &&& (2147483647 : Int32)) % (14 : Int32)))), .val (.int p2), .val (.int (if (p4 &&& (2 : Int32)) = (0 : Int32) then p3 else p2)), .val (.int ((XT.ushr p4 (2 : Int32)) &&& (255 : Int32)).toUInt32.toUInt16.toUInt32.toInt32), .val (.int ((XT.ushr p4 (10 : Int32)) &&& (255 : Int32)).toUInt32.toUInt16.toUInt32.toInt32), .val (.ref b1), .val (.ref b5), .val (.ref ws9), .val (.ref ws10), .unset, .unset, .unset] [(.int p2), (.ref (wf (own_ix ((p0 &&& (2147483647 : Int32)) % (14 : Int32))))), (.ref b1), (.ref b11), (.ref b11)])) _
    refine XS.aload X12.here hx rfl (hb hby at_141) rfl rfl  ?_
    show Steps p.tables e below (T12.setTop (mkF m 143 #[.val (.int p0), .val (.int p1), .val (.int p2), .val (.int p3), .val (.int p4), .val (.int p5), .val (.int ((p0 &&& (2147483647 : Int32)) % (14 : Int32))), .val (.int (if (p4 &&& (1 : Int32)) = (0 : Int32) then ((p1 &&& (2147483647 : Int32)) % (14 : Int32)) else ((p0 &&& (2147483647 : Int32)) % (14 : Int32)))), .val (.int p2), .val (.int (if (p4 &&& (2 : Int32)) = (0 : Int32) then p3 else p2)), .val (.int ((XT.ushr p4 (2 : Int32)) &&& (255 : Int32)).toUInt32.toUInt16.toUInt32.toInt32), .val (.int ((XT.ushr p4 (10 : Int32)) &&& (255 : Int32)).toUInt32.toUInt16.toUInt32.toInt32), .val (.ref b1), .val (.ref b5), .val (.ref ws9), .val (.ref ws10), .unset, .unset, .unset] [(.ref ws9), (.int p2), (.ref (wf (own_ix ((p0 &&& (2147483647 : Int32)) % (14 : Int32))))), (.ref b1), (.ref b11), (.ref b11)])) _
    refine XS.iload X12.here hx rfl (hb hby at_143) rfl  ?_
    exact oK
  show OG _ _ _ _ _ _ _ (T12.setTop (mkF m 145 #[.val (.int p0), .val (.int p1), .val (.int p2), .val (.int p3), .val (.int p4), .val (.int p5), .val (.int ((p0 &&& (2147483647 : Int32)) % (14 : Int32))), .val (.int (if (p4 &&& (1 : Int32)) = (0 : Int32) then ((p1 &&& (2147483647 : Int32)) % (14 : Int32)) else ((p0 &&& (2147483647 : Int32)) % (14 : Int32)))), .val (.int p2), .val (.int (if (p4 &&& (2 : Int32)) = (0 : Int32) then p3 else p2)), .val (.int ((XT.ushr p4 (2 : Int32)) &&& (255 : Int32)).toUInt32.toUInt16.toUInt32.toInt32), .val (.int ((XT.ushr p4 (10 : Int32)) &&& (255 : Int32)).toUInt32.toUInt16.toUInt32.toInt32), .val (.ref b1), .val (.ref b5), .val (.ref ws9), .val (.ref ws10), .unset, .unset, .unset] [(.int p5), (.ref ws9), (.int p2), (.ref (wf (own_ix ((p0 &&& (2147483647 : Int32)) % (14 : Int32))))), (.ref b1), (.ref b11), (.ref b11)]))
  obtain ⟨_, _, ⟨T13, L13, k13, n13⟩, -, X13, ⟨Lc13, hQ13, l13, y13, z13⟩, st13⟩ := X12.specialBack hx (y := (⟨"com/example/kind4/kind4/model/Domain", "<init>", "(Ljava/lang/String;Lcom/example/kind4/kind4/model/Primitive;ILcom/example/kind4/kind4/model/Storage;I)V"⟩ : MethodName)) rfl hown (mvT hZ (hw _ (List.mem_of_getElem? (i := 47) rfl))) (mvT hZ (hw _ (List.mem_of_getElem? (i := 48) rfl))) (mvT hZ (hw _ (List.mem_of_getElem? (i := 49) rfl))) (by decide) (backOf (W := 1) (rmD l Z a0 hw [] b11 b1 (wf (own_ix ((p0 &&& (2147483647 : Int32)) % (14 : Int32)))) p2 ws9 p5 h11 n0 (Z11) A11 F11_name F11_primitive F11_size F11_storage F11_line gn_b11) hZ (hw _ (List.mem_of_getElem? (i := 49) rfl)) (hw _ (List.mem_of_getElem? (i := 40) rfl)) (by decide) (by decide)) (g := (mkF m 145 #[.val (.int p0), .val (.int p1), .val (.int p2), .val (.int p3), .val (.int p4), .val (.int p5), .val (.int ((p0 &&& (2147483647 : Int32)) % (14 : Int32))), .val (.int (if (p4 &&& (1 : Int32)) = (0 : Int32) then ((p1 &&& (2147483647 : Int32)) % (14 : Int32)) else ((p0 &&& (2147483647 : Int32)) % (14 : Int32)))), .val (.int p2), .val (.int (if (p4 &&& (2 : Int32)) = (0 : Int32) then p3 else p2)), .val (.int ((XT.ushr p4 (2 : Int32)) &&& (255 : Int32)).toUInt32.toUInt16.toUInt32.toInt32), .val (.int ((XT.ushr p4 (10 : Int32)) &&& (255 : Int32)).toUInt32.toUInt16.toUInt32.toInt32), .val (.ref b1), .val (.ref b5), .val (.ref ws9), .val (.ref ws10), .unset, .unset, .unset] [(.int p5), (.ref ws9), (.int p2), (.ref (wf (own_ix ((p0 &&& (2147483647 : Int32)) % (14 : Int32))))), (.ref b1), (.ref b11), (.ref b11)])) rfl (by rw [hml]; rfl) (Steps.refl _) (a := b11) (argsL := [(.ref b1), (.ref (wf (own_ix ((p0 &&& (2147483647 : Int32)) % (14 : Int32))))), (.int p2), (.ref ws9), (.int p5)]) (rest := [(.ref b11)]) (lenOf pd_8fa24af6 rfl) rfl (by show 2 * 0 + _ ≤ _; exact Nat.le_of_eq rfl) (hb hby at_145) (fun _ _ => ⟨rfl, e12, (by decide : 7 + 0 ≤ _), (by decide : 17 + 0 ≤ _)⟩)
  dsimp only [Pt.U, Pt.locs, Pt.cells, Pt.slots] at X13 l13 y13 z13 st13 hQ13
  subst l13 y13 z13
  obtain ⟨rfl, N13q, Kc13, f68, f69, f70, f71, f72, f73⟩ := hQ13
  have N13 := Fr.app N12 N13q
  have f74 := (f57).keep Kc13
  have f75 := (f58).keep Kc13 (ninS ne_b2_b11 nin0)
  have f76 := (f59).keep Kc13 (ninS ne_b1_b11 nin0)
  have f77 := (f60).keep Kc13 (ninS ne_b1_b11 nin0)
  have f78 := (f61).keep Kc13 (ninS ne_t4_b11 nin0)
  have f79 := (f62).keep Kc13
  have f80 := (f63).keep Kc13 (ninS ne_b6_b11 nin0)
  have f81 := (f64).keep Kc13 (ninS ne_b5_b11 nin0)
  have f82 := (f65).keep Kc13 (ninS ne_b5_b11 nin0)
  have f83 := (f66).keep Kc13 (ninS ne_t8_b11 nin0)
  have f84 := (A11).keep Kc13
  have f90 := (f67).keep Kc13 (allS gn_b11 all0)
  have K13 : Keep h0 T13.heap [] := (K11).trans Kc13 (allS (Or.inr sz_b11) all0)
  have Z13 : n0 ≤ T13.heap.size := Nat.le_trans Z11 Kc13.1
  refine OG.trans st13 ?_
  show OG _ _ _ _ _ _ _ (T13.setTop (mkF m 148 #[.val (.int p0), .val (.int p1), .val (.int p2), .val (.int p3), .val (.int p4), .val (.int p5), .val (.int ((p0 &&& (2147483647 : Int32)) % (14 : Int32))), .val (.int (if (p4 &&& (1 : Int32)) = (0 : Int32) then ((p1 &&& (2147483647 : Int32)) % (14 : Int32)) else ((p0 &&& (2147483647 : Int32)) % (14 : Int32)))), .val (.int p2), .val (.int (if (p4 &&& (2 : Int32)) = (0 : Int32) then p3 else p2)), .val (.int ((XT.ushr p4 (2 : Int32)) &&& (255 : Int32)).toUInt32.toUInt16.toUInt32.toInt32), .val (.int ((XT.ushr p4 (10 : Int32)) &&& (255 : Int32)).toUInt32.toUInt16.toUInt32.toInt32), .val (.ref b1), .val (.ref b5), .val (.ref ws9), .val (.ref ws10), .unset, .unset, .unset] [(.ref b11)]))
  refine OG.of (A := T13.setTop (mkF m 150 #[.val (.int p0), .val (.int p1), .val (.int p2), .val (.int p3), .val (.int p4), .val (.int p5), .val (.int ((p0 &&& (2147483647 : Int32)) % (14 : Int32))), .val (.int (if (p4 &&& (1 : Int32)) = (0 : Int32) then ((p1 &&& (2147483647 : Int32)) % (14 : Int32)) else ((p0 &&& (2147483647 : Int32)) % (14 : Int32)))), .val (.int p2), .val (.int (if (p4 &&& (2 : Int32)) = (0 : Int32) then p3 else p2)), .val (.int ((XT.ushr p4 (2 : Int32)) &&& (255 : Int32)).toUInt32.toUInt16.toUInt32.toInt32), .val (.int ((XT.ushr p4 (10 : Int32)) &&& (255 : Int32)).toUInt32.toUInt16.toUInt32.toInt32), .val (.ref b1), .val (.ref b5), .val (.ref ws9), .val (.ref ws10), .val (.ref b11), .unset, .unset] [])) (fun oT oK => ?_) ?_
  · show Steps p.tables e below (T13.setTop (mkF m 148 #[.val (.int p0), .val (.int p1), .val (.int p2), .val (.int p3), .val (.int p4), .val (.int p5), .val (.int ((p0 &&& (2147483647 : Int32)) % (14 : Int32))), .val (.int (if (p4 &&& (1 : Int32)) = (0 : Int32) then ((p1 &&& (2147483647 : Int32)) % (14 : Int32)) else ((p0 &&& (2147483647 : Int32)) % (14 : Int32)))), .val (.int p2), .val (.int (if (p4 &&& (2 : Int32)) = (0 : Int32) then p3 else p2)), .val (.int ((XT.ushr p4 (2 : Int32)) &&& (255 : Int32)).toUInt32.toUInt16.toUInt32.toInt32), .val (.int ((XT.ushr p4 (10 : Int32)) &&& (255 : Int32)).toUInt32.toUInt16.toUInt32.toInt32), .val (.ref b1), .val (.ref b5), .val (.ref ws9), .val (.ref ws10), .unset, .unset, .unset] [(.ref b11)])) oT
    refine XS.astore X13.here hx rfl (hb hby at_148) rfl rfl (l' := #[.val (.int p0), .val (.int p1), .val (.int p2), .val (.int p3), .val (.int p4), .val (.int p5), .val (.int ((p0 &&& (2147483647 : Int32)) % (14 : Int32))), .val (.int (if (p4 &&& (1 : Int32)) = (0 : Int32) then ((p1 &&& (2147483647 : Int32)) % (14 : Int32)) else ((p0 &&& (2147483647 : Int32)) % (14 : Int32)))), .val (.int p2), .val (.int (if (p4 &&& (2 : Int32)) = (0 : Int32) then p3 else p2)), .val (.int ((XT.ushr p4 (2 : Int32)) &&& (255 : Int32)).toUInt32.toUInt16.toUInt32.toInt32), .val (.int ((XT.ushr p4 (10 : Int32)) &&& (255 : Int32)).toUInt32.toUInt16.toUInt32.toInt32), .val (.ref b1), .val (.ref b5), .val (.ref ws9), .val (.ref ws10), .val (.ref b11), .unset, .unset]) rfl ?_
    exact oK
  show OG _ _ _ _ _ _ _ (T13.setTop (mkF m 150 #[.val (.int p0), .val (.int p1), .val (.int p2), .val (.int p3), .val (.int p4), .val (.int p5), .val (.int ((p0 &&& (2147483647 : Int32)) % (14 : Int32))), .val (.int (if (p4 &&& (1 : Int32)) = (0 : Int32) then ((p1 &&& (2147483647 : Int32)) % (14 : Int32)) else ((p0 &&& (2147483647 : Int32)) % (14 : Int32)))), .val (.int p2), .val (.int (if (p4 &&& (2 : Int32)) = (0 : Int32) then p3 else p2)), .val (.int ((XT.ushr p4 (2 : Int32)) &&& (255 : Int32)).toUInt32.toUInt16.toUInt32.toInt32), .val (.int ((XT.ushr p4 (10 : Int32)) &&& (255 : Int32)).toUInt32.toUInt16.toUInt32.toInt32), .val (.ref b1), .val (.ref b5), .val (.ref ws9), .val (.ref ws10), .val (.ref b11), .unset, .unset] []))
  obtain ⟨T14, h14, X14, e14, E14, A14, D14, -, st14⟩ := newO X13 hx hZ hown (hw _ (List.mem_of_getElem? (i := 38) rfl)) (hw _ (List.mem_of_getElem? (i := 39) rfl)) (hw _ (List.mem_of_getElem? (i := 40) rfl)) rfl (g := (mkF m 150 #[.val (.int p0), .val (.int p1), .val (.int p2), .val (.int p3), .val (.int p4), .val (.int p5), .val (.int ((p0 &&& (2147483647 : Int32)) % (14 : Int32))), .val (.int (if (p4 &&& (1 : Int32)) = (0 : Int32) then ((p1 &&& (2147483647 : Int32)) % (14 : Int32)) else ((p0 &&& (2147483647 : Int32)) % (14 : Int32)))), .val (.int p2), .val (.int (if (p4 &&& (2 : Int32)) = (0 : Int32) then p3 else p2)), .val (.int ((XT.ushr p4 (2 : Int32)) &&& (255 : Int32)).toUInt32.toUInt16.toUInt32.toInt32), .val (.int ((XT.ushr p4 (10 : Int32)) &&& (255 : Int32)).toUInt32.toUInt16.toUInt32.toInt32), .val (.ref b1), .val (.ref b5), .val (.ref ws9), .val (.ref ws10), .val (.ref b11), .unset, .unset] [])) rfl (hb hby at_150) (by decide) (by decide)
  obtain ⟨b14, g14⟩ : ∃ z, z = (T13.heap).size := ⟨_, rfl⟩
  have ne_b1_b14 : b1 ≠ b14 := Nat.ne_of_lt (Nat.lt_of_lt_of_le (f74).lt (Nat.le_of_eq g14.symm))
  have ne_b2_b14 : b2 ≠ b14 := Nat.ne_of_lt (Nat.lt_of_lt_of_le (f75).lt (Nat.le_of_eq g14.symm))
  have ne_t4_b14 : t4 ≠ b14 := Nat.ne_of_lt (Nat.lt_of_lt_of_le (f78).lt (Nat.le_of_eq g14.symm))
  have ne_b5_b14 : b5 ≠ b14 := Nat.ne_of_lt (Nat.lt_of_lt_of_le (f79).lt (Nat.le_of_eq g14.symm))
  have ne_b6_b14 : b6 ≠ b14 := Nat.ne_of_lt (Nat.lt_of_lt_of_le (f80).lt (Nat.le_of_eq g14.symm))
  have ne_t8_b14 : t8 ≠ b14 := Nat.ne_of_lt (Nat.lt_of_lt_of_le (f83).lt (Nat.le_of_eq g14.symm))
  have ne_b11_b14 : b11 ≠ b14 := Nat.ne_of_lt (Nat.lt_of_lt_of_le (f68).lt (Nat.le_of_eq g14.symm))
  have gn_b14 : n0 ≤ b14 := Nat.le_trans Z13 (Nat.le_of_eq g14.symm)
  have sz_b14 : h0.size ≤ b14 := Nat.le_trans (K13).1 (Nat.le_of_eq g14.symm)
  rw [← g14] at A14 D14 st14
  have f91 := (f74).ext E14
  have f92 := (f75).ext E14
  have f93 := (f76).ext E14
  have f94 := (f77).ext E14
  have f95 := (f78).ext E14
  have f96 := (f79).ext E14
  have f97 := (f80).ext E14
  have f98 := (f81).ext E14
  have f99 := (f82).ext E14
  have f100 := (f83).ext E14
  have f101 := (f68).ext E14
  have f102 := (f69).ext E14
  have f103 := (f70).ext E14
  have f104 := (f71).ext E14
  have f105 := (f72).ext E14
  have f106 := (f73).ext E14
  have f107 := (f90).ext E14
  have K14 : Keep h0 h14 [] := (K13).ext E14
  have Z14 : n0 ≤ h14.size := Nat.le_trans Z13 E14.1
  have F14_name : Fld Z h14 b14 "com/example/kind4/kind4/model/Domain" "name" "Ljava/lang/String;" .null := D14 (Or.inr (hw _ (List.mem_of_getElem? (i := 57) rfl))) (ty := (.object "java/lang/String")) (by decide)
  have F14_primitive : Fld Z h14 b14 "com/example/kind4/kind4/model/Domain" "primitive" "Lcom/example/kind4/kind4/model/Primitive;" .null := D14 (Or.inr (hw _ (List.mem_of_getElem? (i := 59) rfl))) (ty := (.object "com/example/kind4/kind4/model/Primitive")) (by decide)
  have F14_size : Fld Z h14 b14 "com/example/kind4/kind4/model/Domain" "size" "I" (.int (0 : Int32)) := D14 (Or.inr (hw _ (List.mem_of_getElem? (i := 61) rfl))) (ty := .int) (by decide)
  have F14_storage : Fld Z h14 b14 "com/example/kind4/kind4/model/Domain" "storage" "Lcom/example/kind4/kind4/model/Storage;" .null := D14 (Or.inr (hw _ (List.mem_of_getElem? (i := 63) rfl))) (ty := (.object "com/example/kind4/kind4/model/Storage")) (by decide)
  have F14_line : Fld Z h14 b14 "com/example/kind4/kind4/model/Domain" "line" "I" (.int (0 : Int32)) := D14 (Or.inr (hw _ (List.mem_of_getElem? (i := 65) rfl))) (ty := .int) (by decide)
  refine OG.of st14 ?_
  show OG _ _ _ _ _ _ _ (T14.setTop (mkF m 153 #[.val (.int p0), .val (.int p1), .val (.int p2), .val (.int p3), .val (.int p4), .val (.int p5), .val (.int ((p0 &&& (2147483647 : Int32)) % (14 : Int32))), .val (.int (if (p4 &&& (1 : Int32)) = (0 : Int32) then ((p1 &&& (2147483647 : Int32)) % (14 : Int32)) else ((p0 &&& (2147483647 : Int32)) % (14 : Int32)))), .val (.int p2), .val (.int (if (p4 &&& (2 : Int32)) = (0 : Int32) then p3 else p2)), .val (.int ((XT.ushr p4 (2 : Int32)) &&& (255 : Int32)).toUInt32.toUInt16.toUInt32.toInt32), .val (.int ((XT.ushr p4 (10 : Int32)) &&& (255 : Int32)).toUInt32.toUInt16.toUInt32.toInt32), .val (.ref b1), .val (.ref b5), .val (.ref ws9), .val (.ref ws10), .val (.ref b11), .unset, .unset] [(.ref b14)]))
  refine OG.of (A := T14.setTop (mkF m 158 #[.val (.int p0), .val (.int p1), .val (.int p2), .val (.int p3), .val (.int p4), .val (.int p5), .val (.int ((p0 &&& (2147483647 : Int32)) % (14 : Int32))), .val (.int (if (p4 &&& (1 : Int32)) = (0 : Int32) then ((p1 &&& (2147483647 : Int32)) % (14 : Int32)) else ((p0 &&& (2147483647 : Int32)) % (14 : Int32)))), .val (.int p2), .val (.int (if (p4 &&& (2 : Int32)) = (0 : Int32) then p3 else p2)), .val (.int ((XT.ushr p4 (2 : Int32)) &&& (255 : Int32)).toUInt32.toUInt16.toUInt32.toInt32), .val (.int ((XT.ushr p4 (10 : Int32)) &&& (255 : Int32)).toUInt32.toUInt16.toUInt32.toInt32), .val (.ref b1), .val (.ref b5), .val (.ref ws9), .val (.ref ws10), .val (.ref b11), .unset, .unset] [(.int (if (p4 &&& (1 : Int32)) = (0 : Int32) then ((p1 &&& (2147483647 : Int32)) % (14 : Int32)) else ((p0 &&& (2147483647 : Int32)) % (14 : Int32)))), (.ref b5), (.ref b14), (.ref b14)])) (fun oT oK => ?_) ?_
  · show Steps p.tables e below (T14.setTop (mkF m 153 #[.val (.int p0), .val (.int p1), .val (.int p2), .val (.int p3), .val (.int p4), .val (.int p5), .val (.int ((p0 &&& (2147483647 : Int32)) % (14 : Int32))), .val (.int (if (p4 &&& (1 : Int32)) = (0 : Int32) then ((p1 &&& (2147483647 : Int32)) % (14 : Int32)) else ((p0 &&& (2147483647 : Int32)) % (14 : Int32)))), .val (.int p2), .val (.int (if (p4 &&& (2 : Int32)) = (0 : Int32) then p3 else p2)), .val (.int ((XT.ushr p4 (2 : Int32)) &&& (255 : Int32)).toUInt32.toUInt16.toUInt32.toInt32), .val (.int ((XT.ushr p4 (10 : Int32)) &&& (255 : Int32)).toUInt32.toUInt16.toUInt32.toInt32), .val (.ref b1), .val (.ref b5), .val (.ref ws9), .val (.ref ws10), .val (.ref b11), .unset, .unset] [(.ref b14)])) oT
    refine XS.dup X14.here hx rfl (hb hby at_153) rfl rfl ?_
    show Steps p.tables e below (T14.setTop (mkF m 154 #[.val (.int p0), .val (.int p1), .val (.int p2), .val (.int p3), .val (.int p4), .val (.int p5), .val (.int ((p0 &&& (2147483647 : Int32)) % (14 : Int32))), .val (.int (if (p4 &&& (1 : Int32)) = (0 : Int32) then ((p1 &&& (2147483647 : Int32)) % (14 : Int32)) else ((p0 &&& (2147483647 : Int32)) % (14 : Int32)))), .val (.int p2), .val (.int (if (p4 &&& (2 : Int32)) = (0 : Int32) then p3 else p2)), .val (.int ((XT.ushr p4 (2 : Int32)) &&& (255 : Int32)).toUInt32.toUInt16.toUInt32.toInt32), .val (.int ((XT.ushr p4 (10 : Int32)) &&& (255 : Int32)).toUInt32.toUInt16.toUInt32.toInt32), .val (.ref b1), .val (.ref b5), .val (.ref ws9), .val (.ref ws10), .val (.ref b11), .unset, .unset] [(.ref b14), (.ref b14)])) _
    refine XS.aload X14.here hx rfl (hb hby at_154) rfl rfl  ?_
    show Steps p.tables e below (T14.setTop (mkF m 156 #[.val (.int p0), .val (.int p1), .val (.int p2), .val (.int p3), .val (.int p4), .val (.int p5), .val (.int ((p0 &&& (2147483647 : Int32)) % (14 : Int32))), .val (.int (if (p4 &&& (1 : Int32)) = (0 : Int32) then ((p1 &&& (2147483647 : Int32)) % (14 : Int32)) else ((p0 &&& (2147483647 : Int32)) % (14 : Int32)))), .val (.int p2), .val (.int (if (p4 &&& (2 : Int32)) = (0 : Int32) then p3 else p2)), .val (.int ((XT.ushr p4 (2 : Int32)) &&& (255 : Int32)).toUInt32.toUInt16.toUInt32.toInt32), .val (.int ((XT.ushr p4 (10 : Int32)) &&& (255 : Int32)).toUInt32.toUInt16.toUInt32.toInt32), .val (.ref b1), .val (.ref b5), .val (.ref ws9), .val (.ref ws10), .val (.ref b11), .unset, .unset] [(.ref b5), (.ref b14), (.ref b14)])) _
    refine XS.iload X14.here hx rfl (hb hby at_156) rfl  ?_
    exact oK
  show OG _ _ _ _ _ _ _ (T14.setTop (mkF m 158 #[.val (.int p0), .val (.int p1), .val (.int p2), .val (.int p3), .val (.int p4), .val (.int p5), .val (.int ((p0 &&& (2147483647 : Int32)) % (14 : Int32))), .val (.int (if (p4 &&& (1 : Int32)) = (0 : Int32) then ((p1 &&& (2147483647 : Int32)) % (14 : Int32)) else ((p0 &&& (2147483647 : Int32)) % (14 : Int32)))), .val (.int p2), .val (.int (if (p4 &&& (2 : Int32)) = (0 : Int32) then p3 else p2)), .val (.int ((XT.ushr p4 (2 : Int32)) &&& (255 : Int32)).toUInt32.toUInt16.toUInt32.toInt32), .val (.int ((XT.ushr p4 (10 : Int32)) &&& (255 : Int32)).toUInt32.toUInt16.toUInt32.toInt32), .val (.ref b1), .val (.ref b5), .val (.ref ws9), .val (.ref ws10), .val (.ref b11), .unset, .unset] [(.int (if (p4 &&& (1 : Int32)) = (0 : Int32) then ((p1 &&& (2147483647 : Int32)) % (14 : Int32)) else ((p0 &&& (2147483647 : Int32)) % (14 : Int32)))), (.ref b5), (.ref b14), (.ref b14)]))
  obtain ⟨_, _, ⟨T15, L15, k15, n15⟩, -, X15, ⟨Lc15, hQ15, l15, y15, z15⟩, st15⟩ := Jvm.LawKit.callS X14 hx (y := (⟨"com/example/kind4/kind4/model/DomainSameTypePinLaw", "prim", "(I)Lcom/example/kind4/kind4/model/Primitive;"⟩ : MethodName)) hown (mvT hZ (hw _ (List.mem_of_getElem? (i := 41) rfl))) (mvT hZ (hw _ (List.mem_of_getElem? (i := 42) rfl))) (mvT hZ (hw _ (List.mem_of_getElem? (i := 33) rfl))) (mvT hZ (hw _ (List.mem_of_getElem? (i := 43) rfl))) (by decide) (backOf (W := 3) (rmP l Z a0 hw [] (if (p4 &&& (1 : Int32)) = (0 : Int32) then ((p1 &&& (2147483647 : Int32)) % (14 : Int32)) else ((p0 &&& (2147483647 : Int32)) % (14 : Int32))) wf h14 n0 (Z14) f107 S_STRING S_UNBOUNDED_STRING S_BLOB S_BOOLEAN S_CHAR S_DATE S_DATETIME S_DOUBLE S_FLOAT S_INT8 S_INT16 S_INT32 S_INT64 S_MONEY) hZ (hw _ (List.mem_of_getElem? (i := 43) rfl)) (hw _ (List.mem_of_getElem? (i := 33) rfl)) (by decide) (by decide)) (g := (mkF m 158 #[.val (.int p0), .val (.int p1), .val (.int p2), .val (.int p3), .val (.int p4), .val (.int p5), .val (.int ((p0 &&& (2147483647 : Int32)) % (14 : Int32))), .val (.int (if (p4 &&& (1 : Int32)) = (0 : Int32) then ((p1 &&& (2147483647 : Int32)) % (14 : Int32)) else ((p0 &&& (2147483647 : Int32)) % (14 : Int32)))), .val (.int p2), .val (.int (if (p4 &&& (2 : Int32)) = (0 : Int32) then p3 else p2)), .val (.int ((XT.ushr p4 (2 : Int32)) &&& (255 : Int32)).toUInt32.toUInt16.toUInt32.toInt32), .val (.int ((XT.ushr p4 (10 : Int32)) &&& (255 : Int32)).toUInt32.toUInt16.toUInt32.toInt32), .val (.ref b1), .val (.ref b5), .val (.ref ws9), .val (.ref ws10), .val (.ref b11), .unset, .unset] [(.int (if (p4 &&& (1 : Int32)) = (0 : Int32) then ((p1 &&& (2147483647 : Int32)) % (14 : Int32)) else ((p0 &&& (2147483647 : Int32)) % (14 : Int32)))), (.ref b5), (.ref b14), (.ref b14)])) rfl (by rw [hml]; rfl) (argsL := [(.int (if (p4 &&& (1 : Int32)) = (0 : Int32) then ((p1 &&& (2147483647 : Int32)) % (14 : Int32)) else ((p0 &&& (2147483647 : Int32)) % (14 : Int32))))]) (rest := [(.ref b5), (.ref b14), (.ref b14)]) (lenOf pd__I_Lcom_example_kind4_kind4_model_Primitive_ rfl) rfl (by show 2 * 0 + _ ≤ _; exact Nat.le_of_eq rfl) (hb hby at_158) (fun _ _ => ⟨rfl, e14, (by decide : 8 + 0 ≤ _), (by decide : 22 + 0 ≤ _)⟩)
  dsimp only [Pt.U, Pt.locs, Pt.cells, Pt.slots] at X15 l15 y15 z15 st15 hQ15
  subst l15 y15 z15
  obtain ⟨hv15, N15q, e15⟩ := hQ15
  obtain rfl := hv15.trans (show _ = some (.ref (wf (own_ix (if (p4 &&& (1 : Int32)) = (0 : Int32) then ((p1 &&& (2147483647 : Int32)) % (14 : Int32)) else ((p0 &&& (2147483647 : Int32)) % (14 : Int32)))))) from rfl)
  have N15 := Fr.app N13 N15q
  refine OG.of st15 ?_
  show OG _ _ _ _ _ _ _ (T15.setTop (mkF m 161 #[.val (.int p0), .val (.int p1), .val (.int p2), .val (.int p3), .val (.int p4), .val (.int p5), .val (.int ((p0 &&& (2147483647 : Int32)) % (14 : Int32))), .val (.int (if (p4 &&& (1 : Int32)) = (0 : Int32) then ((p1 &&& (2147483647 : Int32)) % (14 : Int32)) else ((p0 &&& (2147483647 : Int32)) % (14 : Int32)))), .val (.int p2), .val (.int (if (p4 &&& (2 : Int32)) = (0 : Int32) then p3 else p2)), .val (.int ((XT.ushr p4 (2 : Int32)) &&& (255 : Int32)).toUInt32.toUInt16.toUInt32.toInt32), .val (.int ((XT.ushr p4 (10 : Int32)) &&& (255 : Int32)).toUInt32.toUInt16.toUInt32.toInt32), .val (.ref b1), .val (.ref b5), .val (.ref ws9), .val (.ref ws10), .val (.ref b11), .unset, .unset] [(.ref (wf (own_ix (if (p4 &&& (1 : Int32)) = (0 : Int32) then ((p1 &&& (2147483647 : Int32)) % (14 : Int32)) else ((p0 &&& (2147483647 : Int32)) % (14 : Int32)))))), (.ref b5), (.ref b14), (.ref b14)]))
  refine OG.of (A := T15.setTop (mkF m 169 #[.val (.int p0), .val (.int p1), .val (.int p2), .val (.int p3), .val (.int p4), .val (.int p5), .val (.int ((p0 &&& (2147483647 : Int32)) % (14 : Int32))), .val (.int (if (p4 &&& (1 : Int32)) = (0 : Int32) then ((p1 &&& (2147483647 : Int32)) % (14 : Int32)) else ((p0 &&& (2147483647 : Int32)) % (14 : Int32)))), .val (.int p2), .val (.int (if (p4 &&& (2 : Int32)) = (0 : Int32) then p3 else p2)), .val (.int ((XT.ushr p4 (2 : Int32)) &&& (255 : Int32)).toUInt32.toUInt16.toUInt32.toInt32), .val (.int ((XT.ushr p4 (10 : Int32)) &&& (255 : Int32)).toUInt32.toUInt16.toUInt32.toInt32), .val (.ref b1), .val (.ref b5), .val (.ref ws9), .val (.ref ws10), .val (.ref b11), .unset, .unset] [(.int (p1 ^^^ p5)), (.ref ws10), (.int (if (p4 &&& (2 : Int32)) = (0 : Int32) then p3 else p2)), (.ref (wf (own_ix (if (p4 &&& (1 : Int32)) = (0 : Int32) then ((p1 &&& (2147483647 : Int32)) % (14 : Int32)) else ((p0 &&& (2147483647 : Int32)) % (14 : Int32)))))), (.ref b5), (.ref b14), (.ref b14)])) (fun oT oK => ?_) ?_
  · show Steps p.tables e below (T15.setTop (mkF m 161 #[.val (.int p0), .val (.int p1), .val (.int p2), .val (.int p3), .val (.int p4), .val (.int p5), .val (.int ((p0 &&& (2147483647 : Int32)) % (14 : Int32))), .val (.int (if (p4 &&& (1 : Int32)) = (0 : Int32) then ((p1 &&& (2147483647 : Int32)) % (14 : Int32)) else ((p0 &&& (2147483647 : Int32)) % (14 : Int32)))), .val (.int p2), .val (.int (if (p4 &&& (2 : Int32)) = (0 : Int32) then p3 else p2)), .val (.int ((XT.ushr p4 (2 : Int32)) &&& (255 : Int32)).toUInt32.toUInt16.toUInt32.toInt32), .val (.int ((XT.ushr p4 (10 : Int32)) &&& (255 : Int32)).toUInt32.toUInt16.toUInt32.toInt32), .val (.ref b1), .val (.ref b5), .val (.ref ws9), .val (.ref ws10), .val (.ref b11), .unset, .unset] [(.ref (wf (own_ix (if (p4 &&& (1 : Int32)) = (0 : Int32) then ((p1 &&& (2147483647 : Int32)) % (14 : Int32)) else ((p0 &&& (2147483647 : Int32)) % (14 : Int32)))))), (.ref b5), (.ref b14), (.ref b14)])) oT
    refine XS.iload X15.here hx rfl (hb hby at_161) rfl  ?_
    show Steps p.tables e below (T15.setTop (mkF m 163 #[.val (.int p0), .val (.int p1), .val (.int p2), .val (.int p3), .val (.int p4), .val (.int p5), .val (.int ((p0 &&& (2147483647 : Int32)) % (14 : Int32))), .val (.int (if (p4 &&& (1 : Int32)) = (0 : Int32) then ((p1 &&& (2147483647 : Int32)) % (14 : Int32)) else ((p0 &&& (2147483647 : Int32)) % (14 : Int32)))), .val (.int p2), .val (.int (if (p4 &&& (2 : Int32)) = (0 : Int32) then p3 else p2)), .val (.int ((XT.ushr p4 (2 : Int32)) &&& (255 : Int32)).toUInt32.toUInt16.toUInt32.toInt32), .val (.int ((XT.ushr p4 (10 : Int32)) &&& (255 : Int32)).toUInt32.toUInt16.toUInt32.toInt32), .val (.ref b1), .val (.ref b5), .val (.ref ws9), .val (.ref ws10), .val (.ref b11), .unset, .unset] [(.int (if (p4 &&& (2 : Int32)) = (0 : Int32) then p3 else p2)), (.ref (wf (own_ix (if (p4 &&& (1 : Int32)) = (0 : Int32) then ((p1 &&& (2147483647 : Int32)) % (14 : Int32)) else ((p0 &&& (2147483647 : Int32)) % (14 : Int32)))))), (.ref b5), (.ref b14), (.ref b14)])) _
    refine XS.aload X15.here hx rfl (hb hby at_163) rfl rfl  ?_
    show Steps p.tables e below (T15.setTop (mkF m 165 #[.val (.int p0), .val (.int p1), .val (.int p2), .val (.int p3), .val (.int p4), .val (.int p5), .val (.int ((p0 &&& (2147483647 : Int32)) % (14 : Int32))), .val (.int (if (p4 &&& (1 : Int32)) = (0 : Int32) then ((p1 &&& (2147483647 : Int32)) % (14 : Int32)) else ((p0 &&& (2147483647 : Int32)) % (14 : Int32)))), .val (.int p2), .val (.int (if (p4 &&& (2 : Int32)) = (0 : Int32) then p3 else p2)), .val (.int ((XT.ushr p4 (2 : Int32)) &&& (255 : Int32)).toUInt32.toUInt16.toUInt32.toInt32), .val (.int ((XT.ushr p4 (10 : Int32)) &&& (255 : Int32)).toUInt32.toUInt16.toUInt32.toInt32), .val (.ref b1), .val (.ref b5), .val (.ref ws9), .val (.ref ws10), .val (.ref b11), .unset, .unset] [(.ref ws10), (.int (if (p4 &&& (2 : Int32)) = (0 : Int32) then p3 else p2)), (.ref (wf (own_ix (if (p4 &&& (1 : Int32)) = (0 : Int32) then ((p1 &&& (2147483647 : Int32)) % (14 : Int32)) else ((p0 &&& (2147483647 : Int32)) % (14 : Int32)))))), (.ref b5), (.ref b14), (.ref b14)])) _
    refine XS.iloadN X15.here hx rfl (hb hby at_165) rfl  ?_
    show Steps p.tables e below (T15.setTop (mkF m 166 #[.val (.int p0), .val (.int p1), .val (.int p2), .val (.int p3), .val (.int p4), .val (.int p5), .val (.int ((p0 &&& (2147483647 : Int32)) % (14 : Int32))), .val (.int (if (p4 &&& (1 : Int32)) = (0 : Int32) then ((p1 &&& (2147483647 : Int32)) % (14 : Int32)) else ((p0 &&& (2147483647 : Int32)) % (14 : Int32)))), .val (.int p2), .val (.int (if (p4 &&& (2 : Int32)) = (0 : Int32) then p3 else p2)), .val (.int ((XT.ushr p4 (2 : Int32)) &&& (255 : Int32)).toUInt32.toUInt16.toUInt32.toInt32), .val (.int ((XT.ushr p4 (10 : Int32)) &&& (255 : Int32)).toUInt32.toUInt16.toUInt32.toInt32), .val (.ref b1), .val (.ref b5), .val (.ref ws9), .val (.ref ws10), .val (.ref b11), .unset, .unset] [(.int p1), (.ref ws10), (.int (if (p4 &&& (2 : Int32)) = (0 : Int32) then p3 else p2)), (.ref (wf (own_ix (if (p4 &&& (1 : Int32)) = (0 : Int32) then ((p1 &&& (2147483647 : Int32)) % (14 : Int32)) else ((p0 &&& (2147483647 : Int32)) % (14 : Int32)))))), (.ref b5), (.ref b14), (.ref b14)])) _
    refine XS.iload X15.here hx rfl (hb hby at_166) rfl  ?_
    show Steps p.tables e below (T15.setTop (mkF m 168 #[.val (.int p0), .val (.int p1), .val (.int p2), .val (.int p3), .val (.int p4), .val (.int p5), .val (.int ((p0 &&& (2147483647 : Int32)) % (14 : Int32))), .val (.int (if (p4 &&& (1 : Int32)) = (0 : Int32) then ((p1 &&& (2147483647 : Int32)) % (14 : Int32)) else ((p0 &&& (2147483647 : Int32)) % (14 : Int32)))), .val (.int p2), .val (.int (if (p4 &&& (2 : Int32)) = (0 : Int32) then p3 else p2)), .val (.int ((XT.ushr p4 (2 : Int32)) &&& (255 : Int32)).toUInt32.toUInt16.toUInt32.toInt32), .val (.int ((XT.ushr p4 (10 : Int32)) &&& (255 : Int32)).toUInt32.toUInt16.toUInt32.toInt32), .val (.ref b1), .val (.ref b5), .val (.ref ws9), .val (.ref ws10), .val (.ref b11), .unset, .unset] [(.int p5), (.int p1), (.ref ws10), (.int (if (p4 &&& (2 : Int32)) = (0 : Int32) then p3 else p2)), (.ref (wf (own_ix (if (p4 &&& (1 : Int32)) = (0 : Int32) then ((p1 &&& (2147483647 : Int32)) % (14 : Int32)) else ((p0 &&& (2147483647 : Int32)) % (14 : Int32)))))), (.ref b5), (.ref b14), (.ref b14)])) _
    refine XT.ixor X15.here hx rfl (hb hby at_168) rfl ?_
    exact oK
  show OG _ _ _ _ _ _ _ (T15.setTop (mkF m 169 #[.val (.int p0), .val (.int p1), .val (.int p2), .val (.int p3), .val (.int p4), .val (.int p5), .val (.int ((p0 &&& (2147483647 : Int32)) % (14 : Int32))), .val (.int (if (p4 &&& (1 : Int32)) = (0 : Int32) then ((p1 &&& (2147483647 : Int32)) % (14 : Int32)) else ((p0 &&& (2147483647 : Int32)) % (14 : Int32)))), .val (.int p2), .val (.int (if (p4 &&& (2 : Int32)) = (0 : Int32) then p3 else p2)), .val (.int ((XT.ushr p4 (2 : Int32)) &&& (255 : Int32)).toUInt32.toUInt16.toUInt32.toInt32), .val (.int ((XT.ushr p4 (10 : Int32)) &&& (255 : Int32)).toUInt32.toUInt16.toUInt32.toInt32), .val (.ref b1), .val (.ref b5), .val (.ref ws9), .val (.ref ws10), .val (.ref b11), .unset, .unset] [(.int (p1 ^^^ p5)), (.ref ws10), (.int (if (p4 &&& (2 : Int32)) = (0 : Int32) then p3 else p2)), (.ref (wf (own_ix (if (p4 &&& (1 : Int32)) = (0 : Int32) then ((p1 &&& (2147483647 : Int32)) % (14 : Int32)) else ((p0 &&& (2147483647 : Int32)) % (14 : Int32)))))), (.ref b5), (.ref b14), (.ref b14)]))
  obtain ⟨_, _, ⟨T16, L16, k16, n16⟩, -, X16, ⟨Lc16, hQ16, l16, y16, z16⟩, st16⟩ := X15.specialBack hx (y := (⟨"com/example/kind4/kind4/model/Domain", "<init>", "(Ljava/lang/String;Lcom/example/kind4/kind4/model/Primitive;ILcom/example/kind4/kind4/model/Storage;I)V"⟩ : MethodName)) rfl hown (mvT hZ (hw _ (List.mem_of_getElem? (i := 47) rfl))) (mvT hZ (hw _ (List.mem_of_getElem? (i := 48) rfl))) (mvT hZ (hw _ (List.mem_of_getElem? (i := 49) rfl))) (by decide) (backOf (W := 1) (rmD l Z a0 hw [] b14 b5 (wf (own_ix (if (p4 &&& (1 : Int32)) = (0 : Int32) then ((p1 &&& (2147483647 : Int32)) % (14 : Int32)) else ((p0 &&& (2147483647 : Int32)) % (14 : Int32))))) (if (p4 &&& (2 : Int32)) = (0 : Int32) then p3 else p2) ws10 (p1 ^^^ p5) h14 n0 (Z14) A14 F14_name F14_primitive F14_size F14_storage F14_line gn_b14) hZ (hw _ (List.mem_of_getElem? (i := 49) rfl)) (hw _ (List.mem_of_getElem? (i := 40) rfl)) (by decide) (by decide)) (g := (mkF m 169 #[.val (.int p0), .val (.int p1), .val (.int p2), .val (.int p3), .val (.int p4), .val (.int p5), .val (.int ((p0 &&& (2147483647 : Int32)) % (14 : Int32))), .val (.int (if (p4 &&& (1 : Int32)) = (0 : Int32) then ((p1 &&& (2147483647 : Int32)) % (14 : Int32)) else ((p0 &&& (2147483647 : Int32)) % (14 : Int32)))), .val (.int p2), .val (.int (if (p4 &&& (2 : Int32)) = (0 : Int32) then p3 else p2)), .val (.int ((XT.ushr p4 (2 : Int32)) &&& (255 : Int32)).toUInt32.toUInt16.toUInt32.toInt32), .val (.int ((XT.ushr p4 (10 : Int32)) &&& (255 : Int32)).toUInt32.toUInt16.toUInt32.toInt32), .val (.ref b1), .val (.ref b5), .val (.ref ws9), .val (.ref ws10), .val (.ref b11), .unset, .unset] [(.int (p1 ^^^ p5)), (.ref ws10), (.int (if (p4 &&& (2 : Int32)) = (0 : Int32) then p3 else p2)), (.ref (wf (own_ix (if (p4 &&& (1 : Int32)) = (0 : Int32) then ((p1 &&& (2147483647 : Int32)) % (14 : Int32)) else ((p0 &&& (2147483647 : Int32)) % (14 : Int32)))))), (.ref b5), (.ref b14), (.ref b14)])) rfl (by rw [hml]; rfl) (Steps.refl _) (a := b14) (argsL := [(.ref b5), (.ref (wf (own_ix (if (p4 &&& (1 : Int32)) = (0 : Int32) then ((p1 &&& (2147483647 : Int32)) % (14 : Int32)) else ((p0 &&& (2147483647 : Int32)) % (14 : Int32)))))), (.int (if (p4 &&& (2 : Int32)) = (0 : Int32) then p3 else p2)), (.ref ws10), (.int (p1 ^^^ p5))]) (rest := [(.ref b14)]) (lenOf pd_8fa24af6 rfl) rfl (by show 2 * 0 + _ ≤ _; exact Nat.le_of_eq rfl) (hb hby at_169) (fun _ _ => ⟨rfl, e15, (by decide : 8 + 0 ≤ _), (by decide : 22 + 0 ≤ _)⟩)
  dsimp only [Pt.U, Pt.locs, Pt.cells, Pt.slots] at X16 l16 y16 z16 st16 hQ16
  subst l16 y16 z16
  obtain ⟨rfl, N16q, Kc16, f108, f109, f110, f111, f112, f113⟩ := hQ16
  have N16 := Fr.app N15 N16q
  have f114 := (f91).keep Kc16
  have f115 := (f92).keep Kc16 (ninS ne_b2_b14 nin0)
  have f116 := (f93).keep Kc16 (ninS ne_b1_b14 nin0)
  have f117 := (f94).keep Kc16 (ninS ne_b1_b14 nin0)
  have f118 := (f95).keep Kc16 (ninS ne_t4_b14 nin0)
  have f119 := (f96).keep Kc16
  have f120 := (f97).keep Kc16 (ninS ne_b6_b14 nin0)
  have f121 := (f98).keep Kc16 (ninS ne_b5_b14 nin0)
  have f122 := (f99).keep Kc16 (ninS ne_b5_b14 nin0)
  have f123 := (f100).keep Kc16 (ninS ne_t8_b14 nin0)
  have f124 := (f101).keep Kc16
  have f125 := (f102).keep Kc16 (ninS ne_b11_b14 nin0)
  have f126 := (f103).keep Kc16 (ninS ne_b11_b14 nin0)
  have f127 := (f104).keep Kc16 (ninS ne_b11_b14 nin0)
  have f128 := (f105).keep Kc16 (ninS ne_b11_b14 nin0)
  have f129 := (f106).keep Kc16 (ninS ne_b11_b14 nin0)
  have f130 := (A14).keep Kc16
  have f136 := (f107).keep Kc16 (allS gn_b14 all0)
  have K16 : Keep h0 T16.heap [] := (K14).trans Kc16 (allS (Or.inr sz_b14) all0)
  have Z16 : n0 ≤ T16.heap.size := Nat.le_trans Z14 Kc16.1
  refine OG.trans st16 ?_
  show OG _ _ _ _ _ _ _ (T16.setTop (mkF m 172 #[.val (.int p0), .val (.int p1), .val (.int p2), .val (.int p3), .val (.int p4), .val (.int p5), .val (.int ((p0 &&& (2147483647 : Int32)) % (14 : Int32))), .val (.int (if (p4 &&& (1 : Int32)) = (0 : Int32) then ((p1 &&& (2147483647 : Int32)) % (14 : Int32)) else ((p0 &&& (2147483647 : Int32)) % (14 : Int32)))), .val (.int p2), .val (.int (if (p4 &&& (2 : Int32)) = (0 : Int32) then p3 else p2)), .val (.int ((XT.ushr p4 (2 : Int32)) &&& (255 : Int32)).toUInt32.toUInt16.toUInt32.toInt32), .val (.int ((XT.ushr p4 (10 : Int32)) &&& (255 : Int32)).toUInt32.toUInt16.toUInt32.toInt32), .val (.ref b1), .val (.ref b5), .val (.ref ws9), .val (.ref ws10), .val (.ref b11), .unset, .unset] [(.ref b14)]))
  refine OG.of (A := T16.setTop (mkF m 199 #[.val (.int p0), .val (.int p1), .val (.int p2), .val (.int p3), .val (.int p4), .val (.int p5), .val (.int ((p0 &&& (2147483647 : Int32)) % (14 : Int32))), .val (.int (if (p4 &&& (1 : Int32)) = (0 : Int32) then ((p1 &&& (2147483647 : Int32)) % (14 : Int32)) else ((p0 &&& (2147483647 : Int32)) % (14 : Int32)))), .val (.int p2), .val (.int (if (p4 &&& (2 : Int32)) = (0 : Int32) then p3 else p2)), .val (.int ((XT.ushr p4 (2 : Int32)) &&& (255 : Int32)).toUInt32.toUInt16.toUInt32.toInt32), .val (.int ((XT.ushr p4 (10 : Int32)) &&& (255 : Int32)).toUInt32.toUInt16.toUInt32.toInt32), .val (.ref b1), .val (.ref b5), .val (.ref ws9), .val (.ref ws10), .val (.ref b11), .val (.ref b14), .val (.int (if ((p0 &&& (2147483647 : Int32)) % (14 : Int32)) = (if (p4 &&& (1 : Int32)) = (0 : Int32) then ((p1 &&& (2147483647 : Int32)) % (14 : Int32)) else ((p0 &&& (2147483647 : Int32)) % (14 : Int32))) then (if p2 = (if (p4 &&& (2 : Int32)) = (0 : Int32) then p3 else p2) then (1 : Int32) else (0 : Int32)) else (0 : Int32)))] [(.ref b14), (.ref b11)])) (fun oT oK => ?_) ?_
  · show Steps p.tables e below (T16.setTop (mkF m 172 #[.val (.int p0), .val (.int p1), .val (.int p2), .val (.int p3), .val (.int p4), .val (.int p5), .val (.int ((p0 &&& (2147483647 : Int32)) % (14 : Int32))), .val (.int (if (p4 &&& (1 : Int32)) = (0 : Int32) then ((p1 &&& (2147483647 : Int32)) % (14 : Int32)) else ((p0 &&& (2147483647 : Int32)) % (14 : Int32)))), .val (.int p2), .val (.int (if (p4 &&& (2 : Int32)) = (0 : Int32) then p3 else p2)), .val (.int ((XT.ushr p4 (2 : Int32)) &&& (255 : Int32)).toUInt32.toUInt16.toUInt32.toInt32), .val (.int ((XT.ushr p4 (10 : Int32)) &&& (255 : Int32)).toUInt32.toUInt16.toUInt32.toInt32), .val (.ref b1), .val (.ref b5), .val (.ref ws9), .val (.ref ws10), .val (.ref b11), .unset, .unset] [(.ref b14)])) oT
    refine XS.astore X16.here hx rfl (hb hby at_172) rfl rfl (l' := #[.val (.int p0), .val (.int p1), .val (.int p2), .val (.int p3), .val (.int p4), .val (.int p5), .val (.int ((p0 &&& (2147483647 : Int32)) % (14 : Int32))), .val (.int (if (p4 &&& (1 : Int32)) = (0 : Int32) then ((p1 &&& (2147483647 : Int32)) % (14 : Int32)) else ((p0 &&& (2147483647 : Int32)) % (14 : Int32)))), .val (.int p2), .val (.int (if (p4 &&& (2 : Int32)) = (0 : Int32) then p3 else p2)), .val (.int ((XT.ushr p4 (2 : Int32)) &&& (255 : Int32)).toUInt32.toUInt16.toUInt32.toInt32), .val (.int ((XT.ushr p4 (10 : Int32)) &&& (255 : Int32)).toUInt32.toUInt16.toUInt32.toInt32), .val (.ref b1), .val (.ref b5), .val (.ref ws9), .val (.ref ws10), .val (.ref b11), .val (.ref b14), .unset]) rfl ?_
    show Steps p.tables e below (T16.setTop (mkF m 174 #[.val (.int p0), .val (.int p1), .val (.int p2), .val (.int p3), .val (.int p4), .val (.int p5), .val (.int ((p0 &&& (2147483647 : Int32)) % (14 : Int32))), .val (.int (if (p4 &&& (1 : Int32)) = (0 : Int32) then ((p1 &&& (2147483647 : Int32)) % (14 : Int32)) else ((p0 &&& (2147483647 : Int32)) % (14 : Int32)))), .val (.int p2), .val (.int (if (p4 &&& (2 : Int32)) = (0 : Int32) then p3 else p2)), .val (.int ((XT.ushr p4 (2 : Int32)) &&& (255 : Int32)).toUInt32.toUInt16.toUInt32.toInt32), .val (.int ((XT.ushr p4 (10 : Int32)) &&& (255 : Int32)).toUInt32.toUInt16.toUInt32.toInt32), .val (.ref b1), .val (.ref b5), .val (.ref ws9), .val (.ref ws10), .val (.ref b11), .val (.ref b14), .unset] [])) _
    refine XS.iload X16.here hx rfl (hb hby at_174) rfl  ?_
    show Steps p.tables e below (T16.setTop (mkF m 176 #[.val (.int p0), .val (.int p1), .val (.int p2), .val (.int p3), .val (.int p4), .val (.int p5), .val (.int ((p0 &&& (2147483647 : Int32)) % (14 : Int32))), .val (.int (if (p4 &&& (1 : Int32)) = (0 : Int32) then ((p1 &&& (2147483647 : Int32)) % (14 : Int32)) else ((p0 &&& (2147483647 : Int32)) % (14 : Int32)))), .val (.int p2), .val (.int (if (p4 &&& (2 : Int32)) = (0 : Int32) then p3 else p2)), .val (.int ((XT.ushr p4 (2 : Int32)) &&& (255 : Int32)).toUInt32.toUInt16.toUInt32.toInt32), .val (.int ((XT.ushr p4 (10 : Int32)) &&& (255 : Int32)).toUInt32.toUInt16.toUInt32.toInt32), .val (.ref b1), .val (.ref b5), .val (.ref ws9), .val (.ref ws10), .val (.ref b11), .val (.ref b14), .unset] [(.int ((p0 &&& (2147483647 : Int32)) % (14 : Int32)))])) _
    refine XS.iload X16.here hx rfl (hb hby at_176) rfl  ?_
    show Steps p.tables e below (T16.setTop (mkF m 178 #[.val (.int p0), .val (.int p1), .val (.int p2), .val (.int p3), .val (.int p4), .val (.int p5), .val (.int ((p0 &&& (2147483647 : Int32)) % (14 : Int32))), .val (.int (if (p4 &&& (1 : Int32)) = (0 : Int32) then ((p1 &&& (2147483647 : Int32)) % (14 : Int32)) else ((p0 &&& (2147483647 : Int32)) % (14 : Int32)))), .val (.int p2), .val (.int (if (p4 &&& (2 : Int32)) = (0 : Int32) then p3 else p2)), .val (.int ((XT.ushr p4 (2 : Int32)) &&& (255 : Int32)).toUInt32.toUInt16.toUInt32.toInt32), .val (.int ((XT.ushr p4 (10 : Int32)) &&& (255 : Int32)).toUInt32.toUInt16.toUInt32.toInt32), .val (.ref b1), .val (.ref b5), .val (.ref ws9), .val (.ref ws10), .val (.ref b11), .val (.ref b14), .unset] [(.int (if (p4 &&& (1 : Int32)) = (0 : Int32) then ((p1 &&& (2147483647 : Int32)) % (14 : Int32)) else ((p0 &&& (2147483647 : Int32)) % (14 : Int32)))), (.int ((p0 &&& (2147483647 : Int32)) % (14 : Int32)))])) _
    refine (show ∀ oT, Steps p.tables e below (T16.setTop (mkF m 193 #[.val (.int p0), .val (.int p1), .val (.int p2), .val (.int p3), .val (.int p4), .val (.int p5), .val (.int ((p0 &&& (2147483647 : Int32)) % (14 : Int32))), .val (.int (if (p4 &&& (1 : Int32)) = (0 : Int32) then ((p1 &&& (2147483647 : Int32)) % (14 : Int32)) else ((p0 &&& (2147483647 : Int32)) % (14 : Int32)))), .val (.int p2), .val (.int (if (p4 &&& (2 : Int32)) = (0 : Int32) then p3 else p2)), .val (.int ((XT.ushr p4 (2 : Int32)) &&& (255 : Int32)).toUInt32.toUInt16.toUInt32.toInt32), .val (.int ((XT.ushr p4 (10 : Int32)) &&& (255 : Int32)).toUInt32.toUInt16.toUInt32.toInt32), .val (.ref b1), .val (.ref b5), .val (.ref ws9), .val (.ref ws10), .val (.ref b11), .val (.ref b14), .unset] [(.int (if ((p0 &&& (2147483647 : Int32)) % (14 : Int32)) = (if (p4 &&& (1 : Int32)) = (0 : Int32) then ((p1 &&& (2147483647 : Int32)) % (14 : Int32)) else ((p0 &&& (2147483647 : Int32)) % (14 : Int32))) then (if p2 = (if (p4 &&& (2 : Int32)) = (0 : Int32) then p3 else p2) then (1 : Int32) else (0 : Int32)) else (0 : Int32)))])) oT → Steps p.tables e below (T16.setTop (mkF m 178 #[.val (.int p0), .val (.int p1), .val (.int p2), .val (.int p3), .val (.int p4), .val (.int p5), .val (.int ((p0 &&& (2147483647 : Int32)) % (14 : Int32))), .val (.int (if (p4 &&& (1 : Int32)) = (0 : Int32) then ((p1 &&& (2147483647 : Int32)) % (14 : Int32)) else ((p0 &&& (2147483647 : Int32)) % (14 : Int32)))), .val (.int p2), .val (.int (if (p4 &&& (2 : Int32)) = (0 : Int32) then p3 else p2)), .val (.int ((XT.ushr p4 (2 : Int32)) &&& (255 : Int32)).toUInt32.toUInt16.toUInt32.toInt32), .val (.int ((XT.ushr p4 (10 : Int32)) &&& (255 : Int32)).toUInt32.toUInt16.toUInt32.toInt32), .val (.ref b1), .val (.ref b5), .val (.ref ws9), .val (.ref ws10), .val (.ref b11), .val (.ref b14), .unset] [(.int (if (p4 &&& (1 : Int32)) = (0 : Int32) then ((p1 &&& (2147483647 : Int32)) % (14 : Int32)) else ((p0 &&& (2147483647 : Int32)) % (14 : Int32)))), (.int ((p0 &&& (2147483647 : Int32)) % (14 : Int32)))])) oT from fun oT oK => ?_) _ ?_
    · skip
      show Steps p.tables e below (T16.setTop (mkF m 178 #[.val (.int p0), .val (.int p1), .val (.int p2), .val (.int p3), .val (.int p4), .val (.int p5), .val (.int ((p0 &&& (2147483647 : Int32)) % (14 : Int32))), .val (.int (if (p4 &&& (1 : Int32)) = (0 : Int32) then ((p1 &&& (2147483647 : Int32)) % (14 : Int32)) else ((p0 &&& (2147483647 : Int32)) % (14 : Int32)))), .val (.int p2), .val (.int (if (p4 &&& (2 : Int32)) = (0 : Int32) then p3 else p2)), .val (.int ((XT.ushr p4 (2 : Int32)) &&& (255 : Int32)).toUInt32.toUInt16.toUInt32.toInt32), .val (.int ((XT.ushr p4 (10 : Int32)) &&& (255 : Int32)).toUInt32.toUInt16.toUInt32.toInt32), .val (.ref b1), .val (.ref b5), .val (.ref ws9), .val (.ref ws10), .val (.ref b11), .val (.ref b14), .unset] [(.int (if (p4 &&& (1 : Int32)) = (0 : Int32) then ((p1 &&& (2147483647 : Int32)) % (14 : Int32)) else ((p0 &&& (2147483647 : Int32)) % (14 : Int32)))), (.int ((p0 &&& (2147483647 : Int32)) % (14 : Int32)))])) _
      by_cases hj178_138 : ((p0 &&& (2147483647 : Int32)) % (14 : Int32)) = (if (p4 &&& (1 : Int32)) = (0 : Int32) then ((p1 &&& (2147483647 : Int32)) % (14 : Int32)) else ((p0 &&& (2147483647 : Int32)) % (14 : Int32)))
      · try simp only [if_pos hj178_138] at oK
        refine XS.icmpNo X16.here hx rfl (hb hby at_178) rfl (XT.ii_ne_f hj178_138) ?_
        show Steps p.tables e below (T16.setTop (mkF m 181 #[.val (.int p0), .val (.int p1), .val (.int p2), .val (.int p3), .val (.int p4), .val (.int p5), .val (.int ((p0 &&& (2147483647 : Int32)) % (14 : Int32))), .val (.int (if (p4 &&& (1 : Int32)) = (0 : Int32) then ((p1 &&& (2147483647 : Int32)) % (14 : Int32)) else ((p0 &&& (2147483647 : Int32)) % (14 : Int32)))), .val (.int p2), .val (.int (if (p4 &&& (2 : Int32)) = (0 : Int32) then p3 else p2)), .val (.int ((XT.ushr p4 (2 : Int32)) &&& (255 : Int32)).toUInt32.toUInt16.toUInt32.toInt32), .val (.int ((XT.ushr p4 (10 : Int32)) &&& (255 : Int32)).toUInt32.toUInt16.toUInt32.toInt32), .val (.ref b1), .val (.ref b5), .val (.ref ws9), .val (.ref ws10), .val (.ref b11), .val (.ref b14), .unset] [])) _
        refine XS.iload X16.here hx rfl (hb hby at_181) rfl  ?_
        show Steps p.tables e below (T16.setTop (mkF m 183 #[.val (.int p0), .val (.int p1), .val (.int p2), .val (.int p3), .val (.int p4), .val (.int p5), .val (.int ((p0 &&& (2147483647 : Int32)) % (14 : Int32))), .val (.int (if (p4 &&& (1 : Int32)) = (0 : Int32) then ((p1 &&& (2147483647 : Int32)) % (14 : Int32)) else ((p0 &&& (2147483647 : Int32)) % (14 : Int32)))), .val (.int p2), .val (.int (if (p4 &&& (2 : Int32)) = (0 : Int32) then p3 else p2)), .val (.int ((XT.ushr p4 (2 : Int32)) &&& (255 : Int32)).toUInt32.toUInt16.toUInt32.toInt32), .val (.int ((XT.ushr p4 (10 : Int32)) &&& (255 : Int32)).toUInt32.toUInt16.toUInt32.toInt32), .val (.ref b1), .val (.ref b5), .val (.ref ws9), .val (.ref ws10), .val (.ref b11), .val (.ref b14), .unset] [(.int p2)])) _
        refine XS.iload X16.here hx rfl (hb hby at_183) rfl  ?_
        show Steps p.tables e below (T16.setTop (mkF m 185 #[.val (.int p0), .val (.int p1), .val (.int p2), .val (.int p3), .val (.int p4), .val (.int p5), .val (.int ((p0 &&& (2147483647 : Int32)) % (14 : Int32))), .val (.int (if (p4 &&& (1 : Int32)) = (0 : Int32) then ((p1 &&& (2147483647 : Int32)) % (14 : Int32)) else ((p0 &&& (2147483647 : Int32)) % (14 : Int32)))), .val (.int p2), .val (.int (if (p4 &&& (2 : Int32)) = (0 : Int32) then p3 else p2)), .val (.int ((XT.ushr p4 (2 : Int32)) &&& (255 : Int32)).toUInt32.toUInt16.toUInt32.toInt32), .val (.int ((XT.ushr p4 (10 : Int32)) &&& (255 : Int32)).toUInt32.toUInt16.toUInt32.toInt32), .val (.ref b1), .val (.ref b5), .val (.ref ws9), .val (.ref ws10), .val (.ref b11), .val (.ref b14), .unset] [(.int (if (p4 &&& (2 : Int32)) = (0 : Int32) then p3 else p2)), (.int p2)])) _
        by_cases hj185_139 : p2 = (if (p4 &&& (2 : Int32)) = (0 : Int32) then p3 else p2)
        · try simp only [if_pos hj185_139] at oK
          refine XS.icmpNo X16.here hx rfl (hb hby at_185) rfl (XT.ii_ne_f hj185_139) ?_
          show Steps p.tables e below (T16.setTop (mkF m 188 #[.val (.int p0), .val (.int p1), .val (.int p2), .val (.int p3), .val (.int p4), .val (.int p5), .val (.int ((p0 &&& (2147483647 : Int32)) % (14 : Int32))), .val (.int (if (p4 &&& (1 : Int32)) = (0 : Int32) then ((p1 &&& (2147483647 : Int32)) % (14 : Int32)) else ((p0 &&& (2147483647 : Int32)) % (14 : Int32)))), .val (.int p2), .val (.int (if (p4 &&& (2 : Int32)) = (0 : Int32) then p3 else p2)), .val (.int ((XT.ushr p4 (2 : Int32)) &&& (255 : Int32)).toUInt32.toUInt16.toUInt32.toInt32), .val (.int ((XT.ushr p4 (10 : Int32)) &&& (255 : Int32)).toUInt32.toUInt16.toUInt32.toInt32), .val (.ref b1), .val (.ref b5), .val (.ref ws9), .val (.ref ws10), .val (.ref b11), .val (.ref b14), .unset] [])) _
          refine XS.iconst X16.here hx rfl (hb hby at_188) ?_
          show Steps p.tables e below (T16.setTop (mkF m 189 #[.val (.int p0), .val (.int p1), .val (.int p2), .val (.int p3), .val (.int p4), .val (.int p5), .val (.int ((p0 &&& (2147483647 : Int32)) % (14 : Int32))), .val (.int (if (p4 &&& (1 : Int32)) = (0 : Int32) then ((p1 &&& (2147483647 : Int32)) % (14 : Int32)) else ((p0 &&& (2147483647 : Int32)) % (14 : Int32)))), .val (.int p2), .val (.int (if (p4 &&& (2 : Int32)) = (0 : Int32) then p3 else p2)), .val (.int ((XT.ushr p4 (2 : Int32)) &&& (255 : Int32)).toUInt32.toUInt16.toUInt32.toInt32), .val (.int ((XT.ushr p4 (10 : Int32)) &&& (255 : Int32)).toUInt32.toUInt16.toUInt32.toInt32), .val (.ref b1), .val (.ref b5), .val (.ref ws9), .val (.ref ws10), .val (.ref b11), .val (.ref b14), .unset] [(.int (1 : Int32))])) _
          refine XS.goto X16.here hx rfl (pc0 := 189) (pc' := 193) rfl (hb hby at_189) (by decide) (by decide) ?_
          exact oK
        · try simp only [if_neg hj185_139] at oK
          refine XS.icmpYes X16.here hx rfl (pc0 := 185) (pc' := 192) rfl (hb hby at_185) rfl (XT.ii_ne_t hj185_139) (by decide) (by decide) ?_
          show Steps p.tables e below (T16.setTop (mkF m 192 #[.val (.int p0), .val (.int p1), .val (.int p2), .val (.int p3), .val (.int p4), .val (.int p5), .val (.int ((p0 &&& (2147483647 : Int32)) % (14 : Int32))), .val (.int (if (p4 &&& (1 : Int32)) = (0 : Int32) then ((p1 &&& (2147483647 : Int32)) % (14 : Int32)) else ((p0 &&& (2147483647 : Int32)) % (14 : Int32)))), .val (.int p2), .val (.int (if (p4 &&& (2 : Int32)) = (0 : Int32) then p3 else p2)), .val (.int ((XT.ushr p4 (2 : Int32)) &&& (255 : Int32)).toUInt32.toUInt16.toUInt32.toInt32), .val (.int ((XT.ushr p4 (10 : Int32)) &&& (255 : Int32)).toUInt32.toUInt16.toUInt32.toInt32), .val (.ref b1), .val (.ref b5), .val (.ref ws9), .val (.ref ws10), .val (.ref b11), .val (.ref b14), .unset] [])) _
          refine XS.iconst X16.here hx rfl (hb hby at_192) ?_
          exact oK
      · try simp only [if_neg hj178_138] at oK
        refine XS.icmpYes X16.here hx rfl (pc0 := 178) (pc' := 192) rfl (hb hby at_178) rfl (XT.ii_ne_t hj178_138) (by decide) (by decide) ?_
        show Steps p.tables e below (T16.setTop (mkF m 192 #[.val (.int p0), .val (.int p1), .val (.int p2), .val (.int p3), .val (.int p4), .val (.int p5), .val (.int ((p0 &&& (2147483647 : Int32)) % (14 : Int32))), .val (.int (if (p4 &&& (1 : Int32)) = (0 : Int32) then ((p1 &&& (2147483647 : Int32)) % (14 : Int32)) else ((p0 &&& (2147483647 : Int32)) % (14 : Int32)))), .val (.int p2), .val (.int (if (p4 &&& (2 : Int32)) = (0 : Int32) then p3 else p2)), .val (.int ((XT.ushr p4 (2 : Int32)) &&& (255 : Int32)).toUInt32.toUInt16.toUInt32.toInt32), .val (.int ((XT.ushr p4 (10 : Int32)) &&& (255 : Int32)).toUInt32.toUInt16.toUInt32.toInt32), .val (.ref b1), .val (.ref b5), .val (.ref ws9), .val (.ref ws10), .val (.ref b11), .val (.ref b14), .unset] [])) _
        refine XS.iconst X16.here hx rfl (hb hby at_192) ?_
        exact oK
    show Steps p.tables e below (T16.setTop (mkF m 193 #[.val (.int p0), .val (.int p1), .val (.int p2), .val (.int p3), .val (.int p4), .val (.int p5), .val (.int ((p0 &&& (2147483647 : Int32)) % (14 : Int32))), .val (.int (if (p4 &&& (1 : Int32)) = (0 : Int32) then ((p1 &&& (2147483647 : Int32)) % (14 : Int32)) else ((p0 &&& (2147483647 : Int32)) % (14 : Int32)))), .val (.int p2), .val (.int (if (p4 &&& (2 : Int32)) = (0 : Int32) then p3 else p2)), .val (.int ((XT.ushr p4 (2 : Int32)) &&& (255 : Int32)).toUInt32.toUInt16.toUInt32.toInt32), .val (.int ((XT.ushr p4 (10 : Int32)) &&& (255 : Int32)).toUInt32.toUInt16.toUInt32.toInt32), .val (.ref b1), .val (.ref b5), .val (.ref ws9), .val (.ref ws10), .val (.ref b11), .val (.ref b14), .unset] [(.int (if ((p0 &&& (2147483647 : Int32)) % (14 : Int32)) = (if (p4 &&& (1 : Int32)) = (0 : Int32) then ((p1 &&& (2147483647 : Int32)) % (14 : Int32)) else ((p0 &&& (2147483647 : Int32)) % (14 : Int32))) then (if p2 = (if (p4 &&& (2 : Int32)) = (0 : Int32) then p3 else p2) then (1 : Int32) else (0 : Int32)) else (0 : Int32)))])) _
    refine XS.istore X16.here hx rfl (hb hby at_193) rfl (l' := #[.val (.int p0), .val (.int p1), .val (.int p2), .val (.int p3), .val (.int p4), .val (.int p5), .val (.int ((p0 &&& (2147483647 : Int32)) % (14 : Int32))), .val (.int (if (p4 &&& (1 : Int32)) = (0 : Int32) then ((p1 &&& (2147483647 : Int32)) % (14 : Int32)) else ((p0 &&& (2147483647 : Int32)) % (14 : Int32)))), .val (.int p2), .val (.int (if (p4 &&& (2 : Int32)) = (0 : Int32) then p3 else p2)), .val (.int ((XT.ushr p4 (2 : Int32)) &&& (255 : Int32)).toUInt32.toUInt16.toUInt32.toInt32), .val (.int ((XT.ushr p4 (10 : Int32)) &&& (255 : Int32)).toUInt32.toUInt16.toUInt32.toInt32), .val (.ref b1), .val (.ref b5), .val (.ref ws9), .val (.ref ws10), .val (.ref b11), .val (.ref b14), .val (.int (if ((p0 &&& (2147483647 : Int32)) % (14 : Int32)) = (if (p4 &&& (1 : Int32)) = (0 : Int32) then ((p1 &&& (2147483647 : Int32)) % (14 : Int32)) else ((p0 &&& (2147483647 : Int32)) % (14 : Int32))) then (if p2 = (if (p4 &&& (2 : Int32)) = (0 : Int32) then p3 else p2) then (1 : Int32) else (0 : Int32)) else (0 : Int32)))]) rfl ?_
    show Steps p.tables e below (T16.setTop (mkF m 195 #[.val (.int p0), .val (.int p1), .val (.int p2), .val (.int p3), .val (.int p4), .val (.int p5), .val (.int ((p0 &&& (2147483647 : Int32)) % (14 : Int32))), .val (.int (if (p4 &&& (1 : Int32)) = (0 : Int32) then ((p1 &&& (2147483647 : Int32)) % (14 : Int32)) else ((p0 &&& (2147483647 : Int32)) % (14 : Int32)))), .val (.int p2), .val (.int (if (p4 &&& (2 : Int32)) = (0 : Int32) then p3 else p2)), .val (.int ((XT.ushr p4 (2 : Int32)) &&& (255 : Int32)).toUInt32.toUInt16.toUInt32.toInt32), .val (.int ((XT.ushr p4 (10 : Int32)) &&& (255 : Int32)).toUInt32.toUInt16.toUInt32.toInt32), .val (.ref b1), .val (.ref b5), .val (.ref ws9), .val (.ref ws10), .val (.ref b11), .val (.ref b14), .val (.int (if ((p0 &&& (2147483647 : Int32)) % (14 : Int32)) = (if (p4 &&& (1 : Int32)) = (0 : Int32) then ((p1 &&& (2147483647 : Int32)) % (14 : Int32)) else ((p0 &&& (2147483647 : Int32)) % (14 : Int32))) then (if p2 = (if (p4 &&& (2 : Int32)) = (0 : Int32) then p3 else p2) then (1 : Int32) else (0 : Int32)) else (0 : Int32)))] [])) _
    refine XS.aload X16.here hx rfl (hb hby at_195) rfl rfl  ?_
    show Steps p.tables e below (T16.setTop (mkF m 197 #[.val (.int p0), .val (.int p1), .val (.int p2), .val (.int p3), .val (.int p4), .val (.int p5), .val (.int ((p0 &&& (2147483647 : Int32)) % (14 : Int32))), .val (.int (if (p4 &&& (1 : Int32)) = (0 : Int32) then ((p1 &&& (2147483647 : Int32)) % (14 : Int32)) else ((p0 &&& (2147483647 : Int32)) % (14 : Int32)))), .val (.int p2), .val (.int (if (p4 &&& (2 : Int32)) = (0 : Int32) then p3 else p2)), .val (.int ((XT.ushr p4 (2 : Int32)) &&& (255 : Int32)).toUInt32.toUInt16.toUInt32.toInt32), .val (.int ((XT.ushr p4 (10 : Int32)) &&& (255 : Int32)).toUInt32.toUInt16.toUInt32.toInt32), .val (.ref b1), .val (.ref b5), .val (.ref ws9), .val (.ref ws10), .val (.ref b11), .val (.ref b14), .val (.int (if ((p0 &&& (2147483647 : Int32)) % (14 : Int32)) = (if (p4 &&& (1 : Int32)) = (0 : Int32) then ((p1 &&& (2147483647 : Int32)) % (14 : Int32)) else ((p0 &&& (2147483647 : Int32)) % (14 : Int32))) then (if p2 = (if (p4 &&& (2 : Int32)) = (0 : Int32) then p3 else p2) then (1 : Int32) else (0 : Int32)) else (0 : Int32)))] [(.ref b11)])) _
    refine XS.aload X16.here hx rfl (hb hby at_197) rfl rfl  ?_
    exact oK
  show OG _ _ _ _ _ _ _ (T16.setTop (mkF m 199 #[.val (.int p0), .val (.int p1), .val (.int p2), .val (.int p3), .val (.int p4), .val (.int p5), .val (.int ((p0 &&& (2147483647 : Int32)) % (14 : Int32))), .val (.int (if (p4 &&& (1 : Int32)) = (0 : Int32) then ((p1 &&& (2147483647 : Int32)) % (14 : Int32)) else ((p0 &&& (2147483647 : Int32)) % (14 : Int32)))), .val (.int p2), .val (.int (if (p4 &&& (2 : Int32)) = (0 : Int32) then p3 else p2)), .val (.int ((XT.ushr p4 (2 : Int32)) &&& (255 : Int32)).toUInt32.toUInt16.toUInt32.toInt32), .val (.int ((XT.ushr p4 (10 : Int32)) &&& (255 : Int32)).toUInt32.toUInt16.toUInt32.toInt32), .val (.ref b1), .val (.ref b5), .val (.ref ws9), .val (.ref ws10), .val (.ref b11), .val (.ref b14), .val (.int (if ((p0 &&& (2147483647 : Int32)) % (14 : Int32)) = (if (p4 &&& (1 : Int32)) = (0 : Int32) then ((p1 &&& (2147483647 : Int32)) % (14 : Int32)) else ((p0 &&& (2147483647 : Int32)) % (14 : Int32))) then (if p2 = (if (p4 &&& (2 : Int32)) = (0 : Int32) then p3 else p2) then (1 : Int32) else (0 : Int32)) else (0 : Int32)))] [(.ref b14), (.ref b11)]))
  obtain ⟨cq17, kq17, q17a, q17b, q17c⟩ := isOf hZ rfl (f124)
  obtain ⟨_, _, ⟨T17, L17, k17, n17⟩, -, X17, ⟨Lc17, hQ17, l17, y17, z17⟩, st17⟩ := X16.virtualBack hx (y := (⟨"com/example/kind4/kind4/model/Domain", "sameType", "(Lcom/example/kind4/kind4/model/Domain;)Z"⟩ : MethodName)) (z := (⟨"com/example/kind4/kind4/model/Domain", "sameType", "(Lcom/example/kind4/kind4/model/Domain;)Z"⟩ : MethodName)) hown (mvT hZ (hw _ (List.mem_of_getElem? (i := 68) rfl))) (mvT hZ (hw _ (List.mem_of_getElem? (i := 69) rfl))) (notFace_of_selects (args := #[]) (mvT hZ (hw _ (List.mem_of_getElem? (i := 71) rfl)))) (mvT hZ (hw _ (List.mem_of_getElem? (i := 71) rfl))) (mvT hZ (hw _ (List.mem_of_getElem? (i := 70) rfl))) (by decide) (backOf (W := 0) (rmT l Z a0 hw [] b11 b14 (wf (own_ix ((p0 &&& (2147483647 : Int32)) % (14 : Int32)))) (wf (own_ix (if (p4 &&& (1 : Int32)) = (0 : Int32) then ((p1 &&& (2147483647 : Int32)) % (14 : Int32)) else ((p0 &&& (2147483647 : Int32)) % (14 : Int32))))) p2 (if (p4 &&& (2 : Int32)) = (0 : Int32) then p3 else p2) T16.heap n0 (Z16) f126 f127 f110 f111) hZ (hw _ (List.mem_of_getElem? (i := 72) rfl)) (hw _ (List.mem_of_getElem? (i := 40) rfl)) (by decide) (by decide)) q17a q17c (g := (mkF m 199 #[.val (.int p0), .val (.int p1), .val (.int p2), .val (.int p3), .val (.int p4), .val (.int p5), .val (.int ((p0 &&& (2147483647 : Int32)) % (14 : Int32))), .val (.int (if (p4 &&& (1 : Int32)) = (0 : Int32) then ((p1 &&& (2147483647 : Int32)) % (14 : Int32)) else ((p0 &&& (2147483647 : Int32)) % (14 : Int32)))), .val (.int p2), .val (.int (if (p4 &&& (2 : Int32)) = (0 : Int32) then p3 else p2)), .val (.int ((XT.ushr p4 (2 : Int32)) &&& (255 : Int32)).toUInt32.toUInt16.toUInt32.toInt32), .val (.int ((XT.ushr p4 (10 : Int32)) &&& (255 : Int32)).toUInt32.toUInt16.toUInt32.toInt32), .val (.ref b1), .val (.ref b5), .val (.ref ws9), .val (.ref ws10), .val (.ref b11), .val (.ref b14), .val (.int (if ((p0 &&& (2147483647 : Int32)) % (14 : Int32)) = (if (p4 &&& (1 : Int32)) = (0 : Int32) then ((p1 &&& (2147483647 : Int32)) % (14 : Int32)) else ((p0 &&& (2147483647 : Int32)) % (14 : Int32))) then (if p2 = (if (p4 &&& (2 : Int32)) = (0 : Int32) then p3 else p2) then (1 : Int32) else (0 : Int32)) else (0 : Int32)))] [(.ref b14), (.ref b11)])) rfl (by rw [hml]; rfl) (Steps.refl _) (argsL := [(.ref b14)]) (rest := []) (lenOf pd__Lcom_example_kind4_kind4_model_Domain__Z rfl) rfl (by show 2 * 0 + _ ≤ _; exact Nat.le_of_eq rfl) (hb hby at_199) (fun _ _ => ⟨rfl, rfl, (by decide : 8 + 0 ≤ _), (by decide : 22 + 0 ≤ _)⟩)
  dsimp only [Pt.U, Pt.locs, Pt.cells, Pt.slots] at X17 l17 y17 z17 st17 hQ17
  subst l17 y17 z17
  obtain ⟨hv17, N17q, e17⟩ := hQ17
  obtain rfl := hv17.trans (show _ = some (.int (own_same (wf (own_ix ((p0 &&& (2147483647 : Int32)) % (14 : Int32)))) (wf (own_ix (if (p4 &&& (1 : Int32)) = (0 : Int32) then ((p1 &&& (2147483647 : Int32)) % (14 : Int32)) else ((p0 &&& (2147483647 : Int32)) % (14 : Int32))))) p2 (if (p4 &&& (2 : Int32)) = (0 : Int32) then p3 else p2))) from rfl)
  have N17 := Fr.app N16 N17q
  refine OG.trans st17 ?_
  show OG _ _ _ _ _ _ _ (T17.setTop (mkF m 202 #[.val (.int p0), .val (.int p1), .val (.int p2), .val (.int p3), .val (.int p4), .val (.int p5), .val (.int ((p0 &&& (2147483647 : Int32)) % (14 : Int32))), .val (.int (if (p4 &&& (1 : Int32)) = (0 : Int32) then ((p1 &&& (2147483647 : Int32)) % (14 : Int32)) else ((p0 &&& (2147483647 : Int32)) % (14 : Int32)))), .val (.int p2), .val (.int (if (p4 &&& (2 : Int32)) = (0 : Int32) then p3 else p2)), .val (.int ((XT.ushr p4 (2 : Int32)) &&& (255 : Int32)).toUInt32.toUInt16.toUInt32.toInt32), .val (.int ((XT.ushr p4 (10 : Int32)) &&& (255 : Int32)).toUInt32.toUInt16.toUInt32.toInt32), .val (.ref b1), .val (.ref b5), .val (.ref ws9), .val (.ref ws10), .val (.ref b11), .val (.ref b14), .val (.int (if ((p0 &&& (2147483647 : Int32)) % (14 : Int32)) = (if (p4 &&& (1 : Int32)) = (0 : Int32) then ((p1 &&& (2147483647 : Int32)) % (14 : Int32)) else ((p0 &&& (2147483647 : Int32)) % (14 : Int32))) then (if p2 = (if (p4 &&& (2 : Int32)) = (0 : Int32) then p3 else p2) then (1 : Int32) else (0 : Int32)) else (0 : Int32)))] [(.int (own_same (wf (own_ix ((p0 &&& (2147483647 : Int32)) % (14 : Int32)))) (wf (own_ix (if (p4 &&& (1 : Int32)) = (0 : Int32) then ((p1 &&& (2147483647 : Int32)) % (14 : Int32)) else ((p0 &&& (2147483647 : Int32)) % (14 : Int32))))) p2 (if (p4 &&& (2 : Int32)) = (0 : Int32) then p3 else p2)))]))
  refine OG.of (A := T17.setTop (mkF m 211 #[.val (.int p0), .val (.int p1), .val (.int p2), .val (.int p3), .val (.int p4), .val (.int p5), .val (.int ((p0 &&& (2147483647 : Int32)) % (14 : Int32))), .val (.int (if (p4 &&& (1 : Int32)) = (0 : Int32) then ((p1 &&& (2147483647 : Int32)) % (14 : Int32)) else ((p0 &&& (2147483647 : Int32)) % (14 : Int32)))), .val (.int p2), .val (.int (if (p4 &&& (2 : Int32)) = (0 : Int32) then p3 else p2)), .val (.int ((XT.ushr p4 (2 : Int32)) &&& (255 : Int32)).toUInt32.toUInt16.toUInt32.toInt32), .val (.int ((XT.ushr p4 (10 : Int32)) &&& (255 : Int32)).toUInt32.toUInt16.toUInt32.toInt32), .val (.ref b1), .val (.ref b5), .val (.ref ws9), .val (.ref ws10), .val (.ref b11), .val (.ref b14), .val (.int (if ((p0 &&& (2147483647 : Int32)) % (14 : Int32)) = (if (p4 &&& (1 : Int32)) = (0 : Int32) then ((p1 &&& (2147483647 : Int32)) % (14 : Int32)) else ((p0 &&& (2147483647 : Int32)) % (14 : Int32))) then (if p2 = (if (p4 &&& (2 : Int32)) = (0 : Int32) then p3 else p2) then (1 : Int32) else (0 : Int32)) else (0 : Int32)))] [(.ref b11), (.ref b14)])) (fun oT oK => ?_) ?_
  · show Steps p.tables e below (T17.setTop (mkF m 202 #[.val (.int p0), .val (.int p1), .val (.int p2), .val (.int p3), .val (.int p4), .val (.int p5), .val (.int ((p0 &&& (2147483647 : Int32)) % (14 : Int32))), .val (.int (if (p4 &&& (1 : Int32)) = (0 : Int32) then ((p1 &&& (2147483647 : Int32)) % (14 : Int32)) else ((p0 &&& (2147483647 : Int32)) % (14 : Int32)))), .val (.int p2), .val (.int (if (p4 &&& (2 : Int32)) = (0 : Int32) then p3 else p2)), .val (.int ((XT.ushr p4 (2 : Int32)) &&& (255 : Int32)).toUInt32.toUInt16.toUInt32.toInt32), .val (.int ((XT.ushr p4 (10 : Int32)) &&& (255 : Int32)).toUInt32.toUInt16.toUInt32.toInt32), .val (.ref b1), .val (.ref b5), .val (.ref ws9), .val (.ref ws10), .val (.ref b11), .val (.ref b14), .val (.int (if ((p0 &&& (2147483647 : Int32)) % (14 : Int32)) = (if (p4 &&& (1 : Int32)) = (0 : Int32) then ((p1 &&& (2147483647 : Int32)) % (14 : Int32)) else ((p0 &&& (2147483647 : Int32)) % (14 : Int32))) then (if p2 = (if (p4 &&& (2 : Int32)) = (0 : Int32) then p3 else p2) then (1 : Int32) else (0 : Int32)) else (0 : Int32)))] [(.int (own_same (wf (own_ix ((p0 &&& (2147483647 : Int32)) % (14 : Int32)))) (wf (own_ix (if (p4 &&& (1 : Int32)) = (0 : Int32) then ((p1 &&& (2147483647 : Int32)) % (14 : Int32)) else ((p0 &&& (2147483647 : Int32)) % (14 : Int32))))) p2 (if (p4 &&& (2 : Int32)) = (0 : Int32) then p3 else p2)))])) oT
    refine XS.iload X17.here hx rfl (hb hby at_202) rfl  ?_
    show Steps p.tables e below (T17.setTop (mkF m 204 #[.val (.int p0), .val (.int p1), .val (.int p2), .val (.int p3), .val (.int p4), .val (.int p5), .val (.int ((p0 &&& (2147483647 : Int32)) % (14 : Int32))), .val (.int (if (p4 &&& (1 : Int32)) = (0 : Int32) then ((p1 &&& (2147483647 : Int32)) % (14 : Int32)) else ((p0 &&& (2147483647 : Int32)) % (14 : Int32)))), .val (.int p2), .val (.int (if (p4 &&& (2 : Int32)) = (0 : Int32) then p3 else p2)), .val (.int ((XT.ushr p4 (2 : Int32)) &&& (255 : Int32)).toUInt32.toUInt16.toUInt32.toInt32), .val (.int ((XT.ushr p4 (10 : Int32)) &&& (255 : Int32)).toUInt32.toUInt16.toUInt32.toInt32), .val (.ref b1), .val (.ref b5), .val (.ref ws9), .val (.ref ws10), .val (.ref b11), .val (.ref b14), .val (.int (if ((p0 &&& (2147483647 : Int32)) % (14 : Int32)) = (if (p4 &&& (1 : Int32)) = (0 : Int32) then ((p1 &&& (2147483647 : Int32)) % (14 : Int32)) else ((p0 &&& (2147483647 : Int32)) % (14 : Int32))) then (if p2 = (if (p4 &&& (2 : Int32)) = (0 : Int32) then p3 else p2) then (1 : Int32) else (0 : Int32)) else (0 : Int32)))] [(.int (if ((p0 &&& (2147483647 : Int32)) % (14 : Int32)) = (if (p4 &&& (1 : Int32)) = (0 : Int32) then ((p1 &&& (2147483647 : Int32)) % (14 : Int32)) else ((p0 &&& (2147483647 : Int32)) % (14 : Int32))) then (if p2 = (if (p4 &&& (2 : Int32)) = (0 : Int32) then p3 else p2) then (1 : Int32) else (0 : Int32)) else (0 : Int32))), (.int (own_same (wf (own_ix ((p0 &&& (2147483647 : Int32)) % (14 : Int32)))) (wf (own_ix (if (p4 &&& (1 : Int32)) = (0 : Int32) then ((p1 &&& (2147483647 : Int32)) % (14 : Int32)) else ((p0 &&& (2147483647 : Int32)) % (14 : Int32))))) p2 (if (p4 &&& (2 : Int32)) = (0 : Int32) then p3 else p2)))])) _
    refine XS.icmpNo X17.here hx rfl (hb hby at_204) rfl (XT.ii_ne_f (own_law1 hOrd p0 p1 p2 p3 p4)) ?_
    show Steps p.tables e below (T17.setTop (mkF m 207 #[.val (.int p0), .val (.int p1), .val (.int p2), .val (.int p3), .val (.int p4), .val (.int p5), .val (.int ((p0 &&& (2147483647 : Int32)) % (14 : Int32))), .val (.int (if (p4 &&& (1 : Int32)) = (0 : Int32) then ((p1 &&& (2147483647 : Int32)) % (14 : Int32)) else ((p0 &&& (2147483647 : Int32)) % (14 : Int32)))), .val (.int p2), .val (.int (if (p4 &&& (2 : Int32)) = (0 : Int32) then p3 else p2)), .val (.int ((XT.ushr p4 (2 : Int32)) &&& (255 : Int32)).toUInt32.toUInt16.toUInt32.toInt32), .val (.int ((XT.ushr p4 (10 : Int32)) &&& (255 : Int32)).toUInt32.toUInt16.toUInt32.toInt32), .val (.ref b1), .val (.ref b5), .val (.ref ws9), .val (.ref ws10), .val (.ref b11), .val (.ref b14), .val (.int (if ((p0 &&& (2147483647 : Int32)) % (14 : Int32)) = (if (p4 &&& (1 : Int32)) = (0 : Int32) then ((p1 &&& (2147483647 : Int32)) % (14 : Int32)) else ((p0 &&& (2147483647 : Int32)) % (14 : Int32))) then (if p2 = (if (p4 &&& (2 : Int32)) = (0 : Int32) then p3 else p2) then (1 : Int32) else (0 : Int32)) else (0 : Int32)))] [])) _
    refine XS.aload X17.here hx rfl (hb hby at_207) rfl rfl  ?_
    show Steps p.tables e below (T17.setTop (mkF m 209 #[.val (.int p0), .val (.int p1), .val (.int p2), .val (.int p3), .val (.int p4), .val (.int p5), .val (.int ((p0 &&& (2147483647 : Int32)) % (14 : Int32))), .val (.int (if (p4 &&& (1 : Int32)) = (0 : Int32) then ((p1 &&& (2147483647 : Int32)) % (14 : Int32)) else ((p0 &&& (2147483647 : Int32)) % (14 : Int32)))), .val (.int p2), .val (.int (if (p4 &&& (2 : Int32)) = (0 : Int32) then p3 else p2)), .val (.int ((XT.ushr p4 (2 : Int32)) &&& (255 : Int32)).toUInt32.toUInt16.toUInt32.toInt32), .val (.int ((XT.ushr p4 (10 : Int32)) &&& (255 : Int32)).toUInt32.toUInt16.toUInt32.toInt32), .val (.ref b1), .val (.ref b5), .val (.ref ws9), .val (.ref ws10), .val (.ref b11), .val (.ref b14), .val (.int (if ((p0 &&& (2147483647 : Int32)) % (14 : Int32)) = (if (p4 &&& (1 : Int32)) = (0 : Int32) then ((p1 &&& (2147483647 : Int32)) % (14 : Int32)) else ((p0 &&& (2147483647 : Int32)) % (14 : Int32))) then (if p2 = (if (p4 &&& (2 : Int32)) = (0 : Int32) then p3 else p2) then (1 : Int32) else (0 : Int32)) else (0 : Int32)))] [(.ref b14)])) _
    refine XS.aload X17.here hx rfl (hb hby at_209) rfl rfl  ?_
    exact oK
  show OG _ _ _ _ _ _ _ (T17.setTop (mkF m 211 #[.val (.int p0), .val (.int p1), .val (.int p2), .val (.int p3), .val (.int p4), .val (.int p5), .val (.int ((p0 &&& (2147483647 : Int32)) % (14 : Int32))), .val (.int (if (p4 &&& (1 : Int32)) = (0 : Int32) then ((p1 &&& (2147483647 : Int32)) % (14 : Int32)) else ((p0 &&& (2147483647 : Int32)) % (14 : Int32)))), .val (.int p2), .val (.int (if (p4 &&& (2 : Int32)) = (0 : Int32) then p3 else p2)), .val (.int ((XT.ushr p4 (2 : Int32)) &&& (255 : Int32)).toUInt32.toUInt16.toUInt32.toInt32), .val (.int ((XT.ushr p4 (10 : Int32)) &&& (255 : Int32)).toUInt32.toUInt16.toUInt32.toInt32), .val (.ref b1), .val (.ref b5), .val (.ref ws9), .val (.ref ws10), .val (.ref b11), .val (.ref b14), .val (.int (if ((p0 &&& (2147483647 : Int32)) % (14 : Int32)) = (if (p4 &&& (1 : Int32)) = (0 : Int32) then ((p1 &&& (2147483647 : Int32)) % (14 : Int32)) else ((p0 &&& (2147483647 : Int32)) % (14 : Int32))) then (if p2 = (if (p4 &&& (2 : Int32)) = (0 : Int32) then p3 else p2) then (1 : Int32) else (0 : Int32)) else (0 : Int32)))] [(.ref b11), (.ref b14)]))
  obtain ⟨cq18, kq18, q18a, q18b, q18c⟩ := isOf hZ e17 (f108)
  obtain ⟨_, _, ⟨T18, L18, k18, n18⟩, -, X18, ⟨Lc18, hQ18, l18, y18, z18⟩, st18⟩ := X17.virtualBack hx (y := (⟨"com/example/kind4/kind4/model/Domain", "sameType", "(Lcom/example/kind4/kind4/model/Domain;)Z"⟩ : MethodName)) (z := (⟨"com/example/kind4/kind4/model/Domain", "sameType", "(Lcom/example/kind4/kind4/model/Domain;)Z"⟩ : MethodName)) hown (mvT hZ (hw _ (List.mem_of_getElem? (i := 68) rfl))) (mvT hZ (hw _ (List.mem_of_getElem? (i := 69) rfl))) (notFace_of_selects (args := #[]) (mvT hZ (hw _ (List.mem_of_getElem? (i := 71) rfl)))) (mvT hZ (hw _ (List.mem_of_getElem? (i := 71) rfl))) (mvT hZ (hw _ (List.mem_of_getElem? (i := 70) rfl))) (by decide) (backOf (W := 0) (rmT l Z a0 hw [] b14 b11 (wf (own_ix (if (p4 &&& (1 : Int32)) = (0 : Int32) then ((p1 &&& (2147483647 : Int32)) % (14 : Int32)) else ((p0 &&& (2147483647 : Int32)) % (14 : Int32))))) (wf (own_ix ((p0 &&& (2147483647 : Int32)) % (14 : Int32)))) (if (p4 &&& (2 : Int32)) = (0 : Int32) then p3 else p2) p2 T16.heap n0 (Z16) f110 f111 f126 f127) hZ (hw _ (List.mem_of_getElem? (i := 72) rfl)) (hw _ (List.mem_of_getElem? (i := 40) rfl)) (by decide) (by decide)) q18a q18c (g := (mkF m 211 #[.val (.int p0), .val (.int p1), .val (.int p2), .val (.int p3), .val (.int p4), .val (.int p5), .val (.int ((p0 &&& (2147483647 : Int32)) % (14 : Int32))), .val (.int (if (p4 &&& (1 : Int32)) = (0 : Int32) then ((p1 &&& (2147483647 : Int32)) % (14 : Int32)) else ((p0 &&& (2147483647 : Int32)) % (14 : Int32)))), .val (.int p2), .val (.int (if (p4 &&& (2 : Int32)) = (0 : Int32) then p3 else p2)), .val (.int ((XT.ushr p4 (2 : Int32)) &&& (255 : Int32)).toUInt32.toUInt16.toUInt32.toInt32), .val (.int ((XT.ushr p4 (10 : Int32)) &&& (255 : Int32)).toUInt32.toUInt16.toUInt32.toInt32), .val (.ref b1), .val (.ref b5), .val (.ref ws9), .val (.ref ws10), .val (.ref b11), .val (.ref b14), .val (.int (if ((p0 &&& (2147483647 : Int32)) % (14 : Int32)) = (if (p4 &&& (1 : Int32)) = (0 : Int32) then ((p1 &&& (2147483647 : Int32)) % (14 : Int32)) else ((p0 &&& (2147483647 : Int32)) % (14 : Int32))) then (if p2 = (if (p4 &&& (2 : Int32)) = (0 : Int32) then p3 else p2) then (1 : Int32) else (0 : Int32)) else (0 : Int32)))] [(.ref b11), (.ref b14)])) rfl (by rw [hml]; rfl) (Steps.refl _) (argsL := [(.ref b11)]) (rest := []) (lenOf pd__Lcom_example_kind4_kind4_model_Domain__Z rfl) rfl (by show 2 * 0 + _ ≤ _; exact Nat.le_of_eq rfl) (hb hby at_211) (fun _ _ => ⟨rfl, e17, (by decide : 8 + 0 ≤ _), (by decide : 22 + 0 ≤ _)⟩)
  dsimp only [Pt.U, Pt.locs, Pt.cells, Pt.slots] at X18 l18 y18 z18 st18 hQ18
  subst l18 y18 z18
  obtain ⟨hv18, N18q, e18⟩ := hQ18
  obtain rfl := hv18.trans (show _ = some (.int (own_same (wf (own_ix (if (p4 &&& (1 : Int32)) = (0 : Int32) then ((p1 &&& (2147483647 : Int32)) % (14 : Int32)) else ((p0 &&& (2147483647 : Int32)) % (14 : Int32))))) (wf (own_ix ((p0 &&& (2147483647 : Int32)) % (14 : Int32)))) (if (p4 &&& (2 : Int32)) = (0 : Int32) then p3 else p2) p2)) from rfl)
  have N18 := Fr.app N17 N18q
  refine OG.trans st18 ?_
  show OG _ _ _ _ _ _ _ (T18.setTop (mkF m 214 #[.val (.int p0), .val (.int p1), .val (.int p2), .val (.int p3), .val (.int p4), .val (.int p5), .val (.int ((p0 &&& (2147483647 : Int32)) % (14 : Int32))), .val (.int (if (p4 &&& (1 : Int32)) = (0 : Int32) then ((p1 &&& (2147483647 : Int32)) % (14 : Int32)) else ((p0 &&& (2147483647 : Int32)) % (14 : Int32)))), .val (.int p2), .val (.int (if (p4 &&& (2 : Int32)) = (0 : Int32) then p3 else p2)), .val (.int ((XT.ushr p4 (2 : Int32)) &&& (255 : Int32)).toUInt32.toUInt16.toUInt32.toInt32), .val (.int ((XT.ushr p4 (10 : Int32)) &&& (255 : Int32)).toUInt32.toUInt16.toUInt32.toInt32), .val (.ref b1), .val (.ref b5), .val (.ref ws9), .val (.ref ws10), .val (.ref b11), .val (.ref b14), .val (.int (if ((p0 &&& (2147483647 : Int32)) % (14 : Int32)) = (if (p4 &&& (1 : Int32)) = (0 : Int32) then ((p1 &&& (2147483647 : Int32)) % (14 : Int32)) else ((p0 &&& (2147483647 : Int32)) % (14 : Int32))) then (if p2 = (if (p4 &&& (2 : Int32)) = (0 : Int32) then p3 else p2) then (1 : Int32) else (0 : Int32)) else (0 : Int32)))] [(.int (own_same (wf (own_ix (if (p4 &&& (1 : Int32)) = (0 : Int32) then ((p1 &&& (2147483647 : Int32)) % (14 : Int32)) else ((p0 &&& (2147483647 : Int32)) % (14 : Int32))))) (wf (own_ix ((p0 &&& (2147483647 : Int32)) % (14 : Int32)))) (if (p4 &&& (2 : Int32)) = (0 : Int32) then p3 else p2) p2))]))
  refine OG.of (A := T18.setTop (mkF m 224 #[.val (.int p0), .val (.int p1), .val (.int p2), .val (.int p3), .val (.int p4), .val (.int p5), .val (.int ((p0 &&& (2147483647 : Int32)) % (14 : Int32))), .val (.int (if (p4 &&& (1 : Int32)) = (0 : Int32) then ((p1 &&& (2147483647 : Int32)) % (14 : Int32)) else ((p0 &&& (2147483647 : Int32)) % (14 : Int32)))), .val (.int p2), .val (.int (if (p4 &&& (2 : Int32)) = (0 : Int32) then p3 else p2)), .val (.int ((XT.ushr p4 (2 : Int32)) &&& (255 : Int32)).toUInt32.toUInt16.toUInt32.toInt32), .val (.int ((XT.ushr p4 (10 : Int32)) &&& (255 : Int32)).toUInt32.toUInt16.toUInt32.toInt32), .val (.ref b1), .val (.ref b5), .val (.ref ws9), .val (.ref ws10), .val (.ref b11), .val (.ref b14), .val (.int (if ((p0 &&& (2147483647 : Int32)) % (14 : Int32)) = (if (p4 &&& (1 : Int32)) = (0 : Int32) then ((p1 &&& (2147483647 : Int32)) % (14 : Int32)) else ((p0 &&& (2147483647 : Int32)) % (14 : Int32))) then (if p2 = (if (p4 &&& (2 : Int32)) = (0 : Int32) then p3 else p2) then (1 : Int32) else (0 : Int32)) else (0 : Int32)))] [(.int (1 : Int32))])) (fun oT oK => ?_) ?_
  · show Steps p.tables e below (T18.setTop (mkF m 214 #[.val (.int p0), .val (.int p1), .val (.int p2), .val (.int p3), .val (.int p4), .val (.int p5), .val (.int ((p0 &&& (2147483647 : Int32)) % (14 : Int32))), .val (.int (if (p4 &&& (1 : Int32)) = (0 : Int32) then ((p1 &&& (2147483647 : Int32)) % (14 : Int32)) else ((p0 &&& (2147483647 : Int32)) % (14 : Int32)))), .val (.int p2), .val (.int (if (p4 &&& (2 : Int32)) = (0 : Int32) then p3 else p2)), .val (.int ((XT.ushr p4 (2 : Int32)) &&& (255 : Int32)).toUInt32.toUInt16.toUInt32.toInt32), .val (.int ((XT.ushr p4 (10 : Int32)) &&& (255 : Int32)).toUInt32.toUInt16.toUInt32.toInt32), .val (.ref b1), .val (.ref b5), .val (.ref ws9), .val (.ref ws10), .val (.ref b11), .val (.ref b14), .val (.int (if ((p0 &&& (2147483647 : Int32)) % (14 : Int32)) = (if (p4 &&& (1 : Int32)) = (0 : Int32) then ((p1 &&& (2147483647 : Int32)) % (14 : Int32)) else ((p0 &&& (2147483647 : Int32)) % (14 : Int32))) then (if p2 = (if (p4 &&& (2 : Int32)) = (0 : Int32) then p3 else p2) then (1 : Int32) else (0 : Int32)) else (0 : Int32)))] [(.int (own_same (wf (own_ix (if (p4 &&& (1 : Int32)) = (0 : Int32) then ((p1 &&& (2147483647 : Int32)) % (14 : Int32)) else ((p0 &&& (2147483647 : Int32)) % (14 : Int32))))) (wf (own_ix ((p0 &&& (2147483647 : Int32)) % (14 : Int32)))) (if (p4 &&& (2 : Int32)) = (0 : Int32) then p3 else p2) p2))])) oT
    refine XS.iload X18.here hx rfl (hb hby at_214) rfl  ?_
    show Steps p.tables e below (T18.setTop (mkF m 216 #[.val (.int p0), .val (.int p1), .val (.int p2), .val (.int p3), .val (.int p4), .val (.int p5), .val (.int ((p0 &&& (2147483647 : Int32)) % (14 : Int32))), .val (.int (if (p4 &&& (1 : Int32)) = (0 : Int32) then ((p1 &&& (2147483647 : Int32)) % (14 : Int32)) else ((p0 &&& (2147483647 : Int32)) % (14 : Int32)))), .val (.int p2), .val (.int (if (p4 &&& (2 : Int32)) = (0 : Int32) then p3 else p2)), .val (.int ((XT.ushr p4 (2 : Int32)) &&& (255 : Int32)).toUInt32.toUInt16.toUInt32.toInt32), .val (.int ((XT.ushr p4 (10 : Int32)) &&& (255 : Int32)).toUInt32.toUInt16.toUInt32.toInt32), .val (.ref b1), .val (.ref b5), .val (.ref ws9), .val (.ref ws10), .val (.ref b11), .val (.ref b14), .val (.int (if ((p0 &&& (2147483647 : Int32)) % (14 : Int32)) = (if (p4 &&& (1 : Int32)) = (0 : Int32) then ((p1 &&& (2147483647 : Int32)) % (14 : Int32)) else ((p0 &&& (2147483647 : Int32)) % (14 : Int32))) then (if p2 = (if (p4 &&& (2 : Int32)) = (0 : Int32) then p3 else p2) then (1 : Int32) else (0 : Int32)) else (0 : Int32)))] [(.int (if ((p0 &&& (2147483647 : Int32)) % (14 : Int32)) = (if (p4 &&& (1 : Int32)) = (0 : Int32) then ((p1 &&& (2147483647 : Int32)) % (14 : Int32)) else ((p0 &&& (2147483647 : Int32)) % (14 : Int32))) then (if p2 = (if (p4 &&& (2 : Int32)) = (0 : Int32) then p3 else p2) then (1 : Int32) else (0 : Int32)) else (0 : Int32))), (.int (own_same (wf (own_ix (if (p4 &&& (1 : Int32)) = (0 : Int32) then ((p1 &&& (2147483647 : Int32)) % (14 : Int32)) else ((p0 &&& (2147483647 : Int32)) % (14 : Int32))))) (wf (own_ix ((p0 &&& (2147483647 : Int32)) % (14 : Int32)))) (if (p4 &&& (2 : Int32)) = (0 : Int32) then p3 else p2) p2))])) _
    refine XS.icmpNo X18.here hx rfl (hb hby at_216) rfl (XT.ii_ne_f (own_law2 hOrd p0 p1 p2 p3 p4)) ?_
    show Steps p.tables e below (T18.setTop (mkF m 219 #[.val (.int p0), .val (.int p1), .val (.int p2), .val (.int p3), .val (.int p4), .val (.int p5), .val (.int ((p0 &&& (2147483647 : Int32)) % (14 : Int32))), .val (.int (if (p4 &&& (1 : Int32)) = (0 : Int32) then ((p1 &&& (2147483647 : Int32)) % (14 : Int32)) else ((p0 &&& (2147483647 : Int32)) % (14 : Int32)))), .val (.int p2), .val (.int (if (p4 &&& (2 : Int32)) = (0 : Int32) then p3 else p2)), .val (.int ((XT.ushr p4 (2 : Int32)) &&& (255 : Int32)).toUInt32.toUInt16.toUInt32.toInt32), .val (.int ((XT.ushr p4 (10 : Int32)) &&& (255 : Int32)).toUInt32.toUInt16.toUInt32.toInt32), .val (.ref b1), .val (.ref b5), .val (.ref ws9), .val (.ref ws10), .val (.ref b11), .val (.ref b14), .val (.int (if ((p0 &&& (2147483647 : Int32)) % (14 : Int32)) = (if (p4 &&& (1 : Int32)) = (0 : Int32) then ((p1 &&& (2147483647 : Int32)) % (14 : Int32)) else ((p0 &&& (2147483647 : Int32)) % (14 : Int32))) then (if p2 = (if (p4 &&& (2 : Int32)) = (0 : Int32) then p3 else p2) then (1 : Int32) else (0 : Int32)) else (0 : Int32)))] [])) _
    refine XS.iconst X18.here hx rfl (hb hby at_219) ?_
    show Steps p.tables e below (T18.setTop (mkF m 220 #[.val (.int p0), .val (.int p1), .val (.int p2), .val (.int p3), .val (.int p4), .val (.int p5), .val (.int ((p0 &&& (2147483647 : Int32)) % (14 : Int32))), .val (.int (if (p4 &&& (1 : Int32)) = (0 : Int32) then ((p1 &&& (2147483647 : Int32)) % (14 : Int32)) else ((p0 &&& (2147483647 : Int32)) % (14 : Int32)))), .val (.int p2), .val (.int (if (p4 &&& (2 : Int32)) = (0 : Int32) then p3 else p2)), .val (.int ((XT.ushr p4 (2 : Int32)) &&& (255 : Int32)).toUInt32.toUInt16.toUInt32.toInt32), .val (.int ((XT.ushr p4 (10 : Int32)) &&& (255 : Int32)).toUInt32.toUInt16.toUInt32.toInt32), .val (.ref b1), .val (.ref b5), .val (.ref ws9), .val (.ref ws10), .val (.ref b11), .val (.ref b14), .val (.int (if ((p0 &&& (2147483647 : Int32)) % (14 : Int32)) = (if (p4 &&& (1 : Int32)) = (0 : Int32) then ((p1 &&& (2147483647 : Int32)) % (14 : Int32)) else ((p0 &&& (2147483647 : Int32)) % (14 : Int32))) then (if p2 = (if (p4 &&& (2 : Int32)) = (0 : Int32) then p3 else p2) then (1 : Int32) else (0 : Int32)) else (0 : Int32)))] [(.int (1 : Int32))])) _
    refine XS.goto X18.here hx rfl (pc0 := 220) (pc' := 224) rfl (hb hby at_220) (by decide) (by decide) ?_
    exact oK
  show OG _ _ _ _ _ _ _ (T18.setTop (mkF m 224 #[.val (.int p0), .val (.int p1), .val (.int p2), .val (.int p3), .val (.int p4), .val (.int p5), .val (.int ((p0 &&& (2147483647 : Int32)) % (14 : Int32))), .val (.int (if (p4 &&& (1 : Int32)) = (0 : Int32) then ((p1 &&& (2147483647 : Int32)) % (14 : Int32)) else ((p0 &&& (2147483647 : Int32)) % (14 : Int32)))), .val (.int p2), .val (.int (if (p4 &&& (2 : Int32)) = (0 : Int32) then p3 else p2)), .val (.int ((XT.ushr p4 (2 : Int32)) &&& (255 : Int32)).toUInt32.toUInt16.toUInt32.toInt32), .val (.int ((XT.ushr p4 (10 : Int32)) &&& (255 : Int32)).toUInt32.toUInt16.toUInt32.toInt32), .val (.ref b1), .val (.ref b5), .val (.ref ws9), .val (.ref ws10), .val (.ref b11), .val (.ref b14), .val (.int (if ((p0 &&& (2147483647 : Int32)) % (14 : Int32)) = (if (p4 &&& (1 : Int32)) = (0 : Int32) then ((p1 &&& (2147483647 : Int32)) % (14 : Int32)) else ((p0 &&& (2147483647 : Int32)) % (14 : Int32))) then (if p2 = (if (p4 &&& (2 : Int32)) = (0 : Int32) then p3 else p2) then (1 : Int32) else (0 : Int32)) else (0 : Int32)))] [(.int (1 : Int32))]))
  refine OG.retN X18 hx (t := .boolean) Bd.returns (by simp) (hb hby at_224) hlk ?_ (by decide) (by decide)
  try rw [e18]
  exact ⟨rfl, N18⟩
set_option maxRecDepth 65536 in
set_option maxHeartbeats 40000000 in
theorem comes_1 {Post : Tables → Env → Array Value → State → Outcome → State → Prop} (hpost : ∀ tb e args s v u, (limb_1_1.after args s (.returned v) u = true ∧ limb_1_2.after args s (.returned v) u = true ∧ True) → FrameEnd s (.returned v) u (Jvm.fieldLocs frame_1_writes args s ++ Jvm.arrayLocs frame_1_arrays args s ++ Jvm.staticLocs frame_1_statics s) 24 128 → Post tb e args s (.returned v) u) :
    ArmFor flags0 classFile x code maxLocals ret World_1 tables_1 room_1 Calls_1 rest_1 Pre_1 Post := by
  intro l hfl _ _ p e ha hc hk s m args below hf hA hF happ hP
  obtain ⟨hcalls, hrest, hpre⟩ := hP
  obtain ⟨-, -, -, hnamed, -, -, -, hat⟩ := (Spec.applies_iff hf).mp happ
  obtain ⟨hg, hn⟩ := and_e (Cond.before_iff.mp (show (Jvm.Cond.and given_1 narrow_1).before args s = true from hpre))
  obtain ⟨g1, g2⟩ := and_e hg
  obtain ⟨g3, g4⟩ := and_e g2
  obtain ⟨g5, g6⟩ := and_e g4
  obtain ⟨g7, g8⟩ := and_e g6
  obtain ⟨g9, g10⟩ := and_e g8
  obtain ⟨g11, g12⟩ := and_e g10
  obtain ⟨w0, w1, w2, w3, w4, w5, rfl⟩ : ∃ w0 w1 w2 w3 w4 w5 : Value, args = #[w0, w1, w2, w3, w4, w5] := by
    have hs : args.size = 6 := by simpa [Cond.value, given_1] using g1
    obtain ⟨L⟩ := args
    match L, hs with
    | [w0, w1, w2, w3, w4, w5], _ => exact ⟨w0, w1, w2, w3, w4, w5, rfl⟩
  have hw := fun d (hd : d ∈ tables_1) => atoms_spec (ws := Jvm.Cond.code x code maxLocals ret :: tables_1) hat d (List.mem_cons_of_mem _ hd)
  have hfit : Fit s := fun {y c} hc i hi => by
    obtain ⟨ha, rfl⟩ := Array.getElem?_eq_some_iff.mp hc
    have q := List.all_eq_true.mp ((Array.all_eq_true_iff_forall_mem.mp hF) _ (Array.getElem_mem ha)) i (List.mem_range.mpr hi)
    simpa [Array.getElem?_eq_getElem hi] using q
  obtain ⟨hsets, hown0⟩ := atoms_of _ (rest_1_c_eq ▸ (show rest_1_c.before _ s = true from hrest))
  have hr0 := Cond.before_iff.mp hown0
  obtain ⟨i0, ei0⟩ := is_v g3
  obtain rfl : w0 = (.int i0) := Option.some.inj ei0
  obtain ⟨i1, ei1⟩ := is_v g5
  obtain rfl : w1 = (.int i1) := Option.some.inj ei1
  obtain ⟨i2, ei2⟩ := is_v g7
  obtain rfl : w2 = (.int i2) := Option.some.inj ei2
  obtain ⟨i3, ei3⟩ := is_v g9
  obtain rfl : w3 = (.int i3) := Option.some.inj ei3
  obtain ⟨i4, ei4⟩ := is_v g11
  obtain rfl : w4 = (.int i4) := Option.some.inj ei4
  obtain ⟨i5, ei5⟩ := is_v g12
  obtain rfl : w5 = (.int i5) := Option.some.inj ei5
  obtain ⟨na1, na2⟩ := and_e hn
  obtain ⟨na3, na4⟩ := and_e na2
  obtain ⟨na5, na6⟩ := and_e na4
  obtain ⟨na7, na8⟩ := and_e na6
  obtain ⟨na9, na10⟩ := and_e na8
  obtain ⟨na11, na12⟩ := and_e na10
  obtain ⟨na13, na14⟩ := and_e na12
  obtain ⟨na15, na16⟩ := and_e na14
  obtain ⟨na17, na18⟩ := and_e na16
  obtain ⟨na19, na20⟩ := and_e na18
  obtain ⟨na21, na22⟩ := and_e na20
  obtain ⟨na23, na24⟩ := and_e na22
  obtain ⟨na25, na26⟩ := and_e na24
  obtain ⟨na27, na28⟩ := and_e na26
  obtain ⟨na29, na30⟩ := and_e na28
  obtain ⟨na31, na32⟩ := and_e na30
  obtain ⟨na33, na34⟩ := and_e na32
  obtain ⟨na35, na36⟩ := and_e na34
  obtain ⟨na37, na38⟩ := and_e na36
  obtain ⟨na39, na40⟩ := and_e na38
  obtain ⟨na41, na42⟩ := and_e na40
  obtain ⟨na43, na44⟩ := and_e na42
  obtain ⟨na45, na46⟩ := and_e na44
  obtain ⟨na47, na48⟩ := and_e na46
  obtain ⟨na49, na50⟩ := and_e na48
  obtain ⟨na51, na52⟩ := and_e na50
  obtain ⟨na53, na54⟩ := and_e na52
  obtain ⟨na55, na56⟩ := and_e na54
  obtain ⟨na57, na58⟩ := and_e na56
  obtain ⟨na59, na60⟩ := and_e na58
  obtain ⟨w_VARCHAR, ev_VARCHAR⟩ := exa_v na1
  have S_VARCHAR := Sta.start ev_VARCHAR (Or.inr ⟨(hw _ (List.mem_of_getElem? (i := 36) rfl)), (hw _ (List.mem_of_getElem? (i := 37) rfl))⟩)
  have E_VARCHAR := Exa.start ev_VARCHAR na1
  obtain ⟨w_STRING, ev_STRING⟩ := exa_v na3
  have S_STRING := Sta.start ev_STRING (Or.inr ⟨(hw _ (List.mem_of_getElem? (i := 45) rfl)), (hw _ (List.mem_of_getElem? (i := 46) rfl))⟩)
  have E_STRING := Exa.start ev_STRING na3
  obtain ⟨w_BOOLEAN, ev_BOOLEAN⟩ := exa_v na5
  have S_BOOLEAN := Sta.start ev_BOOLEAN (Or.inr ⟨(hw _ (List.mem_of_getElem? (i := 45) rfl)), (hw _ (List.mem_of_getElem? (i := 67) rfl))⟩)
  have E_BOOLEAN := Exa.start ev_BOOLEAN na5
  have nv_STRING_ordinal := own_eqI na7
  rw [fld_at ev_STRING] at nv_STRING_ordinal
  have F_STRING_ordinal := Fld.start nv_STRING_ordinal
  have nv_BOOLEAN_ordinal := own_eqI na9
  rw [fld_at ev_BOOLEAN] at nv_BOOLEAN_ordinal
  have F_BOOLEAN_ordinal := Fld.start nv_BOOLEAN_ordinal
  obtain ⟨w_CHAR_Primitive, ev_CHAR_Primitive⟩ := exa_v na11
  have S_CHAR_Primitive := Sta.start ev_CHAR_Primitive (Or.inr ⟨(hw _ (List.mem_of_getElem? (i := 45) rfl)), (hw _ (List.mem_of_getElem? (i := 74) rfl))⟩)
  have E_CHAR_Primitive := Exa.start ev_CHAR_Primitive na11
  obtain ⟨w_INT16, ev_INT16⟩ := exa_v na13
  have S_INT16 := Sta.start ev_INT16 (Or.inr ⟨(hw _ (List.mem_of_getElem? (i := 45) rfl)), (hw _ (List.mem_of_getElem? (i := 76) rfl))⟩)
  have E_INT16 := Exa.start ev_INT16 na13
  have nv_CHAR_Primitive_ordinal := own_eqI na15
  rw [fld_at ev_CHAR_Primitive] at nv_CHAR_Primitive_ordinal
  have F_CHAR_Primitive_ordinal := Fld.start nv_CHAR_Primitive_ordinal
  have nv_INT16_ordinal := own_eqI na17
  rw [fld_at ev_INT16] at nv_INT16_ordinal
  have F_INT16_ordinal := Fld.start nv_INT16_ordinal
  obtain ⟨w_INT8, ev_INT8⟩ := exa_v na19
  have S_INT8 := Sta.start ev_INT8 (Or.inr ⟨(hw _ (List.mem_of_getElem? (i := 45) rfl)), (hw _ (List.mem_of_getElem? (i := 78) rfl))⟩)
  have E_INT8 := Exa.start ev_INT8 na19
  obtain ⟨w_CLOB, ev_CLOB⟩ := exa_v na21
  have S_CLOB := Sta.start ev_CLOB (Or.inr ⟨(hw _ (List.mem_of_getElem? (i := 36) rfl)), (hw _ (List.mem_of_getElem? (i := 80) rfl))⟩)
  have E_CLOB := Exa.start ev_CLOB na21
  obtain ⟨w_CHAR_Storage, ev_CHAR_Storage⟩ := exa_v na23
  have S_CHAR_Storage := Sta.start ev_CHAR_Storage (Or.inr ⟨(hw _ (List.mem_of_getElem? (i := 36) rfl)), (hw _ (List.mem_of_getElem? (i := 82) rfl))⟩)
  have E_CHAR_Storage := Exa.start ev_CHAR_Storage na23
  obtain ⟨w_FLOAT, ev_FLOAT⟩ := exa_v na25
  have S_FLOAT := Sta.start ev_FLOAT (Or.inr ⟨(hw _ (List.mem_of_getElem? (i := 45) rfl)), (hw _ (List.mem_of_getElem? (i := 84) rfl))⟩)
  have E_FLOAT := Exa.start ev_FLOAT na25
  have nv_FLOAT_ordinal := own_eqI na27
  rw [fld_at ev_FLOAT] at nv_FLOAT_ordinal
  have F_FLOAT_ordinal := Fld.start nv_FLOAT_ordinal
  have nv_INT8_ordinal := own_eqI na29
  rw [fld_at ev_INT8] at nv_INT8_ordinal
  have F_INT8_ordinal := Fld.start nv_INT8_ordinal
  obtain ⟨w_MONEY, ev_MONEY⟩ := exa_v na31
  have S_MONEY := Sta.start ev_MONEY (Or.inr ⟨(hw _ (List.mem_of_getElem? (i := 45) rfl)), (hw _ (List.mem_of_getElem? (i := 86) rfl))⟩)
  have E_MONEY := Exa.start ev_MONEY na31
  obtain ⟨w_INT64, ev_INT64⟩ := exa_v na33
  have S_INT64 := Sta.start ev_INT64 (Or.inr ⟨(hw _ (List.mem_of_getElem? (i := 45) rfl)), (hw _ (List.mem_of_getElem? (i := 88) rfl))⟩)
  have E_INT64 := Exa.start ev_INT64 na33
  have nv_INT64_ordinal := own_eqI na35
  rw [fld_at ev_INT64] at nv_INT64_ordinal
  have F_INT64_ordinal := Fld.start nv_INT64_ordinal
  obtain ⟨w_UNBOUNDED_STRING, ev_UNBOUNDED_STRING⟩ := exa_v na37
  have S_UNBOUNDED_STRING := Sta.start ev_UNBOUNDED_STRING (Or.inr ⟨(hw _ (List.mem_of_getElem? (i := 45) rfl)), (hw _ (List.mem_of_getElem? (i := 90) rfl))⟩)
  have E_UNBOUNDED_STRING := Exa.start ev_UNBOUNDED_STRING na37
  have nv_UNBOUNDED_STRING_ordinal := own_eqI na39
  rw [fld_at ev_UNBOUNDED_STRING] at nv_UNBOUNDED_STRING_ordinal
  have F_UNBOUNDED_STRING_ordinal := Fld.start nv_UNBOUNDED_STRING_ordinal
  obtain ⟨w_BLOB, ev_BLOB⟩ := exa_v na41
  have S_BLOB := Sta.start ev_BLOB (Or.inr ⟨(hw _ (List.mem_of_getElem? (i := 45) rfl)), (hw _ (List.mem_of_getElem? (i := 92) rfl))⟩)
  have E_BLOB := Exa.start ev_BLOB na41
  have nv_BLOB_ordinal := own_eqI na43
  rw [fld_at ev_BLOB] at nv_BLOB_ordinal
  have F_BLOB_ordinal := Fld.start nv_BLOB_ordinal
  obtain ⟨w_DATE, ev_DATE⟩ := exa_v na45
  have S_DATE := Sta.start ev_DATE (Or.inr ⟨(hw _ (List.mem_of_getElem? (i := 45) rfl)), (hw _ (List.mem_of_getElem? (i := 94) rfl))⟩)
  have E_DATE := Exa.start ev_DATE na45
  have nv_MONEY_ordinal := own_eqI na47
  rw [fld_at ev_MONEY] at nv_MONEY_ordinal
  have F_MONEY_ordinal := Fld.start nv_MONEY_ordinal
  have nv_DATE_ordinal := own_eqI na49
  rw [fld_at ev_DATE] at nv_DATE_ordinal
  have F_DATE_ordinal := Fld.start nv_DATE_ordinal
  obtain ⟨w_DATETIME, ev_DATETIME⟩ := exa_v na51
  have S_DATETIME := Sta.start ev_DATETIME (Or.inr ⟨(hw _ (List.mem_of_getElem? (i := 45) rfl)), (hw _ (List.mem_of_getElem? (i := 96) rfl))⟩)
  have E_DATETIME := Exa.start ev_DATETIME na51
  have nv_DATETIME_ordinal := own_eqI na53
  rw [fld_at ev_DATETIME] at nv_DATETIME_ordinal
  have F_DATETIME_ordinal := Fld.start nv_DATETIME_ordinal
  obtain ⟨w_DOUBLE, ev_DOUBLE⟩ := exa_v na55
  have S_DOUBLE := Sta.start ev_DOUBLE (Or.inr ⟨(hw _ (List.mem_of_getElem? (i := 45) rfl)), (hw _ (List.mem_of_getElem? (i := 98) rfl))⟩)
  have E_DOUBLE := Exa.start ev_DOUBLE na55
  have nv_DOUBLE_ordinal := own_eqI na57
  rw [fld_at ev_DOUBLE] at nv_DOUBLE_ordinal
  have F_DOUBLE_ordinal := Fld.start nv_DOUBLE_ordinal
  obtain ⟨w_INT32, ev_INT32⟩ := exa_v na59
  have S_INT32 := Sta.start ev_INT32 (Or.inr ⟨(hw _ (List.mem_of_getElem? (i := 45) rfl)), (hw _ (List.mem_of_getElem? (i := 100) rfl))⟩)
  have E_INT32 := Exa.start ev_INT32 na59
  have nv_INT32_ordinal := own_eqI na60
  rw [fld_at ev_INT32] at nv_INT32_ordinal
  have F_INT32_ordinal := Fld.start nv_INT32_ordinal
  have SC0 := hsets _ (List.mem_of_getElem? (i := 1) rfl)
  obtain ⟨zc, evc⟩ := is_v (Cond.before_iff.mp SC0)
  have SC := Sta.start evc (Or.inl (hsets _ (List.mem_of_getElem? (i := 0) rfl)))
  have hzc : ¬ zc = 0 := fun q => by
    have h9 := not_v (Cond.before_iff.mp (hsets _ (List.mem_of_getElem? (i := 2) rfl)))
    have h8 := eq_i (args := #[.int i0, .int i1, .int i2, .int i3, .int i4, .int i5]) (first := s) (o := none) (idx := []) (s := s) evc (Term.int_eval (0 : Int32)) (congrArg Value.int q)
    rw [h8] at h9; cases h9
  obtain ⟨wf, hwf⟩ : ∃ wf : Nat → Addr, wf = fun j => match j with | 0 => w_STRING | 1 => w_UNBOUNDED_STRING | 2 => w_BLOB | 3 => w_BOOLEAN | 4 => w_CHAR_Primitive | 5 => w_DATE | 6 => w_DATETIME | 7 => w_DOUBLE | 8 => w_FLOAT | 9 => w_INT8 | 10 => w_INT16 | 11 => w_INT32 | 12 => w_INT64 | _ => w_MONEY := ⟨_, rfl⟩
  have hOrd : ∀ j, j < 14 → Fld s s.heap (wf j) "java/lang/Enum" "ordinal" "I" (.int (own_ord j)) := fun j hj => by
    subst hwf
    match j, hj with
    | 0, _ => exact F_STRING_ordinal
    | 1, _ => exact F_UNBOUNDED_STRING_ordinal
    | 2, _ => exact F_BLOB_ordinal
    | 3, _ => exact F_BOOLEAN_ordinal
    | 4, _ => exact F_CHAR_Primitive_ordinal
    | 5, _ => exact F_DATE_ordinal
    | 6, _ => exact F_DATETIME_ordinal
    | 7, _ => exact F_DOUBLE_ordinal
    | 8, _ => exact F_FLOAT_ordinal
    | 9, _ => exact F_INT8_ordinal
    | 10, _ => exact F_INT16_ordinal
    | 11, _ => exact F_INT32_ordinal
    | 12, _ => exact F_INT64_ordinal
    | 13, _ => exact F_MONEY_ordinal
  obtain ⟨n, o, h1, h2, h3, _, L, rfl, ⟨rfl, N⟩, hq⟩ := rm0 l s _ hw tables_1 i0 i1 i2 i3 i4 i5 wf zc s.heap s.heap.size (Nat.le_refl _) (Old.start s) (by subst hwf; exact S_STRING) (by subst hwf; exact S_UNBOUNDED_STRING) (by subst hwf; exact S_BLOB) (by subst hwf; exact S_BOOLEAN) (by subst hwf; exact S_CHAR_Primitive) (by subst hwf; exact S_DATE) (by subst hwf; exact S_DATETIME) (by subst hwf; exact S_DOUBLE) (by subst hwf; exact S_FLOAT) (by subst hwf; exact S_INT8) (by subst hwf; exact S_INT16) (by subst hwf; exact S_INT32) (by subst hwf; exact S_INT64) (by subst hwf; exact S_MONEY) ⟨_, S_VARCHAR⟩ ⟨_, S_CHAR_Storage⟩ ⟨_, S_CLOB⟩ SC hzc hOrd p e ha hc hk s m _ below hf ((Spec.applies_iff_loose hf).mp happ).1 ⟨rfl, State.Warmed39.refl s, rfl⟩ trivial
  refine ⟨n, _, h1, h2, h3, hpost _ _ _ _ _ _ ⟨Cond.after_iff.mpr rfl, Cond.after_iff.mpr (eq_i res_at (Term.int_eval (1)) rfl), trivial⟩ ⟨hq.1, hq.2.1, (hq.2.2.sift fun y hy => Or.inr (N y hy)).mono (by decide) (by decide)⟩⟩
theorem main_1_1 : Claimed_1_1 := comes_1 fun _ _ _ _ _ _ h hF => ⟨h.1, hF⟩
theorem main_1_2 : Claimed_1_2 := comes_1 fun _ _ _ _ _ _ h hF => ⟨h.2.1, hF⟩
end Jvm.Pilot.@@N@@
namespace Jvm.Pilot.@@N@@
open Jvm Jvm.ClassFile Sem Op Lib Jvm.Free Jvm.Stand Jvm.Pilot.@@N@@.Jvm.D
/-! MADE BY PROGRAM (witnessworld.py) out of the Statement's table words and the real class files: 24 classes; the members and pool entries that the words name. The judged class is class 1, her method 3. -/
namespace start1
open Jvm.ClassFile
def u (s : String) : CpInfo := .utf8 (stringToUtf16 s)
/-- a pool by its gaps: so many unusable entries, then the entry; so many at the end -/
def gap : Nat → List CpInfo → List CpInfo
  | 0, r => r
  | n + 1, r => .unusable :: gap n r
def poolList (es : List (Nat × CpInfo)) (last : Nat) : List CpInfo := es.foldr (fun e r => gap e.1 (e.2 :: r)) (gap last [])
def pool (es : List (Nat × CpInfo)) (last : Nat) : Array CpInfo := ⟨poolList es last⟩
def fileOf (pool : Array CpInfo) (this : Nat) (attrs : Array Attribute := #[]) (ms : Array MethodInfo := #[]) (fl : Nat := 33) (sup : Nat := 0) (ifs : Array Nat := #[]) (fds : Array FieldInfo := #[]) : ClassFile where
  minorVersion := 0
  majorVersion := 65
  constantPool := pool
  accessFlags := fl
  thisClass := this
  superClass := sup
  interfaces := ifs
  fields := fds
  methods := ms
  attributes := attrs
def plain (name : String) (sup : Option ClassId) : Class where
  name := name
  kind := .ordinary
  loader := none
  accessFlags := 33
  super := sup
  interfaces := #[]
  cf := none
  fields := #[]
  methods := #[]
  instanceTypes := #[]
  staticTypes := #[]
  resolved := #[]
  callSites := []
  init := .initialized
  statics := none
  mirror := none

def pool0 : Array CpInfo := pool [(5, u "<init>"), (0, u "()V"), (1, .class_ 10), (1, u "java/lang/Object")] 113

def k0c0 : Code := { maxStack := 0, maxLocals := 1, code := object_method_1_code, exceptionTable := #[], attributes := #[] }
def k0m0 : Method := { name := "<init>", desc := "()V", sig := { parameters := [], returnType := none }, accessFlags := 1, code := some k0c0 }
/-- java/lang/Object -/
def k0 : Class := { plain "java/lang/Object" none with
  accessFlags := 33
  interfaces := #[]
  cf := some (fileOf pool0 8 #[] #[{ accessFlags := 1, nameIndex := 5, descriptorIndex := 6, attributes := #[] }] 33 0 #[] #[])
  fields := #[]
  methods := #[k0m0]
  instanceTypes := #[]
  staticTypes := #[]
  resolved := Array.replicate 124 none
  statics := none }

def pool1 : Array CpInfo := pool [(2, .class_ 4), (1, u "java/lang/Object"), (0, u "<init>"), (0, u "()V"), (0, .fieldref 8 9), (0, .class_ 10), (0, .nameAndType 11 12), (0, u "com/example/kind4/kind4/model/Primitive"), (0, u "STRING"), (0, u "Lcom/example/kind4/kind4/model/Primitive;"), (0, .fieldref 8 14), (0, .nameAndType 15 12), (0, u "UNBOUNDED_STRING"), (0, .fieldref 8 17), (0, .nameAndType 18 12), (0, u "BLOB"), (0, .fieldref 8 20), (0, .nameAndType 21 12), (0, u "BOOLEAN"), (0, .fieldref 8 23), (0, .nameAndType 24 12), (0, u "CHAR"), (0, .fieldref 8 26), (0, .nameAndType 27 12), (0, u "DATE"), (0, .fieldref 8 29), (0, .nameAndType 30 12), (0, u "DATETIME"), (0, .fieldref 8 32), (0, .nameAndType 33 12), (0, u "DOUBLE"), (0, .fieldref 8 35), (0, .nameAndType 36 12), (0, u "FLOAT"), (0, .fieldref 8 38), (0, .nameAndType 39 12), (0, u "INT8"), (0, .fieldref 8 41), (0, .nameAndType 42 12), (0, u "INT16"), (0, .fieldref 8 44), (0, .nameAndType 45 12), (0, u "INT32"), (0, .fieldref 8 47), (0, .nameAndType 48 12), (0, u "INT64"), (0, .fieldref 8 50), (0, .nameAndType 51 12), (0, u "MONEY"), (0, .fieldref 53 54), (0, .class_ 55), (0, .nameAndType 56 57), (0, u "com/example/kind4/kind4/model/Storage"), (0, u "VARCHAR"), (0, u "Lcom/example/kind4/kind4/model/Storage;"), (0, .fieldref 53 59), (0, .nameAndType 24 57), (0, .fieldref 53 61), (0, .nameAndType 62 57), (0, u "CLOB"), (0, .integer 2147483647), (0, .class_ 65), (0, u "java/lang/String"), (0, .methodref 64 67), (0, .nameAndType 5 68), (0, u "([C)V"), (0, .methodref 70 71), (0, .class_ 72), (0, .nameAndType 73 74), (0, u "com/example/kind4/kind4/model/DomainSameTypePinLaw"), (0, u "stor"), (0, u "(I)Lcom/example/kind4/kind4/model/Storage;"), (0, .class_ 76), (0, u "com/example/kind4/kind4/model/Domain"), (0, .methodref 70 78), (0, .nameAndType 79 80), (0, u "prim"), (0, u "(I)Lcom/example/kind4/kind4/model/Primitive;"), (0, .methodref 75 82), (0, .nameAndType 5 83), (0, u "(Ljava/lang/String;Lcom/example/kind4/kind4/model/Primitive;ILcom/example/kind4/kind4/model/Storage;I)V"), (0, .methodref 75 85), (0, .nameAndType 86 87), (0, u "sameType"), (0, u "(Lcom/example/kind4/kind4/model/Domain;)Z"), (3, u "law"), (0, u "(IIIIII)Z")] 2

def k1m0 : Method := { name := "<init>", desc := "()V", sig := { parameters := [], returnType := none }, accessFlags := 1, code := none }
def k1c1 : Code := { maxStack := 2, maxLocals := 1, code := method_2_code, exceptionTable := #[], attributes := #[] }
def k1m1 : Method := { name := "prim", desc := "(I)Lcom/example/kind4/kind4/model/Primitive;", sig := { parameters := [.int], returnType := some (.object "com/example/kind4/kind4/model/Primitive") }, accessFlags := 10, code := some k1c1 }
def k1c2 : Code := { maxStack := 2, maxLocals := 1, code := method_3_code, exceptionTable := #[], attributes := #[] }
def k1m2 : Method := { name := "stor", desc := "(I)Lcom/example/kind4/kind4/model/Storage;", sig := { parameters := [.int], returnType := some (.object "com/example/kind4/kind4/model/Storage") }, accessFlags := 10, code := some k1c2 }
def k1c3 : Code := { maxStack := 8, maxLocals := 19, code := code, exceptionTable := #[], attributes := #[] }
def k1m3 : Method := { name := "law", desc := "(IIIIII)Z", sig := { parameters := [.int, .int, .int, .int, .int, .int], returnType := some .boolean }, accessFlags := 9, code := some k1c3 }
/-- com/example/kind4/kind4/model/DomainSameTypePinLaw -/
def k1 : Class := { plain "com/example/kind4/kind4/model/DomainSameTypePinLaw" (some 0) with
  accessFlags := 49
  interfaces := #[]
  cf := some (fileOf pool1 70 #[] #[{ accessFlags := 1, nameIndex := 5, descriptorIndex := 6, attributes := #[] }, { accessFlags := 10, nameIndex := 79, descriptorIndex := 80, attributes := #[] }, { accessFlags := 10, nameIndex := 73, descriptorIndex := 74, attributes := #[] }, { accessFlags := 9, nameIndex := 91, descriptorIndex := 92, attributes := #[] }] 49 2 #[] #[])
  fields := #[]
  methods := #[k1m0, k1m1, k1m2, k1m3]
  instanceTypes := #[]
  staticTypes := #[]
  resolved := Array.replicate 95 none
  statics := none }

def pool2 : Array CpInfo := pool [(1, .class_ 2), (0, u "java/io/Serializable"), (0, .class_ 4), (0, u "java/lang/Object")] 2

/-- java/io/Serializable -/
def k2 : Class := { plain "java/io/Serializable" (some 0) with
  accessFlags := 1537
  interfaces := #[]
  cf := some (fileOf pool2 1 #[] #[] 1537 3 #[] #[])
  fields := #[]
  methods := #[]
  instanceTypes := #[]
  staticTypes := #[]
  resolved := Array.replicate 7 none
  statics := none }

def pool3 : Array CpInfo := pool [(1, .class_ 2), (0, u "java/lang/Comparable"), (0, .class_ 4), (0, u "java/lang/Object")] 7

/-- java/lang/Comparable -/
def k3 : Class := { plain "java/lang/Comparable" (some 0) with
  accessFlags := 1537
  interfaces := #[]
  cf := some (fileOf pool3 1 #[] #[] 1537 3 #[] #[])
  fields := #[]
  methods := #[]
  instanceTypes := #[]
  staticTypes := #[]
  resolved := Array.replicate 12 none
  statics := none }

def pool4 : Array CpInfo := pool [(2, .class_ 4), (1, u "java/lang/CharSequence"), (42, .class_ 48), (0, u "java/lang/CharSequence$1CodePointIterator"), (10, .class_ 60), (0, u "java/lang/CharSequence$1CharIterator"), (5, .class_ 67), (0, u "java/lang/Object")] 63

/-- java/lang/CharSequence -/
def k4 : Class := { plain "java/lang/CharSequence" (some 0) with
  accessFlags := 1537
  interfaces := #[]
  cf := some (fileOf pool4 2 #[.nestMembers #[47, 59]] #[] 1537 66 #[] #[])
  fields := #[]
  methods := #[]
  instanceTypes := #[]
  staticTypes := #[]
  resolved := Array.replicate 131 none
  statics := none }

def pool5 : Array CpInfo := pool [(1, .class_ 2), (0, u "java/lang/constant/Constable"), (0, .class_ 4), (0, u "java/lang/Object")] 6

/-- java/lang/constant/Constable -/
def k5 : Class := { plain "java/lang/constant/Constable" (some 0) with
  accessFlags := 1537
  interfaces := #[]
  cf := some (fileOf pool5 1 #[] #[] 1537 3 #[] #[])
  fields := #[]
  methods := #[]
  instanceTypes := #[]
  staticTypes := #[]
  resolved := Array.replicate 11 none
  statics := none }

def pool6 : Array CpInfo := pool [(1, .class_ 2), (0, u "java/lang/constant/ConstantDesc"), (0, .class_ 4), (0, u "java/lang/Object")] 32

/-- java/lang/constant/ConstantDesc -/
def k6 : Class := { plain "java/lang/constant/ConstantDesc" (some 0) with
  accessFlags := 1537
  interfaces := #[]
  cf := some (fileOf pool6 1 #[] #[] 1537 3 #[] #[])
  fields := #[]
  methods := #[]
  instanceTypes := #[]
  staticTypes := #[]
  resolved := Array.replicate 37 none
  statics := none }

def pool7 : Array CpInfo := pool [(1, .methodref 2 3), (0, .class_ 4), (0, .nameAndType 5 6), (0, u "java/lang/Object"), (0, u "<init>"), (0, u "()V"), (2, .fieldref 10 11), (0, .class_ 12), (0, .nameAndType 13 14), (0, u "java/lang/String"), (0, u "value"), (0, u "[B"), (0, .fieldref 10 16), (0, .nameAndType 17 18), (0, u "coder"), (0, u "B"), (2, u "hash"), (0, u "I"), (2, u "hashIsZero"), (0, u "Z"), (0, .methodref 10 28), (0, .nameAndType 5 29), (0, u "([CIILjava/lang/Void;)V"), (8, .fieldref 10 39), (0, .nameAndType 40 26), (0, u "COMPACT_STRINGS"), (1, .class_ 44), (1, u "java/lang/StringUTF16"), (0, u "compress"), (1, .methodref 42 48), (0, .nameAndType 49 50), (0, u "coderFromArrayLen"), (0, u "([BI)B"), (126, .methodref 42 178), (0, .nameAndType 45 179), (0, u "([CII)[B"), (395, .class_ 576), (0, u "java/lang/CharSequence"), (22, u "CASE_INSENSITIVE_ORDER"), (0, u "Ljava/util/Comparator;"), (409, u "([C)V"), (90, u "serialPersistentFields"), (0, u "[Ljava/io/ObjectStreamField;"), (0, .class_ 1104), (0, u "java/lang/String$CaseInsensitiveComparator"), (1, .class_ 1107), (0, u "java/io/Serializable"), (0, .class_ 1109), (0, u "java/lang/Comparable"), (0, .class_ 1111), (0, u "java/lang/constant/Constable"), (0, .class_ 1113), (0, u "java/lang/constant/ConstantDesc"), (2, u "serialVersionUID"), (0, u "J"), (3, u "REPL"), (0, u "C"), (2, u "LATIN1"), (1, u "UTF16")] 323

def k7m0 : Method := { name := "<init>", desc := "()V", sig := { parameters := [], returnType := none }, accessFlags := 1, code := none }
def k7c1 : Code := { maxStack := 5, maxLocals := 2, code := jdk_42_method_3_code, exceptionTable := #[], attributes := #[] }
def k7m1 : Method := { name := "<init>", desc := "([C)V", sig := { parameters := [(.array .char)], returnType := none }, accessFlags := 1, code := some k7c1 }
def k7c2 : Code := { maxStack := 4, maxLocals := 6, code := jdk_42_method_149_code, exceptionTable := #[], attributes := #[] }
def k7m2 : Method := { name := "<init>", desc := "([CIILjava/lang/Void;)V", sig := { parameters := [(.array .char), .int, .int, (.object "java/lang/Void")], returnType := none }, accessFlags := 2, code := some k7c2 }
/-- java/lang/String -/
def k7 : Class := { plain "java/lang/String" (some 0) with
  accessFlags := 49
  interfaces := #[2, 3, 4, 5, 6]
  cf := some (fileOf pool7 10 #[.nestMembers #[1103]] #[{ accessFlags := 1, nameIndex := 5, descriptorIndex := 6, attributes := #[] }, { accessFlags := 1, nameIndex := 5, descriptorIndex := 1010, attributes := #[] }, { accessFlags := 2, nameIndex := 5, descriptorIndex := 29, attributes := #[] }] 49 2 #[1106, 1108, 575, 1110, 1112] #[{ accessFlags := 18, nameIndex := 13, descriptorIndex := 14, attributes := #[] }, { accessFlags := 18, nameIndex := 17, descriptorIndex := 18, attributes := #[] }, { accessFlags := 2, nameIndex := 21, descriptorIndex := 22, attributes := #[] }, { accessFlags := 2, nameIndex := 25, descriptorIndex := 26, attributes := #[] }, { accessFlags := 26, nameIndex := 1116, descriptorIndex := 1117, attributes := #[] }, { accessFlags := 24, nameIndex := 40, descriptorIndex := 26, attributes := #[] }, { accessFlags := 26, nameIndex := 1101, descriptorIndex := 1102, attributes := #[] }, { accessFlags := 26, nameIndex := 1121, descriptorIndex := 1122, attributes := #[] }, { accessFlags := 25, nameIndex := 599, descriptorIndex := 600, attributes := #[] }, { accessFlags := 24, nameIndex := 1125, descriptorIndex := 18, attributes := #[] }, { accessFlags := 24, nameIndex := 1127, descriptorIndex := 18, attributes := #[] }])
  fields := #[{ name := "value", type := (.array .byte), accessFlags := 18, slot := 0, constantValue := 0 }, { name := "coder", type := .byte, accessFlags := 18, slot := 1, constantValue := 0 }, { name := "hash", type := .int, accessFlags := 2, slot := 2, constantValue := 0 }, { name := "hashIsZero", type := .boolean, accessFlags := 2, slot := 3, constantValue := 0 }, { name := "serialVersionUID", type := .long, accessFlags := 26, slot := 0, constantValue := 0 }, { name := "COMPACT_STRINGS", type := .boolean, accessFlags := 24, slot := 1, constantValue := 0 }, { name := "serialPersistentFields", type := (.array (.object "java/io/ObjectStreamField")), accessFlags := 26, slot := 2, constantValue := 0 }, { name := "REPL", type := .char, accessFlags := 26, slot := 3, constantValue := 0 }, { name := "CASE_INSENSITIVE_ORDER", type := (.object "java/util/Comparator"), accessFlags := 25, slot := 4, constantValue := 0 }, { name := "LATIN1", type := .byte, accessFlags := 24, slot := 5, constantValue := 0 }, { name := "UTF16", type := .byte, accessFlags := 24, slot := 6, constantValue := 0 }]
  methods := #[k7m0, k7m1, k7m2]
  instanceTypes := #[(.array .byte), .byte, .int, .boolean]
  staticTypes := #[.long, .boolean, (.array (.object "java/io/ObjectStreamField")), .char, (.object "java/util/Comparator"), .byte, .byte]
  resolved := Array.replicate 1451 none
  statics := some 0 }

def pool8 : Array CpInfo := pool [(6, .class_ 8), (1, u "java/lang/Object"), (0, u "<init>"), (0, u "()V"), (1, .class_ 14), (1, u "java/lang/StringUTF16"), (31, u "$assertionsDisabled"), (0, u "Z"), (13, u "HI_BYTE_SHIFT"), (0, u "I"), (2, u "LO_BYTE_SHIFT"), (49, .methodref 12 116), (0, .nameAndType 117 118), (0, u "compress"), (0, u "([CI[BII)I"), (3, u "([CII)[B"), (138, u "coderFromArrayLen"), (0, u "([BI)B"), (106, .class_ 371), (1, u "java/lang/StringUTF16$LinesSpliterator"), (58, u "MAX_LENGTH"), (196, .class_ 628), (0, u "java/lang/StringUTF16$CodePointsSpliterator"), (0, .class_ 630), (0, u "java/lang/StringUTF16$CharsSpliterator")] 4

def k8m0 : Method := { name := "<init>", desc := "()V", sig := { parameters := [], returnType := none }, accessFlags := 0, code := none }
def k8c1 : Code := { maxStack := 2, maxLocals := 2, code := jdk_52_method_15_code, exceptionTable := #[], attributes := #[] }
def k8m1 : Method := { name := "coderFromArrayLen", desc := "([BI)B", sig := { parameters := [(.array .byte), .int], returnType := some .byte }, accessFlags := 8, code := some k8c1 }
def k8c2 : Code := { maxStack := 5, maxLocals := 6, code := jdk_52_method_16_code, exceptionTable := #[], attributes := #[] }
def k8m2 : Method := { name := "compress", desc := "([CII)[B", sig := { parameters := [(.array .char), .int, .int], returnType := some (.array .byte) }, accessFlags := 9, code := some k8c2 }
def k8c3 : Code := { maxStack := 3, maxLocals := 7, code := jdk_52_method_21_code, exceptionTable := #[], attributes := #[] }
def k8m3 : Method := { name := "compress", desc := "([CI[BII)I", sig := { parameters := [(.array .char), .int, (.array .byte), .int, .int], returnType := some .int }, accessFlags := 9, code := some k8c3 }
/-- java/lang/StringUTF16 -/
def k8 : Class := { plain "java/lang/StringUTF16" (some 0) with
  accessFlags := 48
  interfaces := #[]
  cf := some (fileOf pool8 12 #[.nestMembers #[627, 629, 369]] #[{ accessFlags := 0, nameIndex := 9, descriptorIndex := 10, attributes := #[] }, { accessFlags := 8, nameIndex := 261, descriptorIndex := 262, attributes := #[] }, { accessFlags := 9, nameIndex := 117, descriptorIndex := 122, attributes := #[] }, { accessFlags := 9, nameIndex := 117, descriptorIndex := 118, attributes := #[] }] 48 6 #[] #[{ accessFlags := 26, nameIndex := 61, descriptorIndex := 62, attributes := #[] }, { accessFlags := 26, nameIndex := 65, descriptorIndex := 62, attributes := #[] }, { accessFlags := 24, nameIndex := 430, descriptorIndex := 62, attributes := #[] }, { accessFlags := 4120, nameIndex := 46, descriptorIndex := 47, attributes := #[] }])
  fields := #[{ name := "HI_BYTE_SHIFT", type := .int, accessFlags := 26, slot := 0, constantValue := 0 }, { name := "LO_BYTE_SHIFT", type := .int, accessFlags := 26, slot := 1, constantValue := 0 }, { name := "MAX_LENGTH", type := .int, accessFlags := 24, slot := 2, constantValue := 0 }, { name := "$assertionsDisabled", type := .boolean, accessFlags := 4120, slot := 3, constantValue := 0 }]
  methods := #[k8m0, k8m1, k8m2, k8m3]
  instanceTypes := #[]
  staticTypes := #[.int, .int, .int, .boolean]
  resolved := Array.replicate 635 none
  statics := none }

def pool9 : Array CpInfo := pool [(2, .class_ 4), (1, u "java/lang/Enum"), (0, u "name"), (0, u "Ljava/lang/String;"), (2, u "ordinal"), (0, u "I"), (1, .class_ 14), (1, u "java/lang/Object"), (4, u "hash"), (86, .class_ 108), (1, u "java/lang/Enum$EnumDesc"), (2, .class_ 112), (0, u "java/lang/constant/Constable"), (0, .class_ 114), (0, u "java/lang/Comparable"), (0, .class_ 116), (0, u "java/io/Serializable")] 87

/-- java/lang/Enum -/
def k9 : Class := { plain "java/lang/Enum" (some 0) with
  accessFlags := 1057
  interfaces := #[5, 3, 2]
  cf := some (fileOf pool9 2 #[.nestMembers #[106]] #[] 1057 12 #[111, 113, 115] #[{ accessFlags := 18, nameIndex := 5, descriptorIndex := 6, attributes := #[] }, { accessFlags := 18, nameIndex := 9, descriptorIndex := 10, attributes := #[] }, { accessFlags := 2, nameIndex := 19, descriptorIndex := 10, attributes := #[] }])
  fields := #[{ name := "name", type := (.object "java/lang/String"), accessFlags := 18, slot := 0, constantValue := 0 }, { name := "ordinal", type := .int, accessFlags := 18, slot := 1, constantValue := 0 }, { name := "hash", type := .int, accessFlags := 2, slot := 2, constantValue := 0 }]
  methods := #[]
  instanceTypes := #[(.object "java/lang/String"), .int, .int]
  staticTypes := #[]
  resolved := Array.replicate 204 none
  statics := none }

def pool10 : Array CpInfo := pool [(1, .class_ 2), (0, u "com/example/kind4/kind4/model/Storage"), (2, u "VARCHAR"), (0, u "Lcom/example/kind4/kind4/model/Storage;"), (2, u "CHAR"), (2, u "CLOB"), (2, u "$VALUES"), (0, u "[Lcom/example/kind4/kind4/model/Storage;"), (6, .class_ 25), (1, u "java/lang/Enum"), (8, u "modelName"), (0, u "Ljava/lang/String;")] 39

/-- com/example/kind4/kind4/model/Storage -/
def k10 : Class := { plain "com/example/kind4/kind4/model/Storage" (some 9) with
  accessFlags := 16433
  interfaces := #[]
  cf := some (fileOf pool10 1 #[] #[] 16433 23 #[] #[{ accessFlags := 16409, nameIndex := 5, descriptorIndex := 6, attributes := #[] }, { accessFlags := 16409, nameIndex := 9, descriptorIndex := 6, attributes := #[] }, { accessFlags := 16409, nameIndex := 12, descriptorIndex := 6, attributes := #[] }, { accessFlags := 18, nameIndex := 34, descriptorIndex := 35, attributes := #[] }, { accessFlags := 4122, nameIndex := 15, descriptorIndex := 16, attributes := #[] }])
  fields := #[{ name := "VARCHAR", type := (.object "com/example/kind4/kind4/model/Storage"), accessFlags := 16409, slot := 0, constantValue := 0 }, { name := "CHAR", type := (.object "com/example/kind4/kind4/model/Storage"), accessFlags := 16409, slot := 1, constantValue := 0 }, { name := "CLOB", type := (.object "com/example/kind4/kind4/model/Storage"), accessFlags := 16409, slot := 2, constantValue := 0 }, { name := "modelName", type := (.object "java/lang/String"), accessFlags := 18, slot := 3, constantValue := 0 }, { name := "$VALUES", type := (.array (.object "com/example/kind4/kind4/model/Storage")), accessFlags := 4122, slot := 3, constantValue := 0 }]
  methods := #[]
  instanceTypes := #[(.object "java/lang/String"), .int, .int, (.object "java/lang/String")]
  staticTypes := #[(.object "com/example/kind4/kind4/model/Storage"), (.object "com/example/kind4/kind4/model/Storage"), (.object "com/example/kind4/kind4/model/Storage"), (.array (.object "com/example/kind4/kind4/model/Storage"))]
  resolved := Array.replicate 75 none
  statics := some 1 }

def pool11 : Array CpInfo := pool [(1, .methodref 2 3), (0, .class_ 4), (0, .nameAndType 5 6), (0, u "java/lang/Object"), (0, u "<init>"), (0, u "()V"), (0, .class_ 8), (0, u "java/lang/Record")] 13

def k11c0 : Code := { maxStack := 1, maxLocals := 1, code := jdk_30_method_1_code, exceptionTable := #[], attributes := #[] }
def k11m0 : Method := { name := "<init>", desc := "()V", sig := { parameters := [], returnType := none }, accessFlags := 4, code := some k11c0 }
/-- java/lang/Record -/
def k11 : Class := { plain "java/lang/Record" (some 0) with
  accessFlags := 1057
  interfaces := #[]
  cf := some (fileOf pool11 7 #[] #[{ accessFlags := 4, nameIndex := 5, descriptorIndex := 6, attributes := #[] }] 1057 2 #[] #[])
  fields := #[]
  methods := #[k11m0]
  instanceTypes := #[]
  staticTypes := #[]
  resolved := Array.replicate 22 none
  statics := none }

def pool12 : Array CpInfo := pool [(1, .methodref 2 3), (0, .class_ 4), (0, .nameAndType 5 6), (0, u "java/lang/Record"), (0, u "<init>"), (0, u "()V"), (0, .fieldref 8 9), (0, .class_ 10), (0, .nameAndType 11 12), (0, u "com/example/kind4/kind4/model/Domain"), (0, u "name"), (0, u "Ljava/lang/String;"), (0, .fieldref 8 14), (0, .nameAndType 15 16), (0, u "primitive"), (0, u "Lcom/example/kind4/kind4/model/Primitive;"), (0, .fieldref 8 18), (0, .nameAndType 19 20), (0, u "size"), (0, u "I"), (0, .fieldref 8 22), (0, .nameAndType 23 24), (0, u "storage"), (0, u "Lcom/example/kind4/kind4/model/Storage;"), (0, .fieldref 8 26), (0, .nameAndType 27 20), (0, u "line"), (27, u "(Ljava/lang/String;Lcom/example/kind4/kind4/model/Primitive;ILcom/example/kind4/kind4/model/Storage;I)V"), (3, u "sameType"), (0, u "(Lcom/example/kind4/kind4/model/Domain;)Z")] 41

def k12c0 : Code := { maxStack := 2, maxLocals := 6, code := prog_39_method_1_code, exceptionTable := #[], attributes := #[] }
def k12m0 : Method := { name := "<init>", desc := "(Ljava/lang/String;Lcom/example/kind4/kind4/model/Primitive;ILcom/example/kind4/kind4/model/Storage;I)V", sig := { parameters := [(.object "java/lang/String"), (.object "com/example/kind4/kind4/model/Primitive"), .int, (.object "com/example/kind4/kind4/model/Storage"), .int], returnType := none }, accessFlags := 1, code := some k12c0 }
def k12c1 : Code := { maxStack := 2, maxLocals := 2, code := prog_39_method_2_code, exceptionTable := #[], attributes := #[] }
def k12m1 : Method := { name := "sameType", desc := "(Lcom/example/kind4/kind4/model/Domain;)Z", sig := { parameters := [(.object "com/example/kind4/kind4/model/Domain")], returnType := some .boolean }, accessFlags := 1, code := some k12c1 }
/-- com/example/kind4/kind4/model/Domain -/
def k12 : Class := { plain "com/example/kind4/kind4/model/Domain" (some 11) with
  accessFlags := 49
  interfaces := #[]
  cf := some (fileOf pool12 8 #[] #[{ accessFlags := 1, nameIndex := 5, descriptorIndex := 55, attributes := #[] }, { accessFlags := 1, nameIndex := 59, descriptorIndex := 60, attributes := #[] }] 49 2 #[] #[{ accessFlags := 18, nameIndex := 11, descriptorIndex := 12, attributes := #[] }, { accessFlags := 18, nameIndex := 15, descriptorIndex := 16, attributes := #[] }, { accessFlags := 18, nameIndex := 19, descriptorIndex := 20, attributes := #[] }, { accessFlags := 18, nameIndex := 23, descriptorIndex := 24, attributes := #[] }, { accessFlags := 18, nameIndex := 27, descriptorIndex := 20, attributes := #[] }])
  fields := #[{ name := "name", type := (.object "java/lang/String"), accessFlags := 18, slot := 0, constantValue := 0 }, { name := "primitive", type := (.object "com/example/kind4/kind4/model/Primitive"), accessFlags := 18, slot := 1, constantValue := 0 }, { name := "size", type := .int, accessFlags := 18, slot := 2, constantValue := 0 }, { name := "storage", type := (.object "com/example/kind4/kind4/model/Storage"), accessFlags := 18, slot := 3, constantValue := 0 }, { name := "line", type := .int, accessFlags := 18, slot := 4, constantValue := 0 }]
  methods := #[k12m0, k12m1]
  instanceTypes := #[(.object "java/lang/String"), (.object "com/example/kind4/kind4/model/Primitive"), .int, (.object "com/example/kind4/kind4/model/Storage"), .int]
  staticTypes := #[]
  resolved := Array.replicate 102 none
  statics := none }

def pool13 : Array CpInfo := pool [(1, .class_ 2), (0, u "com/example/kind4/kind4/model/Primitive"), (2, u "STRING"), (0, u "Lcom/example/kind4/kind4/model/Primitive;"), (2, u "UNBOUNDED_STRING"), (2, u "BLOB"), (2, u "BOOLEAN"), (2, u "CHAR"), (2, u "DATE"), (2, u "DATETIME"), (2, u "DOUBLE"), (2, u "FLOAT"), (2, u "INT8"), (2, u "INT16"), (2, u "INT32"), (2, u "INT64"), (2, u "MONEY"), (2, u "$VALUES"), (0, u "[Lcom/example/kind4/kind4/model/Primitive;"), (6, .class_ 58), (1, u "java/lang/Enum"), (8, u "javaType"), (0, u "Ljava/lang/String;"), (2, u "javaEmptyValue"), (2, u "valuesAccessor"), (2, u "sizeUnit"), (0, .class_ 79), (0, u "com/example/kind4/kind4/model/Primitive$Trait"), (8, u "traits"), (0, u "Ljava/util/Set;"), (33, .class_ 124), (0, u "com/example/kind4/kind4/model/Primitive$Range")] 139

/-- com/example/kind4/kind4/model/Primitive -/
def k13 : Class := { plain "com/example/kind4/kind4/model/Primitive" (some 9) with
  accessFlags := 16433
  interfaces := #[]
  cf := some (fileOf pool13 1 #[.nestMembers #[78, 123]] #[] 16433 56 #[] #[{ accessFlags := 16409, nameIndex := 5, descriptorIndex := 6, attributes := #[] }, { accessFlags := 16409, nameIndex := 9, descriptorIndex := 6, attributes := #[] }, { accessFlags := 16409, nameIndex := 12, descriptorIndex := 6, attributes := #[] }, { accessFlags := 16409, nameIndex := 15, descriptorIndex := 6, attributes := #[] }, { accessFlags := 16409, nameIndex := 18, descriptorIndex := 6, attributes := #[] }, { accessFlags := 16409, nameIndex := 21, descriptorIndex := 6, attributes := #[] }, { accessFlags := 16409, nameIndex := 24, descriptorIndex := 6, attributes := #[] }, { accessFlags := 16409, nameIndex := 27, descriptorIndex := 6, attributes := #[] }, { accessFlags := 16409, nameIndex := 30, descriptorIndex := 6, attributes := #[] }, { accessFlags := 16409, nameIndex := 33, descriptorIndex := 6, attributes := #[] }, { accessFlags := 16409, nameIndex := 36, descriptorIndex := 6, attributes := #[] }, { accessFlags := 16409, nameIndex := 39, descriptorIndex := 6, attributes := #[] }, { accessFlags := 16409, nameIndex := 42, descriptorIndex := 6, attributes := #[] }, { accessFlags := 16409, nameIndex := 45, descriptorIndex := 6, attributes := #[] }, { accessFlags := 18, nameIndex := 67, descriptorIndex := 68, attributes := #[] }, { accessFlags := 18, nameIndex := 71, descriptorIndex := 68, attributes := #[] }, { accessFlags := 18, nameIndex := 74, descriptorIndex := 68, attributes := #[] }, { accessFlags := 18, nameIndex := 77, descriptorIndex := 68, attributes := #[] }, { accessFlags := 18, nameIndex := 88, descriptorIndex := 89, attributes := #[] }, { accessFlags := 4122, nameIndex := 48, descriptorIndex := 49, attributes := #[] }])
  fields := #[{ name := "STRING", type := (.object "com/example/kind4/kind4/model/Primitive"), accessFlags := 16409, slot := 0, constantValue := 0 }, { name := "UNBOUNDED_STRING", type := (.object "com/example/kind4/kind4/model/Primitive"), accessFlags := 16409, slot := 1, constantValue := 0 }, { name := "BLOB", type := (.object "com/example/kind4/kind4/model/Primitive"), accessFlags := 16409, slot := 2, constantValue := 0 }, { name := "BOOLEAN", type := (.object "com/example/kind4/kind4/model/Primitive"), accessFlags := 16409, slot := 3, constantValue := 0 }, { name := "CHAR", type := (.object "com/example/kind4/kind4/model/Primitive"), accessFlags := 16409, slot := 4, constantValue := 0 }, { name := "DATE", type := (.object "com/example/kind4/kind4/model/Primitive"), accessFlags := 16409, slot := 5, constantValue := 0 }, { name := "DATETIME", type := (.object "com/example/kind4/kind4/model/Primitive"), accessFlags := 16409, slot := 6, constantValue := 0 }, { name := "DOUBLE", type := (.object "com/example/kind4/kind4/model/Primitive"), accessFlags := 16409, slot := 7, constantValue := 0 }, { name := "FLOAT", type := (.object "com/example/kind4/kind4/model/Primitive"), accessFlags := 16409, slot := 8, constantValue := 0 }, { name := "INT8", type := (.object "com/example/kind4/kind4/model/Primitive"), accessFlags := 16409, slot := 9, constantValue := 0 }, { name := "INT16", type := (.object "com/example/kind4/kind4/model/Primitive"), accessFlags := 16409, slot := 10, constantValue := 0 }, { name := "INT32", type := (.object "com/example/kind4/kind4/model/Primitive"), accessFlags := 16409, slot := 11, constantValue := 0 }, { name := "INT64", type := (.object "com/example/kind4/kind4/model/Primitive"), accessFlags := 16409, slot := 12, constantValue := 0 }, { name := "MONEY", type := (.object "com/example/kind4/kind4/model/Primitive"), accessFlags := 16409, slot := 13, constantValue := 0 }, { name := "javaType", type := (.object "java/lang/String"), accessFlags := 18, slot := 3, constantValue := 0 }, { name := "javaEmptyValue", type := (.object "java/lang/String"), accessFlags := 18, slot := 4, constantValue := 0 }, { name := "valuesAccessor", type := (.object "java/lang/String"), accessFlags := 18, slot := 5, constantValue := 0 }, { name := "sizeUnit", type := (.object "java/lang/String"), accessFlags := 18, slot := 6, constantValue := 0 }, { name := "traits", type := (.object "java/util/Set"), accessFlags := 18, slot := 7, constantValue := 0 }, { name := "$VALUES", type := (.array (.object "com/example/kind4/kind4/model/Primitive")), accessFlags := 4122, slot := 14, constantValue := 0 }]
  methods := #[]
  instanceTypes := #[(.object "java/lang/String"), .int, .int, (.object "java/lang/String"), (.object "java/lang/String"), (.object "java/lang/String"), (.object "java/lang/String"), (.object "java/util/Set")]
  staticTypes := #[(.object "com/example/kind4/kind4/model/Primitive"), (.object "com/example/kind4/kind4/model/Primitive"), (.object "com/example/kind4/kind4/model/Primitive"), (.object "com/example/kind4/kind4/model/Primitive"), (.object "com/example/kind4/kind4/model/Primitive"), (.object "com/example/kind4/kind4/model/Primitive"), (.object "com/example/kind4/kind4/model/Primitive"), (.object "com/example/kind4/kind4/model/Primitive"), (.object "com/example/kind4/kind4/model/Primitive"), (.object "com/example/kind4/kind4/model/Primitive"), (.object "com/example/kind4/kind4/model/Primitive"), (.object "com/example/kind4/kind4/model/Primitive"), (.object "com/example/kind4/kind4/model/Primitive"), (.object "com/example/kind4/kind4/model/Primitive"), (.array (.object "com/example/kind4/kind4/model/Primitive"))]
  resolved := Array.replicate 264 none
  statics := some 2 }

def pool14 : Array CpInfo := pool [(4, .class_ 6), (1, u "java/lang/Object"), (0, u "<init>"), (0, u "()V"), (5, .class_ 16), (1, u "java/lang/StringLatin1"), (104, u "$assertionsDisabled"), (0, u "Z"), (98, .class_ 223), (1, u "java/lang/StringLatin1$LinesSpliterator"), (166, .class_ 391), (0, u "java/lang/StringLatin1$CharsSpliterator")] 3

def k14m0 : Method := { name := "<init>", desc := "()V", sig := { parameters := [], returnType := none }, accessFlags := 0, code := none }
/-- java/lang/StringLatin1 -/
def k14 : Class := { plain "java/lang/StringLatin1" (some 0) with
  accessFlags := 48
  interfaces := #[]
  cf := some (fileOf pool14 14 #[.nestMembers #[390, 221]] #[{ accessFlags := 0, nameIndex := 7, descriptorIndex := 8, attributes := #[] }] 48 4 #[] #[{ accessFlags := 4120, nameIndex := 121, descriptorIndex := 122, attributes := #[] }])
  fields := #[{ name := "$assertionsDisabled", type := .boolean, accessFlags := 4120, slot := 0, constantValue := 0 }]
  methods := #[k14m0]
  instanceTypes := #[]
  staticTypes := #[.boolean]
  resolved := Array.replicate 395 none
  statics := none }

def pool15 : Array CpInfo := pool [(2, .class_ 4), (1, u "java/lang/Object"), (0, u "<init>"), (0, u "()V"), (17, .class_ 26), (1, u "jdk/internal/util/Preconditions"), (28, .class_ 56), (0, u "jdk/internal/util/Preconditions$4"), (57, .class_ 115), (0, u "jdk/internal/util/Preconditions$1"), (7, u "SIOOBE_FORMATTER"), (0, u "Ljava/util/function/BiFunction;"), (0, .class_ 126), (0, u "jdk/internal/util/Preconditions$2"), (3, u "AIOOBE_FORMATTER"), (0, .class_ 132), (0, u "jdk/internal/util/Preconditions$3"), (3, u "IOOBE_FORMATTER")] 57

def k15m0 : Method := { name := "<init>", desc := "()V", sig := { parameters := [], returnType := none }, accessFlags := 1, code := none }
/-- jdk/internal/util/Preconditions -/
def k15 : Class := { plain "jdk/internal/util/Preconditions" (some 0) with
  accessFlags := 33
  interfaces := #[]
  cf := some (fileOf pool15 24 #[.nestMembers #[55, 131, 125, 114]] #[{ accessFlags := 1, nameIndex := 5, descriptorIndex := 6, attributes := #[] }] 33 2 #[] #[{ accessFlags := 25, nameIndex := 123, descriptorIndex := 124, attributes := #[] }, { accessFlags := 25, nameIndex := 130, descriptorIndex := 124, attributes := #[] }, { accessFlags := 25, nameIndex := 136, descriptorIndex := 124, attributes := #[] }])
  fields := #[{ name := "SIOOBE_FORMATTER", type := (.object "java/util/function/BiFunction"), accessFlags := 25, slot := 0, constantValue := 0 }, { name := "AIOOBE_FORMATTER", type := (.object "java/util/function/BiFunction"), accessFlags := 25, slot := 1, constantValue := 0 }, { name := "IOOBE_FORMATTER", type := (.object "java/util/function/BiFunction"), accessFlags := 25, slot := 2, constantValue := 0 }]
  methods := #[k15m0]
  instanceTypes := #[]
  staticTypes := #[(.object "java/util/function/BiFunction"), (.object "java/util/function/BiFunction"), (.object "java/util/function/BiFunction")]
  resolved := Array.replicate 194 none
  statics := some 3 }

def pool16 : Array CpInfo := pool [(9, u "<init>"), (6, .class_ 18), (1, u "java/lang/Object"), (0, u "()V"), (1, .class_ 23), (1, u "jdk/internal/util/ArraysSupport"), (0, u "LOG2_ARRAY_LONG_INDEX_SCALE"), (0, u "I"), (2, u "U"), (0, u "Ljdk/internal/misc/Unsafe;"), (8, u "BIG_ENDIAN"), (0, u "Z"), (8, u "LOG2_BYTE_BIT_SIZE"), (4, u "LOG2_ARRAY_INT_INDEX_SCALE"), (54, u "JLA"), (0, u "Ljdk/internal/access/JavaLangAccess;"), (11, u "LOG2_ARRAY_BOOLEAN_INDEX_SCALE"), (9, u "LOG2_ARRAY_BYTE_INDEX_SCALE"), (5, u "LOG2_ARRAY_CHAR_INDEX_SCALE"), (5, u "LOG2_ARRAY_SHORT_INDEX_SCALE"), (18, u "LOG2_ARRAY_FLOAT_INDEX_SCALE"), (24, u "LOG2_ARRAY_DOUBLE_INDEX_SCALE"), (89, u "T_BOOLEAN"), (2, u "T_CHAR"), (1, u "T_FLOAT"), (1, u "T_DOUBLE"), (1, u "T_BYTE"), (1, u "T_SHORT"), (1, u "T_INT"), (1, u "T_LONG"), (1, u "SOFT_MAX_ARRAY_LENGTH")] 83

def k16m0 : Method := { name := "<init>", desc := "()V", sig := { parameters := [], returnType := none }, accessFlags := 2, code := none }
/-- jdk/internal/util/ArraysSupport -/
def k16 : Class := { plain "jdk/internal/util/ArraysSupport" (some 0) with
  accessFlags := 33
  interfaces := #[]
  cf := some (fileOf pool16 21 #[] #[{ accessFlags := 2, nameIndex := 9, descriptorIndex := 19, attributes := #[] }] 33 16 #[] #[{ accessFlags := 24, nameIndex := 28, descriptorIndex := 29, attributes := #[] }, { accessFlags := 26, nameIndex := 38, descriptorIndex := 39, attributes := #[] }, { accessFlags := 25, nameIndex := 121, descriptorIndex := 25, attributes := #[] }, { accessFlags := 25, nameIndex := 131, descriptorIndex := 25, attributes := #[] }, { accessFlags := 25, nameIndex := 137, descriptorIndex := 25, attributes := #[] }, { accessFlags := 25, nameIndex := 143, descriptorIndex := 25, attributes := #[] }, { accessFlags := 25, nameIndex := 53, descriptorIndex := 25, attributes := #[] }, { accessFlags := 25, nameIndex := 24, descriptorIndex := 25, attributes := #[] }, { accessFlags := 25, nameIndex := 162, descriptorIndex := 25, attributes := #[] }, { accessFlags := 25, nameIndex := 187, descriptorIndex := 25, attributes := #[] }, { accessFlags := 26, nameIndex := 48, descriptorIndex := 25, attributes := #[] }, { accessFlags := 25, nameIndex := 277, descriptorIndex := 25, attributes := #[] }, { accessFlags := 25, nameIndex := 280, descriptorIndex := 25, attributes := #[] }, { accessFlags := 25, nameIndex := 282, descriptorIndex := 25, attributes := #[] }, { accessFlags := 25, nameIndex := 284, descriptorIndex := 25, attributes := #[] }, { accessFlags := 25, nameIndex := 286, descriptorIndex := 25, attributes := #[] }, { accessFlags := 25, nameIndex := 288, descriptorIndex := 25, attributes := #[] }, { accessFlags := 25, nameIndex := 290, descriptorIndex := 25, attributes := #[] }, { accessFlags := 25, nameIndex := 292, descriptorIndex := 25, attributes := #[] }, { accessFlags := 26, nameIndex := 108, descriptorIndex := 109, attributes := #[] }, { accessFlags := 25, nameIndex := 294, descriptorIndex := 25, attributes := #[] }])
  fields := #[{ name := "U", type := (.object "jdk/internal/misc/Unsafe"), accessFlags := 24, slot := 0, constantValue := 0 }, { name := "BIG_ENDIAN", type := .boolean, accessFlags := 26, slot := 1, constantValue := 0 }, { name := "LOG2_ARRAY_BOOLEAN_INDEX_SCALE", type := .int, accessFlags := 25, slot := 2, constantValue := 0 }, { name := "LOG2_ARRAY_BYTE_INDEX_SCALE", type := .int, accessFlags := 25, slot := 3, constantValue := 0 }, { name := "LOG2_ARRAY_CHAR_INDEX_SCALE", type := .int, accessFlags := 25, slot := 4, constantValue := 0 }, { name := "LOG2_ARRAY_SHORT_INDEX_SCALE", type := .int, accessFlags := 25, slot := 5, constantValue := 0 }, { name := "LOG2_ARRAY_INT_INDEX_SCALE", type := .int, accessFlags := 25, slot := 6, constantValue := 0 }, { name := "LOG2_ARRAY_LONG_INDEX_SCALE", type := .int, accessFlags := 25, slot := 7, constantValue := 0 }, { name := "LOG2_ARRAY_FLOAT_INDEX_SCALE", type := .int, accessFlags := 25, slot := 8, constantValue := 0 }, { name := "LOG2_ARRAY_DOUBLE_INDEX_SCALE", type := .int, accessFlags := 25, slot := 9, constantValue := 0 }, { name := "LOG2_BYTE_BIT_SIZE", type := .int, accessFlags := 26, slot := 10, constantValue := 0 }, { name := "T_BOOLEAN", type := .int, accessFlags := 25, slot := 11, constantValue := 0 }, { name := "T_CHAR", type := .int, accessFlags := 25, slot := 12, constantValue := 0 }, { name := "T_FLOAT", type := .int, accessFlags := 25, slot := 13, constantValue := 0 }, { name := "T_DOUBLE", type := .int, accessFlags := 25, slot := 14, constantValue := 0 }, { name := "T_BYTE", type := .int, accessFlags := 25, slot := 15, constantValue := 0 }, { name := "T_SHORT", type := .int, accessFlags := 25, slot := 16, constantValue := 0 }, { name := "T_INT", type := .int, accessFlags := 25, slot := 17, constantValue := 0 }, { name := "T_LONG", type := .int, accessFlags := 25, slot := 18, constantValue := 0 }, { name := "JLA", type := (.object "jdk/internal/access/JavaLangAccess"), accessFlags := 26, slot := 19, constantValue := 0 }, { name := "SOFT_MAX_ARRAY_LENGTH", type := .int, accessFlags := 25, slot := 20, constantValue := 0 }]
  methods := #[k16m0]
  instanceTypes := #[]
  staticTypes := #[(.object "jdk/internal/misc/Unsafe"), .boolean, .int, .int, .int, .int, .int, .int, .int, .int, .int, .int, .int, .int, .int, .int, .int, .int, .int, (.object "jdk/internal/access/JavaLangAccess"), .int]
  resolved := Array.replicate 378 none
  statics := none }

def pool17 : Array CpInfo := pool [(1, u "java/lang/Cloneable"), (0, .class_ 1), (0, u "java/lang/Object"), (0, .class_ 3)] 3

/-- java/lang/Cloneable -/
def k17 : Class := { plain "java/lang/Cloneable" (some 0) with
  accessFlags := 1537
  interfaces := #[]
  cf := some (fileOf pool17 2 #[] #[] 1537 4 #[] #[])
  fields := #[]
  methods := #[]
  instanceTypes := #[]
  staticTypes := #[]
  resolved := Array.replicate 8 none
  statics := none }

/-- the primitive byte -/
def k18 : Class := { plain "byte" none with kind := .primitive 'B', accessFlags := 0x411 }
/-- [B -/
def k19 : Class := { plain "[B" (some 0) with kind := .array 18 .byte, interfaces := #[17, 2], accessFlags := 1041 }

/-- the primitive char -/
def k20 : Class := { plain "char" none with kind := .primitive 'C', accessFlags := 0x411 }
/-- [C -/
def k21 : Class := { plain "[C" (some 0) with kind := .array 20 .char, interfaces := #[17, 2], accessFlags := 1041 }

/-- the primitive int -/
def k22 : Class := { plain "int" none with kind := .primitive 'I', accessFlags := 0x411 }
/-- [I -/
def k23 : Class := { plain "[I" (some 0) with kind := .array 22 .int, interfaces := #[17, 2], accessFlags := 1041 }

def heap : Heap := #[{ cls := 7, slots := #[.long 0, .int 1, .null, .int 0, .null, .int 0, .int 0], vm := .statics 7 },
  { cls := 10, slots := #[.ref 18, .ref 19, .ref 20, .null], vm := .statics 10 },
  { cls := 13, slots := #[.ref 4, .ref 5, .ref 6, .ref 7, .ref 8, .ref 9, .ref 10, .ref 11, .ref 12, .ref 13, .ref 14, .ref 15, .ref 16, .ref 17, .null], vm := .statics 13 },
  { cls := 15, slots := #[.null, .null, .null], vm := .statics 15 },
  { cls := 13, slots := #[.null, .int 0, .int 0, .null, .null, .null, .null, .null], vm := .none },
  { cls := 13, slots := #[.null, .int 1, .int 0, .null, .null, .null, .null, .null], vm := .none },
  { cls := 13, slots := #[.null, .int 2, .int 0, .null, .null, .null, .null, .null], vm := .none },
  { cls := 13, slots := #[.null, .int 3, .int 0, .null, .null, .null, .null, .null], vm := .none },
  { cls := 13, slots := #[.null, .int 4, .int 0, .null, .null, .null, .null, .null], vm := .none },
  { cls := 13, slots := #[.null, .int 5, .int 0, .null, .null, .null, .null, .null], vm := .none },
  { cls := 13, slots := #[.null, .int 6, .int 0, .null, .null, .null, .null, .null], vm := .none },
  { cls := 13, slots := #[.null, .int 7, .int 0, .null, .null, .null, .null, .null], vm := .none },
  { cls := 13, slots := #[.null, .int 8, .int 0, .null, .null, .null, .null, .null], vm := .none },
  { cls := 13, slots := #[.null, .int 9, .int 0, .null, .null, .null, .null, .null], vm := .none },
  { cls := 13, slots := #[.null, .int 10, .int 0, .null, .null, .null, .null, .null], vm := .none },
  { cls := 13, slots := #[.null, .int 11, .int 0, .null, .null, .null, .null, .null], vm := .none },
  { cls := 13, slots := #[.null, .int 12, .int 0, .null, .null, .null, .null, .null], vm := .none },
  { cls := 13, slots := #[.null, .int 13, .int 0, .null, .null, .null, .null, .null], vm := .none },
  { cls := 10, slots := #[.null, .int 0, .int 0, .null], vm := .none },
  { cls := 10, slots := #[.null, .int 1, .int 0, .null], vm := .none },
  { cls := 10, slots := #[.null, .int 2, .int 0, .null], vm := .none }]
def classes : Array Class := #[k0, k1, k2, k3, k4, k5, k6, k7, k8, k9, k10, k11, k12, k13, k14, k15, k16, k17, k18, k19, k20, k21, k22, k23]
def interned : List (Array UInt16 × Addr) := []
def slotsUsed : Nat := 153
def theMethod : MethodId := ⟨1, 3⟩
def args0 : Array Value := #[.int 1, .int 2, .int 3, .int 4, .int 5, .int 6]
def aboutOver (below : List Frame) : State where
  vm := { classes := classes, interned := interned.toArray }
  heap := heap
  slotsUsed := slotsUsed
  threads := #[{ frames := .invoking theMethod args0 :: below }]
def below0 : List Frame := [.native { method := ⟨0, 0⟩, args := #[] }]
def about1 : State := aboutOver below0
def p0 : Program := .bare "" "" ""
def e0 : Env := launch0.env 0 0 0
theorem w_frames : about1.frames = Frame.invoking theMethod args0 :: below0 := rfl
set_option maxRecDepth 65536 in
theorem w_args : argsFit about1.vm theMethod args0 = true := by decide +kernel
set_option maxRecDepth 65536 in
theorem w_heap : heapFits about1 = true := by decide +kernel
set_option maxRecDepth 65536 in
theorem w_runnable : about1.curStatus? = some .runnable := by decide +kernel
set_option maxRecDepth 65536 in
theorem w_alone : about1.alone = true := by decide +kernel
set_option maxRecDepth 65536 in
theorem w_named : about1.methodNamed? x = some theMethod := by decide +kernel
set_option maxRecDepth 65536 in
theorem w_hears : about1.hears theMethod below0 = true := by decide +kernel
set_option maxRecDepth 65536 in
theorem w_ripe : about1.ripe theMethod args0 below0 = true := by decide +kernel
theorem w_running : about1.status = .running := rfl
set_option maxRecDepth 65536 in
theorem w_room : about1.hasRoom e0.platform room_1 = true :=
  launch0.hasRoom_least _ room_1 (by decide +kernel) (by decide +kernel) (by decide +kernel) (by decide +kernel) (by decide +kernel) (by decide +kernel)
theorem allAtoms_all (ts : List Jvm.Cond) (a : Array Jvm.Value) (st : Jvm.State) : (allAtoms ts).before a st = ts.all (fun c => c.before a st) := by
  induction ts with
  | nil => rfl
  | cons c t ih =>
    show (Jvm.Cond.and c (allAtoms t)).before a st = _
    rw [Jvm.Cond.before_and, ih, List.all_cons]
def words1 : List Jvm.Cond := Jvm.Cond.code x code maxLocals ret :: tables_1
/-- a 'code' word, met by the world's own term for the bytes: nothing is compared byte by byte -/
theorem code_word {y : MethodName} {bytes : ByteArray} {mx : Nat} {rt : Option FieldType} {a : Array Value} {s : State} {m : MethodId} {meth : Method} {c : Code} (h1 : s.methodNamed? y = some m) (h2 : s.vm.method? m = some meth) (h3 : meth.code = some c) (h4 : c.code = bytes)
    (h5 : (c.maxLocals == mx && c.exceptionTable.isEmpty && decide (c.maxStack ≤ mostOperands) && decide (meth.sig.returnType = rt) && !meth.locks && decide (parseMethodDescriptor y.desc = some meth.sig)) = true) : (Jvm.Cond.code y bytes mx rt).before a s = true := by
  simp only [Bool.and_eq_true, beq_iff_eq, Bool.not_eq_true', decide_eq_true_eq] at h5
  obtain ⟨⟨⟨⟨⟨g1, g2⟩, g3⟩, g4⟩, g5⟩, g6⟩ := h5
  simp [Cond.before, Cond.holds, Cond.value, h1, h2, h3, h4, g1, g2, g3, g4, g5, g6]
def isCode : Jvm.Cond → Bool
  | .code _ _ _ _ => true
  | _ => false
theorem all_split {L : List Jvm.Cond} {P : Jvm.Cond → Bool} (h1 : L.all (fun c => isCode c || P c) = true) (h2 : ∀ c ∈ L.filter isCode, P c = true) : L.all P = true := by
  refine List.all_eq_true.mpr fun c hc => ?_
  have h := List.all_eq_true.mp h1 c hc
  rcases Bool.eq_false_or_eq_true (isCode c) with hi | hi
  · exact h2 c (List.mem_filter.mpr ⟨hc, hi⟩)
  · simpa [hi] using h
set_option maxRecDepth 65536 in
theorem w_c0 : (Jvm.Cond.code x code maxLocals ret).before args0 about1 = true := code_word (m := ⟨1, 3⟩) (meth := k1m3) (c := k1c3) (by decide +kernel) rfl rfl rfl (by decide +kernel)
set_option maxRecDepth 65536 in
theorem w_c1 : (Jvm.Cond.code ({ cls := "java/lang/String", name := "<init>", desc := "([C)V" } : Jvm.MethodName) jdk_42_method_3_code (2 : Nat) (Option.none : Option Jvm.ClassFile.FieldType)).before args0 about1 = true := code_word (m := ⟨7, 1⟩) (meth := k7m1) (c := k7c1) (by decide +kernel) rfl rfl rfl (by decide +kernel)
set_option maxRecDepth 65536 in
theorem w_c2 : (Jvm.Cond.code ({ cls := "java/lang/String", name := "<init>", desc := "([CIILjava/lang/Void;)V" } : Jvm.MethodName) jdk_42_method_149_code (6 : Nat) (Option.none : Option Jvm.ClassFile.FieldType)).before args0 about1 = true := code_word (m := ⟨7, 2⟩) (meth := k7m2) (c := k7c2) (by decide +kernel) rfl rfl rfl (by decide +kernel)
set_option maxRecDepth 65536 in
theorem w_c3 : (Jvm.Cond.code ({ cls := "java/lang/Object", name := "<init>", desc := "()V" } : Jvm.MethodName) object_method_1_code (1 : Nat) (Option.none : Option Jvm.ClassFile.FieldType)).before args0 about1 = true := code_word (m := ⟨0, 0⟩) (meth := k0m0) (c := k0c0) (by decide +kernel) rfl rfl rfl (by decide +kernel)
set_option maxRecDepth 65536 in
theorem w_c4 : (Jvm.Cond.code ({ cls := "java/lang/StringUTF16", name := "compress", desc := "([CII)[B" } : Jvm.MethodName) jdk_52_method_16_code (6 : Nat) (Option.some (Jvm.ClassFile.FieldType.array Jvm.ClassFile.FieldType.byte))).before args0 about1 = true := code_word (m := ⟨8, 2⟩) (meth := k8m2) (c := k8c2) (by decide +kernel) rfl rfl rfl (by decide +kernel)
set_option maxRecDepth 65536 in
theorem w_c5 : (Jvm.Cond.code ({ cls := "java/lang/StringUTF16", name := "compress", desc := "([CI[BII)I" } : Jvm.MethodName) jdk_52_method_21_code (7 : Nat) (Option.some Jvm.ClassFile.FieldType.int)).before args0 about1 = true := code_word (m := ⟨8, 3⟩) (meth := k8m3) (c := k8c3) (by decide +kernel) rfl rfl rfl (by decide +kernel)
set_option maxRecDepth 65536 in
theorem w_c6 : (Jvm.Cond.code ({ cls := "java/lang/StringUTF16", name := "coderFromArrayLen", desc := "([BI)B" } : Jvm.MethodName) jdk_52_method_15_code (2 : Nat) (Option.some Jvm.ClassFile.FieldType.byte)).before args0 about1 = true := code_word (m := ⟨8, 1⟩) (meth := k8m1) (c := k8c1) (by decide +kernel) rfl rfl rfl (by decide +kernel)
set_option maxRecDepth 65536 in
theorem w_c7 : (Jvm.Cond.code ({ cls := "com/example/kind4/kind4/model/DomainSameTypePinLaw", name := "stor", desc := "(I)Lcom/example/kind4/kind4/model/Storage;" } : Jvm.MethodName) method_3_code (1 : Nat) (Option.some (Jvm.ClassFile.FieldType.object "com/example/kind4/kind4/model/Storage"))).before args0 about1 = true := code_word (m := ⟨1, 2⟩) (meth := k1m2) (c := k1c2) (by decide +kernel) rfl rfl rfl (by decide +kernel)
set_option maxRecDepth 65536 in
theorem w_c8 : (Jvm.Cond.code ({ cls := "com/example/kind4/kind4/model/DomainSameTypePinLaw", name := "prim", desc := "(I)Lcom/example/kind4/kind4/model/Primitive;" } : Jvm.MethodName) method_2_code (1 : Nat) (Option.some (Jvm.ClassFile.FieldType.object "com/example/kind4/kind4/model/Primitive"))).before args0 about1 = true := code_word (m := ⟨1, 1⟩) (meth := k1m1) (c := k1c1) (by decide +kernel) rfl rfl rfl (by decide +kernel)
set_option maxRecDepth 65536 in
theorem w_c9 : (Jvm.Cond.code ({ cls := "com/example/kind4/kind4/model/Domain", name := "<init>", desc := "(Ljava/lang/String;Lcom/example/kind4/kind4/model/Primitive;ILcom/example/kind4/kind4/model/Storage;I)V" } : Jvm.MethodName) prog_39_method_1_code (6 : Nat) (Option.none : Option Jvm.ClassFile.FieldType)).before args0 about1 = true := code_word (m := ⟨12, 0⟩) (meth := k12m0) (c := k12c0) (by decide +kernel) rfl rfl rfl (by decide +kernel)
set_option maxRecDepth 65536 in
theorem w_c10 : (Jvm.Cond.code ({ cls := "java/lang/Record", name := "<init>", desc := "()V" } : Jvm.MethodName) jdk_30_method_1_code (1 : Nat) (Option.none : Option Jvm.ClassFile.FieldType)).before args0 about1 = true := code_word (m := ⟨11, 0⟩) (meth := k11m0) (c := k11c0) (by decide +kernel) rfl rfl rfl (by decide +kernel)
set_option maxRecDepth 65536 in
theorem w_c11 : (Jvm.Cond.code ({ cls := "com/example/kind4/kind4/model/Domain", name := "sameType", desc := "(Lcom/example/kind4/kind4/model/Domain;)Z" } : Jvm.MethodName) prog_39_method_2_code (2 : Nat) (Option.some Jvm.ClassFile.FieldType.boolean)).before args0 about1 = true := code_word (m := ⟨12, 1⟩) (meth := k12m1) (c := k12c1) (by decide +kernel) rfl rfl rfl (by decide +kernel)
def codes1 : List Jvm.Cond := [Jvm.Cond.code x code maxLocals ret, Jvm.Cond.code ({ cls := "java/lang/String", name := "<init>", desc := "([C)V" } : Jvm.MethodName) jdk_42_method_3_code (2 : Nat) (Option.none : Option Jvm.ClassFile.FieldType), Jvm.Cond.code ({ cls := "java/lang/String", name := "<init>", desc := "([CIILjava/lang/Void;)V" } : Jvm.MethodName) jdk_42_method_149_code (6 : Nat) (Option.none : Option Jvm.ClassFile.FieldType), Jvm.Cond.code ({ cls := "java/lang/Object", name := "<init>", desc := "()V" } : Jvm.MethodName) object_method_1_code (1 : Nat) (Option.none : Option Jvm.ClassFile.FieldType), Jvm.Cond.code ({ cls := "java/lang/StringUTF16", name := "compress", desc := "([CII)[B" } : Jvm.MethodName) jdk_52_method_16_code (6 : Nat) (Option.some (Jvm.ClassFile.FieldType.array Jvm.ClassFile.FieldType.byte)), Jvm.Cond.code ({ cls := "java/lang/StringUTF16", name := "compress", desc := "([CI[BII)I" } : Jvm.MethodName) jdk_52_method_21_code (7 : Nat) (Option.some Jvm.ClassFile.FieldType.int), Jvm.Cond.code ({ cls := "java/lang/StringUTF16", name := "coderFromArrayLen", desc := "([BI)B" } : Jvm.MethodName) jdk_52_method_15_code (2 : Nat) (Option.some Jvm.ClassFile.FieldType.byte), Jvm.Cond.code ({ cls := "com/example/kind4/kind4/model/DomainSameTypePinLaw", name := "stor", desc := "(I)Lcom/example/kind4/kind4/model/Storage;" } : Jvm.MethodName) method_3_code (1 : Nat) (Option.some (Jvm.ClassFile.FieldType.object "com/example/kind4/kind4/model/Storage")), Jvm.Cond.code ({ cls := "com/example/kind4/kind4/model/DomainSameTypePinLaw", name := "prim", desc := "(I)Lcom/example/kind4/kind4/model/Primitive;" } : Jvm.MethodName) method_2_code (1 : Nat) (Option.some (Jvm.ClassFile.FieldType.object "com/example/kind4/kind4/model/Primitive")), Jvm.Cond.code ({ cls := "com/example/kind4/kind4/model/Domain", name := "<init>", desc := "(Ljava/lang/String;Lcom/example/kind4/kind4/model/Primitive;ILcom/example/kind4/kind4/model/Storage;I)V" } : Jvm.MethodName) prog_39_method_1_code (6 : Nat) (Option.none : Option Jvm.ClassFile.FieldType), Jvm.Cond.code ({ cls := "java/lang/Record", name := "<init>", desc := "()V" } : Jvm.MethodName) jdk_30_method_1_code (1 : Nat) (Option.none : Option Jvm.ClassFile.FieldType), Jvm.Cond.code ({ cls := "com/example/kind4/kind4/model/Domain", name := "sameType", desc := "(Lcom/example/kind4/kind4/model/Domain;)Z" } : Jvm.MethodName) prog_39_method_2_code (2 : Nat) (Option.some Jvm.ClassFile.FieldType.boolean)]
set_option maxRecDepth 65536 in
theorem codes_eq : words1.filter isCode = codes1 := rfl
theorem w_codes : ∀ c ∈ words1.filter isCode, c.before args0 about1 = true := by
  rw [codes_eq]
  intro c hc
  simp only [codes1, List.mem_cons, List.not_mem_nil, or_false] at hc
  rcases hc with rfl | rfl | rfl | rfl | rfl | rfl | rfl | rfl | rfl | rfl | rfl | rfl
  · exact w_c0
  · exact w_c1
  · exact w_c2
  · exact w_c3
  · exact w_c4
  · exact w_c5
  · exact w_c6
  · exact w_c7
  · exact w_c8
  · exact w_c9
  · exact w_c10
  · exact w_c11
set_option maxRecDepth 65536 in
theorem w_t1 : (words1.take 24).all (fun c => isCode c || c.before args0 about1) = true := by decide +kernel
set_option maxRecDepth 65536 in
theorem w_t2 : ((words1.drop 24).take 24).all (fun c => isCode c || c.before args0 about1) = true := by decide +kernel
set_option maxRecDepth 65536 in
theorem w_t3 : (((words1.drop 24).drop 24).take 24).all (fun c => isCode c || c.before args0 about1) = true := by decide +kernel
set_option maxRecDepth 65536 in
theorem w_t4 : ((((words1.drop 24).drop 24).drop 24).take 24).all (fun c => isCode c || c.before args0 about1) = true := by decide +kernel
set_option maxRecDepth 65536 in
theorem w_t5 : ((((words1.drop 24).drop 24).drop 24).drop 24).all (fun c => isCode c || c.before args0 about1) = true := by decide +kernel
theorem w_tables : (allAtoms (Jvm.Cond.code x code maxLocals ret :: tables_1)).before args0 about1 = true := by
  rw [allAtoms_all]
  show words1.all (fun c => c.before args0 about1) = true
  refine all_split ?_ w_codes
  rw [← List.take_append_drop 24 words1, List.all_append, w_t1, ← List.take_append_drop 24 (words1.drop 24), List.all_append, w_t2, ← List.take_append_drop 24 ((words1.drop 24).drop 24), List.all_append, w_t3, ← List.take_append_drop 24 (((words1.drop 24).drop 24).drop 24), List.all_append, w_t4, w_t5]
  rfl
set_option maxRecDepth 65536 in
theorem w_rest : rest_1_c.before args0 about1 = true := by decide +kernel
set_option maxRecDepth 65536 in
theorem w_case : (Jvm.Cond.and given_1 narrow_1).before args0 about1 = true := by decide +kernel
theorem w_applies : (headSpec (Jvm.Cond.code x code maxLocals ret :: tables_1) room_1).applies x e0.platform about1 = true :=
  (Spec.applies_iff w_frames).mpr ⟨w_running, w_runnable, w_alone, w_named, w_hears, w_ripe, w_room, w_tables⟩
theorem atStart : AtStart classFile x code maxLocals ret World_1 tables_1 room_1 Calls_1 rest_1 Pre_1 launch0 p0 e0 about1 theMethod args0 below0 :=
  ⟨lists_1, trivial, launch0.admits_env _ _ _, launch0.least_env, fairChoices_fair.cas, fairChoices_fair.clock, w_frames, w_args, w_heap, w_applies, trivial, w_rest, w_case⟩
end start1
theorem witness_1 : WitnessClaimed_1 := ⟨start1.p0, start1.e0, start1.about1, start1.theMethod, start1.args0, start1.below0, start1.atStart⟩
end Jvm.Pilot.@@N@@
