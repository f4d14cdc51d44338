import JvmDerived
import JvmDerived.Pilot.@@N@@Statement
import JvmDerived.Pilot.@@N@@Code
set_option linter.unusedVariables false
set_option linter.unusedSimpArgs false
namespace Jvm.Pilot.@@N@@
open Jvm Jvm.ClassFile Sem Op Lib Jvm.Free Jvm.Stand Jvm.LawKit Jvm.RoadKit Bundle Jvm.Pilot.@@N@@.Jvm.D
section Own
variable {p : Program} {l : Launch} {e : Env} {R : Room} {s : State} {m : MethodId} {args : Array Value} {below : List Frame} {meth : Method} {c : Code} {T : State} {locs : List Loc} {cells slots : Nat} {k n : Nat} {P : Option Value → Heap → List Loc → Prop} {A B : State}
/-- from S0 the run comes to a return with what P says -/
def OG (p : Program) (e : Env) (below : List Frame) (s : State) (k n : Nat) (P : Option Value → Heap → List Loc → Prop) (S0 : State) : Prop :=
  ∃ s₂ o, Steps p.tables e below S0 s₂ ∧ s₂.status = .running ∧ Ended s₂ below o ∧ ∃ v L, o = .returned v ∧ P v s₂.heap L ∧ FrameEnd s o s₂ L k n
theorem OG.trans (h : Steps p.tables e below B A) (g : OG p e below s k n P A) : OG p e below s k n P B := by
  obtain ⟨s₂, o, h1, r⟩ := g
  exact ⟨s₂, o, h.trans h1, r⟩
theorem OG.of (h : ∀ t, Steps p.tables e below A t → Steps p.tables e below B t) (g : OG p e below s k n P A) : OG p e below s k n P B := by
  obtain ⟨s₂, o, h1, r⟩ := g
  exact ⟨s₂, o, h _ h1, r⟩
theorem OG.retN (X : Stand p l e R s m args below meth c T locs cells slots) (hx : p.tables.exec = Jvm.exec) {pc : Nat} {Ls : Array Slot} {z : Int32} {t : FieldType} {rest : List Value} (hret : meth.sig.returnType = some t) (ht : t = .boolean ∨ t = .byte ∨ t = .char ∨ t = .short) (hd : decode c.code pc = .ok (.ireturn, 1)) (hlk : meth.locks = false)
    (hP : P (some (.int (nar t z))) T.heap locs) (hc : cells ≤ k) (hs : slots ≤ n) : OG p e below s k n P (T.setTop (mkF m pc Ls (.int z :: rest))) := by
  obtain ⟨fs, hr, hrun, hended, hW, hsame⟩ := X.leave (v := some (.int (nar t z))) (fun h => by rw [hret] at h; cases h) hlk
  exact ⟨_, _, Jvm.RoadKit.retN X hx hret ht hd hr, hrun, hended, _, _, rfl, hP, ⟨_, rfl⟩, hW, hsame.mono hc hs⟩
theorem OG.retI (X : Stand p l e R s m args below meth c T locs cells slots) (hx : p.tables.exec = Jvm.exec) {pc : Nat} {Ls : Array Slot} {z : Int32} {rest : List Value} (hret : meth.sig.returnType = some .int) (hd : decode c.code pc = .ok (.ireturn, 1)) (hlk : meth.locks = false)
    (hP : P (some (.int z)) T.heap locs) (hc : cells ≤ k) (hs : slots ≤ n) : OG p e below s k n P (T.setTop (mkF m pc Ls (.int z :: rest))) := by
  obtain ⟨fs, hr, hrun, hended, hW, hsame⟩ := X.leave (v := some (.int z)) (fun h => by rw [hret] at h; cases h) hlk
  exact ⟨_, _, retOut X hx hret rfl (Or.inl ⟨rfl, Or.inl rfl, _, rfl⟩) hd hr, hrun, hended, _, _, rfl, hP, ⟨_, rfl⟩, hW, hsame.mono hc hs⟩
theorem OG.retJ (X : Stand p l e R s m args below meth c T locs cells slots) (hx : p.tables.exec = Jvm.exec) {pc : Nat} {Ls : Array Slot} {z : Int64} {rest : List Value} (hret : meth.sig.returnType = some .long) (hd : decode c.code pc = .ok (.lreturn, 1)) (hlk : meth.locks = false)
    (hP : P (some (.long z)) T.heap locs) (hc : cells ≤ k) (hs : slots ≤ n) : OG p e below s k n P (T.setTop (mkF m pc Ls (.long z :: rest))) := by
  obtain ⟨fs, hr, hrun, hended, hW, hsame⟩ := X.leave (v := some (.long z)) (fun h => by rw [hret] at h; cases h) hlk
  exact ⟨_, _, retOut X hx hret rfl (Or.inr (Or.inl ⟨rfl, rfl, _, rfl⟩)) hd hr, hrun, hended, _, _, rfl, hP, ⟨_, rfl⟩, hW, hsame.mono hc hs⟩
theorem OG.retA (X : Stand p l e R s m args below meth c T locs cells slots) (hx : p.tables.exec = Jvm.exec) {pc : Nat} {Ls : Array Slot} {w : Value} {t : FieldType} {rest : List Value} (hret : meth.sig.returnType = some t) (ht : t.isReference = true) (hw : w.isRef = true) (hd : decode c.code pc = .ok (.areturn, 1)) (hlk : meth.locks = false)
    (hP : P (some w) T.heap locs) (hc : cells ≤ k) (hs : slots ≤ n) : OG p e below s k n P (T.setTop (mkF m pc Ls (w :: rest))) := by
  obtain ⟨fs, hr, hrun, hended, hW, hsame⟩ := X.leave (v := some w) (fun h => by rw [hret] at h; cases h) hlk
  have hn : narrow t w = w := by cases t <;> first | (cases ht; done) | rfl
  exact ⟨_, _, retOut X hx hret hn (Or.inr (Or.inr (Or.inr (Or.inr ⟨rfl, ht, hw⟩)))) hd hr, hrun, hended, _, _, rfl, hP, ⟨_, rfl⟩, hW, hsame.mono hc hs⟩
theorem OG.retV (X : Stand p l e R s m args below meth c T locs cells slots) (hx : p.tables.exec = Jvm.exec) {pc : Nat} {Ls : Array Slot} (hret : meth.sig.returnType = none) (hd : decode c.code pc = .ok (.return_, 1)) (hlk : meth.locks = false)
    (hP : P none T.heap locs) (hc : cells ≤ k) (hs : slots ≤ n) : OG p e below s k n P (T.setTop (mkF m pc Ls [])) := by
  obtain ⟨fs, hr, hrun, hended, hW, hsame⟩ := X.leave (v := none) (fun _ => rfl) hlk
  exact ⟨_, _, X.returnOut hx hret hd hr, hrun, hended, _, _, rfl, hP, ⟨_, rfl⟩, hW, hsame.mono hc hs⟩
theorem own_catI (x : Int32) : (Value.int x).category = 1 := rfl
theorem own_catJ (x : Int64) : (Value.long x).category = 2 := rfl
theorem own_catR (x : Addr) : (Value.ref x).category = 1 := rfl
theorem own_catN : Value.null.category = 1 := rfl
theorem own_narB {z : Int32} (h : z = 0 ∨ z = 1) : nar .boolean z = z := by rcases h with rfl | rfl <;> rfl
theorem own_ite01 {c : Prop} [Decidable c] : (if c then (1 : Int32) else 0) = 0 ∨ (if c then (1 : Int32) else 0) = 1 := by by_cases h : c <;> simp [h]
theorem own_eqI {args : Array Value} {first st : State} {o : Option Outcome} {idx : List Nat} {t : Term} {x : Int32} (h : (Jvm.Cond.eq t (.int x)).value args first o st idx = some true) : t.eval args first o idx st = some (.int x) := by
  obtain ⟨a, b, ha, hb, k1, k2⟩ := cmp_v (Or.inl h)
  obtain rfl : Value.int x = b := Option.some.inj hb
  obtain ⟨z, rfl⟩ := k2
  have hz := gotT (P := z = x) (by simp [Cond.value, ha, hb]) h
  rw [ha, hz]
/-- the array at a (of the kind ty) holds v at the place j -/
def ORd (Z : State) (h : Heap) (a : Addr) (ty : FieldType) (j : Int32) (v : Value) : Prop := ∃ cl : Cell, Arr Z h a cl ty ∧ ¬ (j < 0 ∨ cl.slots.size ≤ j.toNatClampNeg) ∧ cl.slots[j.toNatClampNeg]? = some v
theorem own_rd {Z : State} {h : Heap} {a : Addr} {kc : ClassId} {ty : FieldType} {z j : Int32} {vs : List Value} {d v : Value} (F : Arv Z h a kc ty z vs d) (hj : ¬ j < 0 ∧ j < z) (hv : vs.getD j.toNatClampNeg d = v) : ORd Z h a ty j v := by
  obtain ⟨cl, A, -, S, -, H, -⟩ := F
  exact ⟨cl, A, inb_of S hj, H.at (inb_of S hj) hv⟩
theorem ORd.ext {Z : State} {h h' : Heap} {a : Addr} {ty : FieldType} {j : Int32} {v : Value} (F : ORd Z h a ty j v) (E : Ext h h') : ORd Z h' a ty j v := by
  obtain ⟨cl, A, r⟩ := F; exact ⟨cl, A.ext E, r⟩
theorem ORd.other {Z : State} {h h' : Heap} {a b : Addr} {ty : FieldType} {j : Int32} {v w : Value} {sl : Nat} (F : ORd Z h a ty j v) (W : Wr h h' b sl w) (q : a ≠ b) : ORd Z h' a ty j v := by
  obtain ⟨cl, A, r⟩ := F; exact ⟨cl, A.other W q, r⟩
theorem ORd.keep {Z : State} {h h' : Heap} {a : Addr} {ty : FieldType} {j : Int32} {v : Value} {ws : List Addr} (F : ORd Z h a ty j v) (K : Keep h h' ws) (q : a ∉ ws) : ORd Z h' a ty j v := by
  obtain ⟨cl, A, r⟩ := F; exact ⟨cl, ⟨K.2.1 a cl A.1 q, A.2⟩, r⟩
theorem ORd.lt {Z : State} {h : Heap} {a : Addr} {ty : FieldType} {j : Int32} {v : Value} (F : ORd Z h a ty j v) : a < h.size := by
  obtain ⟨cl, A, r⟩ := F; exact A.lt
theorem ORd.start {Z : State} {args : Array Value} {t : Term} {a : Addr} {ty : FieldType} {j : Int32} {v : Value} (ev : t.eval args Z none [] Z = some (.ref a)) (hx : (Jvm.Cond.arrayOf t ty).value args Z none Z [] = some true) (hj : ¬ j < 0) (he : (Term.elem t (.int j)).eval args Z none [] Z = some v) : ORd Z Z.heap a ty j v := by
  obtain ⟨c, A⟩ := Arr.start ev hx
  have hA : Z.arrayAt? a = some c := Arr.fin (Vm.Alike.refl _) A
  rw [elem_f ev (Term.int_eval j) hA hj] at he
  exact ⟨c, A, fun q => q.elim hj fun q => (by rw [Array.getElem?_eq_none q] at he; cases he), he⟩
end Own

def own_in (x0 x1 x2 : Int32) : Int32 :=
  if x0 < x1 then
    (0 : Int32)
  else
    if x2 < x0 then
      (0 : Int32)
    else
      (1 : Int32)
def own_exp (x0 x1 x2 x3 x4 : Int32) : Int32 :=
  if (127 : Int32) < x0 then
    if (own_in x0 (194 : Int32) (223 : Int32)) = (0 : Int32) then
      if x0 = (224 : Int32) then
        if x4 < (3 : Int32) then
          (0 : Int32)
        else
          if (own_in x1 (160 : Int32) (191 : Int32)) = (0 : Int32) then
            (0 : Int32)
          else
            if (own_in x2 (128 : Int32) (191 : Int32)) = (0 : Int32) then
              (0 : Int32)
            else
              (3 : Int32)
      else
        if (own_in x0 (225 : Int32) (236 : Int32)) = (0 : Int32) then
          if (own_in x0 (238 : Int32) (239 : Int32)) = (0 : Int32) then
            if x0 = (237 : Int32) then
              if x4 < (3 : Int32) then
                (0 : Int32)
              else
                if (own_in x1 (128 : Int32) (159 : Int32)) = (0 : Int32) then
                  (0 : Int32)
                else
                  if (own_in x2 (128 : Int32) (191 : Int32)) = (0 : Int32) then
                    (0 : Int32)
                  else
                    (3 : Int32)
            else
              if x0 = (240 : Int32) then
                if x4 < (4 : Int32) then
                  (0 : Int32)
                else
                  if (own_in x1 (144 : Int32) (191 : Int32)) = (0 : Int32) then
                    (0 : Int32)
                  else
                    if (own_in x2 (128 : Int32) (191 : Int32)) = (0 : Int32) then
                      (0 : Int32)
                    else
                      if (own_in x3 (128 : Int32) (191 : Int32)) = (0 : Int32) then
                        (0 : Int32)
                      else
                        (4 : Int32)
              else
                if (own_in x0 (241 : Int32) (243 : Int32)) = (0 : Int32) then
                  if x0 = (244 : Int32) then
                    if x4 < (4 : Int32) then
                      (0 : Int32)
                    else
                      if (own_in x1 (128 : Int32) (143 : Int32)) = (0 : Int32) then
                        (0 : Int32)
                      else
                        if (own_in x2 (128 : Int32) (191 : Int32)) = (0 : Int32) then
                          (0 : Int32)
                        else
                          if (own_in x3 (128 : Int32) (191 : Int32)) = (0 : Int32) then
                            (0 : Int32)
                          else
                            (4 : Int32)
                  else
                    (0 : Int32)
                else
                  if x4 < (4 : Int32) then
                    (0 : Int32)
                  else
                    if (own_in x1 (128 : Int32) (191 : Int32)) = (0 : Int32) then
                      (0 : Int32)
                    else
                      if (own_in x2 (128 : Int32) (191 : Int32)) = (0 : Int32) then
                        (0 : Int32)
                      else
                        if (own_in x3 (128 : Int32) (191 : Int32)) = (0 : Int32) then
                          (0 : Int32)
                        else
                          (4 : Int32)
          else
            if x4 < (3 : Int32) then
              (0 : Int32)
            else
              if (own_in x1 (128 : Int32) (191 : Int32)) = (0 : Int32) then
                (0 : Int32)
              else
                if (own_in x2 (128 : Int32) (191 : Int32)) = (0 : Int32) then
                  (0 : Int32)
                else
                  (3 : Int32)
        else
          if x4 < (3 : Int32) then
            (0 : Int32)
          else
            if (own_in x1 (128 : Int32) (191 : Int32)) = (0 : Int32) then
              (0 : Int32)
            else
              if (own_in x2 (128 : Int32) (191 : Int32)) = (0 : Int32) then
                (0 : Int32)
              else
                (3 : Int32)
    else
      if x4 < (2 : Int32) then
        (0 : Int32)
      else
        if (own_in x1 (128 : Int32) (191 : Int32)) = (0 : Int32) then
          (0 : Int32)
        else
          (2 : Int32)
  else
    (1 : Int32)
def own_need (y0 : Int32) : Int32 := (if (y0 &&& (255 : Int32)) < (128 : Int32) then (1 : Int32) else (if (y0 &&& (255 : Int32)) < (194 : Int32) then (if (y0 &&& (255 : Int32)) < (224 : Int32) then (if (y0 &&& (255 : Int32)) < (240 : Int32) then (0 : Int32) else (if (244 : Int32) < (y0 &&& (255 : Int32)) then (0 : Int32) else (4 : Int32))) else (if (239 : Int32) < (y0 &&& (255 : Int32)) then (if (y0 &&& (255 : Int32)) < (240 : Int32) then (0 : Int32) else (if (244 : Int32) < (y0 &&& (255 : Int32)) then (0 : Int32) else (4 : Int32))) else (3 : Int32))) else (if (223 : Int32) < (y0 &&& (255 : Int32)) then (if (y0 &&& (255 : Int32)) < (224 : Int32) then (if (y0 &&& (255 : Int32)) < (240 : Int32) then (0 : Int32) else (if (244 : Int32) < (y0 &&& (255 : Int32)) then (0 : Int32) else (4 : Int32))) else (if (239 : Int32) < (y0 &&& (255 : Int32)) then (if (y0 &&& (255 : Int32)) < (240 : Int32) then (0 : Int32) else (if (244 : Int32) < (y0 &&& (255 : Int32)) then (0 : Int32) else (4 : Int32))) else (3 : Int32))) else (2 : Int32))))
def own_lo (y0 : Int32) : Int32 := (if (y0 &&& (255 : Int32)) < (128 : Int32) then (128 : Int32) else (if (y0 &&& (255 : Int32)) < (194 : Int32) then (if (y0 &&& (255 : Int32)) < (224 : Int32) then (if (y0 &&& (255 : Int32)) < (240 : Int32) then (128 : Int32) else (if (244 : Int32) < (y0 &&& (255 : Int32)) then (128 : Int32) else (if (y0 &&& (255 : Int32)) = (240 : Int32) then (144 : Int32) else (128 : Int32)))) else (if (239 : Int32) < (y0 &&& (255 : Int32)) then (if (y0 &&& (255 : Int32)) < (240 : Int32) then (128 : Int32) else (if (244 : Int32) < (y0 &&& (255 : Int32)) then (128 : Int32) else (if (y0 &&& (255 : Int32)) = (240 : Int32) then (144 : Int32) else (128 : Int32)))) else (if (y0 &&& (255 : Int32)) = (224 : Int32) then (160 : Int32) else (128 : Int32)))) else (if (223 : Int32) < (y0 &&& (255 : Int32)) then (if (y0 &&& (255 : Int32)) < (224 : Int32) then (if (y0 &&& (255 : Int32)) < (240 : Int32) then (128 : Int32) else (if (244 : Int32) < (y0 &&& (255 : Int32)) then (128 : Int32) else (if (y0 &&& (255 : Int32)) = (240 : Int32) then (144 : Int32) else (128 : Int32)))) else (if (239 : Int32) < (y0 &&& (255 : Int32)) then (if (y0 &&& (255 : Int32)) < (240 : Int32) then (128 : Int32) else (if (244 : Int32) < (y0 &&& (255 : Int32)) then (128 : Int32) else (if (y0 &&& (255 : Int32)) = (240 : Int32) then (144 : Int32) else (128 : Int32)))) else (if (y0 &&& (255 : Int32)) = (224 : Int32) then (160 : Int32) else (128 : Int32)))) else (128 : Int32))))
def own_hi (y0 : Int32) : Int32 := (if (y0 &&& (255 : Int32)) < (128 : Int32) then (191 : Int32) else (if (y0 &&& (255 : Int32)) < (194 : Int32) then (if (y0 &&& (255 : Int32)) < (224 : Int32) then (if (y0 &&& (255 : Int32)) < (240 : Int32) then (191 : Int32) else (if (244 : Int32) < (y0 &&& (255 : Int32)) then (191 : Int32) else (if (y0 &&& (255 : Int32)) = (244 : Int32) then (143 : Int32) else (191 : Int32)))) else (if (239 : Int32) < (y0 &&& (255 : Int32)) then (if (y0 &&& (255 : Int32)) < (240 : Int32) then (191 : Int32) else (if (244 : Int32) < (y0 &&& (255 : Int32)) then (191 : Int32) else (if (y0 &&& (255 : Int32)) = (244 : Int32) then (143 : Int32) else (191 : Int32)))) else (if (y0 &&& (255 : Int32)) = (237 : Int32) then (159 : Int32) else (191 : Int32)))) else (if (223 : Int32) < (y0 &&& (255 : Int32)) then (if (y0 &&& (255 : Int32)) < (224 : Int32) then (if (y0 &&& (255 : Int32)) < (240 : Int32) then (191 : Int32) else (if (244 : Int32) < (y0 &&& (255 : Int32)) then (191 : Int32) else (if (y0 &&& (255 : Int32)) = (244 : Int32) then (143 : Int32) else (191 : Int32)))) else (if (239 : Int32) < (y0 &&& (255 : Int32)) then (if (y0 &&& (255 : Int32)) < (240 : Int32) then (191 : Int32) else (if (244 : Int32) < (y0 &&& (255 : Int32)) then (191 : Int32) else (if (y0 &&& (255 : Int32)) = (244 : Int32) then (143 : Int32) else (191 : Int32)))) else (if (y0 &&& (255 : Int32)) = (237 : Int32) then (159 : Int32) else (191 : Int32)))) else (191 : Int32))))
def own_seq (y0 y1 y2 y3 av : Int32) : Int32 :=
  if (own_need y0) = (0 : Int32) then
    (0 : Int32)
  else
    if av < (own_need y0) then
      (0 : Int32)
    else
      if (1 : Int32) < (own_need y0) then
        if (y1 &&& (255 : Int32)) < (own_lo y0) then
          (0 : Int32)
        else
          if (own_hi y0) < (y1 &&& (255 : Int32)) then
            (0 : Int32)
          else
            if (2 : Int32) < (own_need y0) then
              if (y2 &&& (192 : Int32)) = (128 : Int32) then
                if (3 : Int32) < (own_need y0) then
                  if (y3 &&& (192 : Int32)) = (128 : Int32) then
                    (own_need y0)
                  else
                    (0 : Int32)
                else
                  (own_need y0)
              else
                (0 : Int32)
            else
              (own_need y0)
      else
        if (2 : Int32) < (own_need y0) then
          if (y2 &&& (192 : Int32)) = (128 : Int32) then
            if (3 : Int32) < (own_need y0) then
              if (y3 &&& (192 : Int32)) = (128 : Int32) then
                (own_need y0)
              else
                (0 : Int32)
            else
              (own_need y0)
          else
            (0 : Int32)
        else
          (own_need y0)

theorem own_byte (x : Int32) : ∃ n : Nat, n < 256 ∧ (x &&& (255 : Int32)) = Int32.ofNat n ∧ (x &&& (192 : Int32)) = Int32.ofNat (n &&& 192) := by
  refine ⟨(x &&& 255).toBitVec.toNat, ?_, ?_, ?_⟩
  · simp only [Int32.toBitVec_and, BitVec.toNat_and]
    exact Nat.lt_of_le_of_lt Nat.and_le_right (by decide)
  · apply Int32.toBitVec_inj.mp
    show _ = BitVec.ofNat 32 _
    rw [BitVec.ofNat_toNat]; simp
  · apply Int32.toBitVec_inj.mp
    show _ = BitVec.ofNat 32 _
    apply BitVec.eq_of_toNat_eq
    simp only [Int32.toBitVec_and, BitVec.toNat_and, BitVec.toNat_ofNat]
    rw [Nat.and_assoc]
    have h : (x.toBitVec.toNat &&& ((255 : Int32).toBitVec.toNat &&& 192)) ≤ 192 := Nat.le_trans Nat.and_le_right Nat.and_le_right
    rw [Nat.mod_eq_of_lt (by omega)]
    rfl
theorem own_cont : ∀ n, n < 256 → (Int32.ofNat (n &&& 192) = (128 : Int32)) = (128 ≤ n ∧ n ≤ 191) := fun n hn => propext ((by decide +kernel : ∀ n, n < 256 → (Int32.ofNat (n &&& 192) = (128 : Int32) ↔ (128 ≤ n ∧ n ≤ 191))) n hn)
theorem own_nat {n : Nat} (hn : n < 256) : (Int32.ofNat n).toInt = n := Int32.toInt_ofNat_of_lt (by omega)
theorem own_lt {i n : Nat} (hi : i < 256) (hn : n < 256) : (Int32.ofNat i < Int32.ofNat n) = (i < n) := by
  rw [Int32.lt_iff_toInt_lt, own_nat hi, own_nat hn]; exact propext ⟨by omega, by omega⟩
theorem own_eqn {i n : Nat} (hi : i < 256) (hn : n < 256) : (Int32.ofNat i = Int32.ofNat n) = (i = n) := by
  refine propext ⟨fun h => ?_, fun h => by rw [h]⟩
  have := congrArg Int32.toInt h
  rw [own_nat hi, own_nat hn] at this; omega
theorem own_inN {x lo hi : Nat} (hx : x < 256) (hl : lo < 256) (hh : hi < 256) : (own_in (Int32.ofNat x) (Int32.ofNat lo) (Int32.ofNat hi) = (0 : Int32)) = (x < lo ∨ hi < x) := by
  rw [own_in]
  simp only [own_lt hx hl, own_lt hh hx]
  by_cases h1 : x < lo
  · simp [h1]
  · by_cases h2 : hi < x
    · simp [h1, h2]
    · simp [h1, h2]
theorem own_len (k : Int32) : ∃ m : Nat, m < 4 ∧ ((XT.ushr k (1 : Int32)) &&& (3 : Int32)) = Int32.ofNat m := by
  refine ⟨((XT.ushr k 1) &&& 3).toBitVec.toNat, ?_, ?_⟩
  · simp only [Int32.toBitVec_and, BitVec.toNat_and]
    exact Nat.lt_of_le_of_lt Nat.and_le_right (by decide)
  · apply Int32.toBitVec_inj.mp
    show _ = BitVec.ofNat 32 _
    rw [BitVec.ofNat_toNat]; simp
def own_needF (l : Int32) : Int32 := (if l < (128 : Int32) then (1 : Int32) else (if l < (194 : Int32) then (if l < (224 : Int32) then (if l < (240 : Int32) then (0 : Int32) else (if (244 : Int32) < l then (0 : Int32) else (4 : Int32))) else (if (239 : Int32) < l then (if l < (240 : Int32) then (0 : Int32) else (if (244 : Int32) < l then (0 : Int32) else (4 : Int32))) else (3 : Int32))) else (if (223 : Int32) < l then (if l < (224 : Int32) then (if l < (240 : Int32) then (0 : Int32) else (if (244 : Int32) < l then (0 : Int32) else (4 : Int32))) else (if (239 : Int32) < l then (if l < (240 : Int32) then (0 : Int32) else (if (244 : Int32) < l then (0 : Int32) else (4 : Int32))) else (3 : Int32))) else (2 : Int32))))
def own_loF (l : Int32) : Int32 := (if l < (128 : Int32) then (128 : Int32) else (if l < (194 : Int32) then (if l < (224 : Int32) then (if l < (240 : Int32) then (128 : Int32) else (if (244 : Int32) < l then (128 : Int32) else (if l = (240 : Int32) then (144 : Int32) else (128 : Int32)))) else (if (239 : Int32) < l then (if l < (240 : Int32) then (128 : Int32) else (if (244 : Int32) < l then (128 : Int32) else (if l = (240 : Int32) then (144 : Int32) else (128 : Int32)))) else (if l = (224 : Int32) then (160 : Int32) else (128 : Int32)))) else (if (223 : Int32) < l then (if l < (224 : Int32) then (if l < (240 : Int32) then (128 : Int32) else (if (244 : Int32) < l then (128 : Int32) else (if l = (240 : Int32) then (144 : Int32) else (128 : Int32)))) else (if (239 : Int32) < l then (if l < (240 : Int32) then (128 : Int32) else (if (244 : Int32) < l then (128 : Int32) else (if l = (240 : Int32) then (144 : Int32) else (128 : Int32)))) else (if l = (224 : Int32) then (160 : Int32) else (128 : Int32)))) else (128 : Int32))))
def own_hiF (l : Int32) : Int32 := (if l < (128 : Int32) then (191 : Int32) else (if l < (194 : Int32) then (if l < (224 : Int32) then (if l < (240 : Int32) then (191 : Int32) else (if (244 : Int32) < l then (191 : Int32) else (if l = (244 : Int32) then (143 : Int32) else (191 : Int32)))) else (if (239 : Int32) < l then (if l < (240 : Int32) then (191 : Int32) else (if (244 : Int32) < l then (191 : Int32) else (if l = (244 : Int32) then (143 : Int32) else (191 : Int32)))) else (if l = (237 : Int32) then (159 : Int32) else (191 : Int32)))) else (if (223 : Int32) < l then (if l < (224 : Int32) then (if l < (240 : Int32) then (191 : Int32) else (if (244 : Int32) < l then (191 : Int32) else (if l = (244 : Int32) then (143 : Int32) else (191 : Int32)))) else (if (239 : Int32) < l then (if l < (240 : Int32) then (191 : Int32) else (if (244 : Int32) < l then (191 : Int32) else (if l = (244 : Int32) then (143 : Int32) else (191 : Int32)))) else (if l = (237 : Int32) then (159 : Int32) else (191 : Int32)))) else (191 : Int32))))
theorem own_cls0 : ∀ a, a < 256 → 0 ≤ a → a ≤ 127 → own_needF (Int32.ofNat a) = (1 : Int32) ∧ own_loF (Int32.ofNat a) = (128 : Int32) ∧ own_hiF (Int32.ofNat a) = (191 : Int32) := by decide +kernel
theorem own_cls1 : ∀ a, a < 256 → 128 ≤ a → a ≤ 193 → own_needF (Int32.ofNat a) = (0 : Int32) ∧ own_loF (Int32.ofNat a) = (128 : Int32) ∧ own_hiF (Int32.ofNat a) = (191 : Int32) := by decide +kernel
theorem own_cls2 : ∀ a, a < 256 → 194 ≤ a → a ≤ 223 → own_needF (Int32.ofNat a) = (2 : Int32) ∧ own_loF (Int32.ofNat a) = (128 : Int32) ∧ own_hiF (Int32.ofNat a) = (191 : Int32) := by decide +kernel
theorem own_cls3 : ∀ a, a < 256 → 224 ≤ a → a ≤ 224 → own_needF (Int32.ofNat a) = (3 : Int32) ∧ own_loF (Int32.ofNat a) = (160 : Int32) ∧ own_hiF (Int32.ofNat a) = (191 : Int32) := by decide +kernel
theorem own_cls4 : ∀ a, a < 256 → 225 ≤ a → a ≤ 236 → own_needF (Int32.ofNat a) = (3 : Int32) ∧ own_loF (Int32.ofNat a) = (128 : Int32) ∧ own_hiF (Int32.ofNat a) = (191 : Int32) := by decide +kernel
theorem own_cls5 : ∀ a, a < 256 → 237 ≤ a → a ≤ 237 → own_needF (Int32.ofNat a) = (3 : Int32) ∧ own_loF (Int32.ofNat a) = (128 : Int32) ∧ own_hiF (Int32.ofNat a) = (159 : Int32) := by decide +kernel
theorem own_cls6 : ∀ a, a < 256 → 238 ≤ a → a ≤ 239 → own_needF (Int32.ofNat a) = (3 : Int32) ∧ own_loF (Int32.ofNat a) = (128 : Int32) ∧ own_hiF (Int32.ofNat a) = (191 : Int32) := by decide +kernel
theorem own_cls7 : ∀ a, a < 256 → 240 ≤ a → a ≤ 240 → own_needF (Int32.ofNat a) = (4 : Int32) ∧ own_loF (Int32.ofNat a) = (144 : Int32) ∧ own_hiF (Int32.ofNat a) = (191 : Int32) := by decide +kernel
theorem own_cls8 : ∀ a, a < 256 → 241 ≤ a → a ≤ 243 → own_needF (Int32.ofNat a) = (4 : Int32) ∧ own_loF (Int32.ofNat a) = (128 : Int32) ∧ own_hiF (Int32.ofNat a) = (191 : Int32) := by decide +kernel
theorem own_cls9 : ∀ a, a < 256 → 244 ≤ a → a ≤ 244 → own_needF (Int32.ofNat a) = (4 : Int32) ∧ own_loF (Int32.ofNat a) = (128 : Int32) ∧ own_hiF (Int32.ofNat a) = (143 : Int32) := by decide +kernel
theorem own_cls10 : ∀ a, a < 256 → 245 ≤ a → a ≤ 255 → own_needF (Int32.ofNat a) = (0 : Int32) ∧ own_loF (Int32.ofNat a) = (128 : Int32) ∧ own_hiF (Int32.ofNat a) = (191 : Int32) := by decide +kernel
theorem own_need4 (y0 : Int32) : ¬ (4 : Int32) < (own_need y0) := by
  obtain ⟨a, ha, ea, -⟩ := own_byte y0
  rw [show own_need y0 = own_needF (y0 &&& (255 : Int32)) from rfl, ea]
  exact (by decide +kernel : ∀ a, a < 256 → ¬ (4 : Int32) < own_needF (Int32.ofNat a)) a ha
theorem own_l0 {n : Nat} (h : n < 256) : (Int32.ofNat n < (0 : Int32)) = (n < 0) := own_lt h (by decide)
theorem own_g0 {n : Nat} (h : n < 256) : ((0 : Int32) < Int32.ofNat n) = (0 < n) := own_lt (by decide) h
theorem own_e0 {n : Nat} (h : n < 256) : (Int32.ofNat n = (0 : Int32)) = (n = 0) := own_eqn h (by decide)
theorem own_l1 {n : Nat} (h : n < 256) : (Int32.ofNat n < (1 : Int32)) = (n < 1) := own_lt h (by decide)
theorem own_g1 {n : Nat} (h : n < 256) : ((1 : Int32) < Int32.ofNat n) = (1 < n) := own_lt (by decide) h
theorem own_e1 {n : Nat} (h : n < 256) : (Int32.ofNat n = (1 : Int32)) = (n = 1) := own_eqn h (by decide)
theorem own_l2 {n : Nat} (h : n < 256) : (Int32.ofNat n < (2 : Int32)) = (n < 2) := own_lt h (by decide)
theorem own_g2 {n : Nat} (h : n < 256) : ((2 : Int32) < Int32.ofNat n) = (2 < n) := own_lt (by decide) h
theorem own_e2 {n : Nat} (h : n < 256) : (Int32.ofNat n = (2 : Int32)) = (n = 2) := own_eqn h (by decide)
theorem own_l3 {n : Nat} (h : n < 256) : (Int32.ofNat n < (3 : Int32)) = (n < 3) := own_lt h (by decide)
theorem own_g3 {n : Nat} (h : n < 256) : ((3 : Int32) < Int32.ofNat n) = (3 < n) := own_lt (by decide) h
theorem own_e3 {n : Nat} (h : n < 256) : (Int32.ofNat n = (3 : Int32)) = (n = 3) := own_eqn h (by decide)
theorem own_l4 {n : Nat} (h : n < 256) : (Int32.ofNat n < (4 : Int32)) = (n < 4) := own_lt h (by decide)
theorem own_g4 {n : Nat} (h : n < 256) : ((4 : Int32) < Int32.ofNat n) = (4 < n) := own_lt (by decide) h
theorem own_e4 {n : Nat} (h : n < 256) : (Int32.ofNat n = (4 : Int32)) = (n = 4) := own_eqn h (by decide)
theorem own_l127 {n : Nat} (h : n < 256) : (Int32.ofNat n < (127 : Int32)) = (n < 127) := own_lt h (by decide)
theorem own_g127 {n : Nat} (h : n < 256) : ((127 : Int32) < Int32.ofNat n) = (127 < n) := own_lt (by decide) h
theorem own_e127 {n : Nat} (h : n < 256) : (Int32.ofNat n = (127 : Int32)) = (n = 127) := own_eqn h (by decide)
theorem own_l128 {n : Nat} (h : n < 256) : (Int32.ofNat n < (128 : Int32)) = (n < 128) := own_lt h (by decide)
theorem own_g128 {n : Nat} (h : n < 256) : ((128 : Int32) < Int32.ofNat n) = (128 < n) := own_lt (by decide) h
theorem own_e128 {n : Nat} (h : n < 256) : (Int32.ofNat n = (128 : Int32)) = (n = 128) := own_eqn h (by decide)
theorem own_l143 {n : Nat} (h : n < 256) : (Int32.ofNat n < (143 : Int32)) = (n < 143) := own_lt h (by decide)
theorem own_g143 {n : Nat} (h : n < 256) : ((143 : Int32) < Int32.ofNat n) = (143 < n) := own_lt (by decide) h
theorem own_e143 {n : Nat} (h : n < 256) : (Int32.ofNat n = (143 : Int32)) = (n = 143) := own_eqn h (by decide)
theorem own_l144 {n : Nat} (h : n < 256) : (Int32.ofNat n < (144 : Int32)) = (n < 144) := own_lt h (by decide)
theorem own_g144 {n : Nat} (h : n < 256) : ((144 : Int32) < Int32.ofNat n) = (144 < n) := own_lt (by decide) h
theorem own_e144 {n : Nat} (h : n < 256) : (Int32.ofNat n = (144 : Int32)) = (n = 144) := own_eqn h (by decide)
theorem own_l159 {n : Nat} (h : n < 256) : (Int32.ofNat n < (159 : Int32)) = (n < 159) := own_lt h (by decide)
theorem own_g159 {n : Nat} (h : n < 256) : ((159 : Int32) < Int32.ofNat n) = (159 < n) := own_lt (by decide) h
theorem own_e159 {n : Nat} (h : n < 256) : (Int32.ofNat n = (159 : Int32)) = (n = 159) := own_eqn h (by decide)
theorem own_l160 {n : Nat} (h : n < 256) : (Int32.ofNat n < (160 : Int32)) = (n < 160) := own_lt h (by decide)
theorem own_g160 {n : Nat} (h : n < 256) : ((160 : Int32) < Int32.ofNat n) = (160 < n) := own_lt (by decide) h
theorem own_e160 {n : Nat} (h : n < 256) : (Int32.ofNat n = (160 : Int32)) = (n = 160) := own_eqn h (by decide)
theorem own_l191 {n : Nat} (h : n < 256) : (Int32.ofNat n < (191 : Int32)) = (n < 191) := own_lt h (by decide)
theorem own_g191 {n : Nat} (h : n < 256) : ((191 : Int32) < Int32.ofNat n) = (191 < n) := own_lt (by decide) h
theorem own_e191 {n : Nat} (h : n < 256) : (Int32.ofNat n = (191 : Int32)) = (n = 191) := own_eqn h (by decide)
theorem own_l194 {n : Nat} (h : n < 256) : (Int32.ofNat n < (194 : Int32)) = (n < 194) := own_lt h (by decide)
theorem own_g194 {n : Nat} (h : n < 256) : ((194 : Int32) < Int32.ofNat n) = (194 < n) := own_lt (by decide) h
theorem own_e194 {n : Nat} (h : n < 256) : (Int32.ofNat n = (194 : Int32)) = (n = 194) := own_eqn h (by decide)
theorem own_l223 {n : Nat} (h : n < 256) : (Int32.ofNat n < (223 : Int32)) = (n < 223) := own_lt h (by decide)
theorem own_g223 {n : Nat} (h : n < 256) : ((223 : Int32) < Int32.ofNat n) = (223 < n) := own_lt (by decide) h
theorem own_e223 {n : Nat} (h : n < 256) : (Int32.ofNat n = (223 : Int32)) = (n = 223) := own_eqn h (by decide)
theorem own_l224 {n : Nat} (h : n < 256) : (Int32.ofNat n < (224 : Int32)) = (n < 224) := own_lt h (by decide)
theorem own_g224 {n : Nat} (h : n < 256) : ((224 : Int32) < Int32.ofNat n) = (224 < n) := own_lt (by decide) h
theorem own_e224 {n : Nat} (h : n < 256) : (Int32.ofNat n = (224 : Int32)) = (n = 224) := own_eqn h (by decide)
theorem own_l225 {n : Nat} (h : n < 256) : (Int32.ofNat n < (225 : Int32)) = (n < 225) := own_lt h (by decide)
theorem own_g225 {n : Nat} (h : n < 256) : ((225 : Int32) < Int32.ofNat n) = (225 < n) := own_lt (by decide) h
theorem own_e225 {n : Nat} (h : n < 256) : (Int32.ofNat n = (225 : Int32)) = (n = 225) := own_eqn h (by decide)
theorem own_l236 {n : Nat} (h : n < 256) : (Int32.ofNat n < (236 : Int32)) = (n < 236) := own_lt h (by decide)
theorem own_g236 {n : Nat} (h : n < 256) : ((236 : Int32) < Int32.ofNat n) = (236 < n) := own_lt (by decide) h
theorem own_e236 {n : Nat} (h : n < 256) : (Int32.ofNat n = (236 : Int32)) = (n = 236) := own_eqn h (by decide)
theorem own_l237 {n : Nat} (h : n < 256) : (Int32.ofNat n < (237 : Int32)) = (n < 237) := own_lt h (by decide)
theorem own_g237 {n : Nat} (h : n < 256) : ((237 : Int32) < Int32.ofNat n) = (237 < n) := own_lt (by decide) h
theorem own_e237 {n : Nat} (h : n < 256) : (Int32.ofNat n = (237 : Int32)) = (n = 237) := own_eqn h (by decide)
theorem own_l238 {n : Nat} (h : n < 256) : (Int32.ofNat n < (238 : Int32)) = (n < 238) := own_lt h (by decide)
theorem own_g238 {n : Nat} (h : n < 256) : ((238 : Int32) < Int32.ofNat n) = (238 < n) := own_lt (by decide) h
theorem own_e238 {n : Nat} (h : n < 256) : (Int32.ofNat n = (238 : Int32)) = (n = 238) := own_eqn h (by decide)
theorem own_l239 {n : Nat} (h : n < 256) : (Int32.ofNat n < (239 : Int32)) = (n < 239) := own_lt h (by decide)
theorem own_g239 {n : Nat} (h : n < 256) : ((239 : Int32) < Int32.ofNat n) = (239 < n) := own_lt (by decide) h
theorem own_e239 {n : Nat} (h : n < 256) : (Int32.ofNat n = (239 : Int32)) = (n = 239) := own_eqn h (by decide)
theorem own_l240 {n : Nat} (h : n < 256) : (Int32.ofNat n < (240 : Int32)) = (n < 240) := own_lt h (by decide)
theorem own_g240 {n : Nat} (h : n < 256) : ((240 : Int32) < Int32.ofNat n) = (240 < n) := own_lt (by decide) h
theorem own_e240 {n : Nat} (h : n < 256) : (Int32.ofNat n = (240 : Int32)) = (n = 240) := own_eqn h (by decide)
theorem own_l241 {n : Nat} (h : n < 256) : (Int32.ofNat n < (241 : Int32)) = (n < 241) := own_lt h (by decide)
theorem own_g241 {n : Nat} (h : n < 256) : ((241 : Int32) < Int32.ofNat n) = (241 < n) := own_lt (by decide) h
theorem own_e241 {n : Nat} (h : n < 256) : (Int32.ofNat n = (241 : Int32)) = (n = 241) := own_eqn h (by decide)
theorem own_l243 {n : Nat} (h : n < 256) : (Int32.ofNat n < (243 : Int32)) = (n < 243) := own_lt h (by decide)
theorem own_g243 {n : Nat} (h : n < 256) : ((243 : Int32) < Int32.ofNat n) = (243 < n) := own_lt (by decide) h
theorem own_e243 {n : Nat} (h : n < 256) : (Int32.ofNat n = (243 : Int32)) = (n = 243) := own_eqn h (by decide)
theorem own_l244 {n : Nat} (h : n < 256) : (Int32.ofNat n < (244 : Int32)) = (n < 244) := own_lt h (by decide)
theorem own_g244 {n : Nat} (h : n < 256) : ((244 : Int32) < Int32.ofNat n) = (244 < n) := own_lt (by decide) h
theorem own_e244 {n : Nat} (h : n < 256) : (Int32.ofNat n = (244 : Int32)) = (n = 244) := own_eqn h (by decide)
theorem own_i128_143 {n : Nat} (h : n < 256) : (own_in (Int32.ofNat n) (128 : Int32) (143 : Int32) = (0 : Int32)) = (n < 128 ∨ 143 < n) := own_inN h (by decide) (by decide)
theorem own_i128_159 {n : Nat} (h : n < 256) : (own_in (Int32.ofNat n) (128 : Int32) (159 : Int32) = (0 : Int32)) = (n < 128 ∨ 159 < n) := own_inN h (by decide) (by decide)
theorem own_i128_191 {n : Nat} (h : n < 256) : (own_in (Int32.ofNat n) (128 : Int32) (191 : Int32) = (0 : Int32)) = (n < 128 ∨ 191 < n) := own_inN h (by decide) (by decide)
theorem own_i144_191 {n : Nat} (h : n < 256) : (own_in (Int32.ofNat n) (144 : Int32) (191 : Int32) = (0 : Int32)) = (n < 144 ∨ 191 < n) := own_inN h (by decide) (by decide)
theorem own_i160_191 {n : Nat} (h : n < 256) : (own_in (Int32.ofNat n) (160 : Int32) (191 : Int32) = (0 : Int32)) = (n < 160 ∨ 191 < n) := own_inN h (by decide) (by decide)
theorem own_i194_223 {n : Nat} (h : n < 256) : (own_in (Int32.ofNat n) (194 : Int32) (223 : Int32) = (0 : Int32)) = (n < 194 ∨ 223 < n) := own_inN h (by decide) (by decide)
theorem own_i225_236 {n : Nat} (h : n < 256) : (own_in (Int32.ofNat n) (225 : Int32) (236 : Int32) = (0 : Int32)) = (n < 225 ∨ 236 < n) := own_inN h (by decide) (by decide)
theorem own_i238_239 {n : Nat} (h : n < 256) : (own_in (Int32.ofNat n) (238 : Int32) (239 : Int32) = (0 : Int32)) = (n < 238 ∨ 239 < n) := own_inN h (by decide) (by decide)
theorem own_i241_243 {n : Nat} (h : n < 256) : (own_in (Int32.ofNat n) (241 : Int32) (243 : Int32) = (0 : Int32)) = (n < 241 ∨ 243 < n) := own_inN h (by decide) (by decide)
theorem own_s0_0 : ((0 : Int32) = (0 : Int32)) = True := eq_true (by decide)
theorem own_s0_1 : ((1 : Int32) < (0 : Int32)) = False := eq_false (by decide)
theorem own_s0_2 : ((2 : Int32) < (0 : Int32)) = False := eq_false (by decide)
theorem own_s0_3 : ((3 : Int32) < (0 : Int32)) = False := eq_false (by decide)
theorem own_s1_0 : ((1 : Int32) = (0 : Int32)) = False := eq_false (by decide)
theorem own_s1_1 : ((1 : Int32) < (1 : Int32)) = False := eq_false (by decide)
theorem own_s1_2 : ((2 : Int32) < (1 : Int32)) = False := eq_false (by decide)
theorem own_s1_3 : ((3 : Int32) < (1 : Int32)) = False := eq_false (by decide)
theorem own_s2_0 : ((2 : Int32) = (0 : Int32)) = False := eq_false (by decide)
theorem own_s2_1 : ((1 : Int32) < (2 : Int32)) = True := eq_true (by decide)
theorem own_s2_2 : ((2 : Int32) < (2 : Int32)) = False := eq_false (by decide)
theorem own_s2_3 : ((3 : Int32) < (2 : Int32)) = False := eq_false (by decide)
theorem own_s3_0 : ((3 : Int32) = (0 : Int32)) = False := eq_false (by decide)
theorem own_s3_1 : ((1 : Int32) < (3 : Int32)) = True := eq_true (by decide)
theorem own_s3_2 : ((2 : Int32) < (3 : Int32)) = True := eq_true (by decide)
theorem own_s3_3 : ((3 : Int32) < (3 : Int32)) = False := eq_false (by decide)
theorem own_s4_0 : ((4 : Int32) = (0 : Int32)) = False := eq_false (by decide)
theorem own_s4_1 : ((1 : Int32) < (4 : Int32)) = True := eq_true (by decide)
theorem own_s4_2 : ((2 : Int32) < (4 : Int32)) = True := eq_true (by decide)
theorem own_s4_3 : ((3 : Int32) < (4 : Int32)) = True := eq_true (by decide)
set_option maxHeartbeats 40000000 in
theorem own_main0 {y0 y1 y2 y3 : Int32} {a b c d m : Nat} (ha : a < 256) (hb : b < 256) (hc : c < 256) (hd : d < 256) (ea : (y0 &&& (255 : Int32)) = Int32.ofNat a) (eb : (y1 &&& (255 : Int32)) = Int32.ofNat b) (ec' : (y2 &&& (192 : Int32)) = Int32.ofNat (c &&& 192)) (ed' : (y3 &&& (192 : Int32)) = Int32.ofNat (d &&& 192)) (hm1 : 1 ≤ m) (hm : m < 256) (q1 : 0 ≤ a) (q2 : a ≤ 127) :
    own_seq y0 y1 y2 y3 (Int32.ofNat m) = own_exp (Int32.ofNat a) (Int32.ofNat b) (Int32.ofNat c) (Int32.ofNat d) (Int32.ofNat m) := by
  obtain ⟨c1, c2, c3⟩ := own_cls0 a ha q1 q2
  have e1 : own_need y0 = (1 : Int32) := by rw [← c1, ← ea]; rfl
  have e2 : own_lo y0 = (128 : Int32) := by rw [← c2, ← ea]; rfl
  have e3 : own_hi y0 = (191 : Int32) := by rw [← c3, ← ea]; rfl
  rw [own_exp, if_neg (by rw [own_g127 ha]; omega)]
  simp only [own_seq, e1, e2, e3, eb, ec', ed', own_cont c hc, own_cont d hd, own_l0 hb, own_g0 hb, own_e0 hb, own_l1 hb, own_g1 hb, own_e1 hb, own_l2 hb, own_g2 hb, own_e2 hb, own_l3 hb, own_g3 hb, own_e3 hb, own_l4 hb, own_g4 hb, own_e4 hb, own_l127 hb, own_g127 hb, own_e127 hb, own_l128 hb, own_g128 hb, own_e128 hb, own_l143 hb, own_g143 hb, own_e143 hb, own_l144 hb, own_g144 hb, own_e144 hb, own_l159 hb, own_g159 hb, own_e159 hb, own_l160 hb, own_g160 hb, own_e160 hb, own_l191 hb, own_g191 hb, own_e191 hb, own_l194 hb, own_g194 hb, own_e194 hb, own_l223 hb, own_g223 hb, own_e223 hb, own_l224 hb, own_g224 hb, own_e224 hb, own_l225 hb, own_g225 hb, own_e225 hb, own_l236 hb, own_g236 hb, own_e236 hb, own_l237 hb, own_g237 hb, own_e237 hb, own_l238 hb, own_g238 hb, own_e238 hb, own_l239 hb, own_g239 hb, own_e239 hb, own_l240 hb, own_g240 hb, own_e240 hb, own_l241 hb, own_g241 hb, own_e241 hb, own_l243 hb, own_g243 hb, own_e243 hb, own_l244 hb, own_g244 hb, own_e244 hb, own_i128_143 hb, own_i128_159 hb, own_i128_191 hb, own_i144_191 hb, own_i160_191 hb, own_i194_223 hb, own_i225_236 hb, own_i238_239 hb, own_i241_243 hb, own_l0 hc, own_g0 hc, own_e0 hc, own_l1 hc, own_g1 hc, own_e1 hc, own_l2 hc, own_g2 hc, own_e2 hc, own_l3 hc, own_g3 hc, own_e3 hc, own_l4 hc, own_g4 hc, own_e4 hc, own_l127 hc, own_g127 hc, own_e127 hc, own_l128 hc, own_g128 hc, own_e128 hc, own_l143 hc, own_g143 hc, own_e143 hc, own_l144 hc, own_g144 hc, own_e144 hc, own_l159 hc, own_g159 hc, own_e159 hc, own_l160 hc, own_g160 hc, own_e160 hc, own_l191 hc, own_g191 hc, own_e191 hc, own_l194 hc, own_g194 hc, own_e194 hc, own_l223 hc, own_g223 hc, own_e223 hc, own_l224 hc, own_g224 hc, own_e224 hc, own_l225 hc, own_g225 hc, own_e225 hc, own_l236 hc, own_g236 hc, own_e236 hc, own_l237 hc, own_g237 hc, own_e237 hc, own_l238 hc, own_g238 hc, own_e238 hc, own_l239 hc, own_g239 hc, own_e239 hc, own_l240 hc, own_g240 hc, own_e240 hc, own_l241 hc, own_g241 hc, own_e241 hc, own_l243 hc, own_g243 hc, own_e243 hc, own_l244 hc, own_g244 hc, own_e244 hc, own_i128_143 hc, own_i128_159 hc, own_i128_191 hc, own_i144_191 hc, own_i160_191 hc, own_i194_223 hc, own_i225_236 hc, own_i238_239 hc, own_i241_243 hc, own_l0 hd, own_g0 hd, own_e0 hd, own_l1 hd, own_g1 hd, own_e1 hd, own_l2 hd, own_g2 hd, own_e2 hd, own_l3 hd, own_g3 hd, own_e3 hd, own_l4 hd, own_g4 hd, own_e4 hd, own_l127 hd, own_g127 hd, own_e127 hd, own_l128 hd, own_g128 hd, own_e128 hd, own_l143 hd, own_g143 hd, own_e143 hd, own_l144 hd, own_g144 hd, own_e144 hd, own_l159 hd, own_g159 hd, own_e159 hd, own_l160 hd, own_g160 hd, own_e160 hd, own_l191 hd, own_g191 hd, own_e191 hd, own_l194 hd, own_g194 hd, own_e194 hd, own_l223 hd, own_g223 hd, own_e223 hd, own_l224 hd, own_g224 hd, own_e224 hd, own_l225 hd, own_g225 hd, own_e225 hd, own_l236 hd, own_g236 hd, own_e236 hd, own_l237 hd, own_g237 hd, own_e237 hd, own_l238 hd, own_g238 hd, own_e238 hd, own_l239 hd, own_g239 hd, own_e239 hd, own_l240 hd, own_g240 hd, own_e240 hd, own_l241 hd, own_g241 hd, own_e241 hd, own_l243 hd, own_g243 hd, own_e243 hd, own_l244 hd, own_g244 hd, own_e244 hd, own_i128_143 hd, own_i128_159 hd, own_i128_191 hd, own_i144_191 hd, own_i160_191 hd, own_i194_223 hd, own_i225_236 hd, own_i238_239 hd, own_i241_243 hd, own_l0 hm, own_g0 hm, own_e0 hm, own_l1 hm, own_g1 hm, own_e1 hm, own_l2 hm, own_g2 hm, own_e2 hm, own_l3 hm, own_g3 hm, own_e3 hm, own_l4 hm, own_g4 hm, own_e4 hm, own_l127 hm, own_g127 hm, own_e127 hm, own_l128 hm, own_g128 hm, own_e128 hm, own_l143 hm, own_g143 hm, own_e143 hm, own_l144 hm, own_g144 hm, own_e144 hm, own_l159 hm, own_g159 hm, own_e159 hm, own_l160 hm, own_g160 hm, own_e160 hm, own_l191 hm, own_g191 hm, own_e191 hm, own_l194 hm, own_g194 hm, own_e194 hm, own_l223 hm, own_g223 hm, own_e223 hm, own_l224 hm, own_g224 hm, own_e224 hm, own_l225 hm, own_g225 hm, own_e225 hm, own_l236 hm, own_g236 hm, own_e236 hm, own_l237 hm, own_g237 hm, own_e237 hm, own_l238 hm, own_g238 hm, own_e238 hm, own_l239 hm, own_g239 hm, own_e239 hm, own_l240 hm, own_g240 hm, own_e240 hm, own_l241 hm, own_g241 hm, own_e241 hm, own_l243 hm, own_g243 hm, own_e243 hm, own_l244 hm, own_g244 hm, own_e244 hm, own_i128_143 hm, own_i128_159 hm, own_i128_191 hm, own_i144_191 hm, own_i160_191 hm, own_i194_223 hm, own_i225_236 hm, own_i238_239 hm, own_i241_243 hm, own_s0_0, own_s0_1, own_s0_2, own_s0_3, own_s1_0, own_s1_1, own_s1_2, own_s1_3, own_s2_0, own_s2_1, own_s2_2, own_s2_3, own_s3_0, own_s3_1, own_s3_2, own_s3_3, own_s4_0, own_s4_1, own_s4_2, own_s4_3, if_true, if_false]
  all_goals repeat' split
  all_goals first | rfl | (exfalso; omega)
set_option maxHeartbeats 40000000 in
theorem own_main1 {y0 y1 y2 y3 : Int32} {a b c d m : Nat} (ha : a < 256) (hb : b < 256) (hc : c < 256) (hd : d < 256) (ea : (y0 &&& (255 : Int32)) = Int32.ofNat a) (eb : (y1 &&& (255 : Int32)) = Int32.ofNat b) (ec' : (y2 &&& (192 : Int32)) = Int32.ofNat (c &&& 192)) (ed' : (y3 &&& (192 : Int32)) = Int32.ofNat (d &&& 192)) (hm1 : 1 ≤ m) (hm : m < 256) (q1 : 128 ≤ a) (q2 : a ≤ 193) :
    own_seq y0 y1 y2 y3 (Int32.ofNat m) = own_exp (Int32.ofNat a) (Int32.ofNat b) (Int32.ofNat c) (Int32.ofNat d) (Int32.ofNat m) := by
  obtain ⟨c1, c2, c3⟩ := own_cls1 a ha q1 q2
  have e1 : own_need y0 = (0 : Int32) := by rw [← c1, ← ea]; rfl
  have e2 : own_lo y0 = (128 : Int32) := by rw [← c2, ← ea]; rfl
  have e3 : own_hi y0 = (191 : Int32) := by rw [← c3, ← ea]; rfl
  rw [own_exp, if_pos (by rw [own_g127 ha]; omega), if_pos (by rw [own_i194_223 ha]; omega), if_neg (by rw [own_e224 ha]; omega), if_pos (by rw [own_i225_236 ha]; omega), if_pos (by rw [own_i238_239 ha]; omega), if_neg (by rw [own_e237 ha]; omega), if_neg (by rw [own_e240 ha]; omega), if_pos (by rw [own_i241_243 ha]; omega), if_neg (by rw [own_e244 ha]; omega)]
  simp only [own_seq, e1, e2, e3, eb, ec', ed', own_cont c hc, own_cont d hd, own_l0 hb, own_g0 hb, own_e0 hb, own_l1 hb, own_g1 hb, own_e1 hb, own_l2 hb, own_g2 hb, own_e2 hb, own_l3 hb, own_g3 hb, own_e3 hb, own_l4 hb, own_g4 hb, own_e4 hb, own_l127 hb, own_g127 hb, own_e127 hb, own_l128 hb, own_g128 hb, own_e128 hb, own_l143 hb, own_g143 hb, own_e143 hb, own_l144 hb, own_g144 hb, own_e144 hb, own_l159 hb, own_g159 hb, own_e159 hb, own_l160 hb, own_g160 hb, own_e160 hb, own_l191 hb, own_g191 hb, own_e191 hb, own_l194 hb, own_g194 hb, own_e194 hb, own_l223 hb, own_g223 hb, own_e223 hb, own_l224 hb, own_g224 hb, own_e224 hb, own_l225 hb, own_g225 hb, own_e225 hb, own_l236 hb, own_g236 hb, own_e236 hb, own_l237 hb, own_g237 hb, own_e237 hb, own_l238 hb, own_g238 hb, own_e238 hb, own_l239 hb, own_g239 hb, own_e239 hb, own_l240 hb, own_g240 hb, own_e240 hb, own_l241 hb, own_g241 hb, own_e241 hb, own_l243 hb, own_g243 hb, own_e243 hb, own_l244 hb, own_g244 hb, own_e244 hb, own_i128_143 hb, own_i128_159 hb, own_i128_191 hb, own_i144_191 hb, own_i160_191 hb, own_i194_223 hb, own_i225_236 hb, own_i238_239 hb, own_i241_243 hb, own_l0 hc, own_g0 hc, own_e0 hc, own_l1 hc, own_g1 hc, own_e1 hc, own_l2 hc, own_g2 hc, own_e2 hc, own_l3 hc, own_g3 hc, own_e3 hc, own_l4 hc, own_g4 hc, own_e4 hc, own_l127 hc, own_g127 hc, own_e127 hc, own_l128 hc, own_g128 hc, own_e128 hc, own_l143 hc, own_g143 hc, own_e143 hc, own_l144 hc, own_g144 hc, own_e144 hc, own_l159 hc, own_g159 hc, own_e159 hc, own_l160 hc, own_g160 hc, own_e160 hc, own_l191 hc, own_g191 hc, own_e191 hc, own_l194 hc, own_g194 hc, own_e194 hc, own_l223 hc, own_g223 hc, own_e223 hc, own_l224 hc, own_g224 hc, own_e224 hc, own_l225 hc, own_g225 hc, own_e225 hc, own_l236 hc, own_g236 hc, own_e236 hc, own_l237 hc, own_g237 hc, own_e237 hc, own_l238 hc, own_g238 hc, own_e238 hc, own_l239 hc, own_g239 hc, own_e239 hc, own_l240 hc, own_g240 hc, own_e240 hc, own_l241 hc, own_g241 hc, own_e241 hc, own_l243 hc, own_g243 hc, own_e243 hc, own_l244 hc, own_g244 hc, own_e244 hc, own_i128_143 hc, own_i128_159 hc, own_i128_191 hc, own_i144_191 hc, own_i160_191 hc, own_i194_223 hc, own_i225_236 hc, own_i238_239 hc, own_i241_243 hc, own_l0 hd, own_g0 hd, own_e0 hd, own_l1 hd, own_g1 hd, own_e1 hd, own_l2 hd, own_g2 hd, own_e2 hd, own_l3 hd, own_g3 hd, own_e3 hd, own_l4 hd, own_g4 hd, own_e4 hd, own_l127 hd, own_g127 hd, own_e127 hd, own_l128 hd, own_g128 hd, own_e128 hd, own_l143 hd, own_g143 hd, own_e143 hd, own_l144 hd, own_g144 hd, own_e144 hd, own_l159 hd, own_g159 hd, own_e159 hd, own_l160 hd, own_g160 hd, own_e160 hd, own_l191 hd, own_g191 hd, own_e191 hd, own_l194 hd, own_g194 hd, own_e194 hd, own_l223 hd, own_g223 hd, own_e223 hd, own_l224 hd, own_g224 hd, own_e224 hd, own_l225 hd, own_g225 hd, own_e225 hd, own_l236 hd, own_g236 hd, own_e236 hd, own_l237 hd, own_g237 hd, own_e237 hd, own_l238 hd, own_g238 hd, own_e238 hd, own_l239 hd, own_g239 hd, own_e239 hd, own_l240 hd, own_g240 hd, own_e240 hd, own_l241 hd, own_g241 hd, own_e241 hd, own_l243 hd, own_g243 hd, own_e243 hd, own_l244 hd, own_g244 hd, own_e244 hd, own_i128_143 hd, own_i128_159 hd, own_i128_191 hd, own_i144_191 hd, own_i160_191 hd, own_i194_223 hd, own_i225_236 hd, own_i238_239 hd, own_i241_243 hd, own_l0 hm, own_g0 hm, own_e0 hm, own_l1 hm, own_g1 hm, own_e1 hm, own_l2 hm, own_g2 hm, own_e2 hm, own_l3 hm, own_g3 hm, own_e3 hm, own_l4 hm, own_g4 hm, own_e4 hm, own_l127 hm, own_g127 hm, own_e127 hm, own_l128 hm, own_g128 hm, own_e128 hm, own_l143 hm, own_g143 hm, own_e143 hm, own_l144 hm, own_g144 hm, own_e144 hm, own_l159 hm, own_g159 hm, own_e159 hm, own_l160 hm, own_g160 hm, own_e160 hm, own_l191 hm, own_g191 hm, own_e191 hm, own_l194 hm, own_g194 hm, own_e194 hm, own_l223 hm, own_g223 hm, own_e223 hm, own_l224 hm, own_g224 hm, own_e224 hm, own_l225 hm, own_g225 hm, own_e225 hm, own_l236 hm, own_g236 hm, own_e236 hm, own_l237 hm, own_g237 hm, own_e237 hm, own_l238 hm, own_g238 hm, own_e238 hm, own_l239 hm, own_g239 hm, own_e239 hm, own_l240 hm, own_g240 hm, own_e240 hm, own_l241 hm, own_g241 hm, own_e241 hm, own_l243 hm, own_g243 hm, own_e243 hm, own_l244 hm, own_g244 hm, own_e244 hm, own_i128_143 hm, own_i128_159 hm, own_i128_191 hm, own_i144_191 hm, own_i160_191 hm, own_i194_223 hm, own_i225_236 hm, own_i238_239 hm, own_i241_243 hm, own_s0_0, own_s0_1, own_s0_2, own_s0_3, own_s1_0, own_s1_1, own_s1_2, own_s1_3, own_s2_0, own_s2_1, own_s2_2, own_s2_3, own_s3_0, own_s3_1, own_s3_2, own_s3_3, own_s4_0, own_s4_1, own_s4_2, own_s4_3, if_true, if_false]
  all_goals repeat' split
  all_goals first | rfl | (exfalso; omega)
set_option maxHeartbeats 40000000 in
theorem own_main2 {y0 y1 y2 y3 : Int32} {a b c d m : Nat} (ha : a < 256) (hb : b < 256) (hc : c < 256) (hd : d < 256) (ea : (y0 &&& (255 : Int32)) = Int32.ofNat a) (eb : (y1 &&& (255 : Int32)) = Int32.ofNat b) (ec' : (y2 &&& (192 : Int32)) = Int32.ofNat (c &&& 192)) (ed' : (y3 &&& (192 : Int32)) = Int32.ofNat (d &&& 192)) (hm1 : 1 ≤ m) (hm : m < 256) (q1 : 194 ≤ a) (q2 : a ≤ 223) :
    own_seq y0 y1 y2 y3 (Int32.ofNat m) = own_exp (Int32.ofNat a) (Int32.ofNat b) (Int32.ofNat c) (Int32.ofNat d) (Int32.ofNat m) := by
  obtain ⟨c1, c2, c3⟩ := own_cls2 a ha q1 q2
  have e1 : own_need y0 = (2 : Int32) := by rw [← c1, ← ea]; rfl
  have e2 : own_lo y0 = (128 : Int32) := by rw [← c2, ← ea]; rfl
  have e3 : own_hi y0 = (191 : Int32) := by rw [← c3, ← ea]; rfl
  rw [own_exp, if_pos (by rw [own_g127 ha]; omega), if_neg (by rw [own_i194_223 ha]; omega)]
  simp only [own_seq, e1, e2, e3, eb, ec', ed', own_cont c hc, own_cont d hd, own_l0 hb, own_g0 hb, own_e0 hb, own_l1 hb, own_g1 hb, own_e1 hb, own_l2 hb, own_g2 hb, own_e2 hb, own_l3 hb, own_g3 hb, own_e3 hb, own_l4 hb, own_g4 hb, own_e4 hb, own_l127 hb, own_g127 hb, own_e127 hb, own_l128 hb, own_g128 hb, own_e128 hb, own_l143 hb, own_g143 hb, own_e143 hb, own_l144 hb, own_g144 hb, own_e144 hb, own_l159 hb, own_g159 hb, own_e159 hb, own_l160 hb, own_g160 hb, own_e160 hb, own_l191 hb, own_g191 hb, own_e191 hb, own_l194 hb, own_g194 hb, own_e194 hb, own_l223 hb, own_g223 hb, own_e223 hb, own_l224 hb, own_g224 hb, own_e224 hb, own_l225 hb, own_g225 hb, own_e225 hb, own_l236 hb, own_g236 hb, own_e236 hb, own_l237 hb, own_g237 hb, own_e237 hb, own_l238 hb, own_g238 hb, own_e238 hb, own_l239 hb, own_g239 hb, own_e239 hb, own_l240 hb, own_g240 hb, own_e240 hb, own_l241 hb, own_g241 hb, own_e241 hb, own_l243 hb, own_g243 hb, own_e243 hb, own_l244 hb, own_g244 hb, own_e244 hb, own_i128_143 hb, own_i128_159 hb, own_i128_191 hb, own_i144_191 hb, own_i160_191 hb, own_i194_223 hb, own_i225_236 hb, own_i238_239 hb, own_i241_243 hb, own_l0 hc, own_g0 hc, own_e0 hc, own_l1 hc, own_g1 hc, own_e1 hc, own_l2 hc, own_g2 hc, own_e2 hc, own_l3 hc, own_g3 hc, own_e3 hc, own_l4 hc, own_g4 hc, own_e4 hc, own_l127 hc, own_g127 hc, own_e127 hc, own_l128 hc, own_g128 hc, own_e128 hc, own_l143 hc, own_g143 hc, own_e143 hc, own_l144 hc, own_g144 hc, own_e144 hc, own_l159 hc, own_g159 hc, own_e159 hc, own_l160 hc, own_g160 hc, own_e160 hc, own_l191 hc, own_g191 hc, own_e191 hc, own_l194 hc, own_g194 hc, own_e194 hc, own_l223 hc, own_g223 hc, own_e223 hc, own_l224 hc, own_g224 hc, own_e224 hc, own_l225 hc, own_g225 hc, own_e225 hc, own_l236 hc, own_g236 hc, own_e236 hc, own_l237 hc, own_g237 hc, own_e237 hc, own_l238 hc, own_g238 hc, own_e238 hc, own_l239 hc, own_g239 hc, own_e239 hc, own_l240 hc, own_g240 hc, own_e240 hc, own_l241 hc, own_g241 hc, own_e241 hc, own_l243 hc, own_g243 hc, own_e243 hc, own_l244 hc, own_g244 hc, own_e244 hc, own_i128_143 hc, own_i128_159 hc, own_i128_191 hc, own_i144_191 hc, own_i160_191 hc, own_i194_223 hc, own_i225_236 hc, own_i238_239 hc, own_i241_243 hc, own_l0 hd, own_g0 hd, own_e0 hd, own_l1 hd, own_g1 hd, own_e1 hd, own_l2 hd, own_g2 hd, own_e2 hd, own_l3 hd, own_g3 hd, own_e3 hd, own_l4 hd, own_g4 hd, own_e4 hd, own_l127 hd, own_g127 hd, own_e127 hd, own_l128 hd, own_g128 hd, own_e128 hd, own_l143 hd, own_g143 hd, own_e143 hd, own_l144 hd, own_g144 hd, own_e144 hd, own_l159 hd, own_g159 hd, own_e159 hd, own_l160 hd, own_g160 hd, own_e160 hd, own_l191 hd, own_g191 hd, own_e191 hd, own_l194 hd, own_g194 hd, own_e194 hd, own_l223 hd, own_g223 hd, own_e223 hd, own_l224 hd, own_g224 hd, own_e224 hd, own_l225 hd, own_g225 hd, own_e225 hd, own_l236 hd, own_g236 hd, own_e236 hd, own_l237 hd, own_g237 hd, own_e237 hd, own_l238 hd, own_g238 hd, own_e238 hd, own_l239 hd, own_g239 hd, own_e239 hd, own_l240 hd, own_g240 hd, own_e240 hd, own_l241 hd, own_g241 hd, own_e241 hd, own_l243 hd, own_g243 hd, own_e243 hd, own_l244 hd, own_g244 hd, own_e244 hd, own_i128_143 hd, own_i128_159 hd, own_i128_191 hd, own_i144_191 hd, own_i160_191 hd, own_i194_223 hd, own_i225_236 hd, own_i238_239 hd, own_i241_243 hd, own_l0 hm, own_g0 hm, own_e0 hm, own_l1 hm, own_g1 hm, own_e1 hm, own_l2 hm, own_g2 hm, own_e2 hm, own_l3 hm, own_g3 hm, own_e3 hm, own_l4 hm, own_g4 hm, own_e4 hm, own_l127 hm, own_g127 hm, own_e127 hm, own_l128 hm, own_g128 hm, own_e128 hm, own_l143 hm, own_g143 hm, own_e143 hm, own_l144 hm, own_g144 hm, own_e144 hm, own_l159 hm, own_g159 hm, own_e159 hm, own_l160 hm, own_g160 hm, own_e160 hm, own_l191 hm, own_g191 hm, own_e191 hm, own_l194 hm, own_g194 hm, own_e194 hm, own_l223 hm, own_g223 hm, own_e223 hm, own_l224 hm, own_g224 hm, own_e224 hm, own_l225 hm, own_g225 hm, own_e225 hm, own_l236 hm, own_g236 hm, own_e236 hm, own_l237 hm, own_g237 hm, own_e237 hm, own_l238 hm, own_g238 hm, own_e238 hm, own_l239 hm, own_g239 hm, own_e239 hm, own_l240 hm, own_g240 hm, own_e240 hm, own_l241 hm, own_g241 hm, own_e241 hm, own_l243 hm, own_g243 hm, own_e243 hm, own_l244 hm, own_g244 hm, own_e244 hm, own_i128_143 hm, own_i128_159 hm, own_i128_191 hm, own_i144_191 hm, own_i160_191 hm, own_i194_223 hm, own_i225_236 hm, own_i238_239 hm, own_i241_243 hm, own_s0_0, own_s0_1, own_s0_2, own_s0_3, own_s1_0, own_s1_1, own_s1_2, own_s1_3, own_s2_0, own_s2_1, own_s2_2, own_s2_3, own_s3_0, own_s3_1, own_s3_2, own_s3_3, own_s4_0, own_s4_1, own_s4_2, own_s4_3, if_true, if_false]
  all_goals repeat' split
  all_goals first | rfl | (exfalso; omega)
set_option maxHeartbeats 40000000 in
theorem own_main3 {y0 y1 y2 y3 : Int32} {a b c d m : Nat} (ha : a < 256) (hb : b < 256) (hc : c < 256) (hd : d < 256) (ea : (y0 &&& (255 : Int32)) = Int32.ofNat a) (eb : (y1 &&& (255 : Int32)) = Int32.ofNat b) (ec' : (y2 &&& (192 : Int32)) = Int32.ofNat (c &&& 192)) (ed' : (y3 &&& (192 : Int32)) = Int32.ofNat (d &&& 192)) (hm1 : 1 ≤ m) (hm : m < 256) (q1 : 224 ≤ a) (q2 : a ≤ 224) :
    own_seq y0 y1 y2 y3 (Int32.ofNat m) = own_exp (Int32.ofNat a) (Int32.ofNat b) (Int32.ofNat c) (Int32.ofNat d) (Int32.ofNat m) := by
  obtain ⟨c1, c2, c3⟩ := own_cls3 a ha q1 q2
  have e1 : own_need y0 = (3 : Int32) := by rw [← c1, ← ea]; rfl
  have e2 : own_lo y0 = (160 : Int32) := by rw [← c2, ← ea]; rfl
  have e3 : own_hi y0 = (191 : Int32) := by rw [← c3, ← ea]; rfl
  rw [own_exp, if_pos (by rw [own_g127 ha]; omega), if_pos (by rw [own_i194_223 ha]; omega), if_pos (by rw [own_e224 ha]; omega)]
  simp only [own_seq, e1, e2, e3, eb, ec', ed', own_cont c hc, own_cont d hd, own_l0 hb, own_g0 hb, own_e0 hb, own_l1 hb, own_g1 hb, own_e1 hb, own_l2 hb, own_g2 hb, own_e2 hb, own_l3 hb, own_g3 hb, own_e3 hb, own_l4 hb, own_g4 hb, own_e4 hb, own_l127 hb, own_g127 hb, own_e127 hb, own_l128 hb, own_g128 hb, own_e128 hb, own_l143 hb, own_g143 hb, own_e143 hb, own_l144 hb, own_g144 hb, own_e144 hb, own_l159 hb, own_g159 hb, own_e159 hb, own_l160 hb, own_g160 hb, own_e160 hb, own_l191 hb, own_g191 hb, own_e191 hb, own_l194 hb, own_g194 hb, own_e194 hb, own_l223 hb, own_g223 hb, own_e223 hb, own_l224 hb, own_g224 hb, own_e224 hb, own_l225 hb, own_g225 hb, own_e225 hb, own_l236 hb, own_g236 hb, own_e236 hb, own_l237 hb, own_g237 hb, own_e237 hb, own_l238 hb, own_g238 hb, own_e238 hb, own_l239 hb, own_g239 hb, own_e239 hb, own_l240 hb, own_g240 hb, own_e240 hb, own_l241 hb, own_g241 hb, own_e241 hb, own_l243 hb, own_g243 hb, own_e243 hb, own_l244 hb, own_g244 hb, own_e244 hb, own_i128_143 hb, own_i128_159 hb, own_i128_191 hb, own_i144_191 hb, own_i160_191 hb, own_i194_223 hb, own_i225_236 hb, own_i238_239 hb, own_i241_243 hb, own_l0 hc, own_g0 hc, own_e0 hc, own_l1 hc, own_g1 hc, own_e1 hc, own_l2 hc, own_g2 hc, own_e2 hc, own_l3 hc, own_g3 hc, own_e3 hc, own_l4 hc, own_g4 hc, own_e4 hc, own_l127 hc, own_g127 hc, own_e127 hc, own_l128 hc, own_g128 hc, own_e128 hc, own_l143 hc, own_g143 hc, own_e143 hc, own_l144 hc, own_g144 hc, own_e144 hc, own_l159 hc, own_g159 hc, own_e159 hc, own_l160 hc, own_g160 hc, own_e160 hc, own_l191 hc, own_g191 hc, own_e191 hc, own_l194 hc, own_g194 hc, own_e194 hc, own_l223 hc, own_g223 hc, own_e223 hc, own_l224 hc, own_g224 hc, own_e224 hc, own_l225 hc, own_g225 hc, own_e225 hc, own_l236 hc, own_g236 hc, own_e236 hc, own_l237 hc, own_g237 hc, own_e237 hc, own_l238 hc, own_g238 hc, own_e238 hc, own_l239 hc, own_g239 hc, own_e239 hc, own_l240 hc, own_g240 hc, own_e240 hc, own_l241 hc, own_g241 hc, own_e241 hc, own_l243 hc, own_g243 hc, own_e243 hc, own_l244 hc, own_g244 hc, own_e244 hc, own_i128_143 hc, own_i128_159 hc, own_i128_191 hc, own_i144_191 hc, own_i160_191 hc, own_i194_223 hc, own_i225_236 hc, own_i238_239 hc, own_i241_243 hc, own_l0 hd, own_g0 hd, own_e0 hd, own_l1 hd, own_g1 hd, own_e1 hd, own_l2 hd, own_g2 hd, own_e2 hd, own_l3 hd, own_g3 hd, own_e3 hd, own_l4 hd, own_g4 hd, own_e4 hd, own_l127 hd, own_g127 hd, own_e127 hd, own_l128 hd, own_g128 hd, own_e128 hd, own_l143 hd, own_g143 hd, own_e143 hd, own_l144 hd, own_g144 hd, own_e144 hd, own_l159 hd, own_g159 hd, own_e159 hd, own_l160 hd, own_g160 hd, own_e160 hd, own_l191 hd, own_g191 hd, own_e191 hd, own_l194 hd, own_g194 hd, own_e194 hd, own_l223 hd, own_g223 hd, own_e223 hd, own_l224 hd, own_g224 hd, own_e224 hd, own_l225 hd, own_g225 hd, own_e225 hd, own_l236 hd, own_g236 hd, own_e236 hd, own_l237 hd, own_g237 hd, own_e237 hd, own_l238 hd, own_g238 hd, own_e238 hd, own_l239 hd, own_g239 hd, own_e239 hd, own_l240 hd, own_g240 hd, own_e240 hd, own_l241 hd, own_g241 hd, own_e241 hd, own_l243 hd, own_g243 hd, own_e243 hd, own_l244 hd, own_g244 hd, own_e244 hd, own_i128_143 hd, own_i128_159 hd, own_i128_191 hd, own_i144_191 hd, own_i160_191 hd, own_i194_223 hd, own_i225_236 hd, own_i238_239 hd, own_i241_243 hd, own_l0 hm, own_g0 hm, own_e0 hm, own_l1 hm, own_g1 hm, own_e1 hm, own_l2 hm, own_g2 hm, own_e2 hm, own_l3 hm, own_g3 hm, own_e3 hm, own_l4 hm, own_g4 hm, own_e4 hm, own_l127 hm, own_g127 hm, own_e127 hm, own_l128 hm, own_g128 hm, own_e128 hm, own_l143 hm, own_g143 hm, own_e143 hm, own_l144 hm, own_g144 hm, own_e144 hm, own_l159 hm, own_g159 hm, own_e159 hm, own_l160 hm, own_g160 hm, own_e160 hm, own_l191 hm, own_g191 hm, own_e191 hm, own_l194 hm, own_g194 hm, own_e194 hm, own_l223 hm, own_g223 hm, own_e223 hm, own_l224 hm, own_g224 hm, own_e224 hm, own_l225 hm, own_g225 hm, own_e225 hm, own_l236 hm, own_g236 hm, own_e236 hm, own_l237 hm, own_g237 hm, own_e237 hm, own_l238 hm, own_g238 hm, own_e238 hm, own_l239 hm, own_g239 hm, own_e239 hm, own_l240 hm, own_g240 hm, own_e240 hm, own_l241 hm, own_g241 hm, own_e241 hm, own_l243 hm, own_g243 hm, own_e243 hm, own_l244 hm, own_g244 hm, own_e244 hm, own_i128_143 hm, own_i128_159 hm, own_i128_191 hm, own_i144_191 hm, own_i160_191 hm, own_i194_223 hm, own_i225_236 hm, own_i238_239 hm, own_i241_243 hm, own_s0_0, own_s0_1, own_s0_2, own_s0_3, own_s1_0, own_s1_1, own_s1_2, own_s1_3, own_s2_0, own_s2_1, own_s2_2, own_s2_3, own_s3_0, own_s3_1, own_s3_2, own_s3_3, own_s4_0, own_s4_1, own_s4_2, own_s4_3, if_true, if_false]
  all_goals repeat' split
  all_goals first | rfl | (exfalso; omega)
set_option maxHeartbeats 40000000 in
theorem own_main4 {y0 y1 y2 y3 : Int32} {a b c d m : Nat} (ha : a < 256) (hb : b < 256) (hc : c < 256) (hd : d < 256) (ea : (y0 &&& (255 : Int32)) = Int32.ofNat a) (eb : (y1 &&& (255 : Int32)) = Int32.ofNat b) (ec' : (y2 &&& (192 : Int32)) = Int32.ofNat (c &&& 192)) (ed' : (y3 &&& (192 : Int32)) = Int32.ofNat (d &&& 192)) (hm1 : 1 ≤ m) (hm : m < 256) (q1 : 225 ≤ a) (q2 : a ≤ 236) :
    own_seq y0 y1 y2 y3 (Int32.ofNat m) = own_exp (Int32.ofNat a) (Int32.ofNat b) (Int32.ofNat c) (Int32.ofNat d) (Int32.ofNat m) := by
  obtain ⟨c1, c2, c3⟩ := own_cls4 a ha q1 q2
  have e1 : own_need y0 = (3 : Int32) := by rw [← c1, ← ea]; rfl
  have e2 : own_lo y0 = (128 : Int32) := by rw [← c2, ← ea]; rfl
  have e3 : own_hi y0 = (191 : Int32) := by rw [← c3, ← ea]; rfl
  rw [own_exp, if_pos (by rw [own_g127 ha]; omega), if_pos (by rw [own_i194_223 ha]; omega), if_neg (by rw [own_e224 ha]; omega), if_neg (by rw [own_i225_236 ha]; omega)]
  simp only [own_seq, e1, e2, e3, eb, ec', ed', own_cont c hc, own_cont d hd, own_l0 hb, own_g0 hb, own_e0 hb, own_l1 hb, own_g1 hb, own_e1 hb, own_l2 hb, own_g2 hb, own_e2 hb, own_l3 hb, own_g3 hb, own_e3 hb, own_l4 hb, own_g4 hb, own_e4 hb, own_l127 hb, own_g127 hb, own_e127 hb, own_l128 hb, own_g128 hb, own_e128 hb, own_l143 hb, own_g143 hb, own_e143 hb, own_l144 hb, own_g144 hb, own_e144 hb, own_l159 hb, own_g159 hb, own_e159 hb, own_l160 hb, own_g160 hb, own_e160 hb, own_l191 hb, own_g191 hb, own_e191 hb, own_l194 hb, own_g194 hb, own_e194 hb, own_l223 hb, own_g223 hb, own_e223 hb, own_l224 hb, own_g224 hb, own_e224 hb, own_l225 hb, own_g225 hb, own_e225 hb, own_l236 hb, own_g236 hb, own_e236 hb, own_l237 hb, own_g237 hb, own_e237 hb, own_l238 hb, own_g238 hb, own_e238 hb, own_l239 hb, own_g239 hb, own_e239 hb, own_l240 hb, own_g240 hb, own_e240 hb, own_l241 hb, own_g241 hb, own_e241 hb, own_l243 hb, own_g243 hb, own_e243 hb, own_l244 hb, own_g244 hb, own_e244 hb, own_i128_143 hb, own_i128_159 hb, own_i128_191 hb, own_i144_191 hb, own_i160_191 hb, own_i194_223 hb, own_i225_236 hb, own_i238_239 hb, own_i241_243 hb, own_l0 hc, own_g0 hc, own_e0 hc, own_l1 hc, own_g1 hc, own_e1 hc, own_l2 hc, own_g2 hc, own_e2 hc, own_l3 hc, own_g3 hc, own_e3 hc, own_l4 hc, own_g4 hc, own_e4 hc, own_l127 hc, own_g127 hc, own_e127 hc, own_l128 hc, own_g128 hc, own_e128 hc, own_l143 hc, own_g143 hc, own_e143 hc, own_l144 hc, own_g144 hc, own_e144 hc, own_l159 hc, own_g159 hc, own_e159 hc, own_l160 hc, own_g160 hc, own_e160 hc, own_l191 hc, own_g191 hc, own_e191 hc, own_l194 hc, own_g194 hc, own_e194 hc, own_l223 hc, own_g223 hc, own_e223 hc, own_l224 hc, own_g224 hc, own_e224 hc, own_l225 hc, own_g225 hc, own_e225 hc, own_l236 hc, own_g236 hc, own_e236 hc, own_l237 hc, own_g237 hc, own_e237 hc, own_l238 hc, own_g238 hc, own_e238 hc, own_l239 hc, own_g239 hc, own_e239 hc, own_l240 hc, own_g240 hc, own_e240 hc, own_l241 hc, own_g241 hc, own_e241 hc, own_l243 hc, own_g243 hc, own_e243 hc, own_l244 hc, own_g244 hc, own_e244 hc, own_i128_143 hc, own_i128_159 hc, own_i128_191 hc, own_i144_191 hc, own_i160_191 hc, own_i194_223 hc, own_i225_236 hc, own_i238_239 hc, own_i241_243 hc, own_l0 hd, own_g0 hd, own_e0 hd, own_l1 hd, own_g1 hd, own_e1 hd, own_l2 hd, own_g2 hd, own_e2 hd, own_l3 hd, own_g3 hd, own_e3 hd, own_l4 hd, own_g4 hd, own_e4 hd, own_l127 hd, own_g127 hd, own_e127 hd, own_l128 hd, own_g128 hd, own_e128 hd, own_l143 hd, own_g143 hd, own_e143 hd, own_l144 hd, own_g144 hd, own_e144 hd, own_l159 hd, own_g159 hd, own_e159 hd, own_l160 hd, own_g160 hd, own_e160 hd, own_l191 hd, own_g191 hd, own_e191 hd, own_l194 hd, own_g194 hd, own_e194 hd, own_l223 hd, own_g223 hd, own_e223 hd, own_l224 hd, own_g224 hd, own_e224 hd, own_l225 hd, own_g225 hd, own_e225 hd, own_l236 hd, own_g236 hd, own_e236 hd, own_l237 hd, own_g237 hd, own_e237 hd, own_l238 hd, own_g238 hd, own_e238 hd, own_l239 hd, own_g239 hd, own_e239 hd, own_l240 hd, own_g240 hd, own_e240 hd, own_l241 hd, own_g241 hd, own_e241 hd, own_l243 hd, own_g243 hd, own_e243 hd, own_l244 hd, own_g244 hd, own_e244 hd, own_i128_143 hd, own_i128_159 hd, own_i128_191 hd, own_i144_191 hd, own_i160_191 hd, own_i194_223 hd, own_i225_236 hd, own_i238_239 hd, own_i241_243 hd, own_l0 hm, own_g0 hm, own_e0 hm, own_l1 hm, own_g1 hm, own_e1 hm, own_l2 hm, own_g2 hm, own_e2 hm, own_l3 hm, own_g3 hm, own_e3 hm, own_l4 hm, own_g4 hm, own_e4 hm, own_l127 hm, own_g127 hm, own_e127 hm, own_l128 hm, own_g128 hm, own_e128 hm, own_l143 hm, own_g143 hm, own_e143 hm, own_l144 hm, own_g144 hm, own_e144 hm, own_l159 hm, own_g159 hm, own_e159 hm, own_l160 hm, own_g160 hm, own_e160 hm, own_l191 hm, own_g191 hm, own_e191 hm, own_l194 hm, own_g194 hm, own_e194 hm, own_l223 hm, own_g223 hm, own_e223 hm, own_l224 hm, own_g224 hm, own_e224 hm, own_l225 hm, own_g225 hm, own_e225 hm, own_l236 hm, own_g236 hm, own_e236 hm, own_l237 hm, own_g237 hm, own_e237 hm, own_l238 hm, own_g238 hm, own_e238 hm, own_l239 hm, own_g239 hm, own_e239 hm, own_l240 hm, own_g240 hm, own_e240 hm, own_l241 hm, own_g241 hm, own_e241 hm, own_l243 hm, own_g243 hm, own_e243 hm, own_l244 hm, own_g244 hm, own_e244 hm, own_i128_143 hm, own_i128_159 hm, own_i128_191 hm, own_i144_191 hm, own_i160_191 hm, own_i194_223 hm, own_i225_236 hm, own_i238_239 hm, own_i241_243 hm, own_s0_0, own_s0_1, own_s0_2, own_s0_3, own_s1_0, own_s1_1, own_s1_2, own_s1_3, own_s2_0, own_s2_1, own_s2_2, own_s2_3, own_s3_0, own_s3_1, own_s3_2, own_s3_3, own_s4_0, own_s4_1, own_s4_2, own_s4_3, if_true, if_false]
  all_goals repeat' split
  all_goals first | rfl | (exfalso; omega)
set_option maxHeartbeats 40000000 in
theorem own_main5 {y0 y1 y2 y3 : Int32} {a b c d m : Nat} (ha : a < 256) (hb : b < 256) (hc : c < 256) (hd : d < 256) (ea : (y0 &&& (255 : Int32)) = Int32.ofNat a) (eb : (y1 &&& (255 : Int32)) = Int32.ofNat b) (ec' : (y2 &&& (192 : Int32)) = Int32.ofNat (c &&& 192)) (ed' : (y3 &&& (192 : Int32)) = Int32.ofNat (d &&& 192)) (hm1 : 1 ≤ m) (hm : m < 256) (q1 : 237 ≤ a) (q2 : a ≤ 237) :
    own_seq y0 y1 y2 y3 (Int32.ofNat m) = own_exp (Int32.ofNat a) (Int32.ofNat b) (Int32.ofNat c) (Int32.ofNat d) (Int32.ofNat m) := by
  obtain ⟨c1, c2, c3⟩ := own_cls5 a ha q1 q2
  have e1 : own_need y0 = (3 : Int32) := by rw [← c1, ← ea]; rfl
  have e2 : own_lo y0 = (128 : Int32) := by rw [← c2, ← ea]; rfl
  have e3 : own_hi y0 = (159 : Int32) := by rw [← c3, ← ea]; rfl
  rw [own_exp, if_pos (by rw [own_g127 ha]; omega), if_pos (by rw [own_i194_223 ha]; omega), if_neg (by rw [own_e224 ha]; omega), if_pos (by rw [own_i225_236 ha]; omega), if_pos (by rw [own_i238_239 ha]; omega), if_pos (by rw [own_e237 ha]; omega)]
  simp only [own_seq, e1, e2, e3, eb, ec', ed', own_cont c hc, own_cont d hd, own_l0 hb, own_g0 hb, own_e0 hb, own_l1 hb, own_g1 hb, own_e1 hb, own_l2 hb, own_g2 hb, own_e2 hb, own_l3 hb, own_g3 hb, own_e3 hb, own_l4 hb, own_g4 hb, own_e4 hb, own_l127 hb, own_g127 hb, own_e127 hb, own_l128 hb, own_g128 hb, own_e128 hb, own_l143 hb, own_g143 hb, own_e143 hb, own_l144 hb, own_g144 hb, own_e144 hb, own_l159 hb, own_g159 hb, own_e159 hb, own_l160 hb, own_g160 hb, own_e160 hb, own_l191 hb, own_g191 hb, own_e191 hb, own_l194 hb, own_g194 hb, own_e194 hb, own_l223 hb, own_g223 hb, own_e223 hb, own_l224 hb, own_g224 hb, own_e224 hb, own_l225 hb, own_g225 hb, own_e225 hb, own_l236 hb, own_g236 hb, own_e236 hb, own_l237 hb, own_g237 hb, own_e237 hb, own_l238 hb, own_g238 hb, own_e238 hb, own_l239 hb, own_g239 hb, own_e239 hb, own_l240 hb, own_g240 hb, own_e240 hb, own_l241 hb, own_g241 hb, own_e241 hb, own_l243 hb, own_g243 hb, own_e243 hb, own_l244 hb, own_g244 hb, own_e244 hb, own_i128_143 hb, own_i128_159 hb, own_i128_191 hb, own_i144_191 hb, own_i160_191 hb, own_i194_223 hb, own_i225_236 hb, own_i238_239 hb, own_i241_243 hb, own_l0 hc, own_g0 hc, own_e0 hc, own_l1 hc, own_g1 hc, own_e1 hc, own_l2 hc, own_g2 hc, own_e2 hc, own_l3 hc, own_g3 hc, own_e3 hc, own_l4 hc, own_g4 hc, own_e4 hc, own_l127 hc, own_g127 hc, own_e127 hc, own_l128 hc, own_g128 hc, own_e128 hc, own_l143 hc, own_g143 hc, own_e143 hc, own_l144 hc, own_g144 hc, own_e144 hc, own_l159 hc, own_g159 hc, own_e159 hc, own_l160 hc, own_g160 hc, own_e160 hc, own_l191 hc, own_g191 hc, own_e191 hc, own_l194 hc, own_g194 hc, own_e194 hc, own_l223 hc, own_g223 hc, own_e223 hc, own_l224 hc, own_g224 hc, own_e224 hc, own_l225 hc, own_g225 hc, own_e225 hc, own_l236 hc, own_g236 hc, own_e236 hc, own_l237 hc, own_g237 hc, own_e237 hc, own_l238 hc, own_g238 hc, own_e238 hc, own_l239 hc, own_g239 hc, own_e239 hc, own_l240 hc, own_g240 hc, own_e240 hc, own_l241 hc, own_g241 hc, own_e241 hc, own_l243 hc, own_g243 hc, own_e243 hc, own_l244 hc, own_g244 hc, own_e244 hc, own_i128_143 hc, own_i128_159 hc, own_i128_191 hc, own_i144_191 hc, own_i160_191 hc, own_i194_223 hc, own_i225_236 hc, own_i238_239 hc, own_i241_243 hc, own_l0 hd, own_g0 hd, own_e0 hd, own_l1 hd, own_g1 hd, own_e1 hd, own_l2 hd, own_g2 hd, own_e2 hd, own_l3 hd, own_g3 hd, own_e3 hd, own_l4 hd, own_g4 hd, own_e4 hd, own_l127 hd, own_g127 hd, own_e127 hd, own_l128 hd, own_g128 hd, own_e128 hd, own_l143 hd, own_g143 hd, own_e143 hd, own_l144 hd, own_g144 hd, own_e144 hd, own_l159 hd, own_g159 hd, own_e159 hd, own_l160 hd, own_g160 hd, own_e160 hd, own_l191 hd, own_g191 hd, own_e191 hd, own_l194 hd, own_g194 hd, own_e194 hd, own_l223 hd, own_g223 hd, own_e223 hd, own_l224 hd, own_g224 hd, own_e224 hd, own_l225 hd, own_g225 hd, own_e225 hd, own_l236 hd, own_g236 hd, own_e236 hd, own_l237 hd, own_g237 hd, own_e237 hd, own_l238 hd, own_g238 hd, own_e238 hd, own_l239 hd, own_g239 hd, own_e239 hd, own_l240 hd, own_g240 hd, own_e240 hd, own_l241 hd, own_g241 hd, own_e241 hd, own_l243 hd, own_g243 hd, own_e243 hd, own_l244 hd, own_g244 hd, own_e244 hd, own_i128_143 hd, own_i128_159 hd, own_i128_191 hd, own_i144_191 hd, own_i160_191 hd, own_i194_223 hd, own_i225_236 hd, own_i238_239 hd, own_i241_243 hd, own_l0 hm, own_g0 hm, own_e0 hm, own_l1 hm, own_g1 hm, own_e1 hm, own_l2 hm, own_g2 hm, own_e2 hm, own_l3 hm, own_g3 hm, own_e3 hm, own_l4 hm, own_g4 hm, own_e4 hm, own_l127 hm, own_g127 hm, own_e127 hm, own_l128 hm, own_g128 hm, own_e128 hm, own_l143 hm, own_g143 hm, own_e143 hm, own_l144 hm, own_g144 hm, own_e144 hm, own_l159 hm, own_g159 hm, own_e159 hm, own_l160 hm, own_g160 hm, own_e160 hm, own_l191 hm, own_g191 hm, own_e191 hm, own_l194 hm, own_g194 hm, own_e194 hm, own_l223 hm, own_g223 hm, own_e223 hm, own_l224 hm, own_g224 hm, own_e224 hm, own_l225 hm, own_g225 hm, own_e225 hm, own_l236 hm, own_g236 hm, own_e236 hm, own_l237 hm, own_g237 hm, own_e237 hm, own_l238 hm, own_g238 hm, own_e238 hm, own_l239 hm, own_g239 hm, own_e239 hm, own_l240 hm, own_g240 hm, own_e240 hm, own_l241 hm, own_g241 hm, own_e241 hm, own_l243 hm, own_g243 hm, own_e243 hm, own_l244 hm, own_g244 hm, own_e244 hm, own_i128_143 hm, own_i128_159 hm, own_i128_191 hm, own_i144_191 hm, own_i160_191 hm, own_i194_223 hm, own_i225_236 hm, own_i238_239 hm, own_i241_243 hm, own_s0_0, own_s0_1, own_s0_2, own_s0_3, own_s1_0, own_s1_1, own_s1_2, own_s1_3, own_s2_0, own_s2_1, own_s2_2, own_s2_3, own_s3_0, own_s3_1, own_s3_2, own_s3_3, own_s4_0, own_s4_1, own_s4_2, own_s4_3, if_true, if_false]
  all_goals repeat' split
  all_goals first | rfl | (exfalso; omega)
set_option maxHeartbeats 40000000 in
theorem own_main6 {y0 y1 y2 y3 : Int32} {a b c d m : Nat} (ha : a < 256) (hb : b < 256) (hc : c < 256) (hd : d < 256) (ea : (y0 &&& (255 : Int32)) = Int32.ofNat a) (eb : (y1 &&& (255 : Int32)) = Int32.ofNat b) (ec' : (y2 &&& (192 : Int32)) = Int32.ofNat (c &&& 192)) (ed' : (y3 &&& (192 : Int32)) = Int32.ofNat (d &&& 192)) (hm1 : 1 ≤ m) (hm : m < 256) (q1 : 238 ≤ a) (q2 : a ≤ 239) :
    own_seq y0 y1 y2 y3 (Int32.ofNat m) = own_exp (Int32.ofNat a) (Int32.ofNat b) (Int32.ofNat c) (Int32.ofNat d) (Int32.ofNat m) := by
  obtain ⟨c1, c2, c3⟩ := own_cls6 a ha q1 q2
  have e1 : own_need y0 = (3 : Int32) := by rw [← c1, ← ea]; rfl
  have e2 : own_lo y0 = (128 : Int32) := by rw [← c2, ← ea]; rfl
  have e3 : own_hi y0 = (191 : Int32) := by rw [← c3, ← ea]; rfl
  rw [own_exp, if_pos (by rw [own_g127 ha]; omega), if_pos (by rw [own_i194_223 ha]; omega), if_neg (by rw [own_e224 ha]; omega), if_pos (by rw [own_i225_236 ha]; omega), if_neg (by rw [own_i238_239 ha]; omega)]
  simp only [own_seq, e1, e2, e3, eb, ec', ed', own_cont c hc, own_cont d hd, own_l0 hb, own_g0 hb, own_e0 hb, own_l1 hb, own_g1 hb, own_e1 hb, own_l2 hb, own_g2 hb, own_e2 hb, own_l3 hb, own_g3 hb, own_e3 hb, own_l4 hb, own_g4 hb, own_e4 hb, own_l127 hb, own_g127 hb, own_e127 hb, own_l128 hb, own_g128 hb, own_e128 hb, own_l143 hb, own_g143 hb, own_e143 hb, own_l144 hb, own_g144 hb, own_e144 hb, own_l159 hb, own_g159 hb, own_e159 hb, own_l160 hb, own_g160 hb, own_e160 hb, own_l191 hb, own_g191 hb, own_e191 hb, own_l194 hb, own_g194 hb, own_e194 hb, own_l223 hb, own_g223 hb, own_e223 hb, own_l224 hb, own_g224 hb, own_e224 hb, own_l225 hb, own_g225 hb, own_e225 hb, own_l236 hb, own_g236 hb, own_e236 hb, own_l237 hb, own_g237 hb, own_e237 hb, own_l238 hb, own_g238 hb, own_e238 hb, own_l239 hb, own_g239 hb, own_e239 hb, own_l240 hb, own_g240 hb, own_e240 hb, own_l241 hb, own_g241 hb, own_e241 hb, own_l243 hb, own_g243 hb, own_e243 hb, own_l244 hb, own_g244 hb, own_e244 hb, own_i128_143 hb, own_i128_159 hb, own_i128_191 hb, own_i144_191 hb, own_i160_191 hb, own_i194_223 hb, own_i225_236 hb, own_i238_239 hb, own_i241_243 hb, own_l0 hc, own_g0 hc, own_e0 hc, own_l1 hc, own_g1 hc, own_e1 hc, own_l2 hc, own_g2 hc, own_e2 hc, own_l3 hc, own_g3 hc, own_e3 hc, own_l4 hc, own_g4 hc, own_e4 hc, own_l127 hc, own_g127 hc, own_e127 hc, own_l128 hc, own_g128 hc, own_e128 hc, own_l143 hc, own_g143 hc, own_e143 hc, own_l144 hc, own_g144 hc, own_e144 hc, own_l159 hc, own_g159 hc, own_e159 hc, own_l160 hc, own_g160 hc, own_e160 hc, own_l191 hc, own_g191 hc, own_e191 hc, own_l194 hc, own_g194 hc, own_e194 hc, own_l223 hc, own_g223 hc, own_e223 hc, own_l224 hc, own_g224 hc, own_e224 hc, own_l225 hc, own_g225 hc, own_e225 hc, own_l236 hc, own_g236 hc, own_e236 hc, own_l237 hc, own_g237 hc, own_e237 hc, own_l238 hc, own_g238 hc, own_e238 hc, own_l239 hc, own_g239 hc, own_e239 hc, own_l240 hc, own_g240 hc, own_e240 hc, own_l241 hc, own_g241 hc, own_e241 hc, own_l243 hc, own_g243 hc, own_e243 hc, own_l244 hc, own_g244 hc, own_e244 hc, own_i128_143 hc, own_i128_159 hc, own_i128_191 hc, own_i144_191 hc, own_i160_191 hc, own_i194_223 hc, own_i225_236 hc, own_i238_239 hc, own_i241_243 hc, own_l0 hd, own_g0 hd, own_e0 hd, own_l1 hd, own_g1 hd, own_e1 hd, own_l2 hd, own_g2 hd, own_e2 hd, own_l3 hd, own_g3 hd, own_e3 hd, own_l4 hd, own_g4 hd, own_e4 hd, own_l127 hd, own_g127 hd, own_e127 hd, own_l128 hd, own_g128 hd, own_e128 hd, own_l143 hd, own_g143 hd, own_e143 hd, own_l144 hd, own_g144 hd, own_e144 hd, own_l159 hd, own_g159 hd, own_e159 hd, own_l160 hd, own_g160 hd, own_e160 hd, own_l191 hd, own_g191 hd, own_e191 hd, own_l194 hd, own_g194 hd, own_e194 hd, own_l223 hd, own_g223 hd, own_e223 hd, own_l224 hd, own_g224 hd, own_e224 hd, own_l225 hd, own_g225 hd, own_e225 hd, own_l236 hd, own_g236 hd, own_e236 hd, own_l237 hd, own_g237 hd, own_e237 hd, own_l238 hd, own_g238 hd, own_e238 hd, own_l239 hd, own_g239 hd, own_e239 hd, own_l240 hd, own_g240 hd, own_e240 hd, own_l241 hd, own_g241 hd, own_e241 hd, own_l243 hd, own_g243 hd, own_e243 hd, own_l244 hd, own_g244 hd, own_e244 hd, own_i128_143 hd, own_i128_159 hd, own_i128_191 hd, own_i144_191 hd, own_i160_191 hd, own_i194_223 hd, own_i225_236 hd, own_i238_239 hd, own_i241_243 hd, own_l0 hm, own_g0 hm, own_e0 hm, own_l1 hm, own_g1 hm, own_e1 hm, own_l2 hm, own_g2 hm, own_e2 hm, own_l3 hm, own_g3 hm, own_e3 hm, own_l4 hm, own_g4 hm, own_e4 hm, own_l127 hm, own_g127 hm, own_e127 hm, own_l128 hm, own_g128 hm, own_e128 hm, own_l143 hm, own_g143 hm, own_e143 hm, own_l144 hm, own_g144 hm, own_e144 hm, own_l159 hm, own_g159 hm, own_e159 hm, own_l160 hm, own_g160 hm, own_e160 hm, own_l191 hm, own_g191 hm, own_e191 hm, own_l194 hm, own_g194 hm, own_e194 hm, own_l223 hm, own_g223 hm, own_e223 hm, own_l224 hm, own_g224 hm, own_e224 hm, own_l225 hm, own_g225 hm, own_e225 hm, own_l236 hm, own_g236 hm, own_e236 hm, own_l237 hm, own_g237 hm, own_e237 hm, own_l238 hm, own_g238 hm, own_e238 hm, own_l239 hm, own_g239 hm, own_e239 hm, own_l240 hm, own_g240 hm, own_e240 hm, own_l241 hm, own_g241 hm, own_e241 hm, own_l243 hm, own_g243 hm, own_e243 hm, own_l244 hm, own_g244 hm, own_e244 hm, own_i128_143 hm, own_i128_159 hm, own_i128_191 hm, own_i144_191 hm, own_i160_191 hm, own_i194_223 hm, own_i225_236 hm, own_i238_239 hm, own_i241_243 hm, own_s0_0, own_s0_1, own_s0_2, own_s0_3, own_s1_0, own_s1_1, own_s1_2, own_s1_3, own_s2_0, own_s2_1, own_s2_2, own_s2_3, own_s3_0, own_s3_1, own_s3_2, own_s3_3, own_s4_0, own_s4_1, own_s4_2, own_s4_3, if_true, if_false]
  all_goals repeat' split
  all_goals first | rfl | (exfalso; omega)
set_option maxHeartbeats 40000000 in
theorem own_main7 {y0 y1 y2 y3 : Int32} {a b c d m : Nat} (ha : a < 256) (hb : b < 256) (hc : c < 256) (hd : d < 256) (ea : (y0 &&& (255 : Int32)) = Int32.ofNat a) (eb : (y1 &&& (255 : Int32)) = Int32.ofNat b) (ec' : (y2 &&& (192 : Int32)) = Int32.ofNat (c &&& 192)) (ed' : (y3 &&& (192 : Int32)) = Int32.ofNat (d &&& 192)) (hm1 : 1 ≤ m) (hm : m < 256) (q1 : 240 ≤ a) (q2 : a ≤ 240) :
    own_seq y0 y1 y2 y3 (Int32.ofNat m) = own_exp (Int32.ofNat a) (Int32.ofNat b) (Int32.ofNat c) (Int32.ofNat d) (Int32.ofNat m) := by
  obtain ⟨c1, c2, c3⟩ := own_cls7 a ha q1 q2
  have e1 : own_need y0 = (4 : Int32) := by rw [← c1, ← ea]; rfl
  have e2 : own_lo y0 = (144 : Int32) := by rw [← c2, ← ea]; rfl
  have e3 : own_hi y0 = (191 : Int32) := by rw [← c3, ← ea]; rfl
  rw [own_exp, if_pos (by rw [own_g127 ha]; omega), if_pos (by rw [own_i194_223 ha]; omega), if_neg (by rw [own_e224 ha]; omega), if_pos (by rw [own_i225_236 ha]; omega), if_pos (by rw [own_i238_239 ha]; omega), if_neg (by rw [own_e237 ha]; omega), if_pos (by rw [own_e240 ha]; omega)]
  simp only [own_seq, e1, e2, e3, eb, ec', ed', own_cont c hc, own_cont d hd, own_l0 hb, own_g0 hb, own_e0 hb, own_l1 hb, own_g1 hb, own_e1 hb, own_l2 hb, own_g2 hb, own_e2 hb, own_l3 hb, own_g3 hb, own_e3 hb, own_l4 hb, own_g4 hb, own_e4 hb, own_l127 hb, own_g127 hb, own_e127 hb, own_l128 hb, own_g128 hb, own_e128 hb, own_l143 hb, own_g143 hb, own_e143 hb, own_l144 hb, own_g144 hb, own_e144 hb, own_l159 hb, own_g159 hb, own_e159 hb, own_l160 hb, own_g160 hb, own_e160 hb, own_l191 hb, own_g191 hb, own_e191 hb, own_l194 hb, own_g194 hb, own_e194 hb, own_l223 hb, own_g223 hb, own_e223 hb, own_l224 hb, own_g224 hb, own_e224 hb, own_l225 hb, own_g225 hb, own_e225 hb, own_l236 hb, own_g236 hb, own_e236 hb, own_l237 hb, own_g237 hb, own_e237 hb, own_l238 hb, own_g238 hb, own_e238 hb, own_l239 hb, own_g239 hb, own_e239 hb, own_l240 hb, own_g240 hb, own_e240 hb, own_l241 hb, own_g241 hb, own_e241 hb, own_l243 hb, own_g243 hb, own_e243 hb, own_l244 hb, own_g244 hb, own_e244 hb, own_i128_143 hb, own_i128_159 hb, own_i128_191 hb, own_i144_191 hb, own_i160_191 hb, own_i194_223 hb, own_i225_236 hb, own_i238_239 hb, own_i241_243 hb, own_l0 hc, own_g0 hc, own_e0 hc, own_l1 hc, own_g1 hc, own_e1 hc, own_l2 hc, own_g2 hc, own_e2 hc, own_l3 hc, own_g3 hc, own_e3 hc, own_l4 hc, own_g4 hc, own_e4 hc, own_l127 hc, own_g127 hc, own_e127 hc, own_l128 hc, own_g128 hc, own_e128 hc, own_l143 hc, own_g143 hc, own_e143 hc, own_l144 hc, own_g144 hc, own_e144 hc, own_l159 hc, own_g159 hc, own_e159 hc, own_l160 hc, own_g160 hc, own_e160 hc, own_l191 hc, own_g191 hc, own_e191 hc, own_l194 hc, own_g194 hc, own_e194 hc, own_l223 hc, own_g223 hc, own_e223 hc, own_l224 hc, own_g224 hc, own_e224 hc, own_l225 hc, own_g225 hc, own_e225 hc, own_l236 hc, own_g236 hc, own_e236 hc, own_l237 hc, own_g237 hc, own_e237 hc, own_l238 hc, own_g238 hc, own_e238 hc, own_l239 hc, own_g239 hc, own_e239 hc, own_l240 hc, own_g240 hc, own_e240 hc, own_l241 hc, own_g241 hc, own_e241 hc, own_l243 hc, own_g243 hc, own_e243 hc, own_l244 hc, own_g244 hc, own_e244 hc, own_i128_143 hc, own_i128_159 hc, own_i128_191 hc, own_i144_191 hc, own_i160_191 hc, own_i194_223 hc, own_i225_236 hc, own_i238_239 hc, own_i241_243 hc, own_l0 hd, own_g0 hd, own_e0 hd, own_l1 hd, own_g1 hd, own_e1 hd, own_l2 hd, own_g2 hd, own_e2 hd, own_l3 hd, own_g3 hd, own_e3 hd, own_l4 hd, own_g4 hd, own_e4 hd, own_l127 hd, own_g127 hd, own_e127 hd, own_l128 hd, own_g128 hd, own_e128 hd, own_l143 hd, own_g143 hd, own_e143 hd, own_l144 hd, own_g144 hd, own_e144 hd, own_l159 hd, own_g159 hd, own_e159 hd, own_l160 hd, own_g160 hd, own_e160 hd, own_l191 hd, own_g191 hd, own_e191 hd, own_l194 hd, own_g194 hd, own_e194 hd, own_l223 hd, own_g223 hd, own_e223 hd, own_l224 hd, own_g224 hd, own_e224 hd, own_l225 hd, own_g225 hd, own_e225 hd, own_l236 hd, own_g236 hd, own_e236 hd, own_l237 hd, own_g237 hd, own_e237 hd, own_l238 hd, own_g238 hd, own_e238 hd, own_l239 hd, own_g239 hd, own_e239 hd, own_l240 hd, own_g240 hd, own_e240 hd, own_l241 hd, own_g241 hd, own_e241 hd, own_l243 hd, own_g243 hd, own_e243 hd, own_l244 hd, own_g244 hd, own_e244 hd, own_i128_143 hd, own_i128_159 hd, own_i128_191 hd, own_i144_191 hd, own_i160_191 hd, own_i194_223 hd, own_i225_236 hd, own_i238_239 hd, own_i241_243 hd, own_l0 hm, own_g0 hm, own_e0 hm, own_l1 hm, own_g1 hm, own_e1 hm, own_l2 hm, own_g2 hm, own_e2 hm, own_l3 hm, own_g3 hm, own_e3 hm, own_l4 hm, own_g4 hm, own_e4 hm, own_l127 hm, own_g127 hm, own_e127 hm, own_l128 hm, own_g128 hm, own_e128 hm, own_l143 hm, own_g143 hm, own_e143 hm, own_l144 hm, own_g144 hm, own_e144 hm, own_l159 hm, own_g159 hm, own_e159 hm, own_l160 hm, own_g160 hm, own_e160 hm, own_l191 hm, own_g191 hm, own_e191 hm, own_l194 hm, own_g194 hm, own_e194 hm, own_l223 hm, own_g223 hm, own_e223 hm, own_l224 hm, own_g224 hm, own_e224 hm, own_l225 hm, own_g225 hm, own_e225 hm, own_l236 hm, own_g236 hm, own_e236 hm, own_l237 hm, own_g237 hm, own_e237 hm, own_l238 hm, own_g238 hm, own_e238 hm, own_l239 hm, own_g239 hm, own_e239 hm, own_l240 hm, own_g240 hm, own_e240 hm, own_l241 hm, own_g241 hm, own_e241 hm, own_l243 hm, own_g243 hm, own_e243 hm, own_l244 hm, own_g244 hm, own_e244 hm, own_i128_143 hm, own_i128_159 hm, own_i128_191 hm, own_i144_191 hm, own_i160_191 hm, own_i194_223 hm, own_i225_236 hm, own_i238_239 hm, own_i241_243 hm, own_s0_0, own_s0_1, own_s0_2, own_s0_3, own_s1_0, own_s1_1, own_s1_2, own_s1_3, own_s2_0, own_s2_1, own_s2_2, own_s2_3, own_s3_0, own_s3_1, own_s3_2, own_s3_3, own_s4_0, own_s4_1, own_s4_2, own_s4_3, if_true, if_false]
  all_goals repeat' split
  all_goals first | rfl | (exfalso; omega)
set_option maxHeartbeats 40000000 in
theorem own_main8 {y0 y1 y2 y3 : Int32} {a b c d m : Nat} (ha : a < 256) (hb : b < 256) (hc : c < 256) (hd : d < 256) (ea : (y0 &&& (255 : Int32)) = Int32.ofNat a) (eb : (y1 &&& (255 : Int32)) = Int32.ofNat b) (ec' : (y2 &&& (192 : Int32)) = Int32.ofNat (c &&& 192)) (ed' : (y3 &&& (192 : Int32)) = Int32.ofNat (d &&& 192)) (hm1 : 1 ≤ m) (hm : m < 256) (q1 : 241 ≤ a) (q2 : a ≤ 243) :
    own_seq y0 y1 y2 y3 (Int32.ofNat m) = own_exp (Int32.ofNat a) (Int32.ofNat b) (Int32.ofNat c) (Int32.ofNat d) (Int32.ofNat m) := by
  obtain ⟨c1, c2, c3⟩ := own_cls8 a ha q1 q2
  have e1 : own_need y0 = (4 : Int32) := by rw [← c1, ← ea]; rfl
  have e2 : own_lo y0 = (128 : Int32) := by rw [← c2, ← ea]; rfl
  have e3 : own_hi y0 = (191 : Int32) := by rw [← c3, ← ea]; rfl
  rw [own_exp, if_pos (by rw [own_g127 ha]; omega), if_pos (by rw [own_i194_223 ha]; omega), if_neg (by rw [own_e224 ha]; omega), if_pos (by rw [own_i225_236 ha]; omega), if_pos (by rw [own_i238_239 ha]; omega), if_neg (by rw [own_e237 ha]; omega), if_neg (by rw [own_e240 ha]; omega), if_neg (by rw [own_i241_243 ha]; omega)]
  simp only [own_seq, e1, e2, e3, eb, ec', ed', own_cont c hc, own_cont d hd, own_l0 hb, own_g0 hb, own_e0 hb, own_l1 hb, own_g1 hb, own_e1 hb, own_l2 hb, own_g2 hb, own_e2 hb, own_l3 hb, own_g3 hb, own_e3 hb, own_l4 hb, own_g4 hb, own_e4 hb, own_l127 hb, own_g127 hb, own_e127 hb, own_l128 hb, own_g128 hb, own_e128 hb, own_l143 hb, own_g143 hb, own_e143 hb, own_l144 hb, own_g144 hb, own_e144 hb, own_l159 hb, own_g159 hb, own_e159 hb, own_l160 hb, own_g160 hb, own_e160 hb, own_l191 hb, own_g191 hb, own_e191 hb, own_l194 hb, own_g194 hb, own_e194 hb, own_l223 hb, own_g223 hb, own_e223 hb, own_l224 hb, own_g224 hb, own_e224 hb, own_l225 hb, own_g225 hb, own_e225 hb, own_l236 hb, own_g236 hb, own_e236 hb, own_l237 hb, own_g237 hb, own_e237 hb, own_l238 hb, own_g238 hb, own_e238 hb, own_l239 hb, own_g239 hb, own_e239 hb, own_l240 hb, own_g240 hb, own_e240 hb, own_l241 hb, own_g241 hb, own_e241 hb, own_l243 hb, own_g243 hb, own_e243 hb, own_l244 hb, own_g244 hb, own_e244 hb, own_i128_143 hb, own_i128_159 hb, own_i128_191 hb, own_i144_191 hb, own_i160_191 hb, own_i194_223 hb, own_i225_236 hb, own_i238_239 hb, own_i241_243 hb, own_l0 hc, own_g0 hc, own_e0 hc, own_l1 hc, own_g1 hc, own_e1 hc, own_l2 hc, own_g2 hc, own_e2 hc, own_l3 hc, own_g3 hc, own_e3 hc, own_l4 hc, own_g4 hc, own_e4 hc, own_l127 hc, own_g127 hc, own_e127 hc, own_l128 hc, own_g128 hc, own_e128 hc, own_l143 hc, own_g143 hc, own_e143 hc, own_l144 hc, own_g144 hc, own_e144 hc, own_l159 hc, own_g159 hc, own_e159 hc, own_l160 hc, own_g160 hc, own_e160 hc, own_l191 hc, own_g191 hc, own_e191 hc, own_l194 hc, own_g194 hc, own_e194 hc, own_l223 hc, own_g223 hc, own_e223 hc, own_l224 hc, own_g224 hc, own_e224 hc, own_l225 hc, own_g225 hc, own_e225 hc, own_l236 hc, own_g236 hc, own_e236 hc, own_l237 hc, own_g237 hc, own_e237 hc, own_l238 hc, own_g238 hc, own_e238 hc, own_l239 hc, own_g239 hc, own_e239 hc, own_l240 hc, own_g240 hc, own_e240 hc, own_l241 hc, own_g241 hc, own_e241 hc, own_l243 hc, own_g243 hc, own_e243 hc, own_l244 hc, own_g244 hc, own_e244 hc, own_i128_143 hc, own_i128_159 hc, own_i128_191 hc, own_i144_191 hc, own_i160_191 hc, own_i194_223 hc, own_i225_236 hc, own_i238_239 hc, own_i241_243 hc, own_l0 hd, own_g0 hd, own_e0 hd, own_l1 hd, own_g1 hd, own_e1 hd, own_l2 hd, own_g2 hd, own_e2 hd, own_l3 hd, own_g3 hd, own_e3 hd, own_l4 hd, own_g4 hd, own_e4 hd, own_l127 hd, own_g127 hd, own_e127 hd, own_l128 hd, own_g128 hd, own_e128 hd, own_l143 hd, own_g143 hd, own_e143 hd, own_l144 hd, own_g144 hd, own_e144 hd, own_l159 hd, own_g159 hd, own_e159 hd, own_l160 hd, own_g160 hd, own_e160 hd, own_l191 hd, own_g191 hd, own_e191 hd, own_l194 hd, own_g194 hd, own_e194 hd, own_l223 hd, own_g223 hd, own_e223 hd, own_l224 hd, own_g224 hd, own_e224 hd, own_l225 hd, own_g225 hd, own_e225 hd, own_l236 hd, own_g236 hd, own_e236 hd, own_l237 hd, own_g237 hd, own_e237 hd, own_l238 hd, own_g238 hd, own_e238 hd, own_l239 hd, own_g239 hd, own_e239 hd, own_l240 hd, own_g240 hd, own_e240 hd, own_l241 hd, own_g241 hd, own_e241 hd, own_l243 hd, own_g243 hd, own_e243 hd, own_l244 hd, own_g244 hd, own_e244 hd, own_i128_143 hd, own_i128_159 hd, own_i128_191 hd, own_i144_191 hd, own_i160_191 hd, own_i194_223 hd, own_i225_236 hd, own_i238_239 hd, own_i241_243 hd, own_l0 hm, own_g0 hm, own_e0 hm, own_l1 hm, own_g1 hm, own_e1 hm, own_l2 hm, own_g2 hm, own_e2 hm, own_l3 hm, own_g3 hm, own_e3 hm, own_l4 hm, own_g4 hm, own_e4 hm, own_l127 hm, own_g127 hm, own_e127 hm, own_l128 hm, own_g128 hm, own_e128 hm, own_l143 hm, own_g143 hm, own_e143 hm, own_l144 hm, own_g144 hm, own_e144 hm, own_l159 hm, own_g159 hm, own_e159 hm, own_l160 hm, own_g160 hm, own_e160 hm, own_l191 hm, own_g191 hm, own_e191 hm, own_l194 hm, own_g194 hm, own_e194 hm, own_l223 hm, own_g223 hm, own_e223 hm, own_l224 hm, own_g224 hm, own_e224 hm, own_l225 hm, own_g225 hm, own_e225 hm, own_l236 hm, own_g236 hm, own_e236 hm, own_l237 hm, own_g237 hm, own_e237 hm, own_l238 hm, own_g238 hm, own_e238 hm, own_l239 hm, own_g239 hm, own_e239 hm, own_l240 hm, own_g240 hm, own_e240 hm, own_l241 hm, own_g241 hm, own_e241 hm, own_l243 hm, own_g243 hm, own_e243 hm, own_l244 hm, own_g244 hm, own_e244 hm, own_i128_143 hm, own_i128_159 hm, own_i128_191 hm, own_i144_191 hm, own_i160_191 hm, own_i194_223 hm, own_i225_236 hm, own_i238_239 hm, own_i241_243 hm, own_s0_0, own_s0_1, own_s0_2, own_s0_3, own_s1_0, own_s1_1, own_s1_2, own_s1_3, own_s2_0, own_s2_1, own_s2_2, own_s2_3, own_s3_0, own_s3_1, own_s3_2, own_s3_3, own_s4_0, own_s4_1, own_s4_2, own_s4_3, if_true, if_false]
  all_goals repeat' split
  all_goals first | rfl | (exfalso; omega)
set_option maxHeartbeats 40000000 in
theorem own_main9 {y0 y1 y2 y3 : Int32} {a b c d m : Nat} (ha : a < 256) (hb : b < 256) (hc : c < 256) (hd : d < 256) (ea : (y0 &&& (255 : Int32)) = Int32.ofNat a) (eb : (y1 &&& (255 : Int32)) = Int32.ofNat b) (ec' : (y2 &&& (192 : Int32)) = Int32.ofNat (c &&& 192)) (ed' : (y3 &&& (192 : Int32)) = Int32.ofNat (d &&& 192)) (hm1 : 1 ≤ m) (hm : m < 256) (q1 : 244 ≤ a) (q2 : a ≤ 244) :
    own_seq y0 y1 y2 y3 (Int32.ofNat m) = own_exp (Int32.ofNat a) (Int32.ofNat b) (Int32.ofNat c) (Int32.ofNat d) (Int32.ofNat m) := by
  obtain ⟨c1, c2, c3⟩ := own_cls9 a ha q1 q2
  have e1 : own_need y0 = (4 : Int32) := by rw [← c1, ← ea]; rfl
  have e2 : own_lo y0 = (128 : Int32) := by rw [← c2, ← ea]; rfl
  have e3 : own_hi y0 = (143 : Int32) := by rw [← c3, ← ea]; rfl
  rw [own_exp, if_pos (by rw [own_g127 ha]; omega), if_pos (by rw [own_i194_223 ha]; omega), if_neg (by rw [own_e224 ha]; omega), if_pos (by rw [own_i225_236 ha]; omega), if_pos (by rw [own_i238_239 ha]; omega), if_neg (by rw [own_e237 ha]; omega), if_neg (by rw [own_e240 ha]; omega), if_pos (by rw [own_i241_243 ha]; omega), if_pos (by rw [own_e244 ha]; omega)]
  simp only [own_seq, e1, e2, e3, eb, ec', ed', own_cont c hc, own_cont d hd, own_l0 hb, own_g0 hb, own_e0 hb, own_l1 hb, own_g1 hb, own_e1 hb, own_l2 hb, own_g2 hb, own_e2 hb, own_l3 hb, own_g3 hb, own_e3 hb, own_l4 hb, own_g4 hb, own_e4 hb, own_l127 hb, own_g127 hb, own_e127 hb, own_l128 hb, own_g128 hb, own_e128 hb, own_l143 hb, own_g143 hb, own_e143 hb, own_l144 hb, own_g144 hb, own_e144 hb, own_l159 hb, own_g159 hb, own_e159 hb, own_l160 hb, own_g160 hb, own_e160 hb, own_l191 hb, own_g191 hb, own_e191 hb, own_l194 hb, own_g194 hb, own_e194 hb, own_l223 hb, own_g223 hb, own_e223 hb, own_l224 hb, own_g224 hb, own_e224 hb, own_l225 hb, own_g225 hb, own_e225 hb, own_l236 hb, own_g236 hb, own_e236 hb, own_l237 hb, own_g237 hb, own_e237 hb, own_l238 hb, own_g238 hb, own_e238 hb, own_l239 hb, own_g239 hb, own_e239 hb, own_l240 hb, own_g240 hb, own_e240 hb, own_l241 hb, own_g241 hb, own_e241 hb, own_l243 hb, own_g243 hb, own_e243 hb, own_l244 hb, own_g244 hb, own_e244 hb, own_i128_143 hb, own_i128_159 hb, own_i128_191 hb, own_i144_191 hb, own_i160_191 hb, own_i194_223 hb, own_i225_236 hb, own_i238_239 hb, own_i241_243 hb, own_l0 hc, own_g0 hc, own_e0 hc, own_l1 hc, own_g1 hc, own_e1 hc, own_l2 hc, own_g2 hc, own_e2 hc, own_l3 hc, own_g3 hc, own_e3 hc, own_l4 hc, own_g4 hc, own_e4 hc, own_l127 hc, own_g127 hc, own_e127 hc, own_l128 hc, own_g128 hc, own_e128 hc, own_l143 hc, own_g143 hc, own_e143 hc, own_l144 hc, own_g144 hc, own_e144 hc, own_l159 hc, own_g159 hc, own_e159 hc, own_l160 hc, own_g160 hc, own_e160 hc, own_l191 hc, own_g191 hc, own_e191 hc, own_l194 hc, own_g194 hc, own_e194 hc, own_l223 hc, own_g223 hc, own_e223 hc, own_l224 hc, own_g224 hc, own_e224 hc, own_l225 hc, own_g225 hc, own_e225 hc, own_l236 hc, own_g236 hc, own_e236 hc, own_l237 hc, own_g237 hc, own_e237 hc, own_l238 hc, own_g238 hc, own_e238 hc, own_l239 hc, own_g239 hc, own_e239 hc, own_l240 hc, own_g240 hc, own_e240 hc, own_l241 hc, own_g241 hc, own_e241 hc, own_l243 hc, own_g243 hc, own_e243 hc, own_l244 hc, own_g244 hc, own_e244 hc, own_i128_143 hc, own_i128_159 hc, own_i128_191 hc, own_i144_191 hc, own_i160_191 hc, own_i194_223 hc, own_i225_236 hc, own_i238_239 hc, own_i241_243 hc, own_l0 hd, own_g0 hd, own_e0 hd, own_l1 hd, own_g1 hd, own_e1 hd, own_l2 hd, own_g2 hd, own_e2 hd, own_l3 hd, own_g3 hd, own_e3 hd, own_l4 hd, own_g4 hd, own_e4 hd, own_l127 hd, own_g127 hd, own_e127 hd, own_l128 hd, own_g128 hd, own_e128 hd, own_l143 hd, own_g143 hd, own_e143 hd, own_l144 hd, own_g144 hd, own_e144 hd, own_l159 hd, own_g159 hd, own_e159 hd, own_l160 hd, own_g160 hd, own_e160 hd, own_l191 hd, own_g191 hd, own_e191 hd, own_l194 hd, own_g194 hd, own_e194 hd, own_l223 hd, own_g223 hd, own_e223 hd, own_l224 hd, own_g224 hd, own_e224 hd, own_l225 hd, own_g225 hd, own_e225 hd, own_l236 hd, own_g236 hd, own_e236 hd, own_l237 hd, own_g237 hd, own_e237 hd, own_l238 hd, own_g238 hd, own_e238 hd, own_l239 hd, own_g239 hd, own_e239 hd, own_l240 hd, own_g240 hd, own_e240 hd, own_l241 hd, own_g241 hd, own_e241 hd, own_l243 hd, own_g243 hd, own_e243 hd, own_l244 hd, own_g244 hd, own_e244 hd, own_i128_143 hd, own_i128_159 hd, own_i128_191 hd, own_i144_191 hd, own_i160_191 hd, own_i194_223 hd, own_i225_236 hd, own_i238_239 hd, own_i241_243 hd, own_l0 hm, own_g0 hm, own_e0 hm, own_l1 hm, own_g1 hm, own_e1 hm, own_l2 hm, own_g2 hm, own_e2 hm, own_l3 hm, own_g3 hm, own_e3 hm, own_l4 hm, own_g4 hm, own_e4 hm, own_l127 hm, own_g127 hm, own_e127 hm, own_l128 hm, own_g128 hm, own_e128 hm, own_l143 hm, own_g143 hm, own_e143 hm, own_l144 hm, own_g144 hm, own_e144 hm, own_l159 hm, own_g159 hm, own_e159 hm, own_l160 hm, own_g160 hm, own_e160 hm, own_l191 hm, own_g191 hm, own_e191 hm, own_l194 hm, own_g194 hm, own_e194 hm, own_l223 hm, own_g223 hm, own_e223 hm, own_l224 hm, own_g224 hm, own_e224 hm, own_l225 hm, own_g225 hm, own_e225 hm, own_l236 hm, own_g236 hm, own_e236 hm, own_l237 hm, own_g237 hm, own_e237 hm, own_l238 hm, own_g238 hm, own_e238 hm, own_l239 hm, own_g239 hm, own_e239 hm, own_l240 hm, own_g240 hm, own_e240 hm, own_l241 hm, own_g241 hm, own_e241 hm, own_l243 hm, own_g243 hm, own_e243 hm, own_l244 hm, own_g244 hm, own_e244 hm, own_i128_143 hm, own_i128_159 hm, own_i128_191 hm, own_i144_191 hm, own_i160_191 hm, own_i194_223 hm, own_i225_236 hm, own_i238_239 hm, own_i241_243 hm, own_s0_0, own_s0_1, own_s0_2, own_s0_3, own_s1_0, own_s1_1, own_s1_2, own_s1_3, own_s2_0, own_s2_1, own_s2_2, own_s2_3, own_s3_0, own_s3_1, own_s3_2, own_s3_3, own_s4_0, own_s4_1, own_s4_2, own_s4_3, if_true, if_false]
  all_goals repeat' split
  all_goals first | rfl | (exfalso; omega)
set_option maxHeartbeats 40000000 in
theorem own_main10 {y0 y1 y2 y3 : Int32} {a b c d m : Nat} (ha : a < 256) (hb : b < 256) (hc : c < 256) (hd : d < 256) (ea : (y0 &&& (255 : Int32)) = Int32.ofNat a) (eb : (y1 &&& (255 : Int32)) = Int32.ofNat b) (ec' : (y2 &&& (192 : Int32)) = Int32.ofNat (c &&& 192)) (ed' : (y3 &&& (192 : Int32)) = Int32.ofNat (d &&& 192)) (hm1 : 1 ≤ m) (hm : m < 256) (q1 : 245 ≤ a) (q2 : a ≤ 255) :
    own_seq y0 y1 y2 y3 (Int32.ofNat m) = own_exp (Int32.ofNat a) (Int32.ofNat b) (Int32.ofNat c) (Int32.ofNat d) (Int32.ofNat m) := by
  obtain ⟨c1, c2, c3⟩ := own_cls10 a ha q1 q2
  have e1 : own_need y0 = (0 : Int32) := by rw [← c1, ← ea]; rfl
  have e2 : own_lo y0 = (128 : Int32) := by rw [← c2, ← ea]; rfl
  have e3 : own_hi y0 = (191 : Int32) := by rw [← c3, ← ea]; rfl
  rw [own_exp, if_pos (by rw [own_g127 ha]; omega), if_pos (by rw [own_i194_223 ha]; omega), if_neg (by rw [own_e224 ha]; omega), if_pos (by rw [own_i225_236 ha]; omega), if_pos (by rw [own_i238_239 ha]; omega), if_neg (by rw [own_e237 ha]; omega), if_neg (by rw [own_e240 ha]; omega), if_pos (by rw [own_i241_243 ha]; omega), if_neg (by rw [own_e244 ha]; omega)]
  simp only [own_seq, e1, e2, e3, eb, ec', ed', own_cont c hc, own_cont d hd, own_l0 hb, own_g0 hb, own_e0 hb, own_l1 hb, own_g1 hb, own_e1 hb, own_l2 hb, own_g2 hb, own_e2 hb, own_l3 hb, own_g3 hb, own_e3 hb, own_l4 hb, own_g4 hb, own_e4 hb, own_l127 hb, own_g127 hb, own_e127 hb, own_l128 hb, own_g128 hb, own_e128 hb, own_l143 hb, own_g143 hb, own_e143 hb, own_l144 hb, own_g144 hb, own_e144 hb, own_l159 hb, own_g159 hb, own_e159 hb, own_l160 hb, own_g160 hb, own_e160 hb, own_l191 hb, own_g191 hb, own_e191 hb, own_l194 hb, own_g194 hb, own_e194 hb, own_l223 hb, own_g223 hb, own_e223 hb, own_l224 hb, own_g224 hb, own_e224 hb, own_l225 hb, own_g225 hb, own_e225 hb, own_l236 hb, own_g236 hb, own_e236 hb, own_l237 hb, own_g237 hb, own_e237 hb, own_l238 hb, own_g238 hb, own_e238 hb, own_l239 hb, own_g239 hb, own_e239 hb, own_l240 hb, own_g240 hb, own_e240 hb, own_l241 hb, own_g241 hb, own_e241 hb, own_l243 hb, own_g243 hb, own_e243 hb, own_l244 hb, own_g244 hb, own_e244 hb, own_i128_143 hb, own_i128_159 hb, own_i128_191 hb, own_i144_191 hb, own_i160_191 hb, own_i194_223 hb, own_i225_236 hb, own_i238_239 hb, own_i241_243 hb, own_l0 hc, own_g0 hc, own_e0 hc, own_l1 hc, own_g1 hc, own_e1 hc, own_l2 hc, own_g2 hc, own_e2 hc, own_l3 hc, own_g3 hc, own_e3 hc, own_l4 hc, own_g4 hc, own_e4 hc, own_l127 hc, own_g127 hc, own_e127 hc, own_l128 hc, own_g128 hc, own_e128 hc, own_l143 hc, own_g143 hc, own_e143 hc, own_l144 hc, own_g144 hc, own_e144 hc, own_l159 hc, own_g159 hc, own_e159 hc, own_l160 hc, own_g160 hc, own_e160 hc, own_l191 hc, own_g191 hc, own_e191 hc, own_l194 hc, own_g194 hc, own_e194 hc, own_l223 hc, own_g223 hc, own_e223 hc, own_l224 hc, own_g224 hc, own_e224 hc, own_l225 hc, own_g225 hc, own_e225 hc, own_l236 hc, own_g236 hc, own_e236 hc, own_l237 hc, own_g237 hc, own_e237 hc, own_l238 hc, own_g238 hc, own_e238 hc, own_l239 hc, own_g239 hc, own_e239 hc, own_l240 hc, own_g240 hc, own_e240 hc, own_l241 hc, own_g241 hc, own_e241 hc, own_l243 hc, own_g243 hc, own_e243 hc, own_l244 hc, own_g244 hc, own_e244 hc, own_i128_143 hc, own_i128_159 hc, own_i128_191 hc, own_i144_191 hc, own_i160_191 hc, own_i194_223 hc, own_i225_236 hc, own_i238_239 hc, own_i241_243 hc, own_l0 hd, own_g0 hd, own_e0 hd, own_l1 hd, own_g1 hd, own_e1 hd, own_l2 hd, own_g2 hd, own_e2 hd, own_l3 hd, own_g3 hd, own_e3 hd, own_l4 hd, own_g4 hd, own_e4 hd, own_l127 hd, own_g127 hd, own_e127 hd, own_l128 hd, own_g128 hd, own_e128 hd, own_l143 hd, own_g143 hd, own_e143 hd, own_l144 hd, own_g144 hd, own_e144 hd, own_l159 hd, own_g159 hd, own_e159 hd, own_l160 hd, own_g160 hd, own_e160 hd, own_l191 hd, own_g191 hd, own_e191 hd, own_l194 hd, own_g194 hd, own_e194 hd, own_l223 hd, own_g223 hd, own_e223 hd, own_l224 hd, own_g224 hd, own_e224 hd, own_l225 hd, own_g225 hd, own_e225 hd, own_l236 hd, own_g236 hd, own_e236 hd, own_l237 hd, own_g237 hd, own_e237 hd, own_l238 hd, own_g238 hd, own_e238 hd, own_l239 hd, own_g239 hd, own_e239 hd, own_l240 hd, own_g240 hd, own_e240 hd, own_l241 hd, own_g241 hd, own_e241 hd, own_l243 hd, own_g243 hd, own_e243 hd, own_l244 hd, own_g244 hd, own_e244 hd, own_i128_143 hd, own_i128_159 hd, own_i128_191 hd, own_i144_191 hd, own_i160_191 hd, own_i194_223 hd, own_i225_236 hd, own_i238_239 hd, own_i241_243 hd, own_l0 hm, own_g0 hm, own_e0 hm, own_l1 hm, own_g1 hm, own_e1 hm, own_l2 hm, own_g2 hm, own_e2 hm, own_l3 hm, own_g3 hm, own_e3 hm, own_l4 hm, own_g4 hm, own_e4 hm, own_l127 hm, own_g127 hm, own_e127 hm, own_l128 hm, own_g128 hm, own_e128 hm, own_l143 hm, own_g143 hm, own_e143 hm, own_l144 hm, own_g144 hm, own_e144 hm, own_l159 hm, own_g159 hm, own_e159 hm, own_l160 hm, own_g160 hm, own_e160 hm, own_l191 hm, own_g191 hm, own_e191 hm, own_l194 hm, own_g194 hm, own_e194 hm, own_l223 hm, own_g223 hm, own_e223 hm, own_l224 hm, own_g224 hm, own_e224 hm, own_l225 hm, own_g225 hm, own_e225 hm, own_l236 hm, own_g236 hm, own_e236 hm, own_l237 hm, own_g237 hm, own_e237 hm, own_l238 hm, own_g238 hm, own_e238 hm, own_l239 hm, own_g239 hm, own_e239 hm, own_l240 hm, own_g240 hm, own_e240 hm, own_l241 hm, own_g241 hm, own_e241 hm, own_l243 hm, own_g243 hm, own_e243 hm, own_l244 hm, own_g244 hm, own_e244 hm, own_i128_143 hm, own_i128_159 hm, own_i128_191 hm, own_i144_191 hm, own_i160_191 hm, own_i194_223 hm, own_i225_236 hm, own_i238_239 hm, own_i241_243 hm, own_s0_0, own_s0_1, own_s0_2, own_s0_3, own_s1_0, own_s1_1, own_s1_2, own_s1_3, own_s2_0, own_s2_1, own_s2_2, own_s2_3, own_s3_0, own_s3_1, own_s3_2, own_s3_3, own_s4_0, own_s4_1, own_s4_2, own_s4_3, if_true, if_false]
  all_goals repeat' split
  all_goals first | rfl | (exfalso; omega)
theorem own_main (y0 y1 y2 y3 : Int32) {m : Nat} (hm1 : 1 ≤ m) (hm : m < 256) : own_seq y0 y1 y2 y3 (Int32.ofNat m) = own_exp (y0 &&& (255 : Int32)) (y1 &&& (255 : Int32)) (y2 &&& (255 : Int32)) (y3 &&& (255 : Int32)) (Int32.ofNat m) := by
  obtain ⟨a, ha, ea, -⟩ := own_byte y0
  obtain ⟨b, hb, eb, -⟩ := own_byte y1
  obtain ⟨c, hc, ec, ec'⟩ := own_byte y2
  obtain ⟨d, hd, ed, ed'⟩ := own_byte y3
  rw [ea, eb, ec, ed]
  rcases (by omega : (0 ≤ a ∧ a ≤ 127) ∨ (128 ≤ a ∧ a ≤ 193) ∨ (194 ≤ a ∧ a ≤ 223) ∨ (224 ≤ a ∧ a ≤ 224) ∨ (225 ≤ a ∧ a ≤ 236) ∨ (237 ≤ a ∧ a ≤ 237) ∨ (238 ≤ a ∧ a ≤ 239) ∨ (240 ≤ a ∧ a ≤ 240) ∨ (241 ≤ a ∧ a ≤ 243) ∨ (244 ≤ a ∧ a ≤ 244) ∨ (245 ≤ a ∧ a ≤ 255)) with ⟨q1, q2⟩ | ⟨q1, q2⟩ | ⟨q1, q2⟩ | ⟨q1, q2⟩ | ⟨q1, q2⟩ | ⟨q1, q2⟩ | ⟨q1, q2⟩ | ⟨q1, q2⟩ | ⟨q1, q2⟩ | ⟨q1, q2⟩ | ⟨q1, q2⟩
  · exact own_main0 ha hb hc hd ea eb ec' ed' hm1 hm q1 q2
  · exact own_main1 ha hb hc hd ea eb ec' ed' hm1 hm q1 q2
  · exact own_main2 ha hb hc hd ea eb ec' ed' hm1 hm q1 q2
  · exact own_main3 ha hb hc hd ea eb ec' ed' hm1 hm q1 q2
  · exact own_main4 ha hb hc hd ea eb ec' ed' hm1 hm q1 q2
  · exact own_main5 ha hb hc hd ea eb ec' ed' hm1 hm q1 q2
  · exact own_main6 ha hb hc hd ea eb ec' ed' hm1 hm q1 q2
  · exact own_main7 ha hb hc hd ea eb ec' ed' hm1 hm q1 q2
  · exact own_main8 ha hb hc hd ea eb ec' ed' hm1 hm q1 q2
  · exact own_main9 ha hb hc hd ea eb ec' ed' hm1 hm q1 q2
  · exact own_main10 ha hb hc hd ea eb ec' ed' hm1 hm q1 q2
theorem own_law0 (p0 p1 p2 : Int32) : (own_seq ((p0.toInt8.toInt32).toInt8.toInt32) (((XT.ushr p0 (8 : Int32)).toInt8.toInt32).toInt8.toInt32) (((XT.ushr p0 (16 : Int32)).toInt8.toInt32).toInt8.toInt32) (((XT.ushr p0 (24 : Int32)).toInt8.toInt32).toInt8.toInt32) (((1 : Int32) + ((XT.ushr p2 (1 : Int32)) &&& (3 : Int32))) - (0 : Int32))) = (own_exp ((p0.toInt8.toInt32).toInt8.toInt32 &&& (255 : Int32)) (((XT.ushr p0 (8 : Int32)).toInt8.toInt32).toInt8.toInt32 &&& (255 : Int32)) (((XT.ushr p0 (16 : Int32)).toInt8.toInt32).toInt8.toInt32 &&& (255 : Int32)) (((XT.ushr p0 (24 : Int32)).toInt8.toInt32).toInt8.toInt32 &&& (255 : Int32)) (((1 : Int32) + ((XT.ushr p2 (1 : Int32)) &&& (3 : Int32))) - (0 : Int32))) := by
  obtain ⟨m, hm, em⟩ := own_len p2
  rw [em]
  have e : (((1 : Int32) + Int32.ofNat m) - (0 : Int32)) = Int32.ofNat (m + 1) := by
    match m, hm with
    | 0, _ => rfl
    | 1, _ => rfl
    | 2, _ => rfl
    | 3, _ => rfl
  rw [e]
  exact own_main _ _ _ _ (by omega) (by omega)
theorem own_law1 (p0 p1 p2 : Int32) : (own_seq (((XT.ushr p0 (8 : Int32)).toInt8.toInt32).toInt8.toInt32) (((XT.ushr p0 (16 : Int32)).toInt8.toInt32).toInt8.toInt32) (((XT.ushr p0 (24 : Int32)).toInt8.toInt32).toInt8.toInt32) ((p1.toInt8.toInt32).toInt8.toInt32) (((2 : Int32) + ((XT.ushr p2 (1 : Int32)) &&& (3 : Int32))) - (1 : Int32))) = (own_exp (((XT.ushr p0 (8 : Int32)).toInt8.toInt32).toInt8.toInt32 &&& (255 : Int32)) (((XT.ushr p0 (16 : Int32)).toInt8.toInt32).toInt8.toInt32 &&& (255 : Int32)) (((XT.ushr p0 (24 : Int32)).toInt8.toInt32).toInt8.toInt32 &&& (255 : Int32)) ((p1.toInt8.toInt32).toInt8.toInt32 &&& (255 : Int32)) (((2 : Int32) + ((XT.ushr p2 (1 : Int32)) &&& (3 : Int32))) - (1 : Int32))) := by
  obtain ⟨m, hm, em⟩ := own_len p2
  rw [em]
  have e : (((2 : Int32) + Int32.ofNat m) - (1 : Int32)) = Int32.ofNat (m + 1) := by
    match m, hm with
    | 0, _ => rfl
    | 1, _ => rfl
    | 2, _ => rfl
    | 3, _ => rfl
  rw [e]
  exact own_main _ _ _ _ (by omega) (by omega)

theorem dI_0 : decode method_3_code 0 = .ok (.iload_n 1, 1) := by decide +kernel
theorem dI_1 : decode method_3_code 1 = .ok (.iload_n 0, 1) := by decide +kernel
theorem dI_2 : decode method_3_code 2 = .ok (.if_icmp .gt 12, 3) := by decide +kernel
theorem dI_14 : decode method_3_code 14 = .ok (.iconst 0, 1) := by decide +kernel
theorem dI_15 : decode method_3_code 15 = .ok (.ireturn, 1) := by decide +kernel
theorem dI_5 : decode method_3_code 5 = .ok (.iload_n 0, 1) := by decide +kernel
theorem dI_6 : decode method_3_code 6 = .ok (.iload_n 2, 1) := by decide +kernel
theorem dI_7 : decode method_3_code 7 = .ok (.if_icmp .gt 7, 3) := by decide +kernel
theorem dI_10 : decode method_3_code 10 = .ok (.iconst 1, 1) := by decide +kernel
theorem dI_11 : decode method_3_code 11 = .ok (.goto 4, 3) := by decide +kernel
theorem pn_I : plainName "com/example/gate_to_gate/gatetogate/model/Utf8SequenceLengthPinLaw" = true := by first | (simp [plainName, overriddenIn]; done) | decide +kernel
theorem ef_I (m : MethodId) (x0 : Int32) (x1 : Int32) (x2 : Int32) : entryFrame m #[(.int x0), (.int x1), (.int x2)] 3 = mkF m 0 #[.val (.int x0), .val (.int x1), .val (.int x2)] [] := by first | (simp [entryFrame, mkF, argsToLocals, Value.category]; done) | rfl
def QI (Z : State) (x0 : Int32) (x1 : Int32) (x2 : Int32) (h0 : Heap) (n0 : Nat) (v : Option Value) (h : Heap) (L : List Loc) : Prop := v = some (.int (own_in x0 x1 x2)) ∧ Fr n0 L ∧ h = h0
set_option maxRecDepth 65536 in
set_option maxHeartbeats 40000000 in
theorem rmI (l : Launch) (Z : State) (a0 : Array Value) (hw : ∀ d ∈ tables_1, d.before a0 Z = true) (ws : List Jvm.Cond) (x0 : Int32) (x1 : Int32) (x2 : Int32) (h0 : Heap) (n0 : Nat) (Z0 : n0 ≤ h0.size) :
    MetFree l (⟨"com/example/gate_to_gate/gatetogate/model/Utf8SequenceLengthPinLaw", "in", "(III)Z"⟩ : MethodName) (head1 (Jvm.Cond.code (⟨"com/example/gate_to_gate/gatetogate/model/Utf8SequenceLengthPinLaw", "in", "(III)Z"⟩ : MethodName) method_3_code 3 (some .boolean) :: ws) ({ frames := 0, cells := 0, slots := 0, locals := 0 } : Room)) (fun aA oU => aA = #[(.int x0), (.int x1), (.int x2)] ∧ Z.Warmed39 oU.vm ∧ oU.heap = h0) (fun _ _ _ _ _ => True) (fun _ oU oO oU' => ∃ oV oL, oO = .returned oV ∧ QI Z x0 x1 x2 h0 n0 oV oU'.heap oL ∧ FrameEnd oU oO oU' oL ({ frames := 0, cells := 0, slots := 0, locals := 0 } : Room).cells ({ frames := 0, cells := 0, slots := 0, locals := 0 } : Room).slots) := by
  refine MetFree.of_bodySF (plainFor_of_name pn_I) hisR ?_
  intro p e s m args below meth c s₁ Bd hml0 hP hK
  obtain ⟨rfl, hZ, hh⟩ := hP
  have hx := Bd.exec
  have hby := Bd.bytes
  have hlk := BodyLoose.notSynchronized Bd
  have hml : c.maxLocals = 3 := hml0
  have hown : s.vm.findClass "com/example/gate_to_gate/gatetogate/model/Utf8SequenceLengthPinLaw" = some m.cls := findClass_of_methodNamed Bd.named
  have hnm := (name_of_methodNamed Bd.named Bd.method).1
  have X0 : Stand p l e ({ frames := 0, cells := 0, slots := 0, locals := 0 } : Room) s m #[(.int x0), (.int x1), (.int x2)] below meth c s₁ [] 0 0 := Stand.of_body Bd
  have e0 : s₁.heap = h0 := by rw [← hh, Bd.state]; rfl
  have N0 := Fr.nil n0
  show OG p e below s ({ frames := 0, cells := 0, slots := 0, locals := 0 } : Room).cells ({ frames := 0, cells := 0, slots := 0, locals := 0 } : Room).slots (QI Z x0 x1 x2 h0 n0) _
  refine OG.of (fun oT oK => castTop (ef_I m x0 x1 x2) oK) ?_
  show OG p e below s _ _ _ (s₁.setTop (mkF m 0 #[.val (.int x0), .val (.int x1), .val (.int x2)] []))
  refine OG.of (A := s₁.setTop (mkF m 2 #[.val (.int x0), .val (.int x1), .val (.int x2)] [(.int x0), (.int x1)])) (fun oT oK => ?_) ?_
  · show Steps p.tables e below (s₁.setTop (mkF m 0 #[.val (.int x0), .val (.int x1), .val (.int x2)] [])) oT
    refine XS.iloadN X0.here hx rfl (hb hby dI_0) rfl  ?_
    show Steps p.tables e below (s₁.setTop (mkF m 1 #[.val (.int x0), .val (.int x1), .val (.int x2)] [(.int x1)])) _
    refine XS.iloadN X0.here hx rfl (hb hby dI_1) rfl  ?_
    exact oK
  show OG _ _ _ _ _ _ _ (s₁.setTop (mkF m 2 #[.val (.int x0), .val (.int x1), .val (.int x2)] [(.int x0), (.int x1)]))
  by_cases hc2_1 : x0 < x1
  · refine OG.of (fun oT oK => XS.icmpYes X0.here hx rfl (pc0 := 2) (pc' := 14) rfl (hb hby dI_2) rfl (XT.ii_gt_t hc2_1) (by decide) (by decide) oK) ?_
    show OG _ _ _ _ _ _ _ (s₁.setTop (mkF m 14 #[.val (.int x0), .val (.int x1), .val (.int x2)] []))
    refine OG.of (A := s₁.setTop (mkF m 15 #[.val (.int x0), .val (.int x1), .val (.int x2)] [(.int (0 : Int32))])) (fun oT oK => ?_) ?_
    · show Steps p.tables e below (s₁.setTop (mkF m 14 #[.val (.int x0), .val (.int x1), .val (.int x2)] [])) oT
      refine XS.iconst X0.here hx rfl (hb hby dI_14) ?_
      exact oK
    show OG _ _ _ _ _ _ _ (s₁.setTop (mkF m 15 #[.val (.int x0), .val (.int x1), .val (.int x2)] [(.int (0 : Int32))]))
    refine OG.retN X0 hx (t := .boolean) Bd.returns (by simp) (hb hby dI_15) hlk ?_ (by decide) (by decide)
    try rw [e0]
    exact ⟨by rw [own_in, if_pos hc2_1] <;> rfl, N0, rfl⟩
  · refine OG.of (fun oT oK => XS.icmpNo X0.here hx rfl (hb hby dI_2) rfl (XT.ii_gt_f hc2_1) oK) ?_
    show OG _ _ _ _ _ _ _ (s₁.setTop (mkF m 5 #[.val (.int x0), .val (.int x1), .val (.int x2)] []))
    refine OG.of (A := s₁.setTop (mkF m 7 #[.val (.int x0), .val (.int x1), .val (.int x2)] [(.int x2), (.int x0)])) (fun oT oK => ?_) ?_
    · show Steps p.tables e below (s₁.setTop (mkF m 5 #[.val (.int x0), .val (.int x1), .val (.int x2)] [])) oT
      refine XS.iloadN X0.here hx rfl (hb hby dI_5) rfl  ?_
      show Steps p.tables e below (s₁.setTop (mkF m 6 #[.val (.int x0), .val (.int x1), .val (.int x2)] [(.int x0)])) _
      refine XS.iloadN X0.here hx rfl (hb hby dI_6) rfl  ?_
      exact oK
    show OG _ _ _ _ _ _ _ (s₁.setTop (mkF m 7 #[.val (.int x0), .val (.int x1), .val (.int x2)] [(.int x2), (.int x0)]))
    by_cases hc7_2 : x2 < x0
    · refine OG.of (fun oT oK => XS.icmpYes X0.here hx rfl (pc0 := 7) (pc' := 14) rfl (hb hby dI_7) rfl (XT.ii_gt_t hc7_2) (by decide) (by decide) oK) ?_
      show OG _ _ _ _ _ _ _ (s₁.setTop (mkF m 14 #[.val (.int x0), .val (.int x1), .val (.int x2)] []))
      refine OG.of (A := s₁.setTop (mkF m 15 #[.val (.int x0), .val (.int x1), .val (.int x2)] [(.int (0 : Int32))])) (fun oT oK => ?_) ?_
      · show Steps p.tables e below (s₁.setTop (mkF m 14 #[.val (.int x0), .val (.int x1), .val (.int x2)] [])) oT
        refine XS.iconst X0.here hx rfl (hb hby dI_14) ?_
        exact oK
      show OG _ _ _ _ _ _ _ (s₁.setTop (mkF m 15 #[.val (.int x0), .val (.int x1), .val (.int x2)] [(.int (0 : Int32))]))
      refine OG.retN X0 hx (t := .boolean) Bd.returns (by simp) (hb hby dI_15) hlk ?_ (by decide) (by decide)
      try rw [e0]
      exact ⟨by rw [own_in, if_neg hc2_1, if_pos hc7_2] <;> rfl, N0, rfl⟩
    · refine OG.of (fun oT oK => XS.icmpNo X0.here hx rfl (hb hby dI_7) rfl (XT.ii_gt_f hc7_2) oK) ?_
      show OG _ _ _ _ _ _ _ (s₁.setTop (mkF m 10 #[.val (.int x0), .val (.int x1), .val (.int x2)] []))
      refine OG.of (A := s₁.setTop (mkF m 15 #[.val (.int x0), .val (.int x1), .val (.int x2)] [(.int (1 : Int32))])) (fun oT oK => ?_) ?_
      · show Steps p.tables e below (s₁.setTop (mkF m 10 #[.val (.int x0), .val (.int x1), .val (.int x2)] [])) oT
        refine XS.iconst X0.here hx rfl (hb hby dI_10) ?_
        show Steps p.tables e below (s₁.setTop (mkF m 11 #[.val (.int x0), .val (.int x1), .val (.int x2)] [(.int (1 : Int32))])) _
        refine XS.goto X0.here hx rfl (pc0 := 11) (pc' := 15) rfl (hb hby dI_11) (by decide) (by decide) ?_
        exact oK
      show OG _ _ _ _ _ _ _ (s₁.setTop (mkF m 15 #[.val (.int x0), .val (.int x1), .val (.int x2)] [(.int (1 : Int32))]))
      refine OG.retN X0 hx (t := .boolean) Bd.returns (by simp) (hb hby dI_15) hlk ?_ (by decide) (by decide)
      try rw [e0]
      exact ⟨by rw [own_in, if_neg hc2_1, if_neg hc7_2] <;> rfl, N0, rfl⟩
theorem dE_0 : decode method_4_code 0 = .ok (.iload_n 0, 1) := by decide +kernel
theorem dE_1 : decode method_4_code 1 = .ok (.bipush 127, 2) := by decide +kernel
theorem dE_3 : decode method_4_code 3 = .ok (.if_icmp .gt 5, 3) := by decide +kernel
theorem dE_8 : decode method_4_code 8 = .ok (.iload_n 0, 1) := by decide +kernel
theorem dE_9 : decode method_4_code 9 = .ok (.sipush 194, 3) := by decide +kernel
theorem dE_12 : decode method_4_code 12 = .ok (.sipush 223, 3) := by decide +kernel
theorem dE_15 : decode method_4_code 15 = .ok (.invokestatic 19, 3) := by decide +kernel
theorem pd__III_Z : parseMethodDescriptor "(III)Z" = some ⟨[.int, .int, .int], some .boolean⟩ := by decide +kernel
theorem dE_18 : decode method_4_code 18 = .ok (.ifCond .eq 28, 3) := by decide +kernel
theorem dE_46 : decode method_4_code 46 = .ok (.iload_n 2, 1) := by decide +kernel
theorem dE_47 : decode method_4_code 47 = .ok (.sipush 128, 3) := by decide +kernel
theorem dE_50 : decode method_4_code 50 = .ok (.sipush 191, 3) := by decide +kernel
theorem dE_53 : decode method_4_code 53 = .ok (.invokestatic 19, 3) := by decide +kernel
theorem dE_56 : decode method_4_code 56 = .ok (.istore 5, 2) := by decide +kernel
theorem dE_58 : decode method_4_code 58 = .ok (.iload_n 3, 1) := by decide +kernel
theorem dE_59 : decode method_4_code 59 = .ok (.sipush 128, 3) := by decide +kernel
theorem dE_62 : decode method_4_code 62 = .ok (.sipush 191, 3) := by decide +kernel
theorem dE_65 : decode method_4_code 65 = .ok (.invokestatic 19, 3) := by decide +kernel
theorem dE_68 : decode method_4_code 68 = .ok (.istore 6, 2) := by decide +kernel
theorem dE_70 : decode method_4_code 70 = .ok (.iload_n 0, 1) := by decide +kernel
theorem dE_71 : decode method_4_code 71 = .ok (.sipush 224, 3) := by decide +kernel
theorem dE_74 : decode method_4_code 74 = .ok (.if_icmp .ne 33, 3) := by decide +kernel
theorem dE_77 : decode method_4_code 77 = .ok (.iload 4, 2) := by decide +kernel
theorem dE_79 : decode method_4_code 79 = .ok (.iconst 3, 1) := by decide +kernel
theorem dE_80 : decode method_4_code 80 = .ok (.if_icmp .lt 25, 3) := by decide +kernel
theorem dE_105 : decode method_4_code 105 = .ok (.iconst 0, 1) := by decide +kernel
theorem dE_106 : decode method_4_code 106 = .ok (.ireturn, 1) := by decide +kernel
theorem dE_83 : decode method_4_code 83 = .ok (.iload_n 1, 1) := by decide +kernel
theorem dE_84 : decode method_4_code 84 = .ok (.sipush 160, 3) := by decide +kernel
theorem dE_87 : decode method_4_code 87 = .ok (.sipush 191, 3) := by decide +kernel
theorem dE_90 : decode method_4_code 90 = .ok (.invokestatic 19, 3) := by decide +kernel
theorem dE_93 : decode method_4_code 93 = .ok (.ifCond .eq 12, 3) := by decide +kernel
theorem dE_96 : decode method_4_code 96 = .ok (.iload 5, 2) := by decide +kernel
theorem dE_98 : decode method_4_code 98 = .ok (.ifCond .eq 7, 3) := by decide +kernel
theorem dE_101 : decode method_4_code 101 = .ok (.iconst 3, 1) := by decide +kernel
theorem dE_102 : decode method_4_code 102 = .ok (.goto 4, 3) := by decide +kernel
theorem dE_107 : decode method_4_code 107 = .ok (.iload_n 0, 1) := by decide +kernel
theorem dE_108 : decode method_4_code 108 = .ok (.sipush 225, 3) := by decide +kernel
theorem dE_111 : decode method_4_code 111 = .ok (.sipush 236, 3) := by decide +kernel
theorem dE_114 : decode method_4_code 114 = .ok (.invokestatic 19, 3) := by decide +kernel
theorem dE_117 : decode method_4_code 117 = .ok (.ifCond .ne 16, 3) := by decide +kernel
theorem dE_120 : decode method_4_code 120 = .ok (.iload_n 0, 1) := by decide +kernel
theorem dE_121 : decode method_4_code 121 = .ok (.sipush 238, 3) := by decide +kernel
theorem dE_124 : decode method_4_code 124 = .ok (.sipush 239, 3) := by decide +kernel
theorem dE_127 : decode method_4_code 127 = .ok (.invokestatic 19, 3) := by decide +kernel
theorem dE_130 : decode method_4_code 130 = .ok (.ifCond .eq 33, 3) := by decide +kernel
theorem dE_163 : decode method_4_code 163 = .ok (.iload_n 0, 1) := by decide +kernel
theorem dE_164 : decode method_4_code 164 = .ok (.sipush 237, 3) := by decide +kernel
theorem dE_167 : decode method_4_code 167 = .ok (.if_icmp .ne 33, 3) := by decide +kernel
theorem dE_170 : decode method_4_code 170 = .ok (.iload 4, 2) := by decide +kernel
theorem dE_172 : decode method_4_code 172 = .ok (.iconst 3, 1) := by decide +kernel
theorem dE_173 : decode method_4_code 173 = .ok (.if_icmp .lt 25, 3) := by decide +kernel
theorem dE_198 : decode method_4_code 198 = .ok (.iconst 0, 1) := by decide +kernel
theorem dE_199 : decode method_4_code 199 = .ok (.ireturn, 1) := by decide +kernel
theorem dE_176 : decode method_4_code 176 = .ok (.iload_n 1, 1) := by decide +kernel
theorem dE_177 : decode method_4_code 177 = .ok (.sipush 128, 3) := by decide +kernel
theorem dE_180 : decode method_4_code 180 = .ok (.sipush 159, 3) := by decide +kernel
theorem dE_183 : decode method_4_code 183 = .ok (.invokestatic 19, 3) := by decide +kernel
theorem dE_186 : decode method_4_code 186 = .ok (.ifCond .eq 12, 3) := by decide +kernel
theorem dE_189 : decode method_4_code 189 = .ok (.iload 5, 2) := by decide +kernel
theorem dE_191 : decode method_4_code 191 = .ok (.ifCond .eq 7, 3) := by decide +kernel
theorem dE_194 : decode method_4_code 194 = .ok (.iconst 3, 1) := by decide +kernel
theorem dE_195 : decode method_4_code 195 = .ok (.goto 4, 3) := by decide +kernel
theorem dE_200 : decode method_4_code 200 = .ok (.iload_n 0, 1) := by decide +kernel
theorem dE_201 : decode method_4_code 201 = .ok (.sipush 240, 3) := by decide +kernel
theorem dE_204 : decode method_4_code 204 = .ok (.if_icmp .ne 38, 3) := by decide +kernel
theorem dE_207 : decode method_4_code 207 = .ok (.iload 4, 2) := by decide +kernel
theorem dE_209 : decode method_4_code 209 = .ok (.iconst 4, 1) := by decide +kernel
theorem dE_210 : decode method_4_code 210 = .ok (.if_icmp .lt 30, 3) := by decide +kernel
theorem dE_240 : decode method_4_code 240 = .ok (.iconst 0, 1) := by decide +kernel
theorem dE_241 : decode method_4_code 241 = .ok (.ireturn, 1) := by decide +kernel
theorem dE_213 : decode method_4_code 213 = .ok (.iload_n 1, 1) := by decide +kernel
theorem dE_214 : decode method_4_code 214 = .ok (.sipush 144, 3) := by decide +kernel
theorem dE_217 : decode method_4_code 217 = .ok (.sipush 191, 3) := by decide +kernel
theorem dE_220 : decode method_4_code 220 = .ok (.invokestatic 19, 3) := by decide +kernel
theorem dE_223 : decode method_4_code 223 = .ok (.ifCond .eq 17, 3) := by decide +kernel
theorem dE_226 : decode method_4_code 226 = .ok (.iload 5, 2) := by decide +kernel
theorem dE_228 : decode method_4_code 228 = .ok (.ifCond .eq 12, 3) := by decide +kernel
theorem dE_231 : decode method_4_code 231 = .ok (.iload 6, 2) := by decide +kernel
theorem dE_233 : decode method_4_code 233 = .ok (.ifCond .eq 7, 3) := by decide +kernel
theorem dE_236 : decode method_4_code 236 = .ok (.iconst 4, 1) := by decide +kernel
theorem dE_237 : decode method_4_code 237 = .ok (.goto 4, 3) := by decide +kernel
theorem dE_242 : decode method_4_code 242 = .ok (.iload_n 0, 1) := by decide +kernel
theorem dE_243 : decode method_4_code 243 = .ok (.sipush 241, 3) := by decide +kernel
theorem dE_246 : decode method_4_code 246 = .ok (.sipush 243, 3) := by decide +kernel
theorem dE_249 : decode method_4_code 249 = .ok (.invokestatic 19, 3) := by decide +kernel
theorem dE_252 : decode method_4_code 252 = .ok (.ifCond .eq 38, 3) := by decide +kernel
theorem dE_290 : decode method_4_code 290 = .ok (.iload_n 0, 1) := by decide +kernel
theorem dE_291 : decode method_4_code 291 = .ok (.sipush 244, 3) := by decide +kernel
theorem dE_294 : decode method_4_code 294 = .ok (.if_icmp .ne 38, 3) := by decide +kernel
theorem dE_297 : decode method_4_code 297 = .ok (.iload 4, 2) := by decide +kernel
theorem dE_299 : decode method_4_code 299 = .ok (.iconst 4, 1) := by decide +kernel
theorem dE_300 : decode method_4_code 300 = .ok (.if_icmp .lt 30, 3) := by decide +kernel
theorem dE_330 : decode method_4_code 330 = .ok (.iconst 0, 1) := by decide +kernel
theorem dE_331 : decode method_4_code 331 = .ok (.ireturn, 1) := by decide +kernel
theorem dE_303 : decode method_4_code 303 = .ok (.iload_n 1, 1) := by decide +kernel
theorem dE_304 : decode method_4_code 304 = .ok (.sipush 128, 3) := by decide +kernel
theorem dE_307 : decode method_4_code 307 = .ok (.sipush 143, 3) := by decide +kernel
theorem dE_310 : decode method_4_code 310 = .ok (.invokestatic 19, 3) := by decide +kernel
theorem dE_313 : decode method_4_code 313 = .ok (.ifCond .eq 17, 3) := by decide +kernel
theorem dE_316 : decode method_4_code 316 = .ok (.iload 5, 2) := by decide +kernel
theorem dE_318 : decode method_4_code 318 = .ok (.ifCond .eq 12, 3) := by decide +kernel
theorem dE_321 : decode method_4_code 321 = .ok (.iload 6, 2) := by decide +kernel
theorem dE_323 : decode method_4_code 323 = .ok (.ifCond .eq 7, 3) := by decide +kernel
theorem dE_326 : decode method_4_code 326 = .ok (.iconst 4, 1) := by decide +kernel
theorem dE_327 : decode method_4_code 327 = .ok (.goto 4, 3) := by decide +kernel
theorem dE_332 : decode method_4_code 332 = .ok (.iconst 0, 1) := by decide +kernel
theorem dE_333 : decode method_4_code 333 = .ok (.ireturn, 1) := by decide +kernel
theorem dE_255 : decode method_4_code 255 = .ok (.iload 4, 2) := by decide +kernel
theorem dE_257 : decode method_4_code 257 = .ok (.iconst 4, 1) := by decide +kernel
theorem dE_258 : decode method_4_code 258 = .ok (.if_icmp .lt 30, 3) := by decide +kernel
theorem dE_288 : decode method_4_code 288 = .ok (.iconst 0, 1) := by decide +kernel
theorem dE_289 : decode method_4_code 289 = .ok (.ireturn, 1) := by decide +kernel
theorem dE_261 : decode method_4_code 261 = .ok (.iload_n 1, 1) := by decide +kernel
theorem dE_262 : decode method_4_code 262 = .ok (.sipush 128, 3) := by decide +kernel
theorem dE_265 : decode method_4_code 265 = .ok (.sipush 191, 3) := by decide +kernel
theorem dE_268 : decode method_4_code 268 = .ok (.invokestatic 19, 3) := by decide +kernel
theorem dE_271 : decode method_4_code 271 = .ok (.ifCond .eq 17, 3) := by decide +kernel
theorem dE_274 : decode method_4_code 274 = .ok (.iload 5, 2) := by decide +kernel
theorem dE_276 : decode method_4_code 276 = .ok (.ifCond .eq 12, 3) := by decide +kernel
theorem dE_279 : decode method_4_code 279 = .ok (.iload 6, 2) := by decide +kernel
theorem dE_281 : decode method_4_code 281 = .ok (.ifCond .eq 7, 3) := by decide +kernel
theorem dE_284 : decode method_4_code 284 = .ok (.iconst 4, 1) := by decide +kernel
theorem dE_285 : decode method_4_code 285 = .ok (.goto 4, 3) := by decide +kernel
theorem dE_133 : decode method_4_code 133 = .ok (.iload 4, 2) := by decide +kernel
theorem dE_135 : decode method_4_code 135 = .ok (.iconst 3, 1) := by decide +kernel
theorem dE_136 : decode method_4_code 136 = .ok (.if_icmp .lt 25, 3) := by decide +kernel
theorem dE_161 : decode method_4_code 161 = .ok (.iconst 0, 1) := by decide +kernel
theorem dE_162 : decode method_4_code 162 = .ok (.ireturn, 1) := by decide +kernel
theorem dE_139 : decode method_4_code 139 = .ok (.iload_n 1, 1) := by decide +kernel
theorem dE_140 : decode method_4_code 140 = .ok (.sipush 128, 3) := by decide +kernel
theorem dE_143 : decode method_4_code 143 = .ok (.sipush 191, 3) := by decide +kernel
theorem dE_146 : decode method_4_code 146 = .ok (.invokestatic 19, 3) := by decide +kernel
theorem dE_149 : decode method_4_code 149 = .ok (.ifCond .eq 12, 3) := by decide +kernel
theorem dE_152 : decode method_4_code 152 = .ok (.iload 5, 2) := by decide +kernel
theorem dE_154 : decode method_4_code 154 = .ok (.ifCond .eq 7, 3) := by decide +kernel
theorem dE_157 : decode method_4_code 157 = .ok (.iconst 3, 1) := by decide +kernel
theorem dE_158 : decode method_4_code 158 = .ok (.goto 4, 3) := by decide +kernel
theorem dE_21 : decode method_4_code 21 = .ok (.iload 4, 2) := by decide +kernel
theorem dE_23 : decode method_4_code 23 = .ok (.iconst 2, 1) := by decide +kernel
theorem dE_24 : decode method_4_code 24 = .ok (.if_icmp .lt 20, 3) := by decide +kernel
theorem dE_44 : decode method_4_code 44 = .ok (.iconst 0, 1) := by decide +kernel
theorem dE_45 : decode method_4_code 45 = .ok (.ireturn, 1) := by decide +kernel
theorem dE_27 : decode method_4_code 27 = .ok (.iload_n 1, 1) := by decide +kernel
theorem dE_28 : decode method_4_code 28 = .ok (.sipush 128, 3) := by decide +kernel
theorem dE_31 : decode method_4_code 31 = .ok (.sipush 191, 3) := by decide +kernel
theorem dE_34 : decode method_4_code 34 = .ok (.invokestatic 19, 3) := by decide +kernel
theorem dE_37 : decode method_4_code 37 = .ok (.ifCond .eq 7, 3) := by decide +kernel
theorem dE_40 : decode method_4_code 40 = .ok (.iconst 2, 1) := by decide +kernel
theorem dE_41 : decode method_4_code 41 = .ok (.goto 4, 3) := by decide +kernel
theorem dE_6 : decode method_4_code 6 = .ok (.iconst 1, 1) := by decide +kernel
theorem dE_7 : decode method_4_code 7 = .ok (.ireturn, 1) := by decide +kernel
theorem pn_E : plainName "com/example/gate_to_gate/gatetogate/model/Utf8SequenceLengthPinLaw" = true := by first | (simp [plainName, overriddenIn]; done) | decide +kernel
theorem ef_E (m : MethodId) (x0 : Int32) (x1 : Int32) (x2 : Int32) (x3 : Int32) (x4 : Int32) : entryFrame m #[(.int x0), (.int x1), (.int x2), (.int x3), (.int x4)] 7 = mkF m 0 #[.val (.int x0), .val (.int x1), .val (.int x2), .val (.int x3), .val (.int x4), .unset, .unset] [] := by first | (simp [entryFrame, mkF, argsToLocals, Value.category]; done) | rfl
def QE (Z : State) (x0 : Int32) (x1 : Int32) (x2 : Int32) (x3 : Int32) (x4 : Int32) (h0 : Heap) (n0 : Nat) (v : Option Value) (h : Heap) (L : List Loc) : Prop := v = some (.int (own_exp x0 x1 x2 x3 x4)) ∧ Fr n0 L ∧ h = h0
set_option maxRecDepth 65536 in
set_option maxHeartbeats 40000000 in
theorem rmE (l : Launch) (Z : State) (a0 : Array Value) (hw : ∀ d ∈ tables_1, d.before a0 Z = true) (ws : List Jvm.Cond) (x0 : Int32) (x1 : Int32) (x2 : Int32) (x3 : Int32) (x4 : Int32) (h0 : Heap) (n0 : Nat) (Z0 : n0 ≤ h0.size) :
    MetFree l (⟨"com/example/gate_to_gate/gatetogate/model/Utf8SequenceLengthPinLaw", "expected", "(IIIII)I"⟩ : MethodName) (head1 (Jvm.Cond.code (⟨"com/example/gate_to_gate/gatetogate/model/Utf8SequenceLengthPinLaw", "expected", "(IIIII)I"⟩ : MethodName) method_4_code 7 (some .int) :: ws) ({ frames := 1, cells := 0, slots := 0, locals := 14 } : Room)) (fun aA oU => aA = #[(.int x0), (.int x1), (.int x2), (.int x3), (.int x4)] ∧ Z.Warmed39 oU.vm ∧ oU.heap = h0) (fun _ _ _ _ _ => True) (fun _ oU oO oU' => ∃ oV oL, oO = .returned oV ∧ QE Z x0 x1 x2 x3 x4 h0 n0 oV oU'.heap oL ∧ FrameEnd oU oO oU' oL ({ frames := 1, cells := 0, slots := 0, locals := 14 } : Room).cells ({ frames := 1, cells := 0, slots := 0, locals := 14 } : Room).slots) := by
  refine MetFree.of_bodySF (plainFor_of_name pn_E) hisR ?_
  intro p e s m args below meth c s₁ Bd hml0 hP hK
  obtain ⟨rfl, hZ, hh⟩ := hP
  have hx := Bd.exec
  have hby := Bd.bytes
  have hlk := BodyLoose.notSynchronized Bd
  have hml : c.maxLocals = 7 := hml0
  have hown : s.vm.findClass "com/example/gate_to_gate/gatetogate/model/Utf8SequenceLengthPinLaw" = some m.cls := findClass_of_methodNamed Bd.named
  have hnm := (name_of_methodNamed Bd.named Bd.method).1
  have X0 : Stand p l e ({ frames := 1, cells := 0, slots := 0, locals := 14 } : Room) s m #[(.int x0), (.int x1), (.int x2), (.int x3), (.int x4)] below meth c s₁ [] 0 0 := Stand.of_body Bd
  have e0 : s₁.heap = h0 := by rw [← hh, Bd.state]; rfl
  have N0 := Fr.nil n0
  show OG p e below s ({ frames := 1, cells := 0, slots := 0, locals := 14 } : Room).cells ({ frames := 1, cells := 0, slots := 0, locals := 14 } : Room).slots (QE Z x0 x1 x2 x3 x4 h0 n0) _
  refine OG.of (fun oT oK => castTop (ef_E m x0 x1 x2 x3 x4) oK) ?_
  show OG p e below s _ _ _ (s₁.setTop (mkF m 0 #[.val (.int x0), .val (.int x1), .val (.int x2), .val (.int x3), .val (.int x4), .unset, .unset] []))
  refine OG.of (A := s₁.setTop (mkF m 3 #[.val (.int x0), .val (.int x1), .val (.int x2), .val (.int x3), .val (.int x4), .unset, .unset] [(.int (127 : Int32)), (.int x0)])) (fun oT oK => ?_) ?_
  · show Steps p.tables e below (s₁.setTop (mkF m 0 #[.val (.int x0), .val (.int x1), .val (.int x2), .val (.int x3), .val (.int x4), .unset, .unset] [])) oT
    refine XS.iloadN X0.here hx rfl (hb hby dE_0) rfl  ?_
    show Steps p.tables e below (s₁.setTop (mkF m 1 #[.val (.int x0), .val (.int x1), .val (.int x2), .val (.int x3), .val (.int x4), .unset, .unset] [(.int x0)])) _
    refine XS.bipush X0.here hx rfl (hb hby dE_1) ?_
    exact oK
  show OG _ _ _ _ _ _ _ (s₁.setTop (mkF m 3 #[.val (.int x0), .val (.int x1), .val (.int x2), .val (.int x3), .val (.int x4), .unset, .unset] [(.int (127 : Int32)), (.int x0)]))
  by_cases hc3_1 : (127 : Int32) < x0
  · refine OG.of (fun oT oK => XS.icmpYes X0.here hx rfl (pc0 := 3) (pc' := 8) rfl (hb hby dE_3) rfl (XT.ii_gt_t hc3_1) (by decide) (by decide) oK) ?_
    show OG _ _ _ _ _ _ _ (s₁.setTop (mkF m 8 #[.val (.int x0), .val (.int x1), .val (.int x2), .val (.int x3), .val (.int x4), .unset, .unset] []))
    refine OG.of (A := s₁.setTop (mkF m 15 #[.val (.int x0), .val (.int x1), .val (.int x2), .val (.int x3), .val (.int x4), .unset, .unset] [(.int (223 : Int32)), (.int (194 : Int32)), (.int x0)])) (fun oT oK => ?_) ?_
    · show Steps p.tables e below (s₁.setTop (mkF m 8 #[.val (.int x0), .val (.int x1), .val (.int x2), .val (.int x3), .val (.int x4), .unset, .unset] [])) oT
      refine XS.iloadN X0.here hx rfl (hb hby dE_8) rfl  ?_
      show Steps p.tables e below (s₁.setTop (mkF m 9 #[.val (.int x0), .val (.int x1), .val (.int x2), .val (.int x3), .val (.int x4), .unset, .unset] [(.int x0)])) _
      refine XS.sipush X0.here hx rfl (hb hby dE_9) ?_
      show Steps p.tables e below (s₁.setTop (mkF m 12 #[.val (.int x0), .val (.int x1), .val (.int x2), .val (.int x3), .val (.int x4), .unset, .unset] [(.int (194 : Int32)), (.int x0)])) _
      refine XS.sipush X0.here hx rfl (hb hby dE_12) ?_
      exact oK
    show OG _ _ _ _ _ _ _ (s₁.setTop (mkF m 15 #[.val (.int x0), .val (.int x1), .val (.int x2), .val (.int x3), .val (.int x4), .unset, .unset] [(.int (223 : Int32)), (.int (194 : Int32)), (.int x0)]))
    obtain ⟨_, _, ⟨T1, L1, k1, n1⟩, -, X1, ⟨Lc1, hQ1, l1, y1, z1⟩, st1⟩ := Jvm.LawKit.callS X0 hx (y := (⟨"com/example/gate_to_gate/gatetogate/model/Utf8SequenceLengthPinLaw", "in", "(III)Z"⟩ : MethodName)) hown (mvT hZ (hw _ (List.mem_of_getElem? (i := 9) rfl))) (mvT hZ (hw _ (List.mem_of_getElem? (i := 10) rfl))) (mvT hZ (hw _ (List.mem_of_getElem? (i := 7) rfl))) (mvT hZ (hw _ (List.mem_of_getElem? (i := 11) rfl))) (by decide) (backOf (W := 0) (rmI l Z a0 hw [] x0 (194 : Int32) (223 : Int32)  h0 n0 (Z0)) hZ (hw _ (List.mem_of_getElem? (i := 11) rfl)) (hw _ (List.mem_of_getElem? (i := 7) rfl)) (by decide) (by decide)) (g := (mkF m 15 #[.val (.int x0), .val (.int x1), .val (.int x2), .val (.int x3), .val (.int x4), .unset, .unset] [(.int (223 : Int32)), (.int (194 : Int32)), (.int x0)])) rfl (by rw [hml]; rfl) (argsL := [(.int x0), (.int (194 : Int32)), (.int (223 : Int32))]) (rest := []) (lenOf pd__III_Z rfl) rfl (by show 2 * 0 + _ ≤ _; exact Nat.le_of_eq rfl) (hb hby dE_15) (fun _ _ => ⟨rfl, e0, (by decide : 0 + 0 ≤ _), (by decide : 0 + 0 ≤ _)⟩)
    dsimp only [Pt.U, Pt.locs, Pt.cells, Pt.slots] at X1 l1 y1 z1 st1 hQ1
    subst l1 y1 z1
    obtain ⟨rfl, N1q, e1⟩ := hQ1
    have N1 := Fr.app N0 N1q
    refine OG.of st1 ?_
    show OG _ _ _ _ _ _ _ (T1.setTop (mkF m 18 #[.val (.int x0), .val (.int x1), .val (.int x2), .val (.int x3), .val (.int x4), .unset, .unset] [(.int (own_in x0 (194 : Int32) (223 : Int32)))]))
    by_cases hc18_2 : (own_in x0 (194 : Int32) (223 : Int32)) = (0 : Int32)
    · refine OG.of (fun oT oK => XS.ifYes X1.here hx rfl (pc0 := 18) (pc' := 46) rfl (hb hby dE_18) rfl (XT.i0_eq_t hc18_2) (by decide) (by decide) oK) ?_
      show OG _ _ _ _ _ _ _ (T1.setTop (mkF m 46 #[.val (.int x0), .val (.int x1), .val (.int x2), .val (.int x3), .val (.int x4), .unset, .unset] []))
      refine OG.of (A := T1.setTop (mkF m 53 #[.val (.int x0), .val (.int x1), .val (.int x2), .val (.int x3), .val (.int x4), .unset, .unset] [(.int (191 : Int32)), (.int (128 : Int32)), (.int x2)])) (fun oT oK => ?_) ?_
      · show Steps p.tables e below (T1.setTop (mkF m 46 #[.val (.int x0), .val (.int x1), .val (.int x2), .val (.int x3), .val (.int x4), .unset, .unset] [])) oT
        refine XS.iloadN X1.here hx rfl (hb hby dE_46) rfl  ?_
        show Steps p.tables e below (T1.setTop (mkF m 47 #[.val (.int x0), .val (.int x1), .val (.int x2), .val (.int x3), .val (.int x4), .unset, .unset] [(.int x2)])) _
        refine XS.sipush X1.here hx rfl (hb hby dE_47) ?_
        show Steps p.tables e below (T1.setTop (mkF m 50 #[.val (.int x0), .val (.int x1), .val (.int x2), .val (.int x3), .val (.int x4), .unset, .unset] [(.int (128 : Int32)), (.int x2)])) _
        refine XS.sipush X1.here hx rfl (hb hby dE_50) ?_
        exact oK
      show OG _ _ _ _ _ _ _ (T1.setTop (mkF m 53 #[.val (.int x0), .val (.int x1), .val (.int x2), .val (.int x3), .val (.int x4), .unset, .unset] [(.int (191 : Int32)), (.int (128 : Int32)), (.int x2)]))
      obtain ⟨_, _, ⟨T2, L2, k2, n2⟩, -, X2, ⟨Lc2, hQ2, l2, y2, z2⟩, st2⟩ := Jvm.LawKit.callS X1 hx (y := (⟨"com/example/gate_to_gate/gatetogate/model/Utf8SequenceLengthPinLaw", "in", "(III)Z"⟩ : MethodName)) hown (mvT hZ (hw _ (List.mem_of_getElem? (i := 9) rfl))) (mvT hZ (hw _ (List.mem_of_getElem? (i := 10) rfl))) (mvT hZ (hw _ (List.mem_of_getElem? (i := 7) rfl))) (mvT hZ (hw _ (List.mem_of_getElem? (i := 11) rfl))) (by decide) (backOf (W := 0) (rmI l Z a0 hw [] x2 (128 : Int32) (191 : Int32)  h0 n0 (Z0)) hZ (hw _ (List.mem_of_getElem? (i := 11) rfl)) (hw _ (List.mem_of_getElem? (i := 7) rfl)) (by decide) (by decide)) (g := (mkF m 53 #[.val (.int x0), .val (.int x1), .val (.int x2), .val (.int x3), .val (.int x4), .unset, .unset] [(.int (191 : Int32)), (.int (128 : Int32)), (.int x2)])) rfl (by rw [hml]; rfl) (argsL := [(.int x2), (.int (128 : Int32)), (.int (191 : Int32))]) (rest := []) (lenOf pd__III_Z rfl) rfl (by show 2 * 0 + _ ≤ _; exact Nat.le_of_eq rfl) (hb hby dE_53) (fun _ _ => ⟨rfl, e1, (by decide : 0 + 0 ≤ _), (by decide : 0 + 0 ≤ _)⟩)
      dsimp only [Pt.U, Pt.locs, Pt.cells, Pt.slots] at X2 l2 y2 z2 st2 hQ2
      subst l2 y2 z2
      obtain ⟨rfl, N2q, e2⟩ := hQ2
      have N2 := Fr.app N1 N2q
      refine OG.of st2 ?_
      show OG _ _ _ _ _ _ _ (T2.setTop (mkF m 56 #[.val (.int x0), .val (.int x1), .val (.int x2), .val (.int x3), .val (.int x4), .unset, .unset] [(.int (own_in x2 (128 : Int32) (191 : Int32)))]))
      refine OG.of (A := T2.setTop (mkF m 65 #[.val (.int x0), .val (.int x1), .val (.int x2), .val (.int x3), .val (.int x4), .val (.int (own_in x2 (128 : Int32) (191 : Int32))), .unset] [(.int (191 : Int32)), (.int (128 : Int32)), (.int x3)])) (fun oT oK => ?_) ?_
      · show Steps p.tables e below (T2.setTop (mkF m 56 #[.val (.int x0), .val (.int x1), .val (.int x2), .val (.int x3), .val (.int x4), .unset, .unset] [(.int (own_in x2 (128 : Int32) (191 : Int32)))])) oT
        refine XS.istore X2.here hx rfl (hb hby dE_56) rfl (l' := #[.val (.int x0), .val (.int x1), .val (.int x2), .val (.int x3), .val (.int x4), .val (.int (own_in x2 (128 : Int32) (191 : Int32))), .unset]) rfl ?_
        show Steps p.tables e below (T2.setTop (mkF m 58 #[.val (.int x0), .val (.int x1), .val (.int x2), .val (.int x3), .val (.int x4), .val (.int (own_in x2 (128 : Int32) (191 : Int32))), .unset] [])) _
        refine XS.iloadN X2.here hx rfl (hb hby dE_58) rfl  ?_
        show Steps p.tables e below (T2.setTop (mkF m 59 #[.val (.int x0), .val (.int x1), .val (.int x2), .val (.int x3), .val (.int x4), .val (.int (own_in x2 (128 : Int32) (191 : Int32))), .unset] [(.int x3)])) _
        refine XS.sipush X2.here hx rfl (hb hby dE_59) ?_
        show Steps p.tables e below (T2.setTop (mkF m 62 #[.val (.int x0), .val (.int x1), .val (.int x2), .val (.int x3), .val (.int x4), .val (.int (own_in x2 (128 : Int32) (191 : Int32))), .unset] [(.int (128 : Int32)), (.int x3)])) _
        refine XS.sipush X2.here hx rfl (hb hby dE_62) ?_
        exact oK
      show OG _ _ _ _ _ _ _ (T2.setTop (mkF m 65 #[.val (.int x0), .val (.int x1), .val (.int x2), .val (.int x3), .val (.int x4), .val (.int (own_in x2 (128 : Int32) (191 : Int32))), .unset] [(.int (191 : Int32)), (.int (128 : Int32)), (.int x3)]))
      obtain ⟨_, _, ⟨T3, L3, k3, n3⟩, -, X3, ⟨Lc3, hQ3, l3, y3, z3⟩, st3⟩ := Jvm.LawKit.callS X2 hx (y := (⟨"com/example/gate_to_gate/gatetogate/model/Utf8SequenceLengthPinLaw", "in", "(III)Z"⟩ : MethodName)) hown (mvT hZ (hw _ (List.mem_of_getElem? (i := 9) rfl))) (mvT hZ (hw _ (List.mem_of_getElem? (i := 10) rfl))) (mvT hZ (hw _ (List.mem_of_getElem? (i := 7) rfl))) (mvT hZ (hw _ (List.mem_of_getElem? (i := 11) rfl))) (by decide) (backOf (W := 0) (rmI l Z a0 hw [] x3 (128 : Int32) (191 : Int32)  h0 n0 (Z0)) hZ (hw _ (List.mem_of_getElem? (i := 11) rfl)) (hw _ (List.mem_of_getElem? (i := 7) rfl)) (by decide) (by decide)) (g := (mkF m 65 #[.val (.int x0), .val (.int x1), .val (.int x2), .val (.int x3), .val (.int x4), .val (.int (own_in x2 (128 : Int32) (191 : Int32))), .unset] [(.int (191 : Int32)), (.int (128 : Int32)), (.int x3)])) rfl (by rw [hml]; rfl) (argsL := [(.int x3), (.int (128 : Int32)), (.int (191 : Int32))]) (rest := []) (lenOf pd__III_Z rfl) rfl (by show 2 * 0 + _ ≤ _; exact Nat.le_of_eq rfl) (hb hby dE_65) (fun _ _ => ⟨rfl, e2, (by decide : 0 + 0 ≤ _), (by decide : 0 + 0 ≤ _)⟩)
      dsimp only [Pt.U, Pt.locs, Pt.cells, Pt.slots] at X3 l3 y3 z3 st3 hQ3
      subst l3 y3 z3
      obtain ⟨rfl, N3q, e3⟩ := hQ3
      have N3 := Fr.app N2 N3q
      refine OG.of st3 ?_
      show OG _ _ _ _ _ _ _ (T3.setTop (mkF m 68 #[.val (.int x0), .val (.int x1), .val (.int x2), .val (.int x3), .val (.int x4), .val (.int (own_in x2 (128 : Int32) (191 : Int32))), .unset] [(.int (own_in x3 (128 : Int32) (191 : Int32)))]))
      refine OG.of (A := T3.setTop (mkF m 74 #[.val (.int x0), .val (.int x1), .val (.int x2), .val (.int x3), .val (.int x4), .val (.int (own_in x2 (128 : Int32) (191 : Int32))), .val (.int (own_in x3 (128 : Int32) (191 : Int32)))] [(.int (224 : Int32)), (.int x0)])) (fun oT oK => ?_) ?_
      · show Steps p.tables e below (T3.setTop (mkF m 68 #[.val (.int x0), .val (.int x1), .val (.int x2), .val (.int x3), .val (.int x4), .val (.int (own_in x2 (128 : Int32) (191 : Int32))), .unset] [(.int (own_in x3 (128 : Int32) (191 : Int32)))])) oT
        refine XS.istore X3.here hx rfl (hb hby dE_68) rfl (l' := #[.val (.int x0), .val (.int x1), .val (.int x2), .val (.int x3), .val (.int x4), .val (.int (own_in x2 (128 : Int32) (191 : Int32))), .val (.int (own_in x3 (128 : Int32) (191 : Int32)))]) rfl ?_
        show Steps p.tables e below (T3.setTop (mkF m 70 #[.val (.int x0), .val (.int x1), .val (.int x2), .val (.int x3), .val (.int x4), .val (.int (own_in x2 (128 : Int32) (191 : Int32))), .val (.int (own_in x3 (128 : Int32) (191 : Int32)))] [])) _
        refine XS.iloadN X3.here hx rfl (hb hby dE_70) rfl  ?_
        show Steps p.tables e below (T3.setTop (mkF m 71 #[.val (.int x0), .val (.int x1), .val (.int x2), .val (.int x3), .val (.int x4), .val (.int (own_in x2 (128 : Int32) (191 : Int32))), .val (.int (own_in x3 (128 : Int32) (191 : Int32)))] [(.int x0)])) _
        refine XS.sipush X3.here hx rfl (hb hby dE_71) ?_
        exact oK
      show OG _ _ _ _ _ _ _ (T3.setTop (mkF m 74 #[.val (.int x0), .val (.int x1), .val (.int x2), .val (.int x3), .val (.int x4), .val (.int (own_in x2 (128 : Int32) (191 : Int32))), .val (.int (own_in x3 (128 : Int32) (191 : Int32)))] [(.int (224 : Int32)), (.int x0)]))
      by_cases hc74_3 : x0 = (224 : Int32)
      · refine OG.of (fun oT oK => XS.icmpNo X3.here hx rfl (hb hby dE_74) rfl (XT.ii_ne_f hc74_3) oK) ?_
        show OG _ _ _ _ _ _ _ (T3.setTop (mkF m 77 #[.val (.int x0), .val (.int x1), .val (.int x2), .val (.int x3), .val (.int x4), .val (.int (own_in x2 (128 : Int32) (191 : Int32))), .val (.int (own_in x3 (128 : Int32) (191 : Int32)))] []))
        refine OG.of (A := T3.setTop (mkF m 80 #[.val (.int x0), .val (.int x1), .val (.int x2), .val (.int x3), .val (.int x4), .val (.int (own_in x2 (128 : Int32) (191 : Int32))), .val (.int (own_in x3 (128 : Int32) (191 : Int32)))] [(.int (3 : Int32)), (.int x4)])) (fun oT oK => ?_) ?_
        · show Steps p.tables e below (T3.setTop (mkF m 77 #[.val (.int x0), .val (.int x1), .val (.int x2), .val (.int x3), .val (.int x4), .val (.int (own_in x2 (128 : Int32) (191 : Int32))), .val (.int (own_in x3 (128 : Int32) (191 : Int32)))] [])) oT
          refine XS.iload X3.here hx rfl (hb hby dE_77) rfl  ?_
          show Steps p.tables e below (T3.setTop (mkF m 79 #[.val (.int x0), .val (.int x1), .val (.int x2), .val (.int x3), .val (.int x4), .val (.int (own_in x2 (128 : Int32) (191 : Int32))), .val (.int (own_in x3 (128 : Int32) (191 : Int32)))] [(.int x4)])) _
          refine XS.iconst X3.here hx rfl (hb hby dE_79) ?_
          exact oK
        show OG _ _ _ _ _ _ _ (T3.setTop (mkF m 80 #[.val (.int x0), .val (.int x1), .val (.int x2), .val (.int x3), .val (.int x4), .val (.int (own_in x2 (128 : Int32) (191 : Int32))), .val (.int (own_in x3 (128 : Int32) (191 : Int32)))] [(.int (3 : Int32)), (.int x4)]))
        by_cases hc80_4 : x4 < (3 : Int32)
        · refine OG.of (fun oT oK => XS.icmpYes X3.here hx rfl (pc0 := 80) (pc' := 105) rfl (hb hby dE_80) rfl (XT.ii_lt_t hc80_4) (by decide) (by decide) oK) ?_
          show OG _ _ _ _ _ _ _ (T3.setTop (mkF m 105 #[.val (.int x0), .val (.int x1), .val (.int x2), .val (.int x3), .val (.int x4), .val (.int (own_in x2 (128 : Int32) (191 : Int32))), .val (.int (own_in x3 (128 : Int32) (191 : Int32)))] []))
          refine OG.of (A := T3.setTop (mkF m 106 #[.val (.int x0), .val (.int x1), .val (.int x2), .val (.int x3), .val (.int x4), .val (.int (own_in x2 (128 : Int32) (191 : Int32))), .val (.int (own_in x3 (128 : Int32) (191 : Int32)))] [(.int (0 : Int32))])) (fun oT oK => ?_) ?_
          · show Steps p.tables e below (T3.setTop (mkF m 105 #[.val (.int x0), .val (.int x1), .val (.int x2), .val (.int x3), .val (.int x4), .val (.int (own_in x2 (128 : Int32) (191 : Int32))), .val (.int (own_in x3 (128 : Int32) (191 : Int32)))] [])) oT
            refine XS.iconst X3.here hx rfl (hb hby dE_105) ?_
            exact oK
          show OG _ _ _ _ _ _ _ (T3.setTop (mkF m 106 #[.val (.int x0), .val (.int x1), .val (.int x2), .val (.int x3), .val (.int x4), .val (.int (own_in x2 (128 : Int32) (191 : Int32))), .val (.int (own_in x3 (128 : Int32) (191 : Int32)))] [(.int (0 : Int32))]))
          refine OG.retI X3 hx Bd.returns (hb hby dE_106) hlk ?_ (by decide) (by decide)
          try rw [e3]
          exact ⟨by rw [own_exp, if_pos hc3_1, if_pos hc18_2, if_pos hc74_3, if_pos hc80_4] <;> rfl, N3, rfl⟩
        · refine OG.of (fun oT oK => XS.icmpNo X3.here hx rfl (hb hby dE_80) rfl (XT.ii_lt_f hc80_4) oK) ?_
          show OG _ _ _ _ _ _ _ (T3.setTop (mkF m 83 #[.val (.int x0), .val (.int x1), .val (.int x2), .val (.int x3), .val (.int x4), .val (.int (own_in x2 (128 : Int32) (191 : Int32))), .val (.int (own_in x3 (128 : Int32) (191 : Int32)))] []))
          refine OG.of (A := T3.setTop (mkF m 90 #[.val (.int x0), .val (.int x1), .val (.int x2), .val (.int x3), .val (.int x4), .val (.int (own_in x2 (128 : Int32) (191 : Int32))), .val (.int (own_in x3 (128 : Int32) (191 : Int32)))] [(.int (191 : Int32)), (.int (160 : Int32)), (.int x1)])) (fun oT oK => ?_) ?_
          · show Steps p.tables e below (T3.setTop (mkF m 83 #[.val (.int x0), .val (.int x1), .val (.int x2), .val (.int x3), .val (.int x4), .val (.int (own_in x2 (128 : Int32) (191 : Int32))), .val (.int (own_in x3 (128 : Int32) (191 : Int32)))] [])) oT
            refine XS.iloadN X3.here hx rfl (hb hby dE_83) rfl  ?_
            show Steps p.tables e below (T3.setTop (mkF m 84 #[.val (.int x0), .val (.int x1), .val (.int x2), .val (.int x3), .val (.int x4), .val (.int (own_in x2 (128 : Int32) (191 : Int32))), .val (.int (own_in x3 (128 : Int32) (191 : Int32)))] [(.int x1)])) _
            refine XS.sipush X3.here hx rfl (hb hby dE_84) ?_
            show Steps p.tables e below (T3.setTop (mkF m 87 #[.val (.int x0), .val (.int x1), .val (.int x2), .val (.int x3), .val (.int x4), .val (.int (own_in x2 (128 : Int32) (191 : Int32))), .val (.int (own_in x3 (128 : Int32) (191 : Int32)))] [(.int (160 : Int32)), (.int x1)])) _
            refine XS.sipush X3.here hx rfl (hb hby dE_87) ?_
            exact oK
          show OG _ _ _ _ _ _ _ (T3.setTop (mkF m 90 #[.val (.int x0), .val (.int x1), .val (.int x2), .val (.int x3), .val (.int x4), .val (.int (own_in x2 (128 : Int32) (191 : Int32))), .val (.int (own_in x3 (128 : Int32) (191 : Int32)))] [(.int (191 : Int32)), (.int (160 : Int32)), (.int x1)]))
          obtain ⟨_, _, ⟨T4, L4, k4, n4⟩, -, X4, ⟨Lc4, hQ4, l4, y4, z4⟩, st4⟩ := Jvm.LawKit.callS X3 hx (y := (⟨"com/example/gate_to_gate/gatetogate/model/Utf8SequenceLengthPinLaw", "in", "(III)Z"⟩ : MethodName)) hown (mvT hZ (hw _ (List.mem_of_getElem? (i := 9) rfl))) (mvT hZ (hw _ (List.mem_of_getElem? (i := 10) rfl))) (mvT hZ (hw _ (List.mem_of_getElem? (i := 7) rfl))) (mvT hZ (hw _ (List.mem_of_getElem? (i := 11) rfl))) (by decide) (backOf (W := 0) (rmI l Z a0 hw [] x1 (160 : Int32) (191 : Int32)  h0 n0 (Z0)) hZ (hw _ (List.mem_of_getElem? (i := 11) rfl)) (hw _ (List.mem_of_getElem? (i := 7) rfl)) (by decide) (by decide)) (g := (mkF m 90 #[.val (.int x0), .val (.int x1), .val (.int x2), .val (.int x3), .val (.int x4), .val (.int (own_in x2 (128 : Int32) (191 : Int32))), .val (.int (own_in x3 (128 : Int32) (191 : Int32)))] [(.int (191 : Int32)), (.int (160 : Int32)), (.int x1)])) rfl (by rw [hml]; rfl) (argsL := [(.int x1), (.int (160 : Int32)), (.int (191 : Int32))]) (rest := []) (lenOf pd__III_Z rfl) rfl (by show 2 * 0 + _ ≤ _; exact Nat.le_of_eq rfl) (hb hby dE_90) (fun _ _ => ⟨rfl, e3, (by decide : 0 + 0 ≤ _), (by decide : 0 + 0 ≤ _)⟩)
          dsimp only [Pt.U, Pt.locs, Pt.cells, Pt.slots] at X4 l4 y4 z4 st4 hQ4
          subst l4 y4 z4
          obtain ⟨rfl, N4q, e4⟩ := hQ4
          have N4 := Fr.app N3 N4q
          refine OG.of st4 ?_
          show OG _ _ _ _ _ _ _ (T4.setTop (mkF m 93 #[.val (.int x0), .val (.int x1), .val (.int x2), .val (.int x3), .val (.int x4), .val (.int (own_in x2 (128 : Int32) (191 : Int32))), .val (.int (own_in x3 (128 : Int32) (191 : Int32)))] [(.int (own_in x1 (160 : Int32) (191 : Int32)))]))
          by_cases hc93_5 : (own_in x1 (160 : Int32) (191 : Int32)) = (0 : Int32)
          · refine OG.of (fun oT oK => XS.ifYes X4.here hx rfl (pc0 := 93) (pc' := 105) rfl (hb hby dE_93) rfl (XT.i0_eq_t hc93_5) (by decide) (by decide) oK) ?_
            show OG _ _ _ _ _ _ _ (T4.setTop (mkF m 105 #[.val (.int x0), .val (.int x1), .val (.int x2), .val (.int x3), .val (.int x4), .val (.int (own_in x2 (128 : Int32) (191 : Int32))), .val (.int (own_in x3 (128 : Int32) (191 : Int32)))] []))
            refine OG.of (A := T4.setTop (mkF m 106 #[.val (.int x0), .val (.int x1), .val (.int x2), .val (.int x3), .val (.int x4), .val (.int (own_in x2 (128 : Int32) (191 : Int32))), .val (.int (own_in x3 (128 : Int32) (191 : Int32)))] [(.int (0 : Int32))])) (fun oT oK => ?_) ?_
            · show Steps p.tables e below (T4.setTop (mkF m 105 #[.val (.int x0), .val (.int x1), .val (.int x2), .val (.int x3), .val (.int x4), .val (.int (own_in x2 (128 : Int32) (191 : Int32))), .val (.int (own_in x3 (128 : Int32) (191 : Int32)))] [])) oT
              refine XS.iconst X4.here hx rfl (hb hby dE_105) ?_
              exact oK
            show OG _ _ _ _ _ _ _ (T4.setTop (mkF m 106 #[.val (.int x0), .val (.int x1), .val (.int x2), .val (.int x3), .val (.int x4), .val (.int (own_in x2 (128 : Int32) (191 : Int32))), .val (.int (own_in x3 (128 : Int32) (191 : Int32)))] [(.int (0 : Int32))]))
            refine OG.retI X4 hx Bd.returns (hb hby dE_106) hlk ?_ (by decide) (by decide)
            try rw [e4]
            exact ⟨by rw [own_exp, if_pos hc3_1, if_pos hc18_2, if_pos hc74_3, if_neg hc80_4, if_pos hc93_5] <;> rfl, N4, rfl⟩
          · refine OG.of (fun oT oK => XS.ifNo X4.here hx rfl (hb hby dE_93) rfl (XT.i0_eq_f hc93_5) oK) ?_
            show OG _ _ _ _ _ _ _ (T4.setTop (mkF m 96 #[.val (.int x0), .val (.int x1), .val (.int x2), .val (.int x3), .val (.int x4), .val (.int (own_in x2 (128 : Int32) (191 : Int32))), .val (.int (own_in x3 (128 : Int32) (191 : Int32)))] []))
            refine OG.of (A := T4.setTop (mkF m 98 #[.val (.int x0), .val (.int x1), .val (.int x2), .val (.int x3), .val (.int x4), .val (.int (own_in x2 (128 : Int32) (191 : Int32))), .val (.int (own_in x3 (128 : Int32) (191 : Int32)))] [(.int (own_in x2 (128 : Int32) (191 : Int32)))])) (fun oT oK => ?_) ?_
            · show Steps p.tables e below (T4.setTop (mkF m 96 #[.val (.int x0), .val (.int x1), .val (.int x2), .val (.int x3), .val (.int x4), .val (.int (own_in x2 (128 : Int32) (191 : Int32))), .val (.int (own_in x3 (128 : Int32) (191 : Int32)))] [])) oT
              refine XS.iload X4.here hx rfl (hb hby dE_96) rfl  ?_
              exact oK
            show OG _ _ _ _ _ _ _ (T4.setTop (mkF m 98 #[.val (.int x0), .val (.int x1), .val (.int x2), .val (.int x3), .val (.int x4), .val (.int (own_in x2 (128 : Int32) (191 : Int32))), .val (.int (own_in x3 (128 : Int32) (191 : Int32)))] [(.int (own_in x2 (128 : Int32) (191 : Int32)))]))
            by_cases hc98_6 : (own_in x2 (128 : Int32) (191 : Int32)) = (0 : Int32)
            · refine OG.of (fun oT oK => XS.ifYes X4.here hx rfl (pc0 := 98) (pc' := 105) rfl (hb hby dE_98) rfl (XT.i0_eq_t hc98_6) (by decide) (by decide) oK) ?_
              show OG _ _ _ _ _ _ _ (T4.setTop (mkF m 105 #[.val (.int x0), .val (.int x1), .val (.int x2), .val (.int x3), .val (.int x4), .val (.int (own_in x2 (128 : Int32) (191 : Int32))), .val (.int (own_in x3 (128 : Int32) (191 : Int32)))] []))
              refine OG.of (A := T4.setTop (mkF m 106 #[.val (.int x0), .val (.int x1), .val (.int x2), .val (.int x3), .val (.int x4), .val (.int (own_in x2 (128 : Int32) (191 : Int32))), .val (.int (own_in x3 (128 : Int32) (191 : Int32)))] [(.int (0 : Int32))])) (fun oT oK => ?_) ?_
              · show Steps p.tables e below (T4.setTop (mkF m 105 #[.val (.int x0), .val (.int x1), .val (.int x2), .val (.int x3), .val (.int x4), .val (.int (own_in x2 (128 : Int32) (191 : Int32))), .val (.int (own_in x3 (128 : Int32) (191 : Int32)))] [])) oT
                refine XS.iconst X4.here hx rfl (hb hby dE_105) ?_
                exact oK
              show OG _ _ _ _ _ _ _ (T4.setTop (mkF m 106 #[.val (.int x0), .val (.int x1), .val (.int x2), .val (.int x3), .val (.int x4), .val (.int (own_in x2 (128 : Int32) (191 : Int32))), .val (.int (own_in x3 (128 : Int32) (191 : Int32)))] [(.int (0 : Int32))]))
              refine OG.retI X4 hx Bd.returns (hb hby dE_106) hlk ?_ (by decide) (by decide)
              try rw [e4]
              exact ⟨by rw [own_exp, if_pos hc3_1, if_pos hc18_2, if_pos hc74_3, if_neg hc80_4, if_neg hc93_5, if_pos hc98_6] <;> rfl, N4, rfl⟩
            · refine OG.of (fun oT oK => XS.ifNo X4.here hx rfl (hb hby dE_98) rfl (XT.i0_eq_f hc98_6) oK) ?_
              show OG _ _ _ _ _ _ _ (T4.setTop (mkF m 101 #[.val (.int x0), .val (.int x1), .val (.int x2), .val (.int x3), .val (.int x4), .val (.int (own_in x2 (128 : Int32) (191 : Int32))), .val (.int (own_in x3 (128 : Int32) (191 : Int32)))] []))
              refine OG.of (A := T4.setTop (mkF m 106 #[.val (.int x0), .val (.int x1), .val (.int x2), .val (.int x3), .val (.int x4), .val (.int (own_in x2 (128 : Int32) (191 : Int32))), .val (.int (own_in x3 (128 : Int32) (191 : Int32)))] [(.int (3 : Int32))])) (fun oT oK => ?_) ?_
              · show Steps p.tables e below (T4.setTop (mkF m 101 #[.val (.int x0), .val (.int x1), .val (.int x2), .val (.int x3), .val (.int x4), .val (.int (own_in x2 (128 : Int32) (191 : Int32))), .val (.int (own_in x3 (128 : Int32) (191 : Int32)))] [])) oT
                refine XS.iconst X4.here hx rfl (hb hby dE_101) ?_
                show Steps p.tables e below (T4.setTop (mkF m 102 #[.val (.int x0), .val (.int x1), .val (.int x2), .val (.int x3), .val (.int x4), .val (.int (own_in x2 (128 : Int32) (191 : Int32))), .val (.int (own_in x3 (128 : Int32) (191 : Int32)))] [(.int (3 : Int32))])) _
                refine XS.goto X4.here hx rfl (pc0 := 102) (pc' := 106) rfl (hb hby dE_102) (by decide) (by decide) ?_
                exact oK
              show OG _ _ _ _ _ _ _ (T4.setTop (mkF m 106 #[.val (.int x0), .val (.int x1), .val (.int x2), .val (.int x3), .val (.int x4), .val (.int (own_in x2 (128 : Int32) (191 : Int32))), .val (.int (own_in x3 (128 : Int32) (191 : Int32)))] [(.int (3 : Int32))]))
              refine OG.retI X4 hx Bd.returns (hb hby dE_106) hlk ?_ (by decide) (by decide)
              try rw [e4]
              exact ⟨by rw [own_exp, if_pos hc3_1, if_pos hc18_2, if_pos hc74_3, if_neg hc80_4, if_neg hc93_5, if_neg hc98_6] <;> rfl, N4, rfl⟩
      · refine OG.of (fun oT oK => XS.icmpYes X3.here hx rfl (pc0 := 74) (pc' := 107) rfl (hb hby dE_74) rfl (XT.ii_ne_t hc74_3) (by decide) (by decide) oK) ?_
        show OG _ _ _ _ _ _ _ (T3.setTop (mkF m 107 #[.val (.int x0), .val (.int x1), .val (.int x2), .val (.int x3), .val (.int x4), .val (.int (own_in x2 (128 : Int32) (191 : Int32))), .val (.int (own_in x3 (128 : Int32) (191 : Int32)))] []))
        refine OG.of (A := T3.setTop (mkF m 114 #[.val (.int x0), .val (.int x1), .val (.int x2), .val (.int x3), .val (.int x4), .val (.int (own_in x2 (128 : Int32) (191 : Int32))), .val (.int (own_in x3 (128 : Int32) (191 : Int32)))] [(.int (236 : Int32)), (.int (225 : Int32)), (.int x0)])) (fun oT oK => ?_) ?_
        · show Steps p.tables e below (T3.setTop (mkF m 107 #[.val (.int x0), .val (.int x1), .val (.int x2), .val (.int x3), .val (.int x4), .val (.int (own_in x2 (128 : Int32) (191 : Int32))), .val (.int (own_in x3 (128 : Int32) (191 : Int32)))] [])) oT
          refine XS.iloadN X3.here hx rfl (hb hby dE_107) rfl  ?_
          show Steps p.tables e below (T3.setTop (mkF m 108 #[.val (.int x0), .val (.int x1), .val (.int x2), .val (.int x3), .val (.int x4), .val (.int (own_in x2 (128 : Int32) (191 : Int32))), .val (.int (own_in x3 (128 : Int32) (191 : Int32)))] [(.int x0)])) _
          refine XS.sipush X3.here hx rfl (hb hby dE_108) ?_
          show Steps p.tables e below (T3.setTop (mkF m 111 #[.val (.int x0), .val (.int x1), .val (.int x2), .val (.int x3), .val (.int x4), .val (.int (own_in x2 (128 : Int32) (191 : Int32))), .val (.int (own_in x3 (128 : Int32) (191 : Int32)))] [(.int (225 : Int32)), (.int x0)])) _
          refine XS.sipush X3.here hx rfl (hb hby dE_111) ?_
          exact oK
        show OG _ _ _ _ _ _ _ (T3.setTop (mkF m 114 #[.val (.int x0), .val (.int x1), .val (.int x2), .val (.int x3), .val (.int x4), .val (.int (own_in x2 (128 : Int32) (191 : Int32))), .val (.int (own_in x3 (128 : Int32) (191 : Int32)))] [(.int (236 : Int32)), (.int (225 : Int32)), (.int x0)]))
        obtain ⟨_, _, ⟨T5, L5, k5, n5⟩, -, X5, ⟨Lc5, hQ5, l5, y5, z5⟩, st5⟩ := Jvm.LawKit.callS X3 hx (y := (⟨"com/example/gate_to_gate/gatetogate/model/Utf8SequenceLengthPinLaw", "in", "(III)Z"⟩ : MethodName)) hown (mvT hZ (hw _ (List.mem_of_getElem? (i := 9) rfl))) (mvT hZ (hw _ (List.mem_of_getElem? (i := 10) rfl))) (mvT hZ (hw _ (List.mem_of_getElem? (i := 7) rfl))) (mvT hZ (hw _ (List.mem_of_getElem? (i := 11) rfl))) (by decide) (backOf (W := 0) (rmI l Z a0 hw [] x0 (225 : Int32) (236 : Int32)  h0 n0 (Z0)) hZ (hw _ (List.mem_of_getElem? (i := 11) rfl)) (hw _ (List.mem_of_getElem? (i := 7) rfl)) (by decide) (by decide)) (g := (mkF m 114 #[.val (.int x0), .val (.int x1), .val (.int x2), .val (.int x3), .val (.int x4), .val (.int (own_in x2 (128 : Int32) (191 : Int32))), .val (.int (own_in x3 (128 : Int32) (191 : Int32)))] [(.int (236 : Int32)), (.int (225 : Int32)), (.int x0)])) rfl (by rw [hml]; rfl) (argsL := [(.int x0), (.int (225 : Int32)), (.int (236 : Int32))]) (rest := []) (lenOf pd__III_Z rfl) rfl (by show 2 * 0 + _ ≤ _; exact Nat.le_of_eq rfl) (hb hby dE_114) (fun _ _ => ⟨rfl, e3, (by decide : 0 + 0 ≤ _), (by decide : 0 + 0 ≤ _)⟩)
        dsimp only [Pt.U, Pt.locs, Pt.cells, Pt.slots] at X5 l5 y5 z5 st5 hQ5
        subst l5 y5 z5
        obtain ⟨rfl, N5q, e5⟩ := hQ5
        have N5 := Fr.app N3 N5q
        refine OG.of st5 ?_
        show OG _ _ _ _ _ _ _ (T5.setTop (mkF m 117 #[.val (.int x0), .val (.int x1), .val (.int x2), .val (.int x3), .val (.int x4), .val (.int (own_in x2 (128 : Int32) (191 : Int32))), .val (.int (own_in x3 (128 : Int32) (191 : Int32)))] [(.int (own_in x0 (225 : Int32) (236 : Int32)))]))
        by_cases hc117_7 : (own_in x0 (225 : Int32) (236 : Int32)) = (0 : Int32)
        · refine OG.of (fun oT oK => XS.ifNo X5.here hx rfl (hb hby dE_117) rfl (XT.i0_ne_f hc117_7) oK) ?_
          show OG _ _ _ _ _ _ _ (T5.setTop (mkF m 120 #[.val (.int x0), .val (.int x1), .val (.int x2), .val (.int x3), .val (.int x4), .val (.int (own_in x2 (128 : Int32) (191 : Int32))), .val (.int (own_in x3 (128 : Int32) (191 : Int32)))] []))
          refine OG.of (A := T5.setTop (mkF m 127 #[.val (.int x0), .val (.int x1), .val (.int x2), .val (.int x3), .val (.int x4), .val (.int (own_in x2 (128 : Int32) (191 : Int32))), .val (.int (own_in x3 (128 : Int32) (191 : Int32)))] [(.int (239 : Int32)), (.int (238 : Int32)), (.int x0)])) (fun oT oK => ?_) ?_
          · show Steps p.tables e below (T5.setTop (mkF m 120 #[.val (.int x0), .val (.int x1), .val (.int x2), .val (.int x3), .val (.int x4), .val (.int (own_in x2 (128 : Int32) (191 : Int32))), .val (.int (own_in x3 (128 : Int32) (191 : Int32)))] [])) oT
            refine XS.iloadN X5.here hx rfl (hb hby dE_120) rfl  ?_
            show Steps p.tables e below (T5.setTop (mkF m 121 #[.val (.int x0), .val (.int x1), .val (.int x2), .val (.int x3), .val (.int x4), .val (.int (own_in x2 (128 : Int32) (191 : Int32))), .val (.int (own_in x3 (128 : Int32) (191 : Int32)))] [(.int x0)])) _
            refine XS.sipush X5.here hx rfl (hb hby dE_121) ?_
            show Steps p.tables e below (T5.setTop (mkF m 124 #[.val (.int x0), .val (.int x1), .val (.int x2), .val (.int x3), .val (.int x4), .val (.int (own_in x2 (128 : Int32) (191 : Int32))), .val (.int (own_in x3 (128 : Int32) (191 : Int32)))] [(.int (238 : Int32)), (.int x0)])) _
            refine XS.sipush X5.here hx rfl (hb hby dE_124) ?_
            exact oK
          show OG _ _ _ _ _ _ _ (T5.setTop (mkF m 127 #[.val (.int x0), .val (.int x1), .val (.int x2), .val (.int x3), .val (.int x4), .val (.int (own_in x2 (128 : Int32) (191 : Int32))), .val (.int (own_in x3 (128 : Int32) (191 : Int32)))] [(.int (239 : Int32)), (.int (238 : Int32)), (.int x0)]))
          obtain ⟨_, _, ⟨T6, L6, k6, n6⟩, -, X6, ⟨Lc6, hQ6, l6, y6, z6⟩, st6⟩ := Jvm.LawKit.callS X5 hx (y := (⟨"com/example/gate_to_gate/gatetogate/model/Utf8SequenceLengthPinLaw", "in", "(III)Z"⟩ : MethodName)) hown (mvT hZ (hw _ (List.mem_of_getElem? (i := 9) rfl))) (mvT hZ (hw _ (List.mem_of_getElem? (i := 10) rfl))) (mvT hZ (hw _ (List.mem_of_getElem? (i := 7) rfl))) (mvT hZ (hw _ (List.mem_of_getElem? (i := 11) rfl))) (by decide) (backOf (W := 0) (rmI l Z a0 hw [] x0 (238 : Int32) (239 : Int32)  h0 n0 (Z0)) hZ (hw _ (List.mem_of_getElem? (i := 11) rfl)) (hw _ (List.mem_of_getElem? (i := 7) rfl)) (by decide) (by decide)) (g := (mkF m 127 #[.val (.int x0), .val (.int x1), .val (.int x2), .val (.int x3), .val (.int x4), .val (.int (own_in x2 (128 : Int32) (191 : Int32))), .val (.int (own_in x3 (128 : Int32) (191 : Int32)))] [(.int (239 : Int32)), (.int (238 : Int32)), (.int x0)])) rfl (by rw [hml]; rfl) (argsL := [(.int x0), (.int (238 : Int32)), (.int (239 : Int32))]) (rest := []) (lenOf pd__III_Z rfl) rfl (by show 2 * 0 + _ ≤ _; exact Nat.le_of_eq rfl) (hb hby dE_127) (fun _ _ => ⟨rfl, e5, (by decide : 0 + 0 ≤ _), (by decide : 0 + 0 ≤ _)⟩)
          dsimp only [Pt.U, Pt.locs, Pt.cells, Pt.slots] at X6 l6 y6 z6 st6 hQ6
          subst l6 y6 z6
          obtain ⟨rfl, N6q, e6⟩ := hQ6
          have N6 := Fr.app N5 N6q
          refine OG.of st6 ?_
          show OG _ _ _ _ _ _ _ (T6.setTop (mkF m 130 #[.val (.int x0), .val (.int x1), .val (.int x2), .val (.int x3), .val (.int x4), .val (.int (own_in x2 (128 : Int32) (191 : Int32))), .val (.int (own_in x3 (128 : Int32) (191 : Int32)))] [(.int (own_in x0 (238 : Int32) (239 : Int32)))]))
          by_cases hc130_8 : (own_in x0 (238 : Int32) (239 : Int32)) = (0 : Int32)
          · refine OG.of (fun oT oK => XS.ifYes X6.here hx rfl (pc0 := 130) (pc' := 163) rfl (hb hby dE_130) rfl (XT.i0_eq_t hc130_8) (by decide) (by decide) oK) ?_
            show OG _ _ _ _ _ _ _ (T6.setTop (mkF m 163 #[.val (.int x0), .val (.int x1), .val (.int x2), .val (.int x3), .val (.int x4), .val (.int (own_in x2 (128 : Int32) (191 : Int32))), .val (.int (own_in x3 (128 : Int32) (191 : Int32)))] []))
            refine OG.of (A := T6.setTop (mkF m 167 #[.val (.int x0), .val (.int x1), .val (.int x2), .val (.int x3), .val (.int x4), .val (.int (own_in x2 (128 : Int32) (191 : Int32))), .val (.int (own_in x3 (128 : Int32) (191 : Int32)))] [(.int (237 : Int32)), (.int x0)])) (fun oT oK => ?_) ?_
            · show Steps p.tables e below (T6.setTop (mkF m 163 #[.val (.int x0), .val (.int x1), .val (.int x2), .val (.int x3), .val (.int x4), .val (.int (own_in x2 (128 : Int32) (191 : Int32))), .val (.int (own_in x3 (128 : Int32) (191 : Int32)))] [])) oT
              refine XS.iloadN X6.here hx rfl (hb hby dE_163) rfl  ?_
              show Steps p.tables e below (T6.setTop (mkF m 164 #[.val (.int x0), .val (.int x1), .val (.int x2), .val (.int x3), .val (.int x4), .val (.int (own_in x2 (128 : Int32) (191 : Int32))), .val (.int (own_in x3 (128 : Int32) (191 : Int32)))] [(.int x0)])) _
              refine XS.sipush X6.here hx rfl (hb hby dE_164) ?_
              exact oK
            show OG _ _ _ _ _ _ _ (T6.setTop (mkF m 167 #[.val (.int x0), .val (.int x1), .val (.int x2), .val (.int x3), .val (.int x4), .val (.int (own_in x2 (128 : Int32) (191 : Int32))), .val (.int (own_in x3 (128 : Int32) (191 : Int32)))] [(.int (237 : Int32)), (.int x0)]))
            by_cases hc167_9 : x0 = (237 : Int32)
            · refine OG.of (fun oT oK => XS.icmpNo X6.here hx rfl (hb hby dE_167) rfl (XT.ii_ne_f hc167_9) oK) ?_
              show OG _ _ _ _ _ _ _ (T6.setTop (mkF m 170 #[.val (.int x0), .val (.int x1), .val (.int x2), .val (.int x3), .val (.int x4), .val (.int (own_in x2 (128 : Int32) (191 : Int32))), .val (.int (own_in x3 (128 : Int32) (191 : Int32)))] []))
              refine OG.of (A := T6.setTop (mkF m 173 #[.val (.int x0), .val (.int x1), .val (.int x2), .val (.int x3), .val (.int x4), .val (.int (own_in x2 (128 : Int32) (191 : Int32))), .val (.int (own_in x3 (128 : Int32) (191 : Int32)))] [(.int (3 : Int32)), (.int x4)])) (fun oT oK => ?_) ?_
              · show Steps p.tables e below (T6.setTop (mkF m 170 #[.val (.int x0), .val (.int x1), .val (.int x2), .val (.int x3), .val (.int x4), .val (.int (own_in x2 (128 : Int32) (191 : Int32))), .val (.int (own_in x3 (128 : Int32) (191 : Int32)))] [])) oT
                refine XS.iload X6.here hx rfl (hb hby dE_170) rfl  ?_
                show Steps p.tables e below (T6.setTop (mkF m 172 #[.val (.int x0), .val (.int x1), .val (.int x2), .val (.int x3), .val (.int x4), .val (.int (own_in x2 (128 : Int32) (191 : Int32))), .val (.int (own_in x3 (128 : Int32) (191 : Int32)))] [(.int x4)])) _
                refine XS.iconst X6.here hx rfl (hb hby dE_172) ?_
                exact oK
              show OG _ _ _ _ _ _ _ (T6.setTop (mkF m 173 #[.val (.int x0), .val (.int x1), .val (.int x2), .val (.int x3), .val (.int x4), .val (.int (own_in x2 (128 : Int32) (191 : Int32))), .val (.int (own_in x3 (128 : Int32) (191 : Int32)))] [(.int (3 : Int32)), (.int x4)]))
              by_cases hc173_10 : x4 < (3 : Int32)
              · refine OG.of (fun oT oK => XS.icmpYes X6.here hx rfl (pc0 := 173) (pc' := 198) rfl (hb hby dE_173) rfl (XT.ii_lt_t hc173_10) (by decide) (by decide) oK) ?_
                show OG _ _ _ _ _ _ _ (T6.setTop (mkF m 198 #[.val (.int x0), .val (.int x1), .val (.int x2), .val (.int x3), .val (.int x4), .val (.int (own_in x2 (128 : Int32) (191 : Int32))), .val (.int (own_in x3 (128 : Int32) (191 : Int32)))] []))
                refine OG.of (A := T6.setTop (mkF m 199 #[.val (.int x0), .val (.int x1), .val (.int x2), .val (.int x3), .val (.int x4), .val (.int (own_in x2 (128 : Int32) (191 : Int32))), .val (.int (own_in x3 (128 : Int32) (191 : Int32)))] [(.int (0 : Int32))])) (fun oT oK => ?_) ?_
                · show Steps p.tables e below (T6.setTop (mkF m 198 #[.val (.int x0), .val (.int x1), .val (.int x2), .val (.int x3), .val (.int x4), .val (.int (own_in x2 (128 : Int32) (191 : Int32))), .val (.int (own_in x3 (128 : Int32) (191 : Int32)))] [])) oT
                  refine XS.iconst X6.here hx rfl (hb hby dE_198) ?_
                  exact oK
                show OG _ _ _ _ _ _ _ (T6.setTop (mkF m 199 #[.val (.int x0), .val (.int x1), .val (.int x2), .val (.int x3), .val (.int x4), .val (.int (own_in x2 (128 : Int32) (191 : Int32))), .val (.int (own_in x3 (128 : Int32) (191 : Int32)))] [(.int (0 : Int32))]))
                refine OG.retI X6 hx Bd.returns (hb hby dE_199) hlk ?_ (by decide) (by decide)
                try rw [e6]
                exact ⟨by rw [own_exp, if_pos hc3_1, if_pos hc18_2, if_neg hc74_3, if_pos hc117_7, if_pos hc130_8, if_pos hc167_9, if_pos hc173_10] <;> rfl, N6, rfl⟩
              · refine OG.of (fun oT oK => XS.icmpNo X6.here hx rfl (hb hby dE_173) rfl (XT.ii_lt_f hc173_10) oK) ?_
                show OG _ _ _ _ _ _ _ (T6.setTop (mkF m 176 #[.val (.int x0), .val (.int x1), .val (.int x2), .val (.int x3), .val (.int x4), .val (.int (own_in x2 (128 : Int32) (191 : Int32))), .val (.int (own_in x3 (128 : Int32) (191 : Int32)))] []))
                refine OG.of (A := T6.setTop (mkF m 183 #[.val (.int x0), .val (.int x1), .val (.int x2), .val (.int x3), .val (.int x4), .val (.int (own_in x2 (128 : Int32) (191 : Int32))), .val (.int (own_in x3 (128 : Int32) (191 : Int32)))] [(.int (159 : Int32)), (.int (128 : Int32)), (.int x1)])) (fun oT oK => ?_) ?_
                · show Steps p.tables e below (T6.setTop (mkF m 176 #[.val (.int x0), .val (.int x1), .val (.int x2), .val (.int x3), .val (.int x4), .val (.int (own_in x2 (128 : Int32) (191 : Int32))), .val (.int (own_in x3 (128 : Int32) (191 : Int32)))] [])) oT
                  refine XS.iloadN X6.here hx rfl (hb hby dE_176) rfl  ?_
                  show Steps p.tables e below (T6.setTop (mkF m 177 #[.val (.int x0), .val (.int x1), .val (.int x2), .val (.int x3), .val (.int x4), .val (.int (own_in x2 (128 : Int32) (191 : Int32))), .val (.int (own_in x3 (128 : Int32) (191 : Int32)))] [(.int x1)])) _
                  refine XS.sipush X6.here hx rfl (hb hby dE_177) ?_
                  show Steps p.tables e below (T6.setTop (mkF m 180 #[.val (.int x0), .val (.int x1), .val (.int x2), .val (.int x3), .val (.int x4), .val (.int (own_in x2 (128 : Int32) (191 : Int32))), .val (.int (own_in x3 (128 : Int32) (191 : Int32)))] [(.int (128 : Int32)), (.int x1)])) _
                  refine XS.sipush X6.here hx rfl (hb hby dE_180) ?_
                  exact oK
                show OG _ _ _ _ _ _ _ (T6.setTop (mkF m 183 #[.val (.int x0), .val (.int x1), .val (.int x2), .val (.int x3), .val (.int x4), .val (.int (own_in x2 (128 : Int32) (191 : Int32))), .val (.int (own_in x3 (128 : Int32) (191 : Int32)))] [(.int (159 : Int32)), (.int (128 : Int32)), (.int x1)]))
                obtain ⟨_, _, ⟨T7, L7, k7, n7⟩, -, X7, ⟨Lc7, hQ7, l7, y7, z7⟩, st7⟩ := Jvm.LawKit.callS X6 hx (y := (⟨"com/example/gate_to_gate/gatetogate/model/Utf8SequenceLengthPinLaw", "in", "(III)Z"⟩ : MethodName)) hown (mvT hZ (hw _ (List.mem_of_getElem? (i := 9) rfl))) (mvT hZ (hw _ (List.mem_of_getElem? (i := 10) rfl))) (mvT hZ (hw _ (List.mem_of_getElem? (i := 7) rfl))) (mvT hZ (hw _ (List.mem_of_getElem? (i := 11) rfl))) (by decide) (backOf (W := 0) (rmI l Z a0 hw [] x1 (128 : Int32) (159 : Int32)  h0 n0 (Z0)) hZ (hw _ (List.mem_of_getElem? (i := 11) rfl)) (hw _ (List.mem_of_getElem? (i := 7) rfl)) (by decide) (by decide)) (g := (mkF m 183 #[.val (.int x0), .val (.int x1), .val (.int x2), .val (.int x3), .val (.int x4), .val (.int (own_in x2 (128 : Int32) (191 : Int32))), .val (.int (own_in x3 (128 : Int32) (191 : Int32)))] [(.int (159 : Int32)), (.int (128 : Int32)), (.int x1)])) rfl (by rw [hml]; rfl) (argsL := [(.int x1), (.int (128 : Int32)), (.int (159 : Int32))]) (rest := []) (lenOf pd__III_Z rfl) rfl (by show 2 * 0 + _ ≤ _; exact Nat.le_of_eq rfl) (hb hby dE_183) (fun _ _ => ⟨rfl, e6, (by decide : 0 + 0 ≤ _), (by decide : 0 + 0 ≤ _)⟩)
                dsimp only [Pt.U, Pt.locs, Pt.cells, Pt.slots] at X7 l7 y7 z7 st7 hQ7
                subst l7 y7 z7
                obtain ⟨rfl, N7q, e7⟩ := hQ7
                have N7 := Fr.app N6 N7q
                refine OG.of st7 ?_
                show OG _ _ _ _ _ _ _ (T7.setTop (mkF m 186 #[.val (.int x0), .val (.int x1), .val (.int x2), .val (.int x3), .val (.int x4), .val (.int (own_in x2 (128 : Int32) (191 : Int32))), .val (.int (own_in x3 (128 : Int32) (191 : Int32)))] [(.int (own_in x1 (128 : Int32) (159 : Int32)))]))
                by_cases hc186_11 : (own_in x1 (128 : Int32) (159 : Int32)) = (0 : Int32)
                · refine OG.of (fun oT oK => XS.ifYes X7.here hx rfl (pc0 := 186) (pc' := 198) rfl (hb hby dE_186) rfl (XT.i0_eq_t hc186_11) (by decide) (by decide) oK) ?_
                  show OG _ _ _ _ _ _ _ (T7.setTop (mkF m 198 #[.val (.int x0), .val (.int x1), .val (.int x2), .val (.int x3), .val (.int x4), .val (.int (own_in x2 (128 : Int32) (191 : Int32))), .val (.int (own_in x3 (128 : Int32) (191 : Int32)))] []))
                  refine OG.of (A := T7.setTop (mkF m 199 #[.val (.int x0), .val (.int x1), .val (.int x2), .val (.int x3), .val (.int x4), .val (.int (own_in x2 (128 : Int32) (191 : Int32))), .val (.int (own_in x3 (128 : Int32) (191 : Int32)))] [(.int (0 : Int32))])) (fun oT oK => ?_) ?_
                  · show Steps p.tables e below (T7.setTop (mkF m 198 #[.val (.int x0), .val (.int x1), .val (.int x2), .val (.int x3), .val (.int x4), .val (.int (own_in x2 (128 : Int32) (191 : Int32))), .val (.int (own_in x3 (128 : Int32) (191 : Int32)))] [])) oT
                    refine XS.iconst X7.here hx rfl (hb hby dE_198) ?_
                    exact oK
                  show OG _ _ _ _ _ _ _ (T7.setTop (mkF m 199 #[.val (.int x0), .val (.int x1), .val (.int x2), .val (.int x3), .val (.int x4), .val (.int (own_in x2 (128 : Int32) (191 : Int32))), .val (.int (own_in x3 (128 : Int32) (191 : Int32)))] [(.int (0 : Int32))]))
                  refine OG.retI X7 hx Bd.returns (hb hby dE_199) hlk ?_ (by decide) (by decide)
                  try rw [e7]
                  exact ⟨by rw [own_exp, if_pos hc3_1, if_pos hc18_2, if_neg hc74_3, if_pos hc117_7, if_pos hc130_8, if_pos hc167_9, if_neg hc173_10, if_pos hc186_11] <;> rfl, N7, rfl⟩
                · refine OG.of (fun oT oK => XS.ifNo X7.here hx rfl (hb hby dE_186) rfl (XT.i0_eq_f hc186_11) oK) ?_
                  show OG _ _ _ _ _ _ _ (T7.setTop (mkF m 189 #[.val (.int x0), .val (.int x1), .val (.int x2), .val (.int x3), .val (.int x4), .val (.int (own_in x2 (128 : Int32) (191 : Int32))), .val (.int (own_in x3 (128 : Int32) (191 : Int32)))] []))
                  refine OG.of (A := T7.setTop (mkF m 191 #[.val (.int x0), .val (.int x1), .val (.int x2), .val (.int x3), .val (.int x4), .val (.int (own_in x2 (128 : Int32) (191 : Int32))), .val (.int (own_in x3 (128 : Int32) (191 : Int32)))] [(.int (own_in x2 (128 : Int32) (191 : Int32)))])) (fun oT oK => ?_) ?_
                  · show Steps p.tables e below (T7.setTop (mkF m 189 #[.val (.int x0), .val (.int x1), .val (.int x2), .val (.int x3), .val (.int x4), .val (.int (own_in x2 (128 : Int32) (191 : Int32))), .val (.int (own_in x3 (128 : Int32) (191 : Int32)))] [])) oT
                    refine XS.iload X7.here hx rfl (hb hby dE_189) rfl  ?_
                    exact oK
                  show OG _ _ _ _ _ _ _ (T7.setTop (mkF m 191 #[.val (.int x0), .val (.int x1), .val (.int x2), .val (.int x3), .val (.int x4), .val (.int (own_in x2 (128 : Int32) (191 : Int32))), .val (.int (own_in x3 (128 : Int32) (191 : Int32)))] [(.int (own_in x2 (128 : Int32) (191 : Int32)))]))
                  by_cases hc191_12 : (own_in x2 (128 : Int32) (191 : Int32)) = (0 : Int32)
                  · refine OG.of (fun oT oK => XS.ifYes X7.here hx rfl (pc0 := 191) (pc' := 198) rfl (hb hby dE_191) rfl (XT.i0_eq_t hc191_12) (by decide) (by decide) oK) ?_
                    show OG _ _ _ _ _ _ _ (T7.setTop (mkF m 198 #[.val (.int x0), .val (.int x1), .val (.int x2), .val (.int x3), .val (.int x4), .val (.int (own_in x2 (128 : Int32) (191 : Int32))), .val (.int (own_in x3 (128 : Int32) (191 : Int32)))] []))
                    refine OG.of (A := T7.setTop (mkF m 199 #[.val (.int x0), .val (.int x1), .val (.int x2), .val (.int x3), .val (.int x4), .val (.int (own_in x2 (128 : Int32) (191 : Int32))), .val (.int (own_in x3 (128 : Int32) (191 : Int32)))] [(.int (0 : Int32))])) (fun oT oK => ?_) ?_
                    · show Steps p.tables e below (T7.setTop (mkF m 198 #[.val (.int x0), .val (.int x1), .val (.int x2), .val (.int x3), .val (.int x4), .val (.int (own_in x2 (128 : Int32) (191 : Int32))), .val (.int (own_in x3 (128 : Int32) (191 : Int32)))] [])) oT
                      refine XS.iconst X7.here hx rfl (hb hby dE_198) ?_
                      exact oK
                    show OG _ _ _ _ _ _ _ (T7.setTop (mkF m 199 #[.val (.int x0), .val (.int x1), .val (.int x2), .val (.int x3), .val (.int x4), .val (.int (own_in x2 (128 : Int32) (191 : Int32))), .val (.int (own_in x3 (128 : Int32) (191 : Int32)))] [(.int (0 : Int32))]))
                    refine OG.retI X7 hx Bd.returns (hb hby dE_199) hlk ?_ (by decide) (by decide)
                    try rw [e7]
                    exact ⟨by rw [own_exp, if_pos hc3_1, if_pos hc18_2, if_neg hc74_3, if_pos hc117_7, if_pos hc130_8, if_pos hc167_9, if_neg hc173_10, if_neg hc186_11, if_pos hc191_12] <;> rfl, N7, rfl⟩
                  · refine OG.of (fun oT oK => XS.ifNo X7.here hx rfl (hb hby dE_191) rfl (XT.i0_eq_f hc191_12) oK) ?_
                    show OG _ _ _ _ _ _ _ (T7.setTop (mkF m 194 #[.val (.int x0), .val (.int x1), .val (.int x2), .val (.int x3), .val (.int x4), .val (.int (own_in x2 (128 : Int32) (191 : Int32))), .val (.int (own_in x3 (128 : Int32) (191 : Int32)))] []))
                    refine OG.of (A := T7.setTop (mkF m 199 #[.val (.int x0), .val (.int x1), .val (.int x2), .val (.int x3), .val (.int x4), .val (.int (own_in x2 (128 : Int32) (191 : Int32))), .val (.int (own_in x3 (128 : Int32) (191 : Int32)))] [(.int (3 : Int32))])) (fun oT oK => ?_) ?_
                    · show Steps p.tables e below (T7.setTop (mkF m 194 #[.val (.int x0), .val (.int x1), .val (.int x2), .val (.int x3), .val (.int x4), .val (.int (own_in x2 (128 : Int32) (191 : Int32))), .val (.int (own_in x3 (128 : Int32) (191 : Int32)))] [])) oT
                      refine XS.iconst X7.here hx rfl (hb hby dE_194) ?_
                      show Steps p.tables e below (T7.setTop (mkF m 195 #[.val (.int x0), .val (.int x1), .val (.int x2), .val (.int x3), .val (.int x4), .val (.int (own_in x2 (128 : Int32) (191 : Int32))), .val (.int (own_in x3 (128 : Int32) (191 : Int32)))] [(.int (3 : Int32))])) _
                      refine XS.goto X7.here hx rfl (pc0 := 195) (pc' := 199) rfl (hb hby dE_195) (by decide) (by decide) ?_
                      exact oK
                    show OG _ _ _ _ _ _ _ (T7.setTop (mkF m 199 #[.val (.int x0), .val (.int x1), .val (.int x2), .val (.int x3), .val (.int x4), .val (.int (own_in x2 (128 : Int32) (191 : Int32))), .val (.int (own_in x3 (128 : Int32) (191 : Int32)))] [(.int (3 : Int32))]))
                    refine OG.retI X7 hx Bd.returns (hb hby dE_199) hlk ?_ (by decide) (by decide)
                    try rw [e7]
                    exact ⟨by rw [own_exp, if_pos hc3_1, if_pos hc18_2, if_neg hc74_3, if_pos hc117_7, if_pos hc130_8, if_pos hc167_9, if_neg hc173_10, if_neg hc186_11, if_neg hc191_12] <;> rfl, N7, rfl⟩
            · refine OG.of (fun oT oK => XS.icmpYes X6.here hx rfl (pc0 := 167) (pc' := 200) rfl (hb hby dE_167) rfl (XT.ii_ne_t hc167_9) (by decide) (by decide) oK) ?_
              show OG _ _ _ _ _ _ _ (T6.setTop (mkF m 200 #[.val (.int x0), .val (.int x1), .val (.int x2), .val (.int x3), .val (.int x4), .val (.int (own_in x2 (128 : Int32) (191 : Int32))), .val (.int (own_in x3 (128 : Int32) (191 : Int32)))] []))
              refine OG.of (A := T6.setTop (mkF m 204 #[.val (.int x0), .val (.int x1), .val (.int x2), .val (.int x3), .val (.int x4), .val (.int (own_in x2 (128 : Int32) (191 : Int32))), .val (.int (own_in x3 (128 : Int32) (191 : Int32)))] [(.int (240 : Int32)), (.int x0)])) (fun oT oK => ?_) ?_
              · show Steps p.tables e below (T6.setTop (mkF m 200 #[.val (.int x0), .val (.int x1), .val (.int x2), .val (.int x3), .val (.int x4), .val (.int (own_in x2 (128 : Int32) (191 : Int32))), .val (.int (own_in x3 (128 : Int32) (191 : Int32)))] [])) oT
                refine XS.iloadN X6.here hx rfl (hb hby dE_200) rfl  ?_
                show Steps p.tables e below (T6.setTop (mkF m 201 #[.val (.int x0), .val (.int x1), .val (.int x2), .val (.int x3), .val (.int x4), .val (.int (own_in x2 (128 : Int32) (191 : Int32))), .val (.int (own_in x3 (128 : Int32) (191 : Int32)))] [(.int x0)])) _
                refine XS.sipush X6.here hx rfl (hb hby dE_201) ?_
                exact oK
              show OG _ _ _ _ _ _ _ (T6.setTop (mkF m 204 #[.val (.int x0), .val (.int x1), .val (.int x2), .val (.int x3), .val (.int x4), .val (.int (own_in x2 (128 : Int32) (191 : Int32))), .val (.int (own_in x3 (128 : Int32) (191 : Int32)))] [(.int (240 : Int32)), (.int x0)]))
              by_cases hc204_13 : x0 = (240 : Int32)
              · refine OG.of (fun oT oK => XS.icmpNo X6.here hx rfl (hb hby dE_204) rfl (XT.ii_ne_f hc204_13) oK) ?_
                show OG _ _ _ _ _ _ _ (T6.setTop (mkF m 207 #[.val (.int x0), .val (.int x1), .val (.int x2), .val (.int x3), .val (.int x4), .val (.int (own_in x2 (128 : Int32) (191 : Int32))), .val (.int (own_in x3 (128 : Int32) (191 : Int32)))] []))
                refine OG.of (A := T6.setTop (mkF m 210 #[.val (.int x0), .val (.int x1), .val (.int x2), .val (.int x3), .val (.int x4), .val (.int (own_in x2 (128 : Int32) (191 : Int32))), .val (.int (own_in x3 (128 : Int32) (191 : Int32)))] [(.int (4 : Int32)), (.int x4)])) (fun oT oK => ?_) ?_
                · show Steps p.tables e below (T6.setTop (mkF m 207 #[.val (.int x0), .val (.int x1), .val (.int x2), .val (.int x3), .val (.int x4), .val (.int (own_in x2 (128 : Int32) (191 : Int32))), .val (.int (own_in x3 (128 : Int32) (191 : Int32)))] [])) oT
                  refine XS.iload X6.here hx rfl (hb hby dE_207) rfl  ?_
                  show Steps p.tables e below (T6.setTop (mkF m 209 #[.val (.int x0), .val (.int x1), .val (.int x2), .val (.int x3), .val (.int x4), .val (.int (own_in x2 (128 : Int32) (191 : Int32))), .val (.int (own_in x3 (128 : Int32) (191 : Int32)))] [(.int x4)])) _
                  refine XS.iconst X6.here hx rfl (hb hby dE_209) ?_
                  exact oK
                show OG _ _ _ _ _ _ _ (T6.setTop (mkF m 210 #[.val (.int x0), .val (.int x1), .val (.int x2), .val (.int x3), .val (.int x4), .val (.int (own_in x2 (128 : Int32) (191 : Int32))), .val (.int (own_in x3 (128 : Int32) (191 : Int32)))] [(.int (4 : Int32)), (.int x4)]))
                by_cases hc210_14 : x4 < (4 : Int32)
                · refine OG.of (fun oT oK => XS.icmpYes X6.here hx rfl (pc0 := 210) (pc' := 240) rfl (hb hby dE_210) rfl (XT.ii_lt_t hc210_14) (by decide) (by decide) oK) ?_
                  show OG _ _ _ _ _ _ _ (T6.setTop (mkF m 240 #[.val (.int x0), .val (.int x1), .val (.int x2), .val (.int x3), .val (.int x4), .val (.int (own_in x2 (128 : Int32) (191 : Int32))), .val (.int (own_in x3 (128 : Int32) (191 : Int32)))] []))
                  refine OG.of (A := T6.setTop (mkF m 241 #[.val (.int x0), .val (.int x1), .val (.int x2), .val (.int x3), .val (.int x4), .val (.int (own_in x2 (128 : Int32) (191 : Int32))), .val (.int (own_in x3 (128 : Int32) (191 : Int32)))] [(.int (0 : Int32))])) (fun oT oK => ?_) ?_
                  · show Steps p.tables e below (T6.setTop (mkF m 240 #[.val (.int x0), .val (.int x1), .val (.int x2), .val (.int x3), .val (.int x4), .val (.int (own_in x2 (128 : Int32) (191 : Int32))), .val (.int (own_in x3 (128 : Int32) (191 : Int32)))] [])) oT
                    refine XS.iconst X6.here hx rfl (hb hby dE_240) ?_
                    exact oK
                  show OG _ _ _ _ _ _ _ (T6.setTop (mkF m 241 #[.val (.int x0), .val (.int x1), .val (.int x2), .val (.int x3), .val (.int x4), .val (.int (own_in x2 (128 : Int32) (191 : Int32))), .val (.int (own_in x3 (128 : Int32) (191 : Int32)))] [(.int (0 : Int32))]))
                  refine OG.retI X6 hx Bd.returns (hb hby dE_241) hlk ?_ (by decide) (by decide)
                  try rw [e6]
                  exact ⟨by rw [own_exp, if_pos hc3_1, if_pos hc18_2, if_neg hc74_3, if_pos hc117_7, if_pos hc130_8, if_neg hc167_9, if_pos hc204_13, if_pos hc210_14] <;> rfl, N6, rfl⟩
                · refine OG.of (fun oT oK => XS.icmpNo X6.here hx rfl (hb hby dE_210) rfl (XT.ii_lt_f hc210_14) oK) ?_
                  show OG _ _ _ _ _ _ _ (T6.setTop (mkF m 213 #[.val (.int x0), .val (.int x1), .val (.int x2), .val (.int x3), .val (.int x4), .val (.int (own_in x2 (128 : Int32) (191 : Int32))), .val (.int (own_in x3 (128 : Int32) (191 : Int32)))] []))
                  refine OG.of (A := T6.setTop (mkF m 220 #[.val (.int x0), .val (.int x1), .val (.int x2), .val (.int x3), .val (.int x4), .val (.int (own_in x2 (128 : Int32) (191 : Int32))), .val (.int (own_in x3 (128 : Int32) (191 : Int32)))] [(.int (191 : Int32)), (.int (144 : Int32)), (.int x1)])) (fun oT oK => ?_) ?_
                  · show Steps p.tables e below (T6.setTop (mkF m 213 #[.val (.int x0), .val (.int x1), .val (.int x2), .val (.int x3), .val (.int x4), .val (.int (own_in x2 (128 : Int32) (191 : Int32))), .val (.int (own_in x3 (128 : Int32) (191 : Int32)))] [])) oT
                    refine XS.iloadN X6.here hx rfl (hb hby dE_213) rfl  ?_
                    show Steps p.tables e below (T6.setTop (mkF m 214 #[.val (.int x0), .val (.int x1), .val (.int x2), .val (.int x3), .val (.int x4), .val (.int (own_in x2 (128 : Int32) (191 : Int32))), .val (.int (own_in x3 (128 : Int32) (191 : Int32)))] [(.int x1)])) _
                    refine XS.sipush X6.here hx rfl (hb hby dE_214) ?_
                    show Steps p.tables e below (T6.setTop (mkF m 217 #[.val (.int x0), .val (.int x1), .val (.int x2), .val (.int x3), .val (.int x4), .val (.int (own_in x2 (128 : Int32) (191 : Int32))), .val (.int (own_in x3 (128 : Int32) (191 : Int32)))] [(.int (144 : Int32)), (.int x1)])) _
                    refine XS.sipush X6.here hx rfl (hb hby dE_217) ?_
                    exact oK
                  show OG _ _ _ _ _ _ _ (T6.setTop (mkF m 220 #[.val (.int x0), .val (.int x1), .val (.int x2), .val (.int x3), .val (.int x4), .val (.int (own_in x2 (128 : Int32) (191 : Int32))), .val (.int (own_in x3 (128 : Int32) (191 : Int32)))] [(.int (191 : Int32)), (.int (144 : Int32)), (.int x1)]))
                  obtain ⟨_, _, ⟨T8, L8, k8, n8⟩, -, X8, ⟨Lc8, hQ8, l8, y8, z8⟩, st8⟩ := Jvm.LawKit.callS X6 hx (y := (⟨"com/example/gate_to_gate/gatetogate/model/Utf8SequenceLengthPinLaw", "in", "(III)Z"⟩ : MethodName)) hown (mvT hZ (hw _ (List.mem_of_getElem? (i := 9) rfl))) (mvT hZ (hw _ (List.mem_of_getElem? (i := 10) rfl))) (mvT hZ (hw _ (List.mem_of_getElem? (i := 7) rfl))) (mvT hZ (hw _ (List.mem_of_getElem? (i := 11) rfl))) (by decide) (backOf (W := 0) (rmI l Z a0 hw [] x1 (144 : Int32) (191 : Int32)  h0 n0 (Z0)) hZ (hw _ (List.mem_of_getElem? (i := 11) rfl)) (hw _ (List.mem_of_getElem? (i := 7) rfl)) (by decide) (by decide)) (g := (mkF m 220 #[.val (.int x0), .val (.int x1), .val (.int x2), .val (.int x3), .val (.int x4), .val (.int (own_in x2 (128 : Int32) (191 : Int32))), .val (.int (own_in x3 (128 : Int32) (191 : Int32)))] [(.int (191 : Int32)), (.int (144 : Int32)), (.int x1)])) rfl (by rw [hml]; rfl) (argsL := [(.int x1), (.int (144 : Int32)), (.int (191 : Int32))]) (rest := []) (lenOf pd__III_Z rfl) rfl (by show 2 * 0 + _ ≤ _; exact Nat.le_of_eq rfl) (hb hby dE_220) (fun _ _ => ⟨rfl, e6, (by decide : 0 + 0 ≤ _), (by decide : 0 + 0 ≤ _)⟩)
                  dsimp only [Pt.U, Pt.locs, Pt.cells, Pt.slots] at X8 l8 y8 z8 st8 hQ8
                  subst l8 y8 z8
                  obtain ⟨rfl, N8q, e8⟩ := hQ8
                  have N8 := Fr.app N6 N8q
                  refine OG.of st8 ?_
                  show OG _ _ _ _ _ _ _ (T8.setTop (mkF m 223 #[.val (.int x0), .val (.int x1), .val (.int x2), .val (.int x3), .val (.int x4), .val (.int (own_in x2 (128 : Int32) (191 : Int32))), .val (.int (own_in x3 (128 : Int32) (191 : Int32)))] [(.int (own_in x1 (144 : Int32) (191 : Int32)))]))
                  by_cases hc223_15 : (own_in x1 (144 : Int32) (191 : Int32)) = (0 : Int32)
                  · refine OG.of (fun oT oK => XS.ifYes X8.here hx rfl (pc0 := 223) (pc' := 240) rfl (hb hby dE_223) rfl (XT.i0_eq_t hc223_15) (by decide) (by decide) oK) ?_
                    show OG _ _ _ _ _ _ _ (T8.setTop (mkF m 240 #[.val (.int x0), .val (.int x1), .val (.int x2), .val (.int x3), .val (.int x4), .val (.int (own_in x2 (128 : Int32) (191 : Int32))), .val (.int (own_in x3 (128 : Int32) (191 : Int32)))] []))
                    refine OG.of (A := T8.setTop (mkF m 241 #[.val (.int x0), .val (.int x1), .val (.int x2), .val (.int x3), .val (.int x4), .val (.int (own_in x2 (128 : Int32) (191 : Int32))), .val (.int (own_in x3 (128 : Int32) (191 : Int32)))] [(.int (0 : Int32))])) (fun oT oK => ?_) ?_
                    · show Steps p.tables e below (T8.setTop (mkF m 240 #[.val (.int x0), .val (.int x1), .val (.int x2), .val (.int x3), .val (.int x4), .val (.int (own_in x2 (128 : Int32) (191 : Int32))), .val (.int (own_in x3 (128 : Int32) (191 : Int32)))] [])) oT
                      refine XS.iconst X8.here hx rfl (hb hby dE_240) ?_
                      exact oK
                    show OG _ _ _ _ _ _ _ (T8.setTop (mkF m 241 #[.val (.int x0), .val (.int x1), .val (.int x2), .val (.int x3), .val (.int x4), .val (.int (own_in x2 (128 : Int32) (191 : Int32))), .val (.int (own_in x3 (128 : Int32) (191 : Int32)))] [(.int (0 : Int32))]))
                    refine OG.retI X8 hx Bd.returns (hb hby dE_241) hlk ?_ (by decide) (by decide)
                    try rw [e8]
                    exact ⟨by rw [own_exp, if_pos hc3_1, if_pos hc18_2, if_neg hc74_3, if_pos hc117_7, if_pos hc130_8, if_neg hc167_9, if_pos hc204_13, if_neg hc210_14, if_pos hc223_15] <;> rfl, N8, rfl⟩
                  · refine OG.of (fun oT oK => XS.ifNo X8.here hx rfl (hb hby dE_223) rfl (XT.i0_eq_f hc223_15) oK) ?_
                    show OG _ _ _ _ _ _ _ (T8.setTop (mkF m 226 #[.val (.int x0), .val (.int x1), .val (.int x2), .val (.int x3), .val (.int x4), .val (.int (own_in x2 (128 : Int32) (191 : Int32))), .val (.int (own_in x3 (128 : Int32) (191 : Int32)))] []))
                    refine OG.of (A := T8.setTop (mkF m 228 #[.val (.int x0), .val (.int x1), .val (.int x2), .val (.int x3), .val (.int x4), .val (.int (own_in x2 (128 : Int32) (191 : Int32))), .val (.int (own_in x3 (128 : Int32) (191 : Int32)))] [(.int (own_in x2 (128 : Int32) (191 : Int32)))])) (fun oT oK => ?_) ?_
                    · show Steps p.tables e below (T8.setTop (mkF m 226 #[.val (.int x0), .val (.int x1), .val (.int x2), .val (.int x3), .val (.int x4), .val (.int (own_in x2 (128 : Int32) (191 : Int32))), .val (.int (own_in x3 (128 : Int32) (191 : Int32)))] [])) oT
                      refine XS.iload X8.here hx rfl (hb hby dE_226) rfl  ?_
                      exact oK
                    show OG _ _ _ _ _ _ _ (T8.setTop (mkF m 228 #[.val (.int x0), .val (.int x1), .val (.int x2), .val (.int x3), .val (.int x4), .val (.int (own_in x2 (128 : Int32) (191 : Int32))), .val (.int (own_in x3 (128 : Int32) (191 : Int32)))] [(.int (own_in x2 (128 : Int32) (191 : Int32)))]))
                    by_cases hc228_16 : (own_in x2 (128 : Int32) (191 : Int32)) = (0 : Int32)
                    · refine OG.of (fun oT oK => XS.ifYes X8.here hx rfl (pc0 := 228) (pc' := 240) rfl (hb hby dE_228) rfl (XT.i0_eq_t hc228_16) (by decide) (by decide) oK) ?_
                      show OG _ _ _ _ _ _ _ (T8.setTop (mkF m 240 #[.val (.int x0), .val (.int x1), .val (.int x2), .val (.int x3), .val (.int x4), .val (.int (own_in x2 (128 : Int32) (191 : Int32))), .val (.int (own_in x3 (128 : Int32) (191 : Int32)))] []))
                      refine OG.of (A := T8.setTop (mkF m 241 #[.val (.int x0), .val (.int x1), .val (.int x2), .val (.int x3), .val (.int x4), .val (.int (own_in x2 (128 : Int32) (191 : Int32))), .val (.int (own_in x3 (128 : Int32) (191 : Int32)))] [(.int (0 : Int32))])) (fun oT oK => ?_) ?_
                      · show Steps p.tables e below (T8.setTop (mkF m 240 #[.val (.int x0), .val (.int x1), .val (.int x2), .val (.int x3), .val (.int x4), .val (.int (own_in x2 (128 : Int32) (191 : Int32))), .val (.int (own_in x3 (128 : Int32) (191 : Int32)))] [])) oT
                        refine XS.iconst X8.here hx rfl (hb hby dE_240) ?_
                        exact oK
                      show OG _ _ _ _ _ _ _ (T8.setTop (mkF m 241 #[.val (.int x0), .val (.int x1), .val (.int x2), .val (.int x3), .val (.int x4), .val (.int (own_in x2 (128 : Int32) (191 : Int32))), .val (.int (own_in x3 (128 : Int32) (191 : Int32)))] [(.int (0 : Int32))]))
                      refine OG.retI X8 hx Bd.returns (hb hby dE_241) hlk ?_ (by decide) (by decide)
                      try rw [e8]
                      exact ⟨by rw [own_exp, if_pos hc3_1, if_pos hc18_2, if_neg hc74_3, if_pos hc117_7, if_pos hc130_8, if_neg hc167_9, if_pos hc204_13, if_neg hc210_14, if_neg hc223_15, if_pos hc228_16] <;> rfl, N8, rfl⟩
                    · refine OG.of (fun oT oK => XS.ifNo X8.here hx rfl (hb hby dE_228) rfl (XT.i0_eq_f hc228_16) oK) ?_
                      show OG _ _ _ _ _ _ _ (T8.setTop (mkF m 231 #[.val (.int x0), .val (.int x1), .val (.int x2), .val (.int x3), .val (.int x4), .val (.int (own_in x2 (128 : Int32) (191 : Int32))), .val (.int (own_in x3 (128 : Int32) (191 : Int32)))] []))
                      refine OG.of (A := T8.setTop (mkF m 233 #[.val (.int x0), .val (.int x1), .val (.int x2), .val (.int x3), .val (.int x4), .val (.int (own_in x2 (128 : Int32) (191 : Int32))), .val (.int (own_in x3 (128 : Int32) (191 : Int32)))] [(.int (own_in x3 (128 : Int32) (191 : Int32)))])) (fun oT oK => ?_) ?_
                      · show Steps p.tables e below (T8.setTop (mkF m 231 #[.val (.int x0), .val (.int x1), .val (.int x2), .val (.int x3), .val (.int x4), .val (.int (own_in x2 (128 : Int32) (191 : Int32))), .val (.int (own_in x3 (128 : Int32) (191 : Int32)))] [])) oT
                        refine XS.iload X8.here hx rfl (hb hby dE_231) rfl  ?_
                        exact oK
                      show OG _ _ _ _ _ _ _ (T8.setTop (mkF m 233 #[.val (.int x0), .val (.int x1), .val (.int x2), .val (.int x3), .val (.int x4), .val (.int (own_in x2 (128 : Int32) (191 : Int32))), .val (.int (own_in x3 (128 : Int32) (191 : Int32)))] [(.int (own_in x3 (128 : Int32) (191 : Int32)))]))
                      by_cases hc233_17 : (own_in x3 (128 : Int32) (191 : Int32)) = (0 : Int32)
                      · refine OG.of (fun oT oK => XS.ifYes X8.here hx rfl (pc0 := 233) (pc' := 240) rfl (hb hby dE_233) rfl (XT.i0_eq_t hc233_17) (by decide) (by decide) oK) ?_
                        show OG _ _ _ _ _ _ _ (T8.setTop (mkF m 240 #[.val (.int x0), .val (.int x1), .val (.int x2), .val (.int x3), .val (.int x4), .val (.int (own_in x2 (128 : Int32) (191 : Int32))), .val (.int (own_in x3 (128 : Int32) (191 : Int32)))] []))
                        refine OG.of (A := T8.setTop (mkF m 241 #[.val (.int x0), .val (.int x1), .val (.int x2), .val (.int x3), .val (.int x4), .val (.int (own_in x2 (128 : Int32) (191 : Int32))), .val (.int (own_in x3 (128 : Int32) (191 : Int32)))] [(.int (0 : Int32))])) (fun oT oK => ?_) ?_
                        · show Steps p.tables e below (T8.setTop (mkF m 240 #[.val (.int x0), .val (.int x1), .val (.int x2), .val (.int x3), .val (.int x4), .val (.int (own_in x2 (128 : Int32) (191 : Int32))), .val (.int (own_in x3 (128 : Int32) (191 : Int32)))] [])) oT
                          refine XS.iconst X8.here hx rfl (hb hby dE_240) ?_
                          exact oK
                        show OG _ _ _ _ _ _ _ (T8.setTop (mkF m 241 #[.val (.int x0), .val (.int x1), .val (.int x2), .val (.int x3), .val (.int x4), .val (.int (own_in x2 (128 : Int32) (191 : Int32))), .val (.int (own_in x3 (128 : Int32) (191 : Int32)))] [(.int (0 : Int32))]))
                        refine OG.retI X8 hx Bd.returns (hb hby dE_241) hlk ?_ (by decide) (by decide)
                        try rw [e8]
                        exact ⟨by rw [own_exp, if_pos hc3_1, if_pos hc18_2, if_neg hc74_3, if_pos hc117_7, if_pos hc130_8, if_neg hc167_9, if_pos hc204_13, if_neg hc210_14, if_neg hc223_15, if_neg hc228_16, if_pos hc233_17] <;> rfl, N8, rfl⟩
                      · refine OG.of (fun oT oK => XS.ifNo X8.here hx rfl (hb hby dE_233) rfl (XT.i0_eq_f hc233_17) oK) ?_
                        show OG _ _ _ _ _ _ _ (T8.setTop (mkF m 236 #[.val (.int x0), .val (.int x1), .val (.int x2), .val (.int x3), .val (.int x4), .val (.int (own_in x2 (128 : Int32) (191 : Int32))), .val (.int (own_in x3 (128 : Int32) (191 : Int32)))] []))
                        refine OG.of (A := T8.setTop (mkF m 241 #[.val (.int x0), .val (.int x1), .val (.int x2), .val (.int x3), .val (.int x4), .val (.int (own_in x2 (128 : Int32) (191 : Int32))), .val (.int (own_in x3 (128 : Int32) (191 : Int32)))] [(.int (4 : Int32))])) (fun oT oK => ?_) ?_
                        · show Steps p.tables e below (T8.setTop (mkF m 236 #[.val (.int x0), .val (.int x1), .val (.int x2), .val (.int x3), .val (.int x4), .val (.int (own_in x2 (128 : Int32) (191 : Int32))), .val (.int (own_in x3 (128 : Int32) (191 : Int32)))] [])) oT
                          refine XS.iconst X8.here hx rfl (hb hby dE_236) ?_
                          show Steps p.tables e below (T8.setTop (mkF m 237 #[.val (.int x0), .val (.int x1), .val (.int x2), .val (.int x3), .val (.int x4), .val (.int (own_in x2 (128 : Int32) (191 : Int32))), .val (.int (own_in x3 (128 : Int32) (191 : Int32)))] [(.int (4 : Int32))])) _
                          refine XS.goto X8.here hx rfl (pc0 := 237) (pc' := 241) rfl (hb hby dE_237) (by decide) (by decide) ?_
                          exact oK
                        show OG _ _ _ _ _ _ _ (T8.setTop (mkF m 241 #[.val (.int x0), .val (.int x1), .val (.int x2), .val (.int x3), .val (.int x4), .val (.int (own_in x2 (128 : Int32) (191 : Int32))), .val (.int (own_in x3 (128 : Int32) (191 : Int32)))] [(.int (4 : Int32))]))
                        refine OG.retI X8 hx Bd.returns (hb hby dE_241) hlk ?_ (by decide) (by decide)
                        try rw [e8]
                        exact ⟨by rw [own_exp, if_pos hc3_1, if_pos hc18_2, if_neg hc74_3, if_pos hc117_7, if_pos hc130_8, if_neg hc167_9, if_pos hc204_13, if_neg hc210_14, if_neg hc223_15, if_neg hc228_16, if_neg hc233_17] <;> rfl, N8, rfl⟩
              · refine OG.of (fun oT oK => XS.icmpYes X6.here hx rfl (pc0 := 204) (pc' := 242) rfl (hb hby dE_204) rfl (XT.ii_ne_t hc204_13) (by decide) (by decide) oK) ?_
                show OG _ _ _ _ _ _ _ (T6.setTop (mkF m 242 #[.val (.int x0), .val (.int x1), .val (.int x2), .val (.int x3), .val (.int x4), .val (.int (own_in x2 (128 : Int32) (191 : Int32))), .val (.int (own_in x3 (128 : Int32) (191 : Int32)))] []))
                refine OG.of (A := T6.setTop (mkF m 249 #[.val (.int x0), .val (.int x1), .val (.int x2), .val (.int x3), .val (.int x4), .val (.int (own_in x2 (128 : Int32) (191 : Int32))), .val (.int (own_in x3 (128 : Int32) (191 : Int32)))] [(.int (243 : Int32)), (.int (241 : Int32)), (.int x0)])) (fun oT oK => ?_) ?_
                · show Steps p.tables e below (T6.setTop (mkF m 242 #[.val (.int x0), .val (.int x1), .val (.int x2), .val (.int x3), .val (.int x4), .val (.int (own_in x2 (128 : Int32) (191 : Int32))), .val (.int (own_in x3 (128 : Int32) (191 : Int32)))] [])) oT
                  refine XS.iloadN X6.here hx rfl (hb hby dE_242) rfl  ?_
                  show Steps p.tables e below (T6.setTop (mkF m 243 #[.val (.int x0), .val (.int x1), .val (.int x2), .val (.int x3), .val (.int x4), .val (.int (own_in x2 (128 : Int32) (191 : Int32))), .val (.int (own_in x3 (128 : Int32) (191 : Int32)))] [(.int x0)])) _
                  refine XS.sipush X6.here hx rfl (hb hby dE_243) ?_
                  show Steps p.tables e below (T6.setTop (mkF m 246 #[.val (.int x0), .val (.int x1), .val (.int x2), .val (.int x3), .val (.int x4), .val (.int (own_in x2 (128 : Int32) (191 : Int32))), .val (.int (own_in x3 (128 : Int32) (191 : Int32)))] [(.int (241 : Int32)), (.int x0)])) _
                  refine XS.sipush X6.here hx rfl (hb hby dE_246) ?_
                  exact oK
                show OG _ _ _ _ _ _ _ (T6.setTop (mkF m 249 #[.val (.int x0), .val (.int x1), .val (.int x2), .val (.int x3), .val (.int x4), .val (.int (own_in x2 (128 : Int32) (191 : Int32))), .val (.int (own_in x3 (128 : Int32) (191 : Int32)))] [(.int (243 : Int32)), (.int (241 : Int32)), (.int x0)]))
                obtain ⟨_, _, ⟨T9, L9, k9, n9⟩, -, X9, ⟨Lc9, hQ9, l9, y9, z9⟩, st9⟩ := Jvm.LawKit.callS X6 hx (y := (⟨"com/example/gate_to_gate/gatetogate/model/Utf8SequenceLengthPinLaw", "in", "(III)Z"⟩ : MethodName)) hown (mvT hZ (hw _ (List.mem_of_getElem? (i := 9) rfl))) (mvT hZ (hw _ (List.mem_of_getElem? (i := 10) rfl))) (mvT hZ (hw _ (List.mem_of_getElem? (i := 7) rfl))) (mvT hZ (hw _ (List.mem_of_getElem? (i := 11) rfl))) (by decide) (backOf (W := 0) (rmI l Z a0 hw [] x0 (241 : Int32) (243 : Int32)  h0 n0 (Z0)) hZ (hw _ (List.mem_of_getElem? (i := 11) rfl)) (hw _ (List.mem_of_getElem? (i := 7) rfl)) (by decide) (by decide)) (g := (mkF m 249 #[.val (.int x0), .val (.int x1), .val (.int x2), .val (.int x3), .val (.int x4), .val (.int (own_in x2 (128 : Int32) (191 : Int32))), .val (.int (own_in x3 (128 : Int32) (191 : Int32)))] [(.int (243 : Int32)), (.int (241 : Int32)), (.int x0)])) rfl (by rw [hml]; rfl) (argsL := [(.int x0), (.int (241 : Int32)), (.int (243 : Int32))]) (rest := []) (lenOf pd__III_Z rfl) rfl (by show 2 * 0 + _ ≤ _; exact Nat.le_of_eq rfl) (hb hby dE_249) (fun _ _ => ⟨rfl, e6, (by decide : 0 + 0 ≤ _), (by decide : 0 + 0 ≤ _)⟩)
                dsimp only [Pt.U, Pt.locs, Pt.cells, Pt.slots] at X9 l9 y9 z9 st9 hQ9
                subst l9 y9 z9
                obtain ⟨rfl, N9q, e9⟩ := hQ9
                have N9 := Fr.app N6 N9q
                refine OG.of st9 ?_
                show OG _ _ _ _ _ _ _ (T9.setTop (mkF m 252 #[.val (.int x0), .val (.int x1), .val (.int x2), .val (.int x3), .val (.int x4), .val (.int (own_in x2 (128 : Int32) (191 : Int32))), .val (.int (own_in x3 (128 : Int32) (191 : Int32)))] [(.int (own_in x0 (241 : Int32) (243 : Int32)))]))
                by_cases hc252_18 : (own_in x0 (241 : Int32) (243 : Int32)) = (0 : Int32)
                · refine OG.of (fun oT oK => XS.ifYes X9.here hx rfl (pc0 := 252) (pc' := 290) rfl (hb hby dE_252) rfl (XT.i0_eq_t hc252_18) (by decide) (by decide) oK) ?_
                  show OG _ _ _ _ _ _ _ (T9.setTop (mkF m 290 #[.val (.int x0), .val (.int x1), .val (.int x2), .val (.int x3), .val (.int x4), .val (.int (own_in x2 (128 : Int32) (191 : Int32))), .val (.int (own_in x3 (128 : Int32) (191 : Int32)))] []))
                  refine OG.of (A := T9.setTop (mkF m 294 #[.val (.int x0), .val (.int x1), .val (.int x2), .val (.int x3), .val (.int x4), .val (.int (own_in x2 (128 : Int32) (191 : Int32))), .val (.int (own_in x3 (128 : Int32) (191 : Int32)))] [(.int (244 : Int32)), (.int x0)])) (fun oT oK => ?_) ?_
                  · show Steps p.tables e below (T9.setTop (mkF m 290 #[.val (.int x0), .val (.int x1), .val (.int x2), .val (.int x3), .val (.int x4), .val (.int (own_in x2 (128 : Int32) (191 : Int32))), .val (.int (own_in x3 (128 : Int32) (191 : Int32)))] [])) oT
                    refine XS.iloadN X9.here hx rfl (hb hby dE_290) rfl  ?_
                    show Steps p.tables e below (T9.setTop (mkF m 291 #[.val (.int x0), .val (.int x1), .val (.int x2), .val (.int x3), .val (.int x4), .val (.int (own_in x2 (128 : Int32) (191 : Int32))), .val (.int (own_in x3 (128 : Int32) (191 : Int32)))] [(.int x0)])) _
                    refine XS.sipush X9.here hx rfl (hb hby dE_291) ?_
                    exact oK
                  show OG _ _ _ _ _ _ _ (T9.setTop (mkF m 294 #[.val (.int x0), .val (.int x1), .val (.int x2), .val (.int x3), .val (.int x4), .val (.int (own_in x2 (128 : Int32) (191 : Int32))), .val (.int (own_in x3 (128 : Int32) (191 : Int32)))] [(.int (244 : Int32)), (.int x0)]))
                  by_cases hc294_19 : x0 = (244 : Int32)
                  · refine OG.of (fun oT oK => XS.icmpNo X9.here hx rfl (hb hby dE_294) rfl (XT.ii_ne_f hc294_19) oK) ?_
                    show OG _ _ _ _ _ _ _ (T9.setTop (mkF m 297 #[.val (.int x0), .val (.int x1), .val (.int x2), .val (.int x3), .val (.int x4), .val (.int (own_in x2 (128 : Int32) (191 : Int32))), .val (.int (own_in x3 (128 : Int32) (191 : Int32)))] []))
                    refine OG.of (A := T9.setTop (mkF m 300 #[.val (.int x0), .val (.int x1), .val (.int x2), .val (.int x3), .val (.int x4), .val (.int (own_in x2 (128 : Int32) (191 : Int32))), .val (.int (own_in x3 (128 : Int32) (191 : Int32)))] [(.int (4 : Int32)), (.int x4)])) (fun oT oK => ?_) ?_
                    · show Steps p.tables e below (T9.setTop (mkF m 297 #[.val (.int x0), .val (.int x1), .val (.int x2), .val (.int x3), .val (.int x4), .val (.int (own_in x2 (128 : Int32) (191 : Int32))), .val (.int (own_in x3 (128 : Int32) (191 : Int32)))] [])) oT
                      refine XS.iload X9.here hx rfl (hb hby dE_297) rfl  ?_
                      show Steps p.tables e below (T9.setTop (mkF m 299 #[.val (.int x0), .val (.int x1), .val (.int x2), .val (.int x3), .val (.int x4), .val (.int (own_in x2 (128 : Int32) (191 : Int32))), .val (.int (own_in x3 (128 : Int32) (191 : Int32)))] [(.int x4)])) _
                      refine XS.iconst X9.here hx rfl (hb hby dE_299) ?_
                      exact oK
                    show OG _ _ _ _ _ _ _ (T9.setTop (mkF m 300 #[.val (.int x0), .val (.int x1), .val (.int x2), .val (.int x3), .val (.int x4), .val (.int (own_in x2 (128 : Int32) (191 : Int32))), .val (.int (own_in x3 (128 : Int32) (191 : Int32)))] [(.int (4 : Int32)), (.int x4)]))
                    by_cases hc300_20 : x4 < (4 : Int32)
                    · refine OG.of (fun oT oK => XS.icmpYes X9.here hx rfl (pc0 := 300) (pc' := 330) rfl (hb hby dE_300) rfl (XT.ii_lt_t hc300_20) (by decide) (by decide) oK) ?_
                      show OG _ _ _ _ _ _ _ (T9.setTop (mkF m 330 #[.val (.int x0), .val (.int x1), .val (.int x2), .val (.int x3), .val (.int x4), .val (.int (own_in x2 (128 : Int32) (191 : Int32))), .val (.int (own_in x3 (128 : Int32) (191 : Int32)))] []))
                      refine OG.of (A := T9.setTop (mkF m 331 #[.val (.int x0), .val (.int x1), .val (.int x2), .val (.int x3), .val (.int x4), .val (.int (own_in x2 (128 : Int32) (191 : Int32))), .val (.int (own_in x3 (128 : Int32) (191 : Int32)))] [(.int (0 : Int32))])) (fun oT oK => ?_) ?_
                      · show Steps p.tables e below (T9.setTop (mkF m 330 #[.val (.int x0), .val (.int x1), .val (.int x2), .val (.int x3), .val (.int x4), .val (.int (own_in x2 (128 : Int32) (191 : Int32))), .val (.int (own_in x3 (128 : Int32) (191 : Int32)))] [])) oT
                        refine XS.iconst X9.here hx rfl (hb hby dE_330) ?_
                        exact oK
                      show OG _ _ _ _ _ _ _ (T9.setTop (mkF m 331 #[.val (.int x0), .val (.int x1), .val (.int x2), .val (.int x3), .val (.int x4), .val (.int (own_in x2 (128 : Int32) (191 : Int32))), .val (.int (own_in x3 (128 : Int32) (191 : Int32)))] [(.int (0 : Int32))]))
                      refine OG.retI X9 hx Bd.returns (hb hby dE_331) hlk ?_ (by decide) (by decide)
                      try rw [e9]
                      exact ⟨by rw [own_exp, if_pos hc3_1, if_pos hc18_2, if_neg hc74_3, if_pos hc117_7, if_pos hc130_8, if_neg hc167_9, if_neg hc204_13, if_pos hc252_18, if_pos hc294_19, if_pos hc300_20] <;> rfl, N9, rfl⟩
                    · refine OG.of (fun oT oK => XS.icmpNo X9.here hx rfl (hb hby dE_300) rfl (XT.ii_lt_f hc300_20) oK) ?_
                      show OG _ _ _ _ _ _ _ (T9.setTop (mkF m 303 #[.val (.int x0), .val (.int x1), .val (.int x2), .val (.int x3), .val (.int x4), .val (.int (own_in x2 (128 : Int32) (191 : Int32))), .val (.int (own_in x3 (128 : Int32) (191 : Int32)))] []))
                      refine OG.of (A := T9.setTop (mkF m 310 #[.val (.int x0), .val (.int x1), .val (.int x2), .val (.int x3), .val (.int x4), .val (.int (own_in x2 (128 : Int32) (191 : Int32))), .val (.int (own_in x3 (128 : Int32) (191 : Int32)))] [(.int (143 : Int32)), (.int (128 : Int32)), (.int x1)])) (fun oT oK => ?_) ?_
                      · show Steps p.tables e below (T9.setTop (mkF m 303 #[.val (.int x0), .val (.int x1), .val (.int x2), .val (.int x3), .val (.int x4), .val (.int (own_in x2 (128 : Int32) (191 : Int32))), .val (.int (own_in x3 (128 : Int32) (191 : Int32)))] [])) oT
                        refine XS.iloadN X9.here hx rfl (hb hby dE_303) rfl  ?_
                        show Steps p.tables e below (T9.setTop (mkF m 304 #[.val (.int x0), .val (.int x1), .val (.int x2), .val (.int x3), .val (.int x4), .val (.int (own_in x2 (128 : Int32) (191 : Int32))), .val (.int (own_in x3 (128 : Int32) (191 : Int32)))] [(.int x1)])) _
                        refine XS.sipush X9.here hx rfl (hb hby dE_304) ?_
                        show Steps p.tables e below (T9.setTop (mkF m 307 #[.val (.int x0), .val (.int x1), .val (.int x2), .val (.int x3), .val (.int x4), .val (.int (own_in x2 (128 : Int32) (191 : Int32))), .val (.int (own_in x3 (128 : Int32) (191 : Int32)))] [(.int (128 : Int32)), (.int x1)])) _
                        refine XS.sipush X9.here hx rfl (hb hby dE_307) ?_
                        exact oK
                      show OG _ _ _ _ _ _ _ (T9.setTop (mkF m 310 #[.val (.int x0), .val (.int x1), .val (.int x2), .val (.int x3), .val (.int x4), .val (.int (own_in x2 (128 : Int32) (191 : Int32))), .val (.int (own_in x3 (128 : Int32) (191 : Int32)))] [(.int (143 : Int32)), (.int (128 : Int32)), (.int x1)]))
                      obtain ⟨_, _, ⟨T10, L10, k10, n10⟩, -, X10, ⟨Lc10, hQ10, l10, y10, z10⟩, st10⟩ := Jvm.LawKit.callS X9 hx (y := (⟨"com/example/gate_to_gate/gatetogate/model/Utf8SequenceLengthPinLaw", "in", "(III)Z"⟩ : MethodName)) hown (mvT hZ (hw _ (List.mem_of_getElem? (i := 9) rfl))) (mvT hZ (hw _ (List.mem_of_getElem? (i := 10) rfl))) (mvT hZ (hw _ (List.mem_of_getElem? (i := 7) rfl))) (mvT hZ (hw _ (List.mem_of_getElem? (i := 11) rfl))) (by decide) (backOf (W := 0) (rmI l Z a0 hw [] x1 (128 : Int32) (143 : Int32)  h0 n0 (Z0)) hZ (hw _ (List.mem_of_getElem? (i := 11) rfl)) (hw _ (List.mem_of_getElem? (i := 7) rfl)) (by decide) (by decide)) (g := (mkF m 310 #[.val (.int x0), .val (.int x1), .val (.int x2), .val (.int x3), .val (.int x4), .val (.int (own_in x2 (128 : Int32) (191 : Int32))), .val (.int (own_in x3 (128 : Int32) (191 : Int32)))] [(.int (143 : Int32)), (.int (128 : Int32)), (.int x1)])) rfl (by rw [hml]; rfl) (argsL := [(.int x1), (.int (128 : Int32)), (.int (143 : Int32))]) (rest := []) (lenOf pd__III_Z rfl) rfl (by show 2 * 0 + _ ≤ _; exact Nat.le_of_eq rfl) (hb hby dE_310) (fun _ _ => ⟨rfl, e9, (by decide : 0 + 0 ≤ _), (by decide : 0 + 0 ≤ _)⟩)
                      dsimp only [Pt.U, Pt.locs, Pt.cells, Pt.slots] at X10 l10 y10 z10 st10 hQ10
                      subst l10 y10 z10
                      obtain ⟨rfl, N10q, e10⟩ := hQ10
                      have N10 := Fr.app N9 N10q
                      refine OG.of st10 ?_
                      show OG _ _ _ _ _ _ _ (T10.setTop (mkF m 313 #[.val (.int x0), .val (.int x1), .val (.int x2), .val (.int x3), .val (.int x4), .val (.int (own_in x2 (128 : Int32) (191 : Int32))), .val (.int (own_in x3 (128 : Int32) (191 : Int32)))] [(.int (own_in x1 (128 : Int32) (143 : Int32)))]))
                      by_cases hc313_21 : (own_in x1 (128 : Int32) (143 : Int32)) = (0 : Int32)
                      · refine OG.of (fun oT oK => XS.ifYes X10.here hx rfl (pc0 := 313) (pc' := 330) rfl (hb hby dE_313) rfl (XT.i0_eq_t hc313_21) (by decide) (by decide) oK) ?_
                        show OG _ _ _ _ _ _ _ (T10.setTop (mkF m 330 #[.val (.int x0), .val (.int x1), .val (.int x2), .val (.int x3), .val (.int x4), .val (.int (own_in x2 (128 : Int32) (191 : Int32))), .val (.int (own_in x3 (128 : Int32) (191 : Int32)))] []))
                        refine OG.of (A := T10.setTop (mkF m 331 #[.val (.int x0), .val (.int x1), .val (.int x2), .val (.int x3), .val (.int x4), .val (.int (own_in x2 (128 : Int32) (191 : Int32))), .val (.int (own_in x3 (128 : Int32) (191 : Int32)))] [(.int (0 : Int32))])) (fun oT oK => ?_) ?_
                        · show Steps p.tables e below (T10.setTop (mkF m 330 #[.val (.int x0), .val (.int x1), .val (.int x2), .val (.int x3), .val (.int x4), .val (.int (own_in x2 (128 : Int32) (191 : Int32))), .val (.int (own_in x3 (128 : Int32) (191 : Int32)))] [])) oT
                          refine XS.iconst X10.here hx rfl (hb hby dE_330) ?_
                          exact oK
                        show OG _ _ _ _ _ _ _ (T10.setTop (mkF m 331 #[.val (.int x0), .val (.int x1), .val (.int x2), .val (.int x3), .val (.int x4), .val (.int (own_in x2 (128 : Int32) (191 : Int32))), .val (.int (own_in x3 (128 : Int32) (191 : Int32)))] [(.int (0 : Int32))]))
                        refine OG.retI X10 hx Bd.returns (hb hby dE_331) hlk ?_ (by decide) (by decide)
                        try rw [e10]
                        exact ⟨by rw [own_exp, if_pos hc3_1, if_pos hc18_2, if_neg hc74_3, if_pos hc117_7, if_pos hc130_8, if_neg hc167_9, if_neg hc204_13, if_pos hc252_18, if_pos hc294_19, if_neg hc300_20, if_pos hc313_21] <;> rfl, N10, rfl⟩
                      · refine OG.of (fun oT oK => XS.ifNo X10.here hx rfl (hb hby dE_313) rfl (XT.i0_eq_f hc313_21) oK) ?_
                        show OG _ _ _ _ _ _ _ (T10.setTop (mkF m 316 #[.val (.int x0), .val (.int x1), .val (.int x2), .val (.int x3), .val (.int x4), .val (.int (own_in x2 (128 : Int32) (191 : Int32))), .val (.int (own_in x3 (128 : Int32) (191 : Int32)))] []))
                        refine OG.of (A := T10.setTop (mkF m 318 #[.val (.int x0), .val (.int x1), .val (.int x2), .val (.int x3), .val (.int x4), .val (.int (own_in x2 (128 : Int32) (191 : Int32))), .val (.int (own_in x3 (128 : Int32) (191 : Int32)))] [(.int (own_in x2 (128 : Int32) (191 : Int32)))])) (fun oT oK => ?_) ?_
                        · show Steps p.tables e below (T10.setTop (mkF m 316 #[.val (.int x0), .val (.int x1), .val (.int x2), .val (.int x3), .val (.int x4), .val (.int (own_in x2 (128 : Int32) (191 : Int32))), .val (.int (own_in x3 (128 : Int32) (191 : Int32)))] [])) oT
                          refine XS.iload X10.here hx rfl (hb hby dE_316) rfl  ?_
                          exact oK
                        show OG _ _ _ _ _ _ _ (T10.setTop (mkF m 318 #[.val (.int x0), .val (.int x1), .val (.int x2), .val (.int x3), .val (.int x4), .val (.int (own_in x2 (128 : Int32) (191 : Int32))), .val (.int (own_in x3 (128 : Int32) (191 : Int32)))] [(.int (own_in x2 (128 : Int32) (191 : Int32)))]))
                        by_cases hc318_22 : (own_in x2 (128 : Int32) (191 : Int32)) = (0 : Int32)
                        · refine OG.of (fun oT oK => XS.ifYes X10.here hx rfl (pc0 := 318) (pc' := 330) rfl (hb hby dE_318) rfl (XT.i0_eq_t hc318_22) (by decide) (by decide) oK) ?_
                          show OG _ _ _ _ _ _ _ (T10.setTop (mkF m 330 #[.val (.int x0), .val (.int x1), .val (.int x2), .val (.int x3), .val (.int x4), .val (.int (own_in x2 (128 : Int32) (191 : Int32))), .val (.int (own_in x3 (128 : Int32) (191 : Int32)))] []))
                          refine OG.of (A := T10.setTop (mkF m 331 #[.val (.int x0), .val (.int x1), .val (.int x2), .val (.int x3), .val (.int x4), .val (.int (own_in x2 (128 : Int32) (191 : Int32))), .val (.int (own_in x3 (128 : Int32) (191 : Int32)))] [(.int (0 : Int32))])) (fun oT oK => ?_) ?_
                          · show Steps p.tables e below (T10.setTop (mkF m 330 #[.val (.int x0), .val (.int x1), .val (.int x2), .val (.int x3), .val (.int x4), .val (.int (own_in x2 (128 : Int32) (191 : Int32))), .val (.int (own_in x3 (128 : Int32) (191 : Int32)))] [])) oT
                            refine XS.iconst X10.here hx rfl (hb hby dE_330) ?_
                            exact oK
                          show OG _ _ _ _ _ _ _ (T10.setTop (mkF m 331 #[.val (.int x0), .val (.int x1), .val (.int x2), .val (.int x3), .val (.int x4), .val (.int (own_in x2 (128 : Int32) (191 : Int32))), .val (.int (own_in x3 (128 : Int32) (191 : Int32)))] [(.int (0 : Int32))]))
                          refine OG.retI X10 hx Bd.returns (hb hby dE_331) hlk ?_ (by decide) (by decide)
                          try rw [e10]
                          exact ⟨by rw [own_exp, if_pos hc3_1, if_pos hc18_2, if_neg hc74_3, if_pos hc117_7, if_pos hc130_8, if_neg hc167_9, if_neg hc204_13, if_pos hc252_18, if_pos hc294_19, if_neg hc300_20, if_neg hc313_21, if_pos hc318_22] <;> rfl, N10, rfl⟩
                        · refine OG.of (fun oT oK => XS.ifNo X10.here hx rfl (hb hby dE_318) rfl (XT.i0_eq_f hc318_22) oK) ?_
                          show OG _ _ _ _ _ _ _ (T10.setTop (mkF m 321 #[.val (.int x0), .val (.int x1), .val (.int x2), .val (.int x3), .val (.int x4), .val (.int (own_in x2 (128 : Int32) (191 : Int32))), .val (.int (own_in x3 (128 : Int32) (191 : Int32)))] []))
                          refine OG.of (A := T10.setTop (mkF m 323 #[.val (.int x0), .val (.int x1), .val (.int x2), .val (.int x3), .val (.int x4), .val (.int (own_in x2 (128 : Int32) (191 : Int32))), .val (.int (own_in x3 (128 : Int32) (191 : Int32)))] [(.int (own_in x3 (128 : Int32) (191 : Int32)))])) (fun oT oK => ?_) ?_
                          · show Steps p.tables e below (T10.setTop (mkF m 321 #[.val (.int x0), .val (.int x1), .val (.int x2), .val (.int x3), .val (.int x4), .val (.int (own_in x2 (128 : Int32) (191 : Int32))), .val (.int (own_in x3 (128 : Int32) (191 : Int32)))] [])) oT
                            refine XS.iload X10.here hx rfl (hb hby dE_321) rfl  ?_
                            exact oK
                          show OG _ _ _ _ _ _ _ (T10.setTop (mkF m 323 #[.val (.int x0), .val (.int x1), .val (.int x2), .val (.int x3), .val (.int x4), .val (.int (own_in x2 (128 : Int32) (191 : Int32))), .val (.int (own_in x3 (128 : Int32) (191 : Int32)))] [(.int (own_in x3 (128 : Int32) (191 : Int32)))]))
                          by_cases hc323_23 : (own_in x3 (128 : Int32) (191 : Int32)) = (0 : Int32)
                          · refine OG.of (fun oT oK => XS.ifYes X10.here hx rfl (pc0 := 323) (pc' := 330) rfl (hb hby dE_323) rfl (XT.i0_eq_t hc323_23) (by decide) (by decide) oK) ?_
                            show OG _ _ _ _ _ _ _ (T10.setTop (mkF m 330 #[.val (.int x0), .val (.int x1), .val (.int x2), .val (.int x3), .val (.int x4), .val (.int (own_in x2 (128 : Int32) (191 : Int32))), .val (.int (own_in x3 (128 : Int32) (191 : Int32)))] []))
                            refine OG.of (A := T10.setTop (mkF m 331 #[.val (.int x0), .val (.int x1), .val (.int x2), .val (.int x3), .val (.int x4), .val (.int (own_in x2 (128 : Int32) (191 : Int32))), .val (.int (own_in x3 (128 : Int32) (191 : Int32)))] [(.int (0 : Int32))])) (fun oT oK => ?_) ?_
                            · show Steps p.tables e below (T10.setTop (mkF m 330 #[.val (.int x0), .val (.int x1), .val (.int x2), .val (.int x3), .val (.int x4), .val (.int (own_in x2 (128 : Int32) (191 : Int32))), .val (.int (own_in x3 (128 : Int32) (191 : Int32)))] [])) oT
                              refine XS.iconst X10.here hx rfl (hb hby dE_330) ?_
                              exact oK
                            show OG _ _ _ _ _ _ _ (T10.setTop (mkF m 331 #[.val (.int x0), .val (.int x1), .val (.int x2), .val (.int x3), .val (.int x4), .val (.int (own_in x2 (128 : Int32) (191 : Int32))), .val (.int (own_in x3 (128 : Int32) (191 : Int32)))] [(.int (0 : Int32))]))
                            refine OG.retI X10 hx Bd.returns (hb hby dE_331) hlk ?_ (by decide) (by decide)
                            try rw [e10]
                            exact ⟨by rw [own_exp, if_pos hc3_1, if_pos hc18_2, if_neg hc74_3, if_pos hc117_7, if_pos hc130_8, if_neg hc167_9, if_neg hc204_13, if_pos hc252_18, if_pos hc294_19, if_neg hc300_20, if_neg hc313_21, if_neg hc318_22, if_pos hc323_23] <;> rfl, N10, rfl⟩
                          · refine OG.of (fun oT oK => XS.ifNo X10.here hx rfl (hb hby dE_323) rfl (XT.i0_eq_f hc323_23) oK) ?_
                            show OG _ _ _ _ _ _ _ (T10.setTop (mkF m 326 #[.val (.int x0), .val (.int x1), .val (.int x2), .val (.int x3), .val (.int x4), .val (.int (own_in x2 (128 : Int32) (191 : Int32))), .val (.int (own_in x3 (128 : Int32) (191 : Int32)))] []))
                            refine OG.of (A := T10.setTop (mkF m 331 #[.val (.int x0), .val (.int x1), .val (.int x2), .val (.int x3), .val (.int x4), .val (.int (own_in x2 (128 : Int32) (191 : Int32))), .val (.int (own_in x3 (128 : Int32) (191 : Int32)))] [(.int (4 : Int32))])) (fun oT oK => ?_) ?_
                            · show Steps p.tables e below (T10.setTop (mkF m 326 #[.val (.int x0), .val (.int x1), .val (.int x2), .val (.int x3), .val (.int x4), .val (.int (own_in x2 (128 : Int32) (191 : Int32))), .val (.int (own_in x3 (128 : Int32) (191 : Int32)))] [])) oT
                              refine XS.iconst X10.here hx rfl (hb hby dE_326) ?_
                              show Steps p.tables e below (T10.setTop (mkF m 327 #[.val (.int x0), .val (.int x1), .val (.int x2), .val (.int x3), .val (.int x4), .val (.int (own_in x2 (128 : Int32) (191 : Int32))), .val (.int (own_in x3 (128 : Int32) (191 : Int32)))] [(.int (4 : Int32))])) _
                              refine XS.goto X10.here hx rfl (pc0 := 327) (pc' := 331) rfl (hb hby dE_327) (by decide) (by decide) ?_
                              exact oK
                            show OG _ _ _ _ _ _ _ (T10.setTop (mkF m 331 #[.val (.int x0), .val (.int x1), .val (.int x2), .val (.int x3), .val (.int x4), .val (.int (own_in x2 (128 : Int32) (191 : Int32))), .val (.int (own_in x3 (128 : Int32) (191 : Int32)))] [(.int (4 : Int32))]))
                            refine OG.retI X10 hx Bd.returns (hb hby dE_331) hlk ?_ (by decide) (by decide)
                            try rw [e10]
                            exact ⟨by rw [own_exp, if_pos hc3_1, if_pos hc18_2, if_neg hc74_3, if_pos hc117_7, if_pos hc130_8, if_neg hc167_9, if_neg hc204_13, if_pos hc252_18, if_pos hc294_19, if_neg hc300_20, if_neg hc313_21, if_neg hc318_22, if_neg hc323_23] <;> rfl, N10, rfl⟩
                  · refine OG.of (fun oT oK => XS.icmpYes X9.here hx rfl (pc0 := 294) (pc' := 332) rfl (hb hby dE_294) rfl (XT.ii_ne_t hc294_19) (by decide) (by decide) oK) ?_
                    show OG _ _ _ _ _ _ _ (T9.setTop (mkF m 332 #[.val (.int x0), .val (.int x1), .val (.int x2), .val (.int x3), .val (.int x4), .val (.int (own_in x2 (128 : Int32) (191 : Int32))), .val (.int (own_in x3 (128 : Int32) (191 : Int32)))] []))
                    refine OG.of (A := T9.setTop (mkF m 333 #[.val (.int x0), .val (.int x1), .val (.int x2), .val (.int x3), .val (.int x4), .val (.int (own_in x2 (128 : Int32) (191 : Int32))), .val (.int (own_in x3 (128 : Int32) (191 : Int32)))] [(.int (0 : Int32))])) (fun oT oK => ?_) ?_
                    · show Steps p.tables e below (T9.setTop (mkF m 332 #[.val (.int x0), .val (.int x1), .val (.int x2), .val (.int x3), .val (.int x4), .val (.int (own_in x2 (128 : Int32) (191 : Int32))), .val (.int (own_in x3 (128 : Int32) (191 : Int32)))] [])) oT
                      refine XS.iconst X9.here hx rfl (hb hby dE_332) ?_
                      exact oK
                    show OG _ _ _ _ _ _ _ (T9.setTop (mkF m 333 #[.val (.int x0), .val (.int x1), .val (.int x2), .val (.int x3), .val (.int x4), .val (.int (own_in x2 (128 : Int32) (191 : Int32))), .val (.int (own_in x3 (128 : Int32) (191 : Int32)))] [(.int (0 : Int32))]))
                    refine OG.retI X9 hx Bd.returns (hb hby dE_333) hlk ?_ (by decide) (by decide)
                    try rw [e9]
                    exact ⟨by rw [own_exp, if_pos hc3_1, if_pos hc18_2, if_neg hc74_3, if_pos hc117_7, if_pos hc130_8, if_neg hc167_9, if_neg hc204_13, if_pos hc252_18, if_neg hc294_19] <;> rfl, N9, rfl⟩
                · refine OG.of (fun oT oK => XS.ifNo X9.here hx rfl (hb hby dE_252) rfl (XT.i0_eq_f hc252_18) oK) ?_
                  show OG _ _ _ _ _ _ _ (T9.setTop (mkF m 255 #[.val (.int x0), .val (.int x1), .val (.int x2), .val (.int x3), .val (.int x4), .val (.int (own_in x2 (128 : Int32) (191 : Int32))), .val (.int (own_in x3 (128 : Int32) (191 : Int32)))] []))
                  refine OG.of (A := T9.setTop (mkF m 258 #[.val (.int x0), .val (.int x1), .val (.int x2), .val (.int x3), .val (.int x4), .val (.int (own_in x2 (128 : Int32) (191 : Int32))), .val (.int (own_in x3 (128 : Int32) (191 : Int32)))] [(.int (4 : Int32)), (.int x4)])) (fun oT oK => ?_) ?_
                  · show Steps p.tables e below (T9.setTop (mkF m 255 #[.val (.int x0), .val (.int x1), .val (.int x2), .val (.int x3), .val (.int x4), .val (.int (own_in x2 (128 : Int32) (191 : Int32))), .val (.int (own_in x3 (128 : Int32) (191 : Int32)))] [])) oT
                    refine XS.iload X9.here hx rfl (hb hby dE_255) rfl  ?_
                    show Steps p.tables e below (T9.setTop (mkF m 257 #[.val (.int x0), .val (.int x1), .val (.int x2), .val (.int x3), .val (.int x4), .val (.int (own_in x2 (128 : Int32) (191 : Int32))), .val (.int (own_in x3 (128 : Int32) (191 : Int32)))] [(.int x4)])) _
                    refine XS.iconst X9.here hx rfl (hb hby dE_257) ?_
                    exact oK
                  show OG _ _ _ _ _ _ _ (T9.setTop (mkF m 258 #[.val (.int x0), .val (.int x1), .val (.int x2), .val (.int x3), .val (.int x4), .val (.int (own_in x2 (128 : Int32) (191 : Int32))), .val (.int (own_in x3 (128 : Int32) (191 : Int32)))] [(.int (4 : Int32)), (.int x4)]))
                  by_cases hc258_24 : x4 < (4 : Int32)
                  · refine OG.of (fun oT oK => XS.icmpYes X9.here hx rfl (pc0 := 258) (pc' := 288) rfl (hb hby dE_258) rfl (XT.ii_lt_t hc258_24) (by decide) (by decide) oK) ?_
                    show OG _ _ _ _ _ _ _ (T9.setTop (mkF m 288 #[.val (.int x0), .val (.int x1), .val (.int x2), .val (.int x3), .val (.int x4), .val (.int (own_in x2 (128 : Int32) (191 : Int32))), .val (.int (own_in x3 (128 : Int32) (191 : Int32)))] []))
                    refine OG.of (A := T9.setTop (mkF m 289 #[.val (.int x0), .val (.int x1), .val (.int x2), .val (.int x3), .val (.int x4), .val (.int (own_in x2 (128 : Int32) (191 : Int32))), .val (.int (own_in x3 (128 : Int32) (191 : Int32)))] [(.int (0 : Int32))])) (fun oT oK => ?_) ?_
                    · show Steps p.tables e below (T9.setTop (mkF m 288 #[.val (.int x0), .val (.int x1), .val (.int x2), .val (.int x3), .val (.int x4), .val (.int (own_in x2 (128 : Int32) (191 : Int32))), .val (.int (own_in x3 (128 : Int32) (191 : Int32)))] [])) oT
                      refine XS.iconst X9.here hx rfl (hb hby dE_288) ?_
                      exact oK
                    show OG _ _ _ _ _ _ _ (T9.setTop (mkF m 289 #[.val (.int x0), .val (.int x1), .val (.int x2), .val (.int x3), .val (.int x4), .val (.int (own_in x2 (128 : Int32) (191 : Int32))), .val (.int (own_in x3 (128 : Int32) (191 : Int32)))] [(.int (0 : Int32))]))
                    refine OG.retI X9 hx Bd.returns (hb hby dE_289) hlk ?_ (by decide) (by decide)
                    try rw [e9]
                    exact ⟨by rw [own_exp, if_pos hc3_1, if_pos hc18_2, if_neg hc74_3, if_pos hc117_7, if_pos hc130_8, if_neg hc167_9, if_neg hc204_13, if_neg hc252_18, if_pos hc258_24] <;> rfl, N9, rfl⟩
                  · refine OG.of (fun oT oK => XS.icmpNo X9.here hx rfl (hb hby dE_258) rfl (XT.ii_lt_f hc258_24) oK) ?_
                    show OG _ _ _ _ _ _ _ (T9.setTop (mkF m 261 #[.val (.int x0), .val (.int x1), .val (.int x2), .val (.int x3), .val (.int x4), .val (.int (own_in x2 (128 : Int32) (191 : Int32))), .val (.int (own_in x3 (128 : Int32) (191 : Int32)))] []))
                    refine OG.of (A := T9.setTop (mkF m 268 #[.val (.int x0), .val (.int x1), .val (.int x2), .val (.int x3), .val (.int x4), .val (.int (own_in x2 (128 : Int32) (191 : Int32))), .val (.int (own_in x3 (128 : Int32) (191 : Int32)))] [(.int (191 : Int32)), (.int (128 : Int32)), (.int x1)])) (fun oT oK => ?_) ?_
                    · show Steps p.tables e below (T9.setTop (mkF m 261 #[.val (.int x0), .val (.int x1), .val (.int x2), .val (.int x3), .val (.int x4), .val (.int (own_in x2 (128 : Int32) (191 : Int32))), .val (.int (own_in x3 (128 : Int32) (191 : Int32)))] [])) oT
                      refine XS.iloadN X9.here hx rfl (hb hby dE_261) rfl  ?_
                      show Steps p.tables e below (T9.setTop (mkF m 262 #[.val (.int x0), .val (.int x1), .val (.int x2), .val (.int x3), .val (.int x4), .val (.int (own_in x2 (128 : Int32) (191 : Int32))), .val (.int (own_in x3 (128 : Int32) (191 : Int32)))] [(.int x1)])) _
                      refine XS.sipush X9.here hx rfl (hb hby dE_262) ?_
                      show Steps p.tables e below (T9.setTop (mkF m 265 #[.val (.int x0), .val (.int x1), .val (.int x2), .val (.int x3), .val (.int x4), .val (.int (own_in x2 (128 : Int32) (191 : Int32))), .val (.int (own_in x3 (128 : Int32) (191 : Int32)))] [(.int (128 : Int32)), (.int x1)])) _
                      refine XS.sipush X9.here hx rfl (hb hby dE_265) ?_
                      exact oK
                    show OG _ _ _ _ _ _ _ (T9.setTop (mkF m 268 #[.val (.int x0), .val (.int x1), .val (.int x2), .val (.int x3), .val (.int x4), .val (.int (own_in x2 (128 : Int32) (191 : Int32))), .val (.int (own_in x3 (128 : Int32) (191 : Int32)))] [(.int (191 : Int32)), (.int (128 : Int32)), (.int x1)]))
                    obtain ⟨_, _, ⟨T11, L11, k11, n11⟩, -, X11, ⟨Lc11, hQ11, l11, y11, z11⟩, st11⟩ := Jvm.LawKit.callS X9 hx (y := (⟨"com/example/gate_to_gate/gatetogate/model/Utf8SequenceLengthPinLaw", "in", "(III)Z"⟩ : MethodName)) hown (mvT hZ (hw _ (List.mem_of_getElem? (i := 9) rfl))) (mvT hZ (hw _ (List.mem_of_getElem? (i := 10) rfl))) (mvT hZ (hw _ (List.mem_of_getElem? (i := 7) rfl))) (mvT hZ (hw _ (List.mem_of_getElem? (i := 11) rfl))) (by decide) (backOf (W := 0) (rmI l Z a0 hw [] x1 (128 : Int32) (191 : Int32)  h0 n0 (Z0)) hZ (hw _ (List.mem_of_getElem? (i := 11) rfl)) (hw _ (List.mem_of_getElem? (i := 7) rfl)) (by decide) (by decide)) (g := (mkF m 268 #[.val (.int x0), .val (.int x1), .val (.int x2), .val (.int x3), .val (.int x4), .val (.int (own_in x2 (128 : Int32) (191 : Int32))), .val (.int (own_in x3 (128 : Int32) (191 : Int32)))] [(.int (191 : Int32)), (.int (128 : Int32)), (.int x1)])) rfl (by rw [hml]; rfl) (argsL := [(.int x1), (.int (128 : Int32)), (.int (191 : Int32))]) (rest := []) (lenOf pd__III_Z rfl) rfl (by show 2 * 0 + _ ≤ _; exact Nat.le_of_eq rfl) (hb hby dE_268) (fun _ _ => ⟨rfl, e9, (by decide : 0 + 0 ≤ _), (by decide : 0 + 0 ≤ _)⟩)
                    dsimp only [Pt.U, Pt.locs, Pt.cells, Pt.slots] at X11 l11 y11 z11 st11 hQ11
                    subst l11 y11 z11
                    obtain ⟨rfl, N11q, e11⟩ := hQ11
                    have N11 := Fr.app N9 N11q
                    refine OG.of st11 ?_
                    show OG _ _ _ _ _ _ _ (T11.setTop (mkF m 271 #[.val (.int x0), .val (.int x1), .val (.int x2), .val (.int x3), .val (.int x4), .val (.int (own_in x2 (128 : Int32) (191 : Int32))), .val (.int (own_in x3 (128 : Int32) (191 : Int32)))] [(.int (own_in x1 (128 : Int32) (191 : Int32)))]))
                    by_cases hc271_25 : (own_in x1 (128 : Int32) (191 : Int32)) = (0 : Int32)
                    · refine OG.of (fun oT oK => XS.ifYes X11.here hx rfl (pc0 := 271) (pc' := 288) rfl (hb hby dE_271) rfl (XT.i0_eq_t hc271_25) (by decide) (by decide) oK) ?_
                      show OG _ _ _ _ _ _ _ (T11.setTop (mkF m 288 #[.val (.int x0), .val (.int x1), .val (.int x2), .val (.int x3), .val (.int x4), .val (.int (own_in x2 (128 : Int32) (191 : Int32))), .val (.int (own_in x3 (128 : Int32) (191 : Int32)))] []))
                      refine OG.of (A := T11.setTop (mkF m 289 #[.val (.int x0), .val (.int x1), .val (.int x2), .val (.int x3), .val (.int x4), .val (.int (own_in x2 (128 : Int32) (191 : Int32))), .val (.int (own_in x3 (128 : Int32) (191 : Int32)))] [(.int (0 : Int32))])) (fun oT oK => ?_) ?_
                      · show Steps p.tables e below (T11.setTop (mkF m 288 #[.val (.int x0), .val (.int x1), .val (.int x2), .val (.int x3), .val (.int x4), .val (.int (own_in x2 (128 : Int32) (191 : Int32))), .val (.int (own_in x3 (128 : Int32) (191 : Int32)))] [])) oT
                        refine XS.iconst X11.here hx rfl (hb hby dE_288) ?_
                        exact oK
                      show OG _ _ _ _ _ _ _ (T11.setTop (mkF m 289 #[.val (.int x0), .val (.int x1), .val (.int x2), .val (.int x3), .val (.int x4), .val (.int (own_in x2 (128 : Int32) (191 : Int32))), .val (.int (own_in x3 (128 : Int32) (191 : Int32)))] [(.int (0 : Int32))]))
                      refine OG.retI X11 hx Bd.returns (hb hby dE_289) hlk ?_ (by decide) (by decide)
                      try rw [e11]
                      exact ⟨by rw [own_exp, if_pos hc3_1, if_pos hc18_2, if_neg hc74_3, if_pos hc117_7, if_pos hc130_8, if_neg hc167_9, if_neg hc204_13, if_neg hc252_18, if_neg hc258_24, if_pos hc271_25] <;> rfl, N11, rfl⟩
                    · refine OG.of (fun oT oK => XS.ifNo X11.here hx rfl (hb hby dE_271) rfl (XT.i0_eq_f hc271_25) oK) ?_
                      show OG _ _ _ _ _ _ _ (T11.setTop (mkF m 274 #[.val (.int x0), .val (.int x1), .val (.int x2), .val (.int x3), .val (.int x4), .val (.int (own_in x2 (128 : Int32) (191 : Int32))), .val (.int (own_in x3 (128 : Int32) (191 : Int32)))] []))
                      refine OG.of (A := T11.setTop (mkF m 276 #[.val (.int x0), .val (.int x1), .val (.int x2), .val (.int x3), .val (.int x4), .val (.int (own_in x2 (128 : Int32) (191 : Int32))), .val (.int (own_in x3 (128 : Int32) (191 : Int32)))] [(.int (own_in x2 (128 : Int32) (191 : Int32)))])) (fun oT oK => ?_) ?_
                      · show Steps p.tables e below (T11.setTop (mkF m 274 #[.val (.int x0), .val (.int x1), .val (.int x2), .val (.int x3), .val (.int x4), .val (.int (own_in x2 (128 : Int32) (191 : Int32))), .val (.int (own_in x3 (128 : Int32) (191 : Int32)))] [])) oT
                        refine XS.iload X11.here hx rfl (hb hby dE_274) rfl  ?_
                        exact oK
                      show OG _ _ _ _ _ _ _ (T11.setTop (mkF m 276 #[.val (.int x0), .val (.int x1), .val (.int x2), .val (.int x3), .val (.int x4), .val (.int (own_in x2 (128 : Int32) (191 : Int32))), .val (.int (own_in x3 (128 : Int32) (191 : Int32)))] [(.int (own_in x2 (128 : Int32) (191 : Int32)))]))
                      by_cases hc276_26 : (own_in x2 (128 : Int32) (191 : Int32)) = (0 : Int32)
                      · refine OG.of (fun oT oK => XS.ifYes X11.here hx rfl (pc0 := 276) (pc' := 288) rfl (hb hby dE_276) rfl (XT.i0_eq_t hc276_26) (by decide) (by decide) oK) ?_
                        show OG _ _ _ _ _ _ _ (T11.setTop (mkF m 288 #[.val (.int x0), .val (.int x1), .val (.int x2), .val (.int x3), .val (.int x4), .val (.int (own_in x2 (128 : Int32) (191 : Int32))), .val (.int (own_in x3 (128 : Int32) (191 : Int32)))] []))
                        refine OG.of (A := T11.setTop (mkF m 289 #[.val (.int x0), .val (.int x1), .val (.int x2), .val (.int x3), .val (.int x4), .val (.int (own_in x2 (128 : Int32) (191 : Int32))), .val (.int (own_in x3 (128 : Int32) (191 : Int32)))] [(.int (0 : Int32))])) (fun oT oK => ?_) ?_
                        · show Steps p.tables e below (T11.setTop (mkF m 288 #[.val (.int x0), .val (.int x1), .val (.int x2), .val (.int x3), .val (.int x4), .val (.int (own_in x2 (128 : Int32) (191 : Int32))), .val (.int (own_in x3 (128 : Int32) (191 : Int32)))] [])) oT
                          refine XS.iconst X11.here hx rfl (hb hby dE_288) ?_
                          exact oK
                        show OG _ _ _ _ _ _ _ (T11.setTop (mkF m 289 #[.val (.int x0), .val (.int x1), .val (.int x2), .val (.int x3), .val (.int x4), .val (.int (own_in x2 (128 : Int32) (191 : Int32))), .val (.int (own_in x3 (128 : Int32) (191 : Int32)))] [(.int (0 : Int32))]))
                        refine OG.retI X11 hx Bd.returns (hb hby dE_289) hlk ?_ (by decide) (by decide)
                        try rw [e11]
                        exact ⟨by rw [own_exp, if_pos hc3_1, if_pos hc18_2, if_neg hc74_3, if_pos hc117_7, if_pos hc130_8, if_neg hc167_9, if_neg hc204_13, if_neg hc252_18, if_neg hc258_24, if_neg hc271_25, if_pos hc276_26] <;> rfl, N11, rfl⟩
                      · refine OG.of (fun oT oK => XS.ifNo X11.here hx rfl (hb hby dE_276) rfl (XT.i0_eq_f hc276_26) oK) ?_
                        show OG _ _ _ _ _ _ _ (T11.setTop (mkF m 279 #[.val (.int x0), .val (.int x1), .val (.int x2), .val (.int x3), .val (.int x4), .val (.int (own_in x2 (128 : Int32) (191 : Int32))), .val (.int (own_in x3 (128 : Int32) (191 : Int32)))] []))
                        refine OG.of (A := T11.setTop (mkF m 281 #[.val (.int x0), .val (.int x1), .val (.int x2), .val (.int x3), .val (.int x4), .val (.int (own_in x2 (128 : Int32) (191 : Int32))), .val (.int (own_in x3 (128 : Int32) (191 : Int32)))] [(.int (own_in x3 (128 : Int32) (191 : Int32)))])) (fun oT oK => ?_) ?_
                        · show Steps p.tables e below (T11.setTop (mkF m 279 #[.val (.int x0), .val (.int x1), .val (.int x2), .val (.int x3), .val (.int x4), .val (.int (own_in x2 (128 : Int32) (191 : Int32))), .val (.int (own_in x3 (128 : Int32) (191 : Int32)))] [])) oT
                          refine XS.iload X11.here hx rfl (hb hby dE_279) rfl  ?_
                          exact oK
                        show OG _ _ _ _ _ _ _ (T11.setTop (mkF m 281 #[.val (.int x0), .val (.int x1), .val (.int x2), .val (.int x3), .val (.int x4), .val (.int (own_in x2 (128 : Int32) (191 : Int32))), .val (.int (own_in x3 (128 : Int32) (191 : Int32)))] [(.int (own_in x3 (128 : Int32) (191 : Int32)))]))
                        by_cases hc281_27 : (own_in x3 (128 : Int32) (191 : Int32)) = (0 : Int32)
                        · refine OG.of (fun oT oK => XS.ifYes X11.here hx rfl (pc0 := 281) (pc' := 288) rfl (hb hby dE_281) rfl (XT.i0_eq_t hc281_27) (by decide) (by decide) oK) ?_
                          show OG _ _ _ _ _ _ _ (T11.setTop (mkF m 288 #[.val (.int x0), .val (.int x1), .val (.int x2), .val (.int x3), .val (.int x4), .val (.int (own_in x2 (128 : Int32) (191 : Int32))), .val (.int (own_in x3 (128 : Int32) (191 : Int32)))] []))
                          refine OG.of (A := T11.setTop (mkF m 289 #[.val (.int x0), .val (.int x1), .val (.int x2), .val (.int x3), .val (.int x4), .val (.int (own_in x2 (128 : Int32) (191 : Int32))), .val (.int (own_in x3 (128 : Int32) (191 : Int32)))] [(.int (0 : Int32))])) (fun oT oK => ?_) ?_
                          · show Steps p.tables e below (T11.setTop (mkF m 288 #[.val (.int x0), .val (.int x1), .val (.int x2), .val (.int x3), .val (.int x4), .val (.int (own_in x2 (128 : Int32) (191 : Int32))), .val (.int (own_in x3 (128 : Int32) (191 : Int32)))] [])) oT
                            refine XS.iconst X11.here hx rfl (hb hby dE_288) ?_
                            exact oK
                          show OG _ _ _ _ _ _ _ (T11.setTop (mkF m 289 #[.val (.int x0), .val (.int x1), .val (.int x2), .val (.int x3), .val (.int x4), .val (.int (own_in x2 (128 : Int32) (191 : Int32))), .val (.int (own_in x3 (128 : Int32) (191 : Int32)))] [(.int (0 : Int32))]))
                          refine OG.retI X11 hx Bd.returns (hb hby dE_289) hlk ?_ (by decide) (by decide)
                          try rw [e11]
                          exact ⟨by rw [own_exp, if_pos hc3_1, if_pos hc18_2, if_neg hc74_3, if_pos hc117_7, if_pos hc130_8, if_neg hc167_9, if_neg hc204_13, if_neg hc252_18, if_neg hc258_24, if_neg hc271_25, if_neg hc276_26, if_pos hc281_27] <;> rfl, N11, rfl⟩
                        · refine OG.of (fun oT oK => XS.ifNo X11.here hx rfl (hb hby dE_281) rfl (XT.i0_eq_f hc281_27) oK) ?_
                          show OG _ _ _ _ _ _ _ (T11.setTop (mkF m 284 #[.val (.int x0), .val (.int x1), .val (.int x2), .val (.int x3), .val (.int x4), .val (.int (own_in x2 (128 : Int32) (191 : Int32))), .val (.int (own_in x3 (128 : Int32) (191 : Int32)))] []))
                          refine OG.of (A := T11.setTop (mkF m 289 #[.val (.int x0), .val (.int x1), .val (.int x2), .val (.int x3), .val (.int x4), .val (.int (own_in x2 (128 : Int32) (191 : Int32))), .val (.int (own_in x3 (128 : Int32) (191 : Int32)))] [(.int (4 : Int32))])) (fun oT oK => ?_) ?_
                          · show Steps p.tables e below (T11.setTop (mkF m 284 #[.val (.int x0), .val (.int x1), .val (.int x2), .val (.int x3), .val (.int x4), .val (.int (own_in x2 (128 : Int32) (191 : Int32))), .val (.int (own_in x3 (128 : Int32) (191 : Int32)))] [])) oT
                            refine XS.iconst X11.here hx rfl (hb hby dE_284) ?_
                            show Steps p.tables e below (T11.setTop (mkF m 285 #[.val (.int x0), .val (.int x1), .val (.int x2), .val (.int x3), .val (.int x4), .val (.int (own_in x2 (128 : Int32) (191 : Int32))), .val (.int (own_in x3 (128 : Int32) (191 : Int32)))] [(.int (4 : Int32))])) _
                            refine XS.goto X11.here hx rfl (pc0 := 285) (pc' := 289) rfl (hb hby dE_285) (by decide) (by decide) ?_
                            exact oK
                          show OG _ _ _ _ _ _ _ (T11.setTop (mkF m 289 #[.val (.int x0), .val (.int x1), .val (.int x2), .val (.int x3), .val (.int x4), .val (.int (own_in x2 (128 : Int32) (191 : Int32))), .val (.int (own_in x3 (128 : Int32) (191 : Int32)))] [(.int (4 : Int32))]))
                          refine OG.retI X11 hx Bd.returns (hb hby dE_289) hlk ?_ (by decide) (by decide)
                          try rw [e11]
                          exact ⟨by rw [own_exp, if_pos hc3_1, if_pos hc18_2, if_neg hc74_3, if_pos hc117_7, if_pos hc130_8, if_neg hc167_9, if_neg hc204_13, if_neg hc252_18, if_neg hc258_24, if_neg hc271_25, if_neg hc276_26, if_neg hc281_27] <;> rfl, N11, rfl⟩
          · refine OG.of (fun oT oK => XS.ifNo X6.here hx rfl (hb hby dE_130) rfl (XT.i0_eq_f hc130_8) oK) ?_
            show OG _ _ _ _ _ _ _ (T6.setTop (mkF m 133 #[.val (.int x0), .val (.int x1), .val (.int x2), .val (.int x3), .val (.int x4), .val (.int (own_in x2 (128 : Int32) (191 : Int32))), .val (.int (own_in x3 (128 : Int32) (191 : Int32)))] []))
            refine OG.of (A := T6.setTop (mkF m 136 #[.val (.int x0), .val (.int x1), .val (.int x2), .val (.int x3), .val (.int x4), .val (.int (own_in x2 (128 : Int32) (191 : Int32))), .val (.int (own_in x3 (128 : Int32) (191 : Int32)))] [(.int (3 : Int32)), (.int x4)])) (fun oT oK => ?_) ?_
            · show Steps p.tables e below (T6.setTop (mkF m 133 #[.val (.int x0), .val (.int x1), .val (.int x2), .val (.int x3), .val (.int x4), .val (.int (own_in x2 (128 : Int32) (191 : Int32))), .val (.int (own_in x3 (128 : Int32) (191 : Int32)))] [])) oT
              refine XS.iload X6.here hx rfl (hb hby dE_133) rfl  ?_
              show Steps p.tables e below (T6.setTop (mkF m 135 #[.val (.int x0), .val (.int x1), .val (.int x2), .val (.int x3), .val (.int x4), .val (.int (own_in x2 (128 : Int32) (191 : Int32))), .val (.int (own_in x3 (128 : Int32) (191 : Int32)))] [(.int x4)])) _
              refine XS.iconst X6.here hx rfl (hb hby dE_135) ?_
              exact oK
            show OG _ _ _ _ _ _ _ (T6.setTop (mkF m 136 #[.val (.int x0), .val (.int x1), .val (.int x2), .val (.int x3), .val (.int x4), .val (.int (own_in x2 (128 : Int32) (191 : Int32))), .val (.int (own_in x3 (128 : Int32) (191 : Int32)))] [(.int (3 : Int32)), (.int x4)]))
            by_cases hc136_28 : x4 < (3 : Int32)
            · refine OG.of (fun oT oK => XS.icmpYes X6.here hx rfl (pc0 := 136) (pc' := 161) rfl (hb hby dE_136) rfl (XT.ii_lt_t hc136_28) (by decide) (by decide) oK) ?_
              show OG _ _ _ _ _ _ _ (T6.setTop (mkF m 161 #[.val (.int x0), .val (.int x1), .val (.int x2), .val (.int x3), .val (.int x4), .val (.int (own_in x2 (128 : Int32) (191 : Int32))), .val (.int (own_in x3 (128 : Int32) (191 : Int32)))] []))
              refine OG.of (A := T6.setTop (mkF m 162 #[.val (.int x0), .val (.int x1), .val (.int x2), .val (.int x3), .val (.int x4), .val (.int (own_in x2 (128 : Int32) (191 : Int32))), .val (.int (own_in x3 (128 : Int32) (191 : Int32)))] [(.int (0 : Int32))])) (fun oT oK => ?_) ?_
              · show Steps p.tables e below (T6.setTop (mkF m 161 #[.val (.int x0), .val (.int x1), .val (.int x2), .val (.int x3), .val (.int x4), .val (.int (own_in x2 (128 : Int32) (191 : Int32))), .val (.int (own_in x3 (128 : Int32) (191 : Int32)))] [])) oT
                refine XS.iconst X6.here hx rfl (hb hby dE_161) ?_
                exact oK
              show OG _ _ _ _ _ _ _ (T6.setTop (mkF m 162 #[.val (.int x0), .val (.int x1), .val (.int x2), .val (.int x3), .val (.int x4), .val (.int (own_in x2 (128 : Int32) (191 : Int32))), .val (.int (own_in x3 (128 : Int32) (191 : Int32)))] [(.int (0 : Int32))]))
              refine OG.retI X6 hx Bd.returns (hb hby dE_162) hlk ?_ (by decide) (by decide)
              try rw [e6]
              exact ⟨by rw [own_exp, if_pos hc3_1, if_pos hc18_2, if_neg hc74_3, if_pos hc117_7, if_neg hc130_8, if_pos hc136_28] <;> rfl, N6, rfl⟩
            · refine OG.of (fun oT oK => XS.icmpNo X6.here hx rfl (hb hby dE_136) rfl (XT.ii_lt_f hc136_28) oK) ?_
              show OG _ _ _ _ _ _ _ (T6.setTop (mkF m 139 #[.val (.int x0), .val (.int x1), .val (.int x2), .val (.int x3), .val (.int x4), .val (.int (own_in x2 (128 : Int32) (191 : Int32))), .val (.int (own_in x3 (128 : Int32) (191 : Int32)))] []))
              refine OG.of (A := T6.setTop (mkF m 146 #[.val (.int x0), .val (.int x1), .val (.int x2), .val (.int x3), .val (.int x4), .val (.int (own_in x2 (128 : Int32) (191 : Int32))), .val (.int (own_in x3 (128 : Int32) (191 : Int32)))] [(.int (191 : Int32)), (.int (128 : Int32)), (.int x1)])) (fun oT oK => ?_) ?_
              · show Steps p.tables e below (T6.setTop (mkF m 139 #[.val (.int x0), .val (.int x1), .val (.int x2), .val (.int x3), .val (.int x4), .val (.int (own_in x2 (128 : Int32) (191 : Int32))), .val (.int (own_in x3 (128 : Int32) (191 : Int32)))] [])) oT
                refine XS.iloadN X6.here hx rfl (hb hby dE_139) rfl  ?_
                show Steps p.tables e below (T6.setTop (mkF m 140 #[.val (.int x0), .val (.int x1), .val (.int x2), .val (.int x3), .val (.int x4), .val (.int (own_in x2 (128 : Int32) (191 : Int32))), .val (.int (own_in x3 (128 : Int32) (191 : Int32)))] [(.int x1)])) _
                refine XS.sipush X6.here hx rfl (hb hby dE_140) ?_
                show Steps p.tables e below (T6.setTop (mkF m 143 #[.val (.int x0), .val (.int x1), .val (.int x2), .val (.int x3), .val (.int x4), .val (.int (own_in x2 (128 : Int32) (191 : Int32))), .val (.int (own_in x3 (128 : Int32) (191 : Int32)))] [(.int (128 : Int32)), (.int x1)])) _
                refine XS.sipush X6.here hx rfl (hb hby dE_143) ?_
                exact oK
              show OG _ _ _ _ _ _ _ (T6.setTop (mkF m 146 #[.val (.int x0), .val (.int x1), .val (.int x2), .val (.int x3), .val (.int x4), .val (.int (own_in x2 (128 : Int32) (191 : Int32))), .val (.int (own_in x3 (128 : Int32) (191 : Int32)))] [(.int (191 : Int32)), (.int (128 : Int32)), (.int x1)]))
              obtain ⟨_, _, ⟨T12, L12, k12, n12⟩, -, X12, ⟨Lc12, hQ12, l12, y12, z12⟩, st12⟩ := Jvm.LawKit.callS X6 hx (y := (⟨"com/example/gate_to_gate/gatetogate/model/Utf8SequenceLengthPinLaw", "in", "(III)Z"⟩ : MethodName)) hown (mvT hZ (hw _ (List.mem_of_getElem? (i := 9) rfl))) (mvT hZ (hw _ (List.mem_of_getElem? (i := 10) rfl))) (mvT hZ (hw _ (List.mem_of_getElem? (i := 7) rfl))) (mvT hZ (hw _ (List.mem_of_getElem? (i := 11) rfl))) (by decide) (backOf (W := 0) (rmI l Z a0 hw [] x1 (128 : Int32) (191 : Int32)  h0 n0 (Z0)) hZ (hw _ (List.mem_of_getElem? (i := 11) rfl)) (hw _ (List.mem_of_getElem? (i := 7) rfl)) (by decide) (by decide)) (g := (mkF m 146 #[.val (.int x0), .val (.int x1), .val (.int x2), .val (.int x3), .val (.int x4), .val (.int (own_in x2 (128 : Int32) (191 : Int32))), .val (.int (own_in x3 (128 : Int32) (191 : Int32)))] [(.int (191 : Int32)), (.int (128 : Int32)), (.int x1)])) rfl (by rw [hml]; rfl) (argsL := [(.int x1), (.int (128 : Int32)), (.int (191 : Int32))]) (rest := []) (lenOf pd__III_Z rfl) rfl (by show 2 * 0 + _ ≤ _; exact Nat.le_of_eq rfl) (hb hby dE_146) (fun _ _ => ⟨rfl, e6, (by decide : 0 + 0 ≤ _), (by decide : 0 + 0 ≤ _)⟩)
              dsimp only [Pt.U, Pt.locs, Pt.cells, Pt.slots] at X12 l12 y12 z12 st12 hQ12
              subst l12 y12 z12
              obtain ⟨rfl, N12q, e12⟩ := hQ12
              have N12 := Fr.app N6 N12q
              refine OG.of st12 ?_
              show OG _ _ _ _ _ _ _ (T12.setTop (mkF m 149 #[.val (.int x0), .val (.int x1), .val (.int x2), .val (.int x3), .val (.int x4), .val (.int (own_in x2 (128 : Int32) (191 : Int32))), .val (.int (own_in x3 (128 : Int32) (191 : Int32)))] [(.int (own_in x1 (128 : Int32) (191 : Int32)))]))
              by_cases hc149_29 : (own_in x1 (128 : Int32) (191 : Int32)) = (0 : Int32)
              · refine OG.of (fun oT oK => XS.ifYes X12.here hx rfl (pc0 := 149) (pc' := 161) rfl (hb hby dE_149) rfl (XT.i0_eq_t hc149_29) (by decide) (by decide) oK) ?_
                show OG _ _ _ _ _ _ _ (T12.setTop (mkF m 161 #[.val (.int x0), .val (.int x1), .val (.int x2), .val (.int x3), .val (.int x4), .val (.int (own_in x2 (128 : Int32) (191 : Int32))), .val (.int (own_in x3 (128 : Int32) (191 : Int32)))] []))
                refine OG.of (A := T12.setTop (mkF m 162 #[.val (.int x0), .val (.int x1), .val (.int x2), .val (.int x3), .val (.int x4), .val (.int (own_in x2 (128 : Int32) (191 : Int32))), .val (.int (own_in x3 (128 : Int32) (191 : Int32)))] [(.int (0 : Int32))])) (fun oT oK => ?_) ?_
                · show Steps p.tables e below (T12.setTop (mkF m 161 #[.val (.int x0), .val (.int x1), .val (.int x2), .val (.int x3), .val (.int x4), .val (.int (own_in x2 (128 : Int32) (191 : Int32))), .val (.int (own_in x3 (128 : Int32) (191 : Int32)))] [])) oT
                  refine XS.iconst X12.here hx rfl (hb hby dE_161) ?_
                  exact oK
                show OG _ _ _ _ _ _ _ (T12.setTop (mkF m 162 #[.val (.int x0), .val (.int x1), .val (.int x2), .val (.int x3), .val (.int x4), .val (.int (own_in x2 (128 : Int32) (191 : Int32))), .val (.int (own_in x3 (128 : Int32) (191 : Int32)))] [(.int (0 : Int32))]))
                refine OG.retI X12 hx Bd.returns (hb hby dE_162) hlk ?_ (by decide) (by decide)
                try rw [e12]
                exact ⟨by rw [own_exp, if_pos hc3_1, if_pos hc18_2, if_neg hc74_3, if_pos hc117_7, if_neg hc130_8, if_neg hc136_28, if_pos hc149_29] <;> rfl, N12, rfl⟩
              · refine OG.of (fun oT oK => XS.ifNo X12.here hx rfl (hb hby dE_149) rfl (XT.i0_eq_f hc149_29) oK) ?_
                show OG _ _ _ _ _ _ _ (T12.setTop (mkF m 152 #[.val (.int x0), .val (.int x1), .val (.int x2), .val (.int x3), .val (.int x4), .val (.int (own_in x2 (128 : Int32) (191 : Int32))), .val (.int (own_in x3 (128 : Int32) (191 : Int32)))] []))
                refine OG.of (A := T12.setTop (mkF m 154 #[.val (.int x0), .val (.int x1), .val (.int x2), .val (.int x3), .val (.int x4), .val (.int (own_in x2 (128 : Int32) (191 : Int32))), .val (.int (own_in x3 (128 : Int32) (191 : Int32)))] [(.int (own_in x2 (128 : Int32) (191 : Int32)))])) (fun oT oK => ?_) ?_
                · show Steps p.tables e below (T12.setTop (mkF m 152 #[.val (.int x0), .val (.int x1), .val (.int x2), .val (.int x3), .val (.int x4), .val (.int (own_in x2 (128 : Int32) (191 : Int32))), .val (.int (own_in x3 (128 : Int32) (191 : Int32)))] [])) oT
                  refine XS.iload X12.here hx rfl (hb hby dE_152) rfl  ?_
                  exact oK
                show OG _ _ _ _ _ _ _ (T12.setTop (mkF m 154 #[.val (.int x0), .val (.int x1), .val (.int x2), .val (.int x3), .val (.int x4), .val (.int (own_in x2 (128 : Int32) (191 : Int32))), .val (.int (own_in x3 (128 : Int32) (191 : Int32)))] [(.int (own_in x2 (128 : Int32) (191 : Int32)))]))
                by_cases hc154_30 : (own_in x2 (128 : Int32) (191 : Int32)) = (0 : Int32)
                · refine OG.of (fun oT oK => XS.ifYes X12.here hx rfl (pc0 := 154) (pc' := 161) rfl (hb hby dE_154) rfl (XT.i0_eq_t hc154_30) (by decide) (by decide) oK) ?_
                  show OG _ _ _ _ _ _ _ (T12.setTop (mkF m 161 #[.val (.int x0), .val (.int x1), .val (.int x2), .val (.int x3), .val (.int x4), .val (.int (own_in x2 (128 : Int32) (191 : Int32))), .val (.int (own_in x3 (128 : Int32) (191 : Int32)))] []))
                  refine OG.of (A := T12.setTop (mkF m 162 #[.val (.int x0), .val (.int x1), .val (.int x2), .val (.int x3), .val (.int x4), .val (.int (own_in x2 (128 : Int32) (191 : Int32))), .val (.int (own_in x3 (128 : Int32) (191 : Int32)))] [(.int (0 : Int32))])) (fun oT oK => ?_) ?_
                  · show Steps p.tables e below (T12.setTop (mkF m 161 #[.val (.int x0), .val (.int x1), .val (.int x2), .val (.int x3), .val (.int x4), .val (.int (own_in x2 (128 : Int32) (191 : Int32))), .val (.int (own_in x3 (128 : Int32) (191 : Int32)))] [])) oT
                    refine XS.iconst X12.here hx rfl (hb hby dE_161) ?_
                    exact oK
                  show OG _ _ _ _ _ _ _ (T12.setTop (mkF m 162 #[.val (.int x0), .val (.int x1), .val (.int x2), .val (.int x3), .val (.int x4), .val (.int (own_in x2 (128 : Int32) (191 : Int32))), .val (.int (own_in x3 (128 : Int32) (191 : Int32)))] [(.int (0 : Int32))]))
                  refine OG.retI X12 hx Bd.returns (hb hby dE_162) hlk ?_ (by decide) (by decide)
                  try rw [e12]
                  exact ⟨by rw [own_exp, if_pos hc3_1, if_pos hc18_2, if_neg hc74_3, if_pos hc117_7, if_neg hc130_8, if_neg hc136_28, if_neg hc149_29, if_pos hc154_30] <;> rfl, N12, rfl⟩
                · refine OG.of (fun oT oK => XS.ifNo X12.here hx rfl (hb hby dE_154) rfl (XT.i0_eq_f hc154_30) oK) ?_
                  show OG _ _ _ _ _ _ _ (T12.setTop (mkF m 157 #[.val (.int x0), .val (.int x1), .val (.int x2), .val (.int x3), .val (.int x4), .val (.int (own_in x2 (128 : Int32) (191 : Int32))), .val (.int (own_in x3 (128 : Int32) (191 : Int32)))] []))
                  refine OG.of (A := T12.setTop (mkF m 162 #[.val (.int x0), .val (.int x1), .val (.int x2), .val (.int x3), .val (.int x4), .val (.int (own_in x2 (128 : Int32) (191 : Int32))), .val (.int (own_in x3 (128 : Int32) (191 : Int32)))] [(.int (3 : Int32))])) (fun oT oK => ?_) ?_
                  · show Steps p.tables e below (T12.setTop (mkF m 157 #[.val (.int x0), .val (.int x1), .val (.int x2), .val (.int x3), .val (.int x4), .val (.int (own_in x2 (128 : Int32) (191 : Int32))), .val (.int (own_in x3 (128 : Int32) (191 : Int32)))] [])) oT
                    refine XS.iconst X12.here hx rfl (hb hby dE_157) ?_
                    show Steps p.tables e below (T12.setTop (mkF m 158 #[.val (.int x0), .val (.int x1), .val (.int x2), .val (.int x3), .val (.int x4), .val (.int (own_in x2 (128 : Int32) (191 : Int32))), .val (.int (own_in x3 (128 : Int32) (191 : Int32)))] [(.int (3 : Int32))])) _
                    refine XS.goto X12.here hx rfl (pc0 := 158) (pc' := 162) rfl (hb hby dE_158) (by decide) (by decide) ?_
                    exact oK
                  show OG _ _ _ _ _ _ _ (T12.setTop (mkF m 162 #[.val (.int x0), .val (.int x1), .val (.int x2), .val (.int x3), .val (.int x4), .val (.int (own_in x2 (128 : Int32) (191 : Int32))), .val (.int (own_in x3 (128 : Int32) (191 : Int32)))] [(.int (3 : Int32))]))
                  refine OG.retI X12 hx Bd.returns (hb hby dE_162) hlk ?_ (by decide) (by decide)
                  try rw [e12]
                  exact ⟨by rw [own_exp, if_pos hc3_1, if_pos hc18_2, if_neg hc74_3, if_pos hc117_7, if_neg hc130_8, if_neg hc136_28, if_neg hc149_29, if_neg hc154_30] <;> rfl, N12, rfl⟩
        · refine OG.of (fun oT oK => XS.ifYes X5.here hx rfl (pc0 := 117) (pc' := 133) rfl (hb hby dE_117) rfl (XT.i0_ne_t hc117_7) (by decide) (by decide) oK) ?_
          show OG _ _ _ _ _ _ _ (T5.setTop (mkF m 133 #[.val (.int x0), .val (.int x1), .val (.int x2), .val (.int x3), .val (.int x4), .val (.int (own_in x2 (128 : Int32) (191 : Int32))), .val (.int (own_in x3 (128 : Int32) (191 : Int32)))] []))
          refine OG.of (A := T5.setTop (mkF m 136 #[.val (.int x0), .val (.int x1), .val (.int x2), .val (.int x3), .val (.int x4), .val (.int (own_in x2 (128 : Int32) (191 : Int32))), .val (.int (own_in x3 (128 : Int32) (191 : Int32)))] [(.int (3 : Int32)), (.int x4)])) (fun oT oK => ?_) ?_
          · show Steps p.tables e below (T5.setTop (mkF m 133 #[.val (.int x0), .val (.int x1), .val (.int x2), .val (.int x3), .val (.int x4), .val (.int (own_in x2 (128 : Int32) (191 : Int32))), .val (.int (own_in x3 (128 : Int32) (191 : Int32)))] [])) oT
            refine XS.iload X5.here hx rfl (hb hby dE_133) rfl  ?_
            show Steps p.tables e below (T5.setTop (mkF m 135 #[.val (.int x0), .val (.int x1), .val (.int x2), .val (.int x3), .val (.int x4), .val (.int (own_in x2 (128 : Int32) (191 : Int32))), .val (.int (own_in x3 (128 : Int32) (191 : Int32)))] [(.int x4)])) _
            refine XS.iconst X5.here hx rfl (hb hby dE_135) ?_
            exact oK
          show OG _ _ _ _ _ _ _ (T5.setTop (mkF m 136 #[.val (.int x0), .val (.int x1), .val (.int x2), .val (.int x3), .val (.int x4), .val (.int (own_in x2 (128 : Int32) (191 : Int32))), .val (.int (own_in x3 (128 : Int32) (191 : Int32)))] [(.int (3 : Int32)), (.int x4)]))
          by_cases hc136_31 : x4 < (3 : Int32)
          · refine OG.of (fun oT oK => XS.icmpYes X5.here hx rfl (pc0 := 136) (pc' := 161) rfl (hb hby dE_136) rfl (XT.ii_lt_t hc136_31) (by decide) (by decide) oK) ?_
            show OG _ _ _ _ _ _ _ (T5.setTop (mkF m 161 #[.val (.int x0), .val (.int x1), .val (.int x2), .val (.int x3), .val (.int x4), .val (.int (own_in x2 (128 : Int32) (191 : Int32))), .val (.int (own_in x3 (128 : Int32) (191 : Int32)))] []))
            refine OG.of (A := T5.setTop (mkF m 162 #[.val (.int x0), .val (.int x1), .val (.int x2), .val (.int x3), .val (.int x4), .val (.int (own_in x2 (128 : Int32) (191 : Int32))), .val (.int (own_in x3 (128 : Int32) (191 : Int32)))] [(.int (0 : Int32))])) (fun oT oK => ?_) ?_
            · show Steps p.tables e below (T5.setTop (mkF m 161 #[.val (.int x0), .val (.int x1), .val (.int x2), .val (.int x3), .val (.int x4), .val (.int (own_in x2 (128 : Int32) (191 : Int32))), .val (.int (own_in x3 (128 : Int32) (191 : Int32)))] [])) oT
              refine XS.iconst X5.here hx rfl (hb hby dE_161) ?_
              exact oK
            show OG _ _ _ _ _ _ _ (T5.setTop (mkF m 162 #[.val (.int x0), .val (.int x1), .val (.int x2), .val (.int x3), .val (.int x4), .val (.int (own_in x2 (128 : Int32) (191 : Int32))), .val (.int (own_in x3 (128 : Int32) (191 : Int32)))] [(.int (0 : Int32))]))
            refine OG.retI X5 hx Bd.returns (hb hby dE_162) hlk ?_ (by decide) (by decide)
            try rw [e5]
            exact ⟨by rw [own_exp, if_pos hc3_1, if_pos hc18_2, if_neg hc74_3, if_neg hc117_7, if_pos hc136_31] <;> rfl, N5, rfl⟩
          · refine OG.of (fun oT oK => XS.icmpNo X5.here hx rfl (hb hby dE_136) rfl (XT.ii_lt_f hc136_31) oK) ?_
            show OG _ _ _ _ _ _ _ (T5.setTop (mkF m 139 #[.val (.int x0), .val (.int x1), .val (.int x2), .val (.int x3), .val (.int x4), .val (.int (own_in x2 (128 : Int32) (191 : Int32))), .val (.int (own_in x3 (128 : Int32) (191 : Int32)))] []))
            refine OG.of (A := T5.setTop (mkF m 146 #[.val (.int x0), .val (.int x1), .val (.int x2), .val (.int x3), .val (.int x4), .val (.int (own_in x2 (128 : Int32) (191 : Int32))), .val (.int (own_in x3 (128 : Int32) (191 : Int32)))] [(.int (191 : Int32)), (.int (128 : Int32)), (.int x1)])) (fun oT oK => ?_) ?_
            · show Steps p.tables e below (T5.setTop (mkF m 139 #[.val (.int x0), .val (.int x1), .val (.int x2), .val (.int x3), .val (.int x4), .val (.int (own_in x2 (128 : Int32) (191 : Int32))), .val (.int (own_in x3 (128 : Int32) (191 : Int32)))] [])) oT
              refine XS.iloadN X5.here hx rfl (hb hby dE_139) rfl  ?_
              show Steps p.tables e below (T5.setTop (mkF m 140 #[.val (.int x0), .val (.int x1), .val (.int x2), .val (.int x3), .val (.int x4), .val (.int (own_in x2 (128 : Int32) (191 : Int32))), .val (.int (own_in x3 (128 : Int32) (191 : Int32)))] [(.int x1)])) _
              refine XS.sipush X5.here hx rfl (hb hby dE_140) ?_
              show Steps p.tables e below (T5.setTop (mkF m 143 #[.val (.int x0), .val (.int x1), .val (.int x2), .val (.int x3), .val (.int x4), .val (.int (own_in x2 (128 : Int32) (191 : Int32))), .val (.int (own_in x3 (128 : Int32) (191 : Int32)))] [(.int (128 : Int32)), (.int x1)])) _
              refine XS.sipush X5.here hx rfl (hb hby dE_143) ?_
              exact oK
            show OG _ _ _ _ _ _ _ (T5.setTop (mkF m 146 #[.val (.int x0), .val (.int x1), .val (.int x2), .val (.int x3), .val (.int x4), .val (.int (own_in x2 (128 : Int32) (191 : Int32))), .val (.int (own_in x3 (128 : Int32) (191 : Int32)))] [(.int (191 : Int32)), (.int (128 : Int32)), (.int x1)]))
            obtain ⟨_, _, ⟨T13, L13, k13, n13⟩, -, X13, ⟨Lc13, hQ13, l13, y13, z13⟩, st13⟩ := Jvm.LawKit.callS X5 hx (y := (⟨"com/example/gate_to_gate/gatetogate/model/Utf8SequenceLengthPinLaw", "in", "(III)Z"⟩ : MethodName)) hown (mvT hZ (hw _ (List.mem_of_getElem? (i := 9) rfl))) (mvT hZ (hw _ (List.mem_of_getElem? (i := 10) rfl))) (mvT hZ (hw _ (List.mem_of_getElem? (i := 7) rfl))) (mvT hZ (hw _ (List.mem_of_getElem? (i := 11) rfl))) (by decide) (backOf (W := 0) (rmI l Z a0 hw [] x1 (128 : Int32) (191 : Int32)  h0 n0 (Z0)) hZ (hw _ (List.mem_of_getElem? (i := 11) rfl)) (hw _ (List.mem_of_getElem? (i := 7) rfl)) (by decide) (by decide)) (g := (mkF m 146 #[.val (.int x0), .val (.int x1), .val (.int x2), .val (.int x3), .val (.int x4), .val (.int (own_in x2 (128 : Int32) (191 : Int32))), .val (.int (own_in x3 (128 : Int32) (191 : Int32)))] [(.int (191 : Int32)), (.int (128 : Int32)), (.int x1)])) rfl (by rw [hml]; rfl) (argsL := [(.int x1), (.int (128 : Int32)), (.int (191 : Int32))]) (rest := []) (lenOf pd__III_Z rfl) rfl (by show 2 * 0 + _ ≤ _; exact Nat.le_of_eq rfl) (hb hby dE_146) (fun _ _ => ⟨rfl, e5, (by decide : 0 + 0 ≤ _), (by decide : 0 + 0 ≤ _)⟩)
            dsimp only [Pt.U, Pt.locs, Pt.cells, Pt.slots] at X13 l13 y13 z13 st13 hQ13
            subst l13 y13 z13
            obtain ⟨rfl, N13q, e13⟩ := hQ13
            have N13 := Fr.app N5 N13q
            refine OG.of st13 ?_
            show OG _ _ _ _ _ _ _ (T13.setTop (mkF m 149 #[.val (.int x0), .val (.int x1), .val (.int x2), .val (.int x3), .val (.int x4), .val (.int (own_in x2 (128 : Int32) (191 : Int32))), .val (.int (own_in x3 (128 : Int32) (191 : Int32)))] [(.int (own_in x1 (128 : Int32) (191 : Int32)))]))
            by_cases hc149_32 : (own_in x1 (128 : Int32) (191 : Int32)) = (0 : Int32)
            · refine OG.of (fun oT oK => XS.ifYes X13.here hx rfl (pc0 := 149) (pc' := 161) rfl (hb hby dE_149) rfl (XT.i0_eq_t hc149_32) (by decide) (by decide) oK) ?_
              show OG _ _ _ _ _ _ _ (T13.setTop (mkF m 161 #[.val (.int x0), .val (.int x1), .val (.int x2), .val (.int x3), .val (.int x4), .val (.int (own_in x2 (128 : Int32) (191 : Int32))), .val (.int (own_in x3 (128 : Int32) (191 : Int32)))] []))
              refine OG.of (A := T13.setTop (mkF m 162 #[.val (.int x0), .val (.int x1), .val (.int x2), .val (.int x3), .val (.int x4), .val (.int (own_in x2 (128 : Int32) (191 : Int32))), .val (.int (own_in x3 (128 : Int32) (191 : Int32)))] [(.int (0 : Int32))])) (fun oT oK => ?_) ?_
              · show Steps p.tables e below (T13.setTop (mkF m 161 #[.val (.int x0), .val (.int x1), .val (.int x2), .val (.int x3), .val (.int x4), .val (.int (own_in x2 (128 : Int32) (191 : Int32))), .val (.int (own_in x3 (128 : Int32) (191 : Int32)))] [])) oT
                refine XS.iconst X13.here hx rfl (hb hby dE_161) ?_
                exact oK
              show OG _ _ _ _ _ _ _ (T13.setTop (mkF m 162 #[.val (.int x0), .val (.int x1), .val (.int x2), .val (.int x3), .val (.int x4), .val (.int (own_in x2 (128 : Int32) (191 : Int32))), .val (.int (own_in x3 (128 : Int32) (191 : Int32)))] [(.int (0 : Int32))]))
              refine OG.retI X13 hx Bd.returns (hb hby dE_162) hlk ?_ (by decide) (by decide)
              try rw [e13]
              exact ⟨by rw [own_exp, if_pos hc3_1, if_pos hc18_2, if_neg hc74_3, if_neg hc117_7, if_neg hc136_31, if_pos hc149_32] <;> rfl, N13, rfl⟩
            · refine OG.of (fun oT oK => XS.ifNo X13.here hx rfl (hb hby dE_149) rfl (XT.i0_eq_f hc149_32) oK) ?_
              show OG _ _ _ _ _ _ _ (T13.setTop (mkF m 152 #[.val (.int x0), .val (.int x1), .val (.int x2), .val (.int x3), .val (.int x4), .val (.int (own_in x2 (128 : Int32) (191 : Int32))), .val (.int (own_in x3 (128 : Int32) (191 : Int32)))] []))
              refine OG.of (A := T13.setTop (mkF m 154 #[.val (.int x0), .val (.int x1), .val (.int x2), .val (.int x3), .val (.int x4), .val (.int (own_in x2 (128 : Int32) (191 : Int32))), .val (.int (own_in x3 (128 : Int32) (191 : Int32)))] [(.int (own_in x2 (128 : Int32) (191 : Int32)))])) (fun oT oK => ?_) ?_
              · show Steps p.tables e below (T13.setTop (mkF m 152 #[.val (.int x0), .val (.int x1), .val (.int x2), .val (.int x3), .val (.int x4), .val (.int (own_in x2 (128 : Int32) (191 : Int32))), .val (.int (own_in x3 (128 : Int32) (191 : Int32)))] [])) oT
                refine XS.iload X13.here hx rfl (hb hby dE_152) rfl  ?_
                exact oK
              show OG _ _ _ _ _ _ _ (T13.setTop (mkF m 154 #[.val (.int x0), .val (.int x1), .val (.int x2), .val (.int x3), .val (.int x4), .val (.int (own_in x2 (128 : Int32) (191 : Int32))), .val (.int (own_in x3 (128 : Int32) (191 : Int32)))] [(.int (own_in x2 (128 : Int32) (191 : Int32)))]))
              by_cases hc154_33 : (own_in x2 (128 : Int32) (191 : Int32)) = (0 : Int32)
              · refine OG.of (fun oT oK => XS.ifYes X13.here hx rfl (pc0 := 154) (pc' := 161) rfl (hb hby dE_154) rfl (XT.i0_eq_t hc154_33) (by decide) (by decide) oK) ?_
                show OG _ _ _ _ _ _ _ (T13.setTop (mkF m 161 #[.val (.int x0), .val (.int x1), .val (.int x2), .val (.int x3), .val (.int x4), .val (.int (own_in x2 (128 : Int32) (191 : Int32))), .val (.int (own_in x3 (128 : Int32) (191 : Int32)))] []))
                refine OG.of (A := T13.setTop (mkF m 162 #[.val (.int x0), .val (.int x1), .val (.int x2), .val (.int x3), .val (.int x4), .val (.int (own_in x2 (128 : Int32) (191 : Int32))), .val (.int (own_in x3 (128 : Int32) (191 : Int32)))] [(.int (0 : Int32))])) (fun oT oK => ?_) ?_
                · show Steps p.tables e below (T13.setTop (mkF m 161 #[.val (.int x0), .val (.int x1), .val (.int x2), .val (.int x3), .val (.int x4), .val (.int (own_in x2 (128 : Int32) (191 : Int32))), .val (.int (own_in x3 (128 : Int32) (191 : Int32)))] [])) oT
                  refine XS.iconst X13.here hx rfl (hb hby dE_161) ?_
                  exact oK
                show OG _ _ _ _ _ _ _ (T13.setTop (mkF m 162 #[.val (.int x0), .val (.int x1), .val (.int x2), .val (.int x3), .val (.int x4), .val (.int (own_in x2 (128 : Int32) (191 : Int32))), .val (.int (own_in x3 (128 : Int32) (191 : Int32)))] [(.int (0 : Int32))]))
                refine OG.retI X13 hx Bd.returns (hb hby dE_162) hlk ?_ (by decide) (by decide)
                try rw [e13]
                exact ⟨by rw [own_exp, if_pos hc3_1, if_pos hc18_2, if_neg hc74_3, if_neg hc117_7, if_neg hc136_31, if_neg hc149_32, if_pos hc154_33] <;> rfl, N13, rfl⟩
              · refine OG.of (fun oT oK => XS.ifNo X13.here hx rfl (hb hby dE_154) rfl (XT.i0_eq_f hc154_33) oK) ?_
                show OG _ _ _ _ _ _ _ (T13.setTop (mkF m 157 #[.val (.int x0), .val (.int x1), .val (.int x2), .val (.int x3), .val (.int x4), .val (.int (own_in x2 (128 : Int32) (191 : Int32))), .val (.int (own_in x3 (128 : Int32) (191 : Int32)))] []))
                refine OG.of (A := T13.setTop (mkF m 162 #[.val (.int x0), .val (.int x1), .val (.int x2), .val (.int x3), .val (.int x4), .val (.int (own_in x2 (128 : Int32) (191 : Int32))), .val (.int (own_in x3 (128 : Int32) (191 : Int32)))] [(.int (3 : Int32))])) (fun oT oK => ?_) ?_
                · show Steps p.tables e below (T13.setTop (mkF m 157 #[.val (.int x0), .val (.int x1), .val (.int x2), .val (.int x3), .val (.int x4), .val (.int (own_in x2 (128 : Int32) (191 : Int32))), .val (.int (own_in x3 (128 : Int32) (191 : Int32)))] [])) oT
                  refine XS.iconst X13.here hx rfl (hb hby dE_157) ?_
                  show Steps p.tables e below (T13.setTop (mkF m 158 #[.val (.int x0), .val (.int x1), .val (.int x2), .val (.int x3), .val (.int x4), .val (.int (own_in x2 (128 : Int32) (191 : Int32))), .val (.int (own_in x3 (128 : Int32) (191 : Int32)))] [(.int (3 : Int32))])) _
                  refine XS.goto X13.here hx rfl (pc0 := 158) (pc' := 162) rfl (hb hby dE_158) (by decide) (by decide) ?_
                  exact oK
                show OG _ _ _ _ _ _ _ (T13.setTop (mkF m 162 #[.val (.int x0), .val (.int x1), .val (.int x2), .val (.int x3), .val (.int x4), .val (.int (own_in x2 (128 : Int32) (191 : Int32))), .val (.int (own_in x3 (128 : Int32) (191 : Int32)))] [(.int (3 : Int32))]))
                refine OG.retI X13 hx Bd.returns (hb hby dE_162) hlk ?_ (by decide) (by decide)
                try rw [e13]
                exact ⟨by rw [own_exp, if_pos hc3_1, if_pos hc18_2, if_neg hc74_3, if_neg hc117_7, if_neg hc136_31, if_neg hc149_32, if_neg hc154_33] <;> rfl, N13, rfl⟩
    · refine OG.of (fun oT oK => XS.ifNo X1.here hx rfl (hb hby dE_18) rfl (XT.i0_eq_f hc18_2) oK) ?_
      show OG _ _ _ _ _ _ _ (T1.setTop (mkF m 21 #[.val (.int x0), .val (.int x1), .val (.int x2), .val (.int x3), .val (.int x4), .unset, .unset] []))
      refine OG.of (A := T1.setTop (mkF m 24 #[.val (.int x0), .val (.int x1), .val (.int x2), .val (.int x3), .val (.int x4), .unset, .unset] [(.int (2 : Int32)), (.int x4)])) (fun oT oK => ?_) ?_
      · show Steps p.tables e below (T1.setTop (mkF m 21 #[.val (.int x0), .val (.int x1), .val (.int x2), .val (.int x3), .val (.int x4), .unset, .unset] [])) oT
        refine XS.iload X1.here hx rfl (hb hby dE_21) rfl  ?_
        show Steps p.tables e below (T1.setTop (mkF m 23 #[.val (.int x0), .val (.int x1), .val (.int x2), .val (.int x3), .val (.int x4), .unset, .unset] [(.int x4)])) _
        refine XS.iconst X1.here hx rfl (hb hby dE_23) ?_
        exact oK
      show OG _ _ _ _ _ _ _ (T1.setTop (mkF m 24 #[.val (.int x0), .val (.int x1), .val (.int x2), .val (.int x3), .val (.int x4), .unset, .unset] [(.int (2 : Int32)), (.int x4)]))
      by_cases hc24_34 : x4 < (2 : Int32)
      · refine OG.of (fun oT oK => XS.icmpYes X1.here hx rfl (pc0 := 24) (pc' := 44) rfl (hb hby dE_24) rfl (XT.ii_lt_t hc24_34) (by decide) (by decide) oK) ?_
        show OG _ _ _ _ _ _ _ (T1.setTop (mkF m 44 #[.val (.int x0), .val (.int x1), .val (.int x2), .val (.int x3), .val (.int x4), .unset, .unset] []))
        refine OG.of (A := T1.setTop (mkF m 45 #[.val (.int x0), .val (.int x1), .val (.int x2), .val (.int x3), .val (.int x4), .unset, .unset] [(.int (0 : Int32))])) (fun oT oK => ?_) ?_
        · show Steps p.tables e below (T1.setTop (mkF m 44 #[.val (.int x0), .val (.int x1), .val (.int x2), .val (.int x3), .val (.int x4), .unset, .unset] [])) oT
          refine XS.iconst X1.here hx rfl (hb hby dE_44) ?_
          exact oK
        show OG _ _ _ _ _ _ _ (T1.setTop (mkF m 45 #[.val (.int x0), .val (.int x1), .val (.int x2), .val (.int x3), .val (.int x4), .unset, .unset] [(.int (0 : Int32))]))
        refine OG.retI X1 hx Bd.returns (hb hby dE_45) hlk ?_ (by decide) (by decide)
        try rw [e1]
        exact ⟨by rw [own_exp, if_pos hc3_1, if_neg hc18_2, if_pos hc24_34] <;> rfl, N1, rfl⟩
      · refine OG.of (fun oT oK => XS.icmpNo X1.here hx rfl (hb hby dE_24) rfl (XT.ii_lt_f hc24_34) oK) ?_
        show OG _ _ _ _ _ _ _ (T1.setTop (mkF m 27 #[.val (.int x0), .val (.int x1), .val (.int x2), .val (.int x3), .val (.int x4), .unset, .unset] []))
        refine OG.of (A := T1.setTop (mkF m 34 #[.val (.int x0), .val (.int x1), .val (.int x2), .val (.int x3), .val (.int x4), .unset, .unset] [(.int (191 : Int32)), (.int (128 : Int32)), (.int x1)])) (fun oT oK => ?_) ?_
        · show Steps p.tables e below (T1.setTop (mkF m 27 #[.val (.int x0), .val (.int x1), .val (.int x2), .val (.int x3), .val (.int x4), .unset, .unset] [])) oT
          refine XS.iloadN X1.here hx rfl (hb hby dE_27) rfl  ?_
          show Steps p.tables e below (T1.setTop (mkF m 28 #[.val (.int x0), .val (.int x1), .val (.int x2), .val (.int x3), .val (.int x4), .unset, .unset] [(.int x1)])) _
          refine XS.sipush X1.here hx rfl (hb hby dE_28) ?_
          show Steps p.tables e below (T1.setTop (mkF m 31 #[.val (.int x0), .val (.int x1), .val (.int x2), .val (.int x3), .val (.int x4), .unset, .unset] [(.int (128 : Int32)), (.int x1)])) _
          refine XS.sipush X1.here hx rfl (hb hby dE_31) ?_
          exact oK
        show OG _ _ _ _ _ _ _ (T1.setTop (mkF m 34 #[.val (.int x0), .val (.int x1), .val (.int x2), .val (.int x3), .val (.int x4), .unset, .unset] [(.int (191 : Int32)), (.int (128 : Int32)), (.int x1)]))
        obtain ⟨_, _, ⟨T14, L14, k14, n14⟩, -, X14, ⟨Lc14, hQ14, l14, y14, z14⟩, st14⟩ := Jvm.LawKit.callS X1 hx (y := (⟨"com/example/gate_to_gate/gatetogate/model/Utf8SequenceLengthPinLaw", "in", "(III)Z"⟩ : MethodName)) hown (mvT hZ (hw _ (List.mem_of_getElem? (i := 9) rfl))) (mvT hZ (hw _ (List.mem_of_getElem? (i := 10) rfl))) (mvT hZ (hw _ (List.mem_of_getElem? (i := 7) rfl))) (mvT hZ (hw _ (List.mem_of_getElem? (i := 11) rfl))) (by decide) (backOf (W := 0) (rmI l Z a0 hw [] x1 (128 : Int32) (191 : Int32)  h0 n0 (Z0)) hZ (hw _ (List.mem_of_getElem? (i := 11) rfl)) (hw _ (List.mem_of_getElem? (i := 7) rfl)) (by decide) (by decide)) (g := (mkF m 34 #[.val (.int x0), .val (.int x1), .val (.int x2), .val (.int x3), .val (.int x4), .unset, .unset] [(.int (191 : Int32)), (.int (128 : Int32)), (.int x1)])) rfl (by rw [hml]; rfl) (argsL := [(.int x1), (.int (128 : Int32)), (.int (191 : Int32))]) (rest := []) (lenOf pd__III_Z rfl) rfl (by show 2 * 0 + _ ≤ _; exact Nat.le_of_eq rfl) (hb hby dE_34) (fun _ _ => ⟨rfl, e1, (by decide : 0 + 0 ≤ _), (by decide : 0 + 0 ≤ _)⟩)
        dsimp only [Pt.U, Pt.locs, Pt.cells, Pt.slots] at X14 l14 y14 z14 st14 hQ14
        subst l14 y14 z14
        obtain ⟨rfl, N14q, e14⟩ := hQ14
        have N14 := Fr.app N1 N14q
        refine OG.of st14 ?_
        show OG _ _ _ _ _ _ _ (T14.setTop (mkF m 37 #[.val (.int x0), .val (.int x1), .val (.int x2), .val (.int x3), .val (.int x4), .unset, .unset] [(.int (own_in x1 (128 : Int32) (191 : Int32)))]))
        by_cases hc37_35 : (own_in x1 (128 : Int32) (191 : Int32)) = (0 : Int32)
        · refine OG.of (fun oT oK => XS.ifYes X14.here hx rfl (pc0 := 37) (pc' := 44) rfl (hb hby dE_37) rfl (XT.i0_eq_t hc37_35) (by decide) (by decide) oK) ?_
          show OG _ _ _ _ _ _ _ (T14.setTop (mkF m 44 #[.val (.int x0), .val (.int x1), .val (.int x2), .val (.int x3), .val (.int x4), .unset, .unset] []))
          refine OG.of (A := T14.setTop (mkF m 45 #[.val (.int x0), .val (.int x1), .val (.int x2), .val (.int x3), .val (.int x4), .unset, .unset] [(.int (0 : Int32))])) (fun oT oK => ?_) ?_
          · show Steps p.tables e below (T14.setTop (mkF m 44 #[.val (.int x0), .val (.int x1), .val (.int x2), .val (.int x3), .val (.int x4), .unset, .unset] [])) oT
            refine XS.iconst X14.here hx rfl (hb hby dE_44) ?_
            exact oK
          show OG _ _ _ _ _ _ _ (T14.setTop (mkF m 45 #[.val (.int x0), .val (.int x1), .val (.int x2), .val (.int x3), .val (.int x4), .unset, .unset] [(.int (0 : Int32))]))
          refine OG.retI X14 hx Bd.returns (hb hby dE_45) hlk ?_ (by decide) (by decide)
          try rw [e14]
          exact ⟨by rw [own_exp, if_pos hc3_1, if_neg hc18_2, if_neg hc24_34, if_pos hc37_35] <;> rfl, N14, rfl⟩
        · refine OG.of (fun oT oK => XS.ifNo X14.here hx rfl (hb hby dE_37) rfl (XT.i0_eq_f hc37_35) oK) ?_
          show OG _ _ _ _ _ _ _ (T14.setTop (mkF m 40 #[.val (.int x0), .val (.int x1), .val (.int x2), .val (.int x3), .val (.int x4), .unset, .unset] []))
          refine OG.of (A := T14.setTop (mkF m 45 #[.val (.int x0), .val (.int x1), .val (.int x2), .val (.int x3), .val (.int x4), .unset, .unset] [(.int (2 : Int32))])) (fun oT oK => ?_) ?_
          · show Steps p.tables e below (T14.setTop (mkF m 40 #[.val (.int x0), .val (.int x1), .val (.int x2), .val (.int x3), .val (.int x4), .unset, .unset] [])) oT
            refine XS.iconst X14.here hx rfl (hb hby dE_40) ?_
            show Steps p.tables e below (T14.setTop (mkF m 41 #[.val (.int x0), .val (.int x1), .val (.int x2), .val (.int x3), .val (.int x4), .unset, .unset] [(.int (2 : Int32))])) _
            refine XS.goto X14.here hx rfl (pc0 := 41) (pc' := 45) rfl (hb hby dE_41) (by decide) (by decide) ?_
            exact oK
          show OG _ _ _ _ _ _ _ (T14.setTop (mkF m 45 #[.val (.int x0), .val (.int x1), .val (.int x2), .val (.int x3), .val (.int x4), .unset, .unset] [(.int (2 : Int32))]))
          refine OG.retI X14 hx Bd.returns (hb hby dE_45) hlk ?_ (by decide) (by decide)
          try rw [e14]
          exact ⟨by rw [own_exp, if_pos hc3_1, if_neg hc18_2, if_neg hc24_34, if_neg hc37_35] <;> rfl, N14, rfl⟩
  · refine OG.of (fun oT oK => XS.icmpNo X0.here hx rfl (hb hby dE_3) rfl (XT.ii_gt_f hc3_1) oK) ?_
    show OG _ _ _ _ _ _ _ (s₁.setTop (mkF m 6 #[.val (.int x0), .val (.int x1), .val (.int x2), .val (.int x3), .val (.int x4), .unset, .unset] []))
    refine OG.of (A := s₁.setTop (mkF m 7 #[.val (.int x0), .val (.int x1), .val (.int x2), .val (.int x3), .val (.int x4), .unset, .unset] [(.int (1 : Int32))])) (fun oT oK => ?_) ?_
    · show Steps p.tables e below (s₁.setTop (mkF m 6 #[.val (.int x0), .val (.int x1), .val (.int x2), .val (.int x3), .val (.int x4), .unset, .unset] [])) oT
      refine XS.iconst X0.here hx rfl (hb hby dE_6) ?_
      exact oK
    show OG _ _ _ _ _ _ _ (s₁.setTop (mkF m 7 #[.val (.int x0), .val (.int x1), .val (.int x2), .val (.int x3), .val (.int x4), .unset, .unset] [(.int (1 : Int32))]))
    refine OG.retI X0 hx Bd.returns (hb hby dE_7) hlk ?_ (by decide) (by decide)
    try rw [e0]
    exact ⟨by rw [own_exp, if_neg hc3_1] <;> rfl, N0, rfl⟩
theorem dS_0 : decode prog_138_method_7_code 0 = .ok (.aload_n 0, 1) := by decide +kernel
theorem dS_1 : decode prog_138_method_7_code 1 = .ok (.iload_n 1, 1) := by decide +kernel
theorem dS_2 : decode prog_138_method_7_code 2 = .ok (.baload, 1) := by decide +kernel
theorem dS_3 : decode prog_138_method_7_code 3 = .ok (.sipush 255, 3) := by decide +kernel
theorem dS_6 : decode prog_138_method_7_code 6 = .ok (.iand, 1) := by decide +kernel
theorem dS_7 : decode prog_138_method_7_code 7 = .ok (.istore_n 3, 1) := by decide +kernel
theorem dS_8 : decode prog_138_method_7_code 8 = .ok (.iconst 0, 1) := by decide +kernel
theorem dS_9 : decode prog_138_method_7_code 9 = .ok (.istore 4, 2) := by decide +kernel
theorem dS_11 : decode prog_138_method_7_code 11 = .ok (.sipush 128, 3) := by decide +kernel
theorem dS_14 : decode prog_138_method_7_code 14 = .ok (.istore 5, 2) := by decide +kernel
theorem dS_16 : decode prog_138_method_7_code 16 = .ok (.sipush 191, 3) := by decide +kernel
theorem dS_19 : decode prog_138_method_7_code 19 = .ok (.istore 6, 2) := by decide +kernel
theorem dS_21 : decode prog_138_method_7_code 21 = .ok (.iload_n 3, 1) := by decide +kernel
theorem dS_22 : decode prog_138_method_7_code 22 = .ok (.sipush 128, 3) := by decide +kernel
theorem dS_25 : decode prog_138_method_7_code 25 = .ok (.if_icmp .ge 9, 3) := by decide +kernel
theorem dS_28 : decode prog_138_method_7_code 28 = .ok (.iconst 1, 1) := by decide +kernel
theorem dS_29 : decode prog_138_method_7_code 29 = .ok (.istore 4, 2) := by decide +kernel
theorem dS_31 : decode prog_138_method_7_code 31 = .ok (.goto 132, 3) := by decide +kernel
theorem dS_34 : decode prog_138_method_7_code 34 = .ok (.iload_n 3, 1) := by decide +kernel
theorem dS_35 : decode prog_138_method_7_code 35 = .ok (.sipush 194, 3) := by decide +kernel
theorem dS_38 : decode prog_138_method_7_code 38 = .ok (.if_icmp .lt 16, 3) := by decide +kernel
theorem dS_54 : decode prog_138_method_7_code 54 = .ok (.iload_n 3, 1) := by decide +kernel
theorem dS_55 : decode prog_138_method_7_code 55 = .ok (.sipush 224, 3) := by decide +kernel
theorem dS_58 : decode prog_138_method_7_code 58 = .ok (.if_icmp .lt 52, 3) := by decide +kernel
theorem dS_110 : decode prog_138_method_7_code 110 = .ok (.iload_n 3, 1) := by decide +kernel
theorem dS_111 : decode prog_138_method_7_code 111 = .ok (.sipush 240, 3) := by decide +kernel
theorem dS_114 : decode prog_138_method_7_code 114 = .ok (.if_icmp .lt 49, 3) := by decide +kernel
theorem dS_117 : decode prog_138_method_7_code 117 = .ok (.iload_n 3, 1) := by decide +kernel
theorem dS_118 : decode prog_138_method_7_code 118 = .ok (.sipush 244, 3) := by decide +kernel
theorem dS_121 : decode prog_138_method_7_code 121 = .ok (.if_icmp .gt 42, 3) := by decide +kernel
theorem dS_124 : decode prog_138_method_7_code 124 = .ok (.iconst 4, 1) := by decide +kernel
theorem dS_125 : decode prog_138_method_7_code 125 = .ok (.istore 4, 2) := by decide +kernel
theorem dS_127 : decode prog_138_method_7_code 127 = .ok (.iload_n 3, 1) := by decide +kernel
theorem dS_128 : decode prog_138_method_7_code 128 = .ok (.sipush 240, 3) := by decide +kernel
theorem dS_131 : decode prog_138_method_7_code 131 = .ok (.if_icmp .ne 9, 3) := by decide +kernel
theorem dS_134 : decode prog_138_method_7_code 134 = .ok (.sipush 144, 3) := by decide +kernel
theorem dS_137 : decode prog_138_method_7_code 137 = .ok (.goto 6, 3) := by decide +kernel
theorem dS_143 : decode prog_138_method_7_code 143 = .ok (.istore 5, 2) := by decide +kernel
theorem dS_145 : decode prog_138_method_7_code 145 = .ok (.iload_n 3, 1) := by decide +kernel
theorem dS_146 : decode prog_138_method_7_code 146 = .ok (.sipush 244, 3) := by decide +kernel
theorem dS_149 : decode prog_138_method_7_code 149 = .ok (.if_icmp .ne 9, 3) := by decide +kernel
theorem dS_152 : decode prog_138_method_7_code 152 = .ok (.sipush 143, 3) := by decide +kernel
theorem dS_155 : decode prog_138_method_7_code 155 = .ok (.goto 6, 3) := by decide +kernel
theorem dS_161 : decode prog_138_method_7_code 161 = .ok (.istore 6, 2) := by decide +kernel
theorem dS_158 : decode prog_138_method_7_code 158 = .ok (.sipush 191, 3) := by decide +kernel
theorem dS_140 : decode prog_138_method_7_code 140 = .ok (.sipush 128, 3) := by decide +kernel
theorem dS_61 : decode prog_138_method_7_code 61 = .ok (.iload_n 3, 1) := by decide +kernel
theorem dS_62 : decode prog_138_method_7_code 62 = .ok (.sipush 239, 3) := by decide +kernel
theorem dS_65 : decode prog_138_method_7_code 65 = .ok (.if_icmp .gt 45, 3) := by decide +kernel
theorem dS_68 : decode prog_138_method_7_code 68 = .ok (.iconst 3, 1) := by decide +kernel
theorem dS_69 : decode prog_138_method_7_code 69 = .ok (.istore 4, 2) := by decide +kernel
theorem dS_71 : decode prog_138_method_7_code 71 = .ok (.iload_n 3, 1) := by decide +kernel
theorem dS_72 : decode prog_138_method_7_code 72 = .ok (.sipush 224, 3) := by decide +kernel
theorem dS_75 : decode prog_138_method_7_code 75 = .ok (.if_icmp .ne 9, 3) := by decide +kernel
theorem dS_78 : decode prog_138_method_7_code 78 = .ok (.sipush 160, 3) := by decide +kernel
theorem dS_81 : decode prog_138_method_7_code 81 = .ok (.goto 6, 3) := by decide +kernel
theorem dS_87 : decode prog_138_method_7_code 87 = .ok (.istore 5, 2) := by decide +kernel
theorem dS_89 : decode prog_138_method_7_code 89 = .ok (.iload_n 3, 1) := by decide +kernel
theorem dS_90 : decode prog_138_method_7_code 90 = .ok (.sipush 237, 3) := by decide +kernel
theorem dS_93 : decode prog_138_method_7_code 93 = .ok (.if_icmp .ne 9, 3) := by decide +kernel
theorem dS_96 : decode prog_138_method_7_code 96 = .ok (.sipush 159, 3) := by decide +kernel
theorem dS_99 : decode prog_138_method_7_code 99 = .ok (.goto 6, 3) := by decide +kernel
theorem dS_105 : decode prog_138_method_7_code 105 = .ok (.istore 6, 2) := by decide +kernel
theorem dS_107 : decode prog_138_method_7_code 107 = .ok (.goto 56, 3) := by decide +kernel
theorem dS_102 : decode prog_138_method_7_code 102 = .ok (.sipush 191, 3) := by decide +kernel
theorem dS_84 : decode prog_138_method_7_code 84 = .ok (.sipush 128, 3) := by decide +kernel
theorem dS_41 : decode prog_138_method_7_code 41 = .ok (.iload_n 3, 1) := by decide +kernel
theorem dS_42 : decode prog_138_method_7_code 42 = .ok (.sipush 223, 3) := by decide +kernel
theorem dS_45 : decode prog_138_method_7_code 45 = .ok (.if_icmp .gt 9, 3) := by decide +kernel
theorem dS_48 : decode prog_138_method_7_code 48 = .ok (.iconst 2, 1) := by decide +kernel
theorem dS_49 : decode prog_138_method_7_code 49 = .ok (.istore 4, 2) := by decide +kernel
theorem dS_51 : decode prog_138_method_7_code 51 = .ok (.goto 112, 3) := by decide +kernel
theorem dS_163 : decode prog_138_method_7_code 163 = .ok (.iload 4, 2) := by decide +kernel
theorem dS_165 : decode prog_138_method_7_code 165 = .ok (.ifCond .eq 11, 3) := by decide +kernel
theorem dS_176 : decode prog_138_method_7_code 176 = .ok (.iconst 0, 1) := by decide +kernel
theorem dS_177 : decode prog_138_method_7_code 177 = .ok (.ireturn, 1) := by decide +kernel
theorem dS_168 : decode prog_138_method_7_code 168 = .ok (.iload_n 2, 1) := by decide +kernel
theorem dS_169 : decode prog_138_method_7_code 169 = .ok (.iload_n 1, 1) := by decide +kernel
theorem dS_170 : decode prog_138_method_7_code 170 = .ok (.isub, 1) := by decide +kernel
theorem dS_171 : decode prog_138_method_7_code 171 = .ok (.iload 4, 2) := by decide +kernel
theorem dS_173 : decode prog_138_method_7_code 173 = .ok (.if_icmp .ge 5, 3) := by decide +kernel
theorem dS_178 : decode prog_138_method_7_code 178 = .ok (.iload 4, 2) := by decide +kernel
theorem dS_180 : decode prog_138_method_7_code 180 = .ok (.iconst 1, 1) := by decide +kernel
theorem dS_181 : decode prog_138_method_7_code 181 = .ok (.if_icmp .le 33, 3) := by decide +kernel
theorem dS_184 : decode prog_138_method_7_code 184 = .ok (.aload_n 0, 1) := by decide +kernel
theorem dS_185 : decode prog_138_method_7_code 185 = .ok (.iload_n 1, 1) := by decide +kernel
theorem dS_186 : decode prog_138_method_7_code 186 = .ok (.iconst 1, 1) := by decide +kernel
theorem dS_187 : decode prog_138_method_7_code 187 = .ok (.iadd, 1) := by decide +kernel
theorem dS_188 : decode prog_138_method_7_code 188 = .ok (.baload, 1) := by decide +kernel
theorem dS_189 : decode prog_138_method_7_code 189 = .ok (.sipush 255, 3) := by decide +kernel
theorem dS_192 : decode prog_138_method_7_code 192 = .ok (.iand, 1) := by decide +kernel
theorem dS_193 : decode prog_138_method_7_code 193 = .ok (.iload 5, 2) := by decide +kernel
theorem dS_195 : decode prog_138_method_7_code 195 = .ok (.if_icmp .lt 17, 3) := by decide +kernel
theorem dS_212 : decode prog_138_method_7_code 212 = .ok (.iconst 0, 1) := by decide +kernel
theorem dS_213 : decode prog_138_method_7_code 213 = .ok (.ireturn, 1) := by decide +kernel
theorem dS_198 : decode prog_138_method_7_code 198 = .ok (.aload_n 0, 1) := by decide +kernel
theorem dS_199 : decode prog_138_method_7_code 199 = .ok (.iload_n 1, 1) := by decide +kernel
theorem dS_200 : decode prog_138_method_7_code 200 = .ok (.iconst 1, 1) := by decide +kernel
theorem dS_201 : decode prog_138_method_7_code 201 = .ok (.iadd, 1) := by decide +kernel
theorem dS_202 : decode prog_138_method_7_code 202 = .ok (.baload, 1) := by decide +kernel
theorem dS_203 : decode prog_138_method_7_code 203 = .ok (.sipush 255, 3) := by decide +kernel
theorem dS_206 : decode prog_138_method_7_code 206 = .ok (.iand, 1) := by decide +kernel
theorem dS_207 : decode prog_138_method_7_code 207 = .ok (.iload 6, 2) := by decide +kernel
theorem dS_209 : decode prog_138_method_7_code 209 = .ok (.if_icmp .le 5, 3) := by decide +kernel
theorem dS_214 : decode prog_138_method_7_code 214 = .ok (.iconst 2, 1) := by decide +kernel
theorem dS_215 : decode prog_138_method_7_code 215 = .ok (.istore 7, 2) := by decide +kernel
theorem dS_217 : decode prog_138_method_7_code 217 = .ok (.iload 7, 2) := by decide +kernel
theorem dS_219 : decode prog_138_method_7_code 219 = .ok (.iload 4, 2) := by decide +kernel
theorem dS_221 : decode prog_138_method_7_code 221 = .ok (.if_icmp .ge 27, 3) := by decide +kernel
theorem dS_224 : decode prog_138_method_7_code 224 = .ok (.aload_n 0, 1) := by decide +kernel
theorem dS_225 : decode prog_138_method_7_code 225 = .ok (.iload_n 1, 1) := by decide +kernel
theorem dS_226 : decode prog_138_method_7_code 226 = .ok (.iload 7, 2) := by decide +kernel
theorem dS_228 : decode prog_138_method_7_code 228 = .ok (.iadd, 1) := by decide +kernel
theorem dS_229 : decode prog_138_method_7_code 229 = .ok (.baload, 1) := by decide +kernel
theorem dS_230 : decode prog_138_method_7_code 230 = .ok (.sipush 192, 3) := by decide +kernel
theorem dS_233 : decode prog_138_method_7_code 233 = .ok (.iand, 1) := by decide +kernel
theorem dS_234 : decode prog_138_method_7_code 234 = .ok (.sipush 128, 3) := by decide +kernel
theorem dS_237 : decode prog_138_method_7_code 237 = .ok (.if_icmp .eq 5, 3) := by decide +kernel
theorem dS_242 : decode prog_138_method_7_code 242 = .ok (.iinc 7 1, 3) := by decide +kernel
theorem dS_245 : decode prog_138_method_7_code 245 = .ok (.goto (-28), 3) := by decide +kernel
theorem dS_248 : decode prog_138_method_7_code 248 = .ok (.iload 4, 2) := by decide +kernel
theorem dS_250 : decode prog_138_method_7_code 250 = .ok (.ireturn, 1) := by decide +kernel
theorem dS_240 : decode prog_138_method_7_code 240 = .ok (.iconst 0, 1) := by decide +kernel
theorem dS_241 : decode prog_138_method_7_code 241 = .ok (.ireturn, 1) := by decide +kernel
theorem pn_S : plainName "com/example/gate_to_gate/gatetogate/model/Utf8" = true := by first | (simp [plainName, overriddenIn]; done) | decide +kernel
theorem ef_S (m : MethodId) (x0 : Addr) (x1 : Int32) (x2 : Int32) : entryFrame m #[(.ref x0), (.int x1), (.int x2)] 8 = mkF m 0 #[.val (.ref x0), .val (.int x1), .val (.int x2), .unset, .unset, .unset, .unset, .unset] [] := by first | (simp [entryFrame, mkF, argsToLocals, Value.category]; done) | rfl
def QS (Z : State) (ar : Addr) (i0 : Int32) (to : Int32) (y0 : Int32) (y1 : Int32) (y2 : Int32) (y3 : Int32) (h0 : Heap) (n0 : Nat) (v : Option Value) (h : Heap) (L : List Loc) : Prop := v = some (.int (own_seq y0 y1 y2 y3 (to - i0))) ∧ Fr n0 L ∧ h = h0
set_option maxRecDepth 65536 in
set_option maxHeartbeats 40000000 in
theorem rmS (l : Launch) (Z : State) (a0 : Array Value) (hw : ∀ d ∈ tables_1, d.before a0 Z = true) (ws : List Jvm.Cond) (ar : Addr) (i0 : Int32) (to : Int32) (y0 : Int32) (y1 : Int32) (y2 : Int32) (y3 : Int32) (h0 : Heap) (n0 : Nat) (Z0 : n0 ≤ h0.size) (R0 : ORd Z h0 ar .byte i0 (.int y0)) (R1 : ORd Z h0 ar .byte (i0 + (1 : Int32)) (.int y1)) (R2 : ORd Z h0 ar .byte (i0 + (2 : Int32)) (.int y2)) (R3 : ORd Z h0 ar .byte (i0 + (3 : Int32)) (.int y3)) :
    MetFree l (⟨"com/example/gate_to_gate/gatetogate/model/Utf8", "sequenceLength", "([BII)I"⟩ : MethodName) (head1 (Jvm.Cond.code (⟨"com/example/gate_to_gate/gatetogate/model/Utf8", "sequenceLength", "([BII)I"⟩ : MethodName) prog_138_method_7_code 8 (some .int) :: ws) ({ frames := 0, cells := 0, slots := 0, locals := 0 } : Room)) (fun aA oU => aA = #[(.ref ar), (.int i0), (.int to)] ∧ Z.Warmed39 oU.vm ∧ oU.heap = h0) (fun _ _ _ _ _ => True) (fun _ oU oO oU' => ∃ oV oL, oO = .returned oV ∧ QS Z ar i0 to y0 y1 y2 y3 h0 n0 oV oU'.heap oL ∧ FrameEnd oU oO oU' oL ({ frames := 0, cells := 0, slots := 0, locals := 0 } : Room).cells ({ frames := 0, cells := 0, slots := 0, locals := 0 } : Room).slots) := by
  refine MetFree.of_bodySF (plainFor_of_name pn_S) hisR ?_
  intro p e s m args below meth c s₁ Bd hml0 hP hK
  obtain ⟨rfl, hZ, hh⟩ := hP
  have hx := Bd.exec
  have hby := Bd.bytes
  have hlk := BodyLoose.notSynchronized Bd
  have hml : c.maxLocals = 8 := hml0
  have hown : s.vm.findClass "com/example/gate_to_gate/gatetogate/model/Utf8" = some m.cls := findClass_of_methodNamed Bd.named
  have hnm := (name_of_methodNamed Bd.named Bd.method).1
  have X0 : Stand p l e ({ frames := 0, cells := 0, slots := 0, locals := 0 } : Room) s m #[(.ref ar), (.int i0), (.int to)] below meth c s₁ [] 0 0 := Stand.of_body Bd
  have e0 : s₁.heap = h0 := by rw [← hh, Bd.state]; rfl
  have N0 := Fr.nil n0
  show OG p e below s ({ frames := 0, cells := 0, slots := 0, locals := 0 } : Room).cells ({ frames := 0, cells := 0, slots := 0, locals := 0 } : Room).slots (QS Z ar i0 to y0 y1 y2 y3 h0 n0) _
  refine OG.of (fun oT oK => castTop (ef_S m ar i0 to) oK) ?_
  show OG p e below s _ _ _ (s₁.setTop (mkF m 0 #[.val (.ref ar), .val (.int i0), .val (.int to), .unset, .unset, .unset, .unset, .unset] []))
  refine OG.of (A := s₁.setTop (mkF m 2 #[.val (.ref ar), .val (.int i0), .val (.int to), .unset, .unset, .unset, .unset, .unset] [(.int i0), (.ref ar)])) (fun oT oK => ?_) ?_
  · show Steps p.tables e below (s₁.setTop (mkF m 0 #[.val (.ref ar), .val (.int i0), .val (.int to), .unset, .unset, .unset, .unset, .unset] [])) oT
    refine XS.aloadN X0.here hx rfl (hb hby dS_0) rfl rfl  ?_
    show Steps p.tables e below (s₁.setTop (mkF m 1 #[.val (.ref ar), .val (.int i0), .val (.int to), .unset, .unset, .unset, .unset, .unset] [(.ref ar)])) _
    refine XS.iloadN X0.here hx rfl (hb hby dS_1) rfl  ?_
    exact oK
  show OG _ _ _ _ _ _ _ (s₁.setTop (mkF m 2 #[.val (.ref ar), .val (.int i0), .val (.int to), .unset, .unset, .unset, .unset, .unset] [(.int i0), (.ref ar)]))
  have cf1 := R0
  obtain ⟨clf1, Arf1, If1, Hf1⟩ := cf1
  refine OG.of (X0.baloadBytes hx (j := i0) (v := (.int y0)) (by rw [e0]; exact Arf1.1) (State.isArrayOf_alike hZ.alike Arf1.2.1) Arf1.2.2 If1 Hf1 (g := (mkF m 2 #[.val (.ref ar), .val (.int i0), .val (.int to), .unset, .unset, .unset, .unset, .unset] [(.int i0), (.ref ar)])) rfl rfl (hb hby dS_2)) ?_
  show OG _ _ _ _ _ _ _ (s₁.setTop (mkF m 3 #[.val (.ref ar), .val (.int i0), .val (.int to), .unset, .unset, .unset, .unset, .unset] [(.int y0)]))
  refine OG.of (A := s₁.setTop (mkF m 163 #[.val (.ref ar), .val (.int i0), .val (.int to), .val (.int (y0 &&& (255 : Int32))), .val (.int (if (y0 &&& (255 : Int32)) < (128 : Int32) then (1 : Int32) else (if (y0 &&& (255 : Int32)) < (194 : Int32) then (if (y0 &&& (255 : Int32)) < (224 : Int32) then (if (y0 &&& (255 : Int32)) < (240 : Int32) then (0 : Int32) else (if (244 : Int32) < (y0 &&& (255 : Int32)) then (0 : Int32) else (4 : Int32))) else (if (239 : Int32) < (y0 &&& (255 : Int32)) then (if (y0 &&& (255 : Int32)) < (240 : Int32) then (0 : Int32) else (if (244 : Int32) < (y0 &&& (255 : Int32)) then (0 : Int32) else (4 : Int32))) else (3 : Int32))) else (if (223 : Int32) < (y0 &&& (255 : Int32)) then (if (y0 &&& (255 : Int32)) < (224 : Int32) then (if (y0 &&& (255 : Int32)) < (240 : Int32) then (0 : Int32) else (if (244 : Int32) < (y0 &&& (255 : Int32)) then (0 : Int32) else (4 : Int32))) else (if (239 : Int32) < (y0 &&& (255 : Int32)) then (if (y0 &&& (255 : Int32)) < (240 : Int32) then (0 : Int32) else (if (244 : Int32) < (y0 &&& (255 : Int32)) then (0 : Int32) else (4 : Int32))) else (3 : Int32))) else (2 : Int32))))), .val (.int (if (y0 &&& (255 : Int32)) < (128 : Int32) then (128 : Int32) else (if (y0 &&& (255 : Int32)) < (194 : Int32) then (if (y0 &&& (255 : Int32)) < (224 : Int32) then (if (y0 &&& (255 : Int32)) < (240 : Int32) then (128 : Int32) else (if (244 : Int32) < (y0 &&& (255 : Int32)) then (128 : Int32) else (if (y0 &&& (255 : Int32)) = (240 : Int32) then (144 : Int32) else (128 : Int32)))) else (if (239 : Int32) < (y0 &&& (255 : Int32)) then (if (y0 &&& (255 : Int32)) < (240 : Int32) then (128 : Int32) else (if (244 : Int32) < (y0 &&& (255 : Int32)) then (128 : Int32) else (if (y0 &&& (255 : Int32)) = (240 : Int32) then (144 : Int32) else (128 : Int32)))) else (if (y0 &&& (255 : Int32)) = (224 : Int32) then (160 : Int32) else (128 : Int32)))) else (if (223 : Int32) < (y0 &&& (255 : Int32)) then (if (y0 &&& (255 : Int32)) < (224 : Int32) then (if (y0 &&& (255 : Int32)) < (240 : Int32) then (128 : Int32) else (if (244 : Int32) < (y0 &&& (255 : Int32)) then (128 : Int32) else (if (y0 &&& (255 : Int32)) = (240 : Int32) then (144 : Int32) else (128 : Int32)))) else (if (239 : Int32) < (y0 &&& (255 : Int32)) then (if (y0 &&& (255 : Int32)) < (240 : Int32) then (128 : Int32) else (if (244 : Int32) < (y0 &&& (255 : Int32)) then (128 : Int32) else (if (y0 &&& (255 : Int32)) = (240 : Int32) then (144 : Int32) else (128 : Int32)))) else (if (y0 &&& (255 : Int32)) = (224 : Int32) then (160 : Int32) else (128 : Int32)))) else (128 : Int32))))), .val (.int (if (y0 &&& (255 : Int32)) < (128 : Int32) then (191 : Int32) else (if (y0 &&& (255 : Int32)) < (194 : Int32) then (if (y0 &&& (255 : Int32)) < (224 : Int32) then (if (y0 &&& (255 : Int32)) < (240 : Int32) then (191 : Int32) else (if (244 : Int32) < (y0 &&& (255 : Int32)) then (191 : Int32) else (if (y0 &&& (255 : Int32)) = (244 : Int32) then (143 : Int32) else (191 : Int32)))) else (if (239 : Int32) < (y0 &&& (255 : Int32)) then (if (y0 &&& (255 : Int32)) < (240 : Int32) then (191 : Int32) else (if (244 : Int32) < (y0 &&& (255 : Int32)) then (191 : Int32) else (if (y0 &&& (255 : Int32)) = (244 : Int32) then (143 : Int32) else (191 : Int32)))) else (if (y0 &&& (255 : Int32)) = (237 : Int32) then (159 : Int32) else (191 : Int32)))) else (if (223 : Int32) < (y0 &&& (255 : Int32)) then (if (y0 &&& (255 : Int32)) < (224 : Int32) then (if (y0 &&& (255 : Int32)) < (240 : Int32) then (191 : Int32) else (if (244 : Int32) < (y0 &&& (255 : Int32)) then (191 : Int32) else (if (y0 &&& (255 : Int32)) = (244 : Int32) then (143 : Int32) else (191 : Int32)))) else (if (239 : Int32) < (y0 &&& (255 : Int32)) then (if (y0 &&& (255 : Int32)) < (240 : Int32) then (191 : Int32) else (if (244 : Int32) < (y0 &&& (255 : Int32)) then (191 : Int32) else (if (y0 &&& (255 : Int32)) = (244 : Int32) then (143 : Int32) else (191 : Int32)))) else (if (y0 &&& (255 : Int32)) = (237 : Int32) then (159 : Int32) else (191 : Int32)))) else (191 : Int32))))), .unset] [])) (fun oT oK => ?_) ?_
  · show Steps p.tables e below (s₁.setTop (mkF m 3 #[.val (.ref ar), .val (.int i0), .val (.int to), .unset, .unset, .unset, .unset, .unset] [(.int y0)])) oT
    refine XS.sipush X0.here hx rfl (hb hby dS_3) ?_
    show Steps p.tables e below (s₁.setTop (mkF m 6 #[.val (.ref ar), .val (.int i0), .val (.int to), .unset, .unset, .unset, .unset, .unset] [(.int (255 : Int32)), (.int y0)])) _
    refine XS.iand X0.here hx rfl (hb hby dS_6) rfl ?_
    show Steps p.tables e below (s₁.setTop (mkF m 7 #[.val (.ref ar), .val (.int i0), .val (.int to), .unset, .unset, .unset, .unset, .unset] [(.int (y0 &&& (255 : Int32)))])) _
    refine XS.istoreN X0.here hx rfl (hb hby dS_7) rfl (l' := #[.val (.ref ar), .val (.int i0), .val (.int to), .val (.int (y0 &&& (255 : Int32))), .unset, .unset, .unset, .unset]) rfl ?_
    show Steps p.tables e below (s₁.setTop (mkF m 8 #[.val (.ref ar), .val (.int i0), .val (.int to), .val (.int (y0 &&& (255 : Int32))), .unset, .unset, .unset, .unset] [])) _
    refine XS.iconst X0.here hx rfl (hb hby dS_8) ?_
    show Steps p.tables e below (s₁.setTop (mkF m 9 #[.val (.ref ar), .val (.int i0), .val (.int to), .val (.int (y0 &&& (255 : Int32))), .unset, .unset, .unset, .unset] [(.int (0 : Int32))])) _
    refine XS.istore X0.here hx rfl (hb hby dS_9) rfl (l' := #[.val (.ref ar), .val (.int i0), .val (.int to), .val (.int (y0 &&& (255 : Int32))), .val (.int (0 : Int32)), .unset, .unset, .unset]) rfl ?_
    show Steps p.tables e below (s₁.setTop (mkF m 11 #[.val (.ref ar), .val (.int i0), .val (.int to), .val (.int (y0 &&& (255 : Int32))), .val (.int (0 : Int32)), .unset, .unset, .unset] [])) _
    refine XS.sipush X0.here hx rfl (hb hby dS_11) ?_
    show Steps p.tables e below (s₁.setTop (mkF m 14 #[.val (.ref ar), .val (.int i0), .val (.int to), .val (.int (y0 &&& (255 : Int32))), .val (.int (0 : Int32)), .unset, .unset, .unset] [(.int (128 : Int32))])) _
    refine XS.istore X0.here hx rfl (hb hby dS_14) rfl (l' := #[.val (.ref ar), .val (.int i0), .val (.int to), .val (.int (y0 &&& (255 : Int32))), .val (.int (0 : Int32)), .val (.int (128 : Int32)), .unset, .unset]) rfl ?_
    show Steps p.tables e below (s₁.setTop (mkF m 16 #[.val (.ref ar), .val (.int i0), .val (.int to), .val (.int (y0 &&& (255 : Int32))), .val (.int (0 : Int32)), .val (.int (128 : Int32)), .unset, .unset] [])) _
    refine XS.sipush X0.here hx rfl (hb hby dS_16) ?_
    show Steps p.tables e below (s₁.setTop (mkF m 19 #[.val (.ref ar), .val (.int i0), .val (.int to), .val (.int (y0 &&& (255 : Int32))), .val (.int (0 : Int32)), .val (.int (128 : Int32)), .unset, .unset] [(.int (191 : Int32))])) _
    refine XS.istore X0.here hx rfl (hb hby dS_19) rfl (l' := #[.val (.ref ar), .val (.int i0), .val (.int to), .val (.int (y0 &&& (255 : Int32))), .val (.int (0 : Int32)), .val (.int (128 : Int32)), .val (.int (191 : Int32)), .unset]) rfl ?_
    show Steps p.tables e below (s₁.setTop (mkF m 21 #[.val (.ref ar), .val (.int i0), .val (.int to), .val (.int (y0 &&& (255 : Int32))), .val (.int (0 : Int32)), .val (.int (128 : Int32)), .val (.int (191 : Int32)), .unset] [])) _
    refine XS.iloadN X0.here hx rfl (hb hby dS_21) rfl  ?_
    show Steps p.tables e below (s₁.setTop (mkF m 22 #[.val (.ref ar), .val (.int i0), .val (.int to), .val (.int (y0 &&& (255 : Int32))), .val (.int (0 : Int32)), .val (.int (128 : Int32)), .val (.int (191 : Int32)), .unset] [(.int (y0 &&& (255 : Int32)))])) _
    refine XS.sipush X0.here hx rfl (hb hby dS_22) ?_
    show Steps p.tables e below (s₁.setTop (mkF m 25 #[.val (.ref ar), .val (.int i0), .val (.int to), .val (.int (y0 &&& (255 : Int32))), .val (.int (0 : Int32)), .val (.int (128 : Int32)), .val (.int (191 : Int32)), .unset] [(.int (128 : Int32)), (.int (y0 &&& (255 : Int32)))])) _
    refine (show ∀ oT, Steps p.tables e below (s₁.setTop (mkF m 163 #[.val (.ref ar), .val (.int i0), .val (.int to), .val (.int (y0 &&& (255 : Int32))), .val (.int (if (y0 &&& (255 : Int32)) < (128 : Int32) then (1 : Int32) else (if (y0 &&& (255 : Int32)) < (194 : Int32) then (if (y0 &&& (255 : Int32)) < (224 : Int32) then (if (y0 &&& (255 : Int32)) < (240 : Int32) then (0 : Int32) else (if (244 : Int32) < (y0 &&& (255 : Int32)) then (0 : Int32) else (4 : Int32))) else (if (239 : Int32) < (y0 &&& (255 : Int32)) then (if (y0 &&& (255 : Int32)) < (240 : Int32) then (0 : Int32) else (if (244 : Int32) < (y0 &&& (255 : Int32)) then (0 : Int32) else (4 : Int32))) else (3 : Int32))) else (if (223 : Int32) < (y0 &&& (255 : Int32)) then (if (y0 &&& (255 : Int32)) < (224 : Int32) then (if (y0 &&& (255 : Int32)) < (240 : Int32) then (0 : Int32) else (if (244 : Int32) < (y0 &&& (255 : Int32)) then (0 : Int32) else (4 : Int32))) else (if (239 : Int32) < (y0 &&& (255 : Int32)) then (if (y0 &&& (255 : Int32)) < (240 : Int32) then (0 : Int32) else (if (244 : Int32) < (y0 &&& (255 : Int32)) then (0 : Int32) else (4 : Int32))) else (3 : Int32))) else (2 : Int32))))), .val (.int (if (y0 &&& (255 : Int32)) < (128 : Int32) then (128 : Int32) else (if (y0 &&& (255 : Int32)) < (194 : Int32) then (if (y0 &&& (255 : Int32)) < (224 : Int32) then (if (y0 &&& (255 : Int32)) < (240 : Int32) then (128 : Int32) else (if (244 : Int32) < (y0 &&& (255 : Int32)) then (128 : Int32) else (if (y0 &&& (255 : Int32)) = (240 : Int32) then (144 : Int32) else (128 : Int32)))) else (if (239 : Int32) < (y0 &&& (255 : Int32)) then (if (y0 &&& (255 : Int32)) < (240 : Int32) then (128 : Int32) else (if (244 : Int32) < (y0 &&& (255 : Int32)) then (128 : Int32) else (if (y0 &&& (255 : Int32)) = (240 : Int32) then (144 : Int32) else (128 : Int32)))) else (if (y0 &&& (255 : Int32)) = (224 : Int32) then (160 : Int32) else (128 : Int32)))) else (if (223 : Int32) < (y0 &&& (255 : Int32)) then (if (y0 &&& (255 : Int32)) < (224 : Int32) then (if (y0 &&& (255 : Int32)) < (240 : Int32) then (128 : Int32) else (if (244 : Int32) < (y0 &&& (255 : Int32)) then (128 : Int32) else (if (y0 &&& (255 : Int32)) = (240 : Int32) then (144 : Int32) else (128 : Int32)))) else (if (239 : Int32) < (y0 &&& (255 : Int32)) then (if (y0 &&& (255 : Int32)) < (240 : Int32) then (128 : Int32) else (if (244 : Int32) < (y0 &&& (255 : Int32)) then (128 : Int32) else (if (y0 &&& (255 : Int32)) = (240 : Int32) then (144 : Int32) else (128 : Int32)))) else (if (y0 &&& (255 : Int32)) = (224 : Int32) then (160 : Int32) else (128 : Int32)))) else (128 : Int32))))), .val (.int (if (y0 &&& (255 : Int32)) < (128 : Int32) then (191 : Int32) else (if (y0 &&& (255 : Int32)) < (194 : Int32) then (if (y0 &&& (255 : Int32)) < (224 : Int32) then (if (y0 &&& (255 : Int32)) < (240 : Int32) then (191 : Int32) else (if (244 : Int32) < (y0 &&& (255 : Int32)) then (191 : Int32) else (if (y0 &&& (255 : Int32)) = (244 : Int32) then (143 : Int32) else (191 : Int32)))) else (if (239 : Int32) < (y0 &&& (255 : Int32)) then (if (y0 &&& (255 : Int32)) < (240 : Int32) then (191 : Int32) else (if (244 : Int32) < (y0 &&& (255 : Int32)) then (191 : Int32) else (if (y0 &&& (255 : Int32)) = (244 : Int32) then (143 : Int32) else (191 : Int32)))) else (if (y0 &&& (255 : Int32)) = (237 : Int32) then (159 : Int32) else (191 : Int32)))) else (if (223 : Int32) < (y0 &&& (255 : Int32)) then (if (y0 &&& (255 : Int32)) < (224 : Int32) then (if (y0 &&& (255 : Int32)) < (240 : Int32) then (191 : Int32) else (if (244 : Int32) < (y0 &&& (255 : Int32)) then (191 : Int32) else (if (y0 &&& (255 : Int32)) = (244 : Int32) then (143 : Int32) else (191 : Int32)))) else (if (239 : Int32) < (y0 &&& (255 : Int32)) then (if (y0 &&& (255 : Int32)) < (240 : Int32) then (191 : Int32) else (if (244 : Int32) < (y0 &&& (255 : Int32)) then (191 : Int32) else (if (y0 &&& (255 : Int32)) = (244 : Int32) then (143 : Int32) else (191 : Int32)))) else (if (y0 &&& (255 : Int32)) = (237 : Int32) then (159 : Int32) else (191 : Int32)))) else (191 : Int32))))), .unset] [])) oT → Steps p.tables e below (s₁.setTop (mkF m 25 #[.val (.ref ar), .val (.int i0), .val (.int to), .val (.int (y0 &&& (255 : Int32))), .val (.int (0 : Int32)), .val (.int (128 : Int32)), .val (.int (191 : Int32)), .unset] [(.int (128 : Int32)), (.int (y0 &&& (255 : Int32)))])) oT from fun oT oK => ?_) _ ?_
    · skip
      show Steps p.tables e below (s₁.setTop (mkF m 25 #[.val (.ref ar), .val (.int i0), .val (.int to), .val (.int (y0 &&& (255 : Int32))), .val (.int (0 : Int32)), .val (.int (128 : Int32)), .val (.int (191 : Int32)), .unset] [(.int (128 : Int32)), (.int (y0 &&& (255 : Int32)))])) _
      by_cases hj25_3 : (y0 &&& (255 : Int32)) < (128 : Int32)
      · try simp only [if_pos hj25_3] at oK
        refine XS.icmpNo X0.here hx rfl (hb hby dS_25) rfl (XT.ii_ge_f hj25_3) ?_
        show Steps p.tables e below (s₁.setTop (mkF m 28 #[.val (.ref ar), .val (.int i0), .val (.int to), .val (.int (y0 &&& (255 : Int32))), .val (.int (0 : Int32)), .val (.int (128 : Int32)), .val (.int (191 : Int32)), .unset] [])) _
        refine XS.iconst X0.here hx rfl (hb hby dS_28) ?_
        show Steps p.tables e below (s₁.setTop (mkF m 29 #[.val (.ref ar), .val (.int i0), .val (.int to), .val (.int (y0 &&& (255 : Int32))), .val (.int (0 : Int32)), .val (.int (128 : Int32)), .val (.int (191 : Int32)), .unset] [(.int (1 : Int32))])) _
        refine XS.istore X0.here hx rfl (hb hby dS_29) rfl (l' := #[.val (.ref ar), .val (.int i0), .val (.int to), .val (.int (y0 &&& (255 : Int32))), .val (.int (1 : Int32)), .val (.int (128 : Int32)), .val (.int (191 : Int32)), .unset]) rfl ?_
        show Steps p.tables e below (s₁.setTop (mkF m 31 #[.val (.ref ar), .val (.int i0), .val (.int to), .val (.int (y0 &&& (255 : Int32))), .val (.int (1 : Int32)), .val (.int (128 : Int32)), .val (.int (191 : Int32)), .unset] [])) _
        refine XS.goto X0.here hx rfl (pc0 := 31) (pc' := 163) rfl (hb hby dS_31) (by decide) (by decide) ?_
        exact oK
      · try simp only [if_neg hj25_3] at oK
        refine XS.icmpYes X0.here hx rfl (pc0 := 25) (pc' := 34) rfl (hb hby dS_25) rfl (XT.ii_ge_t hj25_3) (by decide) (by decide) ?_
        show Steps p.tables e below (s₁.setTop (mkF m 34 #[.val (.ref ar), .val (.int i0), .val (.int to), .val (.int (y0 &&& (255 : Int32))), .val (.int (0 : Int32)), .val (.int (128 : Int32)), .val (.int (191 : Int32)), .unset] [])) _
        refine XS.iloadN X0.here hx rfl (hb hby dS_34) rfl  ?_
        show Steps p.tables e below (s₁.setTop (mkF m 35 #[.val (.ref ar), .val (.int i0), .val (.int to), .val (.int (y0 &&& (255 : Int32))), .val (.int (0 : Int32)), .val (.int (128 : Int32)), .val (.int (191 : Int32)), .unset] [(.int (y0 &&& (255 : Int32)))])) _
        refine XS.sipush X0.here hx rfl (hb hby dS_35) ?_
        show Steps p.tables e below (s₁.setTop (mkF m 38 #[.val (.ref ar), .val (.int i0), .val (.int to), .val (.int (y0 &&& (255 : Int32))), .val (.int (0 : Int32)), .val (.int (128 : Int32)), .val (.int (191 : Int32)), .unset] [(.int (194 : Int32)), (.int (y0 &&& (255 : Int32)))])) _
        by_cases hj38_4 : (y0 &&& (255 : Int32)) < (194 : Int32)
        · try simp only [if_pos hj38_4] at oK
          refine XS.icmpYes X0.here hx rfl (pc0 := 38) (pc' := 54) rfl (hb hby dS_38) rfl (XT.ii_lt_t hj38_4) (by decide) (by decide) ?_
          show Steps p.tables e below (s₁.setTop (mkF m 54 #[.val (.ref ar), .val (.int i0), .val (.int to), .val (.int (y0 &&& (255 : Int32))), .val (.int (0 : Int32)), .val (.int (128 : Int32)), .val (.int (191 : Int32)), .unset] [])) _
          refine XS.iloadN X0.here hx rfl (hb hby dS_54) rfl  ?_
          show Steps p.tables e below (s₁.setTop (mkF m 55 #[.val (.ref ar), .val (.int i0), .val (.int to), .val (.int (y0 &&& (255 : Int32))), .val (.int (0 : Int32)), .val (.int (128 : Int32)), .val (.int (191 : Int32)), .unset] [(.int (y0 &&& (255 : Int32)))])) _
          refine XS.sipush X0.here hx rfl (hb hby dS_55) ?_
          show Steps p.tables e below (s₁.setTop (mkF m 58 #[.val (.ref ar), .val (.int i0), .val (.int to), .val (.int (y0 &&& (255 : Int32))), .val (.int (0 : Int32)), .val (.int (128 : Int32)), .val (.int (191 : Int32)), .unset] [(.int (224 : Int32)), (.int (y0 &&& (255 : Int32)))])) _
          by_cases hj58_5 : (y0 &&& (255 : Int32)) < (224 : Int32)
          · try simp only [if_pos hj58_5] at oK
            refine XS.icmpYes X0.here hx rfl (pc0 := 58) (pc' := 110) rfl (hb hby dS_58) rfl (XT.ii_lt_t hj58_5) (by decide) (by decide) ?_
            show Steps p.tables e below (s₁.setTop (mkF m 110 #[.val (.ref ar), .val (.int i0), .val (.int to), .val (.int (y0 &&& (255 : Int32))), .val (.int (0 : Int32)), .val (.int (128 : Int32)), .val (.int (191 : Int32)), .unset] [])) _
            refine XS.iloadN X0.here hx rfl (hb hby dS_110) rfl  ?_
            show Steps p.tables e below (s₁.setTop (mkF m 111 #[.val (.ref ar), .val (.int i0), .val (.int to), .val (.int (y0 &&& (255 : Int32))), .val (.int (0 : Int32)), .val (.int (128 : Int32)), .val (.int (191 : Int32)), .unset] [(.int (y0 &&& (255 : Int32)))])) _
            refine XS.sipush X0.here hx rfl (hb hby dS_111) ?_
            show Steps p.tables e below (s₁.setTop (mkF m 114 #[.val (.ref ar), .val (.int i0), .val (.int to), .val (.int (y0 &&& (255 : Int32))), .val (.int (0 : Int32)), .val (.int (128 : Int32)), .val (.int (191 : Int32)), .unset] [(.int (240 : Int32)), (.int (y0 &&& (255 : Int32)))])) _
            by_cases hj114_6 : (y0 &&& (255 : Int32)) < (240 : Int32)
            · try simp only [if_pos hj114_6] at oK
              refine XS.icmpYes X0.here hx rfl (pc0 := 114) (pc' := 163) rfl (hb hby dS_114) rfl (XT.ii_lt_t hj114_6) (by decide) (by decide) ?_
              exact oK
            · try simp only [if_neg hj114_6] at oK
              refine XS.icmpNo X0.here hx rfl (hb hby dS_114) rfl (XT.ii_lt_f hj114_6) ?_
              show Steps p.tables e below (s₁.setTop (mkF m 117 #[.val (.ref ar), .val (.int i0), .val (.int to), .val (.int (y0 &&& (255 : Int32))), .val (.int (0 : Int32)), .val (.int (128 : Int32)), .val (.int (191 : Int32)), .unset] [])) _
              refine XS.iloadN X0.here hx rfl (hb hby dS_117) rfl  ?_
              show Steps p.tables e below (s₁.setTop (mkF m 118 #[.val (.ref ar), .val (.int i0), .val (.int to), .val (.int (y0 &&& (255 : Int32))), .val (.int (0 : Int32)), .val (.int (128 : Int32)), .val (.int (191 : Int32)), .unset] [(.int (y0 &&& (255 : Int32)))])) _
              refine XS.sipush X0.here hx rfl (hb hby dS_118) ?_
              show Steps p.tables e below (s₁.setTop (mkF m 121 #[.val (.ref ar), .val (.int i0), .val (.int to), .val (.int (y0 &&& (255 : Int32))), .val (.int (0 : Int32)), .val (.int (128 : Int32)), .val (.int (191 : Int32)), .unset] [(.int (244 : Int32)), (.int (y0 &&& (255 : Int32)))])) _
              by_cases hj121_7 : (244 : Int32) < (y0 &&& (255 : Int32))
              · try simp only [if_pos hj121_7] at oK
                refine XS.icmpYes X0.here hx rfl (pc0 := 121) (pc' := 163) rfl (hb hby dS_121) rfl (XT.ii_gt_t hj121_7) (by decide) (by decide) ?_
                exact oK
              · try simp only [if_neg hj121_7] at oK
                refine XS.icmpNo X0.here hx rfl (hb hby dS_121) rfl (XT.ii_gt_f hj121_7) ?_
                show Steps p.tables e below (s₁.setTop (mkF m 124 #[.val (.ref ar), .val (.int i0), .val (.int to), .val (.int (y0 &&& (255 : Int32))), .val (.int (0 : Int32)), .val (.int (128 : Int32)), .val (.int (191 : Int32)), .unset] [])) _
                refine XS.iconst X0.here hx rfl (hb hby dS_124) ?_
                show Steps p.tables e below (s₁.setTop (mkF m 125 #[.val (.ref ar), .val (.int i0), .val (.int to), .val (.int (y0 &&& (255 : Int32))), .val (.int (0 : Int32)), .val (.int (128 : Int32)), .val (.int (191 : Int32)), .unset] [(.int (4 : Int32))])) _
                refine XS.istore X0.here hx rfl (hb hby dS_125) rfl (l' := #[.val (.ref ar), .val (.int i0), .val (.int to), .val (.int (y0 &&& (255 : Int32))), .val (.int (4 : Int32)), .val (.int (128 : Int32)), .val (.int (191 : Int32)), .unset]) rfl ?_
                show Steps p.tables e below (s₁.setTop (mkF m 127 #[.val (.ref ar), .val (.int i0), .val (.int to), .val (.int (y0 &&& (255 : Int32))), .val (.int (4 : Int32)), .val (.int (128 : Int32)), .val (.int (191 : Int32)), .unset] [])) _
                refine XS.iloadN X0.here hx rfl (hb hby dS_127) rfl  ?_
                show Steps p.tables e below (s₁.setTop (mkF m 128 #[.val (.ref ar), .val (.int i0), .val (.int to), .val (.int (y0 &&& (255 : Int32))), .val (.int (4 : Int32)), .val (.int (128 : Int32)), .val (.int (191 : Int32)), .unset] [(.int (y0 &&& (255 : Int32)))])) _
                refine XS.sipush X0.here hx rfl (hb hby dS_128) ?_
                show Steps p.tables e below (s₁.setTop (mkF m 131 #[.val (.ref ar), .val (.int i0), .val (.int to), .val (.int (y0 &&& (255 : Int32))), .val (.int (4 : Int32)), .val (.int (128 : Int32)), .val (.int (191 : Int32)), .unset] [(.int (240 : Int32)), (.int (y0 &&& (255 : Int32)))])) _
                by_cases hj131_8 : (y0 &&& (255 : Int32)) = (240 : Int32)
                · try simp only [if_pos hj131_8] at oK
                  refine XS.icmpNo X0.here hx rfl (hb hby dS_131) rfl (XT.ii_ne_f hj131_8) ?_
                  show Steps p.tables e below (s₁.setTop (mkF m 134 #[.val (.ref ar), .val (.int i0), .val (.int to), .val (.int (y0 &&& (255 : Int32))), .val (.int (4 : Int32)), .val (.int (128 : Int32)), .val (.int (191 : Int32)), .unset] [])) _
                  refine XS.sipush X0.here hx rfl (hb hby dS_134) ?_
                  show Steps p.tables e below (s₁.setTop (mkF m 137 #[.val (.ref ar), .val (.int i0), .val (.int to), .val (.int (y0 &&& (255 : Int32))), .val (.int (4 : Int32)), .val (.int (128 : Int32)), .val (.int (191 : Int32)), .unset] [(.int (144 : Int32))])) _
                  refine XS.goto X0.here hx rfl (pc0 := 137) (pc' := 143) rfl (hb hby dS_137) (by decide) (by decide) ?_
                  show Steps p.tables e below (s₁.setTop (mkF m 143 #[.val (.ref ar), .val (.int i0), .val (.int to), .val (.int (y0 &&& (255 : Int32))), .val (.int (4 : Int32)), .val (.int (128 : Int32)), .val (.int (191 : Int32)), .unset] [(.int (144 : Int32))])) _
                  refine XS.istore X0.here hx rfl (hb hby dS_143) rfl (l' := #[.val (.ref ar), .val (.int i0), .val (.int to), .val (.int (y0 &&& (255 : Int32))), .val (.int (4 : Int32)), .val (.int (144 : Int32)), .val (.int (191 : Int32)), .unset]) rfl ?_
                  show Steps p.tables e below (s₁.setTop (mkF m 145 #[.val (.ref ar), .val (.int i0), .val (.int to), .val (.int (y0 &&& (255 : Int32))), .val (.int (4 : Int32)), .val (.int (144 : Int32)), .val (.int (191 : Int32)), .unset] [])) _
                  refine XS.iloadN X0.here hx rfl (hb hby dS_145) rfl  ?_
                  show Steps p.tables e below (s₁.setTop (mkF m 146 #[.val (.ref ar), .val (.int i0), .val (.int to), .val (.int (y0 &&& (255 : Int32))), .val (.int (4 : Int32)), .val (.int (144 : Int32)), .val (.int (191 : Int32)), .unset] [(.int (y0 &&& (255 : Int32)))])) _
                  refine XS.sipush X0.here hx rfl (hb hby dS_146) ?_
                  show Steps p.tables e below (s₁.setTop (mkF m 149 #[.val (.ref ar), .val (.int i0), .val (.int to), .val (.int (y0 &&& (255 : Int32))), .val (.int (4 : Int32)), .val (.int (144 : Int32)), .val (.int (191 : Int32)), .unset] [(.int (244 : Int32)), (.int (y0 &&& (255 : Int32)))])) _
                  by_cases hj149_9 : (y0 &&& (255 : Int32)) = (244 : Int32)
                  · try simp only [if_pos hj149_9] at oK
                    refine XS.icmpNo X0.here hx rfl (hb hby dS_149) rfl (XT.ii_ne_f hj149_9) ?_
                    show Steps p.tables e below (s₁.setTop (mkF m 152 #[.val (.ref ar), .val (.int i0), .val (.int to), .val (.int (y0 &&& (255 : Int32))), .val (.int (4 : Int32)), .val (.int (144 : Int32)), .val (.int (191 : Int32)), .unset] [])) _
                    refine XS.sipush X0.here hx rfl (hb hby dS_152) ?_
                    show Steps p.tables e below (s₁.setTop (mkF m 155 #[.val (.ref ar), .val (.int i0), .val (.int to), .val (.int (y0 &&& (255 : Int32))), .val (.int (4 : Int32)), .val (.int (144 : Int32)), .val (.int (191 : Int32)), .unset] [(.int (143 : Int32))])) _
                    refine XS.goto X0.here hx rfl (pc0 := 155) (pc' := 161) rfl (hb hby dS_155) (by decide) (by decide) ?_
                    show Steps p.tables e below (s₁.setTop (mkF m 161 #[.val (.ref ar), .val (.int i0), .val (.int to), .val (.int (y0 &&& (255 : Int32))), .val (.int (4 : Int32)), .val (.int (144 : Int32)), .val (.int (191 : Int32)), .unset] [(.int (143 : Int32))])) _
                    refine XS.istore X0.here hx rfl (hb hby dS_161) rfl (l' := #[.val (.ref ar), .val (.int i0), .val (.int to), .val (.int (y0 &&& (255 : Int32))), .val (.int (4 : Int32)), .val (.int (144 : Int32)), .val (.int (143 : Int32)), .unset]) rfl ?_
                    exact oK
                  · try simp only [if_neg hj149_9] at oK
                    refine XS.icmpYes X0.here hx rfl (pc0 := 149) (pc' := 158) rfl (hb hby dS_149) rfl (XT.ii_ne_t hj149_9) (by decide) (by decide) ?_
                    show Steps p.tables e below (s₁.setTop (mkF m 158 #[.val (.ref ar), .val (.int i0), .val (.int to), .val (.int (y0 &&& (255 : Int32))), .val (.int (4 : Int32)), .val (.int (144 : Int32)), .val (.int (191 : Int32)), .unset] [])) _
                    refine XS.sipush X0.here hx rfl (hb hby dS_158) ?_
                    show Steps p.tables e below (s₁.setTop (mkF m 161 #[.val (.ref ar), .val (.int i0), .val (.int to), .val (.int (y0 &&& (255 : Int32))), .val (.int (4 : Int32)), .val (.int (144 : Int32)), .val (.int (191 : Int32)), .unset] [(.int (191 : Int32))])) _
                    refine XS.istore X0.here hx rfl (hb hby dS_161) rfl (l' := #[.val (.ref ar), .val (.int i0), .val (.int to), .val (.int (y0 &&& (255 : Int32))), .val (.int (4 : Int32)), .val (.int (144 : Int32)), .val (.int (191 : Int32)), .unset]) rfl ?_
                    exact oK
                · try simp only [if_neg hj131_8] at oK
                  refine XS.icmpYes X0.here hx rfl (pc0 := 131) (pc' := 140) rfl (hb hby dS_131) rfl (XT.ii_ne_t hj131_8) (by decide) (by decide) ?_
                  show Steps p.tables e below (s₁.setTop (mkF m 140 #[.val (.ref ar), .val (.int i0), .val (.int to), .val (.int (y0 &&& (255 : Int32))), .val (.int (4 : Int32)), .val (.int (128 : Int32)), .val (.int (191 : Int32)), .unset] [])) _
                  refine XS.sipush X0.here hx rfl (hb hby dS_140) ?_
                  show Steps p.tables e below (s₁.setTop (mkF m 143 #[.val (.ref ar), .val (.int i0), .val (.int to), .val (.int (y0 &&& (255 : Int32))), .val (.int (4 : Int32)), .val (.int (128 : Int32)), .val (.int (191 : Int32)), .unset] [(.int (128 : Int32))])) _
                  refine XS.istore X0.here hx rfl (hb hby dS_143) rfl (l' := #[.val (.ref ar), .val (.int i0), .val (.int to), .val (.int (y0 &&& (255 : Int32))), .val (.int (4 : Int32)), .val (.int (128 : Int32)), .val (.int (191 : Int32)), .unset]) rfl ?_
                  show Steps p.tables e below (s₁.setTop (mkF m 145 #[.val (.ref ar), .val (.int i0), .val (.int to), .val (.int (y0 &&& (255 : Int32))), .val (.int (4 : Int32)), .val (.int (128 : Int32)), .val (.int (191 : Int32)), .unset] [])) _
                  refine XS.iloadN X0.here hx rfl (hb hby dS_145) rfl  ?_
                  show Steps p.tables e below (s₁.setTop (mkF m 146 #[.val (.ref ar), .val (.int i0), .val (.int to), .val (.int (y0 &&& (255 : Int32))), .val (.int (4 : Int32)), .val (.int (128 : Int32)), .val (.int (191 : Int32)), .unset] [(.int (y0 &&& (255 : Int32)))])) _
                  refine XS.sipush X0.here hx rfl (hb hby dS_146) ?_
                  show Steps p.tables e below (s₁.setTop (mkF m 149 #[.val (.ref ar), .val (.int i0), .val (.int to), .val (.int (y0 &&& (255 : Int32))), .val (.int (4 : Int32)), .val (.int (128 : Int32)), .val (.int (191 : Int32)), .unset] [(.int (244 : Int32)), (.int (y0 &&& (255 : Int32)))])) _
                  by_cases hj149_10 : (y0 &&& (255 : Int32)) = (244 : Int32)
                  · try simp only [if_pos hj149_10] at oK
                    refine XS.icmpNo X0.here hx rfl (hb hby dS_149) rfl (XT.ii_ne_f hj149_10) ?_
                    show Steps p.tables e below (s₁.setTop (mkF m 152 #[.val (.ref ar), .val (.int i0), .val (.int to), .val (.int (y0 &&& (255 : Int32))), .val (.int (4 : Int32)), .val (.int (128 : Int32)), .val (.int (191 : Int32)), .unset] [])) _
                    refine XS.sipush X0.here hx rfl (hb hby dS_152) ?_
                    show Steps p.tables e below (s₁.setTop (mkF m 155 #[.val (.ref ar), .val (.int i0), .val (.int to), .val (.int (y0 &&& (255 : Int32))), .val (.int (4 : Int32)), .val (.int (128 : Int32)), .val (.int (191 : Int32)), .unset] [(.int (143 : Int32))])) _
                    refine XS.goto X0.here hx rfl (pc0 := 155) (pc' := 161) rfl (hb hby dS_155) (by decide) (by decide) ?_
                    show Steps p.tables e below (s₁.setTop (mkF m 161 #[.val (.ref ar), .val (.int i0), .val (.int to), .val (.int (y0 &&& (255 : Int32))), .val (.int (4 : Int32)), .val (.int (128 : Int32)), .val (.int (191 : Int32)), .unset] [(.int (143 : Int32))])) _
                    refine XS.istore X0.here hx rfl (hb hby dS_161) rfl (l' := #[.val (.ref ar), .val (.int i0), .val (.int to), .val (.int (y0 &&& (255 : Int32))), .val (.int (4 : Int32)), .val (.int (128 : Int32)), .val (.int (143 : Int32)), .unset]) rfl ?_
                    exact oK
                  · try simp only [if_neg hj149_10] at oK
                    refine XS.icmpYes X0.here hx rfl (pc0 := 149) (pc' := 158) rfl (hb hby dS_149) rfl (XT.ii_ne_t hj149_10) (by decide) (by decide) ?_
                    show Steps p.tables e below (s₁.setTop (mkF m 158 #[.val (.ref ar), .val (.int i0), .val (.int to), .val (.int (y0 &&& (255 : Int32))), .val (.int (4 : Int32)), .val (.int (128 : Int32)), .val (.int (191 : Int32)), .unset] [])) _
                    refine XS.sipush X0.here hx rfl (hb hby dS_158) ?_
                    show Steps p.tables e below (s₁.setTop (mkF m 161 #[.val (.ref ar), .val (.int i0), .val (.int to), .val (.int (y0 &&& (255 : Int32))), .val (.int (4 : Int32)), .val (.int (128 : Int32)), .val (.int (191 : Int32)), .unset] [(.int (191 : Int32))])) _
                    refine XS.istore X0.here hx rfl (hb hby dS_161) rfl (l' := #[.val (.ref ar), .val (.int i0), .val (.int to), .val (.int (y0 &&& (255 : Int32))), .val (.int (4 : Int32)), .val (.int (128 : Int32)), .val (.int (191 : Int32)), .unset]) rfl ?_
                    exact oK
          · try simp only [if_neg hj58_5] at oK
            refine XS.icmpNo X0.here hx rfl (hb hby dS_58) rfl (XT.ii_lt_f hj58_5) ?_
            show Steps p.tables e below (s₁.setTop (mkF m 61 #[.val (.ref ar), .val (.int i0), .val (.int to), .val (.int (y0 &&& (255 : Int32))), .val (.int (0 : Int32)), .val (.int (128 : Int32)), .val (.int (191 : Int32)), .unset] [])) _
            refine XS.iloadN X0.here hx rfl (hb hby dS_61) rfl  ?_
            show Steps p.tables e below (s₁.setTop (mkF m 62 #[.val (.ref ar), .val (.int i0), .val (.int to), .val (.int (y0 &&& (255 : Int32))), .val (.int (0 : Int32)), .val (.int (128 : Int32)), .val (.int (191 : Int32)), .unset] [(.int (y0 &&& (255 : Int32)))])) _
            refine XS.sipush X0.here hx rfl (hb hby dS_62) ?_
            show Steps p.tables e below (s₁.setTop (mkF m 65 #[.val (.ref ar), .val (.int i0), .val (.int to), .val (.int (y0 &&& (255 : Int32))), .val (.int (0 : Int32)), .val (.int (128 : Int32)), .val (.int (191 : Int32)), .unset] [(.int (239 : Int32)), (.int (y0 &&& (255 : Int32)))])) _
            by_cases hj65_11 : (239 : Int32) < (y0 &&& (255 : Int32))
            · try simp only [if_pos hj65_11] at oK
              refine XS.icmpYes X0.here hx rfl (pc0 := 65) (pc' := 110) rfl (hb hby dS_65) rfl (XT.ii_gt_t hj65_11) (by decide) (by decide) ?_
              show Steps p.tables e below (s₁.setTop (mkF m 110 #[.val (.ref ar), .val (.int i0), .val (.int to), .val (.int (y0 &&& (255 : Int32))), .val (.int (0 : Int32)), .val (.int (128 : Int32)), .val (.int (191 : Int32)), .unset] [])) _
              refine XS.iloadN X0.here hx rfl (hb hby dS_110) rfl  ?_
              show Steps p.tables e below (s₁.setTop (mkF m 111 #[.val (.ref ar), .val (.int i0), .val (.int to), .val (.int (y0 &&& (255 : Int32))), .val (.int (0 : Int32)), .val (.int (128 : Int32)), .val (.int (191 : Int32)), .unset] [(.int (y0 &&& (255 : Int32)))])) _
              refine XS.sipush X0.here hx rfl (hb hby dS_111) ?_
              show Steps p.tables e below (s₁.setTop (mkF m 114 #[.val (.ref ar), .val (.int i0), .val (.int to), .val (.int (y0 &&& (255 : Int32))), .val (.int (0 : Int32)), .val (.int (128 : Int32)), .val (.int (191 : Int32)), .unset] [(.int (240 : Int32)), (.int (y0 &&& (255 : Int32)))])) _
              by_cases hj114_12 : (y0 &&& (255 : Int32)) < (240 : Int32)
              · try simp only [if_pos hj114_12] at oK
                refine XS.icmpYes X0.here hx rfl (pc0 := 114) (pc' := 163) rfl (hb hby dS_114) rfl (XT.ii_lt_t hj114_12) (by decide) (by decide) ?_
                exact oK
              · try simp only [if_neg hj114_12] at oK
                refine XS.icmpNo X0.here hx rfl (hb hby dS_114) rfl (XT.ii_lt_f hj114_12) ?_
                show Steps p.tables e below (s₁.setTop (mkF m 117 #[.val (.ref ar), .val (.int i0), .val (.int to), .val (.int (y0 &&& (255 : Int32))), .val (.int (0 : Int32)), .val (.int (128 : Int32)), .val (.int (191 : Int32)), .unset] [])) _
                refine XS.iloadN X0.here hx rfl (hb hby dS_117) rfl  ?_
                show Steps p.tables e below (s₁.setTop (mkF m 118 #[.val (.ref ar), .val (.int i0), .val (.int to), .val (.int (y0 &&& (255 : Int32))), .val (.int (0 : Int32)), .val (.int (128 : Int32)), .val (.int (191 : Int32)), .unset] [(.int (y0 &&& (255 : Int32)))])) _
                refine XS.sipush X0.here hx rfl (hb hby dS_118) ?_
                show Steps p.tables e below (s₁.setTop (mkF m 121 #[.val (.ref ar), .val (.int i0), .val (.int to), .val (.int (y0 &&& (255 : Int32))), .val (.int (0 : Int32)), .val (.int (128 : Int32)), .val (.int (191 : Int32)), .unset] [(.int (244 : Int32)), (.int (y0 &&& (255 : Int32)))])) _
                by_cases hj121_13 : (244 : Int32) < (y0 &&& (255 : Int32))
                · try simp only [if_pos hj121_13] at oK
                  refine XS.icmpYes X0.here hx rfl (pc0 := 121) (pc' := 163) rfl (hb hby dS_121) rfl (XT.ii_gt_t hj121_13) (by decide) (by decide) ?_
                  exact oK
                · try simp only [if_neg hj121_13] at oK
                  refine XS.icmpNo X0.here hx rfl (hb hby dS_121) rfl (XT.ii_gt_f hj121_13) ?_
                  show Steps p.tables e below (s₁.setTop (mkF m 124 #[.val (.ref ar), .val (.int i0), .val (.int to), .val (.int (y0 &&& (255 : Int32))), .val (.int (0 : Int32)), .val (.int (128 : Int32)), .val (.int (191 : Int32)), .unset] [])) _
                  refine XS.iconst X0.here hx rfl (hb hby dS_124) ?_
                  show Steps p.tables e below (s₁.setTop (mkF m 125 #[.val (.ref ar), .val (.int i0), .val (.int to), .val (.int (y0 &&& (255 : Int32))), .val (.int (0 : Int32)), .val (.int (128 : Int32)), .val (.int (191 : Int32)), .unset] [(.int (4 : Int32))])) _
                  refine XS.istore X0.here hx rfl (hb hby dS_125) rfl (l' := #[.val (.ref ar), .val (.int i0), .val (.int to), .val (.int (y0 &&& (255 : Int32))), .val (.int (4 : Int32)), .val (.int (128 : Int32)), .val (.int (191 : Int32)), .unset]) rfl ?_
                  show Steps p.tables e below (s₁.setTop (mkF m 127 #[.val (.ref ar), .val (.int i0), .val (.int to), .val (.int (y0 &&& (255 : Int32))), .val (.int (4 : Int32)), .val (.int (128 : Int32)), .val (.int (191 : Int32)), .unset] [])) _
                  refine XS.iloadN X0.here hx rfl (hb hby dS_127) rfl  ?_
                  show Steps p.tables e below (s₁.setTop (mkF m 128 #[.val (.ref ar), .val (.int i0), .val (.int to), .val (.int (y0 &&& (255 : Int32))), .val (.int (4 : Int32)), .val (.int (128 : Int32)), .val (.int (191 : Int32)), .unset] [(.int (y0 &&& (255 : Int32)))])) _
                  refine XS.sipush X0.here hx rfl (hb hby dS_128) ?_
                  show Steps p.tables e below (s₁.setTop (mkF m 131 #[.val (.ref ar), .val (.int i0), .val (.int to), .val (.int (y0 &&& (255 : Int32))), .val (.int (4 : Int32)), .val (.int (128 : Int32)), .val (.int (191 : Int32)), .unset] [(.int (240 : Int32)), (.int (y0 &&& (255 : Int32)))])) _
                  by_cases hj131_14 : (y0 &&& (255 : Int32)) = (240 : Int32)
                  · try simp only [if_pos hj131_14] at oK
                    refine XS.icmpNo X0.here hx rfl (hb hby dS_131) rfl (XT.ii_ne_f hj131_14) ?_
                    show Steps p.tables e below (s₁.setTop (mkF m 134 #[.val (.ref ar), .val (.int i0), .val (.int to), .val (.int (y0 &&& (255 : Int32))), .val (.int (4 : Int32)), .val (.int (128 : Int32)), .val (.int (191 : Int32)), .unset] [])) _
                    refine XS.sipush X0.here hx rfl (hb hby dS_134) ?_
                    show Steps p.tables e below (s₁.setTop (mkF m 137 #[.val (.ref ar), .val (.int i0), .val (.int to), .val (.int (y0 &&& (255 : Int32))), .val (.int (4 : Int32)), .val (.int (128 : Int32)), .val (.int (191 : Int32)), .unset] [(.int (144 : Int32))])) _
                    refine XS.goto X0.here hx rfl (pc0 := 137) (pc' := 143) rfl (hb hby dS_137) (by decide) (by decide) ?_
                    show Steps p.tables e below (s₁.setTop (mkF m 143 #[.val (.ref ar), .val (.int i0), .val (.int to), .val (.int (y0 &&& (255 : Int32))), .val (.int (4 : Int32)), .val (.int (128 : Int32)), .val (.int (191 : Int32)), .unset] [(.int (144 : Int32))])) _
                    refine XS.istore X0.here hx rfl (hb hby dS_143) rfl (l' := #[.val (.ref ar), .val (.int i0), .val (.int to), .val (.int (y0 &&& (255 : Int32))), .val (.int (4 : Int32)), .val (.int (144 : Int32)), .val (.int (191 : Int32)), .unset]) rfl ?_
                    show Steps p.tables e below (s₁.setTop (mkF m 145 #[.val (.ref ar), .val (.int i0), .val (.int to), .val (.int (y0 &&& (255 : Int32))), .val (.int (4 : Int32)), .val (.int (144 : Int32)), .val (.int (191 : Int32)), .unset] [])) _
                    refine XS.iloadN X0.here hx rfl (hb hby dS_145) rfl  ?_
                    show Steps p.tables e below (s₁.setTop (mkF m 146 #[.val (.ref ar), .val (.int i0), .val (.int to), .val (.int (y0 &&& (255 : Int32))), .val (.int (4 : Int32)), .val (.int (144 : Int32)), .val (.int (191 : Int32)), .unset] [(.int (y0 &&& (255 : Int32)))])) _
                    refine XS.sipush X0.here hx rfl (hb hby dS_146) ?_
                    show Steps p.tables e below (s₁.setTop (mkF m 149 #[.val (.ref ar), .val (.int i0), .val (.int to), .val (.int (y0 &&& (255 : Int32))), .val (.int (4 : Int32)), .val (.int (144 : Int32)), .val (.int (191 : Int32)), .unset] [(.int (244 : Int32)), (.int (y0 &&& (255 : Int32)))])) _
                    by_cases hj149_15 : (y0 &&& (255 : Int32)) = (244 : Int32)
                    · try simp only [if_pos hj149_15] at oK
                      refine XS.icmpNo X0.here hx rfl (hb hby dS_149) rfl (XT.ii_ne_f hj149_15) ?_
                      show Steps p.tables e below (s₁.setTop (mkF m 152 #[.val (.ref ar), .val (.int i0), .val (.int to), .val (.int (y0 &&& (255 : Int32))), .val (.int (4 : Int32)), .val (.int (144 : Int32)), .val (.int (191 : Int32)), .unset] [])) _
                      refine XS.sipush X0.here hx rfl (hb hby dS_152) ?_
                      show Steps p.tables e below (s₁.setTop (mkF m 155 #[.val (.ref ar), .val (.int i0), .val (.int to), .val (.int (y0 &&& (255 : Int32))), .val (.int (4 : Int32)), .val (.int (144 : Int32)), .val (.int (191 : Int32)), .unset] [(.int (143 : Int32))])) _
                      refine XS.goto X0.here hx rfl (pc0 := 155) (pc' := 161) rfl (hb hby dS_155) (by decide) (by decide) ?_
                      show Steps p.tables e below (s₁.setTop (mkF m 161 #[.val (.ref ar), .val (.int i0), .val (.int to), .val (.int (y0 &&& (255 : Int32))), .val (.int (4 : Int32)), .val (.int (144 : Int32)), .val (.int (191 : Int32)), .unset] [(.int (143 : Int32))])) _
                      refine XS.istore X0.here hx rfl (hb hby dS_161) rfl (l' := #[.val (.ref ar), .val (.int i0), .val (.int to), .val (.int (y0 &&& (255 : Int32))), .val (.int (4 : Int32)), .val (.int (144 : Int32)), .val (.int (143 : Int32)), .unset]) rfl ?_
                      exact oK
                    · try simp only [if_neg hj149_15] at oK
                      refine XS.icmpYes X0.here hx rfl (pc0 := 149) (pc' := 158) rfl (hb hby dS_149) rfl (XT.ii_ne_t hj149_15) (by decide) (by decide) ?_
                      show Steps p.tables e below (s₁.setTop (mkF m 158 #[.val (.ref ar), .val (.int i0), .val (.int to), .val (.int (y0 &&& (255 : Int32))), .val (.int (4 : Int32)), .val (.int (144 : Int32)), .val (.int (191 : Int32)), .unset] [])) _
                      refine XS.sipush X0.here hx rfl (hb hby dS_158) ?_
                      show Steps p.tables e below (s₁.setTop (mkF m 161 #[.val (.ref ar), .val (.int i0), .val (.int to), .val (.int (y0 &&& (255 : Int32))), .val (.int (4 : Int32)), .val (.int (144 : Int32)), .val (.int (191 : Int32)), .unset] [(.int (191 : Int32))])) _
                      refine XS.istore X0.here hx rfl (hb hby dS_161) rfl (l' := #[.val (.ref ar), .val (.int i0), .val (.int to), .val (.int (y0 &&& (255 : Int32))), .val (.int (4 : Int32)), .val (.int (144 : Int32)), .val (.int (191 : Int32)), .unset]) rfl ?_
                      exact oK
                  · try simp only [if_neg hj131_14] at oK
                    refine XS.icmpYes X0.here hx rfl (pc0 := 131) (pc' := 140) rfl (hb hby dS_131) rfl (XT.ii_ne_t hj131_14) (by decide) (by decide) ?_
                    show Steps p.tables e below (s₁.setTop (mkF m 140 #[.val (.ref ar), .val (.int i0), .val (.int to), .val (.int (y0 &&& (255 : Int32))), .val (.int (4 : Int32)), .val (.int (128 : Int32)), .val (.int (191 : Int32)), .unset] [])) _
                    refine XS.sipush X0.here hx rfl (hb hby dS_140) ?_
                    show Steps p.tables e below (s₁.setTop (mkF m 143 #[.val (.ref ar), .val (.int i0), .val (.int to), .val (.int (y0 &&& (255 : Int32))), .val (.int (4 : Int32)), .val (.int (128 : Int32)), .val (.int (191 : Int32)), .unset] [(.int (128 : Int32))])) _
                    refine XS.istore X0.here hx rfl (hb hby dS_143) rfl (l' := #[.val (.ref ar), .val (.int i0), .val (.int to), .val (.int (y0 &&& (255 : Int32))), .val (.int (4 : Int32)), .val (.int (128 : Int32)), .val (.int (191 : Int32)), .unset]) rfl ?_
                    show Steps p.tables e below (s₁.setTop (mkF m 145 #[.val (.ref ar), .val (.int i0), .val (.int to), .val (.int (y0 &&& (255 : Int32))), .val (.int (4 : Int32)), .val (.int (128 : Int32)), .val (.int (191 : Int32)), .unset] [])) _
                    refine XS.iloadN X0.here hx rfl (hb hby dS_145) rfl  ?_
                    show Steps p.tables e below (s₁.setTop (mkF m 146 #[.val (.ref ar), .val (.int i0), .val (.int to), .val (.int (y0 &&& (255 : Int32))), .val (.int (4 : Int32)), .val (.int (128 : Int32)), .val (.int (191 : Int32)), .unset] [(.int (y0 &&& (255 : Int32)))])) _
                    refine XS.sipush X0.here hx rfl (hb hby dS_146) ?_
                    show Steps p.tables e below (s₁.setTop (mkF m 149 #[.val (.ref ar), .val (.int i0), .val (.int to), .val (.int (y0 &&& (255 : Int32))), .val (.int (4 : Int32)), .val (.int (128 : Int32)), .val (.int (191 : Int32)), .unset] [(.int (244 : Int32)), (.int (y0 &&& (255 : Int32)))])) _
                    by_cases hj149_16 : (y0 &&& (255 : Int32)) = (244 : Int32)
                    · try simp only [if_pos hj149_16] at oK
                      refine XS.icmpNo X0.here hx rfl (hb hby dS_149) rfl (XT.ii_ne_f hj149_16) ?_
                      show Steps p.tables e below (s₁.setTop (mkF m 152 #[.val (.ref ar), .val (.int i0), .val (.int to), .val (.int (y0 &&& (255 : Int32))), .val (.int (4 : Int32)), .val (.int (128 : Int32)), .val (.int (191 : Int32)), .unset] [])) _
                      refine XS.sipush X0.here hx rfl (hb hby dS_152) ?_
                      show Steps p.tables e below (s₁.setTop (mkF m 155 #[.val (.ref ar), .val (.int i0), .val (.int to), .val (.int (y0 &&& (255 : Int32))), .val (.int (4 : Int32)), .val (.int (128 : Int32)), .val (.int (191 : Int32)), .unset] [(.int (143 : Int32))])) _
                      refine XS.goto X0.here hx rfl (pc0 := 155) (pc' := 161) rfl (hb hby dS_155) (by decide) (by decide) ?_
                      show Steps p.tables e below (s₁.setTop (mkF m 161 #[.val (.ref ar), .val (.int i0), .val (.int to), .val (.int (y0 &&& (255 : Int32))), .val (.int (4 : Int32)), .val (.int (128 : Int32)), .val (.int (191 : Int32)), .unset] [(.int (143 : Int32))])) _
                      refine XS.istore X0.here hx rfl (hb hby dS_161) rfl (l' := #[.val (.ref ar), .val (.int i0), .val (.int to), .val (.int (y0 &&& (255 : Int32))), .val (.int (4 : Int32)), .val (.int (128 : Int32)), .val (.int (143 : Int32)), .unset]) rfl ?_
                      exact oK
                    · try simp only [if_neg hj149_16] at oK
                      refine XS.icmpYes X0.here hx rfl (pc0 := 149) (pc' := 158) rfl (hb hby dS_149) rfl (XT.ii_ne_t hj149_16) (by decide) (by decide) ?_
                      show Steps p.tables e below (s₁.setTop (mkF m 158 #[.val (.ref ar), .val (.int i0), .val (.int to), .val (.int (y0 &&& (255 : Int32))), .val (.int (4 : Int32)), .val (.int (128 : Int32)), .val (.int (191 : Int32)), .unset] [])) _
                      refine XS.sipush X0.here hx rfl (hb hby dS_158) ?_
                      show Steps p.tables e below (s₁.setTop (mkF m 161 #[.val (.ref ar), .val (.int i0), .val (.int to), .val (.int (y0 &&& (255 : Int32))), .val (.int (4 : Int32)), .val (.int (128 : Int32)), .val (.int (191 : Int32)), .unset] [(.int (191 : Int32))])) _
                      refine XS.istore X0.here hx rfl (hb hby dS_161) rfl (l' := #[.val (.ref ar), .val (.int i0), .val (.int to), .val (.int (y0 &&& (255 : Int32))), .val (.int (4 : Int32)), .val (.int (128 : Int32)), .val (.int (191 : Int32)), .unset]) rfl ?_
                      exact oK
            · try simp only [if_neg hj65_11] at oK
              refine XS.icmpNo X0.here hx rfl (hb hby dS_65) rfl (XT.ii_gt_f hj65_11) ?_
              show Steps p.tables e below (s₁.setTop (mkF m 68 #[.val (.ref ar), .val (.int i0), .val (.int to), .val (.int (y0 &&& (255 : Int32))), .val (.int (0 : Int32)), .val (.int (128 : Int32)), .val (.int (191 : Int32)), .unset] [])) _
              refine XS.iconst X0.here hx rfl (hb hby dS_68) ?_
              show Steps p.tables e below (s₁.setTop (mkF m 69 #[.val (.ref ar), .val (.int i0), .val (.int to), .val (.int (y0 &&& (255 : Int32))), .val (.int (0 : Int32)), .val (.int (128 : Int32)), .val (.int (191 : Int32)), .unset] [(.int (3 : Int32))])) _
              refine XS.istore X0.here hx rfl (hb hby dS_69) rfl (l' := #[.val (.ref ar), .val (.int i0), .val (.int to), .val (.int (y0 &&& (255 : Int32))), .val (.int (3 : Int32)), .val (.int (128 : Int32)), .val (.int (191 : Int32)), .unset]) rfl ?_
              show Steps p.tables e below (s₁.setTop (mkF m 71 #[.val (.ref ar), .val (.int i0), .val (.int to), .val (.int (y0 &&& (255 : Int32))), .val (.int (3 : Int32)), .val (.int (128 : Int32)), .val (.int (191 : Int32)), .unset] [])) _
              refine XS.iloadN X0.here hx rfl (hb hby dS_71) rfl  ?_
              show Steps p.tables e below (s₁.setTop (mkF m 72 #[.val (.ref ar), .val (.int i0), .val (.int to), .val (.int (y0 &&& (255 : Int32))), .val (.int (3 : Int32)), .val (.int (128 : Int32)), .val (.int (191 : Int32)), .unset] [(.int (y0 &&& (255 : Int32)))])) _
              refine XS.sipush X0.here hx rfl (hb hby dS_72) ?_
              show Steps p.tables e below (s₁.setTop (mkF m 75 #[.val (.ref ar), .val (.int i0), .val (.int to), .val (.int (y0 &&& (255 : Int32))), .val (.int (3 : Int32)), .val (.int (128 : Int32)), .val (.int (191 : Int32)), .unset] [(.int (224 : Int32)), (.int (y0 &&& (255 : Int32)))])) _
              by_cases hj75_17 : (y0 &&& (255 : Int32)) = (224 : Int32)
              · try simp only [if_pos hj75_17] at oK
                refine XS.icmpNo X0.here hx rfl (hb hby dS_75) rfl (XT.ii_ne_f hj75_17) ?_
                show Steps p.tables e below (s₁.setTop (mkF m 78 #[.val (.ref ar), .val (.int i0), .val (.int to), .val (.int (y0 &&& (255 : Int32))), .val (.int (3 : Int32)), .val (.int (128 : Int32)), .val (.int (191 : Int32)), .unset] [])) _
                refine XS.sipush X0.here hx rfl (hb hby dS_78) ?_
                show Steps p.tables e below (s₁.setTop (mkF m 81 #[.val (.ref ar), .val (.int i0), .val (.int to), .val (.int (y0 &&& (255 : Int32))), .val (.int (3 : Int32)), .val (.int (128 : Int32)), .val (.int (191 : Int32)), .unset] [(.int (160 : Int32))])) _
                refine XS.goto X0.here hx rfl (pc0 := 81) (pc' := 87) rfl (hb hby dS_81) (by decide) (by decide) ?_
                show Steps p.tables e below (s₁.setTop (mkF m 87 #[.val (.ref ar), .val (.int i0), .val (.int to), .val (.int (y0 &&& (255 : Int32))), .val (.int (3 : Int32)), .val (.int (128 : Int32)), .val (.int (191 : Int32)), .unset] [(.int (160 : Int32))])) _
                refine XS.istore X0.here hx rfl (hb hby dS_87) rfl (l' := #[.val (.ref ar), .val (.int i0), .val (.int to), .val (.int (y0 &&& (255 : Int32))), .val (.int (3 : Int32)), .val (.int (160 : Int32)), .val (.int (191 : Int32)), .unset]) rfl ?_
                show Steps p.tables e below (s₁.setTop (mkF m 89 #[.val (.ref ar), .val (.int i0), .val (.int to), .val (.int (y0 &&& (255 : Int32))), .val (.int (3 : Int32)), .val (.int (160 : Int32)), .val (.int (191 : Int32)), .unset] [])) _
                refine XS.iloadN X0.here hx rfl (hb hby dS_89) rfl  ?_
                show Steps p.tables e below (s₁.setTop (mkF m 90 #[.val (.ref ar), .val (.int i0), .val (.int to), .val (.int (y0 &&& (255 : Int32))), .val (.int (3 : Int32)), .val (.int (160 : Int32)), .val (.int (191 : Int32)), .unset] [(.int (y0 &&& (255 : Int32)))])) _
                refine XS.sipush X0.here hx rfl (hb hby dS_90) ?_
                show Steps p.tables e below (s₁.setTop (mkF m 93 #[.val (.ref ar), .val (.int i0), .val (.int to), .val (.int (y0 &&& (255 : Int32))), .val (.int (3 : Int32)), .val (.int (160 : Int32)), .val (.int (191 : Int32)), .unset] [(.int (237 : Int32)), (.int (y0 &&& (255 : Int32)))])) _
                by_cases hj93_18 : (y0 &&& (255 : Int32)) = (237 : Int32)
                · try simp only [if_pos hj93_18] at oK
                  refine XS.icmpNo X0.here hx rfl (hb hby dS_93) rfl (XT.ii_ne_f hj93_18) ?_
                  show Steps p.tables e below (s₁.setTop (mkF m 96 #[.val (.ref ar), .val (.int i0), .val (.int to), .val (.int (y0 &&& (255 : Int32))), .val (.int (3 : Int32)), .val (.int (160 : Int32)), .val (.int (191 : Int32)), .unset] [])) _
                  refine XS.sipush X0.here hx rfl (hb hby dS_96) ?_
                  show Steps p.tables e below (s₁.setTop (mkF m 99 #[.val (.ref ar), .val (.int i0), .val (.int to), .val (.int (y0 &&& (255 : Int32))), .val (.int (3 : Int32)), .val (.int (160 : Int32)), .val (.int (191 : Int32)), .unset] [(.int (159 : Int32))])) _
                  refine XS.goto X0.here hx rfl (pc0 := 99) (pc' := 105) rfl (hb hby dS_99) (by decide) (by decide) ?_
                  show Steps p.tables e below (s₁.setTop (mkF m 105 #[.val (.ref ar), .val (.int i0), .val (.int to), .val (.int (y0 &&& (255 : Int32))), .val (.int (3 : Int32)), .val (.int (160 : Int32)), .val (.int (191 : Int32)), .unset] [(.int (159 : Int32))])) _
                  refine XS.istore X0.here hx rfl (hb hby dS_105) rfl (l' := #[.val (.ref ar), .val (.int i0), .val (.int to), .val (.int (y0 &&& (255 : Int32))), .val (.int (3 : Int32)), .val (.int (160 : Int32)), .val (.int (159 : Int32)), .unset]) rfl ?_
                  show Steps p.tables e below (s₁.setTop (mkF m 107 #[.val (.ref ar), .val (.int i0), .val (.int to), .val (.int (y0 &&& (255 : Int32))), .val (.int (3 : Int32)), .val (.int (160 : Int32)), .val (.int (159 : Int32)), .unset] [])) _
                  refine XS.goto X0.here hx rfl (pc0 := 107) (pc' := 163) rfl (hb hby dS_107) (by decide) (by decide) ?_
                  exact oK
                · try simp only [if_neg hj93_18] at oK
                  refine XS.icmpYes X0.here hx rfl (pc0 := 93) (pc' := 102) rfl (hb hby dS_93) rfl (XT.ii_ne_t hj93_18) (by decide) (by decide) ?_
                  show Steps p.tables e below (s₁.setTop (mkF m 102 #[.val (.ref ar), .val (.int i0), .val (.int to), .val (.int (y0 &&& (255 : Int32))), .val (.int (3 : Int32)), .val (.int (160 : Int32)), .val (.int (191 : Int32)), .unset] [])) _
                  refine XS.sipush X0.here hx rfl (hb hby dS_102) ?_
                  show Steps p.tables e below (s₁.setTop (mkF m 105 #[.val (.ref ar), .val (.int i0), .val (.int to), .val (.int (y0 &&& (255 : Int32))), .val (.int (3 : Int32)), .val (.int (160 : Int32)), .val (.int (191 : Int32)), .unset] [(.int (191 : Int32))])) _
                  refine XS.istore X0.here hx rfl (hb hby dS_105) rfl (l' := #[.val (.ref ar), .val (.int i0), .val (.int to), .val (.int (y0 &&& (255 : Int32))), .val (.int (3 : Int32)), .val (.int (160 : Int32)), .val (.int (191 : Int32)), .unset]) rfl ?_
                  show Steps p.tables e below (s₁.setTop (mkF m 107 #[.val (.ref ar), .val (.int i0), .val (.int to), .val (.int (y0 &&& (255 : Int32))), .val (.int (3 : Int32)), .val (.int (160 : Int32)), .val (.int (191 : Int32)), .unset] [])) _
                  refine XS.goto X0.here hx rfl (pc0 := 107) (pc' := 163) rfl (hb hby dS_107) (by decide) (by decide) ?_
                  exact oK
              · try simp only [if_neg hj75_17] at oK
                refine XS.icmpYes X0.here hx rfl (pc0 := 75) (pc' := 84) rfl (hb hby dS_75) rfl (XT.ii_ne_t hj75_17) (by decide) (by decide) ?_
                show Steps p.tables e below (s₁.setTop (mkF m 84 #[.val (.ref ar), .val (.int i0), .val (.int to), .val (.int (y0 &&& (255 : Int32))), .val (.int (3 : Int32)), .val (.int (128 : Int32)), .val (.int (191 : Int32)), .unset] [])) _
                refine XS.sipush X0.here hx rfl (hb hby dS_84) ?_
                show Steps p.tables e below (s₁.setTop (mkF m 87 #[.val (.ref ar), .val (.int i0), .val (.int to), .val (.int (y0 &&& (255 : Int32))), .val (.int (3 : Int32)), .val (.int (128 : Int32)), .val (.int (191 : Int32)), .unset] [(.int (128 : Int32))])) _
                refine XS.istore X0.here hx rfl (hb hby dS_87) rfl (l' := #[.val (.ref ar), .val (.int i0), .val (.int to), .val (.int (y0 &&& (255 : Int32))), .val (.int (3 : Int32)), .val (.int (128 : Int32)), .val (.int (191 : Int32)), .unset]) rfl ?_
                show Steps p.tables e below (s₁.setTop (mkF m 89 #[.val (.ref ar), .val (.int i0), .val (.int to), .val (.int (y0 &&& (255 : Int32))), .val (.int (3 : Int32)), .val (.int (128 : Int32)), .val (.int (191 : Int32)), .unset] [])) _
                refine XS.iloadN X0.here hx rfl (hb hby dS_89) rfl  ?_
                show Steps p.tables e below (s₁.setTop (mkF m 90 #[.val (.ref ar), .val (.int i0), .val (.int to), .val (.int (y0 &&& (255 : Int32))), .val (.int (3 : Int32)), .val (.int (128 : Int32)), .val (.int (191 : Int32)), .unset] [(.int (y0 &&& (255 : Int32)))])) _
                refine XS.sipush X0.here hx rfl (hb hby dS_90) ?_
                show Steps p.tables e below (s₁.setTop (mkF m 93 #[.val (.ref ar), .val (.int i0), .val (.int to), .val (.int (y0 &&& (255 : Int32))), .val (.int (3 : Int32)), .val (.int (128 : Int32)), .val (.int (191 : Int32)), .unset] [(.int (237 : Int32)), (.int (y0 &&& (255 : Int32)))])) _
                by_cases hj93_19 : (y0 &&& (255 : Int32)) = (237 : Int32)
                · try simp only [if_pos hj93_19] at oK
                  refine XS.icmpNo X0.here hx rfl (hb hby dS_93) rfl (XT.ii_ne_f hj93_19) ?_
                  show Steps p.tables e below (s₁.setTop (mkF m 96 #[.val (.ref ar), .val (.int i0), .val (.int to), .val (.int (y0 &&& (255 : Int32))), .val (.int (3 : Int32)), .val (.int (128 : Int32)), .val (.int (191 : Int32)), .unset] [])) _
                  refine XS.sipush X0.here hx rfl (hb hby dS_96) ?_
                  show Steps p.tables e below (s₁.setTop (mkF m 99 #[.val (.ref ar), .val (.int i0), .val (.int to), .val (.int (y0 &&& (255 : Int32))), .val (.int (3 : Int32)), .val (.int (128 : Int32)), .val (.int (191 : Int32)), .unset] [(.int (159 : Int32))])) _
                  refine XS.goto X0.here hx rfl (pc0 := 99) (pc' := 105) rfl (hb hby dS_99) (by decide) (by decide) ?_
                  show Steps p.tables e below (s₁.setTop (mkF m 105 #[.val (.ref ar), .val (.int i0), .val (.int to), .val (.int (y0 &&& (255 : Int32))), .val (.int (3 : Int32)), .val (.int (128 : Int32)), .val (.int (191 : Int32)), .unset] [(.int (159 : Int32))])) _
                  refine XS.istore X0.here hx rfl (hb hby dS_105) rfl (l' := #[.val (.ref ar), .val (.int i0), .val (.int to), .val (.int (y0 &&& (255 : Int32))), .val (.int (3 : Int32)), .val (.int (128 : Int32)), .val (.int (159 : Int32)), .unset]) rfl ?_
                  show Steps p.tables e below (s₁.setTop (mkF m 107 #[.val (.ref ar), .val (.int i0), .val (.int to), .val (.int (y0 &&& (255 : Int32))), .val (.int (3 : Int32)), .val (.int (128 : Int32)), .val (.int (159 : Int32)), .unset] [])) _
                  refine XS.goto X0.here hx rfl (pc0 := 107) (pc' := 163) rfl (hb hby dS_107) (by decide) (by decide) ?_
                  exact oK
                · try simp only [if_neg hj93_19] at oK
                  refine XS.icmpYes X0.here hx rfl (pc0 := 93) (pc' := 102) rfl (hb hby dS_93) rfl (XT.ii_ne_t hj93_19) (by decide) (by decide) ?_
                  show Steps p.tables e below (s₁.setTop (mkF m 102 #[.val (.ref ar), .val (.int i0), .val (.int to), .val (.int (y0 &&& (255 : Int32))), .val (.int (3 : Int32)), .val (.int (128 : Int32)), .val (.int (191 : Int32)), .unset] [])) _
                  refine XS.sipush X0.here hx rfl (hb hby dS_102) ?_
                  show Steps p.tables e below (s₁.setTop (mkF m 105 #[.val (.ref ar), .val (.int i0), .val (.int to), .val (.int (y0 &&& (255 : Int32))), .val (.int (3 : Int32)), .val (.int (128 : Int32)), .val (.int (191 : Int32)), .unset] [(.int (191 : Int32))])) _
                  refine XS.istore X0.here hx rfl (hb hby dS_105) rfl (l' := #[.val (.ref ar), .val (.int i0), .val (.int to), .val (.int (y0 &&& (255 : Int32))), .val (.int (3 : Int32)), .val (.int (128 : Int32)), .val (.int (191 : Int32)), .unset]) rfl ?_
                  show Steps p.tables e below (s₁.setTop (mkF m 107 #[.val (.ref ar), .val (.int i0), .val (.int to), .val (.int (y0 &&& (255 : Int32))), .val (.int (3 : Int32)), .val (.int (128 : Int32)), .val (.int (191 : Int32)), .unset] [])) _
                  refine XS.goto X0.here hx rfl (pc0 := 107) (pc' := 163) rfl (hb hby dS_107) (by decide) (by decide) ?_
                  exact oK
        · try simp only [if_neg hj38_4] at oK
          refine XS.icmpNo X0.here hx rfl (hb hby dS_38) rfl (XT.ii_lt_f hj38_4) ?_
          show Steps p.tables e below (s₁.setTop (mkF m 41 #[.val (.ref ar), .val (.int i0), .val (.int to), .val (.int (y0 &&& (255 : Int32))), .val (.int (0 : Int32)), .val (.int (128 : Int32)), .val (.int (191 : Int32)), .unset] [])) _
          refine XS.iloadN X0.here hx rfl (hb hby dS_41) rfl  ?_
          show Steps p.tables e below (s₁.setTop (mkF m 42 #[.val (.ref ar), .val (.int i0), .val (.int to), .val (.int (y0 &&& (255 : Int32))), .val (.int (0 : Int32)), .val (.int (128 : Int32)), .val (.int (191 : Int32)), .unset] [(.int (y0 &&& (255 : Int32)))])) _
          refine XS.sipush X0.here hx rfl (hb hby dS_42) ?_
          show Steps p.tables e below (s₁.setTop (mkF m 45 #[.val (.ref ar), .val (.int i0), .val (.int to), .val (.int (y0 &&& (255 : Int32))), .val (.int (0 : Int32)), .val (.int (128 : Int32)), .val (.int (191 : Int32)), .unset] [(.int (223 : Int32)), (.int (y0 &&& (255 : Int32)))])) _
          by_cases hj45_20 : (223 : Int32) < (y0 &&& (255 : Int32))
          · try simp only [if_pos hj45_20] at oK
            refine XS.icmpYes X0.here hx rfl (pc0 := 45) (pc' := 54) rfl (hb hby dS_45) rfl (XT.ii_gt_t hj45_20) (by decide) (by decide) ?_
            show Steps p.tables e below (s₁.setTop (mkF m 54 #[.val (.ref ar), .val (.int i0), .val (.int to), .val (.int (y0 &&& (255 : Int32))), .val (.int (0 : Int32)), .val (.int (128 : Int32)), .val (.int (191 : Int32)), .unset] [])) _
            refine XS.iloadN X0.here hx rfl (hb hby dS_54) rfl  ?_
            show Steps p.tables e below (s₁.setTop (mkF m 55 #[.val (.ref ar), .val (.int i0), .val (.int to), .val (.int (y0 &&& (255 : Int32))), .val (.int (0 : Int32)), .val (.int (128 : Int32)), .val (.int (191 : Int32)), .unset] [(.int (y0 &&& (255 : Int32)))])) _
            refine XS.sipush X0.here hx rfl (hb hby dS_55) ?_
            show Steps p.tables e below (s₁.setTop (mkF m 58 #[.val (.ref ar), .val (.int i0), .val (.int to), .val (.int (y0 &&& (255 : Int32))), .val (.int (0 : Int32)), .val (.int (128 : Int32)), .val (.int (191 : Int32)), .unset] [(.int (224 : Int32)), (.int (y0 &&& (255 : Int32)))])) _
            by_cases hj58_21 : (y0 &&& (255 : Int32)) < (224 : Int32)
            · try simp only [if_pos hj58_21] at oK
              refine XS.icmpYes X0.here hx rfl (pc0 := 58) (pc' := 110) rfl (hb hby dS_58) rfl (XT.ii_lt_t hj58_21) (by decide) (by decide) ?_
              show Steps p.tables e below (s₁.setTop (mkF m 110 #[.val (.ref ar), .val (.int i0), .val (.int to), .val (.int (y0 &&& (255 : Int32))), .val (.int (0 : Int32)), .val (.int (128 : Int32)), .val (.int (191 : Int32)), .unset] [])) _
              refine XS.iloadN X0.here hx rfl (hb hby dS_110) rfl  ?_
              show Steps p.tables e below (s₁.setTop (mkF m 111 #[.val (.ref ar), .val (.int i0), .val (.int to), .val (.int (y0 &&& (255 : Int32))), .val (.int (0 : Int32)), .val (.int (128 : Int32)), .val (.int (191 : Int32)), .unset] [(.int (y0 &&& (255 : Int32)))])) _
              refine XS.sipush X0.here hx rfl (hb hby dS_111) ?_
              show Steps p.tables e below (s₁.setTop (mkF m 114 #[.val (.ref ar), .val (.int i0), .val (.int to), .val (.int (y0 &&& (255 : Int32))), .val (.int (0 : Int32)), .val (.int (128 : Int32)), .val (.int (191 : Int32)), .unset] [(.int (240 : Int32)), (.int (y0 &&& (255 : Int32)))])) _
              by_cases hj114_22 : (y0 &&& (255 : Int32)) < (240 : Int32)
              · try simp only [if_pos hj114_22] at oK
                refine XS.icmpYes X0.here hx rfl (pc0 := 114) (pc' := 163) rfl (hb hby dS_114) rfl (XT.ii_lt_t hj114_22) (by decide) (by decide) ?_
                exact oK
              · try simp only [if_neg hj114_22] at oK
                refine XS.icmpNo X0.here hx rfl (hb hby dS_114) rfl (XT.ii_lt_f hj114_22) ?_
                show Steps p.tables e below (s₁.setTop (mkF m 117 #[.val (.ref ar), .val (.int i0), .val (.int to), .val (.int (y0 &&& (255 : Int32))), .val (.int (0 : Int32)), .val (.int (128 : Int32)), .val (.int (191 : Int32)), .unset] [])) _
                refine XS.iloadN X0.here hx rfl (hb hby dS_117) rfl  ?_
                show Steps p.tables e below (s₁.setTop (mkF m 118 #[.val (.ref ar), .val (.int i0), .val (.int to), .val (.int (y0 &&& (255 : Int32))), .val (.int (0 : Int32)), .val (.int (128 : Int32)), .val (.int (191 : Int32)), .unset] [(.int (y0 &&& (255 : Int32)))])) _
                refine XS.sipush X0.here hx rfl (hb hby dS_118) ?_
                show Steps p.tables e below (s₁.setTop (mkF m 121 #[.val (.ref ar), .val (.int i0), .val (.int to), .val (.int (y0 &&& (255 : Int32))), .val (.int (0 : Int32)), .val (.int (128 : Int32)), .val (.int (191 : Int32)), .unset] [(.int (244 : Int32)), (.int (y0 &&& (255 : Int32)))])) _
                by_cases hj121_23 : (244 : Int32) < (y0 &&& (255 : Int32))
                · try simp only [if_pos hj121_23] at oK
                  refine XS.icmpYes X0.here hx rfl (pc0 := 121) (pc' := 163) rfl (hb hby dS_121) rfl (XT.ii_gt_t hj121_23) (by decide) (by decide) ?_
                  exact oK
                · try simp only [if_neg hj121_23] at oK
                  refine XS.icmpNo X0.here hx rfl (hb hby dS_121) rfl (XT.ii_gt_f hj121_23) ?_
                  show Steps p.tables e below (s₁.setTop (mkF m 124 #[.val (.ref ar), .val (.int i0), .val (.int to), .val (.int (y0 &&& (255 : Int32))), .val (.int (0 : Int32)), .val (.int (128 : Int32)), .val (.int (191 : Int32)), .unset] [])) _
                  refine XS.iconst X0.here hx rfl (hb hby dS_124) ?_
                  show Steps p.tables e below (s₁.setTop (mkF m 125 #[.val (.ref ar), .val (.int i0), .val (.int to), .val (.int (y0 &&& (255 : Int32))), .val (.int (0 : Int32)), .val (.int (128 : Int32)), .val (.int (191 : Int32)), .unset] [(.int (4 : Int32))])) _
                  refine XS.istore X0.here hx rfl (hb hby dS_125) rfl (l' := #[.val (.ref ar), .val (.int i0), .val (.int to), .val (.int (y0 &&& (255 : Int32))), .val (.int (4 : Int32)), .val (.int (128 : Int32)), .val (.int (191 : Int32)), .unset]) rfl ?_
                  show Steps p.tables e below (s₁.setTop (mkF m 127 #[.val (.ref ar), .val (.int i0), .val (.int to), .val (.int (y0 &&& (255 : Int32))), .val (.int (4 : Int32)), .val (.int (128 : Int32)), .val (.int (191 : Int32)), .unset] [])) _
                  refine XS.iloadN X0.here hx rfl (hb hby dS_127) rfl  ?_
                  show Steps p.tables e below (s₁.setTop (mkF m 128 #[.val (.ref ar), .val (.int i0), .val (.int to), .val (.int (y0 &&& (255 : Int32))), .val (.int (4 : Int32)), .val (.int (128 : Int32)), .val (.int (191 : Int32)), .unset] [(.int (y0 &&& (255 : Int32)))])) _
                  refine XS.sipush X0.here hx rfl (hb hby dS_128) ?_
                  show Steps p.tables e below (s₁.setTop (mkF m 131 #[.val (.ref ar), .val (.int i0), .val (.int to), .val (.int (y0 &&& (255 : Int32))), .val (.int (4 : Int32)), .val (.int (128 : Int32)), .val (.int (191 : Int32)), .unset] [(.int (240 : Int32)), (.int (y0 &&& (255 : Int32)))])) _
                  by_cases hj131_24 : (y0 &&& (255 : Int32)) = (240 : Int32)
                  · try simp only [if_pos hj131_24] at oK
                    refine XS.icmpNo X0.here hx rfl (hb hby dS_131) rfl (XT.ii_ne_f hj131_24) ?_
                    show Steps p.tables e below (s₁.setTop (mkF m 134 #[.val (.ref ar), .val (.int i0), .val (.int to), .val (.int (y0 &&& (255 : Int32))), .val (.int (4 : Int32)), .val (.int (128 : Int32)), .val (.int (191 : Int32)), .unset] [])) _
                    refine XS.sipush X0.here hx rfl (hb hby dS_134) ?_
                    show Steps p.tables e below (s₁.setTop (mkF m 137 #[.val (.ref ar), .val (.int i0), .val (.int to), .val (.int (y0 &&& (255 : Int32))), .val (.int (4 : Int32)), .val (.int (128 : Int32)), .val (.int (191 : Int32)), .unset] [(.int (144 : Int32))])) _
                    refine XS.goto X0.here hx rfl (pc0 := 137) (pc' := 143) rfl (hb hby dS_137) (by decide) (by decide) ?_
                    show Steps p.tables e below (s₁.setTop (mkF m 143 #[.val (.ref ar), .val (.int i0), .val (.int to), .val (.int (y0 &&& (255 : Int32))), .val (.int (4 : Int32)), .val (.int (128 : Int32)), .val (.int (191 : Int32)), .unset] [(.int (144 : Int32))])) _
                    refine XS.istore X0.here hx rfl (hb hby dS_143) rfl (l' := #[.val (.ref ar), .val (.int i0), .val (.int to), .val (.int (y0 &&& (255 : Int32))), .val (.int (4 : Int32)), .val (.int (144 : Int32)), .val (.int (191 : Int32)), .unset]) rfl ?_
                    show Steps p.tables e below (s₁.setTop (mkF m 145 #[.val (.ref ar), .val (.int i0), .val (.int to), .val (.int (y0 &&& (255 : Int32))), .val (.int (4 : Int32)), .val (.int (144 : Int32)), .val (.int (191 : Int32)), .unset] [])) _
                    refine XS.iloadN X0.here hx rfl (hb hby dS_145) rfl  ?_
                    show Steps p.tables e below (s₁.setTop (mkF m 146 #[.val (.ref ar), .val (.int i0), .val (.int to), .val (.int (y0 &&& (255 : Int32))), .val (.int (4 : Int32)), .val (.int (144 : Int32)), .val (.int (191 : Int32)), .unset] [(.int (y0 &&& (255 : Int32)))])) _
                    refine XS.sipush X0.here hx rfl (hb hby dS_146) ?_
                    show Steps p.tables e below (s₁.setTop (mkF m 149 #[.val (.ref ar), .val (.int i0), .val (.int to), .val (.int (y0 &&& (255 : Int32))), .val (.int (4 : Int32)), .val (.int (144 : Int32)), .val (.int (191 : Int32)), .unset] [(.int (244 : Int32)), (.int (y0 &&& (255 : Int32)))])) _
                    by_cases hj149_25 : (y0 &&& (255 : Int32)) = (244 : Int32)
                    · try simp only [if_pos hj149_25] at oK
                      refine XS.icmpNo X0.here hx rfl (hb hby dS_149) rfl (XT.ii_ne_f hj149_25) ?_
                      show Steps p.tables e below (s₁.setTop (mkF m 152 #[.val (.ref ar), .val (.int i0), .val (.int to), .val (.int (y0 &&& (255 : Int32))), .val (.int (4 : Int32)), .val (.int (144 : Int32)), .val (.int (191 : Int32)), .unset] [])) _
                      refine XS.sipush X0.here hx rfl (hb hby dS_152) ?_
                      show Steps p.tables e below (s₁.setTop (mkF m 155 #[.val (.ref ar), .val (.int i0), .val (.int to), .val (.int (y0 &&& (255 : Int32))), .val (.int (4 : Int32)), .val (.int (144 : Int32)), .val (.int (191 : Int32)), .unset] [(.int (143 : Int32))])) _
                      refine XS.goto X0.here hx rfl (pc0 := 155) (pc' := 161) rfl (hb hby dS_155) (by decide) (by decide) ?_
                      show Steps p.tables e below (s₁.setTop (mkF m 161 #[.val (.ref ar), .val (.int i0), .val (.int to), .val (.int (y0 &&& (255 : Int32))), .val (.int (4 : Int32)), .val (.int (144 : Int32)), .val (.int (191 : Int32)), .unset] [(.int (143 : Int32))])) _
                      refine XS.istore X0.here hx rfl (hb hby dS_161) rfl (l' := #[.val (.ref ar), .val (.int i0), .val (.int to), .val (.int (y0 &&& (255 : Int32))), .val (.int (4 : Int32)), .val (.int (144 : Int32)), .val (.int (143 : Int32)), .unset]) rfl ?_
                      exact oK
                    · try simp only [if_neg hj149_25] at oK
                      refine XS.icmpYes X0.here hx rfl (pc0 := 149) (pc' := 158) rfl (hb hby dS_149) rfl (XT.ii_ne_t hj149_25) (by decide) (by decide) ?_
                      show Steps p.tables e below (s₁.setTop (mkF m 158 #[.val (.ref ar), .val (.int i0), .val (.int to), .val (.int (y0 &&& (255 : Int32))), .val (.int (4 : Int32)), .val (.int (144 : Int32)), .val (.int (191 : Int32)), .unset] [])) _
                      refine XS.sipush X0.here hx rfl (hb hby dS_158) ?_
                      show Steps p.tables e below (s₁.setTop (mkF m 161 #[.val (.ref ar), .val (.int i0), .val (.int to), .val (.int (y0 &&& (255 : Int32))), .val (.int (4 : Int32)), .val (.int (144 : Int32)), .val (.int (191 : Int32)), .unset] [(.int (191 : Int32))])) _
                      refine XS.istore X0.here hx rfl (hb hby dS_161) rfl (l' := #[.val (.ref ar), .val (.int i0), .val (.int to), .val (.int (y0 &&& (255 : Int32))), .val (.int (4 : Int32)), .val (.int (144 : Int32)), .val (.int (191 : Int32)), .unset]) rfl ?_
                      exact oK
                  · try simp only [if_neg hj131_24] at oK
                    refine XS.icmpYes X0.here hx rfl (pc0 := 131) (pc' := 140) rfl (hb hby dS_131) rfl (XT.ii_ne_t hj131_24) (by decide) (by decide) ?_
                    show Steps p.tables e below (s₁.setTop (mkF m 140 #[.val (.ref ar), .val (.int i0), .val (.int to), .val (.int (y0 &&& (255 : Int32))), .val (.int (4 : Int32)), .val (.int (128 : Int32)), .val (.int (191 : Int32)), .unset] [])) _
                    refine XS.sipush X0.here hx rfl (hb hby dS_140) ?_
                    show Steps p.tables e below (s₁.setTop (mkF m 143 #[.val (.ref ar), .val (.int i0), .val (.int to), .val (.int (y0 &&& (255 : Int32))), .val (.int (4 : Int32)), .val (.int (128 : Int32)), .val (.int (191 : Int32)), .unset] [(.int (128 : Int32))])) _
                    refine XS.istore X0.here hx rfl (hb hby dS_143) rfl (l' := #[.val (.ref ar), .val (.int i0), .val (.int to), .val (.int (y0 &&& (255 : Int32))), .val (.int (4 : Int32)), .val (.int (128 : Int32)), .val (.int (191 : Int32)), .unset]) rfl ?_
                    show Steps p.tables e below (s₁.setTop (mkF m 145 #[.val (.ref ar), .val (.int i0), .val (.int to), .val (.int (y0 &&& (255 : Int32))), .val (.int (4 : Int32)), .val (.int (128 : Int32)), .val (.int (191 : Int32)), .unset] [])) _
                    refine XS.iloadN X0.here hx rfl (hb hby dS_145) rfl  ?_
                    show Steps p.tables e below (s₁.setTop (mkF m 146 #[.val (.ref ar), .val (.int i0), .val (.int to), .val (.int (y0 &&& (255 : Int32))), .val (.int (4 : Int32)), .val (.int (128 : Int32)), .val (.int (191 : Int32)), .unset] [(.int (y0 &&& (255 : Int32)))])) _
                    refine XS.sipush X0.here hx rfl (hb hby dS_146) ?_
                    show Steps p.tables e below (s₁.setTop (mkF m 149 #[.val (.ref ar), .val (.int i0), .val (.int to), .val (.int (y0 &&& (255 : Int32))), .val (.int (4 : Int32)), .val (.int (128 : Int32)), .val (.int (191 : Int32)), .unset] [(.int (244 : Int32)), (.int (y0 &&& (255 : Int32)))])) _
                    by_cases hj149_26 : (y0 &&& (255 : Int32)) = (244 : Int32)
                    · try simp only [if_pos hj149_26] at oK
                      refine XS.icmpNo X0.here hx rfl (hb hby dS_149) rfl (XT.ii_ne_f hj149_26) ?_
                      show Steps p.tables e below (s₁.setTop (mkF m 152 #[.val (.ref ar), .val (.int i0), .val (.int to), .val (.int (y0 &&& (255 : Int32))), .val (.int (4 : Int32)), .val (.int (128 : Int32)), .val (.int (191 : Int32)), .unset] [])) _
                      refine XS.sipush X0.here hx rfl (hb hby dS_152) ?_
                      show Steps p.tables e below (s₁.setTop (mkF m 155 #[.val (.ref ar), .val (.int i0), .val (.int to), .val (.int (y0 &&& (255 : Int32))), .val (.int (4 : Int32)), .val (.int (128 : Int32)), .val (.int (191 : Int32)), .unset] [(.int (143 : Int32))])) _
                      refine XS.goto X0.here hx rfl (pc0 := 155) (pc' := 161) rfl (hb hby dS_155) (by decide) (by decide) ?_
                      show Steps p.tables e below (s₁.setTop (mkF m 161 #[.val (.ref ar), .val (.int i0), .val (.int to), .val (.int (y0 &&& (255 : Int32))), .val (.int (4 : Int32)), .val (.int (128 : Int32)), .val (.int (191 : Int32)), .unset] [(.int (143 : Int32))])) _
                      refine XS.istore X0.here hx rfl (hb hby dS_161) rfl (l' := #[.val (.ref ar), .val (.int i0), .val (.int to), .val (.int (y0 &&& (255 : Int32))), .val (.int (4 : Int32)), .val (.int (128 : Int32)), .val (.int (143 : Int32)), .unset]) rfl ?_
                      exact oK
                    · try simp only [if_neg hj149_26] at oK
                      refine XS.icmpYes X0.here hx rfl (pc0 := 149) (pc' := 158) rfl (hb hby dS_149) rfl (XT.ii_ne_t hj149_26) (by decide) (by decide) ?_
                      show Steps p.tables e below (s₁.setTop (mkF m 158 #[.val (.ref ar), .val (.int i0), .val (.int to), .val (.int (y0 &&& (255 : Int32))), .val (.int (4 : Int32)), .val (.int (128 : Int32)), .val (.int (191 : Int32)), .unset] [])) _
                      refine XS.sipush X0.here hx rfl (hb hby dS_158) ?_
                      show Steps p.tables e below (s₁.setTop (mkF m 161 #[.val (.ref ar), .val (.int i0), .val (.int to), .val (.int (y0 &&& (255 : Int32))), .val (.int (4 : Int32)), .val (.int (128 : Int32)), .val (.int (191 : Int32)), .unset] [(.int (191 : Int32))])) _
                      refine XS.istore X0.here hx rfl (hb hby dS_161) rfl (l' := #[.val (.ref ar), .val (.int i0), .val (.int to), .val (.int (y0 &&& (255 : Int32))), .val (.int (4 : Int32)), .val (.int (128 : Int32)), .val (.int (191 : Int32)), .unset]) rfl ?_
                      exact oK
            · try simp only [if_neg hj58_21] at oK
              refine XS.icmpNo X0.here hx rfl (hb hby dS_58) rfl (XT.ii_lt_f hj58_21) ?_
              show Steps p.tables e below (s₁.setTop (mkF m 61 #[.val (.ref ar), .val (.int i0), .val (.int to), .val (.int (y0 &&& (255 : Int32))), .val (.int (0 : Int32)), .val (.int (128 : Int32)), .val (.int (191 : Int32)), .unset] [])) _
              refine XS.iloadN X0.here hx rfl (hb hby dS_61) rfl  ?_
              show Steps p.tables e below (s₁.setTop (mkF m 62 #[.val (.ref ar), .val (.int i0), .val (.int to), .val (.int (y0 &&& (255 : Int32))), .val (.int (0 : Int32)), .val (.int (128 : Int32)), .val (.int (191 : Int32)), .unset] [(.int (y0 &&& (255 : Int32)))])) _
              refine XS.sipush X0.here hx rfl (hb hby dS_62) ?_
              show Steps p.tables e below (s₁.setTop (mkF m 65 #[.val (.ref ar), .val (.int i0), .val (.int to), .val (.int (y0 &&& (255 : Int32))), .val (.int (0 : Int32)), .val (.int (128 : Int32)), .val (.int (191 : Int32)), .unset] [(.int (239 : Int32)), (.int (y0 &&& (255 : Int32)))])) _
              by_cases hj65_27 : (239 : Int32) < (y0 &&& (255 : Int32))
              · try simp only [if_pos hj65_27] at oK
                refine XS.icmpYes X0.here hx rfl (pc0 := 65) (pc' := 110) rfl (hb hby dS_65) rfl (XT.ii_gt_t hj65_27) (by decide) (by decide) ?_
                show Steps p.tables e below (s₁.setTop (mkF m 110 #[.val (.ref ar), .val (.int i0), .val (.int to), .val (.int (y0 &&& (255 : Int32))), .val (.int (0 : Int32)), .val (.int (128 : Int32)), .val (.int (191 : Int32)), .unset] [])) _
                refine XS.iloadN X0.here hx rfl (hb hby dS_110) rfl  ?_
                show Steps p.tables e below (s₁.setTop (mkF m 111 #[.val (.ref ar), .val (.int i0), .val (.int to), .val (.int (y0 &&& (255 : Int32))), .val (.int (0 : Int32)), .val (.int (128 : Int32)), .val (.int (191 : Int32)), .unset] [(.int (y0 &&& (255 : Int32)))])) _
                refine XS.sipush X0.here hx rfl (hb hby dS_111) ?_
                show Steps p.tables e below (s₁.setTop (mkF m 114 #[.val (.ref ar), .val (.int i0), .val (.int to), .val (.int (y0 &&& (255 : Int32))), .val (.int (0 : Int32)), .val (.int (128 : Int32)), .val (.int (191 : Int32)), .unset] [(.int (240 : Int32)), (.int (y0 &&& (255 : Int32)))])) _
                by_cases hj114_28 : (y0 &&& (255 : Int32)) < (240 : Int32)
                · try simp only [if_pos hj114_28] at oK
                  refine XS.icmpYes X0.here hx rfl (pc0 := 114) (pc' := 163) rfl (hb hby dS_114) rfl (XT.ii_lt_t hj114_28) (by decide) (by decide) ?_
                  exact oK
                · try simp only [if_neg hj114_28] at oK
                  refine XS.icmpNo X0.here hx rfl (hb hby dS_114) rfl (XT.ii_lt_f hj114_28) ?_
                  show Steps p.tables e below (s₁.setTop (mkF m 117 #[.val (.ref ar), .val (.int i0), .val (.int to), .val (.int (y0 &&& (255 : Int32))), .val (.int (0 : Int32)), .val (.int (128 : Int32)), .val (.int (191 : Int32)), .unset] [])) _
                  refine XS.iloadN X0.here hx rfl (hb hby dS_117) rfl  ?_
                  show Steps p.tables e below (s₁.setTop (mkF m 118 #[.val (.ref ar), .val (.int i0), .val (.int to), .val (.int (y0 &&& (255 : Int32))), .val (.int (0 : Int32)), .val (.int (128 : Int32)), .val (.int (191 : Int32)), .unset] [(.int (y0 &&& (255 : Int32)))])) _
                  refine XS.sipush X0.here hx rfl (hb hby dS_118) ?_
                  show Steps p.tables e below (s₁.setTop (mkF m 121 #[.val (.ref ar), .val (.int i0), .val (.int to), .val (.int (y0 &&& (255 : Int32))), .val (.int (0 : Int32)), .val (.int (128 : Int32)), .val (.int (191 : Int32)), .unset] [(.int (244 : Int32)), (.int (y0 &&& (255 : Int32)))])) _
                  by_cases hj121_29 : (244 : Int32) < (y0 &&& (255 : Int32))
                  · try simp only [if_pos hj121_29] at oK
                    refine XS.icmpYes X0.here hx rfl (pc0 := 121) (pc' := 163) rfl (hb hby dS_121) rfl (XT.ii_gt_t hj121_29) (by decide) (by decide) ?_
                    exact oK
                  · try simp only [if_neg hj121_29] at oK
                    refine XS.icmpNo X0.here hx rfl (hb hby dS_121) rfl (XT.ii_gt_f hj121_29) ?_
                    show Steps p.tables e below (s₁.setTop (mkF m 124 #[.val (.ref ar), .val (.int i0), .val (.int to), .val (.int (y0 &&& (255 : Int32))), .val (.int (0 : Int32)), .val (.int (128 : Int32)), .val (.int (191 : Int32)), .unset] [])) _
                    refine XS.iconst X0.here hx rfl (hb hby dS_124) ?_
                    show Steps p.tables e below (s₁.setTop (mkF m 125 #[.val (.ref ar), .val (.int i0), .val (.int to), .val (.int (y0 &&& (255 : Int32))), .val (.int (0 : Int32)), .val (.int (128 : Int32)), .val (.int (191 : Int32)), .unset] [(.int (4 : Int32))])) _
                    refine XS.istore X0.here hx rfl (hb hby dS_125) rfl (l' := #[.val (.ref ar), .val (.int i0), .val (.int to), .val (.int (y0 &&& (255 : Int32))), .val (.int (4 : Int32)), .val (.int (128 : Int32)), .val (.int (191 : Int32)), .unset]) rfl ?_
                    show Steps p.tables e below (s₁.setTop (mkF m 127 #[.val (.ref ar), .val (.int i0), .val (.int to), .val (.int (y0 &&& (255 : Int32))), .val (.int (4 : Int32)), .val (.int (128 : Int32)), .val (.int (191 : Int32)), .unset] [])) _
                    refine XS.iloadN X0.here hx rfl (hb hby dS_127) rfl  ?_
                    show Steps p.tables e below (s₁.setTop (mkF m 128 #[.val (.ref ar), .val (.int i0), .val (.int to), .val (.int (y0 &&& (255 : Int32))), .val (.int (4 : Int32)), .val (.int (128 : Int32)), .val (.int (191 : Int32)), .unset] [(.int (y0 &&& (255 : Int32)))])) _
                    refine XS.sipush X0.here hx rfl (hb hby dS_128) ?_
                    show Steps p.tables e below (s₁.setTop (mkF m 131 #[.val (.ref ar), .val (.int i0), .val (.int to), .val (.int (y0 &&& (255 : Int32))), .val (.int (4 : Int32)), .val (.int (128 : Int32)), .val (.int (191 : Int32)), .unset] [(.int (240 : Int32)), (.int (y0 &&& (255 : Int32)))])) _
                    by_cases hj131_30 : (y0 &&& (255 : Int32)) = (240 : Int32)
                    · try simp only [if_pos hj131_30] at oK
                      refine XS.icmpNo X0.here hx rfl (hb hby dS_131) rfl (XT.ii_ne_f hj131_30) ?_
                      show Steps p.tables e below (s₁.setTop (mkF m 134 #[.val (.ref ar), .val (.int i0), .val (.int to), .val (.int (y0 &&& (255 : Int32))), .val (.int (4 : Int32)), .val (.int (128 : Int32)), .val (.int (191 : Int32)), .unset] [])) _
                      refine XS.sipush X0.here hx rfl (hb hby dS_134) ?_
                      show Steps p.tables e below (s₁.setTop (mkF m 137 #[.val (.ref ar), .val (.int i0), .val (.int to), .val (.int (y0 &&& (255 : Int32))), .val (.int (4 : Int32)), .val (.int (128 : Int32)), .val (.int (191 : Int32)), .unset] [(.int (144 : Int32))])) _
                      refine XS.goto X0.here hx rfl (pc0 := 137) (pc' := 143) rfl (hb hby dS_137) (by decide) (by decide) ?_
                      show Steps p.tables e below (s₁.setTop (mkF m 143 #[.val (.ref ar), .val (.int i0), .val (.int to), .val (.int (y0 &&& (255 : Int32))), .val (.int (4 : Int32)), .val (.int (128 : Int32)), .val (.int (191 : Int32)), .unset] [(.int (144 : Int32))])) _
                      refine XS.istore X0.here hx rfl (hb hby dS_143) rfl (l' := #[.val (.ref ar), .val (.int i0), .val (.int to), .val (.int (y0 &&& (255 : Int32))), .val (.int (4 : Int32)), .val (.int (144 : Int32)), .val (.int (191 : Int32)), .unset]) rfl ?_
                      show Steps p.tables e below (s₁.setTop (mkF m 145 #[.val (.ref ar), .val (.int i0), .val (.int to), .val (.int (y0 &&& (255 : Int32))), .val (.int (4 : Int32)), .val (.int (144 : Int32)), .val (.int (191 : Int32)), .unset] [])) _
                      refine XS.iloadN X0.here hx rfl (hb hby dS_145) rfl  ?_
                      show Steps p.tables e below (s₁.setTop (mkF m 146 #[.val (.ref ar), .val (.int i0), .val (.int to), .val (.int (y0 &&& (255 : Int32))), .val (.int (4 : Int32)), .val (.int (144 : Int32)), .val (.int (191 : Int32)), .unset] [(.int (y0 &&& (255 : Int32)))])) _
                      refine XS.sipush X0.here hx rfl (hb hby dS_146) ?_
                      show Steps p.tables e below (s₁.setTop (mkF m 149 #[.val (.ref ar), .val (.int i0), .val (.int to), .val (.int (y0 &&& (255 : Int32))), .val (.int (4 : Int32)), .val (.int (144 : Int32)), .val (.int (191 : Int32)), .unset] [(.int (244 : Int32)), (.int (y0 &&& (255 : Int32)))])) _
                      by_cases hj149_31 : (y0 &&& (255 : Int32)) = (244 : Int32)
                      · try simp only [if_pos hj149_31] at oK
                        refine XS.icmpNo X0.here hx rfl (hb hby dS_149) rfl (XT.ii_ne_f hj149_31) ?_
                        show Steps p.tables e below (s₁.setTop (mkF m 152 #[.val (.ref ar), .val (.int i0), .val (.int to), .val (.int (y0 &&& (255 : Int32))), .val (.int (4 : Int32)), .val (.int (144 : Int32)), .val (.int (191 : Int32)), .unset] [])) _
                        refine XS.sipush X0.here hx rfl (hb hby dS_152) ?_
                        show Steps p.tables e below (s₁.setTop (mkF m 155 #[.val (.ref ar), .val (.int i0), .val (.int to), .val (.int (y0 &&& (255 : Int32))), .val (.int (4 : Int32)), .val (.int (144 : Int32)), .val (.int (191 : Int32)), .unset] [(.int (143 : Int32))])) _
                        refine XS.goto X0.here hx rfl (pc0 := 155) (pc' := 161) rfl (hb hby dS_155) (by decide) (by decide) ?_
                        show Steps p.tables e below (s₁.setTop (mkF m 161 #[.val (.ref ar), .val (.int i0), .val (.int to), .val (.int (y0 &&& (255 : Int32))), .val (.int (4 : Int32)), .val (.int (144 : Int32)), .val (.int (191 : Int32)), .unset] [(.int (143 : Int32))])) _
                        refine XS.istore X0.here hx rfl (hb hby dS_161) rfl (l' := #[.val (.ref ar), .val (.int i0), .val (.int to), .val (.int (y0 &&& (255 : Int32))), .val (.int (4 : Int32)), .val (.int (144 : Int32)), .val (.int (143 : Int32)), .unset]) rfl ?_
                        exact oK
                      · try simp only [if_neg hj149_31] at oK
                        refine XS.icmpYes X0.here hx rfl (pc0 := 149) (pc' := 158) rfl (hb hby dS_149) rfl (XT.ii_ne_t hj149_31) (by decide) (by decide) ?_
                        show Steps p.tables e below (s₁.setTop (mkF m 158 #[.val (.ref ar), .val (.int i0), .val (.int to), .val (.int (y0 &&& (255 : Int32))), .val (.int (4 : Int32)), .val (.int (144 : Int32)), .val (.int (191 : Int32)), .unset] [])) _
                        refine XS.sipush X0.here hx rfl (hb hby dS_158) ?_
                        show Steps p.tables e below (s₁.setTop (mkF m 161 #[.val (.ref ar), .val (.int i0), .val (.int to), .val (.int (y0 &&& (255 : Int32))), .val (.int (4 : Int32)), .val (.int (144 : Int32)), .val (.int (191 : Int32)), .unset] [(.int (191 : Int32))])) _
                        refine XS.istore X0.here hx rfl (hb hby dS_161) rfl (l' := #[.val (.ref ar), .val (.int i0), .val (.int to), .val (.int (y0 &&& (255 : Int32))), .val (.int (4 : Int32)), .val (.int (144 : Int32)), .val (.int (191 : Int32)), .unset]) rfl ?_
                        exact oK
                    · try simp only [if_neg hj131_30] at oK
                      refine XS.icmpYes X0.here hx rfl (pc0 := 131) (pc' := 140) rfl (hb hby dS_131) rfl (XT.ii_ne_t hj131_30) (by decide) (by decide) ?_
                      show Steps p.tables e below (s₁.setTop (mkF m 140 #[.val (.ref ar), .val (.int i0), .val (.int to), .val (.int (y0 &&& (255 : Int32))), .val (.int (4 : Int32)), .val (.int (128 : Int32)), .val (.int (191 : Int32)), .unset] [])) _
                      refine XS.sipush X0.here hx rfl (hb hby dS_140) ?_
                      show Steps p.tables e below (s₁.setTop (mkF m 143 #[.val (.ref ar), .val (.int i0), .val (.int to), .val (.int (y0 &&& (255 : Int32))), .val (.int (4 : Int32)), .val (.int (128 : Int32)), .val (.int (191 : Int32)), .unset] [(.int (128 : Int32))])) _
                      refine XS.istore X0.here hx rfl (hb hby dS_143) rfl (l' := #[.val (.ref ar), .val (.int i0), .val (.int to), .val (.int (y0 &&& (255 : Int32))), .val (.int (4 : Int32)), .val (.int (128 : Int32)), .val (.int (191 : Int32)), .unset]) rfl ?_
                      show Steps p.tables e below (s₁.setTop (mkF m 145 #[.val (.ref ar), .val (.int i0), .val (.int to), .val (.int (y0 &&& (255 : Int32))), .val (.int (4 : Int32)), .val (.int (128 : Int32)), .val (.int (191 : Int32)), .unset] [])) _
                      refine XS.iloadN X0.here hx rfl (hb hby dS_145) rfl  ?_
                      show Steps p.tables e below (s₁.setTop (mkF m 146 #[.val (.ref ar), .val (.int i0), .val (.int to), .val (.int (y0 &&& (255 : Int32))), .val (.int (4 : Int32)), .val (.int (128 : Int32)), .val (.int (191 : Int32)), .unset] [(.int (y0 &&& (255 : Int32)))])) _
                      refine XS.sipush X0.here hx rfl (hb hby dS_146) ?_
                      show Steps p.tables e below (s₁.setTop (mkF m 149 #[.val (.ref ar), .val (.int i0), .val (.int to), .val (.int (y0 &&& (255 : Int32))), .val (.int (4 : Int32)), .val (.int (128 : Int32)), .val (.int (191 : Int32)), .unset] [(.int (244 : Int32)), (.int (y0 &&& (255 : Int32)))])) _
                      by_cases hj149_32 : (y0 &&& (255 : Int32)) = (244 : Int32)
                      · try simp only [if_pos hj149_32] at oK
                        refine XS.icmpNo X0.here hx rfl (hb hby dS_149) rfl (XT.ii_ne_f hj149_32) ?_
                        show Steps p.tables e below (s₁.setTop (mkF m 152 #[.val (.ref ar), .val (.int i0), .val (.int to), .val (.int (y0 &&& (255 : Int32))), .val (.int (4 : Int32)), .val (.int (128 : Int32)), .val (.int (191 : Int32)), .unset] [])) _
                        refine XS.sipush X0.here hx rfl (hb hby dS_152) ?_
                        show Steps p.tables e below (s₁.setTop (mkF m 155 #[.val (.ref ar), .val (.int i0), .val (.int to), .val (.int (y0 &&& (255 : Int32))), .val (.int (4 : Int32)), .val (.int (128 : Int32)), .val (.int (191 : Int32)), .unset] [(.int (143 : Int32))])) _
                        refine XS.goto X0.here hx rfl (pc0 := 155) (pc' := 161) rfl (hb hby dS_155) (by decide) (by decide) ?_
                        show Steps p.tables e below (s₁.setTop (mkF m 161 #[.val (.ref ar), .val (.int i0), .val (.int to), .val (.int (y0 &&& (255 : Int32))), .val (.int (4 : Int32)), .val (.int (128 : Int32)), .val (.int (191 : Int32)), .unset] [(.int (143 : Int32))])) _
                        refine XS.istore X0.here hx rfl (hb hby dS_161) rfl (l' := #[.val (.ref ar), .val (.int i0), .val (.int to), .val (.int (y0 &&& (255 : Int32))), .val (.int (4 : Int32)), .val (.int (128 : Int32)), .val (.int (143 : Int32)), .unset]) rfl ?_
                        exact oK
                      · try simp only [if_neg hj149_32] at oK
                        refine XS.icmpYes X0.here hx rfl (pc0 := 149) (pc' := 158) rfl (hb hby dS_149) rfl (XT.ii_ne_t hj149_32) (by decide) (by decide) ?_
                        show Steps p.tables e below (s₁.setTop (mkF m 158 #[.val (.ref ar), .val (.int i0), .val (.int to), .val (.int (y0 &&& (255 : Int32))), .val (.int (4 : Int32)), .val (.int (128 : Int32)), .val (.int (191 : Int32)), .unset] [])) _
                        refine XS.sipush X0.here hx rfl (hb hby dS_158) ?_
                        show Steps p.tables e below (s₁.setTop (mkF m 161 #[.val (.ref ar), .val (.int i0), .val (.int to), .val (.int (y0 &&& (255 : Int32))), .val (.int (4 : Int32)), .val (.int (128 : Int32)), .val (.int (191 : Int32)), .unset] [(.int (191 : Int32))])) _
                        refine XS.istore X0.here hx rfl (hb hby dS_161) rfl (l' := #[.val (.ref ar), .val (.int i0), .val (.int to), .val (.int (y0 &&& (255 : Int32))), .val (.int (4 : Int32)), .val (.int (128 : Int32)), .val (.int (191 : Int32)), .unset]) rfl ?_
                        exact oK
              · try simp only [if_neg hj65_27] at oK
                refine XS.icmpNo X0.here hx rfl (hb hby dS_65) rfl (XT.ii_gt_f hj65_27) ?_
                show Steps p.tables e below (s₁.setTop (mkF m 68 #[.val (.ref ar), .val (.int i0), .val (.int to), .val (.int (y0 &&& (255 : Int32))), .val (.int (0 : Int32)), .val (.int (128 : Int32)), .val (.int (191 : Int32)), .unset] [])) _
                refine XS.iconst X0.here hx rfl (hb hby dS_68) ?_
                show Steps p.tables e below (s₁.setTop (mkF m 69 #[.val (.ref ar), .val (.int i0), .val (.int to), .val (.int (y0 &&& (255 : Int32))), .val (.int (0 : Int32)), .val (.int (128 : Int32)), .val (.int (191 : Int32)), .unset] [(.int (3 : Int32))])) _
                refine XS.istore X0.here hx rfl (hb hby dS_69) rfl (l' := #[.val (.ref ar), .val (.int i0), .val (.int to), .val (.int (y0 &&& (255 : Int32))), .val (.int (3 : Int32)), .val (.int (128 : Int32)), .val (.int (191 : Int32)), .unset]) rfl ?_
                show Steps p.tables e below (s₁.setTop (mkF m 71 #[.val (.ref ar), .val (.int i0), .val (.int to), .val (.int (y0 &&& (255 : Int32))), .val (.int (3 : Int32)), .val (.int (128 : Int32)), .val (.int (191 : Int32)), .unset] [])) _
                refine XS.iloadN X0.here hx rfl (hb hby dS_71) rfl  ?_
                show Steps p.tables e below (s₁.setTop (mkF m 72 #[.val (.ref ar), .val (.int i0), .val (.int to), .val (.int (y0 &&& (255 : Int32))), .val (.int (3 : Int32)), .val (.int (128 : Int32)), .val (.int (191 : Int32)), .unset] [(.int (y0 &&& (255 : Int32)))])) _
                refine XS.sipush X0.here hx rfl (hb hby dS_72) ?_
                show Steps p.tables e below (s₁.setTop (mkF m 75 #[.val (.ref ar), .val (.int i0), .val (.int to), .val (.int (y0 &&& (255 : Int32))), .val (.int (3 : Int32)), .val (.int (128 : Int32)), .val (.int (191 : Int32)), .unset] [(.int (224 : Int32)), (.int (y0 &&& (255 : Int32)))])) _
                by_cases hj75_33 : (y0 &&& (255 : Int32)) = (224 : Int32)
                · try simp only [if_pos hj75_33] at oK
                  refine XS.icmpNo X0.here hx rfl (hb hby dS_75) rfl (XT.ii_ne_f hj75_33) ?_
                  show Steps p.tables e below (s₁.setTop (mkF m 78 #[.val (.ref ar), .val (.int i0), .val (.int to), .val (.int (y0 &&& (255 : Int32))), .val (.int (3 : Int32)), .val (.int (128 : Int32)), .val (.int (191 : Int32)), .unset] [])) _
                  refine XS.sipush X0.here hx rfl (hb hby dS_78) ?_
                  show Steps p.tables e below (s₁.setTop (mkF m 81 #[.val (.ref ar), .val (.int i0), .val (.int to), .val (.int (y0 &&& (255 : Int32))), .val (.int (3 : Int32)), .val (.int (128 : Int32)), .val (.int (191 : Int32)), .unset] [(.int (160 : Int32))])) _
                  refine XS.goto X0.here hx rfl (pc0 := 81) (pc' := 87) rfl (hb hby dS_81) (by decide) (by decide) ?_
                  show Steps p.tables e below (s₁.setTop (mkF m 87 #[.val (.ref ar), .val (.int i0), .val (.int to), .val (.int (y0 &&& (255 : Int32))), .val (.int (3 : Int32)), .val (.int (128 : Int32)), .val (.int (191 : Int32)), .unset] [(.int (160 : Int32))])) _
                  refine XS.istore X0.here hx rfl (hb hby dS_87) rfl (l' := #[.val (.ref ar), .val (.int i0), .val (.int to), .val (.int (y0 &&& (255 : Int32))), .val (.int (3 : Int32)), .val (.int (160 : Int32)), .val (.int (191 : Int32)), .unset]) rfl ?_
                  show Steps p.tables e below (s₁.setTop (mkF m 89 #[.val (.ref ar), .val (.int i0), .val (.int to), .val (.int (y0 &&& (255 : Int32))), .val (.int (3 : Int32)), .val (.int (160 : Int32)), .val (.int (191 : Int32)), .unset] [])) _
                  refine XS.iloadN X0.here hx rfl (hb hby dS_89) rfl  ?_
                  show Steps p.tables e below (s₁.setTop (mkF m 90 #[.val (.ref ar), .val (.int i0), .val (.int to), .val (.int (y0 &&& (255 : Int32))), .val (.int (3 : Int32)), .val (.int (160 : Int32)), .val (.int (191 : Int32)), .unset] [(.int (y0 &&& (255 : Int32)))])) _
                  refine XS.sipush X0.here hx rfl (hb hby dS_90) ?_
                  show Steps p.tables e below (s₁.setTop (mkF m 93 #[.val (.ref ar), .val (.int i0), .val (.int to), .val (.int (y0 &&& (255 : Int32))), .val (.int (3 : Int32)), .val (.int (160 : Int32)), .val (.int (191 : Int32)), .unset] [(.int (237 : Int32)), (.int (y0 &&& (255 : Int32)))])) _
                  by_cases hj93_34 : (y0 &&& (255 : Int32)) = (237 : Int32)
                  · try simp only [if_pos hj93_34] at oK
                    refine XS.icmpNo X0.here hx rfl (hb hby dS_93) rfl (XT.ii_ne_f hj93_34) ?_
                    show Steps p.tables e below (s₁.setTop (mkF m 96 #[.val (.ref ar), .val (.int i0), .val (.int to), .val (.int (y0 &&& (255 : Int32))), .val (.int (3 : Int32)), .val (.int (160 : Int32)), .val (.int (191 : Int32)), .unset] [])) _
                    refine XS.sipush X0.here hx rfl (hb hby dS_96) ?_
                    show Steps p.tables e below (s₁.setTop (mkF m 99 #[.val (.ref ar), .val (.int i0), .val (.int to), .val (.int (y0 &&& (255 : Int32))), .val (.int (3 : Int32)), .val (.int (160 : Int32)), .val (.int (191 : Int32)), .unset] [(.int (159 : Int32))])) _
                    refine XS.goto X0.here hx rfl (pc0 := 99) (pc' := 105) rfl (hb hby dS_99) (by decide) (by decide) ?_
                    show Steps p.tables e below (s₁.setTop (mkF m 105 #[.val (.ref ar), .val (.int i0), .val (.int to), .val (.int (y0 &&& (255 : Int32))), .val (.int (3 : Int32)), .val (.int (160 : Int32)), .val (.int (191 : Int32)), .unset] [(.int (159 : Int32))])) _
                    refine XS.istore X0.here hx rfl (hb hby dS_105) rfl (l' := #[.val (.ref ar), .val (.int i0), .val (.int to), .val (.int (y0 &&& (255 : Int32))), .val (.int (3 : Int32)), .val (.int (160 : Int32)), .val (.int (159 : Int32)), .unset]) rfl ?_
                    show Steps p.tables e below (s₁.setTop (mkF m 107 #[.val (.ref ar), .val (.int i0), .val (.int to), .val (.int (y0 &&& (255 : Int32))), .val (.int (3 : Int32)), .val (.int (160 : Int32)), .val (.int (159 : Int32)), .unset] [])) _
                    refine XS.goto X0.here hx rfl (pc0 := 107) (pc' := 163) rfl (hb hby dS_107) (by decide) (by decide) ?_
                    exact oK
                  · try simp only [if_neg hj93_34] at oK
                    refine XS.icmpYes X0.here hx rfl (pc0 := 93) (pc' := 102) rfl (hb hby dS_93) rfl (XT.ii_ne_t hj93_34) (by decide) (by decide) ?_
                    show Steps p.tables e below (s₁.setTop (mkF m 102 #[.val (.ref ar), .val (.int i0), .val (.int to), .val (.int (y0 &&& (255 : Int32))), .val (.int (3 : Int32)), .val (.int (160 : Int32)), .val (.int (191 : Int32)), .unset] [])) _
                    refine XS.sipush X0.here hx rfl (hb hby dS_102) ?_
                    show Steps p.tables e below (s₁.setTop (mkF m 105 #[.val (.ref ar), .val (.int i0), .val (.int to), .val (.int (y0 &&& (255 : Int32))), .val (.int (3 : Int32)), .val (.int (160 : Int32)), .val (.int (191 : Int32)), .unset] [(.int (191 : Int32))])) _
                    refine XS.istore X0.here hx rfl (hb hby dS_105) rfl (l' := #[.val (.ref ar), .val (.int i0), .val (.int to), .val (.int (y0 &&& (255 : Int32))), .val (.int (3 : Int32)), .val (.int (160 : Int32)), .val (.int (191 : Int32)), .unset]) rfl ?_
                    show Steps p.tables e below (s₁.setTop (mkF m 107 #[.val (.ref ar), .val (.int i0), .val (.int to), .val (.int (y0 &&& (255 : Int32))), .val (.int (3 : Int32)), .val (.int (160 : Int32)), .val (.int (191 : Int32)), .unset] [])) _
                    refine XS.goto X0.here hx rfl (pc0 := 107) (pc' := 163) rfl (hb hby dS_107) (by decide) (by decide) ?_
                    exact oK
                · try simp only [if_neg hj75_33] at oK
                  refine XS.icmpYes X0.here hx rfl (pc0 := 75) (pc' := 84) rfl (hb hby dS_75) rfl (XT.ii_ne_t hj75_33) (by decide) (by decide) ?_
                  show Steps p.tables e below (s₁.setTop (mkF m 84 #[.val (.ref ar), .val (.int i0), .val (.int to), .val (.int (y0 &&& (255 : Int32))), .val (.int (3 : Int32)), .val (.int (128 : Int32)), .val (.int (191 : Int32)), .unset] [])) _
                  refine XS.sipush X0.here hx rfl (hb hby dS_84) ?_
                  show Steps p.tables e below (s₁.setTop (mkF m 87 #[.val (.ref ar), .val (.int i0), .val (.int to), .val (.int (y0 &&& (255 : Int32))), .val (.int (3 : Int32)), .val (.int (128 : Int32)), .val (.int (191 : Int32)), .unset] [(.int (128 : Int32))])) _
                  refine XS.istore X0.here hx rfl (hb hby dS_87) rfl (l' := #[.val (.ref ar), .val (.int i0), .val (.int to), .val (.int (y0 &&& (255 : Int32))), .val (.int (3 : Int32)), .val (.int (128 : Int32)), .val (.int (191 : Int32)), .unset]) rfl ?_
                  show Steps p.tables e below (s₁.setTop (mkF m 89 #[.val (.ref ar), .val (.int i0), .val (.int to), .val (.int (y0 &&& (255 : Int32))), .val (.int (3 : Int32)), .val (.int (128 : Int32)), .val (.int (191 : Int32)), .unset] [])) _
                  refine XS.iloadN X0.here hx rfl (hb hby dS_89) rfl  ?_
                  show Steps p.tables e below (s₁.setTop (mkF m 90 #[.val (.ref ar), .val (.int i0), .val (.int to), .val (.int (y0 &&& (255 : Int32))), .val (.int (3 : Int32)), .val (.int (128 : Int32)), .val (.int (191 : Int32)), .unset] [(.int (y0 &&& (255 : Int32)))])) _
                  refine XS.sipush X0.here hx rfl (hb hby dS_90) ?_
                  show Steps p.tables e below (s₁.setTop (mkF m 93 #[.val (.ref ar), .val (.int i0), .val (.int to), .val (.int (y0 &&& (255 : Int32))), .val (.int (3 : Int32)), .val (.int (128 : Int32)), .val (.int (191 : Int32)), .unset] [(.int (237 : Int32)), (.int (y0 &&& (255 : Int32)))])) _
                  by_cases hj93_35 : (y0 &&& (255 : Int32)) = (237 : Int32)
                  · try simp only [if_pos hj93_35] at oK
                    refine XS.icmpNo X0.here hx rfl (hb hby dS_93) rfl (XT.ii_ne_f hj93_35) ?_
                    show Steps p.tables e below (s₁.setTop (mkF m 96 #[.val (.ref ar), .val (.int i0), .val (.int to), .val (.int (y0 &&& (255 : Int32))), .val (.int (3 : Int32)), .val (.int (128 : Int32)), .val (.int (191 : Int32)), .unset] [])) _
                    refine XS.sipush X0.here hx rfl (hb hby dS_96) ?_
                    show Steps p.tables e below (s₁.setTop (mkF m 99 #[.val (.ref ar), .val (.int i0), .val (.int to), .val (.int (y0 &&& (255 : Int32))), .val (.int (3 : Int32)), .val (.int (128 : Int32)), .val (.int (191 : Int32)), .unset] [(.int (159 : Int32))])) _
                    refine XS.goto X0.here hx rfl (pc0 := 99) (pc' := 105) rfl (hb hby dS_99) (by decide) (by decide) ?_
                    show Steps p.tables e below (s₁.setTop (mkF m 105 #[.val (.ref ar), .val (.int i0), .val (.int to), .val (.int (y0 &&& (255 : Int32))), .val (.int (3 : Int32)), .val (.int (128 : Int32)), .val (.int (191 : Int32)), .unset] [(.int (159 : Int32))])) _
                    refine XS.istore X0.here hx rfl (hb hby dS_105) rfl (l' := #[.val (.ref ar), .val (.int i0), .val (.int to), .val (.int (y0 &&& (255 : Int32))), .val (.int (3 : Int32)), .val (.int (128 : Int32)), .val (.int (159 : Int32)), .unset]) rfl ?_
                    show Steps p.tables e below (s₁.setTop (mkF m 107 #[.val (.ref ar), .val (.int i0), .val (.int to), .val (.int (y0 &&& (255 : Int32))), .val (.int (3 : Int32)), .val (.int (128 : Int32)), .val (.int (159 : Int32)), .unset] [])) _
                    refine XS.goto X0.here hx rfl (pc0 := 107) (pc' := 163) rfl (hb hby dS_107) (by decide) (by decide) ?_
                    exact oK
                  · try simp only [if_neg hj93_35] at oK
                    refine XS.icmpYes X0.here hx rfl (pc0 := 93) (pc' := 102) rfl (hb hby dS_93) rfl (XT.ii_ne_t hj93_35) (by decide) (by decide) ?_
                    show Steps p.tables e below (s₁.setTop (mkF m 102 #[.val (.ref ar), .val (.int i0), .val (.int to), .val (.int (y0 &&& (255 : Int32))), .val (.int (3 : Int32)), .val (.int (128 : Int32)), .val (.int (191 : Int32)), .unset] [])) _
                    refine XS.sipush X0.here hx rfl (hb hby dS_102) ?_
                    show Steps p.tables e below (s₁.setTop (mkF m 105 #[.val (.ref ar), .val (.int i0), .val (.int to), .val (.int (y0 &&& (255 : Int32))), .val (.int (3 : Int32)), .val (.int (128 : Int32)), .val (.int (191 : Int32)), .unset] [(.int (191 : Int32))])) _
                    refine XS.istore X0.here hx rfl (hb hby dS_105) rfl (l' := #[.val (.ref ar), .val (.int i0), .val (.int to), .val (.int (y0 &&& (255 : Int32))), .val (.int (3 : Int32)), .val (.int (128 : Int32)), .val (.int (191 : Int32)), .unset]) rfl ?_
                    show Steps p.tables e below (s₁.setTop (mkF m 107 #[.val (.ref ar), .val (.int i0), .val (.int to), .val (.int (y0 &&& (255 : Int32))), .val (.int (3 : Int32)), .val (.int (128 : Int32)), .val (.int (191 : Int32)), .unset] [])) _
                    refine XS.goto X0.here hx rfl (pc0 := 107) (pc' := 163) rfl (hb hby dS_107) (by decide) (by decide) ?_
                    exact oK
          · try simp only [if_neg hj45_20] at oK
            refine XS.icmpNo X0.here hx rfl (hb hby dS_45) rfl (XT.ii_gt_f hj45_20) ?_
            show Steps p.tables e below (s₁.setTop (mkF m 48 #[.val (.ref ar), .val (.int i0), .val (.int to), .val (.int (y0 &&& (255 : Int32))), .val (.int (0 : Int32)), .val (.int (128 : Int32)), .val (.int (191 : Int32)), .unset] [])) _
            refine XS.iconst X0.here hx rfl (hb hby dS_48) ?_
            show Steps p.tables e below (s₁.setTop (mkF m 49 #[.val (.ref ar), .val (.int i0), .val (.int to), .val (.int (y0 &&& (255 : Int32))), .val (.int (0 : Int32)), .val (.int (128 : Int32)), .val (.int (191 : Int32)), .unset] [(.int (2 : Int32))])) _
            refine XS.istore X0.here hx rfl (hb hby dS_49) rfl (l' := #[.val (.ref ar), .val (.int i0), .val (.int to), .val (.int (y0 &&& (255 : Int32))), .val (.int (2 : Int32)), .val (.int (128 : Int32)), .val (.int (191 : Int32)), .unset]) rfl ?_
            show Steps p.tables e below (s₁.setTop (mkF m 51 #[.val (.ref ar), .val (.int i0), .val (.int to), .val (.int (y0 &&& (255 : Int32))), .val (.int (2 : Int32)), .val (.int (128 : Int32)), .val (.int (191 : Int32)), .unset] [])) _
            refine XS.goto X0.here hx rfl (pc0 := 51) (pc' := 163) rfl (hb hby dS_51) (by decide) (by decide) ?_
            exact oK
    exact oK
  show OG _ _ _ _ _ _ _ (s₁.setTop (mkF m 163 #[.val (.ref ar), .val (.int i0), .val (.int to), .val (.int (y0 &&& (255 : Int32))), .val (.int (if (y0 &&& (255 : Int32)) < (128 : Int32) then (1 : Int32) else (if (y0 &&& (255 : Int32)) < (194 : Int32) then (if (y0 &&& (255 : Int32)) < (224 : Int32) then (if (y0 &&& (255 : Int32)) < (240 : Int32) then (0 : Int32) else (if (244 : Int32) < (y0 &&& (255 : Int32)) then (0 : Int32) else (4 : Int32))) else (if (239 : Int32) < (y0 &&& (255 : Int32)) then (if (y0 &&& (255 : Int32)) < (240 : Int32) then (0 : Int32) else (if (244 : Int32) < (y0 &&& (255 : Int32)) then (0 : Int32) else (4 : Int32))) else (3 : Int32))) else (if (223 : Int32) < (y0 &&& (255 : Int32)) then (if (y0 &&& (255 : Int32)) < (224 : Int32) then (if (y0 &&& (255 : Int32)) < (240 : Int32) then (0 : Int32) else (if (244 : Int32) < (y0 &&& (255 : Int32)) then (0 : Int32) else (4 : Int32))) else (if (239 : Int32) < (y0 &&& (255 : Int32)) then (if (y0 &&& (255 : Int32)) < (240 : Int32) then (0 : Int32) else (if (244 : Int32) < (y0 &&& (255 : Int32)) then (0 : Int32) else (4 : Int32))) else (3 : Int32))) else (2 : Int32))))), .val (.int (if (y0 &&& (255 : Int32)) < (128 : Int32) then (128 : Int32) else (if (y0 &&& (255 : Int32)) < (194 : Int32) then (if (y0 &&& (255 : Int32)) < (224 : Int32) then (if (y0 &&& (255 : Int32)) < (240 : Int32) then (128 : Int32) else (if (244 : Int32) < (y0 &&& (255 : Int32)) then (128 : Int32) else (if (y0 &&& (255 : Int32)) = (240 : Int32) then (144 : Int32) else (128 : Int32)))) else (if (239 : Int32) < (y0 &&& (255 : Int32)) then (if (y0 &&& (255 : Int32)) < (240 : Int32) then (128 : Int32) else (if (244 : Int32) < (y0 &&& (255 : Int32)) then (128 : Int32) else (if (y0 &&& (255 : Int32)) = (240 : Int32) then (144 : Int32) else (128 : Int32)))) else (if (y0 &&& (255 : Int32)) = (224 : Int32) then (160 : Int32) else (128 : Int32)))) else (if (223 : Int32) < (y0 &&& (255 : Int32)) then (if (y0 &&& (255 : Int32)) < (224 : Int32) then (if (y0 &&& (255 : Int32)) < (240 : Int32) then (128 : Int32) else (if (244 : Int32) < (y0 &&& (255 : Int32)) then (128 : Int32) else (if (y0 &&& (255 : Int32)) = (240 : Int32) then (144 : Int32) else (128 : Int32)))) else (if (239 : Int32) < (y0 &&& (255 : Int32)) then (if (y0 &&& (255 : Int32)) < (240 : Int32) then (128 : Int32) else (if (244 : Int32) < (y0 &&& (255 : Int32)) then (128 : Int32) else (if (y0 &&& (255 : Int32)) = (240 : Int32) then (144 : Int32) else (128 : Int32)))) else (if (y0 &&& (255 : Int32)) = (224 : Int32) then (160 : Int32) else (128 : Int32)))) else (128 : Int32))))), .val (.int (if (y0 &&& (255 : Int32)) < (128 : Int32) then (191 : Int32) else (if (y0 &&& (255 : Int32)) < (194 : Int32) then (if (y0 &&& (255 : Int32)) < (224 : Int32) then (if (y0 &&& (255 : Int32)) < (240 : Int32) then (191 : Int32) else (if (244 : Int32) < (y0 &&& (255 : Int32)) then (191 : Int32) else (if (y0 &&& (255 : Int32)) = (244 : Int32) then (143 : Int32) else (191 : Int32)))) else (if (239 : Int32) < (y0 &&& (255 : Int32)) then (if (y0 &&& (255 : Int32)) < (240 : Int32) then (191 : Int32) else (if (244 : Int32) < (y0 &&& (255 : Int32)) then (191 : Int32) else (if (y0 &&& (255 : Int32)) = (244 : Int32) then (143 : Int32) else (191 : Int32)))) else (if (y0 &&& (255 : Int32)) = (237 : Int32) then (159 : Int32) else (191 : Int32)))) else (if (223 : Int32) < (y0 &&& (255 : Int32)) then (if (y0 &&& (255 : Int32)) < (224 : Int32) then (if (y0 &&& (255 : Int32)) < (240 : Int32) then (191 : Int32) else (if (244 : Int32) < (y0 &&& (255 : Int32)) then (191 : Int32) else (if (y0 &&& (255 : Int32)) = (244 : Int32) then (143 : Int32) else (191 : Int32)))) else (if (239 : Int32) < (y0 &&& (255 : Int32)) then (if (y0 &&& (255 : Int32)) < (240 : Int32) then (191 : Int32) else (if (244 : Int32) < (y0 &&& (255 : Int32)) then (191 : Int32) else (if (y0 &&& (255 : Int32)) = (244 : Int32) then (143 : Int32) else (191 : Int32)))) else (if (y0 &&& (255 : Int32)) = (237 : Int32) then (159 : Int32) else (191 : Int32)))) else (191 : Int32))))), .unset] []))
  show OG _ _ _ _ _ _ _ (s₁.setTop (mkF m 163 #[.val (.ref ar), .val (.int i0), .val (.int to), .val (.int (y0 &&& (255 : Int32))), .val (.int (own_need y0)), .val (.int (own_lo y0)), .val (.int (own_hi y0)), .unset] []))
  refine OG.of (A := s₁.setTop (mkF m 165 #[.val (.ref ar), .val (.int i0), .val (.int to), .val (.int (y0 &&& (255 : Int32))), .val (.int (own_need y0)), .val (.int (own_lo y0)), .val (.int (own_hi y0)), .unset] [(.int (own_need y0))])) (fun oT oK => ?_) ?_
  · show Steps p.tables e below (s₁.setTop (mkF m 163 #[.val (.ref ar), .val (.int i0), .val (.int to), .val (.int (y0 &&& (255 : Int32))), .val (.int (own_need y0)), .val (.int (own_lo y0)), .val (.int (own_hi y0)), .unset] [])) oT
    refine XS.iload X0.here hx rfl (hb hby dS_163) rfl  ?_
    exact oK
  show OG _ _ _ _ _ _ _ (s₁.setTop (mkF m 165 #[.val (.ref ar), .val (.int i0), .val (.int to), .val (.int (y0 &&& (255 : Int32))), .val (.int (own_need y0)), .val (.int (own_lo y0)), .val (.int (own_hi y0)), .unset] [(.int (own_need y0))]))
  by_cases hc165_36 : (own_need y0) = (0 : Int32)
  · refine OG.of (fun oT oK => XS.ifYes X0.here hx rfl (pc0 := 165) (pc' := 176) rfl (hb hby dS_165) rfl (XT.i0_eq_t hc165_36) (by decide) (by decide) oK) ?_
    show OG _ _ _ _ _ _ _ (s₁.setTop (mkF m 176 #[.val (.ref ar), .val (.int i0), .val (.int to), .val (.int (y0 &&& (255 : Int32))), .val (.int (own_need y0)), .val (.int (own_lo y0)), .val (.int (own_hi y0)), .unset] []))
    refine OG.of (A := s₁.setTop (mkF m 177 #[.val (.ref ar), .val (.int i0), .val (.int to), .val (.int (y0 &&& (255 : Int32))), .val (.int (own_need y0)), .val (.int (own_lo y0)), .val (.int (own_hi y0)), .unset] [(.int (0 : Int32))])) (fun oT oK => ?_) ?_
    · show Steps p.tables e below (s₁.setTop (mkF m 176 #[.val (.ref ar), .val (.int i0), .val (.int to), .val (.int (y0 &&& (255 : Int32))), .val (.int (own_need y0)), .val (.int (own_lo y0)), .val (.int (own_hi y0)), .unset] [])) oT
      refine XS.iconst X0.here hx rfl (hb hby dS_176) ?_
      exact oK
    show OG _ _ _ _ _ _ _ (s₁.setTop (mkF m 177 #[.val (.ref ar), .val (.int i0), .val (.int to), .val (.int (y0 &&& (255 : Int32))), .val (.int (own_need y0)), .val (.int (own_lo y0)), .val (.int (own_hi y0)), .unset] [(.int (0 : Int32))]))
    refine OG.retI X0 hx Bd.returns (hb hby dS_177) hlk ?_ (by decide) (by decide)
    try rw [e0]
    exact ⟨by rw [own_seq, if_pos hc165_36] <;> rfl, N0, rfl⟩
  · refine OG.of (fun oT oK => XS.ifNo X0.here hx rfl (hb hby dS_165) rfl (XT.i0_eq_f hc165_36) oK) ?_
    show OG _ _ _ _ _ _ _ (s₁.setTop (mkF m 168 #[.val (.ref ar), .val (.int i0), .val (.int to), .val (.int (y0 &&& (255 : Int32))), .val (.int (own_need y0)), .val (.int (own_lo y0)), .val (.int (own_hi y0)), .unset] []))
    refine OG.of (A := s₁.setTop (mkF m 173 #[.val (.ref ar), .val (.int i0), .val (.int to), .val (.int (y0 &&& (255 : Int32))), .val (.int (own_need y0)), .val (.int (own_lo y0)), .val (.int (own_hi y0)), .unset] [(.int (own_need y0)), (.int (to - i0))])) (fun oT oK => ?_) ?_
    · show Steps p.tables e below (s₁.setTop (mkF m 168 #[.val (.ref ar), .val (.int i0), .val (.int to), .val (.int (y0 &&& (255 : Int32))), .val (.int (own_need y0)), .val (.int (own_lo y0)), .val (.int (own_hi y0)), .unset] [])) oT
      refine XS.iloadN X0.here hx rfl (hb hby dS_168) rfl  ?_
      show Steps p.tables e below (s₁.setTop (mkF m 169 #[.val (.ref ar), .val (.int i0), .val (.int to), .val (.int (y0 &&& (255 : Int32))), .val (.int (own_need y0)), .val (.int (own_lo y0)), .val (.int (own_hi y0)), .unset] [(.int to)])) _
      refine XS.iloadN X0.here hx rfl (hb hby dS_169) rfl  ?_
      show Steps p.tables e below (s₁.setTop (mkF m 170 #[.val (.ref ar), .val (.int i0), .val (.int to), .val (.int (y0 &&& (255 : Int32))), .val (.int (own_need y0)), .val (.int (own_lo y0)), .val (.int (own_hi y0)), .unset] [(.int i0), (.int to)])) _
      refine XS.isub X0.here hx rfl (hb hby dS_170) rfl ?_
      show Steps p.tables e below (s₁.setTop (mkF m 171 #[.val (.ref ar), .val (.int i0), .val (.int to), .val (.int (y0 &&& (255 : Int32))), .val (.int (own_need y0)), .val (.int (own_lo y0)), .val (.int (own_hi y0)), .unset] [(.int (to - i0))])) _
      refine XS.iload X0.here hx rfl (hb hby dS_171) rfl  ?_
      exact oK
    show OG _ _ _ _ _ _ _ (s₁.setTop (mkF m 173 #[.val (.ref ar), .val (.int i0), .val (.int to), .val (.int (y0 &&& (255 : Int32))), .val (.int (own_need y0)), .val (.int (own_lo y0)), .val (.int (own_hi y0)), .unset] [(.int (own_need y0)), (.int (to - i0))]))
    by_cases hc173_37 : (to - i0) < (own_need y0)
    · refine OG.of (fun oT oK => XS.icmpNo X0.here hx rfl (hb hby dS_173) rfl (XT.ii_ge_f hc173_37) oK) ?_
      show OG _ _ _ _ _ _ _ (s₁.setTop (mkF m 176 #[.val (.ref ar), .val (.int i0), .val (.int to), .val (.int (y0 &&& (255 : Int32))), .val (.int (own_need y0)), .val (.int (own_lo y0)), .val (.int (own_hi y0)), .unset] []))
      refine OG.of (A := s₁.setTop (mkF m 177 #[.val (.ref ar), .val (.int i0), .val (.int to), .val (.int (y0 &&& (255 : Int32))), .val (.int (own_need y0)), .val (.int (own_lo y0)), .val (.int (own_hi y0)), .unset] [(.int (0 : Int32))])) (fun oT oK => ?_) ?_
      · show Steps p.tables e below (s₁.setTop (mkF m 176 #[.val (.ref ar), .val (.int i0), .val (.int to), .val (.int (y0 &&& (255 : Int32))), .val (.int (own_need y0)), .val (.int (own_lo y0)), .val (.int (own_hi y0)), .unset] [])) oT
        refine XS.iconst X0.here hx rfl (hb hby dS_176) ?_
        exact oK
      show OG _ _ _ _ _ _ _ (s₁.setTop (mkF m 177 #[.val (.ref ar), .val (.int i0), .val (.int to), .val (.int (y0 &&& (255 : Int32))), .val (.int (own_need y0)), .val (.int (own_lo y0)), .val (.int (own_hi y0)), .unset] [(.int (0 : Int32))]))
      refine OG.retI X0 hx Bd.returns (hb hby dS_177) hlk ?_ (by decide) (by decide)
      try rw [e0]
      exact ⟨by rw [own_seq, if_neg hc165_36, if_pos hc173_37] <;> rfl, N0, rfl⟩
    · refine OG.of (fun oT oK => XS.icmpYes X0.here hx rfl (pc0 := 173) (pc' := 178) rfl (hb hby dS_173) rfl (XT.ii_ge_t hc173_37) (by decide) (by decide) oK) ?_
      show OG _ _ _ _ _ _ _ (s₁.setTop (mkF m 178 #[.val (.ref ar), .val (.int i0), .val (.int to), .val (.int (y0 &&& (255 : Int32))), .val (.int (own_need y0)), .val (.int (own_lo y0)), .val (.int (own_hi y0)), .unset] []))
      refine OG.of (A := s₁.setTop (mkF m 181 #[.val (.ref ar), .val (.int i0), .val (.int to), .val (.int (y0 &&& (255 : Int32))), .val (.int (own_need y0)), .val (.int (own_lo y0)), .val (.int (own_hi y0)), .unset] [(.int (1 : Int32)), (.int (own_need y0))])) (fun oT oK => ?_) ?_
      · show Steps p.tables e below (s₁.setTop (mkF m 178 #[.val (.ref ar), .val (.int i0), .val (.int to), .val (.int (y0 &&& (255 : Int32))), .val (.int (own_need y0)), .val (.int (own_lo y0)), .val (.int (own_hi y0)), .unset] [])) oT
        refine XS.iload X0.here hx rfl (hb hby dS_178) rfl  ?_
        show Steps p.tables e below (s₁.setTop (mkF m 180 #[.val (.ref ar), .val (.int i0), .val (.int to), .val (.int (y0 &&& (255 : Int32))), .val (.int (own_need y0)), .val (.int (own_lo y0)), .val (.int (own_hi y0)), .unset] [(.int (own_need y0))])) _
        refine XS.iconst X0.here hx rfl (hb hby dS_180) ?_
        exact oK
      show OG _ _ _ _ _ _ _ (s₁.setTop (mkF m 181 #[.val (.ref ar), .val (.int i0), .val (.int to), .val (.int (y0 &&& (255 : Int32))), .val (.int (own_need y0)), .val (.int (own_lo y0)), .val (.int (own_hi y0)), .unset] [(.int (1 : Int32)), (.int (own_need y0))]))
      by_cases hc181_38 : (1 : Int32) < (own_need y0)
      · refine OG.of (fun oT oK => XS.icmpNo X0.here hx rfl (hb hby dS_181) rfl (XT.ii_le_f hc181_38) oK) ?_
        show OG _ _ _ _ _ _ _ (s₁.setTop (mkF m 184 #[.val (.ref ar), .val (.int i0), .val (.int to), .val (.int (y0 &&& (255 : Int32))), .val (.int (own_need y0)), .val (.int (own_lo y0)), .val (.int (own_hi y0)), .unset] []))
        refine OG.of (A := s₁.setTop (mkF m 188 #[.val (.ref ar), .val (.int i0), .val (.int to), .val (.int (y0 &&& (255 : Int32))), .val (.int (own_need y0)), .val (.int (own_lo y0)), .val (.int (own_hi y0)), .unset] [(.int (i0 + (1 : Int32))), (.ref ar)])) (fun oT oK => ?_) ?_
        · show Steps p.tables e below (s₁.setTop (mkF m 184 #[.val (.ref ar), .val (.int i0), .val (.int to), .val (.int (y0 &&& (255 : Int32))), .val (.int (own_need y0)), .val (.int (own_lo y0)), .val (.int (own_hi y0)), .unset] [])) oT
          refine XS.aloadN X0.here hx rfl (hb hby dS_184) rfl rfl  ?_
          show Steps p.tables e below (s₁.setTop (mkF m 185 #[.val (.ref ar), .val (.int i0), .val (.int to), .val (.int (y0 &&& (255 : Int32))), .val (.int (own_need y0)), .val (.int (own_lo y0)), .val (.int (own_hi y0)), .unset] [(.ref ar)])) _
          refine XS.iloadN X0.here hx rfl (hb hby dS_185) rfl  ?_
          show Steps p.tables e below (s₁.setTop (mkF m 186 #[.val (.ref ar), .val (.int i0), .val (.int to), .val (.int (y0 &&& (255 : Int32))), .val (.int (own_need y0)), .val (.int (own_lo y0)), .val (.int (own_hi y0)), .unset] [(.int i0), (.ref ar)])) _
          refine XS.iconst X0.here hx rfl (hb hby dS_186) ?_
          show Steps p.tables e below (s₁.setTop (mkF m 187 #[.val (.ref ar), .val (.int i0), .val (.int to), .val (.int (y0 &&& (255 : Int32))), .val (.int (own_need y0)), .val (.int (own_lo y0)), .val (.int (own_hi y0)), .unset] [(.int (1 : Int32)), (.int i0), (.ref ar)])) _
          refine XS.iadd X0.here hx rfl (hb hby dS_187) rfl ?_
          exact oK
        show OG _ _ _ _ _ _ _ (s₁.setTop (mkF m 188 #[.val (.ref ar), .val (.int i0), .val (.int to), .val (.int (y0 &&& (255 : Int32))), .val (.int (own_need y0)), .val (.int (own_lo y0)), .val (.int (own_hi y0)), .unset] [(.int (i0 + (1 : Int32))), (.ref ar)]))
        have cf39 := R1
        obtain ⟨clf39, Arf39, If39, Hf39⟩ := cf39
        refine OG.of (X0.baloadBytes hx (j := (i0 + (1 : Int32))) (v := (.int y1)) (by rw [e0]; exact Arf39.1) (State.isArrayOf_alike hZ.alike Arf39.2.1) Arf39.2.2 If39 Hf39 (g := (mkF m 188 #[.val (.ref ar), .val (.int i0), .val (.int to), .val (.int (y0 &&& (255 : Int32))), .val (.int (own_need y0)), .val (.int (own_lo y0)), .val (.int (own_hi y0)), .unset] [(.int (i0 + (1 : Int32))), (.ref ar)])) rfl rfl (hb hby dS_188)) ?_
        show OG _ _ _ _ _ _ _ (s₁.setTop (mkF m 189 #[.val (.ref ar), .val (.int i0), .val (.int to), .val (.int (y0 &&& (255 : Int32))), .val (.int (own_need y0)), .val (.int (own_lo y0)), .val (.int (own_hi y0)), .unset] [(.int y1)]))
        refine OG.of (A := s₁.setTop (mkF m 195 #[.val (.ref ar), .val (.int i0), .val (.int to), .val (.int (y0 &&& (255 : Int32))), .val (.int (own_need y0)), .val (.int (own_lo y0)), .val (.int (own_hi y0)), .unset] [(.int (own_lo y0)), (.int (y1 &&& (255 : Int32)))])) (fun oT oK => ?_) ?_
        · show Steps p.tables e below (s₁.setTop (mkF m 189 #[.val (.ref ar), .val (.int i0), .val (.int to), .val (.int (y0 &&& (255 : Int32))), .val (.int (own_need y0)), .val (.int (own_lo y0)), .val (.int (own_hi y0)), .unset] [(.int y1)])) oT
          refine XS.sipush X0.here hx rfl (hb hby dS_189) ?_
          show Steps p.tables e below (s₁.setTop (mkF m 192 #[.val (.ref ar), .val (.int i0), .val (.int to), .val (.int (y0 &&& (255 : Int32))), .val (.int (own_need y0)), .val (.int (own_lo y0)), .val (.int (own_hi y0)), .unset] [(.int (255 : Int32)), (.int y1)])) _
          refine XS.iand X0.here hx rfl (hb hby dS_192) rfl ?_
          show Steps p.tables e below (s₁.setTop (mkF m 193 #[.val (.ref ar), .val (.int i0), .val (.int to), .val (.int (y0 &&& (255 : Int32))), .val (.int (own_need y0)), .val (.int (own_lo y0)), .val (.int (own_hi y0)), .unset] [(.int (y1 &&& (255 : Int32)))])) _
          refine XS.iload X0.here hx rfl (hb hby dS_193) rfl  ?_
          exact oK
        show OG _ _ _ _ _ _ _ (s₁.setTop (mkF m 195 #[.val (.ref ar), .val (.int i0), .val (.int to), .val (.int (y0 &&& (255 : Int32))), .val (.int (own_need y0)), .val (.int (own_lo y0)), .val (.int (own_hi y0)), .unset] [(.int (own_lo y0)), (.int (y1 &&& (255 : Int32)))]))
        by_cases hc195_40 : (y1 &&& (255 : Int32)) < (own_lo y0)
        · refine OG.of (fun oT oK => XS.icmpYes X0.here hx rfl (pc0 := 195) (pc' := 212) rfl (hb hby dS_195) rfl (XT.ii_lt_t hc195_40) (by decide) (by decide) oK) ?_
          show OG _ _ _ _ _ _ _ (s₁.setTop (mkF m 212 #[.val (.ref ar), .val (.int i0), .val (.int to), .val (.int (y0 &&& (255 : Int32))), .val (.int (own_need y0)), .val (.int (own_lo y0)), .val (.int (own_hi y0)), .unset] []))
          refine OG.of (A := s₁.setTop (mkF m 213 #[.val (.ref ar), .val (.int i0), .val (.int to), .val (.int (y0 &&& (255 : Int32))), .val (.int (own_need y0)), .val (.int (own_lo y0)), .val (.int (own_hi y0)), .unset] [(.int (0 : Int32))])) (fun oT oK => ?_) ?_
          · show Steps p.tables e below (s₁.setTop (mkF m 212 #[.val (.ref ar), .val (.int i0), .val (.int to), .val (.int (y0 &&& (255 : Int32))), .val (.int (own_need y0)), .val (.int (own_lo y0)), .val (.int (own_hi y0)), .unset] [])) oT
            refine XS.iconst X0.here hx rfl (hb hby dS_212) ?_
            exact oK
          show OG _ _ _ _ _ _ _ (s₁.setTop (mkF m 213 #[.val (.ref ar), .val (.int i0), .val (.int to), .val (.int (y0 &&& (255 : Int32))), .val (.int (own_need y0)), .val (.int (own_lo y0)), .val (.int (own_hi y0)), .unset] [(.int (0 : Int32))]))
          refine OG.retI X0 hx Bd.returns (hb hby dS_213) hlk ?_ (by decide) (by decide)
          try rw [e0]
          exact ⟨by rw [own_seq, if_neg hc165_36, if_neg hc173_37, if_pos hc181_38, if_pos hc195_40] <;> rfl, N0, rfl⟩
        · refine OG.of (fun oT oK => XS.icmpNo X0.here hx rfl (hb hby dS_195) rfl (XT.ii_lt_f hc195_40) oK) ?_
          show OG _ _ _ _ _ _ _ (s₁.setTop (mkF m 198 #[.val (.ref ar), .val (.int i0), .val (.int to), .val (.int (y0 &&& (255 : Int32))), .val (.int (own_need y0)), .val (.int (own_lo y0)), .val (.int (own_hi y0)), .unset] []))
          refine OG.of (A := s₁.setTop (mkF m 202 #[.val (.ref ar), .val (.int i0), .val (.int to), .val (.int (y0 &&& (255 : Int32))), .val (.int (own_need y0)), .val (.int (own_lo y0)), .val (.int (own_hi y0)), .unset] [(.int (i0 + (1 : Int32))), (.ref ar)])) (fun oT oK => ?_) ?_
          · show Steps p.tables e below (s₁.setTop (mkF m 198 #[.val (.ref ar), .val (.int i0), .val (.int to), .val (.int (y0 &&& (255 : Int32))), .val (.int (own_need y0)), .val (.int (own_lo y0)), .val (.int (own_hi y0)), .unset] [])) oT
            refine XS.aloadN X0.here hx rfl (hb hby dS_198) rfl rfl  ?_
            show Steps p.tables e below (s₁.setTop (mkF m 199 #[.val (.ref ar), .val (.int i0), .val (.int to), .val (.int (y0 &&& (255 : Int32))), .val (.int (own_need y0)), .val (.int (own_lo y0)), .val (.int (own_hi y0)), .unset] [(.ref ar)])) _
            refine XS.iloadN X0.here hx rfl (hb hby dS_199) rfl  ?_
            show Steps p.tables e below (s₁.setTop (mkF m 200 #[.val (.ref ar), .val (.int i0), .val (.int to), .val (.int (y0 &&& (255 : Int32))), .val (.int (own_need y0)), .val (.int (own_lo y0)), .val (.int (own_hi y0)), .unset] [(.int i0), (.ref ar)])) _
            refine XS.iconst X0.here hx rfl (hb hby dS_200) ?_
            show Steps p.tables e below (s₁.setTop (mkF m 201 #[.val (.ref ar), .val (.int i0), .val (.int to), .val (.int (y0 &&& (255 : Int32))), .val (.int (own_need y0)), .val (.int (own_lo y0)), .val (.int (own_hi y0)), .unset] [(.int (1 : Int32)), (.int i0), (.ref ar)])) _
            refine XS.iadd X0.here hx rfl (hb hby dS_201) rfl ?_
            exact oK
          show OG _ _ _ _ _ _ _ (s₁.setTop (mkF m 202 #[.val (.ref ar), .val (.int i0), .val (.int to), .val (.int (y0 &&& (255 : Int32))), .val (.int (own_need y0)), .val (.int (own_lo y0)), .val (.int (own_hi y0)), .unset] [(.int (i0 + (1 : Int32))), (.ref ar)]))
          have cf41 := R1
          obtain ⟨clf41, Arf41, If41, Hf41⟩ := cf41
          refine OG.of (X0.baloadBytes hx (j := (i0 + (1 : Int32))) (v := (.int y1)) (by rw [e0]; exact Arf41.1) (State.isArrayOf_alike hZ.alike Arf41.2.1) Arf41.2.2 If41 Hf41 (g := (mkF m 202 #[.val (.ref ar), .val (.int i0), .val (.int to), .val (.int (y0 &&& (255 : Int32))), .val (.int (own_need y0)), .val (.int (own_lo y0)), .val (.int (own_hi y0)), .unset] [(.int (i0 + (1 : Int32))), (.ref ar)])) rfl rfl (hb hby dS_202)) ?_
          show OG _ _ _ _ _ _ _ (s₁.setTop (mkF m 203 #[.val (.ref ar), .val (.int i0), .val (.int to), .val (.int (y0 &&& (255 : Int32))), .val (.int (own_need y0)), .val (.int (own_lo y0)), .val (.int (own_hi y0)), .unset] [(.int y1)]))
          refine OG.of (A := s₁.setTop (mkF m 209 #[.val (.ref ar), .val (.int i0), .val (.int to), .val (.int (y0 &&& (255 : Int32))), .val (.int (own_need y0)), .val (.int (own_lo y0)), .val (.int (own_hi y0)), .unset] [(.int (own_hi y0)), (.int (y1 &&& (255 : Int32)))])) (fun oT oK => ?_) ?_
          · show Steps p.tables e below (s₁.setTop (mkF m 203 #[.val (.ref ar), .val (.int i0), .val (.int to), .val (.int (y0 &&& (255 : Int32))), .val (.int (own_need y0)), .val (.int (own_lo y0)), .val (.int (own_hi y0)), .unset] [(.int y1)])) oT
            refine XS.sipush X0.here hx rfl (hb hby dS_203) ?_
            show Steps p.tables e below (s₁.setTop (mkF m 206 #[.val (.ref ar), .val (.int i0), .val (.int to), .val (.int (y0 &&& (255 : Int32))), .val (.int (own_need y0)), .val (.int (own_lo y0)), .val (.int (own_hi y0)), .unset] [(.int (255 : Int32)), (.int y1)])) _
            refine XS.iand X0.here hx rfl (hb hby dS_206) rfl ?_
            show Steps p.tables e below (s₁.setTop (mkF m 207 #[.val (.ref ar), .val (.int i0), .val (.int to), .val (.int (y0 &&& (255 : Int32))), .val (.int (own_need y0)), .val (.int (own_lo y0)), .val (.int (own_hi y0)), .unset] [(.int (y1 &&& (255 : Int32)))])) _
            refine XS.iload X0.here hx rfl (hb hby dS_207) rfl  ?_
            exact oK
          show OG _ _ _ _ _ _ _ (s₁.setTop (mkF m 209 #[.val (.ref ar), .val (.int i0), .val (.int to), .val (.int (y0 &&& (255 : Int32))), .val (.int (own_need y0)), .val (.int (own_lo y0)), .val (.int (own_hi y0)), .unset] [(.int (own_hi y0)), (.int (y1 &&& (255 : Int32)))]))
          by_cases hc209_42 : (own_hi y0) < (y1 &&& (255 : Int32))
          · refine OG.of (fun oT oK => XS.icmpNo X0.here hx rfl (hb hby dS_209) rfl (XT.ii_le_f hc209_42) oK) ?_
            show OG _ _ _ _ _ _ _ (s₁.setTop (mkF m 212 #[.val (.ref ar), .val (.int i0), .val (.int to), .val (.int (y0 &&& (255 : Int32))), .val (.int (own_need y0)), .val (.int (own_lo y0)), .val (.int (own_hi y0)), .unset] []))
            refine OG.of (A := s₁.setTop (mkF m 213 #[.val (.ref ar), .val (.int i0), .val (.int to), .val (.int (y0 &&& (255 : Int32))), .val (.int (own_need y0)), .val (.int (own_lo y0)), .val (.int (own_hi y0)), .unset] [(.int (0 : Int32))])) (fun oT oK => ?_) ?_
            · show Steps p.tables e below (s₁.setTop (mkF m 212 #[.val (.ref ar), .val (.int i0), .val (.int to), .val (.int (y0 &&& (255 : Int32))), .val (.int (own_need y0)), .val (.int (own_lo y0)), .val (.int (own_hi y0)), .unset] [])) oT
              refine XS.iconst X0.here hx rfl (hb hby dS_212) ?_
              exact oK
            show OG _ _ _ _ _ _ _ (s₁.setTop (mkF m 213 #[.val (.ref ar), .val (.int i0), .val (.int to), .val (.int (y0 &&& (255 : Int32))), .val (.int (own_need y0)), .val (.int (own_lo y0)), .val (.int (own_hi y0)), .unset] [(.int (0 : Int32))]))
            refine OG.retI X0 hx Bd.returns (hb hby dS_213) hlk ?_ (by decide) (by decide)
            try rw [e0]
            exact ⟨by rw [own_seq, if_neg hc165_36, if_neg hc173_37, if_pos hc181_38, if_neg hc195_40, if_pos hc209_42] <;> rfl, N0, rfl⟩
          · refine OG.of (fun oT oK => XS.icmpYes X0.here hx rfl (pc0 := 209) (pc' := 214) rfl (hb hby dS_209) rfl (XT.ii_le_t hc209_42) (by decide) (by decide) oK) ?_
            show OG _ _ _ _ _ _ _ (s₁.setTop (mkF m 214 #[.val (.ref ar), .val (.int i0), .val (.int to), .val (.int (y0 &&& (255 : Int32))), .val (.int (own_need y0)), .val (.int (own_lo y0)), .val (.int (own_hi y0)), .unset] []))
            refine OG.of (A := s₁.setTop (mkF m 221 #[.val (.ref ar), .val (.int i0), .val (.int to), .val (.int (y0 &&& (255 : Int32))), .val (.int (own_need y0)), .val (.int (own_lo y0)), .val (.int (own_hi y0)), .val (.int (2 : Int32))] [(.int (own_need y0)), (.int (2 : Int32))])) (fun oT oK => ?_) ?_
            · show Steps p.tables e below (s₁.setTop (mkF m 214 #[.val (.ref ar), .val (.int i0), .val (.int to), .val (.int (y0 &&& (255 : Int32))), .val (.int (own_need y0)), .val (.int (own_lo y0)), .val (.int (own_hi y0)), .unset] [])) oT
              refine XS.iconst X0.here hx rfl (hb hby dS_214) ?_
              show Steps p.tables e below (s₁.setTop (mkF m 215 #[.val (.ref ar), .val (.int i0), .val (.int to), .val (.int (y0 &&& (255 : Int32))), .val (.int (own_need y0)), .val (.int (own_lo y0)), .val (.int (own_hi y0)), .unset] [(.int (2 : Int32))])) _
              refine XS.istore X0.here hx rfl (hb hby dS_215) rfl (l' := #[.val (.ref ar), .val (.int i0), .val (.int to), .val (.int (y0 &&& (255 : Int32))), .val (.int (own_need y0)), .val (.int (own_lo y0)), .val (.int (own_hi y0)), .val (.int (2 : Int32))]) rfl ?_
              show Steps p.tables e below (s₁.setTop (mkF m 217 #[.val (.ref ar), .val (.int i0), .val (.int to), .val (.int (y0 &&& (255 : Int32))), .val (.int (own_need y0)), .val (.int (own_lo y0)), .val (.int (own_hi y0)), .val (.int (2 : Int32))] [])) _
              refine XS.iload X0.here hx rfl (hb hby dS_217) rfl  ?_
              show Steps p.tables e below (s₁.setTop (mkF m 219 #[.val (.ref ar), .val (.int i0), .val (.int to), .val (.int (y0 &&& (255 : Int32))), .val (.int (own_need y0)), .val (.int (own_lo y0)), .val (.int (own_hi y0)), .val (.int (2 : Int32))] [(.int (2 : Int32))])) _
              refine XS.iload X0.here hx rfl (hb hby dS_219) rfl  ?_
              exact oK
            show OG _ _ _ _ _ _ _ (s₁.setTop (mkF m 221 #[.val (.ref ar), .val (.int i0), .val (.int to), .val (.int (y0 &&& (255 : Int32))), .val (.int (own_need y0)), .val (.int (own_lo y0)), .val (.int (own_hi y0)), .val (.int (2 : Int32))] [(.int (own_need y0)), (.int (2 : Int32))]))
            by_cases hc221_43 : (2 : Int32) < (own_need y0)
            · refine OG.of (fun oT oK => XS.icmpNo X0.here hx rfl (hb hby dS_221) rfl (XT.ii_ge_f hc221_43) oK) ?_
              show OG _ _ _ _ _ _ _ (s₁.setTop (mkF m 224 #[.val (.ref ar), .val (.int i0), .val (.int to), .val (.int (y0 &&& (255 : Int32))), .val (.int (own_need y0)), .val (.int (own_lo y0)), .val (.int (own_hi y0)), .val (.int (2 : Int32))] []))
              refine OG.of (A := s₁.setTop (mkF m 229 #[.val (.ref ar), .val (.int i0), .val (.int to), .val (.int (y0 &&& (255 : Int32))), .val (.int (own_need y0)), .val (.int (own_lo y0)), .val (.int (own_hi y0)), .val (.int (2 : Int32))] [(.int (i0 + (2 : Int32))), (.ref ar)])) (fun oT oK => ?_) ?_
              · show Steps p.tables e below (s₁.setTop (mkF m 224 #[.val (.ref ar), .val (.int i0), .val (.int to), .val (.int (y0 &&& (255 : Int32))), .val (.int (own_need y0)), .val (.int (own_lo y0)), .val (.int (own_hi y0)), .val (.int (2 : Int32))] [])) oT
                refine XS.aloadN X0.here hx rfl (hb hby dS_224) rfl rfl  ?_
                show Steps p.tables e below (s₁.setTop (mkF m 225 #[.val (.ref ar), .val (.int i0), .val (.int to), .val (.int (y0 &&& (255 : Int32))), .val (.int (own_need y0)), .val (.int (own_lo y0)), .val (.int (own_hi y0)), .val (.int (2 : Int32))] [(.ref ar)])) _
                refine XS.iloadN X0.here hx rfl (hb hby dS_225) rfl  ?_
                show Steps p.tables e below (s₁.setTop (mkF m 226 #[.val (.ref ar), .val (.int i0), .val (.int to), .val (.int (y0 &&& (255 : Int32))), .val (.int (own_need y0)), .val (.int (own_lo y0)), .val (.int (own_hi y0)), .val (.int (2 : Int32))] [(.int i0), (.ref ar)])) _
                refine XS.iload X0.here hx rfl (hb hby dS_226) rfl  ?_
                show Steps p.tables e below (s₁.setTop (mkF m 228 #[.val (.ref ar), .val (.int i0), .val (.int to), .val (.int (y0 &&& (255 : Int32))), .val (.int (own_need y0)), .val (.int (own_lo y0)), .val (.int (own_hi y0)), .val (.int (2 : Int32))] [(.int (2 : Int32)), (.int i0), (.ref ar)])) _
                refine XS.iadd X0.here hx rfl (hb hby dS_228) rfl ?_
                exact oK
              show OG _ _ _ _ _ _ _ (s₁.setTop (mkF m 229 #[.val (.ref ar), .val (.int i0), .val (.int to), .val (.int (y0 &&& (255 : Int32))), .val (.int (own_need y0)), .val (.int (own_lo y0)), .val (.int (own_hi y0)), .val (.int (2 : Int32))] [(.int (i0 + (2 : Int32))), (.ref ar)]))
              have cf44 := R2
              obtain ⟨clf44, Arf44, If44, Hf44⟩ := cf44
              refine OG.of (X0.baloadBytes hx (j := (i0 + (2 : Int32))) (v := (.int y2)) (by rw [e0]; exact Arf44.1) (State.isArrayOf_alike hZ.alike Arf44.2.1) Arf44.2.2 If44 Hf44 (g := (mkF m 229 #[.val (.ref ar), .val (.int i0), .val (.int to), .val (.int (y0 &&& (255 : Int32))), .val (.int (own_need y0)), .val (.int (own_lo y0)), .val (.int (own_hi y0)), .val (.int (2 : Int32))] [(.int (i0 + (2 : Int32))), (.ref ar)])) rfl rfl (hb hby dS_229)) ?_
              show OG _ _ _ _ _ _ _ (s₁.setTop (mkF m 230 #[.val (.ref ar), .val (.int i0), .val (.int to), .val (.int (y0 &&& (255 : Int32))), .val (.int (own_need y0)), .val (.int (own_lo y0)), .val (.int (own_hi y0)), .val (.int (2 : Int32))] [(.int y2)]))
              refine OG.of (A := s₁.setTop (mkF m 237 #[.val (.ref ar), .val (.int i0), .val (.int to), .val (.int (y0 &&& (255 : Int32))), .val (.int (own_need y0)), .val (.int (own_lo y0)), .val (.int (own_hi y0)), .val (.int (2 : Int32))] [(.int (128 : Int32)), (.int (y2 &&& (192 : Int32)))])) (fun oT oK => ?_) ?_
              · show Steps p.tables e below (s₁.setTop (mkF m 230 #[.val (.ref ar), .val (.int i0), .val (.int to), .val (.int (y0 &&& (255 : Int32))), .val (.int (own_need y0)), .val (.int (own_lo y0)), .val (.int (own_hi y0)), .val (.int (2 : Int32))] [(.int y2)])) oT
                refine XS.sipush X0.here hx rfl (hb hby dS_230) ?_
                show Steps p.tables e below (s₁.setTop (mkF m 233 #[.val (.ref ar), .val (.int i0), .val (.int to), .val (.int (y0 &&& (255 : Int32))), .val (.int (own_need y0)), .val (.int (own_lo y0)), .val (.int (own_hi y0)), .val (.int (2 : Int32))] [(.int (192 : Int32)), (.int y2)])) _
                refine XS.iand X0.here hx rfl (hb hby dS_233) rfl ?_
                show Steps p.tables e below (s₁.setTop (mkF m 234 #[.val (.ref ar), .val (.int i0), .val (.int to), .val (.int (y0 &&& (255 : Int32))), .val (.int (own_need y0)), .val (.int (own_lo y0)), .val (.int (own_hi y0)), .val (.int (2 : Int32))] [(.int (y2 &&& (192 : Int32)))])) _
                refine XS.sipush X0.here hx rfl (hb hby dS_234) ?_
                exact oK
              show OG _ _ _ _ _ _ _ (s₁.setTop (mkF m 237 #[.val (.ref ar), .val (.int i0), .val (.int to), .val (.int (y0 &&& (255 : Int32))), .val (.int (own_need y0)), .val (.int (own_lo y0)), .val (.int (own_hi y0)), .val (.int (2 : Int32))] [(.int (128 : Int32)), (.int (y2 &&& (192 : Int32)))]))
              by_cases hc237_45 : (y2 &&& (192 : Int32)) = (128 : Int32)
              · refine OG.of (fun oT oK => XS.icmpYes X0.here hx rfl (pc0 := 237) (pc' := 242) rfl (hb hby dS_237) rfl (XT.ii_eq_t hc237_45) (by decide) (by decide) oK) ?_
                show OG _ _ _ _ _ _ _ (s₁.setTop (mkF m 242 #[.val (.ref ar), .val (.int i0), .val (.int to), .val (.int (y0 &&& (255 : Int32))), .val (.int (own_need y0)), .val (.int (own_lo y0)), .val (.int (own_hi y0)), .val (.int (2 : Int32))] []))
                refine OG.of (A := s₁.setTop (mkF m 221 #[.val (.ref ar), .val (.int i0), .val (.int to), .val (.int (y0 &&& (255 : Int32))), .val (.int (own_need y0)), .val (.int (own_lo y0)), .val (.int (own_hi y0)), .val (.int (3 : Int32))] [(.int (own_need y0)), (.int (3 : Int32))])) (fun oT oK => ?_) ?_
                · show Steps p.tables e below (s₁.setTop (mkF m 242 #[.val (.ref ar), .val (.int i0), .val (.int to), .val (.int (y0 &&& (255 : Int32))), .val (.int (own_need y0)), .val (.int (own_lo y0)), .val (.int (own_hi y0)), .val (.int (2 : Int32))] [])) oT
                  refine XS.iinc X0.here hx rfl (hb hby dS_242) rfl (l' := #[.val (.ref ar), .val (.int i0), .val (.int to), .val (.int (y0 &&& (255 : Int32))), .val (.int (own_need y0)), .val (.int (own_lo y0)), .val (.int (own_hi y0)), .val (.int (3 : Int32))]) rfl ?_
                  show Steps p.tables e below (s₁.setTop (mkF m 245 #[.val (.ref ar), .val (.int i0), .val (.int to), .val (.int (y0 &&& (255 : Int32))), .val (.int (own_need y0)), .val (.int (own_lo y0)), .val (.int (own_hi y0)), .val (.int (3 : Int32))] [])) _
                  refine XS.goto X0.here hx rfl (pc0 := 245) (pc' := 217) rfl (hb hby dS_245) (by decide) (by decide) ?_
                  show Steps p.tables e below (s₁.setTop (mkF m 217 #[.val (.ref ar), .val (.int i0), .val (.int to), .val (.int (y0 &&& (255 : Int32))), .val (.int (own_need y0)), .val (.int (own_lo y0)), .val (.int (own_hi y0)), .val (.int (3 : Int32))] [])) _
                  refine XS.iload X0.here hx rfl (hb hby dS_217) rfl  ?_
                  show Steps p.tables e below (s₁.setTop (mkF m 219 #[.val (.ref ar), .val (.int i0), .val (.int to), .val (.int (y0 &&& (255 : Int32))), .val (.int (own_need y0)), .val (.int (own_lo y0)), .val (.int (own_hi y0)), .val (.int (3 : Int32))] [(.int (3 : Int32))])) _
                  refine XS.iload X0.here hx rfl (hb hby dS_219) rfl  ?_
                  exact oK
                show OG _ _ _ _ _ _ _ (s₁.setTop (mkF m 221 #[.val (.ref ar), .val (.int i0), .val (.int to), .val (.int (y0 &&& (255 : Int32))), .val (.int (own_need y0)), .val (.int (own_lo y0)), .val (.int (own_hi y0)), .val (.int (3 : Int32))] [(.int (own_need y0)), (.int (3 : Int32))]))
                by_cases hc221_46 : (3 : Int32) < (own_need y0)
                · refine OG.of (fun oT oK => XS.icmpNo X0.here hx rfl (hb hby dS_221) rfl (XT.ii_ge_f hc221_46) oK) ?_
                  show OG _ _ _ _ _ _ _ (s₁.setTop (mkF m 224 #[.val (.ref ar), .val (.int i0), .val (.int to), .val (.int (y0 &&& (255 : Int32))), .val (.int (own_need y0)), .val (.int (own_lo y0)), .val (.int (own_hi y0)), .val (.int (3 : Int32))] []))
                  refine OG.of (A := s₁.setTop (mkF m 229 #[.val (.ref ar), .val (.int i0), .val (.int to), .val (.int (y0 &&& (255 : Int32))), .val (.int (own_need y0)), .val (.int (own_lo y0)), .val (.int (own_hi y0)), .val (.int (3 : Int32))] [(.int (i0 + (3 : Int32))), (.ref ar)])) (fun oT oK => ?_) ?_
                  · show Steps p.tables e below (s₁.setTop (mkF m 224 #[.val (.ref ar), .val (.int i0), .val (.int to), .val (.int (y0 &&& (255 : Int32))), .val (.int (own_need y0)), .val (.int (own_lo y0)), .val (.int (own_hi y0)), .val (.int (3 : Int32))] [])) oT
                    refine XS.aloadN X0.here hx rfl (hb hby dS_224) rfl rfl  ?_
                    show Steps p.tables e below (s₁.setTop (mkF m 225 #[.val (.ref ar), .val (.int i0), .val (.int to), .val (.int (y0 &&& (255 : Int32))), .val (.int (own_need y0)), .val (.int (own_lo y0)), .val (.int (own_hi y0)), .val (.int (3 : Int32))] [(.ref ar)])) _
                    refine XS.iloadN X0.here hx rfl (hb hby dS_225) rfl  ?_
                    show Steps p.tables e below (s₁.setTop (mkF m 226 #[.val (.ref ar), .val (.int i0), .val (.int to), .val (.int (y0 &&& (255 : Int32))), .val (.int (own_need y0)), .val (.int (own_lo y0)), .val (.int (own_hi y0)), .val (.int (3 : Int32))] [(.int i0), (.ref ar)])) _
                    refine XS.iload X0.here hx rfl (hb hby dS_226) rfl  ?_
                    show Steps p.tables e below (s₁.setTop (mkF m 228 #[.val (.ref ar), .val (.int i0), .val (.int to), .val (.int (y0 &&& (255 : Int32))), .val (.int (own_need y0)), .val (.int (own_lo y0)), .val (.int (own_hi y0)), .val (.int (3 : Int32))] [(.int (3 : Int32)), (.int i0), (.ref ar)])) _
                    refine XS.iadd X0.here hx rfl (hb hby dS_228) rfl ?_
                    exact oK
                  show OG _ _ _ _ _ _ _ (s₁.setTop (mkF m 229 #[.val (.ref ar), .val (.int i0), .val (.int to), .val (.int (y0 &&& (255 : Int32))), .val (.int (own_need y0)), .val (.int (own_lo y0)), .val (.int (own_hi y0)), .val (.int (3 : Int32))] [(.int (i0 + (3 : Int32))), (.ref ar)]))
                  have cf47 := R3
                  obtain ⟨clf47, Arf47, If47, Hf47⟩ := cf47
                  refine OG.of (X0.baloadBytes hx (j := (i0 + (3 : Int32))) (v := (.int y3)) (by rw [e0]; exact Arf47.1) (State.isArrayOf_alike hZ.alike Arf47.2.1) Arf47.2.2 If47 Hf47 (g := (mkF m 229 #[.val (.ref ar), .val (.int i0), .val (.int to), .val (.int (y0 &&& (255 : Int32))), .val (.int (own_need y0)), .val (.int (own_lo y0)), .val (.int (own_hi y0)), .val (.int (3 : Int32))] [(.int (i0 + (3 : Int32))), (.ref ar)])) rfl rfl (hb hby dS_229)) ?_
                  show OG _ _ _ _ _ _ _ (s₁.setTop (mkF m 230 #[.val (.ref ar), .val (.int i0), .val (.int to), .val (.int (y0 &&& (255 : Int32))), .val (.int (own_need y0)), .val (.int (own_lo y0)), .val (.int (own_hi y0)), .val (.int (3 : Int32))] [(.int y3)]))
                  refine OG.of (A := s₁.setTop (mkF m 237 #[.val (.ref ar), .val (.int i0), .val (.int to), .val (.int (y0 &&& (255 : Int32))), .val (.int (own_need y0)), .val (.int (own_lo y0)), .val (.int (own_hi y0)), .val (.int (3 : Int32))] [(.int (128 : Int32)), (.int (y3 &&& (192 : Int32)))])) (fun oT oK => ?_) ?_
                  · show Steps p.tables e below (s₁.setTop (mkF m 230 #[.val (.ref ar), .val (.int i0), .val (.int to), .val (.int (y0 &&& (255 : Int32))), .val (.int (own_need y0)), .val (.int (own_lo y0)), .val (.int (own_hi y0)), .val (.int (3 : Int32))] [(.int y3)])) oT
                    refine XS.sipush X0.here hx rfl (hb hby dS_230) ?_
                    show Steps p.tables e below (s₁.setTop (mkF m 233 #[.val (.ref ar), .val (.int i0), .val (.int to), .val (.int (y0 &&& (255 : Int32))), .val (.int (own_need y0)), .val (.int (own_lo y0)), .val (.int (own_hi y0)), .val (.int (3 : Int32))] [(.int (192 : Int32)), (.int y3)])) _
                    refine XS.iand X0.here hx rfl (hb hby dS_233) rfl ?_
                    show Steps p.tables e below (s₁.setTop (mkF m 234 #[.val (.ref ar), .val (.int i0), .val (.int to), .val (.int (y0 &&& (255 : Int32))), .val (.int (own_need y0)), .val (.int (own_lo y0)), .val (.int (own_hi y0)), .val (.int (3 : Int32))] [(.int (y3 &&& (192 : Int32)))])) _
                    refine XS.sipush X0.here hx rfl (hb hby dS_234) ?_
                    exact oK
                  show OG _ _ _ _ _ _ _ (s₁.setTop (mkF m 237 #[.val (.ref ar), .val (.int i0), .val (.int to), .val (.int (y0 &&& (255 : Int32))), .val (.int (own_need y0)), .val (.int (own_lo y0)), .val (.int (own_hi y0)), .val (.int (3 : Int32))] [(.int (128 : Int32)), (.int (y3 &&& (192 : Int32)))]))
                  by_cases hc237_48 : (y3 &&& (192 : Int32)) = (128 : Int32)
                  · refine OG.of (fun oT oK => XS.icmpYes X0.here hx rfl (pc0 := 237) (pc' := 242) rfl (hb hby dS_237) rfl (XT.ii_eq_t hc237_48) (by decide) (by decide) oK) ?_
                    show OG _ _ _ _ _ _ _ (s₁.setTop (mkF m 242 #[.val (.ref ar), .val (.int i0), .val (.int to), .val (.int (y0 &&& (255 : Int32))), .val (.int (own_need y0)), .val (.int (own_lo y0)), .val (.int (own_hi y0)), .val (.int (3 : Int32))] []))
                    refine OG.of (A := s₁.setTop (mkF m 250 #[.val (.ref ar), .val (.int i0), .val (.int to), .val (.int (y0 &&& (255 : Int32))), .val (.int (own_need y0)), .val (.int (own_lo y0)), .val (.int (own_hi y0)), .val (.int (4 : Int32))] [(.int (own_need y0))])) (fun oT oK => ?_) ?_
                    · show Steps p.tables e below (s₁.setTop (mkF m 242 #[.val (.ref ar), .val (.int i0), .val (.int to), .val (.int (y0 &&& (255 : Int32))), .val (.int (own_need y0)), .val (.int (own_lo y0)), .val (.int (own_hi y0)), .val (.int (3 : Int32))] [])) oT
                      refine XS.iinc X0.here hx rfl (hb hby dS_242) rfl (l' := #[.val (.ref ar), .val (.int i0), .val (.int to), .val (.int (y0 &&& (255 : Int32))), .val (.int (own_need y0)), .val (.int (own_lo y0)), .val (.int (own_hi y0)), .val (.int (4 : Int32))]) rfl ?_
                      show Steps p.tables e below (s₁.setTop (mkF m 245 #[.val (.ref ar), .val (.int i0), .val (.int to), .val (.int (y0 &&& (255 : Int32))), .val (.int (own_need y0)), .val (.int (own_lo y0)), .val (.int (own_hi y0)), .val (.int (4 : Int32))] [])) _
                      refine XS.goto X0.here hx rfl (pc0 := 245) (pc' := 217) rfl (hb hby dS_245) (by decide) (by decide) ?_
                      show Steps p.tables e below (s₁.setTop (mkF m 217 #[.val (.ref ar), .val (.int i0), .val (.int to), .val (.int (y0 &&& (255 : Int32))), .val (.int (own_need y0)), .val (.int (own_lo y0)), .val (.int (own_hi y0)), .val (.int (4 : Int32))] [])) _
                      refine XS.iload X0.here hx rfl (hb hby dS_217) rfl  ?_
                      show Steps p.tables e below (s₁.setTop (mkF m 219 #[.val (.ref ar), .val (.int i0), .val (.int to), .val (.int (y0 &&& (255 : Int32))), .val (.int (own_need y0)), .val (.int (own_lo y0)), .val (.int (own_hi y0)), .val (.int (4 : Int32))] [(.int (4 : Int32))])) _
                      refine XS.iload X0.here hx rfl (hb hby dS_219) rfl  ?_
                      show Steps p.tables e below (s₁.setTop (mkF m 221 #[.val (.ref ar), .val (.int i0), .val (.int to), .val (.int (y0 &&& (255 : Int32))), .val (.int (own_need y0)), .val (.int (own_lo y0)), .val (.int (own_hi y0)), .val (.int (4 : Int32))] [(.int (own_need y0)), (.int (4 : Int32))])) _
                      refine XS.icmpYes X0.here hx rfl (pc0 := 221) (pc' := 248) rfl (hb hby dS_221) rfl (XT.ii_ge_t (own_need4 y0)) (by decide) (by decide) ?_
                      show Steps p.tables e below (s₁.setTop (mkF m 248 #[.val (.ref ar), .val (.int i0), .val (.int to), .val (.int (y0 &&& (255 : Int32))), .val (.int (own_need y0)), .val (.int (own_lo y0)), .val (.int (own_hi y0)), .val (.int (4 : Int32))] [])) _
                      refine XS.iload X0.here hx rfl (hb hby dS_248) rfl  ?_
                      exact oK
                    show OG _ _ _ _ _ _ _ (s₁.setTop (mkF m 250 #[.val (.ref ar), .val (.int i0), .val (.int to), .val (.int (y0 &&& (255 : Int32))), .val (.int (own_need y0)), .val (.int (own_lo y0)), .val (.int (own_hi y0)), .val (.int (4 : Int32))] [(.int (own_need y0))]))
                    refine OG.retI X0 hx Bd.returns (hb hby dS_250) hlk ?_ (by decide) (by decide)
                    try rw [e0]
                    exact ⟨by rw [own_seq, if_neg hc165_36, if_neg hc173_37, if_pos hc181_38, if_neg hc195_40, if_neg hc209_42, if_pos hc221_43, if_pos hc237_45, if_pos hc221_46, if_pos hc237_48] <;> rfl, N0, rfl⟩
                  · refine OG.of (fun oT oK => XS.icmpNo X0.here hx rfl (hb hby dS_237) rfl (XT.ii_eq_f hc237_48) oK) ?_
                    show OG _ _ _ _ _ _ _ (s₁.setTop (mkF m 240 #[.val (.ref ar), .val (.int i0), .val (.int to), .val (.int (y0 &&& (255 : Int32))), .val (.int (own_need y0)), .val (.int (own_lo y0)), .val (.int (own_hi y0)), .val (.int (3 : Int32))] []))
                    refine OG.of (A := s₁.setTop (mkF m 241 #[.val (.ref ar), .val (.int i0), .val (.int to), .val (.int (y0 &&& (255 : Int32))), .val (.int (own_need y0)), .val (.int (own_lo y0)), .val (.int (own_hi y0)), .val (.int (3 : Int32))] [(.int (0 : Int32))])) (fun oT oK => ?_) ?_
                    · show Steps p.tables e below (s₁.setTop (mkF m 240 #[.val (.ref ar), .val (.int i0), .val (.int to), .val (.int (y0 &&& (255 : Int32))), .val (.int (own_need y0)), .val (.int (own_lo y0)), .val (.int (own_hi y0)), .val (.int (3 : Int32))] [])) oT
                      refine XS.iconst X0.here hx rfl (hb hby dS_240) ?_
                      exact oK
                    show OG _ _ _ _ _ _ _ (s₁.setTop (mkF m 241 #[.val (.ref ar), .val (.int i0), .val (.int to), .val (.int (y0 &&& (255 : Int32))), .val (.int (own_need y0)), .val (.int (own_lo y0)), .val (.int (own_hi y0)), .val (.int (3 : Int32))] [(.int (0 : Int32))]))
                    refine OG.retI X0 hx Bd.returns (hb hby dS_241) hlk ?_ (by decide) (by decide)
                    try rw [e0]
                    exact ⟨by rw [own_seq, if_neg hc165_36, if_neg hc173_37, if_pos hc181_38, if_neg hc195_40, if_neg hc209_42, if_pos hc221_43, if_pos hc237_45, if_pos hc221_46, if_neg hc237_48] <;> rfl, N0, rfl⟩
                · refine OG.of (fun oT oK => XS.icmpYes X0.here hx rfl (pc0 := 221) (pc' := 248) rfl (hb hby dS_221) rfl (XT.ii_ge_t hc221_46) (by decide) (by decide) oK) ?_
                  show OG _ _ _ _ _ _ _ (s₁.setTop (mkF m 248 #[.val (.ref ar), .val (.int i0), .val (.int to), .val (.int (y0 &&& (255 : Int32))), .val (.int (own_need y0)), .val (.int (own_lo y0)), .val (.int (own_hi y0)), .val (.int (3 : Int32))] []))
                  refine OG.of (A := s₁.setTop (mkF m 250 #[.val (.ref ar), .val (.int i0), .val (.int to), .val (.int (y0 &&& (255 : Int32))), .val (.int (own_need y0)), .val (.int (own_lo y0)), .val (.int (own_hi y0)), .val (.int (3 : Int32))] [(.int (own_need y0))])) (fun oT oK => ?_) ?_
                  · show Steps p.tables e below (s₁.setTop (mkF m 248 #[.val (.ref ar), .val (.int i0), .val (.int to), .val (.int (y0 &&& (255 : Int32))), .val (.int (own_need y0)), .val (.int (own_lo y0)), .val (.int (own_hi y0)), .val (.int (3 : Int32))] [])) oT
                    refine XS.iload X0.here hx rfl (hb hby dS_248) rfl  ?_
                    exact oK
                  show OG _ _ _ _ _ _ _ (s₁.setTop (mkF m 250 #[.val (.ref ar), .val (.int i0), .val (.int to), .val (.int (y0 &&& (255 : Int32))), .val (.int (own_need y0)), .val (.int (own_lo y0)), .val (.int (own_hi y0)), .val (.int (3 : Int32))] [(.int (own_need y0))]))
                  refine OG.retI X0 hx Bd.returns (hb hby dS_250) hlk ?_ (by decide) (by decide)
                  try rw [e0]
                  exact ⟨by rw [own_seq, if_neg hc165_36, if_neg hc173_37, if_pos hc181_38, if_neg hc195_40, if_neg hc209_42, if_pos hc221_43, if_pos hc237_45, if_neg hc221_46] <;> rfl, N0, rfl⟩
              · refine OG.of (fun oT oK => XS.icmpNo X0.here hx rfl (hb hby dS_237) rfl (XT.ii_eq_f hc237_45) oK) ?_
                show OG _ _ _ _ _ _ _ (s₁.setTop (mkF m 240 #[.val (.ref ar), .val (.int i0), .val (.int to), .val (.int (y0 &&& (255 : Int32))), .val (.int (own_need y0)), .val (.int (own_lo y0)), .val (.int (own_hi y0)), .val (.int (2 : Int32))] []))
                refine OG.of (A := s₁.setTop (mkF m 241 #[.val (.ref ar), .val (.int i0), .val (.int to), .val (.int (y0 &&& (255 : Int32))), .val (.int (own_need y0)), .val (.int (own_lo y0)), .val (.int (own_hi y0)), .val (.int (2 : Int32))] [(.int (0 : Int32))])) (fun oT oK => ?_) ?_
                · show Steps p.tables e below (s₁.setTop (mkF m 240 #[.val (.ref ar), .val (.int i0), .val (.int to), .val (.int (y0 &&& (255 : Int32))), .val (.int (own_need y0)), .val (.int (own_lo y0)), .val (.int (own_hi y0)), .val (.int (2 : Int32))] [])) oT
                  refine XS.iconst X0.here hx rfl (hb hby dS_240) ?_
                  exact oK
                show OG _ _ _ _ _ _ _ (s₁.setTop (mkF m 241 #[.val (.ref ar), .val (.int i0), .val (.int to), .val (.int (y0 &&& (255 : Int32))), .val (.int (own_need y0)), .val (.int (own_lo y0)), .val (.int (own_hi y0)), .val (.int (2 : Int32))] [(.int (0 : Int32))]))
                refine OG.retI X0 hx Bd.returns (hb hby dS_241) hlk ?_ (by decide) (by decide)
                try rw [e0]
                exact ⟨by rw [own_seq, if_neg hc165_36, if_neg hc173_37, if_pos hc181_38, if_neg hc195_40, if_neg hc209_42, if_pos hc221_43, if_neg hc237_45] <;> rfl, N0, rfl⟩
            · refine OG.of (fun oT oK => XS.icmpYes X0.here hx rfl (pc0 := 221) (pc' := 248) rfl (hb hby dS_221) rfl (XT.ii_ge_t hc221_43) (by decide) (by decide) oK) ?_
              show OG _ _ _ _ _ _ _ (s₁.setTop (mkF m 248 #[.val (.ref ar), .val (.int i0), .val (.int to), .val (.int (y0 &&& (255 : Int32))), .val (.int (own_need y0)), .val (.int (own_lo y0)), .val (.int (own_hi y0)), .val (.int (2 : Int32))] []))
              refine OG.of (A := s₁.setTop (mkF m 250 #[.val (.ref ar), .val (.int i0), .val (.int to), .val (.int (y0 &&& (255 : Int32))), .val (.int (own_need y0)), .val (.int (own_lo y0)), .val (.int (own_hi y0)), .val (.int (2 : Int32))] [(.int (own_need y0))])) (fun oT oK => ?_) ?_
              · show Steps p.tables e below (s₁.setTop (mkF m 248 #[.val (.ref ar), .val (.int i0), .val (.int to), .val (.int (y0 &&& (255 : Int32))), .val (.int (own_need y0)), .val (.int (own_lo y0)), .val (.int (own_hi y0)), .val (.int (2 : Int32))] [])) oT
                refine XS.iload X0.here hx rfl (hb hby dS_248) rfl  ?_
                exact oK
              show OG _ _ _ _ _ _ _ (s₁.setTop (mkF m 250 #[.val (.ref ar), .val (.int i0), .val (.int to), .val (.int (y0 &&& (255 : Int32))), .val (.int (own_need y0)), .val (.int (own_lo y0)), .val (.int (own_hi y0)), .val (.int (2 : Int32))] [(.int (own_need y0))]))
              refine OG.retI X0 hx Bd.returns (hb hby dS_250) hlk ?_ (by decide) (by decide)
              try rw [e0]
              exact ⟨by rw [own_seq, if_neg hc165_36, if_neg hc173_37, if_pos hc181_38, if_neg hc195_40, if_neg hc209_42, if_neg hc221_43] <;> rfl, N0, rfl⟩
      · refine OG.of (fun oT oK => XS.icmpYes X0.here hx rfl (pc0 := 181) (pc' := 214) rfl (hb hby dS_181) rfl (XT.ii_le_t hc181_38) (by decide) (by decide) oK) ?_
        show OG _ _ _ _ _ _ _ (s₁.setTop (mkF m 214 #[.val (.ref ar), .val (.int i0), .val (.int to), .val (.int (y0 &&& (255 : Int32))), .val (.int (own_need y0)), .val (.int (own_lo y0)), .val (.int (own_hi y0)), .unset] []))
        refine OG.of (A := s₁.setTop (mkF m 221 #[.val (.ref ar), .val (.int i0), .val (.int to), .val (.int (y0 &&& (255 : Int32))), .val (.int (own_need y0)), .val (.int (own_lo y0)), .val (.int (own_hi y0)), .val (.int (2 : Int32))] [(.int (own_need y0)), (.int (2 : Int32))])) (fun oT oK => ?_) ?_
        · show Steps p.tables e below (s₁.setTop (mkF m 214 #[.val (.ref ar), .val (.int i0), .val (.int to), .val (.int (y0 &&& (255 : Int32))), .val (.int (own_need y0)), .val (.int (own_lo y0)), .val (.int (own_hi y0)), .unset] [])) oT
          refine XS.iconst X0.here hx rfl (hb hby dS_214) ?_
          show Steps p.tables e below (s₁.setTop (mkF m 215 #[.val (.ref ar), .val (.int i0), .val (.int to), .val (.int (y0 &&& (255 : Int32))), .val (.int (own_need y0)), .val (.int (own_lo y0)), .val (.int (own_hi y0)), .unset] [(.int (2 : Int32))])) _
          refine XS.istore X0.here hx rfl (hb hby dS_215) rfl (l' := #[.val (.ref ar), .val (.int i0), .val (.int to), .val (.int (y0 &&& (255 : Int32))), .val (.int (own_need y0)), .val (.int (own_lo y0)), .val (.int (own_hi y0)), .val (.int (2 : Int32))]) rfl ?_
          show Steps p.tables e below (s₁.setTop (mkF m 217 #[.val (.ref ar), .val (.int i0), .val (.int to), .val (.int (y0 &&& (255 : Int32))), .val (.int (own_need y0)), .val (.int (own_lo y0)), .val (.int (own_hi y0)), .val (.int (2 : Int32))] [])) _
          refine XS.iload X0.here hx rfl (hb hby dS_217) rfl  ?_
          show Steps p.tables e below (s₁.setTop (mkF m 219 #[.val (.ref ar), .val (.int i0), .val (.int to), .val (.int (y0 &&& (255 : Int32))), .val (.int (own_need y0)), .val (.int (own_lo y0)), .val (.int (own_hi y0)), .val (.int (2 : Int32))] [(.int (2 : Int32))])) _
          refine XS.iload X0.here hx rfl (hb hby dS_219) rfl  ?_
          exact oK
        show OG _ _ _ _ _ _ _ (s₁.setTop (mkF m 221 #[.val (.ref ar), .val (.int i0), .val (.int to), .val (.int (y0 &&& (255 : Int32))), .val (.int (own_need y0)), .val (.int (own_lo y0)), .val (.int (own_hi y0)), .val (.int (2 : Int32))] [(.int (own_need y0)), (.int (2 : Int32))]))
        by_cases hc221_49 : (2 : Int32) < (own_need y0)
        · refine OG.of (fun oT oK => XS.icmpNo X0.here hx rfl (hb hby dS_221) rfl (XT.ii_ge_f hc221_49) oK) ?_
          show OG _ _ _ _ _ _ _ (s₁.setTop (mkF m 224 #[.val (.ref ar), .val (.int i0), .val (.int to), .val (.int (y0 &&& (255 : Int32))), .val (.int (own_need y0)), .val (.int (own_lo y0)), .val (.int (own_hi y0)), .val (.int (2 : Int32))] []))
          refine OG.of (A := s₁.setTop (mkF m 229 #[.val (.ref ar), .val (.int i0), .val (.int to), .val (.int (y0 &&& (255 : Int32))), .val (.int (own_need y0)), .val (.int (own_lo y0)), .val (.int (own_hi y0)), .val (.int (2 : Int32))] [(.int (i0 + (2 : Int32))), (.ref ar)])) (fun oT oK => ?_) ?_
          · show Steps p.tables e below (s₁.setTop (mkF m 224 #[.val (.ref ar), .val (.int i0), .val (.int to), .val (.int (y0 &&& (255 : Int32))), .val (.int (own_need y0)), .val (.int (own_lo y0)), .val (.int (own_hi y0)), .val (.int (2 : Int32))] [])) oT
            refine XS.aloadN X0.here hx rfl (hb hby dS_224) rfl rfl  ?_
            show Steps p.tables e below (s₁.setTop (mkF m 225 #[.val (.ref ar), .val (.int i0), .val (.int to), .val (.int (y0 &&& (255 : Int32))), .val (.int (own_need y0)), .val (.int (own_lo y0)), .val (.int (own_hi y0)), .val (.int (2 : Int32))] [(.ref ar)])) _
            refine XS.iloadN X0.here hx rfl (hb hby dS_225) rfl  ?_
            show Steps p.tables e below (s₁.setTop (mkF m 226 #[.val (.ref ar), .val (.int i0), .val (.int to), .val (.int (y0 &&& (255 : Int32))), .val (.int (own_need y0)), .val (.int (own_lo y0)), .val (.int (own_hi y0)), .val (.int (2 : Int32))] [(.int i0), (.ref ar)])) _
            refine XS.iload X0.here hx rfl (hb hby dS_226) rfl  ?_
            show Steps p.tables e below (s₁.setTop (mkF m 228 #[.val (.ref ar), .val (.int i0), .val (.int to), .val (.int (y0 &&& (255 : Int32))), .val (.int (own_need y0)), .val (.int (own_lo y0)), .val (.int (own_hi y0)), .val (.int (2 : Int32))] [(.int (2 : Int32)), (.int i0), (.ref ar)])) _
            refine XS.iadd X0.here hx rfl (hb hby dS_228) rfl ?_
            exact oK
          show OG _ _ _ _ _ _ _ (s₁.setTop (mkF m 229 #[.val (.ref ar), .val (.int i0), .val (.int to), .val (.int (y0 &&& (255 : Int32))), .val (.int (own_need y0)), .val (.int (own_lo y0)), .val (.int (own_hi y0)), .val (.int (2 : Int32))] [(.int (i0 + (2 : Int32))), (.ref ar)]))
          have cf50 := R2
          obtain ⟨clf50, Arf50, If50, Hf50⟩ := cf50
          refine OG.of (X0.baloadBytes hx (j := (i0 + (2 : Int32))) (v := (.int y2)) (by rw [e0]; exact Arf50.1) (State.isArrayOf_alike hZ.alike Arf50.2.1) Arf50.2.2 If50 Hf50 (g := (mkF m 229 #[.val (.ref ar), .val (.int i0), .val (.int to), .val (.int (y0 &&& (255 : Int32))), .val (.int (own_need y0)), .val (.int (own_lo y0)), .val (.int (own_hi y0)), .val (.int (2 : Int32))] [(.int (i0 + (2 : Int32))), (.ref ar)])) rfl rfl (hb hby dS_229)) ?_
          show OG _ _ _ _ _ _ _ (s₁.setTop (mkF m 230 #[.val (.ref ar), .val (.int i0), .val (.int to), .val (.int (y0 &&& (255 : Int32))), .val (.int (own_need y0)), .val (.int (own_lo y0)), .val (.int (own_hi y0)), .val (.int (2 : Int32))] [(.int y2)]))
          refine OG.of (A := s₁.setTop (mkF m 237 #[.val (.ref ar), .val (.int i0), .val (.int to), .val (.int (y0 &&& (255 : Int32))), .val (.int (own_need y0)), .val (.int (own_lo y0)), .val (.int (own_hi y0)), .val (.int (2 : Int32))] [(.int (128 : Int32)), (.int (y2 &&& (192 : Int32)))])) (fun oT oK => ?_) ?_
          · show Steps p.tables e below (s₁.setTop (mkF m 230 #[.val (.ref ar), .val (.int i0), .val (.int to), .val (.int (y0 &&& (255 : Int32))), .val (.int (own_need y0)), .val (.int (own_lo y0)), .val (.int (own_hi y0)), .val (.int (2 : Int32))] [(.int y2)])) oT
            refine XS.sipush X0.here hx rfl (hb hby dS_230) ?_
            show Steps p.tables e below (s₁.setTop (mkF m 233 #[.val (.ref ar), .val (.int i0), .val (.int to), .val (.int (y0 &&& (255 : Int32))), .val (.int (own_need y0)), .val (.int (own_lo y0)), .val (.int (own_hi y0)), .val (.int (2 : Int32))] [(.int (192 : Int32)), (.int y2)])) _
            refine XS.iand X0.here hx rfl (hb hby dS_233) rfl ?_
            show Steps p.tables e below (s₁.setTop (mkF m 234 #[.val (.ref ar), .val (.int i0), .val (.int to), .val (.int (y0 &&& (255 : Int32))), .val (.int (own_need y0)), .val (.int (own_lo y0)), .val (.int (own_hi y0)), .val (.int (2 : Int32))] [(.int (y2 &&& (192 : Int32)))])) _
            refine XS.sipush X0.here hx rfl (hb hby dS_234) ?_
            exact oK
          show OG _ _ _ _ _ _ _ (s₁.setTop (mkF m 237 #[.val (.ref ar), .val (.int i0), .val (.int to), .val (.int (y0 &&& (255 : Int32))), .val (.int (own_need y0)), .val (.int (own_lo y0)), .val (.int (own_hi y0)), .val (.int (2 : Int32))] [(.int (128 : Int32)), (.int (y2 &&& (192 : Int32)))]))
          by_cases hc237_51 : (y2 &&& (192 : Int32)) = (128 : Int32)
          · refine OG.of (fun oT oK => XS.icmpYes X0.here hx rfl (pc0 := 237) (pc' := 242) rfl (hb hby dS_237) rfl (XT.ii_eq_t hc237_51) (by decide) (by decide) oK) ?_
            show OG _ _ _ _ _ _ _ (s₁.setTop (mkF m 242 #[.val (.ref ar), .val (.int i0), .val (.int to), .val (.int (y0 &&& (255 : Int32))), .val (.int (own_need y0)), .val (.int (own_lo y0)), .val (.int (own_hi y0)), .val (.int (2 : Int32))] []))
            refine OG.of (A := s₁.setTop (mkF m 221 #[.val (.ref ar), .val (.int i0), .val (.int to), .val (.int (y0 &&& (255 : Int32))), .val (.int (own_need y0)), .val (.int (own_lo y0)), .val (.int (own_hi y0)), .val (.int (3 : Int32))] [(.int (own_need y0)), (.int (3 : Int32))])) (fun oT oK => ?_) ?_
            · show Steps p.tables e below (s₁.setTop (mkF m 242 #[.val (.ref ar), .val (.int i0), .val (.int to), .val (.int (y0 &&& (255 : Int32))), .val (.int (own_need y0)), .val (.int (own_lo y0)), .val (.int (own_hi y0)), .val (.int (2 : Int32))] [])) oT
              refine XS.iinc X0.here hx rfl (hb hby dS_242) rfl (l' := #[.val (.ref ar), .val (.int i0), .val (.int to), .val (.int (y0 &&& (255 : Int32))), .val (.int (own_need y0)), .val (.int (own_lo y0)), .val (.int (own_hi y0)), .val (.int (3 : Int32))]) rfl ?_
              show Steps p.tables e below (s₁.setTop (mkF m 245 #[.val (.ref ar), .val (.int i0), .val (.int to), .val (.int (y0 &&& (255 : Int32))), .val (.int (own_need y0)), .val (.int (own_lo y0)), .val (.int (own_hi y0)), .val (.int (3 : Int32))] [])) _
              refine XS.goto X0.here hx rfl (pc0 := 245) (pc' := 217) rfl (hb hby dS_245) (by decide) (by decide) ?_
              show Steps p.tables e below (s₁.setTop (mkF m 217 #[.val (.ref ar), .val (.int i0), .val (.int to), .val (.int (y0 &&& (255 : Int32))), .val (.int (own_need y0)), .val (.int (own_lo y0)), .val (.int (own_hi y0)), .val (.int (3 : Int32))] [])) _
              refine XS.iload X0.here hx rfl (hb hby dS_217) rfl  ?_
              show Steps p.tables e below (s₁.setTop (mkF m 219 #[.val (.ref ar), .val (.int i0), .val (.int to), .val (.int (y0 &&& (255 : Int32))), .val (.int (own_need y0)), .val (.int (own_lo y0)), .val (.int (own_hi y0)), .val (.int (3 : Int32))] [(.int (3 : Int32))])) _
              refine XS.iload X0.here hx rfl (hb hby dS_219) rfl  ?_
              exact oK
            show OG _ _ _ _ _ _ _ (s₁.setTop (mkF m 221 #[.val (.ref ar), .val (.int i0), .val (.int to), .val (.int (y0 &&& (255 : Int32))), .val (.int (own_need y0)), .val (.int (own_lo y0)), .val (.int (own_hi y0)), .val (.int (3 : Int32))] [(.int (own_need y0)), (.int (3 : Int32))]))
            by_cases hc221_52 : (3 : Int32) < (own_need y0)
            · refine OG.of (fun oT oK => XS.icmpNo X0.here hx rfl (hb hby dS_221) rfl (XT.ii_ge_f hc221_52) oK) ?_
              show OG _ _ _ _ _ _ _ (s₁.setTop (mkF m 224 #[.val (.ref ar), .val (.int i0), .val (.int to), .val (.int (y0 &&& (255 : Int32))), .val (.int (own_need y0)), .val (.int (own_lo y0)), .val (.int (own_hi y0)), .val (.int (3 : Int32))] []))
              refine OG.of (A := s₁.setTop (mkF m 229 #[.val (.ref ar), .val (.int i0), .val (.int to), .val (.int (y0 &&& (255 : Int32))), .val (.int (own_need y0)), .val (.int (own_lo y0)), .val (.int (own_hi y0)), .val (.int (3 : Int32))] [(.int (i0 + (3 : Int32))), (.ref ar)])) (fun oT oK => ?_) ?_
              · show Steps p.tables e below (s₁.setTop (mkF m 224 #[.val (.ref ar), .val (.int i0), .val (.int to), .val (.int (y0 &&& (255 : Int32))), .val (.int (own_need y0)), .val (.int (own_lo y0)), .val (.int (own_hi y0)), .val (.int (3 : Int32))] [])) oT
                refine XS.aloadN X0.here hx rfl (hb hby dS_224) rfl rfl  ?_
                show Steps p.tables e below (s₁.setTop (mkF m 225 #[.val (.ref ar), .val (.int i0), .val (.int to), .val (.int (y0 &&& (255 : Int32))), .val (.int (own_need y0)), .val (.int (own_lo y0)), .val (.int (own_hi y0)), .val (.int (3 : Int32))] [(.ref ar)])) _
                refine XS.iloadN X0.here hx rfl (hb hby dS_225) rfl  ?_
                show Steps p.tables e below (s₁.setTop (mkF m 226 #[.val (.ref ar), .val (.int i0), .val (.int to), .val (.int (y0 &&& (255 : Int32))), .val (.int (own_need y0)), .val (.int (own_lo y0)), .val (.int (own_hi y0)), .val (.int (3 : Int32))] [(.int i0), (.ref ar)])) _
                refine XS.iload X0.here hx rfl (hb hby dS_226) rfl  ?_
                show Steps p.tables e below (s₁.setTop (mkF m 228 #[.val (.ref ar), .val (.int i0), .val (.int to), .val (.int (y0 &&& (255 : Int32))), .val (.int (own_need y0)), .val (.int (own_lo y0)), .val (.int (own_hi y0)), .val (.int (3 : Int32))] [(.int (3 : Int32)), (.int i0), (.ref ar)])) _
                refine XS.iadd X0.here hx rfl (hb hby dS_228) rfl ?_
                exact oK
              show OG _ _ _ _ _ _ _ (s₁.setTop (mkF m 229 #[.val (.ref ar), .val (.int i0), .val (.int to), .val (.int (y0 &&& (255 : Int32))), .val (.int (own_need y0)), .val (.int (own_lo y0)), .val (.int (own_hi y0)), .val (.int (3 : Int32))] [(.int (i0 + (3 : Int32))), (.ref ar)]))
              have cf53 := R3
              obtain ⟨clf53, Arf53, If53, Hf53⟩ := cf53
              refine OG.of (X0.baloadBytes hx (j := (i0 + (3 : Int32))) (v := (.int y3)) (by rw [e0]; exact Arf53.1) (State.isArrayOf_alike hZ.alike Arf53.2.1) Arf53.2.2 If53 Hf53 (g := (mkF m 229 #[.val (.ref ar), .val (.int i0), .val (.int to), .val (.int (y0 &&& (255 : Int32))), .val (.int (own_need y0)), .val (.int (own_lo y0)), .val (.int (own_hi y0)), .val (.int (3 : Int32))] [(.int (i0 + (3 : Int32))), (.ref ar)])) rfl rfl (hb hby dS_229)) ?_
              show OG _ _ _ _ _ _ _ (s₁.setTop (mkF m 230 #[.val (.ref ar), .val (.int i0), .val (.int to), .val (.int (y0 &&& (255 : Int32))), .val (.int (own_need y0)), .val (.int (own_lo y0)), .val (.int (own_hi y0)), .val (.int (3 : Int32))] [(.int y3)]))
              refine OG.of (A := s₁.setTop (mkF m 237 #[.val (.ref ar), .val (.int i0), .val (.int to), .val (.int (y0 &&& (255 : Int32))), .val (.int (own_need y0)), .val (.int (own_lo y0)), .val (.int (own_hi y0)), .val (.int (3 : Int32))] [(.int (128 : Int32)), (.int (y3 &&& (192 : Int32)))])) (fun oT oK => ?_) ?_
              · show Steps p.tables e below (s₁.setTop (mkF m 230 #[.val (.ref ar), .val (.int i0), .val (.int to), .val (.int (y0 &&& (255 : Int32))), .val (.int (own_need y0)), .val (.int (own_lo y0)), .val (.int (own_hi y0)), .val (.int (3 : Int32))] [(.int y3)])) oT
                refine XS.sipush X0.here hx rfl (hb hby dS_230) ?_
                show Steps p.tables e below (s₁.setTop (mkF m 233 #[.val (.ref ar), .val (.int i0), .val (.int to), .val (.int (y0 &&& (255 : Int32))), .val (.int (own_need y0)), .val (.int (own_lo y0)), .val (.int (own_hi y0)), .val (.int (3 : Int32))] [(.int (192 : Int32)), (.int y3)])) _
                refine XS.iand X0.here hx rfl (hb hby dS_233) rfl ?_
                show Steps p.tables e below (s₁.setTop (mkF m 234 #[.val (.ref ar), .val (.int i0), .val (.int to), .val (.int (y0 &&& (255 : Int32))), .val (.int (own_need y0)), .val (.int (own_lo y0)), .val (.int (own_hi y0)), .val (.int (3 : Int32))] [(.int (y3 &&& (192 : Int32)))])) _
                refine XS.sipush X0.here hx rfl (hb hby dS_234) ?_
                exact oK
              show OG _ _ _ _ _ _ _ (s₁.setTop (mkF m 237 #[.val (.ref ar), .val (.int i0), .val (.int to), .val (.int (y0 &&& (255 : Int32))), .val (.int (own_need y0)), .val (.int (own_lo y0)), .val (.int (own_hi y0)), .val (.int (3 : Int32))] [(.int (128 : Int32)), (.int (y3 &&& (192 : Int32)))]))
              by_cases hc237_54 : (y3 &&& (192 : Int32)) = (128 : Int32)
              · refine OG.of (fun oT oK => XS.icmpYes X0.here hx rfl (pc0 := 237) (pc' := 242) rfl (hb hby dS_237) rfl (XT.ii_eq_t hc237_54) (by decide) (by decide) oK) ?_
                show OG _ _ _ _ _ _ _ (s₁.setTop (mkF m 242 #[.val (.ref ar), .val (.int i0), .val (.int to), .val (.int (y0 &&& (255 : Int32))), .val (.int (own_need y0)), .val (.int (own_lo y0)), .val (.int (own_hi y0)), .val (.int (3 : Int32))] []))
                refine OG.of (A := s₁.setTop (mkF m 250 #[.val (.ref ar), .val (.int i0), .val (.int to), .val (.int (y0 &&& (255 : Int32))), .val (.int (own_need y0)), .val (.int (own_lo y0)), .val (.int (own_hi y0)), .val (.int (4 : Int32))] [(.int (own_need y0))])) (fun oT oK => ?_) ?_
                · show Steps p.tables e below (s₁.setTop (mkF m 242 #[.val (.ref ar), .val (.int i0), .val (.int to), .val (.int (y0 &&& (255 : Int32))), .val (.int (own_need y0)), .val (.int (own_lo y0)), .val (.int (own_hi y0)), .val (.int (3 : Int32))] [])) oT
                  refine XS.iinc X0.here hx rfl (hb hby dS_242) rfl (l' := #[.val (.ref ar), .val (.int i0), .val (.int to), .val (.int (y0 &&& (255 : Int32))), .val (.int (own_need y0)), .val (.int (own_lo y0)), .val (.int (own_hi y0)), .val (.int (4 : Int32))]) rfl ?_
                  show Steps p.tables e below (s₁.setTop (mkF m 245 #[.val (.ref ar), .val (.int i0), .val (.int to), .val (.int (y0 &&& (255 : Int32))), .val (.int (own_need y0)), .val (.int (own_lo y0)), .val (.int (own_hi y0)), .val (.int (4 : Int32))] [])) _
                  refine XS.goto X0.here hx rfl (pc0 := 245) (pc' := 217) rfl (hb hby dS_245) (by decide) (by decide) ?_
                  show Steps p.tables e below (s₁.setTop (mkF m 217 #[.val (.ref ar), .val (.int i0), .val (.int to), .val (.int (y0 &&& (255 : Int32))), .val (.int (own_need y0)), .val (.int (own_lo y0)), .val (.int (own_hi y0)), .val (.int (4 : Int32))] [])) _
                  refine XS.iload X0.here hx rfl (hb hby dS_217) rfl  ?_
                  show Steps p.tables e below (s₁.setTop (mkF m 219 #[.val (.ref ar), .val (.int i0), .val (.int to), .val (.int (y0 &&& (255 : Int32))), .val (.int (own_need y0)), .val (.int (own_lo y0)), .val (.int (own_hi y0)), .val (.int (4 : Int32))] [(.int (4 : Int32))])) _
                  refine XS.iload X0.here hx rfl (hb hby dS_219) rfl  ?_
                  show Steps p.tables e below (s₁.setTop (mkF m 221 #[.val (.ref ar), .val (.int i0), .val (.int to), .val (.int (y0 &&& (255 : Int32))), .val (.int (own_need y0)), .val (.int (own_lo y0)), .val (.int (own_hi y0)), .val (.int (4 : Int32))] [(.int (own_need y0)), (.int (4 : Int32))])) _
                  refine XS.icmpYes X0.here hx rfl (pc0 := 221) (pc' := 248) rfl (hb hby dS_221) rfl (XT.ii_ge_t (own_need4 y0)) (by decide) (by decide) ?_
                  show Steps p.tables e below (s₁.setTop (mkF m 248 #[.val (.ref ar), .val (.int i0), .val (.int to), .val (.int (y0 &&& (255 : Int32))), .val (.int (own_need y0)), .val (.int (own_lo y0)), .val (.int (own_hi y0)), .val (.int (4 : Int32))] [])) _
                  refine XS.iload X0.here hx rfl (hb hby dS_248) rfl  ?_
                  exact oK
                show OG _ _ _ _ _ _ _ (s₁.setTop (mkF m 250 #[.val (.ref ar), .val (.int i0), .val (.int to), .val (.int (y0 &&& (255 : Int32))), .val (.int (own_need y0)), .val (.int (own_lo y0)), .val (.int (own_hi y0)), .val (.int (4 : Int32))] [(.int (own_need y0))]))
                refine OG.retI X0 hx Bd.returns (hb hby dS_250) hlk ?_ (by decide) (by decide)
                try rw [e0]
                exact ⟨by rw [own_seq, if_neg hc165_36, if_neg hc173_37, if_neg hc181_38, if_pos hc221_49, if_pos hc237_51, if_pos hc221_52, if_pos hc237_54] <;> rfl, N0, rfl⟩
              · refine OG.of (fun oT oK => XS.icmpNo X0.here hx rfl (hb hby dS_237) rfl (XT.ii_eq_f hc237_54) oK) ?_
                show OG _ _ _ _ _ _ _ (s₁.setTop (mkF m 240 #[.val (.ref ar), .val (.int i0), .val (.int to), .val (.int (y0 &&& (255 : Int32))), .val (.int (own_need y0)), .val (.int (own_lo y0)), .val (.int (own_hi y0)), .val (.int (3 : Int32))] []))
                refine OG.of (A := s₁.setTop (mkF m 241 #[.val (.ref ar), .val (.int i0), .val (.int to), .val (.int (y0 &&& (255 : Int32))), .val (.int (own_need y0)), .val (.int (own_lo y0)), .val (.int (own_hi y0)), .val (.int (3 : Int32))] [(.int (0 : Int32))])) (fun oT oK => ?_) ?_
                · show Steps p.tables e below (s₁.setTop (mkF m 240 #[.val (.ref ar), .val (.int i0), .val (.int to), .val (.int (y0 &&& (255 : Int32))), .val (.int (own_need y0)), .val (.int (own_lo y0)), .val (.int (own_hi y0)), .val (.int (3 : Int32))] [])) oT
                  refine XS.iconst X0.here hx rfl (hb hby dS_240) ?_
                  exact oK
                show OG _ _ _ _ _ _ _ (s₁.setTop (mkF m 241 #[.val (.ref ar), .val (.int i0), .val (.int to), .val (.int (y0 &&& (255 : Int32))), .val (.int (own_need y0)), .val (.int (own_lo y0)), .val (.int (own_hi y0)), .val (.int (3 : Int32))] [(.int (0 : Int32))]))
                refine OG.retI X0 hx Bd.returns (hb hby dS_241) hlk ?_ (by decide) (by decide)
                try rw [e0]
                exact ⟨by rw [own_seq, if_neg hc165_36, if_neg hc173_37, if_neg hc181_38, if_pos hc221_49, if_pos hc237_51, if_pos hc221_52, if_neg hc237_54] <;> rfl, N0, rfl⟩
            · refine OG.of (fun oT oK => XS.icmpYes X0.here hx rfl (pc0 := 221) (pc' := 248) rfl (hb hby dS_221) rfl (XT.ii_ge_t hc221_52) (by decide) (by decide) oK) ?_
              show OG _ _ _ _ _ _ _ (s₁.setTop (mkF m 248 #[.val (.ref ar), .val (.int i0), .val (.int to), .val (.int (y0 &&& (255 : Int32))), .val (.int (own_need y0)), .val (.int (own_lo y0)), .val (.int (own_hi y0)), .val (.int (3 : Int32))] []))
              refine OG.of (A := s₁.setTop (mkF m 250 #[.val (.ref ar), .val (.int i0), .val (.int to), .val (.int (y0 &&& (255 : Int32))), .val (.int (own_need y0)), .val (.int (own_lo y0)), .val (.int (own_hi y0)), .val (.int (3 : Int32))] [(.int (own_need y0))])) (fun oT oK => ?_) ?_
              · show Steps p.tables e below (s₁.setTop (mkF m 248 #[.val (.ref ar), .val (.int i0), .val (.int to), .val (.int (y0 &&& (255 : Int32))), .val (.int (own_need y0)), .val (.int (own_lo y0)), .val (.int (own_hi y0)), .val (.int (3 : Int32))] [])) oT
                refine XS.iload X0.here hx rfl (hb hby dS_248) rfl  ?_
                exact oK
              show OG _ _ _ _ _ _ _ (s₁.setTop (mkF m 250 #[.val (.ref ar), .val (.int i0), .val (.int to), .val (.int (y0 &&& (255 : Int32))), .val (.int (own_need y0)), .val (.int (own_lo y0)), .val (.int (own_hi y0)), .val (.int (3 : Int32))] [(.int (own_need y0))]))
              refine OG.retI X0 hx Bd.returns (hb hby dS_250) hlk ?_ (by decide) (by decide)
              try rw [e0]
              exact ⟨by rw [own_seq, if_neg hc165_36, if_neg hc173_37, if_neg hc181_38, if_pos hc221_49, if_pos hc237_51, if_neg hc221_52] <;> rfl, N0, rfl⟩
          · refine OG.of (fun oT oK => XS.icmpNo X0.here hx rfl (hb hby dS_237) rfl (XT.ii_eq_f hc237_51) oK) ?_
            show OG _ _ _ _ _ _ _ (s₁.setTop (mkF m 240 #[.val (.ref ar), .val (.int i0), .val (.int to), .val (.int (y0 &&& (255 : Int32))), .val (.int (own_need y0)), .val (.int (own_lo y0)), .val (.int (own_hi y0)), .val (.int (2 : Int32))] []))
            refine OG.of (A := s₁.setTop (mkF m 241 #[.val (.ref ar), .val (.int i0), .val (.int to), .val (.int (y0 &&& (255 : Int32))), .val (.int (own_need y0)), .val (.int (own_lo y0)), .val (.int (own_hi y0)), .val (.int (2 : Int32))] [(.int (0 : Int32))])) (fun oT oK => ?_) ?_
            · show Steps p.tables e below (s₁.setTop (mkF m 240 #[.val (.ref ar), .val (.int i0), .val (.int to), .val (.int (y0 &&& (255 : Int32))), .val (.int (own_need y0)), .val (.int (own_lo y0)), .val (.int (own_hi y0)), .val (.int (2 : Int32))] [])) oT
              refine XS.iconst X0.here hx rfl (hb hby dS_240) ?_
              exact oK
            show OG _ _ _ _ _ _ _ (s₁.setTop (mkF m 241 #[.val (.ref ar), .val (.int i0), .val (.int to), .val (.int (y0 &&& (255 : Int32))), .val (.int (own_need y0)), .val (.int (own_lo y0)), .val (.int (own_hi y0)), .val (.int (2 : Int32))] [(.int (0 : Int32))]))
            refine OG.retI X0 hx Bd.returns (hb hby dS_241) hlk ?_ (by decide) (by decide)
            try rw [e0]
            exact ⟨by rw [own_seq, if_neg hc165_36, if_neg hc173_37, if_neg hc181_38, if_pos hc221_49, if_neg hc237_51] <;> rfl, N0, rfl⟩
        · refine OG.of (fun oT oK => XS.icmpYes X0.here hx rfl (pc0 := 221) (pc' := 248) rfl (hb hby dS_221) rfl (XT.ii_ge_t hc221_49) (by decide) (by decide) oK) ?_
          show OG _ _ _ _ _ _ _ (s₁.setTop (mkF m 248 #[.val (.ref ar), .val (.int i0), .val (.int to), .val (.int (y0 &&& (255 : Int32))), .val (.int (own_need y0)), .val (.int (own_lo y0)), .val (.int (own_hi y0)), .val (.int (2 : Int32))] []))
          refine OG.of (A := s₁.setTop (mkF m 250 #[.val (.ref ar), .val (.int i0), .val (.int to), .val (.int (y0 &&& (255 : Int32))), .val (.int (own_need y0)), .val (.int (own_lo y0)), .val (.int (own_hi y0)), .val (.int (2 : Int32))] [(.int (own_need y0))])) (fun oT oK => ?_) ?_
          · show Steps p.tables e below (s₁.setTop (mkF m 248 #[.val (.ref ar), .val (.int i0), .val (.int to), .val (.int (y0 &&& (255 : Int32))), .val (.int (own_need y0)), .val (.int (own_lo y0)), .val (.int (own_hi y0)), .val (.int (2 : Int32))] [])) oT
            refine XS.iload X0.here hx rfl (hb hby dS_248) rfl  ?_
            exact oK
          show OG _ _ _ _ _ _ _ (s₁.setTop (mkF m 250 #[.val (.ref ar), .val (.int i0), .val (.int to), .val (.int (y0 &&& (255 : Int32))), .val (.int (own_need y0)), .val (.int (own_lo y0)), .val (.int (own_hi y0)), .val (.int (2 : Int32))] [(.int (own_need y0))]))
          refine OG.retI X0 hx Bd.returns (hb hby dS_250) hlk ?_ (by decide) (by decide)
          try rw [e0]
          exact ⟨by rw [own_seq, if_neg hc165_36, if_neg hc173_37, if_neg hc181_38, if_neg hc221_49] <;> rfl, N0, rfl⟩
theorem pd___BII_I : parseMethodDescriptor "([BII)I" = some ⟨[(.array .byte), .int, .int], some .int⟩ := by decide +kernel
theorem pd__IIIII_I : parseMethodDescriptor "(IIIII)I" = some ⟨[.int, .int, .int, .int, .int], some .int⟩ := by decide +kernel
theorem pn_0 : plainName "com/example/gate_to_gate/gatetogate/model/Utf8SequenceLengthPinLaw" = true := by first | (simp [plainName, overriddenIn]; done) | decide +kernel
theorem ef_0 (m : MethodId) (x0 : Int32) (x1 : Int32) (x2 : Int32) : entryFrame m #[(.int x0), (.int x1), (.int x2)] maxLocals = mkF m 0 #[.val (.int x0), .val (.int x1), .val (.int x2), .unset, .unset, .unset, .unset, .unset, .unset, .unset, .unset, .unset] [] := by first | (simp [entryFrame, mkF, argsToLocals, Value.category, maxLocals]; done) | rfl
def Q0 (Z : State) (p0 : Int32) (p1 : Int32) (p2 : Int32) (h0 : Heap) (n0 : Nat) (v : Option Value) (h : Heap) (L : List Loc) : Prop := v = some (.int 1) ∧ Fr n0 L
set_option maxRecDepth 65536 in
set_option maxHeartbeats 40000000 in
theorem rm0 (l : Launch) (Z : State) (a0 : Array Value) (hw : ∀ d ∈ tables_1, d.before a0 Z = true) (ws : List Jvm.Cond) (p0 : Int32) (p1 : Int32) (p2 : Int32) (h0 : Heap) (n0 : Nat) (Z0 : n0 ≤ h0.size) :
    MetFree l x (head1 (Jvm.Cond.code x code maxLocals ret :: ws) room_1) (fun aA oU => aA = #[(.int p0), (.int p1), (.int p2)] ∧ Z.Warmed39 oU.vm ∧ oU.heap = h0) (fun _ _ _ _ _ => True) (fun _ oU oO oU' => ∃ oV oL, oO = .returned oV ∧ Q0 Z p0 p1 p2 h0 n0 oV oU'.heap oL ∧ FrameEnd oU oO oU' oL 16 128) := by
  refine MetFree.of_bodySF (plainFor_of_name pn_0) hisR ?_
  intro p e s m args below meth c s₁ Bd hml0 hP hK
  obtain ⟨rfl, hZ, hh⟩ := hP
  have hx := Bd.exec
  have hby := Bd.bytes
  have hlk := BodyLoose.notSynchronized Bd
  have hml : c.maxLocals = 12 := hml0
  have hown : s.vm.findClass "com/example/gate_to_gate/gatetogate/model/Utf8SequenceLengthPinLaw" = some m.cls := findClass_of_methodNamed Bd.named
  have hnm := (name_of_methodNamed Bd.named Bd.method).1
  have X0 : Stand p l e room_1 s m #[(.int p0), (.int p1), (.int p2)] below meth c s₁ [] 0 0 := Stand.of_body Bd
  have e0 : s₁.heap = h0 := by rw [← hh, Bd.state]; rfl
  have N0 := Fr.nil n0
  show OG p e below s 16 128 (Q0 Z p0 p1 p2 h0 n0) _
  refine OG.of (fun oT oK => castTop (ef_0 m p0 p1 p2) oK) ?_
  show OG p e below s _ _ _ (s₁.setTop (mkF m 0 #[.val (.int p0), .val (.int p1), .val (.int p2), .unset, .unset, .unset, .unset, .unset, .unset, .unset, .unset, .unset] []))
  refine OG.of (A := s₁.setTop (mkF m 1 #[.val (.int p0), .val (.int p1), .val (.int p2), .unset, .unset, .unset, .unset, .unset, .unset, .unset, .unset, .unset] [(.int (5 : Int32))])) (fun oT oK => ?_) ?_
  · show Steps p.tables e below (s₁.setTop (mkF m 0 #[.val (.int p0), .val (.int p1), .val (.int p2), .unset, .unset, .unset, .unset, .unset, .unset, .unset, .unset, .unset] [])) oT
    refine XS.iconst X0.here hx rfl (hb hby at_0) ?_
    exact oK
  show OG _ _ _ _ _ _ _ (s₁.setTop (mkF m 1 #[.val (.int p0), .val (.int p1), .val (.int p2), .unset, .unset, .unset, .unset, .unset, .unset, .unset, .unset, .unset] [(.int (5 : Int32))]))
  obtain ⟨T1, h1, kc1, X1, e1, E1, A1, st1⟩ := newP X0 hx hZ (hw _ (List.mem_of_getElem? (i := 0) rfl)) e0 (g := (mkF m 1 #[.val (.int p0), .val (.int p1), .val (.int p2), .unset, .unset, .unset, .unset, .unset, .unset, .unset, .unset, .unset] [(.int (5 : Int32))])) rfl (hb hby at_1) rfl (by decide) (cap := 5) (by decide) (by decide) (by decide) (by decide)
  obtain ⟨b1, g1⟩ : ∃ z, z = (h0).size := ⟨_, rfl⟩
  have gn_b1 : n0 ≤ b1 := Nat.le_trans Z0 (Nat.le_of_eq g1.symm)
  have sz_b1 : h0.size ≤ b1 := Nat.le_trans (Keep.refl h0 []).1 (Nat.le_of_eq g1.symm)
  rw [← g1] at A1 st1
  have K1 : Keep h0 h1 [] := (Keep.refl h0 []).ext E1
  have Z1 : n0 ≤ h1.size := Nat.le_trans Z0 E1.1
  have V1 : Arv Z h1 b1 kc1 .byte (5 : Int32) [(.int (0 : Int32)), (.int (0 : Int32)), (.int (0 : Int32)), (.int (0 : Int32)), (.int (0 : Int32))] (.int (0 : Int32)) := (Arv.new A1 (by decide)).pad (pad_rep [] (.int (0 : Int32)) 5)
  refine OG.of st1 ?_
  show OG _ _ _ _ _ _ _ (T1.setTop (mkF m 3 #[.val (.int p0), .val (.int p1), .val (.int p2), .unset, .unset, .unset, .unset, .unset, .unset, .unset, .unset, .unset] [(.ref b1)]))
  refine OG.of (A := T1.setTop (mkF m 8 #[.val (.int p0), .val (.int p1), .val (.int p2), .val (.ref b1), .unset, .unset, .unset, .unset, .unset, .unset, .unset, .unset] [(.int p0.toInt8.toInt32), (.int (0 : Int32)), (.ref b1)])) (fun oT oK => ?_) ?_
  · show Steps p.tables e below (T1.setTop (mkF m 3 #[.val (.int p0), .val (.int p1), .val (.int p2), .unset, .unset, .unset, .unset, .unset, .unset, .unset, .unset, .unset] [(.ref b1)])) oT
    refine XS.astoreN X1.here hx rfl (hb hby at_3) rfl rfl (l' := #[.val (.int p0), .val (.int p1), .val (.int p2), .val (.ref b1), .unset, .unset, .unset, .unset, .unset, .unset, .unset, .unset]) rfl ?_
    show Steps p.tables e below (T1.setTop (mkF m 4 #[.val (.int p0), .val (.int p1), .val (.int p2), .val (.ref b1), .unset, .unset, .unset, .unset, .unset, .unset, .unset, .unset] [])) _
    refine XS.aloadN X1.here hx rfl (hb hby at_4) rfl rfl  ?_
    show Steps p.tables e below (T1.setTop (mkF m 5 #[.val (.int p0), .val (.int p1), .val (.int p2), .val (.ref b1), .unset, .unset, .unset, .unset, .unset, .unset, .unset, .unset] [(.ref b1)])) _
    refine XS.iconst X1.here hx rfl (hb hby at_5) ?_
    show Steps p.tables e below (T1.setTop (mkF m 6 #[.val (.int p0), .val (.int p1), .val (.int p2), .val (.ref b1), .unset, .unset, .unset, .unset, .unset, .unset, .unset, .unset] [(.int (0 : Int32)), (.ref b1)])) _
    refine XS.iloadN X1.here hx rfl (hb hby at_6) rfl  ?_
    show Steps p.tables e below (T1.setTop (mkF m 7 #[.val (.int p0), .val (.int p1), .val (.int p2), .val (.ref b1), .unset, .unset, .unset, .unset, .unset, .unset, .unset, .unset] [(.int p0), (.int (0 : Int32)), (.ref b1)])) _
    refine XT.i2b X1.here hx rfl (hb hby at_7) rfl ?_
    exact oK
  show OG _ _ _ _ _ _ _ (T1.setTop (mkF m 8 #[.val (.int p0), .val (.int p1), .val (.int p2), .val (.ref b1), .unset, .unset, .unset, .unset, .unset, .unset, .unset, .unset] [(.int p0.toInt8.toInt32), (.int (0 : Int32)), (.ref b1)]))
  have cf1 := V1
  obtain ⟨clf1, Arf1, qf1, Sf1, Mf1, Hf1, Gf1⟩ := cf1
  obtain ⟨T2, h2, X2, e2, W2, st2⟩ := stB X1 hx hZ e1 Arf1 (j := (0 : Int32)) (inb_of Sf1 ⟨by decide, by decide⟩) (g := (mkF m 8 #[.val (.int p0), .val (.int p1), .val (.int p2), .val (.ref b1), .unset, .unset, .unset, .unset, .unset, .unset, .unset, .unset] [(.int p0.toInt8.toInt32), (.int (0 : Int32)), (.ref b1)])) rfl rfl (hb hby at_8)
  have V2 : Arv Z h2 b1 kc1 .byte (5 : Int32) [(.int (p0.toInt8.toInt32).toInt8.toInt32), (.int (0 : Int32)), (.int (0 : Int32)), (.int (0 : Int32)), (.int (0 : Int32))] (.int (0 : Int32)) := Arv.set Arf1 qf1 Sf1 Mf1 Hf1 Gf1 (fits_nar_byte _) W2 0 rfl (Nat.le_of_ble_eq_true rfl)
  have K2 : Keep h0 h2 [] := (K1).wr W2 (Or.inr sz_b1)
  have Z2 : n0 ≤ h2.size := Nat.le_trans Z1 (Keep.of_wr W2).1
  have N2 := Fr.snoc X2 N0 gn_b1
  refine OG.of st2 ?_
  show OG _ _ _ _ _ _ _ (T2.setTop (mkF m 9 #[.val (.int p0), .val (.int p1), .val (.int p2), .val (.ref b1), .unset, .unset, .unset, .unset, .unset, .unset, .unset, .unset] []))
  refine OG.of (A := T2.setTop (mkF m 16 #[.val (.int p0), .val (.int p1), .val (.int p2), .val (.ref b1), .unset, .unset, .unset, .unset, .unset, .unset, .unset, .unset] [(.int (XT.ushr p0 (8 : Int32)).toInt8.toInt32), (.int (1 : Int32)), (.ref b1)])) (fun oT oK => ?_) ?_
  · show Steps p.tables e below (T2.setTop (mkF m 9 #[.val (.int p0), .val (.int p1), .val (.int p2), .val (.ref b1), .unset, .unset, .unset, .unset, .unset, .unset, .unset, .unset] [])) oT
    refine XS.aloadN X2.here hx rfl (hb hby at_9) rfl rfl  ?_
    show Steps p.tables e below (T2.setTop (mkF m 10 #[.val (.int p0), .val (.int p1), .val (.int p2), .val (.ref b1), .unset, .unset, .unset, .unset, .unset, .unset, .unset, .unset] [(.ref b1)])) _
    refine XS.iconst X2.here hx rfl (hb hby at_10) ?_
    show Steps p.tables e below (T2.setTop (mkF m 11 #[.val (.int p0), .val (.int p1), .val (.int p2), .val (.ref b1), .unset, .unset, .unset, .unset, .unset, .unset, .unset, .unset] [(.int (1 : Int32)), (.ref b1)])) _
    refine XS.iloadN X2.here hx rfl (hb hby at_11) rfl  ?_
    show Steps p.tables e below (T2.setTop (mkF m 12 #[.val (.int p0), .val (.int p1), .val (.int p2), .val (.ref b1), .unset, .unset, .unset, .unset, .unset, .unset, .unset, .unset] [(.int p0), (.int (1 : Int32)), (.ref b1)])) _
    refine XS.bipush X2.here hx rfl (hb hby at_12) ?_
    show Steps p.tables e below (T2.setTop (mkF m 14 #[.val (.int p0), .val (.int p1), .val (.int p2), .val (.ref b1), .unset, .unset, .unset, .unset, .unset, .unset, .unset, .unset] [(.int (8 : Int32)), (.int p0), (.int (1 : Int32)), (.ref b1)])) _
    refine XT.iushr X2.here hx rfl (hb hby at_14) rfl ?_
    show Steps p.tables e below (T2.setTop (mkF m 15 #[.val (.int p0), .val (.int p1), .val (.int p2), .val (.ref b1), .unset, .unset, .unset, .unset, .unset, .unset, .unset, .unset] [(.int (XT.ushr p0 (8 : Int32))), (.int (1 : Int32)), (.ref b1)])) _
    refine XT.i2b X2.here hx rfl (hb hby at_15) rfl ?_
    exact oK
  show OG _ _ _ _ _ _ _ (T2.setTop (mkF m 16 #[.val (.int p0), .val (.int p1), .val (.int p2), .val (.ref b1), .unset, .unset, .unset, .unset, .unset, .unset, .unset, .unset] [(.int (XT.ushr p0 (8 : Int32)).toInt8.toInt32), (.int (1 : Int32)), (.ref b1)]))
  have cf3 := V2
  obtain ⟨clf3, Arf3, qf3, Sf3, Mf3, Hf3, Gf3⟩ := cf3
  obtain ⟨T3, h3, X3, e3, W3, st3⟩ := stB X2 hx hZ e2 Arf3 (j := (1 : Int32)) (inb_of Sf3 ⟨by decide, by decide⟩) (g := (mkF m 16 #[.val (.int p0), .val (.int p1), .val (.int p2), .val (.ref b1), .unset, .unset, .unset, .unset, .unset, .unset, .unset, .unset] [(.int (XT.ushr p0 (8 : Int32)).toInt8.toInt32), (.int (1 : Int32)), (.ref b1)])) rfl rfl (hb hby at_16)
  have V3 : Arv Z h3 b1 kc1 .byte (5 : Int32) [(.int (p0.toInt8.toInt32).toInt8.toInt32), (.int ((XT.ushr p0 (8 : Int32)).toInt8.toInt32).toInt8.toInt32), (.int (0 : Int32)), (.int (0 : Int32)), (.int (0 : Int32))] (.int (0 : Int32)) := Arv.set Arf3 qf3 Sf3 Mf3 Hf3 Gf3 (fits_nar_byte _) W3 1 rfl (Nat.le_of_ble_eq_true rfl)
  have K3 : Keep h0 h3 [] := (K2).wr W3 (Or.inr sz_b1)
  have Z3 : n0 ≤ h3.size := Nat.le_trans Z2 (Keep.of_wr W3).1
  have N3 := Fr.snoc X3 N2 gn_b1
  refine OG.of st3 ?_
  show OG _ _ _ _ _ _ _ (T3.setTop (mkF m 17 #[.val (.int p0), .val (.int p1), .val (.int p2), .val (.ref b1), .unset, .unset, .unset, .unset, .unset, .unset, .unset, .unset] []))
  refine OG.of (A := T3.setTop (mkF m 24 #[.val (.int p0), .val (.int p1), .val (.int p2), .val (.ref b1), .unset, .unset, .unset, .unset, .unset, .unset, .unset, .unset] [(.int (XT.ushr p0 (16 : Int32)).toInt8.toInt32), (.int (2 : Int32)), (.ref b1)])) (fun oT oK => ?_) ?_
  · show Steps p.tables e below (T3.setTop (mkF m 17 #[.val (.int p0), .val (.int p1), .val (.int p2), .val (.ref b1), .unset, .unset, .unset, .unset, .unset, .unset, .unset, .unset] [])) oT
    refine XS.aloadN X3.here hx rfl (hb hby at_17) rfl rfl  ?_
    show Steps p.tables e below (T3.setTop (mkF m 18 #[.val (.int p0), .val (.int p1), .val (.int p2), .val (.ref b1), .unset, .unset, .unset, .unset, .unset, .unset, .unset, .unset] [(.ref b1)])) _
    refine XS.iconst X3.here hx rfl (hb hby at_18) ?_
    show Steps p.tables e below (T3.setTop (mkF m 19 #[.val (.int p0), .val (.int p1), .val (.int p2), .val (.ref b1), .unset, .unset, .unset, .unset, .unset, .unset, .unset, .unset] [(.int (2 : Int32)), (.ref b1)])) _
    refine XS.iloadN X3.here hx rfl (hb hby at_19) rfl  ?_
    show Steps p.tables e below (T3.setTop (mkF m 20 #[.val (.int p0), .val (.int p1), .val (.int p2), .val (.ref b1), .unset, .unset, .unset, .unset, .unset, .unset, .unset, .unset] [(.int p0), (.int (2 : Int32)), (.ref b1)])) _
    refine XS.bipush X3.here hx rfl (hb hby at_20) ?_
    show Steps p.tables e below (T3.setTop (mkF m 22 #[.val (.int p0), .val (.int p1), .val (.int p2), .val (.ref b1), .unset, .unset, .unset, .unset, .unset, .unset, .unset, .unset] [(.int (16 : Int32)), (.int p0), (.int (2 : Int32)), (.ref b1)])) _
    refine XT.iushr X3.here hx rfl (hb hby at_22) rfl ?_
    show Steps p.tables e below (T3.setTop (mkF m 23 #[.val (.int p0), .val (.int p1), .val (.int p2), .val (.ref b1), .unset, .unset, .unset, .unset, .unset, .unset, .unset, .unset] [(.int (XT.ushr p0 (16 : Int32))), (.int (2 : Int32)), (.ref b1)])) _
    refine XT.i2b X3.here hx rfl (hb hby at_23) rfl ?_
    exact oK
  show OG _ _ _ _ _ _ _ (T3.setTop (mkF m 24 #[.val (.int p0), .val (.int p1), .val (.int p2), .val (.ref b1), .unset, .unset, .unset, .unset, .unset, .unset, .unset, .unset] [(.int (XT.ushr p0 (16 : Int32)).toInt8.toInt32), (.int (2 : Int32)), (.ref b1)]))
  have cf5 := V3
  obtain ⟨clf5, Arf5, qf5, Sf5, Mf5, Hf5, Gf5⟩ := cf5
  obtain ⟨T4, h4, X4, e4, W4, st4⟩ := stB X3 hx hZ e3 Arf5 (j := (2 : Int32)) (inb_of Sf5 ⟨by decide, by decide⟩) (g := (mkF m 24 #[.val (.int p0), .val (.int p1), .val (.int p2), .val (.ref b1), .unset, .unset, .unset, .unset, .unset, .unset, .unset, .unset] [(.int (XT.ushr p0 (16 : Int32)).toInt8.toInt32), (.int (2 : Int32)), (.ref b1)])) rfl rfl (hb hby at_24)
  have V4 : Arv Z h4 b1 kc1 .byte (5 : Int32) [(.int (p0.toInt8.toInt32).toInt8.toInt32), (.int ((XT.ushr p0 (8 : Int32)).toInt8.toInt32).toInt8.toInt32), (.int ((XT.ushr p0 (16 : Int32)).toInt8.toInt32).toInt8.toInt32), (.int (0 : Int32)), (.int (0 : Int32))] (.int (0 : Int32)) := Arv.set Arf5 qf5 Sf5 Mf5 Hf5 Gf5 (fits_nar_byte _) W4 2 rfl (Nat.le_of_ble_eq_true rfl)
  have K4 : Keep h0 h4 [] := (K3).wr W4 (Or.inr sz_b1)
  have Z4 : n0 ≤ h4.size := Nat.le_trans Z3 (Keep.of_wr W4).1
  have N4 := Fr.snoc X4 N3 gn_b1
  refine OG.of st4 ?_
  show OG _ _ _ _ _ _ _ (T4.setTop (mkF m 25 #[.val (.int p0), .val (.int p1), .val (.int p2), .val (.ref b1), .unset, .unset, .unset, .unset, .unset, .unset, .unset, .unset] []))
  refine OG.of (A := T4.setTop (mkF m 32 #[.val (.int p0), .val (.int p1), .val (.int p2), .val (.ref b1), .unset, .unset, .unset, .unset, .unset, .unset, .unset, .unset] [(.int (XT.ushr p0 (24 : Int32)).toInt8.toInt32), (.int (3 : Int32)), (.ref b1)])) (fun oT oK => ?_) ?_
  · show Steps p.tables e below (T4.setTop (mkF m 25 #[.val (.int p0), .val (.int p1), .val (.int p2), .val (.ref b1), .unset, .unset, .unset, .unset, .unset, .unset, .unset, .unset] [])) oT
    refine XS.aloadN X4.here hx rfl (hb hby at_25) rfl rfl  ?_
    show Steps p.tables e below (T4.setTop (mkF m 26 #[.val (.int p0), .val (.int p1), .val (.int p2), .val (.ref b1), .unset, .unset, .unset, .unset, .unset, .unset, .unset, .unset] [(.ref b1)])) _
    refine XS.iconst X4.here hx rfl (hb hby at_26) ?_
    show Steps p.tables e below (T4.setTop (mkF m 27 #[.val (.int p0), .val (.int p1), .val (.int p2), .val (.ref b1), .unset, .unset, .unset, .unset, .unset, .unset, .unset, .unset] [(.int (3 : Int32)), (.ref b1)])) _
    refine XS.iloadN X4.here hx rfl (hb hby at_27) rfl  ?_
    show Steps p.tables e below (T4.setTop (mkF m 28 #[.val (.int p0), .val (.int p1), .val (.int p2), .val (.ref b1), .unset, .unset, .unset, .unset, .unset, .unset, .unset, .unset] [(.int p0), (.int (3 : Int32)), (.ref b1)])) _
    refine XS.bipush X4.here hx rfl (hb hby at_28) ?_
    show Steps p.tables e below (T4.setTop (mkF m 30 #[.val (.int p0), .val (.int p1), .val (.int p2), .val (.ref b1), .unset, .unset, .unset, .unset, .unset, .unset, .unset, .unset] [(.int (24 : Int32)), (.int p0), (.int (3 : Int32)), (.ref b1)])) _
    refine XT.iushr X4.here hx rfl (hb hby at_30) rfl ?_
    show Steps p.tables e below (T4.setTop (mkF m 31 #[.val (.int p0), .val (.int p1), .val (.int p2), .val (.ref b1), .unset, .unset, .unset, .unset, .unset, .unset, .unset, .unset] [(.int (XT.ushr p0 (24 : Int32))), (.int (3 : Int32)), (.ref b1)])) _
    refine XT.i2b X4.here hx rfl (hb hby at_31) rfl ?_
    exact oK
  show OG _ _ _ _ _ _ _ (T4.setTop (mkF m 32 #[.val (.int p0), .val (.int p1), .val (.int p2), .val (.ref b1), .unset, .unset, .unset, .unset, .unset, .unset, .unset, .unset] [(.int (XT.ushr p0 (24 : Int32)).toInt8.toInt32), (.int (3 : Int32)), (.ref b1)]))
  have cf7 := V4
  obtain ⟨clf7, Arf7, qf7, Sf7, Mf7, Hf7, Gf7⟩ := cf7
  obtain ⟨T5, h5, X5, e5, W5, st5⟩ := stB X4 hx hZ e4 Arf7 (j := (3 : Int32)) (inb_of Sf7 ⟨by decide, by decide⟩) (g := (mkF m 32 #[.val (.int p0), .val (.int p1), .val (.int p2), .val (.ref b1), .unset, .unset, .unset, .unset, .unset, .unset, .unset, .unset] [(.int (XT.ushr p0 (24 : Int32)).toInt8.toInt32), (.int (3 : Int32)), (.ref b1)])) rfl rfl (hb hby at_32)
  have V5 : Arv Z h5 b1 kc1 .byte (5 : Int32) [(.int (p0.toInt8.toInt32).toInt8.toInt32), (.int ((XT.ushr p0 (8 : Int32)).toInt8.toInt32).toInt8.toInt32), (.int ((XT.ushr p0 (16 : Int32)).toInt8.toInt32).toInt8.toInt32), (.int ((XT.ushr p0 (24 : Int32)).toInt8.toInt32).toInt8.toInt32), (.int (0 : Int32))] (.int (0 : Int32)) := Arv.set Arf7 qf7 Sf7 Mf7 Hf7 Gf7 (fits_nar_byte _) W5 3 rfl (Nat.le_of_ble_eq_true rfl)
  have K5 : Keep h0 h5 [] := (K4).wr W5 (Or.inr sz_b1)
  have Z5 : n0 ≤ h5.size := Nat.le_trans Z4 (Keep.of_wr W5).1
  have N5 := Fr.snoc X5 N4 gn_b1
  refine OG.of st5 ?_
  show OG _ _ _ _ _ _ _ (T5.setTop (mkF m 33 #[.val (.int p0), .val (.int p1), .val (.int p2), .val (.ref b1), .unset, .unset, .unset, .unset, .unset, .unset, .unset, .unset] []))
  refine OG.of (A := T5.setTop (mkF m 37 #[.val (.int p0), .val (.int p1), .val (.int p2), .val (.ref b1), .unset, .unset, .unset, .unset, .unset, .unset, .unset, .unset] [(.int p1.toInt8.toInt32), (.int (4 : Int32)), (.ref b1)])) (fun oT oK => ?_) ?_
  · show Steps p.tables e below (T5.setTop (mkF m 33 #[.val (.int p0), .val (.int p1), .val (.int p2), .val (.ref b1), .unset, .unset, .unset, .unset, .unset, .unset, .unset, .unset] [])) oT
    refine XS.aloadN X5.here hx rfl (hb hby at_33) rfl rfl  ?_
    show Steps p.tables e below (T5.setTop (mkF m 34 #[.val (.int p0), .val (.int p1), .val (.int p2), .val (.ref b1), .unset, .unset, .unset, .unset, .unset, .unset, .unset, .unset] [(.ref b1)])) _
    refine XS.iconst X5.here hx rfl (hb hby at_34) ?_
    show Steps p.tables e below (T5.setTop (mkF m 35 #[.val (.int p0), .val (.int p1), .val (.int p2), .val (.ref b1), .unset, .unset, .unset, .unset, .unset, .unset, .unset, .unset] [(.int (4 : Int32)), (.ref b1)])) _
    refine XS.iloadN X5.here hx rfl (hb hby at_35) rfl  ?_
    show Steps p.tables e below (T5.setTop (mkF m 36 #[.val (.int p0), .val (.int p1), .val (.int p2), .val (.ref b1), .unset, .unset, .unset, .unset, .unset, .unset, .unset, .unset] [(.int p1), (.int (4 : Int32)), (.ref b1)])) _
    refine XT.i2b X5.here hx rfl (hb hby at_36) rfl ?_
    exact oK
  show OG _ _ _ _ _ _ _ (T5.setTop (mkF m 37 #[.val (.int p0), .val (.int p1), .val (.int p2), .val (.ref b1), .unset, .unset, .unset, .unset, .unset, .unset, .unset, .unset] [(.int p1.toInt8.toInt32), (.int (4 : Int32)), (.ref b1)]))
  have cf9 := V5
  obtain ⟨clf9, Arf9, qf9, Sf9, Mf9, Hf9, Gf9⟩ := cf9
  obtain ⟨T6, h6, X6, e6, W6, st6⟩ := stB X5 hx hZ e5 Arf9 (j := (4 : Int32)) (inb_of Sf9 ⟨by decide, by decide⟩) (g := (mkF m 37 #[.val (.int p0), .val (.int p1), .val (.int p2), .val (.ref b1), .unset, .unset, .unset, .unset, .unset, .unset, .unset, .unset] [(.int p1.toInt8.toInt32), (.int (4 : Int32)), (.ref b1)])) rfl rfl (hb hby at_37)
  have V6 : Arv Z h6 b1 kc1 .byte (5 : Int32) [(.int (p0.toInt8.toInt32).toInt8.toInt32), (.int ((XT.ushr p0 (8 : Int32)).toInt8.toInt32).toInt8.toInt32), (.int ((XT.ushr p0 (16 : Int32)).toInt8.toInt32).toInt8.toInt32), (.int ((XT.ushr p0 (24 : Int32)).toInt8.toInt32).toInt8.toInt32), (.int (p1.toInt8.toInt32).toInt8.toInt32)] (.int (0 : Int32)) := Arv.set Arf9 qf9 Sf9 Mf9 Hf9 Gf9 (fits_nar_byte _) W6 4 rfl (Nat.le_of_ble_eq_true rfl)
  have K6 : Keep h0 h6 [] := (K5).wr W6 (Or.inr sz_b1)
  have Z6 : n0 ≤ h6.size := Nat.le_trans Z5 (Keep.of_wr W6).1
  have N6 := Fr.snoc X6 N5 gn_b1
  refine OG.of st6 ?_
  show OG _ _ _ _ _ _ _ (T6.setTop (mkF m 38 #[.val (.int p0), .val (.int p1), .val (.int p2), .val (.ref b1), .unset, .unset, .unset, .unset, .unset, .unset, .unset, .unset] []))
  refine OG.of (A := T6.setTop (mkF m 43 #[.val (.int p0), .val (.int p1), .val (.int p2), .val (.ref b1), .val (.int (p2 &&& (1 : Int32))), .unset, .unset, .unset, .unset, .unset, .unset, .unset] [])) (fun oT oK => ?_) ?_
  · show Steps p.tables e below (T6.setTop (mkF m 38 #[.val (.int p0), .val (.int p1), .val (.int p2), .val (.ref b1), .unset, .unset, .unset, .unset, .unset, .unset, .unset, .unset] [])) oT
    refine XS.iloadN X6.here hx rfl (hb hby at_38) rfl  ?_
    show Steps p.tables e below (T6.setTop (mkF m 39 #[.val (.int p0), .val (.int p1), .val (.int p2), .val (.ref b1), .unset, .unset, .unset, .unset, .unset, .unset, .unset, .unset] [(.int p2)])) _
    refine XS.iconst X6.here hx rfl (hb hby at_39) ?_
    show Steps p.tables e below (T6.setTop (mkF m 40 #[.val (.int p0), .val (.int p1), .val (.int p2), .val (.ref b1), .unset, .unset, .unset, .unset, .unset, .unset, .unset, .unset] [(.int (1 : Int32)), (.int p2)])) _
    refine XS.iand X6.here hx rfl (hb hby at_40) rfl ?_
    show Steps p.tables e below (T6.setTop (mkF m 41 #[.val (.int p0), .val (.int p1), .val (.int p2), .val (.ref b1), .unset, .unset, .unset, .unset, .unset, .unset, .unset, .unset] [(.int (p2 &&& (1 : Int32)))])) _
    refine XS.istore X6.here hx rfl (hb hby at_41) rfl (l' := #[.val (.int p0), .val (.int p1), .val (.int p2), .val (.ref b1), .val (.int (p2 &&& (1 : Int32))), .unset, .unset, .unset, .unset, .unset, .unset, .unset]) rfl ?_
    exact oK
  show OG _ _ _ _ _ _ _ (T6.setTop (mkF m 43 #[.val (.int p0), .val (.int p1), .val (.int p2), .val (.ref b1), .val (.int (p2 &&& (1 : Int32))), .unset, .unset, .unset, .unset, .unset, .unset, .unset] []))
  rcases and_one p2 with ha | ha
  · rw [ha]
    show OG _ _ _ _ _ _ _ (T6.setTop (mkF m 43 #[.val (.int p0), .val (.int p1), .val (.int p2), .val (.ref b1), .val (.int (0 : Int32)), .unset, .unset, .unset, .unset, .unset, .unset, .unset] []))
    refine OG.of (A := T6.setTop (mkF m 60 #[.val (.int p0), .val (.int p1), .val (.int p2), .val (.ref b1), .val (.int (0 : Int32)), .val (.int ((1 : Int32) + ((XT.ushr p2 (1 : Int32)) &&& (3 : Int32)))), .unset, .unset, .unset, .unset, .unset, .unset] [(.int ((1 : Int32) + ((XT.ushr p2 (1 : Int32)) &&& (3 : Int32)))), (.int (0 : Int32)), (.ref b1)])) (fun oT oK => ?_) ?_
    · show Steps p.tables e below (T6.setTop (mkF m 43 #[.val (.int p0), .val (.int p1), .val (.int p2), .val (.ref b1), .val (.int (0 : Int32)), .unset, .unset, .unset, .unset, .unset, .unset, .unset] [])) oT
      refine XS.iload X6.here hx rfl (hb hby at_43) rfl  ?_
      show Steps p.tables e below (T6.setTop (mkF m 45 #[.val (.int p0), .val (.int p1), .val (.int p2), .val (.ref b1), .val (.int (0 : Int32)), .unset, .unset, .unset, .unset, .unset, .unset, .unset] [(.int (0 : Int32))])) _
      refine XS.iconst X6.here hx rfl (hb hby at_45) ?_
      show Steps p.tables e below (T6.setTop (mkF m 46 #[.val (.int p0), .val (.int p1), .val (.int p2), .val (.ref b1), .val (.int (0 : Int32)), .unset, .unset, .unset, .unset, .unset, .unset, .unset] [(.int (1 : Int32)), (.int (0 : Int32))])) _
      refine XS.iadd X6.here hx rfl (hb hby at_46) rfl ?_
      show Steps p.tables e below (T6.setTop (mkF m 47 #[.val (.int p0), .val (.int p1), .val (.int p2), .val (.ref b1), .val (.int (0 : Int32)), .unset, .unset, .unset, .unset, .unset, .unset, .unset] [(.int (1 : Int32))])) _
      refine XS.iloadN X6.here hx rfl (hb hby at_47) rfl  ?_
      show Steps p.tables e below (T6.setTop (mkF m 48 #[.val (.int p0), .val (.int p1), .val (.int p2), .val (.ref b1), .val (.int (0 : Int32)), .unset, .unset, .unset, .unset, .unset, .unset, .unset] [(.int p2), (.int (1 : Int32))])) _
      refine XS.iconst X6.here hx rfl (hb hby at_48) ?_
      show Steps p.tables e below (T6.setTop (mkF m 49 #[.val (.int p0), .val (.int p1), .val (.int p2), .val (.ref b1), .val (.int (0 : Int32)), .unset, .unset, .unset, .unset, .unset, .unset, .unset] [(.int (1 : Int32)), (.int p2), (.int (1 : Int32))])) _
      refine XT.iushr X6.here hx rfl (hb hby at_49) rfl ?_
      show Steps p.tables e below (T6.setTop (mkF m 50 #[.val (.int p0), .val (.int p1), .val (.int p2), .val (.ref b1), .val (.int (0 : Int32)), .unset, .unset, .unset, .unset, .unset, .unset, .unset] [(.int (XT.ushr p2 (1 : Int32))), (.int (1 : Int32))])) _
      refine XS.iconst X6.here hx rfl (hb hby at_50) ?_
      show Steps p.tables e below (T6.setTop (mkF m 51 #[.val (.int p0), .val (.int p1), .val (.int p2), .val (.ref b1), .val (.int (0 : Int32)), .unset, .unset, .unset, .unset, .unset, .unset, .unset] [(.int (3 : Int32)), (.int (XT.ushr p2 (1 : Int32))), (.int (1 : Int32))])) _
      refine XS.iand X6.here hx rfl (hb hby at_51) rfl ?_
      show Steps p.tables e below (T6.setTop (mkF m 52 #[.val (.int p0), .val (.int p1), .val (.int p2), .val (.ref b1), .val (.int (0 : Int32)), .unset, .unset, .unset, .unset, .unset, .unset, .unset] [(.int ((XT.ushr p2 (1 : Int32)) &&& (3 : Int32))), (.int (1 : Int32))])) _
      refine XS.iadd X6.here hx rfl (hb hby at_52) rfl ?_
      show Steps p.tables e below (T6.setTop (mkF m 53 #[.val (.int p0), .val (.int p1), .val (.int p2), .val (.ref b1), .val (.int (0 : Int32)), .unset, .unset, .unset, .unset, .unset, .unset, .unset] [(.int ((1 : Int32) + ((XT.ushr p2 (1 : Int32)) &&& (3 : Int32))))])) _
      refine XS.istore X6.here hx rfl (hb hby at_53) rfl (l' := #[.val (.int p0), .val (.int p1), .val (.int p2), .val (.ref b1), .val (.int (0 : Int32)), .val (.int ((1 : Int32) + ((XT.ushr p2 (1 : Int32)) &&& (3 : Int32)))), .unset, .unset, .unset, .unset, .unset, .unset]) rfl ?_
      show Steps p.tables e below (T6.setTop (mkF m 55 #[.val (.int p0), .val (.int p1), .val (.int p2), .val (.ref b1), .val (.int (0 : Int32)), .val (.int ((1 : Int32) + ((XT.ushr p2 (1 : Int32)) &&& (3 : Int32)))), .unset, .unset, .unset, .unset, .unset, .unset] [])) _
      refine XS.aloadN X6.here hx rfl (hb hby at_55) rfl rfl  ?_
      show Steps p.tables e below (T6.setTop (mkF m 56 #[.val (.int p0), .val (.int p1), .val (.int p2), .val (.ref b1), .val (.int (0 : Int32)), .val (.int ((1 : Int32) + ((XT.ushr p2 (1 : Int32)) &&& (3 : Int32)))), .unset, .unset, .unset, .unset, .unset, .unset] [(.ref b1)])) _
      refine XS.iload X6.here hx rfl (hb hby at_56) rfl  ?_
      show Steps p.tables e below (T6.setTop (mkF m 58 #[.val (.int p0), .val (.int p1), .val (.int p2), .val (.ref b1), .val (.int (0 : Int32)), .val (.int ((1 : Int32) + ((XT.ushr p2 (1 : Int32)) &&& (3 : Int32)))), .unset, .unset, .unset, .unset, .unset, .unset] [(.int (0 : Int32)), (.ref b1)])) _
      refine XS.iload X6.here hx rfl (hb hby at_58) rfl  ?_
      exact oK
    show OG _ _ _ _ _ _ _ (T6.setTop (mkF m 60 #[.val (.int p0), .val (.int p1), .val (.int p2), .val (.ref b1), .val (.int (0 : Int32)), .val (.int ((1 : Int32) + ((XT.ushr p2 (1 : Int32)) &&& (3 : Int32)))), .unset, .unset, .unset, .unset, .unset, .unset] [(.int ((1 : Int32) + ((XT.ushr p2 (1 : Int32)) &&& (3 : Int32)))), (.int (0 : Int32)), (.ref b1)]))
    obtain ⟨_, _, ⟨T7, L7, k7, n7⟩, -, X7, ⟨Lc7, hQ7, l7, y7, z7⟩, st7⟩ := Jvm.LawKit.callS X6 hx (y := (⟨"com/example/gate_to_gate/gatetogate/model/Utf8", "sequenceLength", "([BII)I"⟩ : MethodName)) hown (mvT hZ (hw _ (List.mem_of_getElem? (i := 1) rfl))) (mvT hZ (hw _ (List.mem_of_getElem? (i := 2) rfl))) (mvT hZ (hw _ (List.mem_of_getElem? (i := 3) rfl))) (mvT hZ (hw _ (List.mem_of_getElem? (i := 4) rfl))) (by decide) (backOf (W := 0) (rmS l Z a0 hw [] b1 (0 : Int32) ((1 : Int32) + ((XT.ushr p2 (1 : Int32)) &&& (3 : Int32))) ((p0.toInt8.toInt32).toInt8.toInt32) (((XT.ushr p0 (8 : Int32)).toInt8.toInt32).toInt8.toInt32) (((XT.ushr p0 (16 : Int32)).toInt8.toInt32).toInt8.toInt32) (((XT.ushr p0 (24 : Int32)).toInt8.toInt32).toInt8.toInt32) h6 n0 (Z6) (own_rd V6 ⟨by decide, by decide⟩ rfl) (own_rd V6 ⟨by decide, by decide⟩ rfl) (own_rd V6 ⟨by decide, by decide⟩ rfl) (own_rd V6 ⟨by decide, by decide⟩ rfl)) hZ (hw _ (List.mem_of_getElem? (i := 4) rfl)) (hw _ (List.mem_of_getElem? (i := 3) rfl)) (by decide) (by decide)) (g := (mkF m 60 #[.val (.int p0), .val (.int p1), .val (.int p2), .val (.ref b1), .val (.int (0 : Int32)), .val (.int ((1 : Int32) + ((XT.ushr p2 (1 : Int32)) &&& (3 : Int32)))), .unset, .unset, .unset, .unset, .unset, .unset] [(.int ((1 : Int32) + ((XT.ushr p2 (1 : Int32)) &&& (3 : Int32)))), (.int (0 : Int32)), (.ref b1)])) rfl (by rw [hml]; rfl) (argsL := [(.ref b1), (.int (0 : Int32)), (.int ((1 : Int32) + ((XT.ushr p2 (1 : Int32)) &&& (3 : Int32))))]) (rest := []) (lenOf pd___BII_I rfl) rfl (by show 2 * 0 + _ ≤ _; exact Nat.le_of_eq rfl) (hb hby at_60) (fun _ _ => ⟨rfl, e6, (by decide : 1 + 0 ≤ _), (by decide : 5 + 0 ≤ _)⟩)
    dsimp only [Pt.U, Pt.locs, Pt.cells, Pt.slots] at X7 l7 y7 z7 st7 hQ7
    subst l7 y7 z7
    obtain ⟨hv7, N7q, e7⟩ := hQ7
    obtain rfl := hv7.trans (show _ = some (.int (own_seq ((p0.toInt8.toInt32).toInt8.toInt32) (((XT.ushr p0 (8 : Int32)).toInt8.toInt32).toInt8.toInt32) (((XT.ushr p0 (16 : Int32)).toInt8.toInt32).toInt8.toInt32) (((XT.ushr p0 (24 : Int32)).toInt8.toInt32).toInt8.toInt32) (((1 : Int32) + ((XT.ushr p2 (1 : Int32)) &&& (3 : Int32))) - (0 : Int32)))) from rfl)
    have N7 := Fr.app N6 N7q
    refine OG.of st7 ?_
    show OG _ _ _ _ _ _ _ (T7.setTop (mkF m 63 #[.val (.int p0), .val (.int p1), .val (.int p2), .val (.ref b1), .val (.int (0 : Int32)), .val (.int ((1 : Int32) + ((XT.ushr p2 (1 : Int32)) &&& (3 : Int32)))), .unset, .unset, .unset, .unset, .unset, .unset] [(.int (own_seq ((p0.toInt8.toInt32).toInt8.toInt32) (((XT.ushr p0 (8 : Int32)).toInt8.toInt32).toInt8.toInt32) (((XT.ushr p0 (16 : Int32)).toInt8.toInt32).toInt8.toInt32) (((XT.ushr p0 (24 : Int32)).toInt8.toInt32).toInt8.toInt32) (((1 : Int32) + ((XT.ushr p2 (1 : Int32)) &&& (3 : Int32))) - (0 : Int32))))]))
    refine OG.of (A := T7.setTop (mkF m 68 #[.val (.int p0), .val (.int p1), .val (.int p2), .val (.ref b1), .val (.int (0 : Int32)), .val (.int ((1 : Int32) + ((XT.ushr p2 (1 : Int32)) &&& (3 : Int32)))), .val (.int (own_seq ((p0.toInt8.toInt32).toInt8.toInt32) (((XT.ushr p0 (8 : Int32)).toInt8.toInt32).toInt8.toInt32) (((XT.ushr p0 (16 : Int32)).toInt8.toInt32).toInt8.toInt32) (((XT.ushr p0 (24 : Int32)).toInt8.toInt32).toInt8.toInt32) (((1 : Int32) + ((XT.ushr p2 (1 : Int32)) &&& (3 : Int32))) - (0 : Int32)))), .unset, .unset, .unset, .unset, .unset] [(.int (0 : Int32)), (.ref b1)])) (fun oT oK => ?_) ?_
    · show Steps p.tables e below (T7.setTop (mkF m 63 #[.val (.int p0), .val (.int p1), .val (.int p2), .val (.ref b1), .val (.int (0 : Int32)), .val (.int ((1 : Int32) + ((XT.ushr p2 (1 : Int32)) &&& (3 : Int32)))), .unset, .unset, .unset, .unset, .unset, .unset] [(.int (own_seq ((p0.toInt8.toInt32).toInt8.toInt32) (((XT.ushr p0 (8 : Int32)).toInt8.toInt32).toInt8.toInt32) (((XT.ushr p0 (16 : Int32)).toInt8.toInt32).toInt8.toInt32) (((XT.ushr p0 (24 : Int32)).toInt8.toInt32).toInt8.toInt32) (((1 : Int32) + ((XT.ushr p2 (1 : Int32)) &&& (3 : Int32))) - (0 : Int32))))])) oT
      refine XS.istore X7.here hx rfl (hb hby at_63) rfl (l' := #[.val (.int p0), .val (.int p1), .val (.int p2), .val (.ref b1), .val (.int (0 : Int32)), .val (.int ((1 : Int32) + ((XT.ushr p2 (1 : Int32)) &&& (3 : Int32)))), .val (.int (own_seq ((p0.toInt8.toInt32).toInt8.toInt32) (((XT.ushr p0 (8 : Int32)).toInt8.toInt32).toInt8.toInt32) (((XT.ushr p0 (16 : Int32)).toInt8.toInt32).toInt8.toInt32) (((XT.ushr p0 (24 : Int32)).toInt8.toInt32).toInt8.toInt32) (((1 : Int32) + ((XT.ushr p2 (1 : Int32)) &&& (3 : Int32))) - (0 : Int32)))), .unset, .unset, .unset, .unset, .unset]) rfl ?_
      show Steps p.tables e below (T7.setTop (mkF m 65 #[.val (.int p0), .val (.int p1), .val (.int p2), .val (.ref b1), .val (.int (0 : Int32)), .val (.int ((1 : Int32) + ((XT.ushr p2 (1 : Int32)) &&& (3 : Int32)))), .val (.int (own_seq ((p0.toInt8.toInt32).toInt8.toInt32) (((XT.ushr p0 (8 : Int32)).toInt8.toInt32).toInt8.toInt32) (((XT.ushr p0 (16 : Int32)).toInt8.toInt32).toInt8.toInt32) (((XT.ushr p0 (24 : Int32)).toInt8.toInt32).toInt8.toInt32) (((1 : Int32) + ((XT.ushr p2 (1 : Int32)) &&& (3 : Int32))) - (0 : Int32)))), .unset, .unset, .unset, .unset, .unset] [])) _
      refine XS.aloadN X7.here hx rfl (hb hby at_65) rfl rfl  ?_
      show Steps p.tables e below (T7.setTop (mkF m 66 #[.val (.int p0), .val (.int p1), .val (.int p2), .val (.ref b1), .val (.int (0 : Int32)), .val (.int ((1 : Int32) + ((XT.ushr p2 (1 : Int32)) &&& (3 : Int32)))), .val (.int (own_seq ((p0.toInt8.toInt32).toInt8.toInt32) (((XT.ushr p0 (8 : Int32)).toInt8.toInt32).toInt8.toInt32) (((XT.ushr p0 (16 : Int32)).toInt8.toInt32).toInt8.toInt32) (((XT.ushr p0 (24 : Int32)).toInt8.toInt32).toInt8.toInt32) (((1 : Int32) + ((XT.ushr p2 (1 : Int32)) &&& (3 : Int32))) - (0 : Int32)))), .unset, .unset, .unset, .unset, .unset] [(.ref b1)])) _
      refine XS.iload X7.here hx rfl (hb hby at_66) rfl  ?_
      exact oK
    show OG _ _ _ _ _ _ _ (T7.setTop (mkF m 68 #[.val (.int p0), .val (.int p1), .val (.int p2), .val (.ref b1), .val (.int (0 : Int32)), .val (.int ((1 : Int32) + ((XT.ushr p2 (1 : Int32)) &&& (3 : Int32)))), .val (.int (own_seq ((p0.toInt8.toInt32).toInt8.toInt32) (((XT.ushr p0 (8 : Int32)).toInt8.toInt32).toInt8.toInt32) (((XT.ushr p0 (16 : Int32)).toInt8.toInt32).toInt8.toInt32) (((XT.ushr p0 (24 : Int32)).toInt8.toInt32).toInt8.toInt32) (((1 : Int32) + ((XT.ushr p2 (1 : Int32)) &&& (3 : Int32))) - (0 : Int32)))), .unset, .unset, .unset, .unset, .unset] [(.int (0 : Int32)), (.ref b1)]))
    have cf11 := V6
    obtain ⟨clf11, Arf11, qf11, Sf11, Mf11, Hf11, Gf11⟩ := cf11
    refine OG.of (X7.baloadBytes hx (j := (0 : Int32)) (v := (.int (p0.toInt8.toInt32).toInt8.toInt32)) (by rw [e7]; exact Arf11.1) (State.isArrayOf_alike hZ.alike Arf11.2.1) Arf11.2.2 (inb_of Sf11 ⟨by decide, by decide⟩) (Hf11.at (inb_of Sf11 ⟨by decide, by decide⟩) rfl) (g := (mkF m 68 #[.val (.int p0), .val (.int p1), .val (.int p2), .val (.ref b1), .val (.int (0 : Int32)), .val (.int ((1 : Int32) + ((XT.ushr p2 (1 : Int32)) &&& (3 : Int32)))), .val (.int (own_seq ((p0.toInt8.toInt32).toInt8.toInt32) (((XT.ushr p0 (8 : Int32)).toInt8.toInt32).toInt8.toInt32) (((XT.ushr p0 (16 : Int32)).toInt8.toInt32).toInt8.toInt32) (((XT.ushr p0 (24 : Int32)).toInt8.toInt32).toInt8.toInt32) (((1 : Int32) + ((XT.ushr p2 (1 : Int32)) &&& (3 : Int32))) - (0 : Int32)))), .unset, .unset, .unset, .unset, .unset] [(.int (0 : Int32)), (.ref b1)])) rfl rfl (hb hby at_68)) ?_
    show OG _ _ _ _ _ _ _ (T7.setTop (mkF m 69 #[.val (.int p0), .val (.int p1), .val (.int p2), .val (.ref b1), .val (.int (0 : Int32)), .val (.int ((1 : Int32) + ((XT.ushr p2 (1 : Int32)) &&& (3 : Int32)))), .val (.int (own_seq ((p0.toInt8.toInt32).toInt8.toInt32) (((XT.ushr p0 (8 : Int32)).toInt8.toInt32).toInt8.toInt32) (((XT.ushr p0 (16 : Int32)).toInt8.toInt32).toInt8.toInt32) (((XT.ushr p0 (24 : Int32)).toInt8.toInt32).toInt8.toInt32) (((1 : Int32) + ((XT.ushr p2 (1 : Int32)) &&& (3 : Int32))) - (0 : Int32)))), .unset, .unset, .unset, .unset, .unset] [(.int (p0.toInt8.toInt32).toInt8.toInt32)]))
    refine OG.of (A := T7.setTop (mkF m 80 #[.val (.int p0), .val (.int p1), .val (.int p2), .val (.ref b1), .val (.int (0 : Int32)), .val (.int ((1 : Int32) + ((XT.ushr p2 (1 : Int32)) &&& (3 : Int32)))), .val (.int (own_seq ((p0.toInt8.toInt32).toInt8.toInt32) (((XT.ushr p0 (8 : Int32)).toInt8.toInt32).toInt8.toInt32) (((XT.ushr p0 (16 : Int32)).toInt8.toInt32).toInt8.toInt32) (((XT.ushr p0 (24 : Int32)).toInt8.toInt32).toInt8.toInt32) (((1 : Int32) + ((XT.ushr p2 (1 : Int32)) &&& (3 : Int32))) - (0 : Int32)))), .val (.int ((p0.toInt8.toInt32).toInt8.toInt32 &&& (255 : Int32))), .unset, .unset, .unset, .unset] [(.int (1 : Int32)), (.ref b1)])) (fun oT oK => ?_) ?_
    · show Steps p.tables e below (T7.setTop (mkF m 69 #[.val (.int p0), .val (.int p1), .val (.int p2), .val (.ref b1), .val (.int (0 : Int32)), .val (.int ((1 : Int32) + ((XT.ushr p2 (1 : Int32)) &&& (3 : Int32)))), .val (.int (own_seq ((p0.toInt8.toInt32).toInt8.toInt32) (((XT.ushr p0 (8 : Int32)).toInt8.toInt32).toInt8.toInt32) (((XT.ushr p0 (16 : Int32)).toInt8.toInt32).toInt8.toInt32) (((XT.ushr p0 (24 : Int32)).toInt8.toInt32).toInt8.toInt32) (((1 : Int32) + ((XT.ushr p2 (1 : Int32)) &&& (3 : Int32))) - (0 : Int32)))), .unset, .unset, .unset, .unset, .unset] [(.int (p0.toInt8.toInt32).toInt8.toInt32)])) oT
      refine XS.sipush X7.here hx rfl (hb hby at_69) ?_
      show Steps p.tables e below (T7.setTop (mkF m 72 #[.val (.int p0), .val (.int p1), .val (.int p2), .val (.ref b1), .val (.int (0 : Int32)), .val (.int ((1 : Int32) + ((XT.ushr p2 (1 : Int32)) &&& (3 : Int32)))), .val (.int (own_seq ((p0.toInt8.toInt32).toInt8.toInt32) (((XT.ushr p0 (8 : Int32)).toInt8.toInt32).toInt8.toInt32) (((XT.ushr p0 (16 : Int32)).toInt8.toInt32).toInt8.toInt32) (((XT.ushr p0 (24 : Int32)).toInt8.toInt32).toInt8.toInt32) (((1 : Int32) + ((XT.ushr p2 (1 : Int32)) &&& (3 : Int32))) - (0 : Int32)))), .unset, .unset, .unset, .unset, .unset] [(.int (255 : Int32)), (.int (p0.toInt8.toInt32).toInt8.toInt32)])) _
      refine XS.iand X7.here hx rfl (hb hby at_72) rfl ?_
      show Steps p.tables e below (T7.setTop (mkF m 73 #[.val (.int p0), .val (.int p1), .val (.int p2), .val (.ref b1), .val (.int (0 : Int32)), .val (.int ((1 : Int32) + ((XT.ushr p2 (1 : Int32)) &&& (3 : Int32)))), .val (.int (own_seq ((p0.toInt8.toInt32).toInt8.toInt32) (((XT.ushr p0 (8 : Int32)).toInt8.toInt32).toInt8.toInt32) (((XT.ushr p0 (16 : Int32)).toInt8.toInt32).toInt8.toInt32) (((XT.ushr p0 (24 : Int32)).toInt8.toInt32).toInt8.toInt32) (((1 : Int32) + ((XT.ushr p2 (1 : Int32)) &&& (3 : Int32))) - (0 : Int32)))), .unset, .unset, .unset, .unset, .unset] [(.int ((p0.toInt8.toInt32).toInt8.toInt32 &&& (255 : Int32)))])) _
      refine XS.istore X7.here hx rfl (hb hby at_73) rfl (l' := #[.val (.int p0), .val (.int p1), .val (.int p2), .val (.ref b1), .val (.int (0 : Int32)), .val (.int ((1 : Int32) + ((XT.ushr p2 (1 : Int32)) &&& (3 : Int32)))), .val (.int (own_seq ((p0.toInt8.toInt32).toInt8.toInt32) (((XT.ushr p0 (8 : Int32)).toInt8.toInt32).toInt8.toInt32) (((XT.ushr p0 (16 : Int32)).toInt8.toInt32).toInt8.toInt32) (((XT.ushr p0 (24 : Int32)).toInt8.toInt32).toInt8.toInt32) (((1 : Int32) + ((XT.ushr p2 (1 : Int32)) &&& (3 : Int32))) - (0 : Int32)))), .val (.int ((p0.toInt8.toInt32).toInt8.toInt32 &&& (255 : Int32))), .unset, .unset, .unset, .unset]) rfl ?_
      show Steps p.tables e below (T7.setTop (mkF m 75 #[.val (.int p0), .val (.int p1), .val (.int p2), .val (.ref b1), .val (.int (0 : Int32)), .val (.int ((1 : Int32) + ((XT.ushr p2 (1 : Int32)) &&& (3 : Int32)))), .val (.int (own_seq ((p0.toInt8.toInt32).toInt8.toInt32) (((XT.ushr p0 (8 : Int32)).toInt8.toInt32).toInt8.toInt32) (((XT.ushr p0 (16 : Int32)).toInt8.toInt32).toInt8.toInt32) (((XT.ushr p0 (24 : Int32)).toInt8.toInt32).toInt8.toInt32) (((1 : Int32) + ((XT.ushr p2 (1 : Int32)) &&& (3 : Int32))) - (0 : Int32)))), .val (.int ((p0.toInt8.toInt32).toInt8.toInt32 &&& (255 : Int32))), .unset, .unset, .unset, .unset] [])) _
      refine XS.aloadN X7.here hx rfl (hb hby at_75) rfl rfl  ?_
      show Steps p.tables e below (T7.setTop (mkF m 76 #[.val (.int p0), .val (.int p1), .val (.int p2), .val (.ref b1), .val (.int (0 : Int32)), .val (.int ((1 : Int32) + ((XT.ushr p2 (1 : Int32)) &&& (3 : Int32)))), .val (.int (own_seq ((p0.toInt8.toInt32).toInt8.toInt32) (((XT.ushr p0 (8 : Int32)).toInt8.toInt32).toInt8.toInt32) (((XT.ushr p0 (16 : Int32)).toInt8.toInt32).toInt8.toInt32) (((XT.ushr p0 (24 : Int32)).toInt8.toInt32).toInt8.toInt32) (((1 : Int32) + ((XT.ushr p2 (1 : Int32)) &&& (3 : Int32))) - (0 : Int32)))), .val (.int ((p0.toInt8.toInt32).toInt8.toInt32 &&& (255 : Int32))), .unset, .unset, .unset, .unset] [(.ref b1)])) _
      refine XS.iload X7.here hx rfl (hb hby at_76) rfl  ?_
      show Steps p.tables e below (T7.setTop (mkF m 78 #[.val (.int p0), .val (.int p1), .val (.int p2), .val (.ref b1), .val (.int (0 : Int32)), .val (.int ((1 : Int32) + ((XT.ushr p2 (1 : Int32)) &&& (3 : Int32)))), .val (.int (own_seq ((p0.toInt8.toInt32).toInt8.toInt32) (((XT.ushr p0 (8 : Int32)).toInt8.toInt32).toInt8.toInt32) (((XT.ushr p0 (16 : Int32)).toInt8.toInt32).toInt8.toInt32) (((XT.ushr p0 (24 : Int32)).toInt8.toInt32).toInt8.toInt32) (((1 : Int32) + ((XT.ushr p2 (1 : Int32)) &&& (3 : Int32))) - (0 : Int32)))), .val (.int ((p0.toInt8.toInt32).toInt8.toInt32 &&& (255 : Int32))), .unset, .unset, .unset, .unset] [(.int (0 : Int32)), (.ref b1)])) _
      refine XS.iconst X7.here hx rfl (hb hby at_78) ?_
      show Steps p.tables e below (T7.setTop (mkF m 79 #[.val (.int p0), .val (.int p1), .val (.int p2), .val (.ref b1), .val (.int (0 : Int32)), .val (.int ((1 : Int32) + ((XT.ushr p2 (1 : Int32)) &&& (3 : Int32)))), .val (.int (own_seq ((p0.toInt8.toInt32).toInt8.toInt32) (((XT.ushr p0 (8 : Int32)).toInt8.toInt32).toInt8.toInt32) (((XT.ushr p0 (16 : Int32)).toInt8.toInt32).toInt8.toInt32) (((XT.ushr p0 (24 : Int32)).toInt8.toInt32).toInt8.toInt32) (((1 : Int32) + ((XT.ushr p2 (1 : Int32)) &&& (3 : Int32))) - (0 : Int32)))), .val (.int ((p0.toInt8.toInt32).toInt8.toInt32 &&& (255 : Int32))), .unset, .unset, .unset, .unset] [(.int (1 : Int32)), (.int (0 : Int32)), (.ref b1)])) _
      refine XS.iadd X7.here hx rfl (hb hby at_79) rfl ?_
      exact oK
    show OG _ _ _ _ _ _ _ (T7.setTop (mkF m 80 #[.val (.int p0), .val (.int p1), .val (.int p2), .val (.ref b1), .val (.int (0 : Int32)), .val (.int ((1 : Int32) + ((XT.ushr p2 (1 : Int32)) &&& (3 : Int32)))), .val (.int (own_seq ((p0.toInt8.toInt32).toInt8.toInt32) (((XT.ushr p0 (8 : Int32)).toInt8.toInt32).toInt8.toInt32) (((XT.ushr p0 (16 : Int32)).toInt8.toInt32).toInt8.toInt32) (((XT.ushr p0 (24 : Int32)).toInt8.toInt32).toInt8.toInt32) (((1 : Int32) + ((XT.ushr p2 (1 : Int32)) &&& (3 : Int32))) - (0 : Int32)))), .val (.int ((p0.toInt8.toInt32).toInt8.toInt32 &&& (255 : Int32))), .unset, .unset, .unset, .unset] [(.int (1 : Int32)), (.ref b1)]))
    have cf12 := V6
    obtain ⟨clf12, Arf12, qf12, Sf12, Mf12, Hf12, Gf12⟩ := cf12
    refine OG.of (X7.baloadBytes hx (j := (1 : Int32)) (v := (.int ((XT.ushr p0 (8 : Int32)).toInt8.toInt32).toInt8.toInt32)) (by rw [e7]; exact Arf12.1) (State.isArrayOf_alike hZ.alike Arf12.2.1) Arf12.2.2 (inb_of Sf12 ⟨by decide, by decide⟩) (Hf12.at (inb_of Sf12 ⟨by decide, by decide⟩) rfl) (g := (mkF m 80 #[.val (.int p0), .val (.int p1), .val (.int p2), .val (.ref b1), .val (.int (0 : Int32)), .val (.int ((1 : Int32) + ((XT.ushr p2 (1 : Int32)) &&& (3 : Int32)))), .val (.int (own_seq ((p0.toInt8.toInt32).toInt8.toInt32) (((XT.ushr p0 (8 : Int32)).toInt8.toInt32).toInt8.toInt32) (((XT.ushr p0 (16 : Int32)).toInt8.toInt32).toInt8.toInt32) (((XT.ushr p0 (24 : Int32)).toInt8.toInt32).toInt8.toInt32) (((1 : Int32) + ((XT.ushr p2 (1 : Int32)) &&& (3 : Int32))) - (0 : Int32)))), .val (.int ((p0.toInt8.toInt32).toInt8.toInt32 &&& (255 : Int32))), .unset, .unset, .unset, .unset] [(.int (1 : Int32)), (.ref b1)])) rfl rfl (hb hby at_80)) ?_
    show OG _ _ _ _ _ _ _ (T7.setTop (mkF m 81 #[.val (.int p0), .val (.int p1), .val (.int p2), .val (.ref b1), .val (.int (0 : Int32)), .val (.int ((1 : Int32) + ((XT.ushr p2 (1 : Int32)) &&& (3 : Int32)))), .val (.int (own_seq ((p0.toInt8.toInt32).toInt8.toInt32) (((XT.ushr p0 (8 : Int32)).toInt8.toInt32).toInt8.toInt32) (((XT.ushr p0 (16 : Int32)).toInt8.toInt32).toInt8.toInt32) (((XT.ushr p0 (24 : Int32)).toInt8.toInt32).toInt8.toInt32) (((1 : Int32) + ((XT.ushr p2 (1 : Int32)) &&& (3 : Int32))) - (0 : Int32)))), .val (.int ((p0.toInt8.toInt32).toInt8.toInt32 &&& (255 : Int32))), .unset, .unset, .unset, .unset] [(.int ((XT.ushr p0 (8 : Int32)).toInt8.toInt32).toInt8.toInt32)]))
    refine OG.of (A := T7.setTop (mkF m 92 #[.val (.int p0), .val (.int p1), .val (.int p2), .val (.ref b1), .val (.int (0 : Int32)), .val (.int ((1 : Int32) + ((XT.ushr p2 (1 : Int32)) &&& (3 : Int32)))), .val (.int (own_seq ((p0.toInt8.toInt32).toInt8.toInt32) (((XT.ushr p0 (8 : Int32)).toInt8.toInt32).toInt8.toInt32) (((XT.ushr p0 (16 : Int32)).toInt8.toInt32).toInt8.toInt32) (((XT.ushr p0 (24 : Int32)).toInt8.toInt32).toInt8.toInt32) (((1 : Int32) + ((XT.ushr p2 (1 : Int32)) &&& (3 : Int32))) - (0 : Int32)))), .val (.int ((p0.toInt8.toInt32).toInt8.toInt32 &&& (255 : Int32))), .val (.int (((XT.ushr p0 (8 : Int32)).toInt8.toInt32).toInt8.toInt32 &&& (255 : Int32))), .unset, .unset, .unset] [(.int (2 : Int32)), (.ref b1)])) (fun oT oK => ?_) ?_
    · show Steps p.tables e below (T7.setTop (mkF m 81 #[.val (.int p0), .val (.int p1), .val (.int p2), .val (.ref b1), .val (.int (0 : Int32)), .val (.int ((1 : Int32) + ((XT.ushr p2 (1 : Int32)) &&& (3 : Int32)))), .val (.int (own_seq ((p0.toInt8.toInt32).toInt8.toInt32) (((XT.ushr p0 (8 : Int32)).toInt8.toInt32).toInt8.toInt32) (((XT.ushr p0 (16 : Int32)).toInt8.toInt32).toInt8.toInt32) (((XT.ushr p0 (24 : Int32)).toInt8.toInt32).toInt8.toInt32) (((1 : Int32) + ((XT.ushr p2 (1 : Int32)) &&& (3 : Int32))) - (0 : Int32)))), .val (.int ((p0.toInt8.toInt32).toInt8.toInt32 &&& (255 : Int32))), .unset, .unset, .unset, .unset] [(.int ((XT.ushr p0 (8 : Int32)).toInt8.toInt32).toInt8.toInt32)])) oT
      refine XS.sipush X7.here hx rfl (hb hby at_81) ?_
      show Steps p.tables e below (T7.setTop (mkF m 84 #[.val (.int p0), .val (.int p1), .val (.int p2), .val (.ref b1), .val (.int (0 : Int32)), .val (.int ((1 : Int32) + ((XT.ushr p2 (1 : Int32)) &&& (3 : Int32)))), .val (.int (own_seq ((p0.toInt8.toInt32).toInt8.toInt32) (((XT.ushr p0 (8 : Int32)).toInt8.toInt32).toInt8.toInt32) (((XT.ushr p0 (16 : Int32)).toInt8.toInt32).toInt8.toInt32) (((XT.ushr p0 (24 : Int32)).toInt8.toInt32).toInt8.toInt32) (((1 : Int32) + ((XT.ushr p2 (1 : Int32)) &&& (3 : Int32))) - (0 : Int32)))), .val (.int ((p0.toInt8.toInt32).toInt8.toInt32 &&& (255 : Int32))), .unset, .unset, .unset, .unset] [(.int (255 : Int32)), (.int ((XT.ushr p0 (8 : Int32)).toInt8.toInt32).toInt8.toInt32)])) _
      refine XS.iand X7.here hx rfl (hb hby at_84) rfl ?_
      show Steps p.tables e below (T7.setTop (mkF m 85 #[.val (.int p0), .val (.int p1), .val (.int p2), .val (.ref b1), .val (.int (0 : Int32)), .val (.int ((1 : Int32) + ((XT.ushr p2 (1 : Int32)) &&& (3 : Int32)))), .val (.int (own_seq ((p0.toInt8.toInt32).toInt8.toInt32) (((XT.ushr p0 (8 : Int32)).toInt8.toInt32).toInt8.toInt32) (((XT.ushr p0 (16 : Int32)).toInt8.toInt32).toInt8.toInt32) (((XT.ushr p0 (24 : Int32)).toInt8.toInt32).toInt8.toInt32) (((1 : Int32) + ((XT.ushr p2 (1 : Int32)) &&& (3 : Int32))) - (0 : Int32)))), .val (.int ((p0.toInt8.toInt32).toInt8.toInt32 &&& (255 : Int32))), .unset, .unset, .unset, .unset] [(.int (((XT.ushr p0 (8 : Int32)).toInt8.toInt32).toInt8.toInt32 &&& (255 : Int32)))])) _
      refine XS.istore X7.here hx rfl (hb hby at_85) rfl (l' := #[.val (.int p0), .val (.int p1), .val (.int p2), .val (.ref b1), .val (.int (0 : Int32)), .val (.int ((1 : Int32) + ((XT.ushr p2 (1 : Int32)) &&& (3 : Int32)))), .val (.int (own_seq ((p0.toInt8.toInt32).toInt8.toInt32) (((XT.ushr p0 (8 : Int32)).toInt8.toInt32).toInt8.toInt32) (((XT.ushr p0 (16 : Int32)).toInt8.toInt32).toInt8.toInt32) (((XT.ushr p0 (24 : Int32)).toInt8.toInt32).toInt8.toInt32) (((1 : Int32) + ((XT.ushr p2 (1 : Int32)) &&& (3 : Int32))) - (0 : Int32)))), .val (.int ((p0.toInt8.toInt32).toInt8.toInt32 &&& (255 : Int32))), .val (.int (((XT.ushr p0 (8 : Int32)).toInt8.toInt32).toInt8.toInt32 &&& (255 : Int32))), .unset, .unset, .unset]) rfl ?_
      show Steps p.tables e below (T7.setTop (mkF m 87 #[.val (.int p0), .val (.int p1), .val (.int p2), .val (.ref b1), .val (.int (0 : Int32)), .val (.int ((1 : Int32) + ((XT.ushr p2 (1 : Int32)) &&& (3 : Int32)))), .val (.int (own_seq ((p0.toInt8.toInt32).toInt8.toInt32) (((XT.ushr p0 (8 : Int32)).toInt8.toInt32).toInt8.toInt32) (((XT.ushr p0 (16 : Int32)).toInt8.toInt32).toInt8.toInt32) (((XT.ushr p0 (24 : Int32)).toInt8.toInt32).toInt8.toInt32) (((1 : Int32) + ((XT.ushr p2 (1 : Int32)) &&& (3 : Int32))) - (0 : Int32)))), .val (.int ((p0.toInt8.toInt32).toInt8.toInt32 &&& (255 : Int32))), .val (.int (((XT.ushr p0 (8 : Int32)).toInt8.toInt32).toInt8.toInt32 &&& (255 : Int32))), .unset, .unset, .unset] [])) _
      refine XS.aloadN X7.here hx rfl (hb hby at_87) rfl rfl  ?_
      show Steps p.tables e below (T7.setTop (mkF m 88 #[.val (.int p0), .val (.int p1), .val (.int p2), .val (.ref b1), .val (.int (0 : Int32)), .val (.int ((1 : Int32) + ((XT.ushr p2 (1 : Int32)) &&& (3 : Int32)))), .val (.int (own_seq ((p0.toInt8.toInt32).toInt8.toInt32) (((XT.ushr p0 (8 : Int32)).toInt8.toInt32).toInt8.toInt32) (((XT.ushr p0 (16 : Int32)).toInt8.toInt32).toInt8.toInt32) (((XT.ushr p0 (24 : Int32)).toInt8.toInt32).toInt8.toInt32) (((1 : Int32) + ((XT.ushr p2 (1 : Int32)) &&& (3 : Int32))) - (0 : Int32)))), .val (.int ((p0.toInt8.toInt32).toInt8.toInt32 &&& (255 : Int32))), .val (.int (((XT.ushr p0 (8 : Int32)).toInt8.toInt32).toInt8.toInt32 &&& (255 : Int32))), .unset, .unset, .unset] [(.ref b1)])) _
      refine XS.iload X7.here hx rfl (hb hby at_88) rfl  ?_
      show Steps p.tables e below (T7.setTop (mkF m 90 #[.val (.int p0), .val (.int p1), .val (.int p2), .val (.ref b1), .val (.int (0 : Int32)), .val (.int ((1 : Int32) + ((XT.ushr p2 (1 : Int32)) &&& (3 : Int32)))), .val (.int (own_seq ((p0.toInt8.toInt32).toInt8.toInt32) (((XT.ushr p0 (8 : Int32)).toInt8.toInt32).toInt8.toInt32) (((XT.ushr p0 (16 : Int32)).toInt8.toInt32).toInt8.toInt32) (((XT.ushr p0 (24 : Int32)).toInt8.toInt32).toInt8.toInt32) (((1 : Int32) + ((XT.ushr p2 (1 : Int32)) &&& (3 : Int32))) - (0 : Int32)))), .val (.int ((p0.toInt8.toInt32).toInt8.toInt32 &&& (255 : Int32))), .val (.int (((XT.ushr p0 (8 : Int32)).toInt8.toInt32).toInt8.toInt32 &&& (255 : Int32))), .unset, .unset, .unset] [(.int (0 : Int32)), (.ref b1)])) _
      refine XS.iconst X7.here hx rfl (hb hby at_90) ?_
      show Steps p.tables e below (T7.setTop (mkF m 91 #[.val (.int p0), .val (.int p1), .val (.int p2), .val (.ref b1), .val (.int (0 : Int32)), .val (.int ((1 : Int32) + ((XT.ushr p2 (1 : Int32)) &&& (3 : Int32)))), .val (.int (own_seq ((p0.toInt8.toInt32).toInt8.toInt32) (((XT.ushr p0 (8 : Int32)).toInt8.toInt32).toInt8.toInt32) (((XT.ushr p0 (16 : Int32)).toInt8.toInt32).toInt8.toInt32) (((XT.ushr p0 (24 : Int32)).toInt8.toInt32).toInt8.toInt32) (((1 : Int32) + ((XT.ushr p2 (1 : Int32)) &&& (3 : Int32))) - (0 : Int32)))), .val (.int ((p0.toInt8.toInt32).toInt8.toInt32 &&& (255 : Int32))), .val (.int (((XT.ushr p0 (8 : Int32)).toInt8.toInt32).toInt8.toInt32 &&& (255 : Int32))), .unset, .unset, .unset] [(.int (2 : Int32)), (.int (0 : Int32)), (.ref b1)])) _
      refine XS.iadd X7.here hx rfl (hb hby at_91) rfl ?_
      exact oK
    show OG _ _ _ _ _ _ _ (T7.setTop (mkF m 92 #[.val (.int p0), .val (.int p1), .val (.int p2), .val (.ref b1), .val (.int (0 : Int32)), .val (.int ((1 : Int32) + ((XT.ushr p2 (1 : Int32)) &&& (3 : Int32)))), .val (.int (own_seq ((p0.toInt8.toInt32).toInt8.toInt32) (((XT.ushr p0 (8 : Int32)).toInt8.toInt32).toInt8.toInt32) (((XT.ushr p0 (16 : Int32)).toInt8.toInt32).toInt8.toInt32) (((XT.ushr p0 (24 : Int32)).toInt8.toInt32).toInt8.toInt32) (((1 : Int32) + ((XT.ushr p2 (1 : Int32)) &&& (3 : Int32))) - (0 : Int32)))), .val (.int ((p0.toInt8.toInt32).toInt8.toInt32 &&& (255 : Int32))), .val (.int (((XT.ushr p0 (8 : Int32)).toInt8.toInt32).toInt8.toInt32 &&& (255 : Int32))), .unset, .unset, .unset] [(.int (2 : Int32)), (.ref b1)]))
    have cf13 := V6
    obtain ⟨clf13, Arf13, qf13, Sf13, Mf13, Hf13, Gf13⟩ := cf13
    refine OG.of (X7.baloadBytes hx (j := (2 : Int32)) (v := (.int ((XT.ushr p0 (16 : Int32)).toInt8.toInt32).toInt8.toInt32)) (by rw [e7]; exact Arf13.1) (State.isArrayOf_alike hZ.alike Arf13.2.1) Arf13.2.2 (inb_of Sf13 ⟨by decide, by decide⟩) (Hf13.at (inb_of Sf13 ⟨by decide, by decide⟩) rfl) (g := (mkF m 92 #[.val (.int p0), .val (.int p1), .val (.int p2), .val (.ref b1), .val (.int (0 : Int32)), .val (.int ((1 : Int32) + ((XT.ushr p2 (1 : Int32)) &&& (3 : Int32)))), .val (.int (own_seq ((p0.toInt8.toInt32).toInt8.toInt32) (((XT.ushr p0 (8 : Int32)).toInt8.toInt32).toInt8.toInt32) (((XT.ushr p0 (16 : Int32)).toInt8.toInt32).toInt8.toInt32) (((XT.ushr p0 (24 : Int32)).toInt8.toInt32).toInt8.toInt32) (((1 : Int32) + ((XT.ushr p2 (1 : Int32)) &&& (3 : Int32))) - (0 : Int32)))), .val (.int ((p0.toInt8.toInt32).toInt8.toInt32 &&& (255 : Int32))), .val (.int (((XT.ushr p0 (8 : Int32)).toInt8.toInt32).toInt8.toInt32 &&& (255 : Int32))), .unset, .unset, .unset] [(.int (2 : Int32)), (.ref b1)])) rfl rfl (hb hby at_92)) ?_
    show OG _ _ _ _ _ _ _ (T7.setTop (mkF m 93 #[.val (.int p0), .val (.int p1), .val (.int p2), .val (.ref b1), .val (.int (0 : Int32)), .val (.int ((1 : Int32) + ((XT.ushr p2 (1 : Int32)) &&& (3 : Int32)))), .val (.int (own_seq ((p0.toInt8.toInt32).toInt8.toInt32) (((XT.ushr p0 (8 : Int32)).toInt8.toInt32).toInt8.toInt32) (((XT.ushr p0 (16 : Int32)).toInt8.toInt32).toInt8.toInt32) (((XT.ushr p0 (24 : Int32)).toInt8.toInt32).toInt8.toInt32) (((1 : Int32) + ((XT.ushr p2 (1 : Int32)) &&& (3 : Int32))) - (0 : Int32)))), .val (.int ((p0.toInt8.toInt32).toInt8.toInt32 &&& (255 : Int32))), .val (.int (((XT.ushr p0 (8 : Int32)).toInt8.toInt32).toInt8.toInt32 &&& (255 : Int32))), .unset, .unset, .unset] [(.int ((XT.ushr p0 (16 : Int32)).toInt8.toInt32).toInt8.toInt32)]))
    refine OG.of (A := T7.setTop (mkF m 104 #[.val (.int p0), .val (.int p1), .val (.int p2), .val (.ref b1), .val (.int (0 : Int32)), .val (.int ((1 : Int32) + ((XT.ushr p2 (1 : Int32)) &&& (3 : Int32)))), .val (.int (own_seq ((p0.toInt8.toInt32).toInt8.toInt32) (((XT.ushr p0 (8 : Int32)).toInt8.toInt32).toInt8.toInt32) (((XT.ushr p0 (16 : Int32)).toInt8.toInt32).toInt8.toInt32) (((XT.ushr p0 (24 : Int32)).toInt8.toInt32).toInt8.toInt32) (((1 : Int32) + ((XT.ushr p2 (1 : Int32)) &&& (3 : Int32))) - (0 : Int32)))), .val (.int ((p0.toInt8.toInt32).toInt8.toInt32 &&& (255 : Int32))), .val (.int (((XT.ushr p0 (8 : Int32)).toInt8.toInt32).toInt8.toInt32 &&& (255 : Int32))), .val (.int (((XT.ushr p0 (16 : Int32)).toInt8.toInt32).toInt8.toInt32 &&& (255 : Int32))), .unset, .unset] [(.int (3 : Int32)), (.ref b1)])) (fun oT oK => ?_) ?_
    · show Steps p.tables e below (T7.setTop (mkF m 93 #[.val (.int p0), .val (.int p1), .val (.int p2), .val (.ref b1), .val (.int (0 : Int32)), .val (.int ((1 : Int32) + ((XT.ushr p2 (1 : Int32)) &&& (3 : Int32)))), .val (.int (own_seq ((p0.toInt8.toInt32).toInt8.toInt32) (((XT.ushr p0 (8 : Int32)).toInt8.toInt32).toInt8.toInt32) (((XT.ushr p0 (16 : Int32)).toInt8.toInt32).toInt8.toInt32) (((XT.ushr p0 (24 : Int32)).toInt8.toInt32).toInt8.toInt32) (((1 : Int32) + ((XT.ushr p2 (1 : Int32)) &&& (3 : Int32))) - (0 : Int32)))), .val (.int ((p0.toInt8.toInt32).toInt8.toInt32 &&& (255 : Int32))), .val (.int (((XT.ushr p0 (8 : Int32)).toInt8.toInt32).toInt8.toInt32 &&& (255 : Int32))), .unset, .unset, .unset] [(.int ((XT.ushr p0 (16 : Int32)).toInt8.toInt32).toInt8.toInt32)])) oT
      refine XS.sipush X7.here hx rfl (hb hby at_93) ?_
      show Steps p.tables e below (T7.setTop (mkF m 96 #[.val (.int p0), .val (.int p1), .val (.int p2), .val (.ref b1), .val (.int (0 : Int32)), .val (.int ((1 : Int32) + ((XT.ushr p2 (1 : Int32)) &&& (3 : Int32)))), .val (.int (own_seq ((p0.toInt8.toInt32).toInt8.toInt32) (((XT.ushr p0 (8 : Int32)).toInt8.toInt32).toInt8.toInt32) (((XT.ushr p0 (16 : Int32)).toInt8.toInt32).toInt8.toInt32) (((XT.ushr p0 (24 : Int32)).toInt8.toInt32).toInt8.toInt32) (((1 : Int32) + ((XT.ushr p2 (1 : Int32)) &&& (3 : Int32))) - (0 : Int32)))), .val (.int ((p0.toInt8.toInt32).toInt8.toInt32 &&& (255 : Int32))), .val (.int (((XT.ushr p0 (8 : Int32)).toInt8.toInt32).toInt8.toInt32 &&& (255 : Int32))), .unset, .unset, .unset] [(.int (255 : Int32)), (.int ((XT.ushr p0 (16 : Int32)).toInt8.toInt32).toInt8.toInt32)])) _
      refine XS.iand X7.here hx rfl (hb hby at_96) rfl ?_
      show Steps p.tables e below (T7.setTop (mkF m 97 #[.val (.int p0), .val (.int p1), .val (.int p2), .val (.ref b1), .val (.int (0 : Int32)), .val (.int ((1 : Int32) + ((XT.ushr p2 (1 : Int32)) &&& (3 : Int32)))), .val (.int (own_seq ((p0.toInt8.toInt32).toInt8.toInt32) (((XT.ushr p0 (8 : Int32)).toInt8.toInt32).toInt8.toInt32) (((XT.ushr p0 (16 : Int32)).toInt8.toInt32).toInt8.toInt32) (((XT.ushr p0 (24 : Int32)).toInt8.toInt32).toInt8.toInt32) (((1 : Int32) + ((XT.ushr p2 (1 : Int32)) &&& (3 : Int32))) - (0 : Int32)))), .val (.int ((p0.toInt8.toInt32).toInt8.toInt32 &&& (255 : Int32))), .val (.int (((XT.ushr p0 (8 : Int32)).toInt8.toInt32).toInt8.toInt32 &&& (255 : Int32))), .unset, .unset, .unset] [(.int (((XT.ushr p0 (16 : Int32)).toInt8.toInt32).toInt8.toInt32 &&& (255 : Int32)))])) _
      refine XS.istore X7.here hx rfl (hb hby at_97) rfl (l' := #[.val (.int p0), .val (.int p1), .val (.int p2), .val (.ref b1), .val (.int (0 : Int32)), .val (.int ((1 : Int32) + ((XT.ushr p2 (1 : Int32)) &&& (3 : Int32)))), .val (.int (own_seq ((p0.toInt8.toInt32).toInt8.toInt32) (((XT.ushr p0 (8 : Int32)).toInt8.toInt32).toInt8.toInt32) (((XT.ushr p0 (16 : Int32)).toInt8.toInt32).toInt8.toInt32) (((XT.ushr p0 (24 : Int32)).toInt8.toInt32).toInt8.toInt32) (((1 : Int32) + ((XT.ushr p2 (1 : Int32)) &&& (3 : Int32))) - (0 : Int32)))), .val (.int ((p0.toInt8.toInt32).toInt8.toInt32 &&& (255 : Int32))), .val (.int (((XT.ushr p0 (8 : Int32)).toInt8.toInt32).toInt8.toInt32 &&& (255 : Int32))), .val (.int (((XT.ushr p0 (16 : Int32)).toInt8.toInt32).toInt8.toInt32 &&& (255 : Int32))), .unset, .unset]) rfl ?_
      show Steps p.tables e below (T7.setTop (mkF m 99 #[.val (.int p0), .val (.int p1), .val (.int p2), .val (.ref b1), .val (.int (0 : Int32)), .val (.int ((1 : Int32) + ((XT.ushr p2 (1 : Int32)) &&& (3 : Int32)))), .val (.int (own_seq ((p0.toInt8.toInt32).toInt8.toInt32) (((XT.ushr p0 (8 : Int32)).toInt8.toInt32).toInt8.toInt32) (((XT.ushr p0 (16 : Int32)).toInt8.toInt32).toInt8.toInt32) (((XT.ushr p0 (24 : Int32)).toInt8.toInt32).toInt8.toInt32) (((1 : Int32) + ((XT.ushr p2 (1 : Int32)) &&& (3 : Int32))) - (0 : Int32)))), .val (.int ((p0.toInt8.toInt32).toInt8.toInt32 &&& (255 : Int32))), .val (.int (((XT.ushr p0 (8 : Int32)).toInt8.toInt32).toInt8.toInt32 &&& (255 : Int32))), .val (.int (((XT.ushr p0 (16 : Int32)).toInt8.toInt32).toInt8.toInt32 &&& (255 : Int32))), .unset, .unset] [])) _
      refine XS.aloadN X7.here hx rfl (hb hby at_99) rfl rfl  ?_
      show Steps p.tables e below (T7.setTop (mkF m 100 #[.val (.int p0), .val (.int p1), .val (.int p2), .val (.ref b1), .val (.int (0 : Int32)), .val (.int ((1 : Int32) + ((XT.ushr p2 (1 : Int32)) &&& (3 : Int32)))), .val (.int (own_seq ((p0.toInt8.toInt32).toInt8.toInt32) (((XT.ushr p0 (8 : Int32)).toInt8.toInt32).toInt8.toInt32) (((XT.ushr p0 (16 : Int32)).toInt8.toInt32).toInt8.toInt32) (((XT.ushr p0 (24 : Int32)).toInt8.toInt32).toInt8.toInt32) (((1 : Int32) + ((XT.ushr p2 (1 : Int32)) &&& (3 : Int32))) - (0 : Int32)))), .val (.int ((p0.toInt8.toInt32).toInt8.toInt32 &&& (255 : Int32))), .val (.int (((XT.ushr p0 (8 : Int32)).toInt8.toInt32).toInt8.toInt32 &&& (255 : Int32))), .val (.int (((XT.ushr p0 (16 : Int32)).toInt8.toInt32).toInt8.toInt32 &&& (255 : Int32))), .unset, .unset] [(.ref b1)])) _
      refine XS.iload X7.here hx rfl (hb hby at_100) rfl  ?_
      show Steps p.tables e below (T7.setTop (mkF m 102 #[.val (.int p0), .val (.int p1), .val (.int p2), .val (.ref b1), .val (.int (0 : Int32)), .val (.int ((1 : Int32) + ((XT.ushr p2 (1 : Int32)) &&& (3 : Int32)))), .val (.int (own_seq ((p0.toInt8.toInt32).toInt8.toInt32) (((XT.ushr p0 (8 : Int32)).toInt8.toInt32).toInt8.toInt32) (((XT.ushr p0 (16 : Int32)).toInt8.toInt32).toInt8.toInt32) (((XT.ushr p0 (24 : Int32)).toInt8.toInt32).toInt8.toInt32) (((1 : Int32) + ((XT.ushr p2 (1 : Int32)) &&& (3 : Int32))) - (0 : Int32)))), .val (.int ((p0.toInt8.toInt32).toInt8.toInt32 &&& (255 : Int32))), .val (.int (((XT.ushr p0 (8 : Int32)).toInt8.toInt32).toInt8.toInt32 &&& (255 : Int32))), .val (.int (((XT.ushr p0 (16 : Int32)).toInt8.toInt32).toInt8.toInt32 &&& (255 : Int32))), .unset, .unset] [(.int (0 : Int32)), (.ref b1)])) _
      refine XS.iconst X7.here hx rfl (hb hby at_102) ?_
      show Steps p.tables e below (T7.setTop (mkF m 103 #[.val (.int p0), .val (.int p1), .val (.int p2), .val (.ref b1), .val (.int (0 : Int32)), .val (.int ((1 : Int32) + ((XT.ushr p2 (1 : Int32)) &&& (3 : Int32)))), .val (.int (own_seq ((p0.toInt8.toInt32).toInt8.toInt32) (((XT.ushr p0 (8 : Int32)).toInt8.toInt32).toInt8.toInt32) (((XT.ushr p0 (16 : Int32)).toInt8.toInt32).toInt8.toInt32) (((XT.ushr p0 (24 : Int32)).toInt8.toInt32).toInt8.toInt32) (((1 : Int32) + ((XT.ushr p2 (1 : Int32)) &&& (3 : Int32))) - (0 : Int32)))), .val (.int ((p0.toInt8.toInt32).toInt8.toInt32 &&& (255 : Int32))), .val (.int (((XT.ushr p0 (8 : Int32)).toInt8.toInt32).toInt8.toInt32 &&& (255 : Int32))), .val (.int (((XT.ushr p0 (16 : Int32)).toInt8.toInt32).toInt8.toInt32 &&& (255 : Int32))), .unset, .unset] [(.int (3 : Int32)), (.int (0 : Int32)), (.ref b1)])) _
      refine XS.iadd X7.here hx rfl (hb hby at_103) rfl ?_
      exact oK
    show OG _ _ _ _ _ _ _ (T7.setTop (mkF m 104 #[.val (.int p0), .val (.int p1), .val (.int p2), .val (.ref b1), .val (.int (0 : Int32)), .val (.int ((1 : Int32) + ((XT.ushr p2 (1 : Int32)) &&& (3 : Int32)))), .val (.int (own_seq ((p0.toInt8.toInt32).toInt8.toInt32) (((XT.ushr p0 (8 : Int32)).toInt8.toInt32).toInt8.toInt32) (((XT.ushr p0 (16 : Int32)).toInt8.toInt32).toInt8.toInt32) (((XT.ushr p0 (24 : Int32)).toInt8.toInt32).toInt8.toInt32) (((1 : Int32) + ((XT.ushr p2 (1 : Int32)) &&& (3 : Int32))) - (0 : Int32)))), .val (.int ((p0.toInt8.toInt32).toInt8.toInt32 &&& (255 : Int32))), .val (.int (((XT.ushr p0 (8 : Int32)).toInt8.toInt32).toInt8.toInt32 &&& (255 : Int32))), .val (.int (((XT.ushr p0 (16 : Int32)).toInt8.toInt32).toInt8.toInt32 &&& (255 : Int32))), .unset, .unset] [(.int (3 : Int32)), (.ref b1)]))
    have cf14 := V6
    obtain ⟨clf14, Arf14, qf14, Sf14, Mf14, Hf14, Gf14⟩ := cf14
    refine OG.of (X7.baloadBytes hx (j := (3 : Int32)) (v := (.int ((XT.ushr p0 (24 : Int32)).toInt8.toInt32).toInt8.toInt32)) (by rw [e7]; exact Arf14.1) (State.isArrayOf_alike hZ.alike Arf14.2.1) Arf14.2.2 (inb_of Sf14 ⟨by decide, by decide⟩) (Hf14.at (inb_of Sf14 ⟨by decide, by decide⟩) rfl) (g := (mkF m 104 #[.val (.int p0), .val (.int p1), .val (.int p2), .val (.ref b1), .val (.int (0 : Int32)), .val (.int ((1 : Int32) + ((XT.ushr p2 (1 : Int32)) &&& (3 : Int32)))), .val (.int (own_seq ((p0.toInt8.toInt32).toInt8.toInt32) (((XT.ushr p0 (8 : Int32)).toInt8.toInt32).toInt8.toInt32) (((XT.ushr p0 (16 : Int32)).toInt8.toInt32).toInt8.toInt32) (((XT.ushr p0 (24 : Int32)).toInt8.toInt32).toInt8.toInt32) (((1 : Int32) + ((XT.ushr p2 (1 : Int32)) &&& (3 : Int32))) - (0 : Int32)))), .val (.int ((p0.toInt8.toInt32).toInt8.toInt32 &&& (255 : Int32))), .val (.int (((XT.ushr p0 (8 : Int32)).toInt8.toInt32).toInt8.toInt32 &&& (255 : Int32))), .val (.int (((XT.ushr p0 (16 : Int32)).toInt8.toInt32).toInt8.toInt32 &&& (255 : Int32))), .unset, .unset] [(.int (3 : Int32)), (.ref b1)])) rfl rfl (hb hby at_104)) ?_
    show OG _ _ _ _ _ _ _ (T7.setTop (mkF m 105 #[.val (.int p0), .val (.int p1), .val (.int p2), .val (.ref b1), .val (.int (0 : Int32)), .val (.int ((1 : Int32) + ((XT.ushr p2 (1 : Int32)) &&& (3 : Int32)))), .val (.int (own_seq ((p0.toInt8.toInt32).toInt8.toInt32) (((XT.ushr p0 (8 : Int32)).toInt8.toInt32).toInt8.toInt32) (((XT.ushr p0 (16 : Int32)).toInt8.toInt32).toInt8.toInt32) (((XT.ushr p0 (24 : Int32)).toInt8.toInt32).toInt8.toInt32) (((1 : Int32) + ((XT.ushr p2 (1 : Int32)) &&& (3 : Int32))) - (0 : Int32)))), .val (.int ((p0.toInt8.toInt32).toInt8.toInt32 &&& (255 : Int32))), .val (.int (((XT.ushr p0 (8 : Int32)).toInt8.toInt32).toInt8.toInt32 &&& (255 : Int32))), .val (.int (((XT.ushr p0 (16 : Int32)).toInt8.toInt32).toInt8.toInt32 &&& (255 : Int32))), .unset, .unset] [(.int ((XT.ushr p0 (24 : Int32)).toInt8.toInt32).toInt8.toInt32)]))
    refine OG.of (A := T7.setTop (mkF m 130 #[.val (.int p0), .val (.int p1), .val (.int p2), .val (.ref b1), .val (.int (0 : Int32)), .val (.int ((1 : Int32) + ((XT.ushr p2 (1 : Int32)) &&& (3 : Int32)))), .val (.int (own_seq ((p0.toInt8.toInt32).toInt8.toInt32) (((XT.ushr p0 (8 : Int32)).toInt8.toInt32).toInt8.toInt32) (((XT.ushr p0 (16 : Int32)).toInt8.toInt32).toInt8.toInt32) (((XT.ushr p0 (24 : Int32)).toInt8.toInt32).toInt8.toInt32) (((1 : Int32) + ((XT.ushr p2 (1 : Int32)) &&& (3 : Int32))) - (0 : Int32)))), .val (.int ((p0.toInt8.toInt32).toInt8.toInt32 &&& (255 : Int32))), .val (.int (((XT.ushr p0 (8 : Int32)).toInt8.toInt32).toInt8.toInt32 &&& (255 : Int32))), .val (.int (((XT.ushr p0 (16 : Int32)).toInt8.toInt32).toInt8.toInt32 &&& (255 : Int32))), .val (.int (((XT.ushr p0 (24 : Int32)).toInt8.toInt32).toInt8.toInt32 &&& (255 : Int32))), .val (.int (((1 : Int32) + ((XT.ushr p2 (1 : Int32)) &&& (3 : Int32))) - (0 : Int32)))] [(.int (((1 : Int32) + ((XT.ushr p2 (1 : Int32)) &&& (3 : Int32))) - (0 : Int32))), (.int (((XT.ushr p0 (24 : Int32)).toInt8.toInt32).toInt8.toInt32 &&& (255 : Int32))), (.int (((XT.ushr p0 (16 : Int32)).toInt8.toInt32).toInt8.toInt32 &&& (255 : Int32))), (.int (((XT.ushr p0 (8 : Int32)).toInt8.toInt32).toInt8.toInt32 &&& (255 : Int32))), (.int ((p0.toInt8.toInt32).toInt8.toInt32 &&& (255 : Int32))), (.int (own_seq ((p0.toInt8.toInt32).toInt8.toInt32) (((XT.ushr p0 (8 : Int32)).toInt8.toInt32).toInt8.toInt32) (((XT.ushr p0 (16 : Int32)).toInt8.toInt32).toInt8.toInt32) (((XT.ushr p0 (24 : Int32)).toInt8.toInt32).toInt8.toInt32) (((1 : Int32) + ((XT.ushr p2 (1 : Int32)) &&& (3 : Int32))) - (0 : Int32))))])) (fun oT oK => ?_) ?_
    · show Steps p.tables e below (T7.setTop (mkF m 105 #[.val (.int p0), .val (.int p1), .val (.int p2), .val (.ref b1), .val (.int (0 : Int32)), .val (.int ((1 : Int32) + ((XT.ushr p2 (1 : Int32)) &&& (3 : Int32)))), .val (.int (own_seq ((p0.toInt8.toInt32).toInt8.toInt32) (((XT.ushr p0 (8 : Int32)).toInt8.toInt32).toInt8.toInt32) (((XT.ushr p0 (16 : Int32)).toInt8.toInt32).toInt8.toInt32) (((XT.ushr p0 (24 : Int32)).toInt8.toInt32).toInt8.toInt32) (((1 : Int32) + ((XT.ushr p2 (1 : Int32)) &&& (3 : Int32))) - (0 : Int32)))), .val (.int ((p0.toInt8.toInt32).toInt8.toInt32 &&& (255 : Int32))), .val (.int (((XT.ushr p0 (8 : Int32)).toInt8.toInt32).toInt8.toInt32 &&& (255 : Int32))), .val (.int (((XT.ushr p0 (16 : Int32)).toInt8.toInt32).toInt8.toInt32 &&& (255 : Int32))), .unset, .unset] [(.int ((XT.ushr p0 (24 : Int32)).toInt8.toInt32).toInt8.toInt32)])) oT
      refine XS.sipush X7.here hx rfl (hb hby at_105) ?_
      show Steps p.tables e below (T7.setTop (mkF m 108 #[.val (.int p0), .val (.int p1), .val (.int p2), .val (.ref b1), .val (.int (0 : Int32)), .val (.int ((1 : Int32) + ((XT.ushr p2 (1 : Int32)) &&& (3 : Int32)))), .val (.int (own_seq ((p0.toInt8.toInt32).toInt8.toInt32) (((XT.ushr p0 (8 : Int32)).toInt8.toInt32).toInt8.toInt32) (((XT.ushr p0 (16 : Int32)).toInt8.toInt32).toInt8.toInt32) (((XT.ushr p0 (24 : Int32)).toInt8.toInt32).toInt8.toInt32) (((1 : Int32) + ((XT.ushr p2 (1 : Int32)) &&& (3 : Int32))) - (0 : Int32)))), .val (.int ((p0.toInt8.toInt32).toInt8.toInt32 &&& (255 : Int32))), .val (.int (((XT.ushr p0 (8 : Int32)).toInt8.toInt32).toInt8.toInt32 &&& (255 : Int32))), .val (.int (((XT.ushr p0 (16 : Int32)).toInt8.toInt32).toInt8.toInt32 &&& (255 : Int32))), .unset, .unset] [(.int (255 : Int32)), (.int ((XT.ushr p0 (24 : Int32)).toInt8.toInt32).toInt8.toInt32)])) _
      refine XS.iand X7.here hx rfl (hb hby at_108) rfl ?_
      show Steps p.tables e below (T7.setTop (mkF m 109 #[.val (.int p0), .val (.int p1), .val (.int p2), .val (.ref b1), .val (.int (0 : Int32)), .val (.int ((1 : Int32) + ((XT.ushr p2 (1 : Int32)) &&& (3 : Int32)))), .val (.int (own_seq ((p0.toInt8.toInt32).toInt8.toInt32) (((XT.ushr p0 (8 : Int32)).toInt8.toInt32).toInt8.toInt32) (((XT.ushr p0 (16 : Int32)).toInt8.toInt32).toInt8.toInt32) (((XT.ushr p0 (24 : Int32)).toInt8.toInt32).toInt8.toInt32) (((1 : Int32) + ((XT.ushr p2 (1 : Int32)) &&& (3 : Int32))) - (0 : Int32)))), .val (.int ((p0.toInt8.toInt32).toInt8.toInt32 &&& (255 : Int32))), .val (.int (((XT.ushr p0 (8 : Int32)).toInt8.toInt32).toInt8.toInt32 &&& (255 : Int32))), .val (.int (((XT.ushr p0 (16 : Int32)).toInt8.toInt32).toInt8.toInt32 &&& (255 : Int32))), .unset, .unset] [(.int (((XT.ushr p0 (24 : Int32)).toInt8.toInt32).toInt8.toInt32 &&& (255 : Int32)))])) _
      refine XS.istore X7.here hx rfl (hb hby at_109) rfl (l' := #[.val (.int p0), .val (.int p1), .val (.int p2), .val (.ref b1), .val (.int (0 : Int32)), .val (.int ((1 : Int32) + ((XT.ushr p2 (1 : Int32)) &&& (3 : Int32)))), .val (.int (own_seq ((p0.toInt8.toInt32).toInt8.toInt32) (((XT.ushr p0 (8 : Int32)).toInt8.toInt32).toInt8.toInt32) (((XT.ushr p0 (16 : Int32)).toInt8.toInt32).toInt8.toInt32) (((XT.ushr p0 (24 : Int32)).toInt8.toInt32).toInt8.toInt32) (((1 : Int32) + ((XT.ushr p2 (1 : Int32)) &&& (3 : Int32))) - (0 : Int32)))), .val (.int ((p0.toInt8.toInt32).toInt8.toInt32 &&& (255 : Int32))), .val (.int (((XT.ushr p0 (8 : Int32)).toInt8.toInt32).toInt8.toInt32 &&& (255 : Int32))), .val (.int (((XT.ushr p0 (16 : Int32)).toInt8.toInt32).toInt8.toInt32 &&& (255 : Int32))), .val (.int (((XT.ushr p0 (24 : Int32)).toInt8.toInt32).toInt8.toInt32 &&& (255 : Int32))), .unset]) rfl ?_
      show Steps p.tables e below (T7.setTop (mkF m 111 #[.val (.int p0), .val (.int p1), .val (.int p2), .val (.ref b1), .val (.int (0 : Int32)), .val (.int ((1 : Int32) + ((XT.ushr p2 (1 : Int32)) &&& (3 : Int32)))), .val (.int (own_seq ((p0.toInt8.toInt32).toInt8.toInt32) (((XT.ushr p0 (8 : Int32)).toInt8.toInt32).toInt8.toInt32) (((XT.ushr p0 (16 : Int32)).toInt8.toInt32).toInt8.toInt32) (((XT.ushr p0 (24 : Int32)).toInt8.toInt32).toInt8.toInt32) (((1 : Int32) + ((XT.ushr p2 (1 : Int32)) &&& (3 : Int32))) - (0 : Int32)))), .val (.int ((p0.toInt8.toInt32).toInt8.toInt32 &&& (255 : Int32))), .val (.int (((XT.ushr p0 (8 : Int32)).toInt8.toInt32).toInt8.toInt32 &&& (255 : Int32))), .val (.int (((XT.ushr p0 (16 : Int32)).toInt8.toInt32).toInt8.toInt32 &&& (255 : Int32))), .val (.int (((XT.ushr p0 (24 : Int32)).toInt8.toInt32).toInt8.toInt32 &&& (255 : Int32))), .unset] [])) _
      refine XS.iload X7.here hx rfl (hb hby at_111) rfl  ?_
      show Steps p.tables e below (T7.setTop (mkF m 113 #[.val (.int p0), .val (.int p1), .val (.int p2), .val (.ref b1), .val (.int (0 : Int32)), .val (.int ((1 : Int32) + ((XT.ushr p2 (1 : Int32)) &&& (3 : Int32)))), .val (.int (own_seq ((p0.toInt8.toInt32).toInt8.toInt32) (((XT.ushr p0 (8 : Int32)).toInt8.toInt32).toInt8.toInt32) (((XT.ushr p0 (16 : Int32)).toInt8.toInt32).toInt8.toInt32) (((XT.ushr p0 (24 : Int32)).toInt8.toInt32).toInt8.toInt32) (((1 : Int32) + ((XT.ushr p2 (1 : Int32)) &&& (3 : Int32))) - (0 : Int32)))), .val (.int ((p0.toInt8.toInt32).toInt8.toInt32 &&& (255 : Int32))), .val (.int (((XT.ushr p0 (8 : Int32)).toInt8.toInt32).toInt8.toInt32 &&& (255 : Int32))), .val (.int (((XT.ushr p0 (16 : Int32)).toInt8.toInt32).toInt8.toInt32 &&& (255 : Int32))), .val (.int (((XT.ushr p0 (24 : Int32)).toInt8.toInt32).toInt8.toInt32 &&& (255 : Int32))), .unset] [(.int ((1 : Int32) + ((XT.ushr p2 (1 : Int32)) &&& (3 : Int32))))])) _
      refine XS.iload X7.here hx rfl (hb hby at_113) rfl  ?_
      show Steps p.tables e below (T7.setTop (mkF m 115 #[.val (.int p0), .val (.int p1), .val (.int p2), .val (.ref b1), .val (.int (0 : Int32)), .val (.int ((1 : Int32) + ((XT.ushr p2 (1 : Int32)) &&& (3 : Int32)))), .val (.int (own_seq ((p0.toInt8.toInt32).toInt8.toInt32) (((XT.ushr p0 (8 : Int32)).toInt8.toInt32).toInt8.toInt32) (((XT.ushr p0 (16 : Int32)).toInt8.toInt32).toInt8.toInt32) (((XT.ushr p0 (24 : Int32)).toInt8.toInt32).toInt8.toInt32) (((1 : Int32) + ((XT.ushr p2 (1 : Int32)) &&& (3 : Int32))) - (0 : Int32)))), .val (.int ((p0.toInt8.toInt32).toInt8.toInt32 &&& (255 : Int32))), .val (.int (((XT.ushr p0 (8 : Int32)).toInt8.toInt32).toInt8.toInt32 &&& (255 : Int32))), .val (.int (((XT.ushr p0 (16 : Int32)).toInt8.toInt32).toInt8.toInt32 &&& (255 : Int32))), .val (.int (((XT.ushr p0 (24 : Int32)).toInt8.toInt32).toInt8.toInt32 &&& (255 : Int32))), .unset] [(.int (0 : Int32)), (.int ((1 : Int32) + ((XT.ushr p2 (1 : Int32)) &&& (3 : Int32))))])) _
      refine XS.isub X7.here hx rfl (hb hby at_115) rfl ?_
      show Steps p.tables e below (T7.setTop (mkF m 116 #[.val (.int p0), .val (.int p1), .val (.int p2), .val (.ref b1), .val (.int (0 : Int32)), .val (.int ((1 : Int32) + ((XT.ushr p2 (1 : Int32)) &&& (3 : Int32)))), .val (.int (own_seq ((p0.toInt8.toInt32).toInt8.toInt32) (((XT.ushr p0 (8 : Int32)).toInt8.toInt32).toInt8.toInt32) (((XT.ushr p0 (16 : Int32)).toInt8.toInt32).toInt8.toInt32) (((XT.ushr p0 (24 : Int32)).toInt8.toInt32).toInt8.toInt32) (((1 : Int32) + ((XT.ushr p2 (1 : Int32)) &&& (3 : Int32))) - (0 : Int32)))), .val (.int ((p0.toInt8.toInt32).toInt8.toInt32 &&& (255 : Int32))), .val (.int (((XT.ushr p0 (8 : Int32)).toInt8.toInt32).toInt8.toInt32 &&& (255 : Int32))), .val (.int (((XT.ushr p0 (16 : Int32)).toInt8.toInt32).toInt8.toInt32 &&& (255 : Int32))), .val (.int (((XT.ushr p0 (24 : Int32)).toInt8.toInt32).toInt8.toInt32 &&& (255 : Int32))), .unset] [(.int (((1 : Int32) + ((XT.ushr p2 (1 : Int32)) &&& (3 : Int32))) - (0 : Int32)))])) _
      refine XS.istore X7.here hx rfl (hb hby at_116) rfl (l' := #[.val (.int p0), .val (.int p1), .val (.int p2), .val (.ref b1), .val (.int (0 : Int32)), .val (.int ((1 : Int32) + ((XT.ushr p2 (1 : Int32)) &&& (3 : Int32)))), .val (.int (own_seq ((p0.toInt8.toInt32).toInt8.toInt32) (((XT.ushr p0 (8 : Int32)).toInt8.toInt32).toInt8.toInt32) (((XT.ushr p0 (16 : Int32)).toInt8.toInt32).toInt8.toInt32) (((XT.ushr p0 (24 : Int32)).toInt8.toInt32).toInt8.toInt32) (((1 : Int32) + ((XT.ushr p2 (1 : Int32)) &&& (3 : Int32))) - (0 : Int32)))), .val (.int ((p0.toInt8.toInt32).toInt8.toInt32 &&& (255 : Int32))), .val (.int (((XT.ushr p0 (8 : Int32)).toInt8.toInt32).toInt8.toInt32 &&& (255 : Int32))), .val (.int (((XT.ushr p0 (16 : Int32)).toInt8.toInt32).toInt8.toInt32 &&& (255 : Int32))), .val (.int (((XT.ushr p0 (24 : Int32)).toInt8.toInt32).toInt8.toInt32 &&& (255 : Int32))), .val (.int (((1 : Int32) + ((XT.ushr p2 (1 : Int32)) &&& (3 : Int32))) - (0 : Int32)))]) rfl ?_
      show Steps p.tables e below (T7.setTop (mkF m 118 #[.val (.int p0), .val (.int p1), .val (.int p2), .val (.ref b1), .val (.int (0 : Int32)), .val (.int ((1 : Int32) + ((XT.ushr p2 (1 : Int32)) &&& (3 : Int32)))), .val (.int (own_seq ((p0.toInt8.toInt32).toInt8.toInt32) (((XT.ushr p0 (8 : Int32)).toInt8.toInt32).toInt8.toInt32) (((XT.ushr p0 (16 : Int32)).toInt8.toInt32).toInt8.toInt32) (((XT.ushr p0 (24 : Int32)).toInt8.toInt32).toInt8.toInt32) (((1 : Int32) + ((XT.ushr p2 (1 : Int32)) &&& (3 : Int32))) - (0 : Int32)))), .val (.int ((p0.toInt8.toInt32).toInt8.toInt32 &&& (255 : Int32))), .val (.int (((XT.ushr p0 (8 : Int32)).toInt8.toInt32).toInt8.toInt32 &&& (255 : Int32))), .val (.int (((XT.ushr p0 (16 : Int32)).toInt8.toInt32).toInt8.toInt32 &&& (255 : Int32))), .val (.int (((XT.ushr p0 (24 : Int32)).toInt8.toInt32).toInt8.toInt32 &&& (255 : Int32))), .val (.int (((1 : Int32) + ((XT.ushr p2 (1 : Int32)) &&& (3 : Int32))) - (0 : Int32)))] [])) _
      refine XS.iload X7.here hx rfl (hb hby at_118) rfl  ?_
      show Steps p.tables e below (T7.setTop (mkF m 120 #[.val (.int p0), .val (.int p1), .val (.int p2), .val (.ref b1), .val (.int (0 : Int32)), .val (.int ((1 : Int32) + ((XT.ushr p2 (1 : Int32)) &&& (3 : Int32)))), .val (.int (own_seq ((p0.toInt8.toInt32).toInt8.toInt32) (((XT.ushr p0 (8 : Int32)).toInt8.toInt32).toInt8.toInt32) (((XT.ushr p0 (16 : Int32)).toInt8.toInt32).toInt8.toInt32) (((XT.ushr p0 (24 : Int32)).toInt8.toInt32).toInt8.toInt32) (((1 : Int32) + ((XT.ushr p2 (1 : Int32)) &&& (3 : Int32))) - (0 : Int32)))), .val (.int ((p0.toInt8.toInt32).toInt8.toInt32 &&& (255 : Int32))), .val (.int (((XT.ushr p0 (8 : Int32)).toInt8.toInt32).toInt8.toInt32 &&& (255 : Int32))), .val (.int (((XT.ushr p0 (16 : Int32)).toInt8.toInt32).toInt8.toInt32 &&& (255 : Int32))), .val (.int (((XT.ushr p0 (24 : Int32)).toInt8.toInt32).toInt8.toInt32 &&& (255 : Int32))), .val (.int (((1 : Int32) + ((XT.ushr p2 (1 : Int32)) &&& (3 : Int32))) - (0 : Int32)))] [(.int (own_seq ((p0.toInt8.toInt32).toInt8.toInt32) (((XT.ushr p0 (8 : Int32)).toInt8.toInt32).toInt8.toInt32) (((XT.ushr p0 (16 : Int32)).toInt8.toInt32).toInt8.toInt32) (((XT.ushr p0 (24 : Int32)).toInt8.toInt32).toInt8.toInt32) (((1 : Int32) + ((XT.ushr p2 (1 : Int32)) &&& (3 : Int32))) - (0 : Int32))))])) _
      refine XS.iload X7.here hx rfl (hb hby at_120) rfl  ?_
      show Steps p.tables e below (T7.setTop (mkF m 122 #[.val (.int p0), .val (.int p1), .val (.int p2), .val (.ref b1), .val (.int (0 : Int32)), .val (.int ((1 : Int32) + ((XT.ushr p2 (1 : Int32)) &&& (3 : Int32)))), .val (.int (own_seq ((p0.toInt8.toInt32).toInt8.toInt32) (((XT.ushr p0 (8 : Int32)).toInt8.toInt32).toInt8.toInt32) (((XT.ushr p0 (16 : Int32)).toInt8.toInt32).toInt8.toInt32) (((XT.ushr p0 (24 : Int32)).toInt8.toInt32).toInt8.toInt32) (((1 : Int32) + ((XT.ushr p2 (1 : Int32)) &&& (3 : Int32))) - (0 : Int32)))), .val (.int ((p0.toInt8.toInt32).toInt8.toInt32 &&& (255 : Int32))), .val (.int (((XT.ushr p0 (8 : Int32)).toInt8.toInt32).toInt8.toInt32 &&& (255 : Int32))), .val (.int (((XT.ushr p0 (16 : Int32)).toInt8.toInt32).toInt8.toInt32 &&& (255 : Int32))), .val (.int (((XT.ushr p0 (24 : Int32)).toInt8.toInt32).toInt8.toInt32 &&& (255 : Int32))), .val (.int (((1 : Int32) + ((XT.ushr p2 (1 : Int32)) &&& (3 : Int32))) - (0 : Int32)))] [(.int ((p0.toInt8.toInt32).toInt8.toInt32 &&& (255 : Int32))), (.int (own_seq ((p0.toInt8.toInt32).toInt8.toInt32) (((XT.ushr p0 (8 : Int32)).toInt8.toInt32).toInt8.toInt32) (((XT.ushr p0 (16 : Int32)).toInt8.toInt32).toInt8.toInt32) (((XT.ushr p0 (24 : Int32)).toInt8.toInt32).toInt8.toInt32) (((1 : Int32) + ((XT.ushr p2 (1 : Int32)) &&& (3 : Int32))) - (0 : Int32))))])) _
      refine XS.iload X7.here hx rfl (hb hby at_122) rfl  ?_
      show Steps p.tables e below (T7.setTop (mkF m 124 #[.val (.int p0), .val (.int p1), .val (.int p2), .val (.ref b1), .val (.int (0 : Int32)), .val (.int ((1 : Int32) + ((XT.ushr p2 (1 : Int32)) &&& (3 : Int32)))), .val (.int (own_seq ((p0.toInt8.toInt32).toInt8.toInt32) (((XT.ushr p0 (8 : Int32)).toInt8.toInt32).toInt8.toInt32) (((XT.ushr p0 (16 : Int32)).toInt8.toInt32).toInt8.toInt32) (((XT.ushr p0 (24 : Int32)).toInt8.toInt32).toInt8.toInt32) (((1 : Int32) + ((XT.ushr p2 (1 : Int32)) &&& (3 : Int32))) - (0 : Int32)))), .val (.int ((p0.toInt8.toInt32).toInt8.toInt32 &&& (255 : Int32))), .val (.int (((XT.ushr p0 (8 : Int32)).toInt8.toInt32).toInt8.toInt32 &&& (255 : Int32))), .val (.int (((XT.ushr p0 (16 : Int32)).toInt8.toInt32).toInt8.toInt32 &&& (255 : Int32))), .val (.int (((XT.ushr p0 (24 : Int32)).toInt8.toInt32).toInt8.toInt32 &&& (255 : Int32))), .val (.int (((1 : Int32) + ((XT.ushr p2 (1 : Int32)) &&& (3 : Int32))) - (0 : Int32)))] [(.int (((XT.ushr p0 (8 : Int32)).toInt8.toInt32).toInt8.toInt32 &&& (255 : Int32))), (.int ((p0.toInt8.toInt32).toInt8.toInt32 &&& (255 : Int32))), (.int (own_seq ((p0.toInt8.toInt32).toInt8.toInt32) (((XT.ushr p0 (8 : Int32)).toInt8.toInt32).toInt8.toInt32) (((XT.ushr p0 (16 : Int32)).toInt8.toInt32).toInt8.toInt32) (((XT.ushr p0 (24 : Int32)).toInt8.toInt32).toInt8.toInt32) (((1 : Int32) + ((XT.ushr p2 (1 : Int32)) &&& (3 : Int32))) - (0 : Int32))))])) _
      refine XS.iload X7.here hx rfl (hb hby at_124) rfl  ?_
      show Steps p.tables e below (T7.setTop (mkF m 126 #[.val (.int p0), .val (.int p1), .val (.int p2), .val (.ref b1), .val (.int (0 : Int32)), .val (.int ((1 : Int32) + ((XT.ushr p2 (1 : Int32)) &&& (3 : Int32)))), .val (.int (own_seq ((p0.toInt8.toInt32).toInt8.toInt32) (((XT.ushr p0 (8 : Int32)).toInt8.toInt32).toInt8.toInt32) (((XT.ushr p0 (16 : Int32)).toInt8.toInt32).toInt8.toInt32) (((XT.ushr p0 (24 : Int32)).toInt8.toInt32).toInt8.toInt32) (((1 : Int32) + ((XT.ushr p2 (1 : Int32)) &&& (3 : Int32))) - (0 : Int32)))), .val (.int ((p0.toInt8.toInt32).toInt8.toInt32 &&& (255 : Int32))), .val (.int (((XT.ushr p0 (8 : Int32)).toInt8.toInt32).toInt8.toInt32 &&& (255 : Int32))), .val (.int (((XT.ushr p0 (16 : Int32)).toInt8.toInt32).toInt8.toInt32 &&& (255 : Int32))), .val (.int (((XT.ushr p0 (24 : Int32)).toInt8.toInt32).toInt8.toInt32 &&& (255 : Int32))), .val (.int (((1 : Int32) + ((XT.ushr p2 (1 : Int32)) &&& (3 : Int32))) - (0 : Int32)))] [(.int (((XT.ushr p0 (16 : Int32)).toInt8.toInt32).toInt8.toInt32 &&& (255 : Int32))), (.int (((XT.ushr p0 (8 : Int32)).toInt8.toInt32).toInt8.toInt32 &&& (255 : Int32))), (.int ((p0.toInt8.toInt32).toInt8.toInt32 &&& (255 : Int32))), (.int (own_seq ((p0.toInt8.toInt32).toInt8.toInt32) (((XT.ushr p0 (8 : Int32)).toInt8.toInt32).toInt8.toInt32) (((XT.ushr p0 (16 : Int32)).toInt8.toInt32).toInt8.toInt32) (((XT.ushr p0 (24 : Int32)).toInt8.toInt32).toInt8.toInt32) (((1 : Int32) + ((XT.ushr p2 (1 : Int32)) &&& (3 : Int32))) - (0 : Int32))))])) _
      refine XS.iload X7.here hx rfl (hb hby at_126) rfl  ?_
      show Steps p.tables e below (T7.setTop (mkF m 128 #[.val (.int p0), .val (.int p1), .val (.int p2), .val (.ref b1), .val (.int (0 : Int32)), .val (.int ((1 : Int32) + ((XT.ushr p2 (1 : Int32)) &&& (3 : Int32)))), .val (.int (own_seq ((p0.toInt8.toInt32).toInt8.toInt32) (((XT.ushr p0 (8 : Int32)).toInt8.toInt32).toInt8.toInt32) (((XT.ushr p0 (16 : Int32)).toInt8.toInt32).toInt8.toInt32) (((XT.ushr p0 (24 : Int32)).toInt8.toInt32).toInt8.toInt32) (((1 : Int32) + ((XT.ushr p2 (1 : Int32)) &&& (3 : Int32))) - (0 : Int32)))), .val (.int ((p0.toInt8.toInt32).toInt8.toInt32 &&& (255 : Int32))), .val (.int (((XT.ushr p0 (8 : Int32)).toInt8.toInt32).toInt8.toInt32 &&& (255 : Int32))), .val (.int (((XT.ushr p0 (16 : Int32)).toInt8.toInt32).toInt8.toInt32 &&& (255 : Int32))), .val (.int (((XT.ushr p0 (24 : Int32)).toInt8.toInt32).toInt8.toInt32 &&& (255 : Int32))), .val (.int (((1 : Int32) + ((XT.ushr p2 (1 : Int32)) &&& (3 : Int32))) - (0 : Int32)))] [(.int (((XT.ushr p0 (24 : Int32)).toInt8.toInt32).toInt8.toInt32 &&& (255 : Int32))), (.int (((XT.ushr p0 (16 : Int32)).toInt8.toInt32).toInt8.toInt32 &&& (255 : Int32))), (.int (((XT.ushr p0 (8 : Int32)).toInt8.toInt32).toInt8.toInt32 &&& (255 : Int32))), (.int ((p0.toInt8.toInt32).toInt8.toInt32 &&& (255 : Int32))), (.int (own_seq ((p0.toInt8.toInt32).toInt8.toInt32) (((XT.ushr p0 (8 : Int32)).toInt8.toInt32).toInt8.toInt32) (((XT.ushr p0 (16 : Int32)).toInt8.toInt32).toInt8.toInt32) (((XT.ushr p0 (24 : Int32)).toInt8.toInt32).toInt8.toInt32) (((1 : Int32) + ((XT.ushr p2 (1 : Int32)) &&& (3 : Int32))) - (0 : Int32))))])) _
      refine XS.iload X7.here hx rfl (hb hby at_128) rfl  ?_
      exact oK
    show OG _ _ _ _ _ _ _ (T7.setTop (mkF m 130 #[.val (.int p0), .val (.int p1), .val (.int p2), .val (.ref b1), .val (.int (0 : Int32)), .val (.int ((1 : Int32) + ((XT.ushr p2 (1 : Int32)) &&& (3 : Int32)))), .val (.int (own_seq ((p0.toInt8.toInt32).toInt8.toInt32) (((XT.ushr p0 (8 : Int32)).toInt8.toInt32).toInt8.toInt32) (((XT.ushr p0 (16 : Int32)).toInt8.toInt32).toInt8.toInt32) (((XT.ushr p0 (24 : Int32)).toInt8.toInt32).toInt8.toInt32) (((1 : Int32) + ((XT.ushr p2 (1 : Int32)) &&& (3 : Int32))) - (0 : Int32)))), .val (.int ((p0.toInt8.toInt32).toInt8.toInt32 &&& (255 : Int32))), .val (.int (((XT.ushr p0 (8 : Int32)).toInt8.toInt32).toInt8.toInt32 &&& (255 : Int32))), .val (.int (((XT.ushr p0 (16 : Int32)).toInt8.toInt32).toInt8.toInt32 &&& (255 : Int32))), .val (.int (((XT.ushr p0 (24 : Int32)).toInt8.toInt32).toInt8.toInt32 &&& (255 : Int32))), .val (.int (((1 : Int32) + ((XT.ushr p2 (1 : Int32)) &&& (3 : Int32))) - (0 : Int32)))] [(.int (((1 : Int32) + ((XT.ushr p2 (1 : Int32)) &&& (3 : Int32))) - (0 : Int32))), (.int (((XT.ushr p0 (24 : Int32)).toInt8.toInt32).toInt8.toInt32 &&& (255 : Int32))), (.int (((XT.ushr p0 (16 : Int32)).toInt8.toInt32).toInt8.toInt32 &&& (255 : Int32))), (.int (((XT.ushr p0 (8 : Int32)).toInt8.toInt32).toInt8.toInt32 &&& (255 : Int32))), (.int ((p0.toInt8.toInt32).toInt8.toInt32 &&& (255 : Int32))), (.int (own_seq ((p0.toInt8.toInt32).toInt8.toInt32) (((XT.ushr p0 (8 : Int32)).toInt8.toInt32).toInt8.toInt32) (((XT.ushr p0 (16 : Int32)).toInt8.toInt32).toInt8.toInt32) (((XT.ushr p0 (24 : Int32)).toInt8.toInt32).toInt8.toInt32) (((1 : Int32) + ((XT.ushr p2 (1 : Int32)) &&& (3 : Int32))) - (0 : Int32))))]))
    obtain ⟨_, _, ⟨T8, L8, k8, n8⟩, -, X8, ⟨Lc8, hQ8, l8, y8, z8⟩, st8⟩ := Jvm.LawKit.callS X7 hx (y := (⟨"com/example/gate_to_gate/gatetogate/model/Utf8SequenceLengthPinLaw", "expected", "(IIIII)I"⟩ : MethodName)) hown (mvT hZ (hw _ (List.mem_of_getElem? (i := 5) rfl))) (mvT hZ (hw _ (List.mem_of_getElem? (i := 6) rfl))) (mvT hZ (hw _ (List.mem_of_getElem? (i := 7) rfl))) (mvT hZ (hw _ (List.mem_of_getElem? (i := 8) rfl))) (by decide) (backOf (W := 1) (rmE l Z a0 hw [] ((p0.toInt8.toInt32).toInt8.toInt32 &&& (255 : Int32)) (((XT.ushr p0 (8 : Int32)).toInt8.toInt32).toInt8.toInt32 &&& (255 : Int32)) (((XT.ushr p0 (16 : Int32)).toInt8.toInt32).toInt8.toInt32 &&& (255 : Int32)) (((XT.ushr p0 (24 : Int32)).toInt8.toInt32).toInt8.toInt32 &&& (255 : Int32)) (((1 : Int32) + ((XT.ushr p2 (1 : Int32)) &&& (3 : Int32))) - (0 : Int32))  h6 n0 (Z6)) hZ (hw _ (List.mem_of_getElem? (i := 8) rfl)) (hw _ (List.mem_of_getElem? (i := 7) rfl)) (by decide) (by decide)) (g := (mkF m 130 #[.val (.int p0), .val (.int p1), .val (.int p2), .val (.ref b1), .val (.int (0 : Int32)), .val (.int ((1 : Int32) + ((XT.ushr p2 (1 : Int32)) &&& (3 : Int32)))), .val (.int (own_seq ((p0.toInt8.toInt32).toInt8.toInt32) (((XT.ushr p0 (8 : Int32)).toInt8.toInt32).toInt8.toInt32) (((XT.ushr p0 (16 : Int32)).toInt8.toInt32).toInt8.toInt32) (((XT.ushr p0 (24 : Int32)).toInt8.toInt32).toInt8.toInt32) (((1 : Int32) + ((XT.ushr p2 (1 : Int32)) &&& (3 : Int32))) - (0 : Int32)))), .val (.int ((p0.toInt8.toInt32).toInt8.toInt32 &&& (255 : Int32))), .val (.int (((XT.ushr p0 (8 : Int32)).toInt8.toInt32).toInt8.toInt32 &&& (255 : Int32))), .val (.int (((XT.ushr p0 (16 : Int32)).toInt8.toInt32).toInt8.toInt32 &&& (255 : Int32))), .val (.int (((XT.ushr p0 (24 : Int32)).toInt8.toInt32).toInt8.toInt32 &&& (255 : Int32))), .val (.int (((1 : Int32) + ((XT.ushr p2 (1 : Int32)) &&& (3 : Int32))) - (0 : Int32)))] [(.int (((1 : Int32) + ((XT.ushr p2 (1 : Int32)) &&& (3 : Int32))) - (0 : Int32))), (.int (((XT.ushr p0 (24 : Int32)).toInt8.toInt32).toInt8.toInt32 &&& (255 : Int32))), (.int (((XT.ushr p0 (16 : Int32)).toInt8.toInt32).toInt8.toInt32 &&& (255 : Int32))), (.int (((XT.ushr p0 (8 : Int32)).toInt8.toInt32).toInt8.toInt32 &&& (255 : Int32))), (.int ((p0.toInt8.toInt32).toInt8.toInt32 &&& (255 : Int32))), (.int (own_seq ((p0.toInt8.toInt32).toInt8.toInt32) (((XT.ushr p0 (8 : Int32)).toInt8.toInt32).toInt8.toInt32) (((XT.ushr p0 (16 : Int32)).toInt8.toInt32).toInt8.toInt32) (((XT.ushr p0 (24 : Int32)).toInt8.toInt32).toInt8.toInt32) (((1 : Int32) + ((XT.ushr p2 (1 : Int32)) &&& (3 : Int32))) - (0 : Int32))))])) rfl (by rw [hml]; rfl) (argsL := [(.int ((p0.toInt8.toInt32).toInt8.toInt32 &&& (255 : Int32))), (.int (((XT.ushr p0 (8 : Int32)).toInt8.toInt32).toInt8.toInt32 &&& (255 : Int32))), (.int (((XT.ushr p0 (16 : Int32)).toInt8.toInt32).toInt8.toInt32 &&& (255 : Int32))), (.int (((XT.ushr p0 (24 : Int32)).toInt8.toInt32).toInt8.toInt32 &&& (255 : Int32))), (.int (((1 : Int32) + ((XT.ushr p2 (1 : Int32)) &&& (3 : Int32))) - (0 : Int32)))]) (rest := [(.int (own_seq ((p0.toInt8.toInt32).toInt8.toInt32) (((XT.ushr p0 (8 : Int32)).toInt8.toInt32).toInt8.toInt32) (((XT.ushr p0 (16 : Int32)).toInt8.toInt32).toInt8.toInt32) (((XT.ushr p0 (24 : Int32)).toInt8.toInt32).toInt8.toInt32) (((1 : Int32) + ((XT.ushr p2 (1 : Int32)) &&& (3 : Int32))) - (0 : Int32))))]) (lenOf pd__IIIII_I rfl) rfl (by show 2 * 0 + _ ≤ _; exact Nat.le_of_eq rfl) (hb hby at_130) (fun _ _ => ⟨rfl, e7, (by decide : 1 + 0 ≤ _), (by decide : 5 + 0 ≤ _)⟩)
    dsimp only [Pt.U, Pt.locs, Pt.cells, Pt.slots] at X8 l8 y8 z8 st8 hQ8
    subst l8 y8 z8
    obtain ⟨rfl, N8q, e8⟩ := hQ8
    have N8 := Fr.app N7 N8q
    refine OG.of st8 ?_
    show OG _ _ _ _ _ _ _ (T8.setTop (mkF m 133 #[.val (.int p0), .val (.int p1), .val (.int p2), .val (.ref b1), .val (.int (0 : Int32)), .val (.int ((1 : Int32) + ((XT.ushr p2 (1 : Int32)) &&& (3 : Int32)))), .val (.int (own_seq ((p0.toInt8.toInt32).toInt8.toInt32) (((XT.ushr p0 (8 : Int32)).toInt8.toInt32).toInt8.toInt32) (((XT.ushr p0 (16 : Int32)).toInt8.toInt32).toInt8.toInt32) (((XT.ushr p0 (24 : Int32)).toInt8.toInt32).toInt8.toInt32) (((1 : Int32) + ((XT.ushr p2 (1 : Int32)) &&& (3 : Int32))) - (0 : Int32)))), .val (.int ((p0.toInt8.toInt32).toInt8.toInt32 &&& (255 : Int32))), .val (.int (((XT.ushr p0 (8 : Int32)).toInt8.toInt32).toInt8.toInt32 &&& (255 : Int32))), .val (.int (((XT.ushr p0 (16 : Int32)).toInt8.toInt32).toInt8.toInt32 &&& (255 : Int32))), .val (.int (((XT.ushr p0 (24 : Int32)).toInt8.toInt32).toInt8.toInt32 &&& (255 : Int32))), .val (.int (((1 : Int32) + ((XT.ushr p2 (1 : Int32)) &&& (3 : Int32))) - (0 : Int32)))] [(.int (own_exp ((p0.toInt8.toInt32).toInt8.toInt32 &&& (255 : Int32)) (((XT.ushr p0 (8 : Int32)).toInt8.toInt32).toInt8.toInt32 &&& (255 : Int32)) (((XT.ushr p0 (16 : Int32)).toInt8.toInt32).toInt8.toInt32 &&& (255 : Int32)) (((XT.ushr p0 (24 : Int32)).toInt8.toInt32).toInt8.toInt32 &&& (255 : Int32)) (((1 : Int32) + ((XT.ushr p2 (1 : Int32)) &&& (3 : Int32))) - (0 : Int32)))), (.int (own_seq ((p0.toInt8.toInt32).toInt8.toInt32) (((XT.ushr p0 (8 : Int32)).toInt8.toInt32).toInt8.toInt32) (((XT.ushr p0 (16 : Int32)).toInt8.toInt32).toInt8.toInt32) (((XT.ushr p0 (24 : Int32)).toInt8.toInt32).toInt8.toInt32) (((1 : Int32) + ((XT.ushr p2 (1 : Int32)) &&& (3 : Int32))) - (0 : Int32))))]))
    refine OG.of (A := T8.setTop (mkF m 141 #[.val (.int p0), .val (.int p1), .val (.int p2), .val (.ref b1), .val (.int (0 : Int32)), .val (.int ((1 : Int32) + ((XT.ushr p2 (1 : Int32)) &&& (3 : Int32)))), .val (.int (own_seq ((p0.toInt8.toInt32).toInt8.toInt32) (((XT.ushr p0 (8 : Int32)).toInt8.toInt32).toInt8.toInt32) (((XT.ushr p0 (16 : Int32)).toInt8.toInt32).toInt8.toInt32) (((XT.ushr p0 (24 : Int32)).toInt8.toInt32).toInt8.toInt32) (((1 : Int32) + ((XT.ushr p2 (1 : Int32)) &&& (3 : Int32))) - (0 : Int32)))), .val (.int ((p0.toInt8.toInt32).toInt8.toInt32 &&& (255 : Int32))), .val (.int (((XT.ushr p0 (8 : Int32)).toInt8.toInt32).toInt8.toInt32 &&& (255 : Int32))), .val (.int (((XT.ushr p0 (16 : Int32)).toInt8.toInt32).toInt8.toInt32 &&& (255 : Int32))), .val (.int (((XT.ushr p0 (24 : Int32)).toInt8.toInt32).toInt8.toInt32 &&& (255 : Int32))), .val (.int (((1 : Int32) + ((XT.ushr p2 (1 : Int32)) &&& (3 : Int32))) - (0 : Int32)))] [(.int (1 : Int32))])) (fun oT oK => ?_) ?_
    · show Steps p.tables e below (T8.setTop (mkF m 133 #[.val (.int p0), .val (.int p1), .val (.int p2), .val (.ref b1), .val (.int (0 : Int32)), .val (.int ((1 : Int32) + ((XT.ushr p2 (1 : Int32)) &&& (3 : Int32)))), .val (.int (own_seq ((p0.toInt8.toInt32).toInt8.toInt32) (((XT.ushr p0 (8 : Int32)).toInt8.toInt32).toInt8.toInt32) (((XT.ushr p0 (16 : Int32)).toInt8.toInt32).toInt8.toInt32) (((XT.ushr p0 (24 : Int32)).toInt8.toInt32).toInt8.toInt32) (((1 : Int32) + ((XT.ushr p2 (1 : Int32)) &&& (3 : Int32))) - (0 : Int32)))), .val (.int ((p0.toInt8.toInt32).toInt8.toInt32 &&& (255 : Int32))), .val (.int (((XT.ushr p0 (8 : Int32)).toInt8.toInt32).toInt8.toInt32 &&& (255 : Int32))), .val (.int (((XT.ushr p0 (16 : Int32)).toInt8.toInt32).toInt8.toInt32 &&& (255 : Int32))), .val (.int (((XT.ushr p0 (24 : Int32)).toInt8.toInt32).toInt8.toInt32 &&& (255 : Int32))), .val (.int (((1 : Int32) + ((XT.ushr p2 (1 : Int32)) &&& (3 : Int32))) - (0 : Int32)))] [(.int (own_exp ((p0.toInt8.toInt32).toInt8.toInt32 &&& (255 : Int32)) (((XT.ushr p0 (8 : Int32)).toInt8.toInt32).toInt8.toInt32 &&& (255 : Int32)) (((XT.ushr p0 (16 : Int32)).toInt8.toInt32).toInt8.toInt32 &&& (255 : Int32)) (((XT.ushr p0 (24 : Int32)).toInt8.toInt32).toInt8.toInt32 &&& (255 : Int32)) (((1 : Int32) + ((XT.ushr p2 (1 : Int32)) &&& (3 : Int32))) - (0 : Int32)))), (.int (own_seq ((p0.toInt8.toInt32).toInt8.toInt32) (((XT.ushr p0 (8 : Int32)).toInt8.toInt32).toInt8.toInt32) (((XT.ushr p0 (16 : Int32)).toInt8.toInt32).toInt8.toInt32) (((XT.ushr p0 (24 : Int32)).toInt8.toInt32).toInt8.toInt32) (((1 : Int32) + ((XT.ushr p2 (1 : Int32)) &&& (3 : Int32))) - (0 : Int32))))])) oT
      refine XS.icmpNo X8.here hx rfl (hb hby at_133) rfl (XT.ii_ne_f (own_law0 p0 p1 p2)) ?_
      show Steps p.tables e below (T8.setTop (mkF m 136 #[.val (.int p0), .val (.int p1), .val (.int p2), .val (.ref b1), .val (.int (0 : Int32)), .val (.int ((1 : Int32) + ((XT.ushr p2 (1 : Int32)) &&& (3 : Int32)))), .val (.int (own_seq ((p0.toInt8.toInt32).toInt8.toInt32) (((XT.ushr p0 (8 : Int32)).toInt8.toInt32).toInt8.toInt32) (((XT.ushr p0 (16 : Int32)).toInt8.toInt32).toInt8.toInt32) (((XT.ushr p0 (24 : Int32)).toInt8.toInt32).toInt8.toInt32) (((1 : Int32) + ((XT.ushr p2 (1 : Int32)) &&& (3 : Int32))) - (0 : Int32)))), .val (.int ((p0.toInt8.toInt32).toInt8.toInt32 &&& (255 : Int32))), .val (.int (((XT.ushr p0 (8 : Int32)).toInt8.toInt32).toInt8.toInt32 &&& (255 : Int32))), .val (.int (((XT.ushr p0 (16 : Int32)).toInt8.toInt32).toInt8.toInt32 &&& (255 : Int32))), .val (.int (((XT.ushr p0 (24 : Int32)).toInt8.toInt32).toInt8.toInt32 &&& (255 : Int32))), .val (.int (((1 : Int32) + ((XT.ushr p2 (1 : Int32)) &&& (3 : Int32))) - (0 : Int32)))] [])) _
      refine XS.iconst X8.here hx rfl (hb hby at_136) ?_
      show Steps p.tables e below (T8.setTop (mkF m 137 #[.val (.int p0), .val (.int p1), .val (.int p2), .val (.ref b1), .val (.int (0 : Int32)), .val (.int ((1 : Int32) + ((XT.ushr p2 (1 : Int32)) &&& (3 : Int32)))), .val (.int (own_seq ((p0.toInt8.toInt32).toInt8.toInt32) (((XT.ushr p0 (8 : Int32)).toInt8.toInt32).toInt8.toInt32) (((XT.ushr p0 (16 : Int32)).toInt8.toInt32).toInt8.toInt32) (((XT.ushr p0 (24 : Int32)).toInt8.toInt32).toInt8.toInt32) (((1 : Int32) + ((XT.ushr p2 (1 : Int32)) &&& (3 : Int32))) - (0 : Int32)))), .val (.int ((p0.toInt8.toInt32).toInt8.toInt32 &&& (255 : Int32))), .val (.int (((XT.ushr p0 (8 : Int32)).toInt8.toInt32).toInt8.toInt32 &&& (255 : Int32))), .val (.int (((XT.ushr p0 (16 : Int32)).toInt8.toInt32).toInt8.toInt32 &&& (255 : Int32))), .val (.int (((XT.ushr p0 (24 : Int32)).toInt8.toInt32).toInt8.toInt32 &&& (255 : Int32))), .val (.int (((1 : Int32) + ((XT.ushr p2 (1 : Int32)) &&& (3 : Int32))) - (0 : Int32)))] [(.int (1 : Int32))])) _
      refine XS.goto X8.here hx rfl (pc0 := 137) (pc' := 141) rfl (hb hby at_137) (by decide) (by decide) ?_
      exact oK
    show OG _ _ _ _ _ _ _ (T8.setTop (mkF m 141 #[.val (.int p0), .val (.int p1), .val (.int p2), .val (.ref b1), .val (.int (0 : Int32)), .val (.int ((1 : Int32) + ((XT.ushr p2 (1 : Int32)) &&& (3 : Int32)))), .val (.int (own_seq ((p0.toInt8.toInt32).toInt8.toInt32) (((XT.ushr p0 (8 : Int32)).toInt8.toInt32).toInt8.toInt32) (((XT.ushr p0 (16 : Int32)).toInt8.toInt32).toInt8.toInt32) (((XT.ushr p0 (24 : Int32)).toInt8.toInt32).toInt8.toInt32) (((1 : Int32) + ((XT.ushr p2 (1 : Int32)) &&& (3 : Int32))) - (0 : Int32)))), .val (.int ((p0.toInt8.toInt32).toInt8.toInt32 &&& (255 : Int32))), .val (.int (((XT.ushr p0 (8 : Int32)).toInt8.toInt32).toInt8.toInt32 &&& (255 : Int32))), .val (.int (((XT.ushr p0 (16 : Int32)).toInt8.toInt32).toInt8.toInt32 &&& (255 : Int32))), .val (.int (((XT.ushr p0 (24 : Int32)).toInt8.toInt32).toInt8.toInt32 &&& (255 : Int32))), .val (.int (((1 : Int32) + ((XT.ushr p2 (1 : Int32)) &&& (3 : Int32))) - (0 : Int32)))] [(.int (1 : Int32))]))
    refine OG.retN X8 hx (t := .boolean) Bd.returns (by simp) (hb hby at_141) hlk ?_ (by decide) (by decide)
    try rw [e8]
    exact ⟨rfl, N8⟩
  · rw [ha]
    show OG _ _ _ _ _ _ _ (T6.setTop (mkF m 43 #[.val (.int p0), .val (.int p1), .val (.int p2), .val (.ref b1), .val (.int (1 : Int32)), .unset, .unset, .unset, .unset, .unset, .unset, .unset] []))
    refine OG.of (A := T6.setTop (mkF m 60 #[.val (.int p0), .val (.int p1), .val (.int p2), .val (.ref b1), .val (.int (1 : Int32)), .val (.int ((2 : Int32) + ((XT.ushr p2 (1 : Int32)) &&& (3 : Int32)))), .unset, .unset, .unset, .unset, .unset, .unset] [(.int ((2 : Int32) + ((XT.ushr p2 (1 : Int32)) &&& (3 : Int32)))), (.int (1 : Int32)), (.ref b1)])) (fun oT oK => ?_) ?_
    · show Steps p.tables e below (T6.setTop (mkF m 43 #[.val (.int p0), .val (.int p1), .val (.int p2), .val (.ref b1), .val (.int (1 : Int32)), .unset, .unset, .unset, .unset, .unset, .unset, .unset] [])) oT
      refine XS.iload X6.here hx rfl (hb hby at_43) rfl  ?_
      show Steps p.tables e below (T6.setTop (mkF m 45 #[.val (.int p0), .val (.int p1), .val (.int p2), .val (.ref b1), .val (.int (1 : Int32)), .unset, .unset, .unset, .unset, .unset, .unset, .unset] [(.int (1 : Int32))])) _
      refine XS.iconst X6.here hx rfl (hb hby at_45) ?_
      show Steps p.tables e below (T6.setTop (mkF m 46 #[.val (.int p0), .val (.int p1), .val (.int p2), .val (.ref b1), .val (.int (1 : Int32)), .unset, .unset, .unset, .unset, .unset, .unset, .unset] [(.int (1 : Int32)), (.int (1 : Int32))])) _
      refine XS.iadd X6.here hx rfl (hb hby at_46) rfl ?_
      show Steps p.tables e below (T6.setTop (mkF m 47 #[.val (.int p0), .val (.int p1), .val (.int p2), .val (.ref b1), .val (.int (1 : Int32)), .unset, .unset, .unset, .unset, .unset, .unset, .unset] [(.int (2 : Int32))])) _
      refine XS.iloadN X6.here hx rfl (hb hby at_47) rfl  ?_
      show Steps p.tables e below (T6.setTop (mkF m 48 #[.val (.int p0), .val (.int p1), .val (.int p2), .val (.ref b1), .val (.int (1 : Int32)), .unset, .unset, .unset, .unset, .unset, .unset, .unset] [(.int p2), (.int (2 : Int32))])) _
      refine XS.iconst X6.here hx rfl (hb hby at_48) ?_
      show Steps p.tables e below (T6.setTop (mkF m 49 #[.val (.int p0), .val (.int p1), .val (.int p2), .val (.ref b1), .val (.int (1 : Int32)), .unset, .unset, .unset, .unset, .unset, .unset, .unset] [(.int (1 : Int32)), (.int p2), (.int (2 : Int32))])) _
      refine XT.iushr X6.here hx rfl (hb hby at_49) rfl ?_
      show Steps p.tables e below (T6.setTop (mkF m 50 #[.val (.int p0), .val (.int p1), .val (.int p2), .val (.ref b1), .val (.int (1 : Int32)), .unset, .unset, .unset, .unset, .unset, .unset, .unset] [(.int (XT.ushr p2 (1 : Int32))), (.int (2 : Int32))])) _
      refine XS.iconst X6.here hx rfl (hb hby at_50) ?_
      show Steps p.tables e below (T6.setTop (mkF m 51 #[.val (.int p0), .val (.int p1), .val (.int p2), .val (.ref b1), .val (.int (1 : Int32)), .unset, .unset, .unset, .unset, .unset, .unset, .unset] [(.int (3 : Int32)), (.int (XT.ushr p2 (1 : Int32))), (.int (2 : Int32))])) _
      refine XS.iand X6.here hx rfl (hb hby at_51) rfl ?_
      show Steps p.tables e below (T6.setTop (mkF m 52 #[.val (.int p0), .val (.int p1), .val (.int p2), .val (.ref b1), .val (.int (1 : Int32)), .unset, .unset, .unset, .unset, .unset, .unset, .unset] [(.int ((XT.ushr p2 (1 : Int32)) &&& (3 : Int32))), (.int (2 : Int32))])) _
      refine XS.iadd X6.here hx rfl (hb hby at_52) rfl ?_
      show Steps p.tables e below (T6.setTop (mkF m 53 #[.val (.int p0), .val (.int p1), .val (.int p2), .val (.ref b1), .val (.int (1 : Int32)), .unset, .unset, .unset, .unset, .unset, .unset, .unset] [(.int ((2 : Int32) + ((XT.ushr p2 (1 : Int32)) &&& (3 : Int32))))])) _
      refine XS.istore X6.here hx rfl (hb hby at_53) rfl (l' := #[.val (.int p0), .val (.int p1), .val (.int p2), .val (.ref b1), .val (.int (1 : Int32)), .val (.int ((2 : Int32) + ((XT.ushr p2 (1 : Int32)) &&& (3 : Int32)))), .unset, .unset, .unset, .unset, .unset, .unset]) rfl ?_
      show Steps p.tables e below (T6.setTop (mkF m 55 #[.val (.int p0), .val (.int p1), .val (.int p2), .val (.ref b1), .val (.int (1 : Int32)), .val (.int ((2 : Int32) + ((XT.ushr p2 (1 : Int32)) &&& (3 : Int32)))), .unset, .unset, .unset, .unset, .unset, .unset] [])) _
      refine XS.aloadN X6.here hx rfl (hb hby at_55) rfl rfl  ?_
      show Steps p.tables e below (T6.setTop (mkF m 56 #[.val (.int p0), .val (.int p1), .val (.int p2), .val (.ref b1), .val (.int (1 : Int32)), .val (.int ((2 : Int32) + ((XT.ushr p2 (1 : Int32)) &&& (3 : Int32)))), .unset, .unset, .unset, .unset, .unset, .unset] [(.ref b1)])) _
      refine XS.iload X6.here hx rfl (hb hby at_56) rfl  ?_
      show Steps p.tables e below (T6.setTop (mkF m 58 #[.val (.int p0), .val (.int p1), .val (.int p2), .val (.ref b1), .val (.int (1 : Int32)), .val (.int ((2 : Int32) + ((XT.ushr p2 (1 : Int32)) &&& (3 : Int32)))), .unset, .unset, .unset, .unset, .unset, .unset] [(.int (1 : Int32)), (.ref b1)])) _
      refine XS.iload X6.here hx rfl (hb hby at_58) rfl  ?_
      exact oK
    show OG _ _ _ _ _ _ _ (T6.setTop (mkF m 60 #[.val (.int p0), .val (.int p1), .val (.int p2), .val (.ref b1), .val (.int (1 : Int32)), .val (.int ((2 : Int32) + ((XT.ushr p2 (1 : Int32)) &&& (3 : Int32)))), .unset, .unset, .unset, .unset, .unset, .unset] [(.int ((2 : Int32) + ((XT.ushr p2 (1 : Int32)) &&& (3 : Int32)))), (.int (1 : Int32)), (.ref b1)]))
    obtain ⟨_, _, ⟨T9, L9, k9, n9⟩, -, X9, ⟨Lc9, hQ9, l9, y9, z9⟩, st9⟩ := Jvm.LawKit.callS X6 hx (y := (⟨"com/example/gate_to_gate/gatetogate/model/Utf8", "sequenceLength", "([BII)I"⟩ : MethodName)) hown (mvT hZ (hw _ (List.mem_of_getElem? (i := 1) rfl))) (mvT hZ (hw _ (List.mem_of_getElem? (i := 2) rfl))) (mvT hZ (hw _ (List.mem_of_getElem? (i := 3) rfl))) (mvT hZ (hw _ (List.mem_of_getElem? (i := 4) rfl))) (by decide) (backOf (W := 0) (rmS l Z a0 hw [] b1 (1 : Int32) ((2 : Int32) + ((XT.ushr p2 (1 : Int32)) &&& (3 : Int32))) (((XT.ushr p0 (8 : Int32)).toInt8.toInt32).toInt8.toInt32) (((XT.ushr p0 (16 : Int32)).toInt8.toInt32).toInt8.toInt32) (((XT.ushr p0 (24 : Int32)).toInt8.toInt32).toInt8.toInt32) ((p1.toInt8.toInt32).toInt8.toInt32) h6 n0 (Z6) (own_rd V6 ⟨by decide, by decide⟩ rfl) (own_rd V6 ⟨by decide, by decide⟩ rfl) (own_rd V6 ⟨by decide, by decide⟩ rfl) (own_rd V6 ⟨by decide, by decide⟩ rfl)) hZ (hw _ (List.mem_of_getElem? (i := 4) rfl)) (hw _ (List.mem_of_getElem? (i := 3) rfl)) (by decide) (by decide)) (g := (mkF m 60 #[.val (.int p0), .val (.int p1), .val (.int p2), .val (.ref b1), .val (.int (1 : Int32)), .val (.int ((2 : Int32) + ((XT.ushr p2 (1 : Int32)) &&& (3 : Int32)))), .unset, .unset, .unset, .unset, .unset, .unset] [(.int ((2 : Int32) + ((XT.ushr p2 (1 : Int32)) &&& (3 : Int32)))), (.int (1 : Int32)), (.ref b1)])) rfl (by rw [hml]; rfl) (argsL := [(.ref b1), (.int (1 : Int32)), (.int ((2 : Int32) + ((XT.ushr p2 (1 : Int32)) &&& (3 : Int32))))]) (rest := []) (lenOf pd___BII_I rfl) rfl (by show 2 * 0 + _ ≤ _; exact Nat.le_of_eq rfl) (hb hby at_60) (fun _ _ => ⟨rfl, e6, (by decide : 1 + 0 ≤ _), (by decide : 5 + 0 ≤ _)⟩)
    dsimp only [Pt.U, Pt.locs, Pt.cells, Pt.slots] at X9 l9 y9 z9 st9 hQ9
    subst l9 y9 z9
    obtain ⟨hv9, N9q, e9⟩ := hQ9
    obtain rfl := hv9.trans (show _ = some (.int (own_seq (((XT.ushr p0 (8 : Int32)).toInt8.toInt32).toInt8.toInt32) (((XT.ushr p0 (16 : Int32)).toInt8.toInt32).toInt8.toInt32) (((XT.ushr p0 (24 : Int32)).toInt8.toInt32).toInt8.toInt32) ((p1.toInt8.toInt32).toInt8.toInt32) (((2 : Int32) + ((XT.ushr p2 (1 : Int32)) &&& (3 : Int32))) - (1 : Int32)))) from rfl)
    have N9 := Fr.app N6 N9q
    refine OG.of st9 ?_
    show OG _ _ _ _ _ _ _ (T9.setTop (mkF m 63 #[.val (.int p0), .val (.int p1), .val (.int p2), .val (.ref b1), .val (.int (1 : Int32)), .val (.int ((2 : Int32) + ((XT.ushr p2 (1 : Int32)) &&& (3 : Int32)))), .unset, .unset, .unset, .unset, .unset, .unset] [(.int (own_seq (((XT.ushr p0 (8 : Int32)).toInt8.toInt32).toInt8.toInt32) (((XT.ushr p0 (16 : Int32)).toInt8.toInt32).toInt8.toInt32) (((XT.ushr p0 (24 : Int32)).toInt8.toInt32).toInt8.toInt32) ((p1.toInt8.toInt32).toInt8.toInt32) (((2 : Int32) + ((XT.ushr p2 (1 : Int32)) &&& (3 : Int32))) - (1 : Int32))))]))
    refine OG.of (A := T9.setTop (mkF m 68 #[.val (.int p0), .val (.int p1), .val (.int p2), .val (.ref b1), .val (.int (1 : Int32)), .val (.int ((2 : Int32) + ((XT.ushr p2 (1 : Int32)) &&& (3 : Int32)))), .val (.int (own_seq (((XT.ushr p0 (8 : Int32)).toInt8.toInt32).toInt8.toInt32) (((XT.ushr p0 (16 : Int32)).toInt8.toInt32).toInt8.toInt32) (((XT.ushr p0 (24 : Int32)).toInt8.toInt32).toInt8.toInt32) ((p1.toInt8.toInt32).toInt8.toInt32) (((2 : Int32) + ((XT.ushr p2 (1 : Int32)) &&& (3 : Int32))) - (1 : Int32)))), .unset, .unset, .unset, .unset, .unset] [(.int (1 : Int32)), (.ref b1)])) (fun oT oK => ?_) ?_
    · show Steps p.tables e below (T9.setTop (mkF m 63 #[.val (.int p0), .val (.int p1), .val (.int p2), .val (.ref b1), .val (.int (1 : Int32)), .val (.int ((2 : Int32) + ((XT.ushr p2 (1 : Int32)) &&& (3 : Int32)))), .unset, .unset, .unset, .unset, .unset, .unset] [(.int (own_seq (((XT.ushr p0 (8 : Int32)).toInt8.toInt32).toInt8.toInt32) (((XT.ushr p0 (16 : Int32)).toInt8.toInt32).toInt8.toInt32) (((XT.ushr p0 (24 : Int32)).toInt8.toInt32).toInt8.toInt32) ((p1.toInt8.toInt32).toInt8.toInt32) (((2 : Int32) + ((XT.ushr p2 (1 : Int32)) &&& (3 : Int32))) - (1 : Int32))))])) oT
      refine XS.istore X9.here hx rfl (hb hby at_63) rfl (l' := #[.val (.int p0), .val (.int p1), .val (.int p2), .val (.ref b1), .val (.int (1 : Int32)), .val (.int ((2 : Int32) + ((XT.ushr p2 (1 : Int32)) &&& (3 : Int32)))), .val (.int (own_seq (((XT.ushr p0 (8 : Int32)).toInt8.toInt32).toInt8.toInt32) (((XT.ushr p0 (16 : Int32)).toInt8.toInt32).toInt8.toInt32) (((XT.ushr p0 (24 : Int32)).toInt8.toInt32).toInt8.toInt32) ((p1.toInt8.toInt32).toInt8.toInt32) (((2 : Int32) + ((XT.ushr p2 (1 : Int32)) &&& (3 : Int32))) - (1 : Int32)))), .unset, .unset, .unset, .unset, .unset]) rfl ?_
      show Steps p.tables e below (T9.setTop (mkF m 65 #[.val (.int p0), .val (.int p1), .val (.int p2), .val (.ref b1), .val (.int (1 : Int32)), .val (.int ((2 : Int32) + ((XT.ushr p2 (1 : Int32)) &&& (3 : Int32)))), .val (.int (own_seq (((XT.ushr p0 (8 : Int32)).toInt8.toInt32).toInt8.toInt32) (((XT.ushr p0 (16 : Int32)).toInt8.toInt32).toInt8.toInt32) (((XT.ushr p0 (24 : Int32)).toInt8.toInt32).toInt8.toInt32) ((p1.toInt8.toInt32).toInt8.toInt32) (((2 : Int32) + ((XT.ushr p2 (1 : Int32)) &&& (3 : Int32))) - (1 : Int32)))), .unset, .unset, .unset, .unset, .unset] [])) _
      refine XS.aloadN X9.here hx rfl (hb hby at_65) rfl rfl  ?_
      show Steps p.tables e below (T9.setTop (mkF m 66 #[.val (.int p0), .val (.int p1), .val (.int p2), .val (.ref b1), .val (.int (1 : Int32)), .val (.int ((2 : Int32) + ((XT.ushr p2 (1 : Int32)) &&& (3 : Int32)))), .val (.int (own_seq (((XT.ushr p0 (8 : Int32)).toInt8.toInt32).toInt8.toInt32) (((XT.ushr p0 (16 : Int32)).toInt8.toInt32).toInt8.toInt32) (((XT.ushr p0 (24 : Int32)).toInt8.toInt32).toInt8.toInt32) ((p1.toInt8.toInt32).toInt8.toInt32) (((2 : Int32) + ((XT.ushr p2 (1 : Int32)) &&& (3 : Int32))) - (1 : Int32)))), .unset, .unset, .unset, .unset, .unset] [(.ref b1)])) _
      refine XS.iload X9.here hx rfl (hb hby at_66) rfl  ?_
      exact oK
    show OG _ _ _ _ _ _ _ (T9.setTop (mkF m 68 #[.val (.int p0), .val (.int p1), .val (.int p2), .val (.ref b1), .val (.int (1 : Int32)), .val (.int ((2 : Int32) + ((XT.ushr p2 (1 : Int32)) &&& (3 : Int32)))), .val (.int (own_seq (((XT.ushr p0 (8 : Int32)).toInt8.toInt32).toInt8.toInt32) (((XT.ushr p0 (16 : Int32)).toInt8.toInt32).toInt8.toInt32) (((XT.ushr p0 (24 : Int32)).toInt8.toInt32).toInt8.toInt32) ((p1.toInt8.toInt32).toInt8.toInt32) (((2 : Int32) + ((XT.ushr p2 (1 : Int32)) &&& (3 : Int32))) - (1 : Int32)))), .unset, .unset, .unset, .unset, .unset] [(.int (1 : Int32)), (.ref b1)]))
    have cf15 := V6
    obtain ⟨clf15, Arf15, qf15, Sf15, Mf15, Hf15, Gf15⟩ := cf15
    refine OG.of (X9.baloadBytes hx (j := (1 : Int32)) (v := (.int ((XT.ushr p0 (8 : Int32)).toInt8.toInt32).toInt8.toInt32)) (by rw [e9]; exact Arf15.1) (State.isArrayOf_alike hZ.alike Arf15.2.1) Arf15.2.2 (inb_of Sf15 ⟨by decide, by decide⟩) (Hf15.at (inb_of Sf15 ⟨by decide, by decide⟩) rfl) (g := (mkF m 68 #[.val (.int p0), .val (.int p1), .val (.int p2), .val (.ref b1), .val (.int (1 : Int32)), .val (.int ((2 : Int32) + ((XT.ushr p2 (1 : Int32)) &&& (3 : Int32)))), .val (.int (own_seq (((XT.ushr p0 (8 : Int32)).toInt8.toInt32).toInt8.toInt32) (((XT.ushr p0 (16 : Int32)).toInt8.toInt32).toInt8.toInt32) (((XT.ushr p0 (24 : Int32)).toInt8.toInt32).toInt8.toInt32) ((p1.toInt8.toInt32).toInt8.toInt32) (((2 : Int32) + ((XT.ushr p2 (1 : Int32)) &&& (3 : Int32))) - (1 : Int32)))), .unset, .unset, .unset, .unset, .unset] [(.int (1 : Int32)), (.ref b1)])) rfl rfl (hb hby at_68)) ?_
    show OG _ _ _ _ _ _ _ (T9.setTop (mkF m 69 #[.val (.int p0), .val (.int p1), .val (.int p2), .val (.ref b1), .val (.int (1 : Int32)), .val (.int ((2 : Int32) + ((XT.ushr p2 (1 : Int32)) &&& (3 : Int32)))), .val (.int (own_seq (((XT.ushr p0 (8 : Int32)).toInt8.toInt32).toInt8.toInt32) (((XT.ushr p0 (16 : Int32)).toInt8.toInt32).toInt8.toInt32) (((XT.ushr p0 (24 : Int32)).toInt8.toInt32).toInt8.toInt32) ((p1.toInt8.toInt32).toInt8.toInt32) (((2 : Int32) + ((XT.ushr p2 (1 : Int32)) &&& (3 : Int32))) - (1 : Int32)))), .unset, .unset, .unset, .unset, .unset] [(.int ((XT.ushr p0 (8 : Int32)).toInt8.toInt32).toInt8.toInt32)]))
    refine OG.of (A := T9.setTop (mkF m 80 #[.val (.int p0), .val (.int p1), .val (.int p2), .val (.ref b1), .val (.int (1 : Int32)), .val (.int ((2 : Int32) + ((XT.ushr p2 (1 : Int32)) &&& (3 : Int32)))), .val (.int (own_seq (((XT.ushr p0 (8 : Int32)).toInt8.toInt32).toInt8.toInt32) (((XT.ushr p0 (16 : Int32)).toInt8.toInt32).toInt8.toInt32) (((XT.ushr p0 (24 : Int32)).toInt8.toInt32).toInt8.toInt32) ((p1.toInt8.toInt32).toInt8.toInt32) (((2 : Int32) + ((XT.ushr p2 (1 : Int32)) &&& (3 : Int32))) - (1 : Int32)))), .val (.int (((XT.ushr p0 (8 : Int32)).toInt8.toInt32).toInt8.toInt32 &&& (255 : Int32))), .unset, .unset, .unset, .unset] [(.int (2 : Int32)), (.ref b1)])) (fun oT oK => ?_) ?_
    · show Steps p.tables e below (T9.setTop (mkF m 69 #[.val (.int p0), .val (.int p1), .val (.int p2), .val (.ref b1), .val (.int (1 : Int32)), .val (.int ((2 : Int32) + ((XT.ushr p2 (1 : Int32)) &&& (3 : Int32)))), .val (.int (own_seq (((XT.ushr p0 (8 : Int32)).toInt8.toInt32).toInt8.toInt32) (((XT.ushr p0 (16 : Int32)).toInt8.toInt32).toInt8.toInt32) (((XT.ushr p0 (24 : Int32)).toInt8.toInt32).toInt8.toInt32) ((p1.toInt8.toInt32).toInt8.toInt32) (((2 : Int32) + ((XT.ushr p2 (1 : Int32)) &&& (3 : Int32))) - (1 : Int32)))), .unset, .unset, .unset, .unset, .unset] [(.int ((XT.ushr p0 (8 : Int32)).toInt8.toInt32).toInt8.toInt32)])) oT
      refine XS.sipush X9.here hx rfl (hb hby at_69) ?_
      show Steps p.tables e below (T9.setTop (mkF m 72 #[.val (.int p0), .val (.int p1), .val (.int p2), .val (.ref b1), .val (.int (1 : Int32)), .val (.int ((2 : Int32) + ((XT.ushr p2 (1 : Int32)) &&& (3 : Int32)))), .val (.int (own_seq (((XT.ushr p0 (8 : Int32)).toInt8.toInt32).toInt8.toInt32) (((XT.ushr p0 (16 : Int32)).toInt8.toInt32).toInt8.toInt32) (((XT.ushr p0 (24 : Int32)).toInt8.toInt32).toInt8.toInt32) ((p1.toInt8.toInt32).toInt8.toInt32) (((2 : Int32) + ((XT.ushr p2 (1 : Int32)) &&& (3 : Int32))) - (1 : Int32)))), .unset, .unset, .unset, .unset, .unset] [(.int (255 : Int32)), (.int ((XT.ushr p0 (8 : Int32)).toInt8.toInt32).toInt8.toInt32)])) _
      refine XS.iand X9.here hx rfl (hb hby at_72) rfl ?_
      show Steps p.tables e below (T9.setTop (mkF m 73 #[.val (.int p0), .val (.int p1), .val (.int p2), .val (.ref b1), .val (.int (1 : Int32)), .val (.int ((2 : Int32) + ((XT.ushr p2 (1 : Int32)) &&& (3 : Int32)))), .val (.int (own_seq (((XT.ushr p0 (8 : Int32)).toInt8.toInt32).toInt8.toInt32) (((XT.ushr p0 (16 : Int32)).toInt8.toInt32).toInt8.toInt32) (((XT.ushr p0 (24 : Int32)).toInt8.toInt32).toInt8.toInt32) ((p1.toInt8.toInt32).toInt8.toInt32) (((2 : Int32) + ((XT.ushr p2 (1 : Int32)) &&& (3 : Int32))) - (1 : Int32)))), .unset, .unset, .unset, .unset, .unset] [(.int (((XT.ushr p0 (8 : Int32)).toInt8.toInt32).toInt8.toInt32 &&& (255 : Int32)))])) _
      refine XS.istore X9.here hx rfl (hb hby at_73) rfl (l' := #[.val (.int p0), .val (.int p1), .val (.int p2), .val (.ref b1), .val (.int (1 : Int32)), .val (.int ((2 : Int32) + ((XT.ushr p2 (1 : Int32)) &&& (3 : Int32)))), .val (.int (own_seq (((XT.ushr p0 (8 : Int32)).toInt8.toInt32).toInt8.toInt32) (((XT.ushr p0 (16 : Int32)).toInt8.toInt32).toInt8.toInt32) (((XT.ushr p0 (24 : Int32)).toInt8.toInt32).toInt8.toInt32) ((p1.toInt8.toInt32).toInt8.toInt32) (((2 : Int32) + ((XT.ushr p2 (1 : Int32)) &&& (3 : Int32))) - (1 : Int32)))), .val (.int (((XT.ushr p0 (8 : Int32)).toInt8.toInt32).toInt8.toInt32 &&& (255 : Int32))), .unset, .unset, .unset, .unset]) rfl ?_
      show Steps p.tables e below (T9.setTop (mkF m 75 #[.val (.int p0), .val (.int p1), .val (.int p2), .val (.ref b1), .val (.int (1 : Int32)), .val (.int ((2 : Int32) + ((XT.ushr p2 (1 : Int32)) &&& (3 : Int32)))), .val (.int (own_seq (((XT.ushr p0 (8 : Int32)).toInt8.toInt32).toInt8.toInt32) (((XT.ushr p0 (16 : Int32)).toInt8.toInt32).toInt8.toInt32) (((XT.ushr p0 (24 : Int32)).toInt8.toInt32).toInt8.toInt32) ((p1.toInt8.toInt32).toInt8.toInt32) (((2 : Int32) + ((XT.ushr p2 (1 : Int32)) &&& (3 : Int32))) - (1 : Int32)))), .val (.int (((XT.ushr p0 (8 : Int32)).toInt8.toInt32).toInt8.toInt32 &&& (255 : Int32))), .unset, .unset, .unset, .unset] [])) _
      refine XS.aloadN X9.here hx rfl (hb hby at_75) rfl rfl  ?_
      show Steps p.tables e below (T9.setTop (mkF m 76 #[.val (.int p0), .val (.int p1), .val (.int p2), .val (.ref b1), .val (.int (1 : Int32)), .val (.int ((2 : Int32) + ((XT.ushr p2 (1 : Int32)) &&& (3 : Int32)))), .val (.int (own_seq (((XT.ushr p0 (8 : Int32)).toInt8.toInt32).toInt8.toInt32) (((XT.ushr p0 (16 : Int32)).toInt8.toInt32).toInt8.toInt32) (((XT.ushr p0 (24 : Int32)).toInt8.toInt32).toInt8.toInt32) ((p1.toInt8.toInt32).toInt8.toInt32) (((2 : Int32) + ((XT.ushr p2 (1 : Int32)) &&& (3 : Int32))) - (1 : Int32)))), .val (.int (((XT.ushr p0 (8 : Int32)).toInt8.toInt32).toInt8.toInt32 &&& (255 : Int32))), .unset, .unset, .unset, .unset] [(.ref b1)])) _
      refine XS.iload X9.here hx rfl (hb hby at_76) rfl  ?_
      show Steps p.tables e below (T9.setTop (mkF m 78 #[.val (.int p0), .val (.int p1), .val (.int p2), .val (.ref b1), .val (.int (1 : Int32)), .val (.int ((2 : Int32) + ((XT.ushr p2 (1 : Int32)) &&& (3 : Int32)))), .val (.int (own_seq (((XT.ushr p0 (8 : Int32)).toInt8.toInt32).toInt8.toInt32) (((XT.ushr p0 (16 : Int32)).toInt8.toInt32).toInt8.toInt32) (((XT.ushr p0 (24 : Int32)).toInt8.toInt32).toInt8.toInt32) ((p1.toInt8.toInt32).toInt8.toInt32) (((2 : Int32) + ((XT.ushr p2 (1 : Int32)) &&& (3 : Int32))) - (1 : Int32)))), .val (.int (((XT.ushr p0 (8 : Int32)).toInt8.toInt32).toInt8.toInt32 &&& (255 : Int32))), .unset, .unset, .unset, .unset] [(.int (1 : Int32)), (.ref b1)])) _
      refine XS.iconst X9.here hx rfl (hb hby at_78) ?_
      show Steps p.tables e below (T9.setTop (mkF m 79 #[.val (.int p0), .val (.int p1), .val (.int p2), .val (.ref b1), .val (.int (1 : Int32)), .val (.int ((2 : Int32) + ((XT.ushr p2 (1 : Int32)) &&& (3 : Int32)))), .val (.int (own_seq (((XT.ushr p0 (8 : Int32)).toInt8.toInt32).toInt8.toInt32) (((XT.ushr p0 (16 : Int32)).toInt8.toInt32).toInt8.toInt32) (((XT.ushr p0 (24 : Int32)).toInt8.toInt32).toInt8.toInt32) ((p1.toInt8.toInt32).toInt8.toInt32) (((2 : Int32) + ((XT.ushr p2 (1 : Int32)) &&& (3 : Int32))) - (1 : Int32)))), .val (.int (((XT.ushr p0 (8 : Int32)).toInt8.toInt32).toInt8.toInt32 &&& (255 : Int32))), .unset, .unset, .unset, .unset] [(.int (1 : Int32)), (.int (1 : Int32)), (.ref b1)])) _
      refine XS.iadd X9.here hx rfl (hb hby at_79) rfl ?_
      exact oK
    show OG _ _ _ _ _ _ _ (T9.setTop (mkF m 80 #[.val (.int p0), .val (.int p1), .val (.int p2), .val (.ref b1), .val (.int (1 : Int32)), .val (.int ((2 : Int32) + ((XT.ushr p2 (1 : Int32)) &&& (3 : Int32)))), .val (.int (own_seq (((XT.ushr p0 (8 : Int32)).toInt8.toInt32).toInt8.toInt32) (((XT.ushr p0 (16 : Int32)).toInt8.toInt32).toInt8.toInt32) (((XT.ushr p0 (24 : Int32)).toInt8.toInt32).toInt8.toInt32) ((p1.toInt8.toInt32).toInt8.toInt32) (((2 : Int32) + ((XT.ushr p2 (1 : Int32)) &&& (3 : Int32))) - (1 : Int32)))), .val (.int (((XT.ushr p0 (8 : Int32)).toInt8.toInt32).toInt8.toInt32 &&& (255 : Int32))), .unset, .unset, .unset, .unset] [(.int (2 : Int32)), (.ref b1)]))
    have cf16 := V6
    obtain ⟨clf16, Arf16, qf16, Sf16, Mf16, Hf16, Gf16⟩ := cf16
    refine OG.of (X9.baloadBytes hx (j := (2 : Int32)) (v := (.int ((XT.ushr p0 (16 : Int32)).toInt8.toInt32).toInt8.toInt32)) (by rw [e9]; exact Arf16.1) (State.isArrayOf_alike hZ.alike Arf16.2.1) Arf16.2.2 (inb_of Sf16 ⟨by decide, by decide⟩) (Hf16.at (inb_of Sf16 ⟨by decide, by decide⟩) rfl) (g := (mkF m 80 #[.val (.int p0), .val (.int p1), .val (.int p2), .val (.ref b1), .val (.int (1 : Int32)), .val (.int ((2 : Int32) + ((XT.ushr p2 (1 : Int32)) &&& (3 : Int32)))), .val (.int (own_seq (((XT.ushr p0 (8 : Int32)).toInt8.toInt32).toInt8.toInt32) (((XT.ushr p0 (16 : Int32)).toInt8.toInt32).toInt8.toInt32) (((XT.ushr p0 (24 : Int32)).toInt8.toInt32).toInt8.toInt32) ((p1.toInt8.toInt32).toInt8.toInt32) (((2 : Int32) + ((XT.ushr p2 (1 : Int32)) &&& (3 : Int32))) - (1 : Int32)))), .val (.int (((XT.ushr p0 (8 : Int32)).toInt8.toInt32).toInt8.toInt32 &&& (255 : Int32))), .unset, .unset, .unset, .unset] [(.int (2 : Int32)), (.ref b1)])) rfl rfl (hb hby at_80)) ?_
    show OG _ _ _ _ _ _ _ (T9.setTop (mkF m 81 #[.val (.int p0), .val (.int p1), .val (.int p2), .val (.ref b1), .val (.int (1 : Int32)), .val (.int ((2 : Int32) + ((XT.ushr p2 (1 : Int32)) &&& (3 : Int32)))), .val (.int (own_seq (((XT.ushr p0 (8 : Int32)).toInt8.toInt32).toInt8.toInt32) (((XT.ushr p0 (16 : Int32)).toInt8.toInt32).toInt8.toInt32) (((XT.ushr p0 (24 : Int32)).toInt8.toInt32).toInt8.toInt32) ((p1.toInt8.toInt32).toInt8.toInt32) (((2 : Int32) + ((XT.ushr p2 (1 : Int32)) &&& (3 : Int32))) - (1 : Int32)))), .val (.int (((XT.ushr p0 (8 : Int32)).toInt8.toInt32).toInt8.toInt32 &&& (255 : Int32))), .unset, .unset, .unset, .unset] [(.int ((XT.ushr p0 (16 : Int32)).toInt8.toInt32).toInt8.toInt32)]))
    refine OG.of (A := T9.setTop (mkF m 92 #[.val (.int p0), .val (.int p1), .val (.int p2), .val (.ref b1), .val (.int (1 : Int32)), .val (.int ((2 : Int32) + ((XT.ushr p2 (1 : Int32)) &&& (3 : Int32)))), .val (.int (own_seq (((XT.ushr p0 (8 : Int32)).toInt8.toInt32).toInt8.toInt32) (((XT.ushr p0 (16 : Int32)).toInt8.toInt32).toInt8.toInt32) (((XT.ushr p0 (24 : Int32)).toInt8.toInt32).toInt8.toInt32) ((p1.toInt8.toInt32).toInt8.toInt32) (((2 : Int32) + ((XT.ushr p2 (1 : Int32)) &&& (3 : Int32))) - (1 : Int32)))), .val (.int (((XT.ushr p0 (8 : Int32)).toInt8.toInt32).toInt8.toInt32 &&& (255 : Int32))), .val (.int (((XT.ushr p0 (16 : Int32)).toInt8.toInt32).toInt8.toInt32 &&& (255 : Int32))), .unset, .unset, .unset] [(.int (3 : Int32)), (.ref b1)])) (fun oT oK => ?_) ?_
    · show Steps p.tables e below (T9.setTop (mkF m 81 #[.val (.int p0), .val (.int p1), .val (.int p2), .val (.ref b1), .val (.int (1 : Int32)), .val (.int ((2 : Int32) + ((XT.ushr p2 (1 : Int32)) &&& (3 : Int32)))), .val (.int (own_seq (((XT.ushr p0 (8 : Int32)).toInt8.toInt32).toInt8.toInt32) (((XT.ushr p0 (16 : Int32)).toInt8.toInt32).toInt8.toInt32) (((XT.ushr p0 (24 : Int32)).toInt8.toInt32).toInt8.toInt32) ((p1.toInt8.toInt32).toInt8.toInt32) (((2 : Int32) + ((XT.ushr p2 (1 : Int32)) &&& (3 : Int32))) - (1 : Int32)))), .val (.int (((XT.ushr p0 (8 : Int32)).toInt8.toInt32).toInt8.toInt32 &&& (255 : Int32))), .unset, .unset, .unset, .unset] [(.int ((XT.ushr p0 (16 : Int32)).toInt8.toInt32).toInt8.toInt32)])) oT
      refine XS.sipush X9.here hx rfl (hb hby at_81) ?_
      show Steps p.tables e below (T9.setTop (mkF m 84 #[.val (.int p0), .val (.int p1), .val (.int p2), .val (.ref b1), .val (.int (1 : Int32)), .val (.int ((2 : Int32) + ((XT.ushr p2 (1 : Int32)) &&& (3 : Int32)))), .val (.int (own_seq (((XT.ushr p0 (8 : Int32)).toInt8.toInt32).toInt8.toInt32) (((XT.ushr p0 (16 : Int32)).toInt8.toInt32).toInt8.toInt32) (((XT.ushr p0 (24 : Int32)).toInt8.toInt32).toInt8.toInt32) ((p1.toInt8.toInt32).toInt8.toInt32) (((2 : Int32) + ((XT.ushr p2 (1 : Int32)) &&& (3 : Int32))) - (1 : Int32)))), .val (.int (((XT.ushr p0 (8 : Int32)).toInt8.toInt32).toInt8.toInt32 &&& (255 : Int32))), .unset, .unset, .unset, .unset] [(.int (255 : Int32)), (.int ((XT.ushr p0 (16 : Int32)).toInt8.toInt32).toInt8.toInt32)])) _
      refine XS.iand X9.here hx rfl (hb hby at_84) rfl ?_
      show Steps p.tables e below (T9.setTop (mkF m 85 #[.val (.int p0), .val (.int p1), .val (.int p2), .val (.ref b1), .val (.int (1 : Int32)), .val (.int ((2 : Int32) + ((XT.ushr p2 (1 : Int32)) &&& (3 : Int32)))), .val (.int (own_seq (((XT.ushr p0 (8 : Int32)).toInt8.toInt32).toInt8.toInt32) (((XT.ushr p0 (16 : Int32)).toInt8.toInt32).toInt8.toInt32) (((XT.ushr p0 (24 : Int32)).toInt8.toInt32).toInt8.toInt32) ((p1.toInt8.toInt32).toInt8.toInt32) (((2 : Int32) + ((XT.ushr p2 (1 : Int32)) &&& (3 : Int32))) - (1 : Int32)))), .val (.int (((XT.ushr p0 (8 : Int32)).toInt8.toInt32).toInt8.toInt32 &&& (255 : Int32))), .unset, .unset, .unset, .unset] [(.int (((XT.ushr p0 (16 : Int32)).toInt8.toInt32).toInt8.toInt32 &&& (255 : Int32)))])) _
      refine XS.istore X9.here hx rfl (hb hby at_85) rfl (l' := #[.val (.int p0), .val (.int p1), .val (.int p2), .val (.ref b1), .val (.int (1 : Int32)), .val (.int ((2 : Int32) + ((XT.ushr p2 (1 : Int32)) &&& (3 : Int32)))), .val (.int (own_seq (((XT.ushr p0 (8 : Int32)).toInt8.toInt32).toInt8.toInt32) (((XT.ushr p0 (16 : Int32)).toInt8.toInt32).toInt8.toInt32) (((XT.ushr p0 (24 : Int32)).toInt8.toInt32).toInt8.toInt32) ((p1.toInt8.toInt32).toInt8.toInt32) (((2 : Int32) + ((XT.ushr p2 (1 : Int32)) &&& (3 : Int32))) - (1 : Int32)))), .val (.int (((XT.ushr p0 (8 : Int32)).toInt8.toInt32).toInt8.toInt32 &&& (255 : Int32))), .val (.int (((XT.ushr p0 (16 : Int32)).toInt8.toInt32).toInt8.toInt32 &&& (255 : Int32))), .unset, .unset, .unset]) rfl ?_
      show Steps p.tables e below (T9.setTop (mkF m 87 #[.val (.int p0), .val (.int p1), .val (.int p2), .val (.ref b1), .val (.int (1 : Int32)), .val (.int ((2 : Int32) + ((XT.ushr p2 (1 : Int32)) &&& (3 : Int32)))), .val (.int (own_seq (((XT.ushr p0 (8 : Int32)).toInt8.toInt32).toInt8.toInt32) (((XT.ushr p0 (16 : Int32)).toInt8.toInt32).toInt8.toInt32) (((XT.ushr p0 (24 : Int32)).toInt8.toInt32).toInt8.toInt32) ((p1.toInt8.toInt32).toInt8.toInt32) (((2 : Int32) + ((XT.ushr p2 (1 : Int32)) &&& (3 : Int32))) - (1 : Int32)))), .val (.int (((XT.ushr p0 (8 : Int32)).toInt8.toInt32).toInt8.toInt32 &&& (255 : Int32))), .val (.int (((XT.ushr p0 (16 : Int32)).toInt8.toInt32).toInt8.toInt32 &&& (255 : Int32))), .unset, .unset, .unset] [])) _
      refine XS.aloadN X9.here hx rfl (hb hby at_87) rfl rfl  ?_
      show Steps p.tables e below (T9.setTop (mkF m 88 #[.val (.int p0), .val (.int p1), .val (.int p2), .val (.ref b1), .val (.int (1 : Int32)), .val (.int ((2 : Int32) + ((XT.ushr p2 (1 : Int32)) &&& (3 : Int32)))), .val (.int (own_seq (((XT.ushr p0 (8 : Int32)).toInt8.toInt32).toInt8.toInt32) (((XT.ushr p0 (16 : Int32)).toInt8.toInt32).toInt8.toInt32) (((XT.ushr p0 (24 : Int32)).toInt8.toInt32).toInt8.toInt32) ((p1.toInt8.toInt32).toInt8.toInt32) (((2 : Int32) + ((XT.ushr p2 (1 : Int32)) &&& (3 : Int32))) - (1 : Int32)))), .val (.int (((XT.ushr p0 (8 : Int32)).toInt8.toInt32).toInt8.toInt32 &&& (255 : Int32))), .val (.int (((XT.ushr p0 (16 : Int32)).toInt8.toInt32).toInt8.toInt32 &&& (255 : Int32))), .unset, .unset, .unset] [(.ref b1)])) _
      refine XS.iload X9.here hx rfl (hb hby at_88) rfl  ?_
      show Steps p.tables e below (T9.setTop (mkF m 90 #[.val (.int p0), .val (.int p1), .val (.int p2), .val (.ref b1), .val (.int (1 : Int32)), .val (.int ((2 : Int32) + ((XT.ushr p2 (1 : Int32)) &&& (3 : Int32)))), .val (.int (own_seq (((XT.ushr p0 (8 : Int32)).toInt8.toInt32).toInt8.toInt32) (((XT.ushr p0 (16 : Int32)).toInt8.toInt32).toInt8.toInt32) (((XT.ushr p0 (24 : Int32)).toInt8.toInt32).toInt8.toInt32) ((p1.toInt8.toInt32).toInt8.toInt32) (((2 : Int32) + ((XT.ushr p2 (1 : Int32)) &&& (3 : Int32))) - (1 : Int32)))), .val (.int (((XT.ushr p0 (8 : Int32)).toInt8.toInt32).toInt8.toInt32 &&& (255 : Int32))), .val (.int (((XT.ushr p0 (16 : Int32)).toInt8.toInt32).toInt8.toInt32 &&& (255 : Int32))), .unset, .unset, .unset] [(.int (1 : Int32)), (.ref b1)])) _
      refine XS.iconst X9.here hx rfl (hb hby at_90) ?_
      show Steps p.tables e below (T9.setTop (mkF m 91 #[.val (.int p0), .val (.int p1), .val (.int p2), .val (.ref b1), .val (.int (1 : Int32)), .val (.int ((2 : Int32) + ((XT.ushr p2 (1 : Int32)) &&& (3 : Int32)))), .val (.int (own_seq (((XT.ushr p0 (8 : Int32)).toInt8.toInt32).toInt8.toInt32) (((XT.ushr p0 (16 : Int32)).toInt8.toInt32).toInt8.toInt32) (((XT.ushr p0 (24 : Int32)).toInt8.toInt32).toInt8.toInt32) ((p1.toInt8.toInt32).toInt8.toInt32) (((2 : Int32) + ((XT.ushr p2 (1 : Int32)) &&& (3 : Int32))) - (1 : Int32)))), .val (.int (((XT.ushr p0 (8 : Int32)).toInt8.toInt32).toInt8.toInt32 &&& (255 : Int32))), .val (.int (((XT.ushr p0 (16 : Int32)).toInt8.toInt32).toInt8.toInt32 &&& (255 : Int32))), .unset, .unset, .unset] [(.int (2 : Int32)), (.int (1 : Int32)), (.ref b1)])) _
      refine XS.iadd X9.here hx rfl (hb hby at_91) rfl ?_
      exact oK
    show OG _ _ _ _ _ _ _ (T9.setTop (mkF m 92 #[.val (.int p0), .val (.int p1), .val (.int p2), .val (.ref b1), .val (.int (1 : Int32)), .val (.int ((2 : Int32) + ((XT.ushr p2 (1 : Int32)) &&& (3 : Int32)))), .val (.int (own_seq (((XT.ushr p0 (8 : Int32)).toInt8.toInt32).toInt8.toInt32) (((XT.ushr p0 (16 : Int32)).toInt8.toInt32).toInt8.toInt32) (((XT.ushr p0 (24 : Int32)).toInt8.toInt32).toInt8.toInt32) ((p1.toInt8.toInt32).toInt8.toInt32) (((2 : Int32) + ((XT.ushr p2 (1 : Int32)) &&& (3 : Int32))) - (1 : Int32)))), .val (.int (((XT.ushr p0 (8 : Int32)).toInt8.toInt32).toInt8.toInt32 &&& (255 : Int32))), .val (.int (((XT.ushr p0 (16 : Int32)).toInt8.toInt32).toInt8.toInt32 &&& (255 : Int32))), .unset, .unset, .unset] [(.int (3 : Int32)), (.ref b1)]))
    have cf17 := V6
    obtain ⟨clf17, Arf17, qf17, Sf17, Mf17, Hf17, Gf17⟩ := cf17
    refine OG.of (X9.baloadBytes hx (j := (3 : Int32)) (v := (.int ((XT.ushr p0 (24 : Int32)).toInt8.toInt32).toInt8.toInt32)) (by rw [e9]; exact Arf17.1) (State.isArrayOf_alike hZ.alike Arf17.2.1) Arf17.2.2 (inb_of Sf17 ⟨by decide, by decide⟩) (Hf17.at (inb_of Sf17 ⟨by decide, by decide⟩) rfl) (g := (mkF m 92 #[.val (.int p0), .val (.int p1), .val (.int p2), .val (.ref b1), .val (.int (1 : Int32)), .val (.int ((2 : Int32) + ((XT.ushr p2 (1 : Int32)) &&& (3 : Int32)))), .val (.int (own_seq (((XT.ushr p0 (8 : Int32)).toInt8.toInt32).toInt8.toInt32) (((XT.ushr p0 (16 : Int32)).toInt8.toInt32).toInt8.toInt32) (((XT.ushr p0 (24 : Int32)).toInt8.toInt32).toInt8.toInt32) ((p1.toInt8.toInt32).toInt8.toInt32) (((2 : Int32) + ((XT.ushr p2 (1 : Int32)) &&& (3 : Int32))) - (1 : Int32)))), .val (.int (((XT.ushr p0 (8 : Int32)).toInt8.toInt32).toInt8.toInt32 &&& (255 : Int32))), .val (.int (((XT.ushr p0 (16 : Int32)).toInt8.toInt32).toInt8.toInt32 &&& (255 : Int32))), .unset, .unset, .unset] [(.int (3 : Int32)), (.ref b1)])) rfl rfl (hb hby at_92)) ?_
    show OG _ _ _ _ _ _ _ (T9.setTop (mkF m 93 #[.val (.int p0), .val (.int p1), .val (.int p2), .val (.ref b1), .val (.int (1 : Int32)), .val (.int ((2 : Int32) + ((XT.ushr p2 (1 : Int32)) &&& (3 : Int32)))), .val (.int (own_seq (((XT.ushr p0 (8 : Int32)).toInt8.toInt32).toInt8.toInt32) (((XT.ushr p0 (16 : Int32)).toInt8.toInt32).toInt8.toInt32) (((XT.ushr p0 (24 : Int32)).toInt8.toInt32).toInt8.toInt32) ((p1.toInt8.toInt32).toInt8.toInt32) (((2 : Int32) + ((XT.ushr p2 (1 : Int32)) &&& (3 : Int32))) - (1 : Int32)))), .val (.int (((XT.ushr p0 (8 : Int32)).toInt8.toInt32).toInt8.toInt32 &&& (255 : Int32))), .val (.int (((XT.ushr p0 (16 : Int32)).toInt8.toInt32).toInt8.toInt32 &&& (255 : Int32))), .unset, .unset, .unset] [(.int ((XT.ushr p0 (24 : Int32)).toInt8.toInt32).toInt8.toInt32)]))
    refine OG.of (A := T9.setTop (mkF m 104 #[.val (.int p0), .val (.int p1), .val (.int p2), .val (.ref b1), .val (.int (1 : Int32)), .val (.int ((2 : Int32) + ((XT.ushr p2 (1 : Int32)) &&& (3 : Int32)))), .val (.int (own_seq (((XT.ushr p0 (8 : Int32)).toInt8.toInt32).toInt8.toInt32) (((XT.ushr p0 (16 : Int32)).toInt8.toInt32).toInt8.toInt32) (((XT.ushr p0 (24 : Int32)).toInt8.toInt32).toInt8.toInt32) ((p1.toInt8.toInt32).toInt8.toInt32) (((2 : Int32) + ((XT.ushr p2 (1 : Int32)) &&& (3 : Int32))) - (1 : Int32)))), .val (.int (((XT.ushr p0 (8 : Int32)).toInt8.toInt32).toInt8.toInt32 &&& (255 : Int32))), .val (.int (((XT.ushr p0 (16 : Int32)).toInt8.toInt32).toInt8.toInt32 &&& (255 : Int32))), .val (.int (((XT.ushr p0 (24 : Int32)).toInt8.toInt32).toInt8.toInt32 &&& (255 : Int32))), .unset, .unset] [(.int (4 : Int32)), (.ref b1)])) (fun oT oK => ?_) ?_
    · show Steps p.tables e below (T9.setTop (mkF m 93 #[.val (.int p0), .val (.int p1), .val (.int p2), .val (.ref b1), .val (.int (1 : Int32)), .val (.int ((2 : Int32) + ((XT.ushr p2 (1 : Int32)) &&& (3 : Int32)))), .val (.int (own_seq (((XT.ushr p0 (8 : Int32)).toInt8.toInt32).toInt8.toInt32) (((XT.ushr p0 (16 : Int32)).toInt8.toInt32).toInt8.toInt32) (((XT.ushr p0 (24 : Int32)).toInt8.toInt32).toInt8.toInt32) ((p1.toInt8.toInt32).toInt8.toInt32) (((2 : Int32) + ((XT.ushr p2 (1 : Int32)) &&& (3 : Int32))) - (1 : Int32)))), .val (.int (((XT.ushr p0 (8 : Int32)).toInt8.toInt32).toInt8.toInt32 &&& (255 : Int32))), .val (.int (((XT.ushr p0 (16 : Int32)).toInt8.toInt32).toInt8.toInt32 &&& (255 : Int32))), .unset, .unset, .unset] [(.int ((XT.ushr p0 (24 : Int32)).toInt8.toInt32).toInt8.toInt32)])) oT
      refine XS.sipush X9.here hx rfl (hb hby at_93) ?_
      show Steps p.tables e below (T9.setTop (mkF m 96 #[.val (.int p0), .val (.int p1), .val (.int p2), .val (.ref b1), .val (.int (1 : Int32)), .val (.int ((2 : Int32) + ((XT.ushr p2 (1 : Int32)) &&& (3 : Int32)))), .val (.int (own_seq (((XT.ushr p0 (8 : Int32)).toInt8.toInt32).toInt8.toInt32) (((XT.ushr p0 (16 : Int32)).toInt8.toInt32).toInt8.toInt32) (((XT.ushr p0 (24 : Int32)).toInt8.toInt32).toInt8.toInt32) ((p1.toInt8.toInt32).toInt8.toInt32) (((2 : Int32) + ((XT.ushr p2 (1 : Int32)) &&& (3 : Int32))) - (1 : Int32)))), .val (.int (((XT.ushr p0 (8 : Int32)).toInt8.toInt32).toInt8.toInt32 &&& (255 : Int32))), .val (.int (((XT.ushr p0 (16 : Int32)).toInt8.toInt32).toInt8.toInt32 &&& (255 : Int32))), .unset, .unset, .unset] [(.int (255 : Int32)), (.int ((XT.ushr p0 (24 : Int32)).toInt8.toInt32).toInt8.toInt32)])) _
      refine XS.iand X9.here hx rfl (hb hby at_96) rfl ?_
      show Steps p.tables e below (T9.setTop (mkF m 97 #[.val (.int p0), .val (.int p1), .val (.int p2), .val (.ref b1), .val (.int (1 : Int32)), .val (.int ((2 : Int32) + ((XT.ushr p2 (1 : Int32)) &&& (3 : Int32)))), .val (.int (own_seq (((XT.ushr p0 (8 : Int32)).toInt8.toInt32).toInt8.toInt32) (((XT.ushr p0 (16 : Int32)).toInt8.toInt32).toInt8.toInt32) (((XT.ushr p0 (24 : Int32)).toInt8.toInt32).toInt8.toInt32) ((p1.toInt8.toInt32).toInt8.toInt32) (((2 : Int32) + ((XT.ushr p2 (1 : Int32)) &&& (3 : Int32))) - (1 : Int32)))), .val (.int (((XT.ushr p0 (8 : Int32)).toInt8.toInt32).toInt8.toInt32 &&& (255 : Int32))), .val (.int (((XT.ushr p0 (16 : Int32)).toInt8.toInt32).toInt8.toInt32 &&& (255 : Int32))), .unset, .unset, .unset] [(.int (((XT.ushr p0 (24 : Int32)).toInt8.toInt32).toInt8.toInt32 &&& (255 : Int32)))])) _
      refine XS.istore X9.here hx rfl (hb hby at_97) rfl (l' := #[.val (.int p0), .val (.int p1), .val (.int p2), .val (.ref b1), .val (.int (1 : Int32)), .val (.int ((2 : Int32) + ((XT.ushr p2 (1 : Int32)) &&& (3 : Int32)))), .val (.int (own_seq (((XT.ushr p0 (8 : Int32)).toInt8.toInt32).toInt8.toInt32) (((XT.ushr p0 (16 : Int32)).toInt8.toInt32).toInt8.toInt32) (((XT.ushr p0 (24 : Int32)).toInt8.toInt32).toInt8.toInt32) ((p1.toInt8.toInt32).toInt8.toInt32) (((2 : Int32) + ((XT.ushr p2 (1 : Int32)) &&& (3 : Int32))) - (1 : Int32)))), .val (.int (((XT.ushr p0 (8 : Int32)).toInt8.toInt32).toInt8.toInt32 &&& (255 : Int32))), .val (.int (((XT.ushr p0 (16 : Int32)).toInt8.toInt32).toInt8.toInt32 &&& (255 : Int32))), .val (.int (((XT.ushr p0 (24 : Int32)).toInt8.toInt32).toInt8.toInt32 &&& (255 : Int32))), .unset, .unset]) rfl ?_
      show Steps p.tables e below (T9.setTop (mkF m 99 #[.val (.int p0), .val (.int p1), .val (.int p2), .val (.ref b1), .val (.int (1 : Int32)), .val (.int ((2 : Int32) + ((XT.ushr p2 (1 : Int32)) &&& (3 : Int32)))), .val (.int (own_seq (((XT.ushr p0 (8 : Int32)).toInt8.toInt32).toInt8.toInt32) (((XT.ushr p0 (16 : Int32)).toInt8.toInt32).toInt8.toInt32) (((XT.ushr p0 (24 : Int32)).toInt8.toInt32).toInt8.toInt32) ((p1.toInt8.toInt32).toInt8.toInt32) (((2 : Int32) + ((XT.ushr p2 (1 : Int32)) &&& (3 : Int32))) - (1 : Int32)))), .val (.int (((XT.ushr p0 (8 : Int32)).toInt8.toInt32).toInt8.toInt32 &&& (255 : Int32))), .val (.int (((XT.ushr p0 (16 : Int32)).toInt8.toInt32).toInt8.toInt32 &&& (255 : Int32))), .val (.int (((XT.ushr p0 (24 : Int32)).toInt8.toInt32).toInt8.toInt32 &&& (255 : Int32))), .unset, .unset] [])) _
      refine XS.aloadN X9.here hx rfl (hb hby at_99) rfl rfl  ?_
      show Steps p.tables e below (T9.setTop (mkF m 100 #[.val (.int p0), .val (.int p1), .val (.int p2), .val (.ref b1), .val (.int (1 : Int32)), .val (.int ((2 : Int32) + ((XT.ushr p2 (1 : Int32)) &&& (3 : Int32)))), .val (.int (own_seq (((XT.ushr p0 (8 : Int32)).toInt8.toInt32).toInt8.toInt32) (((XT.ushr p0 (16 : Int32)).toInt8.toInt32).toInt8.toInt32) (((XT.ushr p0 (24 : Int32)).toInt8.toInt32).toInt8.toInt32) ((p1.toInt8.toInt32).toInt8.toInt32) (((2 : Int32) + ((XT.ushr p2 (1 : Int32)) &&& (3 : Int32))) - (1 : Int32)))), .val (.int (((XT.ushr p0 (8 : Int32)).toInt8.toInt32).toInt8.toInt32 &&& (255 : Int32))), .val (.int (((XT.ushr p0 (16 : Int32)).toInt8.toInt32).toInt8.toInt32 &&& (255 : Int32))), .val (.int (((XT.ushr p0 (24 : Int32)).toInt8.toInt32).toInt8.toInt32 &&& (255 : Int32))), .unset, .unset] [(.ref b1)])) _
      refine XS.iload X9.here hx rfl (hb hby at_100) rfl  ?_
      show Steps p.tables e below (T9.setTop (mkF m 102 #[.val (.int p0), .val (.int p1), .val (.int p2), .val (.ref b1), .val (.int (1 : Int32)), .val (.int ((2 : Int32) + ((XT.ushr p2 (1 : Int32)) &&& (3 : Int32)))), .val (.int (own_seq (((XT.ushr p0 (8 : Int32)).toInt8.toInt32).toInt8.toInt32) (((XT.ushr p0 (16 : Int32)).toInt8.toInt32).toInt8.toInt32) (((XT.ushr p0 (24 : Int32)).toInt8.toInt32).toInt8.toInt32) ((p1.toInt8.toInt32).toInt8.toInt32) (((2 : Int32) + ((XT.ushr p2 (1 : Int32)) &&& (3 : Int32))) - (1 : Int32)))), .val (.int (((XT.ushr p0 (8 : Int32)).toInt8.toInt32).toInt8.toInt32 &&& (255 : Int32))), .val (.int (((XT.ushr p0 (16 : Int32)).toInt8.toInt32).toInt8.toInt32 &&& (255 : Int32))), .val (.int (((XT.ushr p0 (24 : Int32)).toInt8.toInt32).toInt8.toInt32 &&& (255 : Int32))), .unset, .unset] [(.int (1 : Int32)), (.ref b1)])) _
      refine XS.iconst X9.here hx rfl (hb hby at_102) ?_
      show Steps p.tables e below (T9.setTop (mkF m 103 #[.val (.int p0), .val (.int p1), .val (.int p2), .val (.ref b1), .val (.int (1 : Int32)), .val (.int ((2 : Int32) + ((XT.ushr p2 (1 : Int32)) &&& (3 : Int32)))), .val (.int (own_seq (((XT.ushr p0 (8 : Int32)).toInt8.toInt32).toInt8.toInt32) (((XT.ushr p0 (16 : Int32)).toInt8.toInt32).toInt8.toInt32) (((XT.ushr p0 (24 : Int32)).toInt8.toInt32).toInt8.toInt32) ((p1.toInt8.toInt32).toInt8.toInt32) (((2 : Int32) + ((XT.ushr p2 (1 : Int32)) &&& (3 : Int32))) - (1 : Int32)))), .val (.int (((XT.ushr p0 (8 : Int32)).toInt8.toInt32).toInt8.toInt32 &&& (255 : Int32))), .val (.int (((XT.ushr p0 (16 : Int32)).toInt8.toInt32).toInt8.toInt32 &&& (255 : Int32))), .val (.int (((XT.ushr p0 (24 : Int32)).toInt8.toInt32).toInt8.toInt32 &&& (255 : Int32))), .unset, .unset] [(.int (3 : Int32)), (.int (1 : Int32)), (.ref b1)])) _
      refine XS.iadd X9.here hx rfl (hb hby at_103) rfl ?_
      exact oK
    show OG _ _ _ _ _ _ _ (T9.setTop (mkF m 104 #[.val (.int p0), .val (.int p1), .val (.int p2), .val (.ref b1), .val (.int (1 : Int32)), .val (.int ((2 : Int32) + ((XT.ushr p2 (1 : Int32)) &&& (3 : Int32)))), .val (.int (own_seq (((XT.ushr p0 (8 : Int32)).toInt8.toInt32).toInt8.toInt32) (((XT.ushr p0 (16 : Int32)).toInt8.toInt32).toInt8.toInt32) (((XT.ushr p0 (24 : Int32)).toInt8.toInt32).toInt8.toInt32) ((p1.toInt8.toInt32).toInt8.toInt32) (((2 : Int32) + ((XT.ushr p2 (1 : Int32)) &&& (3 : Int32))) - (1 : Int32)))), .val (.int (((XT.ushr p0 (8 : Int32)).toInt8.toInt32).toInt8.toInt32 &&& (255 : Int32))), .val (.int (((XT.ushr p0 (16 : Int32)).toInt8.toInt32).toInt8.toInt32 &&& (255 : Int32))), .val (.int (((XT.ushr p0 (24 : Int32)).toInt8.toInt32).toInt8.toInt32 &&& (255 : Int32))), .unset, .unset] [(.int (4 : Int32)), (.ref b1)]))
    have cf18 := V6
    obtain ⟨clf18, Arf18, qf18, Sf18, Mf18, Hf18, Gf18⟩ := cf18
    refine OG.of (X9.baloadBytes hx (j := (4 : Int32)) (v := (.int (p1.toInt8.toInt32).toInt8.toInt32)) (by rw [e9]; exact Arf18.1) (State.isArrayOf_alike hZ.alike Arf18.2.1) Arf18.2.2 (inb_of Sf18 ⟨by decide, by decide⟩) (Hf18.at (inb_of Sf18 ⟨by decide, by decide⟩) rfl) (g := (mkF m 104 #[.val (.int p0), .val (.int p1), .val (.int p2), .val (.ref b1), .val (.int (1 : Int32)), .val (.int ((2 : Int32) + ((XT.ushr p2 (1 : Int32)) &&& (3 : Int32)))), .val (.int (own_seq (((XT.ushr p0 (8 : Int32)).toInt8.toInt32).toInt8.toInt32) (((XT.ushr p0 (16 : Int32)).toInt8.toInt32).toInt8.toInt32) (((XT.ushr p0 (24 : Int32)).toInt8.toInt32).toInt8.toInt32) ((p1.toInt8.toInt32).toInt8.toInt32) (((2 : Int32) + ((XT.ushr p2 (1 : Int32)) &&& (3 : Int32))) - (1 : Int32)))), .val (.int (((XT.ushr p0 (8 : Int32)).toInt8.toInt32).toInt8.toInt32 &&& (255 : Int32))), .val (.int (((XT.ushr p0 (16 : Int32)).toInt8.toInt32).toInt8.toInt32 &&& (255 : Int32))), .val (.int (((XT.ushr p0 (24 : Int32)).toInt8.toInt32).toInt8.toInt32 &&& (255 : Int32))), .unset, .unset] [(.int (4 : Int32)), (.ref b1)])) rfl rfl (hb hby at_104)) ?_
    show OG _ _ _ _ _ _ _ (T9.setTop (mkF m 105 #[.val (.int p0), .val (.int p1), .val (.int p2), .val (.ref b1), .val (.int (1 : Int32)), .val (.int ((2 : Int32) + ((XT.ushr p2 (1 : Int32)) &&& (3 : Int32)))), .val (.int (own_seq (((XT.ushr p0 (8 : Int32)).toInt8.toInt32).toInt8.toInt32) (((XT.ushr p0 (16 : Int32)).toInt8.toInt32).toInt8.toInt32) (((XT.ushr p0 (24 : Int32)).toInt8.toInt32).toInt8.toInt32) ((p1.toInt8.toInt32).toInt8.toInt32) (((2 : Int32) + ((XT.ushr p2 (1 : Int32)) &&& (3 : Int32))) - (1 : Int32)))), .val (.int (((XT.ushr p0 (8 : Int32)).toInt8.toInt32).toInt8.toInt32 &&& (255 : Int32))), .val (.int (((XT.ushr p0 (16 : Int32)).toInt8.toInt32).toInt8.toInt32 &&& (255 : Int32))), .val (.int (((XT.ushr p0 (24 : Int32)).toInt8.toInt32).toInt8.toInt32 &&& (255 : Int32))), .unset, .unset] [(.int (p1.toInt8.toInt32).toInt8.toInt32)]))
    refine OG.of (A := T9.setTop (mkF m 130 #[.val (.int p0), .val (.int p1), .val (.int p2), .val (.ref b1), .val (.int (1 : Int32)), .val (.int ((2 : Int32) + ((XT.ushr p2 (1 : Int32)) &&& (3 : Int32)))), .val (.int (own_seq (((XT.ushr p0 (8 : Int32)).toInt8.toInt32).toInt8.toInt32) (((XT.ushr p0 (16 : Int32)).toInt8.toInt32).toInt8.toInt32) (((XT.ushr p0 (24 : Int32)).toInt8.toInt32).toInt8.toInt32) ((p1.toInt8.toInt32).toInt8.toInt32) (((2 : Int32) + ((XT.ushr p2 (1 : Int32)) &&& (3 : Int32))) - (1 : Int32)))), .val (.int (((XT.ushr p0 (8 : Int32)).toInt8.toInt32).toInt8.toInt32 &&& (255 : Int32))), .val (.int (((XT.ushr p0 (16 : Int32)).toInt8.toInt32).toInt8.toInt32 &&& (255 : Int32))), .val (.int (((XT.ushr p0 (24 : Int32)).toInt8.toInt32).toInt8.toInt32 &&& (255 : Int32))), .val (.int ((p1.toInt8.toInt32).toInt8.toInt32 &&& (255 : Int32))), .val (.int (((2 : Int32) + ((XT.ushr p2 (1 : Int32)) &&& (3 : Int32))) - (1 : Int32)))] [(.int (((2 : Int32) + ((XT.ushr p2 (1 : Int32)) &&& (3 : Int32))) - (1 : Int32))), (.int ((p1.toInt8.toInt32).toInt8.toInt32 &&& (255 : Int32))), (.int (((XT.ushr p0 (24 : Int32)).toInt8.toInt32).toInt8.toInt32 &&& (255 : Int32))), (.int (((XT.ushr p0 (16 : Int32)).toInt8.toInt32).toInt8.toInt32 &&& (255 : Int32))), (.int (((XT.ushr p0 (8 : Int32)).toInt8.toInt32).toInt8.toInt32 &&& (255 : Int32))), (.int (own_seq (((XT.ushr p0 (8 : Int32)).toInt8.toInt32).toInt8.toInt32) (((XT.ushr p0 (16 : Int32)).toInt8.toInt32).toInt8.toInt32) (((XT.ushr p0 (24 : Int32)).toInt8.toInt32).toInt8.toInt32) ((p1.toInt8.toInt32).toInt8.toInt32) (((2 : Int32) + ((XT.ushr p2 (1 : Int32)) &&& (3 : Int32))) - (1 : Int32))))])) (fun oT oK => ?_) ?_
    · show Steps p.tables e below (T9.setTop (mkF m 105 #[.val (.int p0), .val (.int p1), .val (.int p2), .val (.ref b1), .val (.int (1 : Int32)), .val (.int ((2 : Int32) + ((XT.ushr p2 (1 : Int32)) &&& (3 : Int32)))), .val (.int (own_seq (((XT.ushr p0 (8 : Int32)).toInt8.toInt32).toInt8.toInt32) (((XT.ushr p0 (16 : Int32)).toInt8.toInt32).toInt8.toInt32) (((XT.ushr p0 (24 : Int32)).toInt8.toInt32).toInt8.toInt32) ((p1.toInt8.toInt32).toInt8.toInt32) (((2 : Int32) + ((XT.ushr p2 (1 : Int32)) &&& (3 : Int32))) - (1 : Int32)))), .val (.int (((XT.ushr p0 (8 : Int32)).toInt8.toInt32).toInt8.toInt32 &&& (255 : Int32))), .val (.int (((XT.ushr p0 (16 : Int32)).toInt8.toInt32).toInt8.toInt32 &&& (255 : Int32))), .val (.int (((XT.ushr p0 (24 : Int32)).toInt8.toInt32).toInt8.toInt32 &&& (255 : Int32))), .unset, .unset] [(.int (p1.toInt8.toInt32).toInt8.toInt32)])) oT
      refine XS.sipush X9.here hx rfl (hb hby at_105) ?_
      show Steps p.tables e below (T9.setTop (mkF m 108 #[.val (.int p0), .val (.int p1), .val (.int p2), .val (.ref b1), .val (.int (1 : Int32)), .val (.int ((2 : Int32) + ((XT.ushr p2 (1 : Int32)) &&& (3 : Int32)))), .val (.int (own_seq (((XT.ushr p0 (8 : Int32)).toInt8.toInt32).toInt8.toInt32) (((XT.ushr p0 (16 : Int32)).toInt8.toInt32).toInt8.toInt32) (((XT.ushr p0 (24 : Int32)).toInt8.toInt32).toInt8.toInt32) ((p1.toInt8.toInt32).toInt8.toInt32) (((2 : Int32) + ((XT.ushr p2 (1 : Int32)) &&& (3 : Int32))) - (1 : Int32)))), .val (.int (((XT.ushr p0 (8 : Int32)).toInt8.toInt32).toInt8.toInt32 &&& (255 : Int32))), .val (.int (((XT.ushr p0 (16 : Int32)).toInt8.toInt32).toInt8.toInt32 &&& (255 : Int32))), .val (.int (((XT.ushr p0 (24 : Int32)).toInt8.toInt32).toInt8.toInt32 &&& (255 : Int32))), .unset, .unset] [(.int (255 : Int32)), (.int (p1.toInt8.toInt32).toInt8.toInt32)])) _
      refine XS.iand X9.here hx rfl (hb hby at_108) rfl ?_
      show Steps p.tables e below (T9.setTop (mkF m 109 #[.val (.int p0), .val (.int p1), .val (.int p2), .val (.ref b1), .val (.int (1 : Int32)), .val (.int ((2 : Int32) + ((XT.ushr p2 (1 : Int32)) &&& (3 : Int32)))), .val (.int (own_seq (((XT.ushr p0 (8 : Int32)).toInt8.toInt32).toInt8.toInt32) (((XT.ushr p0 (16 : Int32)).toInt8.toInt32).toInt8.toInt32) (((XT.ushr p0 (24 : Int32)).toInt8.toInt32).toInt8.toInt32) ((p1.toInt8.toInt32).toInt8.toInt32) (((2 : Int32) + ((XT.ushr p2 (1 : Int32)) &&& (3 : Int32))) - (1 : Int32)))), .val (.int (((XT.ushr p0 (8 : Int32)).toInt8.toInt32).toInt8.toInt32 &&& (255 : Int32))), .val (.int (((XT.ushr p0 (16 : Int32)).toInt8.toInt32).toInt8.toInt32 &&& (255 : Int32))), .val (.int (((XT.ushr p0 (24 : Int32)).toInt8.toInt32).toInt8.toInt32 &&& (255 : Int32))), .unset, .unset] [(.int ((p1.toInt8.toInt32).toInt8.toInt32 &&& (255 : Int32)))])) _
      refine XS.istore X9.here hx rfl (hb hby at_109) rfl (l' := #[.val (.int p0), .val (.int p1), .val (.int p2), .val (.ref b1), .val (.int (1 : Int32)), .val (.int ((2 : Int32) + ((XT.ushr p2 (1 : Int32)) &&& (3 : Int32)))), .val (.int (own_seq (((XT.ushr p0 (8 : Int32)).toInt8.toInt32).toInt8.toInt32) (((XT.ushr p0 (16 : Int32)).toInt8.toInt32).toInt8.toInt32) (((XT.ushr p0 (24 : Int32)).toInt8.toInt32).toInt8.toInt32) ((p1.toInt8.toInt32).toInt8.toInt32) (((2 : Int32) + ((XT.ushr p2 (1 : Int32)) &&& (3 : Int32))) - (1 : Int32)))), .val (.int (((XT.ushr p0 (8 : Int32)).toInt8.toInt32).toInt8.toInt32 &&& (255 : Int32))), .val (.int (((XT.ushr p0 (16 : Int32)).toInt8.toInt32).toInt8.toInt32 &&& (255 : Int32))), .val (.int (((XT.ushr p0 (24 : Int32)).toInt8.toInt32).toInt8.toInt32 &&& (255 : Int32))), .val (.int ((p1.toInt8.toInt32).toInt8.toInt32 &&& (255 : Int32))), .unset]) rfl ?_
      show Steps p.tables e below (T9.setTop (mkF m 111 #[.val (.int p0), .val (.int p1), .val (.int p2), .val (.ref b1), .val (.int (1 : Int32)), .val (.int ((2 : Int32) + ((XT.ushr p2 (1 : Int32)) &&& (3 : Int32)))), .val (.int (own_seq (((XT.ushr p0 (8 : Int32)).toInt8.toInt32).toInt8.toInt32) (((XT.ushr p0 (16 : Int32)).toInt8.toInt32).toInt8.toInt32) (((XT.ushr p0 (24 : Int32)).toInt8.toInt32).toInt8.toInt32) ((p1.toInt8.toInt32).toInt8.toInt32) (((2 : Int32) + ((XT.ushr p2 (1 : Int32)) &&& (3 : Int32))) - (1 : Int32)))), .val (.int (((XT.ushr p0 (8 : Int32)).toInt8.toInt32).toInt8.toInt32 &&& (255 : Int32))), .val (.int (((XT.ushr p0 (16 : Int32)).toInt8.toInt32).toInt8.toInt32 &&& (255 : Int32))), .val (.int (((XT.ushr p0 (24 : Int32)).toInt8.toInt32).toInt8.toInt32 &&& (255 : Int32))), .val (.int ((p1.toInt8.toInt32).toInt8.toInt32 &&& (255 : Int32))), .unset] [])) _
      refine XS.iload X9.here hx rfl (hb hby at_111) rfl  ?_
      show Steps p.tables e below (T9.setTop (mkF m 113 #[.val (.int p0), .val (.int p1), .val (.int p2), .val (.ref b1), .val (.int (1 : Int32)), .val (.int ((2 : Int32) + ((XT.ushr p2 (1 : Int32)) &&& (3 : Int32)))), .val (.int (own_seq (((XT.ushr p0 (8 : Int32)).toInt8.toInt32).toInt8.toInt32) (((XT.ushr p0 (16 : Int32)).toInt8.toInt32).toInt8.toInt32) (((XT.ushr p0 (24 : Int32)).toInt8.toInt32).toInt8.toInt32) ((p1.toInt8.toInt32).toInt8.toInt32) (((2 : Int32) + ((XT.ushr p2 (1 : Int32)) &&& (3 : Int32))) - (1 : Int32)))), .val (.int (((XT.ushr p0 (8 : Int32)).toInt8.toInt32).toInt8.toInt32 &&& (255 : Int32))), .val (.int (((XT.ushr p0 (16 : Int32)).toInt8.toInt32).toInt8.toInt32 &&& (255 : Int32))), .val (.int (((XT.ushr p0 (24 : Int32)).toInt8.toInt32).toInt8.toInt32 &&& (255 : Int32))), .val (.int ((p1.toInt8.toInt32).toInt8.toInt32 &&& (255 : Int32))), .unset] [(.int ((2 : Int32) + ((XT.ushr p2 (1 : Int32)) &&& (3 : Int32))))])) _
      refine XS.iload X9.here hx rfl (hb hby at_113) rfl  ?_
      show Steps p.tables e below (T9.setTop (mkF m 115 #[.val (.int p0), .val (.int p1), .val (.int p2), .val (.ref b1), .val (.int (1 : Int32)), .val (.int ((2 : Int32) + ((XT.ushr p2 (1 : Int32)) &&& (3 : Int32)))), .val (.int (own_seq (((XT.ushr p0 (8 : Int32)).toInt8.toInt32).toInt8.toInt32) (((XT.ushr p0 (16 : Int32)).toInt8.toInt32).toInt8.toInt32) (((XT.ushr p0 (24 : Int32)).toInt8.toInt32).toInt8.toInt32) ((p1.toInt8.toInt32).toInt8.toInt32) (((2 : Int32) + ((XT.ushr p2 (1 : Int32)) &&& (3 : Int32))) - (1 : Int32)))), .val (.int (((XT.ushr p0 (8 : Int32)).toInt8.toInt32).toInt8.toInt32 &&& (255 : Int32))), .val (.int (((XT.ushr p0 (16 : Int32)).toInt8.toInt32).toInt8.toInt32 &&& (255 : Int32))), .val (.int (((XT.ushr p0 (24 : Int32)).toInt8.toInt32).toInt8.toInt32 &&& (255 : Int32))), .val (.int ((p1.toInt8.toInt32).toInt8.toInt32 &&& (255 : Int32))), .unset] [(.int (1 : Int32)), (.int ((2 : Int32) + ((XT.ushr p2 (1 : Int32)) &&& (3 : Int32))))])) _
      refine XS.isub X9.here hx rfl (hb hby at_115) rfl ?_
      show Steps p.tables e below (T9.setTop (mkF m 116 #[.val (.int p0), .val (.int p1), .val (.int p2), .val (.ref b1), .val (.int (1 : Int32)), .val (.int ((2 : Int32) + ((XT.ushr p2 (1 : Int32)) &&& (3 : Int32)))), .val (.int (own_seq (((XT.ushr p0 (8 : Int32)).toInt8.toInt32).toInt8.toInt32) (((XT.ushr p0 (16 : Int32)).toInt8.toInt32).toInt8.toInt32) (((XT.ushr p0 (24 : Int32)).toInt8.toInt32).toInt8.toInt32) ((p1.toInt8.toInt32).toInt8.toInt32) (((2 : Int32) + ((XT.ushr p2 (1 : Int32)) &&& (3 : Int32))) - (1 : Int32)))), .val (.int (((XT.ushr p0 (8 : Int32)).toInt8.toInt32).toInt8.toInt32 &&& (255 : Int32))), .val (.int (((XT.ushr p0 (16 : Int32)).toInt8.toInt32).toInt8.toInt32 &&& (255 : Int32))), .val (.int (((XT.ushr p0 (24 : Int32)).toInt8.toInt32).toInt8.toInt32 &&& (255 : Int32))), .val (.int ((p1.toInt8.toInt32).toInt8.toInt32 &&& (255 : Int32))), .unset] [(.int (((2 : Int32) + ((XT.ushr p2 (1 : Int32)) &&& (3 : Int32))) - (1 : Int32)))])) _
      refine XS.istore X9.here hx rfl (hb hby at_116) rfl (l' := #[.val (.int p0), .val (.int p1), .val (.int p2), .val (.ref b1), .val (.int (1 : Int32)), .val (.int ((2 : Int32) + ((XT.ushr p2 (1 : Int32)) &&& (3 : Int32)))), .val (.int (own_seq (((XT.ushr p0 (8 : Int32)).toInt8.toInt32).toInt8.toInt32) (((XT.ushr p0 (16 : Int32)).toInt8.toInt32).toInt8.toInt32) (((XT.ushr p0 (24 : Int32)).toInt8.toInt32).toInt8.toInt32) ((p1.toInt8.toInt32).toInt8.toInt32) (((2 : Int32) + ((XT.ushr p2 (1 : Int32)) &&& (3 : Int32))) - (1 : Int32)))), .val (.int (((XT.ushr p0 (8 : Int32)).toInt8.toInt32).toInt8.toInt32 &&& (255 : Int32))), .val (.int (((XT.ushr p0 (16 : Int32)).toInt8.toInt32).toInt8.toInt32 &&& (255 : Int32))), .val (.int (((XT.ushr p0 (24 : Int32)).toInt8.toInt32).toInt8.toInt32 &&& (255 : Int32))), .val (.int ((p1.toInt8.toInt32).toInt8.toInt32 &&& (255 : Int32))), .val (.int (((2 : Int32) + ((XT.ushr p2 (1 : Int32)) &&& (3 : Int32))) - (1 : Int32)))]) rfl ?_
      show Steps p.tables e below (T9.setTop (mkF m 118 #[.val (.int p0), .val (.int p1), .val (.int p2), .val (.ref b1), .val (.int (1 : Int32)), .val (.int ((2 : Int32) + ((XT.ushr p2 (1 : Int32)) &&& (3 : Int32)))), .val (.int (own_seq (((XT.ushr p0 (8 : Int32)).toInt8.toInt32).toInt8.toInt32) (((XT.ushr p0 (16 : Int32)).toInt8.toInt32).toInt8.toInt32) (((XT.ushr p0 (24 : Int32)).toInt8.toInt32).toInt8.toInt32) ((p1.toInt8.toInt32).toInt8.toInt32) (((2 : Int32) + ((XT.ushr p2 (1 : Int32)) &&& (3 : Int32))) - (1 : Int32)))), .val (.int (((XT.ushr p0 (8 : Int32)).toInt8.toInt32).toInt8.toInt32 &&& (255 : Int32))), .val (.int (((XT.ushr p0 (16 : Int32)).toInt8.toInt32).toInt8.toInt32 &&& (255 : Int32))), .val (.int (((XT.ushr p0 (24 : Int32)).toInt8.toInt32).toInt8.toInt32 &&& (255 : Int32))), .val (.int ((p1.toInt8.toInt32).toInt8.toInt32 &&& (255 : Int32))), .val (.int (((2 : Int32) + ((XT.ushr p2 (1 : Int32)) &&& (3 : Int32))) - (1 : Int32)))] [])) _
      refine XS.iload X9.here hx rfl (hb hby at_118) rfl  ?_
      show Steps p.tables e below (T9.setTop (mkF m 120 #[.val (.int p0), .val (.int p1), .val (.int p2), .val (.ref b1), .val (.int (1 : Int32)), .val (.int ((2 : Int32) + ((XT.ushr p2 (1 : Int32)) &&& (3 : Int32)))), .val (.int (own_seq (((XT.ushr p0 (8 : Int32)).toInt8.toInt32).toInt8.toInt32) (((XT.ushr p0 (16 : Int32)).toInt8.toInt32).toInt8.toInt32) (((XT.ushr p0 (24 : Int32)).toInt8.toInt32).toInt8.toInt32) ((p1.toInt8.toInt32).toInt8.toInt32) (((2 : Int32) + ((XT.ushr p2 (1 : Int32)) &&& (3 : Int32))) - (1 : Int32)))), .val (.int (((XT.ushr p0 (8 : Int32)).toInt8.toInt32).toInt8.toInt32 &&& (255 : Int32))), .val (.int (((XT.ushr p0 (16 : Int32)).toInt8.toInt32).toInt8.toInt32 &&& (255 : Int32))), .val (.int (((XT.ushr p0 (24 : Int32)).toInt8.toInt32).toInt8.toInt32 &&& (255 : Int32))), .val (.int ((p1.toInt8.toInt32).toInt8.toInt32 &&& (255 : Int32))), .val (.int (((2 : Int32) + ((XT.ushr p2 (1 : Int32)) &&& (3 : Int32))) - (1 : Int32)))] [(.int (own_seq (((XT.ushr p0 (8 : Int32)).toInt8.toInt32).toInt8.toInt32) (((XT.ushr p0 (16 : Int32)).toInt8.toInt32).toInt8.toInt32) (((XT.ushr p0 (24 : Int32)).toInt8.toInt32).toInt8.toInt32) ((p1.toInt8.toInt32).toInt8.toInt32) (((2 : Int32) + ((XT.ushr p2 (1 : Int32)) &&& (3 : Int32))) - (1 : Int32))))])) _
      refine XS.iload X9.here hx rfl (hb hby at_120) rfl  ?_
      show Steps p.tables e below (T9.setTop (mkF m 122 #[.val (.int p0), .val (.int p1), .val (.int p2), .val (.ref b1), .val (.int (1 : Int32)), .val (.int ((2 : Int32) + ((XT.ushr p2 (1 : Int32)) &&& (3 : Int32)))), .val (.int (own_seq (((XT.ushr p0 (8 : Int32)).toInt8.toInt32).toInt8.toInt32) (((XT.ushr p0 (16 : Int32)).toInt8.toInt32).toInt8.toInt32) (((XT.ushr p0 (24 : Int32)).toInt8.toInt32).toInt8.toInt32) ((p1.toInt8.toInt32).toInt8.toInt32) (((2 : Int32) + ((XT.ushr p2 (1 : Int32)) &&& (3 : Int32))) - (1 : Int32)))), .val (.int (((XT.ushr p0 (8 : Int32)).toInt8.toInt32).toInt8.toInt32 &&& (255 : Int32))), .val (.int (((XT.ushr p0 (16 : Int32)).toInt8.toInt32).toInt8.toInt32 &&& (255 : Int32))), .val (.int (((XT.ushr p0 (24 : Int32)).toInt8.toInt32).toInt8.toInt32 &&& (255 : Int32))), .val (.int ((p1.toInt8.toInt32).toInt8.toInt32 &&& (255 : Int32))), .val (.int (((2 : Int32) + ((XT.ushr p2 (1 : Int32)) &&& (3 : Int32))) - (1 : Int32)))] [(.int (((XT.ushr p0 (8 : Int32)).toInt8.toInt32).toInt8.toInt32 &&& (255 : Int32))), (.int (own_seq (((XT.ushr p0 (8 : Int32)).toInt8.toInt32).toInt8.toInt32) (((XT.ushr p0 (16 : Int32)).toInt8.toInt32).toInt8.toInt32) (((XT.ushr p0 (24 : Int32)).toInt8.toInt32).toInt8.toInt32) ((p1.toInt8.toInt32).toInt8.toInt32) (((2 : Int32) + ((XT.ushr p2 (1 : Int32)) &&& (3 : Int32))) - (1 : Int32))))])) _
      refine XS.iload X9.here hx rfl (hb hby at_122) rfl  ?_
      show Steps p.tables e below (T9.setTop (mkF m 124 #[.val (.int p0), .val (.int p1), .val (.int p2), .val (.ref b1), .val (.int (1 : Int32)), .val (.int ((2 : Int32) + ((XT.ushr p2 (1 : Int32)) &&& (3 : Int32)))), .val (.int (own_seq (((XT.ushr p0 (8 : Int32)).toInt8.toInt32).toInt8.toInt32) (((XT.ushr p0 (16 : Int32)).toInt8.toInt32).toInt8.toInt32) (((XT.ushr p0 (24 : Int32)).toInt8.toInt32).toInt8.toInt32) ((p1.toInt8.toInt32).toInt8.toInt32) (((2 : Int32) + ((XT.ushr p2 (1 : Int32)) &&& (3 : Int32))) - (1 : Int32)))), .val (.int (((XT.ushr p0 (8 : Int32)).toInt8.toInt32).toInt8.toInt32 &&& (255 : Int32))), .val (.int (((XT.ushr p0 (16 : Int32)).toInt8.toInt32).toInt8.toInt32 &&& (255 : Int32))), .val (.int (((XT.ushr p0 (24 : Int32)).toInt8.toInt32).toInt8.toInt32 &&& (255 : Int32))), .val (.int ((p1.toInt8.toInt32).toInt8.toInt32 &&& (255 : Int32))), .val (.int (((2 : Int32) + ((XT.ushr p2 (1 : Int32)) &&& (3 : Int32))) - (1 : Int32)))] [(.int (((XT.ushr p0 (16 : Int32)).toInt8.toInt32).toInt8.toInt32 &&& (255 : Int32))), (.int (((XT.ushr p0 (8 : Int32)).toInt8.toInt32).toInt8.toInt32 &&& (255 : Int32))), (.int (own_seq (((XT.ushr p0 (8 : Int32)).toInt8.toInt32).toInt8.toInt32) (((XT.ushr p0 (16 : Int32)).toInt8.toInt32).toInt8.toInt32) (((XT.ushr p0 (24 : Int32)).toInt8.toInt32).toInt8.toInt32) ((p1.toInt8.toInt32).toInt8.toInt32) (((2 : Int32) + ((XT.ushr p2 (1 : Int32)) &&& (3 : Int32))) - (1 : Int32))))])) _
      refine XS.iload X9.here hx rfl (hb hby at_124) rfl  ?_
      show Steps p.tables e below (T9.setTop (mkF m 126 #[.val (.int p0), .val (.int p1), .val (.int p2), .val (.ref b1), .val (.int (1 : Int32)), .val (.int ((2 : Int32) + ((XT.ushr p2 (1 : Int32)) &&& (3 : Int32)))), .val (.int (own_seq (((XT.ushr p0 (8 : Int32)).toInt8.toInt32).toInt8.toInt32) (((XT.ushr p0 (16 : Int32)).toInt8.toInt32).toInt8.toInt32) (((XT.ushr p0 (24 : Int32)).toInt8.toInt32).toInt8.toInt32) ((p1.toInt8.toInt32).toInt8.toInt32) (((2 : Int32) + ((XT.ushr p2 (1 : Int32)) &&& (3 : Int32))) - (1 : Int32)))), .val (.int (((XT.ushr p0 (8 : Int32)).toInt8.toInt32).toInt8.toInt32 &&& (255 : Int32))), .val (.int (((XT.ushr p0 (16 : Int32)).toInt8.toInt32).toInt8.toInt32 &&& (255 : Int32))), .val (.int (((XT.ushr p0 (24 : Int32)).toInt8.toInt32).toInt8.toInt32 &&& (255 : Int32))), .val (.int ((p1.toInt8.toInt32).toInt8.toInt32 &&& (255 : Int32))), .val (.int (((2 : Int32) + ((XT.ushr p2 (1 : Int32)) &&& (3 : Int32))) - (1 : Int32)))] [(.int (((XT.ushr p0 (24 : Int32)).toInt8.toInt32).toInt8.toInt32 &&& (255 : Int32))), (.int (((XT.ushr p0 (16 : Int32)).toInt8.toInt32).toInt8.toInt32 &&& (255 : Int32))), (.int (((XT.ushr p0 (8 : Int32)).toInt8.toInt32).toInt8.toInt32 &&& (255 : Int32))), (.int (own_seq (((XT.ushr p0 (8 : Int32)).toInt8.toInt32).toInt8.toInt32) (((XT.ushr p0 (16 : Int32)).toInt8.toInt32).toInt8.toInt32) (((XT.ushr p0 (24 : Int32)).toInt8.toInt32).toInt8.toInt32) ((p1.toInt8.toInt32).toInt8.toInt32) (((2 : Int32) + ((XT.ushr p2 (1 : Int32)) &&& (3 : Int32))) - (1 : Int32))))])) _
      refine XS.iload X9.here hx rfl (hb hby at_126) rfl  ?_
      show Steps p.tables e below (T9.setTop (mkF m 128 #[.val (.int p0), .val (.int p1), .val (.int p2), .val (.ref b1), .val (.int (1 : Int32)), .val (.int ((2 : Int32) + ((XT.ushr p2 (1 : Int32)) &&& (3 : Int32)))), .val (.int (own_seq (((XT.ushr p0 (8 : Int32)).toInt8.toInt32).toInt8.toInt32) (((XT.ushr p0 (16 : Int32)).toInt8.toInt32).toInt8.toInt32) (((XT.ushr p0 (24 : Int32)).toInt8.toInt32).toInt8.toInt32) ((p1.toInt8.toInt32).toInt8.toInt32) (((2 : Int32) + ((XT.ushr p2 (1 : Int32)) &&& (3 : Int32))) - (1 : Int32)))), .val (.int (((XT.ushr p0 (8 : Int32)).toInt8.toInt32).toInt8.toInt32 &&& (255 : Int32))), .val (.int (((XT.ushr p0 (16 : Int32)).toInt8.toInt32).toInt8.toInt32 &&& (255 : Int32))), .val (.int (((XT.ushr p0 (24 : Int32)).toInt8.toInt32).toInt8.toInt32 &&& (255 : Int32))), .val (.int ((p1.toInt8.toInt32).toInt8.toInt32 &&& (255 : Int32))), .val (.int (((2 : Int32) + ((XT.ushr p2 (1 : Int32)) &&& (3 : Int32))) - (1 : Int32)))] [(.int ((p1.toInt8.toInt32).toInt8.toInt32 &&& (255 : Int32))), (.int (((XT.ushr p0 (24 : Int32)).toInt8.toInt32).toInt8.toInt32 &&& (255 : Int32))), (.int (((XT.ushr p0 (16 : Int32)).toInt8.toInt32).toInt8.toInt32 &&& (255 : Int32))), (.int (((XT.ushr p0 (8 : Int32)).toInt8.toInt32).toInt8.toInt32 &&& (255 : Int32))), (.int (own_seq (((XT.ushr p0 (8 : Int32)).toInt8.toInt32).toInt8.toInt32) (((XT.ushr p0 (16 : Int32)).toInt8.toInt32).toInt8.toInt32) (((XT.ushr p0 (24 : Int32)).toInt8.toInt32).toInt8.toInt32) ((p1.toInt8.toInt32).toInt8.toInt32) (((2 : Int32) + ((XT.ushr p2 (1 : Int32)) &&& (3 : Int32))) - (1 : Int32))))])) _
      refine XS.iload X9.here hx rfl (hb hby at_128) rfl  ?_
      exact oK
    show OG _ _ _ _ _ _ _ (T9.setTop (mkF m 130 #[.val (.int p0), .val (.int p1), .val (.int p2), .val (.ref b1), .val (.int (1 : Int32)), .val (.int ((2 : Int32) + ((XT.ushr p2 (1 : Int32)) &&& (3 : Int32)))), .val (.int (own_seq (((XT.ushr p0 (8 : Int32)).toInt8.toInt32).toInt8.toInt32) (((XT.ushr p0 (16 : Int32)).toInt8.toInt32).toInt8.toInt32) (((XT.ushr p0 (24 : Int32)).toInt8.toInt32).toInt8.toInt32) ((p1.toInt8.toInt32).toInt8.toInt32) (((2 : Int32) + ((XT.ushr p2 (1 : Int32)) &&& (3 : Int32))) - (1 : Int32)))), .val (.int (((XT.ushr p0 (8 : Int32)).toInt8.toInt32).toInt8.toInt32 &&& (255 : Int32))), .val (.int (((XT.ushr p0 (16 : Int32)).toInt8.toInt32).toInt8.toInt32 &&& (255 : Int32))), .val (.int (((XT.ushr p0 (24 : Int32)).toInt8.toInt32).toInt8.toInt32 &&& (255 : Int32))), .val (.int ((p1.toInt8.toInt32).toInt8.toInt32 &&& (255 : Int32))), .val (.int (((2 : Int32) + ((XT.ushr p2 (1 : Int32)) &&& (3 : Int32))) - (1 : Int32)))] [(.int (((2 : Int32) + ((XT.ushr p2 (1 : Int32)) &&& (3 : Int32))) - (1 : Int32))), (.int ((p1.toInt8.toInt32).toInt8.toInt32 &&& (255 : Int32))), (.int (((XT.ushr p0 (24 : Int32)).toInt8.toInt32).toInt8.toInt32 &&& (255 : Int32))), (.int (((XT.ushr p0 (16 : Int32)).toInt8.toInt32).toInt8.toInt32 &&& (255 : Int32))), (.int (((XT.ushr p0 (8 : Int32)).toInt8.toInt32).toInt8.toInt32 &&& (255 : Int32))), (.int (own_seq (((XT.ushr p0 (8 : Int32)).toInt8.toInt32).toInt8.toInt32) (((XT.ushr p0 (16 : Int32)).toInt8.toInt32).toInt8.toInt32) (((XT.ushr p0 (24 : Int32)).toInt8.toInt32).toInt8.toInt32) ((p1.toInt8.toInt32).toInt8.toInt32) (((2 : Int32) + ((XT.ushr p2 (1 : Int32)) &&& (3 : Int32))) - (1 : Int32))))]))
    obtain ⟨_, _, ⟨T10, L10, k10, n10⟩, -, X10, ⟨Lc10, hQ10, l10, y10, z10⟩, st10⟩ := Jvm.LawKit.callS X9 hx (y := (⟨"com/example/gate_to_gate/gatetogate/model/Utf8SequenceLengthPinLaw", "expected", "(IIIII)I"⟩ : MethodName)) hown (mvT hZ (hw _ (List.mem_of_getElem? (i := 5) rfl))) (mvT hZ (hw _ (List.mem_of_getElem? (i := 6) rfl))) (mvT hZ (hw _ (List.mem_of_getElem? (i := 7) rfl))) (mvT hZ (hw _ (List.mem_of_getElem? (i := 8) rfl))) (by decide) (backOf (W := 1) (rmE l Z a0 hw [] (((XT.ushr p0 (8 : Int32)).toInt8.toInt32).toInt8.toInt32 &&& (255 : Int32)) (((XT.ushr p0 (16 : Int32)).toInt8.toInt32).toInt8.toInt32 &&& (255 : Int32)) (((XT.ushr p0 (24 : Int32)).toInt8.toInt32).toInt8.toInt32 &&& (255 : Int32)) ((p1.toInt8.toInt32).toInt8.toInt32 &&& (255 : Int32)) (((2 : Int32) + ((XT.ushr p2 (1 : Int32)) &&& (3 : Int32))) - (1 : Int32))  h6 n0 (Z6)) hZ (hw _ (List.mem_of_getElem? (i := 8) rfl)) (hw _ (List.mem_of_getElem? (i := 7) rfl)) (by decide) (by decide)) (g := (mkF m 130 #[.val (.int p0), .val (.int p1), .val (.int p2), .val (.ref b1), .val (.int (1 : Int32)), .val (.int ((2 : Int32) + ((XT.ushr p2 (1 : Int32)) &&& (3 : Int32)))), .val (.int (own_seq (((XT.ushr p0 (8 : Int32)).toInt8.toInt32).toInt8.toInt32) (((XT.ushr p0 (16 : Int32)).toInt8.toInt32).toInt8.toInt32) (((XT.ushr p0 (24 : Int32)).toInt8.toInt32).toInt8.toInt32) ((p1.toInt8.toInt32).toInt8.toInt32) (((2 : Int32) + ((XT.ushr p2 (1 : Int32)) &&& (3 : Int32))) - (1 : Int32)))), .val (.int (((XT.ushr p0 (8 : Int32)).toInt8.toInt32).toInt8.toInt32 &&& (255 : Int32))), .val (.int (((XT.ushr p0 (16 : Int32)).toInt8.toInt32).toInt8.toInt32 &&& (255 : Int32))), .val (.int (((XT.ushr p0 (24 : Int32)).toInt8.toInt32).toInt8.toInt32 &&& (255 : Int32))), .val (.int ((p1.toInt8.toInt32).toInt8.toInt32 &&& (255 : Int32))), .val (.int (((2 : Int32) + ((XT.ushr p2 (1 : Int32)) &&& (3 : Int32))) - (1 : Int32)))] [(.int (((2 : Int32) + ((XT.ushr p2 (1 : Int32)) &&& (3 : Int32))) - (1 : Int32))), (.int ((p1.toInt8.toInt32).toInt8.toInt32 &&& (255 : Int32))), (.int (((XT.ushr p0 (24 : Int32)).toInt8.toInt32).toInt8.toInt32 &&& (255 : Int32))), (.int (((XT.ushr p0 (16 : Int32)).toInt8.toInt32).toInt8.toInt32 &&& (255 : Int32))), (.int (((XT.ushr p0 (8 : Int32)).toInt8.toInt32).toInt8.toInt32 &&& (255 : Int32))), (.int (own_seq (((XT.ushr p0 (8 : Int32)).toInt8.toInt32).toInt8.toInt32) (((XT.ushr p0 (16 : Int32)).toInt8.toInt32).toInt8.toInt32) (((XT.ushr p0 (24 : Int32)).toInt8.toInt32).toInt8.toInt32) ((p1.toInt8.toInt32).toInt8.toInt32) (((2 : Int32) + ((XT.ushr p2 (1 : Int32)) &&& (3 : Int32))) - (1 : Int32))))])) rfl (by rw [hml]; rfl) (argsL := [(.int (((XT.ushr p0 (8 : Int32)).toInt8.toInt32).toInt8.toInt32 &&& (255 : Int32))), (.int (((XT.ushr p0 (16 : Int32)).toInt8.toInt32).toInt8.toInt32 &&& (255 : Int32))), (.int (((XT.ushr p0 (24 : Int32)).toInt8.toInt32).toInt8.toInt32 &&& (255 : Int32))), (.int ((p1.toInt8.toInt32).toInt8.toInt32 &&& (255 : Int32))), (.int (((2 : Int32) + ((XT.ushr p2 (1 : Int32)) &&& (3 : Int32))) - (1 : Int32)))]) (rest := [(.int (own_seq (((XT.ushr p0 (8 : Int32)).toInt8.toInt32).toInt8.toInt32) (((XT.ushr p0 (16 : Int32)).toInt8.toInt32).toInt8.toInt32) (((XT.ushr p0 (24 : Int32)).toInt8.toInt32).toInt8.toInt32) ((p1.toInt8.toInt32).toInt8.toInt32) (((2 : Int32) + ((XT.ushr p2 (1 : Int32)) &&& (3 : Int32))) - (1 : Int32))))]) (lenOf pd__IIIII_I rfl) rfl (by show 2 * 0 + _ ≤ _; exact Nat.le_of_eq rfl) (hb hby at_130) (fun _ _ => ⟨rfl, e9, (by decide : 1 + 0 ≤ _), (by decide : 5 + 0 ≤ _)⟩)
    dsimp only [Pt.U, Pt.locs, Pt.cells, Pt.slots] at X10 l10 y10 z10 st10 hQ10
    subst l10 y10 z10
    obtain ⟨rfl, N10q, e10⟩ := hQ10
    have N10 := Fr.app N9 N10q
    refine OG.of st10 ?_
    show OG _ _ _ _ _ _ _ (T10.setTop (mkF m 133 #[.val (.int p0), .val (.int p1), .val (.int p2), .val (.ref b1), .val (.int (1 : Int32)), .val (.int ((2 : Int32) + ((XT.ushr p2 (1 : Int32)) &&& (3 : Int32)))), .val (.int (own_seq (((XT.ushr p0 (8 : Int32)).toInt8.toInt32).toInt8.toInt32) (((XT.ushr p0 (16 : Int32)).toInt8.toInt32).toInt8.toInt32) (((XT.ushr p0 (24 : Int32)).toInt8.toInt32).toInt8.toInt32) ((p1.toInt8.toInt32).toInt8.toInt32) (((2 : Int32) + ((XT.ushr p2 (1 : Int32)) &&& (3 : Int32))) - (1 : Int32)))), .val (.int (((XT.ushr p0 (8 : Int32)).toInt8.toInt32).toInt8.toInt32 &&& (255 : Int32))), .val (.int (((XT.ushr p0 (16 : Int32)).toInt8.toInt32).toInt8.toInt32 &&& (255 : Int32))), .val (.int (((XT.ushr p0 (24 : Int32)).toInt8.toInt32).toInt8.toInt32 &&& (255 : Int32))), .val (.int ((p1.toInt8.toInt32).toInt8.toInt32 &&& (255 : Int32))), .val (.int (((2 : Int32) + ((XT.ushr p2 (1 : Int32)) &&& (3 : Int32))) - (1 : Int32)))] [(.int (own_exp (((XT.ushr p0 (8 : Int32)).toInt8.toInt32).toInt8.toInt32 &&& (255 : Int32)) (((XT.ushr p0 (16 : Int32)).toInt8.toInt32).toInt8.toInt32 &&& (255 : Int32)) (((XT.ushr p0 (24 : Int32)).toInt8.toInt32).toInt8.toInt32 &&& (255 : Int32)) ((p1.toInt8.toInt32).toInt8.toInt32 &&& (255 : Int32)) (((2 : Int32) + ((XT.ushr p2 (1 : Int32)) &&& (3 : Int32))) - (1 : Int32)))), (.int (own_seq (((XT.ushr p0 (8 : Int32)).toInt8.toInt32).toInt8.toInt32) (((XT.ushr p0 (16 : Int32)).toInt8.toInt32).toInt8.toInt32) (((XT.ushr p0 (24 : Int32)).toInt8.toInt32).toInt8.toInt32) ((p1.toInt8.toInt32).toInt8.toInt32) (((2 : Int32) + ((XT.ushr p2 (1 : Int32)) &&& (3 : Int32))) - (1 : Int32))))]))
    refine OG.of (A := T10.setTop (mkF m 141 #[.val (.int p0), .val (.int p1), .val (.int p2), .val (.ref b1), .val (.int (1 : Int32)), .val (.int ((2 : Int32) + ((XT.ushr p2 (1 : Int32)) &&& (3 : Int32)))), .val (.int (own_seq (((XT.ushr p0 (8 : Int32)).toInt8.toInt32).toInt8.toInt32) (((XT.ushr p0 (16 : Int32)).toInt8.toInt32).toInt8.toInt32) (((XT.ushr p0 (24 : Int32)).toInt8.toInt32).toInt8.toInt32) ((p1.toInt8.toInt32).toInt8.toInt32) (((2 : Int32) + ((XT.ushr p2 (1 : Int32)) &&& (3 : Int32))) - (1 : Int32)))), .val (.int (((XT.ushr p0 (8 : Int32)).toInt8.toInt32).toInt8.toInt32 &&& (255 : Int32))), .val (.int (((XT.ushr p0 (16 : Int32)).toInt8.toInt32).toInt8.toInt32 &&& (255 : Int32))), .val (.int (((XT.ushr p0 (24 : Int32)).toInt8.toInt32).toInt8.toInt32 &&& (255 : Int32))), .val (.int ((p1.toInt8.toInt32).toInt8.toInt32 &&& (255 : Int32))), .val (.int (((2 : Int32) + ((XT.ushr p2 (1 : Int32)) &&& (3 : Int32))) - (1 : Int32)))] [(.int (1 : Int32))])) (fun oT oK => ?_) ?_
    · show Steps p.tables e below (T10.setTop (mkF m 133 #[.val (.int p0), .val (.int p1), .val (.int p2), .val (.ref b1), .val (.int (1 : Int32)), .val (.int ((2 : Int32) + ((XT.ushr p2 (1 : Int32)) &&& (3 : Int32)))), .val (.int (own_seq (((XT.ushr p0 (8 : Int32)).toInt8.toInt32).toInt8.toInt32) (((XT.ushr p0 (16 : Int32)).toInt8.toInt32).toInt8.toInt32) (((XT.ushr p0 (24 : Int32)).toInt8.toInt32).toInt8.toInt32) ((p1.toInt8.toInt32).toInt8.toInt32) (((2 : Int32) + ((XT.ushr p2 (1 : Int32)) &&& (3 : Int32))) - (1 : Int32)))), .val (.int (((XT.ushr p0 (8 : Int32)).toInt8.toInt32).toInt8.toInt32 &&& (255 : Int32))), .val (.int (((XT.ushr p0 (16 : Int32)).toInt8.toInt32).toInt8.toInt32 &&& (255 : Int32))), .val (.int (((XT.ushr p0 (24 : Int32)).toInt8.toInt32).toInt8.toInt32 &&& (255 : Int32))), .val (.int ((p1.toInt8.toInt32).toInt8.toInt32 &&& (255 : Int32))), .val (.int (((2 : Int32) + ((XT.ushr p2 (1 : Int32)) &&& (3 : Int32))) - (1 : Int32)))] [(.int (own_exp (((XT.ushr p0 (8 : Int32)).toInt8.toInt32).toInt8.toInt32 &&& (255 : Int32)) (((XT.ushr p0 (16 : Int32)).toInt8.toInt32).toInt8.toInt32 &&& (255 : Int32)) (((XT.ushr p0 (24 : Int32)).toInt8.toInt32).toInt8.toInt32 &&& (255 : Int32)) ((p1.toInt8.toInt32).toInt8.toInt32 &&& (255 : Int32)) (((2 : Int32) + ((XT.ushr p2 (1 : Int32)) &&& (3 : Int32))) - (1 : Int32)))), (.int (own_seq (((XT.ushr p0 (8 : Int32)).toInt8.toInt32).toInt8.toInt32) (((XT.ushr p0 (16 : Int32)).toInt8.toInt32).toInt8.toInt32) (((XT.ushr p0 (24 : Int32)).toInt8.toInt32).toInt8.toInt32) ((p1.toInt8.toInt32).toInt8.toInt32) (((2 : Int32) + ((XT.ushr p2 (1 : Int32)) &&& (3 : Int32))) - (1 : Int32))))])) oT
      refine XS.icmpNo X10.here hx rfl (hb hby at_133) rfl (XT.ii_ne_f (own_law1 p0 p1 p2)) ?_
      show Steps p.tables e below (T10.setTop (mkF m 136 #[.val (.int p0), .val (.int p1), .val (.int p2), .val (.ref b1), .val (.int (1 : Int32)), .val (.int ((2 : Int32) + ((XT.ushr p2 (1 : Int32)) &&& (3 : Int32)))), .val (.int (own_seq (((XT.ushr p0 (8 : Int32)).toInt8.toInt32).toInt8.toInt32) (((XT.ushr p0 (16 : Int32)).toInt8.toInt32).toInt8.toInt32) (((XT.ushr p0 (24 : Int32)).toInt8.toInt32).toInt8.toInt32) ((p1.toInt8.toInt32).toInt8.toInt32) (((2 : Int32) + ((XT.ushr p2 (1 : Int32)) &&& (3 : Int32))) - (1 : Int32)))), .val (.int (((XT.ushr p0 (8 : Int32)).toInt8.toInt32).toInt8.toInt32 &&& (255 : Int32))), .val (.int (((XT.ushr p0 (16 : Int32)).toInt8.toInt32).toInt8.toInt32 &&& (255 : Int32))), .val (.int (((XT.ushr p0 (24 : Int32)).toInt8.toInt32).toInt8.toInt32 &&& (255 : Int32))), .val (.int ((p1.toInt8.toInt32).toInt8.toInt32 &&& (255 : Int32))), .val (.int (((2 : Int32) + ((XT.ushr p2 (1 : Int32)) &&& (3 : Int32))) - (1 : Int32)))] [])) _
      refine XS.iconst X10.here hx rfl (hb hby at_136) ?_
      show Steps p.tables e below (T10.setTop (mkF m 137 #[.val (.int p0), .val (.int p1), .val (.int p2), .val (.ref b1), .val (.int (1 : Int32)), .val (.int ((2 : Int32) + ((XT.ushr p2 (1 : Int32)) &&& (3 : Int32)))), .val (.int (own_seq (((XT.ushr p0 (8 : Int32)).toInt8.toInt32).toInt8.toInt32) (((XT.ushr p0 (16 : Int32)).toInt8.toInt32).toInt8.toInt32) (((XT.ushr p0 (24 : Int32)).toInt8.toInt32).toInt8.toInt32) ((p1.toInt8.toInt32).toInt8.toInt32) (((2 : Int32) + ((XT.ushr p2 (1 : Int32)) &&& (3 : Int32))) - (1 : Int32)))), .val (.int (((XT.ushr p0 (8 : Int32)).toInt8.toInt32).toInt8.toInt32 &&& (255 : Int32))), .val (.int (((XT.ushr p0 (16 : Int32)).toInt8.toInt32).toInt8.toInt32 &&& (255 : Int32))), .val (.int (((XT.ushr p0 (24 : Int32)).toInt8.toInt32).toInt8.toInt32 &&& (255 : Int32))), .val (.int ((p1.toInt8.toInt32).toInt8.toInt32 &&& (255 : Int32))), .val (.int (((2 : Int32) + ((XT.ushr p2 (1 : Int32)) &&& (3 : Int32))) - (1 : Int32)))] [(.int (1 : Int32))])) _
      refine XS.goto X10.here hx rfl (pc0 := 137) (pc' := 141) rfl (hb hby at_137) (by decide) (by decide) ?_
      exact oK
    show OG _ _ _ _ _ _ _ (T10.setTop (mkF m 141 #[.val (.int p0), .val (.int p1), .val (.int p2), .val (.ref b1), .val (.int (1 : Int32)), .val (.int ((2 : Int32) + ((XT.ushr p2 (1 : Int32)) &&& (3 : Int32)))), .val (.int (own_seq (((XT.ushr p0 (8 : Int32)).toInt8.toInt32).toInt8.toInt32) (((XT.ushr p0 (16 : Int32)).toInt8.toInt32).toInt8.toInt32) (((XT.ushr p0 (24 : Int32)).toInt8.toInt32).toInt8.toInt32) ((p1.toInt8.toInt32).toInt8.toInt32) (((2 : Int32) + ((XT.ushr p2 (1 : Int32)) &&& (3 : Int32))) - (1 : Int32)))), .val (.int (((XT.ushr p0 (8 : Int32)).toInt8.toInt32).toInt8.toInt32 &&& (255 : Int32))), .val (.int (((XT.ushr p0 (16 : Int32)).toInt8.toInt32).toInt8.toInt32 &&& (255 : Int32))), .val (.int (((XT.ushr p0 (24 : Int32)).toInt8.toInt32).toInt8.toInt32 &&& (255 : Int32))), .val (.int ((p1.toInt8.toInt32).toInt8.toInt32 &&& (255 : Int32))), .val (.int (((2 : Int32) + ((XT.ushr p2 (1 : Int32)) &&& (3 : Int32))) - (1 : Int32)))] [(.int (1 : Int32))]))
    refine OG.retN X10 hx (t := .boolean) Bd.returns (by simp) (hb hby at_141) hlk ?_ (by decide) (by decide)
    try rw [e10]
    exact ⟨rfl, N10⟩
set_option maxRecDepth 65536 in
set_option maxHeartbeats 40000000 in
theorem comes_1 {Post : Tables → Env → Array Value → State → Outcome → State → Prop} (hpost : ∀ tb e args s v u, (limb_1_1.after args s (.returned v) u = true ∧ limb_1_2.after args s (.returned v) u = true ∧ True) → FrameEnd s (.returned v) u (Jvm.fieldLocs frame_1_writes args s ++ Jvm.arrayLocs frame_1_arrays args s ++ Jvm.staticLocs frame_1_statics s) 16 128 → Post tb e args s (.returned v) u) :
    ArmFor flags0 classFile x code maxLocals ret World_1 tables_1 room_1 Calls_1 rest_1 Pre_1 Post := by
  intro l hfl _ _ p e ha hc hk s m args below hf hA hF happ hP
  obtain ⟨hcalls, hrest, hpre⟩ := hP
  obtain ⟨-, -, -, hnamed, -, -, -, hat⟩ := (Spec.applies_iff hf).mp happ
  obtain ⟨hg, hn⟩ := and_e (Cond.before_iff.mp (show (Jvm.Cond.and given_1 narrow_1).before args s = true from hpre))
  obtain ⟨g1, g2⟩ := and_e hg
  obtain ⟨g3, g4⟩ := and_e g2
  obtain ⟨g5, g6⟩ := and_e g4
  obtain ⟨w0, w1, w2, rfl⟩ : ∃ w0 w1 w2 : Value, args = #[w0, w1, w2] := by
    have hs : args.size = 3 := by simpa [Cond.value, given_1] using g1
    obtain ⟨L⟩ := args
    match L, hs with
    | [w0, w1, w2], _ => exact ⟨w0, w1, w2, rfl⟩
  have hw := fun d (hd : d ∈ tables_1) => atoms_spec (ws := Jvm.Cond.code x code maxLocals ret :: tables_1) hat d (List.mem_cons_of_mem _ hd)
  have hfit : Fit s := fun {y c} hc i hi => by
    obtain ⟨ha, rfl⟩ := Array.getElem?_eq_some_iff.mp hc
    have q := List.all_eq_true.mp ((Array.all_eq_true_iff_forall_mem.mp hF) _ (Array.getElem_mem ha)) i (List.mem_range.mpr hi)
    simpa [Array.getElem?_eq_getElem hi] using q
  obtain ⟨i0, ei0⟩ := is_v g3
  obtain rfl : w0 = (.int i0) := Option.some.inj ei0
  obtain ⟨i1, ei1⟩ := is_v g5
  obtain rfl : w1 = (.int i1) := Option.some.inj ei1
  obtain ⟨i2, ei2⟩ := is_v g6
  obtain rfl : w2 = (.int i2) := Option.some.inj ei2
  obtain ⟨n, o, h1, h2, h3, _, L, rfl, ⟨rfl, N⟩, hq⟩ := rm0 l s _ hw tables_1 i0 i1 i2 s.heap s.heap.size (Nat.le_refl _) p e ha hc hk s m _ below hf ((Spec.applies_iff_loose hf).mp happ).1 ⟨rfl, State.Warmed39.refl s, rfl⟩ trivial
  refine ⟨n, _, h1, h2, h3, hpost _ _ _ _ _ _ ⟨Cond.after_iff.mpr rfl, Cond.after_iff.mpr (eq_i res_at (Term.int_eval (1)) rfl), trivial⟩ ⟨hq.1, hq.2.1, (hq.2.2.sift fun y hy => Or.inr (N y hy)).mono (by decide) (by decide)⟩⟩
theorem main_1_1 : Claimed_1_1 := comes_1 fun _ _ _ _ _ _ h hF => ⟨h.1, hF⟩
theorem main_1_2 : Claimed_1_2 := comes_1 fun _ _ _ _ _ _ h hF => ⟨h.2.1, hF⟩
end Jvm.Pilot.@@N@@
namespace Jvm.Pilot.@@N@@
open Jvm Jvm.ClassFile Sem Op Lib Jvm.Free Jvm.Stand Jvm.Pilot.@@N@@.Jvm.D
/-! MADE BY PROGRAM (witnessworld.py) out of the Statement's table words and the real class files: 9 classes; the members and pool entries that the words name. The judged class is class 1, her method 1. -/
namespace start1
open Jvm.ClassFile
def u (s : String) : CpInfo := .utf8 (stringToUtf16 s)
/-- a pool by its gaps: so many unusable entries, then the entry; so many at the end -/
def gap : Nat → List CpInfo → List CpInfo
  | 0, r => r
  | n + 1, r => .unusable :: gap n r
def poolList (es : List (Nat × CpInfo)) (last : Nat) : List CpInfo := es.foldr (fun e r => gap e.1 (e.2 :: r)) (gap last [])
def pool (es : List (Nat × CpInfo)) (last : Nat) : Array CpInfo := ⟨poolList es last⟩
def fileOf (pool : Array CpInfo) (this : Nat) (attrs : Array Attribute := #[]) (ms : Array MethodInfo := #[]) (fl : Nat := 33) (sup : Nat := 0) (ifs : Array Nat := #[]) (fds : Array FieldInfo := #[]) : ClassFile where
  minorVersion := 0
  majorVersion := 65
  constantPool := pool
  accessFlags := fl
  thisClass := this
  superClass := sup
  interfaces := ifs
  fields := fds
  methods := ms
  attributes := attrs
def plain (name : String) (sup : Option ClassId) : Class where
  name := name
  kind := .ordinary
  loader := none
  accessFlags := 33
  super := sup
  interfaces := #[]
  cf := none
  fields := #[]
  methods := #[]
  instanceTypes := #[]
  staticTypes := #[]
  resolved := #[]
  callSites := []
  init := .initialized
  statics := none
  mirror := none

def pool0 : Array CpInfo := pool [(5, u "<init>"), (0, u "()V"), (1, .class_ 10), (1, u "java/lang/Object")] 113

def k0m0 : Method := { name := "<init>", desc := "()V", sig := { parameters := [], returnType := none }, accessFlags := 1, code := none }
/-- java/lang/Object -/
def k0 : Class := { plain "java/lang/Object" none with
  accessFlags := 33
  interfaces := #[]
  cf := some (fileOf pool0 8 #[] #[{ accessFlags := 1, nameIndex := 5, descriptorIndex := 6, attributes := #[] }] 33 0 #[] #[])
  fields := #[]
  methods := #[k0m0]
  instanceTypes := #[]
  staticTypes := #[]
  resolved := Array.replicate 124 none
  statics := none }

def pool1 : Array CpInfo := pool [(2, .class_ 4), (1, u "java/lang/Object"), (0, u "<init>"), (0, u "()V"), (0, .methodref 8 9), (0, .class_ 10), (0, .nameAndType 11 12), (0, u "com/example/gate_to_gate/gatetogate/model/Utf8"), (0, u "sequenceLength"), (0, u "([BII)I"), (0, .methodref 14 15), (0, .class_ 16), (0, .nameAndType 17 18), (0, u "com/example/gate_to_gate/gatetogate/model/Utf8SequenceLengthPinLaw"), (0, u "expected"), (0, u "(IIIII)I"), (0, .methodref 14 20), (0, .nameAndType 21 22), (0, u "in"), (0, u "(III)Z"), (2, u "law")] 5

def k1m0 : Method := { name := "<init>", desc := "()V", sig := { parameters := [], returnType := none }, accessFlags := 1, code := none }
def k1c1 : Code := { maxStack := 6, maxLocals := 12, code := code, exceptionTable := #[], attributes := #[] }
def k1m1 : Method := { name := "law", desc := "(III)Z", sig := { parameters := [.int, .int, .int], returnType := some .boolean }, accessFlags := 9, code := some k1c1 }
def k1c2 : Code := { maxStack := 2, maxLocals := 3, code := method_3_code, exceptionTable := #[], attributes := #[] }
def k1m2 : Method := { name := "in", desc := "(III)Z", sig := { parameters := [.int, .int, .int], returnType := some .boolean }, accessFlags := 10, code := some k1c2 }
def k1c3 : Code := { maxStack := 3, maxLocals := 7, code := method_4_code, exceptionTable := #[], attributes := #[] }
def k1m3 : Method := { name := "expected", desc := "(IIIII)I", sig := { parameters := [.int, .int, .int, .int, .int], returnType := some .int }, accessFlags := 10, code := some k1c3 }
/-- com/example/gate_to_gate/gatetogate/model/Utf8SequenceLengthPinLaw -/
def k1 : Class := { plain "com/example/gate_to_gate/gatetogate/model/Utf8SequenceLengthPinLaw" (some 0) with
  accessFlags := 49
  interfaces := #[]
  cf := some (fileOf pool1 14 #[] #[{ accessFlags := 1, nameIndex := 5, descriptorIndex := 6, attributes := #[] }, { accessFlags := 9, nameIndex := 25, descriptorIndex := 22, attributes := #[] }, { accessFlags := 10, nameIndex := 21, descriptorIndex := 22, attributes := #[] }, { accessFlags := 10, nameIndex := 17, descriptorIndex := 18, attributes := #[] }] 49 2 #[] #[])
  fields := #[]
  methods := #[k1m0, k1m1, k1m2, k1m3]
  instanceTypes := #[]
  staticTypes := #[]
  resolved := Array.replicate 31 none
  statics := none }

def pool2 : Array CpInfo := pool [(2, .class_ 4), (1, u "java/lang/Object"), (0, u "<init>"), (0, u "()V"), (1, .class_ 10), (1, u "com/example/gate_to_gate/gatetogate/model/Utf8"), (73, u "sequenceLength"), (0, u "([BII)I")] 18

def k2m0 : Method := { name := "<init>", desc := "()V", sig := { parameters := [], returnType := none }, accessFlags := 2, code := none }
def k2c1 : Code := { maxStack := 3, maxLocals := 8, code := prog_138_method_7_code, exceptionTable := #[], attributes := #[] }
def k2m1 : Method := { name := "sequenceLength", desc := "([BII)I", sig := { parameters := [(.array .byte), .int, .int], returnType := some .int }, accessFlags := 8, code := some k2c1 }
/-- com/example/gate_to_gate/gatetogate/model/Utf8 -/
def k2 : Class := { plain "com/example/gate_to_gate/gatetogate/model/Utf8" (some 0) with
  accessFlags := 49
  interfaces := #[]
  cf := some (fileOf pool2 8 #[] #[{ accessFlags := 2, nameIndex := 5, descriptorIndex := 6, attributes := #[] }, { accessFlags := 8, nameIndex := 84, descriptorIndex := 85, attributes := #[] }] 49 2 #[] #[])
  fields := #[]
  methods := #[k2m0, k2m1]
  instanceTypes := #[]
  staticTypes := #[]
  resolved := Array.replicate 104 none
  statics := none }

def pool3 : Array CpInfo := pool [(1, u "java/lang/Cloneable"), (0, .class_ 1), (0, u "java/lang/Object"), (0, .class_ 3)] 3

/-- java/lang/Cloneable -/
def k3 : Class := { plain "java/lang/Cloneable" (some 0) with
  accessFlags := 1537
  interfaces := #[]
  cf := some (fileOf pool3 2 #[] #[] 1537 4 #[] #[])
  fields := #[]
  methods := #[]
  instanceTypes := #[]
  staticTypes := #[]
  resolved := Array.replicate 8 none
  statics := none }

def pool4 : Array CpInfo := pool [(1, u "java/io/Serializable"), (0, .class_ 1), (0, u "java/lang/Object"), (0, .class_ 3)] 3

/-- java/io/Serializable -/
def k4 : Class := { plain "java/io/Serializable" (some 0) with
  accessFlags := 1537
  interfaces := #[]
  cf := some (fileOf pool4 2 #[] #[] 1537 4 #[] #[])
  fields := #[]
  methods := #[]
  instanceTypes := #[]
  staticTypes := #[]
  resolved := Array.replicate 8 none
  statics := none }

/-- the primitive byte -/
def k5 : Class := { plain "byte" none with kind := .primitive 'B', accessFlags := 0x411 }
/-- [B -/
def k6 : Class := { plain "[B" (some 0) with kind := .array 5 .byte, interfaces := #[3, 4], accessFlags := 1041 }

/-- the primitive int -/
def k7 : Class := { plain "int" none with kind := .primitive 'I', accessFlags := 0x411 }
/-- [I -/
def k8 : Class := { plain "[I" (some 0) with kind := .array 7 .int, interfaces := #[3, 4], accessFlags := 1041 }

def heap : Heap := #[]
def classes : Array Class := #[k0, k1, k2, k3, k4, k5, k6, k7, k8]
def interned : List (Array UInt16 × Addr) := []
def slotsUsed : Nat := 0
def theMethod : MethodId := ⟨1, 1⟩
def args0 : Array Value := #[.int 7, .int 3, .int 5]
def aboutOver (below : List Frame) : State where
  vm := { classes := classes, interned := interned.toArray }
  heap := heap
  slotsUsed := slotsUsed
  threads := #[{ frames := .invoking theMethod args0 :: below }]
def below0 : List Frame := [.native { method := ⟨0, 0⟩, args := #[] }]
def about1 : State := aboutOver below0
def p0 : Program := .bare "" "" ""
def e0 : Env := launch0.env 0 0 0
theorem w_frames : about1.frames = Frame.invoking theMethod args0 :: below0 := rfl
set_option maxRecDepth 65536 in
theorem w_args : argsFit about1.vm theMethod args0 = true := by decide +kernel
set_option maxRecDepth 65536 in
theorem w_heap : heapFits about1 = true := by decide +kernel
set_option maxRecDepth 65536 in
theorem w_runnable : about1.curStatus? = some .runnable := by decide +kernel
set_option maxRecDepth 65536 in
theorem w_alone : about1.alone = true := by decide +kernel
set_option maxRecDepth 65536 in
theorem w_named : about1.methodNamed? x = some theMethod := by decide +kernel
set_option maxRecDepth 65536 in
theorem w_hears : about1.hears theMethod below0 = true := by decide +kernel
set_option maxRecDepth 65536 in
theorem w_ripe : about1.ripe theMethod args0 below0 = true := by decide +kernel
theorem w_running : about1.status = .running := rfl
set_option maxRecDepth 65536 in
theorem w_room : about1.hasRoom e0.platform room_1 = true :=
  launch0.hasRoom_least _ room_1 (by decide +kernel) (by decide +kernel) (by decide +kernel) (by decide +kernel) (by decide +kernel) (by decide +kernel)
theorem allAtoms_all (ts : List Jvm.Cond) (a : Array Jvm.Value) (st : Jvm.State) : (allAtoms ts).before a st = ts.all (fun c => c.before a st) := by
  induction ts with
  | nil => rfl
  | cons c t ih =>
    show (Jvm.Cond.and c (allAtoms t)).before a st = _
    rw [Jvm.Cond.before_and, ih, List.all_cons]
def words1 : List Jvm.Cond := Jvm.Cond.code x code maxLocals ret :: tables_1
/-- a 'code' word, met by the world's own term for the bytes: nothing is compared byte by byte -/
theorem code_word {y : MethodName} {bytes : ByteArray} {mx : Nat} {rt : Option FieldType} {a : Array Value} {s : State} {m : MethodId} {meth : Method} {c : Code} (h1 : s.methodNamed? y = some m) (h2 : s.vm.method? m = some meth) (h3 : meth.code = some c) (h4 : c.code = bytes)
    (h5 : (c.maxLocals == mx && c.exceptionTable.isEmpty && decide (c.maxStack ≤ mostOperands) && decide (meth.sig.returnType = rt) && !meth.locks && decide (parseMethodDescriptor y.desc = some meth.sig)) = true) : (Jvm.Cond.code y bytes mx rt).before a s = true := by
  simp only [Bool.and_eq_true, beq_iff_eq, Bool.not_eq_true', decide_eq_true_eq] at h5
  obtain ⟨⟨⟨⟨⟨g1, g2⟩, g3⟩, g4⟩, g5⟩, g6⟩ := h5
  simp [Cond.before, Cond.holds, Cond.value, h1, h2, h3, h4, g1, g2, g3, g4, g5, g6]
def isCode : Jvm.Cond → Bool
  | .code _ _ _ _ => true
  | _ => false
theorem all_split {L : List Jvm.Cond} {P : Jvm.Cond → Bool} (h1 : L.all (fun c => isCode c || P c) = true) (h2 : ∀ c ∈ L.filter isCode, P c = true) : L.all P = true := by
  refine List.all_eq_true.mpr fun c hc => ?_
  have h := List.all_eq_true.mp h1 c hc
  rcases Bool.eq_false_or_eq_true (isCode c) with hi | hi
  · exact h2 c (List.mem_filter.mpr ⟨hc, hi⟩)
  · simpa [hi] using h
set_option maxRecDepth 65536 in
theorem w_c0 : (Jvm.Cond.code x code maxLocals ret).before args0 about1 = true := code_word (m := ⟨1, 1⟩) (meth := k1m1) (c := k1c1) (by decide +kernel) rfl rfl rfl (by decide +kernel)
set_option maxRecDepth 65536 in
theorem w_c1 : (Jvm.Cond.code ({ cls := "com/example/gate_to_gate/gatetogate/model/Utf8", name := "sequenceLength", desc := "([BII)I" } : Jvm.MethodName) prog_138_method_7_code (8 : Nat) (Option.some Jvm.ClassFile.FieldType.int)).before args0 about1 = true := code_word (m := ⟨2, 1⟩) (meth := k2m1) (c := k2c1) (by decide +kernel) rfl rfl rfl (by decide +kernel)
set_option maxRecDepth 65536 in
theorem w_c2 : (Jvm.Cond.code ({ cls := "com/example/gate_to_gate/gatetogate/model/Utf8SequenceLengthPinLaw", name := "expected", desc := "(IIIII)I" } : Jvm.MethodName) method_4_code (7 : Nat) (Option.some Jvm.ClassFile.FieldType.int)).before args0 about1 = true := code_word (m := ⟨1, 3⟩) (meth := k1m3) (c := k1c3) (by decide +kernel) rfl rfl rfl (by decide +kernel)
set_option maxRecDepth 65536 in
theorem w_c3 : (Jvm.Cond.code ({ cls := "com/example/gate_to_gate/gatetogate/model/Utf8SequenceLengthPinLaw", name := "in", desc := "(III)Z" } : Jvm.MethodName) method_3_code (3 : Nat) (Option.some Jvm.ClassFile.FieldType.boolean)).before args0 about1 = true := code_word (m := ⟨1, 2⟩) (meth := k1m2) (c := k1c2) (by decide +kernel) rfl rfl rfl (by decide +kernel)
def codes1 : List Jvm.Cond := [Jvm.Cond.code x code maxLocals ret, Jvm.Cond.code ({ cls := "com/example/gate_to_gate/gatetogate/model/Utf8", name := "sequenceLength", desc := "([BII)I" } : Jvm.MethodName) prog_138_method_7_code (8 : Nat) (Option.some Jvm.ClassFile.FieldType.int), Jvm.Cond.code ({ cls := "com/example/gate_to_gate/gatetogate/model/Utf8SequenceLengthPinLaw", name := "expected", desc := "(IIIII)I" } : Jvm.MethodName) method_4_code (7 : Nat) (Option.some Jvm.ClassFile.FieldType.int), Jvm.Cond.code ({ cls := "com/example/gate_to_gate/gatetogate/model/Utf8SequenceLengthPinLaw", name := "in", desc := "(III)Z" } : Jvm.MethodName) method_3_code (3 : Nat) (Option.some Jvm.ClassFile.FieldType.boolean)]
set_option maxRecDepth 65536 in
theorem codes_eq : words1.filter isCode = codes1 := rfl
theorem w_codes : ∀ c ∈ words1.filter isCode, c.before args0 about1 = true := by
  rw [codes_eq]
  intro c hc
  simp only [codes1, List.mem_cons, List.not_mem_nil, or_false] at hc
  rcases hc with rfl | rfl | rfl | rfl
  · exact w_c0
  · exact w_c1
  · exact w_c2
  · exact w_c3
set_option maxRecDepth 65536 in
theorem w_t1 : words1.all (fun c => isCode c || c.before args0 about1) = true := by decide +kernel
theorem w_tables : (allAtoms (Jvm.Cond.code x code maxLocals ret :: tables_1)).before args0 about1 = true := by
  rw [allAtoms_all]
  show words1.all (fun c => c.before args0 about1) = true
  refine all_split ?_ w_codes
  rw [w_t1]
set_option maxRecDepth 65536 in
theorem w_case : (Jvm.Cond.and given_1 narrow_1).before args0 about1 = true := by decide +kernel
theorem w_applies : (headSpec (Jvm.Cond.code x code maxLocals ret :: tables_1) room_1).applies x e0.platform about1 = true :=
  (Spec.applies_iff w_frames).mpr ⟨w_running, w_runnable, w_alone, w_named, w_hears, w_ripe, w_room, w_tables⟩
theorem atStart : AtStart classFile x code maxLocals ret World_1 tables_1 room_1 Calls_1 rest_1 Pre_1 launch0 p0 e0 about1 theMethod args0 below0 :=
  ⟨lists_1, trivial, launch0.admits_env _ _ _, launch0.least_env, fairChoices_fair.cas, fairChoices_fair.clock, w_frames, w_args, w_heap, w_applies, trivial, trivial, w_case⟩
end start1
theorem witness_1 : WitnessClaimed_1 := ⟨start1.p0, start1.e0, start1.about1, start1.theMethod, start1.args0, start1.below0, start1.atStart⟩
end Jvm.Pilot.@@N@@
