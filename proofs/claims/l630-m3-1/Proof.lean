import JvmDerived
import JvmDerived.Pilot.@@N@@Statement
import JvmDerived.Pilot.@@N@@Code
set_option linter.unusedVariables false
set_option linter.unusedSimpArgs false
namespace Jvm.Pilot.@@N@@
open Jvm Jvm.ClassFile Sem Op Lib Jvm.Free Jvm.Stand Jvm.LawKit Jvm.RoadKit Bundle Jvm.Pilot.@@N@@.Jvm.D
section Own
variable {p : Program} {l : Launch} {e : Env} {R : Room} {s : State} {m : MethodId} {args : Array Value} {below : List Frame} {meth : Method} {c : Code} {T : State} {locs : List Loc} {cells slots : Nat} {k n : Nat} {P : Option Value → Heap → List Loc → Prop} {A B : State}
/-- from S0 the run comes to a return with what P says -/
def OG (p : Program) (e : Env) (below : List Frame) (s : State) (k n : Nat) (P : Option Value → Heap → List Loc → Prop) (S0 : State) : Prop :=
  ∃ s₂ o, Steps p.tables e below S0 s₂ ∧ s₂.status = .running ∧ Ended s₂ below o ∧ ∃ v L, o = .returned v ∧ P v s₂.heap L ∧ FrameEnd s o s₂ L k n
theorem OG.trans (h : Steps p.tables e below B A) (g : OG p e below s k n P A) : OG p e below s k n P B := by
  obtain ⟨s₂, o, h1, r⟩ := g
  exact ⟨s₂, o, h.trans h1, r⟩
theorem OG.of (h : ∀ t, Steps p.tables e below A t → Steps p.tables e below B t) (g : OG p e below s k n P A) : OG p e below s k n P B := by
  obtain ⟨s₂, o, h1, r⟩ := g
  exact ⟨s₂, o, h _ h1, r⟩
theorem OG.retN (X : Stand p l e R s m args below meth c T locs cells slots) (hx : p.tables.exec = Jvm.exec) {pc : Nat} {Ls : Array Slot} {z : Int32} {t : FieldType} {rest : List Value} (hret : meth.sig.returnType = some t) (ht : t = .boolean ∨ t = .byte ∨ t = .char ∨ t = .short) (hd : decode c.code pc = .ok (.ireturn, 1)) (hlk : meth.locks = false)
    (hP : P (some (.int (nar t z))) T.heap locs) (hc : cells ≤ k) (hs : slots ≤ n) : OG p e below s k n P (T.setTop (mkF m pc Ls (.int z :: rest))) := by
  obtain ⟨fs, hr, hrun, hended, hW, hsame⟩ := X.leave (v := some (.int (nar t z))) (fun h => by rw [hret] at h; cases h) hlk
  exact ⟨_, _, Jvm.RoadKit.retN X hx hret ht hd hr, hrun, hended, _, _, rfl, hP, ⟨_, rfl⟩, hW, hsame.mono hc hs⟩
theorem OG.retI (X : Stand p l e R s m args below meth c T locs cells slots) (hx : p.tables.exec = Jvm.exec) {pc : Nat} {Ls : Array Slot} {z : Int32} {rest : List Value} (hret : meth.sig.returnType = some .int) (hd : decode c.code pc = .ok (.ireturn, 1)) (hlk : meth.locks = false)
    (hP : P (some (.int z)) T.heap locs) (hc : cells ≤ k) (hs : slots ≤ n) : OG p e below s k n P (T.setTop (mkF m pc Ls (.int z :: rest))) := by
  obtain ⟨fs, hr, hrun, hended, hW, hsame⟩ := X.leave (v := some (.int z)) (fun h => by rw [hret] at h; cases h) hlk
  exact ⟨_, _, retOut X hx hret rfl (Or.inl ⟨rfl, Or.inl rfl, _, rfl⟩) hd hr, hrun, hended, _, _, rfl, hP, ⟨_, rfl⟩, hW, hsame.mono hc hs⟩
theorem OG.retJ (X : Stand p l e R s m args below meth c T locs cells slots) (hx : p.tables.exec = Jvm.exec) {pc : Nat} {Ls : Array Slot} {z : Int64} {rest : List Value} (hret : meth.sig.returnType = some .long) (hd : decode c.code pc = .ok (.lreturn, 1)) (hlk : meth.locks = false)
    (hP : P (some (.long z)) T.heap locs) (hc : cells ≤ k) (hs : slots ≤ n) : OG p e below s k n P (T.setTop (mkF m pc Ls (.long z :: rest))) := by
  obtain ⟨fs, hr, hrun, hended, hW, hsame⟩ := X.leave (v := some (.long z)) (fun h => by rw [hret] at h; cases h) hlk
  exact ⟨_, _, retOut X hx hret rfl (Or.inr (Or.inl ⟨rfl, rfl, _, rfl⟩)) hd hr, hrun, hended, _, _, rfl, hP, ⟨_, rfl⟩, hW, hsame.mono hc hs⟩
theorem OG.retA (X : Stand p l e R s m args below meth c T locs cells slots) (hx : p.tables.exec = Jvm.exec) {pc : Nat} {Ls : Array Slot} {w : Value} {t : FieldType} {rest : List Value} (hret : meth.sig.returnType = some t) (ht : t.isReference = true) (hw : w.isRef = true) (hd : decode c.code pc = .ok (.areturn, 1)) (hlk : meth.locks = false)
    (hP : P (some w) T.heap locs) (hc : cells ≤ k) (hs : slots ≤ n) : OG p e below s k n P (T.setTop (mkF m pc Ls (w :: rest))) := by
  obtain ⟨fs, hr, hrun, hended, hW, hsame⟩ := X.leave (v := some w) (fun h => by rw [hret] at h; cases h) hlk
  have hn : narrow t w = w := by cases t <;> first | (cases ht; done) | rfl
  exact ⟨_, _, retOut X hx hret hn (Or.inr (Or.inr (Or.inr (Or.inr ⟨rfl, ht, hw⟩)))) hd hr, hrun, hended, _, _, rfl, hP, ⟨_, rfl⟩, hW, hsame.mono hc hs⟩
theorem OG.retV (X : Stand p l e R s m args below meth c T locs cells slots) (hx : p.tables.exec = Jvm.exec) {pc : Nat} {Ls : Array Slot} (hret : meth.sig.returnType = none) (hd : decode c.code pc = .ok (.return_, 1)) (hlk : meth.locks = false)
    (hP : P none T.heap locs) (hc : cells ≤ k) (hs : slots ≤ n) : OG p e below s k n P (T.setTop (mkF m pc Ls [])) := by
  obtain ⟨fs, hr, hrun, hended, hW, hsame⟩ := X.leave (v := none) (fun _ => rfl) hlk
  exact ⟨_, _, X.returnOut hx hret hd hr, hrun, hended, _, _, rfl, hP, ⟨_, rfl⟩, hW, hsame.mono hc hs⟩
theorem own_narB {z : Int32} (h : z = 0 ∨ z = 1) : nar .boolean z = z := by rcases h with rfl | rfl <;> rfl
theorem own_ite01 {c : Prop} [Decidable c] : (if c then (1 : Int32) else 0) = 0 ∨ (if c then (1 : Int32) else 0) = 1 := by by_cases h : c <;> simp [h]
theorem own_eqI {args : Array Value} {first st : State} {o : Option Outcome} {idx : List Nat} {t : Term} {x : Int32} (h : (Jvm.Cond.eq t (.int x)).value args first o st idx = some true) : t.eval args first o idx st = some (.int x) := by
  obtain ⟨a, b, ha, hb, k1, k2⟩ := cmp_v (Or.inl h)
  obtain rfl : Value.int x = b := Option.some.inj hb
  obtain ⟨z, rfl⟩ := k2
  have hz := gotT (P := z = x) (by simp [Cond.value, ha, hb]) h
  rw [ha, hz]
/-- the array at a (of the kind ty) holds v at the place j -/
def ORd (Z : State) (h : Heap) (a : Addr) (ty : FieldType) (j : Int32) (v : Value) : Prop := ∃ cl : Cell, Arr Z h a cl ty ∧ ¬ (j < 0 ∨ cl.slots.size ≤ j.toNatClampNeg) ∧ cl.slots[j.toNatClampNeg]? = some v
theorem own_rd {Z : State} {h : Heap} {a : Addr} {kc : ClassId} {ty : FieldType} {z j : Int32} {vs : List Value} {d v : Value} (F : Arv Z h a kc ty z vs d) (hj : ¬ j < 0 ∧ j < z) (hv : vs.getD j.toNatClampNeg d = v) : ORd Z h a ty j v := by
  obtain ⟨cl, A, -, S, -, H, -⟩ := F
  exact ⟨cl, A, inb_of S hj, H.at (inb_of S hj) hv⟩
theorem ORd.ext {Z : State} {h h' : Heap} {a : Addr} {ty : FieldType} {j : Int32} {v : Value} (F : ORd Z h a ty j v) (E : Ext h h') : ORd Z h' a ty j v := by
  obtain ⟨cl, A, r⟩ := F; exact ⟨cl, A.ext E, r⟩
theorem ORd.other {Z : State} {h h' : Heap} {a b : Addr} {ty : FieldType} {j : Int32} {v w : Value} {sl : Nat} (F : ORd Z h a ty j v) (W : Wr h h' b sl w) (q : a ≠ b) : ORd Z h' a ty j v := by
  obtain ⟨cl, A, r⟩ := F; exact ⟨cl, A.other W q, r⟩
theorem ORd.keep {Z : State} {h h' : Heap} {a : Addr} {ty : FieldType} {j : Int32} {v : Value} {ws : List Addr} (F : ORd Z h a ty j v) (K : Keep h h' ws) (q : a ∉ ws) : ORd Z h' a ty j v := by
  obtain ⟨cl, A, r⟩ := F; exact ⟨cl, ⟨K.2.1 a cl A.1 q, A.2⟩, r⟩
theorem ORd.lt {Z : State} {h : Heap} {a : Addr} {ty : FieldType} {j : Int32} {v : Value} (F : ORd Z h a ty j v) : a < h.size := by
  obtain ⟨cl, A, r⟩ := F; exact A.lt
theorem ORd.start {Z : State} {args : Array Value} {t : Term} {a : Addr} {ty : FieldType} {j : Int32} {v : Value} (ev : t.eval args Z none [] Z = some (.ref a)) (hx : (Jvm.Cond.arrayOf t ty).value args Z none Z [] = some true) (hj : ¬ j < 0) (he : (Term.elem t (.int j)).eval args Z none [] Z = some v) : ORd Z Z.heap a ty j v := by
  obtain ⟨c, A⟩ := Arr.start ev hx
  have hA : Z.arrayAt? a = some c := Arr.fin (Vm.Alike.refl _) A
  rw [elem_f ev (Term.int_eval j) hA hj] at he
  exact ⟨c, A, fun q => q.elim hj fun q => (by rw [Array.getElem?_eq_none q] at he; cases he), he⟩
end Own


def OE0 (Z : State) (h : Heap) (f : String) : Prop := ∃ w : Addr, Sta Z h "com/example/kind4/kind4/model/Primitive" f "Lcom/example/kind4/kind4/model/Primitive;" (.ref w) ∧ Exa Z h w "com/example/kind4/kind4/model/Primitive" ∧ Fld Z h w "com/example/kind4/kind4/model/Primitive" "sizeUnit" "Ljava/lang/String;" .null
def OE1 (Z : State) (h : Heap) (f : String) : Prop := ∃ w y : Addr, Sta Z h "com/example/kind4/kind4/model/Primitive" f "Lcom/example/kind4/kind4/model/Primitive;" (.ref w) ∧ Exa Z h w "com/example/kind4/kind4/model/Primitive" ∧ Fld Z h w "com/example/kind4/kind4/model/Primitive" "sizeUnit" "Ljava/lang/String;" (.ref y)
def own_isnt (r : Value) : Int32 := if r = Value.null then (0 : Int32) else (1 : Int32)
theorem own_isnt01 (r : Value) : own_isnt r = 0 ∨ own_isnt r = 1 := by unfold own_isnt; by_cases h : r = Value.null <;> simp [h]

theorem d1_0 : decode method_2_code 0 = .ok (.iload_n 0, 1) := by decide +kernel
theorem d1_1 : decode method_2_code 1 = .ok (.ifCond .ne 7, 3) := by decide +kernel
theorem d1_4 : decode method_2_code 4 = .ok (.getstatic 7, 3) := by decide +kernel
theorem d1_7 : decode method_2_code 7 = .ok (.areturn, 1) := by decide +kernel
theorem d1_8 : decode method_2_code 8 = .ok (.iload_n 0, 1) := by decide +kernel
theorem d1_9 : decode method_2_code 9 = .ok (.iconst 1, 1) := by decide +kernel
theorem d1_10 : decode method_2_code 10 = .ok (.if_icmp .ne 7, 3) := by decide +kernel
theorem d1_13 : decode method_2_code 13 = .ok (.getstatic 13, 3) := by decide +kernel
theorem d1_16 : decode method_2_code 16 = .ok (.areturn, 1) := by decide +kernel
theorem d1_17 : decode method_2_code 17 = .ok (.iload_n 0, 1) := by decide +kernel
theorem d1_18 : decode method_2_code 18 = .ok (.iconst 2, 1) := by decide +kernel
theorem d1_19 : decode method_2_code 19 = .ok (.if_icmp .ne 7, 3) := by decide +kernel
theorem d1_22 : decode method_2_code 22 = .ok (.getstatic 16, 3) := by decide +kernel
theorem d1_25 : decode method_2_code 25 = .ok (.areturn, 1) := by decide +kernel
theorem d1_26 : decode method_2_code 26 = .ok (.iload_n 0, 1) := by decide +kernel
theorem d1_27 : decode method_2_code 27 = .ok (.iconst 3, 1) := by decide +kernel
theorem d1_28 : decode method_2_code 28 = .ok (.if_icmp .ne 7, 3) := by decide +kernel
theorem d1_31 : decode method_2_code 31 = .ok (.getstatic 19, 3) := by decide +kernel
theorem d1_34 : decode method_2_code 34 = .ok (.areturn, 1) := by decide +kernel
theorem d1_35 : decode method_2_code 35 = .ok (.iload_n 0, 1) := by decide +kernel
theorem d1_36 : decode method_2_code 36 = .ok (.iconst 4, 1) := by decide +kernel
theorem d1_37 : decode method_2_code 37 = .ok (.if_icmp .ne 7, 3) := by decide +kernel
theorem d1_40 : decode method_2_code 40 = .ok (.getstatic 22, 3) := by decide +kernel
theorem d1_43 : decode method_2_code 43 = .ok (.areturn, 1) := by decide +kernel
theorem d1_44 : decode method_2_code 44 = .ok (.iload_n 0, 1) := by decide +kernel
theorem d1_45 : decode method_2_code 45 = .ok (.iconst 5, 1) := by decide +kernel
theorem d1_46 : decode method_2_code 46 = .ok (.if_icmp .ne 7, 3) := by decide +kernel
theorem d1_49 : decode method_2_code 49 = .ok (.getstatic 25, 3) := by decide +kernel
theorem d1_52 : decode method_2_code 52 = .ok (.areturn, 1) := by decide +kernel
theorem d1_53 : decode method_2_code 53 = .ok (.iload_n 0, 1) := by decide +kernel
theorem d1_54 : decode method_2_code 54 = .ok (.bipush 6, 2) := by decide +kernel
theorem d1_56 : decode method_2_code 56 = .ok (.if_icmp .ne 7, 3) := by decide +kernel
theorem d1_59 : decode method_2_code 59 = .ok (.getstatic 28, 3) := by decide +kernel
theorem d1_62 : decode method_2_code 62 = .ok (.areturn, 1) := by decide +kernel
theorem d1_63 : decode method_2_code 63 = .ok (.iload_n 0, 1) := by decide +kernel
theorem d1_64 : decode method_2_code 64 = .ok (.bipush 7, 2) := by decide +kernel
theorem d1_66 : decode method_2_code 66 = .ok (.if_icmp .ne 7, 3) := by decide +kernel
theorem d1_69 : decode method_2_code 69 = .ok (.getstatic 31, 3) := by decide +kernel
theorem d1_72 : decode method_2_code 72 = .ok (.areturn, 1) := by decide +kernel
theorem d1_73 : decode method_2_code 73 = .ok (.iload_n 0, 1) := by decide +kernel
theorem d1_74 : decode method_2_code 74 = .ok (.bipush 8, 2) := by decide +kernel
theorem d1_76 : decode method_2_code 76 = .ok (.if_icmp .ne 7, 3) := by decide +kernel
theorem d1_79 : decode method_2_code 79 = .ok (.getstatic 34, 3) := by decide +kernel
theorem d1_82 : decode method_2_code 82 = .ok (.areturn, 1) := by decide +kernel
theorem d1_83 : decode method_2_code 83 = .ok (.iload_n 0, 1) := by decide +kernel
theorem d1_84 : decode method_2_code 84 = .ok (.bipush 9, 2) := by decide +kernel
theorem d1_86 : decode method_2_code 86 = .ok (.if_icmp .ne 7, 3) := by decide +kernel
theorem d1_89 : decode method_2_code 89 = .ok (.getstatic 37, 3) := by decide +kernel
theorem d1_92 : decode method_2_code 92 = .ok (.areturn, 1) := by decide +kernel
theorem d1_93 : decode method_2_code 93 = .ok (.iload_n 0, 1) := by decide +kernel
theorem d1_94 : decode method_2_code 94 = .ok (.bipush 10, 2) := by decide +kernel
theorem d1_96 : decode method_2_code 96 = .ok (.if_icmp .ne 7, 3) := by decide +kernel
theorem d1_99 : decode method_2_code 99 = .ok (.getstatic 40, 3) := by decide +kernel
theorem d1_102 : decode method_2_code 102 = .ok (.areturn, 1) := by decide +kernel
theorem d1_103 : decode method_2_code 103 = .ok (.iload_n 0, 1) := by decide +kernel
theorem d1_104 : decode method_2_code 104 = .ok (.bipush 11, 2) := by decide +kernel
theorem d1_106 : decode method_2_code 106 = .ok (.if_icmp .ne 7, 3) := by decide +kernel
theorem d1_109 : decode method_2_code 109 = .ok (.getstatic 43, 3) := by decide +kernel
theorem d1_112 : decode method_2_code 112 = .ok (.areturn, 1) := by decide +kernel
theorem d1_113 : decode method_2_code 113 = .ok (.iload_n 0, 1) := by decide +kernel
theorem d1_114 : decode method_2_code 114 = .ok (.bipush 12, 2) := by decide +kernel
theorem d1_116 : decode method_2_code 116 = .ok (.if_icmp .ne 7, 3) := by decide +kernel
theorem d1_119 : decode method_2_code 119 = .ok (.getstatic 46, 3) := by decide +kernel
theorem d1_122 : decode method_2_code 122 = .ok (.areturn, 1) := by decide +kernel
theorem d1_123 : decode method_2_code 123 = .ok (.getstatic 49, 3) := by decide +kernel
theorem d1_126 : decode method_2_code 126 = .ok (.areturn, 1) := by decide +kernel
theorem pn_1 : plainName "com/example/kind4/kind4/model/PrimitiveSizedPinLaw" = true := by first | (simp [plainName, overriddenIn]; done) | decide +kernel
theorem ef_1 (m : MethodId) (x0 : Int32) : entryFrame m #[(.int x0)] 1 = mkF m 0 #[.val (.int x0)] [] := by first | (simp [entryFrame, mkF, argsToLocals, Value.category]; done) | rfl
def Q1 (Z : State) (k0 : Int32) (h0 : Heap) (n0 : Nat) (v : Option Value) (h : Heap) (L : List Loc) : Prop := ∃ w : Addr, v = some (.ref w) ∧ Fr n0 L ∧ h = h0 ∧ Exa Z h0 w "com/example/kind4/kind4/model/Primitive" ∧ (((k0 = (0 : Int32) ∨ k0 = (2 : Int32)) ∧ ∃ y : Addr, Fld Z h0 w "com/example/kind4/kind4/model/Primitive" "sizeUnit" "Ljava/lang/String;" (.ref y)) ∨ (¬ k0 = (0 : Int32) ∧ ¬ k0 = (2 : Int32) ∧ Fld Z h0 w "com/example/kind4/kind4/model/Primitive" "sizeUnit" "Ljava/lang/String;" .null))
set_option maxRecDepth 65536 in
set_option maxHeartbeats 40000000 in
theorem rm1 (l : Launch) (Z : State) (a0 : Array Value) (hw : ∀ d ∈ tables_1, d.before a0 Z = true) (ws : List Jvm.Cond) (k0 : Int32) (h0 : Heap) (n0 : Nat) (Z0 : n0 ≤ h0.size) (P_STRING : OE1 Z h0 "STRING") (P_BOOLEAN : OE0 Z h0 "BOOLEAN") (P_INT64 : OE0 Z h0 "INT64") (P_MONEY : OE0 Z h0 "MONEY") (P_CHAR : OE0 Z h0 "CHAR") (P_DOUBLE : OE0 Z h0 "DOUBLE") (P_BLOB : OE1 Z h0 "BLOB") (P_INT32 : OE0 Z h0 "INT32") (P_INT16 : OE0 Z h0 "INT16") (P_FLOAT : OE0 Z h0 "FLOAT") (P_UNBOUNDED_STRING : OE0 Z h0 "UNBOUNDED_STRING") (P_INT8 : OE0 Z h0 "INT8") (P_DATE : OE0 Z h0 "DATE") (P_DATETIME : OE0 Z h0 "DATETIME") :
    MetFree l (⟨"com/example/kind4/kind4/model/PrimitiveSizedPinLaw", "pick", "(I)Lcom/example/kind4/kind4/model/Primitive;"⟩ : MethodName) (head1 (Jvm.Cond.code (⟨"com/example/kind4/kind4/model/PrimitiveSizedPinLaw", "pick", "(I)Lcom/example/kind4/kind4/model/Primitive;"⟩ : MethodName) method_2_code 1 (some (.object "com/example/kind4/kind4/model/Primitive")) :: ws) ({ frames := 0, cells := 0, slots := 0, locals := 0 } : Room)) (fun aA oU => aA = #[(.int k0)] ∧ Z.Warmed39 oU.vm ∧ oU.heap = h0) (fun _ _ _ _ _ => True) (fun _ oU oO oU' => ∃ oV oL, oO = .returned oV ∧ Q1 Z k0 h0 n0 oV oU'.heap oL ∧ FrameEnd oU oO oU' oL ({ frames := 0, cells := 0, slots := 0, locals := 0 } : Room).cells ({ frames := 0, cells := 0, slots := 0, locals := 0 } : Room).slots) := by
  refine MetFree.of_bodySF (plainFor_of_name pn_1) hisR ?_
  intro p e s m args below meth c s₁ Bd hml0 hP hK
  obtain ⟨rfl, hZ, hh⟩ := hP
  have hx := Bd.exec
  have hby := Bd.bytes
  have hlk := BodyLoose.notSynchronized Bd
  have hml : c.maxLocals = 1 := hml0
  have hown : s.vm.findClass "com/example/kind4/kind4/model/PrimitiveSizedPinLaw" = some m.cls := findClass_of_methodNamed Bd.named
  have hnm := (name_of_methodNamed Bd.named Bd.method).1
  have X0 : Stand p l e ({ frames := 0, cells := 0, slots := 0, locals := 0 } : Room) s m #[(.int k0)] below meth c s₁ [] 0 0 := Stand.of_body Bd
  have e0 : s₁.heap = h0 := by rw [← hh, Bd.state]; rfl
  have N0 := Fr.nil n0
  show OG p e below s ({ frames := 0, cells := 0, slots := 0, locals := 0 } : Room).cells ({ frames := 0, cells := 0, slots := 0, locals := 0 } : Room).slots (Q1 Z k0 h0 n0) _
  refine OG.of (fun t k => castTop (ef_1 m k0) k) ?_
  show OG p e below s _ _ _ (s₁.setTop (mkF m 0 #[.val (.int k0)] []))
  refine OG.of (A := s₁.setTop (mkF m 1 #[.val (.int k0)] [(.int k0)])) (fun t k => ?_) ?_
  · show Steps p.tables e below (s₁.setTop (mkF m 0 #[.val (.int k0)] [])) t
    refine XS.iloadN X0.here hx rfl (hb hby d1_0) rfl  ?_
    exact k
  show OG _ _ _ _ _ _ _ (s₁.setTop (mkF m 1 #[.val (.int k0)] [(.int k0)]))
  by_cases hc1_1 : k0 = (0 : Int32)
  · refine OG.of (fun t k => XS.ifNo X0.here hx rfl (hb hby d1_1) rfl (XT.i0_ne_f hc1_1) k) ?_
    show OG _ _ _ _ _ _ _ (s₁.setTop (mkF m 4 #[.val (.int k0)] []))
    obtain ⟨w, y, hs, he, hf⟩ := P_STRING
    obtain ⟨T1, X1, e1, st1⟩ := getS2 X0 hx hZ hown (host := "") (Or.inl (hw _ (List.mem_of_getElem? (i := 5) rfl))) Via.refl e0 hs (g := (mkF m 4 #[.val (.int k0)] [])) rfl (hb hby d1_4)
    refine OG.of st1 ?_
    show OG _ _ _ _ _ _ _ (T1.setTop (mkF m 7 #[.val (.int k0)] [(.ref w)]))
    refine OG.retA X1 hx Bd.returns rfl rfl (hb hby d1_7) hlk ?_ (by decide) (by decide)
    rw [e1]
    exact ⟨w, rfl, N0, rfl, he, Or.inl ⟨Or.inl hc1_1, y, hf⟩⟩
  · refine OG.of (fun t k => XS.ifYes X0.here hx rfl (pc0 := 1) (pc' := 8) rfl (hb hby d1_1) rfl (XT.i0_ne_t hc1_1) (by decide) (by decide) k) ?_
    show OG _ _ _ _ _ _ _ (s₁.setTop (mkF m 8 #[.val (.int k0)] []))
    refine OG.of (A := s₁.setTop (mkF m 10 #[.val (.int k0)] [(.int (1 : Int32)), (.int k0)])) (fun t k => ?_) ?_
    · show Steps p.tables e below (s₁.setTop (mkF m 8 #[.val (.int k0)] [])) t
      refine XS.iloadN X0.here hx rfl (hb hby d1_8) rfl  ?_
      show Steps p.tables e below (s₁.setTop (mkF m 9 #[.val (.int k0)] [(.int k0)])) _
      refine XS.iconst X0.here hx rfl (hb hby d1_9) ?_
      exact k
    show OG _ _ _ _ _ _ _ (s₁.setTop (mkF m 10 #[.val (.int k0)] [(.int (1 : Int32)), (.int k0)]))
    by_cases hc10_2 : k0 = (1 : Int32)
    · refine OG.of (fun t k => XS.icmpNo X0.here hx rfl (hb hby d1_10) rfl (XT.ii_ne_f hc10_2) k) ?_
      show OG _ _ _ _ _ _ _ (s₁.setTop (mkF m 13 #[.val (.int k0)] []))
      obtain ⟨w, hs, he, hf⟩ := P_UNBOUNDED_STRING
      obtain ⟨T2, X2, e2, st2⟩ := getS2 X0 hx hZ hown (host := "") (Or.inl (hw _ (List.mem_of_getElem? (i := 38) rfl))) Via.refl e0 hs (g := (mkF m 13 #[.val (.int k0)] [])) rfl (hb hby d1_13)
      refine OG.of st2 ?_
      show OG _ _ _ _ _ _ _ (T2.setTop (mkF m 16 #[.val (.int k0)] [(.ref w)]))
      refine OG.retA X2 hx Bd.returns rfl rfl (hb hby d1_16) hlk ?_ (by decide) (by decide)
      rw [e2]
      exact ⟨w, rfl, N0, rfl, he, Or.inr ⟨hc1_1, (fun q => absurd (q.symm.trans hc10_2) (by decide)), hf⟩⟩
    · refine OG.of (fun t k => XS.icmpYes X0.here hx rfl (pc0 := 10) (pc' := 17) rfl (hb hby d1_10) rfl (XT.ii_ne_t hc10_2) (by decide) (by decide) k) ?_
      show OG _ _ _ _ _ _ _ (s₁.setTop (mkF m 17 #[.val (.int k0)] []))
      refine OG.of (A := s₁.setTop (mkF m 19 #[.val (.int k0)] [(.int (2 : Int32)), (.int k0)])) (fun t k => ?_) ?_
      · show Steps p.tables e below (s₁.setTop (mkF m 17 #[.val (.int k0)] [])) t
        refine XS.iloadN X0.here hx rfl (hb hby d1_17) rfl  ?_
        show Steps p.tables e below (s₁.setTop (mkF m 18 #[.val (.int k0)] [(.int k0)])) _
        refine XS.iconst X0.here hx rfl (hb hby d1_18) ?_
        exact k
      show OG _ _ _ _ _ _ _ (s₁.setTop (mkF m 19 #[.val (.int k0)] [(.int (2 : Int32)), (.int k0)]))
      by_cases hc19_3 : k0 = (2 : Int32)
      · refine OG.of (fun t k => XS.icmpNo X0.here hx rfl (hb hby d1_19) rfl (XT.ii_ne_f hc19_3) k) ?_
        show OG _ _ _ _ _ _ _ (s₁.setTop (mkF m 22 #[.val (.int k0)] []))
        obtain ⟨w, y, hs, he, hf⟩ := P_BLOB
        obtain ⟨T3, X3, e3, st3⟩ := getS2 X0 hx hZ hown (host := "") (Or.inl (hw _ (List.mem_of_getElem? (i := 30) rfl))) Via.refl e0 hs (g := (mkF m 22 #[.val (.int k0)] [])) rfl (hb hby d1_22)
        refine OG.of st3 ?_
        show OG _ _ _ _ _ _ _ (T3.setTop (mkF m 25 #[.val (.int k0)] [(.ref w)]))
        refine OG.retA X3 hx Bd.returns rfl rfl (hb hby d1_25) hlk ?_ (by decide) (by decide)
        rw [e3]
        exact ⟨w, rfl, N0, rfl, he, Or.inl ⟨Or.inr hc19_3, y, hf⟩⟩
      · refine OG.of (fun t k => XS.icmpYes X0.here hx rfl (pc0 := 19) (pc' := 26) rfl (hb hby d1_19) rfl (XT.ii_ne_t hc19_3) (by decide) (by decide) k) ?_
        show OG _ _ _ _ _ _ _ (s₁.setTop (mkF m 26 #[.val (.int k0)] []))
        refine OG.of (A := s₁.setTop (mkF m 28 #[.val (.int k0)] [(.int (3 : Int32)), (.int k0)])) (fun t k => ?_) ?_
        · show Steps p.tables e below (s₁.setTop (mkF m 26 #[.val (.int k0)] [])) t
          refine XS.iloadN X0.here hx rfl (hb hby d1_26) rfl  ?_
          show Steps p.tables e below (s₁.setTop (mkF m 27 #[.val (.int k0)] [(.int k0)])) _
          refine XS.iconst X0.here hx rfl (hb hby d1_27) ?_
          exact k
        show OG _ _ _ _ _ _ _ (s₁.setTop (mkF m 28 #[.val (.int k0)] [(.int (3 : Int32)), (.int k0)]))
        by_cases hc28_4 : k0 = (3 : Int32)
        · refine OG.of (fun t k => XS.icmpNo X0.here hx rfl (hb hby d1_28) rfl (XT.ii_ne_f hc28_4) k) ?_
          show OG _ _ _ _ _ _ _ (s₁.setTop (mkF m 31 #[.val (.int k0)] []))
          obtain ⟨w, hs, he, hf⟩ := P_BOOLEAN
          obtain ⟨T4, X4, e4, st4⟩ := getS2 X0 hx hZ hown (host := "") (Or.inl (hw _ (List.mem_of_getElem? (i := 20) rfl))) Via.refl e0 hs (g := (mkF m 31 #[.val (.int k0)] [])) rfl (hb hby d1_31)
          refine OG.of st4 ?_
          show OG _ _ _ _ _ _ _ (T4.setTop (mkF m 34 #[.val (.int k0)] [(.ref w)]))
          refine OG.retA X4 hx Bd.returns rfl rfl (hb hby d1_34) hlk ?_ (by decide) (by decide)
          rw [e4]
          exact ⟨w, rfl, N0, rfl, he, Or.inr ⟨hc1_1, hc19_3, hf⟩⟩
        · refine OG.of (fun t k => XS.icmpYes X0.here hx rfl (pc0 := 28) (pc' := 35) rfl (hb hby d1_28) rfl (XT.ii_ne_t hc28_4) (by decide) (by decide) k) ?_
          show OG _ _ _ _ _ _ _ (s₁.setTop (mkF m 35 #[.val (.int k0)] []))
          refine OG.of (A := s₁.setTop (mkF m 37 #[.val (.int k0)] [(.int (4 : Int32)), (.int k0)])) (fun t k => ?_) ?_
          · show Steps p.tables e below (s₁.setTop (mkF m 35 #[.val (.int k0)] [])) t
            refine XS.iloadN X0.here hx rfl (hb hby d1_35) rfl  ?_
            show Steps p.tables e below (s₁.setTop (mkF m 36 #[.val (.int k0)] [(.int k0)])) _
            refine XS.iconst X0.here hx rfl (hb hby d1_36) ?_
            exact k
          show OG _ _ _ _ _ _ _ (s₁.setTop (mkF m 37 #[.val (.int k0)] [(.int (4 : Int32)), (.int k0)]))
          by_cases hc37_5 : k0 = (4 : Int32)
          · refine OG.of (fun t k => XS.icmpNo X0.here hx rfl (hb hby d1_37) rfl (XT.ii_ne_f hc37_5) k) ?_
            show OG _ _ _ _ _ _ _ (s₁.setTop (mkF m 40 #[.val (.int k0)] []))
            obtain ⟨w, hs, he, hf⟩ := P_CHAR
            obtain ⟨T5, X5, e5, st5⟩ := getS2 X0 hx hZ hown (host := "") (Or.inl (hw _ (List.mem_of_getElem? (i := 26) rfl))) Via.refl e0 hs (g := (mkF m 40 #[.val (.int k0)] [])) rfl (hb hby d1_40)
            refine OG.of st5 ?_
            show OG _ _ _ _ _ _ _ (T5.setTop (mkF m 43 #[.val (.int k0)] [(.ref w)]))
            refine OG.retA X5 hx Bd.returns rfl rfl (hb hby d1_43) hlk ?_ (by decide) (by decide)
            rw [e5]
            exact ⟨w, rfl, N0, rfl, he, Or.inr ⟨hc1_1, hc19_3, hf⟩⟩
          · refine OG.of (fun t k => XS.icmpYes X0.here hx rfl (pc0 := 37) (pc' := 44) rfl (hb hby d1_37) rfl (XT.ii_ne_t hc37_5) (by decide) (by decide) k) ?_
            show OG _ _ _ _ _ _ _ (s₁.setTop (mkF m 44 #[.val (.int k0)] []))
            refine OG.of (A := s₁.setTop (mkF m 46 #[.val (.int k0)] [(.int (5 : Int32)), (.int k0)])) (fun t k => ?_) ?_
            · show Steps p.tables e below (s₁.setTop (mkF m 44 #[.val (.int k0)] [])) t
              refine XS.iloadN X0.here hx rfl (hb hby d1_44) rfl  ?_
              show Steps p.tables e below (s₁.setTop (mkF m 45 #[.val (.int k0)] [(.int k0)])) _
              refine XS.iconst X0.here hx rfl (hb hby d1_45) ?_
              exact k
            show OG _ _ _ _ _ _ _ (s₁.setTop (mkF m 46 #[.val (.int k0)] [(.int (5 : Int32)), (.int k0)]))
            by_cases hc46_6 : k0 = (5 : Int32)
            · refine OG.of (fun t k => XS.icmpNo X0.here hx rfl (hb hby d1_46) rfl (XT.ii_ne_f hc46_6) k) ?_
              show OG _ _ _ _ _ _ _ (s₁.setTop (mkF m 49 #[.val (.int k0)] []))
              obtain ⟨w, hs, he, hf⟩ := P_DATE
              obtain ⟨T6, X6, e6, st6⟩ := getS2 X0 hx hZ hown (host := "") (Or.inl (hw _ (List.mem_of_getElem? (i := 42) rfl))) Via.refl e0 hs (g := (mkF m 49 #[.val (.int k0)] [])) rfl (hb hby d1_49)
              refine OG.of st6 ?_
              show OG _ _ _ _ _ _ _ (T6.setTop (mkF m 52 #[.val (.int k0)] [(.ref w)]))
              refine OG.retA X6 hx Bd.returns rfl rfl (hb hby d1_52) hlk ?_ (by decide) (by decide)
              rw [e6]
              exact ⟨w, rfl, N0, rfl, he, Or.inr ⟨hc1_1, hc19_3, hf⟩⟩
            · refine OG.of (fun t k => XS.icmpYes X0.here hx rfl (pc0 := 46) (pc' := 53) rfl (hb hby d1_46) rfl (XT.ii_ne_t hc46_6) (by decide) (by decide) k) ?_
              show OG _ _ _ _ _ _ _ (s₁.setTop (mkF m 53 #[.val (.int k0)] []))
              refine OG.of (A := s₁.setTop (mkF m 56 #[.val (.int k0)] [(.int (6 : Int32)), (.int k0)])) (fun t k => ?_) ?_
              · show Steps p.tables e below (s₁.setTop (mkF m 53 #[.val (.int k0)] [])) t
                refine XS.iloadN X0.here hx rfl (hb hby d1_53) rfl  ?_
                show Steps p.tables e below (s₁.setTop (mkF m 54 #[.val (.int k0)] [(.int k0)])) _
                refine XS.bipush X0.here hx rfl (hb hby d1_54) ?_
                exact k
              show OG _ _ _ _ _ _ _ (s₁.setTop (mkF m 56 #[.val (.int k0)] [(.int (6 : Int32)), (.int k0)]))
              by_cases hc56_7 : k0 = (6 : Int32)
              · refine OG.of (fun t k => XS.icmpNo X0.here hx rfl (hb hby d1_56) rfl (XT.ii_ne_f hc56_7) k) ?_
                show OG _ _ _ _ _ _ _ (s₁.setTop (mkF m 59 #[.val (.int k0)] []))
                obtain ⟨w, hs, he, hf⟩ := P_DATETIME
                obtain ⟨T7, X7, e7, st7⟩ := getS2 X0 hx hZ hown (host := "") (Or.inl (hw _ (List.mem_of_getElem? (i := 44) rfl))) Via.refl e0 hs (g := (mkF m 59 #[.val (.int k0)] [])) rfl (hb hby d1_59)
                refine OG.of st7 ?_
                show OG _ _ _ _ _ _ _ (T7.setTop (mkF m 62 #[.val (.int k0)] [(.ref w)]))
                refine OG.retA X7 hx Bd.returns rfl rfl (hb hby d1_62) hlk ?_ (by decide) (by decide)
                rw [e7]
                exact ⟨w, rfl, N0, rfl, he, Or.inr ⟨hc1_1, hc19_3, hf⟩⟩
              · refine OG.of (fun t k => XS.icmpYes X0.here hx rfl (pc0 := 56) (pc' := 63) rfl (hb hby d1_56) rfl (XT.ii_ne_t hc56_7) (by decide) (by decide) k) ?_
                show OG _ _ _ _ _ _ _ (s₁.setTop (mkF m 63 #[.val (.int k0)] []))
                refine OG.of (A := s₁.setTop (mkF m 66 #[.val (.int k0)] [(.int (7 : Int32)), (.int k0)])) (fun t k => ?_) ?_
                · show Steps p.tables e below (s₁.setTop (mkF m 63 #[.val (.int k0)] [])) t
                  refine XS.iloadN X0.here hx rfl (hb hby d1_63) rfl  ?_
                  show Steps p.tables e below (s₁.setTop (mkF m 64 #[.val (.int k0)] [(.int k0)])) _
                  refine XS.bipush X0.here hx rfl (hb hby d1_64) ?_
                  exact k
                show OG _ _ _ _ _ _ _ (s₁.setTop (mkF m 66 #[.val (.int k0)] [(.int (7 : Int32)), (.int k0)]))
                by_cases hc66_8 : k0 = (7 : Int32)
                · refine OG.of (fun t k => XS.icmpNo X0.here hx rfl (hb hby d1_66) rfl (XT.ii_ne_f hc66_8) k) ?_
                  show OG _ _ _ _ _ _ _ (s₁.setTop (mkF m 69 #[.val (.int k0)] []))
                  obtain ⟨w, hs, he, hf⟩ := P_DOUBLE
                  obtain ⟨T8, X8, e8, st8⟩ := getS2 X0 hx hZ hown (host := "") (Or.inl (hw _ (List.mem_of_getElem? (i := 28) rfl))) Via.refl e0 hs (g := (mkF m 69 #[.val (.int k0)] [])) rfl (hb hby d1_69)
                  refine OG.of st8 ?_
                  show OG _ _ _ _ _ _ _ (T8.setTop (mkF m 72 #[.val (.int k0)] [(.ref w)]))
                  refine OG.retA X8 hx Bd.returns rfl rfl (hb hby d1_72) hlk ?_ (by decide) (by decide)
                  rw [e8]
                  exact ⟨w, rfl, N0, rfl, he, Or.inr ⟨hc1_1, hc19_3, hf⟩⟩
                · refine OG.of (fun t k => XS.icmpYes X0.here hx rfl (pc0 := 66) (pc' := 73) rfl (hb hby d1_66) rfl (XT.ii_ne_t hc66_8) (by decide) (by decide) k) ?_
                  show OG _ _ _ _ _ _ _ (s₁.setTop (mkF m 73 #[.val (.int k0)] []))
                  refine OG.of (A := s₁.setTop (mkF m 76 #[.val (.int k0)] [(.int (8 : Int32)), (.int k0)])) (fun t k => ?_) ?_
                  · show Steps p.tables e below (s₁.setTop (mkF m 73 #[.val (.int k0)] [])) t
                    refine XS.iloadN X0.here hx rfl (hb hby d1_73) rfl  ?_
                    show Steps p.tables e below (s₁.setTop (mkF m 74 #[.val (.int k0)] [(.int k0)])) _
                    refine XS.bipush X0.here hx rfl (hb hby d1_74) ?_
                    exact k
                  show OG _ _ _ _ _ _ _ (s₁.setTop (mkF m 76 #[.val (.int k0)] [(.int (8 : Int32)), (.int k0)]))
                  by_cases hc76_9 : k0 = (8 : Int32)
                  · refine OG.of (fun t k => XS.icmpNo X0.here hx rfl (hb hby d1_76) rfl (XT.ii_ne_f hc76_9) k) ?_
                    show OG _ _ _ _ _ _ _ (s₁.setTop (mkF m 79 #[.val (.int k0)] []))
                    obtain ⟨w, hs, he, hf⟩ := P_FLOAT
                    obtain ⟨T9, X9, e9, st9⟩ := getS2 X0 hx hZ hown (host := "") (Or.inl (hw _ (List.mem_of_getElem? (i := 36) rfl))) Via.refl e0 hs (g := (mkF m 79 #[.val (.int k0)] [])) rfl (hb hby d1_79)
                    refine OG.of st9 ?_
                    show OG _ _ _ _ _ _ _ (T9.setTop (mkF m 82 #[.val (.int k0)] [(.ref w)]))
                    refine OG.retA X9 hx Bd.returns rfl rfl (hb hby d1_82) hlk ?_ (by decide) (by decide)
                    rw [e9]
                    exact ⟨w, rfl, N0, rfl, he, Or.inr ⟨hc1_1, hc19_3, hf⟩⟩
                  · refine OG.of (fun t k => XS.icmpYes X0.here hx rfl (pc0 := 76) (pc' := 83) rfl (hb hby d1_76) rfl (XT.ii_ne_t hc76_9) (by decide) (by decide) k) ?_
                    show OG _ _ _ _ _ _ _ (s₁.setTop (mkF m 83 #[.val (.int k0)] []))
                    refine OG.of (A := s₁.setTop (mkF m 86 #[.val (.int k0)] [(.int (9 : Int32)), (.int k0)])) (fun t k => ?_) ?_
                    · show Steps p.tables e below (s₁.setTop (mkF m 83 #[.val (.int k0)] [])) t
                      refine XS.iloadN X0.here hx rfl (hb hby d1_83) rfl  ?_
                      show Steps p.tables e below (s₁.setTop (mkF m 84 #[.val (.int k0)] [(.int k0)])) _
                      refine XS.bipush X0.here hx rfl (hb hby d1_84) ?_
                      exact k
                    show OG _ _ _ _ _ _ _ (s₁.setTop (mkF m 86 #[.val (.int k0)] [(.int (9 : Int32)), (.int k0)]))
                    by_cases hc86_10 : k0 = (9 : Int32)
                    · refine OG.of (fun t k => XS.icmpNo X0.here hx rfl (hb hby d1_86) rfl (XT.ii_ne_f hc86_10) k) ?_
                      show OG _ _ _ _ _ _ _ (s₁.setTop (mkF m 89 #[.val (.int k0)] []))
                      obtain ⟨w, hs, he, hf⟩ := P_INT8
                      obtain ⟨T10, X10, e10, st10⟩ := getS2 X0 hx hZ hown (host := "") (Or.inl (hw _ (List.mem_of_getElem? (i := 40) rfl))) Via.refl e0 hs (g := (mkF m 89 #[.val (.int k0)] [])) rfl (hb hby d1_89)
                      refine OG.of st10 ?_
                      show OG _ _ _ _ _ _ _ (T10.setTop (mkF m 92 #[.val (.int k0)] [(.ref w)]))
                      refine OG.retA X10 hx Bd.returns rfl rfl (hb hby d1_92) hlk ?_ (by decide) (by decide)
                      rw [e10]
                      exact ⟨w, rfl, N0, rfl, he, Or.inr ⟨hc1_1, hc19_3, hf⟩⟩
                    · refine OG.of (fun t k => XS.icmpYes X0.here hx rfl (pc0 := 86) (pc' := 93) rfl (hb hby d1_86) rfl (XT.ii_ne_t hc86_10) (by decide) (by decide) k) ?_
                      show OG _ _ _ _ _ _ _ (s₁.setTop (mkF m 93 #[.val (.int k0)] []))
                      refine OG.of (A := s₁.setTop (mkF m 96 #[.val (.int k0)] [(.int (10 : Int32)), (.int k0)])) (fun t k => ?_) ?_
                      · show Steps p.tables e below (s₁.setTop (mkF m 93 #[.val (.int k0)] [])) t
                        refine XS.iloadN X0.here hx rfl (hb hby d1_93) rfl  ?_
                        show Steps p.tables e below (s₁.setTop (mkF m 94 #[.val (.int k0)] [(.int k0)])) _
                        refine XS.bipush X0.here hx rfl (hb hby d1_94) ?_
                        exact k
                      show OG _ _ _ _ _ _ _ (s₁.setTop (mkF m 96 #[.val (.int k0)] [(.int (10 : Int32)), (.int k0)]))
                      by_cases hc96_11 : k0 = (10 : Int32)
                      · refine OG.of (fun t k => XS.icmpNo X0.here hx rfl (hb hby d1_96) rfl (XT.ii_ne_f hc96_11) k) ?_
                        show OG _ _ _ _ _ _ _ (s₁.setTop (mkF m 99 #[.val (.int k0)] []))
                        obtain ⟨w, hs, he, hf⟩ := P_INT16
                        obtain ⟨T11, X11, e11, st11⟩ := getS2 X0 hx hZ hown (host := "") (Or.inl (hw _ (List.mem_of_getElem? (i := 34) rfl))) Via.refl e0 hs (g := (mkF m 99 #[.val (.int k0)] [])) rfl (hb hby d1_99)
                        refine OG.of st11 ?_
                        show OG _ _ _ _ _ _ _ (T11.setTop (mkF m 102 #[.val (.int k0)] [(.ref w)]))
                        refine OG.retA X11 hx Bd.returns rfl rfl (hb hby d1_102) hlk ?_ (by decide) (by decide)
                        rw [e11]
                        exact ⟨w, rfl, N0, rfl, he, Or.inr ⟨hc1_1, hc19_3, hf⟩⟩
                      · refine OG.of (fun t k => XS.icmpYes X0.here hx rfl (pc0 := 96) (pc' := 103) rfl (hb hby d1_96) rfl (XT.ii_ne_t hc96_11) (by decide) (by decide) k) ?_
                        show OG _ _ _ _ _ _ _ (s₁.setTop (mkF m 103 #[.val (.int k0)] []))
                        refine OG.of (A := s₁.setTop (mkF m 106 #[.val (.int k0)] [(.int (11 : Int32)), (.int k0)])) (fun t k => ?_) ?_
                        · show Steps p.tables e below (s₁.setTop (mkF m 103 #[.val (.int k0)] [])) t
                          refine XS.iloadN X0.here hx rfl (hb hby d1_103) rfl  ?_
                          show Steps p.tables e below (s₁.setTop (mkF m 104 #[.val (.int k0)] [(.int k0)])) _
                          refine XS.bipush X0.here hx rfl (hb hby d1_104) ?_
                          exact k
                        show OG _ _ _ _ _ _ _ (s₁.setTop (mkF m 106 #[.val (.int k0)] [(.int (11 : Int32)), (.int k0)]))
                        by_cases hc106_12 : k0 = (11 : Int32)
                        · refine OG.of (fun t k => XS.icmpNo X0.here hx rfl (hb hby d1_106) rfl (XT.ii_ne_f hc106_12) k) ?_
                          show OG _ _ _ _ _ _ _ (s₁.setTop (mkF m 109 #[.val (.int k0)] []))
                          obtain ⟨w, hs, he, hf⟩ := P_INT32
                          obtain ⟨T12, X12, e12, st12⟩ := getS2 X0 hx hZ hown (host := "") (Or.inl (hw _ (List.mem_of_getElem? (i := 32) rfl))) Via.refl e0 hs (g := (mkF m 109 #[.val (.int k0)] [])) rfl (hb hby d1_109)
                          refine OG.of st12 ?_
                          show OG _ _ _ _ _ _ _ (T12.setTop (mkF m 112 #[.val (.int k0)] [(.ref w)]))
                          refine OG.retA X12 hx Bd.returns rfl rfl (hb hby d1_112) hlk ?_ (by decide) (by decide)
                          rw [e12]
                          exact ⟨w, rfl, N0, rfl, he, Or.inr ⟨hc1_1, hc19_3, hf⟩⟩
                        · refine OG.of (fun t k => XS.icmpYes X0.here hx rfl (pc0 := 106) (pc' := 113) rfl (hb hby d1_106) rfl (XT.ii_ne_t hc106_12) (by decide) (by decide) k) ?_
                          show OG _ _ _ _ _ _ _ (s₁.setTop (mkF m 113 #[.val (.int k0)] []))
                          refine OG.of (A := s₁.setTop (mkF m 116 #[.val (.int k0)] [(.int (12 : Int32)), (.int k0)])) (fun t k => ?_) ?_
                          · show Steps p.tables e below (s₁.setTop (mkF m 113 #[.val (.int k0)] [])) t
                            refine XS.iloadN X0.here hx rfl (hb hby d1_113) rfl  ?_
                            show Steps p.tables e below (s₁.setTop (mkF m 114 #[.val (.int k0)] [(.int k0)])) _
                            refine XS.bipush X0.here hx rfl (hb hby d1_114) ?_
                            exact k
                          show OG _ _ _ _ _ _ _ (s₁.setTop (mkF m 116 #[.val (.int k0)] [(.int (12 : Int32)), (.int k0)]))
                          by_cases hc116_13 : k0 = (12 : Int32)
                          · refine OG.of (fun t k => XS.icmpNo X0.here hx rfl (hb hby d1_116) rfl (XT.ii_ne_f hc116_13) k) ?_
                            show OG _ _ _ _ _ _ _ (s₁.setTop (mkF m 119 #[.val (.int k0)] []))
                            obtain ⟨w, hs, he, hf⟩ := P_INT64
                            obtain ⟨T13, X13, e13, st13⟩ := getS2 X0 hx hZ hown (host := "") (Or.inl (hw _ (List.mem_of_getElem? (i := 22) rfl))) Via.refl e0 hs (g := (mkF m 119 #[.val (.int k0)] [])) rfl (hb hby d1_119)
                            refine OG.of st13 ?_
                            show OG _ _ _ _ _ _ _ (T13.setTop (mkF m 122 #[.val (.int k0)] [(.ref w)]))
                            refine OG.retA X13 hx Bd.returns rfl rfl (hb hby d1_122) hlk ?_ (by decide) (by decide)
                            rw [e13]
                            exact ⟨w, rfl, N0, rfl, he, Or.inr ⟨hc1_1, hc19_3, hf⟩⟩
                          · refine OG.of (fun t k => XS.icmpYes X0.here hx rfl (pc0 := 116) (pc' := 123) rfl (hb hby d1_116) rfl (XT.ii_ne_t hc116_13) (by decide) (by decide) k) ?_
                            show OG _ _ _ _ _ _ _ (s₁.setTop (mkF m 123 #[.val (.int k0)] []))
                            obtain ⟨w, hs, he, hf⟩ := P_MONEY
                            obtain ⟨T14, X14, e14, st14⟩ := getS2 X0 hx hZ hown (host := "") (Or.inl (hw _ (List.mem_of_getElem? (i := 24) rfl))) Via.refl e0 hs (g := (mkF m 123 #[.val (.int k0)] [])) rfl (hb hby d1_123)
                            refine OG.of st14 ?_
                            show OG _ _ _ _ _ _ _ (T14.setTop (mkF m 126 #[.val (.int k0)] [(.ref w)]))
                            refine OG.retA X14 hx Bd.returns rfl rfl (hb hby d1_126) hlk ?_ (by decide) (by decide)
                            rw [e14]
                            exact ⟨w, rfl, N0, rfl, he, Or.inr ⟨hc1_1, hc19_3, hf⟩⟩
theorem d2_0 : decode prog_66_method_4_code 0 = .ok (.aload_n 0, 1) := by decide +kernel
theorem d2_1 : decode prog_66_method_4_code 1 = .ok (.getfield 75, 3) := by decide +kernel
theorem d2_4 : decode prog_66_method_4_code 4 = .ok (.ifnull 7, 3) := by decide +kernel
theorem d2_11 : decode prog_66_method_4_code 11 = .ok (.iconst 0, 1) := by decide +kernel
theorem d2_7 : decode prog_66_method_4_code 7 = .ok (.iconst 1, 1) := by decide +kernel
theorem d2_8 : decode prog_66_method_4_code 8 = .ok (.goto 4, 3) := by decide +kernel
theorem d2_12 : decode prog_66_method_4_code 12 = .ok (.ireturn, 1) := by decide +kernel
theorem pn_2 : plainName "com/example/kind4/kind4/model/Primitive" = true := by first | (simp [plainName, overriddenIn]; done) | decide +kernel
theorem ef_2 (m : MethodId) (x0 : Addr) : entryFrame m #[(.ref x0)] 1 = mkF m 0 #[.val (.ref x0)] [] := by first | (simp [entryFrame, mkF, argsToLocals, Value.category]; done) | rfl
def Q2 (Z : State) (a : Addr) (r : Value) (h0 : Heap) (n0 : Nat) (v : Option Value) (h : Heap) (L : List Loc) : Prop := v = some (.int (own_isnt r)) ∧ Fr n0 L ∧ h = h0
set_option maxRecDepth 65536 in
set_option maxHeartbeats 40000000 in
theorem rm2 (l : Launch) (Z : State) (a0 : Array Value) (hw : ∀ d ∈ tables_1, d.before a0 Z = true) (ws : List Jvm.Cond) (a : Addr) (r : Value) (h0 : Heap) (n0 : Nat) (Z0 : n0 ≤ h0.size) (hr : r.isRef = true) (F_a : Fld Z h0 a "com/example/kind4/kind4/model/Primitive" "sizeUnit" "Ljava/lang/String;" r) :
    MetFree l (⟨"com/example/kind4/kind4/model/Primitive", "sized", "()Z"⟩ : MethodName) (head1 (Jvm.Cond.code (⟨"com/example/kind4/kind4/model/Primitive", "sized", "()Z"⟩ : MethodName) prog_66_method_4_code 1 (some .boolean) :: ws) ({ frames := 0, cells := 0, slots := 0, locals := 0 } : Room)) (fun aA oU => aA = #[(.ref a)] ∧ Z.Warmed39 oU.vm ∧ oU.heap = h0) (fun _ _ _ _ _ => True) (fun _ oU oO oU' => ∃ oV oL, oO = .returned oV ∧ Q2 Z a r h0 n0 oV oU'.heap oL ∧ FrameEnd oU oO oU' oL ({ frames := 0, cells := 0, slots := 0, locals := 0 } : Room).cells ({ frames := 0, cells := 0, slots := 0, locals := 0 } : Room).slots) := by
  refine MetFree.of_bodySF (plainFor_of_name pn_2) hisR ?_
  intro p e s m args below meth c s₁ Bd hml0 hP hK
  obtain ⟨rfl, hZ, hh⟩ := hP
  have hx := Bd.exec
  have hby := Bd.bytes
  have hlk := BodyLoose.notSynchronized Bd
  have hml : c.maxLocals = 1 := hml0
  have hown : s.vm.findClass "com/example/kind4/kind4/model/Primitive" = some m.cls := findClass_of_methodNamed Bd.named
  have hnm := (name_of_methodNamed Bd.named Bd.method).1
  have X0 : Stand p l e ({ frames := 0, cells := 0, slots := 0, locals := 0 } : Room) s m #[(.ref a)] below meth c s₁ [] 0 0 := Stand.of_body Bd
  have e0 : s₁.heap = h0 := by rw [← hh, Bd.state]; rfl
  have N0 := Fr.nil n0
  show OG p e below s ({ frames := 0, cells := 0, slots := 0, locals := 0 } : Room).cells ({ frames := 0, cells := 0, slots := 0, locals := 0 } : Room).slots (Q2 Z a r h0 n0) _
  refine OG.of (fun t k => castTop (ef_2 m a) k) ?_
  show OG p e below s _ _ _ (s₁.setTop (mkF m 0 #[.val (.ref a)] []))
  refine OG.of (A := s₁.setTop (mkF m 1 #[.val (.ref a)] [(.ref a)])) (fun t k => ?_) ?_
  · show Steps p.tables e below (s₁.setTop (mkF m 0 #[.val (.ref a)] [])) t
    refine XS.aloadN X0.here hx rfl (hb hby d2_0) rfl rfl  ?_
    exact k
  show OG _ _ _ _ _ _ _ (s₁.setTop (mkF m 1 #[.val (.ref a)] [(.ref a)]))
  obtain ⟨T1, X1, e1, st1⟩ := getF X0 hx hZ hown (host := "") (Or.inl (hw _ (List.mem_of_getElem? (i := 13) rfl))) Via.refl e0 F_a (g := (mkF m 1 #[.val (.ref a)] [(.ref a)])) rfl rfl (hb hby d2_1)
  refine OG.of st1 ?_
  show OG _ _ _ _ _ _ _ (T1.setTop (mkF m 4 #[.val (.ref a)] [r]))
  refine OG.of (A := T1.setTop (mkF m 12 #[.val (.ref a)] [(.int (if r = Value.null then (0 : Int32) else (1 : Int32)))])) (fun t k => ?_) ?_
  · show Steps p.tables e below (T1.setTop (mkF m 4 #[.val (.ref a)] [r])) t
    refine (show ∀ t, Steps p.tables e below (T1.setTop (mkF m 12 #[.val (.ref a)] [(.int (if r = Value.null then (0 : Int32) else (1 : Int32)))])) t → Steps p.tables e below (T1.setTop (mkF m 4 #[.val (.ref a)] [r])) t from fun t k => ?_) _ ?_
    · skip
      show Steps p.tables e below (T1.setTop (mkF m 4 #[.val (.ref a)] [r])) _
      by_cases hj4_2 : r = Value.null
      · try simp only [if_pos hj4_2] at k
        refine XT.nullYes X1.here hx rfl (pc0 := 4) (pc' := 11) rfl (hb hby d2_4) rfl hj4_2 (by decide) (by decide) ?_
        show Steps p.tables e below (T1.setTop (mkF m 11 #[.val (.ref a)] [])) _
        refine XS.iconst X1.here hx rfl (hb hby d2_11) ?_
        exact k
      · try simp only [if_neg hj4_2] at k
        refine XT.nullNo X1.here hx rfl (hb hby d2_4) rfl hr hj4_2 ?_
        show Steps p.tables e below (T1.setTop (mkF m 7 #[.val (.ref a)] [])) _
        refine XS.iconst X1.here hx rfl (hb hby d2_7) ?_
        show Steps p.tables e below (T1.setTop (mkF m 8 #[.val (.ref a)] [(.int (1 : Int32))])) _
        refine XS.goto X1.here hx rfl (pc0 := 8) (pc' := 12) rfl (hb hby d2_8) (by decide) (by decide) ?_
        exact k
    exact k
  show OG _ _ _ _ _ _ _ (T1.setTop (mkF m 12 #[.val (.ref a)] [(.int (if r = Value.null then (0 : Int32) else (1 : Int32)))]))
  refine OG.retN X1 hx (t := .boolean) Bd.returns (by simp) (hb hby d2_12) hlk ?_ (by decide) (by decide)
  rw [e1]
  exact ⟨congrArg (fun z => some (Value.int z)) (own_narB (own_isnt01 r)), N0, rfl⟩
theorem d3_0 : decode prog_66_method_5_code 0 = .ok (.aload_n 0, 1) := by decide +kernel
theorem d3_1 : decode prog_66_method_5_code 1 = .ok (.getfield 75, 3) := by decide +kernel
theorem d3_4 : decode prog_66_method_5_code 4 = .ok (.areturn, 1) := by decide +kernel
theorem pn_3 : plainName "com/example/kind4/kind4/model/Primitive" = true := by first | (simp [plainName, overriddenIn]; done) | decide +kernel
theorem ef_3 (m : MethodId) (x0 : Addr) : entryFrame m #[(.ref x0)] 1 = mkF m 0 #[.val (.ref x0)] [] := by first | (simp [entryFrame, mkF, argsToLocals, Value.category]; done) | rfl
def Q3 (Z : State) (a : Addr) (r : Value) (h0 : Heap) (n0 : Nat) (v : Option Value) (h : Heap) (L : List Loc) : Prop := v = some r ∧ Fr n0 L ∧ h = h0
set_option maxRecDepth 65536 in
set_option maxHeartbeats 40000000 in
theorem rm3 (l : Launch) (Z : State) (a0 : Array Value) (hw : ∀ d ∈ tables_1, d.before a0 Z = true) (ws : List Jvm.Cond) (a : Addr) (r : Value) (h0 : Heap) (n0 : Nat) (Z0 : n0 ≤ h0.size) (hr : r.isRef = true) (F_a : Fld Z h0 a "com/example/kind4/kind4/model/Primitive" "sizeUnit" "Ljava/lang/String;" r) :
    MetFree l (⟨"com/example/kind4/kind4/model/Primitive", "sizeUnit", "()Ljava/lang/String;"⟩ : MethodName) (head1 (Jvm.Cond.code (⟨"com/example/kind4/kind4/model/Primitive", "sizeUnit", "()Ljava/lang/String;"⟩ : MethodName) prog_66_method_5_code 1 (some (.object "java/lang/String")) :: ws) ({ frames := 0, cells := 0, slots := 0, locals := 0 } : Room)) (fun aA oU => aA = #[(.ref a)] ∧ Z.Warmed39 oU.vm ∧ oU.heap = h0) (fun _ _ _ _ _ => True) (fun _ oU oO oU' => ∃ oV oL, oO = .returned oV ∧ Q3 Z a r h0 n0 oV oU'.heap oL ∧ FrameEnd oU oO oU' oL ({ frames := 0, cells := 0, slots := 0, locals := 0 } : Room).cells ({ frames := 0, cells := 0, slots := 0, locals := 0 } : Room).slots) := by
  refine MetFree.of_bodySF (plainFor_of_name pn_3) hisR ?_
  intro p e s m args below meth c s₁ Bd hml0 hP hK
  obtain ⟨rfl, hZ, hh⟩ := hP
  have hx := Bd.exec
  have hby := Bd.bytes
  have hlk := BodyLoose.notSynchronized Bd
  have hml : c.maxLocals = 1 := hml0
  have hown : s.vm.findClass "com/example/kind4/kind4/model/Primitive" = some m.cls := findClass_of_methodNamed Bd.named
  have hnm := (name_of_methodNamed Bd.named Bd.method).1
  have X0 : Stand p l e ({ frames := 0, cells := 0, slots := 0, locals := 0 } : Room) s m #[(.ref a)] below meth c s₁ [] 0 0 := Stand.of_body Bd
  have e0 : s₁.heap = h0 := by rw [← hh, Bd.state]; rfl
  have N0 := Fr.nil n0
  show OG p e below s ({ frames := 0, cells := 0, slots := 0, locals := 0 } : Room).cells ({ frames := 0, cells := 0, slots := 0, locals := 0 } : Room).slots (Q3 Z a r h0 n0) _
  refine OG.of (fun t k => castTop (ef_3 m a) k) ?_
  show OG p e below s _ _ _ (s₁.setTop (mkF m 0 #[.val (.ref a)] []))
  refine OG.of (A := s₁.setTop (mkF m 1 #[.val (.ref a)] [(.ref a)])) (fun t k => ?_) ?_
  · show Steps p.tables e below (s₁.setTop (mkF m 0 #[.val (.ref a)] [])) t
    refine XS.aloadN X0.here hx rfl (hb hby d3_0) rfl rfl  ?_
    exact k
  show OG _ _ _ _ _ _ _ (s₁.setTop (mkF m 1 #[.val (.ref a)] [(.ref a)]))
  obtain ⟨T1, X1, e1, st1⟩ := getF X0 hx hZ hown (host := "") (Or.inl (hw _ (List.mem_of_getElem? (i := 13) rfl))) Via.refl e0 F_a (g := (mkF m 1 #[.val (.ref a)] [(.ref a)])) rfl rfl (hb hby d3_1)
  refine OG.of st1 ?_
  show OG _ _ _ _ _ _ _ (T1.setTop (mkF m 4 #[.val (.ref a)] [r]))
  refine OG.retA X1 hx Bd.returns rfl hr (hb hby d3_4) hlk ?_ (by decide) (by decide)
  rw [e1]
  exact ⟨rfl, N0, rfl⟩
theorem pd__I_Lcom_example_kind4_kind4_model_Primitive_ : parseMethodDescriptor "(I)Lcom/example/kind4/kind4/model/Primitive;" = some ⟨[.int], some (.object "com/example/kind4/kind4/model/Primitive")⟩ := by decide +kernel
theorem pd___Z : parseMethodDescriptor "()Z" = some ⟨[], some .boolean⟩ := by decide +kernel
theorem pd___Ljava_lang_String_ : parseMethodDescriptor "()Ljava/lang/String;" = some ⟨[], some (.object "java/lang/String")⟩ := by decide +kernel
theorem pn_0 : plainName "com/example/kind4/kind4/model/PrimitiveSizedPinLaw" = true := by first | (simp [plainName, overriddenIn]; done) | decide +kernel
theorem ef_0 (m : MethodId) (x0 : Int32) : entryFrame m #[(.int x0)] maxLocals = mkF m 0 #[.val (.int x0), .unset, .unset, .unset, .unset, .unset] [] := by first | (simp [entryFrame, mkF, argsToLocals, Value.category, maxLocals]; done) | rfl
def Q0 (Z : State) (p0 : Int32) (h0 : Heap) (n0 : Nat) (v : Option Value) (h : Heap) (L : List Loc) : Prop := v = some (.int 1) ∧ Fr n0 L
set_option maxRecDepth 65536 in
set_option maxHeartbeats 40000000 in
theorem rm0 (l : Launch) (Z : State) (a0 : Array Value) (hw : ∀ d ∈ tables_1, d.before a0 Z = true) (ws : List Jvm.Cond) (p0 : Int32) (h0 : Heap) (n0 : Nat) (Z0 : n0 ≤ h0.size) (P_STRING : OE1 Z h0 "STRING") (P_BOOLEAN : OE0 Z h0 "BOOLEAN") (P_INT64 : OE0 Z h0 "INT64") (P_MONEY : OE0 Z h0 "MONEY") (P_CHAR : OE0 Z h0 "CHAR") (P_DOUBLE : OE0 Z h0 "DOUBLE") (P_BLOB : OE1 Z h0 "BLOB") (P_INT32 : OE0 Z h0 "INT32") (P_INT16 : OE0 Z h0 "INT16") (P_FLOAT : OE0 Z h0 "FLOAT") (P_UNBOUNDED_STRING : OE0 Z h0 "UNBOUNDED_STRING") (P_INT8 : OE0 Z h0 "INT8") (P_DATE : OE0 Z h0 "DATE") (P_DATETIME : OE0 Z h0 "DATETIME") :
    MetFree l x (head1 (Jvm.Cond.code x code maxLocals ret :: ws) room_1) (fun aA oU => aA = #[(.int p0)] ∧ Z.Warmed39 oU.vm ∧ oU.heap = h0) (fun _ _ _ _ _ => True) (fun _ oU oO oU' => ∃ oV oL, oO = .returned oV ∧ Q0 Z p0 h0 n0 oV oU'.heap oL ∧ FrameEnd oU oO oU' oL 0 0) := by
  refine MetFree.of_bodySF (plainFor_of_name pn_0) hisR ?_
  intro p e s m args below meth c s₁ Bd hml0 hP hK
  obtain ⟨rfl, hZ, hh⟩ := hP
  have hx := Bd.exec
  have hby := Bd.bytes
  have hlk := BodyLoose.notSynchronized Bd
  have hml : c.maxLocals = 6 := hml0
  have hown : s.vm.findClass "com/example/kind4/kind4/model/PrimitiveSizedPinLaw" = some m.cls := findClass_of_methodNamed Bd.named
  have hnm := (name_of_methodNamed Bd.named Bd.method).1
  have X0 : Stand p l e room_1 s m #[(.int p0)] below meth c s₁ [] 0 0 := Stand.of_body Bd
  have e0 : s₁.heap = h0 := by rw [← hh, Bd.state]; rfl
  have N0 := Fr.nil n0
  show OG p e below s 0 0 (Q0 Z p0 h0 n0) _
  refine OG.of (fun t k => castTop (ef_0 m p0) k) ?_
  show OG p e below s _ _ _ (s₁.setTop (mkF m 0 #[.val (.int p0), .unset, .unset, .unset, .unset, .unset] []))
  refine OG.of (A := s₁.setTop (mkF m 9 #[.val (.int p0), .val (.int ((p0 &&& (2147483647 : Int32)) % (14 : Int32))), .unset, .unset, .unset, .unset] [(.int ((p0 &&& (2147483647 : Int32)) % (14 : Int32)))])) (fun t k => ?_) ?_
  · show Steps p.tables e below (s₁.setTop (mkF m 0 #[.val (.int p0), .unset, .unset, .unset, .unset, .unset] [])) t
    refine XS.iloadN X0.here hx rfl (hb hby at_0) rfl  ?_
    show Steps p.tables e below (s₁.setTop (mkF m 1 #[.val (.int p0), .unset, .unset, .unset, .unset, .unset] [(.int p0)])) _
    refine X0.ldcInt hx hown (mvT hZ (hw _ (List.mem_of_getElem? (i := 0) rfl))) (g := (mkF m 1 #[.val (.int p0), .unset, .unset, .unset, .unset, .unset] [(.int p0)])) rfl (hb hby at_1) _ ?_
    show Steps p.tables e below (s₁.setTop (mkF m 3 #[.val (.int p0), .unset, .unset, .unset, .unset, .unset] [(.int (2147483647 : Int32)), (.int p0)])) _
    refine XS.iand X0.here hx rfl (hb hby at_3) rfl ?_
    show Steps p.tables e below (s₁.setTop (mkF m 4 #[.val (.int p0), .unset, .unset, .unset, .unset, .unset] [(.int (p0 &&& (2147483647 : Int32)))])) _
    refine XS.bipush X0.here hx rfl (hb hby at_4) ?_
    show Steps p.tables e below (s₁.setTop (mkF m 6 #[.val (.int p0), .unset, .unset, .unset, .unset, .unset] [(.int (14 : Int32)), (.int (p0 &&& (2147483647 : Int32)))])) _
    refine Jvm.RoadKit.iremM X0 hx rfl (hb hby at_6) rfl (by decide) ?_
    show Steps p.tables e below (s₁.setTop (mkF m 7 #[.val (.int p0), .unset, .unset, .unset, .unset, .unset] [(.int ((p0 &&& (2147483647 : Int32)) % (14 : Int32)))])) _
    refine XS.istoreN X0.here hx rfl (hb hby at_7) rfl (l' := #[.val (.int p0), .val (.int ((p0 &&& (2147483647 : Int32)) % (14 : Int32))), .unset, .unset, .unset, .unset]) rfl ?_
    show Steps p.tables e below (s₁.setTop (mkF m 8 #[.val (.int p0), .val (.int ((p0 &&& (2147483647 : Int32)) % (14 : Int32))), .unset, .unset, .unset, .unset] [])) _
    refine XS.iloadN X0.here hx rfl (hb hby at_8) rfl  ?_
    exact k
  show OG _ _ _ _ _ _ _ (s₁.setTop (mkF m 9 #[.val (.int p0), .val (.int ((p0 &&& (2147483647 : Int32)) % (14 : Int32))), .unset, .unset, .unset, .unset] [(.int ((p0 &&& (2147483647 : Int32)) % (14 : Int32)))]))
  obtain ⟨_, _, ⟨T1, L1, k1, n1⟩, -, X1, ⟨Lc1, hQ1, l1, y1, z1⟩, st1⟩ := Jvm.LawKit.callS X0 hx (y := (⟨"com/example/kind4/kind4/model/PrimitiveSizedPinLaw", "pick", "(I)Lcom/example/kind4/kind4/model/Primitive;"⟩ : MethodName)) hown (mvT hZ (hw _ (List.mem_of_getElem? (i := 1) rfl))) (mvT hZ (hw _ (List.mem_of_getElem? (i := 2) rfl))) (mvT hZ (hw _ (List.mem_of_getElem? (i := 3) rfl))) (mvT hZ (hw _ (List.mem_of_getElem? (i := 4) rfl))) (by decide) (backOf (W := 0) (rm1 l Z a0 hw [] ((p0 &&& (2147483647 : Int32)) % (14 : Int32)) h0 n0 (Z0) P_STRING P_BOOLEAN P_INT64 P_MONEY P_CHAR P_DOUBLE P_BLOB P_INT32 P_INT16 P_FLOAT P_UNBOUNDED_STRING P_INT8 P_DATE P_DATETIME) hZ (hw _ (List.mem_of_getElem? (i := 4) rfl)) (hw _ (List.mem_of_getElem? (i := 3) rfl)) (by decide) (by decide)) (g := (mkF m 9 #[.val (.int p0), .val (.int ((p0 &&& (2147483647 : Int32)) % (14 : Int32))), .unset, .unset, .unset, .unset] [(.int ((p0 &&& (2147483647 : Int32)) % (14 : Int32)))])) rfl (by rw [hml]; rfl) (argsL := [(.int ((p0 &&& (2147483647 : Int32)) % (14 : Int32)))]) (rest := []) (lenOf pd__I_Lcom_example_kind4_kind4_model_Primitive_ rfl) rfl (by show 2 * 0 + _ ≤ _; exact Nat.le_of_eq rfl) (hb hby at_9) (fun _ _ => ⟨rfl, e0, (by decide : 0 + 0 ≤ _), (by decide : 0 + 0 ≤ _)⟩)
  dsimp only [Pt.U, Pt.locs, Pt.cells, Pt.slots] at X1 l1 y1 z1 st1 hQ1
  subst l1 y1 z1
  obtain ⟨w, rfl, N1q, e1, he, hk⟩ := hQ1
  have N1 := Fr.app N0 N1q
  refine OG.of st1 ?_
  show OG _ _ _ _ _ _ _ (T1.setTop (mkF m 12 #[.val (.int p0), .val (.int ((p0 &&& (2147483647 : Int32)) % (14 : Int32))), .unset, .unset, .unset, .unset] [(.ref w)]))
  rcases hk with ⟨hk | hk, y, hf⟩ | ⟨hk, hk2, hf⟩
  · skip
    refine OG.of (A := T1.setTop (mkF m 29 #[.val (.int p0), .val (.int ((p0 &&& (2147483647 : Int32)) % (14 : Int32))), .val (.ref w), .val (.int (1 : Int32)), .unset, .unset] [(.ref w)])) (fun t k => ?_) ?_
    · show Steps p.tables e below (T1.setTop (mkF m 12 #[.val (.int p0), .val (.int ((p0 &&& (2147483647 : Int32)) % (14 : Int32))), .unset, .unset, .unset, .unset] [(.ref w)])) t
      refine XS.astoreN X1.here hx rfl (hb hby at_12) rfl rfl (l' := #[.val (.int p0), .val (.int ((p0 &&& (2147483647 : Int32)) % (14 : Int32))), .val (.ref w), .unset, .unset, .unset]) rfl ?_
      show Steps p.tables e below (T1.setTop (mkF m 13 #[.val (.int p0), .val (.int ((p0 &&& (2147483647 : Int32)) % (14 : Int32))), .val (.ref w), .unset, .unset, .unset] [])) _
      refine XS.iloadN X1.here hx rfl (hb hby at_13) rfl  ?_
      show Steps p.tables e below (T1.setTop (mkF m 14 #[.val (.int p0), .val (.int ((p0 &&& (2147483647 : Int32)) % (14 : Int32))), .val (.ref w), .unset, .unset, .unset] [(.int ((p0 &&& (2147483647 : Int32)) % (14 : Int32)))])) _
      refine XS.ifYes X1.here hx rfl (pc0 := 14) (pc' := 22) rfl (hb hby at_14) rfl (XT.i0_eq_t hk) (by decide) (by decide) ?_
      show Steps p.tables e below (T1.setTop (mkF m 22 #[.val (.int p0), .val (.int ((p0 &&& (2147483647 : Int32)) % (14 : Int32))), .val (.ref w), .unset, .unset, .unset] [])) _
      refine XS.iconst X1.here hx rfl (hb hby at_22) ?_
      show Steps p.tables e below (T1.setTop (mkF m 23 #[.val (.int p0), .val (.int ((p0 &&& (2147483647 : Int32)) % (14 : Int32))), .val (.ref w), .unset, .unset, .unset] [(.int (1 : Int32))])) _
      refine XS.goto X1.here hx rfl (pc0 := 23) (pc' := 27) rfl (hb hby at_23) (by decide) (by decide) ?_
      show Steps p.tables e below (T1.setTop (mkF m 27 #[.val (.int p0), .val (.int ((p0 &&& (2147483647 : Int32)) % (14 : Int32))), .val (.ref w), .unset, .unset, .unset] [(.int (1 : Int32))])) _
      refine XS.istoreN X1.here hx rfl (hb hby at_27) rfl (l' := #[.val (.int p0), .val (.int ((p0 &&& (2147483647 : Int32)) % (14 : Int32))), .val (.ref w), .val (.int (1 : Int32)), .unset, .unset]) rfl ?_
      show Steps p.tables e below (T1.setTop (mkF m 28 #[.val (.int p0), .val (.int ((p0 &&& (2147483647 : Int32)) % (14 : Int32))), .val (.ref w), .val (.int (1 : Int32)), .unset, .unset] [])) _
      refine XS.aloadN X1.here hx rfl (hb hby at_28) rfl rfl  ?_
      exact k
    show OG _ _ _ _ _ _ _ (T1.setTop (mkF m 29 #[.val (.int p0), .val (.int ((p0 &&& (2147483647 : Int32)) % (14 : Int32))), .val (.ref w), .val (.int (1 : Int32)), .unset, .unset] [(.ref w)]))
    obtain ⟨cq2, kq2, q2a, q2b, q2c⟩ := isOf hZ e1 (he)
    obtain ⟨_, _, ⟨T2, L2, k2, n2⟩, -, X2, ⟨Lc2, hQ2, l2, y2, z2⟩, st2⟩ := X1.virtualBack hx (y := (⟨"com/example/kind4/kind4/model/Primitive", "sized", "()Z"⟩ : MethodName)) (z := (⟨"com/example/kind4/kind4/model/Primitive", "sized", "()Z"⟩ : MethodName)) hown (mvT hZ (hw _ (List.mem_of_getElem? (i := 8) rfl))) (mvT hZ (hw _ (List.mem_of_getElem? (i := 9) rfl))) (notFace_of_selects (args := #[]) (mvT hZ (hw _ (List.mem_of_getElem? (i := 11) rfl)))) (mvT hZ (hw _ (List.mem_of_getElem? (i := 11) rfl))) (mvT hZ (hw _ (List.mem_of_getElem? (i := 10) rfl))) (by decide) (backOf (W := 0) (rm2 l Z a0 hw [] w (Value.ref y) h0 n0 (Z0) rfl hf) hZ (hw _ (List.mem_of_getElem? (i := 12) rfl)) (hw _ (List.mem_of_getElem? (i := 6) rfl)) (by decide) (by decide)) q2a q2c (g := (mkF m 29 #[.val (.int p0), .val (.int ((p0 &&& (2147483647 : Int32)) % (14 : Int32))), .val (.ref w), .val (.int (1 : Int32)), .unset, .unset] [(.ref w)])) rfl (by rw [hml]; rfl) (Steps.refl _) (argsL := []) (rest := []) (lenOf pd___Z rfl) rfl (by show 2 * 0 + _ ≤ _; exact Nat.le_of_eq rfl) (hb hby at_29) (fun _ _ => ⟨rfl, e1, (by decide : 0 + 0 ≤ _), (by decide : 0 + 0 ≤ _)⟩)
    dsimp only [Pt.U, Pt.locs, Pt.cells, Pt.slots] at X2 l2 y2 z2 st2 hQ2
    subst l2 y2 z2
    obtain ⟨hv2, N2q, e2⟩ := hQ2
    obtain rfl := hv2.trans (show _ = some (.int (1 : Int32)) from congrArg (fun z => some (Value.int z)) (if_neg nofun))
    have N2 := Fr.app N1 N2q
    refine OG.trans st2 ?_
    show OG _ _ _ _ _ _ _ (T2.setTop (mkF m 32 #[.val (.int p0), .val (.int ((p0 &&& (2147483647 : Int32)) % (14 : Int32))), .val (.ref w), .val (.int (1 : Int32)), .unset, .unset] [(.int (1 : Int32))]))
    refine OG.of (A := T2.setTop (mkF m 35 #[.val (.int p0), .val (.int ((p0 &&& (2147483647 : Int32)) % (14 : Int32))), .val (.ref w), .val (.int (1 : Int32)), .val (.int (1 : Int32)), .unset] [(.ref w)])) (fun t k => ?_) ?_
    · show Steps p.tables e below (T2.setTop (mkF m 32 #[.val (.int p0), .val (.int ((p0 &&& (2147483647 : Int32)) % (14 : Int32))), .val (.ref w), .val (.int (1 : Int32)), .unset, .unset] [(.int (1 : Int32))])) t
      refine XS.istore X2.here hx rfl (hb hby at_32) rfl (l' := #[.val (.int p0), .val (.int ((p0 &&& (2147483647 : Int32)) % (14 : Int32))), .val (.ref w), .val (.int (1 : Int32)), .val (.int (1 : Int32)), .unset]) rfl ?_
      show Steps p.tables e below (T2.setTop (mkF m 34 #[.val (.int p0), .val (.int ((p0 &&& (2147483647 : Int32)) % (14 : Int32))), .val (.ref w), .val (.int (1 : Int32)), .val (.int (1 : Int32)), .unset] [])) _
      refine XS.aloadN X2.here hx rfl (hb hby at_34) rfl rfl  ?_
      exact k
    show OG _ _ _ _ _ _ _ (T2.setTop (mkF m 35 #[.val (.int p0), .val (.int ((p0 &&& (2147483647 : Int32)) % (14 : Int32))), .val (.ref w), .val (.int (1 : Int32)), .val (.int (1 : Int32)), .unset] [(.ref w)]))
    obtain ⟨cq3, kq3, q3a, q3b, q3c⟩ := isOf hZ e2 (he)
    obtain ⟨_, _, ⟨T3, L3, k3, n3⟩, -, X3, ⟨Lc3, hQ3, l3, y3, z3⟩, st3⟩ := X2.virtualBack hx (y := (⟨"com/example/kind4/kind4/model/Primitive", "sizeUnit", "()Ljava/lang/String;"⟩ : MethodName)) (z := (⟨"com/example/kind4/kind4/model/Primitive", "sizeUnit", "()Ljava/lang/String;"⟩ : MethodName)) hown (mvT hZ (hw _ (List.mem_of_getElem? (i := 15) rfl))) (mvT hZ (hw _ (List.mem_of_getElem? (i := 16) rfl))) (notFace_of_selects (args := #[]) (mvT hZ (hw _ (List.mem_of_getElem? (i := 18) rfl)))) (mvT hZ (hw _ (List.mem_of_getElem? (i := 18) rfl))) (mvT hZ (hw _ (List.mem_of_getElem? (i := 17) rfl))) (by decide) (backOf (W := 0) (rm3 l Z a0 hw [] w (Value.ref y) h0 n0 (Z0) rfl hf) hZ (hw _ (List.mem_of_getElem? (i := 19) rfl)) (hw _ (List.mem_of_getElem? (i := 6) rfl)) (by decide) (by decide)) q3a q3c (g := (mkF m 35 #[.val (.int p0), .val (.int ((p0 &&& (2147483647 : Int32)) % (14 : Int32))), .val (.ref w), .val (.int (1 : Int32)), .val (.int (1 : Int32)), .unset] [(.ref w)])) rfl (by rw [hml]; rfl) (Steps.refl _) (argsL := []) (rest := []) (lenOf pd___Ljava_lang_String_ rfl) rfl (by show 2 * 0 + _ ≤ _; exact Nat.le_of_eq rfl) (hb hby at_35) (fun _ _ => ⟨rfl, e2, (by decide : 0 + 0 ≤ _), (by decide : 0 + 0 ≤ _)⟩)
    dsimp only [Pt.U, Pt.locs, Pt.cells, Pt.slots] at X3 l3 y3 z3 st3 hQ3
    subst l3 y3 z3
    obtain ⟨hv3, N3q, e3⟩ := hQ3
    obtain rfl := hv3.trans (show _ = some (.ref y) from rfl)
    have N3 := Fr.app N2 N3q
    refine OG.trans st3 ?_
    show OG _ _ _ _ _ _ _ (T3.setTop (mkF m 38 #[.val (.int p0), .val (.int ((p0 &&& (2147483647 : Int32)) % (14 : Int32))), .val (.ref w), .val (.int (1 : Int32)), .val (.int (1 : Int32)), .unset] [(.ref y)]))
    refine OG.of (A := T3.setTop (mkF m 66 #[.val (.int p0), .val (.int ((p0 &&& (2147483647 : Int32)) % (14 : Int32))), .val (.ref w), .val (.int (1 : Int32)), .val (.int (1 : Int32)), .val (.int (1 : Int32))] [(.int (1 : Int32))])) (fun t k => ?_) ?_
    · show Steps p.tables e below (T3.setTop (mkF m 38 #[.val (.int p0), .val (.int ((p0 &&& (2147483647 : Int32)) % (14 : Int32))), .val (.ref w), .val (.int (1 : Int32)), .val (.int (1 : Int32)), .unset] [(.ref y)])) t
      refine XS.ifnullNo X3.here hx rfl (hb hby at_38) rfl ?_
      show Steps p.tables e below (T3.setTop (mkF m 41 #[.val (.int p0), .val (.int ((p0 &&& (2147483647 : Int32)) % (14 : Int32))), .val (.ref w), .val (.int (1 : Int32)), .val (.int (1 : Int32)), .unset] [])) _
      refine XS.iconst X3.here hx rfl (hb hby at_41) ?_
      show Steps p.tables e below (T3.setTop (mkF m 42 #[.val (.int p0), .val (.int ((p0 &&& (2147483647 : Int32)) % (14 : Int32))), .val (.ref w), .val (.int (1 : Int32)), .val (.int (1 : Int32)), .unset] [(.int (1 : Int32))])) _
      refine XS.goto X3.here hx rfl (pc0 := 42) (pc' := 46) rfl (hb hby at_42) (by decide) (by decide) ?_
      show Steps p.tables e below (T3.setTop (mkF m 46 #[.val (.int p0), .val (.int ((p0 &&& (2147483647 : Int32)) % (14 : Int32))), .val (.ref w), .val (.int (1 : Int32)), .val (.int (1 : Int32)), .unset] [(.int (1 : Int32))])) _
      refine XS.istore X3.here hx rfl (hb hby at_46) rfl (l' := #[.val (.int p0), .val (.int ((p0 &&& (2147483647 : Int32)) % (14 : Int32))), .val (.ref w), .val (.int (1 : Int32)), .val (.int (1 : Int32)), .val (.int (1 : Int32))]) rfl ?_
      show Steps p.tables e below (T3.setTop (mkF m 48 #[.val (.int p0), .val (.int ((p0 &&& (2147483647 : Int32)) % (14 : Int32))), .val (.ref w), .val (.int (1 : Int32)), .val (.int (1 : Int32)), .val (.int (1 : Int32))] [])) _
      refine XS.iload X3.here hx rfl (hb hby at_48) rfl  ?_
      show Steps p.tables e below (T3.setTop (mkF m 50 #[.val (.int p0), .val (.int ((p0 &&& (2147483647 : Int32)) % (14 : Int32))), .val (.ref w), .val (.int (1 : Int32)), .val (.int (1 : Int32)), .val (.int (1 : Int32))] [(.int (1 : Int32))])) _
      refine XS.iloadN X3.here hx rfl (hb hby at_50) rfl  ?_
      show Steps p.tables e below (T3.setTop (mkF m 51 #[.val (.int p0), .val (.int ((p0 &&& (2147483647 : Int32)) % (14 : Int32))), .val (.ref w), .val (.int (1 : Int32)), .val (.int (1 : Int32)), .val (.int (1 : Int32))] [(.int (1 : Int32)), (.int (1 : Int32))])) _
      refine XS.icmpNo X3.here hx rfl (hb hby at_51) rfl (XT.ii_ne_f rfl) ?_
      show Steps p.tables e below (T3.setTop (mkF m 54 #[.val (.int p0), .val (.int ((p0 &&& (2147483647 : Int32)) % (14 : Int32))), .val (.ref w), .val (.int (1 : Int32)), .val (.int (1 : Int32)), .val (.int (1 : Int32))] [])) _
      refine XS.iload X3.here hx rfl (hb hby at_54) rfl  ?_
      show Steps p.tables e below (T3.setTop (mkF m 56 #[.val (.int p0), .val (.int ((p0 &&& (2147483647 : Int32)) % (14 : Int32))), .val (.ref w), .val (.int (1 : Int32)), .val (.int (1 : Int32)), .val (.int (1 : Int32))] [(.int (1 : Int32))])) _
      refine XS.iload X3.here hx rfl (hb hby at_56) rfl  ?_
      show Steps p.tables e below (T3.setTop (mkF m 58 #[.val (.int p0), .val (.int ((p0 &&& (2147483647 : Int32)) % (14 : Int32))), .val (.ref w), .val (.int (1 : Int32)), .val (.int (1 : Int32)), .val (.int (1 : Int32))] [(.int (1 : Int32)), (.int (1 : Int32))])) _
      refine XS.icmpNo X3.here hx rfl (hb hby at_58) rfl (XT.ii_ne_f rfl) ?_
      show Steps p.tables e below (T3.setTop (mkF m 61 #[.val (.int p0), .val (.int ((p0 &&& (2147483647 : Int32)) % (14 : Int32))), .val (.ref w), .val (.int (1 : Int32)), .val (.int (1 : Int32)), .val (.int (1 : Int32))] [])) _
      refine XS.iconst X3.here hx rfl (hb hby at_61) ?_
      show Steps p.tables e below (T3.setTop (mkF m 62 #[.val (.int p0), .val (.int ((p0 &&& (2147483647 : Int32)) % (14 : Int32))), .val (.ref w), .val (.int (1 : Int32)), .val (.int (1 : Int32)), .val (.int (1 : Int32))] [(.int (1 : Int32))])) _
      refine XS.goto X3.here hx rfl (pc0 := 62) (pc' := 66) rfl (hb hby at_62) (by decide) (by decide) ?_
      exact k
    show OG _ _ _ _ _ _ _ (T3.setTop (mkF m 66 #[.val (.int p0), .val (.int ((p0 &&& (2147483647 : Int32)) % (14 : Int32))), .val (.ref w), .val (.int (1 : Int32)), .val (.int (1 : Int32)), .val (.int (1 : Int32))] [(.int (1 : Int32))]))
    refine OG.retN X3 hx (t := .boolean) Bd.returns (by simp) (hb hby at_66) hlk ?_ (by decide) (by decide)
    rw [e3]
    exact ⟨rfl, N3⟩
  · skip
    refine OG.of (A := T1.setTop (mkF m 29 #[.val (.int p0), .val (.int ((p0 &&& (2147483647 : Int32)) % (14 : Int32))), .val (.ref w), .val (.int (1 : Int32)), .unset, .unset] [(.ref w)])) (fun t k => ?_) ?_
    · show Steps p.tables e below (T1.setTop (mkF m 12 #[.val (.int p0), .val (.int ((p0 &&& (2147483647 : Int32)) % (14 : Int32))), .unset, .unset, .unset, .unset] [(.ref w)])) t
      refine XS.astoreN X1.here hx rfl (hb hby at_12) rfl rfl (l' := #[.val (.int p0), .val (.int ((p0 &&& (2147483647 : Int32)) % (14 : Int32))), .val (.ref w), .unset, .unset, .unset]) rfl ?_
      show Steps p.tables e below (T1.setTop (mkF m 13 #[.val (.int p0), .val (.int ((p0 &&& (2147483647 : Int32)) % (14 : Int32))), .val (.ref w), .unset, .unset, .unset] [])) _
      refine XS.iloadN X1.here hx rfl (hb hby at_13) rfl  ?_
      show Steps p.tables e below (T1.setTop (mkF m 14 #[.val (.int p0), .val (.int ((p0 &&& (2147483647 : Int32)) % (14 : Int32))), .val (.ref w), .unset, .unset, .unset] [(.int ((p0 &&& (2147483647 : Int32)) % (14 : Int32)))])) _
      refine XS.ifNo X1.here hx rfl (hb hby at_14) rfl (XT.i0_eq_f (fun q => absurd (q.symm.trans hk) (by decide))) ?_
      show Steps p.tables e below (T1.setTop (mkF m 17 #[.val (.int p0), .val (.int ((p0 &&& (2147483647 : Int32)) % (14 : Int32))), .val (.ref w), .unset, .unset, .unset] [])) _
      refine XS.iloadN X1.here hx rfl (hb hby at_17) rfl  ?_
      show Steps p.tables e below (T1.setTop (mkF m 18 #[.val (.int p0), .val (.int ((p0 &&& (2147483647 : Int32)) % (14 : Int32))), .val (.ref w), .unset, .unset, .unset] [(.int ((p0 &&& (2147483647 : Int32)) % (14 : Int32)))])) _
      refine XS.iconst X1.here hx rfl (hb hby at_18) ?_
      show Steps p.tables e below (T1.setTop (mkF m 19 #[.val (.int p0), .val (.int ((p0 &&& (2147483647 : Int32)) % (14 : Int32))), .val (.ref w), .unset, .unset, .unset] [(.int (2 : Int32)), (.int ((p0 &&& (2147483647 : Int32)) % (14 : Int32)))])) _
      refine XS.icmpNo X1.here hx rfl (hb hby at_19) rfl (XT.ii_ne_f hk) ?_
      show Steps p.tables e below (T1.setTop (mkF m 22 #[.val (.int p0), .val (.int ((p0 &&& (2147483647 : Int32)) % (14 : Int32))), .val (.ref w), .unset, .unset, .unset] [])) _
      refine XS.iconst X1.here hx rfl (hb hby at_22) ?_
      show Steps p.tables e below (T1.setTop (mkF m 23 #[.val (.int p0), .val (.int ((p0 &&& (2147483647 : Int32)) % (14 : Int32))), .val (.ref w), .unset, .unset, .unset] [(.int (1 : Int32))])) _
      refine XS.goto X1.here hx rfl (pc0 := 23) (pc' := 27) rfl (hb hby at_23) (by decide) (by decide) ?_
      show Steps p.tables e below (T1.setTop (mkF m 27 #[.val (.int p0), .val (.int ((p0 &&& (2147483647 : Int32)) % (14 : Int32))), .val (.ref w), .unset, .unset, .unset] [(.int (1 : Int32))])) _
      refine XS.istoreN X1.here hx rfl (hb hby at_27) rfl (l' := #[.val (.int p0), .val (.int ((p0 &&& (2147483647 : Int32)) % (14 : Int32))), .val (.ref w), .val (.int (1 : Int32)), .unset, .unset]) rfl ?_
      show Steps p.tables e below (T1.setTop (mkF m 28 #[.val (.int p0), .val (.int ((p0 &&& (2147483647 : Int32)) % (14 : Int32))), .val (.ref w), .val (.int (1 : Int32)), .unset, .unset] [])) _
      refine XS.aloadN X1.here hx rfl (hb hby at_28) rfl rfl  ?_
      exact k
    show OG _ _ _ _ _ _ _ (T1.setTop (mkF m 29 #[.val (.int p0), .val (.int ((p0 &&& (2147483647 : Int32)) % (14 : Int32))), .val (.ref w), .val (.int (1 : Int32)), .unset, .unset] [(.ref w)]))
    obtain ⟨cq4, kq4, q4a, q4b, q4c⟩ := isOf hZ e1 (he)
    obtain ⟨_, _, ⟨T4, L4, k4, n4⟩, -, X4, ⟨Lc4, hQ4, l4, y4, z4⟩, st4⟩ := X1.virtualBack hx (y := (⟨"com/example/kind4/kind4/model/Primitive", "sized", "()Z"⟩ : MethodName)) (z := (⟨"com/example/kind4/kind4/model/Primitive", "sized", "()Z"⟩ : MethodName)) hown (mvT hZ (hw _ (List.mem_of_getElem? (i := 8) rfl))) (mvT hZ (hw _ (List.mem_of_getElem? (i := 9) rfl))) (notFace_of_selects (args := #[]) (mvT hZ (hw _ (List.mem_of_getElem? (i := 11) rfl)))) (mvT hZ (hw _ (List.mem_of_getElem? (i := 11) rfl))) (mvT hZ (hw _ (List.mem_of_getElem? (i := 10) rfl))) (by decide) (backOf (W := 0) (rm2 l Z a0 hw [] w (Value.ref y) h0 n0 (Z0) rfl hf) hZ (hw _ (List.mem_of_getElem? (i := 12) rfl)) (hw _ (List.mem_of_getElem? (i := 6) rfl)) (by decide) (by decide)) q4a q4c (g := (mkF m 29 #[.val (.int p0), .val (.int ((p0 &&& (2147483647 : Int32)) % (14 : Int32))), .val (.ref w), .val (.int (1 : Int32)), .unset, .unset] [(.ref w)])) rfl (by rw [hml]; rfl) (Steps.refl _) (argsL := []) (rest := []) (lenOf pd___Z rfl) rfl (by show 2 * 0 + _ ≤ _; exact Nat.le_of_eq rfl) (hb hby at_29) (fun _ _ => ⟨rfl, e1, (by decide : 0 + 0 ≤ _), (by decide : 0 + 0 ≤ _)⟩)
    dsimp only [Pt.U, Pt.locs, Pt.cells, Pt.slots] at X4 l4 y4 z4 st4 hQ4
    subst l4 y4 z4
    obtain ⟨hv4, N4q, e4⟩ := hQ4
    obtain rfl := hv4.trans (show _ = some (.int (1 : Int32)) from congrArg (fun z => some (Value.int z)) (if_neg nofun))
    have N4 := Fr.app N1 N4q
    refine OG.trans st4 ?_
    show OG _ _ _ _ _ _ _ (T4.setTop (mkF m 32 #[.val (.int p0), .val (.int ((p0 &&& (2147483647 : Int32)) % (14 : Int32))), .val (.ref w), .val (.int (1 : Int32)), .unset, .unset] [(.int (1 : Int32))]))
    refine OG.of (A := T4.setTop (mkF m 35 #[.val (.int p0), .val (.int ((p0 &&& (2147483647 : Int32)) % (14 : Int32))), .val (.ref w), .val (.int (1 : Int32)), .val (.int (1 : Int32)), .unset] [(.ref w)])) (fun t k => ?_) ?_
    · show Steps p.tables e below (T4.setTop (mkF m 32 #[.val (.int p0), .val (.int ((p0 &&& (2147483647 : Int32)) % (14 : Int32))), .val (.ref w), .val (.int (1 : Int32)), .unset, .unset] [(.int (1 : Int32))])) t
      refine XS.istore X4.here hx rfl (hb hby at_32) rfl (l' := #[.val (.int p0), .val (.int ((p0 &&& (2147483647 : Int32)) % (14 : Int32))), .val (.ref w), .val (.int (1 : Int32)), .val (.int (1 : Int32)), .unset]) rfl ?_
      show Steps p.tables e below (T4.setTop (mkF m 34 #[.val (.int p0), .val (.int ((p0 &&& (2147483647 : Int32)) % (14 : Int32))), .val (.ref w), .val (.int (1 : Int32)), .val (.int (1 : Int32)), .unset] [])) _
      refine XS.aloadN X4.here hx rfl (hb hby at_34) rfl rfl  ?_
      exact k
    show OG _ _ _ _ _ _ _ (T4.setTop (mkF m 35 #[.val (.int p0), .val (.int ((p0 &&& (2147483647 : Int32)) % (14 : Int32))), .val (.ref w), .val (.int (1 : Int32)), .val (.int (1 : Int32)), .unset] [(.ref w)]))
    obtain ⟨cq5, kq5, q5a, q5b, q5c⟩ := isOf hZ e4 (he)
    obtain ⟨_, _, ⟨T5, L5, k5, n5⟩, -, X5, ⟨Lc5, hQ5, l5, y5, z5⟩, st5⟩ := X4.virtualBack hx (y := (⟨"com/example/kind4/kind4/model/Primitive", "sizeUnit", "()Ljava/lang/String;"⟩ : MethodName)) (z := (⟨"com/example/kind4/kind4/model/Primitive", "sizeUnit", "()Ljava/lang/String;"⟩ : MethodName)) hown (mvT hZ (hw _ (List.mem_of_getElem? (i := 15) rfl))) (mvT hZ (hw _ (List.mem_of_getElem? (i := 16) rfl))) (notFace_of_selects (args := #[]) (mvT hZ (hw _ (List.mem_of_getElem? (i := 18) rfl)))) (mvT hZ (hw _ (List.mem_of_getElem? (i := 18) rfl))) (mvT hZ (hw _ (List.mem_of_getElem? (i := 17) rfl))) (by decide) (backOf (W := 0) (rm3 l Z a0 hw [] w (Value.ref y) h0 n0 (Z0) rfl hf) hZ (hw _ (List.mem_of_getElem? (i := 19) rfl)) (hw _ (List.mem_of_getElem? (i := 6) rfl)) (by decide) (by decide)) q5a q5c (g := (mkF m 35 #[.val (.int p0), .val (.int ((p0 &&& (2147483647 : Int32)) % (14 : Int32))), .val (.ref w), .val (.int (1 : Int32)), .val (.int (1 : Int32)), .unset] [(.ref w)])) rfl (by rw [hml]; rfl) (Steps.refl _) (argsL := []) (rest := []) (lenOf pd___Ljava_lang_String_ rfl) rfl (by show 2 * 0 + _ ≤ _; exact Nat.le_of_eq rfl) (hb hby at_35) (fun _ _ => ⟨rfl, e4, (by decide : 0 + 0 ≤ _), (by decide : 0 + 0 ≤ _)⟩)
    dsimp only [Pt.U, Pt.locs, Pt.cells, Pt.slots] at X5 l5 y5 z5 st5 hQ5
    subst l5 y5 z5
    obtain ⟨hv5, N5q, e5⟩ := hQ5
    obtain rfl := hv5.trans (show _ = some (.ref y) from rfl)
    have N5 := Fr.app N4 N5q
    refine OG.trans st5 ?_
    show OG _ _ _ _ _ _ _ (T5.setTop (mkF m 38 #[.val (.int p0), .val (.int ((p0 &&& (2147483647 : Int32)) % (14 : Int32))), .val (.ref w), .val (.int (1 : Int32)), .val (.int (1 : Int32)), .unset] [(.ref y)]))
    refine OG.of (A := T5.setTop (mkF m 66 #[.val (.int p0), .val (.int ((p0 &&& (2147483647 : Int32)) % (14 : Int32))), .val (.ref w), .val (.int (1 : Int32)), .val (.int (1 : Int32)), .val (.int (1 : Int32))] [(.int (1 : Int32))])) (fun t k => ?_) ?_
    · show Steps p.tables e below (T5.setTop (mkF m 38 #[.val (.int p0), .val (.int ((p0 &&& (2147483647 : Int32)) % (14 : Int32))), .val (.ref w), .val (.int (1 : Int32)), .val (.int (1 : Int32)), .unset] [(.ref y)])) t
      refine XS.ifnullNo X5.here hx rfl (hb hby at_38) rfl ?_
      show Steps p.tables e below (T5.setTop (mkF m 41 #[.val (.int p0), .val (.int ((p0 &&& (2147483647 : Int32)) % (14 : Int32))), .val (.ref w), .val (.int (1 : Int32)), .val (.int (1 : Int32)), .unset] [])) _
      refine XS.iconst X5.here hx rfl (hb hby at_41) ?_
      show Steps p.tables e below (T5.setTop (mkF m 42 #[.val (.int p0), .val (.int ((p0 &&& (2147483647 : Int32)) % (14 : Int32))), .val (.ref w), .val (.int (1 : Int32)), .val (.int (1 : Int32)), .unset] [(.int (1 : Int32))])) _
      refine XS.goto X5.here hx rfl (pc0 := 42) (pc' := 46) rfl (hb hby at_42) (by decide) (by decide) ?_
      show Steps p.tables e below (T5.setTop (mkF m 46 #[.val (.int p0), .val (.int ((p0 &&& (2147483647 : Int32)) % (14 : Int32))), .val (.ref w), .val (.int (1 : Int32)), .val (.int (1 : Int32)), .unset] [(.int (1 : Int32))])) _
      refine XS.istore X5.here hx rfl (hb hby at_46) rfl (l' := #[.val (.int p0), .val (.int ((p0 &&& (2147483647 : Int32)) % (14 : Int32))), .val (.ref w), .val (.int (1 : Int32)), .val (.int (1 : Int32)), .val (.int (1 : Int32))]) rfl ?_
      show Steps p.tables e below (T5.setTop (mkF m 48 #[.val (.int p0), .val (.int ((p0 &&& (2147483647 : Int32)) % (14 : Int32))), .val (.ref w), .val (.int (1 : Int32)), .val (.int (1 : Int32)), .val (.int (1 : Int32))] [])) _
      refine XS.iload X5.here hx rfl (hb hby at_48) rfl  ?_
      show Steps p.tables e below (T5.setTop (mkF m 50 #[.val (.int p0), .val (.int ((p0 &&& (2147483647 : Int32)) % (14 : Int32))), .val (.ref w), .val (.int (1 : Int32)), .val (.int (1 : Int32)), .val (.int (1 : Int32))] [(.int (1 : Int32))])) _
      refine XS.iloadN X5.here hx rfl (hb hby at_50) rfl  ?_
      show Steps p.tables e below (T5.setTop (mkF m 51 #[.val (.int p0), .val (.int ((p0 &&& (2147483647 : Int32)) % (14 : Int32))), .val (.ref w), .val (.int (1 : Int32)), .val (.int (1 : Int32)), .val (.int (1 : Int32))] [(.int (1 : Int32)), (.int (1 : Int32))])) _
      refine XS.icmpNo X5.here hx rfl (hb hby at_51) rfl (XT.ii_ne_f rfl) ?_
      show Steps p.tables e below (T5.setTop (mkF m 54 #[.val (.int p0), .val (.int ((p0 &&& (2147483647 : Int32)) % (14 : Int32))), .val (.ref w), .val (.int (1 : Int32)), .val (.int (1 : Int32)), .val (.int (1 : Int32))] [])) _
      refine XS.iload X5.here hx rfl (hb hby at_54) rfl  ?_
      show Steps p.tables e below (T5.setTop (mkF m 56 #[.val (.int p0), .val (.int ((p0 &&& (2147483647 : Int32)) % (14 : Int32))), .val (.ref w), .val (.int (1 : Int32)), .val (.int (1 : Int32)), .val (.int (1 : Int32))] [(.int (1 : Int32))])) _
      refine XS.iload X5.here hx rfl (hb hby at_56) rfl  ?_
      show Steps p.tables e below (T5.setTop (mkF m 58 #[.val (.int p0), .val (.int ((p0 &&& (2147483647 : Int32)) % (14 : Int32))), .val (.ref w), .val (.int (1 : Int32)), .val (.int (1 : Int32)), .val (.int (1 : Int32))] [(.int (1 : Int32)), (.int (1 : Int32))])) _
      refine XS.icmpNo X5.here hx rfl (hb hby at_58) rfl (XT.ii_ne_f rfl) ?_
      show Steps p.tables e below (T5.setTop (mkF m 61 #[.val (.int p0), .val (.int ((p0 &&& (2147483647 : Int32)) % (14 : Int32))), .val (.ref w), .val (.int (1 : Int32)), .val (.int (1 : Int32)), .val (.int (1 : Int32))] [])) _
      refine XS.iconst X5.here hx rfl (hb hby at_61) ?_
      show Steps p.tables e below (T5.setTop (mkF m 62 #[.val (.int p0), .val (.int ((p0 &&& (2147483647 : Int32)) % (14 : Int32))), .val (.ref w), .val (.int (1 : Int32)), .val (.int (1 : Int32)), .val (.int (1 : Int32))] [(.int (1 : Int32))])) _
      refine XS.goto X5.here hx rfl (pc0 := 62) (pc' := 66) rfl (hb hby at_62) (by decide) (by decide) ?_
      exact k
    show OG _ _ _ _ _ _ _ (T5.setTop (mkF m 66 #[.val (.int p0), .val (.int ((p0 &&& (2147483647 : Int32)) % (14 : Int32))), .val (.ref w), .val (.int (1 : Int32)), .val (.int (1 : Int32)), .val (.int (1 : Int32))] [(.int (1 : Int32))]))
    refine OG.retN X5 hx (t := .boolean) Bd.returns (by simp) (hb hby at_66) hlk ?_ (by decide) (by decide)
    rw [e5]
    exact ⟨rfl, N5⟩
  · skip
    refine OG.of (A := T1.setTop (mkF m 29 #[.val (.int p0), .val (.int ((p0 &&& (2147483647 : Int32)) % (14 : Int32))), .val (.ref w), .val (.int (0 : Int32)), .unset, .unset] [(.ref w)])) (fun t k => ?_) ?_
    · show Steps p.tables e below (T1.setTop (mkF m 12 #[.val (.int p0), .val (.int ((p0 &&& (2147483647 : Int32)) % (14 : Int32))), .unset, .unset, .unset, .unset] [(.ref w)])) t
      refine XS.astoreN X1.here hx rfl (hb hby at_12) rfl rfl (l' := #[.val (.int p0), .val (.int ((p0 &&& (2147483647 : Int32)) % (14 : Int32))), .val (.ref w), .unset, .unset, .unset]) rfl ?_
      show Steps p.tables e below (T1.setTop (mkF m 13 #[.val (.int p0), .val (.int ((p0 &&& (2147483647 : Int32)) % (14 : Int32))), .val (.ref w), .unset, .unset, .unset] [])) _
      refine XS.iloadN X1.here hx rfl (hb hby at_13) rfl  ?_
      show Steps p.tables e below (T1.setTop (mkF m 14 #[.val (.int p0), .val (.int ((p0 &&& (2147483647 : Int32)) % (14 : Int32))), .val (.ref w), .unset, .unset, .unset] [(.int ((p0 &&& (2147483647 : Int32)) % (14 : Int32)))])) _
      refine XS.ifNo X1.here hx rfl (hb hby at_14) rfl (XT.i0_eq_f hk) ?_
      show Steps p.tables e below (T1.setTop (mkF m 17 #[.val (.int p0), .val (.int ((p0 &&& (2147483647 : Int32)) % (14 : Int32))), .val (.ref w), .unset, .unset, .unset] [])) _
      refine XS.iloadN X1.here hx rfl (hb hby at_17) rfl  ?_
      show Steps p.tables e below (T1.setTop (mkF m 18 #[.val (.int p0), .val (.int ((p0 &&& (2147483647 : Int32)) % (14 : Int32))), .val (.ref w), .unset, .unset, .unset] [(.int ((p0 &&& (2147483647 : Int32)) % (14 : Int32)))])) _
      refine XS.iconst X1.here hx rfl (hb hby at_18) ?_
      show Steps p.tables e below (T1.setTop (mkF m 19 #[.val (.int p0), .val (.int ((p0 &&& (2147483647 : Int32)) % (14 : Int32))), .val (.ref w), .unset, .unset, .unset] [(.int (2 : Int32)), (.int ((p0 &&& (2147483647 : Int32)) % (14 : Int32)))])) _
      refine XS.icmpYes X1.here hx rfl (pc0 := 19) (pc' := 26) rfl (hb hby at_19) rfl (XT.ii_ne_t hk2) (by decide) (by decide) ?_
      show Steps p.tables e below (T1.setTop (mkF m 26 #[.val (.int p0), .val (.int ((p0 &&& (2147483647 : Int32)) % (14 : Int32))), .val (.ref w), .unset, .unset, .unset] [])) _
      refine XS.iconst X1.here hx rfl (hb hby at_26) ?_
      show Steps p.tables e below (T1.setTop (mkF m 27 #[.val (.int p0), .val (.int ((p0 &&& (2147483647 : Int32)) % (14 : Int32))), .val (.ref w), .unset, .unset, .unset] [(.int (0 : Int32))])) _
      refine XS.istoreN X1.here hx rfl (hb hby at_27) rfl (l' := #[.val (.int p0), .val (.int ((p0 &&& (2147483647 : Int32)) % (14 : Int32))), .val (.ref w), .val (.int (0 : Int32)), .unset, .unset]) rfl ?_
      show Steps p.tables e below (T1.setTop (mkF m 28 #[.val (.int p0), .val (.int ((p0 &&& (2147483647 : Int32)) % (14 : Int32))), .val (.ref w), .val (.int (0 : Int32)), .unset, .unset] [])) _
      refine XS.aloadN X1.here hx rfl (hb hby at_28) rfl rfl  ?_
      exact k
    show OG _ _ _ _ _ _ _ (T1.setTop (mkF m 29 #[.val (.int p0), .val (.int ((p0 &&& (2147483647 : Int32)) % (14 : Int32))), .val (.ref w), .val (.int (0 : Int32)), .unset, .unset] [(.ref w)]))
    obtain ⟨cq6, kq6, q6a, q6b, q6c⟩ := isOf hZ e1 (he)
    obtain ⟨_, _, ⟨T6, L6, k6, n6⟩, -, X6, ⟨Lc6, hQ6, l6, y6, z6⟩, st6⟩ := X1.virtualBack hx (y := (⟨"com/example/kind4/kind4/model/Primitive", "sized", "()Z"⟩ : MethodName)) (z := (⟨"com/example/kind4/kind4/model/Primitive", "sized", "()Z"⟩ : MethodName)) hown (mvT hZ (hw _ (List.mem_of_getElem? (i := 8) rfl))) (mvT hZ (hw _ (List.mem_of_getElem? (i := 9) rfl))) (notFace_of_selects (args := #[]) (mvT hZ (hw _ (List.mem_of_getElem? (i := 11) rfl)))) (mvT hZ (hw _ (List.mem_of_getElem? (i := 11) rfl))) (mvT hZ (hw _ (List.mem_of_getElem? (i := 10) rfl))) (by decide) (backOf (W := 0) (rm2 l Z a0 hw [] w Value.null h0 n0 (Z0) rfl hf) hZ (hw _ (List.mem_of_getElem? (i := 12) rfl)) (hw _ (List.mem_of_getElem? (i := 6) rfl)) (by decide) (by decide)) q6a q6c (g := (mkF m 29 #[.val (.int p0), .val (.int ((p0 &&& (2147483647 : Int32)) % (14 : Int32))), .val (.ref w), .val (.int (0 : Int32)), .unset, .unset] [(.ref w)])) rfl (by rw [hml]; rfl) (Steps.refl _) (argsL := []) (rest := []) (lenOf pd___Z rfl) rfl (by show 2 * 0 + _ ≤ _; exact Nat.le_of_eq rfl) (hb hby at_29) (fun _ _ => ⟨rfl, e1, (by decide : 0 + 0 ≤ _), (by decide : 0 + 0 ≤ _)⟩)
    dsimp only [Pt.U, Pt.locs, Pt.cells, Pt.slots] at X6 l6 y6 z6 st6 hQ6
    subst l6 y6 z6
    obtain ⟨hv6, N6q, e6⟩ := hQ6
    obtain rfl := hv6.trans (show _ = some (.int (0 : Int32)) from congrArg (fun z => some (Value.int z)) (if_pos rfl))
    have N6 := Fr.app N1 N6q
    refine OG.trans st6 ?_
    show OG _ _ _ _ _ _ _ (T6.setTop (mkF m 32 #[.val (.int p0), .val (.int ((p0 &&& (2147483647 : Int32)) % (14 : Int32))), .val (.ref w), .val (.int (0 : Int32)), .unset, .unset] [(.int (0 : Int32))]))
    refine OG.of (A := T6.setTop (mkF m 35 #[.val (.int p0), .val (.int ((p0 &&& (2147483647 : Int32)) % (14 : Int32))), .val (.ref w), .val (.int (0 : Int32)), .val (.int (0 : Int32)), .unset] [(.ref w)])) (fun t k => ?_) ?_
    · show Steps p.tables e below (T6.setTop (mkF m 32 #[.val (.int p0), .val (.int ((p0 &&& (2147483647 : Int32)) % (14 : Int32))), .val (.ref w), .val (.int (0 : Int32)), .unset, .unset] [(.int (0 : Int32))])) t
      refine XS.istore X6.here hx rfl (hb hby at_32) rfl (l' := #[.val (.int p0), .val (.int ((p0 &&& (2147483647 : Int32)) % (14 : Int32))), .val (.ref w), .val (.int (0 : Int32)), .val (.int (0 : Int32)), .unset]) rfl ?_
      show Steps p.tables e below (T6.setTop (mkF m 34 #[.val (.int p0), .val (.int ((p0 &&& (2147483647 : Int32)) % (14 : Int32))), .val (.ref w), .val (.int (0 : Int32)), .val (.int (0 : Int32)), .unset] [])) _
      refine XS.aloadN X6.here hx rfl (hb hby at_34) rfl rfl  ?_
      exact k
    show OG _ _ _ _ _ _ _ (T6.setTop (mkF m 35 #[.val (.int p0), .val (.int ((p0 &&& (2147483647 : Int32)) % (14 : Int32))), .val (.ref w), .val (.int (0 : Int32)), .val (.int (0 : Int32)), .unset] [(.ref w)]))
    obtain ⟨cq7, kq7, q7a, q7b, q7c⟩ := isOf hZ e6 (he)
    obtain ⟨_, _, ⟨T7, L7, k7, n7⟩, -, X7, ⟨Lc7, hQ7, l7, y7, z7⟩, st7⟩ := X6.virtualBack hx (y := (⟨"com/example/kind4/kind4/model/Primitive", "sizeUnit", "()Ljava/lang/String;"⟩ : MethodName)) (z := (⟨"com/example/kind4/kind4/model/Primitive", "sizeUnit", "()Ljava/lang/String;"⟩ : MethodName)) hown (mvT hZ (hw _ (List.mem_of_getElem? (i := 15) rfl))) (mvT hZ (hw _ (List.mem_of_getElem? (i := 16) rfl))) (notFace_of_selects (args := #[]) (mvT hZ (hw _ (List.mem_of_getElem? (i := 18) rfl)))) (mvT hZ (hw _ (List.mem_of_getElem? (i := 18) rfl))) (mvT hZ (hw _ (List.mem_of_getElem? (i := 17) rfl))) (by decide) (backOf (W := 0) (rm3 l Z a0 hw [] w Value.null h0 n0 (Z0) rfl hf) hZ (hw _ (List.mem_of_getElem? (i := 19) rfl)) (hw _ (List.mem_of_getElem? (i := 6) rfl)) (by decide) (by decide)) q7a q7c (g := (mkF m 35 #[.val (.int p0), .val (.int ((p0 &&& (2147483647 : Int32)) % (14 : Int32))), .val (.ref w), .val (.int (0 : Int32)), .val (.int (0 : Int32)), .unset] [(.ref w)])) rfl (by rw [hml]; rfl) (Steps.refl _) (argsL := []) (rest := []) (lenOf pd___Ljava_lang_String_ rfl) rfl (by show 2 * 0 + _ ≤ _; exact Nat.le_of_eq rfl) (hb hby at_35) (fun _ _ => ⟨rfl, e6, (by decide : 0 + 0 ≤ _), (by decide : 0 + 0 ≤ _)⟩)
    dsimp only [Pt.U, Pt.locs, Pt.cells, Pt.slots] at X7 l7 y7 z7 st7 hQ7
    subst l7 y7 z7
    obtain ⟨hv7, N7q, e7⟩ := hQ7
    obtain rfl := hv7.trans (show _ = some .null from rfl)
    have N7 := Fr.app N6 N7q
    refine OG.trans st7 ?_
    show OG _ _ _ _ _ _ _ (T7.setTop (mkF m 38 #[.val (.int p0), .val (.int ((p0 &&& (2147483647 : Int32)) % (14 : Int32))), .val (.ref w), .val (.int (0 : Int32)), .val (.int (0 : Int32)), .unset] [.null]))
    refine OG.of (A := T7.setTop (mkF m 66 #[.val (.int p0), .val (.int ((p0 &&& (2147483647 : Int32)) % (14 : Int32))), .val (.ref w), .val (.int (0 : Int32)), .val (.int (0 : Int32)), .val (.int (0 : Int32))] [(.int (1 : Int32))])) (fun t k => ?_) ?_
    · show Steps p.tables e below (T7.setTop (mkF m 38 #[.val (.int p0), .val (.int ((p0 &&& (2147483647 : Int32)) % (14 : Int32))), .val (.ref w), .val (.int (0 : Int32)), .val (.int (0 : Int32)), .unset] [.null])) t
      refine XS.ifnullYes X7.here hx rfl (pc0 := 38) (pc' := 45) rfl (hb hby at_38) rfl (by decide) (by decide) ?_
      show Steps p.tables e below (T7.setTop (mkF m 45 #[.val (.int p0), .val (.int ((p0 &&& (2147483647 : Int32)) % (14 : Int32))), .val (.ref w), .val (.int (0 : Int32)), .val (.int (0 : Int32)), .unset] [])) _
      refine XS.iconst X7.here hx rfl (hb hby at_45) ?_
      show Steps p.tables e below (T7.setTop (mkF m 46 #[.val (.int p0), .val (.int ((p0 &&& (2147483647 : Int32)) % (14 : Int32))), .val (.ref w), .val (.int (0 : Int32)), .val (.int (0 : Int32)), .unset] [(.int (0 : Int32))])) _
      refine XS.istore X7.here hx rfl (hb hby at_46) rfl (l' := #[.val (.int p0), .val (.int ((p0 &&& (2147483647 : Int32)) % (14 : Int32))), .val (.ref w), .val (.int (0 : Int32)), .val (.int (0 : Int32)), .val (.int (0 : Int32))]) rfl ?_
      show Steps p.tables e below (T7.setTop (mkF m 48 #[.val (.int p0), .val (.int ((p0 &&& (2147483647 : Int32)) % (14 : Int32))), .val (.ref w), .val (.int (0 : Int32)), .val (.int (0 : Int32)), .val (.int (0 : Int32))] [])) _
      refine XS.iload X7.here hx rfl (hb hby at_48) rfl  ?_
      show Steps p.tables e below (T7.setTop (mkF m 50 #[.val (.int p0), .val (.int ((p0 &&& (2147483647 : Int32)) % (14 : Int32))), .val (.ref w), .val (.int (0 : Int32)), .val (.int (0 : Int32)), .val (.int (0 : Int32))] [(.int (0 : Int32))])) _
      refine XS.iloadN X7.here hx rfl (hb hby at_50) rfl  ?_
      show Steps p.tables e below (T7.setTop (mkF m 51 #[.val (.int p0), .val (.int ((p0 &&& (2147483647 : Int32)) % (14 : Int32))), .val (.ref w), .val (.int (0 : Int32)), .val (.int (0 : Int32)), .val (.int (0 : Int32))] [(.int (0 : Int32)), (.int (0 : Int32))])) _
      refine XS.icmpNo X7.here hx rfl (hb hby at_51) rfl (XT.ii_ne_f rfl) ?_
      show Steps p.tables e below (T7.setTop (mkF m 54 #[.val (.int p0), .val (.int ((p0 &&& (2147483647 : Int32)) % (14 : Int32))), .val (.ref w), .val (.int (0 : Int32)), .val (.int (0 : Int32)), .val (.int (0 : Int32))] [])) _
      refine XS.iload X7.here hx rfl (hb hby at_54) rfl  ?_
      show Steps p.tables e below (T7.setTop (mkF m 56 #[.val (.int p0), .val (.int ((p0 &&& (2147483647 : Int32)) % (14 : Int32))), .val (.ref w), .val (.int (0 : Int32)), .val (.int (0 : Int32)), .val (.int (0 : Int32))] [(.int (0 : Int32))])) _
      refine XS.iload X7.here hx rfl (hb hby at_56) rfl  ?_
      show Steps p.tables e below (T7.setTop (mkF m 58 #[.val (.int p0), .val (.int ((p0 &&& (2147483647 : Int32)) % (14 : Int32))), .val (.ref w), .val (.int (0 : Int32)), .val (.int (0 : Int32)), .val (.int (0 : Int32))] [(.int (0 : Int32)), (.int (0 : Int32))])) _
      refine XS.icmpNo X7.here hx rfl (hb hby at_58) rfl (XT.ii_ne_f rfl) ?_
      show Steps p.tables e below (T7.setTop (mkF m 61 #[.val (.int p0), .val (.int ((p0 &&& (2147483647 : Int32)) % (14 : Int32))), .val (.ref w), .val (.int (0 : Int32)), .val (.int (0 : Int32)), .val (.int (0 : Int32))] [])) _
      refine XS.iconst X7.here hx rfl (hb hby at_61) ?_
      show Steps p.tables e below (T7.setTop (mkF m 62 #[.val (.int p0), .val (.int ((p0 &&& (2147483647 : Int32)) % (14 : Int32))), .val (.ref w), .val (.int (0 : Int32)), .val (.int (0 : Int32)), .val (.int (0 : Int32))] [(.int (1 : Int32))])) _
      refine XS.goto X7.here hx rfl (pc0 := 62) (pc' := 66) rfl (hb hby at_62) (by decide) (by decide) ?_
      exact k
    show OG _ _ _ _ _ _ _ (T7.setTop (mkF m 66 #[.val (.int p0), .val (.int ((p0 &&& (2147483647 : Int32)) % (14 : Int32))), .val (.ref w), .val (.int (0 : Int32)), .val (.int (0 : Int32)), .val (.int (0 : Int32))] [(.int (1 : Int32))]))
    refine OG.retN X7 hx (t := .boolean) Bd.returns (by simp) (hb hby at_66) hlk ?_ (by decide) (by decide)
    rw [e7]
    exact ⟨rfl, N7⟩
set_option maxRecDepth 65536 in
set_option maxHeartbeats 40000000 in
theorem comes_1 {Post : Tables → Env → Array Value → State → Outcome → State → Prop} (hpost : ∀ tb e args s v u, (limb_1_1.after args s (.returned v) u = true ∧ limb_1_2.after args s (.returned v) u = true ∧ True) → FrameEnd s (.returned v) u (Jvm.fieldLocs frame_1_writes args s ++ Jvm.arrayLocs frame_1_arrays args s ++ Jvm.staticLocs frame_1_statics s) 0 0 → Post tb e args s (.returned v) u) :
    ArmFor flags0 classFile x code maxLocals ret World_1 tables_1 room_1 Calls_1 rest_1 Pre_1 Post := by
  intro l hfl _ _ p e ha hc hk s m args below hf hA hF happ hP
  obtain ⟨hcalls, hrest, hpre⟩ := hP
  obtain ⟨-, -, -, hnamed, -, -, -, hat⟩ := (Spec.applies_iff hf).mp happ
  obtain ⟨hg, hn⟩ := and_e (Cond.before_iff.mp (show (Jvm.Cond.and given_1 narrow_1).before args s = true from hpre))
  obtain ⟨g1, g2⟩ := and_e hg
  obtain ⟨w0, rfl⟩ : ∃ w0 : Value, args = #[w0] := by
    have hs : args.size = 1 := by simpa [Cond.value, given_1] using g1
    obtain ⟨L⟩ := args
    match L, hs with
    | [w0], _ => exact ⟨w0, rfl⟩
  have hw := fun d (hd : d ∈ tables_1) => atoms_spec (ws := Jvm.Cond.code x code maxLocals ret :: tables_1) hat d (List.mem_cons_of_mem _ hd)
  have hfit : Fit s := fun {y c} hc i hi => by
    obtain ⟨ha, rfl⟩ := Array.getElem?_eq_some_iff.mp hc
    have q := List.all_eq_true.mp ((Array.all_eq_true_iff_forall_mem.mp hF) _ (Array.getElem_mem ha)) i (List.mem_range.mpr hi)
    simpa [Array.getElem?_eq_getElem hi] using q
  obtain ⟨i0, ei0⟩ := is_v g2
  obtain rfl : w0 = (.int i0) := Option.some.inj ei0
  obtain ⟨na1, na2⟩ := and_e hn
  obtain ⟨na3, na4⟩ := and_e na2
  obtain ⟨na5, na6⟩ := and_e na4
  obtain ⟨na7, na8⟩ := and_e na6
  obtain ⟨na9, na10⟩ := and_e na8
  obtain ⟨na11, na12⟩ := and_e na10
  obtain ⟨na13, na14⟩ := and_e na12
  obtain ⟨na15, na16⟩ := and_e na14
  obtain ⟨na17, na18⟩ := and_e na16
  obtain ⟨na19, na20⟩ := and_e na18
  obtain ⟨na21, na22⟩ := and_e na20
  obtain ⟨na23, na24⟩ := and_e na22
  obtain ⟨na25, na26⟩ := and_e na24
  obtain ⟨na27, na28⟩ := and_e na26
  obtain ⟨na29, na30⟩ := and_e na28
  obtain ⟨na31, na32⟩ := and_e na30
  obtain ⟨na33, na34⟩ := and_e na32
  obtain ⟨na35, na36⟩ := and_e na34
  obtain ⟨na37, na38⟩ := and_e na36
  obtain ⟨na39, na40⟩ := and_e na38
  obtain ⟨na41, na42⟩ := and_e na40
  obtain ⟨na43, na44⟩ := and_e na42
  obtain ⟨na45, na46⟩ := and_e na44
  obtain ⟨na47, na48⟩ := and_e na46
  obtain ⟨na49, na50⟩ := and_e na48
  obtain ⟨na51, na52⟩ := and_e na50
  obtain ⟨na53, na54⟩ := and_e na52
  obtain ⟨w_STRING, ev_STRING⟩ := exa_v na1
  have S_STRING := Sta.start ev_STRING (Or.inr ⟨(hw _ (List.mem_of_getElem? (i := 6) rfl)), (hw _ (List.mem_of_getElem? (i := 7) rfl))⟩)
  have E_STRING := Exa.start ev_STRING na1
  obtain ⟨y_STRING_sizeUnit, nv_STRING_sizeUnit⟩ := exa_v na3
  have Ey_STRING_sizeUnit := Exa.start nv_STRING_sizeUnit na3
  rw [fld_at ev_STRING] at nv_STRING_sizeUnit
  have F_STRING_sizeUnit := Fld.start nv_STRING_sizeUnit
  obtain ⟨w_BOOLEAN, ev_BOOLEAN⟩ := exa_v na5
  have S_BOOLEAN := Sta.start ev_BOOLEAN (Or.inr ⟨(hw _ (List.mem_of_getElem? (i := 6) rfl)), (hw _ (List.mem_of_getElem? (i := 21) rfl))⟩)
  have E_BOOLEAN := Exa.start ev_BOOLEAN na5
  have nv_BOOLEAN_sizeUnit := null_v na7
  rw [fld_at ev_BOOLEAN] at nv_BOOLEAN_sizeUnit
  have F_BOOLEAN_sizeUnit := Fld.start nv_BOOLEAN_sizeUnit
  obtain ⟨w_INT64, ev_INT64⟩ := exa_v na9
  have S_INT64 := Sta.start ev_INT64 (Or.inr ⟨(hw _ (List.mem_of_getElem? (i := 6) rfl)), (hw _ (List.mem_of_getElem? (i := 23) rfl))⟩)
  have E_INT64 := Exa.start ev_INT64 na9
  have nv_INT64_sizeUnit := null_v na11
  rw [fld_at ev_INT64] at nv_INT64_sizeUnit
  have F_INT64_sizeUnit := Fld.start nv_INT64_sizeUnit
  obtain ⟨w_MONEY, ev_MONEY⟩ := exa_v na13
  have S_MONEY := Sta.start ev_MONEY (Or.inr ⟨(hw _ (List.mem_of_getElem? (i := 6) rfl)), (hw _ (List.mem_of_getElem? (i := 25) rfl))⟩)
  have E_MONEY := Exa.start ev_MONEY na13
  have nv_MONEY_sizeUnit := null_v na15
  rw [fld_at ev_MONEY] at nv_MONEY_sizeUnit
  have F_MONEY_sizeUnit := Fld.start nv_MONEY_sizeUnit
  obtain ⟨w_CHAR, ev_CHAR⟩ := exa_v na17
  have S_CHAR := Sta.start ev_CHAR (Or.inr ⟨(hw _ (List.mem_of_getElem? (i := 6) rfl)), (hw _ (List.mem_of_getElem? (i := 27) rfl))⟩)
  have E_CHAR := Exa.start ev_CHAR na17
  have nv_CHAR_sizeUnit := null_v na19
  rw [fld_at ev_CHAR] at nv_CHAR_sizeUnit
  have F_CHAR_sizeUnit := Fld.start nv_CHAR_sizeUnit
  obtain ⟨w_DOUBLE, ev_DOUBLE⟩ := exa_v na21
  have S_DOUBLE := Sta.start ev_DOUBLE (Or.inr ⟨(hw _ (List.mem_of_getElem? (i := 6) rfl)), (hw _ (List.mem_of_getElem? (i := 29) rfl))⟩)
  have E_DOUBLE := Exa.start ev_DOUBLE na21
  have nv_DOUBLE_sizeUnit := null_v na23
  rw [fld_at ev_DOUBLE] at nv_DOUBLE_sizeUnit
  have F_DOUBLE_sizeUnit := Fld.start nv_DOUBLE_sizeUnit
  obtain ⟨w_BLOB, ev_BLOB⟩ := exa_v na25
  have S_BLOB := Sta.start ev_BLOB (Or.inr ⟨(hw _ (List.mem_of_getElem? (i := 6) rfl)), (hw _ (List.mem_of_getElem? (i := 31) rfl))⟩)
  have E_BLOB := Exa.start ev_BLOB na25
  obtain ⟨y_BLOB_sizeUnit, nv_BLOB_sizeUnit⟩ := exa_v na27
  have Ey_BLOB_sizeUnit := Exa.start nv_BLOB_sizeUnit na27
  rw [fld_at ev_BLOB] at nv_BLOB_sizeUnit
  have F_BLOB_sizeUnit := Fld.start nv_BLOB_sizeUnit
  obtain ⟨w_INT32, ev_INT32⟩ := exa_v na29
  have S_INT32 := Sta.start ev_INT32 (Or.inr ⟨(hw _ (List.mem_of_getElem? (i := 6) rfl)), (hw _ (List.mem_of_getElem? (i := 33) rfl))⟩)
  have E_INT32 := Exa.start ev_INT32 na29
  have nv_INT32_sizeUnit := null_v na31
  rw [fld_at ev_INT32] at nv_INT32_sizeUnit
  have F_INT32_sizeUnit := Fld.start nv_INT32_sizeUnit
  obtain ⟨w_INT16, ev_INT16⟩ := exa_v na33
  have S_INT16 := Sta.start ev_INT16 (Or.inr ⟨(hw _ (List.mem_of_getElem? (i := 6) rfl)), (hw _ (List.mem_of_getElem? (i := 35) rfl))⟩)
  have E_INT16 := Exa.start ev_INT16 na33
  have nv_INT16_sizeUnit := null_v na35
  rw [fld_at ev_INT16] at nv_INT16_sizeUnit
  have F_INT16_sizeUnit := Fld.start nv_INT16_sizeUnit
  obtain ⟨w_FLOAT, ev_FLOAT⟩ := exa_v na37
  have S_FLOAT := Sta.start ev_FLOAT (Or.inr ⟨(hw _ (List.mem_of_getElem? (i := 6) rfl)), (hw _ (List.mem_of_getElem? (i := 37) rfl))⟩)
  have E_FLOAT := Exa.start ev_FLOAT na37
  have nv_FLOAT_sizeUnit := null_v na39
  rw [fld_at ev_FLOAT] at nv_FLOAT_sizeUnit
  have F_FLOAT_sizeUnit := Fld.start nv_FLOAT_sizeUnit
  obtain ⟨w_UNBOUNDED_STRING, ev_UNBOUNDED_STRING⟩ := exa_v na41
  have S_UNBOUNDED_STRING := Sta.start ev_UNBOUNDED_STRING (Or.inr ⟨(hw _ (List.mem_of_getElem? (i := 6) rfl)), (hw _ (List.mem_of_getElem? (i := 39) rfl))⟩)
  have E_UNBOUNDED_STRING := Exa.start ev_UNBOUNDED_STRING na41
  have nv_UNBOUNDED_STRING_sizeUnit := null_v na43
  rw [fld_at ev_UNBOUNDED_STRING] at nv_UNBOUNDED_STRING_sizeUnit
  have F_UNBOUNDED_STRING_sizeUnit := Fld.start nv_UNBOUNDED_STRING_sizeUnit
  obtain ⟨w_INT8, ev_INT8⟩ := exa_v na45
  have S_INT8 := Sta.start ev_INT8 (Or.inr ⟨(hw _ (List.mem_of_getElem? (i := 6) rfl)), (hw _ (List.mem_of_getElem? (i := 41) rfl))⟩)
  have E_INT8 := Exa.start ev_INT8 na45
  have nv_INT8_sizeUnit := null_v na47
  rw [fld_at ev_INT8] at nv_INT8_sizeUnit
  have F_INT8_sizeUnit := Fld.start nv_INT8_sizeUnit
  obtain ⟨w_DATE, ev_DATE⟩ := exa_v na49
  have S_DATE := Sta.start ev_DATE (Or.inr ⟨(hw _ (List.mem_of_getElem? (i := 6) rfl)), (hw _ (List.mem_of_getElem? (i := 43) rfl))⟩)
  have E_DATE := Exa.start ev_DATE na49
  have nv_DATE_sizeUnit := null_v na51
  rw [fld_at ev_DATE] at nv_DATE_sizeUnit
  have F_DATE_sizeUnit := Fld.start nv_DATE_sizeUnit
  obtain ⟨w_DATETIME, ev_DATETIME⟩ := exa_v na53
  have S_DATETIME := Sta.start ev_DATETIME (Or.inr ⟨(hw _ (List.mem_of_getElem? (i := 6) rfl)), (hw _ (List.mem_of_getElem? (i := 45) rfl))⟩)
  have E_DATETIME := Exa.start ev_DATETIME na53
  have nv_DATETIME_sizeUnit := null_v na54
  rw [fld_at ev_DATETIME] at nv_DATETIME_sizeUnit
  have F_DATETIME_sizeUnit := Fld.start nv_DATETIME_sizeUnit
  have P_STRING : OE1 s s.heap "STRING" := ⟨w_STRING, y_STRING_sizeUnit, S_STRING, E_STRING, F_STRING_sizeUnit⟩
  have P_BOOLEAN : OE0 s s.heap "BOOLEAN" := ⟨w_BOOLEAN, S_BOOLEAN, E_BOOLEAN, F_BOOLEAN_sizeUnit⟩
  have P_INT64 : OE0 s s.heap "INT64" := ⟨w_INT64, S_INT64, E_INT64, F_INT64_sizeUnit⟩
  have P_MONEY : OE0 s s.heap "MONEY" := ⟨w_MONEY, S_MONEY, E_MONEY, F_MONEY_sizeUnit⟩
  have P_CHAR : OE0 s s.heap "CHAR" := ⟨w_CHAR, S_CHAR, E_CHAR, F_CHAR_sizeUnit⟩
  have P_DOUBLE : OE0 s s.heap "DOUBLE" := ⟨w_DOUBLE, S_DOUBLE, E_DOUBLE, F_DOUBLE_sizeUnit⟩
  have P_BLOB : OE1 s s.heap "BLOB" := ⟨w_BLOB, y_BLOB_sizeUnit, S_BLOB, E_BLOB, F_BLOB_sizeUnit⟩
  have P_INT32 : OE0 s s.heap "INT32" := ⟨w_INT32, S_INT32, E_INT32, F_INT32_sizeUnit⟩
  have P_INT16 : OE0 s s.heap "INT16" := ⟨w_INT16, S_INT16, E_INT16, F_INT16_sizeUnit⟩
  have P_FLOAT : OE0 s s.heap "FLOAT" := ⟨w_FLOAT, S_FLOAT, E_FLOAT, F_FLOAT_sizeUnit⟩
  have P_UNBOUNDED_STRING : OE0 s s.heap "UNBOUNDED_STRING" := ⟨w_UNBOUNDED_STRING, S_UNBOUNDED_STRING, E_UNBOUNDED_STRING, F_UNBOUNDED_STRING_sizeUnit⟩
  have P_INT8 : OE0 s s.heap "INT8" := ⟨w_INT8, S_INT8, E_INT8, F_INT8_sizeUnit⟩
  have P_DATE : OE0 s s.heap "DATE" := ⟨w_DATE, S_DATE, E_DATE, F_DATE_sizeUnit⟩
  have P_DATETIME : OE0 s s.heap "DATETIME" := ⟨w_DATETIME, S_DATETIME, E_DATETIME, F_DATETIME_sizeUnit⟩
  obtain ⟨n, o, h1, h2, h3, _, L, rfl, ⟨rfl, N⟩, hq⟩ := rm0 l s _ hw tables_1 i0 s.heap s.heap.size (Nat.le_refl _) P_STRING P_BOOLEAN P_INT64 P_MONEY P_CHAR P_DOUBLE P_BLOB P_INT32 P_INT16 P_FLOAT P_UNBOUNDED_STRING P_INT8 P_DATE P_DATETIME p e ha hc hk s m _ below hf ((Spec.applies_iff_loose hf).mp happ).1 ⟨rfl, State.Warmed39.refl s, rfl⟩ trivial
  refine ⟨n, _, h1, h2, h3, hpost _ _ _ _ _ _ ⟨Cond.after_iff.mpr rfl, Cond.after_iff.mpr (eq_i res_at (Term.int_eval (1)) rfl), trivial⟩ ⟨hq.1, hq.2.1, (hq.2.2.sift fun y hy => Or.inr (N y hy)).mono (by decide) (by decide)⟩⟩
theorem main_1_1 : Claimed_1_1 := comes_1 fun _ _ _ _ _ _ h hF => ⟨h.1, hF⟩
theorem main_1_2 : Claimed_1_2 := comes_1 fun _ _ _ _ _ _ h hF => ⟨h.2.1, hF⟩
end Jvm.Pilot.@@N@@
namespace Jvm.Pilot.@@N@@
open Jvm Jvm.ClassFile Sem Op Lib Jvm.Free Jvm.Stand Jvm.Pilot.@@N@@.Jvm.D
/-! MADE BY PROGRAM (witnessworld.py) out of the Statement's table words and the real class files: 15 classes; the members and pool entries that the words name. The judged class is class 1, her method 2. -/
namespace start1
open Jvm.ClassFile
def u (s : String) : CpInfo := .utf8 (stringToUtf16 s)
/-- a pool by its gaps: so many unusable entries, then the entry; so many at the end -/
def gap : Nat → List CpInfo → List CpInfo
  | 0, r => r
  | n + 1, r => .unusable :: gap n r
def poolList (es : List (Nat × CpInfo)) (last : Nat) : List CpInfo := es.foldr (fun e r => gap e.1 (e.2 :: r)) (gap last [])
def pool (es : List (Nat × CpInfo)) (last : Nat) : Array CpInfo := ⟨poolList es last⟩
def fileOf (pool : Array CpInfo) (this : Nat) (attrs : Array Attribute := #[]) (ms : Array MethodInfo := #[]) (fl : Nat := 33) (sup : Nat := 0) (ifs : Array Nat := #[]) (fds : Array FieldInfo := #[]) : ClassFile where
  minorVersion := 0
  majorVersion := 65
  constantPool := pool
  accessFlags := fl
  thisClass := this
  superClass := sup
  interfaces := ifs
  fields := fds
  methods := ms
  attributes := attrs
def plain (name : String) (sup : Option ClassId) : Class where
  name := name
  kind := .ordinary
  loader := none
  accessFlags := 33
  super := sup
  interfaces := #[]
  cf := none
  fields := #[]
  methods := #[]
  instanceTypes := #[]
  staticTypes := #[]
  resolved := #[]
  callSites := []
  init := .initialized
  statics := none
  mirror := none

def pool0 : Array CpInfo := pool [(5, u "<init>"), (0, u "()V"), (1, .class_ 10), (1, u "java/lang/Object")] 113

def k0m0 : Method := { name := "<init>", desc := "()V", sig := { parameters := [], returnType := none }, accessFlags := 1, code := none }
/-- java/lang/Object -/
def k0 : Class := { plain "java/lang/Object" none with
  accessFlags := 33
  interfaces := #[]
  cf := some (fileOf pool0 8 #[] #[{ accessFlags := 1, nameIndex := 5, descriptorIndex := 6, attributes := #[] }] 33 0 #[] #[])
  fields := #[]
  methods := #[k0m0]
  instanceTypes := #[]
  staticTypes := #[]
  resolved := Array.replicate 124 none
  statics := none }

def pool1 : Array CpInfo := pool [(2, .class_ 4), (1, u "java/lang/Object"), (0, u "<init>"), (0, u "()V"), (0, .fieldref 8 9), (0, .class_ 10), (0, .nameAndType 11 12), (0, u "com/example/kind4/kind4/model/Primitive"), (0, u "STRING"), (0, u "Lcom/example/kind4/kind4/model/Primitive;"), (0, .fieldref 8 14), (0, .nameAndType 15 12), (0, u "UNBOUNDED_STRING"), (0, .fieldref 8 17), (0, .nameAndType 18 12), (0, u "BLOB"), (0, .fieldref 8 20), (0, .nameAndType 21 12), (0, u "BOOLEAN"), (0, .fieldref 8 23), (0, .nameAndType 24 12), (0, u "CHAR"), (0, .fieldref 8 26), (0, .nameAndType 27 12), (0, u "DATE"), (0, .fieldref 8 29), (0, .nameAndType 30 12), (0, u "DATETIME"), (0, .fieldref 8 32), (0, .nameAndType 33 12), (0, u "DOUBLE"), (0, .fieldref 8 35), (0, .nameAndType 36 12), (0, u "FLOAT"), (0, .fieldref 8 38), (0, .nameAndType 39 12), (0, u "INT8"), (0, .fieldref 8 41), (0, .nameAndType 42 12), (0, u "INT16"), (0, .fieldref 8 44), (0, .nameAndType 45 12), (0, u "INT32"), (0, .fieldref 8 47), (0, .nameAndType 48 12), (0, u "INT64"), (0, .fieldref 8 50), (0, .nameAndType 51 12), (0, u "MONEY"), (0, .integer 2147483647), (0, .methodref 54 55), (0, .class_ 56), (0, .nameAndType 57 58), (0, u "com/example/kind4/kind4/model/PrimitiveSizedPinLaw"), (0, u "pick"), (0, u "(I)Lcom/example/kind4/kind4/model/Primitive;"), (0, .methodref 8 60), (0, .nameAndType 61 62), (0, u "sized"), (0, u "()Z"), (0, .methodref 8 64), (0, .nameAndType 65 66), (0, u "sizeUnit"), (0, u "()Ljava/lang/String;"), (3, u "law"), (0, u "(I)Z")] 2

def k1m0 : Method := { name := "<init>", desc := "()V", sig := { parameters := [], returnType := none }, accessFlags := 1, code := none }
def k1c1 : Code := { maxStack := 2, maxLocals := 1, code := method_2_code, exceptionTable := #[], attributes := #[] }
def k1m1 : Method := { name := "pick", desc := "(I)Lcom/example/kind4/kind4/model/Primitive;", sig := { parameters := [.int], returnType := some (.object "com/example/kind4/kind4/model/Primitive") }, accessFlags := 10, code := some k1c1 }
def k1c2 : Code := { maxStack := 2, maxLocals := 6, code := code, exceptionTable := #[], attributes := #[] }
def k1m2 : Method := { name := "law", desc := "(I)Z", sig := { parameters := [.int], returnType := some .boolean }, accessFlags := 9, code := some k1c2 }
/-- com/example/kind4/kind4/model/PrimitiveSizedPinLaw -/
def k1 : Class := { plain "com/example/kind4/kind4/model/PrimitiveSizedPinLaw" (some 0) with
  accessFlags := 49
  interfaces := #[]
  cf := some (fileOf pool1 54 #[] #[{ accessFlags := 1, nameIndex := 5, descriptorIndex := 6, attributes := #[] }, { accessFlags := 10, nameIndex := 57, descriptorIndex := 58, attributes := #[] }, { accessFlags := 9, nameIndex := 70, descriptorIndex := 71, attributes := #[] }] 49 2 #[] #[])
  fields := #[]
  methods := #[k1m0, k1m1, k1m2]
  instanceTypes := #[]
  staticTypes := #[]
  resolved := Array.replicate 74 none
  statics := none }

def pool2 : Array CpInfo := pool [(1, .class_ 2), (0, u "java/lang/constant/Constable"), (0, .class_ 4), (0, u "java/lang/Object")] 6

/-- java/lang/constant/Constable -/
def k2 : Class := { plain "java/lang/constant/Constable" (some 0) with
  accessFlags := 1537
  interfaces := #[]
  cf := some (fileOf pool2 1 #[] #[] 1537 3 #[] #[])
  fields := #[]
  methods := #[]
  instanceTypes := #[]
  staticTypes := #[]
  resolved := Array.replicate 11 none
  statics := none }

def pool3 : Array CpInfo := pool [(1, .class_ 2), (0, u "java/lang/Comparable"), (0, .class_ 4), (0, u "java/lang/Object")] 7

/-- java/lang/Comparable -/
def k3 : Class := { plain "java/lang/Comparable" (some 0) with
  accessFlags := 1537
  interfaces := #[]
  cf := some (fileOf pool3 1 #[] #[] 1537 3 #[] #[])
  fields := #[]
  methods := #[]
  instanceTypes := #[]
  staticTypes := #[]
  resolved := Array.replicate 12 none
  statics := none }

def pool4 : Array CpInfo := pool [(1, .class_ 2), (0, u "java/io/Serializable"), (0, .class_ 4), (0, u "java/lang/Object")] 2

/-- java/io/Serializable -/
def k4 : Class := { plain "java/io/Serializable" (some 0) with
  accessFlags := 1537
  interfaces := #[]
  cf := some (fileOf pool4 1 #[] #[] 1537 3 #[] #[])
  fields := #[]
  methods := #[]
  instanceTypes := #[]
  staticTypes := #[]
  resolved := Array.replicate 7 none
  statics := none }

def pool5 : Array CpInfo := pool [(2, .class_ 4), (1, u "java/lang/Enum"), (0, u "name"), (0, u "Ljava/lang/String;"), (2, u "ordinal"), (0, u "I"), (1, .class_ 14), (1, u "java/lang/Object"), (4, u "hash"), (86, .class_ 108), (1, u "java/lang/Enum$EnumDesc"), (2, .class_ 112), (0, u "java/lang/constant/Constable"), (0, .class_ 114), (0, u "java/lang/Comparable"), (0, .class_ 116), (0, u "java/io/Serializable")] 87

/-- java/lang/Enum -/
def k5 : Class := { plain "java/lang/Enum" (some 0) with
  accessFlags := 1057
  interfaces := #[2, 3, 4]
  cf := some (fileOf pool5 2 #[.nestMembers #[106]] #[] 1057 12 #[111, 113, 115] #[{ accessFlags := 18, nameIndex := 5, descriptorIndex := 6, attributes := #[] }, { accessFlags := 18, nameIndex := 9, descriptorIndex := 10, attributes := #[] }, { accessFlags := 2, nameIndex := 19, descriptorIndex := 10, attributes := #[] }])
  fields := #[{ name := "name", type := (.object "java/lang/String"), accessFlags := 18, slot := 0, constantValue := 0 }, { name := "ordinal", type := .int, accessFlags := 18, slot := 1, constantValue := 0 }, { name := "hash", type := .int, accessFlags := 2, slot := 2, constantValue := 0 }]
  methods := #[]
  instanceTypes := #[(.object "java/lang/String"), .int, .int]
  staticTypes := #[]
  resolved := Array.replicate 204 none
  statics := none }

def pool6 : Array CpInfo := pool [(1, .class_ 2), (0, u "com/example/kind4/kind4/model/Primitive"), (2, u "STRING"), (0, u "Lcom/example/kind4/kind4/model/Primitive;"), (2, u "UNBOUNDED_STRING"), (2, u "BLOB"), (2, u "BOOLEAN"), (2, u "CHAR"), (2, u "DATE"), (2, u "DATETIME"), (2, u "DOUBLE"), (2, u "FLOAT"), (2, u "INT8"), (2, u "INT16"), (2, u "INT32"), (2, u "INT64"), (2, u "MONEY"), (2, u "$VALUES"), (0, u "[Lcom/example/kind4/kind4/model/Primitive;"), (6, .class_ 58), (1, u "java/lang/Enum"), (8, u "javaType"), (0, u "Ljava/lang/String;"), (2, u "javaEmptyValue"), (2, u "valuesAccessor"), (0, .fieldref 1 76), (0, .nameAndType 77 68), (0, u "sizeUnit"), (0, .class_ 79), (0, u "com/example/kind4/kind4/model/Primitive$Trait"), (8, u "traits"), (0, u "Ljava/util/Set;"), (33, .class_ 124), (0, u "com/example/kind4/kind4/model/Primitive$Range"), (120, u "sized"), (0, u "()Z"), (1, u "()Ljava/lang/String;")] 15

def k6c0 : Code := { maxStack := 1, maxLocals := 1, code := prog_66_method_4_code, exceptionTable := #[], attributes := #[] }
def k6m0 : Method := { name := "sized", desc := "()Z", sig := { parameters := [], returnType := some .boolean }, accessFlags := 1, code := some k6c0 }
def k6c1 : Code := { maxStack := 1, maxLocals := 1, code := prog_66_method_5_code, exceptionTable := #[], attributes := #[] }
def k6m1 : Method := { name := "sizeUnit", desc := "()Ljava/lang/String;", sig := { parameters := [], returnType := some (.object "java/lang/String") }, accessFlags := 1, code := some k6c1 }
/-- com/example/kind4/kind4/model/Primitive -/
def k6 : Class := { plain "com/example/kind4/kind4/model/Primitive" (some 5) with
  accessFlags := 16433
  interfaces := #[]
  cf := some (fileOf pool6 1 #[.nestMembers #[78, 123]] #[{ accessFlags := 1, nameIndex := 245, descriptorIndex := 246, attributes := #[] }, { accessFlags := 1, nameIndex := 77, descriptorIndex := 248, attributes := #[] }] 16433 56 #[] #[{ accessFlags := 16409, nameIndex := 5, descriptorIndex := 6, attributes := #[] }, { accessFlags := 16409, nameIndex := 9, descriptorIndex := 6, attributes := #[] }, { accessFlags := 16409, nameIndex := 12, descriptorIndex := 6, attributes := #[] }, { accessFlags := 16409, nameIndex := 15, descriptorIndex := 6, attributes := #[] }, { accessFlags := 16409, nameIndex := 18, descriptorIndex := 6, attributes := #[] }, { accessFlags := 16409, nameIndex := 21, descriptorIndex := 6, attributes := #[] }, { accessFlags := 16409, nameIndex := 24, descriptorIndex := 6, attributes := #[] }, { accessFlags := 16409, nameIndex := 27, descriptorIndex := 6, attributes := #[] }, { accessFlags := 16409, nameIndex := 30, descriptorIndex := 6, attributes := #[] }, { accessFlags := 16409, nameIndex := 33, descriptorIndex := 6, attributes := #[] }, { accessFlags := 16409, nameIndex := 36, descriptorIndex := 6, attributes := #[] }, { accessFlags := 16409, nameIndex := 39, descriptorIndex := 6, attributes := #[] }, { accessFlags := 16409, nameIndex := 42, descriptorIndex := 6, attributes := #[] }, { accessFlags := 16409, nameIndex := 45, descriptorIndex := 6, attributes := #[] }, { accessFlags := 18, nameIndex := 67, descriptorIndex := 68, attributes := #[] }, { accessFlags := 18, nameIndex := 71, descriptorIndex := 68, attributes := #[] }, { accessFlags := 18, nameIndex := 74, descriptorIndex := 68, attributes := #[] }, { accessFlags := 18, nameIndex := 77, descriptorIndex := 68, attributes := #[] }, { accessFlags := 18, nameIndex := 88, descriptorIndex := 89, attributes := #[] }, { accessFlags := 4122, nameIndex := 48, descriptorIndex := 49, attributes := #[] }])
  fields := #[{ name := "STRING", type := (.object "com/example/kind4/kind4/model/Primitive"), accessFlags := 16409, slot := 0, constantValue := 0 }, { name := "UNBOUNDED_STRING", type := (.object "com/example/kind4/kind4/model/Primitive"), accessFlags := 16409, slot := 1, constantValue := 0 }, { name := "BLOB", type := (.object "com/example/kind4/kind4/model/Primitive"), accessFlags := 16409, slot := 2, constantValue := 0 }, { name := "BOOLEAN", type := (.object "com/example/kind4/kind4/model/Primitive"), accessFlags := 16409, slot := 3, constantValue := 0 }, { name := "CHAR", type := (.object "com/example/kind4/kind4/model/Primitive"), accessFlags := 16409, slot := 4, constantValue := 0 }, { name := "DATE", type := (.object "com/example/kind4/kind4/model/Primitive"), accessFlags := 16409, slot := 5, constantValue := 0 }, { name := "DATETIME", type := (.object "com/example/kind4/kind4/model/Primitive"), accessFlags := 16409, slot := 6, constantValue := 0 }, { name := "DOUBLE", type := (.object "com/example/kind4/kind4/model/Primitive"), accessFlags := 16409, slot := 7, constantValue := 0 }, { name := "FLOAT", type := (.object "com/example/kind4/kind4/model/Primitive"), accessFlags := 16409, slot := 8, constantValue := 0 }, { name := "INT8", type := (.object "com/example/kind4/kind4/model/Primitive"), accessFlags := 16409, slot := 9, constantValue := 0 }, { name := "INT16", type := (.object "com/example/kind4/kind4/model/Primitive"), accessFlags := 16409, slot := 10, constantValue := 0 }, { name := "INT32", type := (.object "com/example/kind4/kind4/model/Primitive"), accessFlags := 16409, slot := 11, constantValue := 0 }, { name := "INT64", type := (.object "com/example/kind4/kind4/model/Primitive"), accessFlags := 16409, slot := 12, constantValue := 0 }, { name := "MONEY", type := (.object "com/example/kind4/kind4/model/Primitive"), accessFlags := 16409, slot := 13, constantValue := 0 }, { name := "javaType", type := (.object "java/lang/String"), accessFlags := 18, slot := 3, constantValue := 0 }, { name := "javaEmptyValue", type := (.object "java/lang/String"), accessFlags := 18, slot := 4, constantValue := 0 }, { name := "valuesAccessor", type := (.object "java/lang/String"), accessFlags := 18, slot := 5, constantValue := 0 }, { name := "sizeUnit", type := (.object "java/lang/String"), accessFlags := 18, slot := 6, constantValue := 0 }, { name := "traits", type := (.object "java/util/Set"), accessFlags := 18, slot := 7, constantValue := 0 }, { name := "$VALUES", type := (.array (.object "com/example/kind4/kind4/model/Primitive")), accessFlags := 4122, slot := 14, constantValue := 0 }]
  methods := #[k6m0, k6m1]
  instanceTypes := #[(.object "java/lang/String"), .int, .int, (.object "java/lang/String"), (.object "java/lang/String"), (.object "java/lang/String"), (.object "java/lang/String"), (.object "java/util/Set")]
  staticTypes := #[(.object "com/example/kind4/kind4/model/Primitive"), (.object "com/example/kind4/kind4/model/Primitive"), (.object "com/example/kind4/kind4/model/Primitive"), (.object "com/example/kind4/kind4/model/Primitive"), (.object "com/example/kind4/kind4/model/Primitive"), (.object "com/example/kind4/kind4/model/Primitive"), (.object "com/example/kind4/kind4/model/Primitive"), (.object "com/example/kind4/kind4/model/Primitive"), (.object "com/example/kind4/kind4/model/Primitive"), (.object "com/example/kind4/kind4/model/Primitive"), (.object "com/example/kind4/kind4/model/Primitive"), (.object "com/example/kind4/kind4/model/Primitive"), (.object "com/example/kind4/kind4/model/Primitive"), (.object "com/example/kind4/kind4/model/Primitive"), (.array (.object "com/example/kind4/kind4/model/Primitive"))]
  resolved := Array.replicate 264 none
  statics := some 0 }

def pool7 : Array CpInfo := pool [(2, .class_ 4), (1, u "java/lang/CharSequence"), (42, .class_ 48), (0, u "java/lang/CharSequence$1CodePointIterator"), (10, .class_ 60), (0, u "java/lang/CharSequence$1CharIterator"), (5, .class_ 67), (0, u "java/lang/Object")] 63

/-- java/lang/CharSequence -/
def k7 : Class := { plain "java/lang/CharSequence" (some 0) with
  accessFlags := 1537
  interfaces := #[]
  cf := some (fileOf pool7 2 #[.nestMembers #[47, 59]] #[] 1537 66 #[] #[])
  fields := #[]
  methods := #[]
  instanceTypes := #[]
  staticTypes := #[]
  resolved := Array.replicate 131 none
  statics := none }

def pool8 : Array CpInfo := pool [(1, .class_ 2), (0, u "java/lang/constant/ConstantDesc"), (0, .class_ 4), (0, u "java/lang/Object")] 32

/-- java/lang/constant/ConstantDesc -/
def k8 : Class := { plain "java/lang/constant/ConstantDesc" (some 0) with
  accessFlags := 1537
  interfaces := #[]
  cf := some (fileOf pool8 1 #[] #[] 1537 3 #[] #[])
  fields := #[]
  methods := #[]
  instanceTypes := #[]
  staticTypes := #[]
  resolved := Array.replicate 37 none
  statics := none }

def pool9 : Array CpInfo := pool [(2, .class_ 4), (1, u "java/lang/Object"), (0, u "<init>"), (0, u "()V"), (3, .class_ 12), (1, u "java/lang/String"), (0, u "value"), (0, u "[B"), (2, u "coder"), (0, u "B"), (2, u "hash"), (0, u "I"), (2, u "hashIsZero"), (0, u "Z"), (13, u "COMPACT_STRINGS"), (534, .class_ 576), (0, u "java/lang/CharSequence"), (22, u "CASE_INSENSITIVE_ORDER"), (0, u "Ljava/util/Comparator;"), (500, u "serialPersistentFields"), (0, u "[Ljava/io/ObjectStreamField;"), (0, .class_ 1104), (0, u "java/lang/String$CaseInsensitiveComparator"), (1, .class_ 1107), (0, u "java/io/Serializable"), (0, .class_ 1109), (0, u "java/lang/Comparable"), (0, .class_ 1111), (0, u "java/lang/constant/Constable"), (0, .class_ 1113), (0, u "java/lang/constant/ConstantDesc"), (2, u "serialVersionUID"), (0, u "J"), (3, u "REPL"), (0, u "C"), (2, u "LATIN1"), (1, u "UTF16")] 323

def k9m0 : Method := { name := "<init>", desc := "()V", sig := { parameters := [], returnType := none }, accessFlags := 1, code := none }
/-- java/lang/String -/
def k9 : Class := { plain "java/lang/String" (some 0) with
  accessFlags := 49
  interfaces := #[4, 3, 7, 2, 8]
  cf := some (fileOf pool9 10 #[.nestMembers #[1103]] #[{ accessFlags := 1, nameIndex := 5, descriptorIndex := 6, attributes := #[] }] 49 2 #[1106, 1108, 575, 1110, 1112] #[{ accessFlags := 18, nameIndex := 13, descriptorIndex := 14, attributes := #[] }, { accessFlags := 18, nameIndex := 17, descriptorIndex := 18, attributes := #[] }, { accessFlags := 2, nameIndex := 21, descriptorIndex := 22, attributes := #[] }, { accessFlags := 2, nameIndex := 25, descriptorIndex := 26, attributes := #[] }, { accessFlags := 26, nameIndex := 1116, descriptorIndex := 1117, attributes := #[] }, { accessFlags := 24, nameIndex := 40, descriptorIndex := 26, attributes := #[] }, { accessFlags := 26, nameIndex := 1101, descriptorIndex := 1102, attributes := #[] }, { accessFlags := 26, nameIndex := 1121, descriptorIndex := 1122, attributes := #[] }, { accessFlags := 25, nameIndex := 599, descriptorIndex := 600, attributes := #[] }, { accessFlags := 24, nameIndex := 1125, descriptorIndex := 18, attributes := #[] }, { accessFlags := 24, nameIndex := 1127, descriptorIndex := 18, attributes := #[] }])
  fields := #[{ name := "value", type := (.array .byte), accessFlags := 18, slot := 0, constantValue := 0 }, { name := "coder", type := .byte, accessFlags := 18, slot := 1, constantValue := 0 }, { name := "hash", type := .int, accessFlags := 2, slot := 2, constantValue := 0 }, { name := "hashIsZero", type := .boolean, accessFlags := 2, slot := 3, constantValue := 0 }, { name := "serialVersionUID", type := .long, accessFlags := 26, slot := 0, constantValue := 0 }, { name := "COMPACT_STRINGS", type := .boolean, accessFlags := 24, slot := 1, constantValue := 0 }, { name := "serialPersistentFields", type := (.array (.object "java/io/ObjectStreamField")), accessFlags := 26, slot := 2, constantValue := 0 }, { name := "REPL", type := .char, accessFlags := 26, slot := 3, constantValue := 0 }, { name := "CASE_INSENSITIVE_ORDER", type := (.object "java/util/Comparator"), accessFlags := 25, slot := 4, constantValue := 0 }, { name := "LATIN1", type := .byte, accessFlags := 24, slot := 5, constantValue := 0 }, { name := "UTF16", type := .byte, accessFlags := 24, slot := 6, constantValue := 0 }]
  methods := #[k9m0]
  instanceTypes := #[(.array .byte), .byte, .int, .boolean]
  staticTypes := #[.long, .boolean, (.array (.object "java/io/ObjectStreamField")), .char, (.object "java/util/Comparator"), .byte, .byte]
  resolved := Array.replicate 1451 none
  statics := none }

def pool10 : Array CpInfo := pool [(1, u "java/lang/Cloneable"), (0, .class_ 1), (0, u "java/lang/Object"), (0, .class_ 3)] 3

/-- java/lang/Cloneable -/
def k10 : Class := { plain "java/lang/Cloneable" (some 0) with
  accessFlags := 1537
  interfaces := #[]
  cf := some (fileOf pool10 2 #[] #[] 1537 4 #[] #[])
  fields := #[]
  methods := #[]
  instanceTypes := #[]
  staticTypes := #[]
  resolved := Array.replicate 8 none
  statics := none }

/-- the primitive byte -/
def k11 : Class := { plain "byte" none with kind := .primitive 'B', accessFlags := 0x411 }
/-- [B -/
def k12 : Class := { plain "[B" (some 0) with kind := .array 11 .byte, interfaces := #[10, 4], accessFlags := 1041 }

/-- the primitive int -/
def k13 : Class := { plain "int" none with kind := .primitive 'I', accessFlags := 0x411 }
/-- [I -/
def k14 : Class := { plain "[I" (some 0) with kind := .array 13 .int, interfaces := #[10, 4], accessFlags := 1041 }

def heap : Heap := #[{ cls := 6, slots := #[.ref 2, .ref 3, .ref 4, .ref 5, .ref 6, .ref 7, .ref 8, .ref 9, .ref 10, .ref 11, .ref 12, .ref 13, .ref 14, .ref 15, .null], vm := .statics 6 },
  { cls := 9, slots := #[.null, .int 0, .int 0, .int 0], vm := .none },
  { cls := 6, slots := #[.null, .int 0, .int 0, .null, .null, .null, .ref 1, .null], vm := .none },
  { cls := 6, slots := #[.null, .int 1, .int 0, .null, .null, .null, .null, .null], vm := .none },
  { cls := 6, slots := #[.null, .int 2, .int 0, .null, .null, .null, .ref 1, .null], vm := .none },
  { cls := 6, slots := #[.null, .int 3, .int 0, .null, .null, .null, .null, .null], vm := .none },
  { cls := 6, slots := #[.null, .int 4, .int 0, .null, .null, .null, .null, .null], vm := .none },
  { cls := 6, slots := #[.null, .int 5, .int 0, .null, .null, .null, .null, .null], vm := .none },
  { cls := 6, slots := #[.null, .int 6, .int 0, .null, .null, .null, .null, .null], vm := .none },
  { cls := 6, slots := #[.null, .int 7, .int 0, .null, .null, .null, .null, .null], vm := .none },
  { cls := 6, slots := #[.null, .int 8, .int 0, .null, .null, .null, .null, .null], vm := .none },
  { cls := 6, slots := #[.null, .int 9, .int 0, .null, .null, .null, .null, .null], vm := .none },
  { cls := 6, slots := #[.null, .int 10, .int 0, .null, .null, .null, .null, .null], vm := .none },
  { cls := 6, slots := #[.null, .int 11, .int 0, .null, .null, .null, .null, .null], vm := .none },
  { cls := 6, slots := #[.null, .int 12, .int 0, .null, .null, .null, .null, .null], vm := .none },
  { cls := 6, slots := #[.null, .int 13, .int 0, .null, .null, .null, .null, .null], vm := .none }]
def classes : Array Class := #[k0, k1, k2, k3, k4, k5, k6, k7, k8, k9, k10, k11, k12, k13, k14]
def interned : List (Array UInt16 × Addr) := []
def slotsUsed : Nat := 131
def theMethod : MethodId := ⟨1, 2⟩
def args0 : Array Value := #[.int 1]
def aboutOver (below : List Frame) : State where
  vm := { classes := classes, interned := interned.toArray }
  heap := heap
  slotsUsed := slotsUsed
  threads := #[{ frames := .invoking theMethod args0 :: below }]
def below0 : List Frame := [.native { method := ⟨0, 0⟩, args := #[] }]
def about1 : State := aboutOver below0
def p0 : Program := .bare "" "" ""
def e0 : Env := launch0.env 0 0 0
theorem w_frames : about1.frames = Frame.invoking theMethod args0 :: below0 := rfl
set_option maxRecDepth 65536 in
theorem w_args : argsFit about1.vm theMethod args0 = true := by decide +kernel
set_option maxRecDepth 65536 in
theorem w_heap : heapFits about1 = true := by decide +kernel
set_option maxRecDepth 65536 in
theorem w_runnable : about1.curStatus? = some .runnable := by decide +kernel
set_option maxRecDepth 65536 in
theorem w_alone : about1.alone = true := by decide +kernel
set_option maxRecDepth 65536 in
theorem w_named : about1.methodNamed? x = some theMethod := by decide +kernel
set_option maxRecDepth 65536 in
theorem w_hears : about1.hears theMethod below0 = true := by decide +kernel
set_option maxRecDepth 65536 in
theorem w_ripe : about1.ripe theMethod args0 below0 = true := by decide +kernel
theorem w_running : about1.status = .running := rfl
set_option maxRecDepth 65536 in
theorem w_room : about1.hasRoom e0.platform room_1 = true :=
  launch0.hasRoom_least _ room_1 (by decide +kernel) (by decide +kernel) (by decide +kernel) (by decide +kernel) (by decide +kernel) (by decide +kernel)
theorem allAtoms_all (ts : List Jvm.Cond) (a : Array Jvm.Value) (st : Jvm.State) : (allAtoms ts).before a st = ts.all (fun c => c.before a st) := by
  induction ts with
  | nil => rfl
  | cons c t ih =>
    show (Jvm.Cond.and c (allAtoms t)).before a st = _
    rw [Jvm.Cond.before_and, ih, List.all_cons]
def words1 : List Jvm.Cond := Jvm.Cond.code x code maxLocals ret :: tables_1
/-- a 'code' word, met by the world's own term for the bytes: nothing is compared byte by byte -/
theorem code_word {y : MethodName} {bytes : ByteArray} {mx : Nat} {rt : Option FieldType} {a : Array Value} {s : State} {m : MethodId} {meth : Method} {c : Code} (h1 : s.methodNamed? y = some m) (h2 : s.vm.method? m = some meth) (h3 : meth.code = some c) (h4 : c.code = bytes)
    (h5 : (c.maxLocals == mx && c.exceptionTable.isEmpty && decide (c.maxStack ≤ mostOperands) && decide (meth.sig.returnType = rt) && !meth.locks && decide (parseMethodDescriptor y.desc = some meth.sig)) = true) : (Jvm.Cond.code y bytes mx rt).before a s = true := by
  simp only [Bool.and_eq_true, beq_iff_eq, Bool.not_eq_true', decide_eq_true_eq] at h5
  obtain ⟨⟨⟨⟨⟨g1, g2⟩, g3⟩, g4⟩, g5⟩, g6⟩ := h5
  simp [Cond.before, Cond.holds, Cond.value, h1, h2, h3, h4, g1, g2, g3, g4, g5, g6]
def isCode : Jvm.Cond → Bool
  | .code _ _ _ _ => true
  | _ => false
theorem all_split {L : List Jvm.Cond} {P : Jvm.Cond → Bool} (h1 : L.all (fun c => isCode c || P c) = true) (h2 : ∀ c ∈ L.filter isCode, P c = true) : L.all P = true := by
  refine List.all_eq_true.mpr fun c hc => ?_
  have h := List.all_eq_true.mp h1 c hc
  rcases Bool.eq_false_or_eq_true (isCode c) with hi | hi
  · exact h2 c (List.mem_filter.mpr ⟨hc, hi⟩)
  · simpa [hi] using h
set_option maxRecDepth 65536 in
theorem w_c0 : (Jvm.Cond.code x code maxLocals ret).before args0 about1 = true := code_word (m := ⟨1, 2⟩) (meth := k1m2) (c := k1c2) (by decide +kernel) rfl rfl rfl (by decide +kernel)
set_option maxRecDepth 65536 in
theorem w_c1 : (Jvm.Cond.code ({ cls := "com/example/kind4/kind4/model/PrimitiveSizedPinLaw", name := "pick", desc := "(I)Lcom/example/kind4/kind4/model/Primitive;" } : Jvm.MethodName) method_2_code (1 : Nat) (Option.some (Jvm.ClassFile.FieldType.object "com/example/kind4/kind4/model/Primitive"))).before args0 about1 = true := code_word (m := ⟨1, 1⟩) (meth := k1m1) (c := k1c1) (by decide +kernel) rfl rfl rfl (by decide +kernel)
set_option maxRecDepth 65536 in
theorem w_c2 : (Jvm.Cond.code ({ cls := "com/example/kind4/kind4/model/Primitive", name := "sized", desc := "()Z" } : Jvm.MethodName) prog_66_method_4_code (1 : Nat) (Option.some Jvm.ClassFile.FieldType.boolean)).before args0 about1 = true := code_word (m := ⟨6, 0⟩) (meth := k6m0) (c := k6c0) (by decide +kernel) rfl rfl rfl (by decide +kernel)
set_option maxRecDepth 65536 in
theorem w_c3 : (Jvm.Cond.code ({ cls := "com/example/kind4/kind4/model/Primitive", name := "sizeUnit", desc := "()Ljava/lang/String;" } : Jvm.MethodName) prog_66_method_5_code (1 : Nat) (Option.some (Jvm.ClassFile.FieldType.object "java/lang/String"))).before args0 about1 = true := code_word (m := ⟨6, 1⟩) (meth := k6m1) (c := k6c1) (by decide +kernel) rfl rfl rfl (by decide +kernel)
def codes1 : List Jvm.Cond := [Jvm.Cond.code x code maxLocals ret, Jvm.Cond.code ({ cls := "com/example/kind4/kind4/model/PrimitiveSizedPinLaw", name := "pick", desc := "(I)Lcom/example/kind4/kind4/model/Primitive;" } : Jvm.MethodName) method_2_code (1 : Nat) (Option.some (Jvm.ClassFile.FieldType.object "com/example/kind4/kind4/model/Primitive")), Jvm.Cond.code ({ cls := "com/example/kind4/kind4/model/Primitive", name := "sized", desc := "()Z" } : Jvm.MethodName) prog_66_method_4_code (1 : Nat) (Option.some Jvm.ClassFile.FieldType.boolean), Jvm.Cond.code ({ cls := "com/example/kind4/kind4/model/Primitive", name := "sizeUnit", desc := "()Ljava/lang/String;" } : Jvm.MethodName) prog_66_method_5_code (1 : Nat) (Option.some (Jvm.ClassFile.FieldType.object "java/lang/String"))]
set_option maxRecDepth 65536 in
theorem codes_eq : words1.filter isCode = codes1 := rfl
theorem w_codes : ∀ c ∈ words1.filter isCode, c.before args0 about1 = true := by
  rw [codes_eq]
  intro c hc
  simp only [codes1, List.mem_cons, List.not_mem_nil, or_false] at hc
  rcases hc with rfl | rfl | rfl | rfl
  · exact w_c0
  · exact w_c1
  · exact w_c2
  · exact w_c3
set_option maxRecDepth 65536 in
theorem w_t1 : (words1.take 24).all (fun c => isCode c || c.before args0 about1) = true := by decide +kernel
set_option maxRecDepth 65536 in
theorem w_t2 : (words1.drop 24).all (fun c => isCode c || c.before args0 about1) = true := by decide +kernel
theorem w_tables : (allAtoms (Jvm.Cond.code x code maxLocals ret :: tables_1)).before args0 about1 = true := by
  rw [allAtoms_all]
  show words1.all (fun c => c.before args0 about1) = true
  refine all_split ?_ w_codes
  rw [← List.take_append_drop 24 words1, List.all_append, w_t1, w_t2]
  rfl
set_option maxRecDepth 65536 in
theorem w_case : (Jvm.Cond.and given_1 narrow_1).before args0 about1 = true := by decide +kernel
theorem w_applies : (headSpec (Jvm.Cond.code x code maxLocals ret :: tables_1) room_1).applies x e0.platform about1 = true :=
  (Spec.applies_iff w_frames).mpr ⟨w_running, w_runnable, w_alone, w_named, w_hears, w_ripe, w_room, w_tables⟩
theorem atStart : AtStart classFile x code maxLocals ret World_1 tables_1 room_1 Calls_1 rest_1 Pre_1 launch0 p0 e0 about1 theMethod args0 below0 :=
  ⟨lists_1, trivial, launch0.admits_env _ _ _, launch0.least_env, fairChoices_fair.cas, fairChoices_fair.clock, w_frames, w_args, w_heap, w_applies, trivial, trivial, w_case⟩
end start1
theorem witness_1 : WitnessClaimed_1 := ⟨start1.p0, start1.e0, start1.about1, start1.theMethod, start1.args0, start1.below0, start1.atStart⟩
end Jvm.Pilot.@@N@@
