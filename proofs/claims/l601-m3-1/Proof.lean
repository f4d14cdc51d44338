import JvmDerived
import JvmDerived.Pilot.@@N@@Statement
import JvmDerived.Pilot.@@N@@Code
set_option linter.unusedVariables false
set_option linter.unusedSimpArgs false
namespace Jvm.Pilot.@@N@@
open Jvm Jvm.ClassFile Sem Op Lib Jvm.Free Jvm.Stand Jvm.LawKit Jvm.RoadKit Bundle Jvm.Pilot.@@N@@.Jvm.D
section Own
variable {p : Program} {l : Launch} {e : Env} {R : Room} {s : State} {m : MethodId} {args : Array Value} {below : List Frame} {meth : Method} {c : Code} {T : State} {locs : List Loc} {cells slots : Nat} {k n : Nat} {P : Option Value → Heap → List Loc → Prop} {A B : State}
/-- from S0 the run comes to a return with what P says -/
def OG (p : Program) (e : Env) (below : List Frame) (s : State) (k n : Nat) (P : Option Value → Heap → List Loc → Prop) (S0 : State) : Prop :=
  ∃ s₂ o, Steps p.tables e below S0 s₂ ∧ s₂.status = .running ∧ Ended s₂ below o ∧ ∃ v L, o = .returned v ∧ P v s₂.heap L ∧ FrameEnd s o s₂ L k n
theorem OG.trans (h : Steps p.tables e below B A) (g : OG p e below s k n P A) : OG p e below s k n P B := by
  obtain ⟨s₂, o, h1, r⟩ := g
  exact ⟨s₂, o, h.trans h1, r⟩
theorem OG.of (h : ∀ t, Steps p.tables e below A t → Steps p.tables e below B t) (g : OG p e below s k n P A) : OG p e below s k n P B := by
  obtain ⟨s₂, o, h1, r⟩ := g
  exact ⟨s₂, o, h _ h1, r⟩
theorem OG.retN (X : Stand p l e R s m args below meth c T locs cells slots) (hx : p.tables.exec = Jvm.exec) {pc : Nat} {Ls : Array Slot} {z : Int32} {t : FieldType} {rest : List Value} (hret : meth.sig.returnType = some t) (ht : t = .boolean ∨ t = .byte ∨ t = .char ∨ t = .short) (hd : decode c.code pc = .ok (.ireturn, 1)) (hlk : meth.locks = false)
    (hP : P (some (.int (nar t z))) T.heap locs) (hc : cells ≤ k) (hs : slots ≤ n) : OG p e below s k n P (T.setTop (mkF m pc Ls (.int z :: rest))) := by
  obtain ⟨fs, hr, hrun, hended, hW, hsame⟩ := X.leave (v := some (.int (nar t z))) (fun h => by rw [hret] at h; cases h) hlk
  exact ⟨_, _, Jvm.RoadKit.retN X hx hret ht hd hr, hrun, hended, _, _, rfl, hP, ⟨_, rfl⟩, hW, hsame.mono hc hs⟩
theorem OG.retI (X : Stand p l e R s m args below meth c T locs cells slots) (hx : p.tables.exec = Jvm.exec) {pc : Nat} {Ls : Array Slot} {z : Int32} {rest : List Value} (hret : meth.sig.returnType = some .int) (hd : decode c.code pc = .ok (.ireturn, 1)) (hlk : meth.locks = false)
    (hP : P (some (.int z)) T.heap locs) (hc : cells ≤ k) (hs : slots ≤ n) : OG p e below s k n P (T.setTop (mkF m pc Ls (.int z :: rest))) := by
  obtain ⟨fs, hr, hrun, hended, hW, hsame⟩ := X.leave (v := some (.int z)) (fun h => by rw [hret] at h; cases h) hlk
  exact ⟨_, _, retOut X hx hret rfl (Or.inl ⟨rfl, Or.inl rfl, _, rfl⟩) hd hr, hrun, hended, _, _, rfl, hP, ⟨_, rfl⟩, hW, hsame.mono hc hs⟩
theorem OG.retJ (X : Stand p l e R s m args below meth c T locs cells slots) (hx : p.tables.exec = Jvm.exec) {pc : Nat} {Ls : Array Slot} {z : Int64} {rest : List Value} (hret : meth.sig.returnType = some .long) (hd : decode c.code pc = .ok (.lreturn, 1)) (hlk : meth.locks = false)
    (hP : P (some (.long z)) T.heap locs) (hc : cells ≤ k) (hs : slots ≤ n) : OG p e below s k n P (T.setTop (mkF m pc Ls (.long z :: rest))) := by
  obtain ⟨fs, hr, hrun, hended, hW, hsame⟩ := X.leave (v := some (.long z)) (fun h => by rw [hret] at h; cases h) hlk
  exact ⟨_, _, retOut X hx hret rfl (Or.inr (Or.inl ⟨rfl, rfl, _, rfl⟩)) hd hr, hrun, hended, _, _, rfl, hP, ⟨_, rfl⟩, hW, hsame.mono hc hs⟩
theorem OG.retA (X : Stand p l e R s m args below meth c T locs cells slots) (hx : p.tables.exec = Jvm.exec) {pc : Nat} {Ls : Array Slot} {w : Value} {t : FieldType} {rest : List Value} (hret : meth.sig.returnType = some t) (ht : t.isReference = true) (hw : w.isRef = true) (hd : decode c.code pc = .ok (.areturn, 1)) (hlk : meth.locks = false)
    (hP : P (some w) T.heap locs) (hc : cells ≤ k) (hs : slots ≤ n) : OG p e below s k n P (T.setTop (mkF m pc Ls (w :: rest))) := by
  obtain ⟨fs, hr, hrun, hended, hW, hsame⟩ := X.leave (v := some w) (fun h => by rw [hret] at h; cases h) hlk
  have hn : narrow t w = w := by cases t <;> first | (cases ht; done) | rfl
  exact ⟨_, _, retOut X hx hret hn (Or.inr (Or.inr (Or.inr (Or.inr ⟨rfl, ht, hw⟩)))) hd hr, hrun, hended, _, _, rfl, hP, ⟨_, rfl⟩, hW, hsame.mono hc hs⟩
theorem OG.retV (X : Stand p l e R s m args below meth c T locs cells slots) (hx : p.tables.exec = Jvm.exec) {pc : Nat} {Ls : Array Slot} (hret : meth.sig.returnType = none) (hd : decode c.code pc = .ok (.return_, 1)) (hlk : meth.locks = false)
    (hP : P none T.heap locs) (hc : cells ≤ k) (hs : slots ≤ n) : OG p e below s k n P (T.setTop (mkF m pc Ls [])) := by
  obtain ⟨fs, hr, hrun, hended, hW, hsame⟩ := X.leave (v := none) (fun _ => rfl) hlk
  exact ⟨_, _, X.returnOut hx hret hd hr, hrun, hended, _, _, rfl, hP, ⟨_, rfl⟩, hW, hsame.mono hc hs⟩
theorem own_narB {z : Int32} (h : z = 0 ∨ z = 1) : nar .boolean z = z := by rcases h with rfl | rfl <;> rfl
theorem own_ite01 {c : Prop} [Decidable c] : (if c then (1 : Int32) else 0) = 0 ∨ (if c then (1 : Int32) else 0) = 1 := by by_cases h : c <;> simp [h]
theorem own_eqI {args : Array Value} {first st : State} {o : Option Outcome} {idx : List Nat} {t : Term} {x : Int32} (h : (Jvm.Cond.eq t (.int x)).value args first o st idx = some true) : t.eval args first o idx st = some (.int x) := by
  obtain ⟨a, b, ha, hb, k1, k2⟩ := cmp_v (Or.inl h)
  obtain rfl : Value.int x = b := Option.some.inj hb
  obtain ⟨z, rfl⟩ := k2
  have hz := gotT (P := z = x) (by simp [Cond.value, ha, hb]) h
  rw [ha, hz]
/-- the array at a (of the kind ty) holds v at the place j -/
def ORd (Z : State) (h : Heap) (a : Addr) (ty : FieldType) (j : Int32) (v : Value) : Prop := ∃ cl : Cell, Arr Z h a cl ty ∧ ¬ (j < 0 ∨ cl.slots.size ≤ j.toNatClampNeg) ∧ cl.slots[j.toNatClampNeg]? = some v
theorem own_rd {Z : State} {h : Heap} {a : Addr} {kc : ClassId} {ty : FieldType} {z j : Int32} {vs : List Value} {d v : Value} (F : Arv Z h a kc ty z vs d) (hj : ¬ j < 0 ∧ j < z) (hv : vs.getD j.toNatClampNeg d = v) : ORd Z h a ty j v := by
  obtain ⟨cl, A, -, S, -, H, -⟩ := F
  exact ⟨cl, A, inb_of S hj, H.at (inb_of S hj) hv⟩
theorem ORd.ext {Z : State} {h h' : Heap} {a : Addr} {ty : FieldType} {j : Int32} {v : Value} (F : ORd Z h a ty j v) (E : Ext h h') : ORd Z h' a ty j v := by
  obtain ⟨cl, A, r⟩ := F; exact ⟨cl, A.ext E, r⟩
theorem ORd.other {Z : State} {h h' : Heap} {a b : Addr} {ty : FieldType} {j : Int32} {v w : Value} {sl : Nat} (F : ORd Z h a ty j v) (W : Wr h h' b sl w) (q : a ≠ b) : ORd Z h' a ty j v := by
  obtain ⟨cl, A, r⟩ := F; exact ⟨cl, A.other W q, r⟩
theorem ORd.keep {Z : State} {h h' : Heap} {a : Addr} {ty : FieldType} {j : Int32} {v : Value} {ws : List Addr} (F : ORd Z h a ty j v) (K : Keep h h' ws) (q : a ∉ ws) : ORd Z h' a ty j v := by
  obtain ⟨cl, A, r⟩ := F; exact ⟨cl, ⟨K.2.1 a cl A.1 q, A.2⟩, r⟩
theorem ORd.lt {Z : State} {h : Heap} {a : Addr} {ty : FieldType} {j : Int32} {v : Value} (F : ORd Z h a ty j v) : a < h.size := by
  obtain ⟨cl, A, r⟩ := F; exact A.lt
theorem ORd.start {Z : State} {args : Array Value} {t : Term} {a : Addr} {ty : FieldType} {j : Int32} {v : Value} (ev : t.eval args Z none [] Z = some (.ref a)) (hx : (Jvm.Cond.arrayOf t ty).value args Z none Z [] = some true) (hj : ¬ j < 0) (he : (Term.elem t (.int j)).eval args Z none [] Z = some v) : ORd Z Z.heap a ty j v := by
  obtain ⟨c, A⟩ := Arr.start ev hx
  have hA : Z.arrayAt? a = some c := Arr.fin (Vm.Alike.refl _) A
  rw [elem_f ev (Term.int_eval j) hA hj] at he
  exact ⟨c, A, fun q => q.elim hj fun q => (by rw [Array.getElem?_eq_none q] at he; cases he), he⟩
end Own


def own_within (s e st en : Int32) : Int32 := if st < s then (if e < en then (1 : Int32) else (0 : Int32)) else (0 : Int32)


theorem own_wide (a b : Int32) : a.toInt64 - b.toInt64 < (1 : Int64) ↔ ¬ b < a := by
  have h1 := a.toInt_lt; have h2 := a.le_toInt; have h3 := b.toInt_lt; have h4 := b.le_toInt
  rw [Int64.lt_iff_toInt_lt, Int32.lt_iff_toInt_lt, XT.sub64 (by rw [Int32.toInt_toInt64, Int32.toInt_toInt64]; exact ⟨by omega, by omega⟩), Int32.toInt_toInt64, Int32.toInt_toInt64, show (1 : Int64).toInt = 1 from rfl]
  omega
theorem own_law (p0 p1 p2 p3 : Int32) : (own_within p2 p3 p0 p1) = (if (p2.toInt64 - p0.toInt64) < (1 : Int64) then (0 : Int32) else (if (p1.toInt64 - p3.toInt64) < (1 : Int64) then (0 : Int32) else (1 : Int32))) := by
  rw [own_within]
  by_cases h1 : p0 < p2
  · rw [if_pos h1, if_neg (fun q => (own_wide _ _).mp q h1)]
    by_cases h2 : p3 < p1
    · rw [if_pos h2, if_neg (fun q => (own_wide _ _).mp q h2)]
    · rw [if_neg h2, if_pos ((own_wide _ _).mpr h2)]
  · rw [if_neg h1, if_pos ((own_wide _ _).mpr h1)]

theorem dR_0 : decode jdk_30_method_1_code 0 = .ok (.aload_n 0, 1) := by decide +kernel
theorem dR_1 : decode jdk_30_method_1_code 1 = .ok (.invokespecial 1, 3) := by decide +kernel
theorem dR_4 : decode jdk_30_method_1_code 4 = .ok (.return_, 1) := by decide +kernel
theorem pn_R : plainName "java/lang/Record" = true := by first | (simp [plainName, overriddenIn]; done) | decide +kernel
theorem ef_R (m : MethodId) (x0 : Addr) : entryFrame m #[(.ref x0)] 1 = mkF m 0 #[.val (.ref x0)] [] := by first | (simp [entryFrame, mkF, argsToLocals, Value.category]; done) | rfl
def QR (Z : State) (a : Addr) (h0 : Heap) (n0 : Nat) (v : Option Value) (h : Heap) (L : List Loc) : Prop := v = none ∧ Fr n0 L ∧ h = h0
set_option maxRecDepth 65536 in
set_option maxHeartbeats 40000000 in
theorem rmR (l : Launch) (Z : State) (a0 : Array Value) (hw : ∀ d ∈ tables_1, d.before a0 Z = true) (ws : List Jvm.Cond) (a : Addr) (h0 : Heap) (n0 : Nat) (Z0 : n0 ≤ h0.size) :
    MetFree l (⟨"java/lang/Record", "<init>", "()V"⟩ : MethodName) (head1 (Jvm.Cond.code (⟨"java/lang/Record", "<init>", "()V"⟩ : MethodName) jdk_30_method_1_code 1 none :: ws) ({ frames := 1, cells := 0, slots := 0, locals := 12 } : Room)) (fun aA oU => aA = #[(.ref a)] ∧ Z.Warmed39 oU.vm ∧ oU.heap = h0) (fun _ _ _ _ _ => True) (fun _ oU oO oU' => ∃ oV oL, oO = .returned oV ∧ QR Z a h0 n0 oV oU'.heap oL ∧ FrameEnd oU oO oU' oL ({ frames := 1, cells := 0, slots := 0, locals := 12 } : Room).cells ({ frames := 1, cells := 0, slots := 0, locals := 12 } : Room).slots) := by
  refine MetFree.of_bodySF (plainFor_of_name pn_R) hisR ?_
  intro p e s m args below meth c s₁ Bd hml0 hP hK
  obtain ⟨rfl, hZ, hh⟩ := hP
  have hx := Bd.exec
  have hby := Bd.bytes
  have hlk := BodyLoose.notSynchronized Bd
  have hml : c.maxLocals = 1 := hml0
  have hown : s.vm.findClass "java/lang/Record" = some m.cls := findClass_of_methodNamed Bd.named
  have hnm := (name_of_methodNamed Bd.named Bd.method).1
  have X0 : Stand p l e ({ frames := 1, cells := 0, slots := 0, locals := 12 } : Room) s m #[(.ref a)] below meth c s₁ [] 0 0 := Stand.of_body Bd
  have e0 : s₁.heap = h0 := by rw [← hh, Bd.state]; rfl
  have N0 := Fr.nil n0
  show OG p e below s ({ frames := 1, cells := 0, slots := 0, locals := 12 } : Room).cells ({ frames := 1, cells := 0, slots := 0, locals := 12 } : Room).slots (QR Z a h0 n0) _
  refine OG.of (fun t k => castTop (ef_R m a) k) ?_
  show OG p e below s _ _ _ (s₁.setTop (mkF m 0 #[.val (.ref a)] []))
  refine OG.of (A := s₁.setTop (mkF m 1 #[.val (.ref a)] [(.ref a)])) (fun t k => ?_) ?_
  · show Steps p.tables e below (s₁.setTop (mkF m 0 #[.val (.ref a)] [])) t
    refine XS.aloadN X0.here hx rfl (hb hby dR_0) rfl rfl  ?_
    exact k
  show OG _ _ _ _ _ _ _ (s₁.setTop (mkF m 1 #[.val (.ref a)] [(.ref a)]))
  obtain ⟨T1, X1, e1, st1⟩ := initO X0 hx hZ hown (hw _ (List.mem_of_getElem? (i := 11) rfl)) (hw _ (List.mem_of_getElem? (i := 12) rfl)) (hw _ (List.mem_of_getElem? (i := 13) rfl)) e0 (g := (mkF m 1 #[.val (.ref a)] [(.ref a)])) rfl (by rw [hml]; rfl) rfl (hb hby dR_1) (by decide) (W := 0) (by show 2 * 0 + _ ≤ _; exact Nat.le_of_eq rfl) (by decide)
  refine OG.of st1 ?_
  show OG _ _ _ _ _ _ _ (T1.setTop (mkF m 4 #[.val (.ref a)] []))
  refine OG.retV X1 hx Bd.returns (hb hby dR_4) hlk ?_ (by decide) (by decide)
  rw [e1]
  exact ⟨rfl, N0, rfl⟩
theorem pd___V : parseMethodDescriptor "()V" = some ⟨[], none⟩ := by decide +kernel
theorem dV_0 : decode prog_16_method_2_code 0 = .ok (.aload_n 0, 1) := by decide +kernel
theorem dV_1 : decode prog_16_method_2_code 1 = .ok (.invokespecial 1, 3) := by decide +kernel
theorem dV_4 : decode prog_16_method_2_code 4 = .ok (.aload_n 0, 1) := by decide +kernel
theorem dV_5 : decode prog_16_method_2_code 5 = .ok (.aload_n 1, 1) := by decide +kernel
theorem dV_6 : decode prog_16_method_2_code 6 = .ok (.putfield 7, 3) := by decide +kernel
theorem dV_9 : decode prog_16_method_2_code 9 = .ok (.aload_n 0, 1) := by decide +kernel
theorem dV_10 : decode prog_16_method_2_code 10 = .ok (.iload_n 2, 1) := by decide +kernel
theorem dV_11 : decode prog_16_method_2_code 11 = .ok (.putfield 13, 3) := by decide +kernel
theorem dV_14 : decode prog_16_method_2_code 14 = .ok (.aload_n 0, 1) := by decide +kernel
theorem dV_15 : decode prog_16_method_2_code 15 = .ok (.iload_n 3, 1) := by decide +kernel
theorem dV_16 : decode prog_16_method_2_code 16 = .ok (.putfield 17, 3) := by decide +kernel
theorem dV_19 : decode prog_16_method_2_code 19 = .ok (.aload_n 0, 1) := by decide +kernel
theorem dV_20 : decode prog_16_method_2_code 20 = .ok (.aload 4, 2) := by decide +kernel
theorem dV_22 : decode prog_16_method_2_code 22 = .ok (.putfield 20, 3) := by decide +kernel
theorem dV_25 : decode prog_16_method_2_code 25 = .ok (.return_, 1) := by decide +kernel
theorem pn_V : plainName "com/example/inchworm/inchworm/jsonrpc/JsonText$Value" = true := by first | (simp [plainName, overriddenIn]; done) | decide +kernel
theorem ef_V (m : MethodId) (x0 : Addr) (x2 : Int32) (x3 : Int32) : entryFrame m #[(.ref x0), .null, (.int x2), (.int x3), .null] 5 = mkF m 0 #[.val (.ref x0), .val .null, .val (.int x2), .val (.int x3), .val .null] [] := by first | (simp [entryFrame, mkF, argsToLocals, Value.category]; done) | rfl
def QV (Z : State) (a : Addr) (st : Int32) (en : Int32) (h0 : Heap) (n0 : Nat) (v : Option Value) (h : Heap) (L : List Loc) : Prop := v = none ∧ Fr n0 L ∧ Keep h0 h [a] ∧ Exa Z h a "com/example/inchworm/inchworm/jsonrpc/JsonText$Value" ∧ Fld Z h a "com/example/inchworm/inchworm/jsonrpc/JsonText$Value" "type" "Lcom/example/inchworm/inchworm/jsonrpc/JsonText$Type;" .null ∧ Fld Z h a "com/example/inchworm/inchworm/jsonrpc/JsonText$Value" "start" "I" (.int st) ∧ Fld Z h a "com/example/inchworm/inchworm/jsonrpc/JsonText$Value" "end" "I" (.int en) ∧ Fld Z h a "com/example/inchworm/inchworm/jsonrpc/JsonText$Value" "members" "Ljava/util/List;" .null
set_option maxRecDepth 65536 in
set_option maxHeartbeats 40000000 in
theorem rmV (l : Launch) (Z : State) (a0 : Array Value) (hw : ∀ d ∈ tables_1, d.before a0 Z = true) (ws : List Jvm.Cond) (a : Addr) (st : Int32) (en : Int32) (h0 : Heap) (n0 : Nat) (Z0 : n0 ≤ h0.size) (E_a : Exa Z h0 a "com/example/inchworm/inchworm/jsonrpc/JsonText$Value") (F_a_type : Fld Z h0 a "com/example/inchworm/inchworm/jsonrpc/JsonText$Value" "type" "Lcom/example/inchworm/inchworm/jsonrpc/JsonText$Type;" .null) (F_a_start : Fld Z h0 a "com/example/inchworm/inchworm/jsonrpc/JsonText$Value" "start" "I" (.int (0 : Int32))) (F_a_end : Fld Z h0 a "com/example/inchworm/inchworm/jsonrpc/JsonText$Value" "end" "I" (.int (0 : Int32))) (F_a_members : Fld Z h0 a "com/example/inchworm/inchworm/jsonrpc/JsonText$Value" "members" "Ljava/util/List;" .null) (g_a : n0 ≤ a) :
    MetFree l (⟨"com/example/inchworm/inchworm/jsonrpc/JsonText$Value", "<init>", "(Lcom/example/inchworm/inchworm/jsonrpc/JsonText$Type;IILjava/util/List;)V"⟩ : MethodName) (head1 (Jvm.Cond.code (⟨"com/example/inchworm/inchworm/jsonrpc/JsonText$Value", "<init>", "(Lcom/example/inchworm/inchworm/jsonrpc/JsonText$Type;IILjava/util/List;)V"⟩ : MethodName) prog_16_method_2_code 5 none :: ws) ({ frames := 2, cells := 0, slots := 0, locals := 24 } : Room)) (fun aA oU => aA = #[(.ref a), .null, (.int st), (.int en), .null] ∧ Z.Warmed39 oU.vm ∧ oU.heap = h0) (fun _ _ _ _ _ => True) (fun _ oU oO oU' => ∃ oV oL, oO = .returned oV ∧ QV Z a st en h0 n0 oV oU'.heap oL ∧ FrameEnd oU oO oU' oL ({ frames := 2, cells := 0, slots := 0, locals := 24 } : Room).cells ({ frames := 2, cells := 0, slots := 0, locals := 24 } : Room).slots) := by
  refine MetFree.of_bodySF (plainFor_of_name pn_V) hisR ?_
  intro p e s m args below meth c s₁ Bd hml0 hP hK
  obtain ⟨rfl, hZ, hh⟩ := hP
  have hx := Bd.exec
  have hby := Bd.bytes
  have hlk := BodyLoose.notSynchronized Bd
  have hml : c.maxLocals = 5 := hml0
  have hown : s.vm.findClass "com/example/inchworm/inchworm/jsonrpc/JsonText$Value" = some m.cls := findClass_of_methodNamed Bd.named
  have hnm := (name_of_methodNamed Bd.named Bd.method).1
  have X0 : Stand p l e ({ frames := 2, cells := 0, slots := 0, locals := 24 } : Room) s m #[(.ref a), .null, (.int st), (.int en), .null] below meth c s₁ [] 0 0 := Stand.of_body Bd
  have e0 : s₁.heap = h0 := by rw [← hh, Bd.state]; rfl
  have N0 := Fr.nil n0
  show OG p e below s ({ frames := 2, cells := 0, slots := 0, locals := 24 } : Room).cells ({ frames := 2, cells := 0, slots := 0, locals := 24 } : Room).slots (QV Z a st en h0 n0) _
  refine OG.of (fun t k => castTop (ef_V m a st en) k) ?_
  show OG p e below s _ _ _ (s₁.setTop (mkF m 0 #[.val (.ref a), .val .null, .val (.int st), .val (.int en), .val .null] []))
  refine OG.of (A := s₁.setTop (mkF m 1 #[.val (.ref a), .val .null, .val (.int st), .val (.int en), .val .null] [(.ref a)])) (fun t k => ?_) ?_
  · show Steps p.tables e below (s₁.setTop (mkF m 0 #[.val (.ref a), .val .null, .val (.int st), .val (.int en), .val .null] [])) t
    refine XS.aloadN X0.here hx rfl (hb hby dV_0) rfl rfl  ?_
    exact k
  show OG _ _ _ _ _ _ _ (s₁.setTop (mkF m 1 #[.val (.ref a), .val .null, .val (.int st), .val (.int en), .val .null] [(.ref a)]))
  obtain ⟨_, _, ⟨T1, L1, k1, n1⟩, -, X1, ⟨Lc1, hQ1, l1, y1, z1⟩, st1⟩ := X0.specialBack hx (y := (⟨"java/lang/Record", "<init>", "()V"⟩ : MethodName)) rfl hown (mvT hZ (hw _ (List.mem_of_getElem? (i := 6) rfl))) (mvT hZ (hw _ (List.mem_of_getElem? (i := 7) rfl))) (mvT hZ (hw _ (List.mem_of_getElem? (i := 10) rfl))) (by decide) (backOf (W := 0) (rmR l Z a0 hw [] a  h0 n0 (Z0)) hZ (hw _ (List.mem_of_getElem? (i := 10) rfl)) (hw _ (List.mem_of_getElem? (i := 9) rfl)) (by decide) (by decide)) (g := (mkF m 1 #[.val (.ref a), .val .null, .val (.int st), .val (.int en), .val .null] [(.ref a)])) rfl (by rw [hml]; rfl) (Steps.refl _) (a := a) (argsL := []) (rest := []) (lenOf pd___V rfl) rfl (by show 2 * 0 + _ ≤ _; exact Nat.le_of_eq rfl) (hb hby dV_1) (fun _ _ => ⟨rfl, e0, (by decide : 0 + 0 ≤ _), (by decide : 0 + 0 ≤ _)⟩)
  dsimp only [Pt.U, Pt.locs, Pt.cells, Pt.slots] at X1 l1 y1 z1 st1 hQ1
  subst l1 y1 z1
  obtain ⟨rfl, N1q, e1⟩ := hQ1
  have N1 := Fr.app N0 N1q
  refine OG.trans st1 ?_
  show OG _ _ _ _ _ _ _ (T1.setTop (mkF m 4 #[.val (.ref a), .val .null, .val (.int st), .val (.int en), .val .null] []))
  refine OG.of (A := T1.setTop (mkF m 6 #[.val (.ref a), .val .null, .val (.int st), .val (.int en), .val .null] [.null, (.ref a)])) (fun t k => ?_) ?_
  · show Steps p.tables e below (T1.setTop (mkF m 4 #[.val (.ref a), .val .null, .val (.int st), .val (.int en), .val .null] [])) t
    refine XS.aloadN X1.here hx rfl (hb hby dV_4) rfl rfl  ?_
    show Steps p.tables e below (T1.setTop (mkF m 5 #[.val (.ref a), .val .null, .val (.int st), .val (.int en), .val .null] [(.ref a)])) _
    refine XS.aloadN X1.here hx rfl (hb hby dV_5) rfl rfl  ?_
    exact k
  show OG _ _ _ _ _ _ _ (T1.setTop (mkF m 6 #[.val (.ref a), .val .null, .val (.int st), .val (.int en), .val .null] [.null, (.ref a)]))
  obtain ⟨T2, h2, X2, e2, W2, st2⟩ := putF X1 hx hZ hown (host := "") (Or.inl (hw _ (List.mem_of_getElem? (i := 14) rfl))) Via.refl e1 F_a_type E_a (Or.inr ⟨(hw _ (List.mem_of_getElem? (i := 15) rfl)), rfl, hnm⟩) (hw _ (List.mem_of_getElem? (i := 1) rfl)) (ty := (.object "com/example/inchworm/inchworm/jsonrpc/JsonText$Type")) (by decide) rfl rfl (g := (mkF m 6 #[.val (.ref a), .val .null, .val (.int st), .val (.int en), .val .null] [.null, (.ref a)])) rfl rfl (hb hby dV_6)
  have f1 := (E_a).wr W2
  have f2 := (F_a_type).same W2
  have f3 := (F_a_start).other W2 (Or.inr (slot_ne (Or.inr (hw _ (List.mem_of_getElem? (i := 17) rfl))) (Or.inr (hw _ (List.mem_of_getElem? (i := 15) rfl))) (by decide) (t := .int) (t' := (.object "com/example/inchworm/inchworm/jsonrpc/JsonText$Type")) (by decide) (by decide)))
  have f4 := (F_a_end).other W2 (Or.inr (slot_ne (Or.inr (hw _ (List.mem_of_getElem? (i := 19) rfl))) (Or.inr (hw _ (List.mem_of_getElem? (i := 15) rfl))) (by decide) (t := .int) (t' := (.object "com/example/inchworm/inchworm/jsonrpc/JsonText$Type")) (by decide) (by decide)))
  have f5 := (F_a_members).other W2 (Or.inr (slot_ne (Or.inr (hw _ (List.mem_of_getElem? (i := 21) rfl))) (Or.inr (hw _ (List.mem_of_getElem? (i := 15) rfl))) (by decide) (t := (.object "java/util/List")) (t' := (.object "com/example/inchworm/inchworm/jsonrpc/JsonText$Type")) (by decide) (by decide)))
  have K2 : Keep h0 h2 [a] := (Keep.refl h0 [a]).wr W2 (Or.inl (by simp))
  have Z2 : n0 ≤ h2.size := Nat.le_trans Z0 (Keep.of_wr W2).1
  have N2 := Fr.snoc X2 N1 g_a
  refine OG.of st2 ?_
  show OG _ _ _ _ _ _ _ (T2.setTop (mkF m 9 #[.val (.ref a), .val .null, .val (.int st), .val (.int en), .val .null] []))
  refine OG.of (A := T2.setTop (mkF m 11 #[.val (.ref a), .val .null, .val (.int st), .val (.int en), .val .null] [(.int st), (.ref a)])) (fun t k => ?_) ?_
  · show Steps p.tables e below (T2.setTop (mkF m 9 #[.val (.ref a), .val .null, .val (.int st), .val (.int en), .val .null] [])) t
    refine XS.aloadN X2.here hx rfl (hb hby dV_9) rfl rfl  ?_
    show Steps p.tables e below (T2.setTop (mkF m 10 #[.val (.ref a), .val .null, .val (.int st), .val (.int en), .val .null] [(.ref a)])) _
    refine XS.iloadN X2.here hx rfl (hb hby dV_10) rfl  ?_
    exact k
  show OG _ _ _ _ _ _ _ (T2.setTop (mkF m 11 #[.val (.ref a), .val .null, .val (.int st), .val (.int en), .val .null] [(.int st), (.ref a)]))
  obtain ⟨T3, h3, X3, e3, W3, st3⟩ := putF X2 hx hZ hown (host := "") (Or.inl (hw _ (List.mem_of_getElem? (i := 16) rfl))) Via.refl e2 f3 f1 (Or.inr ⟨(hw _ (List.mem_of_getElem? (i := 17) rfl)), rfl, hnm⟩) (hw _ (List.mem_of_getElem? (i := 1) rfl)) (ty := .int) (by decide) rfl rfl (g := (mkF m 11 #[.val (.ref a), .val .null, .val (.int st), .val (.int en), .val .null] [(.int st), (.ref a)])) rfl rfl (hb hby dV_11)
  have f6 := (f1).wr W3
  have f7 := (f2).other W3 (Or.inr (slot_ne (Or.inr (hw _ (List.mem_of_getElem? (i := 15) rfl))) (Or.inr (hw _ (List.mem_of_getElem? (i := 17) rfl))) (by decide) (t := (.object "com/example/inchworm/inchworm/jsonrpc/JsonText$Type")) (t' := .int) (by decide) (by decide)))
  have f8 := (f3).same W3
  have f9 := (f4).other W3 (Or.inr (slot_ne (Or.inr (hw _ (List.mem_of_getElem? (i := 19) rfl))) (Or.inr (hw _ (List.mem_of_getElem? (i := 17) rfl))) (by decide) (t := .int) (t' := .int) (by decide) (by decide)))
  have f10 := (f5).other W3 (Or.inr (slot_ne (Or.inr (hw _ (List.mem_of_getElem? (i := 21) rfl))) (Or.inr (hw _ (List.mem_of_getElem? (i := 17) rfl))) (by decide) (t := (.object "java/util/List")) (t' := .int) (by decide) (by decide)))
  have K3 : Keep h0 h3 [a] := (K2).wr W3 (Or.inl (by simp))
  have Z3 : n0 ≤ h3.size := Nat.le_trans Z2 (Keep.of_wr W3).1
  have N3 := Fr.snoc X3 N2 g_a
  refine OG.of st3 ?_
  show OG _ _ _ _ _ _ _ (T3.setTop (mkF m 14 #[.val (.ref a), .val .null, .val (.int st), .val (.int en), .val .null] []))
  refine OG.of (A := T3.setTop (mkF m 16 #[.val (.ref a), .val .null, .val (.int st), .val (.int en), .val .null] [(.int en), (.ref a)])) (fun t k => ?_) ?_
  · show Steps p.tables e below (T3.setTop (mkF m 14 #[.val (.ref a), .val .null, .val (.int st), .val (.int en), .val .null] [])) t
    refine XS.aloadN X3.here hx rfl (hb hby dV_14) rfl rfl  ?_
    show Steps p.tables e below (T3.setTop (mkF m 15 #[.val (.ref a), .val .null, .val (.int st), .val (.int en), .val .null] [(.ref a)])) _
    refine XS.iloadN X3.here hx rfl (hb hby dV_15) rfl  ?_
    exact k
  show OG _ _ _ _ _ _ _ (T3.setTop (mkF m 16 #[.val (.ref a), .val .null, .val (.int st), .val (.int en), .val .null] [(.int en), (.ref a)]))
  obtain ⟨T4, h4, X4, e4, W4, st4⟩ := putF X3 hx hZ hown (host := "") (Or.inl (hw _ (List.mem_of_getElem? (i := 18) rfl))) Via.refl e3 f9 f6 (Or.inr ⟨(hw _ (List.mem_of_getElem? (i := 19) rfl)), rfl, hnm⟩) (hw _ (List.mem_of_getElem? (i := 1) rfl)) (ty := .int) (by decide) rfl rfl (g := (mkF m 16 #[.val (.ref a), .val .null, .val (.int st), .val (.int en), .val .null] [(.int en), (.ref a)])) rfl rfl (hb hby dV_16)
  have f11 := (f6).wr W4
  have f12 := (f7).other W4 (Or.inr (slot_ne (Or.inr (hw _ (List.mem_of_getElem? (i := 15) rfl))) (Or.inr (hw _ (List.mem_of_getElem? (i := 19) rfl))) (by decide) (t := (.object "com/example/inchworm/inchworm/jsonrpc/JsonText$Type")) (t' := .int) (by decide) (by decide)))
  have f13 := (f8).other W4 (Or.inr (slot_ne (Or.inr (hw _ (List.mem_of_getElem? (i := 17) rfl))) (Or.inr (hw _ (List.mem_of_getElem? (i := 19) rfl))) (by decide) (t := .int) (t' := .int) (by decide) (by decide)))
  have f14 := (f9).same W4
  have f15 := (f10).other W4 (Or.inr (slot_ne (Or.inr (hw _ (List.mem_of_getElem? (i := 21) rfl))) (Or.inr (hw _ (List.mem_of_getElem? (i := 19) rfl))) (by decide) (t := (.object "java/util/List")) (t' := .int) (by decide) (by decide)))
  have K4 : Keep h0 h4 [a] := (K3).wr W4 (Or.inl (by simp))
  have Z4 : n0 ≤ h4.size := Nat.le_trans Z3 (Keep.of_wr W4).1
  have N4 := Fr.snoc X4 N3 g_a
  refine OG.of st4 ?_
  show OG _ _ _ _ _ _ _ (T4.setTop (mkF m 19 #[.val (.ref a), .val .null, .val (.int st), .val (.int en), .val .null] []))
  refine OG.of (A := T4.setTop (mkF m 22 #[.val (.ref a), .val .null, .val (.int st), .val (.int en), .val .null] [.null, (.ref a)])) (fun t k => ?_) ?_
  · show Steps p.tables e below (T4.setTop (mkF m 19 #[.val (.ref a), .val .null, .val (.int st), .val (.int en), .val .null] [])) t
    refine XS.aloadN X4.here hx rfl (hb hby dV_19) rfl rfl  ?_
    show Steps p.tables e below (T4.setTop (mkF m 20 #[.val (.ref a), .val .null, .val (.int st), .val (.int en), .val .null] [(.ref a)])) _
    refine XS.aload X4.here hx rfl (hb hby dV_20) rfl rfl  ?_
    exact k
  show OG _ _ _ _ _ _ _ (T4.setTop (mkF m 22 #[.val (.ref a), .val .null, .val (.int st), .val (.int en), .val .null] [.null, (.ref a)]))
  obtain ⟨T5, h5, X5, e5, W5, st5⟩ := putF X4 hx hZ hown (host := "") (Or.inl (hw _ (List.mem_of_getElem? (i := 20) rfl))) Via.refl e4 f15 f11 (Or.inr ⟨(hw _ (List.mem_of_getElem? (i := 21) rfl)), rfl, hnm⟩) (hw _ (List.mem_of_getElem? (i := 1) rfl)) (ty := (.object "java/util/List")) (by decide) rfl rfl (g := (mkF m 22 #[.val (.ref a), .val .null, .val (.int st), .val (.int en), .val .null] [.null, (.ref a)])) rfl rfl (hb hby dV_22)
  have f16 := (f11).wr W5
  have f17 := (f12).other W5 (Or.inr (slot_ne (Or.inr (hw _ (List.mem_of_getElem? (i := 15) rfl))) (Or.inr (hw _ (List.mem_of_getElem? (i := 21) rfl))) (by decide) (t := (.object "com/example/inchworm/inchworm/jsonrpc/JsonText$Type")) (t' := (.object "java/util/List")) (by decide) (by decide)))
  have f18 := (f13).other W5 (Or.inr (slot_ne (Or.inr (hw _ (List.mem_of_getElem? (i := 17) rfl))) (Or.inr (hw _ (List.mem_of_getElem? (i := 21) rfl))) (by decide) (t := .int) (t' := (.object "java/util/List")) (by decide) (by decide)))
  have f19 := (f14).other W5 (Or.inr (slot_ne (Or.inr (hw _ (List.mem_of_getElem? (i := 19) rfl))) (Or.inr (hw _ (List.mem_of_getElem? (i := 21) rfl))) (by decide) (t := .int) (t' := (.object "java/util/List")) (by decide) (by decide)))
  have f20 := (f15).same W5
  have K5 : Keep h0 h5 [a] := (K4).wr W5 (Or.inl (by simp))
  have Z5 : n0 ≤ h5.size := Nat.le_trans Z4 (Keep.of_wr W5).1
  have N5 := Fr.snoc X5 N4 g_a
  refine OG.of st5 ?_
  show OG _ _ _ _ _ _ _ (T5.setTop (mkF m 25 #[.val (.ref a), .val .null, .val (.int st), .val (.int en), .val .null] []))
  refine OG.retV X5 hx Bd.returns (hb hby dV_25) hlk ?_ (by decide) (by decide)
  rw [e5]
  exact ⟨rfl, N5, K5, f16, f17, f18, f19, f20⟩
theorem dS_0 : decode prog_13_method_1_code 0 = .ok (.aload_n 0, 1) := by decide +kernel
theorem dS_1 : decode prog_13_method_1_code 1 = .ok (.invokespecial 1, 3) := by decide +kernel
theorem dS_4 : decode prog_13_method_1_code 4 = .ok (.aload_n 0, 1) := by decide +kernel
theorem dS_5 : decode prog_13_method_1_code 5 = .ok (.iload_n 1, 1) := by decide +kernel
theorem dS_6 : decode prog_13_method_1_code 6 = .ok (.putfield 7, 3) := by decide +kernel
theorem dS_9 : decode prog_13_method_1_code 9 = .ok (.aload_n 0, 1) := by decide +kernel
theorem dS_10 : decode prog_13_method_1_code 10 = .ok (.iload_n 2, 1) := by decide +kernel
theorem dS_11 : decode prog_13_method_1_code 11 = .ok (.putfield 13, 3) := by decide +kernel
theorem dS_14 : decode prog_13_method_1_code 14 = .ok (.return_, 1) := by decide +kernel
theorem pn_S : plainName "com/example/inchworm/inchworm/jsonrpc/JsonText$Span" = true := by first | (simp [plainName, overriddenIn]; done) | decide +kernel
theorem ef_S (m : MethodId) (x0 : Addr) (x1 : Int32) (x2 : Int32) : entryFrame m #[(.ref x0), (.int x1), (.int x2)] 3 = mkF m 0 #[.val (.ref x0), .val (.int x1), .val (.int x2)] [] := by first | (simp [entryFrame, mkF, argsToLocals, Value.category]; done) | rfl
def QS (Z : State) (a : Addr) (st : Int32) (en : Int32) (h0 : Heap) (n0 : Nat) (v : Option Value) (h : Heap) (L : List Loc) : Prop := v = none ∧ Fr n0 L ∧ Keep h0 h [a] ∧ Exa Z h a "com/example/inchworm/inchworm/jsonrpc/JsonText$Span" ∧ Fld Z h a "com/example/inchworm/inchworm/jsonrpc/JsonText$Span" "start" "I" (.int st) ∧ Fld Z h a "com/example/inchworm/inchworm/jsonrpc/JsonText$Span" "end" "I" (.int en)
set_option maxRecDepth 65536 in
set_option maxHeartbeats 40000000 in
theorem rmS (l : Launch) (Z : State) (a0 : Array Value) (hw : ∀ d ∈ tables_1, d.before a0 Z = true) (ws : List Jvm.Cond) (a : Addr) (st : Int32) (en : Int32) (h0 : Heap) (n0 : Nat) (Z0 : n0 ≤ h0.size) (E_a : Exa Z h0 a "com/example/inchworm/inchworm/jsonrpc/JsonText$Span") (F_a_start : Fld Z h0 a "com/example/inchworm/inchworm/jsonrpc/JsonText$Span" "start" "I" (.int (0 : Int32))) (F_a_end : Fld Z h0 a "com/example/inchworm/inchworm/jsonrpc/JsonText$Span" "end" "I" (.int (0 : Int32))) (g_a : n0 ≤ a) :
    MetFree l (⟨"com/example/inchworm/inchworm/jsonrpc/JsonText$Span", "<init>", "(II)V"⟩ : MethodName) (head1 (Jvm.Cond.code (⟨"com/example/inchworm/inchworm/jsonrpc/JsonText$Span", "<init>", "(II)V"⟩ : MethodName) prog_13_method_1_code 3 none :: ws) ({ frames := 2, cells := 0, slots := 0, locals := 24 } : Room)) (fun aA oU => aA = #[(.ref a), (.int st), (.int en)] ∧ Z.Warmed39 oU.vm ∧ oU.heap = h0) (fun _ _ _ _ _ => True) (fun _ oU oO oU' => ∃ oV oL, oO = .returned oV ∧ QS Z a st en h0 n0 oV oU'.heap oL ∧ FrameEnd oU oO oU' oL ({ frames := 2, cells := 0, slots := 0, locals := 24 } : Room).cells ({ frames := 2, cells := 0, slots := 0, locals := 24 } : Room).slots) := by
  refine MetFree.of_bodySF (plainFor_of_name pn_S) hisR ?_
  intro p e s m args below meth c s₁ Bd hml0 hP hK
  obtain ⟨rfl, hZ, hh⟩ := hP
  have hx := Bd.exec
  have hby := Bd.bytes
  have hlk := BodyLoose.notSynchronized Bd
  have hml : c.maxLocals = 3 := hml0
  have hown : s.vm.findClass "com/example/inchworm/inchworm/jsonrpc/JsonText$Span" = some m.cls := findClass_of_methodNamed Bd.named
  have hnm := (name_of_methodNamed Bd.named Bd.method).1
  have X0 : Stand p l e ({ frames := 2, cells := 0, slots := 0, locals := 24 } : Room) s m #[(.ref a), (.int st), (.int en)] below meth c s₁ [] 0 0 := Stand.of_body Bd
  have e0 : s₁.heap = h0 := by rw [← hh, Bd.state]; rfl
  have N0 := Fr.nil n0
  show OG p e below s ({ frames := 2, cells := 0, slots := 0, locals := 24 } : Room).cells ({ frames := 2, cells := 0, slots := 0, locals := 24 } : Room).slots (QS Z a st en h0 n0) _
  refine OG.of (fun t k => castTop (ef_S m a st en) k) ?_
  show OG p e below s _ _ _ (s₁.setTop (mkF m 0 #[.val (.ref a), .val (.int st), .val (.int en)] []))
  refine OG.of (A := s₁.setTop (mkF m 1 #[.val (.ref a), .val (.int st), .val (.int en)] [(.ref a)])) (fun t k => ?_) ?_
  · show Steps p.tables e below (s₁.setTop (mkF m 0 #[.val (.ref a), .val (.int st), .val (.int en)] [])) t
    refine XS.aloadN X0.here hx rfl (hb hby dS_0) rfl rfl  ?_
    exact k
  show OG _ _ _ _ _ _ _ (s₁.setTop (mkF m 1 #[.val (.ref a), .val (.int st), .val (.int en)] [(.ref a)]))
  obtain ⟨_, _, ⟨T1, L1, k1, n1⟩, -, X1, ⟨Lc1, hQ1, l1, y1, z1⟩, st1⟩ := X0.specialBack hx (y := (⟨"java/lang/Record", "<init>", "()V"⟩ : MethodName)) rfl hown (mvT hZ (hw _ (List.mem_of_getElem? (i := 31) rfl))) (mvT hZ (hw _ (List.mem_of_getElem? (i := 7) rfl))) (mvT hZ (hw _ (List.mem_of_getElem? (i := 10) rfl))) (by decide) (backOf (W := 0) (rmR l Z a0 hw [] a  h0 n0 (Z0)) hZ (hw _ (List.mem_of_getElem? (i := 10) rfl)) (hw _ (List.mem_of_getElem? (i := 9) rfl)) (by decide) (by decide)) (g := (mkF m 1 #[.val (.ref a), .val (.int st), .val (.int en)] [(.ref a)])) rfl (by rw [hml]; rfl) (Steps.refl _) (a := a) (argsL := []) (rest := []) (lenOf pd___V rfl) rfl (by show 2 * 0 + _ ≤ _; exact Nat.le_of_eq rfl) (hb hby dS_1) (fun _ _ => ⟨rfl, e0, (by decide : 0 + 0 ≤ _), (by decide : 0 + 0 ≤ _)⟩)
  dsimp only [Pt.U, Pt.locs, Pt.cells, Pt.slots] at X1 l1 y1 z1 st1 hQ1
  subst l1 y1 z1
  obtain ⟨rfl, N1q, e1⟩ := hQ1
  have N1 := Fr.app N0 N1q
  refine OG.trans st1 ?_
  show OG _ _ _ _ _ _ _ (T1.setTop (mkF m 4 #[.val (.ref a), .val (.int st), .val (.int en)] []))
  refine OG.of (A := T1.setTop (mkF m 6 #[.val (.ref a), .val (.int st), .val (.int en)] [(.int st), (.ref a)])) (fun t k => ?_) ?_
  · show Steps p.tables e below (T1.setTop (mkF m 4 #[.val (.ref a), .val (.int st), .val (.int en)] [])) t
    refine XS.aloadN X1.here hx rfl (hb hby dS_4) rfl rfl  ?_
    show Steps p.tables e below (T1.setTop (mkF m 5 #[.val (.ref a), .val (.int st), .val (.int en)] [(.ref a)])) _
    refine XS.iloadN X1.here hx rfl (hb hby dS_5) rfl  ?_
    exact k
  show OG _ _ _ _ _ _ _ (T1.setTop (mkF m 6 #[.val (.ref a), .val (.int st), .val (.int en)] [(.int st), (.ref a)]))
  obtain ⟨T2, h2, X2, e2, W2, st2⟩ := putF X1 hx hZ hown (host := "") (Or.inl (hw _ (List.mem_of_getElem? (i := 32) rfl))) Via.refl e1 F_a_start E_a (Or.inr ⟨(hw _ (List.mem_of_getElem? (i := 33) rfl)), rfl, hnm⟩) (hw _ (List.mem_of_getElem? (i := 26) rfl)) (ty := .int) (by decide) rfl rfl (g := (mkF m 6 #[.val (.ref a), .val (.int st), .val (.int en)] [(.int st), (.ref a)])) rfl rfl (hb hby dS_6)
  have f1 := (E_a).wr W2
  have f2 := (F_a_start).same W2
  have f3 := (F_a_end).other W2 (Or.inr (slot_ne (Or.inr (hw _ (List.mem_of_getElem? (i := 35) rfl))) (Or.inr (hw _ (List.mem_of_getElem? (i := 33) rfl))) (by decide) (t := .int) (t' := .int) (by decide) (by decide)))
  have K2 : Keep h0 h2 [a] := (Keep.refl h0 [a]).wr W2 (Or.inl (by simp))
  have Z2 : n0 ≤ h2.size := Nat.le_trans Z0 (Keep.of_wr W2).1
  have N2 := Fr.snoc X2 N1 g_a
  refine OG.of st2 ?_
  show OG _ _ _ _ _ _ _ (T2.setTop (mkF m 9 #[.val (.ref a), .val (.int st), .val (.int en)] []))
  refine OG.of (A := T2.setTop (mkF m 11 #[.val (.ref a), .val (.int st), .val (.int en)] [(.int en), (.ref a)])) (fun t k => ?_) ?_
  · show Steps p.tables e below (T2.setTop (mkF m 9 #[.val (.ref a), .val (.int st), .val (.int en)] [])) t
    refine XS.aloadN X2.here hx rfl (hb hby dS_9) rfl rfl  ?_
    show Steps p.tables e below (T2.setTop (mkF m 10 #[.val (.ref a), .val (.int st), .val (.int en)] [(.ref a)])) _
    refine XS.iloadN X2.here hx rfl (hb hby dS_10) rfl  ?_
    exact k
  show OG _ _ _ _ _ _ _ (T2.setTop (mkF m 11 #[.val (.ref a), .val (.int st), .val (.int en)] [(.int en), (.ref a)]))
  obtain ⟨T3, h3, X3, e3, W3, st3⟩ := putF X2 hx hZ hown (host := "") (Or.inl (hw _ (List.mem_of_getElem? (i := 34) rfl))) Via.refl e2 f3 f1 (Or.inr ⟨(hw _ (List.mem_of_getElem? (i := 35) rfl)), rfl, hnm⟩) (hw _ (List.mem_of_getElem? (i := 26) rfl)) (ty := .int) (by decide) rfl rfl (g := (mkF m 11 #[.val (.ref a), .val (.int st), .val (.int en)] [(.int en), (.ref a)])) rfl rfl (hb hby dS_11)
  have f4 := (f1).wr W3
  have f5 := (f2).other W3 (Or.inr (slot_ne (Or.inr (hw _ (List.mem_of_getElem? (i := 33) rfl))) (Or.inr (hw _ (List.mem_of_getElem? (i := 35) rfl))) (by decide) (t := .int) (t' := .int) (by decide) (by decide)))
  have f6 := (f3).same W3
  have K3 : Keep h0 h3 [a] := (K2).wr W3 (Or.inl (by simp))
  have Z3 : n0 ≤ h3.size := Nat.le_trans Z2 (Keep.of_wr W3).1
  have N3 := Fr.snoc X3 N2 g_a
  refine OG.of st3 ?_
  show OG _ _ _ _ _ _ _ (T3.setTop (mkF m 14 #[.val (.ref a), .val (.int st), .val (.int en)] []))
  refine OG.retV X3 hx Bd.returns (hb hby dS_14) hlk ?_ (by decide) (by decide)
  rw [e3]
  exact ⟨rfl, N3, K3, f4, f5, f6⟩
theorem dE_0 : decode prog_9_method_2_code 0 = .ok (.aload_n 0, 1) := by decide +kernel
theorem dE_1 : decode prog_9_method_2_code 1 = .ok (.invokespecial 1, 3) := by decide +kernel
theorem dE_4 : decode prog_9_method_2_code 4 = .ok (.aload_n 0, 1) := by decide +kernel
theorem dE_5 : decode prog_9_method_2_code 5 = .ok (.aload_n 1, 1) := by decide +kernel
theorem dE_6 : decode prog_9_method_2_code 6 = .ok (.putfield 7, 3) := by decide +kernel
theorem dE_9 : decode prog_9_method_2_code 9 = .ok (.aload_n 0, 1) := by decide +kernel
theorem dE_10 : decode prog_9_method_2_code 10 = .ok (.aload_n 2, 1) := by decide +kernel
theorem dE_11 : decode prog_9_method_2_code 11 = .ok (.putfield 13, 3) := by decide +kernel
theorem dE_14 : decode prog_9_method_2_code 14 = .ok (.return_, 1) := by decide +kernel
theorem pn_E : plainName "com/example/inchworm/inchworm/jsonrpc/JsonText$Edit" = true := by first | (simp [plainName, overriddenIn]; done) | decide +kernel
theorem ef_E (m : MethodId) (x0 : Addr) (x1 : Addr) (x2 : Addr) : entryFrame m #[(.ref x0), (.ref x1), (.ref x2)] 3 = mkF m 0 #[.val (.ref x0), .val (.ref x1), .val (.ref x2)] [] := by first | (simp [entryFrame, mkF, argsToLocals, Value.category]; done) | rfl
def QE (Z : State) (a : Addr) (sp : Addr) (ar : Addr) (h0 : Heap) (n0 : Nat) (v : Option Value) (h : Heap) (L : List Loc) : Prop := v = none ∧ Fr n0 L ∧ Keep h0 h [a] ∧ Exa Z h a "com/example/inchworm/inchworm/jsonrpc/JsonText$Edit" ∧ Fld Z h a "com/example/inchworm/inchworm/jsonrpc/JsonText$Edit" "at" "Lcom/example/inchworm/inchworm/jsonrpc/JsonText$Span;" (.ref sp) ∧ Fld Z h a "com/example/inchworm/inchworm/jsonrpc/JsonText$Edit" "utf8" "[B" (.ref ar)
set_option maxRecDepth 65536 in
set_option maxHeartbeats 40000000 in
theorem rmE (l : Launch) (Z : State) (a0 : Array Value) (hw : ∀ d ∈ tables_1, d.before a0 Z = true) (ws : List Jvm.Cond) (a : Addr) (sp : Addr) (ar : Addr) (h0 : Heap) (n0 : Nat) (Z0 : n0 ≤ h0.size) (E_a : Exa Z h0 a "com/example/inchworm/inchworm/jsonrpc/JsonText$Edit") (F_a_at : Fld Z h0 a "com/example/inchworm/inchworm/jsonrpc/JsonText$Edit" "at" "Lcom/example/inchworm/inchworm/jsonrpc/JsonText$Span;" .null) (F_a_utf8 : Fld Z h0 a "com/example/inchworm/inchworm/jsonrpc/JsonText$Edit" "utf8" "[B" .null) (g_a : n0 ≤ a) :
    MetFree l (⟨"com/example/inchworm/inchworm/jsonrpc/JsonText$Edit", "<init>", "(Lcom/example/inchworm/inchworm/jsonrpc/JsonText$Span;[B)V"⟩ : MethodName) (head1 (Jvm.Cond.code (⟨"com/example/inchworm/inchworm/jsonrpc/JsonText$Edit", "<init>", "(Lcom/example/inchworm/inchworm/jsonrpc/JsonText$Span;[B)V"⟩ : MethodName) prog_9_method_2_code 3 none :: ws) ({ frames := 2, cells := 0, slots := 0, locals := 24 } : Room)) (fun aA oU => aA = #[(.ref a), (.ref sp), (.ref ar)] ∧ Z.Warmed39 oU.vm ∧ oU.heap = h0) (fun _ _ _ _ _ => True) (fun _ oU oO oU' => ∃ oV oL, oO = .returned oV ∧ QE Z a sp ar h0 n0 oV oU'.heap oL ∧ FrameEnd oU oO oU' oL ({ frames := 2, cells := 0, slots := 0, locals := 24 } : Room).cells ({ frames := 2, cells := 0, slots := 0, locals := 24 } : Room).slots) := by
  refine MetFree.of_bodySF (plainFor_of_name pn_E) hisR ?_
  intro p e s m args below meth c s₁ Bd hml0 hP hK
  obtain ⟨rfl, hZ, hh⟩ := hP
  have hx := Bd.exec
  have hby := Bd.bytes
  have hlk := BodyLoose.notSynchronized Bd
  have hml : c.maxLocals = 3 := hml0
  have hown : s.vm.findClass "com/example/inchworm/inchworm/jsonrpc/JsonText$Edit" = some m.cls := findClass_of_methodNamed Bd.named
  have hnm := (name_of_methodNamed Bd.named Bd.method).1
  have X0 : Stand p l e ({ frames := 2, cells := 0, slots := 0, locals := 24 } : Room) s m #[(.ref a), (.ref sp), (.ref ar)] below meth c s₁ [] 0 0 := Stand.of_body Bd
  have e0 : s₁.heap = h0 := by rw [← hh, Bd.state]; rfl
  have N0 := Fr.nil n0
  show OG p e below s ({ frames := 2, cells := 0, slots := 0, locals := 24 } : Room).cells ({ frames := 2, cells := 0, slots := 0, locals := 24 } : Room).slots (QE Z a sp ar h0 n0) _
  refine OG.of (fun t k => castTop (ef_E m a sp ar) k) ?_
  show OG p e below s _ _ _ (s₁.setTop (mkF m 0 #[.val (.ref a), .val (.ref sp), .val (.ref ar)] []))
  refine OG.of (A := s₁.setTop (mkF m 1 #[.val (.ref a), .val (.ref sp), .val (.ref ar)] [(.ref a)])) (fun t k => ?_) ?_
  · show Steps p.tables e below (s₁.setTop (mkF m 0 #[.val (.ref a), .val (.ref sp), .val (.ref ar)] [])) t
    refine XS.aloadN X0.here hx rfl (hb hby dE_0) rfl rfl  ?_
    exact k
  show OG _ _ _ _ _ _ _ (s₁.setTop (mkF m 1 #[.val (.ref a), .val (.ref sp), .val (.ref ar)] [(.ref a)]))
  obtain ⟨_, _, ⟨T1, L1, k1, n1⟩, -, X1, ⟨Lc1, hQ1, l1, y1, z1⟩, st1⟩ := X0.specialBack hx (y := (⟨"java/lang/Record", "<init>", "()V"⟩ : MethodName)) rfl hown (mvT hZ (hw _ (List.mem_of_getElem? (i := 40) rfl))) (mvT hZ (hw _ (List.mem_of_getElem? (i := 7) rfl))) (mvT hZ (hw _ (List.mem_of_getElem? (i := 10) rfl))) (by decide) (backOf (W := 0) (rmR l Z a0 hw [] a  h0 n0 (Z0)) hZ (hw _ (List.mem_of_getElem? (i := 10) rfl)) (hw _ (List.mem_of_getElem? (i := 9) rfl)) (by decide) (by decide)) (g := (mkF m 1 #[.val (.ref a), .val (.ref sp), .val (.ref ar)] [(.ref a)])) rfl (by rw [hml]; rfl) (Steps.refl _) (a := a) (argsL := []) (rest := []) (lenOf pd___V rfl) rfl (by show 2 * 0 + _ ≤ _; exact Nat.le_of_eq rfl) (hb hby dE_1) (fun _ _ => ⟨rfl, e0, (by decide : 0 + 0 ≤ _), (by decide : 0 + 0 ≤ _)⟩)
  dsimp only [Pt.U, Pt.locs, Pt.cells, Pt.slots] at X1 l1 y1 z1 st1 hQ1
  subst l1 y1 z1
  obtain ⟨rfl, N1q, e1⟩ := hQ1
  have N1 := Fr.app N0 N1q
  refine OG.trans st1 ?_
  show OG _ _ _ _ _ _ _ (T1.setTop (mkF m 4 #[.val (.ref a), .val (.ref sp), .val (.ref ar)] []))
  refine OG.of (A := T1.setTop (mkF m 6 #[.val (.ref a), .val (.ref sp), .val (.ref ar)] [(.ref sp), (.ref a)])) (fun t k => ?_) ?_
  · show Steps p.tables e below (T1.setTop (mkF m 4 #[.val (.ref a), .val (.ref sp), .val (.ref ar)] [])) t
    refine XS.aloadN X1.here hx rfl (hb hby dE_4) rfl rfl  ?_
    show Steps p.tables e below (T1.setTop (mkF m 5 #[.val (.ref a), .val (.ref sp), .val (.ref ar)] [(.ref a)])) _
    refine XS.aloadN X1.here hx rfl (hb hby dE_5) rfl rfl  ?_
    exact k
  show OG _ _ _ _ _ _ _ (T1.setTop (mkF m 6 #[.val (.ref a), .val (.ref sp), .val (.ref ar)] [(.ref sp), (.ref a)]))
  obtain ⟨T2, h2, X2, e2, W2, st2⟩ := putF X1 hx hZ hown (host := "") (Or.inl (hw _ (List.mem_of_getElem? (i := 41) rfl))) Via.refl e1 F_a_at E_a (Or.inr ⟨(hw _ (List.mem_of_getElem? (i := 42) rfl)), rfl, hnm⟩) (hw _ (List.mem_of_getElem? (i := 23) rfl)) (ty := (.object "com/example/inchworm/inchworm/jsonrpc/JsonText$Span")) (by decide) rfl rfl (g := (mkF m 6 #[.val (.ref a), .val (.ref sp), .val (.ref ar)] [(.ref sp), (.ref a)])) rfl rfl (hb hby dE_6)
  have f1 := (E_a).wr W2
  have f2 := (F_a_at).same W2
  have f3 := (F_a_utf8).other W2 (Or.inr (slot_ne (Or.inr (hw _ (List.mem_of_getElem? (i := 44) rfl))) (Or.inr (hw _ (List.mem_of_getElem? (i := 42) rfl))) (by decide) (t := (.array .byte)) (t' := (.object "com/example/inchworm/inchworm/jsonrpc/JsonText$Span")) (by decide) (by decide)))
  have K2 : Keep h0 h2 [a] := (Keep.refl h0 [a]).wr W2 (Or.inl (by simp))
  have Z2 : n0 ≤ h2.size := Nat.le_trans Z0 (Keep.of_wr W2).1
  have N2 := Fr.snoc X2 N1 g_a
  refine OG.of st2 ?_
  show OG _ _ _ _ _ _ _ (T2.setTop (mkF m 9 #[.val (.ref a), .val (.ref sp), .val (.ref ar)] []))
  refine OG.of (A := T2.setTop (mkF m 11 #[.val (.ref a), .val (.ref sp), .val (.ref ar)] [(.ref ar), (.ref a)])) (fun t k => ?_) ?_
  · show Steps p.tables e below (T2.setTop (mkF m 9 #[.val (.ref a), .val (.ref sp), .val (.ref ar)] [])) t
    refine XS.aloadN X2.here hx rfl (hb hby dE_9) rfl rfl  ?_
    show Steps p.tables e below (T2.setTop (mkF m 10 #[.val (.ref a), .val (.ref sp), .val (.ref ar)] [(.ref a)])) _
    refine XS.aloadN X2.here hx rfl (hb hby dE_10) rfl rfl  ?_
    exact k
  show OG _ _ _ _ _ _ _ (T2.setTop (mkF m 11 #[.val (.ref a), .val (.ref sp), .val (.ref ar)] [(.ref ar), (.ref a)]))
  obtain ⟨T3, h3, X3, e3, W3, st3⟩ := putF X2 hx hZ hown (host := "") (Or.inl (hw _ (List.mem_of_getElem? (i := 43) rfl))) Via.refl e2 f3 f1 (Or.inr ⟨(hw _ (List.mem_of_getElem? (i := 44) rfl)), rfl, hnm⟩) (hw _ (List.mem_of_getElem? (i := 23) rfl)) (ty := (.array .byte)) (by decide) rfl rfl (g := (mkF m 11 #[.val (.ref a), .val (.ref sp), .val (.ref ar)] [(.ref ar), (.ref a)])) rfl rfl (hb hby dE_11)
  have f4 := (f1).wr W3
  have f5 := (f2).other W3 (Or.inr (slot_ne (Or.inr (hw _ (List.mem_of_getElem? (i := 42) rfl))) (Or.inr (hw _ (List.mem_of_getElem? (i := 44) rfl))) (by decide) (t := (.object "com/example/inchworm/inchworm/jsonrpc/JsonText$Span")) (t' := (.array .byte)) (by decide) (by decide)))
  have f6 := (f3).same W3
  have K3 : Keep h0 h3 [a] := (K2).wr W3 (Or.inl (by simp))
  have Z3 : n0 ≤ h3.size := Nat.le_trans Z2 (Keep.of_wr W3).1
  have N3 := Fr.snoc X3 N2 g_a
  refine OG.of st3 ?_
  show OG _ _ _ _ _ _ _ (T3.setTop (mkF m 14 #[.val (.ref a), .val (.ref sp), .val (.ref ar)] []))
  refine OG.retV X3 hx Bd.returns (hb hby dE_14) hlk ?_ (by decide) (by decide)
  rw [e3]
  exact ⟨rfl, N3, K3, f4, f5, f6⟩
theorem dA_0 : decode prog_9_method_6_code 0 = .ok (.aload_n 0, 1) := by decide +kernel
theorem dA_1 : decode prog_9_method_6_code 1 = .ok (.getfield 7, 3) := by decide +kernel
theorem dA_4 : decode prog_9_method_6_code 4 = .ok (.areturn, 1) := by decide +kernel
theorem pn_A : plainName "com/example/inchworm/inchworm/jsonrpc/JsonText$Edit" = true := by first | (simp [plainName, overriddenIn]; done) | decide +kernel
theorem ef_A (m : MethodId) (x0 : Addr) : entryFrame m #[(.ref x0)] 1 = mkF m 0 #[.val (.ref x0)] [] := by first | (simp [entryFrame, mkF, argsToLocals, Value.category]; done) | rfl
def QA (Z : State) (a : Addr) (w : Value) (h0 : Heap) (n0 : Nat) (v : Option Value) (h : Heap) (L : List Loc) : Prop := v = some w ∧ Fr n0 L ∧ h = h0
set_option maxRecDepth 65536 in
set_option maxHeartbeats 40000000 in
theorem rmA (l : Launch) (Z : State) (a0 : Array Value) (hw : ∀ d ∈ tables_1, d.before a0 Z = true) (ws : List Jvm.Cond) (a : Addr) (w : Value) (h0 : Heap) (n0 : Nat) (Z0 : n0 ≤ h0.size) (hr : w.isRef = true) (F_a : Fld Z h0 a "com/example/inchworm/inchworm/jsonrpc/JsonText$Edit" "at" "Lcom/example/inchworm/inchworm/jsonrpc/JsonText$Span;" w) :
    MetFree l (⟨"com/example/inchworm/inchworm/jsonrpc/JsonText$Edit", "at", "()Lcom/example/inchworm/inchworm/jsonrpc/JsonText$Span;"⟩ : MethodName) (head1 (Jvm.Cond.code (⟨"com/example/inchworm/inchworm/jsonrpc/JsonText$Edit", "at", "()Lcom/example/inchworm/inchworm/jsonrpc/JsonText$Span;"⟩ : MethodName) prog_9_method_6_code 1 (some (.object "com/example/inchworm/inchworm/jsonrpc/JsonText$Span")) :: ws) ({ frames := 0, cells := 0, slots := 0, locals := 0 } : Room)) (fun aA oU => aA = #[(.ref a)] ∧ Z.Warmed39 oU.vm ∧ oU.heap = h0) (fun _ _ _ _ _ => True) (fun _ oU oO oU' => ∃ oV oL, oO = .returned oV ∧ QA Z a w h0 n0 oV oU'.heap oL ∧ FrameEnd oU oO oU' oL ({ frames := 0, cells := 0, slots := 0, locals := 0 } : Room).cells ({ frames := 0, cells := 0, slots := 0, locals := 0 } : Room).slots) := by
  refine MetFree.of_bodySF (plainFor_of_name pn_A) hisR ?_
  intro p e s m args below meth c s₁ Bd hml0 hP hK
  obtain ⟨rfl, hZ, hh⟩ := hP
  have hx := Bd.exec
  have hby := Bd.bytes
  have hlk := BodyLoose.notSynchronized Bd
  have hml : c.maxLocals = 1 := hml0
  have hown : s.vm.findClass "com/example/inchworm/inchworm/jsonrpc/JsonText$Edit" = some m.cls := findClass_of_methodNamed Bd.named
  have hnm := (name_of_methodNamed Bd.named Bd.method).1
  have X0 : Stand p l e ({ frames := 0, cells := 0, slots := 0, locals := 0 } : Room) s m #[(.ref a)] below meth c s₁ [] 0 0 := Stand.of_body Bd
  have e0 : s₁.heap = h0 := by rw [← hh, Bd.state]; rfl
  have N0 := Fr.nil n0
  show OG p e below s ({ frames := 0, cells := 0, slots := 0, locals := 0 } : Room).cells ({ frames := 0, cells := 0, slots := 0, locals := 0 } : Room).slots (QA Z a w h0 n0) _
  refine OG.of (fun t k => castTop (ef_A m a) k) ?_
  show OG p e below s _ _ _ (s₁.setTop (mkF m 0 #[.val (.ref a)] []))
  refine OG.of (A := s₁.setTop (mkF m 1 #[.val (.ref a)] [(.ref a)])) (fun t k => ?_) ?_
  · show Steps p.tables e below (s₁.setTop (mkF m 0 #[.val (.ref a)] [])) t
    refine XS.aloadN X0.here hx rfl (hb hby dA_0) rfl rfl  ?_
    exact k
  show OG _ _ _ _ _ _ _ (s₁.setTop (mkF m 1 #[.val (.ref a)] [(.ref a)]))
  obtain ⟨T1, X1, e1, st1⟩ := getF X0 hx hZ hown (host := "") (Or.inl (hw _ (List.mem_of_getElem? (i := 41) rfl))) Via.refl e0 F_a (g := (mkF m 1 #[.val (.ref a)] [(.ref a)])) rfl rfl (hb hby dA_1)
  refine OG.of st1 ?_
  show OG _ _ _ _ _ _ _ (T1.setTop (mkF m 4 #[.val (.ref a)] [w]))
  refine OG.retA X1 hx Bd.returns rfl hr (hb hby dA_4) hlk ?_ (by decide) (by decide)
  rw [e1]
  exact ⟨rfl, N0, rfl⟩
theorem dB_0 : decode prog_13_method_8_code 0 = .ok (.aload_n 0, 1) := by decide +kernel
theorem dB_1 : decode prog_13_method_8_code 1 = .ok (.getfield 7, 3) := by decide +kernel
theorem dB_4 : decode prog_13_method_8_code 4 = .ok (.ireturn, 1) := by decide +kernel
theorem pn_B : plainName "com/example/inchworm/inchworm/jsonrpc/JsonText$Span" = true := by first | (simp [plainName, overriddenIn]; done) | decide +kernel
theorem ef_B (m : MethodId) (x0 : Addr) : entryFrame m #[(.ref x0)] 1 = mkF m 0 #[.val (.ref x0)] [] := by first | (simp [entryFrame, mkF, argsToLocals, Value.category]; done) | rfl
def QB (Z : State) (a : Addr) (w : Int32) (h0 : Heap) (n0 : Nat) (v : Option Value) (h : Heap) (L : List Loc) : Prop := v = some (.int w) ∧ Fr n0 L ∧ h = h0
set_option maxRecDepth 65536 in
set_option maxHeartbeats 40000000 in
theorem rmB (l : Launch) (Z : State) (a0 : Array Value) (hw : ∀ d ∈ tables_1, d.before a0 Z = true) (ws : List Jvm.Cond) (a : Addr) (w : Int32) (h0 : Heap) (n0 : Nat) (Z0 : n0 ≤ h0.size) (F_a : Fld Z h0 a "com/example/inchworm/inchworm/jsonrpc/JsonText$Span" "start" "I" (.int w)) :
    MetFree l (⟨"com/example/inchworm/inchworm/jsonrpc/JsonText$Span", "start", "()I"⟩ : MethodName) (head1 (Jvm.Cond.code (⟨"com/example/inchworm/inchworm/jsonrpc/JsonText$Span", "start", "()I"⟩ : MethodName) prog_13_method_8_code 1 (some .int) :: ws) ({ frames := 0, cells := 0, slots := 0, locals := 0 } : Room)) (fun aA oU => aA = #[(.ref a)] ∧ Z.Warmed39 oU.vm ∧ oU.heap = h0) (fun _ _ _ _ _ => True) (fun _ oU oO oU' => ∃ oV oL, oO = .returned oV ∧ QB Z a w h0 n0 oV oU'.heap oL ∧ FrameEnd oU oO oU' oL ({ frames := 0, cells := 0, slots := 0, locals := 0 } : Room).cells ({ frames := 0, cells := 0, slots := 0, locals := 0 } : Room).slots) := by
  refine MetFree.of_bodySF (plainFor_of_name pn_B) hisR ?_
  intro p e s m args below meth c s₁ Bd hml0 hP hK
  obtain ⟨rfl, hZ, hh⟩ := hP
  have hx := Bd.exec
  have hby := Bd.bytes
  have hlk := BodyLoose.notSynchronized Bd
  have hml : c.maxLocals = 1 := hml0
  have hown : s.vm.findClass "com/example/inchworm/inchworm/jsonrpc/JsonText$Span" = some m.cls := findClass_of_methodNamed Bd.named
  have hnm := (name_of_methodNamed Bd.named Bd.method).1
  have X0 : Stand p l e ({ frames := 0, cells := 0, slots := 0, locals := 0 } : Room) s m #[(.ref a)] below meth c s₁ [] 0 0 := Stand.of_body Bd
  have e0 : s₁.heap = h0 := by rw [← hh, Bd.state]; rfl
  have N0 := Fr.nil n0
  show OG p e below s ({ frames := 0, cells := 0, slots := 0, locals := 0 } : Room).cells ({ frames := 0, cells := 0, slots := 0, locals := 0 } : Room).slots (QB Z a w h0 n0) _
  refine OG.of (fun t k => castTop (ef_B m a) k) ?_
  show OG p e below s _ _ _ (s₁.setTop (mkF m 0 #[.val (.ref a)] []))
  refine OG.of (A := s₁.setTop (mkF m 1 #[.val (.ref a)] [(.ref a)])) (fun t k => ?_) ?_
  · show Steps p.tables e below (s₁.setTop (mkF m 0 #[.val (.ref a)] [])) t
    refine XS.aloadN X0.here hx rfl (hb hby dB_0) rfl rfl  ?_
    exact k
  show OG _ _ _ _ _ _ _ (s₁.setTop (mkF m 1 #[.val (.ref a)] [(.ref a)]))
  obtain ⟨T1, X1, e1, st1⟩ := getF X0 hx hZ hown (host := "") (Or.inl (hw _ (List.mem_of_getElem? (i := 32) rfl))) Via.refl e0 F_a (g := (mkF m 1 #[.val (.ref a)] [(.ref a)])) rfl rfl (hb hby dB_1)
  refine OG.of st1 ?_
  show OG _ _ _ _ _ _ _ (T1.setTop (mkF m 4 #[.val (.ref a)] [(.int w)]))
  refine OG.retI X1 hx Bd.returns (hb hby dB_4) hlk ?_ (by decide) (by decide)
  rw [e1]
  exact ⟨rfl, N0, rfl⟩
theorem dC_0 : decode prog_13_method_9_code 0 = .ok (.aload_n 0, 1) := by decide +kernel
theorem dC_1 : decode prog_13_method_9_code 1 = .ok (.getfield 13, 3) := by decide +kernel
theorem dC_4 : decode prog_13_method_9_code 4 = .ok (.ireturn, 1) := by decide +kernel
theorem pn_C : plainName "com/example/inchworm/inchworm/jsonrpc/JsonText$Span" = true := by first | (simp [plainName, overriddenIn]; done) | decide +kernel
theorem ef_C (m : MethodId) (x0 : Addr) : entryFrame m #[(.ref x0)] 1 = mkF m 0 #[.val (.ref x0)] [] := by first | (simp [entryFrame, mkF, argsToLocals, Value.category]; done) | rfl
def QC (Z : State) (a : Addr) (w : Int32) (h0 : Heap) (n0 : Nat) (v : Option Value) (h : Heap) (L : List Loc) : Prop := v = some (.int w) ∧ Fr n0 L ∧ h = h0
set_option maxRecDepth 65536 in
set_option maxHeartbeats 40000000 in
theorem rmC (l : Launch) (Z : State) (a0 : Array Value) (hw : ∀ d ∈ tables_1, d.before a0 Z = true) (ws : List Jvm.Cond) (a : Addr) (w : Int32) (h0 : Heap) (n0 : Nat) (Z0 : n0 ≤ h0.size) (F_a : Fld Z h0 a "com/example/inchworm/inchworm/jsonrpc/JsonText$Span" "end" "I" (.int w)) :
    MetFree l (⟨"com/example/inchworm/inchworm/jsonrpc/JsonText$Span", "end", "()I"⟩ : MethodName) (head1 (Jvm.Cond.code (⟨"com/example/inchworm/inchworm/jsonrpc/JsonText$Span", "end", "()I"⟩ : MethodName) prog_13_method_9_code 1 (some .int) :: ws) ({ frames := 0, cells := 0, slots := 0, locals := 0 } : Room)) (fun aA oU => aA = #[(.ref a)] ∧ Z.Warmed39 oU.vm ∧ oU.heap = h0) (fun _ _ _ _ _ => True) (fun _ oU oO oU' => ∃ oV oL, oO = .returned oV ∧ QC Z a w h0 n0 oV oU'.heap oL ∧ FrameEnd oU oO oU' oL ({ frames := 0, cells := 0, slots := 0, locals := 0 } : Room).cells ({ frames := 0, cells := 0, slots := 0, locals := 0 } : Room).slots) := by
  refine MetFree.of_bodySF (plainFor_of_name pn_C) hisR ?_
  intro p e s m args below meth c s₁ Bd hml0 hP hK
  obtain ⟨rfl, hZ, hh⟩ := hP
  have hx := Bd.exec
  have hby := Bd.bytes
  have hlk := BodyLoose.notSynchronized Bd
  have hml : c.maxLocals = 1 := hml0
  have hown : s.vm.findClass "com/example/inchworm/inchworm/jsonrpc/JsonText$Span" = some m.cls := findClass_of_methodNamed Bd.named
  have hnm := (name_of_methodNamed Bd.named Bd.method).1
  have X0 : Stand p l e ({ frames := 0, cells := 0, slots := 0, locals := 0 } : Room) s m #[(.ref a)] below meth c s₁ [] 0 0 := Stand.of_body Bd
  have e0 : s₁.heap = h0 := by rw [← hh, Bd.state]; rfl
  have N0 := Fr.nil n0
  show OG p e below s ({ frames := 0, cells := 0, slots := 0, locals := 0 } : Room).cells ({ frames := 0, cells := 0, slots := 0, locals := 0 } : Room).slots (QC Z a w h0 n0) _
  refine OG.of (fun t k => castTop (ef_C m a) k) ?_
  show OG p e below s _ _ _ (s₁.setTop (mkF m 0 #[.val (.ref a)] []))
  refine OG.of (A := s₁.setTop (mkF m 1 #[.val (.ref a)] [(.ref a)])) (fun t k => ?_) ?_
  · show Steps p.tables e below (s₁.setTop (mkF m 0 #[.val (.ref a)] [])) t
    refine XS.aloadN X0.here hx rfl (hb hby dC_0) rfl rfl  ?_
    exact k
  show OG _ _ _ _ _ _ _ (s₁.setTop (mkF m 1 #[.val (.ref a)] [(.ref a)]))
  obtain ⟨T1, X1, e1, st1⟩ := getF X0 hx hZ hown (host := "") (Or.inl (hw _ (List.mem_of_getElem? (i := 34) rfl))) Via.refl e0 F_a (g := (mkF m 1 #[.val (.ref a)] [(.ref a)])) rfl rfl (hb hby dC_1)
  refine OG.of st1 ?_
  show OG _ _ _ _ _ _ _ (T1.setTop (mkF m 4 #[.val (.ref a)] [(.int w)]))
  refine OG.retI X1 hx Bd.returns (hb hby dC_4) hlk ?_ (by decide) (by decide)
  rw [e1]
  exact ⟨rfl, N0, rfl⟩
theorem dW_0 : decode prog_16_method_9_code 0 = .ok (.aload_n 1, 1) := by decide +kernel
theorem dW_1 : decode prog_16_method_9_code 1 = .ok (.invokevirtual 143, 3) := by decide +kernel
theorem pd___Lcom_example_inchworm_inchworm_jsonrpc_JsonText_Span_ : parseMethodDescriptor "()Lcom/example/inchworm/inchworm/jsonrpc/JsonText$Span;" = some ⟨[], some (.object "com/example/inchworm/inchworm/jsonrpc/JsonText$Span")⟩ := by decide +kernel
theorem dW_4 : decode prog_16_method_9_code 4 = .ok (.invokevirtual 79, 3) := by decide +kernel
theorem pd___I : parseMethodDescriptor "()I" = some ⟨[], some .int⟩ := by decide +kernel
theorem dW_7 : decode prog_16_method_9_code 7 = .ok (.aload_n 0, 1) := by decide +kernel
theorem dW_8 : decode prog_16_method_9_code 8 = .ok (.getfield 13, 3) := by decide +kernel
theorem dW_11 : decode prog_16_method_9_code 11 = .ok (.if_icmp .le 21, 3) := by decide +kernel
theorem dW_14 : decode prog_16_method_9_code 14 = .ok (.aload_n 1, 1) := by decide +kernel
theorem dW_15 : decode prog_16_method_9_code 15 = .ok (.invokevirtual 143, 3) := by decide +kernel
theorem dW_18 : decode prog_16_method_9_code 18 = .ok (.invokevirtual 82, 3) := by decide +kernel
theorem dW_21 : decode prog_16_method_9_code 21 = .ok (.aload_n 0, 1) := by decide +kernel
theorem dW_22 : decode prog_16_method_9_code 22 = .ok (.getfield 17, 3) := by decide +kernel
theorem dW_25 : decode prog_16_method_9_code 25 = .ok (.if_icmp .ge 7, 3) := by decide +kernel
theorem dW_28 : decode prog_16_method_9_code 28 = .ok (.iconst 1, 1) := by decide +kernel
theorem dW_29 : decode prog_16_method_9_code 29 = .ok (.goto 4, 3) := by decide +kernel
theorem dW_33 : decode prog_16_method_9_code 33 = .ok (.ireturn, 1) := by decide +kernel
theorem dW_32 : decode prog_16_method_9_code 32 = .ok (.iconst 0, 1) := by decide +kernel
theorem pn_W : plainName "com/example/inchworm/inchworm/jsonrpc/JsonText$Value" = true := by first | (simp [plainName, overriddenIn]; done) | decide +kernel
theorem ef_W (m : MethodId) (x0 : Addr) (x1 : Addr) : entryFrame m #[(.ref x0), (.ref x1)] 2 = mkF m 0 #[.val (.ref x0), .val (.ref x1)] [] := by first | (simp [entryFrame, mkF, argsToLocals, Value.category]; done) | rfl
def QW (Z : State) (a : Addr) (ed : Addr) (sp : Addr) (ss : Int32) (ee : Int32) (st : Int32) (en : Int32) (h0 : Heap) (n0 : Nat) (v : Option Value) (h : Heap) (L : List Loc) : Prop := v = some (.int (own_within ss ee st en)) ∧ Fr n0 L ∧ h = h0
set_option maxRecDepth 65536 in
set_option maxHeartbeats 40000000 in
theorem rmW (l : Launch) (Z : State) (a0 : Array Value) (hw : ∀ d ∈ tables_1, d.before a0 Z = true) (ws : List Jvm.Cond) (a : Addr) (ed : Addr) (sp : Addr) (ss : Int32) (ee : Int32) (st : Int32) (en : Int32) (h0 : Heap) (n0 : Nat) (Z0 : n0 ≤ h0.size) (E_ed : Exa Z h0 ed "com/example/inchworm/inchworm/jsonrpc/JsonText$Edit") (E_sp : Exa Z h0 sp "com/example/inchworm/inchworm/jsonrpc/JsonText$Span") (F_at : Fld Z h0 ed "com/example/inchworm/inchworm/jsonrpc/JsonText$Edit" "at" "Lcom/example/inchworm/inchworm/jsonrpc/JsonText$Span;" (.ref sp)) (F_s : Fld Z h0 sp "com/example/inchworm/inchworm/jsonrpc/JsonText$Span" "start" "I" (.int ss)) (F_e : Fld Z h0 sp "com/example/inchworm/inchworm/jsonrpc/JsonText$Span" "end" "I" (.int ee)) (F_st : Fld Z h0 a "com/example/inchworm/inchworm/jsonrpc/JsonText$Value" "start" "I" (.int st)) (F_en : Fld Z h0 a "com/example/inchworm/inchworm/jsonrpc/JsonText$Value" "end" "I" (.int en)) :
    MetFree l (⟨"com/example/inchworm/inchworm/jsonrpc/JsonText$Value", "within", "(Lcom/example/inchworm/inchworm/jsonrpc/JsonText$Edit;)Z"⟩ : MethodName) (head1 (Jvm.Cond.code (⟨"com/example/inchworm/inchworm/jsonrpc/JsonText$Value", "within", "(Lcom/example/inchworm/inchworm/jsonrpc/JsonText$Edit;)Z"⟩ : MethodName) prog_16_method_9_code 2 (some .boolean) :: ws) ({ frames := 1, cells := 0, slots := 0, locals := 12 } : Room)) (fun aA oU => aA = #[(.ref a), (.ref ed)] ∧ Z.Warmed39 oU.vm ∧ oU.heap = h0) (fun _ _ _ _ _ => True) (fun _ oU oO oU' => ∃ oV oL, oO = .returned oV ∧ QW Z a ed sp ss ee st en h0 n0 oV oU'.heap oL ∧ FrameEnd oU oO oU' oL ({ frames := 1, cells := 0, slots := 0, locals := 12 } : Room).cells ({ frames := 1, cells := 0, slots := 0, locals := 12 } : Room).slots) := by
  refine MetFree.of_bodySF (plainFor_of_name pn_W) hisR ?_
  intro p e s m args below meth c s₁ Bd hml0 hP hK
  obtain ⟨rfl, hZ, hh⟩ := hP
  have hx := Bd.exec
  have hby := Bd.bytes
  have hlk := BodyLoose.notSynchronized Bd
  have hml : c.maxLocals = 2 := hml0
  have hown : s.vm.findClass "com/example/inchworm/inchworm/jsonrpc/JsonText$Value" = some m.cls := findClass_of_methodNamed Bd.named
  have hnm := (name_of_methodNamed Bd.named Bd.method).1
  have X0 : Stand p l e ({ frames := 1, cells := 0, slots := 0, locals := 12 } : Room) s m #[(.ref a), (.ref ed)] below meth c s₁ [] 0 0 := Stand.of_body Bd
  have e0 : s₁.heap = h0 := by rw [← hh, Bd.state]; rfl
  have N0 := Fr.nil n0
  show OG p e below s ({ frames := 1, cells := 0, slots := 0, locals := 12 } : Room).cells ({ frames := 1, cells := 0, slots := 0, locals := 12 } : Room).slots (QW Z a ed sp ss ee st en h0 n0) _
  refine OG.of (fun t k => castTop (ef_W m a ed) k) ?_
  show OG p e below s _ _ _ (s₁.setTop (mkF m 0 #[.val (.ref a), .val (.ref ed)] []))
  refine OG.of (A := s₁.setTop (mkF m 1 #[.val (.ref a), .val (.ref ed)] [(.ref ed)])) (fun t k => ?_) ?_
  · show Steps p.tables e below (s₁.setTop (mkF m 0 #[.val (.ref a), .val (.ref ed)] [])) t
    refine XS.aloadN X0.here hx rfl (hb hby dW_0) rfl rfl  ?_
    exact k
  show OG _ _ _ _ _ _ _ (s₁.setTop (mkF m 1 #[.val (.ref a), .val (.ref ed)] [(.ref ed)]))
  obtain ⟨cq1, kq1, q1a, q1b, q1c⟩ := isOf hZ e0 (E_ed)
  obtain ⟨_, _, ⟨T1, L1, k1, n1⟩, -, X1, ⟨Lc1, hQ1, l1, y1, z1⟩, st1⟩ := X0.virtualBack hx (y := (⟨"com/example/inchworm/inchworm/jsonrpc/JsonText$Edit", "at", "()Lcom/example/inchworm/inchworm/jsonrpc/JsonText$Span;"⟩ : MethodName)) (z := (⟨"com/example/inchworm/inchworm/jsonrpc/JsonText$Edit", "at", "()Lcom/example/inchworm/inchworm/jsonrpc/JsonText$Span;"⟩ : MethodName)) hown (mvT hZ (hw _ (List.mem_of_getElem? (i := 50) rfl))) (mvT hZ (hw _ (List.mem_of_getElem? (i := 51) rfl))) (notFace_of_selects (args := #[]) (mvT hZ (hw _ (List.mem_of_getElem? (i := 53) rfl)))) (mvT hZ (hw _ (List.mem_of_getElem? (i := 53) rfl))) (mvT hZ (hw _ (List.mem_of_getElem? (i := 52) rfl))) (by decide) (backOf (W := 0) (rmA l Z a0 hw [] ed (.ref sp) h0 n0 (Z0) rfl F_at) hZ (hw _ (List.mem_of_getElem? (i := 54) rfl)) (hw _ (List.mem_of_getElem? (i := 24) rfl)) (by decide) (by decide)) q1a q1c (g := (mkF m 1 #[.val (.ref a), .val (.ref ed)] [(.ref ed)])) rfl (by rw [hml]; rfl) (Steps.refl _) (argsL := []) (rest := []) (lenOf pd___Lcom_example_inchworm_inchworm_jsonrpc_JsonText_Span_ rfl) rfl (by show 2 * 0 + _ ≤ _; exact Nat.le_of_eq rfl) (hb hby dW_1) (fun _ _ => ⟨rfl, e0, (by decide : 0 + 0 ≤ _), (by decide : 0 + 0 ≤ _)⟩)
  dsimp only [Pt.U, Pt.locs, Pt.cells, Pt.slots] at X1 l1 y1 z1 st1 hQ1
  subst l1 y1 z1
  obtain ⟨hv1, N1q, e1⟩ := hQ1
  obtain rfl := hv1.trans (show _ = some (.ref sp) from rfl)
  have N1 := Fr.app N0 N1q
  refine OG.trans st1 ?_
  show OG _ _ _ _ _ _ _ (T1.setTop (mkF m 4 #[.val (.ref a), .val (.ref ed)] [(.ref sp)]))
  obtain ⟨cq2, kq2, q2a, q2b, q2c⟩ := isOf hZ e1 (E_sp)
  obtain ⟨_, _, ⟨T2, L2, k2, n2⟩, -, X2, ⟨Lc2, hQ2, l2, y2, z2⟩, st2⟩ := X1.virtualBack hx (y := (⟨"com/example/inchworm/inchworm/jsonrpc/JsonText$Span", "start", "()I"⟩ : MethodName)) (z := (⟨"com/example/inchworm/inchworm/jsonrpc/JsonText$Span", "start", "()I"⟩ : MethodName)) hown (mvT hZ (hw _ (List.mem_of_getElem? (i := 55) rfl))) (mvT hZ (hw _ (List.mem_of_getElem? (i := 56) rfl))) (notFace_of_selects (args := #[]) (mvT hZ (hw _ (List.mem_of_getElem? (i := 58) rfl)))) (mvT hZ (hw _ (List.mem_of_getElem? (i := 58) rfl))) (mvT hZ (hw _ (List.mem_of_getElem? (i := 57) rfl))) (by decide) (backOf (W := 0) (rmB l Z a0 hw [] sp ss h0 n0 (Z0) F_s) hZ (hw _ (List.mem_of_getElem? (i := 59) rfl)) (hw _ (List.mem_of_getElem? (i := 27) rfl)) (by decide) (by decide)) q2a q2c (g := (mkF m 4 #[.val (.ref a), .val (.ref ed)] [(.ref sp)])) rfl (by rw [hml]; rfl) (Steps.refl _) (argsL := []) (rest := []) (lenOf pd___I rfl) rfl (by show 2 * 0 + _ ≤ _; exact Nat.le_of_eq rfl) (hb hby dW_4) (fun _ _ => ⟨rfl, e1, (by decide : 0 + 0 ≤ _), (by decide : 0 + 0 ≤ _)⟩)
  dsimp only [Pt.U, Pt.locs, Pt.cells, Pt.slots] at X2 l2 y2 z2 st2 hQ2
  subst l2 y2 z2
  obtain ⟨hv2, N2q, e2⟩ := hQ2
  obtain rfl := hv2.trans (show _ = some (.int ss) from rfl)
  have N2 := Fr.app N1 N2q
  refine OG.trans st2 ?_
  show OG _ _ _ _ _ _ _ (T2.setTop (mkF m 7 #[.val (.ref a), .val (.ref ed)] [(.int ss)]))
  refine OG.of (A := T2.setTop (mkF m 8 #[.val (.ref a), .val (.ref ed)] [(.ref a), (.int ss)])) (fun t k => ?_) ?_
  · show Steps p.tables e below (T2.setTop (mkF m 7 #[.val (.ref a), .val (.ref ed)] [(.int ss)])) t
    refine XS.aloadN X2.here hx rfl (hb hby dW_7) rfl rfl  ?_
    exact k
  show OG _ _ _ _ _ _ _ (T2.setTop (mkF m 8 #[.val (.ref a), .val (.ref ed)] [(.ref a), (.int ss)]))
  obtain ⟨T3, X3, e3, st3⟩ := getF X2 hx hZ hown (host := "") (Or.inl (hw _ (List.mem_of_getElem? (i := 16) rfl))) Via.refl e2 F_st (g := (mkF m 8 #[.val (.ref a), .val (.ref ed)] [(.ref a), (.int ss)])) rfl rfl (hb hby dW_8)
  refine OG.of st3 ?_
  show OG _ _ _ _ _ _ _ (T3.setTop (mkF m 11 #[.val (.ref a), .val (.ref ed)] [(.int st), (.int ss)]))
  by_cases hc11_1 : st < ss
  · refine OG.of (fun t k => XS.icmpNo X3.here hx rfl (hb hby dW_11) rfl (XT.ii_le_f hc11_1) k) ?_
    show OG _ _ _ _ _ _ _ (T3.setTop (mkF m 14 #[.val (.ref a), .val (.ref ed)] []))
    refine OG.of (A := T3.setTop (mkF m 15 #[.val (.ref a), .val (.ref ed)] [(.ref ed)])) (fun t k => ?_) ?_
    · show Steps p.tables e below (T3.setTop (mkF m 14 #[.val (.ref a), .val (.ref ed)] [])) t
      refine XS.aloadN X3.here hx rfl (hb hby dW_14) rfl rfl  ?_
      exact k
    show OG _ _ _ _ _ _ _ (T3.setTop (mkF m 15 #[.val (.ref a), .val (.ref ed)] [(.ref ed)]))
    obtain ⟨cq4, kq4, q4a, q4b, q4c⟩ := isOf hZ e3 (E_ed)
    obtain ⟨_, _, ⟨T4, L4, k4, n4⟩, -, X4, ⟨Lc4, hQ4, l4, y4, z4⟩, st4⟩ := X3.virtualBack hx (y := (⟨"com/example/inchworm/inchworm/jsonrpc/JsonText$Edit", "at", "()Lcom/example/inchworm/inchworm/jsonrpc/JsonText$Span;"⟩ : MethodName)) (z := (⟨"com/example/inchworm/inchworm/jsonrpc/JsonText$Edit", "at", "()Lcom/example/inchworm/inchworm/jsonrpc/JsonText$Span;"⟩ : MethodName)) hown (mvT hZ (hw _ (List.mem_of_getElem? (i := 50) rfl))) (mvT hZ (hw _ (List.mem_of_getElem? (i := 51) rfl))) (notFace_of_selects (args := #[]) (mvT hZ (hw _ (List.mem_of_getElem? (i := 53) rfl)))) (mvT hZ (hw _ (List.mem_of_getElem? (i := 53) rfl))) (mvT hZ (hw _ (List.mem_of_getElem? (i := 52) rfl))) (by decide) (backOf (W := 0) (rmA l Z a0 hw [] ed (.ref sp) h0 n0 (Z0) rfl F_at) hZ (hw _ (List.mem_of_getElem? (i := 54) rfl)) (hw _ (List.mem_of_getElem? (i := 24) rfl)) (by decide) (by decide)) q4a q4c (g := (mkF m 15 #[.val (.ref a), .val (.ref ed)] [(.ref ed)])) rfl (by rw [hml]; rfl) (Steps.refl _) (argsL := []) (rest := []) (lenOf pd___Lcom_example_inchworm_inchworm_jsonrpc_JsonText_Span_ rfl) rfl (by show 2 * 0 + _ ≤ _; exact Nat.le_of_eq rfl) (hb hby dW_15) (fun _ _ => ⟨rfl, e3, (by decide : 0 + 0 ≤ _), (by decide : 0 + 0 ≤ _)⟩)
    dsimp only [Pt.U, Pt.locs, Pt.cells, Pt.slots] at X4 l4 y4 z4 st4 hQ4
    subst l4 y4 z4
    obtain ⟨hv4, N4q, e4⟩ := hQ4
    obtain rfl := hv4.trans (show _ = some (.ref sp) from rfl)
    have N4 := Fr.app N2 N4q
    refine OG.trans st4 ?_
    show OG _ _ _ _ _ _ _ (T4.setTop (mkF m 18 #[.val (.ref a), .val (.ref ed)] [(.ref sp)]))
    obtain ⟨cq5, kq5, q5a, q5b, q5c⟩ := isOf hZ e4 (E_sp)
    obtain ⟨_, _, ⟨T5, L5, k5, n5⟩, -, X5, ⟨Lc5, hQ5, l5, y5, z5⟩, st5⟩ := X4.virtualBack hx (y := (⟨"com/example/inchworm/inchworm/jsonrpc/JsonText$Span", "end", "()I"⟩ : MethodName)) (z := (⟨"com/example/inchworm/inchworm/jsonrpc/JsonText$Span", "end", "()I"⟩ : MethodName)) hown (mvT hZ (hw _ (List.mem_of_getElem? (i := 60) rfl))) (mvT hZ (hw _ (List.mem_of_getElem? (i := 61) rfl))) (notFace_of_selects (args := #[]) (mvT hZ (hw _ (List.mem_of_getElem? (i := 63) rfl)))) (mvT hZ (hw _ (List.mem_of_getElem? (i := 63) rfl))) (mvT hZ (hw _ (List.mem_of_getElem? (i := 62) rfl))) (by decide) (backOf (W := 0) (rmC l Z a0 hw [] sp ee h0 n0 (Z0) F_e) hZ (hw _ (List.mem_of_getElem? (i := 64) rfl)) (hw _ (List.mem_of_getElem? (i := 27) rfl)) (by decide) (by decide)) q5a q5c (g := (mkF m 18 #[.val (.ref a), .val (.ref ed)] [(.ref sp)])) rfl (by rw [hml]; rfl) (Steps.refl _) (argsL := []) (rest := []) (lenOf pd___I rfl) rfl (by show 2 * 0 + _ ≤ _; exact Nat.le_of_eq rfl) (hb hby dW_18) (fun _ _ => ⟨rfl, e4, (by decide : 0 + 0 ≤ _), (by decide : 0 + 0 ≤ _)⟩)
    dsimp only [Pt.U, Pt.locs, Pt.cells, Pt.slots] at X5 l5 y5 z5 st5 hQ5
    subst l5 y5 z5
    obtain ⟨hv5, N5q, e5⟩ := hQ5
    obtain rfl := hv5.trans (show _ = some (.int ee) from rfl)
    have N5 := Fr.app N4 N5q
    refine OG.trans st5 ?_
    show OG _ _ _ _ _ _ _ (T5.setTop (mkF m 21 #[.val (.ref a), .val (.ref ed)] [(.int ee)]))
    refine OG.of (A := T5.setTop (mkF m 22 #[.val (.ref a), .val (.ref ed)] [(.ref a), (.int ee)])) (fun t k => ?_) ?_
    · show Steps p.tables e below (T5.setTop (mkF m 21 #[.val (.ref a), .val (.ref ed)] [(.int ee)])) t
      refine XS.aloadN X5.here hx rfl (hb hby dW_21) rfl rfl  ?_
      exact k
    show OG _ _ _ _ _ _ _ (T5.setTop (mkF m 22 #[.val (.ref a), .val (.ref ed)] [(.ref a), (.int ee)]))
    obtain ⟨T6, X6, e6, st6⟩ := getF X5 hx hZ hown (host := "") (Or.inl (hw _ (List.mem_of_getElem? (i := 18) rfl))) Via.refl e5 F_en (g := (mkF m 22 #[.val (.ref a), .val (.ref ed)] [(.ref a), (.int ee)])) rfl rfl (hb hby dW_22)
    refine OG.of st6 ?_
    show OG _ _ _ _ _ _ _ (T6.setTop (mkF m 25 #[.val (.ref a), .val (.ref ed)] [(.int en), (.int ee)]))
    by_cases hc25_2 : ee < en
    · refine OG.of (fun t k => XS.icmpNo X6.here hx rfl (hb hby dW_25) rfl (XT.ii_ge_f hc25_2) k) ?_
      show OG _ _ _ _ _ _ _ (T6.setTop (mkF m 28 #[.val (.ref a), .val (.ref ed)] []))
      refine OG.of (A := T6.setTop (mkF m 33 #[.val (.ref a), .val (.ref ed)] [(.int (1 : Int32))])) (fun t k => ?_) ?_
      · show Steps p.tables e below (T6.setTop (mkF m 28 #[.val (.ref a), .val (.ref ed)] [])) t
        refine XS.iconst X6.here hx rfl (hb hby dW_28) ?_
        show Steps p.tables e below (T6.setTop (mkF m 29 #[.val (.ref a), .val (.ref ed)] [(.int (1 : Int32))])) _
        refine XS.goto X6.here hx rfl (pc0 := 29) (pc' := 33) rfl (hb hby dW_29) (by decide) (by decide) ?_
        exact k
      show OG _ _ _ _ _ _ _ (T6.setTop (mkF m 33 #[.val (.ref a), .val (.ref ed)] [(.int (1 : Int32))]))
      refine OG.retN X6 hx (t := .boolean) Bd.returns (by simp) (hb hby dW_33) hlk ?_ (by decide) (by decide)
      rw [e6]
      exact ⟨by rw [own_within, if_pos hc11_1, if_pos hc25_2] <;> rfl, N5, rfl⟩
    · refine OG.of (fun t k => XS.icmpYes X6.here hx rfl (pc0 := 25) (pc' := 32) rfl (hb hby dW_25) rfl (XT.ii_ge_t hc25_2) (by decide) (by decide) k) ?_
      show OG _ _ _ _ _ _ _ (T6.setTop (mkF m 32 #[.val (.ref a), .val (.ref ed)] []))
      refine OG.of (A := T6.setTop (mkF m 33 #[.val (.ref a), .val (.ref ed)] [(.int (0 : Int32))])) (fun t k => ?_) ?_
      · show Steps p.tables e below (T6.setTop (mkF m 32 #[.val (.ref a), .val (.ref ed)] [])) t
        refine XS.iconst X6.here hx rfl (hb hby dW_32) ?_
        exact k
      show OG _ _ _ _ _ _ _ (T6.setTop (mkF m 33 #[.val (.ref a), .val (.ref ed)] [(.int (0 : Int32))]))
      refine OG.retN X6 hx (t := .boolean) Bd.returns (by simp) (hb hby dW_33) hlk ?_ (by decide) (by decide)
      rw [e6]
      exact ⟨by rw [own_within, if_pos hc11_1, if_neg hc25_2] <;> rfl, N5, rfl⟩
  · refine OG.of (fun t k => XS.icmpYes X3.here hx rfl (pc0 := 11) (pc' := 32) rfl (hb hby dW_11) rfl (XT.ii_le_t hc11_1) (by decide) (by decide) k) ?_
    show OG _ _ _ _ _ _ _ (T3.setTop (mkF m 32 #[.val (.ref a), .val (.ref ed)] []))
    refine OG.of (A := T3.setTop (mkF m 33 #[.val (.ref a), .val (.ref ed)] [(.int (0 : Int32))])) (fun t k => ?_) ?_
    · show Steps p.tables e below (T3.setTop (mkF m 32 #[.val (.ref a), .val (.ref ed)] [])) t
      refine XS.iconst X3.here hx rfl (hb hby dW_32) ?_
      exact k
    show OG _ _ _ _ _ _ _ (T3.setTop (mkF m 33 #[.val (.ref a), .val (.ref ed)] [(.int (0 : Int32))]))
    refine OG.retN X3 hx (t := .boolean) Bd.returns (by simp) (hb hby dW_33) hlk ?_ (by decide) (by decide)
    rw [e3]
    exact ⟨by rw [own_within, if_neg hc11_1] <;> rfl, N2, rfl⟩
theorem pd_3cb90330 : parseMethodDescriptor "(Lcom/example/inchworm/inchworm/jsonrpc/JsonText$Type;IILjava/util/List;)V" = some ⟨[(.object "com/example/inchworm/inchworm/jsonrpc/JsonText$Type"), .int, .int, (.object "java/util/List")], none⟩ := by decide +kernel
theorem pd__II_V : parseMethodDescriptor "(II)V" = some ⟨[.int, .int], none⟩ := by decide +kernel
theorem pd_35ba2ee0 : parseMethodDescriptor "(Lcom/example/inchworm/inchworm/jsonrpc/JsonText$Span;[B)V" = some ⟨[(.object "com/example/inchworm/inchworm/jsonrpc/JsonText$Span"), (.array .byte)], none⟩ := by decide +kernel
theorem pd__Lcom_example_inchworm_inchworm_jsonrpc_JsonText_Edit__Z : parseMethodDescriptor "(Lcom/example/inchworm/inchworm/jsonrpc/JsonText$Edit;)Z" = some ⟨[(.object "com/example/inchworm/inchworm/jsonrpc/JsonText$Edit")], some .boolean⟩ := by decide +kernel
theorem pn_0 : plainName "com/example/inchworm/inchworm/jsonrpc/ValueWithinPinLaw" = true := by first | (simp [plainName, overriddenIn]; done) | decide +kernel
theorem ef_0 (m : MethodId) (x0 : Int32) (x1 : Int32) (x2 : Int32) (x3 : Int32) : entryFrame m #[(.int x0), (.int x1), (.int x2), (.int x3)] maxLocals = mkF m 0 #[.val (.int x0), .val (.int x1), .val (.int x2), .val (.int x3), .unset, .unset, .unset] [] := by first | (simp [entryFrame, mkF, argsToLocals, Value.category, maxLocals]; done) | rfl
def Q0 (Z : State) (p0 : Int32) (p1 : Int32) (p2 : Int32) (p3 : Int32) (h0 : Heap) (n0 : Nat) (v : Option Value) (h : Heap) (L : List Loc) : Prop := v = some (.int 1) ∧ Fr n0 L
set_option maxRecDepth 65536 in
set_option maxHeartbeats 40000000 in
theorem rm0 (l : Launch) (Z : State) (a0 : Array Value) (hw : ∀ d ∈ tables_1, d.before a0 Z = true) (ws : List Jvm.Cond) (p0 : Int32) (p1 : Int32) (p2 : Int32) (p3 : Int32) (h0 : Heap) (n0 : Nat) (Z0 : n0 ≤ h0.size) :
    MetFree l x (head1 (Jvm.Cond.code x code maxLocals ret :: ws) room_1) (fun aA oU => aA = #[(.int p0), (.int p1), (.int p2), (.int p3)] ∧ Z.Warmed39 oU.vm ∧ oU.heap = h0) (fun _ _ _ _ _ => True) (fun _ oU oO oU' => ∃ oV oL, oO = .returned oV ∧ Q0 Z p0 p1 p2 p3 h0 n0 oV oU'.heap oL ∧ FrameEnd oU oO oU' oL 16 128) := by
  refine MetFree.of_bodySF (plainFor_of_name pn_0) hisR ?_
  intro p e s m args below meth c s₁ Bd hml0 hP hK
  obtain ⟨rfl, hZ, hh⟩ := hP
  have hx := Bd.exec
  have hby := Bd.bytes
  have hlk := BodyLoose.notSynchronized Bd
  have hml : c.maxLocals = 7 := hml0
  have hown : s.vm.findClass "com/example/inchworm/inchworm/jsonrpc/ValueWithinPinLaw" = some m.cls := findClass_of_methodNamed Bd.named
  have hnm := (name_of_methodNamed Bd.named Bd.method).1
  have X0 : Stand p l e room_1 s m #[(.int p0), (.int p1), (.int p2), (.int p3)] below meth c s₁ [] 0 0 := Stand.of_body Bd
  have e0 : s₁.heap = h0 := by rw [← hh, Bd.state]; rfl
  have N0 := Fr.nil n0
  show OG p e below s 16 128 (Q0 Z p0 p1 p2 p3 h0 n0) _
  refine OG.of (fun t k => castTop (ef_0 m p0 p1 p2 p3) k) ?_
  show OG p e below s _ _ _ (s₁.setTop (mkF m 0 #[.val (.int p0), .val (.int p1), .val (.int p2), .val (.int p3), .unset, .unset, .unset] []))
  obtain ⟨T1, h1, X1, e1, E1, A1, D1, -, st1⟩ := newO X0 hx hZ hown (hw _ (List.mem_of_getElem? (i := 0) rfl)) (hw _ (List.mem_of_getElem? (i := 1) rfl)) (hw _ (List.mem_of_getElem? (i := 2) rfl)) e0 (g := (mkF m 0 #[.val (.int p0), .val (.int p1), .val (.int p2), .val (.int p3), .unset, .unset, .unset] [])) rfl (hb hby at_0) (by decide) (by decide)
  obtain ⟨b1, g1⟩ : ∃ z, z = (h0).size := ⟨_, rfl⟩
  have gn_b1 : n0 ≤ b1 := Nat.le_trans Z0 (Nat.le_of_eq g1.symm)
  have sz_b1 : h0.size ≤ b1 := Nat.le_trans (Keep.refl h0 []).1 (Nat.le_of_eq g1.symm)
  rw [← g1] at A1 D1 st1
  have K1 : Keep h0 h1 [] := (Keep.refl h0 []).ext E1
  have Z1 : n0 ≤ h1.size := Nat.le_trans Z0 E1.1
  have F1_type : Fld Z h1 b1 "com/example/inchworm/inchworm/jsonrpc/JsonText$Value" "type" "Lcom/example/inchworm/inchworm/jsonrpc/JsonText$Type;" .null := D1 (Or.inr (hw _ (List.mem_of_getElem? (i := 15) rfl))) (ty := (.object "com/example/inchworm/inchworm/jsonrpc/JsonText$Type")) (by decide)
  have F1_start : Fld Z h1 b1 "com/example/inchworm/inchworm/jsonrpc/JsonText$Value" "start" "I" (.int (0 : Int32)) := D1 (Or.inr (hw _ (List.mem_of_getElem? (i := 17) rfl))) (ty := .int) (by decide)
  have F1_end : Fld Z h1 b1 "com/example/inchworm/inchworm/jsonrpc/JsonText$Value" "end" "I" (.int (0 : Int32)) := D1 (Or.inr (hw _ (List.mem_of_getElem? (i := 19) rfl))) (ty := .int) (by decide)
  have F1_members : Fld Z h1 b1 "com/example/inchworm/inchworm/jsonrpc/JsonText$Value" "members" "Ljava/util/List;" .null := D1 (Or.inr (hw _ (List.mem_of_getElem? (i := 21) rfl))) (ty := (.object "java/util/List")) (by decide)
  refine OG.of st1 ?_
  show OG _ _ _ _ _ _ _ (T1.setTop (mkF m 3 #[.val (.int p0), .val (.int p1), .val (.int p2), .val (.int p3), .unset, .unset, .unset] [(.ref b1)]))
  refine OG.of (A := T1.setTop (mkF m 8 #[.val (.int p0), .val (.int p1), .val (.int p2), .val (.int p3), .unset, .unset, .unset] [.null, (.int p1), (.int p0), .null, (.ref b1), (.ref b1)])) (fun t k => ?_) ?_
  · show Steps p.tables e below (T1.setTop (mkF m 3 #[.val (.int p0), .val (.int p1), .val (.int p2), .val (.int p3), .unset, .unset, .unset] [(.ref b1)])) t
    refine XS.dup X1.here hx rfl (hb hby at_3) rfl rfl ?_
    show Steps p.tables e below (T1.setTop (mkF m 4 #[.val (.int p0), .val (.int p1), .val (.int p2), .val (.int p3), .unset, .unset, .unset] [(.ref b1), (.ref b1)])) _
    refine XS.aconstNull X1.here hx rfl (hb hby at_4) ?_
    show Steps p.tables e below (T1.setTop (mkF m 5 #[.val (.int p0), .val (.int p1), .val (.int p2), .val (.int p3), .unset, .unset, .unset] [.null, (.ref b1), (.ref b1)])) _
    refine XS.iloadN X1.here hx rfl (hb hby at_5) rfl  ?_
    show Steps p.tables e below (T1.setTop (mkF m 6 #[.val (.int p0), .val (.int p1), .val (.int p2), .val (.int p3), .unset, .unset, .unset] [(.int p0), .null, (.ref b1), (.ref b1)])) _
    refine XS.iloadN X1.here hx rfl (hb hby at_6) rfl  ?_
    show Steps p.tables e below (T1.setTop (mkF m 7 #[.val (.int p0), .val (.int p1), .val (.int p2), .val (.int p3), .unset, .unset, .unset] [(.int p1), (.int p0), .null, (.ref b1), (.ref b1)])) _
    refine XS.aconstNull X1.here hx rfl (hb hby at_7) ?_
    exact k
  show OG _ _ _ _ _ _ _ (T1.setTop (mkF m 8 #[.val (.int p0), .val (.int p1), .val (.int p2), .val (.int p3), .unset, .unset, .unset] [.null, (.int p1), (.int p0), .null, (.ref b1), (.ref b1)]))
  obtain ⟨_, _, ⟨T2, L2, k2, n2⟩, -, X2, ⟨Lc2, hQ2, l2, y2, z2⟩, st2⟩ := X1.specialBack hx (y := (⟨"com/example/inchworm/inchworm/jsonrpc/JsonText$Value", "<init>", "(Lcom/example/inchworm/inchworm/jsonrpc/JsonText$Type;IILjava/util/List;)V"⟩ : MethodName)) rfl hown (mvT hZ (hw _ (List.mem_of_getElem? (i := 3) rfl))) (mvT hZ (hw _ (List.mem_of_getElem? (i := 4) rfl))) (mvT hZ (hw _ (List.mem_of_getElem? (i := 5) rfl))) (by decide) (backOf (W := 1) (rmV l Z a0 hw [] b1 p0 p1 h1 n0 (Z1) A1 F1_type F1_start F1_end F1_members gn_b1) hZ (hw _ (List.mem_of_getElem? (i := 5) rfl)) (hw _ (List.mem_of_getElem? (i := 2) rfl)) (by decide) (by decide)) (g := (mkF m 8 #[.val (.int p0), .val (.int p1), .val (.int p2), .val (.int p3), .unset, .unset, .unset] [.null, (.int p1), (.int p0), .null, (.ref b1), (.ref b1)])) rfl (by rw [hml]; rfl) (Steps.refl _) (a := b1) (argsL := [.null, (.int p0), (.int p1), .null]) (rest := [(.ref b1)]) (lenOf pd_3cb90330 rfl) rfl (by show 2 * 0 + _ ≤ _; exact Nat.le_of_eq rfl) (hb hby at_8) (fun _ _ => ⟨rfl, e1, (by decide : 1 + 0 ≤ _), (by decide : 4 + 0 ≤ _)⟩)
  dsimp only [Pt.U, Pt.locs, Pt.cells, Pt.slots] at X2 l2 y2 z2 st2 hQ2
  subst l2 y2 z2
  obtain ⟨rfl, N2q, Kc2, f1, f2, f3, f4, f5⟩ := hQ2
  have N2 := Fr.app N0 N2q
  have f6 := (A1).keep Kc2
  have K2 : Keep h0 T2.heap [] := (K1).trans Kc2 (allS (Or.inr sz_b1) all0)
  have Z2 : n0 ≤ T2.heap.size := Nat.le_trans Z1 Kc2.1
  refine OG.trans st2 ?_
  show OG _ _ _ _ _ _ _ (T2.setTop (mkF m 11 #[.val (.int p0), .val (.int p1), .val (.int p2), .val (.int p3), .unset, .unset, .unset] [(.ref b1)]))
  refine OG.of (A := T2.setTop (mkF m 13 #[.val (.int p0), .val (.int p1), .val (.int p2), .val (.int p3), .val (.ref b1), .unset, .unset] [])) (fun t k => ?_) ?_
  · show Steps p.tables e below (T2.setTop (mkF m 11 #[.val (.int p0), .val (.int p1), .val (.int p2), .val (.int p3), .unset, .unset, .unset] [(.ref b1)])) t
    refine XS.astore X2.here hx rfl (hb hby at_11) rfl rfl (l' := #[.val (.int p0), .val (.int p1), .val (.int p2), .val (.int p3), .val (.ref b1), .unset, .unset]) rfl ?_
    exact k
  show OG _ _ _ _ _ _ _ (T2.setTop (mkF m 13 #[.val (.int p0), .val (.int p1), .val (.int p2), .val (.int p3), .val (.ref b1), .unset, .unset] []))
  obtain ⟨T3, h3, X3, e3, E3, A3, D3, -, st3⟩ := newO X2 hx hZ hown (hw _ (List.mem_of_getElem? (i := 22) rfl)) (hw _ (List.mem_of_getElem? (i := 23) rfl)) (hw _ (List.mem_of_getElem? (i := 24) rfl)) rfl (g := (mkF m 13 #[.val (.int p0), .val (.int p1), .val (.int p2), .val (.int p3), .val (.ref b1), .unset, .unset] [])) rfl (hb hby at_13) (by decide) (by decide)
  obtain ⟨b3, g3⟩ : ∃ z, z = (T2.heap).size := ⟨_, rfl⟩
  have ne_b1_b3 : b1 ≠ b3 := Nat.ne_of_lt (Nat.lt_of_lt_of_le (f1).lt (Nat.le_of_eq g3.symm))
  have gn_b3 : n0 ≤ b3 := Nat.le_trans Z2 (Nat.le_of_eq g3.symm)
  have sz_b3 : h0.size ≤ b3 := Nat.le_trans (K2).1 (Nat.le_of_eq g3.symm)
  rw [← g3] at A3 D3 st3
  have f11 := (f1).ext E3
  have f12 := (f2).ext E3
  have f13 := (f3).ext E3
  have f14 := (f4).ext E3
  have f15 := (f5).ext E3
  have K3 : Keep h0 h3 [] := (K2).ext E3
  have Z3 : n0 ≤ h3.size := Nat.le_trans Z2 E3.1
  have F3_at : Fld Z h3 b3 "com/example/inchworm/inchworm/jsonrpc/JsonText$Edit" "at" "Lcom/example/inchworm/inchworm/jsonrpc/JsonText$Span;" .null := D3 (Or.inr (hw _ (List.mem_of_getElem? (i := 42) rfl))) (ty := (.object "com/example/inchworm/inchworm/jsonrpc/JsonText$Span")) (by decide)
  have F3_utf8 : Fld Z h3 b3 "com/example/inchworm/inchworm/jsonrpc/JsonText$Edit" "utf8" "[B" .null := D3 (Or.inr (hw _ (List.mem_of_getElem? (i := 44) rfl))) (ty := (.array .byte)) (by decide)
  refine OG.of st3 ?_
  show OG _ _ _ _ _ _ _ (T3.setTop (mkF m 16 #[.val (.int p0), .val (.int p1), .val (.int p2), .val (.int p3), .val (.ref b1), .unset, .unset] [(.ref b3)]))
  refine OG.of (A := T3.setTop (mkF m 17 #[.val (.int p0), .val (.int p1), .val (.int p2), .val (.int p3), .val (.ref b1), .unset, .unset] [(.ref b3), (.ref b3)])) (fun t k => ?_) ?_
  · show Steps p.tables e below (T3.setTop (mkF m 16 #[.val (.int p0), .val (.int p1), .val (.int p2), .val (.int p3), .val (.ref b1), .unset, .unset] [(.ref b3)])) t
    refine XS.dup X3.here hx rfl (hb hby at_16) rfl rfl ?_
    exact k
  show OG _ _ _ _ _ _ _ (T3.setTop (mkF m 17 #[.val (.int p0), .val (.int p1), .val (.int p2), .val (.int p3), .val (.ref b1), .unset, .unset] [(.ref b3), (.ref b3)]))
  obtain ⟨T4, h4, X4, e4, E4, A4, D4, -, st4⟩ := newO X3 hx hZ hown (hw _ (List.mem_of_getElem? (i := 25) rfl)) (hw _ (List.mem_of_getElem? (i := 26) rfl)) (hw _ (List.mem_of_getElem? (i := 27) rfl)) e3 (g := (mkF m 17 #[.val (.int p0), .val (.int p1), .val (.int p2), .val (.int p3), .val (.ref b1), .unset, .unset] [(.ref b3), (.ref b3)])) rfl (hb hby at_17) (by decide) (by decide)
  obtain ⟨b4, g4⟩ : ∃ z, z = (h3).size := ⟨_, rfl⟩
  have ne_b1_b4 : b1 ≠ b4 := Nat.ne_of_lt (Nat.lt_of_lt_of_le (f11).lt (Nat.le_of_eq g4.symm))
  have ne_b3_b4 : b3 ≠ b4 := Nat.ne_of_lt (Nat.lt_of_lt_of_le (A3).lt (Nat.le_of_eq g4.symm))
  have gn_b4 : n0 ≤ b4 := Nat.le_trans Z3 (Nat.le_of_eq g4.symm)
  have sz_b4 : h0.size ≤ b4 := Nat.le_trans (K3).1 (Nat.le_of_eq g4.symm)
  rw [← g4] at A4 D4 st4
  have f16 := (f11).ext E4
  have f17 := (f12).ext E4
  have f18 := (f13).ext E4
  have f19 := (f14).ext E4
  have f20 := (f15).ext E4
  have f21 := (A3).ext E4
  have f22 := (F3_at).ext E4
  have f23 := (F3_utf8).ext E4
  have K4 : Keep h0 h4 [] := (K3).ext E4
  have Z4 : n0 ≤ h4.size := Nat.le_trans Z3 E4.1
  have F4_start : Fld Z h4 b4 "com/example/inchworm/inchworm/jsonrpc/JsonText$Span" "start" "I" (.int (0 : Int32)) := D4 (Or.inr (hw _ (List.mem_of_getElem? (i := 33) rfl))) (ty := .int) (by decide)
  have F4_end : Fld Z h4 b4 "com/example/inchworm/inchworm/jsonrpc/JsonText$Span" "end" "I" (.int (0 : Int32)) := D4 (Or.inr (hw _ (List.mem_of_getElem? (i := 35) rfl))) (ty := .int) (by decide)
  refine OG.of st4 ?_
  show OG _ _ _ _ _ _ _ (T4.setTop (mkF m 20 #[.val (.int p0), .val (.int p1), .val (.int p2), .val (.int p3), .val (.ref b1), .unset, .unset] [(.ref b4), (.ref b3), (.ref b3)]))
  refine OG.of (A := T4.setTop (mkF m 23 #[.val (.int p0), .val (.int p1), .val (.int p2), .val (.int p3), .val (.ref b1), .unset, .unset] [(.int p3), (.int p2), (.ref b4), (.ref b4), (.ref b3), (.ref b3)])) (fun t k => ?_) ?_
  · show Steps p.tables e below (T4.setTop (mkF m 20 #[.val (.int p0), .val (.int p1), .val (.int p2), .val (.int p3), .val (.ref b1), .unset, .unset] [(.ref b4), (.ref b3), (.ref b3)])) t
    refine XS.dup X4.here hx rfl (hb hby at_20) rfl rfl ?_
    show Steps p.tables e below (T4.setTop (mkF m 21 #[.val (.int p0), .val (.int p1), .val (.int p2), .val (.int p3), .val (.ref b1), .unset, .unset] [(.ref b4), (.ref b4), (.ref b3), (.ref b3)])) _
    refine XS.iloadN X4.here hx rfl (hb hby at_21) rfl  ?_
    show Steps p.tables e below (T4.setTop (mkF m 22 #[.val (.int p0), .val (.int p1), .val (.int p2), .val (.int p3), .val (.ref b1), .unset, .unset] [(.int p2), (.ref b4), (.ref b4), (.ref b3), (.ref b3)])) _
    refine XS.iloadN X4.here hx rfl (hb hby at_22) rfl  ?_
    exact k
  show OG _ _ _ _ _ _ _ (T4.setTop (mkF m 23 #[.val (.int p0), .val (.int p1), .val (.int p2), .val (.int p3), .val (.ref b1), .unset, .unset] [(.int p3), (.int p2), (.ref b4), (.ref b4), (.ref b3), (.ref b3)]))
  obtain ⟨_, _, ⟨T5, L5, k5, n5⟩, -, X5, ⟨Lc5, hQ5, l5, y5, z5⟩, st5⟩ := X4.specialBack hx (y := (⟨"com/example/inchworm/inchworm/jsonrpc/JsonText$Span", "<init>", "(II)V"⟩ : MethodName)) rfl hown (mvT hZ (hw _ (List.mem_of_getElem? (i := 28) rfl))) (mvT hZ (hw _ (List.mem_of_getElem? (i := 29) rfl))) (mvT hZ (hw _ (List.mem_of_getElem? (i := 30) rfl))) (by decide) (backOf (W := 3) (rmS l Z a0 hw [] b4 p2 p3 h4 n0 (Z4) A4 F4_start F4_end gn_b4) hZ (hw _ (List.mem_of_getElem? (i := 30) rfl)) (hw _ (List.mem_of_getElem? (i := 27) rfl)) (by decide) (by decide)) (g := (mkF m 23 #[.val (.int p0), .val (.int p1), .val (.int p2), .val (.int p3), .val (.ref b1), .unset, .unset] [(.int p3), (.int p2), (.ref b4), (.ref b4), (.ref b3), (.ref b3)])) rfl (by rw [hml]; rfl) (Steps.refl _) (a := b4) (argsL := [(.int p2), (.int p3)]) (rest := [(.ref b4), (.ref b3), (.ref b3)]) (lenOf pd__II_V rfl) rfl (by show 2 * 0 + _ ≤ _; exact Nat.le_of_eq rfl) (hb hby at_23) (fun _ _ => ⟨rfl, e4, (by decide : 3 + 0 ≤ _), (by decide : 8 + 0 ≤ _)⟩)
  dsimp only [Pt.U, Pt.locs, Pt.cells, Pt.slots] at X5 l5 y5 z5 st5 hQ5
  subst l5 y5 z5
  obtain ⟨rfl, N5q, Kc5, f24, f25, f26⟩ := hQ5
  have N5 := Fr.app N2 N5q
  have f27 := (f16).keep Kc5
  have f28 := (f17).keep Kc5 (ninS ne_b1_b4 nin0)
  have f29 := (f18).keep Kc5 (ninS ne_b1_b4 nin0)
  have f30 := (f19).keep Kc5 (ninS ne_b1_b4 nin0)
  have f31 := (f20).keep Kc5 (ninS ne_b1_b4 nin0)
  have f32 := (f21).keep Kc5
  have f33 := (f22).keep Kc5 (ninS ne_b3_b4 nin0)
  have f34 := (f23).keep Kc5 (ninS ne_b3_b4 nin0)
  have f35 := (A4).keep Kc5
  have K5 : Keep h0 T5.heap [] := (K4).trans Kc5 (allS (Or.inr sz_b4) all0)
  have Z5 : n0 ≤ T5.heap.size := Nat.le_trans Z4 Kc5.1
  refine OG.trans st5 ?_
  show OG _ _ _ _ _ _ _ (T5.setTop (mkF m 26 #[.val (.int p0), .val (.int p1), .val (.int p2), .val (.int p3), .val (.ref b1), .unset, .unset] [(.ref b4), (.ref b3), (.ref b3)]))
  refine OG.of (A := T5.setTop (mkF m 27 #[.val (.int p0), .val (.int p1), .val (.int p2), .val (.int p3), .val (.ref b1), .unset, .unset] [(.int (0 : Int32)), (.ref b4), (.ref b3), (.ref b3)])) (fun t k => ?_) ?_
  · show Steps p.tables e below (T5.setTop (mkF m 26 #[.val (.int p0), .val (.int p1), .val (.int p2), .val (.int p3), .val (.ref b1), .unset, .unset] [(.ref b4), (.ref b3), (.ref b3)])) t
    refine XS.iconst X5.here hx rfl (hb hby at_26) ?_
    exact k
  show OG _ _ _ _ _ _ _ (T5.setTop (mkF m 27 #[.val (.int p0), .val (.int p1), .val (.int p2), .val (.int p3), .val (.ref b1), .unset, .unset] [(.int (0 : Int32)), (.ref b4), (.ref b3), (.ref b3)]))
  obtain ⟨T6, h6, kc6, X6, e6, E6, A6, st6⟩ := newP X5 hx hZ (hw _ (List.mem_of_getElem? (i := 36) rfl)) rfl (g := (mkF m 27 #[.val (.int p0), .val (.int p1), .val (.int p2), .val (.int p3), .val (.ref b1), .unset, .unset] [(.int (0 : Int32)), (.ref b4), (.ref b3), (.ref b3)])) rfl (hb hby at_27) rfl (by decide) (cap := 0) (by decide) (by decide) (by decide) (by decide)
  obtain ⟨b6, g6⟩ : ∃ z, z = (T5.heap).size := ⟨_, rfl⟩
  have ne_b1_b6 : b1 ≠ b6 := Nat.ne_of_lt (Nat.lt_of_lt_of_le (f27).lt (Nat.le_of_eq g6.symm))
  have ne_b3_b6 : b3 ≠ b6 := Nat.ne_of_lt (Nat.lt_of_lt_of_le (f32).lt (Nat.le_of_eq g6.symm))
  have ne_b4_b6 : b4 ≠ b6 := Nat.ne_of_lt (Nat.lt_of_lt_of_le (f24).lt (Nat.le_of_eq g6.symm))
  have gn_b6 : n0 ≤ b6 := Nat.le_trans Z5 (Nat.le_of_eq g6.symm)
  have sz_b6 : h0.size ≤ b6 := Nat.le_trans (K5).1 (Nat.le_of_eq g6.symm)
  rw [← g6] at A6 st6
  have f38 := (f27).ext E6
  have f39 := (f28).ext E6
  have f40 := (f29).ext E6
  have f41 := (f30).ext E6
  have f42 := (f31).ext E6
  have f43 := (f32).ext E6
  have f44 := (f33).ext E6
  have f45 := (f34).ext E6
  have f46 := (f24).ext E6
  have f47 := (f25).ext E6
  have f48 := (f26).ext E6
  have K6 : Keep h0 h6 [] := (K5).ext E6
  have Z6 : n0 ≤ h6.size := Nat.le_trans Z5 E6.1
  have V6 : Arv Z h6 b6 kc6 .byte (0 : Int32) [] (.int (0 : Int32)) := Arv.new A6 (by decide)
  refine OG.of st6 ?_
  show OG _ _ _ _ _ _ _ (T6.setTop (mkF m 29 #[.val (.int p0), .val (.int p1), .val (.int p2), .val (.int p3), .val (.ref b1), .unset, .unset] [(.ref b6), (.ref b4), (.ref b3), (.ref b3)]))
  obtain ⟨_, _, ⟨T7, L7, k7, n7⟩, -, X7, ⟨Lc7, hQ7, l7, y7, z7⟩, st7⟩ := X6.specialBack hx (y := (⟨"com/example/inchworm/inchworm/jsonrpc/JsonText$Edit", "<init>", "(Lcom/example/inchworm/inchworm/jsonrpc/JsonText$Span;[B)V"⟩ : MethodName)) rfl hown (mvT hZ (hw _ (List.mem_of_getElem? (i := 37) rfl))) (mvT hZ (hw _ (List.mem_of_getElem? (i := 38) rfl))) (mvT hZ (hw _ (List.mem_of_getElem? (i := 39) rfl))) (by decide) (backOf (W := 1) (rmE l Z a0 hw [] b3 b4 b6 h6 n0 (Z6) f43 f44 f45 gn_b3) hZ (hw _ (List.mem_of_getElem? (i := 39) rfl)) (hw _ (List.mem_of_getElem? (i := 24) rfl)) (by decide) (by decide)) (g := (mkF m 29 #[.val (.int p0), .val (.int p1), .val (.int p2), .val (.int p3), .val (.ref b1), .unset, .unset] [(.ref b6), (.ref b4), (.ref b3), (.ref b3)])) rfl (by rw [hml]; rfl) (Steps.refl _) (a := b3) (argsL := [(.ref b4), (.ref b6)]) (rest := [(.ref b3)]) (lenOf pd_35ba2ee0 rfl) rfl (by show 2 * 0 + _ ≤ _; exact Nat.le_of_eq rfl) (hb hby at_29) (fun _ _ => ⟨rfl, e6, (by decide : 4 + 0 ≤ _), (by decide : 8 + 0 ≤ _)⟩)
  dsimp only [Pt.U, Pt.locs, Pt.cells, Pt.slots] at X7 l7 y7 z7 st7 hQ7
  subst l7 y7 z7
  obtain ⟨rfl, N7q, Kc7, f49, f50, f51⟩ := hQ7
  have N7 := Fr.app N5 N7q
  have f52 := (f38).keep Kc7
  have f53 := (f39).keep Kc7 (ninS ne_b1_b3 nin0)
  have f54 := (f40).keep Kc7 (ninS ne_b1_b3 nin0)
  have f55 := (f41).keep Kc7 (ninS ne_b1_b3 nin0)
  have f56 := (f42).keep Kc7 (ninS ne_b1_b3 nin0)
  have f57 := (f43).keep Kc7
  have f60 := (f46).keep Kc7
  have f61 := (f47).keep Kc7 (ninS (Ne.symm ne_b3_b4) nin0)
  have f62 := (f48).keep Kc7 (ninS (Ne.symm ne_b3_b4) nin0)
  have f63 := (V6).keep Kc7 (ninS (Ne.symm ne_b3_b6) nin0)
  have K7 : Keep h0 T7.heap [] := (K6).trans Kc7 (allS (Or.inr sz_b3) all0)
  have Z7 : n0 ≤ T7.heap.size := Nat.le_trans Z6 Kc7.1
  refine OG.trans st7 ?_
  show OG _ _ _ _ _ _ _ (T7.setTop (mkF m 32 #[.val (.int p0), .val (.int p1), .val (.int p2), .val (.int p3), .val (.ref b1), .unset, .unset] [(.ref b3)]))
  refine OG.of (A := T7.setTop (mkF m 65 #[.val (.int p0), .val (.int p1), .val (.int p2), .val (.int p3), .val (.ref b1), .val (.ref b3), .val (.int (if (p2.toInt64 - p0.toInt64) < (1 : Int64) then (0 : Int32) else (if (p1.toInt64 - p3.toInt64) < (1 : Int64) then (0 : Int32) else (1 : Int32))))] [(.ref b3), (.ref b1)])) (fun t k => ?_) ?_
  · show Steps p.tables e below (T7.setTop (mkF m 32 #[.val (.int p0), .val (.int p1), .val (.int p2), .val (.int p3), .val (.ref b1), .unset, .unset] [(.ref b3)])) t
    refine XS.astore X7.here hx rfl (hb hby at_32) rfl rfl (l' := #[.val (.int p0), .val (.int p1), .val (.int p2), .val (.int p3), .val (.ref b1), .val (.ref b3), .unset]) rfl ?_
    show Steps p.tables e below (T7.setTop (mkF m 34 #[.val (.int p0), .val (.int p1), .val (.int p2), .val (.int p3), .val (.ref b1), .val (.ref b3), .unset] [])) _
    refine XS.iloadN X7.here hx rfl (hb hby at_34) rfl  ?_
    show Steps p.tables e below (T7.setTop (mkF m 35 #[.val (.int p0), .val (.int p1), .val (.int p2), .val (.int p3), .val (.ref b1), .val (.ref b3), .unset] [(.int p2)])) _
    refine XT.i2l X7.here hx rfl (hb hby at_35) rfl ?_
    show Steps p.tables e below (T7.setTop (mkF m 36 #[.val (.int p0), .val (.int p1), .val (.int p2), .val (.int p3), .val (.ref b1), .val (.ref b3), .unset] [(.long p2.toInt64)])) _
    refine XS.iloadN X7.here hx rfl (hb hby at_36) rfl  ?_
    show Steps p.tables e below (T7.setTop (mkF m 37 #[.val (.int p0), .val (.int p1), .val (.int p2), .val (.int p3), .val (.ref b1), .val (.ref b3), .unset] [(.int p0), (.long p2.toInt64)])) _
    refine XT.i2l X7.here hx rfl (hb hby at_37) rfl ?_
    show Steps p.tables e below (T7.setTop (mkF m 38 #[.val (.int p0), .val (.int p1), .val (.int p2), .val (.int p3), .val (.ref b1), .val (.ref b3), .unset] [(.long p0.toInt64), (.long p2.toInt64)])) _
    refine XT.lsub X7.here hx rfl (hb hby at_38) rfl ?_
    show Steps p.tables e below (T7.setTop (mkF m 39 #[.val (.int p0), .val (.int p1), .val (.int p2), .val (.int p3), .val (.ref b1), .val (.ref b3), .unset] [(.long (p2.toInt64 - p0.toInt64))])) _
    refine XT.lconst X7.here hx rfl (hb hby at_39) ?_
    show Steps p.tables e below (T7.setTop (mkF m 40 #[.val (.int p0), .val (.int p1), .val (.int p2), .val (.int p3), .val (.ref b1), .val (.ref b3), .unset] [(.long (1 : Int64)), (.long (p2.toInt64 - p0.toInt64))])) _
    refine XT.lcmp X7.here hx rfl (hb hby at_40) rfl ?_
    show Steps p.tables e below (T7.setTop (mkF m 41 #[.val (.int p0), .val (.int p1), .val (.int p2), .val (.int p3), .val (.ref b1), .val (.ref b3), .unset] [(.int (XT.cmpL (p2.toInt64 - p0.toInt64) (1 : Int64)))])) _
    refine (show ∀ t, Steps p.tables e below (T7.setTop (mkF m 59 #[.val (.int p0), .val (.int p1), .val (.int p2), .val (.int p3), .val (.ref b1), .val (.ref b3), .unset] [(.int (if (p2.toInt64 - p0.toInt64) < (1 : Int64) then (0 : Int32) else (if (p1.toInt64 - p3.toInt64) < (1 : Int64) then (0 : Int32) else (1 : Int32))))])) t → Steps p.tables e below (T7.setTop (mkF m 41 #[.val (.int p0), .val (.int p1), .val (.int p2), .val (.int p3), .val (.ref b1), .val (.ref b3), .unset] [(.int (XT.cmpL (p2.toInt64 - p0.toInt64) (1 : Int64)))])) t from fun t k => ?_) _ ?_
    · skip
      show Steps p.tables e below (T7.setTop (mkF m 41 #[.val (.int p0), .val (.int p1), .val (.int p2), .val (.int p3), .val (.ref b1), .val (.ref b3), .unset] [(.int (XT.cmpL (p2.toInt64 - p0.toInt64) (1 : Int64)))])) _
      by_cases hj41_65 : (p2.toInt64 - p0.toInt64) < (1 : Int64)
      · try simp only [if_pos hj41_65] at k
        refine XS.ifYes X7.here hx rfl (pc0 := 41) (pc' := 58) rfl (hb hby at_41) rfl (XT.ll_lt_t hj41_65) (by decide) (by decide) ?_
        show Steps p.tables e below (T7.setTop (mkF m 58 #[.val (.int p0), .val (.int p1), .val (.int p2), .val (.int p3), .val (.ref b1), .val (.ref b3), .unset] [])) _
        refine XS.iconst X7.here hx rfl (hb hby at_58) ?_
        exact k
      · try simp only [if_neg hj41_65] at k
        refine XS.ifNo X7.here hx rfl (hb hby at_41) rfl (XT.ll_lt_f hj41_65) ?_
        show Steps p.tables e below (T7.setTop (mkF m 44 #[.val (.int p0), .val (.int p1), .val (.int p2), .val (.int p3), .val (.ref b1), .val (.ref b3), .unset] [])) _
        refine XS.iloadN X7.here hx rfl (hb hby at_44) rfl  ?_
        show Steps p.tables e below (T7.setTop (mkF m 45 #[.val (.int p0), .val (.int p1), .val (.int p2), .val (.int p3), .val (.ref b1), .val (.ref b3), .unset] [(.int p1)])) _
        refine XT.i2l X7.here hx rfl (hb hby at_45) rfl ?_
        show Steps p.tables e below (T7.setTop (mkF m 46 #[.val (.int p0), .val (.int p1), .val (.int p2), .val (.int p3), .val (.ref b1), .val (.ref b3), .unset] [(.long p1.toInt64)])) _
        refine XS.iloadN X7.here hx rfl (hb hby at_46) rfl  ?_
        show Steps p.tables e below (T7.setTop (mkF m 47 #[.val (.int p0), .val (.int p1), .val (.int p2), .val (.int p3), .val (.ref b1), .val (.ref b3), .unset] [(.int p3), (.long p1.toInt64)])) _
        refine XT.i2l X7.here hx rfl (hb hby at_47) rfl ?_
        show Steps p.tables e below (T7.setTop (mkF m 48 #[.val (.int p0), .val (.int p1), .val (.int p2), .val (.int p3), .val (.ref b1), .val (.ref b3), .unset] [(.long p3.toInt64), (.long p1.toInt64)])) _
        refine XT.lsub X7.here hx rfl (hb hby at_48) rfl ?_
        show Steps p.tables e below (T7.setTop (mkF m 49 #[.val (.int p0), .val (.int p1), .val (.int p2), .val (.int p3), .val (.ref b1), .val (.ref b3), .unset] [(.long (p1.toInt64 - p3.toInt64))])) _
        refine XT.lconst X7.here hx rfl (hb hby at_49) ?_
        show Steps p.tables e below (T7.setTop (mkF m 50 #[.val (.int p0), .val (.int p1), .val (.int p2), .val (.int p3), .val (.ref b1), .val (.ref b3), .unset] [(.long (1 : Int64)), (.long (p1.toInt64 - p3.toInt64))])) _
        refine XT.lcmp X7.here hx rfl (hb hby at_50) rfl ?_
        show Steps p.tables e below (T7.setTop (mkF m 51 #[.val (.int p0), .val (.int p1), .val (.int p2), .val (.int p3), .val (.ref b1), .val (.ref b3), .unset] [(.int (XT.cmpL (p1.toInt64 - p3.toInt64) (1 : Int64)))])) _
        by_cases hj51_66 : (p1.toInt64 - p3.toInt64) < (1 : Int64)
        · try simp only [if_pos hj51_66] at k
          refine XS.ifYes X7.here hx rfl (pc0 := 51) (pc' := 58) rfl (hb hby at_51) rfl (XT.ll_lt_t hj51_66) (by decide) (by decide) ?_
          show Steps p.tables e below (T7.setTop (mkF m 58 #[.val (.int p0), .val (.int p1), .val (.int p2), .val (.int p3), .val (.ref b1), .val (.ref b3), .unset] [])) _
          refine XS.iconst X7.here hx rfl (hb hby at_58) ?_
          exact k
        · try simp only [if_neg hj51_66] at k
          refine XS.ifNo X7.here hx rfl (hb hby at_51) rfl (XT.ll_lt_f hj51_66) ?_
          show Steps p.tables e below (T7.setTop (mkF m 54 #[.val (.int p0), .val (.int p1), .val (.int p2), .val (.int p3), .val (.ref b1), .val (.ref b3), .unset] [])) _
          refine XS.iconst X7.here hx rfl (hb hby at_54) ?_
          show Steps p.tables e below (T7.setTop (mkF m 55 #[.val (.int p0), .val (.int p1), .val (.int p2), .val (.int p3), .val (.ref b1), .val (.ref b3), .unset] [(.int (1 : Int32))])) _
          refine XS.goto X7.here hx rfl (pc0 := 55) (pc' := 59) rfl (hb hby at_55) (by decide) (by decide) ?_
          exact k
    show Steps p.tables e below (T7.setTop (mkF m 59 #[.val (.int p0), .val (.int p1), .val (.int p2), .val (.int p3), .val (.ref b1), .val (.ref b3), .unset] [(.int (if (p2.toInt64 - p0.toInt64) < (1 : Int64) then (0 : Int32) else (if (p1.toInt64 - p3.toInt64) < (1 : Int64) then (0 : Int32) else (1 : Int32))))])) _
    refine XS.istore X7.here hx rfl (hb hby at_59) rfl (l' := #[.val (.int p0), .val (.int p1), .val (.int p2), .val (.int p3), .val (.ref b1), .val (.ref b3), .val (.int (if (p2.toInt64 - p0.toInt64) < (1 : Int64) then (0 : Int32) else (if (p1.toInt64 - p3.toInt64) < (1 : Int64) then (0 : Int32) else (1 : Int32))))]) rfl ?_
    show Steps p.tables e below (T7.setTop (mkF m 61 #[.val (.int p0), .val (.int p1), .val (.int p2), .val (.int p3), .val (.ref b1), .val (.ref b3), .val (.int (if (p2.toInt64 - p0.toInt64) < (1 : Int64) then (0 : Int32) else (if (p1.toInt64 - p3.toInt64) < (1 : Int64) then (0 : Int32) else (1 : Int32))))] [])) _
    refine XS.aload X7.here hx rfl (hb hby at_61) rfl rfl  ?_
    show Steps p.tables e below (T7.setTop (mkF m 63 #[.val (.int p0), .val (.int p1), .val (.int p2), .val (.int p3), .val (.ref b1), .val (.ref b3), .val (.int (if (p2.toInt64 - p0.toInt64) < (1 : Int64) then (0 : Int32) else (if (p1.toInt64 - p3.toInt64) < (1 : Int64) then (0 : Int32) else (1 : Int32))))] [(.ref b1)])) _
    refine XS.aload X7.here hx rfl (hb hby at_63) rfl rfl  ?_
    exact k
  show OG _ _ _ _ _ _ _ (T7.setTop (mkF m 65 #[.val (.int p0), .val (.int p1), .val (.int p2), .val (.int p3), .val (.ref b1), .val (.ref b3), .val (.int (if (p2.toInt64 - p0.toInt64) < (1 : Int64) then (0 : Int32) else (if (p1.toInt64 - p3.toInt64) < (1 : Int64) then (0 : Int32) else (1 : Int32))))] [(.ref b3), (.ref b1)]))
  obtain ⟨cq8, kq8, q8a, q8b, q8c⟩ := isOf hZ rfl (f52)
  obtain ⟨_, _, ⟨T8, L8, k8, n8⟩, -, X8, ⟨Lc8, hQ8, l8, y8, z8⟩, st8⟩ := X7.virtualBack hx (y := (⟨"com/example/inchworm/inchworm/jsonrpc/JsonText$Value", "within", "(Lcom/example/inchworm/inchworm/jsonrpc/JsonText$Edit;)Z"⟩ : MethodName)) (z := (⟨"com/example/inchworm/inchworm/jsonrpc/JsonText$Value", "within", "(Lcom/example/inchworm/inchworm/jsonrpc/JsonText$Edit;)Z"⟩ : MethodName)) hown (mvT hZ (hw _ (List.mem_of_getElem? (i := 45) rfl))) (mvT hZ (hw _ (List.mem_of_getElem? (i := 46) rfl))) (notFace_of_selects (args := #[]) (mvT hZ (hw _ (List.mem_of_getElem? (i := 48) rfl)))) (mvT hZ (hw _ (List.mem_of_getElem? (i := 48) rfl))) (mvT hZ (hw _ (List.mem_of_getElem? (i := 47) rfl))) (by decide) (backOf (W := 0) (rmW l Z a0 hw [] b1 b3 b4 p2 p3 p0 p1 T7.heap n0 (Z7) f49 f60 f50 f61 f62 f54 f55) hZ (hw _ (List.mem_of_getElem? (i := 49) rfl)) (hw _ (List.mem_of_getElem? (i := 2) rfl)) (by decide) (by decide)) q8a q8c (g := (mkF m 65 #[.val (.int p0), .val (.int p1), .val (.int p2), .val (.int p3), .val (.ref b1), .val (.ref b3), .val (.int (if (p2.toInt64 - p0.toInt64) < (1 : Int64) then (0 : Int32) else (if (p1.toInt64 - p3.toInt64) < (1 : Int64) then (0 : Int32) else (1 : Int32))))] [(.ref b3), (.ref b1)])) rfl (by rw [hml]; rfl) (Steps.refl _) (argsL := [(.ref b3)]) (rest := []) (lenOf pd__Lcom_example_inchworm_inchworm_jsonrpc_JsonText_Edit__Z rfl) rfl (by show 2 * 0 + _ ≤ _; exact Nat.le_of_eq rfl) (hb hby at_65) (fun _ _ => ⟨rfl, rfl, (by decide : 4 + 0 ≤ _), (by decide : 8 + 0 ≤ _)⟩)
  dsimp only [Pt.U, Pt.locs, Pt.cells, Pt.slots] at X8 l8 y8 z8 st8 hQ8
  subst l8 y8 z8
  obtain ⟨hv8, N8q, e8⟩ := hQ8
  obtain rfl := hv8.trans (show _ = some (.int (own_within p2 p3 p0 p1)) from rfl)
  have N8 := Fr.app N7 N8q
  refine OG.trans st8 ?_
  show OG _ _ _ _ _ _ _ (T8.setTop (mkF m 68 #[.val (.int p0), .val (.int p1), .val (.int p2), .val (.int p3), .val (.ref b1), .val (.ref b3), .val (.int (if (p2.toInt64 - p0.toInt64) < (1 : Int64) then (0 : Int32) else (if (p1.toInt64 - p3.toInt64) < (1 : Int64) then (0 : Int32) else (1 : Int32))))] [(.int (own_within p2 p3 p0 p1))]))
  refine OG.of (A := T8.setTop (mkF m 78 #[.val (.int p0), .val (.int p1), .val (.int p2), .val (.int p3), .val (.ref b1), .val (.ref b3), .val (.int (if (p2.toInt64 - p0.toInt64) < (1 : Int64) then (0 : Int32) else (if (p1.toInt64 - p3.toInt64) < (1 : Int64) then (0 : Int32) else (1 : Int32))))] [(.int (1 : Int32))])) (fun t k => ?_) ?_
  · show Steps p.tables e below (T8.setTop (mkF m 68 #[.val (.int p0), .val (.int p1), .val (.int p2), .val (.int p3), .val (.ref b1), .val (.ref b3), .val (.int (if (p2.toInt64 - p0.toInt64) < (1 : Int64) then (0 : Int32) else (if (p1.toInt64 - p3.toInt64) < (1 : Int64) then (0 : Int32) else (1 : Int32))))] [(.int (own_within p2 p3 p0 p1))])) t
    refine XS.iload X8.here hx rfl (hb hby at_68) rfl  ?_
    show Steps p.tables e below (T8.setTop (mkF m 70 #[.val (.int p0), .val (.int p1), .val (.int p2), .val (.int p3), .val (.ref b1), .val (.ref b3), .val (.int (if (p2.toInt64 - p0.toInt64) < (1 : Int64) then (0 : Int32) else (if (p1.toInt64 - p3.toInt64) < (1 : Int64) then (0 : Int32) else (1 : Int32))))] [(.int (if (p2.toInt64 - p0.toInt64) < (1 : Int64) then (0 : Int32) else (if (p1.toInt64 - p3.toInt64) < (1 : Int64) then (0 : Int32) else (1 : Int32)))), (.int (own_within p2 p3 p0 p1))])) _
    refine XS.icmpNo X8.here hx rfl (hb hby at_70) rfl (XT.ii_ne_f (own_law p0 p1 p2 p3)) ?_
    show Steps p.tables e below (T8.setTop (mkF m 73 #[.val (.int p0), .val (.int p1), .val (.int p2), .val (.int p3), .val (.ref b1), .val (.ref b3), .val (.int (if (p2.toInt64 - p0.toInt64) < (1 : Int64) then (0 : Int32) else (if (p1.toInt64 - p3.toInt64) < (1 : Int64) then (0 : Int32) else (1 : Int32))))] [])) _
    refine XS.iconst X8.here hx rfl (hb hby at_73) ?_
    show Steps p.tables e below (T8.setTop (mkF m 74 #[.val (.int p0), .val (.int p1), .val (.int p2), .val (.int p3), .val (.ref b1), .val (.ref b3), .val (.int (if (p2.toInt64 - p0.toInt64) < (1 : Int64) then (0 : Int32) else (if (p1.toInt64 - p3.toInt64) < (1 : Int64) then (0 : Int32) else (1 : Int32))))] [(.int (1 : Int32))])) _
    refine XS.goto X8.here hx rfl (pc0 := 74) (pc' := 78) rfl (hb hby at_74) (by decide) (by decide) ?_
    exact k
  show OG _ _ _ _ _ _ _ (T8.setTop (mkF m 78 #[.val (.int p0), .val (.int p1), .val (.int p2), .val (.int p3), .val (.ref b1), .val (.ref b3), .val (.int (if (p2.toInt64 - p0.toInt64) < (1 : Int64) then (0 : Int32) else (if (p1.toInt64 - p3.toInt64) < (1 : Int64) then (0 : Int32) else (1 : Int32))))] [(.int (1 : Int32))]))
  refine OG.retN X8 hx (t := .boolean) Bd.returns (by simp) (hb hby at_78) hlk ?_ (by decide) (by decide)
  rw [e8]
  exact ⟨rfl, N8⟩
set_option maxRecDepth 65536 in
set_option maxHeartbeats 40000000 in
theorem comes_1 {Post : Tables → Env → Array Value → State → Outcome → State → Prop} (hpost : ∀ tb e args s v u, (limb_1_1.after args s (.returned v) u = true ∧ limb_1_2.after args s (.returned v) u = true ∧ True) → FrameEnd s (.returned v) u (Jvm.fieldLocs frame_1_writes args s ++ Jvm.arrayLocs frame_1_arrays args s ++ Jvm.staticLocs frame_1_statics s) 16 128 → Post tb e args s (.returned v) u) :
    ArmFor flags0 classFile x code maxLocals ret World_1 tables_1 room_1 Calls_1 rest_1 Pre_1 Post := by
  intro l hfl _ _ p e ha hc hk s m args below hf hA hF happ hP
  obtain ⟨hcalls, hrest, hpre⟩ := hP
  obtain ⟨-, -, -, hnamed, -, -, -, hat⟩ := (Spec.applies_iff hf).mp happ
  obtain ⟨hg, hn⟩ := and_e (Cond.before_iff.mp (show (Jvm.Cond.and given_1 narrow_1).before args s = true from hpre))
  obtain ⟨g1, g2⟩ := and_e hg
  obtain ⟨g3, g4⟩ := and_e g2
  obtain ⟨g5, g6⟩ := and_e g4
  obtain ⟨g7, g8⟩ := and_e g6
  obtain ⟨w0, w1, w2, w3, rfl⟩ : ∃ w0 w1 w2 w3 : Value, args = #[w0, w1, w2, w3] := by
    have hs : args.size = 4 := by simpa [Cond.value, given_1] using g1
    obtain ⟨L⟩ := args
    match L, hs with
    | [w0, w1, w2, w3], _ => exact ⟨w0, w1, w2, w3, rfl⟩
  have hw := fun d (hd : d ∈ tables_1) => atoms_spec (ws := Jvm.Cond.code x code maxLocals ret :: tables_1) hat d (List.mem_cons_of_mem _ hd)
  have hfit : Fit s := fun {y c} hc i hi => by
    obtain ⟨ha, rfl⟩ := Array.getElem?_eq_some_iff.mp hc
    have q := List.all_eq_true.mp ((Array.all_eq_true_iff_forall_mem.mp hF) _ (Array.getElem_mem ha)) i (List.mem_range.mpr hi)
    simpa [Array.getElem?_eq_getElem hi] using q
  obtain ⟨i0, ei0⟩ := is_v g3
  obtain rfl : w0 = (.int i0) := Option.some.inj ei0
  obtain ⟨i1, ei1⟩ := is_v g5
  obtain rfl : w1 = (.int i1) := Option.some.inj ei1
  obtain ⟨i2, ei2⟩ := is_v g7
  obtain rfl : w2 = (.int i2) := Option.some.inj ei2
  obtain ⟨i3, ei3⟩ := is_v g8
  obtain rfl : w3 = (.int i3) := Option.some.inj ei3
  obtain ⟨n, o, h1, h2, h3, _, L, rfl, ⟨rfl, N⟩, hq⟩ := rm0 l s _ hw tables_1 i0 i1 i2 i3 s.heap s.heap.size (Nat.le_refl _) p e ha hc hk s m _ below hf ((Spec.applies_iff_loose hf).mp happ).1 ⟨rfl, State.Warmed39.refl s, rfl⟩ trivial
  refine ⟨n, _, h1, h2, h3, hpost _ _ _ _ _ _ ⟨Cond.after_iff.mpr rfl, Cond.after_iff.mpr (eq_i res_at (Term.int_eval (1)) rfl), trivial⟩ ⟨hq.1, hq.2.1, (hq.2.2.sift fun y hy => Or.inr (N y hy)).mono (by decide) (by decide)⟩⟩
theorem main_1_1 : Claimed_1_1 := comes_1 fun _ _ _ _ _ _ h hF => ⟨h.1, hF⟩
theorem main_1_2 : Claimed_1_2 := comes_1 fun _ _ _ _ _ _ h hF => ⟨h.2.1, hF⟩
end Jvm.Pilot.@@N@@
namespace Jvm.Pilot.@@N@@
open Jvm Jvm.ClassFile Sem Op Lib Jvm.Free Jvm.Stand Jvm.Pilot.@@N@@.Jvm.D
/-! MADE BY PROGRAM (witnessworld.py) out of the Statement's table words and the real class files: 12 classes; the members and pool entries that the words name. The judged class is class 1, her method 1. -/
namespace start1
open Jvm.ClassFile
def u (s : String) : CpInfo := .utf8 (stringToUtf16 s)
/-- a pool by its gaps: so many unusable entries, then the entry; so many at the end -/
def gap : Nat → List CpInfo → List CpInfo
  | 0, r => r
  | n + 1, r => .unusable :: gap n r
def poolList (es : List (Nat × CpInfo)) (last : Nat) : List CpInfo := es.foldr (fun e r => gap e.1 (e.2 :: r)) (gap last [])
def pool (es : List (Nat × CpInfo)) (last : Nat) : Array CpInfo := ⟨poolList es last⟩
def fileOf (pool : Array CpInfo) (this : Nat) (attrs : Array Attribute := #[]) (ms : Array MethodInfo := #[]) (fl : Nat := 33) (sup : Nat := 0) (ifs : Array Nat := #[]) (fds : Array FieldInfo := #[]) : ClassFile where
  minorVersion := 0
  majorVersion := 65
  constantPool := pool
  accessFlags := fl
  thisClass := this
  superClass := sup
  interfaces := ifs
  fields := fds
  methods := ms
  attributes := attrs
def plain (name : String) (sup : Option ClassId) : Class where
  name := name
  kind := .ordinary
  loader := none
  accessFlags := 33
  super := sup
  interfaces := #[]
  cf := none
  fields := #[]
  methods := #[]
  instanceTypes := #[]
  staticTypes := #[]
  resolved := #[]
  callSites := []
  init := .initialized
  statics := none
  mirror := none

def pool0 : Array CpInfo := pool [(5, u "<init>"), (0, u "()V"), (1, .class_ 10), (1, u "java/lang/Object")] 113

def k0c0 : Code := { maxStack := 0, maxLocals := 1, code := object_method_1_code, exceptionTable := #[], attributes := #[] }
def k0m0 : Method := { name := "<init>", desc := "()V", sig := { parameters := [], returnType := none }, accessFlags := 1, code := some k0c0 }
/-- java/lang/Object -/
def k0 : Class := { plain "java/lang/Object" none with
  accessFlags := 33
  interfaces := #[]
  cf := some (fileOf pool0 8 #[] #[{ accessFlags := 1, nameIndex := 5, descriptorIndex := 6, attributes := #[] }] 33 0 #[] #[])
  fields := #[]
  methods := #[k0m0]
  instanceTypes := #[]
  staticTypes := #[]
  resolved := Array.replicate 124 none
  statics := none }

def pool1 : Array CpInfo := pool [(2, .class_ 4), (1, u "java/lang/Object"), (0, u "<init>"), (0, u "()V"), (0, .class_ 8), (0, u "com/example/inchworm/inchworm/jsonrpc/JsonText$Value"), (0, .methodref 7 10), (0, .nameAndType 5 11), (0, u "(Lcom/example/inchworm/inchworm/jsonrpc/JsonText$Type;IILjava/util/List;)V"), (0, .class_ 13), (0, u "com/example/inchworm/inchworm/jsonrpc/JsonText$Edit"), (0, .class_ 15), (0, u "com/example/inchworm/inchworm/jsonrpc/JsonText$Span"), (0, .methodref 14 17), (0, .nameAndType 5 18), (0, u "(II)V"), (0, .methodref 12 20), (0, .nameAndType 5 21), (0, u "(Lcom/example/inchworm/inchworm/jsonrpc/JsonText$Span;[B)V"), (0, .methodref 7 23), (0, .nameAndType 24 25), (0, u "within"), (0, u "(Lcom/example/inchworm/inchworm/jsonrpc/JsonText$Edit;)Z"), (0, .class_ 27), (0, u "com/example/inchworm/inchworm/jsonrpc/ValueWithinPinLaw"), (2, u "law"), (0, u "(IIII)Z")] 12

def k1m0 : Method := { name := "<init>", desc := "()V", sig := { parameters := [], returnType := none }, accessFlags := 2, code := none }
def k1c1 : Code := { maxStack := 6, maxLocals := 7, code := code, exceptionTable := #[], attributes := #[] }
def k1m1 : Method := { name := "law", desc := "(IIII)Z", sig := { parameters := [.int, .int, .int, .int], returnType := some .boolean }, accessFlags := 9, code := some k1c1 }
/-- com/example/inchworm/inchworm/jsonrpc/ValueWithinPinLaw -/
def k1 : Class := { plain "com/example/inchworm/inchworm/jsonrpc/ValueWithinPinLaw" (some 0) with
  accessFlags := 49
  interfaces := #[]
  cf := some (fileOf pool1 26 #[] #[{ accessFlags := 2, nameIndex := 5, descriptorIndex := 6, attributes := #[] }, { accessFlags := 9, nameIndex := 30, descriptorIndex := 31, attributes := #[] }] 49 2 #[] #[])
  fields := #[]
  methods := #[k1m0, k1m1]
  instanceTypes := #[]
  staticTypes := #[]
  resolved := Array.replicate 44 none
  statics := none }

def pool2 : Array CpInfo := pool [(1, .methodref 2 3), (0, .class_ 4), (0, .nameAndType 5 6), (0, u "java/lang/Object"), (0, u "<init>"), (0, u "()V"), (0, .class_ 8), (0, u "java/lang/Record")] 13

def k2c0 : Code := { maxStack := 1, maxLocals := 1, code := jdk_30_method_1_code, exceptionTable := #[], attributes := #[] }
def k2m0 : Method := { name := "<init>", desc := "()V", sig := { parameters := [], returnType := none }, accessFlags := 4, code := some k2c0 }
/-- java/lang/Record -/
def k2 : Class := { plain "java/lang/Record" (some 0) with
  accessFlags := 1057
  interfaces := #[]
  cf := some (fileOf pool2 7 #[] #[{ accessFlags := 4, nameIndex := 5, descriptorIndex := 6, attributes := #[] }] 1057 2 #[] #[])
  fields := #[]
  methods := #[k2m0]
  instanceTypes := #[]
  staticTypes := #[]
  resolved := Array.replicate 22 none
  statics := none }

def pool3 : Array CpInfo := pool [(1, .methodref 2 3), (0, .class_ 4), (0, .nameAndType 5 6), (0, u "java/lang/Record"), (0, u "<init>"), (0, u "()V"), (0, .fieldref 8 9), (0, .class_ 10), (0, .nameAndType 11 12), (0, u "com/example/inchworm/inchworm/jsonrpc/JsonText$Value"), (0, u "type"), (0, u "Lcom/example/inchworm/inchworm/jsonrpc/JsonText$Type;"), (0, .fieldref 8 14), (0, .nameAndType 15 16), (0, u "start"), (0, u "I"), (0, .fieldref 8 18), (0, .nameAndType 19 16), (0, u "end"), (0, .fieldref 8 21), (0, .nameAndType 22 23), (0, u "members"), (0, u "Ljava/util/List;"), (2, u "(Lcom/example/inchworm/inchworm/jsonrpc/JsonText$Type;IILjava/util/List;)V"), (0, .class_ 28), (0, u "com/example/inchworm/inchworm/jsonrpc/JsonText$Span"), (23, .class_ 54), (1, u "com/example/inchworm/inchworm/jsonrpc/JsonText"), (5, u "()Lcom/example/inchworm/inchworm/jsonrpc/JsonText$Span;"), (9, .class_ 72), (1, u "com/example/inchworm/inchworm/jsonrpc/JsonText$Edit"), (6, .methodref 27 80), (0, .nameAndType 15 81), (0, u "()I"), (0, .methodref 27 83), (0, .nameAndType 19 81), (21, u "within"), (0, u "(Lcom/example/inchworm/inchworm/jsonrpc/JsonText$Edit;)Z"), (36, .methodref 70 144), (0, .nameAndType 145 60), (0, u "at")] 61

def k3c0 : Code := { maxStack := 2, maxLocals := 5, code := prog_16_method_2_code, exceptionTable := #[], attributes := #[] }
def k3m0 : Method := { name := "<init>", desc := "(Lcom/example/inchworm/inchworm/jsonrpc/JsonText$Type;IILjava/util/List;)V", sig := { parameters := [(.object "com/example/inchworm/inchworm/jsonrpc/JsonText$Type"), .int, .int, (.object "java/util/List")], returnType := none }, accessFlags := 0, code := some k3c0 }
def k3c1 : Code := { maxStack := 2, maxLocals := 2, code := prog_16_method_9_code, exceptionTable := #[], attributes := #[] }
def k3m1 : Method := { name := "within", desc := "(Lcom/example/inchworm/inchworm/jsonrpc/JsonText$Edit;)Z", sig := { parameters := [(.object "com/example/inchworm/inchworm/jsonrpc/JsonText$Edit")], returnType := some .boolean }, accessFlags := 0, code := some k3c1 }
/-- com/example/inchworm/inchworm/jsonrpc/JsonText$Value -/
def k3 : Class := { plain "com/example/inchworm/inchworm/jsonrpc/JsonText$Value" (some 2) with
  accessFlags := 48
  interfaces := #[]
  cf := some (fileOf pool3 8 #[.nestHost 52] #[{ accessFlags := 0, nameIndex := 5, descriptorIndex := 26, attributes := #[] }, { accessFlags := 0, nameIndex := 105, descriptorIndex := 106, attributes := #[] }] 48 2 #[] #[{ accessFlags := 18, nameIndex := 11, descriptorIndex := 12, attributes := #[] }, { accessFlags := 18, nameIndex := 15, descriptorIndex := 16, attributes := #[] }, { accessFlags := 18, nameIndex := 19, descriptorIndex := 16, attributes := #[] }, { accessFlags := 18, nameIndex := 22, descriptorIndex := 23, attributes := #[] }])
  fields := #[{ name := "type", type := (.object "com/example/inchworm/inchworm/jsonrpc/JsonText$Type"), accessFlags := 18, slot := 0, constantValue := 0 }, { name := "start", type := .int, accessFlags := 18, slot := 1, constantValue := 0 }, { name := "end", type := .int, accessFlags := 18, slot := 2, constantValue := 0 }, { name := "members", type := (.object "java/util/List"), accessFlags := 18, slot := 3, constantValue := 0 }]
  methods := #[k3m0, k3m1]
  instanceTypes := #[(.object "com/example/inchworm/inchworm/jsonrpc/JsonText$Type"), .int, .int, (.object "java/util/List")]
  staticTypes := #[]
  resolved := Array.replicate 207 none
  statics := none }

def pool4 : Array CpInfo := pool [(1, .methodref 2 3), (0, .class_ 4), (0, .nameAndType 5 6), (0, u "java/lang/Record"), (0, u "<init>"), (0, u "()V"), (0, .fieldref 8 9), (0, .class_ 10), (0, .nameAndType 11 12), (0, u "com/example/inchworm/inchworm/jsonrpc/JsonText$Edit"), (0, u "at"), (0, u "Lcom/example/inchworm/inchworm/jsonrpc/JsonText$Span;"), (0, .fieldref 8 14), (0, .nameAndType 15 16), (0, u "utf8"), (0, u "[B"), (14, u "(Lcom/example/inchworm/inchworm/jsonrpc/JsonText$Span;[B)V"), (19, u "()Lcom/example/inchworm/inchworm/jsonrpc/JsonText$Span;"), (4, .class_ 57), (0, u "com/example/inchworm/inchworm/jsonrpc/JsonText")] 23

def k4c0 : Code := { maxStack := 2, maxLocals := 3, code := prog_9_method_2_code, exceptionTable := #[], attributes := #[] }
def k4m0 : Method := { name := "<init>", desc := "(Lcom/example/inchworm/inchworm/jsonrpc/JsonText$Span;[B)V", sig := { parameters := [(.object "com/example/inchworm/inchworm/jsonrpc/JsonText$Span"), (.array .byte)], returnType := none }, accessFlags := 0, code := some k4c0 }
def k4c1 : Code := { maxStack := 1, maxLocals := 1, code := prog_9_method_6_code, exceptionTable := #[], attributes := #[] }
def k4m1 : Method := { name := "at", desc := "()Lcom/example/inchworm/inchworm/jsonrpc/JsonText$Span;", sig := { parameters := [], returnType := some (.object "com/example/inchworm/inchworm/jsonrpc/JsonText$Span") }, accessFlags := 1, code := some k4c1 }
/-- com/example/inchworm/inchworm/jsonrpc/JsonText$Edit -/
def k4 : Class := { plain "com/example/inchworm/inchworm/jsonrpc/JsonText$Edit" (some 2) with
  accessFlags := 48
  interfaces := #[]
  cf := some (fileOf pool4 8 #[.nestHost 56] #[{ accessFlags := 0, nameIndex := 5, descriptorIndex := 31, attributes := #[] }, { accessFlags := 1, nameIndex := 11, descriptorIndex := 51, attributes := #[] }] 48 2 #[] #[{ accessFlags := 18, nameIndex := 11, descriptorIndex := 12, attributes := #[] }, { accessFlags := 18, nameIndex := 15, descriptorIndex := 16, attributes := #[] }])
  fields := #[{ name := "at", type := (.object "com/example/inchworm/inchworm/jsonrpc/JsonText$Span"), accessFlags := 18, slot := 0, constantValue := 0 }, { name := "utf8", type := (.array .byte), accessFlags := 18, slot := 1, constantValue := 0 }]
  methods := #[k4m0, k4m1]
  instanceTypes := #[(.object "com/example/inchworm/inchworm/jsonrpc/JsonText$Span"), (.array .byte)]
  staticTypes := #[]
  resolved := Array.replicate 81 none
  statics := none }

def pool5 : Array CpInfo := pool [(1, .methodref 2 3), (0, .class_ 4), (0, .nameAndType 5 6), (0, u "java/lang/Record"), (0, u "<init>"), (0, u "()V"), (0, .fieldref 8 9), (0, .class_ 10), (0, .nameAndType 11 12), (0, u "com/example/inchworm/inchworm/jsonrpc/JsonText$Span"), (0, u "start"), (0, u "I"), (0, .fieldref 8 14), (0, .nameAndType 15 12), (0, u "end"), (2, u "(II)V"), (5, u "()I"), (47, .class_ 73), (0, u "com/example/inchworm/inchworm/jsonrpc/JsonText")] 21

def k5c0 : Code := { maxStack := 2, maxLocals := 3, code := prog_13_method_1_code, exceptionTable := #[], attributes := #[] }
def k5m0 : Method := { name := "<init>", desc := "(II)V", sig := { parameters := [.int, .int], returnType := none }, accessFlags := 0, code := some k5c0 }
def k5c1 : Code := { maxStack := 1, maxLocals := 1, code := prog_13_method_8_code, exceptionTable := #[], attributes := #[] }
def k5m1 : Method := { name := "start", desc := "()I", sig := { parameters := [], returnType := some .int }, accessFlags := 1, code := some k5c1 }
def k5c2 : Code := { maxStack := 1, maxLocals := 1, code := prog_13_method_9_code, exceptionTable := #[], attributes := #[] }
def k5m2 : Method := { name := "end", desc := "()I", sig := { parameters := [], returnType := some .int }, accessFlags := 1, code := some k5c2 }
/-- com/example/inchworm/inchworm/jsonrpc/JsonText$Span -/
def k5 : Class := { plain "com/example/inchworm/inchworm/jsonrpc/JsonText$Span" (some 2) with
  accessFlags := 48
  interfaces := #[]
  cf := some (fileOf pool5 8 #[.nestHost 72] #[{ accessFlags := 0, nameIndex := 5, descriptorIndex := 18, attributes := #[] }, { accessFlags := 1, nameIndex := 11, descriptorIndex := 24, attributes := #[] }, { accessFlags := 1, nameIndex := 15, descriptorIndex := 24, attributes := #[] }] 48 2 #[] #[{ accessFlags := 18, nameIndex := 11, descriptorIndex := 12, attributes := #[] }, { accessFlags := 18, nameIndex := 15, descriptorIndex := 12, attributes := #[] }])
  fields := #[{ name := "start", type := .int, accessFlags := 18, slot := 0, constantValue := 0 }, { name := "end", type := .int, accessFlags := 18, slot := 1, constantValue := 0 }]
  methods := #[k5m0, k5m1, k5m2]
  instanceTypes := #[.int, .int]
  staticTypes := #[]
  resolved := Array.replicate 95 none
  statics := none }

def pool6 : Array CpInfo := pool [(1, u "java/lang/Cloneable"), (0, .class_ 1), (0, u "java/lang/Object"), (0, .class_ 3)] 3

/-- java/lang/Cloneable -/
def k6 : Class := { plain "java/lang/Cloneable" (some 0) with
  accessFlags := 1537
  interfaces := #[]
  cf := some (fileOf pool6 2 #[] #[] 1537 4 #[] #[])
  fields := #[]
  methods := #[]
  instanceTypes := #[]
  staticTypes := #[]
  resolved := Array.replicate 8 none
  statics := none }

def pool7 : Array CpInfo := pool [(1, u "java/io/Serializable"), (0, .class_ 1), (0, u "java/lang/Object"), (0, .class_ 3)] 3

/-- java/io/Serializable -/
def k7 : Class := { plain "java/io/Serializable" (some 0) with
  accessFlags := 1537
  interfaces := #[]
  cf := some (fileOf pool7 2 #[] #[] 1537 4 #[] #[])
  fields := #[]
  methods := #[]
  instanceTypes := #[]
  staticTypes := #[]
  resolved := Array.replicate 8 none
  statics := none }

/-- the primitive byte -/
def k8 : Class := { plain "byte" none with kind := .primitive 'B', accessFlags := 0x411 }
/-- [B -/
def k9 : Class := { plain "[B" (some 0) with kind := .array 8 .byte, interfaces := #[6, 7], accessFlags := 1041 }

/-- the primitive int -/
def k10 : Class := { plain "int" none with kind := .primitive 'I', accessFlags := 0x411 }
/-- [I -/
def k11 : Class := { plain "[I" (some 0) with kind := .array 10 .int, interfaces := #[6, 7], accessFlags := 1041 }

def heap : Heap := #[]
def classes : Array Class := #[k0, k1, k2, k3, k4, k5, k6, k7, k8, k9, k10, k11]
def interned : List (Array UInt16 × Addr) := []
def slotsUsed : Nat := 0
def theMethod : MethodId := ⟨1, 1⟩
def args0 : Array Value := #[.int 1, .int 9, .int 3, .int 5]
def aboutOver (below : List Frame) : State where
  vm := { classes := classes, interned := interned.toArray }
  heap := heap
  slotsUsed := slotsUsed
  threads := #[{ frames := .invoking theMethod args0 :: below }]
def below0 : List Frame := [.native { method := ⟨0, 0⟩, args := #[] }]
def about1 : State := aboutOver below0
def p0 : Program := .bare "" "" ""
def e0 : Env := launch0.env 0 0 0
theorem w_frames : about1.frames = Frame.invoking theMethod args0 :: below0 := rfl
set_option maxRecDepth 65536 in
theorem w_args : argsFit about1.vm theMethod args0 = true := by decide +kernel
set_option maxRecDepth 65536 in
theorem w_heap : heapFits about1 = true := by decide +kernel
set_option maxRecDepth 65536 in
theorem w_runnable : about1.curStatus? = some .runnable := by decide +kernel
set_option maxRecDepth 65536 in
theorem w_alone : about1.alone = true := by decide +kernel
set_option maxRecDepth 65536 in
theorem w_named : about1.methodNamed? x = some theMethod := by decide +kernel
set_option maxRecDepth 65536 in
theorem w_hears : about1.hears theMethod below0 = true := by decide +kernel
set_option maxRecDepth 65536 in
theorem w_ripe : about1.ripe theMethod args0 below0 = true := by decide +kernel
theorem w_running : about1.status = .running := rfl
set_option maxRecDepth 65536 in
theorem w_room : about1.hasRoom e0.platform room_1 = true :=
  launch0.hasRoom_least _ room_1 (by decide +kernel) (by decide +kernel) (by decide +kernel) (by decide +kernel) (by decide +kernel) (by decide +kernel)
theorem allAtoms_all (ts : List Jvm.Cond) (a : Array Jvm.Value) (st : Jvm.State) : (allAtoms ts).before a st = ts.all (fun c => c.before a st) := by
  induction ts with
  | nil => rfl
  | cons c t ih =>
    show (Jvm.Cond.and c (allAtoms t)).before a st = _
    rw [Jvm.Cond.before_and, ih, List.all_cons]
def words1 : List Jvm.Cond := Jvm.Cond.code x code maxLocals ret :: tables_1
/-- a 'code' word, met by the world's own term for the bytes: nothing is compared byte by byte -/
theorem code_word {y : MethodName} {bytes : ByteArray} {mx : Nat} {rt : Option FieldType} {a : Array Value} {s : State} {m : MethodId} {meth : Method} {c : Code} (h1 : s.methodNamed? y = some m) (h2 : s.vm.method? m = some meth) (h3 : meth.code = some c) (h4 : c.code = bytes)
    (h5 : (c.maxLocals == mx && c.exceptionTable.isEmpty && decide (c.maxStack ≤ mostOperands) && decide (meth.sig.returnType = rt) && !meth.locks && decide (parseMethodDescriptor y.desc = some meth.sig)) = true) : (Jvm.Cond.code y bytes mx rt).before a s = true := by
  simp only [Bool.and_eq_true, beq_iff_eq, Bool.not_eq_true', decide_eq_true_eq] at h5
  obtain ⟨⟨⟨⟨⟨g1, g2⟩, g3⟩, g4⟩, g5⟩, g6⟩ := h5
  simp [Cond.before, Cond.holds, Cond.value, h1, h2, h3, h4, g1, g2, g3, g4, g5, g6]
def isCode : Jvm.Cond → Bool
  | .code _ _ _ _ => true
  | _ => false
theorem all_split {L : List Jvm.Cond} {P : Jvm.Cond → Bool} (h1 : L.all (fun c => isCode c || P c) = true) (h2 : ∀ c ∈ L.filter isCode, P c = true) : L.all P = true := by
  refine List.all_eq_true.mpr fun c hc => ?_
  have h := List.all_eq_true.mp h1 c hc
  rcases Bool.eq_false_or_eq_true (isCode c) with hi | hi
  · exact h2 c (List.mem_filter.mpr ⟨hc, hi⟩)
  · simpa [hi] using h
set_option maxRecDepth 65536 in
theorem w_c0 : (Jvm.Cond.code x code maxLocals ret).before args0 about1 = true := code_word (m := ⟨1, 1⟩) (meth := k1m1) (c := k1c1) (by decide +kernel) rfl rfl rfl (by decide +kernel)
set_option maxRecDepth 65536 in
theorem w_c1 : (Jvm.Cond.code ({ cls := "com/example/inchworm/inchworm/jsonrpc/JsonText$Value", name := "<init>", desc := "(Lcom/example/inchworm/inchworm/jsonrpc/JsonText$Type;IILjava/util/List;)V" } : Jvm.MethodName) prog_16_method_2_code (5 : Nat) (Option.none : Option Jvm.ClassFile.FieldType)).before args0 about1 = true := code_word (m := ⟨3, 0⟩) (meth := k3m0) (c := k3c0) (by decide +kernel) rfl rfl rfl (by decide +kernel)
set_option maxRecDepth 65536 in
theorem w_c2 : (Jvm.Cond.code ({ cls := "java/lang/Record", name := "<init>", desc := "()V" } : Jvm.MethodName) jdk_30_method_1_code (1 : Nat) (Option.none : Option Jvm.ClassFile.FieldType)).before args0 about1 = true := code_word (m := ⟨2, 0⟩) (meth := k2m0) (c := k2c0) (by decide +kernel) rfl rfl rfl (by decide +kernel)
set_option maxRecDepth 65536 in
theorem w_c3 : (Jvm.Cond.code ({ cls := "java/lang/Object", name := "<init>", desc := "()V" } : Jvm.MethodName) object_method_1_code (1 : Nat) (Option.none : Option Jvm.ClassFile.FieldType)).before args0 about1 = true := code_word (m := ⟨0, 0⟩) (meth := k0m0) (c := k0c0) (by decide +kernel) rfl rfl rfl (by decide +kernel)
set_option maxRecDepth 65536 in
theorem w_c4 : (Jvm.Cond.code ({ cls := "com/example/inchworm/inchworm/jsonrpc/JsonText$Span", name := "<init>", desc := "(II)V" } : Jvm.MethodName) prog_13_method_1_code (3 : Nat) (Option.none : Option Jvm.ClassFile.FieldType)).before args0 about1 = true := code_word (m := ⟨5, 0⟩) (meth := k5m0) (c := k5c0) (by decide +kernel) rfl rfl rfl (by decide +kernel)
set_option maxRecDepth 65536 in
theorem w_c5 : (Jvm.Cond.code ({ cls := "com/example/inchworm/inchworm/jsonrpc/JsonText$Edit", name := "<init>", desc := "(Lcom/example/inchworm/inchworm/jsonrpc/JsonText$Span;[B)V" } : Jvm.MethodName) prog_9_method_2_code (3 : Nat) (Option.none : Option Jvm.ClassFile.FieldType)).before args0 about1 = true := code_word (m := ⟨4, 0⟩) (meth := k4m0) (c := k4c0) (by decide +kernel) rfl rfl rfl (by decide +kernel)
set_option maxRecDepth 65536 in
theorem w_c6 : (Jvm.Cond.code ({ cls := "com/example/inchworm/inchworm/jsonrpc/JsonText$Value", name := "within", desc := "(Lcom/example/inchworm/inchworm/jsonrpc/JsonText$Edit;)Z" } : Jvm.MethodName) prog_16_method_9_code (2 : Nat) (Option.some Jvm.ClassFile.FieldType.boolean)).before args0 about1 = true := code_word (m := ⟨3, 1⟩) (meth := k3m1) (c := k3c1) (by decide +kernel) rfl rfl rfl (by decide +kernel)
set_option maxRecDepth 65536 in
theorem w_c7 : (Jvm.Cond.code ({ cls := "com/example/inchworm/inchworm/jsonrpc/JsonText$Edit", name := "at", desc := "()Lcom/example/inchworm/inchworm/jsonrpc/JsonText$Span;" } : Jvm.MethodName) prog_9_method_6_code (1 : Nat) (Option.some (Jvm.ClassFile.FieldType.object "com/example/inchworm/inchworm/jsonrpc/JsonText$Span"))).before args0 about1 = true := code_word (m := ⟨4, 1⟩) (meth := k4m1) (c := k4c1) (by decide +kernel) rfl rfl rfl (by decide +kernel)
set_option maxRecDepth 65536 in
theorem w_c8 : (Jvm.Cond.code ({ cls := "com/example/inchworm/inchworm/jsonrpc/JsonText$Span", name := "start", desc := "()I" } : Jvm.MethodName) prog_13_method_8_code (1 : Nat) (Option.some Jvm.ClassFile.FieldType.int)).before args0 about1 = true := code_word (m := ⟨5, 1⟩) (meth := k5m1) (c := k5c1) (by decide +kernel) rfl rfl rfl (by decide +kernel)
set_option maxRecDepth 65536 in
theorem w_c9 : (Jvm.Cond.code ({ cls := "com/example/inchworm/inchworm/jsonrpc/JsonText$Span", name := "end", desc := "()I" } : Jvm.MethodName) prog_13_method_9_code (1 : Nat) (Option.some Jvm.ClassFile.FieldType.int)).before args0 about1 = true := code_word (m := ⟨5, 2⟩) (meth := k5m2) (c := k5c2) (by decide +kernel) rfl rfl rfl (by decide +kernel)
def codes1 : List Jvm.Cond := [Jvm.Cond.code x code maxLocals ret, Jvm.Cond.code ({ cls := "com/example/inchworm/inchworm/jsonrpc/JsonText$Value", name := "<init>", desc := "(Lcom/example/inchworm/inchworm/jsonrpc/JsonText$Type;IILjava/util/List;)V" } : Jvm.MethodName) prog_16_method_2_code (5 : Nat) (Option.none : Option Jvm.ClassFile.FieldType), Jvm.Cond.code ({ cls := "java/lang/Record", name := "<init>", desc := "()V" } : Jvm.MethodName) jdk_30_method_1_code (1 : Nat) (Option.none : Option Jvm.ClassFile.FieldType), Jvm.Cond.code ({ cls := "java/lang/Object", name := "<init>", desc := "()V" } : Jvm.MethodName) object_method_1_code (1 : Nat) (Option.none : Option Jvm.ClassFile.FieldType), Jvm.Cond.code ({ cls := "com/example/inchworm/inchworm/jsonrpc/JsonText$Span", name := "<init>", desc := "(II)V" } : Jvm.MethodName) prog_13_method_1_code (3 : Nat) (Option.none : Option Jvm.ClassFile.FieldType), Jvm.Cond.code ({ cls := "com/example/inchworm/inchworm/jsonrpc/JsonText$Edit", name := "<init>", desc := "(Lcom/example/inchworm/inchworm/jsonrpc/JsonText$Span;[B)V" } : Jvm.MethodName) prog_9_method_2_code (3 : Nat) (Option.none : Option Jvm.ClassFile.FieldType), Jvm.Cond.code ({ cls := "com/example/inchworm/inchworm/jsonrpc/JsonText$Value", name := "within", desc := "(Lcom/example/inchworm/inchworm/jsonrpc/JsonText$Edit;)Z" } : Jvm.MethodName) prog_16_method_9_code (2 : Nat) (Option.some Jvm.ClassFile.FieldType.boolean), Jvm.Cond.code ({ cls := "com/example/inchworm/inchworm/jsonrpc/JsonText$Edit", name := "at", desc := "()Lcom/example/inchworm/inchworm/jsonrpc/JsonText$Span;" } : Jvm.MethodName) prog_9_method_6_code (1 : Nat) (Option.some (Jvm.ClassFile.FieldType.object "com/example/inchworm/inchworm/jsonrpc/JsonText$Span")), Jvm.Cond.code ({ cls := "com/example/inchworm/inchworm/jsonrpc/JsonText$Span", name := "start", desc := "()I" } : Jvm.MethodName) prog_13_method_8_code (1 : Nat) (Option.some Jvm.ClassFile.FieldType.int), Jvm.Cond.code ({ cls := "com/example/inchworm/inchworm/jsonrpc/JsonText$Span", name := "end", desc := "()I" } : Jvm.MethodName) prog_13_method_9_code (1 : Nat) (Option.some Jvm.ClassFile.FieldType.int)]
set_option maxRecDepth 65536 in
theorem codes_eq : words1.filter isCode = codes1 := rfl
theorem w_codes : ∀ c ∈ words1.filter isCode, c.before args0 about1 = true := by
  rw [codes_eq]
  intro c hc
  simp only [codes1, List.mem_cons, List.not_mem_nil, or_false] at hc
  rcases hc with rfl | rfl | rfl | rfl | rfl | rfl | rfl | rfl | rfl | rfl
  · exact w_c0
  · exact w_c1
  · exact w_c2
  · exact w_c3
  · exact w_c4
  · exact w_c5
  · exact w_c6
  · exact w_c7
  · exact w_c8
  · exact w_c9
set_option maxRecDepth 65536 in
theorem w_t1 : (words1.take 24).all (fun c => isCode c || c.before args0 about1) = true := by decide +kernel
set_option maxRecDepth 65536 in
theorem w_t2 : ((words1.drop 24).take 24).all (fun c => isCode c || c.before args0 about1) = true := by decide +kernel
set_option maxRecDepth 65536 in
theorem w_t3 : ((words1.drop 24).drop 24).all (fun c => isCode c || c.before args0 about1) = true := by decide +kernel
theorem w_tables : (allAtoms (Jvm.Cond.code x code maxLocals ret :: tables_1)).before args0 about1 = true := by
  rw [allAtoms_all]
  show words1.all (fun c => c.before args0 about1) = true
  refine all_split ?_ w_codes
  rw [← List.take_append_drop 24 words1, List.all_append, w_t1, ← List.take_append_drop 24 (words1.drop 24), List.all_append, w_t2, w_t3]
  rfl
set_option maxRecDepth 65536 in
theorem w_case : (Jvm.Cond.and given_1 narrow_1).before args0 about1 = true := by decide +kernel
theorem w_applies : (headSpec (Jvm.Cond.code x code maxLocals ret :: tables_1) room_1).applies x e0.platform about1 = true :=
  (Spec.applies_iff w_frames).mpr ⟨w_running, w_runnable, w_alone, w_named, w_hears, w_ripe, w_room, w_tables⟩
theorem atStart : AtStart classFile x code maxLocals ret World_1 tables_1 room_1 Calls_1 rest_1 Pre_1 launch0 p0 e0 about1 theMethod args0 below0 :=
  ⟨lists_1, trivial, launch0.admits_env _ _ _, launch0.least_env, fairChoices_fair.cas, fairChoices_fair.clock, w_frames, w_args, w_heap, w_applies, trivial, trivial, w_case⟩
end start1
theorem witness_1 : WitnessClaimed_1 := ⟨start1.p0, start1.e0, start1.about1, start1.theMethod, start1.args0, start1.below0, start1.atStart⟩
end Jvm.Pilot.@@N@@
