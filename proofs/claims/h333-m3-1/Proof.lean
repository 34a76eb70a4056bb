import JvmDerived
import JvmDerived.Pilot.@@N@@Statement
import JvmDerived.Pilot.@@N@@Code
set_option linter.unusedVariables false
set_option linter.unusedSimpArgs false
namespace Jvm.Pilot.@@N@@
open Jvm Jvm.ClassFile Sem Op Lib Jvm.Free Jvm.Stand Jvm.LawKit Jvm.RoadKit Bundle Jvm.Pilot.@@N@@.Jvm.D
section OwnKit
variable {p : Program} {l : Launch} {e : Env} {R : Room} {s : State} {m : MethodId} {args : Array Value} {below : List Frame} {meth : Method} {c : Code} {T : State} {locs : List Loc} {cells slots ck sk : Nat} {S S' t : State} {Q : Option Value → Heap → List Loc → Prop}
/-- from S the run comes to a return of which Q is said -/
def Go (p : Program) (e : Env) (below : List Frame) (s : State) (Q : Option Value → Heap → List Loc → Prop) (ck sk : Nat) (S : State) : Prop :=
  ∃ s₂ o, Steps p.tables e below S s₂ ∧ s₂.status = .running ∧ Ended s₂ below o ∧ ∃ v L, o = .returned v ∧ Q v s₂.heap L ∧ FrameEnd s o s₂ L ck sk
theorem Go.st (h : ∀ t, Steps p.tables e below S' t → Steps p.tables e below S t) (k : Go p e below s Q ck sk S') : Go p e below s Q ck sk S := by
  obtain ⟨s₂, o, h1, r⟩ := k
  exact ⟨s₂, o, h _ h1, r⟩
theorem Go.tr (h : Steps p.tables e below S S') (k : Go p e below s Q ck sk S') : Go p e below s Q ck sk S := Go.st (fun _ q => h.trans q) k
theorem via (h : Steps p.tables e below S' t → Steps p.tables e below S t) (k : Steps p.tables e below S' t) : Steps p.tables e below S t := h k
theorem Go.retW (X : Stand p l e R s m args below meth c T locs cells slots) (hx : p.tables.exec = Jvm.exec) (hlk : meth.locks = false) {pc : Nat} {Ls : Array Slot} {w : Value} {ty : FieldType} {i : Instr} {rest : List Value} (hret : meth.sig.returnType = some ty) (hn : narrow ty w = w)
    (hi : (i = .ireturn ∧ (ty = .int ∨ ty = .boolean ∨ ty = .byte ∨ ty = .char ∨ ty = .short) ∧ ∃ z, w = .int z) ∨ (i = .lreturn ∧ ty = .long ∧ ∃ z, w = .long z) ∨ (i = .dreturn ∧ ty = .double ∧ ∃ z, w = .double z) ∨ (i = .freturn ∧ ty = .float ∧ ∃ z, w = .float z) ∨ (i = .areturn ∧ ty.isReference = true ∧ w.isRef = true))
    (hd : decode c.code pc = .ok (i, 1)) (hQ : Q (some w) T.heap locs) (hc : cells ≤ ck) (hs : slots ≤ sk) : Go p e below s Q ck sk (T.setTop (mkF m pc Ls (w :: rest))) := by
  obtain ⟨fs, hr, hrun, hended, hW, hsame⟩ := X.leave (v := some w) (fun h => by rw [hret] at h; cases h)
  exact ⟨_, _, retOut X hx hret hn hi hd hr, hrun, hended, _, _, rfl, hQ, ⟨_, rfl⟩, hW, hsame.mono hc hs⟩
theorem Go.retI (X : Stand p l e R s m args below meth c T locs cells slots) (hx : p.tables.exec = Jvm.exec) (hlk : meth.locks = false) {pc : Nat} {Ls : Array Slot} {z : Int32} {rest : List Value} (hret : meth.sig.returnType = some .int) (hd : decode c.code pc = .ok (.ireturn, 1)) (hQ : Q (some (.int z)) T.heap locs) (hc : cells ≤ ck) (hs : slots ≤ sk) : Go p e below s Q ck sk (T.setTop (mkF m pc Ls (.int z :: rest))) :=
  Go.retW X hx hlk hret rfl (Or.inl ⟨rfl, Or.inl rfl, _, rfl⟩) hd hQ hc hs
theorem Go.retJ (X : Stand p l e R s m args below meth c T locs cells slots) (hx : p.tables.exec = Jvm.exec) (hlk : meth.locks = false) {pc : Nat} {Ls : Array Slot} {z : Int64} {rest : List Value} (hret : meth.sig.returnType = some .long) (hd : decode c.code pc = .ok (.lreturn, 1)) (hQ : Q (some (.long z)) T.heap locs) (hc : cells ≤ ck) (hs : slots ≤ sk) : Go p e below s Q ck sk (T.setTop (mkF m pc Ls (.long z :: rest))) :=
  Go.retW X hx hlk hret rfl (Or.inr (Or.inl ⟨rfl, rfl, _, rfl⟩)) hd hQ hc hs
theorem Go.retA (X : Stand p l e R s m args below meth c T locs cells slots) (hx : p.tables.exec = Jvm.exec) (hlk : meth.locks = false) {pc : Nat} {Ls : Array Slot} {w : Value} {ty : FieldType} {rest : List Value} (hret : meth.sig.returnType = some ty) (ht : ty.isReference = true) (hw : w.isRef = true) (hd : decode c.code pc = .ok (.areturn, 1)) (hQ : Q (some w) T.heap locs) (hc : cells ≤ ck) (hs : slots ≤ sk) : Go p e below s Q ck sk (T.setTop (mkF m pc Ls (w :: rest))) :=
  Go.retW X hx hlk hret (by cases ty <;> first | (cases ht; done) | (cases w <;> first | rfl | cases hw)) (Or.inr (Or.inr (Or.inr (Or.inr ⟨rfl, ht, hw⟩)))) hd hQ hc hs
theorem Go.retN (X : Stand p l e R s m args below meth c T locs cells slots) (hx : p.tables.exec = Jvm.exec) (hlk : meth.locks = false) {pc : Nat} {Ls : Array Slot} {z : Int32} {t : FieldType} {rest : List Value} (hret : meth.sig.returnType = some t) (ht : t = .boolean ∨ t = .byte ∨ t = .char ∨ t = .short) (hd : decode c.code pc = .ok (.ireturn, 1)) (hQ : Q (some (.int (nar t z))) T.heap locs) (hc : cells ≤ ck) (hs : slots ≤ sk) : Go p e below s Q ck sk (T.setTop (mkF m pc Ls (.int z :: rest))) := by
  obtain ⟨fs, hr, hrun, hended, hW, hsame⟩ := X.leave (v := some (.int (nar t z))) (fun h => by rw [hret] at h; cases h)
  exact ⟨_, _, Jvm.RoadKit.retN X hx hret ht hd hr, hrun, hended, _, _, rfl, hQ, ⟨_, rfl⟩, hW, hsame.mono hc hs⟩
theorem Go.ret0 (X : Stand p l e R s m args below meth c T locs cells slots) (hx : p.tables.exec = Jvm.exec) (hlk : meth.locks = false) {pc : Nat} {Ls : Array Slot} (hret : meth.sig.returnType = none) (hd : decode c.code pc = .ok (.return_, 1)) (hQ : Q none T.heap locs) (hc : cells ≤ ck) (hs : slots ≤ sk) : Go p e below s Q ck sk (T.setTop (mkF m pc Ls [])) := by
  obtain ⟨fs, hr, hrun, hended, hW, hsame⟩ := X.leave (v := none) (fun _ => rfl)
  exact ⟨_, _, X.returnOut hx hret hd hr, hrun, hended, _, _, rfl, hQ, ⟨_, rfl⟩, hW, hsame.mono hc hs⟩
/-- what a body leaves that writes nothing -/
def PQ (w : Value) (n0 : Nat) (h0 : Heap) (v : Option Value) (h : Heap) (L : List Loc) : Prop := v = some w ∧ Fr n0 L ∧ h = h0
/-- what the law leaves -/
def LQ (n0 : Nat) (v : Option Value) (h : Heap) (L : List Loc) : Prop := v = some (.int 1) ∧ Fr n0 L
/-- the j-th of a list of ints -/
def bt (bs : List Int32) (j : Int32) : Int32 := bs.getD j.toNatClampNeg 0
theorem own_at {bs : List Int32} {c : Cell} {j : Int32} (H : Has c (bs.map .int) (.int 0)) (hin : ¬ (j < 0 ∨ c.slots.size ≤ j.toNatClampNeg)) : c.slots[j.toNatClampNeg]? = some (.int (bt bs j)) :=
  Has.at H hin (by unfold bt; simp only [List.getD, List.getElem?_map]; cases bs[j.toNatClampNeg]? <;> rfl)
theorem own_len {t : Term} {a : Addr} {cl : Cell} {n : Int32} (ev : t.eval args s none [] s = some (.ref a)) (ha : s.arrayAt? a = some cl) (h : (Cond.eq (.length t) (.int n)).value args s none s [] = some true) : cl.slots.size < 2 ^ 31 ∧ cl.slots.size.toInt32 = n := by
  by_cases q : cl.slots.size < 2 ^ 31
  · exact ⟨q, gotT (Cond.eq_ints (len_f ev ha q) (Term.int_eval n)) h⟩
  · exfalso
    simp [Cond.value, Term.eval, ev, ha, q] at h
theorem own_size {cl : Cell} {n : Int32} {k : Nat} (q : cl.slots.size < 2 ^ 31 ∧ cl.slots.size.toInt32 = n) (hk : n.toInt = k) : cl.slots.size = k := by
  have h := len_toInt q.1
  rw [q.2, hk] at h
  omega
end OwnKit

theorem pd_0 : parseMethodDescriptor "(JJ)V" = some ⟨[.long, .long], none⟩ := by decide +kernel
theorem pd_1 : parseMethodDescriptor "()V" = some ⟨[], none⟩ := by decide +kernel
theorem pd_2 : parseMethodDescriptor "(J)Ljava/lang/Long;" = some ⟨[.long], some (.object "java/lang/Long")⟩ := by decide +kernel
theorem pd_3 : parseMethodDescriptor "(Ljava/lang/Object;)Z" = some ⟨[(.object "java/lang/Object")], some .boolean⟩ := by decide +kernel
theorem pd_4 : parseMethodDescriptor "(J)V" = some ⟨[.long], none⟩ := by decide +kernel
theorem own_root {Z : State} {a0 : Array Value} {O K : String} {n : Nat} (w : (Cond.noSuperclass O).before a0 Z = true) (wk : (Cond.instantiable K n).before a0 Z = true) (hn : O ≠ K) : NS Z O K := by
  obtain ⟨c, k, h1, h2, h3, -, -⟩ := Cond.noSuperclass_spec w
  obtain ⟨t, kt, g1, -⟩ := Cond.instantiable_spec wk
  have ne := ids_ne h1 g1 hn
  refine ⟨c, t, h1, g1, fun fuel => ?_⟩
  cases fuel with
  | zero => rfl
  | succ f => simp [Vm.isSubclassAux, ne, h2, h3]
theorem own_no {Z : State} {a0 : Array Value} {C S K : String} {n' : Nat} (w : (Cond.superclass C S).before a0 Z = true) (wk : (Cond.instantiable K n').before a0 Z = true) (n : NS Z C K) (hn : C ≠ K) : ∃ c t, Z.vm.findClass C = some c ∧ Z.vm.findClass K = some t ∧ Z.vm.assignable c t = false := by
  obtain ⟨c, t, h0, g0, n3⟩ := n
  obtain ⟨p, k, kp, h1, h2, h3, h4, h5, -, h7⟩ := Cond.superclass_spec h0 w
  obtain ⟨t', kt, g1, g2, g3, g4, -⟩ := Cond.instantiable_spec wk
  cases g0.symm.trans g1
  have ne := ids_ne h0 g0 hn
  have g5 : kt.isInterface = false := (Bool.or_eq_false_iff.mp g4).1
  refine ⟨c, t, h0, g0, ?_⟩
  show Z.vm.assignableAux (255 + 1) c t = false
  simp [Vm.assignableAux, ne, h2, g2, h5, g3, g5, Vm.isSubclass, n3]
theorem own_notlong {Z : State} {a0 : Array Value} (hw : ∀ d ∈ tables_1, d.before a0 Z = true) : ∃ c t, Z.vm.findClass "java/lang/Long" = some c ∧ Z.vm.findClass "com/example/offset_lookup/offsetlookup/model/OffsetAndTimestamp" = some t ∧ Z.vm.assignable c t = false :=
  own_no (hw _ (List.mem_of_getElem? (i := 28) rfl)) (hw _ (List.mem_of_getElem? (i := 1) rfl)) (NS.step (hw _ (List.mem_of_getElem? (i := 28) rfl)) (NS.step (hw _ (List.mem_of_getElem? (i := 29) rfl)) (own_root (hw _ (List.mem_of_getElem? (i := 30) rfl)) (hw _ (List.mem_of_getElem? (i := 1) rfl)) (by decide)) (by decide)) (by decide)) (by decide)
def Q_rmNum (h0 : Heap) (n0 : Nat) (v : Option Value) (h : Heap) (L : List Loc) : Prop := v = none ∧ Fr n0 L ∧ h = h0
theorem d6_0 : decode jdk_18_method_1_code 0 = .ok (.aload_n 0, 1) := by decide +kernel
theorem d6_1 : decode jdk_18_method_1_code 1 = .ok (.invokespecial 1, 3) := by decide +kernel
theorem d6_4 : decode jdk_18_method_1_code 4 = .ok (.return_, 1) := by decide +kernel
theorem pn_0 : plainName "java/lang/Number" = true := by first | (simp [plainName, overriddenIn]; done) | decide +kernel
theorem ef_6 (m : MethodId) (a0 : Addr) : entryFrame m #[(.ref a0)] 1 = mkF m 0 #[.val (.ref a0)] [] := by first | (simp [entryFrame, mkF, argsToLocals, Value.category]; done) | rfl
set_option maxRecDepth 65536 in
set_option maxHeartbeats 40000000 in
theorem rmNum (l : Launch) (Z : State) (az : Array Value) (hw : ∀ d ∈ tables_1, d.before az Z = true) (ws : List Jvm.Cond) (a0 : Addr)  (h0 : Heap) (n0 : Nat) (Z0 : n0 ≤ h0.size)  :
    MetFree l (⟨"java/lang/Number", "<init>", "()V"⟩ : MethodName) (head1 (Jvm.Cond.code (⟨"java/lang/Number", "<init>", "()V"⟩ : MethodName) jdk_18_method_1_code 1 none :: ws) ({ frames := 1, cells := 0, slots := 0, locals := 12 } : Room)) (fun a U => a = #[(.ref a0)] ∧ Z.Warmed39 U.vm ∧ U.heap = h0) (fun _ _ _ _ _ => True) (fun _ U o U' => ∃ v L, o = .returned v ∧ (Q_rmNum h0 n0) v U'.heap L ∧ FrameEnd U o U' L ({ frames := 1, cells := 0, slots := 0, locals := 12 } : Room).cells ({ frames := 1, cells := 0, slots := 0, locals := 12 } : Room).slots) := by
  refine MetFree.of_bodySF (plainFor_of_name pn_0) hisR ?_
  intro p e s m args below meth c s₁ Bd hml0 hP hK
  obtain ⟨rfl, hZ, hh⟩ := hP
  have hx := Bd.exec
  have hby := Bd.bytes
  have hlk : meth.locks = false := Bd.notSynchronized
  have hml : c.maxLocals = 1 := hml0
  have hown : s.vm.findClass "java/lang/Number" = some m.cls := findClass_of_methodNamed Bd.named
  have hnm := (name_of_methodNamed Bd.named Bd.method).1
  have X0 : Stand p l e ({ frames := 1, cells := 0, slots := 0, locals := 12 } : Room) s m #[(.ref a0)] below meth c s₁ [] 0 0 := Stand.of_body Bd
  have e0 : s₁.heap = h0 := by rw [← hh, Bd.state]; rfl
  have N0 := Fr.nil n0
  show Go p e below s ((Q_rmNum h0 n0)) ({ frames := 1, cells := 0, slots := 0, locals := 12 } : Room).cells ({ frames := 1, cells := 0, slots := 0, locals := 12 } : Room).slots (s₁.setTop (entryFrame m #[(.ref a0)] 1))
  rw [ef_6 m a0]
  refine Go.st (S' := s₁.setTop (mkF m 1 #[.val (.ref a0)] [(.ref a0)])) (fun _ kk => XS.aloadN X0.here hx rfl (hb hby d6_0) rfl rfl kk) ?_
  obtain ⟨T1, X1, e1, st1⟩ := initO X0 hx hZ hown (hw _ (List.mem_of_getElem? (i := 43) rfl)) (hw _ (List.mem_of_getElem? (i := 7) rfl)) (hw _ (List.mem_of_getElem? (i := 8) rfl)) e0 (g := (mkF m 1 #[.val (.ref a0)] [(.ref a0)])) rfl (by rw [hml]; rfl) rfl (hb hby d6_1) (by decide) (W := 0) (by show 2 * 0 + _ ≤ _; exact Nat.le_of_eq rfl) (by decide)
  refine Go.st (S' := T1.setTop (mkF m 4 #[.val (.ref a0)] [])) st1 ?_
  exact Go.ret0 X1 hx hlk Bd.returns (hb hby d6_4) (⟨rfl, N0, e1⟩) (by decide) (by decide)
def Q_rmLong (Z : State) (a0 : Addr) (q1 : Int64) (h0 : Heap) (n0 : Nat) (v : Option Value) (h : Heap) (L : List Loc) : Prop := v = none ∧ Fr n0 L ∧ Keep h0 h [a0] ∧ Exa Z h a0 "java/lang/Long" ∧ Fld Z h a0 "java/lang/Long" "value" "J" (.long q1)
theorem d5_0 : decode jdk_35_method_26_code 0 = .ok (.aload_n 0, 1) := by decide +kernel
theorem d5_1 : decode jdk_35_method_26_code 1 = .ok (.invokespecial 270, 3) := by decide +kernel
theorem d5_4 : decode jdk_35_method_26_code 4 = .ok (.aload_n 0, 1) := by decide +kernel
theorem d5_5 : decode jdk_35_method_26_code 5 = .ok (.lload_n 1, 1) := by decide +kernel
theorem d5_6 : decode jdk_35_method_26_code 6 = .ok (.putfield 273, 3) := by decide +kernel
theorem d5_9 : decode jdk_35_method_26_code 9 = .ok (.return_, 1) := by decide +kernel
theorem pn_1 : plainName "java/lang/Long" = true := by first | (simp [plainName, overriddenIn]; done) | decide +kernel
theorem ef_5 (m : MethodId) (a0 : Addr) (q1 : Int64) : entryFrame m #[(.ref a0), (.long q1)] 3 = mkF m 0 #[.val (.ref a0), .val (.long q1), .second] [] := by first | (simp [entryFrame, mkF, argsToLocals, Value.category]; done) | rfl
set_option maxRecDepth 65536 in
set_option maxHeartbeats 40000000 in
theorem rmLong (l : Launch) (Z : State) (az : Array Value) (hw : ∀ d ∈ tables_1, d.before az Z = true) (ws : List Jvm.Cond) (a0 : Addr) (q1 : Int64)  (h0 : Heap) (n0 : Nat) (Z0 : n0 ≤ h0.size) (E_a0 : Exa Z h0 a0 "java/lang/Long") (g_a0 : n0 ≤ a0) (F_value : Fld Z h0 a0 "java/lang/Long" "value" "J" (.long (0 : Int64))) :
    MetFree l (⟨"java/lang/Long", "<init>", "(J)V"⟩ : MethodName) (head1 (Jvm.Cond.code (⟨"java/lang/Long", "<init>", "(J)V"⟩ : MethodName) jdk_35_method_26_code 3 none :: ws) ({ frames := 2, cells := 0, slots := 0, locals := 24 } : Room)) (fun a U => a = #[(.ref a0), (.long q1)] ∧ Z.Warmed39 U.vm ∧ U.heap = h0) (fun _ _ _ _ _ => True) (fun _ U o U' => ∃ v L, o = .returned v ∧ (Q_rmLong Z a0 q1 h0 n0) v U'.heap L ∧ FrameEnd U o U' L ({ frames := 2, cells := 0, slots := 0, locals := 24 } : Room).cells ({ frames := 2, cells := 0, slots := 0, locals := 24 } : Room).slots) := by
  refine MetFree.of_bodySF (plainFor_of_name pn_1) hisR ?_
  intro p e s m args below meth c s₁ Bd hml0 hP hK
  obtain ⟨rfl, hZ, hh⟩ := hP
  have hx := Bd.exec
  have hby := Bd.bytes
  have hlk : meth.locks = false := Bd.notSynchronized
  have hml : c.maxLocals = 3 := hml0
  have hown : s.vm.findClass "java/lang/Long" = some m.cls := findClass_of_methodNamed Bd.named
  have hnm := (name_of_methodNamed Bd.named Bd.method).1
  have X0 : Stand p l e ({ frames := 2, cells := 0, slots := 0, locals := 24 } : Room) s m #[(.ref a0), (.long q1)] below meth c s₁ [] 0 0 := Stand.of_body Bd
  have e0 : s₁.heap = h0 := by rw [← hh, Bd.state]; rfl
  have N0 := Fr.nil n0
  show Go p e below s ((Q_rmLong Z a0 q1 h0 n0)) ({ frames := 2, cells := 0, slots := 0, locals := 24 } : Room).cells ({ frames := 2, cells := 0, slots := 0, locals := 24 } : Room).slots (s₁.setTop (entryFrame m #[(.ref a0), (.long q1)] 3))
  rw [ef_5 m a0 q1]
  refine Go.st (S' := s₁.setTop (mkF m 1 #[.val (.ref a0), .val (.long q1), .second] [(.ref a0)])) (fun _ kk => XS.aloadN X0.here hx rfl (hb hby d5_0) rfl rfl kk) ?_
  obtain ⟨_, _, ⟨T1, L1, k1, n1⟩, -, X1, ⟨Lc1, hQ1, l1, y1, z1⟩, st1⟩ := X0.specialBack hx (y := (⟨"java/lang/Number", "<init>", "()V"⟩ : MethodName)) rfl hown (mvT hZ (hw _ (List.mem_of_getElem? (i := 37) rfl))) (mvT hZ (hw _ (List.mem_of_getElem? (i := 38) rfl))) (mvT hZ (hw _ (List.mem_of_getElem? (i := 42) rfl))) (by decide) (backOf (W := 0) (rmNum l Z az hw [] a0 h0 n0 Z0) hZ (hw _ (List.mem_of_getElem? (i := 42) rfl)) (hw _ (List.mem_of_getElem? (i := 41) rfl)) (by decide) (by decide)) (g := (mkF m 1 #[.val (.ref a0), .val (.long q1), .second] [(.ref a0)])) rfl (by rw [hml]; rfl) (Steps.refl _) (a := a0) (argsL := []) (rest := []) (lenOf pd_1 rfl) rfl (by show 2 * 0 + _ ≤ _; exact Nat.le_of_eq rfl) (hb hby d5_1) (fun _ _ => ⟨rfl, e0, (by decide : 0 + 0 ≤ _), (by decide : 0 + 0 ≤ _)⟩)
  dsimp only [Pt.U, Pt.locs, Pt.cells, Pt.slots] at X1 l1 y1 z1 st1 hQ1
  subst l1 y1 z1
  obtain ⟨rfl, N1q, e1⟩ := hQ1
  have N1 := Fr.app N0 N1q
  refine Go.tr (S' := T1.setTop (mkF m 4 #[.val (.ref a0), .val (.long q1), .second] [])) st1 ?_
  refine Go.st (S' := T1.setTop (mkF m 5 #[.val (.ref a0), .val (.long q1), .second] [(.ref a0)])) (fun _ kk => XS.aloadN X1.here hx rfl (hb hby d5_4) rfl rfl kk) ?_
  refine Go.st (S' := T1.setTop (mkF m 6 #[.val (.ref a0), .val (.long q1), .second] [(.long q1), (.ref a0)])) (fun _ kk => XS.lloadN X1.here hx rfl (hb hby d5_5) rfl kk) ?_
  obtain ⟨T2, h2, X2, e2, W2, st2⟩ := putF X1 hx hZ hown (host := "") (Or.inl (hw _ (List.mem_of_getElem? (i := 44) rfl))) Via.refl e1 F_value E_a0 (Or.inr ⟨(hw _ (List.mem_of_getElem? (i := 45) rfl)), rfl, hnm⟩) (hw _ (List.mem_of_getElem? (i := 32) rfl)) (ty := .long) (by decide) rfl rfl (g := (mkF m 6 #[.val (.ref a0), .val (.long q1), .second] [(.long q1), (.ref a0)])) rfl rfl (hb hby d5_6)
  have N2 := Fr.snoc X2 N1 g_a0
  have F_value := F_value.same W2
  have E_a0 := E_a0.wr W2
  have Zs3 := Nat.le_trans Z0 (Keep.of_wr W2).1
  have Kp4 := (Keep.refl h0 [a0]).wr W2 (Or.inl (List.mem_of_getElem? (i := 0) rfl))
  refine Go.st (S' := T2.setTop (mkF m 9 #[.val (.ref a0), .val (.long q1), .second] [])) st2 ?_
  exact Go.ret0 X2 hx hlk Bd.returns (hb hby d5_9) (by rw [e2]; exact ⟨rfl, N2, Kp4, E_a0, F_value⟩) (by decide) (by decide)
/-- the cache of boxed longs, as the heap h has it -/
def Cache (Z : State) (h : Heap) (ca : Addr) : Prop := Sta Z h "java/lang/Long$LongCache" "cache" "[Ljava/lang/Long;" (.ref ca) ∧ ∃ cl : Cell, Arr Z h ca cl (.object "java/lang/Long") ∧ cl.slots.size = 256 ∧ ∀ j : Nat, j < 256 → ∃ r, cl.slots[j]? = some (.ref r) ∧ Exa Z h r "java/lang/Long"
theorem Cache.ext {Z : State} {h h' : Heap} {ca : Addr} (F : Cache Z h ca) (E : Ext h h') : Cache Z h' ca := by
  obtain ⟨h1, c, h2, h3, h4⟩ := F
  exact ⟨h1.ext E, c, h2.ext E, h3, fun j hj => by obtain ⟨r, q1, q2⟩ := h4 j hj; exact ⟨r, q1, q2.ext E⟩⟩
theorem own_idx {q : Int64} (h1 : ¬ q < (-128 : Int64)) (h2 : ¬ (127 : Int64) < q) : ¬ (q.toInt32 + (128 : Int32) < 0) ∧ (q.toInt32 + (128 : Int32)).toNatClampNeg < 256 := by
  rw [Int64.lt_iff_toInt_lt] at h1 h2
  simp only [Int64.reduceToInt] at h1 h2
  have a1 := c_l2i q
  have a2 := rng32 q.toInt32
  have a3 := c_iadd q.toInt32 128
  have a4 := rng32 (q.toInt32 + 128)
  have a5 : (128 : Int32).toInt = 128 := by decide
  rw [a5] at a3
  rw [Int32.lt_iff_toInt_lt, Int32.toNatClampNeg]
  simp only [Int32.reduceToInt]
  omega
def Q_rmVal (Z : State) (h0 : Heap) (n0 : Nat) (v : Option Value) (h : Heap) (L : List Loc) : Prop := ∃ r, v = some (.ref r) ∧ Fr n0 L ∧ Keep h0 h [] ∧ Exa Z h r "java/lang/Long"
theorem d3_0 : decode jdk_35_method_24_code 0 = .ok (.sipush 128, 3) := by decide +kernel
theorem d3_3 : decode jdk_35_method_24_code 3 = .ok (.istore_n 2, 1) := by decide +kernel
theorem d3_4 : decode jdk_35_method_24_code 4 = .ok (.lload_n 0, 1) := by decide +kernel
theorem d3_5 : decode jdk_35_method_24_code 5 = .ok (.ldc2_w 230, 3) := by decide +kernel
theorem d3_8 : decode jdk_35_method_24_code 8 = .ok (.lcmp, 1) := by decide +kernel
theorem d3_9 : decode jdk_35_method_24_code 9 = .ok (.ifCond .lt 22, 3) := by decide +kernel
theorem d3_12 : decode jdk_35_method_24_code 12 = .ok (.lload_n 0, 1) := by decide +kernel
theorem d3_13 : decode jdk_35_method_24_code 13 = .ok (.ldc2_w 232, 3) := by decide +kernel
theorem d3_16 : decode jdk_35_method_24_code 16 = .ok (.lcmp, 1) := by decide +kernel
theorem d3_17 : decode jdk_35_method_24_code 17 = .ok (.ifCond .gt 14, 3) := by decide +kernel
theorem d3_20 : decode jdk_35_method_24_code 20 = .ok (.getstatic 234, 3) := by decide +kernel
theorem d3_23 : decode jdk_35_method_24_code 23 = .ok (.lload_n 0, 1) := by decide +kernel
theorem d3_24 : decode jdk_35_method_24_code 24 = .ok (.l2i, 1) := by decide +kernel
theorem d3_25 : decode jdk_35_method_24_code 25 = .ok (.sipush 128, 3) := by decide +kernel
theorem d3_28 : decode jdk_35_method_24_code 28 = .ok (.iadd, 1) := by decide +kernel
theorem d3_29 : decode jdk_35_method_24_code 29 = .ok (.aaload, 1) := by decide +kernel
theorem d3_30 : decode jdk_35_method_24_code 30 = .ok (.areturn, 1) := by decide +kernel
theorem d3_31 : decode jdk_35_method_24_code 31 = .ok (.new 1, 3) := by decide +kernel
theorem d3_34 : decode jdk_35_method_24_code 34 = .ok (.dup, 1) := by decide +kernel
theorem d3_35 : decode jdk_35_method_24_code 35 = .ok (.lload_n 0, 1) := by decide +kernel
theorem d3_36 : decode jdk_35_method_24_code 36 = .ok (.invokespecial 240, 3) := by decide +kernel
theorem d3_39 : decode jdk_35_method_24_code 39 = .ok (.areturn, 1) := by decide +kernel
theorem ef_3 (m : MethodId) (q0 : Int64) : entryFrame m #[(.long q0)] 3 = mkF m 0 #[.val (.long q0), .second, .unset] [] := by first | (simp [entryFrame, mkF, argsToLocals, Value.category]; done) | rfl
set_option maxRecDepth 65536 in
set_option maxHeartbeats 40000000 in
theorem rmVal (l : Launch) (Z : State) (az : Array Value) (hw : ∀ d ∈ tables_1, d.before az Z = true) (ws : List Jvm.Cond) (q0 : Int64) (ca : Addr) (h0 : Heap) (n0 : Nat) (Z0 : n0 ≤ h0.size) (Ch : Cache Z h0 ca) :
    MetFree l (⟨"java/lang/Long", "valueOf", "(J)Ljava/lang/Long;"⟩ : MethodName) (head1 (Jvm.Cond.code (⟨"java/lang/Long", "valueOf", "(J)Ljava/lang/Long;"⟩ : MethodName) jdk_35_method_24_code 3 (some (.object "java/lang/Long")) :: ws) ({ frames := 3, cells := 1, slots := 1, locals := 44 } : Room)) (fun a U => a = #[(.long q0)] ∧ Z.Warmed39 U.vm ∧ U.heap = h0) (fun _ _ _ _ _ => True) (fun _ U o U' => ∃ v L, o = .returned v ∧ (Q_rmVal Z h0 n0) v U'.heap L ∧ FrameEnd U o U' L ({ frames := 3, cells := 1, slots := 1, locals := 44 } : Room).cells ({ frames := 3, cells := 1, slots := 1, locals := 44 } : Room).slots) := by
  refine MetFree.of_bodySF (plainFor_of_name pn_1) hisR ?_
  intro p e s m args below meth c s₁ Bd hml0 hP hK
  obtain ⟨rfl, hZ, hh⟩ := hP
  have hx := Bd.exec
  have hby := Bd.bytes
  have hlk : meth.locks = false := Bd.notSynchronized
  have hml : c.maxLocals = 3 := hml0
  have hown : s.vm.findClass "java/lang/Long" = some m.cls := findClass_of_methodNamed Bd.named
  have hnm := (name_of_methodNamed Bd.named Bd.method).1
  have X0 : Stand p l e ({ frames := 3, cells := 1, slots := 1, locals := 44 } : Room) s m #[(.long q0)] below meth c s₁ [] 0 0 := Stand.of_body Bd
  have e0 : s₁.heap = h0 := by rw [← hh, Bd.state]; rfl
  have N0 := Fr.nil n0
  show Go p e below s ((Q_rmVal Z h0 n0)) ({ frames := 3, cells := 1, slots := 1, locals := 44 } : Room).cells ({ frames := 3, cells := 1, slots := 1, locals := 44 } : Room).slots (s₁.setTop (entryFrame m #[(.long q0)] 3))
  rw [ef_3 m q0]
  obtain ⟨S_cache, cc, Ac, Sc, Hc⟩ := Ch
  refine Go.st (S' := s₁.setTop (mkF m 3 #[.val (.long q0), .second, .unset] [(.int (128 : Int32))])) (fun _ kk => XS.sipush X0.here hx rfl (hb hby d3_0) kk) ?_
  refine Go.st (S' := s₁.setTop (mkF m 4 #[.val (.long q0), .second, .val (.int (128 : Int32))] [])) (fun _ kk => XS.istoreN X0.here hx rfl (hb hby d3_3) rfl (l' := #[.val (.long q0), .second, .val (.int (128 : Int32))]) rfl kk) ?_
  refine Go.st (S' := s₁.setTop (mkF m 5 #[.val (.long q0), .second, .val (.int (128 : Int32))] [(.long q0)])) (fun _ kk => XS.lloadN X0.here hx rfl (hb hby d3_4) rfl kk) ?_
  refine Go.st (S' := s₁.setTop (mkF m 8 #[.val (.long q0), .second, .val (.int (128 : Int32))] [(.long (-128 : Int64)), (.long q0)])) (fun _ kk => X0.ldc2Long hx hown (mvT hZ (hw _ (List.mem_of_getElem? (i := 17) rfl))) (g := (mkF m 5 #[.val (.long q0), .second, .val (.int (128 : Int32))] [(.long q0)])) rfl (hb hby d3_5) _ kk) ?_
  refine Go.st (S' := s₁.setTop (mkF m 9 #[.val (.long q0), .second, .val (.int (128 : Int32))] [(.int (lcmpW q0 (-128 : Int64)))])) (fun _ kk => XS.lcmp X0.here hx rfl (hb hby d3_8) rfl kk) ?_
  by_cases hc1 : q0 < (-128 : Int64)
  · refine Go.st (S' := s₁.setTop (mkF m 31 #[.val (.long q0), .second, .val (.int (128 : Int32))] [])) (fun _ kk => XS.ifYes X0.here hx rfl (pc0 := 9) (pc' := 31) rfl (hb hby d3_9) rfl ((if0 _ _).trans (tlt ((lw_lt q0 (-128 : Int64)).mpr hc1)).1) (by decide) (by decide) kk) ?_
    obtain ⟨T2, h2, X2, e2, E2, A2, D2, -, st2⟩ := newO X0 hx hZ hown (hw _ (List.mem_of_getElem? (i := 31) rfl)) (hw _ (List.mem_of_getElem? (i := 32) rfl)) (hw _ (List.mem_of_getElem? (i := 15) rfl)) e0 (g := (mkF m 31 #[.val (.long q0), .second, .val (.int (128 : Int32))] [])) rfl (hb hby d3_31) (by decide : 0 + 1 ≤ _) (by decide : 0 + 1 ≤ _)
    obtain ⟨b2, g2⟩ : ∃ z, z = h0.size := ⟨_, rfl⟩
    rw [← g2] at A2 D2 st2
    have g_b2 : n0 ≤ b2 := Nat.le_trans Z0 (Nat.le_of_eq g2.symm)
    have sz_b2 : h0.size ≤ b2 := Nat.le_trans (Keep.refl h0 []).1 (Nat.le_of_eq g2.symm)
    have S_cache := S_cache.ext E2
    have Zs3 := Nat.le_trans Z0 E2.1
    have Kp4 := (Keep.refl h0 []).ext E2
    have E_b2 := A2
    have F_value_b2 : Fld Z h2 b2 "java/lang/Long" "value" "J" (.long (0 : Int64)) := D2 (Or.inr (hw _ (List.mem_of_getElem? (i := 45) rfl))) (ty := .long) (by decide)
    refine Go.st (S' := T2.setTop (mkF m 34 #[.val (.long q0), .second, .val (.int (128 : Int32))] [(.ref b2)])) st2 ?_
    refine Go.st (S' := T2.setTop (mkF m 35 #[.val (.long q0), .second, .val (.int (128 : Int32))] [(.ref b2), (.ref b2)])) (fun _ kk => XS.dup X2.here hx rfl (hb hby d3_34) rfl rfl kk) ?_
    refine Go.st (S' := T2.setTop (mkF m 36 #[.val (.long q0), .second, .val (.int (128 : Int32))] [(.long q0), (.ref b2), (.ref b2)])) (fun _ kk => XS.lloadN X2.here hx rfl (hb hby d3_35) rfl kk) ?_
    obtain ⟨_, _, ⟨T5, L5, k5, n5⟩, -, X5, ⟨Lc5, hQ5, l5, y5, z5⟩, st5⟩ := X2.specialBack hx (y := (⟨"java/lang/Long", "<init>", "(J)V"⟩ : MethodName)) rfl hown (mvT hZ (hw _ (List.mem_of_getElem? (i := 33) rfl))) (mvT hZ (hw _ (List.mem_of_getElem? (i := 34) rfl))) (mvT hZ (hw _ (List.mem_of_getElem? (i := 36) rfl))) (by decide) (backOf (W := 1) (rmLong l Z az hw [] b2 q0 h2 n0 Zs3 E_b2 g_b2 F_value_b2) hZ (hw _ (List.mem_of_getElem? (i := 36) rfl)) (hw _ (List.mem_of_getElem? (i := 15) rfl)) (by decide) (by decide)) (g := (mkF m 36 #[.val (.long q0), .second, .val (.int (128 : Int32))] [(.long q0), (.ref b2), (.ref b2)])) rfl (by rw [hml]; rfl) (Steps.refl _) (a := b2) (argsL := [(.long q0)]) (rest := [(.ref b2)]) (lenOf pd_4 rfl) rfl (by show 2 * 0 + _ ≤ _; exact Nat.le_of_eq rfl) (hb hby d3_36) (fun _ _ => ⟨rfl, e2, (by decide : 1 + 0 ≤ _), (by decide : 1 + 0 ≤ _)⟩)
    dsimp only [Pt.U, Pt.locs, Pt.cells, Pt.slots] at X5 l5 y5 z5 st5 hQ5
    subst l5 y5 z5
    obtain ⟨rfl, N5q, K5, Ec5, Fc5_0⟩ := hQ5
    have N5 := Fr.app N0 N5q
    have E_b2 := E_b2.keep K5
    have Zs6 := Nat.le_trans Zs3 K5.1
    have Kp7 := Kp4.trans K5 (allS (Or.inr sz_b2) all0)
    refine Go.tr (S' := T5.setTop (mkF m 39 #[.val (.long q0), .second, .val (.int (128 : Int32))] [(.ref b2)])) st5 ?_
    exact Go.retA X5 hx hlk Bd.returns rfl rfl (hb hby d3_39) (⟨_, rfl, N5, Kp7, E_b2⟩) (by decide) (by decide)
  · refine Go.st (S' := s₁.setTop (mkF m 12 #[.val (.long q0), .second, .val (.int (128 : Int32))] [])) (fun _ kk => XS.ifNo X0.here hx rfl (hb hby d3_9) rfl ((if0 _ _).trans (flt (fun q => hc1 ((lw_lt q0 (-128 : Int64)).mp q))).1) kk) ?_
    refine Go.st (S' := s₁.setTop (mkF m 13 #[.val (.long q0), .second, .val (.int (128 : Int32))] [(.long q0)])) (fun _ kk => XS.lloadN X0.here hx rfl (hb hby d3_12) rfl kk) ?_
    refine Go.st (S' := s₁.setTop (mkF m 16 #[.val (.long q0), .second, .val (.int (128 : Int32))] [(.long (127 : Int64)), (.long q0)])) (fun _ kk => X0.ldc2Long hx hown (mvT hZ (hw _ (List.mem_of_getElem? (i := 18) rfl))) (g := (mkF m 13 #[.val (.long q0), .second, .val (.int (128 : Int32))] [(.long q0)])) rfl (hb hby d3_13) _ kk) ?_
    refine Go.st (S' := s₁.setTop (mkF m 17 #[.val (.long q0), .second, .val (.int (128 : Int32))] [(.int (lcmpW q0 (127 : Int64)))])) (fun _ kk => XS.lcmp X0.here hx rfl (hb hby d3_16) rfl kk) ?_
    by_cases hc8 : (127 : Int64) < q0
    · refine Go.st (S' := s₁.setTop (mkF m 31 #[.val (.long q0), .second, .val (.int (128 : Int32))] [])) (fun _ kk => XS.ifYes X0.here hx rfl (pc0 := 17) (pc' := 31) rfl (hb hby d3_17) rfl ((if0 _ _).trans (tlt ((lw_gt q0 (127 : Int64)).mpr hc8)).2.2.1) (by decide) (by decide) kk) ?_
      obtain ⟨T9, h9, X9, e9, E9, A9, D9, -, st9⟩ := newO X0 hx hZ hown (hw _ (List.mem_of_getElem? (i := 31) rfl)) (hw _ (List.mem_of_getElem? (i := 32) rfl)) (hw _ (List.mem_of_getElem? (i := 15) rfl)) e0 (g := (mkF m 31 #[.val (.long q0), .second, .val (.int (128 : Int32))] [])) rfl (hb hby d3_31) (by decide : 0 + 1 ≤ _) (by decide : 0 + 1 ≤ _)
      obtain ⟨b9, g9⟩ : ∃ z, z = h0.size := ⟨_, rfl⟩
      rw [← g9] at A9 D9 st9
      have g_b9 : n0 ≤ b9 := Nat.le_trans Z0 (Nat.le_of_eq g9.symm)
      have sz_b9 : h0.size ≤ b9 := Nat.le_trans (Keep.refl h0 []).1 (Nat.le_of_eq g9.symm)
      have S_cache := S_cache.ext E9
      have Zs10 := Nat.le_trans Z0 E9.1
      have Kp11 := (Keep.refl h0 []).ext E9
      have E_b9 := A9
      have F_value_b9 : Fld Z h9 b9 "java/lang/Long" "value" "J" (.long (0 : Int64)) := D9 (Or.inr (hw _ (List.mem_of_getElem? (i := 45) rfl))) (ty := .long) (by decide)
      refine Go.st (S' := T9.setTop (mkF m 34 #[.val (.long q0), .second, .val (.int (128 : Int32))] [(.ref b9)])) st9 ?_
      refine Go.st (S' := T9.setTop (mkF m 35 #[.val (.long q0), .second, .val (.int (128 : Int32))] [(.ref b9), (.ref b9)])) (fun _ kk => XS.dup X9.here hx rfl (hb hby d3_34) rfl rfl kk) ?_
      refine Go.st (S' := T9.setTop (mkF m 36 #[.val (.long q0), .second, .val (.int (128 : Int32))] [(.long q0), (.ref b9), (.ref b9)])) (fun _ kk => XS.lloadN X9.here hx rfl (hb hby d3_35) rfl kk) ?_
      obtain ⟨_, _, ⟨T12, L12, k12, n12⟩, -, X12, ⟨Lc12, hQ12, l12, y12, z12⟩, st12⟩ := X9.specialBack hx (y := (⟨"java/lang/Long", "<init>", "(J)V"⟩ : MethodName)) rfl hown (mvT hZ (hw _ (List.mem_of_getElem? (i := 33) rfl))) (mvT hZ (hw _ (List.mem_of_getElem? (i := 34) rfl))) (mvT hZ (hw _ (List.mem_of_getElem? (i := 36) rfl))) (by decide) (backOf (W := 1) (rmLong l Z az hw [] b9 q0 h9 n0 Zs10 E_b9 g_b9 F_value_b9) hZ (hw _ (List.mem_of_getElem? (i := 36) rfl)) (hw _ (List.mem_of_getElem? (i := 15) rfl)) (by decide) (by decide)) (g := (mkF m 36 #[.val (.long q0), .second, .val (.int (128 : Int32))] [(.long q0), (.ref b9), (.ref b9)])) rfl (by rw [hml]; rfl) (Steps.refl _) (a := b9) (argsL := [(.long q0)]) (rest := [(.ref b9)]) (lenOf pd_4 rfl) rfl (by show 2 * 0 + _ ≤ _; exact Nat.le_of_eq rfl) (hb hby d3_36) (fun _ _ => ⟨rfl, e9, (by decide : 1 + 0 ≤ _), (by decide : 1 + 0 ≤ _)⟩)
      dsimp only [Pt.U, Pt.locs, Pt.cells, Pt.slots] at X12 l12 y12 z12 st12 hQ12
      subst l12 y12 z12
      obtain ⟨rfl, N12q, K12, Ec12, Fc12_0⟩ := hQ12
      have N12 := Fr.app N0 N12q
      have E_b9 := E_b9.keep K12
      have Zs13 := Nat.le_trans Zs10 K12.1
      have Kp14 := Kp11.trans K12 (allS (Or.inr sz_b9) all0)
      refine Go.tr (S' := T12.setTop (mkF m 39 #[.val (.long q0), .second, .val (.int (128 : Int32))] [(.ref b9)])) st12 ?_
      exact Go.retA X12 hx hlk Bd.returns rfl rfl (hb hby d3_39) (⟨_, rfl, N12, Kp14, E_b9⟩) (by decide) (by decide)
    · refine Go.st (S' := s₁.setTop (mkF m 20 #[.val (.long q0), .second, .val (.int (128 : Int32))] [])) (fun _ kk => XS.ifNo X0.here hx rfl (hb hby d3_17) rfl ((if0 _ _).trans (flt (fun q => hc8 ((lw_gt q0 (127 : Int64)).mp q))).2.2.1) kk) ?_
      obtain ⟨T15, X15, e15, st15⟩ := getS2 X0 hx hZ hown (host := "") (Or.inl (hw _ (List.mem_of_getElem? (i := 19) rfl))) Via.refl e0 S_cache (g := (mkF m 20 #[.val (.long q0), .second, .val (.int (128 : Int32))] [])) rfl (hb hby d3_20)
      refine Go.st (S' := T15.setTop (mkF m 23 #[.val (.long q0), .second, .val (.int (128 : Int32))] [(.ref ca)])) st15 ?_
      refine Go.st (S' := T15.setTop (mkF m 24 #[.val (.long q0), .second, .val (.int (128 : Int32))] [(.long q0), (.ref ca)])) (fun _ kk => XS.lloadN X15.here hx rfl (hb hby d3_23) rfl kk) ?_
      refine Go.st (S' := T15.setTop (mkF m 25 #[.val (.long q0), .second, .val (.int (128 : Int32))] [(.int (q0.toInt32)), (.ref ca)])) (fun _ kk => XS.l2i X15.here hx rfl (hb hby d3_24) rfl kk) ?_
      refine Go.st (S' := T15.setTop (mkF m 28 #[.val (.long q0), .second, .val (.int (128 : Int32))] [(.int (128 : Int32)), (.int (q0.toInt32)), (.ref ca)])) (fun _ kk => XS.sipush X15.here hx rfl (hb hby d3_25) kk) ?_
      refine Go.st (S' := T15.setTop (mkF m 29 #[.val (.long q0), .second, .val (.int (128 : Int32))] [(.int ((q0.toInt32) + (128 : Int32))), (.ref ca)])) (fun _ kk => XS.iadd X15.here hx rfl (hb hby d3_28) rfl kk) ?_
      obtain ⟨hi16, hj16⟩ := own_idx hc1 hc8
      obtain ⟨r16, hr16, Er16⟩ := Hc _ hj16
      have hin16 : ¬ (((q0.toInt32) + (128 : Int32)) < 0 ∨ cc.slots.size ≤ (((q0.toInt32) + (128 : Int32))).toNatClampNeg) := fun q => q.elim hi16 (fun q => absurd hj16 (by rw [Sc] at q; exact Nat.not_lt.mpr q))
      refine Go.st (S' := T15.setTop (mkF m 30 #[.val (.long q0), .second, .val (.int (128 : Int32))] [(.ref r16)])) (fun _ kk => X15.aaload hx (j := ((q0.toInt32) + (128 : Int32))) (v := .ref r16) (by rw [e15]; exact Ac.1) (State.isArrayOf_alike hZ.alike Ac.2.1) rfl Ac.2.2 hin16 hr16 (g := (mkF m 29 #[.val (.long q0), .second, .val (.int (128 : Int32))] [(.int ((q0.toInt32) + (128 : Int32))), (.ref ca)])) rfl rfl (hb hby d3_29) _ kk) ?_
      exact Go.retA X15 hx hlk Bd.returns rfl rfl (hb hby d3_30) (by rw [e15]; exact ⟨_, rfl, N0, (Keep.refl h0 []), Er16⟩) (by decide) (by decide)
def Q_rmC (Z : State) (a0 : Addr) (q1 : Int64) (q2 : Int64) (h0 : Heap) (n0 : Nat) (v : Option Value) (h : Heap) (L : List Loc) : Prop := v = none ∧ Fr n0 L ∧ Keep h0 h [a0] ∧ Exa Z h a0 "com/example/offset_lookup/offsetlookup/model/OffsetAndTimestamp" ∧ Fld Z h a0 "com/example/offset_lookup/offsetlookup/model/OffsetAndTimestamp" "offset" "J" (.long q1) ∧ Fld Z h a0 "com/example/offset_lookup/offsetlookup/model/OffsetAndTimestamp" "timestamp" "J" (.long q2)
theorem d1_0 : decode prog_50_method_1_code 0 = .ok (.aload_n 0, 1) := by decide +kernel
theorem d1_1 : decode prog_50_method_1_code 1 = .ok (.invokespecial 1, 3) := by decide +kernel
theorem d1_4 : decode prog_50_method_1_code 4 = .ok (.aload_n 0, 1) := by decide +kernel
theorem d1_5 : decode prog_50_method_1_code 5 = .ok (.lload_n 1, 1) := by decide +kernel
theorem d1_6 : decode prog_50_method_1_code 6 = .ok (.putfield 7, 3) := by decide +kernel
theorem d1_9 : decode prog_50_method_1_code 9 = .ok (.aload_n 0, 1) := by decide +kernel
theorem d1_10 : decode prog_50_method_1_code 10 = .ok (.lload_n 3, 1) := by decide +kernel
theorem d1_11 : decode prog_50_method_1_code 11 = .ok (.putfield 13, 3) := by decide +kernel
theorem d1_14 : decode prog_50_method_1_code 14 = .ok (.return_, 1) := by decide +kernel
theorem pn_2 : plainName "com/example/offset_lookup/offsetlookup/model/OffsetAndTimestamp" = true := by first | (simp [plainName, overriddenIn]; done) | decide +kernel
theorem ef_1 (m : MethodId) (a0 : Addr) (q1 : Int64) (q2 : Int64) : entryFrame m #[(.ref a0), (.long q1), (.long q2)] 5 = mkF m 0 #[.val (.ref a0), .val (.long q1), .second, .val (.long q2), .second] [] := by first | (simp [entryFrame, mkF, argsToLocals, Value.category]; done) | rfl
set_option maxRecDepth 65536 in
set_option maxHeartbeats 40000000 in
theorem rmC (l : Launch) (Z : State) (az : Array Value) (hw : ∀ d ∈ tables_1, d.before az Z = true) (ws : List Jvm.Cond) (a0 : Addr) (q1 : Int64) (q2 : Int64)  (h0 : Heap) (n0 : Nat) (Z0 : n0 ≤ h0.size) (E_a0 : Exa Z h0 a0 "com/example/offset_lookup/offsetlookup/model/OffsetAndTimestamp") (g_a0 : n0 ≤ a0) (F_offset : Fld Z h0 a0 "com/example/offset_lookup/offsetlookup/model/OffsetAndTimestamp" "offset" "J" (.long (0 : Int64))) (F_timestamp : Fld Z h0 a0 "com/example/offset_lookup/offsetlookup/model/OffsetAndTimestamp" "timestamp" "J" (.long (0 : Int64))) :
    MetFree l (⟨"com/example/offset_lookup/offsetlookup/model/OffsetAndTimestamp", "<init>", "(JJ)V"⟩ : MethodName) (head1 (Jvm.Cond.code (⟨"com/example/offset_lookup/offsetlookup/model/OffsetAndTimestamp", "<init>", "(JJ)V"⟩ : MethodName) prog_50_method_1_code 5 none :: ws) ({ frames := 1, cells := 0, slots := 0, locals := 12 } : Room)) (fun a U => a = #[(.ref a0), (.long q1), (.long q2)] ∧ Z.Warmed39 U.vm ∧ U.heap = h0) (fun _ _ _ _ _ => True) (fun _ U o U' => ∃ v L, o = .returned v ∧ (Q_rmC Z a0 q1 q2 h0 n0) v U'.heap L ∧ FrameEnd U o U' L ({ frames := 1, cells := 0, slots := 0, locals := 12 } : Room).cells ({ frames := 1, cells := 0, slots := 0, locals := 12 } : Room).slots) := by
  refine MetFree.of_bodySF (plainFor_of_name pn_2) hisR ?_
  intro p e s m args below meth c s₁ Bd hml0 hP hK
  obtain ⟨rfl, hZ, hh⟩ := hP
  have hx := Bd.exec
  have hby := Bd.bytes
  have hlk : meth.locks = false := Bd.notSynchronized
  have hml : c.maxLocals = 5 := hml0
  have hown : s.vm.findClass "com/example/offset_lookup/offsetlookup/model/OffsetAndTimestamp" = some m.cls := findClass_of_methodNamed Bd.named
  have hnm := (name_of_methodNamed Bd.named Bd.method).1
  have X0 : Stand p l e ({ frames := 1, cells := 0, slots := 0, locals := 12 } : Room) s m #[(.ref a0), (.long q1), (.long q2)] below meth c s₁ [] 0 0 := Stand.of_body Bd
  have e0 : s₁.heap = h0 := by rw [← hh, Bd.state]; rfl
  have N0 := Fr.nil n0
  show Go p e below s ((Q_rmC Z a0 q1 q2 h0 n0)) ({ frames := 1, cells := 0, slots := 0, locals := 12 } : Room).cells ({ frames := 1, cells := 0, slots := 0, locals := 12 } : Room).slots (s₁.setTop (entryFrame m #[(.ref a0), (.long q1), (.long q2)] 5))
  rw [ef_1 m a0 q1 q2]
  refine Go.st (S' := s₁.setTop (mkF m 1 #[.val (.ref a0), .val (.long q1), .second, .val (.long q2), .second] [(.ref a0)])) (fun _ kk => XS.aloadN X0.here hx rfl (hb hby d1_0) rfl rfl kk) ?_
  obtain ⟨T1, X1, e1, st1⟩ := initO X0 hx hZ hown (hw _ (List.mem_of_getElem? (i := 6) rfl)) (hw _ (List.mem_of_getElem? (i := 7) rfl)) (hw _ (List.mem_of_getElem? (i := 8) rfl)) e0 (g := (mkF m 1 #[.val (.ref a0), .val (.long q1), .second, .val (.long q2), .second] [(.ref a0)])) rfl (by rw [hml]; rfl) rfl (hb hby d1_1) (by decide) (W := 0) (by show 2 * 0 + _ ≤ _; exact Nat.le_of_eq rfl) (by decide)
  refine Go.st (S' := T1.setTop (mkF m 4 #[.val (.ref a0), .val (.long q1), .second, .val (.long q2), .second] [])) st1 ?_
  refine Go.st (S' := T1.setTop (mkF m 5 #[.val (.ref a0), .val (.long q1), .second, .val (.long q2), .second] [(.ref a0)])) (fun _ kk => XS.aloadN X1.here hx rfl (hb hby d1_4) rfl rfl kk) ?_
  refine Go.st (S' := T1.setTop (mkF m 6 #[.val (.ref a0), .val (.long q1), .second, .val (.long q2), .second] [(.long q1), (.ref a0)])) (fun _ kk => XS.lloadN X1.here hx rfl (hb hby d1_5) rfl kk) ?_
  obtain ⟨T2, h2, X2, e2, W2, st2⟩ := putF X1 hx hZ hown (host := "") (Or.inl (hw _ (List.mem_of_getElem? (i := 9) rfl))) Via.refl e1 F_offset E_a0 (Or.inr ⟨(hw _ (List.mem_of_getElem? (i := 10) rfl)), rfl, hnm⟩) (hw _ (List.mem_of_getElem? (i := 1) rfl)) (ty := .long) (by decide) rfl rfl (g := (mkF m 6 #[.val (.ref a0), .val (.long q1), .second, .val (.long q2), .second] [(.long q1), (.ref a0)])) rfl rfl (hb hby d1_6)
  have N2 := Fr.snoc X2 N0 g_a0
  have F_offset := F_offset.same W2
  have E_a0 := E_a0.wr W2
  have F_timestamp := F_timestamp.other W2 (Or.inr (slot_ne (Or.inr (hw _ (List.mem_of_getElem? (i := 12) rfl))) (Or.inr (hw _ (List.mem_of_getElem? (i := 10) rfl))) (by decide) (t := .long) (t' := .long) (by decide) (by decide)))
  have Zs3 := Nat.le_trans Z0 (Keep.of_wr W2).1
  have Kp4 := (Keep.refl h0 [a0]).wr W2 (Or.inl (List.mem_of_getElem? (i := 0) rfl))
  refine Go.st (S' := T2.setTop (mkF m 9 #[.val (.ref a0), .val (.long q1), .second, .val (.long q2), .second] [])) st2 ?_
  refine Go.st (S' := T2.setTop (mkF m 10 #[.val (.ref a0), .val (.long q1), .second, .val (.long q2), .second] [(.ref a0)])) (fun _ kk => XS.aloadN X2.here hx rfl (hb hby d1_9) rfl rfl kk) ?_
  refine Go.st (S' := T2.setTop (mkF m 11 #[.val (.ref a0), .val (.long q1), .second, .val (.long q2), .second] [(.long q2), (.ref a0)])) (fun _ kk => XS.lloadN X2.here hx rfl (hb hby d1_10) rfl kk) ?_
  obtain ⟨T5, h5, X5, e5, W5, st5⟩ := putF X2 hx hZ hown (host := "") (Or.inl (hw _ (List.mem_of_getElem? (i := 11) rfl))) Via.refl e2 F_timestamp E_a0 (Or.inr ⟨(hw _ (List.mem_of_getElem? (i := 12) rfl)), rfl, hnm⟩) (hw _ (List.mem_of_getElem? (i := 1) rfl)) (ty := .long) (by decide) rfl rfl (g := (mkF m 11 #[.val (.ref a0), .val (.long q1), .second, .val (.long q2), .second] [(.long q2), (.ref a0)])) rfl rfl (hb hby d1_11)
  have N5 := Fr.snoc X5 N2 g_a0
  have F_timestamp := F_timestamp.same W5
  have E_a0 := E_a0.wr W5
  have F_offset := F_offset.other W5 (Or.inr (slot_ne (Or.inr (hw _ (List.mem_of_getElem? (i := 10) rfl))) (Or.inr (hw _ (List.mem_of_getElem? (i := 12) rfl))) (by decide) (t := .long) (t' := .long) (by decide) (by decide)))
  have Zs6 := Nat.le_trans Zs3 (Keep.of_wr W5).1
  have Kp7 := Kp4.wr W5 (Or.inl (List.mem_of_getElem? (i := 0) rfl))
  refine Go.st (S' := T5.setTop (mkF m 14 #[.val (.ref a0), .val (.long q1), .second, .val (.long q2), .second] [])) st5 ?_
  exact Go.ret0 X5 hx hlk Bd.returns (hb hby d1_14) (by rw [e5]; exact ⟨rfl, N5, Kp7, E_a0, F_offset, F_timestamp⟩) (by decide) (by decide)
def fEq (x00 : Int64) (x01 : Int64) (x10 : Int64) (x11 : Int64) : Int32 := (if x00 = x10 then (if x01 = x11 then (1 : Int32) else (0 : Int32)) else (0 : Int32))
theorem d4_0 : decode prog_50_method_4_code 0 = .ok (.aload_n 1, 1) := by decide +kernel
theorem d4_1 : decode prog_50_method_4_code 1 = .ok (.instanceof 8, 3) := by decide +kernel
theorem d4_4 : decode prog_50_method_4_code 4 = .ok (.ifCond .eq 11, 3) := by decide +kernel
theorem d4_7 : decode prog_50_method_4_code 7 = .ok (.aload_n 1, 1) := by decide +kernel
theorem d4_8 : decode prog_50_method_4_code 8 = .ok (.checkcast 8, 3) := by decide +kernel
theorem d4_11 : decode prog_50_method_4_code 11 = .ok (.astore_n 2, 1) := by decide +kernel
theorem d4_12 : decode prog_50_method_4_code 12 = .ok (.goto 5, 3) := by decide +kernel
theorem d4_15 : decode prog_50_method_4_code 15 = .ok (.iconst 0, 1) := by decide +kernel
theorem d4_16 : decode prog_50_method_4_code 16 = .ok (.ireturn, 1) := by decide +kernel
theorem d4_17 : decode prog_50_method_4_code 17 = .ok (.aload_n 0, 1) := by decide +kernel
theorem d4_18 : decode prog_50_method_4_code 18 = .ok (.getfield 7, 3) := by decide +kernel
theorem d4_21 : decode prog_50_method_4_code 21 = .ok (.aload_n 2, 1) := by decide +kernel
theorem d4_22 : decode prog_50_method_4_code 22 = .ok (.getfield 7, 3) := by decide +kernel
theorem d4_25 : decode prog_50_method_4_code 25 = .ok (.lcmp, 1) := by decide +kernel
theorem d4_26 : decode prog_50_method_4_code 26 = .ok (.ifCond .ne 19, 3) := by decide +kernel
theorem d4_29 : decode prog_50_method_4_code 29 = .ok (.aload_n 0, 1) := by decide +kernel
theorem d4_30 : decode prog_50_method_4_code 30 = .ok (.getfield 13, 3) := by decide +kernel
theorem d4_33 : decode prog_50_method_4_code 33 = .ok (.aload_n 2, 1) := by decide +kernel
theorem d4_34 : decode prog_50_method_4_code 34 = .ok (.getfield 13, 3) := by decide +kernel
theorem d4_37 : decode prog_50_method_4_code 37 = .ok (.lcmp, 1) := by decide +kernel
theorem d4_38 : decode prog_50_method_4_code 38 = .ok (.ifCond .ne 7, 3) := by decide +kernel
theorem d4_41 : decode prog_50_method_4_code 41 = .ok (.iconst 1, 1) := by decide +kernel
theorem d4_42 : decode prog_50_method_4_code 42 = .ok (.goto 4, 3) := by decide +kernel
theorem d4_45 : decode prog_50_method_4_code 45 = .ok (.iconst 0, 1) := by decide +kernel
theorem d4_46 : decode prog_50_method_4_code 46 = .ok (.ireturn, 1) := by decide +kernel
theorem ef_4 (m : MethodId) (a0 : Addr) (a1 : Addr) : entryFrame m #[(.ref a0), (.ref a1)] 3 = mkF m 0 #[.val (.ref a0), .val (.ref a1), .unset] [] := by first | (simp [entryFrame, mkF, argsToLocals, Value.category]; done) | rfl
set_option maxRecDepth 65536 in
set_option maxHeartbeats 40000000 in
theorem rmEq (l : Launch) (Z : State) (az : Array Value) (hw : ∀ d ∈ tables_1, d.before az Z = true) (ws : List Jvm.Cond) (a0 : Addr) (a1 : Addr) (x00 x01 x10 x11 : Int64) (h0 : Heap) (n0 : Nat) (Z0 : n0 ≤ h0.size) (E_a0 : Exa Z h0 a0 "com/example/offset_lookup/offsetlookup/model/OffsetAndTimestamp") (F_a0_offset : Fld Z h0 a0 "com/example/offset_lookup/offsetlookup/model/OffsetAndTimestamp" "offset" "J" (.long x00)) (F_a0_timestamp : Fld Z h0 a0 "com/example/offset_lookup/offsetlookup/model/OffsetAndTimestamp" "timestamp" "J" (.long x01)) (E_a1 : Exa Z h0 a1 "com/example/offset_lookup/offsetlookup/model/OffsetAndTimestamp") (F_a1_offset : Fld Z h0 a1 "com/example/offset_lookup/offsetlookup/model/OffsetAndTimestamp" "offset" "J" (.long x10)) (F_a1_timestamp : Fld Z h0 a1 "com/example/offset_lookup/offsetlookup/model/OffsetAndTimestamp" "timestamp" "J" (.long x11)) :
    MetFree l (⟨"com/example/offset_lookup/offsetlookup/model/OffsetAndTimestamp", "equals", "(Ljava/lang/Object;)Z"⟩ : MethodName) (head1 (Jvm.Cond.code (⟨"com/example/offset_lookup/offsetlookup/model/OffsetAndTimestamp", "equals", "(Ljava/lang/Object;)Z"⟩ : MethodName) prog_50_method_4_code 3 (some .boolean) :: ws) ({ frames := 0, cells := 0, slots := 0, locals := 0 } : Room)) (fun a U => a = #[(.ref a0), (.ref a1)] ∧ Z.Warmed39 U.vm ∧ U.heap = h0) (fun _ _ _ _ _ => True) (fun _ U o U' => ∃ v L, o = .returned v ∧ (PQ (.int (fEq x00 x01 x10 x11)) n0 h0) v U'.heap L ∧ FrameEnd U o U' L ({ frames := 0, cells := 0, slots := 0, locals := 0 } : Room).cells ({ frames := 0, cells := 0, slots := 0, locals := 0 } : Room).slots) := by
  refine MetFree.of_bodySF (plainFor_of_name pn_2) hisR ?_
  intro p e s m args below meth c s₁ Bd hml0 hP hK
  obtain ⟨rfl, hZ, hh⟩ := hP
  have hx := Bd.exec
  have hby := Bd.bytes
  have hlk : meth.locks = false := Bd.notSynchronized
  have hml : c.maxLocals = 3 := hml0
  have hown : s.vm.findClass "com/example/offset_lookup/offsetlookup/model/OffsetAndTimestamp" = some m.cls := findClass_of_methodNamed Bd.named
  have hnm := (name_of_methodNamed Bd.named Bd.method).1
  have X0 : Stand p l e ({ frames := 0, cells := 0, slots := 0, locals := 0 } : Room) s m #[(.ref a0), (.ref a1)] below meth c s₁ [] 0 0 := Stand.of_body Bd
  have e0 : s₁.heap = h0 := by rw [← hh, Bd.state]; rfl
  have N0 := Fr.nil n0
  show Go p e below s ((PQ (.int (fEq x00 x01 x10 x11)) n0 h0)) ({ frames := 0, cells := 0, slots := 0, locals := 0 } : Room).cells ({ frames := 0, cells := 0, slots := 0, locals := 0 } : Room).slots (s₁.setTop (entryFrame m #[(.ref a0), (.ref a1)] 3))
  rw [ef_4 m a0 a1]
  refine Go.st (S' := s₁.setTop (mkF m 1 #[.val (.ref a0), .val (.ref a1), .unset] [(.ref a1)])) (fun _ kk => XS.aloadN X0.here hx rfl (hb hby d4_0) rfl rfl kk) ?_
  obtain ⟨T1, X1, e1, st1⟩ := instY X0 hx hZ hown (hw _ (List.mem_of_getElem? (i := 26) rfl)) e0 (Ins.self E_a1) (g := (mkF m 1 #[.val (.ref a0), .val (.ref a1), .unset] [(.ref a1)])) rfl rfl (hb hby d4_1)
  refine Go.st (S' := T1.setTop (mkF m 4 #[.val (.ref a0), .val (.ref a1), .unset] [(.int (1 : Int32))])) st1 ?_
  refine Go.st (S' := T1.setTop (mkF m 7 #[.val (.ref a0), .val (.ref a1), .unset] [])) (fun _ kk => XS.ifNo X1.here hx rfl (hb hby d4_4) rfl ((if0 _ _).trans (feq (by decide : ¬ ((1 : Int32) = (0 : Int32)))).1) kk) ?_
  refine Go.st (S' := T1.setTop (mkF m 8 #[.val (.ref a0), .val (.ref a1), .unset] [(.ref a1)])) (fun _ kk => XS.aloadN X1.here hx rfl (hb hby d4_7) rfl rfl kk) ?_
  obtain ⟨T2, X2, e2, st2⟩ := castY X1 hx hZ hown (hw _ (List.mem_of_getElem? (i := 26) rfl)) e1 (Ins.self E_a1) (g := (mkF m 8 #[.val (.ref a0), .val (.ref a1), .unset] [(.ref a1)])) rfl rfl (hb hby d4_8)
  refine Go.st (S' := T2.setTop (mkF m 11 #[.val (.ref a0), .val (.ref a1), .unset] [(.ref a1)])) st2 ?_
  refine Go.st (S' := T2.setTop (mkF m 12 #[.val (.ref a0), .val (.ref a1), .val (.ref a1)] [])) (fun _ kk => XS.astoreN X2.here hx rfl (hb hby d4_11) rfl rfl (l' := #[.val (.ref a0), .val (.ref a1), .val (.ref a1)]) rfl kk) ?_
  refine Go.st (S' := T2.setTop (mkF m 17 #[.val (.ref a0), .val (.ref a1), .val (.ref a1)] [])) (fun _ kk => XS.goto X2.here hx rfl (pc0 := 12) (pc' := 17) rfl (hb hby d4_12) (by decide) (by decide) kk) ?_
  refine Go.st (S' := T2.setTop (mkF m 18 #[.val (.ref a0), .val (.ref a1), .val (.ref a1)] [(.ref a0)])) (fun _ kk => XS.aloadN X2.here hx rfl (hb hby d4_17) rfl rfl kk) ?_
  obtain ⟨T3, X3, e3, st3⟩ := getF X2 hx hZ hown (host := "") (Or.inl (hw _ (List.mem_of_getElem? (i := 9) rfl))) Via.refl e2 F_a0_offset (g := (mkF m 18 #[.val (.ref a0), .val (.ref a1), .val (.ref a1)] [(.ref a0)])) rfl rfl (hb hby d4_18)
  refine Go.st (S' := T3.setTop (mkF m 21 #[.val (.ref a0), .val (.ref a1), .val (.ref a1)] [(.long x00)])) st3 ?_
  refine Go.st (S' := T3.setTop (mkF m 22 #[.val (.ref a0), .val (.ref a1), .val (.ref a1)] [(.ref a1), (.long x00)])) (fun _ kk => XS.aloadN X3.here hx rfl (hb hby d4_21) rfl rfl kk) ?_
  obtain ⟨T4, X4, e4, st4⟩ := getF X3 hx hZ hown (host := "") (Or.inl (hw _ (List.mem_of_getElem? (i := 9) rfl))) Via.refl e3 F_a1_offset (g := (mkF m 22 #[.val (.ref a0), .val (.ref a1), .val (.ref a1)] [(.ref a1), (.long x00)])) rfl rfl (hb hby d4_22)
  refine Go.st (S' := T4.setTop (mkF m 25 #[.val (.ref a0), .val (.ref a1), .val (.ref a1)] [(.long x10), (.long x00)])) st4 ?_
  refine Go.st (S' := T4.setTop (mkF m 26 #[.val (.ref a0), .val (.ref a1), .val (.ref a1)] [(.int (lcmpW x00 x10))])) (fun _ kk => XS.lcmp X4.here hx rfl (hb hby d4_25) rfl kk) ?_
  by_cases hc5 : x00 = x10
  · refine Go.st (S' := T4.setTop (mkF m 29 #[.val (.ref a0), .val (.ref a1), .val (.ref a1)] [])) (fun _ kk => XS.ifNo X4.here hx rfl (hb hby d4_26) rfl ((if0 _ _).trans (teq ((lw_eq x00 x10).mpr hc5)).2) kk) ?_
    refine Go.st (S' := T4.setTop (mkF m 30 #[.val (.ref a0), .val (.ref a1), .val (.ref a1)] [(.ref a0)])) (fun _ kk => XS.aloadN X4.here hx rfl (hb hby d4_29) rfl rfl kk) ?_
    obtain ⟨T6, X6, e6, st6⟩ := getF X4 hx hZ hown (host := "") (Or.inl (hw _ (List.mem_of_getElem? (i := 11) rfl))) Via.refl e4 F_a0_timestamp (g := (mkF m 30 #[.val (.ref a0), .val (.ref a1), .val (.ref a1)] [(.ref a0)])) rfl rfl (hb hby d4_30)
    refine Go.st (S' := T6.setTop (mkF m 33 #[.val (.ref a0), .val (.ref a1), .val (.ref a1)] [(.long x01)])) st6 ?_
    refine Go.st (S' := T6.setTop (mkF m 34 #[.val (.ref a0), .val (.ref a1), .val (.ref a1)] [(.ref a1), (.long x01)])) (fun _ kk => XS.aloadN X6.here hx rfl (hb hby d4_33) rfl rfl kk) ?_
    obtain ⟨T7, X7, e7, st7⟩ := getF X6 hx hZ hown (host := "") (Or.inl (hw _ (List.mem_of_getElem? (i := 11) rfl))) Via.refl e6 F_a1_timestamp (g := (mkF m 34 #[.val (.ref a0), .val (.ref a1), .val (.ref a1)] [(.ref a1), (.long x01)])) rfl rfl (hb hby d4_34)
    refine Go.st (S' := T7.setTop (mkF m 37 #[.val (.ref a0), .val (.ref a1), .val (.ref a1)] [(.long x11), (.long x01)])) st7 ?_
    refine Go.st (S' := T7.setTop (mkF m 38 #[.val (.ref a0), .val (.ref a1), .val (.ref a1)] [(.int (lcmpW x01 x11))])) (fun _ kk => XS.lcmp X7.here hx rfl (hb hby d4_37) rfl kk) ?_
    by_cases hc8 : x01 = x11
    · refine Go.st (S' := T7.setTop (mkF m 41 #[.val (.ref a0), .val (.ref a1), .val (.ref a1)] [])) (fun _ kk => XS.ifNo X7.here hx rfl (hb hby d4_38) rfl ((if0 _ _).trans (teq ((lw_eq x01 x11).mpr hc8)).2) kk) ?_
      refine Go.st (S' := T7.setTop (mkF m 42 #[.val (.ref a0), .val (.ref a1), .val (.ref a1)] [(.int (1 : Int32))])) (fun _ kk => XS.iconst X7.here hx rfl (hb hby d4_41) kk) ?_
      refine Go.st (S' := T7.setTop (mkF m 46 #[.val (.ref a0), .val (.ref a1), .val (.ref a1)] [(.int (1 : Int32))])) (fun _ kk => XS.goto X7.here hx rfl (pc0 := 42) (pc' := 46) rfl (hb hby d4_42) (by decide) (by decide) kk) ?_
      exact Go.retN X7 hx hlk (t := .boolean) Bd.returns (by simp) (hb hby d4_46) (⟨congrArg (fun q => some (Value.int q)) (Eq.symm (show fEq x00 x01 x10 x11 = (1 : Int32) from by unfold fEq; rw [if_pos hc5, if_pos hc8])), N0, e7⟩) (by decide) (by decide)
    · refine Go.st (S' := T7.setTop (mkF m 45 #[.val (.ref a0), .val (.ref a1), .val (.ref a1)] [])) (fun _ kk => XS.ifYes X7.here hx rfl (pc0 := 38) (pc' := 45) rfl (hb hby d4_38) rfl ((if0 _ _).trans (feq (fun q => hc8 ((lw_eq x01 x11).mp q))).2) (by decide) (by decide) kk) ?_
      refine Go.st (S' := T7.setTop (mkF m 46 #[.val (.ref a0), .val (.ref a1), .val (.ref a1)] [(.int (0 : Int32))])) (fun _ kk => XS.iconst X7.here hx rfl (hb hby d4_45) kk) ?_
      exact Go.retN X7 hx hlk (t := .boolean) Bd.returns (by simp) (hb hby d4_46) (⟨congrArg (fun q => some (Value.int q)) (Eq.symm (show fEq x00 x01 x10 x11 = (0 : Int32) from by unfold fEq; rw [if_pos hc5, if_neg hc8])), N0, e7⟩) (by decide) (by decide)
  · refine Go.st (S' := T4.setTop (mkF m 45 #[.val (.ref a0), .val (.ref a1), .val (.ref a1)] [])) (fun _ kk => XS.ifYes X4.here hx rfl (pc0 := 26) (pc' := 45) rfl (hb hby d4_26) rfl ((if0 _ _).trans (feq (fun q => hc5 ((lw_eq x00 x10).mp q))).2) (by decide) (by decide) kk) ?_
    refine Go.st (S' := T4.setTop (mkF m 46 #[.val (.ref a0), .val (.ref a1), .val (.ref a1)] [(.int (0 : Int32))])) (fun _ kk => XS.iconst X4.here hx rfl (hb hby d4_45) kk) ?_
    exact Go.retN X4 hx hlk (t := .boolean) Bd.returns (by simp) (hb hby d4_46) (⟨congrArg (fun q => some (Value.int q)) (Eq.symm (show fEq x00 x01 x10 x11 = (0 : Int32) from by unfold fEq; rw [if_neg hc5])), N0, e4⟩) (by decide) (by decide)
theorem ef_4n1 (m : MethodId) (a0 : Addr) : entryFrame m #[(.ref a0), .null] 3 = mkF m 0 #[.val (.ref a0), .val .null, .unset] [] := by first | (simp [entryFrame, mkF, argsToLocals, Value.category]; done) | rfl
set_option maxRecDepth 65536 in
set_option maxHeartbeats 40000000 in
theorem rmEqN (l : Launch) (Z : State) (az : Array Value) (hw : ∀ d ∈ tables_1, d.before az Z = true) (ws : List Jvm.Cond) (a0 : Addr)  (h0 : Heap) (n0 : Nat) (Z0 : n0 ≤ h0.size)  :
    MetFree l (⟨"com/example/offset_lookup/offsetlookup/model/OffsetAndTimestamp", "equals", "(Ljava/lang/Object;)Z"⟩ : MethodName) (head1 (Jvm.Cond.code (⟨"com/example/offset_lookup/offsetlookup/model/OffsetAndTimestamp", "equals", "(Ljava/lang/Object;)Z"⟩ : MethodName) prog_50_method_4_code 3 (some .boolean) :: ws) ({ frames := 0, cells := 0, slots := 0, locals := 0 } : Room)) (fun a U => a = #[(.ref a0), .null] ∧ Z.Warmed39 U.vm ∧ U.heap = h0) (fun _ _ _ _ _ => True) (fun _ U o U' => ∃ v L, o = .returned v ∧ (PQ (.int 0) n0 h0) v U'.heap L ∧ FrameEnd U o U' L ({ frames := 0, cells := 0, slots := 0, locals := 0 } : Room).cells ({ frames := 0, cells := 0, slots := 0, locals := 0 } : Room).slots) := by
  refine MetFree.of_bodySF (plainFor_of_name pn_2) hisR ?_
  intro p e s m args below meth c s₁ Bd hml0 hP hK
  obtain ⟨rfl, hZ, hh⟩ := hP
  have hx := Bd.exec
  have hby := Bd.bytes
  have hlk : meth.locks = false := Bd.notSynchronized
  have hml : c.maxLocals = 3 := hml0
  have hown : s.vm.findClass "com/example/offset_lookup/offsetlookup/model/OffsetAndTimestamp" = some m.cls := findClass_of_methodNamed Bd.named
  have hnm := (name_of_methodNamed Bd.named Bd.method).1
  have X0 : Stand p l e ({ frames := 0, cells := 0, slots := 0, locals := 0 } : Room) s m #[(.ref a0), .null] below meth c s₁ [] 0 0 := Stand.of_body Bd
  have e0 : s₁.heap = h0 := by rw [← hh, Bd.state]; rfl
  have N0 := Fr.nil n0
  show Go p e below s ((PQ (.int 0) n0 h0)) ({ frames := 0, cells := 0, slots := 0, locals := 0 } : Room).cells ({ frames := 0, cells := 0, slots := 0, locals := 0 } : Room).slots (s₁.setTop (entryFrame m #[(.ref a0), .null] 3))
  rw [ef_4n1 m a0]
  refine Go.st (S' := s₁.setTop (mkF m 1 #[.val (.ref a0), .val .null, .unset] [.null])) (fun _ kk => XS.aloadN X0.here hx rfl (hb hby d4_0) rfl rfl kk) ?_
  refine Go.st (S' := s₁.setTop (mkF m 4 #[.val (.ref a0), .val .null, .unset] [(.int (0 : Int32))])) (fun _ kk => X0.instanceofNull hx (g := (mkF m 1 #[.val (.ref a0), .val .null, .unset] [.null])) rfl rfl (hb hby d4_1) _ kk) ?_
  refine Go.st (S' := s₁.setTop (mkF m 15 #[.val (.ref a0), .val .null, .unset] [])) (fun _ kk => XS.ifYes X0.here hx rfl (pc0 := 4) (pc' := 15) rfl (hb hby d4_4) rfl ((if0 _ _).trans (teq (by decide : (0 : Int32) = (0 : Int32))).1) (by decide) (by decide) kk) ?_
  refine Go.st (S' := s₁.setTop (mkF m 16 #[.val (.ref a0), .val .null, .unset] [(.int (0 : Int32))])) (fun _ kk => XS.iconst X0.here hx rfl (hb hby d4_15) kk) ?_
  exact Go.retN X0 hx hlk (t := .boolean) Bd.returns (by simp) (hb hby d4_16) (⟨rfl, N0, e0⟩) (by decide) (by decide)
set_option maxRecDepth 65536 in
set_option maxHeartbeats 40000000 in
theorem rmEqL (l : Launch) (Z : State) (az : Array Value) (hw : ∀ d ∈ tables_1, d.before az Z = true) (ws : List Jvm.Cond) (a0 : Addr) (a1 : Addr)  (h0 : Heap) (n0 : Nat) (Z0 : n0 ≤ h0.size) (E_a1 : Exa Z h0 a1 "java/lang/Long") :
    MetFree l (⟨"com/example/offset_lookup/offsetlookup/model/OffsetAndTimestamp", "equals", "(Ljava/lang/Object;)Z"⟩ : MethodName) (head1 (Jvm.Cond.code (⟨"com/example/offset_lookup/offsetlookup/model/OffsetAndTimestamp", "equals", "(Ljava/lang/Object;)Z"⟩ : MethodName) prog_50_method_4_code 3 (some .boolean) :: ws) ({ frames := 0, cells := 0, slots := 0, locals := 0 } : Room)) (fun a U => a = #[(.ref a0), (.ref a1)] ∧ Z.Warmed39 U.vm ∧ U.heap = h0) (fun _ _ _ _ _ => True) (fun _ U o U' => ∃ v L, o = .returned v ∧ (PQ (.int 0) n0 h0) v U'.heap L ∧ FrameEnd U o U' L ({ frames := 0, cells := 0, slots := 0, locals := 0 } : Room).cells ({ frames := 0, cells := 0, slots := 0, locals := 0 } : Room).slots) := by
  refine MetFree.of_bodySF (plainFor_of_name pn_2) hisR ?_
  intro p e s m args below meth c s₁ Bd hml0 hP hK
  obtain ⟨rfl, hZ, hh⟩ := hP
  have hx := Bd.exec
  have hby := Bd.bytes
  have hlk : meth.locks = false := Bd.notSynchronized
  have hml : c.maxLocals = 3 := hml0
  have hown : s.vm.findClass "com/example/offset_lookup/offsetlookup/model/OffsetAndTimestamp" = some m.cls := findClass_of_methodNamed Bd.named
  have hnm := (name_of_methodNamed Bd.named Bd.method).1
  have X0 : Stand p l e ({ frames := 0, cells := 0, slots := 0, locals := 0 } : Room) s m #[(.ref a0), (.ref a1)] below meth c s₁ [] 0 0 := Stand.of_body Bd
  have e0 : s₁.heap = h0 := by rw [← hh, Bd.state]; rfl
  have N0 := Fr.nil n0
  show Go p e below s ((PQ (.int 0) n0 h0)) ({ frames := 0, cells := 0, slots := 0, locals := 0 } : Room).cells ({ frames := 0, cells := 0, slots := 0, locals := 0 } : Room).slots (s₁.setTop (entryFrame m #[(.ref a0), (.ref a1)] 3))
  rw [ef_4 m a0 a1]
  refine Go.st (S' := s₁.setTop (mkF m 1 #[.val (.ref a0), .val (.ref a1), .unset] [(.ref a1)])) (fun _ kk => XS.aloadN X0.here hx rfl (hb hby d4_0) rfl rfl kk) ?_
  obtain ⟨T1, X1, e1, st1⟩ := instNo X0 hx hZ hown (hw _ (List.mem_of_getElem? (i := 26) rfl)) e0 E_a1 (own_notlong hw) (g := (mkF m 1 #[.val (.ref a0), .val (.ref a1), .unset] [(.ref a1)])) rfl rfl (hb hby d4_1)
  refine Go.st (S' := T1.setTop (mkF m 4 #[.val (.ref a0), .val (.ref a1), .unset] [(.int (0 : Int32))])) st1 ?_
  refine Go.st (S' := T1.setTop (mkF m 15 #[.val (.ref a0), .val (.ref a1), .unset] [])) (fun _ kk => XS.ifYes X1.here hx rfl (pc0 := 4) (pc' := 15) rfl (hb hby d4_4) rfl ((if0 _ _).trans (teq (by decide : (0 : Int32) = (0 : Int32))).1) (by decide) (by decide) kk) ?_
  refine Go.st (S' := T1.setTop (mkF m 16 #[.val (.ref a0), .val (.ref a1), .unset] [(.int (0 : Int32))])) (fun _ kk => XS.iconst X1.here hx rfl (hb hby d4_15) kk) ?_
  exact Go.retN X1 hx hlk (t := .boolean) Bd.returns (by simp) (hb hby d4_16) (⟨rfl, N0, e1⟩) (by decide) (by decide)
theorem own_cache {args : Array Value} {s : State} (hs : ∀ d ∈ jdkStatics_1, d.before args s = true) : ∃ ca, Cache s s.heap ca := by
  have w0 := hs _ (List.mem_of_getElem? (i := 0) rfl)
  have w1 := hs _ (List.mem_of_getElem? (i := 1) rfl)
  have w2 := Cond.before_iff.mp (hs _ (List.mem_of_getElem? (i := 2) rfl))
  have w4 := Cond.before_iff.mp (hs _ (List.mem_of_getElem? (i := 4) rfl))
  have w5 := Cond.before_iff.mp (hs _ (List.mem_of_getElem? (i := 5) rfl))
  obtain ⟨ca, ev⟩ := arr_v w2
  obtain ⟨c, A⟩ := Arr.start ev w2
  have ha := A.fin (Vm.Alike.refl _)
  have sz : c.slots.size = 256 := own_size (own_len ev ha w4) (by decide)
  refine ⟨ca, Sta.start ev (Or.inl w1), c, A, sz, fun j hj => ?_⟩
  have q := Cond.all_elim ev ha w5 j (by rw [sz]; exact hj)
  obtain ⟨q1, -⟩ := and_e q
  obtain ⟨r, er⟩ := exa_v q1
  have hidx : (Term.index 0).eval args s none [j] s = some (.int j.toInt32) := Term.index_eval _
  have ev' : (Jvm.Term.static "java/lang/Long$LongCache" "cache" "[Ljava/lang/Long;").eval args s none [j] s = some (.ref ca) := ev
  have hin := elem_in er ev' hidx A.1
  refine ⟨r, ?_, exa_at er q1⟩
  have hq : j.toInt32.toNatClampNeg = j := by
    have := len_toInt (n := j) (by omega)
    simp only [Int32.toNatClampNeg, this]; omega
  rw [← hq]; exact hin.2
theorem pn_3 : plainName "com/example/offset_lookup/offsetlookup/model/OffsetAndTimestampEqualsPinLaw" = true := by first | (simp [plainName, overriddenIn]; done) | decide +kernel
theorem ef_0 (m : MethodId) (q0 : Int64) (q1 : Int64) (q2 : Int64) (q3 : Int64) (p4 : Int32) : entryFrame m #[(.long q0), (.long q1), (.long q2), (.long q3), (.int p4)] maxLocals = mkF m 0 #[.val (.long q0), .second, .val (.long q1), .second, .val (.long q2), .second, .val (.long q3), .second, .val (.int p4), .unset, .unset, .unset, .unset, .unset, .unset, .unset, .unset, .unset, .unset, .unset] [] := by first | (simp [entryFrame, mkF, argsToLocals, Value.category, maxLocals]; done) | rfl
set_option maxRecDepth 65536 in
set_option maxHeartbeats 40000000 in
theorem rm0 (l : Launch) (Z : State) (az : Array Value) (hw : ∀ d ∈ tables_1, d.before az Z = true) (ws : List Jvm.Cond) (q0 : Int64) (q1 : Int64) (q2 : Int64) (q3 : Int64) (p4 : Int32) (ca : Addr) (h0 : Heap) (n0 : Nat) (Z0 : n0 ≤ h0.size) (Ch : Cache Z Z.heap ca) (Od : Old Z n0 h0) :
    MetFree l x (head1 (Jvm.Cond.code x code maxLocals ret :: ws) room_1) (fun a U => a = #[(.long q0), (.long q1), (.long q2), (.long q3), (.int p4)] ∧ Z.Warmed39 U.vm ∧ U.heap = h0) (fun _ _ _ _ _ => True) (fun _ U o U' => ∃ v L, o = .returned v ∧ (LQ n0) v U'.heap L ∧ FrameEnd U o U' L room_1.cells room_1.slots) := by
  refine MetFree.of_bodySF (plainFor_of_name pn_3) hisR ?_
  intro p e s m args below meth c s₁ Bd hml0 hP hK
  obtain ⟨rfl, hZ, hh⟩ := hP
  have hx := Bd.exec
  have hby := Bd.bytes
  have hlk : meth.locks = false := Bd.notSynchronized
  have hml : c.maxLocals = 20 := hml0
  have hown : s.vm.findClass "com/example/offset_lookup/offsetlookup/model/OffsetAndTimestampEqualsPinLaw" = some m.cls := findClass_of_methodNamed Bd.named
  have hnm := (name_of_methodNamed Bd.named Bd.method).1
  have X0 : Stand p l e room_1 s m #[(.long q0), (.long q1), (.long q2), (.long q3), (.int p4)] below meth c s₁ [] 0 0 := Stand.of_body Bd
  have e0 : s₁.heap = h0 := by rw [← hh, Bd.state]; rfl
  have N0 := Fr.nil n0
  show Go p e below s ((LQ n0)) room_1.cells room_1.slots (s₁.setTop (entryFrame m #[(.long q0), (.long q1), (.long q2), (.long q3), (.int p4)] maxLocals))
  rw [ef_0 m q0 q1 q2 q3 p4]
  obtain ⟨c2, hj_c2⟩ : ∃ z : Int64, z = (if (p4 &&& (1 : Int32)) = (0 : Int32) then q2 else q0) := ⟨_, rfl⟩
  have stj1 : ∀ tq, Steps p.tables e below (s₁.setTop (mkF m 13 #[.val (.long q0), .second, .val (.long q1), .second, .val (.long q2), .second, .val (.long q3), .second, .val (.int p4), .unset, .unset, .unset, .unset, .unset, .unset, .unset, .unset, .unset, .unset, .unset] [(.long c2)])) tq → Steps p.tables e below (s₁.setTop (mkF m 0 #[.val (.long q0), .second, .val (.long q1), .second, .val (.long q2), .second, .val (.long q3), .second, .val (.int p4), .unset, .unset, .unset, .unset, .unset, .unset, .unset, .unset, .unset, .unset, .unset] [])) tq := by
    intro tq kj
    refine via (S' := s₁.setTop (mkF m 2 #[.val (.long q0), .second, .val (.long q1), .second, .val (.long q2), .second, .val (.long q3), .second, .val (.int p4), .unset, .unset, .unset, .unset, .unset, .unset, .unset, .unset, .unset, .unset, .unset] [(.int p4)])) (fun kk => XS.iload X0.here hx rfl (hb hby at_0) rfl kk) ?_
    refine via (S' := s₁.setTop (mkF m 3 #[.val (.long q0), .second, .val (.long q1), .second, .val (.long q2), .second, .val (.long q3), .second, .val (.int p4), .unset, .unset, .unset, .unset, .unset, .unset, .unset, .unset, .unset, .unset, .unset] [(.int (1 : Int32)), (.int p4)])) (fun kk => XS.iconst X0.here hx rfl (hb hby at_2) kk) ?_
    refine via (S' := s₁.setTop (mkF m 4 #[.val (.long q0), .second, .val (.long q1), .second, .val (.long q2), .second, .val (.long q3), .second, .val (.int p4), .unset, .unset, .unset, .unset, .unset, .unset, .unset, .unset, .unset, .unset, .unset] [(.int (p4 &&& (1 : Int32)))])) (fun kk => XS.iand X0.here hx rfl (hb hby at_3) rfl kk) ?_
    by_cases hc2 : (p4 &&& (1 : Int32)) = (0 : Int32)
    · refine via (S' := s₁.setTop (mkF m 11 #[.val (.long q0), .second, .val (.long q1), .second, .val (.long q2), .second, .val (.long q3), .second, .val (.int p4), .unset, .unset, .unset, .unset, .unset, .unset, .unset, .unset, .unset, .unset, .unset] [])) (fun kk => XS.ifYes X0.here hx rfl (pc0 := 4) (pc' := 11) rfl (hb hby at_4) rfl ((if0 _ _).trans (teq hc2).1) (by decide) (by decide) kk) ?_
      refine via (S' := s₁.setTop (mkF m 13 #[.val (.long q0), .second, .val (.long q1), .second, .val (.long q2), .second, .val (.long q3), .second, .val (.int p4), .unset, .unset, .unset, .unset, .unset, .unset, .unset, .unset, .unset, .unset, .unset] [(.long q2)])) (fun kk => XS.lload X0.here hx rfl (hb hby at_11) rfl kk) ?_
      have qj_c2 : c2 = q2 := hj_c2.trans (by rw [if_pos hc2])
      rw [qj_c2] at kj
      exact kj
    · refine via (S' := s₁.setTop (mkF m 7 #[.val (.long q0), .second, .val (.long q1), .second, .val (.long q2), .second, .val (.long q3), .second, .val (.int p4), .unset, .unset, .unset, .unset, .unset, .unset, .unset, .unset, .unset, .unset, .unset] [])) (fun kk => XS.ifNo X0.here hx rfl (hb hby at_4) rfl ((if0 _ _).trans (feq hc2).1) kk) ?_
      refine via (S' := s₁.setTop (mkF m 8 #[.val (.long q0), .second, .val (.long q1), .second, .val (.long q2), .second, .val (.long q3), .second, .val (.int p4), .unset, .unset, .unset, .unset, .unset, .unset, .unset, .unset, .unset, .unset, .unset] [(.long q0)])) (fun kk => XS.lloadN X0.here hx rfl (hb hby at_7) rfl kk) ?_
      refine via (S' := s₁.setTop (mkF m 13 #[.val (.long q0), .second, .val (.long q1), .second, .val (.long q2), .second, .val (.long q3), .second, .val (.int p4), .unset, .unset, .unset, .unset, .unset, .unset, .unset, .unset, .unset, .unset, .unset] [(.long q0)])) (fun kk => XS.goto X0.here hx rfl (pc0 := 8) (pc' := 13) rfl (hb hby at_8) (by decide) (by decide) kk) ?_
      have qj_c2 : c2 = q0 := hj_c2.trans (by rw [if_neg hc2])
      rw [qj_c2] at kj
      exact kj
  refine Go.st (S' := s₁.setTop (mkF m 13 #[.val (.long q0), .second, .val (.long q1), .second, .val (.long q2), .second, .val (.long q3), .second, .val (.int p4), .unset, .unset, .unset, .unset, .unset, .unset, .unset, .unset, .unset, .unset, .unset] [(.long c2)])) stj1 ?_
  refine Go.st (S' := s₁.setTop (mkF m 15 #[.val (.long q0), .second, .val (.long q1), .second, .val (.long q2), .second, .val (.long q3), .second, .val (.int p4), .val (.long c2), .second, .unset, .unset, .unset, .unset, .unset, .unset, .unset, .unset, .unset] [])) (fun _ kk => XS.lstore X0.here hx rfl (hb hby at_13) rfl (l' := #[.val (.long q0), .second, .val (.long q1), .second, .val (.long q2), .second, .val (.long q3), .second, .val (.int p4), .val (.long c2), .second, .unset, .unset, .unset, .unset, .unset, .unset, .unset, .unset, .unset]) rfl kk) ?_
  obtain ⟨d2, hj_d2⟩ : ∃ z : Int64, z = (if (p4 &&& (2 : Int32)) = (0 : Int32) then q3 else q1) := ⟨_, rfl⟩
  have stj3 : ∀ tq, Steps p.tables e below (s₁.setTop (mkF m 28 #[.val (.long q0), .second, .val (.long q1), .second, .val (.long q2), .second, .val (.long q3), .second, .val (.int p4), .val (.long c2), .second, .unset, .unset, .unset, .unset, .unset, .unset, .unset, .unset, .unset] [(.long d2)])) tq → Steps p.tables e below (s₁.setTop (mkF m 15 #[.val (.long q0), .second, .val (.long q1), .second, .val (.long q2), .second, .val (.long q3), .second, .val (.int p4), .val (.long c2), .second, .unset, .unset, .unset, .unset, .unset, .unset, .unset, .unset, .unset] [])) tq := by
    intro tq kj
    refine via (S' := s₁.setTop (mkF m 17 #[.val (.long q0), .second, .val (.long q1), .second, .val (.long q2), .second, .val (.long q3), .second, .val (.int p4), .val (.long c2), .second, .unset, .unset, .unset, .unset, .unset, .unset, .unset, .unset, .unset] [(.int p4)])) (fun kk => XS.iload X0.here hx rfl (hb hby at_15) rfl kk) ?_
    refine via (S' := s₁.setTop (mkF m 18 #[.val (.long q0), .second, .val (.long q1), .second, .val (.long q2), .second, .val (.long q3), .second, .val (.int p4), .val (.long c2), .second, .unset, .unset, .unset, .unset, .unset, .unset, .unset, .unset, .unset] [(.int (2 : Int32)), (.int p4)])) (fun kk => XS.iconst X0.here hx rfl (hb hby at_17) kk) ?_
    refine via (S' := s₁.setTop (mkF m 19 #[.val (.long q0), .second, .val (.long q1), .second, .val (.long q2), .second, .val (.long q3), .second, .val (.int p4), .val (.long c2), .second, .unset, .unset, .unset, .unset, .unset, .unset, .unset, .unset, .unset] [(.int (p4 &&& (2 : Int32)))])) (fun kk => XS.iand X0.here hx rfl (hb hby at_18) rfl kk) ?_
    by_cases hc4 : (p4 &&& (2 : Int32)) = (0 : Int32)
    · refine via (S' := s₁.setTop (mkF m 26 #[.val (.long q0), .second, .val (.long q1), .second, .val (.long q2), .second, .val (.long q3), .second, .val (.int p4), .val (.long c2), .second, .unset, .unset, .unset, .unset, .unset, .unset, .unset, .unset, .unset] [])) (fun kk => XS.ifYes X0.here hx rfl (pc0 := 19) (pc' := 26) rfl (hb hby at_19) rfl ((if0 _ _).trans (teq hc4).1) (by decide) (by decide) kk) ?_
      refine via (S' := s₁.setTop (mkF m 28 #[.val (.long q0), .second, .val (.long q1), .second, .val (.long q2), .second, .val (.long q3), .second, .val (.int p4), .val (.long c2), .second, .unset, .unset, .unset, .unset, .unset, .unset, .unset, .unset, .unset] [(.long q3)])) (fun kk => XS.lload X0.here hx rfl (hb hby at_26) rfl kk) ?_
      have qj_d2 : d2 = q3 := hj_d2.trans (by rw [if_pos hc4])
      rw [qj_d2] at kj
      exact kj
    · refine via (S' := s₁.setTop (mkF m 22 #[.val (.long q0), .second, .val (.long q1), .second, .val (.long q2), .second, .val (.long q3), .second, .val (.int p4), .val (.long c2), .second, .unset, .unset, .unset, .unset, .unset, .unset, .unset, .unset, .unset] [])) (fun kk => XS.ifNo X0.here hx rfl (hb hby at_19) rfl ((if0 _ _).trans (feq hc4).1) kk) ?_
      refine via (S' := s₁.setTop (mkF m 23 #[.val (.long q0), .second, .val (.long q1), .second, .val (.long q2), .second, .val (.long q3), .second, .val (.int p4), .val (.long c2), .second, .unset, .unset, .unset, .unset, .unset, .unset, .unset, .unset, .unset] [(.long q1)])) (fun kk => XS.lloadN X0.here hx rfl (hb hby at_22) rfl kk) ?_
      refine via (S' := s₁.setTop (mkF m 28 #[.val (.long q0), .second, .val (.long q1), .second, .val (.long q2), .second, .val (.long q3), .second, .val (.int p4), .val (.long c2), .second, .unset, .unset, .unset, .unset, .unset, .unset, .unset, .unset, .unset] [(.long q1)])) (fun kk => XS.goto X0.here hx rfl (pc0 := 23) (pc' := 28) rfl (hb hby at_23) (by decide) (by decide) kk) ?_
      have qj_d2 : d2 = q1 := hj_d2.trans (by rw [if_neg hc4])
      rw [qj_d2] at kj
      exact kj
  refine Go.st (S' := s₁.setTop (mkF m 28 #[.val (.long q0), .second, .val (.long q1), .second, .val (.long q2), .second, .val (.long q3), .second, .val (.int p4), .val (.long c2), .second, .unset, .unset, .unset, .unset, .unset, .unset, .unset, .unset, .unset] [(.long d2)])) stj3 ?_
  refine Go.st (S' := s₁.setTop (mkF m 30 #[.val (.long q0), .second, .val (.long q1), .second, .val (.long q2), .second, .val (.long q3), .second, .val (.int p4), .val (.long c2), .second, .val (.long d2), .second, .unset, .unset, .unset, .unset, .unset, .unset, .unset] [])) (fun _ kk => XS.lstore X0.here hx rfl (hb hby at_28) rfl (l' := #[.val (.long q0), .second, .val (.long q1), .second, .val (.long q2), .second, .val (.long q3), .second, .val (.int p4), .val (.long c2), .second, .val (.long d2), .second, .unset, .unset, .unset, .unset, .unset, .unset, .unset]) rfl kk) ?_
  obtain ⟨T5, h5, X5, e5, E5, A5, D5, -, st5⟩ := newO X0 hx hZ hown (hw _ (List.mem_of_getElem? (i := 0) rfl)) (hw _ (List.mem_of_getElem? (i := 1) rfl)) (hw _ (List.mem_of_getElem? (i := 2) rfl)) e0 (g := (mkF m 30 #[.val (.long q0), .second, .val (.long q1), .second, .val (.long q2), .second, .val (.long q3), .second, .val (.int p4), .val (.long c2), .second, .val (.long d2), .second, .unset, .unset, .unset, .unset, .unset, .unset, .unset] [])) rfl (hb hby at_30) (by decide : 0 + 1 ≤ _) (by decide : 0 + 2 ≤ _)
  obtain ⟨b5, g5⟩ : ∃ z, z = h0.size := ⟨_, rfl⟩
  rw [← g5] at A5 D5 st5
  have g_b5 : n0 ≤ b5 := Nat.le_trans Z0 (Nat.le_of_eq g5.symm)
  have Od := Od.ext E5
  have Zs6 := Nat.le_trans Z0 E5.1
  have E_b5 := A5
  have F_offset_b5 : Fld Z h5 b5 "com/example/offset_lookup/offsetlookup/model/OffsetAndTimestamp" "offset" "J" (.long (0 : Int64)) := D5 (Or.inr (hw _ (List.mem_of_getElem? (i := 10) rfl))) (ty := .long) (by decide)
  have F_timestamp_b5 : Fld Z h5 b5 "com/example/offset_lookup/offsetlookup/model/OffsetAndTimestamp" "timestamp" "J" (.long (0 : Int64)) := D5 (Or.inr (hw _ (List.mem_of_getElem? (i := 12) rfl))) (ty := .long) (by decide)
  refine Go.st (S' := T5.setTop (mkF m 33 #[.val (.long q0), .second, .val (.long q1), .second, .val (.long q2), .second, .val (.long q3), .second, .val (.int p4), .val (.long c2), .second, .val (.long d2), .second, .unset, .unset, .unset, .unset, .unset, .unset, .unset] [(.ref b5)])) st5 ?_
  refine Go.st (S' := T5.setTop (mkF m 34 #[.val (.long q0), .second, .val (.long q1), .second, .val (.long q2), .second, .val (.long q3), .second, .val (.int p4), .val (.long c2), .second, .val (.long d2), .second, .unset, .unset, .unset, .unset, .unset, .unset, .unset] [(.ref b5), (.ref b5)])) (fun _ kk => XS.dup X5.here hx rfl (hb hby at_33) rfl rfl kk) ?_
  refine Go.st (S' := T5.setTop (mkF m 35 #[.val (.long q0), .second, .val (.long q1), .second, .val (.long q2), .second, .val (.long q3), .second, .val (.int p4), .val (.long c2), .second, .val (.long d2), .second, .unset, .unset, .unset, .unset, .unset, .unset, .unset] [(.long q0), (.ref b5), (.ref b5)])) (fun _ kk => XS.lloadN X5.here hx rfl (hb hby at_34) rfl kk) ?_
  refine Go.st (S' := T5.setTop (mkF m 36 #[.val (.long q0), .second, .val (.long q1), .second, .val (.long q2), .second, .val (.long q3), .second, .val (.int p4), .val (.long c2), .second, .val (.long d2), .second, .unset, .unset, .unset, .unset, .unset, .unset, .unset] [(.long q1), (.long q0), (.ref b5), (.ref b5)])) (fun _ kk => XS.lloadN X5.here hx rfl (hb hby at_35) rfl kk) ?_
  obtain ⟨_, _, ⟨T7, L7, k7, n7⟩, -, X7, ⟨Lc7, hQ7, l7, y7, z7⟩, st7⟩ := X5.specialBack hx (y := (⟨"com/example/offset_lookup/offsetlookup/model/OffsetAndTimestamp", "<init>", "(JJ)V"⟩ : MethodName)) rfl hown (mvT hZ (hw _ (List.mem_of_getElem? (i := 3) rfl))) (mvT hZ (hw _ (List.mem_of_getElem? (i := 4) rfl))) (mvT hZ (hw _ (List.mem_of_getElem? (i := 5) rfl))) (by decide) (backOf (W := 1) (rmC l Z az hw [] b5 q0 q1 h5 n0 Zs6 E_b5 g_b5 F_offset_b5 F_timestamp_b5) hZ (hw _ (List.mem_of_getElem? (i := 5) rfl)) (hw _ (List.mem_of_getElem? (i := 2) rfl)) (by decide) (by decide)) (g := (mkF m 36 #[.val (.long q0), .second, .val (.long q1), .second, .val (.long q2), .second, .val (.long q3), .second, .val (.int p4), .val (.long c2), .second, .val (.long d2), .second, .unset, .unset, .unset, .unset, .unset, .unset, .unset] [(.long q1), (.long q0), (.ref b5), (.ref b5)])) rfl (by rw [hml]; rfl) (Steps.refl _) (a := b5) (argsL := [(.long q0), (.long q1)]) (rest := [(.ref b5)]) (lenOf pd_0 rfl) rfl (by show 2 * 0 + _ ≤ _; exact Nat.le_of_eq rfl) (hb hby at_36) (fun _ _ => ⟨rfl, e5, (by decide : 1 + 0 ≤ _), (by decide : 2 + 0 ≤ _)⟩)
  dsimp only [Pt.U, Pt.locs, Pt.cells, Pt.slots] at X7 l7 y7 z7 st7 hQ7
  subst l7 y7 z7
  obtain ⟨rfl, N7q, K7, Ec7, Fc7_0, Fc7_1⟩ := hQ7
  have N7 := Fr.app N0 N7q
  have Od := Od.keep K7 (allS g_b5 all0)
  have E_b5 := E_b5.keep K7
  have Zs8 := Nat.le_trans Zs6 K7.1
  refine Go.tr (S' := T7.setTop (mkF m 39 #[.val (.long q0), .second, .val (.long q1), .second, .val (.long q2), .second, .val (.long q3), .second, .val (.int p4), .val (.long c2), .second, .val (.long d2), .second, .unset, .unset, .unset, .unset, .unset, .unset, .unset] [(.ref b5)])) st7 ?_
  refine Go.st (S' := T7.setTop (mkF m 41 #[.val (.long q0), .second, .val (.long q1), .second, .val (.long q2), .second, .val (.long q3), .second, .val (.int p4), .val (.long c2), .second, .val (.long d2), .second, .val (.ref b5), .unset, .unset, .unset, .unset, .unset, .unset] [])) (fun _ kk => XS.astore X7.here hx rfl (hb hby at_39) rfl rfl (l' := #[.val (.long q0), .second, .val (.long q1), .second, .val (.long q2), .second, .val (.long q3), .second, .val (.int p4), .val (.long c2), .second, .val (.long d2), .second, .val (.ref b5), .unset, .unset, .unset, .unset, .unset, .unset]) rfl kk) ?_
  obtain ⟨T9, h9, X9, e9, E9, A9, D9, -, st9⟩ := newO X7 hx hZ hown (hw _ (List.mem_of_getElem? (i := 0) rfl)) (hw _ (List.mem_of_getElem? (i := 1) rfl)) (hw _ (List.mem_of_getElem? (i := 2) rfl)) rfl (g := (mkF m 41 #[.val (.long q0), .second, .val (.long q1), .second, .val (.long q2), .second, .val (.long q3), .second, .val (.int p4), .val (.long c2), .second, .val (.long d2), .second, .val (.ref b5), .unset, .unset, .unset, .unset, .unset, .unset] [])) rfl (hb hby at_41) (by decide : 1 + 1 ≤ _) (by decide : 2 + 2 ≤ _)
  obtain ⟨b9, g9⟩ : ∃ z, z = T7.heap.size := ⟨_, rfl⟩
  rw [← g9] at A9 D9 st9
  have ne_b5_b9 : b5 ≠ b9 := Nat.ne_of_lt (Nat.lt_of_lt_of_le E_b5.lt (Nat.le_of_eq g9.symm))
  have g_b9 : n0 ≤ b9 := Nat.le_trans Zs8 (Nat.le_of_eq g9.symm)
  have Od := Od.ext E9
  have E_b5 := E_b5.ext E9
  have Fc7_0 := Fc7_0.ext E9
  have Fc7_1 := Fc7_1.ext E9
  have Zs10 := Nat.le_trans Zs8 E9.1
  have E_b9 := A9
  have F_offset_b9 : Fld Z h9 b9 "com/example/offset_lookup/offsetlookup/model/OffsetAndTimestamp" "offset" "J" (.long (0 : Int64)) := D9 (Or.inr (hw _ (List.mem_of_getElem? (i := 10) rfl))) (ty := .long) (by decide)
  have F_timestamp_b9 : Fld Z h9 b9 "com/example/offset_lookup/offsetlookup/model/OffsetAndTimestamp" "timestamp" "J" (.long (0 : Int64)) := D9 (Or.inr (hw _ (List.mem_of_getElem? (i := 12) rfl))) (ty := .long) (by decide)
  refine Go.st (S' := T9.setTop (mkF m 44 #[.val (.long q0), .second, .val (.long q1), .second, .val (.long q2), .second, .val (.long q3), .second, .val (.int p4), .val (.long c2), .second, .val (.long d2), .second, .val (.ref b5), .unset, .unset, .unset, .unset, .unset, .unset] [(.ref b9)])) st9 ?_
  refine Go.st (S' := T9.setTop (mkF m 45 #[.val (.long q0), .second, .val (.long q1), .second, .val (.long q2), .second, .val (.long q3), .second, .val (.int p4), .val (.long c2), .second, .val (.long d2), .second, .val (.ref b5), .unset, .unset, .unset, .unset, .unset, .unset] [(.ref b9), (.ref b9)])) (fun _ kk => XS.dup X9.here hx rfl (hb hby at_44) rfl rfl kk) ?_
  refine Go.st (S' := T9.setTop (mkF m 47 #[.val (.long q0), .second, .val (.long q1), .second, .val (.long q2), .second, .val (.long q3), .second, .val (.int p4), .val (.long c2), .second, .val (.long d2), .second, .val (.ref b5), .unset, .unset, .unset, .unset, .unset, .unset] [(.long c2), (.ref b9), (.ref b9)])) (fun _ kk => XS.lload X9.here hx rfl (hb hby at_45) rfl kk) ?_
  refine Go.st (S' := T9.setTop (mkF m 49 #[.val (.long q0), .second, .val (.long q1), .second, .val (.long q2), .second, .val (.long q3), .second, .val (.int p4), .val (.long c2), .second, .val (.long d2), .second, .val (.ref b5), .unset, .unset, .unset, .unset, .unset, .unset] [(.long d2), (.long c2), (.ref b9), (.ref b9)])) (fun _ kk => XS.lload X9.here hx rfl (hb hby at_47) rfl kk) ?_
  obtain ⟨_, _, ⟨T11, L11, k11, n11⟩, -, X11, ⟨Lc11, hQ11, l11, y11, z11⟩, st11⟩ := X9.specialBack hx (y := (⟨"com/example/offset_lookup/offsetlookup/model/OffsetAndTimestamp", "<init>", "(JJ)V"⟩ : MethodName)) rfl hown (mvT hZ (hw _ (List.mem_of_getElem? (i := 3) rfl))) (mvT hZ (hw _ (List.mem_of_getElem? (i := 4) rfl))) (mvT hZ (hw _ (List.mem_of_getElem? (i := 5) rfl))) (by decide) (backOf (W := 1) (rmC l Z az hw [] b9 c2 d2 h9 n0 Zs10 E_b9 g_b9 F_offset_b9 F_timestamp_b9) hZ (hw _ (List.mem_of_getElem? (i := 5) rfl)) (hw _ (List.mem_of_getElem? (i := 2) rfl)) (by decide) (by decide)) (g := (mkF m 49 #[.val (.long q0), .second, .val (.long q1), .second, .val (.long q2), .second, .val (.long q3), .second, .val (.int p4), .val (.long c2), .second, .val (.long d2), .second, .val (.ref b5), .unset, .unset, .unset, .unset, .unset, .unset] [(.long d2), (.long c2), (.ref b9), (.ref b9)])) rfl (by rw [hml]; rfl) (Steps.refl _) (a := b9) (argsL := [(.long c2), (.long d2)]) (rest := [(.ref b9)]) (lenOf pd_0 rfl) rfl (by show 2 * 0 + _ ≤ _; exact Nat.le_of_eq rfl) (hb hby at_49) (fun _ _ => ⟨rfl, e9, (by decide : 2 + 0 ≤ _), (by decide : 4 + 0 ≤ _)⟩)
  dsimp only [Pt.U, Pt.locs, Pt.cells, Pt.slots] at X11 l11 y11 z11 st11 hQ11
  subst l11 y11 z11
  obtain ⟨rfl, N11q, K11, Ec11, Fc11_0, Fc11_1⟩ := hQ11
  have N11 := Fr.app N7 N11q
  have Od := Od.keep K11 (allS g_b9 all0)
  have E_b5 := E_b5.keep K11
  have Fc7_0 := Fc7_0.keep K11 (ninS ne_b5_b9 nin0)
  have Fc7_1 := Fc7_1.keep K11 (ninS ne_b5_b9 nin0)
  have E_b9 := E_b9.keep K11
  have Zs12 := Nat.le_trans Zs10 K11.1
  refine Go.tr (S' := T11.setTop (mkF m 52 #[.val (.long q0), .second, .val (.long q1), .second, .val (.long q2), .second, .val (.long q3), .second, .val (.int p4), .val (.long c2), .second, .val (.long d2), .second, .val (.ref b5), .unset, .unset, .unset, .unset, .unset, .unset] [(.ref b9)])) st11 ?_
  refine Go.st (S' := T11.setTop (mkF m 54 #[.val (.long q0), .second, .val (.long q1), .second, .val (.long q2), .second, .val (.long q3), .second, .val (.int p4), .val (.long c2), .second, .val (.long d2), .second, .val (.ref b5), .val (.ref b9), .unset, .unset, .unset, .unset, .unset] [])) (fun _ kk => XS.astore X11.here hx rfl (hb hby at_52) rfl rfl (l' := #[.val (.long q0), .second, .val (.long q1), .second, .val (.long q2), .second, .val (.long q3), .second, .val (.int p4), .val (.long c2), .second, .val (.long d2), .second, .val (.ref b5), .val (.ref b9), .unset, .unset, .unset, .unset, .unset]) rfl kk) ?_
  refine Go.st (S' := T11.setTop (mkF m 56 #[.val (.long q0), .second, .val (.long q1), .second, .val (.long q2), .second, .val (.long q3), .second, .val (.int p4), .val (.long c2), .second, .val (.long d2), .second, .val (.ref b5), .val (.ref b9), .unset, .unset, .unset, .unset, .unset] [(.long c2)])) (fun _ kk => XS.lload X11.here hx rfl (hb hby at_54) rfl kk) ?_
  refine Go.st (S' := T11.setTop (mkF m 57 #[.val (.long q0), .second, .val (.long q1), .second, .val (.long q2), .second, .val (.long q3), .second, .val (.int p4), .val (.long c2), .second, .val (.long d2), .second, .val (.ref b5), .val (.ref b9), .unset, .unset, .unset, .unset, .unset] [(.long q0), (.long c2)])) (fun _ kk => XS.lloadN X11.here hx rfl (hb hby at_56) rfl kk) ?_
  refine Go.st (S' := T11.setTop (mkF m 58 #[.val (.long q0), .second, .val (.long q1), .second, .val (.long q2), .second, .val (.long q3), .second, .val (.int p4), .val (.long c2), .second, .val (.long d2), .second, .val (.ref b5), .val (.ref b9), .unset, .unset, .unset, .unset, .unset] [(.int (lcmpW c2 q0))])) (fun _ kk => XS.lcmp X11.here hx rfl (hb hby at_57) rfl kk) ?_
  by_cases hc13 : c2 = q0
  · refine Go.st (S' := T11.setTop (mkF m 61 #[.val (.long q0), .second, .val (.long q1), .second, .val (.long q2), .second, .val (.long q3), .second, .val (.int p4), .val (.long c2), .second, .val (.long d2), .second, .val (.ref b5), .val (.ref b9), .unset, .unset, .unset, .unset, .unset] [])) (fun _ kk => XS.ifNo X11.here hx rfl (hb hby at_58) rfl ((if0 _ _).trans (teq ((lw_eq c2 q0).mpr hc13)).2) kk) ?_
    refine Go.st (S' := T11.setTop (mkF m 63 #[.val (.long q0), .second, .val (.long q1), .second, .val (.long q2), .second, .val (.long q3), .second, .val (.int p4), .val (.long c2), .second, .val (.long d2), .second, .val (.ref b5), .val (.ref b9), .unset, .unset, .unset, .unset, .unset] [(.long d2)])) (fun _ kk => XS.lload X11.here hx rfl (hb hby at_61) rfl kk) ?_
    refine Go.st (S' := T11.setTop (mkF m 64 #[.val (.long q0), .second, .val (.long q1), .second, .val (.long q2), .second, .val (.long q3), .second, .val (.int p4), .val (.long c2), .second, .val (.long d2), .second, .val (.ref b5), .val (.ref b9), .unset, .unset, .unset, .unset, .unset] [(.long q1), (.long d2)])) (fun _ kk => XS.lloadN X11.here hx rfl (hb hby at_63) rfl kk) ?_
    refine Go.st (S' := T11.setTop (mkF m 65 #[.val (.long q0), .second, .val (.long q1), .second, .val (.long q2), .second, .val (.long q3), .second, .val (.int p4), .val (.long c2), .second, .val (.long d2), .second, .val (.ref b5), .val (.ref b9), .unset, .unset, .unset, .unset, .unset] [(.int (lcmpW d2 q1))])) (fun _ kk => XS.lcmp X11.here hx rfl (hb hby at_64) rfl kk) ?_
    by_cases hc14 : d2 = q1
    · refine Go.st (S' := T11.setTop (mkF m 68 #[.val (.long q0), .second, .val (.long q1), .second, .val (.long q2), .second, .val (.long q3), .second, .val (.int p4), .val (.long c2), .second, .val (.long d2), .second, .val (.ref b5), .val (.ref b9), .unset, .unset, .unset, .unset, .unset] [])) (fun _ kk => XS.ifNo X11.here hx rfl (hb hby at_65) rfl ((if0 _ _).trans (teq ((lw_eq d2 q1).mpr hc14)).2) kk) ?_
      refine Go.st (S' := T11.setTop (mkF m 69 #[.val (.long q0), .second, .val (.long q1), .second, .val (.long q2), .second, .val (.long q3), .second, .val (.int p4), .val (.long c2), .second, .val (.long d2), .second, .val (.ref b5), .val (.ref b9), .unset, .unset, .unset, .unset, .unset] [(.int (1 : Int32))])) (fun _ kk => XS.iconst X11.here hx rfl (hb hby at_68) kk) ?_
      refine Go.st (S' := T11.setTop (mkF m 73 #[.val (.long q0), .second, .val (.long q1), .second, .val (.long q2), .second, .val (.long q3), .second, .val (.int p4), .val (.long c2), .second, .val (.long d2), .second, .val (.ref b5), .val (.ref b9), .unset, .unset, .unset, .unset, .unset] [(.int (1 : Int32))])) (fun _ kk => XS.goto X11.here hx rfl (pc0 := 69) (pc' := 73) rfl (hb hby at_69) (by decide) (by decide) kk) ?_
      refine Go.st (S' := T11.setTop (mkF m 75 #[.val (.long q0), .second, .val (.long q1), .second, .val (.long q2), .second, .val (.long q3), .second, .val (.int p4), .val (.long c2), .second, .val (.long d2), .second, .val (.ref b5), .val (.ref b9), .val (.int (1 : Int32)), .unset, .unset, .unset, .unset] [])) (fun _ kk => XS.istore X11.here hx rfl (hb hby at_73) rfl (l' := #[.val (.long q0), .second, .val (.long q1), .second, .val (.long q2), .second, .val (.long q3), .second, .val (.int p4), .val (.long c2), .second, .val (.long d2), .second, .val (.ref b5), .val (.ref b9), .val (.int (1 : Int32)), .unset, .unset, .unset, .unset]) rfl kk) ?_
      refine Go.st (S' := T11.setTop (mkF m 77 #[.val (.long q0), .second, .val (.long q1), .second, .val (.long q2), .second, .val (.long q3), .second, .val (.int p4), .val (.long c2), .second, .val (.long d2), .second, .val (.ref b5), .val (.ref b9), .val (.int (1 : Int32)), .unset, .unset, .unset, .unset] [(.int p4)])) (fun _ kk => XS.iload X11.here hx rfl (hb hby at_75) rfl kk) ?_
      refine Go.st (S' := T11.setTop (mkF m 78 #[.val (.long q0), .second, .val (.long q1), .second, .val (.long q2), .second, .val (.long q3), .second, .val (.int p4), .val (.long c2), .second, .val (.long d2), .second, .val (.ref b5), .val (.ref b9), .val (.int (1 : Int32)), .unset, .unset, .unset, .unset] [(.int (4 : Int32)), (.int p4)])) (fun _ kk => XS.iconst X11.here hx rfl (hb hby at_77) kk) ?_
      refine Go.st (S' := T11.setTop (mkF m 79 #[.val (.long q0), .second, .val (.long q1), .second, .val (.long q2), .second, .val (.long q3), .second, .val (.int p4), .val (.long c2), .second, .val (.long d2), .second, .val (.ref b5), .val (.ref b9), .val (.int (1 : Int32)), .unset, .unset, .unset, .unset] [(.int (p4 &&& (4 : Int32)))])) (fun _ kk => XS.iand X11.here hx rfl (hb hby at_78) rfl kk) ?_
      by_cases hc15 : (p4 &&& (4 : Int32)) = (0 : Int32)
      · refine Go.st (S' := T11.setTop (mkF m 86 #[.val (.long q0), .second, .val (.long q1), .second, .val (.long q2), .second, .val (.long q3), .second, .val (.int p4), .val (.long c2), .second, .val (.long d2), .second, .val (.ref b5), .val (.ref b9), .val (.int (1 : Int32)), .unset, .unset, .unset, .unset] [])) (fun _ kk => XS.ifYes X11.here hx rfl (pc0 := 79) (pc' := 86) rfl (hb hby at_79) rfl ((if0 _ _).trans (teq hc15).1) (by decide) (by decide) kk) ?_
        refine Go.st (S' := T11.setTop (mkF m 87 #[.val (.long q0), .second, .val (.long q1), .second, .val (.long q2), .second, .val (.long q3), .second, .val (.int p4), .val (.long c2), .second, .val (.long d2), .second, .val (.ref b5), .val (.ref b9), .val (.int (1 : Int32)), .unset, .unset, .unset, .unset] [(.long q0)])) (fun _ kk => XS.lloadN X11.here hx rfl (hb hby at_86) rfl kk) ?_
        obtain ⟨_, _, ⟨T16, L16, k16, n16⟩, -, X16, ⟨Lc16, hQ16, l16, y16, z16⟩, st16⟩ := Jvm.LawKit.callS X11 hx (y := (⟨"java/lang/Long", "valueOf", "(J)Ljava/lang/Long;"⟩ : MethodName)) hown (mvT hZ (hw _ (List.mem_of_getElem? (i := 13) rfl))) (mvT hZ (hw _ (List.mem_of_getElem? (i := 14) rfl))) (mvT hZ (hw _ (List.mem_of_getElem? (i := 15) rfl))) (mvT hZ (hw _ (List.mem_of_getElem? (i := 16) rfl))) (by decide) (backOf (W := 0) (rmVal l Z az hw [] q0 ca T11.heap n0 Zs12 (Ch.ext Od.2)) hZ (hw _ (List.mem_of_getElem? (i := 16) rfl)) (hw _ (List.mem_of_getElem? (i := 15) rfl)) (by decide) (by decide)) (g := (mkF m 87 #[.val (.long q0), .second, .val (.long q1), .second, .val (.long q2), .second, .val (.long q3), .second, .val (.int p4), .val (.long c2), .second, .val (.long d2), .second, .val (.ref b5), .val (.ref b9), .val (.int (1 : Int32)), .unset, .unset, .unset, .unset] [(.long q0)])) rfl (by rw [hml]; rfl) (argsL := [(.long q0)]) (rest := []) (lenOf pd_2 rfl) rfl (by show 2 * 0 + _ ≤ _; exact Nat.le_of_eq rfl) (hb hby at_87) (fun _ _ => ⟨rfl, rfl, (by decide : 2 + 1 ≤ _), (by decide : 4 + 1 ≤ _)⟩)
        dsimp only [Pt.U, Pt.locs, Pt.cells, Pt.slots] at X16 l16 y16 z16 st16 hQ16
        subst l16 y16 z16
        obtain ⟨r16, rfl, N16q, K16, Er16⟩ := hQ16
        have N16 := Fr.app N11 N16q
        have Od := Od.keep K16 all0
        have E_b5 := E_b5.keep K16
        have Fc7_0 := Fc7_0.keep K16 nin0
        have Fc7_1 := Fc7_1.keep K16 nin0
        have E_b9 := E_b9.keep K16
        have Fc11_0 := Fc11_0.keep K16 nin0
        have Fc11_1 := Fc11_1.keep K16 nin0
        have Zs17 := Nat.le_trans Zs12 K16.1
        refine Go.st (S' := T16.setTop (mkF m 90 #[.val (.long q0), .second, .val (.long q1), .second, .val (.long q2), .second, .val (.long q3), .second, .val (.int p4), .val (.long c2), .second, .val (.long d2), .second, .val (.ref b5), .val (.ref b9), .val (.int (1 : Int32)), .unset, .unset, .unset, .unset] [(.ref r16)])) st16 ?_
        refine Go.st (S' := T16.setTop (mkF m 92 #[.val (.long q0), .second, .val (.long q1), .second, .val (.long q2), .second, .val (.long q3), .second, .val (.int p4), .val (.long c2), .second, .val (.long d2), .second, .val (.ref b5), .val (.ref b9), .val (.int (1 : Int32)), .val (.ref r16), .unset, .unset, .unset] [])) (fun _ kk => XS.astore X16.here hx rfl (hb hby at_90) rfl rfl (l' := #[.val (.long q0), .second, .val (.long q1), .second, .val (.long q2), .second, .val (.long q3), .second, .val (.int p4), .val (.long c2), .second, .val (.long d2), .second, .val (.ref b5), .val (.ref b9), .val (.int (1 : Int32)), .val (.ref r16), .unset, .unset, .unset]) rfl kk) ?_
        refine Go.st (S' := T16.setTop (mkF m 94 #[.val (.long q0), .second, .val (.long q1), .second, .val (.long q2), .second, .val (.long q3), .second, .val (.int p4), .val (.long c2), .second, .val (.long d2), .second, .val (.ref b5), .val (.ref b9), .val (.int (1 : Int32)), .val (.ref r16), .unset, .unset, .unset] [(.ref b5)])) (fun _ kk => XS.aload X16.here hx rfl (hb hby at_92) rfl rfl kk) ?_
        refine Go.st (S' := T16.setTop (mkF m 96 #[.val (.long q0), .second, .val (.long q1), .second, .val (.long q2), .second, .val (.long q3), .second, .val (.int p4), .val (.long c2), .second, .val (.long d2), .second, .val (.ref b5), .val (.ref b9), .val (.int (1 : Int32)), .val (.ref r16), .unset, .unset, .unset] [(.ref b9), (.ref b5)])) (fun _ kk => XS.aload X16.here hx rfl (hb hby at_94) rfl rfl kk) ?_
        obtain ⟨cq18, kq18, q18a, q18b, q18c⟩ := isOf hZ rfl E_b5
        obtain ⟨_, _, ⟨T18, L18, k18, n18⟩, -, X18, ⟨Lc18, hQ18, l18, y18, z18⟩, st18⟩ := X16.virtualBack hx (y := (⟨"com/example/offset_lookup/offsetlookup/model/OffsetAndTimestamp", "equals", "(Ljava/lang/Object;)Z"⟩ : MethodName)) (z := (⟨"com/example/offset_lookup/offsetlookup/model/OffsetAndTimestamp", "equals", "(Ljava/lang/Object;)Z"⟩ : MethodName)) hown (mvT hZ (hw _ (List.mem_of_getElem? (i := 21) rfl))) (mvT hZ (hw _ (List.mem_of_getElem? (i := 22) rfl))) (notFace_of_selects (args := #[]) (mvT hZ (hw _ (List.mem_of_getElem? (i := 24) rfl)))) (mvT hZ (hw _ (List.mem_of_getElem? (i := 24) rfl))) (mvT hZ (hw _ (List.mem_of_getElem? (i := 23) rfl))) (by decide) (backOf (W := 0) (rmEq l Z az hw [] b5 b9 q0 q1 c2 d2 T16.heap n0 Zs17 E_b5 Fc7_0 Fc7_1 E_b9 Fc11_0 Fc11_1) hZ (hw _ (List.mem_of_getElem? (i := 25) rfl)) (hw _ (List.mem_of_getElem? (i := 2) rfl)) (by decide) (by decide)) q18a q18c (g := (mkF m 96 #[.val (.long q0), .second, .val (.long q1), .second, .val (.long q2), .second, .val (.long q3), .second, .val (.int p4), .val (.long c2), .second, .val (.long d2), .second, .val (.ref b5), .val (.ref b9), .val (.int (1 : Int32)), .val (.ref r16), .unset, .unset, .unset] [(.ref b9), (.ref b5)])) rfl (by rw [hml]; rfl) (Steps.refl _) (argsL := [(.ref b9)]) (rest := []) (lenOf pd_3 rfl) rfl (by show 2 * 0 + _ ≤ _; exact Nat.le_of_eq rfl) (hb hby at_96) (fun _ _ => ⟨rfl, rfl, (by decide : 3 + 0 ≤ _), (by decide : 5 + 0 ≤ _)⟩)
        dsimp only [Pt.U, Pt.locs, Pt.cells, Pt.slots] at X18 l18 y18 z18 st18 hQ18
        subst l18 y18 z18
        obtain ⟨hv18, N18q, e18⟩ := hQ18
        rw [show fEq q0 q1 c2 d2 = (1 : Int32) from by unfold fEq; rw [if_pos (Eq.symm hc13), if_pos (Eq.symm hc14)]] at hv18
        subst hv18
        have N18 := Fr.app N16 N18q
        refine Go.tr (S' := T18.setTop (mkF m 99 #[.val (.long q0), .second, .val (.long q1), .second, .val (.long q2), .second, .val (.long q3), .second, .val (.int p4), .val (.long c2), .second, .val (.long d2), .second, .val (.ref b5), .val (.ref b9), .val (.int (1 : Int32)), .val (.ref r16), .unset, .unset, .unset] [(.int (1 : Int32))])) st18 ?_
        refine Go.st (S' := T18.setTop (mkF m 101 #[.val (.long q0), .second, .val (.long q1), .second, .val (.long q2), .second, .val (.long q3), .second, .val (.int p4), .val (.long c2), .second, .val (.long d2), .second, .val (.ref b5), .val (.ref b9), .val (.int (1 : Int32)), .val (.ref r16), .unset, .unset, .unset] [(.int (1 : Int32)), (.int (1 : Int32))])) (fun _ kk => XS.iload X18.here hx rfl (hb hby at_99) rfl kk) ?_
        refine Go.st (S' := T18.setTop (mkF m 104 #[.val (.long q0), .second, .val (.long q1), .second, .val (.long q2), .second, .val (.long q3), .second, .val (.int p4), .val (.long c2), .second, .val (.long d2), .second, .val (.ref b5), .val (.ref b9), .val (.int (1 : Int32)), .val (.ref r16), .unset, .unset, .unset] [])) (fun _ kk => XS.icmpNo X18.here hx rfl (hb hby at_101) rfl (teq (by decide : (1 : Int32) = (1 : Int32))).2 kk) ?_
        refine Go.st (S' := T18.setTop (mkF m 105 #[.val (.long q0), .second, .val (.long q1), .second, .val (.long q2), .second, .val (.long q3), .second, .val (.int p4), .val (.long c2), .second, .val (.long d2), .second, .val (.ref b5), .val (.ref b9), .val (.int (1 : Int32)), .val (.ref r16), .unset, .unset, .unset] [(.int (1 : Int32))])) (fun _ kk => XS.iconst X18.here hx rfl (hb hby at_104) kk) ?_
        refine Go.st (S' := T18.setTop (mkF m 109 #[.val (.long q0), .second, .val (.long q1), .second, .val (.long q2), .second, .val (.long q3), .second, .val (.int p4), .val (.long c2), .second, .val (.long d2), .second, .val (.ref b5), .val (.ref b9), .val (.int (1 : Int32)), .val (.ref r16), .unset, .unset, .unset] [(.int (1 : Int32))])) (fun _ kk => XS.goto X18.here hx rfl (pc0 := 105) (pc' := 109) rfl (hb hby at_105) (by decide) (by decide) kk) ?_
        refine Go.st (S' := T18.setTop (mkF m 111 #[.val (.long q0), .second, .val (.long q1), .second, .val (.long q2), .second, .val (.long q3), .second, .val (.int p4), .val (.long c2), .second, .val (.long d2), .second, .val (.ref b5), .val (.ref b9), .val (.int (1 : Int32)), .val (.ref r16), .val (.int (1 : Int32)), .unset, .unset] [])) (fun _ kk => XS.istore X18.here hx rfl (hb hby at_109) rfl (l' := #[.val (.long q0), .second, .val (.long q1), .second, .val (.long q2), .second, .val (.long q3), .second, .val (.int p4), .val (.long c2), .second, .val (.long d2), .second, .val (.ref b5), .val (.ref b9), .val (.int (1 : Int32)), .val (.ref r16), .val (.int (1 : Int32)), .unset, .unset]) rfl kk) ?_
        refine Go.st (S' := T18.setTop (mkF m 113 #[.val (.long q0), .second, .val (.long q1), .second, .val (.long q2), .second, .val (.long q3), .second, .val (.int p4), .val (.long c2), .second, .val (.long d2), .second, .val (.ref b5), .val (.ref b9), .val (.int (1 : Int32)), .val (.ref r16), .val (.int (1 : Int32)), .unset, .unset] [(.ref b9)])) (fun _ kk => XS.aload X18.here hx rfl (hb hby at_111) rfl rfl kk) ?_
        refine Go.st (S' := T18.setTop (mkF m 115 #[.val (.long q0), .second, .val (.long q1), .second, .val (.long q2), .second, .val (.long q3), .second, .val (.int p4), .val (.long c2), .second, .val (.long d2), .second, .val (.ref b5), .val (.ref b9), .val (.int (1 : Int32)), .val (.ref r16), .val (.int (1 : Int32)), .unset, .unset] [(.ref b5), (.ref b9)])) (fun _ kk => XS.aload X18.here hx rfl (hb hby at_113) rfl rfl kk) ?_
        obtain ⟨cq19, kq19, q19a, q19b, q19c⟩ := isOf hZ e18 E_b9
        obtain ⟨_, _, ⟨T19, L19, k19, n19⟩, -, X19, ⟨Lc19, hQ19, l19, y19, z19⟩, st19⟩ := X18.virtualBack hx (y := (⟨"com/example/offset_lookup/offsetlookup/model/OffsetAndTimestamp", "equals", "(Ljava/lang/Object;)Z"⟩ : MethodName)) (z := (⟨"com/example/offset_lookup/offsetlookup/model/OffsetAndTimestamp", "equals", "(Ljava/lang/Object;)Z"⟩ : MethodName)) hown (mvT hZ (hw _ (List.mem_of_getElem? (i := 21) rfl))) (mvT hZ (hw _ (List.mem_of_getElem? (i := 22) rfl))) (notFace_of_selects (args := #[]) (mvT hZ (hw _ (List.mem_of_getElem? (i := 24) rfl)))) (mvT hZ (hw _ (List.mem_of_getElem? (i := 24) rfl))) (mvT hZ (hw _ (List.mem_of_getElem? (i := 23) rfl))) (by decide) (backOf (W := 0) (rmEq l Z az hw [] b9 b5 c2 d2 q0 q1 T16.heap n0 Zs17 E_b9 Fc11_0 Fc11_1 E_b5 Fc7_0 Fc7_1) hZ (hw _ (List.mem_of_getElem? (i := 25) rfl)) (hw _ (List.mem_of_getElem? (i := 2) rfl)) (by decide) (by decide)) q19a q19c (g := (mkF m 115 #[.val (.long q0), .second, .val (.long q1), .second, .val (.long q2), .second, .val (.long q3), .second, .val (.int p4), .val (.long c2), .second, .val (.long d2), .second, .val (.ref b5), .val (.ref b9), .val (.int (1 : Int32)), .val (.ref r16), .val (.int (1 : Int32)), .unset, .unset] [(.ref b5), (.ref b9)])) rfl (by rw [hml]; rfl) (Steps.refl _) (argsL := [(.ref b5)]) (rest := []) (lenOf pd_3 rfl) rfl (by show 2 * 0 + _ ≤ _; exact Nat.le_of_eq rfl) (hb hby at_115) (fun _ _ => ⟨rfl, e18, (by decide : 3 + 0 ≤ _), (by decide : 5 + 0 ≤ _)⟩)
        dsimp only [Pt.U, Pt.locs, Pt.cells, Pt.slots] at X19 l19 y19 z19 st19 hQ19
        subst l19 y19 z19
        obtain ⟨hv19, N19q, e19⟩ := hQ19
        rw [show fEq c2 d2 q0 q1 = (1 : Int32) from by unfold fEq; rw [if_pos hc13, if_pos hc14]] at hv19
        subst hv19
        have N19 := Fr.app N18 N19q
        refine Go.tr (S' := T19.setTop (mkF m 118 #[.val (.long q0), .second, .val (.long q1), .second, .val (.long q2), .second, .val (.long q3), .second, .val (.int p4), .val (.long c2), .second, .val (.long d2), .second, .val (.ref b5), .val (.ref b9), .val (.int (1 : Int32)), .val (.ref r16), .val (.int (1 : Int32)), .unset, .unset] [(.int (1 : Int32))])) st19 ?_
        refine Go.st (S' := T19.setTop (mkF m 120 #[.val (.long q0), .second, .val (.long q1), .second, .val (.long q2), .second, .val (.long q3), .second, .val (.int p4), .val (.long c2), .second, .val (.long d2), .second, .val (.ref b5), .val (.ref b9), .val (.int (1 : Int32)), .val (.ref r16), .val (.int (1 : Int32)), .unset, .unset] [(.int (1 : Int32)), (.int (1 : Int32))])) (fun _ kk => XS.iload X19.here hx rfl (hb hby at_118) rfl kk) ?_
        refine Go.st (S' := T19.setTop (mkF m 123 #[.val (.long q0), .second, .val (.long q1), .second, .val (.long q2), .second, .val (.long q3), .second, .val (.int p4), .val (.long c2), .second, .val (.long d2), .second, .val (.ref b5), .val (.ref b9), .val (.int (1 : Int32)), .val (.ref r16), .val (.int (1 : Int32)), .unset, .unset] [])) (fun _ kk => XS.icmpNo X19.here hx rfl (hb hby at_120) rfl (teq (by decide : (1 : Int32) = (1 : Int32))).2 kk) ?_
        refine Go.st (S' := T19.setTop (mkF m 124 #[.val (.long q0), .second, .val (.long q1), .second, .val (.long q2), .second, .val (.long q3), .second, .val (.int p4), .val (.long c2), .second, .val (.long d2), .second, .val (.ref b5), .val (.ref b9), .val (.int (1 : Int32)), .val (.ref r16), .val (.int (1 : Int32)), .unset, .unset] [(.int (1 : Int32))])) (fun _ kk => XS.iconst X19.here hx rfl (hb hby at_123) kk) ?_
        refine Go.st (S' := T19.setTop (mkF m 128 #[.val (.long q0), .second, .val (.long q1), .second, .val (.long q2), .second, .val (.long q3), .second, .val (.int p4), .val (.long c2), .second, .val (.long d2), .second, .val (.ref b5), .val (.ref b9), .val (.int (1 : Int32)), .val (.ref r16), .val (.int (1 : Int32)), .unset, .unset] [(.int (1 : Int32))])) (fun _ kk => XS.goto X19.here hx rfl (pc0 := 124) (pc' := 128) rfl (hb hby at_124) (by decide) (by decide) kk) ?_
        refine Go.st (S' := T19.setTop (mkF m 130 #[.val (.long q0), .second, .val (.long q1), .second, .val (.long q2), .second, .val (.long q3), .second, .val (.int p4), .val (.long c2), .second, .val (.long d2), .second, .val (.ref b5), .val (.ref b9), .val (.int (1 : Int32)), .val (.ref r16), .val (.int (1 : Int32)), .val (.int (1 : Int32)), .unset] [])) (fun _ kk => XS.istore X19.here hx rfl (hb hby at_128) rfl (l' := #[.val (.long q0), .second, .val (.long q1), .second, .val (.long q2), .second, .val (.long q3), .second, .val (.int p4), .val (.long c2), .second, .val (.long d2), .second, .val (.ref b5), .val (.ref b9), .val (.int (1 : Int32)), .val (.ref r16), .val (.int (1 : Int32)), .val (.int (1 : Int32)), .unset]) rfl kk) ?_
        refine Go.st (S' := T19.setTop (mkF m 132 #[.val (.long q0), .second, .val (.long q1), .second, .val (.long q2), .second, .val (.long q3), .second, .val (.int p4), .val (.long c2), .second, .val (.long d2), .second, .val (.ref b5), .val (.ref b9), .val (.int (1 : Int32)), .val (.ref r16), .val (.int (1 : Int32)), .val (.int (1 : Int32)), .unset] [(.ref b5)])) (fun _ kk => XS.aload X19.here hx rfl (hb hby at_130) rfl rfl kk) ?_
        refine Go.st (S' := T19.setTop (mkF m 134 #[.val (.long q0), .second, .val (.long q1), .second, .val (.long q2), .second, .val (.long q3), .second, .val (.int p4), .val (.long c2), .second, .val (.long d2), .second, .val (.ref b5), .val (.ref b9), .val (.int (1 : Int32)), .val (.ref r16), .val (.int (1 : Int32)), .val (.int (1 : Int32)), .unset] [(.ref r16), (.ref b5)])) (fun _ kk => XS.aload X19.here hx rfl (hb hby at_132) rfl rfl kk) ?_
        obtain ⟨cq20, kq20, q20a, q20b, q20c⟩ := isOf hZ e19 E_b5
        obtain ⟨_, _, ⟨T20, L20, k20, n20⟩, -, X20, ⟨Lc20, hQ20, l20, y20, z20⟩, st20⟩ := X19.virtualBack hx (y := (⟨"com/example/offset_lookup/offsetlookup/model/OffsetAndTimestamp", "equals", "(Ljava/lang/Object;)Z"⟩ : MethodName)) (z := (⟨"com/example/offset_lookup/offsetlookup/model/OffsetAndTimestamp", "equals", "(Ljava/lang/Object;)Z"⟩ : MethodName)) hown (mvT hZ (hw _ (List.mem_of_getElem? (i := 21) rfl))) (mvT hZ (hw _ (List.mem_of_getElem? (i := 22) rfl))) (notFace_of_selects (args := #[]) (mvT hZ (hw _ (List.mem_of_getElem? (i := 24) rfl)))) (mvT hZ (hw _ (List.mem_of_getElem? (i := 24) rfl))) (mvT hZ (hw _ (List.mem_of_getElem? (i := 23) rfl))) (by decide) (backOf (W := 0) (rmEqL l Z az hw [] b5 r16  T16.heap n0 Zs17 Er16) hZ (hw _ (List.mem_of_getElem? (i := 25) rfl)) (hw _ (List.mem_of_getElem? (i := 2) rfl)) (by decide) (by decide)) q20a q20c (g := (mkF m 134 #[.val (.long q0), .second, .val (.long q1), .second, .val (.long q2), .second, .val (.long q3), .second, .val (.int p4), .val (.long c2), .second, .val (.long d2), .second, .val (.ref b5), .val (.ref b9), .val (.int (1 : Int32)), .val (.ref r16), .val (.int (1 : Int32)), .val (.int (1 : Int32)), .unset] [(.ref r16), (.ref b5)])) rfl (by rw [hml]; rfl) (Steps.refl _) (argsL := [(.ref r16)]) (rest := []) (lenOf pd_3 rfl) rfl (by show 2 * 0 + _ ≤ _; exact Nat.le_of_eq rfl) (hb hby at_134) (fun _ _ => ⟨rfl, e19, (by decide : 3 + 0 ≤ _), (by decide : 5 + 0 ≤ _)⟩)
        dsimp only [Pt.U, Pt.locs, Pt.cells, Pt.slots] at X20 l20 y20 z20 st20 hQ20
        subst l20 y20 z20
        obtain ⟨rfl, N20q, e20⟩ := hQ20
        have N20 := Fr.app N19 N20q
        refine Go.tr (S' := T20.setTop (mkF m 137 #[.val (.long q0), .second, .val (.long q1), .second, .val (.long q2), .second, .val (.long q3), .second, .val (.int p4), .val (.long c2), .second, .val (.long d2), .second, .val (.ref b5), .val (.ref b9), .val (.int (1 : Int32)), .val (.ref r16), .val (.int (1 : Int32)), .val (.int (1 : Int32)), .unset] [(.int (0 : Int32))])) st20 ?_
        refine Go.st (S' := T20.setTop (mkF m 140 #[.val (.long q0), .second, .val (.long q1), .second, .val (.long q2), .second, .val (.long q3), .second, .val (.int p4), .val (.long c2), .second, .val (.long d2), .second, .val (.ref b5), .val (.ref b9), .val (.int (1 : Int32)), .val (.ref r16), .val (.int (1 : Int32)), .val (.int (1 : Int32)), .unset] [])) (fun _ kk => XS.ifNo X20.here hx rfl (hb hby at_137) rfl ((if0 _ _).trans (teq (by decide : (0 : Int32) = (0 : Int32))).2) kk) ?_
        refine Go.st (S' := T20.setTop (mkF m 141 #[.val (.long q0), .second, .val (.long q1), .second, .val (.long q2), .second, .val (.long q3), .second, .val (.int p4), .val (.long c2), .second, .val (.long d2), .second, .val (.ref b5), .val (.ref b9), .val (.int (1 : Int32)), .val (.ref r16), .val (.int (1 : Int32)), .val (.int (1 : Int32)), .unset] [(.int (1 : Int32))])) (fun _ kk => XS.iconst X20.here hx rfl (hb hby at_140) kk) ?_
        refine Go.st (S' := T20.setTop (mkF m 145 #[.val (.long q0), .second, .val (.long q1), .second, .val (.long q2), .second, .val (.long q3), .second, .val (.int p4), .val (.long c2), .second, .val (.long d2), .second, .val (.ref b5), .val (.ref b9), .val (.int (1 : Int32)), .val (.ref r16), .val (.int (1 : Int32)), .val (.int (1 : Int32)), .unset] [(.int (1 : Int32))])) (fun _ kk => XS.goto X20.here hx rfl (pc0 := 141) (pc' := 145) rfl (hb hby at_141) (by decide) (by decide) kk) ?_
        refine Go.st (S' := T20.setTop (mkF m 147 #[.val (.long q0), .second, .val (.long q1), .second, .val (.long q2), .second, .val (.long q3), .second, .val (.int p4), .val (.long c2), .second, .val (.long d2), .second, .val (.ref b5), .val (.ref b9), .val (.int (1 : Int32)), .val (.ref r16), .val (.int (1 : Int32)), .val (.int (1 : Int32)), .val (.int (1 : Int32))] [])) (fun _ kk => XS.istore X20.here hx rfl (hb hby at_145) rfl (l' := #[.val (.long q0), .second, .val (.long q1), .second, .val (.long q2), .second, .val (.long q3), .second, .val (.int p4), .val (.long c2), .second, .val (.long d2), .second, .val (.ref b5), .val (.ref b9), .val (.int (1 : Int32)), .val (.ref r16), .val (.int (1 : Int32)), .val (.int (1 : Int32)), .val (.int (1 : Int32))]) rfl kk) ?_
        refine Go.st (S' := T20.setTop (mkF m 149 #[.val (.long q0), .second, .val (.long q1), .second, .val (.long q2), .second, .val (.long q3), .second, .val (.int p4), .val (.long c2), .second, .val (.long d2), .second, .val (.ref b5), .val (.ref b9), .val (.int (1 : Int32)), .val (.ref r16), .val (.int (1 : Int32)), .val (.int (1 : Int32)), .val (.int (1 : Int32))] [(.int (1 : Int32))])) (fun _ kk => XS.iload X20.here hx rfl (hb hby at_147) rfl kk) ?_
        refine Go.st (S' := T20.setTop (mkF m 152 #[.val (.long q0), .second, .val (.long q1), .second, .val (.long q2), .second, .val (.long q3), .second, .val (.int p4), .val (.long c2), .second, .val (.long d2), .second, .val (.ref b5), .val (.ref b9), .val (.int (1 : Int32)), .val (.ref r16), .val (.int (1 : Int32)), .val (.int (1 : Int32)), .val (.int (1 : Int32))] [])) (fun _ kk => XS.ifNo X20.here hx rfl (hb hby at_149) rfl ((if0 _ _).trans (feq (by decide : ¬ ((1 : Int32) = (0 : Int32)))).1) kk) ?_
        refine Go.st (S' := T20.setTop (mkF m 154 #[.val (.long q0), .second, .val (.long q1), .second, .val (.long q2), .second, .val (.long q3), .second, .val (.int p4), .val (.long c2), .second, .val (.long d2), .second, .val (.ref b5), .val (.ref b9), .val (.int (1 : Int32)), .val (.ref r16), .val (.int (1 : Int32)), .val (.int (1 : Int32)), .val (.int (1 : Int32))] [(.int (1 : Int32))])) (fun _ kk => XS.iload X20.here hx rfl (hb hby at_152) rfl kk) ?_
        refine Go.st (S' := T20.setTop (mkF m 157 #[.val (.long q0), .second, .val (.long q1), .second, .val (.long q2), .second, .val (.long q3), .second, .val (.int p4), .val (.long c2), .second, .val (.long d2), .second, .val (.ref b5), .val (.ref b9), .val (.int (1 : Int32)), .val (.ref r16), .val (.int (1 : Int32)), .val (.int (1 : Int32)), .val (.int (1 : Int32))] [])) (fun _ kk => XS.ifNo X20.here hx rfl (hb hby at_154) rfl ((if0 _ _).trans (feq (by decide : ¬ ((1 : Int32) = (0 : Int32)))).1) kk) ?_
        refine Go.st (S' := T20.setTop (mkF m 159 #[.val (.long q0), .second, .val (.long q1), .second, .val (.long q2), .second, .val (.long q3), .second, .val (.int p4), .val (.long c2), .second, .val (.long d2), .second, .val (.ref b5), .val (.ref b9), .val (.int (1 : Int32)), .val (.ref r16), .val (.int (1 : Int32)), .val (.int (1 : Int32)), .val (.int (1 : Int32))] [(.int (1 : Int32))])) (fun _ kk => XS.iload X20.here hx rfl (hb hby at_157) rfl kk) ?_
        refine Go.st (S' := T20.setTop (mkF m 162 #[.val (.long q0), .second, .val (.long q1), .second, .val (.long q2), .second, .val (.long q3), .second, .val (.int p4), .val (.long c2), .second, .val (.long d2), .second, .val (.ref b5), .val (.ref b9), .val (.int (1 : Int32)), .val (.ref r16), .val (.int (1 : Int32)), .val (.int (1 : Int32)), .val (.int (1 : Int32))] [])) (fun _ kk => XS.ifNo X20.here hx rfl (hb hby at_159) rfl ((if0 _ _).trans (feq (by decide : ¬ ((1 : Int32) = (0 : Int32)))).1) kk) ?_
        refine Go.st (S' := T20.setTop (mkF m 163 #[.val (.long q0), .second, .val (.long q1), .second, .val (.long q2), .second, .val (.long q3), .second, .val (.int p4), .val (.long c2), .second, .val (.long d2), .second, .val (.ref b5), .val (.ref b9), .val (.int (1 : Int32)), .val (.ref r16), .val (.int (1 : Int32)), .val (.int (1 : Int32)), .val (.int (1 : Int32))] [(.int (1 : Int32))])) (fun _ kk => XS.iconst X20.here hx rfl (hb hby at_162) kk) ?_
        refine Go.st (S' := T20.setTop (mkF m 167 #[.val (.long q0), .second, .val (.long q1), .second, .val (.long q2), .second, .val (.long q3), .second, .val (.int p4), .val (.long c2), .second, .val (.long d2), .second, .val (.ref b5), .val (.ref b9), .val (.int (1 : Int32)), .val (.ref r16), .val (.int (1 : Int32)), .val (.int (1 : Int32)), .val (.int (1 : Int32))] [(.int (1 : Int32))])) (fun _ kk => XS.goto X20.here hx rfl (pc0 := 163) (pc' := 167) rfl (hb hby at_163) (by decide) (by decide) kk) ?_
        exact Go.retN X20 hx hlk (t := .boolean) Bd.returns (by simp) (hb hby at_167) (⟨rfl, N20⟩) (by decide) (by decide)
      · refine Go.st (S' := T11.setTop (mkF m 82 #[.val (.long q0), .second, .val (.long q1), .second, .val (.long q2), .second, .val (.long q3), .second, .val (.int p4), .val (.long c2), .second, .val (.long d2), .second, .val (.ref b5), .val (.ref b9), .val (.int (1 : Int32)), .unset, .unset, .unset, .unset] [])) (fun _ kk => XS.ifNo X11.here hx rfl (hb hby at_79) rfl ((if0 _ _).trans (feq hc15).1) kk) ?_
        refine Go.st (S' := T11.setTop (mkF m 83 #[.val (.long q0), .second, .val (.long q1), .second, .val (.long q2), .second, .val (.long q3), .second, .val (.int p4), .val (.long c2), .second, .val (.long d2), .second, .val (.ref b5), .val (.ref b9), .val (.int (1 : Int32)), .unset, .unset, .unset, .unset] [.null])) (fun _ kk => XS.aconstNull X11.here hx rfl (hb hby at_82) kk) ?_
        refine Go.st (S' := T11.setTop (mkF m 90 #[.val (.long q0), .second, .val (.long q1), .second, .val (.long q2), .second, .val (.long q3), .second, .val (.int p4), .val (.long c2), .second, .val (.long d2), .second, .val (.ref b5), .val (.ref b9), .val (.int (1 : Int32)), .unset, .unset, .unset, .unset] [.null])) (fun _ kk => XS.goto X11.here hx rfl (pc0 := 83) (pc' := 90) rfl (hb hby at_83) (by decide) (by decide) kk) ?_
        refine Go.st (S' := T11.setTop (mkF m 92 #[.val (.long q0), .second, .val (.long q1), .second, .val (.long q2), .second, .val (.long q3), .second, .val (.int p4), .val (.long c2), .second, .val (.long d2), .second, .val (.ref b5), .val (.ref b9), .val (.int (1 : Int32)), .val .null, .unset, .unset, .unset] [])) (fun _ kk => XS.astore X11.here hx rfl (hb hby at_90) rfl rfl (l' := #[.val (.long q0), .second, .val (.long q1), .second, .val (.long q2), .second, .val (.long q3), .second, .val (.int p4), .val (.long c2), .second, .val (.long d2), .second, .val (.ref b5), .val (.ref b9), .val (.int (1 : Int32)), .val .null, .unset, .unset, .unset]) rfl kk) ?_
        refine Go.st (S' := T11.setTop (mkF m 94 #[.val (.long q0), .second, .val (.long q1), .second, .val (.long q2), .second, .val (.long q3), .second, .val (.int p4), .val (.long c2), .second, .val (.long d2), .second, .val (.ref b5), .val (.ref b9), .val (.int (1 : Int32)), .val .null, .unset, .unset, .unset] [(.ref b5)])) (fun _ kk => XS.aload X11.here hx rfl (hb hby at_92) rfl rfl kk) ?_
        refine Go.st (S' := T11.setTop (mkF m 96 #[.val (.long q0), .second, .val (.long q1), .second, .val (.long q2), .second, .val (.long q3), .second, .val (.int p4), .val (.long c2), .second, .val (.long d2), .second, .val (.ref b5), .val (.ref b9), .val (.int (1 : Int32)), .val .null, .unset, .unset, .unset] [(.ref b9), (.ref b5)])) (fun _ kk => XS.aload X11.here hx rfl (hb hby at_94) rfl rfl kk) ?_
        obtain ⟨cq21, kq21, q21a, q21b, q21c⟩ := isOf hZ rfl E_b5
        obtain ⟨_, _, ⟨T21, L21, k21, n21⟩, -, X21, ⟨Lc21, hQ21, l21, y21, z21⟩, st21⟩ := X11.virtualBack hx (y := (⟨"com/example/offset_lookup/offsetlookup/model/OffsetAndTimestamp", "equals", "(Ljava/lang/Object;)Z"⟩ : MethodName)) (z := (⟨"com/example/offset_lookup/offsetlookup/model/OffsetAndTimestamp", "equals", "(Ljava/lang/Object;)Z"⟩ : MethodName)) hown (mvT hZ (hw _ (List.mem_of_getElem? (i := 21) rfl))) (mvT hZ (hw _ (List.mem_of_getElem? (i := 22) rfl))) (notFace_of_selects (args := #[]) (mvT hZ (hw _ (List.mem_of_getElem? (i := 24) rfl)))) (mvT hZ (hw _ (List.mem_of_getElem? (i := 24) rfl))) (mvT hZ (hw _ (List.mem_of_getElem? (i := 23) rfl))) (by decide) (backOf (W := 0) (rmEq l Z az hw [] b5 b9 q0 q1 c2 d2 T11.heap n0 Zs12 E_b5 Fc7_0 Fc7_1 E_b9 Fc11_0 Fc11_1) hZ (hw _ (List.mem_of_getElem? (i := 25) rfl)) (hw _ (List.mem_of_getElem? (i := 2) rfl)) (by decide) (by decide)) q21a q21c (g := (mkF m 96 #[.val (.long q0), .second, .val (.long q1), .second, .val (.long q2), .second, .val (.long q3), .second, .val (.int p4), .val (.long c2), .second, .val (.long d2), .second, .val (.ref b5), .val (.ref b9), .val (.int (1 : Int32)), .val .null, .unset, .unset, .unset] [(.ref b9), (.ref b5)])) rfl (by rw [hml]; rfl) (Steps.refl _) (argsL := [(.ref b9)]) (rest := []) (lenOf pd_3 rfl) rfl (by show 2 * 0 + _ ≤ _; exact Nat.le_of_eq rfl) (hb hby at_96) (fun _ _ => ⟨rfl, rfl, (by decide : 2 + 0 ≤ _), (by decide : 4 + 0 ≤ _)⟩)
        dsimp only [Pt.U, Pt.locs, Pt.cells, Pt.slots] at X21 l21 y21 z21 st21 hQ21
        subst l21 y21 z21
        obtain ⟨hv21, N21q, e21⟩ := hQ21
        rw [show fEq q0 q1 c2 d2 = (1 : Int32) from by unfold fEq; rw [if_pos (Eq.symm hc13), if_pos (Eq.symm hc14)]] at hv21
        subst hv21
        have N21 := Fr.app N11 N21q
        refine Go.tr (S' := T21.setTop (mkF m 99 #[.val (.long q0), .second, .val (.long q1), .second, .val (.long q2), .second, .val (.long q3), .second, .val (.int p4), .val (.long c2), .second, .val (.long d2), .second, .val (.ref b5), .val (.ref b9), .val (.int (1 : Int32)), .val .null, .unset, .unset, .unset] [(.int (1 : Int32))])) st21 ?_
        refine Go.st (S' := T21.setTop (mkF m 101 #[.val (.long q0), .second, .val (.long q1), .second, .val (.long q2), .second, .val (.long q3), .second, .val (.int p4), .val (.long c2), .second, .val (.long d2), .second, .val (.ref b5), .val (.ref b9), .val (.int (1 : Int32)), .val .null, .unset, .unset, .unset] [(.int (1 : Int32)), (.int (1 : Int32))])) (fun _ kk => XS.iload X21.here hx rfl (hb hby at_99) rfl kk) ?_
        refine Go.st (S' := T21.setTop (mkF m 104 #[.val (.long q0), .second, .val (.long q1), .second, .val (.long q2), .second, .val (.long q3), .second, .val (.int p4), .val (.long c2), .second, .val (.long d2), .second, .val (.ref b5), .val (.ref b9), .val (.int (1 : Int32)), .val .null, .unset, .unset, .unset] [])) (fun _ kk => XS.icmpNo X21.here hx rfl (hb hby at_101) rfl (teq (by decide : (1 : Int32) = (1 : Int32))).2 kk) ?_
        refine Go.st (S' := T21.setTop (mkF m 105 #[.val (.long q0), .second, .val (.long q1), .second, .val (.long q2), .second, .val (.long q3), .second, .val (.int p4), .val (.long c2), .second, .val (.long d2), .second, .val (.ref b5), .val (.ref b9), .val (.int (1 : Int32)), .val .null, .unset, .unset, .unset] [(.int (1 : Int32))])) (fun _ kk => XS.iconst X21.here hx rfl (hb hby at_104) kk) ?_
        refine Go.st (S' := T21.setTop (mkF m 109 #[.val (.long q0), .second, .val (.long q1), .second, .val (.long q2), .second, .val (.long q3), .second, .val (.int p4), .val (.long c2), .second, .val (.long d2), .second, .val (.ref b5), .val (.ref b9), .val (.int (1 : Int32)), .val .null, .unset, .unset, .unset] [(.int (1 : Int32))])) (fun _ kk => XS.goto X21.here hx rfl (pc0 := 105) (pc' := 109) rfl (hb hby at_105) (by decide) (by decide) kk) ?_
        refine Go.st (S' := T21.setTop (mkF m 111 #[.val (.long q0), .second, .val (.long q1), .second, .val (.long q2), .second, .val (.long q3), .second, .val (.int p4), .val (.long c2), .second, .val (.long d2), .second, .val (.ref b5), .val (.ref b9), .val (.int (1 : Int32)), .val .null, .val (.int (1 : Int32)), .unset, .unset] [])) (fun _ kk => XS.istore X21.here hx rfl (hb hby at_109) rfl (l' := #[.val (.long q0), .second, .val (.long q1), .second, .val (.long q2), .second, .val (.long q3), .second, .val (.int p4), .val (.long c2), .second, .val (.long d2), .second, .val (.ref b5), .val (.ref b9), .val (.int (1 : Int32)), .val .null, .val (.int (1 : Int32)), .unset, .unset]) rfl kk) ?_
        refine Go.st (S' := T21.setTop (mkF m 113 #[.val (.long q0), .second, .val (.long q1), .second, .val (.long q2), .second, .val (.long q3), .second, .val (.int p4), .val (.long c2), .second, .val (.long d2), .second, .val (.ref b5), .val (.ref b9), .val (.int (1 : Int32)), .val .null, .val (.int (1 : Int32)), .unset, .unset] [(.ref b9)])) (fun _ kk => XS.aload X21.here hx rfl (hb hby at_111) rfl rfl kk) ?_
        refine Go.st (S' := T21.setTop (mkF m 115 #[.val (.long q0), .second, .val (.long q1), .second, .val (.long q2), .second, .val (.long q3), .second, .val (.int p4), .val (.long c2), .second, .val (.long d2), .second, .val (.ref b5), .val (.ref b9), .val (.int (1 : Int32)), .val .null, .val (.int (1 : Int32)), .unset, .unset] [(.ref b5), (.ref b9)])) (fun _ kk => XS.aload X21.here hx rfl (hb hby at_113) rfl rfl kk) ?_
        obtain ⟨cq22, kq22, q22a, q22b, q22c⟩ := isOf hZ e21 E_b9
        obtain ⟨_, _, ⟨T22, L22, k22, n22⟩, -, X22, ⟨Lc22, hQ22, l22, y22, z22⟩, st22⟩ := X21.virtualBack hx (y := (⟨"com/example/offset_lookup/offsetlookup/model/OffsetAndTimestamp", "equals", "(Ljava/lang/Object;)Z"⟩ : MethodName)) (z := (⟨"com/example/offset_lookup/offsetlookup/model/OffsetAndTimestamp", "equals", "(Ljava/lang/Object;)Z"⟩ : MethodName)) hown (mvT hZ (hw _ (List.mem_of_getElem? (i := 21) rfl))) (mvT hZ (hw _ (List.mem_of_getElem? (i := 22) rfl))) (notFace_of_selects (args := #[]) (mvT hZ (hw _ (List.mem_of_getElem? (i := 24) rfl)))) (mvT hZ (hw _ (List.mem_of_getElem? (i := 24) rfl))) (mvT hZ (hw _ (List.mem_of_getElem? (i := 23) rfl))) (by decide) (backOf (W := 0) (rmEq l Z az hw [] b9 b5 c2 d2 q0 q1 T11.heap n0 Zs12 E_b9 Fc11_0 Fc11_1 E_b5 Fc7_0 Fc7_1) hZ (hw _ (List.mem_of_getElem? (i := 25) rfl)) (hw _ (List.mem_of_getElem? (i := 2) rfl)) (by decide) (by decide)) q22a q22c (g := (mkF m 115 #[.val (.long q0), .second, .val (.long q1), .second, .val (.long q2), .second, .val (.long q3), .second, .val (.int p4), .val (.long c2), .second, .val (.long d2), .second, .val (.ref b5), .val (.ref b9), .val (.int (1 : Int32)), .val .null, .val (.int (1 : Int32)), .unset, .unset] [(.ref b5), (.ref b9)])) rfl (by rw [hml]; rfl) (Steps.refl _) (argsL := [(.ref b5)]) (rest := []) (lenOf pd_3 rfl) rfl (by show 2 * 0 + _ ≤ _; exact Nat.le_of_eq rfl) (hb hby at_115) (fun _ _ => ⟨rfl, e21, (by decide : 2 + 0 ≤ _), (by decide : 4 + 0 ≤ _)⟩)
        dsimp only [Pt.U, Pt.locs, Pt.cells, Pt.slots] at X22 l22 y22 z22 st22 hQ22
        subst l22 y22 z22
        obtain ⟨hv22, N22q, e22⟩ := hQ22
        rw [show fEq c2 d2 q0 q1 = (1 : Int32) from by unfold fEq; rw [if_pos hc13, if_pos hc14]] at hv22
        subst hv22
        have N22 := Fr.app N21 N22q
        refine Go.tr (S' := T22.setTop (mkF m 118 #[.val (.long q0), .second, .val (.long q1), .second, .val (.long q2), .second, .val (.long q3), .second, .val (.int p4), .val (.long c2), .second, .val (.long d2), .second, .val (.ref b5), .val (.ref b9), .val (.int (1 : Int32)), .val .null, .val (.int (1 : Int32)), .unset, .unset] [(.int (1 : Int32))])) st22 ?_
        refine Go.st (S' := T22.setTop (mkF m 120 #[.val (.long q0), .second, .val (.long q1), .second, .val (.long q2), .second, .val (.long q3), .second, .val (.int p4), .val (.long c2), .second, .val (.long d2), .second, .val (.ref b5), .val (.ref b9), .val (.int (1 : Int32)), .val .null, .val (.int (1 : Int32)), .unset, .unset] [(.int (1 : Int32)), (.int (1 : Int32))])) (fun _ kk => XS.iload X22.here hx rfl (hb hby at_118) rfl kk) ?_
        refine Go.st (S' := T22.setTop (mkF m 123 #[.val (.long q0), .second, .val (.long q1), .second, .val (.long q2), .second, .val (.long q3), .second, .val (.int p4), .val (.long c2), .second, .val (.long d2), .second, .val (.ref b5), .val (.ref b9), .val (.int (1 : Int32)), .val .null, .val (.int (1 : Int32)), .unset, .unset] [])) (fun _ kk => XS.icmpNo X22.here hx rfl (hb hby at_120) rfl (teq (by decide : (1 : Int32) = (1 : Int32))).2 kk) ?_
        refine Go.st (S' := T22.setTop (mkF m 124 #[.val (.long q0), .second, .val (.long q1), .second, .val (.long q2), .second, .val (.long q3), .second, .val (.int p4), .val (.long c2), .second, .val (.long d2), .second, .val (.ref b5), .val (.ref b9), .val (.int (1 : Int32)), .val .null, .val (.int (1 : Int32)), .unset, .unset] [(.int (1 : Int32))])) (fun _ kk => XS.iconst X22.here hx rfl (hb hby at_123) kk) ?_
        refine Go.st (S' := T22.setTop (mkF m 128 #[.val (.long q0), .second, .val (.long q1), .second, .val (.long q2), .second, .val (.long q3), .second, .val (.int p4), .val (.long c2), .second, .val (.long d2), .second, .val (.ref b5), .val (.ref b9), .val (.int (1 : Int32)), .val .null, .val (.int (1 : Int32)), .unset, .unset] [(.int (1 : Int32))])) (fun _ kk => XS.goto X22.here hx rfl (pc0 := 124) (pc' := 128) rfl (hb hby at_124) (by decide) (by decide) kk) ?_
        refine Go.st (S' := T22.setTop (mkF m 130 #[.val (.long q0), .second, .val (.long q1), .second, .val (.long q2), .second, .val (.long q3), .second, .val (.int p4), .val (.long c2), .second, .val (.long d2), .second, .val (.ref b5), .val (.ref b9), .val (.int (1 : Int32)), .val .null, .val (.int (1 : Int32)), .val (.int (1 : Int32)), .unset] [])) (fun _ kk => XS.istore X22.here hx rfl (hb hby at_128) rfl (l' := #[.val (.long q0), .second, .val (.long q1), .second, .val (.long q2), .second, .val (.long q3), .second, .val (.int p4), .val (.long c2), .second, .val (.long d2), .second, .val (.ref b5), .val (.ref b9), .val (.int (1 : Int32)), .val .null, .val (.int (1 : Int32)), .val (.int (1 : Int32)), .unset]) rfl kk) ?_
        refine Go.st (S' := T22.setTop (mkF m 132 #[.val (.long q0), .second, .val (.long q1), .second, .val (.long q2), .second, .val (.long q3), .second, .val (.int p4), .val (.long c2), .second, .val (.long d2), .second, .val (.ref b5), .val (.ref b9), .val (.int (1 : Int32)), .val .null, .val (.int (1 : Int32)), .val (.int (1 : Int32)), .unset] [(.ref b5)])) (fun _ kk => XS.aload X22.here hx rfl (hb hby at_130) rfl rfl kk) ?_
        refine Go.st (S' := T22.setTop (mkF m 134 #[.val (.long q0), .second, .val (.long q1), .second, .val (.long q2), .second, .val (.long q3), .second, .val (.int p4), .val (.long c2), .second, .val (.long d2), .second, .val (.ref b5), .val (.ref b9), .val (.int (1 : Int32)), .val .null, .val (.int (1 : Int32)), .val (.int (1 : Int32)), .unset] [.null, (.ref b5)])) (fun _ kk => XS.aload X22.here hx rfl (hb hby at_132) rfl rfl kk) ?_
        obtain ⟨cq23, kq23, q23a, q23b, q23c⟩ := isOf hZ e22 E_b5
        obtain ⟨_, _, ⟨T23, L23, k23, n23⟩, -, X23, ⟨Lc23, hQ23, l23, y23, z23⟩, st23⟩ := X22.virtualBack hx (y := (⟨"com/example/offset_lookup/offsetlookup/model/OffsetAndTimestamp", "equals", "(Ljava/lang/Object;)Z"⟩ : MethodName)) (z := (⟨"com/example/offset_lookup/offsetlookup/model/OffsetAndTimestamp", "equals", "(Ljava/lang/Object;)Z"⟩ : MethodName)) hown (mvT hZ (hw _ (List.mem_of_getElem? (i := 21) rfl))) (mvT hZ (hw _ (List.mem_of_getElem? (i := 22) rfl))) (notFace_of_selects (args := #[]) (mvT hZ (hw _ (List.mem_of_getElem? (i := 24) rfl)))) (mvT hZ (hw _ (List.mem_of_getElem? (i := 24) rfl))) (mvT hZ (hw _ (List.mem_of_getElem? (i := 23) rfl))) (by decide) (backOf (W := 0) (rmEqN l Z az hw [] b5  T11.heap n0 Zs12 ) hZ (hw _ (List.mem_of_getElem? (i := 25) rfl)) (hw _ (List.mem_of_getElem? (i := 2) rfl)) (by decide) (by decide)) q23a q23c (g := (mkF m 134 #[.val (.long q0), .second, .val (.long q1), .second, .val (.long q2), .second, .val (.long q3), .second, .val (.int p4), .val (.long c2), .second, .val (.long d2), .second, .val (.ref b5), .val (.ref b9), .val (.int (1 : Int32)), .val .null, .val (.int (1 : Int32)), .val (.int (1 : Int32)), .unset] [.null, (.ref b5)])) rfl (by rw [hml]; rfl) (Steps.refl _) (argsL := [.null]) (rest := []) (lenOf pd_3 rfl) rfl (by show 2 * 0 + _ ≤ _; exact Nat.le_of_eq rfl) (hb hby at_134) (fun _ _ => ⟨rfl, e22, (by decide : 2 + 0 ≤ _), (by decide : 4 + 0 ≤ _)⟩)
        dsimp only [Pt.U, Pt.locs, Pt.cells, Pt.slots] at X23 l23 y23 z23 st23 hQ23
        subst l23 y23 z23
        obtain ⟨rfl, N23q, e23⟩ := hQ23
        have N23 := Fr.app N22 N23q
        refine Go.tr (S' := T23.setTop (mkF m 137 #[.val (.long q0), .second, .val (.long q1), .second, .val (.long q2), .second, .val (.long q3), .second, .val (.int p4), .val (.long c2), .second, .val (.long d2), .second, .val (.ref b5), .val (.ref b9), .val (.int (1 : Int32)), .val .null, .val (.int (1 : Int32)), .val (.int (1 : Int32)), .unset] [(.int (0 : Int32))])) st23 ?_
        refine Go.st (S' := T23.setTop (mkF m 140 #[.val (.long q0), .second, .val (.long q1), .second, .val (.long q2), .second, .val (.long q3), .second, .val (.int p4), .val (.long c2), .second, .val (.long d2), .second, .val (.ref b5), .val (.ref b9), .val (.int (1 : Int32)), .val .null, .val (.int (1 : Int32)), .val (.int (1 : Int32)), .unset] [])) (fun _ kk => XS.ifNo X23.here hx rfl (hb hby at_137) rfl ((if0 _ _).trans (teq (by decide : (0 : Int32) = (0 : Int32))).2) kk) ?_
        refine Go.st (S' := T23.setTop (mkF m 141 #[.val (.long q0), .second, .val (.long q1), .second, .val (.long q2), .second, .val (.long q3), .second, .val (.int p4), .val (.long c2), .second, .val (.long d2), .second, .val (.ref b5), .val (.ref b9), .val (.int (1 : Int32)), .val .null, .val (.int (1 : Int32)), .val (.int (1 : Int32)), .unset] [(.int (1 : Int32))])) (fun _ kk => XS.iconst X23.here hx rfl (hb hby at_140) kk) ?_
        refine Go.st (S' := T23.setTop (mkF m 145 #[.val (.long q0), .second, .val (.long q1), .second, .val (.long q2), .second, .val (.long q3), .second, .val (.int p4), .val (.long c2), .second, .val (.long d2), .second, .val (.ref b5), .val (.ref b9), .val (.int (1 : Int32)), .val .null, .val (.int (1 : Int32)), .val (.int (1 : Int32)), .unset] [(.int (1 : Int32))])) (fun _ kk => XS.goto X23.here hx rfl (pc0 := 141) (pc' := 145) rfl (hb hby at_141) (by decide) (by decide) kk) ?_
        refine Go.st (S' := T23.setTop (mkF m 147 #[.val (.long q0), .second, .val (.long q1), .second, .val (.long q2), .second, .val (.long q3), .second, .val (.int p4), .val (.long c2), .second, .val (.long d2), .second, .val (.ref b5), .val (.ref b9), .val (.int (1 : Int32)), .val .null, .val (.int (1 : Int32)), .val (.int (1 : Int32)), .val (.int (1 : Int32))] [])) (fun _ kk => XS.istore X23.here hx rfl (hb hby at_145) rfl (l' := #[.val (.long q0), .second, .val (.long q1), .second, .val (.long q2), .second, .val (.long q3), .second, .val (.int p4), .val (.long c2), .second, .val (.long d2), .second, .val (.ref b5), .val (.ref b9), .val (.int (1 : Int32)), .val .null, .val (.int (1 : Int32)), .val (.int (1 : Int32)), .val (.int (1 : Int32))]) rfl kk) ?_
        refine Go.st (S' := T23.setTop (mkF m 149 #[.val (.long q0), .second, .val (.long q1), .second, .val (.long q2), .second, .val (.long q3), .second, .val (.int p4), .val (.long c2), .second, .val (.long d2), .second, .val (.ref b5), .val (.ref b9), .val (.int (1 : Int32)), .val .null, .val (.int (1 : Int32)), .val (.int (1 : Int32)), .val (.int (1 : Int32))] [(.int (1 : Int32))])) (fun _ kk => XS.iload X23.here hx rfl (hb hby at_147) rfl kk) ?_
        refine Go.st (S' := T23.setTop (mkF m 152 #[.val (.long q0), .second, .val (.long q1), .second, .val (.long q2), .second, .val (.long q3), .second, .val (.int p4), .val (.long c2), .second, .val (.long d2), .second, .val (.ref b5), .val (.ref b9), .val (.int (1 : Int32)), .val .null, .val (.int (1 : Int32)), .val (.int (1 : Int32)), .val (.int (1 : Int32))] [])) (fun _ kk => XS.ifNo X23.here hx rfl (hb hby at_149) rfl ((if0 _ _).trans (feq (by decide : ¬ ((1 : Int32) = (0 : Int32)))).1) kk) ?_
        refine Go.st (S' := T23.setTop (mkF m 154 #[.val (.long q0), .second, .val (.long q1), .second, .val (.long q2), .second, .val (.long q3), .second, .val (.int p4), .val (.long c2), .second, .val (.long d2), .second, .val (.ref b5), .val (.ref b9), .val (.int (1 : Int32)), .val .null, .val (.int (1 : Int32)), .val (.int (1 : Int32)), .val (.int (1 : Int32))] [(.int (1 : Int32))])) (fun _ kk => XS.iload X23.here hx rfl (hb hby at_152) rfl kk) ?_
        refine Go.st (S' := T23.setTop (mkF m 157 #[.val (.long q0), .second, .val (.long q1), .second, .val (.long q2), .second, .val (.long q3), .second, .val (.int p4), .val (.long c2), .second, .val (.long d2), .second, .val (.ref b5), .val (.ref b9), .val (.int (1 : Int32)), .val .null, .val (.int (1 : Int32)), .val (.int (1 : Int32)), .val (.int (1 : Int32))] [])) (fun _ kk => XS.ifNo X23.here hx rfl (hb hby at_154) rfl ((if0 _ _).trans (feq (by decide : ¬ ((1 : Int32) = (0 : Int32)))).1) kk) ?_
        refine Go.st (S' := T23.setTop (mkF m 159 #[.val (.long q0), .second, .val (.long q1), .second, .val (.long q2), .second, .val (.long q3), .second, .val (.int p4), .val (.long c2), .second, .val (.long d2), .second, .val (.ref b5), .val (.ref b9), .val (.int (1 : Int32)), .val .null, .val (.int (1 : Int32)), .val (.int (1 : Int32)), .val (.int (1 : Int32))] [(.int (1 : Int32))])) (fun _ kk => XS.iload X23.here hx rfl (hb hby at_157) rfl kk) ?_
        refine Go.st (S' := T23.setTop (mkF m 162 #[.val (.long q0), .second, .val (.long q1), .second, .val (.long q2), .second, .val (.long q3), .second, .val (.int p4), .val (.long c2), .second, .val (.long d2), .second, .val (.ref b5), .val (.ref b9), .val (.int (1 : Int32)), .val .null, .val (.int (1 : Int32)), .val (.int (1 : Int32)), .val (.int (1 : Int32))] [])) (fun _ kk => XS.ifNo X23.here hx rfl (hb hby at_159) rfl ((if0 _ _).trans (feq (by decide : ¬ ((1 : Int32) = (0 : Int32)))).1) kk) ?_
        refine Go.st (S' := T23.setTop (mkF m 163 #[.val (.long q0), .second, .val (.long q1), .second, .val (.long q2), .second, .val (.long q3), .second, .val (.int p4), .val (.long c2), .second, .val (.long d2), .second, .val (.ref b5), .val (.ref b9), .val (.int (1 : Int32)), .val .null, .val (.int (1 : Int32)), .val (.int (1 : Int32)), .val (.int (1 : Int32))] [(.int (1 : Int32))])) (fun _ kk => XS.iconst X23.here hx rfl (hb hby at_162) kk) ?_
        refine Go.st (S' := T23.setTop (mkF m 167 #[.val (.long q0), .second, .val (.long q1), .second, .val (.long q2), .second, .val (.long q3), .second, .val (.int p4), .val (.long c2), .second, .val (.long d2), .second, .val (.ref b5), .val (.ref b9), .val (.int (1 : Int32)), .val .null, .val (.int (1 : Int32)), .val (.int (1 : Int32)), .val (.int (1 : Int32))] [(.int (1 : Int32))])) (fun _ kk => XS.goto X23.here hx rfl (pc0 := 163) (pc' := 167) rfl (hb hby at_163) (by decide) (by decide) kk) ?_
        exact Go.retN X23 hx hlk (t := .boolean) Bd.returns (by simp) (hb hby at_167) (⟨rfl, N23⟩) (by decide) (by decide)
    · refine Go.st (S' := T11.setTop (mkF m 72 #[.val (.long q0), .second, .val (.long q1), .second, .val (.long q2), .second, .val (.long q3), .second, .val (.int p4), .val (.long c2), .second, .val (.long d2), .second, .val (.ref b5), .val (.ref b9), .unset, .unset, .unset, .unset, .unset] [])) (fun _ kk => XS.ifYes X11.here hx rfl (pc0 := 65) (pc' := 72) rfl (hb hby at_65) rfl ((if0 _ _).trans (feq (fun q => hc14 ((lw_eq d2 q1).mp q))).2) (by decide) (by decide) kk) ?_
      refine Go.st (S' := T11.setTop (mkF m 73 #[.val (.long q0), .second, .val (.long q1), .second, .val (.long q2), .second, .val (.long q3), .second, .val (.int p4), .val (.long c2), .second, .val (.long d2), .second, .val (.ref b5), .val (.ref b9), .unset, .unset, .unset, .unset, .unset] [(.int (0 : Int32))])) (fun _ kk => XS.iconst X11.here hx rfl (hb hby at_72) kk) ?_
      refine Go.st (S' := T11.setTop (mkF m 75 #[.val (.long q0), .second, .val (.long q1), .second, .val (.long q2), .second, .val (.long q3), .second, .val (.int p4), .val (.long c2), .second, .val (.long d2), .second, .val (.ref b5), .val (.ref b9), .val (.int (0 : Int32)), .unset, .unset, .unset, .unset] [])) (fun _ kk => XS.istore X11.here hx rfl (hb hby at_73) rfl (l' := #[.val (.long q0), .second, .val (.long q1), .second, .val (.long q2), .second, .val (.long q3), .second, .val (.int p4), .val (.long c2), .second, .val (.long d2), .second, .val (.ref b5), .val (.ref b9), .val (.int (0 : Int32)), .unset, .unset, .unset, .unset]) rfl kk) ?_
      refine Go.st (S' := T11.setTop (mkF m 77 #[.val (.long q0), .second, .val (.long q1), .second, .val (.long q2), .second, .val (.long q3), .second, .val (.int p4), .val (.long c2), .second, .val (.long d2), .second, .val (.ref b5), .val (.ref b9), .val (.int (0 : Int32)), .unset, .unset, .unset, .unset] [(.int p4)])) (fun _ kk => XS.iload X11.here hx rfl (hb hby at_75) rfl kk) ?_
      refine Go.st (S' := T11.setTop (mkF m 78 #[.val (.long q0), .second, .val (.long q1), .second, .val (.long q2), .second, .val (.long q3), .second, .val (.int p4), .val (.long c2), .second, .val (.long d2), .second, .val (.ref b5), .val (.ref b9), .val (.int (0 : Int32)), .unset, .unset, .unset, .unset] [(.int (4 : Int32)), (.int p4)])) (fun _ kk => XS.iconst X11.here hx rfl (hb hby at_77) kk) ?_
      refine Go.st (S' := T11.setTop (mkF m 79 #[.val (.long q0), .second, .val (.long q1), .second, .val (.long q2), .second, .val (.long q3), .second, .val (.int p4), .val (.long c2), .second, .val (.long d2), .second, .val (.ref b5), .val (.ref b9), .val (.int (0 : Int32)), .unset, .unset, .unset, .unset] [(.int (p4 &&& (4 : Int32)))])) (fun _ kk => XS.iand X11.here hx rfl (hb hby at_78) rfl kk) ?_
      by_cases hc24 : (p4 &&& (4 : Int32)) = (0 : Int32)
      · refine Go.st (S' := T11.setTop (mkF m 86 #[.val (.long q0), .second, .val (.long q1), .second, .val (.long q2), .second, .val (.long q3), .second, .val (.int p4), .val (.long c2), .second, .val (.long d2), .second, .val (.ref b5), .val (.ref b9), .val (.int (0 : Int32)), .unset, .unset, .unset, .unset] [])) (fun _ kk => XS.ifYes X11.here hx rfl (pc0 := 79) (pc' := 86) rfl (hb hby at_79) rfl ((if0 _ _).trans (teq hc24).1) (by decide) (by decide) kk) ?_
        refine Go.st (S' := T11.setTop (mkF m 87 #[.val (.long q0), .second, .val (.long q1), .second, .val (.long q2), .second, .val (.long q3), .second, .val (.int p4), .val (.long c2), .second, .val (.long d2), .second, .val (.ref b5), .val (.ref b9), .val (.int (0 : Int32)), .unset, .unset, .unset, .unset] [(.long q0)])) (fun _ kk => XS.lloadN X11.here hx rfl (hb hby at_86) rfl kk) ?_
        obtain ⟨_, _, ⟨T25, L25, k25, n25⟩, -, X25, ⟨Lc25, hQ25, l25, y25, z25⟩, st25⟩ := Jvm.LawKit.callS X11 hx (y := (⟨"java/lang/Long", "valueOf", "(J)Ljava/lang/Long;"⟩ : MethodName)) hown (mvT hZ (hw _ (List.mem_of_getElem? (i := 13) rfl))) (mvT hZ (hw _ (List.mem_of_getElem? (i := 14) rfl))) (mvT hZ (hw _ (List.mem_of_getElem? (i := 15) rfl))) (mvT hZ (hw _ (List.mem_of_getElem? (i := 16) rfl))) (by decide) (backOf (W := 0) (rmVal l Z az hw [] q0 ca T11.heap n0 Zs12 (Ch.ext Od.2)) hZ (hw _ (List.mem_of_getElem? (i := 16) rfl)) (hw _ (List.mem_of_getElem? (i := 15) rfl)) (by decide) (by decide)) (g := (mkF m 87 #[.val (.long q0), .second, .val (.long q1), .second, .val (.long q2), .second, .val (.long q3), .second, .val (.int p4), .val (.long c2), .second, .val (.long d2), .second, .val (.ref b5), .val (.ref b9), .val (.int (0 : Int32)), .unset, .unset, .unset, .unset] [(.long q0)])) rfl (by rw [hml]; rfl) (argsL := [(.long q0)]) (rest := []) (lenOf pd_2 rfl) rfl (by show 2 * 0 + _ ≤ _; exact Nat.le_of_eq rfl) (hb hby at_87) (fun _ _ => ⟨rfl, rfl, (by decide : 2 + 1 ≤ _), (by decide : 4 + 1 ≤ _)⟩)
        dsimp only [Pt.U, Pt.locs, Pt.cells, Pt.slots] at X25 l25 y25 z25 st25 hQ25
        subst l25 y25 z25
        obtain ⟨r25, rfl, N25q, K25, Er25⟩ := hQ25
        have N25 := Fr.app N11 N25q
        have Od := Od.keep K25 all0
        have E_b5 := E_b5.keep K25
        have Fc7_0 := Fc7_0.keep K25 nin0
        have Fc7_1 := Fc7_1.keep K25 nin0
        have E_b9 := E_b9.keep K25
        have Fc11_0 := Fc11_0.keep K25 nin0
        have Fc11_1 := Fc11_1.keep K25 nin0
        have Zs26 := Nat.le_trans Zs12 K25.1
        refine Go.st (S' := T25.setTop (mkF m 90 #[.val (.long q0), .second, .val (.long q1), .second, .val (.long q2), .second, .val (.long q3), .second, .val (.int p4), .val (.long c2), .second, .val (.long d2), .second, .val (.ref b5), .val (.ref b9), .val (.int (0 : Int32)), .unset, .unset, .unset, .unset] [(.ref r25)])) st25 ?_
        refine Go.st (S' := T25.setTop (mkF m 92 #[.val (.long q0), .second, .val (.long q1), .second, .val (.long q2), .second, .val (.long q3), .second, .val (.int p4), .val (.long c2), .second, .val (.long d2), .second, .val (.ref b5), .val (.ref b9), .val (.int (0 : Int32)), .val (.ref r25), .unset, .unset, .unset] [])) (fun _ kk => XS.astore X25.here hx rfl (hb hby at_90) rfl rfl (l' := #[.val (.long q0), .second, .val (.long q1), .second, .val (.long q2), .second, .val (.long q3), .second, .val (.int p4), .val (.long c2), .second, .val (.long d2), .second, .val (.ref b5), .val (.ref b9), .val (.int (0 : Int32)), .val (.ref r25), .unset, .unset, .unset]) rfl kk) ?_
        refine Go.st (S' := T25.setTop (mkF m 94 #[.val (.long q0), .second, .val (.long q1), .second, .val (.long q2), .second, .val (.long q3), .second, .val (.int p4), .val (.long c2), .second, .val (.long d2), .second, .val (.ref b5), .val (.ref b9), .val (.int (0 : Int32)), .val (.ref r25), .unset, .unset, .unset] [(.ref b5)])) (fun _ kk => XS.aload X25.here hx rfl (hb hby at_92) rfl rfl kk) ?_
        refine Go.st (S' := T25.setTop (mkF m 96 #[.val (.long q0), .second, .val (.long q1), .second, .val (.long q2), .second, .val (.long q3), .second, .val (.int p4), .val (.long c2), .second, .val (.long d2), .second, .val (.ref b5), .val (.ref b9), .val (.int (0 : Int32)), .val (.ref r25), .unset, .unset, .unset] [(.ref b9), (.ref b5)])) (fun _ kk => XS.aload X25.here hx rfl (hb hby at_94) rfl rfl kk) ?_
        obtain ⟨cq27, kq27, q27a, q27b, q27c⟩ := isOf hZ rfl E_b5
        obtain ⟨_, _, ⟨T27, L27, k27, n27⟩, -, X27, ⟨Lc27, hQ27, l27, y27, z27⟩, st27⟩ := X25.virtualBack hx (y := (⟨"com/example/offset_lookup/offsetlookup/model/OffsetAndTimestamp", "equals", "(Ljava/lang/Object;)Z"⟩ : MethodName)) (z := (⟨"com/example/offset_lookup/offsetlookup/model/OffsetAndTimestamp", "equals", "(Ljava/lang/Object;)Z"⟩ : MethodName)) hown (mvT hZ (hw _ (List.mem_of_getElem? (i := 21) rfl))) (mvT hZ (hw _ (List.mem_of_getElem? (i := 22) rfl))) (notFace_of_selects (args := #[]) (mvT hZ (hw _ (List.mem_of_getElem? (i := 24) rfl)))) (mvT hZ (hw _ (List.mem_of_getElem? (i := 24) rfl))) (mvT hZ (hw _ (List.mem_of_getElem? (i := 23) rfl))) (by decide) (backOf (W := 0) (rmEq l Z az hw [] b5 b9 q0 q1 c2 d2 T25.heap n0 Zs26 E_b5 Fc7_0 Fc7_1 E_b9 Fc11_0 Fc11_1) hZ (hw _ (List.mem_of_getElem? (i := 25) rfl)) (hw _ (List.mem_of_getElem? (i := 2) rfl)) (by decide) (by decide)) q27a q27c (g := (mkF m 96 #[.val (.long q0), .second, .val (.long q1), .second, .val (.long q2), .second, .val (.long q3), .second, .val (.int p4), .val (.long c2), .second, .val (.long d2), .second, .val (.ref b5), .val (.ref b9), .val (.int (0 : Int32)), .val (.ref r25), .unset, .unset, .unset] [(.ref b9), (.ref b5)])) rfl (by rw [hml]; rfl) (Steps.refl _) (argsL := [(.ref b9)]) (rest := []) (lenOf pd_3 rfl) rfl (by show 2 * 0 + _ ≤ _; exact Nat.le_of_eq rfl) (hb hby at_96) (fun _ _ => ⟨rfl, rfl, (by decide : 3 + 0 ≤ _), (by decide : 5 + 0 ≤ _)⟩)
        dsimp only [Pt.U, Pt.locs, Pt.cells, Pt.slots] at X27 l27 y27 z27 st27 hQ27
        subst l27 y27 z27
        obtain ⟨hv27, N27q, e27⟩ := hQ27
        rw [show fEq q0 q1 c2 d2 = (0 : Int32) from by unfold fEq; rw [if_pos (Eq.symm hc13), if_neg (fun q => hc14 (Eq.symm q))]] at hv27
        subst hv27
        have N27 := Fr.app N25 N27q
        refine Go.tr (S' := T27.setTop (mkF m 99 #[.val (.long q0), .second, .val (.long q1), .second, .val (.long q2), .second, .val (.long q3), .second, .val (.int p4), .val (.long c2), .second, .val (.long d2), .second, .val (.ref b5), .val (.ref b9), .val (.int (0 : Int32)), .val (.ref r25), .unset, .unset, .unset] [(.int (0 : Int32))])) st27 ?_
        refine Go.st (S' := T27.setTop (mkF m 101 #[.val (.long q0), .second, .val (.long q1), .second, .val (.long q2), .second, .val (.long q3), .second, .val (.int p4), .val (.long c2), .second, .val (.long d2), .second, .val (.ref b5), .val (.ref b9), .val (.int (0 : Int32)), .val (.ref r25), .unset, .unset, .unset] [(.int (0 : Int32)), (.int (0 : Int32))])) (fun _ kk => XS.iload X27.here hx rfl (hb hby at_99) rfl kk) ?_
        refine Go.st (S' := T27.setTop (mkF m 104 #[.val (.long q0), .second, .val (.long q1), .second, .val (.long q2), .second, .val (.long q3), .second, .val (.int p4), .val (.long c2), .second, .val (.long d2), .second, .val (.ref b5), .val (.ref b9), .val (.int (0 : Int32)), .val (.ref r25), .unset, .unset, .unset] [])) (fun _ kk => XS.icmpNo X27.here hx rfl (hb hby at_101) rfl (teq (by decide : (0 : Int32) = (0 : Int32))).2 kk) ?_
        refine Go.st (S' := T27.setTop (mkF m 105 #[.val (.long q0), .second, .val (.long q1), .second, .val (.long q2), .second, .val (.long q3), .second, .val (.int p4), .val (.long c2), .second, .val (.long d2), .second, .val (.ref b5), .val (.ref b9), .val (.int (0 : Int32)), .val (.ref r25), .unset, .unset, .unset] [(.int (1 : Int32))])) (fun _ kk => XS.iconst X27.here hx rfl (hb hby at_104) kk) ?_
        refine Go.st (S' := T27.setTop (mkF m 109 #[.val (.long q0), .second, .val (.long q1), .second, .val (.long q2), .second, .val (.long q3), .second, .val (.int p4), .val (.long c2), .second, .val (.long d2), .second, .val (.ref b5), .val (.ref b9), .val (.int (0 : Int32)), .val (.ref r25), .unset, .unset, .unset] [(.int (1 : Int32))])) (fun _ kk => XS.goto X27.here hx rfl (pc0 := 105) (pc' := 109) rfl (hb hby at_105) (by decide) (by decide) kk) ?_
        refine Go.st (S' := T27.setTop (mkF m 111 #[.val (.long q0), .second, .val (.long q1), .second, .val (.long q2), .second, .val (.long q3), .second, .val (.int p4), .val (.long c2), .second, .val (.long d2), .second, .val (.ref b5), .val (.ref b9), .val (.int (0 : Int32)), .val (.ref r25), .val (.int (1 : Int32)), .unset, .unset] [])) (fun _ kk => XS.istore X27.here hx rfl (hb hby at_109) rfl (l' := #[.val (.long q0), .second, .val (.long q1), .second, .val (.long q2), .second, .val (.long q3), .second, .val (.int p4), .val (.long c2), .second, .val (.long d2), .second, .val (.ref b5), .val (.ref b9), .val (.int (0 : Int32)), .val (.ref r25), .val (.int (1 : Int32)), .unset, .unset]) rfl kk) ?_
        refine Go.st (S' := T27.setTop (mkF m 113 #[.val (.long q0), .second, .val (.long q1), .second, .val (.long q2), .second, .val (.long q3), .second, .val (.int p4), .val (.long c2), .second, .val (.long d2), .second, .val (.ref b5), .val (.ref b9), .val (.int (0 : Int32)), .val (.ref r25), .val (.int (1 : Int32)), .unset, .unset] [(.ref b9)])) (fun _ kk => XS.aload X27.here hx rfl (hb hby at_111) rfl rfl kk) ?_
        refine Go.st (S' := T27.setTop (mkF m 115 #[.val (.long q0), .second, .val (.long q1), .second, .val (.long q2), .second, .val (.long q3), .second, .val (.int p4), .val (.long c2), .second, .val (.long d2), .second, .val (.ref b5), .val (.ref b9), .val (.int (0 : Int32)), .val (.ref r25), .val (.int (1 : Int32)), .unset, .unset] [(.ref b5), (.ref b9)])) (fun _ kk => XS.aload X27.here hx rfl (hb hby at_113) rfl rfl kk) ?_
        obtain ⟨cq28, kq28, q28a, q28b, q28c⟩ := isOf hZ e27 E_b9
        obtain ⟨_, _, ⟨T28, L28, k28, n28⟩, -, X28, ⟨Lc28, hQ28, l28, y28, z28⟩, st28⟩ := X27.virtualBack hx (y := (⟨"com/example/offset_lookup/offsetlookup/model/OffsetAndTimestamp", "equals", "(Ljava/lang/Object;)Z"⟩ : MethodName)) (z := (⟨"com/example/offset_lookup/offsetlookup/model/OffsetAndTimestamp", "equals", "(Ljava/lang/Object;)Z"⟩ : MethodName)) hown (mvT hZ (hw _ (List.mem_of_getElem? (i := 21) rfl))) (mvT hZ (hw _ (List.mem_of_getElem? (i := 22) rfl))) (notFace_of_selects (args := #[]) (mvT hZ (hw _ (List.mem_of_getElem? (i := 24) rfl)))) (mvT hZ (hw _ (List.mem_of_getElem? (i := 24) rfl))) (mvT hZ (hw _ (List.mem_of_getElem? (i := 23) rfl))) (by decide) (backOf (W := 0) (rmEq l Z az hw [] b9 b5 c2 d2 q0 q1 T25.heap n0 Zs26 E_b9 Fc11_0 Fc11_1 E_b5 Fc7_0 Fc7_1) hZ (hw _ (List.mem_of_getElem? (i := 25) rfl)) (hw _ (List.mem_of_getElem? (i := 2) rfl)) (by decide) (by decide)) q28a q28c (g := (mkF m 115 #[.val (.long q0), .second, .val (.long q1), .second, .val (.long q2), .second, .val (.long q3), .second, .val (.int p4), .val (.long c2), .second, .val (.long d2), .second, .val (.ref b5), .val (.ref b9), .val (.int (0 : Int32)), .val (.ref r25), .val (.int (1 : Int32)), .unset, .unset] [(.ref b5), (.ref b9)])) rfl (by rw [hml]; rfl) (Steps.refl _) (argsL := [(.ref b5)]) (rest := []) (lenOf pd_3 rfl) rfl (by show 2 * 0 + _ ≤ _; exact Nat.le_of_eq rfl) (hb hby at_115) (fun _ _ => ⟨rfl, e27, (by decide : 3 + 0 ≤ _), (by decide : 5 + 0 ≤ _)⟩)
        dsimp only [Pt.U, Pt.locs, Pt.cells, Pt.slots] at X28 l28 y28 z28 st28 hQ28
        subst l28 y28 z28
        obtain ⟨hv28, N28q, e28⟩ := hQ28
        rw [show fEq c2 d2 q0 q1 = (0 : Int32) from by unfold fEq; rw [if_pos hc13, if_neg hc14]] at hv28
        subst hv28
        have N28 := Fr.app N27 N28q
        refine Go.tr (S' := T28.setTop (mkF m 118 #[.val (.long q0), .second, .val (.long q1), .second, .val (.long q2), .second, .val (.long q3), .second, .val (.int p4), .val (.long c2), .second, .val (.long d2), .second, .val (.ref b5), .val (.ref b9), .val (.int (0 : Int32)), .val (.ref r25), .val (.int (1 : Int32)), .unset, .unset] [(.int (0 : Int32))])) st28 ?_
        refine Go.st (S' := T28.setTop (mkF m 120 #[.val (.long q0), .second, .val (.long q1), .second, .val (.long q2), .second, .val (.long q3), .second, .val (.int p4), .val (.long c2), .second, .val (.long d2), .second, .val (.ref b5), .val (.ref b9), .val (.int (0 : Int32)), .val (.ref r25), .val (.int (1 : Int32)), .unset, .unset] [(.int (0 : Int32)), (.int (0 : Int32))])) (fun _ kk => XS.iload X28.here hx rfl (hb hby at_118) rfl kk) ?_
        refine Go.st (S' := T28.setTop (mkF m 123 #[.val (.long q0), .second, .val (.long q1), .second, .val (.long q2), .second, .val (.long q3), .second, .val (.int p4), .val (.long c2), .second, .val (.long d2), .second, .val (.ref b5), .val (.ref b9), .val (.int (0 : Int32)), .val (.ref r25), .val (.int (1 : Int32)), .unset, .unset] [])) (fun _ kk => XS.icmpNo X28.here hx rfl (hb hby at_120) rfl (teq (by decide : (0 : Int32) = (0 : Int32))).2 kk) ?_
        refine Go.st (S' := T28.setTop (mkF m 124 #[.val (.long q0), .second, .val (.long q1), .second, .val (.long q2), .second, .val (.long q3), .second, .val (.int p4), .val (.long c2), .second, .val (.long d2), .second, .val (.ref b5), .val (.ref b9), .val (.int (0 : Int32)), .val (.ref r25), .val (.int (1 : Int32)), .unset, .unset] [(.int (1 : Int32))])) (fun _ kk => XS.iconst X28.here hx rfl (hb hby at_123) kk) ?_
        refine Go.st (S' := T28.setTop (mkF m 128 #[.val (.long q0), .second, .val (.long q1), .second, .val (.long q2), .second, .val (.long q3), .second, .val (.int p4), .val (.long c2), .second, .val (.long d2), .second, .val (.ref b5), .val (.ref b9), .val (.int (0 : Int32)), .val (.ref r25), .val (.int (1 : Int32)), .unset, .unset] [(.int (1 : Int32))])) (fun _ kk => XS.goto X28.here hx rfl (pc0 := 124) (pc' := 128) rfl (hb hby at_124) (by decide) (by decide) kk) ?_
        refine Go.st (S' := T28.setTop (mkF m 130 #[.val (.long q0), .second, .val (.long q1), .second, .val (.long q2), .second, .val (.long q3), .second, .val (.int p4), .val (.long c2), .second, .val (.long d2), .second, .val (.ref b5), .val (.ref b9), .val (.int (0 : Int32)), .val (.ref r25), .val (.int (1 : Int32)), .val (.int (1 : Int32)), .unset] [])) (fun _ kk => XS.istore X28.here hx rfl (hb hby at_128) rfl (l' := #[.val (.long q0), .second, .val (.long q1), .second, .val (.long q2), .second, .val (.long q3), .second, .val (.int p4), .val (.long c2), .second, .val (.long d2), .second, .val (.ref b5), .val (.ref b9), .val (.int (0 : Int32)), .val (.ref r25), .val (.int (1 : Int32)), .val (.int (1 : Int32)), .unset]) rfl kk) ?_
        refine Go.st (S' := T28.setTop (mkF m 132 #[.val (.long q0), .second, .val (.long q1), .second, .val (.long q2), .second, .val (.long q3), .second, .val (.int p4), .val (.long c2), .second, .val (.long d2), .second, .val (.ref b5), .val (.ref b9), .val (.int (0 : Int32)), .val (.ref r25), .val (.int (1 : Int32)), .val (.int (1 : Int32)), .unset] [(.ref b5)])) (fun _ kk => XS.aload X28.here hx rfl (hb hby at_130) rfl rfl kk) ?_
        refine Go.st (S' := T28.setTop (mkF m 134 #[.val (.long q0), .second, .val (.long q1), .second, .val (.long q2), .second, .val (.long q3), .second, .val (.int p4), .val (.long c2), .second, .val (.long d2), .second, .val (.ref b5), .val (.ref b9), .val (.int (0 : Int32)), .val (.ref r25), .val (.int (1 : Int32)), .val (.int (1 : Int32)), .unset] [(.ref r25), (.ref b5)])) (fun _ kk => XS.aload X28.here hx rfl (hb hby at_132) rfl rfl kk) ?_
        obtain ⟨cq29, kq29, q29a, q29b, q29c⟩ := isOf hZ e28 E_b5
        obtain ⟨_, _, ⟨T29, L29, k29, n29⟩, -, X29, ⟨Lc29, hQ29, l29, y29, z29⟩, st29⟩ := X28.virtualBack hx (y := (⟨"com/example/offset_lookup/offsetlookup/model/OffsetAndTimestamp", "equals", "(Ljava/lang/Object;)Z"⟩ : MethodName)) (z := (⟨"com/example/offset_lookup/offsetlookup/model/OffsetAndTimestamp", "equals", "(Ljava/lang/Object;)Z"⟩ : MethodName)) hown (mvT hZ (hw _ (List.mem_of_getElem? (i := 21) rfl))) (mvT hZ (hw _ (List.mem_of_getElem? (i := 22) rfl))) (notFace_of_selects (args := #[]) (mvT hZ (hw _ (List.mem_of_getElem? (i := 24) rfl)))) (mvT hZ (hw _ (List.mem_of_getElem? (i := 24) rfl))) (mvT hZ (hw _ (List.mem_of_getElem? (i := 23) rfl))) (by decide) (backOf (W := 0) (rmEqL l Z az hw [] b5 r25  T25.heap n0 Zs26 Er25) hZ (hw _ (List.mem_of_getElem? (i := 25) rfl)) (hw _ (List.mem_of_getElem? (i := 2) rfl)) (by decide) (by decide)) q29a q29c (g := (mkF m 134 #[.val (.long q0), .second, .val (.long q1), .second, .val (.long q2), .second, .val (.long q3), .second, .val (.int p4), .val (.long c2), .second, .val (.long d2), .second, .val (.ref b5), .val (.ref b9), .val (.int (0 : Int32)), .val (.ref r25), .val (.int (1 : Int32)), .val (.int (1 : Int32)), .unset] [(.ref r25), (.ref b5)])) rfl (by rw [hml]; rfl) (Steps.refl _) (argsL := [(.ref r25)]) (rest := []) (lenOf pd_3 rfl) rfl (by show 2 * 0 + _ ≤ _; exact Nat.le_of_eq rfl) (hb hby at_134) (fun _ _ => ⟨rfl, e28, (by decide : 3 + 0 ≤ _), (by decide : 5 + 0 ≤ _)⟩)
        dsimp only [Pt.U, Pt.locs, Pt.cells, Pt.slots] at X29 l29 y29 z29 st29 hQ29
        subst l29 y29 z29
        obtain ⟨rfl, N29q, e29⟩ := hQ29
        have N29 := Fr.app N28 N29q
        refine Go.tr (S' := T29.setTop (mkF m 137 #[.val (.long q0), .second, .val (.long q1), .second, .val (.long q2), .second, .val (.long q3), .second, .val (.int p4), .val (.long c2), .second, .val (.long d2), .second, .val (.ref b5), .val (.ref b9), .val (.int (0 : Int32)), .val (.ref r25), .val (.int (1 : Int32)), .val (.int (1 : Int32)), .unset] [(.int (0 : Int32))])) st29 ?_
        refine Go.st (S' := T29.setTop (mkF m 140 #[.val (.long q0), .second, .val (.long q1), .second, .val (.long q2), .second, .val (.long q3), .second, .val (.int p4), .val (.long c2), .second, .val (.long d2), .second, .val (.ref b5), .val (.ref b9), .val (.int (0 : Int32)), .val (.ref r25), .val (.int (1 : Int32)), .val (.int (1 : Int32)), .unset] [])) (fun _ kk => XS.ifNo X29.here hx rfl (hb hby at_137) rfl ((if0 _ _).trans (teq (by decide : (0 : Int32) = (0 : Int32))).2) kk) ?_
        refine Go.st (S' := T29.setTop (mkF m 141 #[.val (.long q0), .second, .val (.long q1), .second, .val (.long q2), .second, .val (.long q3), .second, .val (.int p4), .val (.long c2), .second, .val (.long d2), .second, .val (.ref b5), .val (.ref b9), .val (.int (0 : Int32)), .val (.ref r25), .val (.int (1 : Int32)), .val (.int (1 : Int32)), .unset] [(.int (1 : Int32))])) (fun _ kk => XS.iconst X29.here hx rfl (hb hby at_140) kk) ?_
        refine Go.st (S' := T29.setTop (mkF m 145 #[.val (.long q0), .second, .val (.long q1), .second, .val (.long q2), .second, .val (.long q3), .second, .val (.int p4), .val (.long c2), .second, .val (.long d2), .second, .val (.ref b5), .val (.ref b9), .val (.int (0 : Int32)), .val (.ref r25), .val (.int (1 : Int32)), .val (.int (1 : Int32)), .unset] [(.int (1 : Int32))])) (fun _ kk => XS.goto X29.here hx rfl (pc0 := 141) (pc' := 145) rfl (hb hby at_141) (by decide) (by decide) kk) ?_
        refine Go.st (S' := T29.setTop (mkF m 147 #[.val (.long q0), .second, .val (.long q1), .second, .val (.long q2), .second, .val (.long q3), .second, .val (.int p4), .val (.long c2), .second, .val (.long d2), .second, .val (.ref b5), .val (.ref b9), .val (.int (0 : Int32)), .val (.ref r25), .val (.int (1 : Int32)), .val (.int (1 : Int32)), .val (.int (1 : Int32))] [])) (fun _ kk => XS.istore X29.here hx rfl (hb hby at_145) rfl (l' := #[.val (.long q0), .second, .val (.long q1), .second, .val (.long q2), .second, .val (.long q3), .second, .val (.int p4), .val (.long c2), .second, .val (.long d2), .second, .val (.ref b5), .val (.ref b9), .val (.int (0 : Int32)), .val (.ref r25), .val (.int (1 : Int32)), .val (.int (1 : Int32)), .val (.int (1 : Int32))]) rfl kk) ?_
        refine Go.st (S' := T29.setTop (mkF m 149 #[.val (.long q0), .second, .val (.long q1), .second, .val (.long q2), .second, .val (.long q3), .second, .val (.int p4), .val (.long c2), .second, .val (.long d2), .second, .val (.ref b5), .val (.ref b9), .val (.int (0 : Int32)), .val (.ref r25), .val (.int (1 : Int32)), .val (.int (1 : Int32)), .val (.int (1 : Int32))] [(.int (1 : Int32))])) (fun _ kk => XS.iload X29.here hx rfl (hb hby at_147) rfl kk) ?_
        refine Go.st (S' := T29.setTop (mkF m 152 #[.val (.long q0), .second, .val (.long q1), .second, .val (.long q2), .second, .val (.long q3), .second, .val (.int p4), .val (.long c2), .second, .val (.long d2), .second, .val (.ref b5), .val (.ref b9), .val (.int (0 : Int32)), .val (.ref r25), .val (.int (1 : Int32)), .val (.int (1 : Int32)), .val (.int (1 : Int32))] [])) (fun _ kk => XS.ifNo X29.here hx rfl (hb hby at_149) rfl ((if0 _ _).trans (feq (by decide : ¬ ((1 : Int32) = (0 : Int32)))).1) kk) ?_
        refine Go.st (S' := T29.setTop (mkF m 154 #[.val (.long q0), .second, .val (.long q1), .second, .val (.long q2), .second, .val (.long q3), .second, .val (.int p4), .val (.long c2), .second, .val (.long d2), .second, .val (.ref b5), .val (.ref b9), .val (.int (0 : Int32)), .val (.ref r25), .val (.int (1 : Int32)), .val (.int (1 : Int32)), .val (.int (1 : Int32))] [(.int (1 : Int32))])) (fun _ kk => XS.iload X29.here hx rfl (hb hby at_152) rfl kk) ?_
        refine Go.st (S' := T29.setTop (mkF m 157 #[.val (.long q0), .second, .val (.long q1), .second, .val (.long q2), .second, .val (.long q3), .second, .val (.int p4), .val (.long c2), .second, .val (.long d2), .second, .val (.ref b5), .val (.ref b9), .val (.int (0 : Int32)), .val (.ref r25), .val (.int (1 : Int32)), .val (.int (1 : Int32)), .val (.int (1 : Int32))] [])) (fun _ kk => XS.ifNo X29.here hx rfl (hb hby at_154) rfl ((if0 _ _).trans (feq (by decide : ¬ ((1 : Int32) = (0 : Int32)))).1) kk) ?_
        refine Go.st (S' := T29.setTop (mkF m 159 #[.val (.long q0), .second, .val (.long q1), .second, .val (.long q2), .second, .val (.long q3), .second, .val (.int p4), .val (.long c2), .second, .val (.long d2), .second, .val (.ref b5), .val (.ref b9), .val (.int (0 : Int32)), .val (.ref r25), .val (.int (1 : Int32)), .val (.int (1 : Int32)), .val (.int (1 : Int32))] [(.int (1 : Int32))])) (fun _ kk => XS.iload X29.here hx rfl (hb hby at_157) rfl kk) ?_
        refine Go.st (S' := T29.setTop (mkF m 162 #[.val (.long q0), .second, .val (.long q1), .second, .val (.long q2), .second, .val (.long q3), .second, .val (.int p4), .val (.long c2), .second, .val (.long d2), .second, .val (.ref b5), .val (.ref b9), .val (.int (0 : Int32)), .val (.ref r25), .val (.int (1 : Int32)), .val (.int (1 : Int32)), .val (.int (1 : Int32))] [])) (fun _ kk => XS.ifNo X29.here hx rfl (hb hby at_159) rfl ((if0 _ _).trans (feq (by decide : ¬ ((1 : Int32) = (0 : Int32)))).1) kk) ?_
        refine Go.st (S' := T29.setTop (mkF m 163 #[.val (.long q0), .second, .val (.long q1), .second, .val (.long q2), .second, .val (.long q3), .second, .val (.int p4), .val (.long c2), .second, .val (.long d2), .second, .val (.ref b5), .val (.ref b9), .val (.int (0 : Int32)), .val (.ref r25), .val (.int (1 : Int32)), .val (.int (1 : Int32)), .val (.int (1 : Int32))] [(.int (1 : Int32))])) (fun _ kk => XS.iconst X29.here hx rfl (hb hby at_162) kk) ?_
        refine Go.st (S' := T29.setTop (mkF m 167 #[.val (.long q0), .second, .val (.long q1), .second, .val (.long q2), .second, .val (.long q3), .second, .val (.int p4), .val (.long c2), .second, .val (.long d2), .second, .val (.ref b5), .val (.ref b9), .val (.int (0 : Int32)), .val (.ref r25), .val (.int (1 : Int32)), .val (.int (1 : Int32)), .val (.int (1 : Int32))] [(.int (1 : Int32))])) (fun _ kk => XS.goto X29.here hx rfl (pc0 := 163) (pc' := 167) rfl (hb hby at_163) (by decide) (by decide) kk) ?_
        exact Go.retN X29 hx hlk (t := .boolean) Bd.returns (by simp) (hb hby at_167) (⟨rfl, N29⟩) (by decide) (by decide)
      · refine Go.st (S' := T11.setTop (mkF m 82 #[.val (.long q0), .second, .val (.long q1), .second, .val (.long q2), .second, .val (.long q3), .second, .val (.int p4), .val (.long c2), .second, .val (.long d2), .second, .val (.ref b5), .val (.ref b9), .val (.int (0 : Int32)), .unset, .unset, .unset, .unset] [])) (fun _ kk => XS.ifNo X11.here hx rfl (hb hby at_79) rfl ((if0 _ _).trans (feq hc24).1) kk) ?_
        refine Go.st (S' := T11.setTop (mkF m 83 #[.val (.long q0), .second, .val (.long q1), .second, .val (.long q2), .second, .val (.long q3), .second, .val (.int p4), .val (.long c2), .second, .val (.long d2), .second, .val (.ref b5), .val (.ref b9), .val (.int (0 : Int32)), .unset, .unset, .unset, .unset] [.null])) (fun _ kk => XS.aconstNull X11.here hx rfl (hb hby at_82) kk) ?_
        refine Go.st (S' := T11.setTop (mkF m 90 #[.val (.long q0), .second, .val (.long q1), .second, .val (.long q2), .second, .val (.long q3), .second, .val (.int p4), .val (.long c2), .second, .val (.long d2), .second, .val (.ref b5), .val (.ref b9), .val (.int (0 : Int32)), .unset, .unset, .unset, .unset] [.null])) (fun _ kk => XS.goto X11.here hx rfl (pc0 := 83) (pc' := 90) rfl (hb hby at_83) (by decide) (by decide) kk) ?_
        refine Go.st (S' := T11.setTop (mkF m 92 #[.val (.long q0), .second, .val (.long q1), .second, .val (.long q2), .second, .val (.long q3), .second, .val (.int p4), .val (.long c2), .second, .val (.long d2), .second, .val (.ref b5), .val (.ref b9), .val (.int (0 : Int32)), .val .null, .unset, .unset, .unset] [])) (fun _ kk => XS.astore X11.here hx rfl (hb hby at_90) rfl rfl (l' := #[.val (.long q0), .second, .val (.long q1), .second, .val (.long q2), .second, .val (.long q3), .second, .val (.int p4), .val (.long c2), .second, .val (.long d2), .second, .val (.ref b5), .val (.ref b9), .val (.int (0 : Int32)), .val .null, .unset, .unset, .unset]) rfl kk) ?_
        refine Go.st (S' := T11.setTop (mkF m 94 #[.val (.long q0), .second, .val (.long q1), .second, .val (.long q2), .second, .val (.long q3), .second, .val (.int p4), .val (.long c2), .second, .val (.long d2), .second, .val (.ref b5), .val (.ref b9), .val (.int (0 : Int32)), .val .null, .unset, .unset, .unset] [(.ref b5)])) (fun _ kk => XS.aload X11.here hx rfl (hb hby at_92) rfl rfl kk) ?_
        refine Go.st (S' := T11.setTop (mkF m 96 #[.val (.long q0), .second, .val (.long q1), .second, .val (.long q2), .second, .val (.long q3), .second, .val (.int p4), .val (.long c2), .second, .val (.long d2), .second, .val (.ref b5), .val (.ref b9), .val (.int (0 : Int32)), .val .null, .unset, .unset, .unset] [(.ref b9), (.ref b5)])) (fun _ kk => XS.aload X11.here hx rfl (hb hby at_94) rfl rfl kk) ?_
        obtain ⟨cq30, kq30, q30a, q30b, q30c⟩ := isOf hZ rfl E_b5
        obtain ⟨_, _, ⟨T30, L30, k30, n30⟩, -, X30, ⟨Lc30, hQ30, l30, y30, z30⟩, st30⟩ := X11.virtualBack hx (y := (⟨"com/example/offset_lookup/offsetlookup/model/OffsetAndTimestamp", "equals", "(Ljava/lang/Object;)Z"⟩ : MethodName)) (z := (⟨"com/example/offset_lookup/offsetlookup/model/OffsetAndTimestamp", "equals", "(Ljava/lang/Object;)Z"⟩ : MethodName)) hown (mvT hZ (hw _ (List.mem_of_getElem? (i := 21) rfl))) (mvT hZ (hw _ (List.mem_of_getElem? (i := 22) rfl))) (notFace_of_selects (args := #[]) (mvT hZ (hw _ (List.mem_of_getElem? (i := 24) rfl)))) (mvT hZ (hw _ (List.mem_of_getElem? (i := 24) rfl))) (mvT hZ (hw _ (List.mem_of_getElem? (i := 23) rfl))) (by decide) (backOf (W := 0) (rmEq l Z az hw [] b5 b9 q0 q1 c2 d2 T11.heap n0 Zs12 E_b5 Fc7_0 Fc7_1 E_b9 Fc11_0 Fc11_1) hZ (hw _ (List.mem_of_getElem? (i := 25) rfl)) (hw _ (List.mem_of_getElem? (i := 2) rfl)) (by decide) (by decide)) q30a q30c (g := (mkF m 96 #[.val (.long q0), .second, .val (.long q1), .second, .val (.long q2), .second, .val (.long q3), .second, .val (.int p4), .val (.long c2), .second, .val (.long d2), .second, .val (.ref b5), .val (.ref b9), .val (.int (0 : Int32)), .val .null, .unset, .unset, .unset] [(.ref b9), (.ref b5)])) rfl (by rw [hml]; rfl) (Steps.refl _) (argsL := [(.ref b9)]) (rest := []) (lenOf pd_3 rfl) rfl (by show 2 * 0 + _ ≤ _; exact Nat.le_of_eq rfl) (hb hby at_96) (fun _ _ => ⟨rfl, rfl, (by decide : 2 + 0 ≤ _), (by decide : 4 + 0 ≤ _)⟩)
        dsimp only [Pt.U, Pt.locs, Pt.cells, Pt.slots] at X30 l30 y30 z30 st30 hQ30
        subst l30 y30 z30
        obtain ⟨hv30, N30q, e30⟩ := hQ30
        rw [show fEq q0 q1 c2 d2 = (0 : Int32) from by unfold fEq; rw [if_pos (Eq.symm hc13), if_neg (fun q => hc14 (Eq.symm q))]] at hv30
        subst hv30
        have N30 := Fr.app N11 N30q
        refine Go.tr (S' := T30.setTop (mkF m 99 #[.val (.long q0), .second, .val (.long q1), .second, .val (.long q2), .second, .val (.long q3), .second, .val (.int p4), .val (.long c2), .second, .val (.long d2), .second, .val (.ref b5), .val (.ref b9), .val (.int (0 : Int32)), .val .null, .unset, .unset, .unset] [(.int (0 : Int32))])) st30 ?_
        refine Go.st (S' := T30.setTop (mkF m 101 #[.val (.long q0), .second, .val (.long q1), .second, .val (.long q2), .second, .val (.long q3), .second, .val (.int p4), .val (.long c2), .second, .val (.long d2), .second, .val (.ref b5), .val (.ref b9), .val (.int (0 : Int32)), .val .null, .unset, .unset, .unset] [(.int (0 : Int32)), (.int (0 : Int32))])) (fun _ kk => XS.iload X30.here hx rfl (hb hby at_99) rfl kk) ?_
        refine Go.st (S' := T30.setTop (mkF m 104 #[.val (.long q0), .second, .val (.long q1), .second, .val (.long q2), .second, .val (.long q3), .second, .val (.int p4), .val (.long c2), .second, .val (.long d2), .second, .val (.ref b5), .val (.ref b9), .val (.int (0 : Int32)), .val .null, .unset, .unset, .unset] [])) (fun _ kk => XS.icmpNo X30.here hx rfl (hb hby at_101) rfl (teq (by decide : (0 : Int32) = (0 : Int32))).2 kk) ?_
        refine Go.st (S' := T30.setTop (mkF m 105 #[.val (.long q0), .second, .val (.long q1), .second, .val (.long q2), .second, .val (.long q3), .second, .val (.int p4), .val (.long c2), .second, .val (.long d2), .second, .val (.ref b5), .val (.ref b9), .val (.int (0 : Int32)), .val .null, .unset, .unset, .unset] [(.int (1 : Int32))])) (fun _ kk => XS.iconst X30.here hx rfl (hb hby at_104) kk) ?_
        refine Go.st (S' := T30.setTop (mkF m 109 #[.val (.long q0), .second, .val (.long q1), .second, .val (.long q2), .second, .val (.long q3), .second, .val (.int p4), .val (.long c2), .second, .val (.long d2), .second, .val (.ref b5), .val (.ref b9), .val (.int (0 : Int32)), .val .null, .unset, .unset, .unset] [(.int (1 : Int32))])) (fun _ kk => XS.goto X30.here hx rfl (pc0 := 105) (pc' := 109) rfl (hb hby at_105) (by decide) (by decide) kk) ?_
        refine Go.st (S' := T30.setTop (mkF m 111 #[.val (.long q0), .second, .val (.long q1), .second, .val (.long q2), .second, .val (.long q3), .second, .val (.int p4), .val (.long c2), .second, .val (.long d2), .second, .val (.ref b5), .val (.ref b9), .val (.int (0 : Int32)), .val .null, .val (.int (1 : Int32)), .unset, .unset] [])) (fun _ kk => XS.istore X30.here hx rfl (hb hby at_109) rfl (l' := #[.val (.long q0), .second, .val (.long q1), .second, .val (.long q2), .second, .val (.long q3), .second, .val (.int p4), .val (.long c2), .second, .val (.long d2), .second, .val (.ref b5), .val (.ref b9), .val (.int (0 : Int32)), .val .null, .val (.int (1 : Int32)), .unset, .unset]) rfl kk) ?_
        refine Go.st (S' := T30.setTop (mkF m 113 #[.val (.long q0), .second, .val (.long q1), .second, .val (.long q2), .second, .val (.long q3), .second, .val (.int p4), .val (.long c2), .second, .val (.long d2), .second, .val (.ref b5), .val (.ref b9), .val (.int (0 : Int32)), .val .null, .val (.int (1 : Int32)), .unset, .unset] [(.ref b9)])) (fun _ kk => XS.aload X30.here hx rfl (hb hby at_111) rfl rfl kk) ?_
        refine Go.st (S' := T30.setTop (mkF m 115 #[.val (.long q0), .second, .val (.long q1), .second, .val (.long q2), .second, .val (.long q3), .second, .val (.int p4), .val (.long c2), .second, .val (.long d2), .second, .val (.ref b5), .val (.ref b9), .val (.int (0 : Int32)), .val .null, .val (.int (1 : Int32)), .unset, .unset] [(.ref b5), (.ref b9)])) (fun _ kk => XS.aload X30.here hx rfl (hb hby at_113) rfl rfl kk) ?_
        obtain ⟨cq31, kq31, q31a, q31b, q31c⟩ := isOf hZ e30 E_b9
        obtain ⟨_, _, ⟨T31, L31, k31, n31⟩, -, X31, ⟨Lc31, hQ31, l31, y31, z31⟩, st31⟩ := X30.virtualBack hx (y := (⟨"com/example/offset_lookup/offsetlookup/model/OffsetAndTimestamp", "equals", "(Ljava/lang/Object;)Z"⟩ : MethodName)) (z := (⟨"com/example/offset_lookup/offsetlookup/model/OffsetAndTimestamp", "equals", "(Ljava/lang/Object;)Z"⟩ : MethodName)) hown (mvT hZ (hw _ (List.mem_of_getElem? (i := 21) rfl))) (mvT hZ (hw _ (List.mem_of_getElem? (i := 22) rfl))) (notFace_of_selects (args := #[]) (mvT hZ (hw _ (List.mem_of_getElem? (i := 24) rfl)))) (mvT hZ (hw _ (List.mem_of_getElem? (i := 24) rfl))) (mvT hZ (hw _ (List.mem_of_getElem? (i := 23) rfl))) (by decide) (backOf (W := 0) (rmEq l Z az hw [] b9 b5 c2 d2 q0 q1 T11.heap n0 Zs12 E_b9 Fc11_0 Fc11_1 E_b5 Fc7_0 Fc7_1) hZ (hw _ (List.mem_of_getElem? (i := 25) rfl)) (hw _ (List.mem_of_getElem? (i := 2) rfl)) (by decide) (by decide)) q31a q31c (g := (mkF m 115 #[.val (.long q0), .second, .val (.long q1), .second, .val (.long q2), .second, .val (.long q3), .second, .val (.int p4), .val (.long c2), .second, .val (.long d2), .second, .val (.ref b5), .val (.ref b9), .val (.int (0 : Int32)), .val .null, .val (.int (1 : Int32)), .unset, .unset] [(.ref b5), (.ref b9)])) rfl (by rw [hml]; rfl) (Steps.refl _) (argsL := [(.ref b5)]) (rest := []) (lenOf pd_3 rfl) rfl (by show 2 * 0 + _ ≤ _; exact Nat.le_of_eq rfl) (hb hby at_115) (fun _ _ => ⟨rfl, e30, (by decide : 2 + 0 ≤ _), (by decide : 4 + 0 ≤ _)⟩)
        dsimp only [Pt.U, Pt.locs, Pt.cells, Pt.slots] at X31 l31 y31 z31 st31 hQ31
        subst l31 y31 z31
        obtain ⟨hv31, N31q, e31⟩ := hQ31
        rw [show fEq c2 d2 q0 q1 = (0 : Int32) from by unfold fEq; rw [if_pos hc13, if_neg hc14]] at hv31
        subst hv31
        have N31 := Fr.app N30 N31q
        refine Go.tr (S' := T31.setTop (mkF m 118 #[.val (.long q0), .second, .val (.long q1), .second, .val (.long q2), .second, .val (.long q3), .second, .val (.int p4), .val (.long c2), .second, .val (.long d2), .second, .val (.ref b5), .val (.ref b9), .val (.int (0 : Int32)), .val .null, .val (.int (1 : Int32)), .unset, .unset] [(.int (0 : Int32))])) st31 ?_
        refine Go.st (S' := T31.setTop (mkF m 120 #[.val (.long q0), .second, .val (.long q1), .second, .val (.long q2), .second, .val (.long q3), .second, .val (.int p4), .val (.long c2), .second, .val (.long d2), .second, .val (.ref b5), .val (.ref b9), .val (.int (0 : Int32)), .val .null, .val (.int (1 : Int32)), .unset, .unset] [(.int (0 : Int32)), (.int (0 : Int32))])) (fun _ kk => XS.iload X31.here hx rfl (hb hby at_118) rfl kk) ?_
        refine Go.st (S' := T31.setTop (mkF m 123 #[.val (.long q0), .second, .val (.long q1), .second, .val (.long q2), .second, .val (.long q3), .second, .val (.int p4), .val (.long c2), .second, .val (.long d2), .second, .val (.ref b5), .val (.ref b9), .val (.int (0 : Int32)), .val .null, .val (.int (1 : Int32)), .unset, .unset] [])) (fun _ kk => XS.icmpNo X31.here hx rfl (hb hby at_120) rfl (teq (by decide : (0 : Int32) = (0 : Int32))).2 kk) ?_
        refine Go.st (S' := T31.setTop (mkF m 124 #[.val (.long q0), .second, .val (.long q1), .second, .val (.long q2), .second, .val (.long q3), .second, .val (.int p4), .val (.long c2), .second, .val (.long d2), .second, .val (.ref b5), .val (.ref b9), .val (.int (0 : Int32)), .val .null, .val (.int (1 : Int32)), .unset, .unset] [(.int (1 : Int32))])) (fun _ kk => XS.iconst X31.here hx rfl (hb hby at_123) kk) ?_
        refine Go.st (S' := T31.setTop (mkF m 128 #[.val (.long q0), .second, .val (.long q1), .second, .val (.long q2), .second, .val (.long q3), .second, .val (.int p4), .val (.long c2), .second, .val (.long d2), .second, .val (.ref b5), .val (.ref b9), .val (.int (0 : Int32)), .val .null, .val (.int (1 : Int32)), .unset, .unset] [(.int (1 : Int32))])) (fun _ kk => XS.goto X31.here hx rfl (pc0 := 124) (pc' := 128) rfl (hb hby at_124) (by decide) (by decide) kk) ?_
        refine Go.st (S' := T31.setTop (mkF m 130 #[.val (.long q0), .second, .val (.long q1), .second, .val (.long q2), .second, .val (.long q3), .second, .val (.int p4), .val (.long c2), .second, .val (.long d2), .second, .val (.ref b5), .val (.ref b9), .val (.int (0 : Int32)), .val .null, .val (.int (1 : Int32)), .val (.int (1 : Int32)), .unset] [])) (fun _ kk => XS.istore X31.here hx rfl (hb hby at_128) rfl (l' := #[.val (.long q0), .second, .val (.long q1), .second, .val (.long q2), .second, .val (.long q3), .second, .val (.int p4), .val (.long c2), .second, .val (.long d2), .second, .val (.ref b5), .val (.ref b9), .val (.int (0 : Int32)), .val .null, .val (.int (1 : Int32)), .val (.int (1 : Int32)), .unset]) rfl kk) ?_
        refine Go.st (S' := T31.setTop (mkF m 132 #[.val (.long q0), .second, .val (.long q1), .second, .val (.long q2), .second, .val (.long q3), .second, .val (.int p4), .val (.long c2), .second, .val (.long d2), .second, .val (.ref b5), .val (.ref b9), .val (.int (0 : Int32)), .val .null, .val (.int (1 : Int32)), .val (.int (1 : Int32)), .unset] [(.ref b5)])) (fun _ kk => XS.aload X31.here hx rfl (hb hby at_130) rfl rfl kk) ?_
        refine Go.st (S' := T31.setTop (mkF m 134 #[.val (.long q0), .second, .val (.long q1), .second, .val (.long q2), .second, .val (.long q3), .second, .val (.int p4), .val (.long c2), .second, .val (.long d2), .second, .val (.ref b5), .val (.ref b9), .val (.int (0 : Int32)), .val .null, .val (.int (1 : Int32)), .val (.int (1 : Int32)), .unset] [.null, (.ref b5)])) (fun _ kk => XS.aload X31.here hx rfl (hb hby at_132) rfl rfl kk) ?_
        obtain ⟨cq32, kq32, q32a, q32b, q32c⟩ := isOf hZ e31 E_b5
        obtain ⟨_, _, ⟨T32, L32, k32, n32⟩, -, X32, ⟨Lc32, hQ32, l32, y32, z32⟩, st32⟩ := X31.virtualBack hx (y := (⟨"com/example/offset_lookup/offsetlookup/model/OffsetAndTimestamp", "equals", "(Ljava/lang/Object;)Z"⟩ : MethodName)) (z := (⟨"com/example/offset_lookup/offsetlookup/model/OffsetAndTimestamp", "equals", "(Ljava/lang/Object;)Z"⟩ : MethodName)) hown (mvT hZ (hw _ (List.mem_of_getElem? (i := 21) rfl))) (mvT hZ (hw _ (List.mem_of_getElem? (i := 22) rfl))) (notFace_of_selects (args := #[]) (mvT hZ (hw _ (List.mem_of_getElem? (i := 24) rfl)))) (mvT hZ (hw _ (List.mem_of_getElem? (i := 24) rfl))) (mvT hZ (hw _ (List.mem_of_getElem? (i := 23) rfl))) (by decide) (backOf (W := 0) (rmEqN l Z az hw [] b5  T11.heap n0 Zs12 ) hZ (hw _ (List.mem_of_getElem? (i := 25) rfl)) (hw _ (List.mem_of_getElem? (i := 2) rfl)) (by decide) (by decide)) q32a q32c (g := (mkF m 134 #[.val (.long q0), .second, .val (.long q1), .second, .val (.long q2), .second, .val (.long q3), .second, .val (.int p4), .val (.long c2), .second, .val (.long d2), .second, .val (.ref b5), .val (.ref b9), .val (.int (0 : Int32)), .val .null, .val (.int (1 : Int32)), .val (.int (1 : Int32)), .unset] [.null, (.ref b5)])) rfl (by rw [hml]; rfl) (Steps.refl _) (argsL := [.null]) (rest := []) (lenOf pd_3 rfl) rfl (by show 2 * 0 + _ ≤ _; exact Nat.le_of_eq rfl) (hb hby at_134) (fun _ _ => ⟨rfl, e31, (by decide : 2 + 0 ≤ _), (by decide : 4 + 0 ≤ _)⟩)
        dsimp only [Pt.U, Pt.locs, Pt.cells, Pt.slots] at X32 l32 y32 z32 st32 hQ32
        subst l32 y32 z32
        obtain ⟨rfl, N32q, e32⟩ := hQ32
        have N32 := Fr.app N31 N32q
        refine Go.tr (S' := T32.setTop (mkF m 137 #[.val (.long q0), .second, .val (.long q1), .second, .val (.long q2), .second, .val (.long q3), .second, .val (.int p4), .val (.long c2), .second, .val (.long d2), .second, .val (.ref b5), .val (.ref b9), .val (.int (0 : Int32)), .val .null, .val (.int (1 : Int32)), .val (.int (1 : Int32)), .unset] [(.int (0 : Int32))])) st32 ?_
        refine Go.st (S' := T32.setTop (mkF m 140 #[.val (.long q0), .second, .val (.long q1), .second, .val (.long q2), .second, .val (.long q3), .second, .val (.int p4), .val (.long c2), .second, .val (.long d2), .second, .val (.ref b5), .val (.ref b9), .val (.int (0 : Int32)), .val .null, .val (.int (1 : Int32)), .val (.int (1 : Int32)), .unset] [])) (fun _ kk => XS.ifNo X32.here hx rfl (hb hby at_137) rfl ((if0 _ _).trans (teq (by decide : (0 : Int32) = (0 : Int32))).2) kk) ?_
        refine Go.st (S' := T32.setTop (mkF m 141 #[.val (.long q0), .second, .val (.long q1), .second, .val (.long q2), .second, .val (.long q3), .second, .val (.int p4), .val (.long c2), .second, .val (.long d2), .second, .val (.ref b5), .val (.ref b9), .val (.int (0 : Int32)), .val .null, .val (.int (1 : Int32)), .val (.int (1 : Int32)), .unset] [(.int (1 : Int32))])) (fun _ kk => XS.iconst X32.here hx rfl (hb hby at_140) kk) ?_
        refine Go.st (S' := T32.setTop (mkF m 145 #[.val (.long q0), .second, .val (.long q1), .second, .val (.long q2), .second, .val (.long q3), .second, .val (.int p4), .val (.long c2), .second, .val (.long d2), .second, .val (.ref b5), .val (.ref b9), .val (.int (0 : Int32)), .val .null, .val (.int (1 : Int32)), .val (.int (1 : Int32)), .unset] [(.int (1 : Int32))])) (fun _ kk => XS.goto X32.here hx rfl (pc0 := 141) (pc' := 145) rfl (hb hby at_141) (by decide) (by decide) kk) ?_
        refine Go.st (S' := T32.setTop (mkF m 147 #[.val (.long q0), .second, .val (.long q1), .second, .val (.long q2), .second, .val (.long q3), .second, .val (.int p4), .val (.long c2), .second, .val (.long d2), .second, .val (.ref b5), .val (.ref b9), .val (.int (0 : Int32)), .val .null, .val (.int (1 : Int32)), .val (.int (1 : Int32)), .val (.int (1 : Int32))] [])) (fun _ kk => XS.istore X32.here hx rfl (hb hby at_145) rfl (l' := #[.val (.long q0), .second, .val (.long q1), .second, .val (.long q2), .second, .val (.long q3), .second, .val (.int p4), .val (.long c2), .second, .val (.long d2), .second, .val (.ref b5), .val (.ref b9), .val (.int (0 : Int32)), .val .null, .val (.int (1 : Int32)), .val (.int (1 : Int32)), .val (.int (1 : Int32))]) rfl kk) ?_
        refine Go.st (S' := T32.setTop (mkF m 149 #[.val (.long q0), .second, .val (.long q1), .second, .val (.long q2), .second, .val (.long q3), .second, .val (.int p4), .val (.long c2), .second, .val (.long d2), .second, .val (.ref b5), .val (.ref b9), .val (.int (0 : Int32)), .val .null, .val (.int (1 : Int32)), .val (.int (1 : Int32)), .val (.int (1 : Int32))] [(.int (1 : Int32))])) (fun _ kk => XS.iload X32.here hx rfl (hb hby at_147) rfl kk) ?_
        refine Go.st (S' := T32.setTop (mkF m 152 #[.val (.long q0), .second, .val (.long q1), .second, .val (.long q2), .second, .val (.long q3), .second, .val (.int p4), .val (.long c2), .second, .val (.long d2), .second, .val (.ref b5), .val (.ref b9), .val (.int (0 : Int32)), .val .null, .val (.int (1 : Int32)), .val (.int (1 : Int32)), .val (.int (1 : Int32))] [])) (fun _ kk => XS.ifNo X32.here hx rfl (hb hby at_149) rfl ((if0 _ _).trans (feq (by decide : ¬ ((1 : Int32) = (0 : Int32)))).1) kk) ?_
        refine Go.st (S' := T32.setTop (mkF m 154 #[.val (.long q0), .second, .val (.long q1), .second, .val (.long q2), .second, .val (.long q3), .second, .val (.int p4), .val (.long c2), .second, .val (.long d2), .second, .val (.ref b5), .val (.ref b9), .val (.int (0 : Int32)), .val .null, .val (.int (1 : Int32)), .val (.int (1 : Int32)), .val (.int (1 : Int32))] [(.int (1 : Int32))])) (fun _ kk => XS.iload X32.here hx rfl (hb hby at_152) rfl kk) ?_
        refine Go.st (S' := T32.setTop (mkF m 157 #[.val (.long q0), .second, .val (.long q1), .second, .val (.long q2), .second, .val (.long q3), .second, .val (.int p4), .val (.long c2), .second, .val (.long d2), .second, .val (.ref b5), .val (.ref b9), .val (.int (0 : Int32)), .val .null, .val (.int (1 : Int32)), .val (.int (1 : Int32)), .val (.int (1 : Int32))] [])) (fun _ kk => XS.ifNo X32.here hx rfl (hb hby at_154) rfl ((if0 _ _).trans (feq (by decide : ¬ ((1 : Int32) = (0 : Int32)))).1) kk) ?_
        refine Go.st (S' := T32.setTop (mkF m 159 #[.val (.long q0), .second, .val (.long q1), .second, .val (.long q2), .second, .val (.long q3), .second, .val (.int p4), .val (.long c2), .second, .val (.long d2), .second, .val (.ref b5), .val (.ref b9), .val (.int (0 : Int32)), .val .null, .val (.int (1 : Int32)), .val (.int (1 : Int32)), .val (.int (1 : Int32))] [(.int (1 : Int32))])) (fun _ kk => XS.iload X32.here hx rfl (hb hby at_157) rfl kk) ?_
        refine Go.st (S' := T32.setTop (mkF m 162 #[.val (.long q0), .second, .val (.long q1), .second, .val (.long q2), .second, .val (.long q3), .second, .val (.int p4), .val (.long c2), .second, .val (.long d2), .second, .val (.ref b5), .val (.ref b9), .val (.int (0 : Int32)), .val .null, .val (.int (1 : Int32)), .val (.int (1 : Int32)), .val (.int (1 : Int32))] [])) (fun _ kk => XS.ifNo X32.here hx rfl (hb hby at_159) rfl ((if0 _ _).trans (feq (by decide : ¬ ((1 : Int32) = (0 : Int32)))).1) kk) ?_
        refine Go.st (S' := T32.setTop (mkF m 163 #[.val (.long q0), .second, .val (.long q1), .second, .val (.long q2), .second, .val (.long q3), .second, .val (.int p4), .val (.long c2), .second, .val (.long d2), .second, .val (.ref b5), .val (.ref b9), .val (.int (0 : Int32)), .val .null, .val (.int (1 : Int32)), .val (.int (1 : Int32)), .val (.int (1 : Int32))] [(.int (1 : Int32))])) (fun _ kk => XS.iconst X32.here hx rfl (hb hby at_162) kk) ?_
        refine Go.st (S' := T32.setTop (mkF m 167 #[.val (.long q0), .second, .val (.long q1), .second, .val (.long q2), .second, .val (.long q3), .second, .val (.int p4), .val (.long c2), .second, .val (.long d2), .second, .val (.ref b5), .val (.ref b9), .val (.int (0 : Int32)), .val .null, .val (.int (1 : Int32)), .val (.int (1 : Int32)), .val (.int (1 : Int32))] [(.int (1 : Int32))])) (fun _ kk => XS.goto X32.here hx rfl (pc0 := 163) (pc' := 167) rfl (hb hby at_163) (by decide) (by decide) kk) ?_
        exact Go.retN X32 hx hlk (t := .boolean) Bd.returns (by simp) (hb hby at_167) (⟨rfl, N32⟩) (by decide) (by decide)
  · refine Go.st (S' := T11.setTop (mkF m 72 #[.val (.long q0), .second, .val (.long q1), .second, .val (.long q2), .second, .val (.long q3), .second, .val (.int p4), .val (.long c2), .second, .val (.long d2), .second, .val (.ref b5), .val (.ref b9), .unset, .unset, .unset, .unset, .unset] [])) (fun _ kk => XS.ifYes X11.here hx rfl (pc0 := 58) (pc' := 72) rfl (hb hby at_58) rfl ((if0 _ _).trans (feq (fun q => hc13 ((lw_eq c2 q0).mp q))).2) (by decide) (by decide) kk) ?_
    refine Go.st (S' := T11.setTop (mkF m 73 #[.val (.long q0), .second, .val (.long q1), .second, .val (.long q2), .second, .val (.long q3), .second, .val (.int p4), .val (.long c2), .second, .val (.long d2), .second, .val (.ref b5), .val (.ref b9), .unset, .unset, .unset, .unset, .unset] [(.int (0 : Int32))])) (fun _ kk => XS.iconst X11.here hx rfl (hb hby at_72) kk) ?_
    refine Go.st (S' := T11.setTop (mkF m 75 #[.val (.long q0), .second, .val (.long q1), .second, .val (.long q2), .second, .val (.long q3), .second, .val (.int p4), .val (.long c2), .second, .val (.long d2), .second, .val (.ref b5), .val (.ref b9), .val (.int (0 : Int32)), .unset, .unset, .unset, .unset] [])) (fun _ kk => XS.istore X11.here hx rfl (hb hby at_73) rfl (l' := #[.val (.long q0), .second, .val (.long q1), .second, .val (.long q2), .second, .val (.long q3), .second, .val (.int p4), .val (.long c2), .second, .val (.long d2), .second, .val (.ref b5), .val (.ref b9), .val (.int (0 : Int32)), .unset, .unset, .unset, .unset]) rfl kk) ?_
    refine Go.st (S' := T11.setTop (mkF m 77 #[.val (.long q0), .second, .val (.long q1), .second, .val (.long q2), .second, .val (.long q3), .second, .val (.int p4), .val (.long c2), .second, .val (.long d2), .second, .val (.ref b5), .val (.ref b9), .val (.int (0 : Int32)), .unset, .unset, .unset, .unset] [(.int p4)])) (fun _ kk => XS.iload X11.here hx rfl (hb hby at_75) rfl kk) ?_
    refine Go.st (S' := T11.setTop (mkF m 78 #[.val (.long q0), .second, .val (.long q1), .second, .val (.long q2), .second, .val (.long q3), .second, .val (.int p4), .val (.long c2), .second, .val (.long d2), .second, .val (.ref b5), .val (.ref b9), .val (.int (0 : Int32)), .unset, .unset, .unset, .unset] [(.int (4 : Int32)), (.int p4)])) (fun _ kk => XS.iconst X11.here hx rfl (hb hby at_77) kk) ?_
    refine Go.st (S' := T11.setTop (mkF m 79 #[.val (.long q0), .second, .val (.long q1), .second, .val (.long q2), .second, .val (.long q3), .second, .val (.int p4), .val (.long c2), .second, .val (.long d2), .second, .val (.ref b5), .val (.ref b9), .val (.int (0 : Int32)), .unset, .unset, .unset, .unset] [(.int (p4 &&& (4 : Int32)))])) (fun _ kk => XS.iand X11.here hx rfl (hb hby at_78) rfl kk) ?_
    by_cases hc33 : (p4 &&& (4 : Int32)) = (0 : Int32)
    · refine Go.st (S' := T11.setTop (mkF m 86 #[.val (.long q0), .second, .val (.long q1), .second, .val (.long q2), .second, .val (.long q3), .second, .val (.int p4), .val (.long c2), .second, .val (.long d2), .second, .val (.ref b5), .val (.ref b9), .val (.int (0 : Int32)), .unset, .unset, .unset, .unset] [])) (fun _ kk => XS.ifYes X11.here hx rfl (pc0 := 79) (pc' := 86) rfl (hb hby at_79) rfl ((if0 _ _).trans (teq hc33).1) (by decide) (by decide) kk) ?_
      refine Go.st (S' := T11.setTop (mkF m 87 #[.val (.long q0), .second, .val (.long q1), .second, .val (.long q2), .second, .val (.long q3), .second, .val (.int p4), .val (.long c2), .second, .val (.long d2), .second, .val (.ref b5), .val (.ref b9), .val (.int (0 : Int32)), .unset, .unset, .unset, .unset] [(.long q0)])) (fun _ kk => XS.lloadN X11.here hx rfl (hb hby at_86) rfl kk) ?_
      obtain ⟨_, _, ⟨T34, L34, k34, n34⟩, -, X34, ⟨Lc34, hQ34, l34, y34, z34⟩, st34⟩ := Jvm.LawKit.callS X11 hx (y := (⟨"java/lang/Long", "valueOf", "(J)Ljava/lang/Long;"⟩ : MethodName)) hown (mvT hZ (hw _ (List.mem_of_getElem? (i := 13) rfl))) (mvT hZ (hw _ (List.mem_of_getElem? (i := 14) rfl))) (mvT hZ (hw _ (List.mem_of_getElem? (i := 15) rfl))) (mvT hZ (hw _ (List.mem_of_getElem? (i := 16) rfl))) (by decide) (backOf (W := 0) (rmVal l Z az hw [] q0 ca T11.heap n0 Zs12 (Ch.ext Od.2)) hZ (hw _ (List.mem_of_getElem? (i := 16) rfl)) (hw _ (List.mem_of_getElem? (i := 15) rfl)) (by decide) (by decide)) (g := (mkF m 87 #[.val (.long q0), .second, .val (.long q1), .second, .val (.long q2), .second, .val (.long q3), .second, .val (.int p4), .val (.long c2), .second, .val (.long d2), .second, .val (.ref b5), .val (.ref b9), .val (.int (0 : Int32)), .unset, .unset, .unset, .unset] [(.long q0)])) rfl (by rw [hml]; rfl) (argsL := [(.long q0)]) (rest := []) (lenOf pd_2 rfl) rfl (by show 2 * 0 + _ ≤ _; exact Nat.le_of_eq rfl) (hb hby at_87) (fun _ _ => ⟨rfl, rfl, (by decide : 2 + 1 ≤ _), (by decide : 4 + 1 ≤ _)⟩)
      dsimp only [Pt.U, Pt.locs, Pt.cells, Pt.slots] at X34 l34 y34 z34 st34 hQ34
      subst l34 y34 z34
      obtain ⟨r34, rfl, N34q, K34, Er34⟩ := hQ34
      have N34 := Fr.app N11 N34q
      have Od := Od.keep K34 all0
      have E_b5 := E_b5.keep K34
      have Fc7_0 := Fc7_0.keep K34 nin0
      have Fc7_1 := Fc7_1.keep K34 nin0
      have E_b9 := E_b9.keep K34
      have Fc11_0 := Fc11_0.keep K34 nin0
      have Fc11_1 := Fc11_1.keep K34 nin0
      have Zs35 := Nat.le_trans Zs12 K34.1
      refine Go.st (S' := T34.setTop (mkF m 90 #[.val (.long q0), .second, .val (.long q1), .second, .val (.long q2), .second, .val (.long q3), .second, .val (.int p4), .val (.long c2), .second, .val (.long d2), .second, .val (.ref b5), .val (.ref b9), .val (.int (0 : Int32)), .unset, .unset, .unset, .unset] [(.ref r34)])) st34 ?_
      refine Go.st (S' := T34.setTop (mkF m 92 #[.val (.long q0), .second, .val (.long q1), .second, .val (.long q2), .second, .val (.long q3), .second, .val (.int p4), .val (.long c2), .second, .val (.long d2), .second, .val (.ref b5), .val (.ref b9), .val (.int (0 : Int32)), .val (.ref r34), .unset, .unset, .unset] [])) (fun _ kk => XS.astore X34.here hx rfl (hb hby at_90) rfl rfl (l' := #[.val (.long q0), .second, .val (.long q1), .second, .val (.long q2), .second, .val (.long q3), .second, .val (.int p4), .val (.long c2), .second, .val (.long d2), .second, .val (.ref b5), .val (.ref b9), .val (.int (0 : Int32)), .val (.ref r34), .unset, .unset, .unset]) rfl kk) ?_
      refine Go.st (S' := T34.setTop (mkF m 94 #[.val (.long q0), .second, .val (.long q1), .second, .val (.long q2), .second, .val (.long q3), .second, .val (.int p4), .val (.long c2), .second, .val (.long d2), .second, .val (.ref b5), .val (.ref b9), .val (.int (0 : Int32)), .val (.ref r34), .unset, .unset, .unset] [(.ref b5)])) (fun _ kk => XS.aload X34.here hx rfl (hb hby at_92) rfl rfl kk) ?_
      refine Go.st (S' := T34.setTop (mkF m 96 #[.val (.long q0), .second, .val (.long q1), .second, .val (.long q2), .second, .val (.long q3), .second, .val (.int p4), .val (.long c2), .second, .val (.long d2), .second, .val (.ref b5), .val (.ref b9), .val (.int (0 : Int32)), .val (.ref r34), .unset, .unset, .unset] [(.ref b9), (.ref b5)])) (fun _ kk => XS.aload X34.here hx rfl (hb hby at_94) rfl rfl kk) ?_
      obtain ⟨cq36, kq36, q36a, q36b, q36c⟩ := isOf hZ rfl E_b5
      obtain ⟨_, _, ⟨T36, L36, k36, n36⟩, -, X36, ⟨Lc36, hQ36, l36, y36, z36⟩, st36⟩ := X34.virtualBack hx (y := (⟨"com/example/offset_lookup/offsetlookup/model/OffsetAndTimestamp", "equals", "(Ljava/lang/Object;)Z"⟩ : MethodName)) (z := (⟨"com/example/offset_lookup/offsetlookup/model/OffsetAndTimestamp", "equals", "(Ljava/lang/Object;)Z"⟩ : MethodName)) hown (mvT hZ (hw _ (List.mem_of_getElem? (i := 21) rfl))) (mvT hZ (hw _ (List.mem_of_getElem? (i := 22) rfl))) (notFace_of_selects (args := #[]) (mvT hZ (hw _ (List.mem_of_getElem? (i := 24) rfl)))) (mvT hZ (hw _ (List.mem_of_getElem? (i := 24) rfl))) (mvT hZ (hw _ (List.mem_of_getElem? (i := 23) rfl))) (by decide) (backOf (W := 0) (rmEq l Z az hw [] b5 b9 q0 q1 c2 d2 T34.heap n0 Zs35 E_b5 Fc7_0 Fc7_1 E_b9 Fc11_0 Fc11_1) hZ (hw _ (List.mem_of_getElem? (i := 25) rfl)) (hw _ (List.mem_of_getElem? (i := 2) rfl)) (by decide) (by decide)) q36a q36c (g := (mkF m 96 #[.val (.long q0), .second, .val (.long q1), .second, .val (.long q2), .second, .val (.long q3), .second, .val (.int p4), .val (.long c2), .second, .val (.long d2), .second, .val (.ref b5), .val (.ref b9), .val (.int (0 : Int32)), .val (.ref r34), .unset, .unset, .unset] [(.ref b9), (.ref b5)])) rfl (by rw [hml]; rfl) (Steps.refl _) (argsL := [(.ref b9)]) (rest := []) (lenOf pd_3 rfl) rfl (by show 2 * 0 + _ ≤ _; exact Nat.le_of_eq rfl) (hb hby at_96) (fun _ _ => ⟨rfl, rfl, (by decide : 3 + 0 ≤ _), (by decide : 5 + 0 ≤ _)⟩)
      dsimp only [Pt.U, Pt.locs, Pt.cells, Pt.slots] at X36 l36 y36 z36 st36 hQ36
      subst l36 y36 z36
      obtain ⟨hv36, N36q, e36⟩ := hQ36
      rw [show fEq q0 q1 c2 d2 = (0 : Int32) from by unfold fEq; rw [if_neg (fun q => hc13 (Eq.symm q))]] at hv36
      subst hv36
      have N36 := Fr.app N34 N36q
      refine Go.tr (S' := T36.setTop (mkF m 99 #[.val (.long q0), .second, .val (.long q1), .second, .val (.long q2), .second, .val (.long q3), .second, .val (.int p4), .val (.long c2), .second, .val (.long d2), .second, .val (.ref b5), .val (.ref b9), .val (.int (0 : Int32)), .val (.ref r34), .unset, .unset, .unset] [(.int (0 : Int32))])) st36 ?_
      refine Go.st (S' := T36.setTop (mkF m 101 #[.val (.long q0), .second, .val (.long q1), .second, .val (.long q2), .second, .val (.long q3), .second, .val (.int p4), .val (.long c2), .second, .val (.long d2), .second, .val (.ref b5), .val (.ref b9), .val (.int (0 : Int32)), .val (.ref r34), .unset, .unset, .unset] [(.int (0 : Int32)), (.int (0 : Int32))])) (fun _ kk => XS.iload X36.here hx rfl (hb hby at_99) rfl kk) ?_
      refine Go.st (S' := T36.setTop (mkF m 104 #[.val (.long q0), .second, .val (.long q1), .second, .val (.long q2), .second, .val (.long q3), .second, .val (.int p4), .val (.long c2), .second, .val (.long d2), .second, .val (.ref b5), .val (.ref b9), .val (.int (0 : Int32)), .val (.ref r34), .unset, .unset, .unset] [])) (fun _ kk => XS.icmpNo X36.here hx rfl (hb hby at_101) rfl (teq (by decide : (0 : Int32) = (0 : Int32))).2 kk) ?_
      refine Go.st (S' := T36.setTop (mkF m 105 #[.val (.long q0), .second, .val (.long q1), .second, .val (.long q2), .second, .val (.long q3), .second, .val (.int p4), .val (.long c2), .second, .val (.long d2), .second, .val (.ref b5), .val (.ref b9), .val (.int (0 : Int32)), .val (.ref r34), .unset, .unset, .unset] [(.int (1 : Int32))])) (fun _ kk => XS.iconst X36.here hx rfl (hb hby at_104) kk) ?_
      refine Go.st (S' := T36.setTop (mkF m 109 #[.val (.long q0), .second, .val (.long q1), .second, .val (.long q2), .second, .val (.long q3), .second, .val (.int p4), .val (.long c2), .second, .val (.long d2), .second, .val (.ref b5), .val (.ref b9), .val (.int (0 : Int32)), .val (.ref r34), .unset, .unset, .unset] [(.int (1 : Int32))])) (fun _ kk => XS.goto X36.here hx rfl (pc0 := 105) (pc' := 109) rfl (hb hby at_105) (by decide) (by decide) kk) ?_
      refine Go.st (S' := T36.setTop (mkF m 111 #[.val (.long q0), .second, .val (.long q1), .second, .val (.long q2), .second, .val (.long q3), .second, .val (.int p4), .val (.long c2), .second, .val (.long d2), .second, .val (.ref b5), .val (.ref b9), .val (.int (0 : Int32)), .val (.ref r34), .val (.int (1 : Int32)), .unset, .unset] [])) (fun _ kk => XS.istore X36.here hx rfl (hb hby at_109) rfl (l' := #[.val (.long q0), .second, .val (.long q1), .second, .val (.long q2), .second, .val (.long q3), .second, .val (.int p4), .val (.long c2), .second, .val (.long d2), .second, .val (.ref b5), .val (.ref b9), .val (.int (0 : Int32)), .val (.ref r34), .val (.int (1 : Int32)), .unset, .unset]) rfl kk) ?_
      refine Go.st (S' := T36.setTop (mkF m 113 #[.val (.long q0), .second, .val (.long q1), .second, .val (.long q2), .second, .val (.long q3), .second, .val (.int p4), .val (.long c2), .second, .val (.long d2), .second, .val (.ref b5), .val (.ref b9), .val (.int (0 : Int32)), .val (.ref r34), .val (.int (1 : Int32)), .unset, .unset] [(.ref b9)])) (fun _ kk => XS.aload X36.here hx rfl (hb hby at_111) rfl rfl kk) ?_
      refine Go.st (S' := T36.setTop (mkF m 115 #[.val (.long q0), .second, .val (.long q1), .second, .val (.long q2), .second, .val (.long q3), .second, .val (.int p4), .val (.long c2), .second, .val (.long d2), .second, .val (.ref b5), .val (.ref b9), .val (.int (0 : Int32)), .val (.ref r34), .val (.int (1 : Int32)), .unset, .unset] [(.ref b5), (.ref b9)])) (fun _ kk => XS.aload X36.here hx rfl (hb hby at_113) rfl rfl kk) ?_
      obtain ⟨cq37, kq37, q37a, q37b, q37c⟩ := isOf hZ e36 E_b9
      obtain ⟨_, _, ⟨T37, L37, k37, n37⟩, -, X37, ⟨Lc37, hQ37, l37, y37, z37⟩, st37⟩ := X36.virtualBack hx (y := (⟨"com/example/offset_lookup/offsetlookup/model/OffsetAndTimestamp", "equals", "(Ljava/lang/Object;)Z"⟩ : MethodName)) (z := (⟨"com/example/offset_lookup/offsetlookup/model/OffsetAndTimestamp", "equals", "(Ljava/lang/Object;)Z"⟩ : MethodName)) hown (mvT hZ (hw _ (List.mem_of_getElem? (i := 21) rfl))) (mvT hZ (hw _ (List.mem_of_getElem? (i := 22) rfl))) (notFace_of_selects (args := #[]) (mvT hZ (hw _ (List.mem_of_getElem? (i := 24) rfl)))) (mvT hZ (hw _ (List.mem_of_getElem? (i := 24) rfl))) (mvT hZ (hw _ (List.mem_of_getElem? (i := 23) rfl))) (by decide) (backOf (W := 0) (rmEq l Z az hw [] b9 b5 c2 d2 q0 q1 T34.heap n0 Zs35 E_b9 Fc11_0 Fc11_1 E_b5 Fc7_0 Fc7_1) hZ (hw _ (List.mem_of_getElem? (i := 25) rfl)) (hw _ (List.mem_of_getElem? (i := 2) rfl)) (by decide) (by decide)) q37a q37c (g := (mkF m 115 #[.val (.long q0), .second, .val (.long q1), .second, .val (.long q2), .second, .val (.long q3), .second, .val (.int p4), .val (.long c2), .second, .val (.long d2), .second, .val (.ref b5), .val (.ref b9), .val (.int (0 : Int32)), .val (.ref r34), .val (.int (1 : Int32)), .unset, .unset] [(.ref b5), (.ref b9)])) rfl (by rw [hml]; rfl) (Steps.refl _) (argsL := [(.ref b5)]) (rest := []) (lenOf pd_3 rfl) rfl (by show 2 * 0 + _ ≤ _; exact Nat.le_of_eq rfl) (hb hby at_115) (fun _ _ => ⟨rfl, e36, (by decide : 3 + 0 ≤ _), (by decide : 5 + 0 ≤ _)⟩)
      dsimp only [Pt.U, Pt.locs, Pt.cells, Pt.slots] at X37 l37 y37 z37 st37 hQ37
      subst l37 y37 z37
      obtain ⟨hv37, N37q, e37⟩ := hQ37
      rw [show fEq c2 d2 q0 q1 = (0 : Int32) from by unfold fEq; rw [if_neg hc13]] at hv37
      subst hv37
      have N37 := Fr.app N36 N37q
      refine Go.tr (S' := T37.setTop (mkF m 118 #[.val (.long q0), .second, .val (.long q1), .second, .val (.long q2), .second, .val (.long q3), .second, .val (.int p4), .val (.long c2), .second, .val (.long d2), .second, .val (.ref b5), .val (.ref b9), .val (.int (0 : Int32)), .val (.ref r34), .val (.int (1 : Int32)), .unset, .unset] [(.int (0 : Int32))])) st37 ?_
      refine Go.st (S' := T37.setTop (mkF m 120 #[.val (.long q0), .second, .val (.long q1), .second, .val (.long q2), .second, .val (.long q3), .second, .val (.int p4), .val (.long c2), .second, .val (.long d2), .second, .val (.ref b5), .val (.ref b9), .val (.int (0 : Int32)), .val (.ref r34), .val (.int (1 : Int32)), .unset, .unset] [(.int (0 : Int32)), (.int (0 : Int32))])) (fun _ kk => XS.iload X37.here hx rfl (hb hby at_118) rfl kk) ?_
      refine Go.st (S' := T37.setTop (mkF m 123 #[.val (.long q0), .second, .val (.long q1), .second, .val (.long q2), .second, .val (.long q3), .second, .val (.int p4), .val (.long c2), .second, .val (.long d2), .second, .val (.ref b5), .val (.ref b9), .val (.int (0 : Int32)), .val (.ref r34), .val (.int (1 : Int32)), .unset, .unset] [])) (fun _ kk => XS.icmpNo X37.here hx rfl (hb hby at_120) rfl (teq (by decide : (0 : Int32) = (0 : Int32))).2 kk) ?_
      refine Go.st (S' := T37.setTop (mkF m 124 #[.val (.long q0), .second, .val (.long q1), .second, .val (.long q2), .second, .val (.long q3), .second, .val (.int p4), .val (.long c2), .second, .val (.long d2), .second, .val (.ref b5), .val (.ref b9), .val (.int (0 : Int32)), .val (.ref r34), .val (.int (1 : Int32)), .unset, .unset] [(.int (1 : Int32))])) (fun _ kk => XS.iconst X37.here hx rfl (hb hby at_123) kk) ?_
      refine Go.st (S' := T37.setTop (mkF m 128 #[.val (.long q0), .second, .val (.long q1), .second, .val (.long q2), .second, .val (.long q3), .second, .val (.int p4), .val (.long c2), .second, .val (.long d2), .second, .val (.ref b5), .val (.ref b9), .val (.int (0 : Int32)), .val (.ref r34), .val (.int (1 : Int32)), .unset, .unset] [(.int (1 : Int32))])) (fun _ kk => XS.goto X37.here hx rfl (pc0 := 124) (pc' := 128) rfl (hb hby at_124) (by decide) (by decide) kk) ?_
      refine Go.st (S' := T37.setTop (mkF m 130 #[.val (.long q0), .second, .val (.long q1), .second, .val (.long q2), .second, .val (.long q3), .second, .val (.int p4), .val (.long c2), .second, .val (.long d2), .second, .val (.ref b5), .val (.ref b9), .val (.int (0 : Int32)), .val (.ref r34), .val (.int (1 : Int32)), .val (.int (1 : Int32)), .unset] [])) (fun _ kk => XS.istore X37.here hx rfl (hb hby at_128) rfl (l' := #[.val (.long q0), .second, .val (.long q1), .second, .val (.long q2), .second, .val (.long q3), .second, .val (.int p4), .val (.long c2), .second, .val (.long d2), .second, .val (.ref b5), .val (.ref b9), .val (.int (0 : Int32)), .val (.ref r34), .val (.int (1 : Int32)), .val (.int (1 : Int32)), .unset]) rfl kk) ?_
      refine Go.st (S' := T37.setTop (mkF m 132 #[.val (.long q0), .second, .val (.long q1), .second, .val (.long q2), .second, .val (.long q3), .second, .val (.int p4), .val (.long c2), .second, .val (.long d2), .second, .val (.ref b5), .val (.ref b9), .val (.int (0 : Int32)), .val (.ref r34), .val (.int (1 : Int32)), .val (.int (1 : Int32)), .unset] [(.ref b5)])) (fun _ kk => XS.aload X37.here hx rfl (hb hby at_130) rfl rfl kk) ?_
      refine Go.st (S' := T37.setTop (mkF m 134 #[.val (.long q0), .second, .val (.long q1), .second, .val (.long q2), .second, .val (.long q3), .second, .val (.int p4), .val (.long c2), .second, .val (.long d2), .second, .val (.ref b5), .val (.ref b9), .val (.int (0 : Int32)), .val (.ref r34), .val (.int (1 : Int32)), .val (.int (1 : Int32)), .unset] [(.ref r34), (.ref b5)])) (fun _ kk => XS.aload X37.here hx rfl (hb hby at_132) rfl rfl kk) ?_
      obtain ⟨cq38, kq38, q38a, q38b, q38c⟩ := isOf hZ e37 E_b5
      obtain ⟨_, _, ⟨T38, L38, k38, n38⟩, -, X38, ⟨Lc38, hQ38, l38, y38, z38⟩, st38⟩ := X37.virtualBack hx (y := (⟨"com/example/offset_lookup/offsetlookup/model/OffsetAndTimestamp", "equals", "(Ljava/lang/Object;)Z"⟩ : MethodName)) (z := (⟨"com/example/offset_lookup/offsetlookup/model/OffsetAndTimestamp", "equals", "(Ljava/lang/Object;)Z"⟩ : MethodName)) hown (mvT hZ (hw _ (List.mem_of_getElem? (i := 21) rfl))) (mvT hZ (hw _ (List.mem_of_getElem? (i := 22) rfl))) (notFace_of_selects (args := #[]) (mvT hZ (hw _ (List.mem_of_getElem? (i := 24) rfl)))) (mvT hZ (hw _ (List.mem_of_getElem? (i := 24) rfl))) (mvT hZ (hw _ (List.mem_of_getElem? (i := 23) rfl))) (by decide) (backOf (W := 0) (rmEqL l Z az hw [] b5 r34  T34.heap n0 Zs35 Er34) hZ (hw _ (List.mem_of_getElem? (i := 25) rfl)) (hw _ (List.mem_of_getElem? (i := 2) rfl)) (by decide) (by decide)) q38a q38c (g := (mkF m 134 #[.val (.long q0), .second, .val (.long q1), .second, .val (.long q2), .second, .val (.long q3), .second, .val (.int p4), .val (.long c2), .second, .val (.long d2), .second, .val (.ref b5), .val (.ref b9), .val (.int (0 : Int32)), .val (.ref r34), .val (.int (1 : Int32)), .val (.int (1 : Int32)), .unset] [(.ref r34), (.ref b5)])) rfl (by rw [hml]; rfl) (Steps.refl _) (argsL := [(.ref r34)]) (rest := []) (lenOf pd_3 rfl) rfl (by show 2 * 0 + _ ≤ _; exact Nat.le_of_eq rfl) (hb hby at_134) (fun _ _ => ⟨rfl, e37, (by decide : 3 + 0 ≤ _), (by decide : 5 + 0 ≤ _)⟩)
      dsimp only [Pt.U, Pt.locs, Pt.cells, Pt.slots] at X38 l38 y38 z38 st38 hQ38
      subst l38 y38 z38
      obtain ⟨rfl, N38q, e38⟩ := hQ38
      have N38 := Fr.app N37 N38q
      refine Go.tr (S' := T38.setTop (mkF m 137 #[.val (.long q0), .second, .val (.long q1), .second, .val (.long q2), .second, .val (.long q3), .second, .val (.int p4), .val (.long c2), .second, .val (.long d2), .second, .val (.ref b5), .val (.ref b9), .val (.int (0 : Int32)), .val (.ref r34), .val (.int (1 : Int32)), .val (.int (1 : Int32)), .unset] [(.int (0 : Int32))])) st38 ?_
      refine Go.st (S' := T38.setTop (mkF m 140 #[.val (.long q0), .second, .val (.long q1), .second, .val (.long q2), .second, .val (.long q3), .second, .val (.int p4), .val (.long c2), .second, .val (.long d2), .second, .val (.ref b5), .val (.ref b9), .val (.int (0 : Int32)), .val (.ref r34), .val (.int (1 : Int32)), .val (.int (1 : Int32)), .unset] [])) (fun _ kk => XS.ifNo X38.here hx rfl (hb hby at_137) rfl ((if0 _ _).trans (teq (by decide : (0 : Int32) = (0 : Int32))).2) kk) ?_
      refine Go.st (S' := T38.setTop (mkF m 141 #[.val (.long q0), .second, .val (.long q1), .second, .val (.long q2), .second, .val (.long q3), .second, .val (.int p4), .val (.long c2), .second, .val (.long d2), .second, .val (.ref b5), .val (.ref b9), .val (.int (0 : Int32)), .val (.ref r34), .val (.int (1 : Int32)), .val (.int (1 : Int32)), .unset] [(.int (1 : Int32))])) (fun _ kk => XS.iconst X38.here hx rfl (hb hby at_140) kk) ?_
      refine Go.st (S' := T38.setTop (mkF m 145 #[.val (.long q0), .second, .val (.long q1), .second, .val (.long q2), .second, .val (.long q3), .second, .val (.int p4), .val (.long c2), .second, .val (.long d2), .second, .val (.ref b5), .val (.ref b9), .val (.int (0 : Int32)), .val (.ref r34), .val (.int (1 : Int32)), .val (.int (1 : Int32)), .unset] [(.int (1 : Int32))])) (fun _ kk => XS.goto X38.here hx rfl (pc0 := 141) (pc' := 145) rfl (hb hby at_141) (by decide) (by decide) kk) ?_
      refine Go.st (S' := T38.setTop (mkF m 147 #[.val (.long q0), .second, .val (.long q1), .second, .val (.long q2), .second, .val (.long q3), .second, .val (.int p4), .val (.long c2), .second, .val (.long d2), .second, .val (.ref b5), .val (.ref b9), .val (.int (0 : Int32)), .val (.ref r34), .val (.int (1 : Int32)), .val (.int (1 : Int32)), .val (.int (1 : Int32))] [])) (fun _ kk => XS.istore X38.here hx rfl (hb hby at_145) rfl (l' := #[.val (.long q0), .second, .val (.long q1), .second, .val (.long q2), .second, .val (.long q3), .second, .val (.int p4), .val (.long c2), .second, .val (.long d2), .second, .val (.ref b5), .val (.ref b9), .val (.int (0 : Int32)), .val (.ref r34), .val (.int (1 : Int32)), .val (.int (1 : Int32)), .val (.int (1 : Int32))]) rfl kk) ?_
      refine Go.st (S' := T38.setTop (mkF m 149 #[.val (.long q0), .second, .val (.long q1), .second, .val (.long q2), .second, .val (.long q3), .second, .val (.int p4), .val (.long c2), .second, .val (.long d2), .second, .val (.ref b5), .val (.ref b9), .val (.int (0 : Int32)), .val (.ref r34), .val (.int (1 : Int32)), .val (.int (1 : Int32)), .val (.int (1 : Int32))] [(.int (1 : Int32))])) (fun _ kk => XS.iload X38.here hx rfl (hb hby at_147) rfl kk) ?_
      refine Go.st (S' := T38.setTop (mkF m 152 #[.val (.long q0), .second, .val (.long q1), .second, .val (.long q2), .second, .val (.long q3), .second, .val (.int p4), .val (.long c2), .second, .val (.long d2), .second, .val (.ref b5), .val (.ref b9), .val (.int (0 : Int32)), .val (.ref r34), .val (.int (1 : Int32)), .val (.int (1 : Int32)), .val (.int (1 : Int32))] [])) (fun _ kk => XS.ifNo X38.here hx rfl (hb hby at_149) rfl ((if0 _ _).trans (feq (by decide : ¬ ((1 : Int32) = (0 : Int32)))).1) kk) ?_
      refine Go.st (S' := T38.setTop (mkF m 154 #[.val (.long q0), .second, .val (.long q1), .second, .val (.long q2), .second, .val (.long q3), .second, .val (.int p4), .val (.long c2), .second, .val (.long d2), .second, .val (.ref b5), .val (.ref b9), .val (.int (0 : Int32)), .val (.ref r34), .val (.int (1 : Int32)), .val (.int (1 : Int32)), .val (.int (1 : Int32))] [(.int (1 : Int32))])) (fun _ kk => XS.iload X38.here hx rfl (hb hby at_152) rfl kk) ?_
      refine Go.st (S' := T38.setTop (mkF m 157 #[.val (.long q0), .second, .val (.long q1), .second, .val (.long q2), .second, .val (.long q3), .second, .val (.int p4), .val (.long c2), .second, .val (.long d2), .second, .val (.ref b5), .val (.ref b9), .val (.int (0 : Int32)), .val (.ref r34), .val (.int (1 : Int32)), .val (.int (1 : Int32)), .val (.int (1 : Int32))] [])) (fun _ kk => XS.ifNo X38.here hx rfl (hb hby at_154) rfl ((if0 _ _).trans (feq (by decide : ¬ ((1 : Int32) = (0 : Int32)))).1) kk) ?_
      refine Go.st (S' := T38.setTop (mkF m 159 #[.val (.long q0), .second, .val (.long q1), .second, .val (.long q2), .second, .val (.long q3), .second, .val (.int p4), .val (.long c2), .second, .val (.long d2), .second, .val (.ref b5), .val (.ref b9), .val (.int (0 : Int32)), .val (.ref r34), .val (.int (1 : Int32)), .val (.int (1 : Int32)), .val (.int (1 : Int32))] [(.int (1 : Int32))])) (fun _ kk => XS.iload X38.here hx rfl (hb hby at_157) rfl kk) ?_
      refine Go.st (S' := T38.setTop (mkF m 162 #[.val (.long q0), .second, .val (.long q1), .second, .val (.long q2), .second, .val (.long q3), .second, .val (.int p4), .val (.long c2), .second, .val (.long d2), .second, .val (.ref b5), .val (.ref b9), .val (.int (0 : Int32)), .val (.ref r34), .val (.int (1 : Int32)), .val (.int (1 : Int32)), .val (.int (1 : Int32))] [])) (fun _ kk => XS.ifNo X38.here hx rfl (hb hby at_159) rfl ((if0 _ _).trans (feq (by decide : ¬ ((1 : Int32) = (0 : Int32)))).1) kk) ?_
      refine Go.st (S' := T38.setTop (mkF m 163 #[.val (.long q0), .second, .val (.long q1), .second, .val (.long q2), .second, .val (.long q3), .second, .val (.int p4), .val (.long c2), .second, .val (.long d2), .second, .val (.ref b5), .val (.ref b9), .val (.int (0 : Int32)), .val (.ref r34), .val (.int (1 : Int32)), .val (.int (1 : Int32)), .val (.int (1 : Int32))] [(.int (1 : Int32))])) (fun _ kk => XS.iconst X38.here hx rfl (hb hby at_162) kk) ?_
      refine Go.st (S' := T38.setTop (mkF m 167 #[.val (.long q0), .second, .val (.long q1), .second, .val (.long q2), .second, .val (.long q3), .second, .val (.int p4), .val (.long c2), .second, .val (.long d2), .second, .val (.ref b5), .val (.ref b9), .val (.int (0 : Int32)), .val (.ref r34), .val (.int (1 : Int32)), .val (.int (1 : Int32)), .val (.int (1 : Int32))] [(.int (1 : Int32))])) (fun _ kk => XS.goto X38.here hx rfl (pc0 := 163) (pc' := 167) rfl (hb hby at_163) (by decide) (by decide) kk) ?_
      exact Go.retN X38 hx hlk (t := .boolean) Bd.returns (by simp) (hb hby at_167) (⟨rfl, N38⟩) (by decide) (by decide)
    · refine Go.st (S' := T11.setTop (mkF m 82 #[.val (.long q0), .second, .val (.long q1), .second, .val (.long q2), .second, .val (.long q3), .second, .val (.int p4), .val (.long c2), .second, .val (.long d2), .second, .val (.ref b5), .val (.ref b9), .val (.int (0 : Int32)), .unset, .unset, .unset, .unset] [])) (fun _ kk => XS.ifNo X11.here hx rfl (hb hby at_79) rfl ((if0 _ _).trans (feq hc33).1) kk) ?_
      refine Go.st (S' := T11.setTop (mkF m 83 #[.val (.long q0), .second, .val (.long q1), .second, .val (.long q2), .second, .val (.long q3), .second, .val (.int p4), .val (.long c2), .second, .val (.long d2), .second, .val (.ref b5), .val (.ref b9), .val (.int (0 : Int32)), .unset, .unset, .unset, .unset] [.null])) (fun _ kk => XS.aconstNull X11.here hx rfl (hb hby at_82) kk) ?_
      refine Go.st (S' := T11.setTop (mkF m 90 #[.val (.long q0), .second, .val (.long q1), .second, .val (.long q2), .second, .val (.long q3), .second, .val (.int p4), .val (.long c2), .second, .val (.long d2), .second, .val (.ref b5), .val (.ref b9), .val (.int (0 : Int32)), .unset, .unset, .unset, .unset] [.null])) (fun _ kk => XS.goto X11.here hx rfl (pc0 := 83) (pc' := 90) rfl (hb hby at_83) (by decide) (by decide) kk) ?_
      refine Go.st (S' := T11.setTop (mkF m 92 #[.val (.long q0), .second, .val (.long q1), .second, .val (.long q2), .second, .val (.long q3), .second, .val (.int p4), .val (.long c2), .second, .val (.long d2), .second, .val (.ref b5), .val (.ref b9), .val (.int (0 : Int32)), .val .null, .unset, .unset, .unset] [])) (fun _ kk => XS.astore X11.here hx rfl (hb hby at_90) rfl rfl (l' := #[.val (.long q0), .second, .val (.long q1), .second, .val (.long q2), .second, .val (.long q3), .second, .val (.int p4), .val (.long c2), .second, .val (.long d2), .second, .val (.ref b5), .val (.ref b9), .val (.int (0 : Int32)), .val .null, .unset, .unset, .unset]) rfl kk) ?_
      refine Go.st (S' := T11.setTop (mkF m 94 #[.val (.long q0), .second, .val (.long q1), .second, .val (.long q2), .second, .val (.long q3), .second, .val (.int p4), .val (.long c2), .second, .val (.long d2), .second, .val (.ref b5), .val (.ref b9), .val (.int (0 : Int32)), .val .null, .unset, .unset, .unset] [(.ref b5)])) (fun _ kk => XS.aload X11.here hx rfl (hb hby at_92) rfl rfl kk) ?_
      refine Go.st (S' := T11.setTop (mkF m 96 #[.val (.long q0), .second, .val (.long q1), .second, .val (.long q2), .second, .val (.long q3), .second, .val (.int p4), .val (.long c2), .second, .val (.long d2), .second, .val (.ref b5), .val (.ref b9), .val (.int (0 : Int32)), .val .null, .unset, .unset, .unset] [(.ref b9), (.ref b5)])) (fun _ kk => XS.aload X11.here hx rfl (hb hby at_94) rfl rfl kk) ?_
      obtain ⟨cq39, kq39, q39a, q39b, q39c⟩ := isOf hZ rfl E_b5
      obtain ⟨_, _, ⟨T39, L39, k39, n39⟩, -, X39, ⟨Lc39, hQ39, l39, y39, z39⟩, st39⟩ := X11.virtualBack hx (y := (⟨"com/example/offset_lookup/offsetlookup/model/OffsetAndTimestamp", "equals", "(Ljava/lang/Object;)Z"⟩ : MethodName)) (z := (⟨"com/example/offset_lookup/offsetlookup/model/OffsetAndTimestamp", "equals", "(Ljava/lang/Object;)Z"⟩ : MethodName)) hown (mvT hZ (hw _ (List.mem_of_getElem? (i := 21) rfl))) (mvT hZ (hw _ (List.mem_of_getElem? (i := 22) rfl))) (notFace_of_selects (args := #[]) (mvT hZ (hw _ (List.mem_of_getElem? (i := 24) rfl)))) (mvT hZ (hw _ (List.mem_of_getElem? (i := 24) rfl))) (mvT hZ (hw _ (List.mem_of_getElem? (i := 23) rfl))) (by decide) (backOf (W := 0) (rmEq l Z az hw [] b5 b9 q0 q1 c2 d2 T11.heap n0 Zs12 E_b5 Fc7_0 Fc7_1 E_b9 Fc11_0 Fc11_1) hZ (hw _ (List.mem_of_getElem? (i := 25) rfl)) (hw _ (List.mem_of_getElem? (i := 2) rfl)) (by decide) (by decide)) q39a q39c (g := (mkF m 96 #[.val (.long q0), .second, .val (.long q1), .second, .val (.long q2), .second, .val (.long q3), .second, .val (.int p4), .val (.long c2), .second, .val (.long d2), .second, .val (.ref b5), .val (.ref b9), .val (.int (0 : Int32)), .val .null, .unset, .unset, .unset] [(.ref b9), (.ref b5)])) rfl (by rw [hml]; rfl) (Steps.refl _) (argsL := [(.ref b9)]) (rest := []) (lenOf pd_3 rfl) rfl (by show 2 * 0 + _ ≤ _; exact Nat.le_of_eq rfl) (hb hby at_96) (fun _ _ => ⟨rfl, rfl, (by decide : 2 + 0 ≤ _), (by decide : 4 + 0 ≤ _)⟩)
      dsimp only [Pt.U, Pt.locs, Pt.cells, Pt.slots] at X39 l39 y39 z39 st39 hQ39
      subst l39 y39 z39
      obtain ⟨hv39, N39q, e39⟩ := hQ39
      rw [show fEq q0 q1 c2 d2 = (0 : Int32) from by unfold fEq; rw [if_neg (fun q => hc13 (Eq.symm q))]] at hv39
      subst hv39
      have N39 := Fr.app N11 N39q
      refine Go.tr (S' := T39.setTop (mkF m 99 #[.val (.long q0), .second, .val (.long q1), .second, .val (.long q2), .second, .val (.long q3), .second, .val (.int p4), .val (.long c2), .second, .val (.long d2), .second, .val (.ref b5), .val (.ref b9), .val (.int (0 : Int32)), .val .null, .unset, .unset, .unset] [(.int (0 : Int32))])) st39 ?_
      refine Go.st (S' := T39.setTop (mkF m 101 #[.val (.long q0), .second, .val (.long q1), .second, .val (.long q2), .second, .val (.long q3), .second, .val (.int p4), .val (.long c2), .second, .val (.long d2), .second, .val (.ref b5), .val (.ref b9), .val (.int (0 : Int32)), .val .null, .unset, .unset, .unset] [(.int (0 : Int32)), (.int (0 : Int32))])) (fun _ kk => XS.iload X39.here hx rfl (hb hby at_99) rfl kk) ?_
      refine Go.st (S' := T39.setTop (mkF m 104 #[.val (.long q0), .second, .val (.long q1), .second, .val (.long q2), .second, .val (.long q3), .second, .val (.int p4), .val (.long c2), .second, .val (.long d2), .second, .val (.ref b5), .val (.ref b9), .val (.int (0 : Int32)), .val .null, .unset, .unset, .unset] [])) (fun _ kk => XS.icmpNo X39.here hx rfl (hb hby at_101) rfl (teq (by decide : (0 : Int32) = (0 : Int32))).2 kk) ?_
      refine Go.st (S' := T39.setTop (mkF m 105 #[.val (.long q0), .second, .val (.long q1), .second, .val (.long q2), .second, .val (.long q3), .second, .val (.int p4), .val (.long c2), .second, .val (.long d2), .second, .val (.ref b5), .val (.ref b9), .val (.int (0 : Int32)), .val .null, .unset, .unset, .unset] [(.int (1 : Int32))])) (fun _ kk => XS.iconst X39.here hx rfl (hb hby at_104) kk) ?_
      refine Go.st (S' := T39.setTop (mkF m 109 #[.val (.long q0), .second, .val (.long q1), .second, .val (.long q2), .second, .val (.long q3), .second, .val (.int p4), .val (.long c2), .second, .val (.long d2), .second, .val (.ref b5), .val (.ref b9), .val (.int (0 : Int32)), .val .null, .unset, .unset, .unset] [(.int (1 : Int32))])) (fun _ kk => XS.goto X39.here hx rfl (pc0 := 105) (pc' := 109) rfl (hb hby at_105) (by decide) (by decide) kk) ?_
      refine Go.st (S' := T39.setTop (mkF m 111 #[.val (.long q0), .second, .val (.long q1), .second, .val (.long q2), .second, .val (.long q3), .second, .val (.int p4), .val (.long c2), .second, .val (.long d2), .second, .val (.ref b5), .val (.ref b9), .val (.int (0 : Int32)), .val .null, .val (.int (1 : Int32)), .unset, .unset] [])) (fun _ kk => XS.istore X39.here hx rfl (hb hby at_109) rfl (l' := #[.val (.long q0), .second, .val (.long q1), .second, .val (.long q2), .second, .val (.long q3), .second, .val (.int p4), .val (.long c2), .second, .val (.long d2), .second, .val (.ref b5), .val (.ref b9), .val (.int (0 : Int32)), .val .null, .val (.int (1 : Int32)), .unset, .unset]) rfl kk) ?_
      refine Go.st (S' := T39.setTop (mkF m 113 #[.val (.long q0), .second, .val (.long q1), .second, .val (.long q2), .second, .val (.long q3), .second, .val (.int p4), .val (.long c2), .second, .val (.long d2), .second, .val (.ref b5), .val (.ref b9), .val (.int (0 : Int32)), .val .null, .val (.int (1 : Int32)), .unset, .unset] [(.ref b9)])) (fun _ kk => XS.aload X39.here hx rfl (hb hby at_111) rfl rfl kk) ?_
      refine Go.st (S' := T39.setTop (mkF m 115 #[.val (.long q0), .second, .val (.long q1), .second, .val (.long q2), .second, .val (.long q3), .second, .val (.int p4), .val (.long c2), .second, .val (.long d2), .second, .val (.ref b5), .val (.ref b9), .val (.int (0 : Int32)), .val .null, .val (.int (1 : Int32)), .unset, .unset] [(.ref b5), (.ref b9)])) (fun _ kk => XS.aload X39.here hx rfl (hb hby at_113) rfl rfl kk) ?_
      obtain ⟨cq40, kq40, q40a, q40b, q40c⟩ := isOf hZ e39 E_b9
      obtain ⟨_, _, ⟨T40, L40, k40, n40⟩, -, X40, ⟨Lc40, hQ40, l40, y40, z40⟩, st40⟩ := X39.virtualBack hx (y := (⟨"com/example/offset_lookup/offsetlookup/model/OffsetAndTimestamp", "equals", "(Ljava/lang/Object;)Z"⟩ : MethodName)) (z := (⟨"com/example/offset_lookup/offsetlookup/model/OffsetAndTimestamp", "equals", "(Ljava/lang/Object;)Z"⟩ : MethodName)) hown (mvT hZ (hw _ (List.mem_of_getElem? (i := 21) rfl))) (mvT hZ (hw _ (List.mem_of_getElem? (i := 22) rfl))) (notFace_of_selects (args := #[]) (mvT hZ (hw _ (List.mem_of_getElem? (i := 24) rfl)))) (mvT hZ (hw _ (List.mem_of_getElem? (i := 24) rfl))) (mvT hZ (hw _ (List.mem_of_getElem? (i := 23) rfl))) (by decide) (backOf (W := 0) (rmEq l Z az hw [] b9 b5 c2 d2 q0 q1 T11.heap n0 Zs12 E_b9 Fc11_0 Fc11_1 E_b5 Fc7_0 Fc7_1) hZ (hw _ (List.mem_of_getElem? (i := 25) rfl)) (hw _ (List.mem_of_getElem? (i := 2) rfl)) (by decide) (by decide)) q40a q40c (g := (mkF m 115 #[.val (.long q0), .second, .val (.long q1), .second, .val (.long q2), .second, .val (.long q3), .second, .val (.int p4), .val (.long c2), .second, .val (.long d2), .second, .val (.ref b5), .val (.ref b9), .val (.int (0 : Int32)), .val .null, .val (.int (1 : Int32)), .unset, .unset] [(.ref b5), (.ref b9)])) rfl (by rw [hml]; rfl) (Steps.refl _) (argsL := [(.ref b5)]) (rest := []) (lenOf pd_3 rfl) rfl (by show 2 * 0 + _ ≤ _; exact Nat.le_of_eq rfl) (hb hby at_115) (fun _ _ => ⟨rfl, e39, (by decide : 2 + 0 ≤ _), (by decide : 4 + 0 ≤ _)⟩)
      dsimp only [Pt.U, Pt.locs, Pt.cells, Pt.slots] at X40 l40 y40 z40 st40 hQ40
      subst l40 y40 z40
      obtain ⟨hv40, N40q, e40⟩ := hQ40
      rw [show fEq c2 d2 q0 q1 = (0 : Int32) from by unfold fEq; rw [if_neg hc13]] at hv40
      subst hv40
      have N40 := Fr.app N39 N40q
      refine Go.tr (S' := T40.setTop (mkF m 118 #[.val (.long q0), .second, .val (.long q1), .second, .val (.long q2), .second, .val (.long q3), .second, .val (.int p4), .val (.long c2), .second, .val (.long d2), .second, .val (.ref b5), .val (.ref b9), .val (.int (0 : Int32)), .val .null, .val (.int (1 : Int32)), .unset, .unset] [(.int (0 : Int32))])) st40 ?_
      refine Go.st (S' := T40.setTop (mkF m 120 #[.val (.long q0), .second, .val (.long q1), .second, .val (.long q2), .second, .val (.long q3), .second, .val (.int p4), .val (.long c2), .second, .val (.long d2), .second, .val (.ref b5), .val (.ref b9), .val (.int (0 : Int32)), .val .null, .val (.int (1 : Int32)), .unset, .unset] [(.int (0 : Int32)), (.int (0 : Int32))])) (fun _ kk => XS.iload X40.here hx rfl (hb hby at_118) rfl kk) ?_
      refine Go.st (S' := T40.setTop (mkF m 123 #[.val (.long q0), .second, .val (.long q1), .second, .val (.long q2), .second, .val (.long q3), .second, .val (.int p4), .val (.long c2), .second, .val (.long d2), .second, .val (.ref b5), .val (.ref b9), .val (.int (0 : Int32)), .val .null, .val (.int (1 : Int32)), .unset, .unset] [])) (fun _ kk => XS.icmpNo X40.here hx rfl (hb hby at_120) rfl (teq (by decide : (0 : Int32) = (0 : Int32))).2 kk) ?_
      refine Go.st (S' := T40.setTop (mkF m 124 #[.val (.long q0), .second, .val (.long q1), .second, .val (.long q2), .second, .val (.long q3), .second, .val (.int p4), .val (.long c2), .second, .val (.long d2), .second, .val (.ref b5), .val (.ref b9), .val (.int (0 : Int32)), .val .null, .val (.int (1 : Int32)), .unset, .unset] [(.int (1 : Int32))])) (fun _ kk => XS.iconst X40.here hx rfl (hb hby at_123) kk) ?_
      refine Go.st (S' := T40.setTop (mkF m 128 #[.val (.long q0), .second, .val (.long q1), .second, .val (.long q2), .second, .val (.long q3), .second, .val (.int p4), .val (.long c2), .second, .val (.long d2), .second, .val (.ref b5), .val (.ref b9), .val (.int (0 : Int32)), .val .null, .val (.int (1 : Int32)), .unset, .unset] [(.int (1 : Int32))])) (fun _ kk => XS.goto X40.here hx rfl (pc0 := 124) (pc' := 128) rfl (hb hby at_124) (by decide) (by decide) kk) ?_
      refine Go.st (S' := T40.setTop (mkF m 130 #[.val (.long q0), .second, .val (.long q1), .second, .val (.long q2), .second, .val (.long q3), .second, .val (.int p4), .val (.long c2), .second, .val (.long d2), .second, .val (.ref b5), .val (.ref b9), .val (.int (0 : Int32)), .val .null, .val (.int (1 : Int32)), .val (.int (1 : Int32)), .unset] [])) (fun _ kk => XS.istore X40.here hx rfl (hb hby at_128) rfl (l' := #[.val (.long q0), .second, .val (.long q1), .second, .val (.long q2), .second, .val (.long q3), .second, .val (.int p4), .val (.long c2), .second, .val (.long d2), .second, .val (.ref b5), .val (.ref b9), .val (.int (0 : Int32)), .val .null, .val (.int (1 : Int32)), .val (.int (1 : Int32)), .unset]) rfl kk) ?_
      refine Go.st (S' := T40.setTop (mkF m 132 #[.val (.long q0), .second, .val (.long q1), .second, .val (.long q2), .second, .val (.long q3), .second, .val (.int p4), .val (.long c2), .second, .val (.long d2), .second, .val (.ref b5), .val (.ref b9), .val (.int (0 : Int32)), .val .null, .val (.int (1 : Int32)), .val (.int (1 : Int32)), .unset] [(.ref b5)])) (fun _ kk => XS.aload X40.here hx rfl (hb hby at_130) rfl rfl kk) ?_
      refine Go.st (S' := T40.setTop (mkF m 134 #[.val (.long q0), .second, .val (.long q1), .second, .val (.long q2), .second, .val (.long q3), .second, .val (.int p4), .val (.long c2), .second, .val (.long d2), .second, .val (.ref b5), .val (.ref b9), .val (.int (0 : Int32)), .val .null, .val (.int (1 : Int32)), .val (.int (1 : Int32)), .unset] [.null, (.ref b5)])) (fun _ kk => XS.aload X40.here hx rfl (hb hby at_132) rfl rfl kk) ?_
      obtain ⟨cq41, kq41, q41a, q41b, q41c⟩ := isOf hZ e40 E_b5
      obtain ⟨_, _, ⟨T41, L41, k41, n41⟩, -, X41, ⟨Lc41, hQ41, l41, y41, z41⟩, st41⟩ := X40.virtualBack hx (y := (⟨"com/example/offset_lookup/offsetlookup/model/OffsetAndTimestamp", "equals", "(Ljava/lang/Object;)Z"⟩ : MethodName)) (z := (⟨"com/example/offset_lookup/offsetlookup/model/OffsetAndTimestamp", "equals", "(Ljava/lang/Object;)Z"⟩ : MethodName)) hown (mvT hZ (hw _ (List.mem_of_getElem? (i := 21) rfl))) (mvT hZ (hw _ (List.mem_of_getElem? (i := 22) rfl))) (notFace_of_selects (args := #[]) (mvT hZ (hw _ (List.mem_of_getElem? (i := 24) rfl)))) (mvT hZ (hw _ (List.mem_of_getElem? (i := 24) rfl))) (mvT hZ (hw _ (List.mem_of_getElem? (i := 23) rfl))) (by decide) (backOf (W := 0) (rmEqN l Z az hw [] b5  T11.heap n0 Zs12 ) hZ (hw _ (List.mem_of_getElem? (i := 25) rfl)) (hw _ (List.mem_of_getElem? (i := 2) rfl)) (by decide) (by decide)) q41a q41c (g := (mkF m 134 #[.val (.long q0), .second, .val (.long q1), .second, .val (.long q2), .second, .val (.long q3), .second, .val (.int p4), .val (.long c2), .second, .val (.long d2), .second, .val (.ref b5), .val (.ref b9), .val (.int (0 : Int32)), .val .null, .val (.int (1 : Int32)), .val (.int (1 : Int32)), .unset] [.null, (.ref b5)])) rfl (by rw [hml]; rfl) (Steps.refl _) (argsL := [.null]) (rest := []) (lenOf pd_3 rfl) rfl (by show 2 * 0 + _ ≤ _; exact Nat.le_of_eq rfl) (hb hby at_134) (fun _ _ => ⟨rfl, e40, (by decide : 2 + 0 ≤ _), (by decide : 4 + 0 ≤ _)⟩)
      dsimp only [Pt.U, Pt.locs, Pt.cells, Pt.slots] at X41 l41 y41 z41 st41 hQ41
      subst l41 y41 z41
      obtain ⟨rfl, N41q, e41⟩ := hQ41
      have N41 := Fr.app N40 N41q
      refine Go.tr (S' := T41.setTop (mkF m 137 #[.val (.long q0), .second, .val (.long q1), .second, .val (.long q2), .second, .val (.long q3), .second, .val (.int p4), .val (.long c2), .second, .val (.long d2), .second, .val (.ref b5), .val (.ref b9), .val (.int (0 : Int32)), .val .null, .val (.int (1 : Int32)), .val (.int (1 : Int32)), .unset] [(.int (0 : Int32))])) st41 ?_
      refine Go.st (S' := T41.setTop (mkF m 140 #[.val (.long q0), .second, .val (.long q1), .second, .val (.long q2), .second, .val (.long q3), .second, .val (.int p4), .val (.long c2), .second, .val (.long d2), .second, .val (.ref b5), .val (.ref b9), .val (.int (0 : Int32)), .val .null, .val (.int (1 : Int32)), .val (.int (1 : Int32)), .unset] [])) (fun _ kk => XS.ifNo X41.here hx rfl (hb hby at_137) rfl ((if0 _ _).trans (teq (by decide : (0 : Int32) = (0 : Int32))).2) kk) ?_
      refine Go.st (S' := T41.setTop (mkF m 141 #[.val (.long q0), .second, .val (.long q1), .second, .val (.long q2), .second, .val (.long q3), .second, .val (.int p4), .val (.long c2), .second, .val (.long d2), .second, .val (.ref b5), .val (.ref b9), .val (.int (0 : Int32)), .val .null, .val (.int (1 : Int32)), .val (.int (1 : Int32)), .unset] [(.int (1 : Int32))])) (fun _ kk => XS.iconst X41.here hx rfl (hb hby at_140) kk) ?_
      refine Go.st (S' := T41.setTop (mkF m 145 #[.val (.long q0), .second, .val (.long q1), .second, .val (.long q2), .second, .val (.long q3), .second, .val (.int p4), .val (.long c2), .second, .val (.long d2), .second, .val (.ref b5), .val (.ref b9), .val (.int (0 : Int32)), .val .null, .val (.int (1 : Int32)), .val (.int (1 : Int32)), .unset] [(.int (1 : Int32))])) (fun _ kk => XS.goto X41.here hx rfl (pc0 := 141) (pc' := 145) rfl (hb hby at_141) (by decide) (by decide) kk) ?_
      refine Go.st (S' := T41.setTop (mkF m 147 #[.val (.long q0), .second, .val (.long q1), .second, .val (.long q2), .second, .val (.long q3), .second, .val (.int p4), .val (.long c2), .second, .val (.long d2), .second, .val (.ref b5), .val (.ref b9), .val (.int (0 : Int32)), .val .null, .val (.int (1 : Int32)), .val (.int (1 : Int32)), .val (.int (1 : Int32))] [])) (fun _ kk => XS.istore X41.here hx rfl (hb hby at_145) rfl (l' := #[.val (.long q0), .second, .val (.long q1), .second, .val (.long q2), .second, .val (.long q3), .second, .val (.int p4), .val (.long c2), .second, .val (.long d2), .second, .val (.ref b5), .val (.ref b9), .val (.int (0 : Int32)), .val .null, .val (.int (1 : Int32)), .val (.int (1 : Int32)), .val (.int (1 : Int32))]) rfl kk) ?_
      refine Go.st (S' := T41.setTop (mkF m 149 #[.val (.long q0), .second, .val (.long q1), .second, .val (.long q2), .second, .val (.long q3), .second, .val (.int p4), .val (.long c2), .second, .val (.long d2), .second, .val (.ref b5), .val (.ref b9), .val (.int (0 : Int32)), .val .null, .val (.int (1 : Int32)), .val (.int (1 : Int32)), .val (.int (1 : Int32))] [(.int (1 : Int32))])) (fun _ kk => XS.iload X41.here hx rfl (hb hby at_147) rfl kk) ?_
      refine Go.st (S' := T41.setTop (mkF m 152 #[.val (.long q0), .second, .val (.long q1), .second, .val (.long q2), .second, .val (.long q3), .second, .val (.int p4), .val (.long c2), .second, .val (.long d2), .second, .val (.ref b5), .val (.ref b9), .val (.int (0 : Int32)), .val .null, .val (.int (1 : Int32)), .val (.int (1 : Int32)), .val (.int (1 : Int32))] [])) (fun _ kk => XS.ifNo X41.here hx rfl (hb hby at_149) rfl ((if0 _ _).trans (feq (by decide : ¬ ((1 : Int32) = (0 : Int32)))).1) kk) ?_
      refine Go.st (S' := T41.setTop (mkF m 154 #[.val (.long q0), .second, .val (.long q1), .second, .val (.long q2), .second, .val (.long q3), .second, .val (.int p4), .val (.long c2), .second, .val (.long d2), .second, .val (.ref b5), .val (.ref b9), .val (.int (0 : Int32)), .val .null, .val (.int (1 : Int32)), .val (.int (1 : Int32)), .val (.int (1 : Int32))] [(.int (1 : Int32))])) (fun _ kk => XS.iload X41.here hx rfl (hb hby at_152) rfl kk) ?_
      refine Go.st (S' := T41.setTop (mkF m 157 #[.val (.long q0), .second, .val (.long q1), .second, .val (.long q2), .second, .val (.long q3), .second, .val (.int p4), .val (.long c2), .second, .val (.long d2), .second, .val (.ref b5), .val (.ref b9), .val (.int (0 : Int32)), .val .null, .val (.int (1 : Int32)), .val (.int (1 : Int32)), .val (.int (1 : Int32))] [])) (fun _ kk => XS.ifNo X41.here hx rfl (hb hby at_154) rfl ((if0 _ _).trans (feq (by decide : ¬ ((1 : Int32) = (0 : Int32)))).1) kk) ?_
      refine Go.st (S' := T41.setTop (mkF m 159 #[.val (.long q0), .second, .val (.long q1), .second, .val (.long q2), .second, .val (.long q3), .second, .val (.int p4), .val (.long c2), .second, .val (.long d2), .second, .val (.ref b5), .val (.ref b9), .val (.int (0 : Int32)), .val .null, .val (.int (1 : Int32)), .val (.int (1 : Int32)), .val (.int (1 : Int32))] [(.int (1 : Int32))])) (fun _ kk => XS.iload X41.here hx rfl (hb hby at_157) rfl kk) ?_
      refine Go.st (S' := T41.setTop (mkF m 162 #[.val (.long q0), .second, .val (.long q1), .second, .val (.long q2), .second, .val (.long q3), .second, .val (.int p4), .val (.long c2), .second, .val (.long d2), .second, .val (.ref b5), .val (.ref b9), .val (.int (0 : Int32)), .val .null, .val (.int (1 : Int32)), .val (.int (1 : Int32)), .val (.int (1 : Int32))] [])) (fun _ kk => XS.ifNo X41.here hx rfl (hb hby at_159) rfl ((if0 _ _).trans (feq (by decide : ¬ ((1 : Int32) = (0 : Int32)))).1) kk) ?_
      refine Go.st (S' := T41.setTop (mkF m 163 #[.val (.long q0), .second, .val (.long q1), .second, .val (.long q2), .second, .val (.long q3), .second, .val (.int p4), .val (.long c2), .second, .val (.long d2), .second, .val (.ref b5), .val (.ref b9), .val (.int (0 : Int32)), .val .null, .val (.int (1 : Int32)), .val (.int (1 : Int32)), .val (.int (1 : Int32))] [(.int (1 : Int32))])) (fun _ kk => XS.iconst X41.here hx rfl (hb hby at_162) kk) ?_
      refine Go.st (S' := T41.setTop (mkF m 167 #[.val (.long q0), .second, .val (.long q1), .second, .val (.long q2), .second, .val (.long q3), .second, .val (.int p4), .val (.long c2), .second, .val (.long d2), .second, .val (.ref b5), .val (.ref b9), .val (.int (0 : Int32)), .val .null, .val (.int (1 : Int32)), .val (.int (1 : Int32)), .val (.int (1 : Int32))] [(.int (1 : Int32))])) (fun _ kk => XS.goto X41.here hx rfl (pc0 := 163) (pc' := 167) rfl (hb hby at_163) (by decide) (by decide) kk) ?_
      exact Go.retN X41 hx hlk (t := .boolean) Bd.returns (by simp) (hb hby at_167) (⟨rfl, N41⟩) (by decide) (by decide)
set_option maxRecDepth 65536 in
set_option maxHeartbeats 40000000 in
theorem comes_1 {Post : Tables → Env → Array Value → State → Outcome → State → Prop} (hpost : ∀ tb e args s v u, (limb_1_1.after args s (.returned v) u = true ∧ limb_1_2.after args s (.returned v) u = true ∧ True) → FrameEnd s (.returned v) u (Jvm.fieldLocs frame_1_writes args s ++ Jvm.arrayLocs frame_1_arrays args s ++ Jvm.staticLocs frame_1_statics s) 16 128 → Post tb e args s (.returned v) u) :
    ArmFor flags0 classFile x code maxLocals ret World_1 tables_1 room_1 Calls_1 rest_1 Pre_1 Post := by
  intro l hfl _ _ p e ha hc hk s m args below hf hA hF happ hP
  obtain ⟨hcalls, hrest, hpre⟩ := hP
  obtain ⟨-, -, -, hnamed, -, -, -, hat⟩ := (Spec.applies_iff hf).mp happ
  obtain ⟨hg, hn⟩ := and_e (Cond.before_iff.mp (show (Jvm.Cond.and given_1 narrow_1).before args s = true from hpre))
  obtain ⟨g0, gr0⟩ := and_e hg
  obtain ⟨ga0, gr1⟩ := and_e gr0
  obtain ⟨ga1, gr2⟩ := and_e gr1
  obtain ⟨ga2, gr3⟩ := and_e gr2
  obtain ⟨ga3, gr4⟩ := and_e gr3
  have ga4 := gr4
  obtain ⟨w0, w1, w2, w3, w4, rfl⟩ : ∃ w0 w1 w2 w3 w4 : Value, args = #[w0, w1, w2, w3, w4] := by
    have hs : args.size = 5 := by simpa [Cond.value, given_1] using g0
    obtain ⟨L⟩ := args
    match L, hs with
    | [w0, w1, w2, w3, w4], _ => exact ⟨w0, w1, w2, w3, w4, rfl⟩
  have hw := fun d (hd : d ∈ tables_1) => atoms_spec (ws := Jvm.Cond.code x code maxLocals ret :: tables_1) hat d (List.mem_cons_of_mem _ hd)
  have hfit : Fit s := fun {y c} hc i hi => by
    obtain ⟨ha, rfl⟩ := Array.getElem?_eq_some_iff.mp hc
    have q := List.all_eq_true.mp ((Array.all_eq_true_iff_forall_mem.mp hF) _ (Array.getElem_mem ha)) i (List.mem_range.mpr hi)
    simpa [Array.getElem?_eq_getElem hi] using q
  obtain ⟨i0, ei0⟩ := isL_v ga0
  obtain rfl : w0 = (.long i0) := Option.some.inj ei0
  obtain ⟨i1, ei1⟩ := isL_v ga1
  obtain rfl : w1 = (.long i1) := Option.some.inj ei1
  obtain ⟨i2, ei2⟩ := isL_v ga2
  obtain rfl : w2 = (.long i2) := Option.some.inj ei2
  obtain ⟨i3, ei3⟩ := isL_v ga3
  obtain rfl : w3 = (.long i3) := Option.some.inj ei3
  obtain ⟨i4, ei4⟩ := is_v ga4
  obtain rfl : w4 = (.int i4) := Option.some.inj ei4
  have hsets := (atoms_of jdkStatics_1 (show (jdkStatics_1.foldr Jvm.Cond.and restOwn_1).before _ s = true from by rw [← rest_1_c_eq]; exact hrest)).1
  obtain ⟨ca, Ch⟩ := own_cache hsets
  obtain ⟨n, o, h1, h2, h3, _, L, rfl, ⟨rfl, N⟩, hq⟩ := rm0 l s _ hw tables_1 i0 i1 i2 i3 i4 ca s.heap s.heap.size (Nat.le_refl _) Ch (Old.start s) p e ha hc hk s m _ below hf ((Spec.applies_iff_loose hf).mp happ).1 ⟨rfl, State.Warmed39.refl s, rfl⟩ trivial
  refine ⟨n, _, h1, h2, h3, hpost _ _ _ _ _ _ ⟨Cond.after_iff.mpr rfl, Cond.after_iff.mpr (eq_i res_at (Term.int_eval (1)) rfl), trivial⟩ ⟨hq.1, hq.2.1, (hq.2.2.sift fun y hy => Or.inr (N y hy)).mono (by decide) (by decide)⟩⟩
theorem main_1_1 : Claimed_1_1 := comes_1 fun _ _ _ _ _ _ h hF => ⟨h.1, hF⟩
theorem main_1_2 : Claimed_1_2 := comes_1 fun _ _ _ _ _ _ h hF => ⟨h.2.1, hF⟩
end Jvm.Pilot.@@N@@
namespace Jvm.Pilot.@@N@@
open Jvm Jvm.ClassFile Sem Op Lib Jvm.Free Jvm.Stand Jvm.Pilot.@@N@@.Jvm.D
/-! MADE BY PROGRAM (witnessworld.py) out of the Statement's table words and the real class files: 16 classes; the members and pool entries that the words name. The judged class is class 1, her method 1. -/
namespace start1
open Jvm.ClassFile
def u (s : String) : CpInfo := .utf8 (stringToUtf16 s)
/-- a pool by its gaps: so many unusable entries, then the entry; so many at the end -/
def gap : Nat → List CpInfo → List CpInfo
  | 0, r => r
  | n + 1, r => .unusable :: gap n r
def poolList (es : List (Nat × CpInfo)) (last : Nat) : List CpInfo := es.foldr (fun e r => gap e.1 (e.2 :: r)) (gap last [])
def pool (es : List (Nat × CpInfo)) (last : Nat) : Array CpInfo := ⟨poolList es last⟩
def fileOf (pool : Array CpInfo) (this : Nat) (attrs : Array Attribute := #[]) (ms : Array MethodInfo := #[]) (fl : Nat := 33) (sup : Nat := 0) (ifs : Array Nat := #[]) (fds : Array FieldInfo := #[]) : ClassFile where
  minorVersion := 0
  majorVersion := 65
  constantPool := pool
  accessFlags := fl
  thisClass := this
  superClass := sup
  interfaces := ifs
  fields := fds
  methods := ms
  attributes := attrs
def plain (name : String) (sup : Option ClassId) : Class where
  name := name
  kind := .ordinary
  loader := none
  accessFlags := 33
  super := sup
  interfaces := #[]
  cf := none
  fields := #[]
  methods := #[]
  instanceTypes := #[]
  staticTypes := #[]
  resolved := #[]
  callSites := []
  init := .initialized
  statics := none
  mirror := none

def pool0 : Array CpInfo := pool [(5, u "<init>"), (0, u "()V"), (1, .class_ 10), (1, u "java/lang/Object")] 113

def k0c0 : Code := { maxStack := 0, maxLocals := 1, code := object_method_1_code, exceptionTable := #[], attributes := #[] }
def k0m0 : Method := { name := "<init>", desc := "()V", sig := { parameters := [], returnType := none }, accessFlags := 1, code := some k0c0 }
/-- java/lang/Object -/
def k0 : Class := { plain "java/lang/Object" none with
  accessFlags := 33
  interfaces := #[]
  cf := some (fileOf pool0 8 #[] #[{ accessFlags := 1, nameIndex := 5, descriptorIndex := 6, attributes := #[] }] 33 0 #[] #[])
  fields := #[]
  methods := #[k0m0]
  instanceTypes := #[]
  staticTypes := #[]
  resolved := Array.replicate 124 none
  statics := none }

def pool1 : Array CpInfo := pool [(2, .class_ 4), (1, u "java/lang/Object"), (0, u "<init>"), (0, u "()V"), (0, .class_ 8), (0, u "com/example/offset_lookup/offsetlookup/model/OffsetAndTimestamp"), (0, .methodref 7 10), (0, .nameAndType 5 11), (0, u "(JJ)V"), (0, .methodref 13 14), (0, .class_ 15), (0, .nameAndType 16 17), (0, u "java/lang/Long"), (0, u "valueOf"), (0, u "(J)Ljava/lang/Long;"), (0, .methodref 7 19), (0, .nameAndType 20 21), (0, u "equals"), (0, u "(Ljava/lang/Object;)Z"), (0, .class_ 23), (0, u "com/example/offset_lookup/offsetlookup/model/OffsetAndTimestampEqualsPinLaw"), (2, u "law"), (0, u "(JJJJI)Z")] 3

def k1m0 : Method := { name := "<init>", desc := "()V", sig := { parameters := [], returnType := none }, accessFlags := 1, code := none }
def k1c1 : Code := { maxStack := 6, maxLocals := 20, code := code, exceptionTable := #[], attributes := #[] }
def k1m1 : Method := { name := "law", desc := "(JJJJI)Z", sig := { parameters := [.long, .long, .long, .long, .int], returnType := some .boolean }, accessFlags := 9, code := some k1c1 }
/-- com/example/offset_lookup/offsetlookup/model/OffsetAndTimestampEqualsPinLaw -/
def k1 : Class := { plain "com/example/offset_lookup/offsetlookup/model/OffsetAndTimestampEqualsPinLaw" (some 0) with
  accessFlags := 49
  interfaces := #[]
  cf := some (fileOf pool1 22 #[] #[{ accessFlags := 1, nameIndex := 5, descriptorIndex := 6, attributes := #[] }, { accessFlags := 9, nameIndex := 26, descriptorIndex := 27, attributes := #[] }] 49 2 #[] #[])
  fields := #[]
  methods := #[k1m0, k1m1]
  instanceTypes := #[]
  staticTypes := #[]
  resolved := Array.replicate 31 none
  statics := none }

def pool2 : Array CpInfo := pool [(1, .methodref 2 3), (0, .class_ 4), (0, .nameAndType 5 6), (0, u "java/lang/Object"), (0, u "<init>"), (0, u "()V"), (0, .fieldref 8 9), (0, .class_ 10), (0, .nameAndType 11 12), (0, u "com/example/offset_lookup/offsetlookup/model/OffsetAndTimestamp"), (0, u "offset"), (0, u "J"), (0, .fieldref 8 14), (0, .nameAndType 15 12), (0, u "timestamp"), (14, u "(JJ)V"), (2, u "NONE"), (0, u "Lcom/example/offset_lookup/offsetlookup/model/OffsetAndTimestamp;"), (3, u "equals"), (0, u "(Ljava/lang/Object;)Z")] 22

def k2c0 : Code := { maxStack := 3, maxLocals := 5, code := prog_50_method_1_code, exceptionTable := #[], attributes := #[] }
def k2m0 : Method := { name := "<init>", desc := "(JJ)V", sig := { parameters := [.long, .long], returnType := none }, accessFlags := 1, code := some k2c0 }
def k2c1 : Code := { maxStack := 4, maxLocals := 3, code := prog_50_method_4_code, exceptionTable := #[], attributes := #[] }
def k2m1 : Method := { name := "equals", desc := "(Ljava/lang/Object;)Z", sig := { parameters := [(.object "java/lang/Object")], returnType := some .boolean }, accessFlags := 1, code := some k2c1 }
/-- com/example/offset_lookup/offsetlookup/model/OffsetAndTimestamp -/
def k2 : Class := { plain "com/example/offset_lookup/offsetlookup/model/OffsetAndTimestamp" (some 0) with
  accessFlags := 33
  interfaces := #[]
  cf := some (fileOf pool2 8 #[] #[{ accessFlags := 1, nameIndex := 5, descriptorIndex := 30, attributes := #[] }, { accessFlags := 1, nameIndex := 38, descriptorIndex := 39, attributes := #[] }] 33 2 #[] #[{ accessFlags := 25, nameIndex := 33, descriptorIndex := 34, attributes := #[] }, { accessFlags := 18, nameIndex := 11, descriptorIndex := 12, attributes := #[] }, { accessFlags := 18, nameIndex := 15, descriptorIndex := 12, attributes := #[] }])
  fields := #[{ name := "NONE", type := (.object "com/example/offset_lookup/offsetlookup/model/OffsetAndTimestamp"), accessFlags := 25, slot := 0, constantValue := 0 }, { name := "offset", type := .long, accessFlags := 18, slot := 0, constantValue := 0 }, { name := "timestamp", type := .long, accessFlags := 18, slot := 1, constantValue := 0 }]
  methods := #[k2m0, k2m1]
  instanceTypes := #[.long, .long]
  staticTypes := #[(.object "com/example/offset_lookup/offsetlookup/model/OffsetAndTimestamp")]
  resolved := Array.replicate 62 none
  statics := none }

def pool3 : Array CpInfo := pool [(1, .class_ 2), (0, u "java/io/Serializable"), (0, .class_ 4), (0, u "java/lang/Object")] 2

/-- java/io/Serializable -/
def k3 : Class := { plain "java/io/Serializable" (some 0) with
  accessFlags := 1537
  interfaces := #[]
  cf := some (fileOf pool3 1 #[] #[] 1537 3 #[] #[])
  fields := #[]
  methods := #[]
  instanceTypes := #[]
  staticTypes := #[]
  resolved := Array.replicate 7 none
  statics := none }

def pool4 : Array CpInfo := pool [(1, .methodref 2 3), (0, .class_ 4), (0, .nameAndType 5 6), (0, u "java/lang/Object"), (0, u "<init>"), (0, u "()V"), (1, .class_ 10), (1, u "java/lang/Number"), (2, .class_ 14), (0, u "java/io/Serializable"), (0, u "serialVersionUID"), (0, u "J")] 20

def k4c0 : Code := { maxStack := 1, maxLocals := 1, code := jdk_18_method_1_code, exceptionTable := #[], attributes := #[] }
def k4m0 : Method := { name := "<init>", desc := "()V", sig := { parameters := [], returnType := none }, accessFlags := 1, code := some k4c0 }
/-- java/lang/Number -/
def k4 : Class := { plain "java/lang/Number" (some 0) with
  accessFlags := 1057
  interfaces := #[3]
  cf := some (fileOf pool4 8 #[] #[{ accessFlags := 1, nameIndex := 5, descriptorIndex := 6, attributes := #[] }] 1057 2 #[13] #[{ accessFlags := 26, nameIndex := 15, descriptorIndex := 16, attributes := #[] }])
  fields := #[{ name := "serialVersionUID", type := .long, accessFlags := 26, slot := 0, constantValue := 0 }]
  methods := #[k4m0]
  instanceTypes := #[]
  staticTypes := #[.long]
  resolved := Array.replicate 37 none
  statics := none }

def pool5 : Array CpInfo := pool [(1, .class_ 2), (0, u "java/lang/Comparable"), (0, .class_ 4), (0, u "java/lang/Object")] 7

/-- java/lang/Comparable -/
def k5 : Class := { plain "java/lang/Comparable" (some 0) with
  accessFlags := 1537
  interfaces := #[]
  cf := some (fileOf pool5 1 #[] #[] 1537 3 #[] #[])
  fields := #[]
  methods := #[]
  instanceTypes := #[]
  staticTypes := #[]
  resolved := Array.replicate 12 none
  statics := none }

def pool6 : Array CpInfo := pool [(1, .class_ 2), (0, u "java/lang/constant/Constable"), (0, .class_ 4), (0, u "java/lang/Object")] 6

/-- java/lang/constant/Constable -/
def k6 : Class := { plain "java/lang/constant/Constable" (some 0) with
  accessFlags := 1537
  interfaces := #[]
  cf := some (fileOf pool6 1 #[] #[] 1537 3 #[] #[])
  fields := #[]
  methods := #[]
  instanceTypes := #[]
  staticTypes := #[]
  resolved := Array.replicate 11 none
  statics := none }

def pool7 : Array CpInfo := pool [(1, .class_ 2), (0, u "java/lang/constant/ConstantDesc"), (0, .class_ 4), (0, u "java/lang/Object")] 32

/-- java/lang/constant/ConstantDesc -/
def k7 : Class := { plain "java/lang/constant/ConstantDesc" (some 0) with
  accessFlags := 1537
  interfaces := #[]
  cf := some (fileOf pool7 1 #[] #[] 1537 3 #[] #[])
  fields := #[]
  methods := #[]
  instanceTypes := #[]
  staticTypes := #[]
  resolved := Array.replicate 37 none
  statics := none }

def pool8 : Array CpInfo := pool [(1, .class_ 2), (0, u "java/lang/Long"), (55, .nameAndType 59 60), (0, u "<init>"), (0, u "()V"), (24, u "valueOf"), (143, u "(J)Ljava/lang/Long;"), (0, .long 18446744073709551488), (1, .long 127), (1, .fieldref 235 236), (0, .class_ 237), (0, .nameAndType 238 239), (0, u "java/lang/Long$LongCache"), (0, u "cache"), (0, u "[Ljava/lang/Long;"), (0, .methodref 1 241), (0, .nameAndType 59 242), (0, u "(J)V"), (27, .methodref 271 58), (0, .class_ 272), (0, u "java/lang/Number"), (0, .fieldref 1 274), (0, .nameAndType 275 276), (0, u "value"), (0, u "J"), (84, u "TYPE"), (0, u "Ljava/lang/Class;"), (0, .class_ 364), (0, u "java/lang/Comparable"), (0, .class_ 366), (0, u "java/lang/constant/Constable"), (0, .class_ 368), (0, u "java/lang/constant/ConstantDesc"), (0, u "MIN_VALUE"), (1, u "MAX_VALUE"), (4, u "SIZE"), (0, u "I"), (1, u "BYTES"), (1, u "serialVersionUID")] 142

def k8c0 : Code := { maxStack := 4, maxLocals := 3, code := jdk_35_method_24_code, exceptionTable := #[], attributes := #[] }
def k8m0 : Method := { name := "valueOf", desc := "(J)Ljava/lang/Long;", sig := { parameters := [.long], returnType := some (.object "java/lang/Long") }, accessFlags := 9, code := some k8c0 }
def k8c1 : Code := { maxStack := 3, maxLocals := 3, code := jdk_35_method_26_code, exceptionTable := #[], attributes := #[] }
def k8m1 : Method := { name := "<init>", desc := "(J)V", sig := { parameters := [.long], returnType := none }, accessFlags := 1, code := some k8c1 }
/-- java/lang/Long -/
def k8 : Class := { plain "java/lang/Long" (some 4) with
  accessFlags := 49
  interfaces := #[5, 6, 7]
  cf := some (fileOf pool8 1 #[.nestMembers #[235]] #[{ accessFlags := 9, nameIndex := 85, descriptorIndex := 229, attributes := #[] }, { accessFlags := 1, nameIndex := 59, descriptorIndex := 242, attributes := #[] }] 49 271 #[363, 365, 367] #[{ accessFlags := 25, nameIndex := 369, descriptorIndex := 276, attributes := #[] }, { accessFlags := 25, nameIndex := 371, descriptorIndex := 276, attributes := #[] }, { accessFlags := 25, nameIndex := 361, descriptorIndex := 362, attributes := #[] }, { accessFlags := 18, nameIndex := 275, descriptorIndex := 276, attributes := #[] }, { accessFlags := 25, nameIndex := 376, descriptorIndex := 377, attributes := #[] }, { accessFlags := 25, nameIndex := 379, descriptorIndex := 377, attributes := #[] }, { accessFlags := 26, nameIndex := 381, descriptorIndex := 276, attributes := #[] }])
  fields := #[{ name := "MIN_VALUE", type := .long, accessFlags := 25, slot := 0, constantValue := 0 }, { name := "MAX_VALUE", type := .long, accessFlags := 25, slot := 1, constantValue := 0 }, { name := "TYPE", type := (.object "java/lang/Class"), accessFlags := 25, slot := 2, constantValue := 0 }, { name := "value", type := .long, accessFlags := 18, slot := 0, constantValue := 0 }, { name := "SIZE", type := .int, accessFlags := 25, slot := 3, constantValue := 0 }, { name := "BYTES", type := .int, accessFlags := 25, slot := 4, constantValue := 0 }, { name := "serialVersionUID", type := .long, accessFlags := 26, slot := 5, constantValue := 0 }]
  methods := #[k8m0, k8m1]
  instanceTypes := #[.long]
  staticTypes := #[.long, .long, (.object "java/lang/Class"), .int, .int, .long]
  resolved := Array.replicate 524 none
  statics := none }

def pool9 : Array CpInfo := pool [(2, .class_ 4), (1, u "java/lang/Object"), (0, u "<init>"), (0, u "()V"), (0, .class_ 8), (0, u "java/lang/Long"), (7, .class_ 18), (1, u "java/lang/Long$LongCache"), (0, u "$assertionsDisabled"), (0, u "Z"), (8, u "archivedCache"), (0, u "[Ljava/lang/Long;"), (7, u "cache")] 24

def k9m0 : Method := { name := "<init>", desc := "()V", sig := { parameters := [], returnType := none }, accessFlags := 2, code := none }
/-- java/lang/Long$LongCache -/
def k9 : Class := { plain "java/lang/Long$LongCache" (some 0) with
  accessFlags := 48
  interfaces := #[]
  cf := some (fileOf pool9 16 #[.nestHost 7] #[{ accessFlags := 2, nameIndex := 5, descriptorIndex := 6, attributes := #[] }] 48 2 #[] #[{ accessFlags := 24, nameIndex := 38, descriptorIndex := 30, attributes := #[] }, { accessFlags := 8, nameIndex := 29, descriptorIndex := 30, attributes := #[] }, { accessFlags := 4120, nameIndex := 19, descriptorIndex := 20, attributes := #[] }])
  fields := #[{ name := "cache", type := (.array (.object "java/lang/Long")), accessFlags := 24, slot := 0, constantValue := 0 }, { name := "archivedCache", type := (.array (.object "java/lang/Long")), accessFlags := 8, slot := 1, constantValue := 0 }, { name := "$assertionsDisabled", type := .boolean, accessFlags := 4120, slot := 2, constantValue := 0 }]
  methods := #[k9m0]
  instanceTypes := #[]
  staticTypes := #[(.array (.object "java/lang/Long")), (.array (.object "java/lang/Long")), .boolean]
  resolved := Array.replicate 63 none
  statics := some 0 }

def pool10 : Array CpInfo := pool [(1, u "java/lang/Cloneable"), (0, .class_ 1), (0, u "java/lang/Object"), (0, .class_ 3)] 3

/-- java/lang/Cloneable -/
def k10 : Class := { plain "java/lang/Cloneable" (some 0) with
  accessFlags := 1537
  interfaces := #[]
  cf := some (fileOf pool10 2 #[] #[] 1537 4 #[] #[])
  fields := #[]
  methods := #[]
  instanceTypes := #[]
  staticTypes := #[]
  resolved := Array.replicate 8 none
  statics := none }

/-- the primitive byte -/
def k11 : Class := { plain "byte" none with kind := .primitive 'B', accessFlags := 0x411 }
/-- [B -/
def k12 : Class := { plain "[B" (some 0) with kind := .array 11 .byte, interfaces := #[10, 3], accessFlags := 1041 }

/-- the primitive int -/
def k13 : Class := { plain "int" none with kind := .primitive 'I', accessFlags := 0x411 }
/-- [I -/
def k14 : Class := { plain "[I" (some 0) with kind := .array 13 .int, interfaces := #[10, 3], accessFlags := 1041 }

/-- [Ljava/lang/Long; -/
def k15 : Class := { plain "[Ljava/lang/Long;" (some 0) with kind := .array 8 (.object "java/lang/Long"), interfaces := #[10, 3], accessFlags := 1041 }

def heap : Heap := #[{ cls := 9, slots := #[.ref 1, .null, .int 0], vm := .statics 9 },
  { cls := 15, slots := #[.ref 2, .ref 3, .ref 4, .ref 5, .ref 6, .ref 7, .ref 8, .ref 9, .ref 10, .ref 11, .ref 12, .ref 13, .ref 14, .ref 15, .ref 16, .ref 17, .ref 18, .ref 19, .ref 20, .ref 21, .ref 22, .ref 23, .ref 24, .ref 25, .ref 26, .ref 27, .ref 28, .ref 29, .ref 30, .ref 31, .ref 32, .ref 33, .ref 34, .ref 35, .ref 36, .ref 37, .ref 38, .ref 39, .ref 40, .ref 41, .ref 42, .ref 43, .ref 44, .ref 45, .ref 46, .ref 47, .ref 48, .ref 49, .ref 50, .ref 51, .ref 52, .ref 53, .ref 54, .ref 55, .ref 56, .ref 57, .ref 58, .ref 59, .ref 60, .ref 61, .ref 62, .ref 63, .ref 64, .ref 65, .ref 66, .ref 67, .ref 68, .ref 69, .ref 70, .ref 71, .ref 72, .ref 73, .ref 74, .ref 75, .ref 76, .ref 77, .ref 78, .ref 79, .ref 80, .ref 81, .ref 82, .ref 83, .ref 84, .ref 85, .ref 86, .ref 87, .ref 88, .ref 89, .ref 90, .ref 91, .ref 92, .ref 93, .ref 94, .ref 95, .ref 96, .ref 97, .ref 98, .ref 99, .ref 100, .ref 101, .ref 102, .ref 103, .ref 104, .ref 105, .ref 106, .ref 107, .ref 108, .ref 109, .ref 110, .ref 111, .ref 112, .ref 113, .ref 114, .ref 115, .ref 116, .ref 117, .ref 118, .ref 119, .ref 120, .ref 121, .ref 122, .ref 123, .ref 124, .ref 125, .ref 126, .ref 127, .ref 128, .ref 129, .ref 130, .ref 131, .ref 132, .ref 133, .ref 134, .ref 135, .ref 136, .ref 137, .ref 138, .ref 139, .ref 140, .ref 141, .ref 142, .ref 143, .ref 144, .ref 145, .ref 146, .ref 147, .ref 148, .ref 149, .ref 150, .ref 151, .ref 152, .ref 153, .ref 154, .ref 155, .ref 156, .ref 157, .ref 158, .ref 159, .ref 160, .ref 161, .ref 162, .ref 163, .ref 164, .ref 165, .ref 166, .ref 167, .ref 168, .ref 169, .ref 170, .ref 171, .ref 172, .ref 173, .ref 174, .ref 175, .ref 176, .ref 177, .ref 178, .ref 179, .ref 180, .ref 181, .ref 182, .ref 183, .ref 184, .ref 185, .ref 186, .ref 187, .ref 188, .ref 189, .ref 190, .ref 191, .ref 192, .ref 193, .ref 194, .ref 195, .ref 196, .ref 197, .ref 198, .ref 199, .ref 200, .ref 201, .ref 202, .ref 203, .ref 204, .ref 205, .ref 206, .ref 207, .ref 208, .ref 209, .ref 210, .ref 211, .ref 212, .ref 213, .ref 214, .ref 215, .ref 216, .ref 217, .ref 218, .ref 219, .ref 220, .ref 221, .ref 222, .ref 223, .ref 224, .ref 225, .ref 226, .ref 227, .ref 228, .ref 229, .ref 230, .ref 231, .ref 232, .ref 233, .ref 234, .ref 235, .ref 236, .ref 237, .ref 238, .ref 239, .ref 240, .ref 241, .ref 242, .ref 243, .ref 244, .ref 245, .ref 246, .ref 247, .ref 248, .ref 249, .ref 250, .ref 251, .ref 252, .ref 253, .ref 254, .ref 255, .ref 256, .ref 257], vm := .none },
  { cls := 8, slots := #[.long (-128)], vm := .none },
  { cls := 8, slots := #[.long (-127)], vm := .none },
  { cls := 8, slots := #[.long (-126)], vm := .none },
  { cls := 8, slots := #[.long (-125)], vm := .none },
  { cls := 8, slots := #[.long (-124)], vm := .none },
  { cls := 8, slots := #[.long (-123)], vm := .none },
  { cls := 8, slots := #[.long (-122)], vm := .none },
  { cls := 8, slots := #[.long (-121)], vm := .none },
  { cls := 8, slots := #[.long (-120)], vm := .none },
  { cls := 8, slots := #[.long (-119)], vm := .none },
  { cls := 8, slots := #[.long (-118)], vm := .none },
  { cls := 8, slots := #[.long (-117)], vm := .none },
  { cls := 8, slots := #[.long (-116)], vm := .none },
  { cls := 8, slots := #[.long (-115)], vm := .none },
  { cls := 8, slots := #[.long (-114)], vm := .none },
  { cls := 8, slots := #[.long (-113)], vm := .none },
  { cls := 8, slots := #[.long (-112)], vm := .none },
  { cls := 8, slots := #[.long (-111)], vm := .none },
  { cls := 8, slots := #[.long (-110)], vm := .none },
  { cls := 8, slots := #[.long (-109)], vm := .none },
  { cls := 8, slots := #[.long (-108)], vm := .none },
  { cls := 8, slots := #[.long (-107)], vm := .none },
  { cls := 8, slots := #[.long (-106)], vm := .none },
  { cls := 8, slots := #[.long (-105)], vm := .none },
  { cls := 8, slots := #[.long (-104)], vm := .none },
  { cls := 8, slots := #[.long (-103)], vm := .none },
  { cls := 8, slots := #[.long (-102)], vm := .none },
  { cls := 8, slots := #[.long (-101)], vm := .none },
  { cls := 8, slots := #[.long (-100)], vm := .none },
  { cls := 8, slots := #[.long (-99)], vm := .none },
  { cls := 8, slots := #[.long (-98)], vm := .none },
  { cls := 8, slots := #[.long (-97)], vm := .none },
  { cls := 8, slots := #[.long (-96)], vm := .none },
  { cls := 8, slots := #[.long (-95)], vm := .none },
  { cls := 8, slots := #[.long (-94)], vm := .none },
  { cls := 8, slots := #[.long (-93)], vm := .none },
  { cls := 8, slots := #[.long (-92)], vm := .none },
  { cls := 8, slots := #[.long (-91)], vm := .none },
  { cls := 8, slots := #[.long (-90)], vm := .none },
  { cls := 8, slots := #[.long (-89)], vm := .none },
  { cls := 8, slots := #[.long (-88)], vm := .none },
  { cls := 8, slots := #[.long (-87)], vm := .none },
  { cls := 8, slots := #[.long (-86)], vm := .none },
  { cls := 8, slots := #[.long (-85)], vm := .none },
  { cls := 8, slots := #[.long (-84)], vm := .none },
  { cls := 8, slots := #[.long (-83)], vm := .none },
  { cls := 8, slots := #[.long (-82)], vm := .none },
  { cls := 8, slots := #[.long (-81)], vm := .none },
  { cls := 8, slots := #[.long (-80)], vm := .none },
  { cls := 8, slots := #[.long (-79)], vm := .none },
  { cls := 8, slots := #[.long (-78)], vm := .none },
  { cls := 8, slots := #[.long (-77)], vm := .none },
  { cls := 8, slots := #[.long (-76)], vm := .none },
  { cls := 8, slots := #[.long (-75)], vm := .none },
  { cls := 8, slots := #[.long (-74)], vm := .none },
  { cls := 8, slots := #[.long (-73)], vm := .none },
  { cls := 8, slots := #[.long (-72)], vm := .none },
  { cls := 8, slots := #[.long (-71)], vm := .none },
  { cls := 8, slots := #[.long (-70)], vm := .none },
  { cls := 8, slots := #[.long (-69)], vm := .none },
  { cls := 8, slots := #[.long (-68)], vm := .none },
  { cls := 8, slots := #[.long (-67)], vm := .none },
  { cls := 8, slots := #[.long (-66)], vm := .none },
  { cls := 8, slots := #[.long (-65)], vm := .none },
  { cls := 8, slots := #[.long (-64)], vm := .none },
  { cls := 8, slots := #[.long (-63)], vm := .none },
  { cls := 8, slots := #[.long (-62)], vm := .none },
  { cls := 8, slots := #[.long (-61)], vm := .none },
  { cls := 8, slots := #[.long (-60)], vm := .none },
  { cls := 8, slots := #[.long (-59)], vm := .none },
  { cls := 8, slots := #[.long (-58)], vm := .none },
  { cls := 8, slots := #[.long (-57)], vm := .none },
  { cls := 8, slots := #[.long (-56)], vm := .none },
  { cls := 8, slots := #[.long (-55)], vm := .none },
  { cls := 8, slots := #[.long (-54)], vm := .none },
  { cls := 8, slots := #[.long (-53)], vm := .none },
  { cls := 8, slots := #[.long (-52)], vm := .none },
  { cls := 8, slots := #[.long (-51)], vm := .none },
  { cls := 8, slots := #[.long (-50)], vm := .none },
  { cls := 8, slots := #[.long (-49)], vm := .none },
  { cls := 8, slots := #[.long (-48)], vm := .none },
  { cls := 8, slots := #[.long (-47)], vm := .none },
  { cls := 8, slots := #[.long (-46)], vm := .none },
  { cls := 8, slots := #[.long (-45)], vm := .none },
  { cls := 8, slots := #[.long (-44)], vm := .none },
  { cls := 8, slots := #[.long (-43)], vm := .none },
  { cls := 8, slots := #[.long (-42)], vm := .none },
  { cls := 8, slots := #[.long (-41)], vm := .none },
  { cls := 8, slots := #[.long (-40)], vm := .none },
  { cls := 8, slots := #[.long (-39)], vm := .none },
  { cls := 8, slots := #[.long (-38)], vm := .none },
  { cls := 8, slots := #[.long (-37)], vm := .none },
  { cls := 8, slots := #[.long (-36)], vm := .none },
  { cls := 8, slots := #[.long (-35)], vm := .none },
  { cls := 8, slots := #[.long (-34)], vm := .none },
  { cls := 8, slots := #[.long (-33)], vm := .none },
  { cls := 8, slots := #[.long (-32)], vm := .none },
  { cls := 8, slots := #[.long (-31)], vm := .none },
  { cls := 8, slots := #[.long (-30)], vm := .none },
  { cls := 8, slots := #[.long (-29)], vm := .none },
  { cls := 8, slots := #[.long (-28)], vm := .none },
  { cls := 8, slots := #[.long (-27)], vm := .none },
  { cls := 8, slots := #[.long (-26)], vm := .none },
  { cls := 8, slots := #[.long (-25)], vm := .none },
  { cls := 8, slots := #[.long (-24)], vm := .none },
  { cls := 8, slots := #[.long (-23)], vm := .none },
  { cls := 8, slots := #[.long (-22)], vm := .none },
  { cls := 8, slots := #[.long (-21)], vm := .none },
  { cls := 8, slots := #[.long (-20)], vm := .none },
  { cls := 8, slots := #[.long (-19)], vm := .none },
  { cls := 8, slots := #[.long (-18)], vm := .none },
  { cls := 8, slots := #[.long (-17)], vm := .none },
  { cls := 8, slots := #[.long (-16)], vm := .none },
  { cls := 8, slots := #[.long (-15)], vm := .none },
  { cls := 8, slots := #[.long (-14)], vm := .none },
  { cls := 8, slots := #[.long (-13)], vm := .none },
  { cls := 8, slots := #[.long (-12)], vm := .none },
  { cls := 8, slots := #[.long (-11)], vm := .none },
  { cls := 8, slots := #[.long (-10)], vm := .none },
  { cls := 8, slots := #[.long (-9)], vm := .none },
  { cls := 8, slots := #[.long (-8)], vm := .none },
  { cls := 8, slots := #[.long (-7)], vm := .none },
  { cls := 8, slots := #[.long (-6)], vm := .none },
  { cls := 8, slots := #[.long (-5)], vm := .none },
  { cls := 8, slots := #[.long (-4)], vm := .none },
  { cls := 8, slots := #[.long (-3)], vm := .none },
  { cls := 8, slots := #[.long (-2)], vm := .none },
  { cls := 8, slots := #[.long (-1)], vm := .none },
  { cls := 8, slots := #[.long (0)], vm := .none },
  { cls := 8, slots := #[.long (1)], vm := .none },
  { cls := 8, slots := #[.long (2)], vm := .none },
  { cls := 8, slots := #[.long (3)], vm := .none },
  { cls := 8, slots := #[.long (4)], vm := .none },
  { cls := 8, slots := #[.long (5)], vm := .none },
  { cls := 8, slots := #[.long (6)], vm := .none },
  { cls := 8, slots := #[.long (7)], vm := .none },
  { cls := 8, slots := #[.long (8)], vm := .none },
  { cls := 8, slots := #[.long (9)], vm := .none },
  { cls := 8, slots := #[.long (10)], vm := .none },
  { cls := 8, slots := #[.long (11)], vm := .none },
  { cls := 8, slots := #[.long (12)], vm := .none },
  { cls := 8, slots := #[.long (13)], vm := .none },
  { cls := 8, slots := #[.long (14)], vm := .none },
  { cls := 8, slots := #[.long (15)], vm := .none },
  { cls := 8, slots := #[.long (16)], vm := .none },
  { cls := 8, slots := #[.long (17)], vm := .none },
  { cls := 8, slots := #[.long (18)], vm := .none },
  { cls := 8, slots := #[.long (19)], vm := .none },
  { cls := 8, slots := #[.long (20)], vm := .none },
  { cls := 8, slots := #[.long (21)], vm := .none },
  { cls := 8, slots := #[.long (22)], vm := .none },
  { cls := 8, slots := #[.long (23)], vm := .none },
  { cls := 8, slots := #[.long (24)], vm := .none },
  { cls := 8, slots := #[.long (25)], vm := .none },
  { cls := 8, slots := #[.long (26)], vm := .none },
  { cls := 8, slots := #[.long (27)], vm := .none },
  { cls := 8, slots := #[.long (28)], vm := .none },
  { cls := 8, slots := #[.long (29)], vm := .none },
  { cls := 8, slots := #[.long (30)], vm := .none },
  { cls := 8, slots := #[.long (31)], vm := .none },
  { cls := 8, slots := #[.long (32)], vm := .none },
  { cls := 8, slots := #[.long (33)], vm := .none },
  { cls := 8, slots := #[.long (34)], vm := .none },
  { cls := 8, slots := #[.long (35)], vm := .none },
  { cls := 8, slots := #[.long (36)], vm := .none },
  { cls := 8, slots := #[.long (37)], vm := .none },
  { cls := 8, slots := #[.long (38)], vm := .none },
  { cls := 8, slots := #[.long (39)], vm := .none },
  { cls := 8, slots := #[.long (40)], vm := .none },
  { cls := 8, slots := #[.long (41)], vm := .none },
  { cls := 8, slots := #[.long (42)], vm := .none },
  { cls := 8, slots := #[.long (43)], vm := .none },
  { cls := 8, slots := #[.long (44)], vm := .none },
  { cls := 8, slots := #[.long (45)], vm := .none },
  { cls := 8, slots := #[.long (46)], vm := .none },
  { cls := 8, slots := #[.long (47)], vm := .none },
  { cls := 8, slots := #[.long (48)], vm := .none },
  { cls := 8, slots := #[.long (49)], vm := .none },
  { cls := 8, slots := #[.long (50)], vm := .none },
  { cls := 8, slots := #[.long (51)], vm := .none },
  { cls := 8, slots := #[.long (52)], vm := .none },
  { cls := 8, slots := #[.long (53)], vm := .none },
  { cls := 8, slots := #[.long (54)], vm := .none },
  { cls := 8, slots := #[.long (55)], vm := .none },
  { cls := 8, slots := #[.long (56)], vm := .none },
  { cls := 8, slots := #[.long (57)], vm := .none },
  { cls := 8, slots := #[.long (58)], vm := .none },
  { cls := 8, slots := #[.long (59)], vm := .none },
  { cls := 8, slots := #[.long (60)], vm := .none },
  { cls := 8, slots := #[.long (61)], vm := .none },
  { cls := 8, slots := #[.long (62)], vm := .none },
  { cls := 8, slots := #[.long (63)], vm := .none },
  { cls := 8, slots := #[.long (64)], vm := .none },
  { cls := 8, slots := #[.long (65)], vm := .none },
  { cls := 8, slots := #[.long (66)], vm := .none },
  { cls := 8, slots := #[.long (67)], vm := .none },
  { cls := 8, slots := #[.long (68)], vm := .none },
  { cls := 8, slots := #[.long (69)], vm := .none },
  { cls := 8, slots := #[.long (70)], vm := .none },
  { cls := 8, slots := #[.long (71)], vm := .none },
  { cls := 8, slots := #[.long (72)], vm := .none },
  { cls := 8, slots := #[.long (73)], vm := .none },
  { cls := 8, slots := #[.long (74)], vm := .none },
  { cls := 8, slots := #[.long (75)], vm := .none },
  { cls := 8, slots := #[.long (76)], vm := .none },
  { cls := 8, slots := #[.long (77)], vm := .none },
  { cls := 8, slots := #[.long (78)], vm := .none },
  { cls := 8, slots := #[.long (79)], vm := .none },
  { cls := 8, slots := #[.long (80)], vm := .none },
  { cls := 8, slots := #[.long (81)], vm := .none },
  { cls := 8, slots := #[.long (82)], vm := .none },
  { cls := 8, slots := #[.long (83)], vm := .none },
  { cls := 8, slots := #[.long (84)], vm := .none },
  { cls := 8, slots := #[.long (85)], vm := .none },
  { cls := 8, slots := #[.long (86)], vm := .none },
  { cls := 8, slots := #[.long (87)], vm := .none },
  { cls := 8, slots := #[.long (88)], vm := .none },
  { cls := 8, slots := #[.long (89)], vm := .none },
  { cls := 8, slots := #[.long (90)], vm := .none },
  { cls := 8, slots := #[.long (91)], vm := .none },
  { cls := 8, slots := #[.long (92)], vm := .none },
  { cls := 8, slots := #[.long (93)], vm := .none },
  { cls := 8, slots := #[.long (94)], vm := .none },
  { cls := 8, slots := #[.long (95)], vm := .none },
  { cls := 8, slots := #[.long (96)], vm := .none },
  { cls := 8, slots := #[.long (97)], vm := .none },
  { cls := 8, slots := #[.long (98)], vm := .none },
  { cls := 8, slots := #[.long (99)], vm := .none },
  { cls := 8, slots := #[.long (100)], vm := .none },
  { cls := 8, slots := #[.long (101)], vm := .none },
  { cls := 8, slots := #[.long (102)], vm := .none },
  { cls := 8, slots := #[.long (103)], vm := .none },
  { cls := 8, slots := #[.long (104)], vm := .none },
  { cls := 8, slots := #[.long (105)], vm := .none },
  { cls := 8, slots := #[.long (106)], vm := .none },
  { cls := 8, slots := #[.long (107)], vm := .none },
  { cls := 8, slots := #[.long (108)], vm := .none },
  { cls := 8, slots := #[.long (109)], vm := .none },
  { cls := 8, slots := #[.long (110)], vm := .none },
  { cls := 8, slots := #[.long (111)], vm := .none },
  { cls := 8, slots := #[.long (112)], vm := .none },
  { cls := 8, slots := #[.long (113)], vm := .none },
  { cls := 8, slots := #[.long (114)], vm := .none },
  { cls := 8, slots := #[.long (115)], vm := .none },
  { cls := 8, slots := #[.long (116)], vm := .none },
  { cls := 8, slots := #[.long (117)], vm := .none },
  { cls := 8, slots := #[.long (118)], vm := .none },
  { cls := 8, slots := #[.long (119)], vm := .none },
  { cls := 8, slots := #[.long (120)], vm := .none },
  { cls := 8, slots := #[.long (121)], vm := .none },
  { cls := 8, slots := #[.long (122)], vm := .none },
  { cls := 8, slots := #[.long (123)], vm := .none },
  { cls := 8, slots := #[.long (124)], vm := .none },
  { cls := 8, slots := #[.long (125)], vm := .none },
  { cls := 8, slots := #[.long (126)], vm := .none },
  { cls := 8, slots := #[.long (127)], vm := .none }]
def classes : Array Class := #[k0, k1, k2, k3, k4, k5, k6, k7, k8, k9, k10, k11, k12, k13, k14, k15]
def interned : List (Array UInt16 × Addr) := []
def slotsUsed : Nat := 515
def theMethod : MethodId := ⟨1, 1⟩
def args0 : Array Value := #[.long 5, .long 6, .long 7, .long 8, .int 3]
def aboutOver (below : List Frame) : State where
  vm := { classes := classes, interned := interned.toArray }
  heap := heap
  slotsUsed := slotsUsed
  threads := #[{ frames := .invoking theMethod args0 :: below }]
def below0 : List Frame := [.native { method := ⟨0, 0⟩, args := #[] }]
def about1 : State := aboutOver below0
def p0 : Program := .bare "" "" ""
def e0 : Env := launch0.env 0 0 0
theorem w_frames : about1.frames = Frame.invoking theMethod args0 :: below0 := rfl
set_option maxRecDepth 65536 in
theorem w_args : argsFit about1.vm theMethod args0 = true := by decide +kernel
set_option maxRecDepth 65536 in
theorem w_heap : heapFits about1 = true := by decide +kernel
set_option maxRecDepth 65536 in
theorem w_runnable : about1.curStatus? = some .runnable := by decide +kernel
set_option maxRecDepth 65536 in
theorem w_alone : about1.alone = true := by decide +kernel
set_option maxRecDepth 65536 in
theorem w_named : about1.methodNamed? x = some theMethod := by decide +kernel
set_option maxRecDepth 65536 in
theorem w_hears : about1.hears theMethod below0 = true := by decide +kernel
set_option maxRecDepth 65536 in
theorem w_ripe : about1.ripe theMethod args0 below0 = true := by decide +kernel
theorem w_running : about1.status = .running := rfl
set_option maxRecDepth 65536 in
theorem w_room : about1.hasRoom e0.platform room_1 = true :=
  launch0.hasRoom_least _ room_1 (by decide +kernel) (by decide +kernel) (by decide +kernel) (by decide +kernel) (by decide +kernel) (by decide +kernel)
theorem allAtoms_all (ts : List Jvm.Cond) (a : Array Jvm.Value) (st : Jvm.State) : (allAtoms ts).before a st = ts.all (fun c => c.before a st) := by
  induction ts with
  | nil => rfl
  | cons c t ih =>
    show (Jvm.Cond.and c (allAtoms t)).before a st = _
    rw [Jvm.Cond.before_and, ih, List.all_cons]
def words1 : List Jvm.Cond := Jvm.Cond.code x code maxLocals ret :: tables_1
/-- a 'code' word, met by the world's own term for the bytes: nothing is compared byte by byte -/
theorem code_word {y : MethodName} {bytes : ByteArray} {mx : Nat} {rt : Option FieldType} {a : Array Value} {s : State} {m : MethodId} {meth : Method} {c : Code} (h1 : s.methodNamed? y = some m) (h2 : s.vm.method? m = some meth) (h3 : meth.code = some c) (h4 : c.code = bytes)
    (h5 : (c.maxLocals == mx && c.exceptionTable.isEmpty && decide (c.maxStack ≤ mostOperands) && decide (meth.sig.returnType = rt) && !meth.locks && decide (parseMethodDescriptor y.desc = some meth.sig)) = true) : (Jvm.Cond.code y bytes mx rt).before a s = true := by
  simp only [Bool.and_eq_true, beq_iff_eq, Bool.not_eq_true', decide_eq_true_eq] at h5
  obtain ⟨⟨⟨⟨⟨g1, g2⟩, g3⟩, g4⟩, g5⟩, g6⟩ := h5
  simp [Cond.before, Cond.holds, Cond.value, h1, h2, h3, h4, g1, g2, g3, g4, g5, g6]
def isCode : Jvm.Cond → Bool
  | .code _ _ _ _ => true
  | _ => false
theorem all_split {L : List Jvm.Cond} {P : Jvm.Cond → Bool} (h1 : L.all (fun c => isCode c || P c) = true) (h2 : ∀ c ∈ L.filter isCode, P c = true) : L.all P = true := by
  refine List.all_eq_true.mpr fun c hc => ?_
  have h := List.all_eq_true.mp h1 c hc
  rcases Bool.eq_false_or_eq_true (isCode c) with hi | hi
  · exact h2 c (List.mem_filter.mpr ⟨hc, hi⟩)
  · simpa [hi] using h
set_option maxRecDepth 65536 in
theorem w_c0 : (Jvm.Cond.code x code maxLocals ret).before args0 about1 = true := code_word (m := ⟨1, 1⟩) (meth := k1m1) (c := k1c1) (by decide +kernel) rfl rfl rfl (by decide +kernel)
set_option maxRecDepth 65536 in
theorem w_c1 : (Jvm.Cond.code ({ cls := "com/example/offset_lookup/offsetlookup/model/OffsetAndTimestamp", name := "<init>", desc := "(JJ)V" } : Jvm.MethodName) prog_50_method_1_code (5 : Nat) (Option.none : Option Jvm.ClassFile.FieldType)).before args0 about1 = true := code_word (m := ⟨2, 0⟩) (meth := k2m0) (c := k2c0) (by decide +kernel) rfl rfl rfl (by decide +kernel)
set_option maxRecDepth 65536 in
theorem w_c2 : (Jvm.Cond.code ({ cls := "java/lang/Object", name := "<init>", desc := "()V" } : Jvm.MethodName) object_method_1_code (1 : Nat) (Option.none : Option Jvm.ClassFile.FieldType)).before args0 about1 = true := code_word (m := ⟨0, 0⟩) (meth := k0m0) (c := k0c0) (by decide +kernel) rfl rfl rfl (by decide +kernel)
set_option maxRecDepth 65536 in
theorem w_c3 : (Jvm.Cond.code ({ cls := "java/lang/Long", name := "valueOf", desc := "(J)Ljava/lang/Long;" } : Jvm.MethodName) jdk_35_method_24_code (3 : Nat) (Option.some (Jvm.ClassFile.FieldType.object "java/lang/Long"))).before args0 about1 = true := code_word (m := ⟨8, 0⟩) (meth := k8m0) (c := k8c0) (by decide +kernel) rfl rfl rfl (by decide +kernel)
set_option maxRecDepth 65536 in
theorem w_c4 : (Jvm.Cond.code ({ cls := "com/example/offset_lookup/offsetlookup/model/OffsetAndTimestamp", name := "equals", desc := "(Ljava/lang/Object;)Z" } : Jvm.MethodName) prog_50_method_4_code (3 : Nat) (Option.some Jvm.ClassFile.FieldType.boolean)).before args0 about1 = true := code_word (m := ⟨2, 1⟩) (meth := k2m1) (c := k2c1) (by decide +kernel) rfl rfl rfl (by decide +kernel)
set_option maxRecDepth 65536 in
theorem w_c5 : (Jvm.Cond.code ({ cls := "java/lang/Long", name := "<init>", desc := "(J)V" } : Jvm.MethodName) jdk_35_method_26_code (3 : Nat) (Option.none : Option Jvm.ClassFile.FieldType)).before args0 about1 = true := code_word (m := ⟨8, 1⟩) (meth := k8m1) (c := k8c1) (by decide +kernel) rfl rfl rfl (by decide +kernel)
set_option maxRecDepth 65536 in
theorem w_c6 : (Jvm.Cond.code ({ cls := "java/lang/Number", name := "<init>", desc := "()V" } : Jvm.MethodName) jdk_18_method_1_code (1 : Nat) (Option.none : Option Jvm.ClassFile.FieldType)).before args0 about1 = true := code_word (m := ⟨4, 0⟩) (meth := k4m0) (c := k4c0) (by decide +kernel) rfl rfl rfl (by decide +kernel)
def codes1 : List Jvm.Cond := [Jvm.Cond.code x code maxLocals ret, Jvm.Cond.code ({ cls := "com/example/offset_lookup/offsetlookup/model/OffsetAndTimestamp", name := "<init>", desc := "(JJ)V" } : Jvm.MethodName) prog_50_method_1_code (5 : Nat) (Option.none : Option Jvm.ClassFile.FieldType), Jvm.Cond.code ({ cls := "java/lang/Object", name := "<init>", desc := "()V" } : Jvm.MethodName) object_method_1_code (1 : Nat) (Option.none : Option Jvm.ClassFile.FieldType), Jvm.Cond.code ({ cls := "java/lang/Long", name := "valueOf", desc := "(J)Ljava/lang/Long;" } : Jvm.MethodName) jdk_35_method_24_code (3 : Nat) (Option.some (Jvm.ClassFile.FieldType.object "java/lang/Long")), Jvm.Cond.code ({ cls := "com/example/offset_lookup/offsetlookup/model/OffsetAndTimestamp", name := "equals", desc := "(Ljava/lang/Object;)Z" } : Jvm.MethodName) prog_50_method_4_code (3 : Nat) (Option.some Jvm.ClassFile.FieldType.boolean), Jvm.Cond.code ({ cls := "java/lang/Long", name := "<init>", desc := "(J)V" } : Jvm.MethodName) jdk_35_method_26_code (3 : Nat) (Option.none : Option Jvm.ClassFile.FieldType), Jvm.Cond.code ({ cls := "java/lang/Number", name := "<init>", desc := "()V" } : Jvm.MethodName) jdk_18_method_1_code (1 : Nat) (Option.none : Option Jvm.ClassFile.FieldType)]
set_option maxRecDepth 65536 in
theorem codes_eq : words1.filter isCode = codes1 := rfl
theorem w_codes : ∀ c ∈ words1.filter isCode, c.before args0 about1 = true := by
  rw [codes_eq]
  intro c hc
  simp only [codes1, List.mem_cons, List.not_mem_nil, or_false] at hc
  rcases hc with rfl | rfl | rfl | rfl | rfl | rfl | rfl
  · exact w_c0
  · exact w_c1
  · exact w_c2
  · exact w_c3
  · exact w_c4
  · exact w_c5
  · exact w_c6
set_option maxRecDepth 65536 in
theorem w_t1 : (words1.take 24).all (fun c => isCode c || c.before args0 about1) = true := by decide +kernel
set_option maxRecDepth 65536 in
theorem w_t2 : (words1.drop 24).all (fun c => isCode c || c.before args0 about1) = true := by decide +kernel
theorem w_tables : (allAtoms (Jvm.Cond.code x code maxLocals ret :: tables_1)).before args0 about1 = true := by
  rw [allAtoms_all]
  show words1.all (fun c => c.before args0 about1) = true
  refine all_split ?_ w_codes
  rw [← List.take_append_drop 24 words1, List.all_append, w_t1, w_t2]
  rfl
set_option maxRecDepth 65536 in
theorem w_rest : rest_1_c.before args0 about1 = true := by decide +kernel
set_option maxRecDepth 65536 in
theorem w_case : (Jvm.Cond.and given_1 narrow_1).before args0 about1 = true := by decide +kernel
theorem w_applies : (headSpec (Jvm.Cond.code x code maxLocals ret :: tables_1) room_1).applies x e0.platform about1 = true :=
  (Spec.applies_iff w_frames).mpr ⟨w_running, w_runnable, w_alone, w_named, w_hears, w_ripe, w_room, w_tables⟩
theorem atStart : AtStart classFile x code maxLocals ret World_1 tables_1 room_1 Calls_1 rest_1 Pre_1 launch0 p0 e0 about1 theMethod args0 below0 :=
  ⟨lists_1, trivial, launch0.admits_env _ _ _, launch0.least_env, fairChoices_fair.cas, fairChoices_fair.clock, w_frames, w_args, w_heap, w_applies, trivial, w_rest, w_case⟩
end start1
theorem witness_1 : WitnessClaimed_1 := ⟨start1.p0, start1.e0, start1.about1, start1.theMethod, start1.args0, start1.below0, start1.atStart⟩
end Jvm.Pilot.@@N@@
