import JvmDerived
import JvmDerived.Pilot.@@N@@Statement
import JvmDerived.Pilot.@@N@@Code
set_option linter.unusedVariables false
set_option linter.unusedSimpArgs false
namespace Jvm.Pilot.@@N@@
open Jvm Jvm.ClassFile Sem Op Lib Jvm.Free Jvm.Stand Jvm.LawKit Jvm.RoadKit Bundle Jvm.Pilot.@@N@@.Jvm.D
section OwnKit
variable {p : Program} {l : Launch} {e : Env} {R : Room} {s : State} {m : MethodId} {args : Array Value} {below : List Frame} {meth : Method} {c : Code} {T : State} {locs : List Loc} {cells slots ck sk : Nat} {S S' t : State} {Q : Option Value → Heap → List Loc → Prop}
/-- from S the run comes to a return of which Q is said -/
def Go (p : Program) (e : Env) (below : List Frame) (s : State) (Q : Option Value → Heap → List Loc → Prop) (ck sk : Nat) (S : State) : Prop :=
  ∃ s₂ o, Steps p.tables e below S s₂ ∧ s₂.status = .running ∧ Ended s₂ below o ∧ ∃ v L, o = .returned v ∧ Q v s₂.heap L ∧ FrameEnd s o s₂ L ck sk
theorem Go.st (h : ∀ t, Steps p.tables e below S' t → Steps p.tables e below S t) (k : Go p e below s Q ck sk S') : Go p e below s Q ck sk S := by
  obtain ⟨s₂, o, h1, r⟩ := k
  exact ⟨s₂, o, h _ h1, r⟩
theorem Go.tr (h : Steps p.tables e below S S') (k : Go p e below s Q ck sk S') : Go p e below s Q ck sk S := Go.st (fun _ q => h.trans q) k
theorem via (h : Steps p.tables e below S' t → Steps p.tables e below S t) (k : Steps p.tables e below S' t) : Steps p.tables e below S t := h k
theorem Go.retW (X : Stand p l e R s m args below meth c T locs cells slots) (hx : p.tables.exec = Jvm.exec) (hlk : meth.locks = false) {pc : Nat} {Ls : Array Slot} {w : Value} {ty : FieldType} {i : Instr} {rest : List Value} (hret : meth.sig.returnType = some ty) (hn : narrow ty w = w)
    (hi : (i = .ireturn ∧ (ty = .int ∨ ty = .boolean ∨ ty = .byte ∨ ty = .char ∨ ty = .short) ∧ ∃ z, w = .int z) ∨ (i = .lreturn ∧ ty = .long ∧ ∃ z, w = .long z) ∨ (i = .dreturn ∧ ty = .double ∧ ∃ z, w = .double z) ∨ (i = .freturn ∧ ty = .float ∧ ∃ z, w = .float z) ∨ (i = .areturn ∧ ty.isReference = true ∧ w.isRef = true))
    (hd : decode c.code pc = .ok (i, 1)) (hQ : Q (some w) T.heap locs) (hc : cells ≤ ck) (hs : slots ≤ sk) : Go p e below s Q ck sk (T.setTop (mkF m pc Ls (w :: rest))) := by
  obtain ⟨fs, hr, hrun, hended, hW, hsame⟩ := X.leave (v := some w) (fun h => by rw [hret] at h; cases h)
  exact ⟨_, _, retOut X hx hret hn hi hd hr, hrun, hended, _, _, rfl, hQ, ⟨_, rfl⟩, hW, hsame.mono hc hs⟩
theorem Go.retI (X : Stand p l e R s m args below meth c T locs cells slots) (hx : p.tables.exec = Jvm.exec) (hlk : meth.locks = false) {pc : Nat} {Ls : Array Slot} {z : Int32} {rest : List Value} (hret : meth.sig.returnType = some .int) (hd : decode c.code pc = .ok (.ireturn, 1)) (hQ : Q (some (.int z)) T.heap locs) (hc : cells ≤ ck) (hs : slots ≤ sk) : Go p e below s Q ck sk (T.setTop (mkF m pc Ls (.int z :: rest))) :=
  Go.retW X hx hlk hret rfl (Or.inl ⟨rfl, Or.inl rfl, _, rfl⟩) hd hQ hc hs
theorem Go.retJ (X : Stand p l e R s m args below meth c T locs cells slots) (hx : p.tables.exec = Jvm.exec) (hlk : meth.locks = false) {pc : Nat} {Ls : Array Slot} {z : Int64} {rest : List Value} (hret : meth.sig.returnType = some .long) (hd : decode c.code pc = .ok (.lreturn, 1)) (hQ : Q (some (.long z)) T.heap locs) (hc : cells ≤ ck) (hs : slots ≤ sk) : Go p e below s Q ck sk (T.setTop (mkF m pc Ls (.long z :: rest))) :=
  Go.retW X hx hlk hret rfl (Or.inr (Or.inl ⟨rfl, rfl, _, rfl⟩)) hd hQ hc hs
theorem Go.retA (X : Stand p l e R s m args below meth c T locs cells slots) (hx : p.tables.exec = Jvm.exec) (hlk : meth.locks = false) {pc : Nat} {Ls : Array Slot} {w : Value} {ty : FieldType} {rest : List Value} (hret : meth.sig.returnType = some ty) (ht : ty.isReference = true) (hw : w.isRef = true) (hd : decode c.code pc = .ok (.areturn, 1)) (hQ : Q (some w) T.heap locs) (hc : cells ≤ ck) (hs : slots ≤ sk) : Go p e below s Q ck sk (T.setTop (mkF m pc Ls (w :: rest))) :=
  Go.retW X hx hlk hret (by cases ty <;> first | (cases ht; done) | (cases w <;> first | rfl | cases hw)) (Or.inr (Or.inr (Or.inr (Or.inr ⟨rfl, ht, hw⟩)))) hd hQ hc hs
theorem Go.retN (X : Stand p l e R s m args below meth c T locs cells slots) (hx : p.tables.exec = Jvm.exec) (hlk : meth.locks = false) {pc : Nat} {Ls : Array Slot} {z : Int32} {t : FieldType} {rest : List Value} (hret : meth.sig.returnType = some t) (ht : t = .boolean ∨ t = .byte ∨ t = .char ∨ t = .short) (hd : decode c.code pc = .ok (.ireturn, 1)) (hQ : Q (some (.int (nar t z))) T.heap locs) (hc : cells ≤ ck) (hs : slots ≤ sk) : Go p e below s Q ck sk (T.setTop (mkF m pc Ls (.int z :: rest))) := by
  obtain ⟨fs, hr, hrun, hended, hW, hsame⟩ := X.leave (v := some (.int (nar t z))) (fun h => by rw [hret] at h; cases h)
  exact ⟨_, _, Jvm.RoadKit.retN X hx hret ht hd hr, hrun, hended, _, _, rfl, hQ, ⟨_, rfl⟩, hW, hsame.mono hc hs⟩
theorem Go.ret0 (X : Stand p l e R s m args below meth c T locs cells slots) (hx : p.tables.exec = Jvm.exec) (hlk : meth.locks = false) {pc : Nat} {Ls : Array Slot} (hret : meth.sig.returnType = none) (hd : decode c.code pc = .ok (.return_, 1)) (hQ : Q none T.heap locs) (hc : cells ≤ ck) (hs : slots ≤ sk) : Go p e below s Q ck sk (T.setTop (mkF m pc Ls [])) := by
  obtain ⟨fs, hr, hrun, hended, hW, hsame⟩ := X.leave (v := none) (fun _ => rfl)
  exact ⟨_, _, X.returnOut hx hret hd hr, hrun, hended, _, _, rfl, hQ, ⟨_, rfl⟩, hW, hsame.mono hc hs⟩
/-- what a body leaves that writes nothing -/
def PQ (w : Value) (n0 : Nat) (h0 : Heap) (v : Option Value) (h : Heap) (L : List Loc) : Prop := v = some w ∧ Fr n0 L ∧ h = h0
/-- what the law leaves -/
def LQ (n0 : Nat) (v : Option Value) (h : Heap) (L : List Loc) : Prop := v = some (.int 1) ∧ Fr n0 L
/-- the j-th of a list of ints -/
def bt (bs : List Int32) (j : Int32) : Int32 := bs.getD j.toNatClampNeg 0
theorem own_at {bs : List Int32} {c : Cell} {j : Int32} (H : Has c (bs.map .int) (.int 0)) (hin : ¬ (j < 0 ∨ c.slots.size ≤ j.toNatClampNeg)) : c.slots[j.toNatClampNeg]? = some (.int (bt bs j)) :=
  Has.at H hin (by unfold bt; simp only [List.getD, List.getElem?_map]; cases bs[j.toNatClampNeg]? <;> rfl)
theorem own_len {t : Term} {a : Addr} {cl : Cell} {n : Int32} (ev : t.eval args s none [] s = some (.ref a)) (ha : s.arrayAt? a = some cl) (h : (Cond.eq (.length t) (.int n)).value args s none s [] = some true) : cl.slots.size < 2 ^ 31 ∧ cl.slots.size.toInt32 = n := by
  by_cases q : cl.slots.size < 2 ^ 31
  · exact ⟨q, gotT (Cond.eq_ints (len_f ev ha q) (Term.int_eval n)) h⟩
  · exfalso
    simp [Cond.value, Term.eval, ev, ha, q] at h
theorem own_size {cl : Cell} {n : Int32} {k : Nat} (q : cl.slots.size < 2 ^ 31 ∧ cl.slots.size.toInt32 = n) (hk : n.toInt = k) : cl.slots.size = k := by
  have h := len_toInt q.1
  rw [q.2, hk] at h
  omega
end OwnKit

theorem pd_0 : parseMethodDescriptor "(IIJI)V" = some ⟨[.int, .int, .long, .int], none⟩ := by decide +kernel
theorem pd_1 : parseMethodDescriptor "()V" = some ⟨[], none⟩ := by decide +kernel
theorem pd_2 : parseMethodDescriptor "(Ljava/lang/Object;)Z" = some ⟨[(.object "java/lang/Object")], some .boolean⟩ := by decide +kernel
theorem pd_3 : parseMethodDescriptor "(J)Ljava/lang/Long;" = some ⟨[.long], some (.object "java/lang/Long")⟩ := by decide +kernel
theorem pd_4 : parseMethodDescriptor "(J)V" = some ⟨[.long], none⟩ := by decide +kernel
theorem own_root {Z : State} {a0 : Array Value} {O K : String} {n : Nat} (w : (Cond.noSuperclass O).before a0 Z = true) (wk : (Cond.instantiable K n).before a0 Z = true) (hn : O ≠ K) : NS Z O K := by
  obtain ⟨c, k, h1, h2, h3, -, -⟩ := Cond.noSuperclass_spec w
  obtain ⟨t, kt, g1, -⟩ := Cond.instantiable_spec wk
  have ne := ids_ne h1 g1 hn
  refine ⟨c, t, h1, g1, fun fuel => ?_⟩
  cases fuel with
  | zero => rfl
  | succ f => simp [Vm.isSubclassAux, ne, h2, h3]
theorem own_no {Z : State} {a0 : Array Value} {C S K : String} {n' : Nat} (w : (Cond.superclass C S).before a0 Z = true) (wk : (Cond.instantiable K n').before a0 Z = true) (n : NS Z C K) (hn : C ≠ K) : ∃ c t, Z.vm.findClass C = some c ∧ Z.vm.findClass K = some t ∧ Z.vm.assignable c t = false := by
  obtain ⟨c, t, h0, g0, n3⟩ := n
  obtain ⟨p, k, kp, h1, h2, h3, h4, h5, -, h7⟩ := Cond.superclass_spec h0 w
  obtain ⟨t', kt, g1, g2, g3, g4, -⟩ := Cond.instantiable_spec wk
  cases g0.symm.trans g1
  have ne := ids_ne h0 g0 hn
  have g5 : kt.isInterface = false := (Bool.or_eq_false_iff.mp g4).1
  refine ⟨c, t, h0, g0, ?_⟩
  show Z.vm.assignableAux (255 + 1) c t = false
  simp [Vm.assignableAux, ne, h2, g2, h5, g3, g5, Vm.isSubclass, n3]
theorem own_notlong {Z : State} {a0 : Array Value} (hw : ∀ d ∈ tables_1, d.before a0 Z = true) : ∃ c t, Z.vm.findClass "java/lang/Long" = some c ∧ Z.vm.findClass "com/example/offset_lookup/offsetlookup/protocol/ListOffsetsRequest$Partition" = some t ∧ Z.vm.assignable c t = false :=
  own_no (hw _ (List.mem_of_getElem? (i := 45) rfl)) (hw _ (List.mem_of_getElem? (i := 1) rfl)) (NS.step (hw _ (List.mem_of_getElem? (i := 45) rfl)) (NS.step (hw _ (List.mem_of_getElem? (i := 46) rfl)) (own_root (hw _ (List.mem_of_getElem? (i := 47) rfl)) (hw _ (List.mem_of_getElem? (i := 1) rfl)) (by decide)) (by decide)) (by decide)) (by decide)
def Q_rmNum (h0 : Heap) (n0 : Nat) (v : Option Value) (h : Heap) (L : List Loc) : Prop := v = none ∧ Fr n0 L ∧ h = h0
theorem d6_0 : decode jdk_18_method_1_code 0 = .ok (.aload_n 0, 1) := by decide +kernel
theorem d6_1 : decode jdk_18_method_1_code 1 = .ok (.invokespecial 1, 3) := by decide +kernel
theorem d6_4 : decode jdk_18_method_1_code 4 = .ok (.return_, 1) := by decide +kernel
theorem pn_0 : plainName "java/lang/Number" = true := by first | (simp [plainName, overriddenIn]; done) | decide +kernel
theorem ef_6 (m : MethodId) (a0 : Addr) : entryFrame m #[(.ref a0)] 1 = mkF m 0 #[.val (.ref a0)] [] := by first | (simp [entryFrame, mkF, argsToLocals, Value.category]; done) | rfl
set_option maxRecDepth 65536 in
set_option maxHeartbeats 40000000 in
theorem rmNum (l : Launch) (Z : State) (az : Array Value) (hw : ∀ d ∈ tables_1, d.before az Z = true) (ws : List Jvm.Cond) (a0 : Addr)  (h0 : Heap) (n0 : Nat) (Z0 : n0 ≤ h0.size)  :
    MetFree l (⟨"java/lang/Number", "<init>", "()V"⟩ : MethodName) (head1 (Jvm.Cond.code (⟨"java/lang/Number", "<init>", "()V"⟩ : MethodName) jdk_18_method_1_code 1 none :: ws) ({ frames := 1, cells := 0, slots := 0, locals := 12 } : Room)) (fun a U => a = #[(.ref a0)] ∧ Z.Warmed39 U.vm ∧ U.heap = h0) (fun _ _ _ _ _ => True) (fun _ U o U' => ∃ v L, o = .returned v ∧ (Q_rmNum h0 n0) v U'.heap L ∧ FrameEnd U o U' L ({ frames := 1, cells := 0, slots := 0, locals := 12 } : Room).cells ({ frames := 1, cells := 0, slots := 0, locals := 12 } : Room).slots) := by
  refine MetFree.of_bodySF (plainFor_of_name pn_0) hisR ?_
  intro p e s m args below meth c s₁ Bd hml0 hP hK
  obtain ⟨rfl, hZ, hh⟩ := hP
  have hx := Bd.exec
  have hby := Bd.bytes
  have hlk : meth.locks = false := Bd.notSynchronized
  have hml : c.maxLocals = 1 := hml0
  have hown : s.vm.findClass "java/lang/Number" = some m.cls := findClass_of_methodNamed Bd.named
  have hnm := (name_of_methodNamed Bd.named Bd.method).1
  have X0 : Stand p l e ({ frames := 1, cells := 0, slots := 0, locals := 12 } : Room) s m #[(.ref a0)] below meth c s₁ [] 0 0 := Stand.of_body Bd
  have e0 : s₁.heap = h0 := by rw [← hh, Bd.state]; rfl
  have N0 := Fr.nil n0
  show Go p e below s ((Q_rmNum h0 n0)) ({ frames := 1, cells := 0, slots := 0, locals := 12 } : Room).cells ({ frames := 1, cells := 0, slots := 0, locals := 12 } : Room).slots (s₁.setTop (entryFrame m #[(.ref a0)] 1))
  rw [ef_6 m a0]
  refine Go.st (S' := s₁.setTop (mkF m 1 #[.val (.ref a0)] [(.ref a0)])) (fun _ kk => XS.aloadN X0.here hx rfl (hb hby d6_0) rfl rfl kk) ?_
  obtain ⟨T1, X1, e1, st1⟩ := initO X0 hx hZ hown (hw _ (List.mem_of_getElem? (i := 42) rfl)) (hw _ (List.mem_of_getElem? (i := 7) rfl)) (hw _ (List.mem_of_getElem? (i := 8) rfl)) e0 (g := (mkF m 1 #[.val (.ref a0)] [(.ref a0)])) rfl (by rw [hml]; rfl) rfl (hb hby d6_1) (by decide) (W := 0) (by show 2 * 0 + _ ≤ _; exact Nat.le_of_eq rfl) (by decide)
  refine Go.st (S' := T1.setTop (mkF m 4 #[.val (.ref a0)] [])) st1 ?_
  exact Go.ret0 X1 hx hlk Bd.returns (hb hby d6_4) (⟨rfl, N0, e1⟩) (by decide) (by decide)
def Q_rmLong (Z : State) (a0 : Addr) (q1 : Int64) (h0 : Heap) (n0 : Nat) (v : Option Value) (h : Heap) (L : List Loc) : Prop := v = none ∧ Fr n0 L ∧ Keep h0 h [a0] ∧ Exa Z h a0 "java/lang/Long" ∧ Fld Z h a0 "java/lang/Long" "value" "J" (.long q1)
theorem d5_0 : decode jdk_35_method_26_code 0 = .ok (.aload_n 0, 1) := by decide +kernel
theorem d5_1 : decode jdk_35_method_26_code 1 = .ok (.invokespecial 270, 3) := by decide +kernel
theorem d5_4 : decode jdk_35_method_26_code 4 = .ok (.aload_n 0, 1) := by decide +kernel
theorem d5_5 : decode jdk_35_method_26_code 5 = .ok (.lload_n 1, 1) := by decide +kernel
theorem d5_6 : decode jdk_35_method_26_code 6 = .ok (.putfield 273, 3) := by decide +kernel
theorem d5_9 : decode jdk_35_method_26_code 9 = .ok (.return_, 1) := by decide +kernel
theorem pn_1 : plainName "java/lang/Long" = true := by first | (simp [plainName, overriddenIn]; done) | decide +kernel
theorem ef_5 (m : MethodId) (a0 : Addr) (q1 : Int64) : entryFrame m #[(.ref a0), (.long q1)] 3 = mkF m 0 #[.val (.ref a0), .val (.long q1), .second] [] := by first | (simp [entryFrame, mkF, argsToLocals, Value.category]; done) | rfl
set_option maxRecDepth 65536 in
set_option maxHeartbeats 40000000 in
theorem rmLong (l : Launch) (Z : State) (az : Array Value) (hw : ∀ d ∈ tables_1, d.before az Z = true) (ws : List Jvm.Cond) (a0 : Addr) (q1 : Int64)  (h0 : Heap) (n0 : Nat) (Z0 : n0 ≤ h0.size) (E_a0 : Exa Z h0 a0 "java/lang/Long") (g_a0 : n0 ≤ a0) (F_value : Fld Z h0 a0 "java/lang/Long" "value" "J" (.long (0 : Int64))) :
    MetFree l (⟨"java/lang/Long", "<init>", "(J)V"⟩ : MethodName) (head1 (Jvm.Cond.code (⟨"java/lang/Long", "<init>", "(J)V"⟩ : MethodName) jdk_35_method_26_code 3 none :: ws) ({ frames := 2, cells := 0, slots := 0, locals := 24 } : Room)) (fun a U => a = #[(.ref a0), (.long q1)] ∧ Z.Warmed39 U.vm ∧ U.heap = h0) (fun _ _ _ _ _ => True) (fun _ U o U' => ∃ v L, o = .returned v ∧ (Q_rmLong Z a0 q1 h0 n0) v U'.heap L ∧ FrameEnd U o U' L ({ frames := 2, cells := 0, slots := 0, locals := 24 } : Room).cells ({ frames := 2, cells := 0, slots := 0, locals := 24 } : Room).slots) := by
  refine MetFree.of_bodySF (plainFor_of_name pn_1) hisR ?_
  intro p e s m args below meth c s₁ Bd hml0 hP hK
  obtain ⟨rfl, hZ, hh⟩ := hP
  have hx := Bd.exec
  have hby := Bd.bytes
  have hlk : meth.locks = false := Bd.notSynchronized
  have hml : c.maxLocals = 3 := hml0
  have hown : s.vm.findClass "java/lang/Long" = some m.cls := findClass_of_methodNamed Bd.named
  have hnm := (name_of_methodNamed Bd.named Bd.method).1
  have X0 : Stand p l e ({ frames := 2, cells := 0, slots := 0, locals := 24 } : Room) s m #[(.ref a0), (.long q1)] below meth c s₁ [] 0 0 := Stand.of_body Bd
  have e0 : s₁.heap = h0 := by rw [← hh, Bd.state]; rfl
  have N0 := Fr.nil n0
  show Go p e below s ((Q_rmLong Z a0 q1 h0 n0)) ({ frames := 2, cells := 0, slots := 0, locals := 24 } : Room).cells ({ frames := 2, cells := 0, slots := 0, locals := 24 } : Room).slots (s₁.setTop (entryFrame m #[(.ref a0), (.long q1)] 3))
  rw [ef_5 m a0 q1]
  refine Go.st (S' := s₁.setTop (mkF m 1 #[.val (.ref a0), .val (.long q1), .second] [(.ref a0)])) (fun _ kk => XS.aloadN X0.here hx rfl (hb hby d5_0) rfl rfl kk) ?_
  obtain ⟨_, _, ⟨T1, L1, k1, n1⟩, -, X1, ⟨Lc1, hQ1, l1, y1, z1⟩, st1⟩ := X0.specialBack hx (y := (⟨"java/lang/Number", "<init>", "()V"⟩ : MethodName)) rfl hown (mvT hZ (hw _ (List.mem_of_getElem? (i := 36) rfl))) (mvT hZ (hw _ (List.mem_of_getElem? (i := 37) rfl))) (mvT hZ (hw _ (List.mem_of_getElem? (i := 41) rfl))) (by decide) (backOf (W := 0) (rmNum l Z az hw [] a0 h0 n0 Z0) hZ (hw _ (List.mem_of_getElem? (i := 41) rfl)) (hw _ (List.mem_of_getElem? (i := 40) rfl)) (by decide) (by decide)) (g := (mkF m 1 #[.val (.ref a0), .val (.long q1), .second] [(.ref a0)])) rfl (by rw [hml]; rfl) (Steps.refl _) (a := a0) (argsL := []) (rest := []) (lenOf pd_1 rfl) rfl (by show 2 * 0 + _ ≤ _; exact Nat.le_of_eq rfl) (hb hby d5_1) (fun _ _ => ⟨rfl, e0, (by decide : 0 + 0 ≤ _), (by decide : 0 + 0 ≤ _)⟩)
  dsimp only [Pt.U, Pt.locs, Pt.cells, Pt.slots] at X1 l1 y1 z1 st1 hQ1
  subst l1 y1 z1
  obtain ⟨rfl, N1q, e1⟩ := hQ1
  have N1 := Fr.app N0 N1q
  refine Go.tr (S' := T1.setTop (mkF m 4 #[.val (.ref a0), .val (.long q1), .second] [])) st1 ?_
  refine Go.st (S' := T1.setTop (mkF m 5 #[.val (.ref a0), .val (.long q1), .second] [(.ref a0)])) (fun _ kk => XS.aloadN X1.here hx rfl (hb hby d5_4) rfl rfl kk) ?_
  refine Go.st (S' := T1.setTop (mkF m 6 #[.val (.ref a0), .val (.long q1), .second] [(.long q1), (.ref a0)])) (fun _ kk => XS.lloadN X1.here hx rfl (hb hby d5_5) rfl kk) ?_
  obtain ⟨T2, h2, X2, e2, W2, st2⟩ := putF X1 hx hZ hown (host := "") (Or.inl (hw _ (List.mem_of_getElem? (i := 43) rfl))) Via.refl e1 F_value E_a0 (Or.inr ⟨(hw _ (List.mem_of_getElem? (i := 44) rfl)), rfl, hnm⟩) (hw _ (List.mem_of_getElem? (i := 31) rfl)) (ty := .long) (by decide) rfl rfl (g := (mkF m 6 #[.val (.ref a0), .val (.long q1), .second] [(.long q1), (.ref a0)])) rfl rfl (hb hby d5_6)
  have N2 := Fr.snoc X2 N1 g_a0
  have F_value := F_value.same W2
  have E_a0 := E_a0.wr W2
  have Zs3 := Nat.le_trans Z0 (Keep.of_wr W2).1
  have Kp4 := (Keep.refl h0 [a0]).wr W2 (Or.inl (List.mem_of_getElem? (i := 0) rfl))
  refine Go.st (S' := T2.setTop (mkF m 9 #[.val (.ref a0), .val (.long q1), .second] [])) st2 ?_
  exact Go.ret0 X2 hx hlk Bd.returns (hb hby d5_9) (by rw [e2]; exact ⟨rfl, N2, Kp4, E_a0, F_value⟩) (by decide) (by decide)
/-- the cache of boxed longs, as the heap h has it -/
def Cache (Z : State) (h : Heap) (ca : Addr) : Prop := Sta Z h "java/lang/Long$LongCache" "cache" "[Ljava/lang/Long;" (.ref ca) ∧ ∃ cl : Cell, Arr Z h ca cl (.object "java/lang/Long") ∧ cl.slots.size = 256 ∧ ∀ j : Nat, j < 256 → ∃ r, cl.slots[j]? = some (.ref r) ∧ Exa Z h r "java/lang/Long"
theorem Cache.ext {Z : State} {h h' : Heap} {ca : Addr} (F : Cache Z h ca) (E : Ext h h') : Cache Z h' ca := by
  obtain ⟨h1, c, h2, h3, h4⟩ := F
  exact ⟨h1.ext E, c, h2.ext E, h3, fun j hj => by obtain ⟨r, q1, q2⟩ := h4 j hj; exact ⟨r, q1, q2.ext E⟩⟩
theorem own_idx {q : Int64} (h1 : ¬ q < (-128 : Int64)) (h2 : ¬ (127 : Int64) < q) : ¬ (q.toInt32 + (128 : Int32) < 0) ∧ (q.toInt32 + (128 : Int32)).toNatClampNeg < 256 := by
  rw [Int64.lt_iff_toInt_lt] at h1 h2
  simp only [Int64.reduceToInt] at h1 h2
  have a1 := c_l2i q
  have a2 := rng32 q.toInt32
  have a3 := c_iadd q.toInt32 128
  have a4 := rng32 (q.toInt32 + 128)
  have a5 : (128 : Int32).toInt = 128 := by decide
  rw [a5] at a3
  rw [Int32.lt_iff_toInt_lt, Int32.toNatClampNeg]
  simp only [Int32.reduceToInt]
  omega
def Q_rmVal (Z : State) (h0 : Heap) (n0 : Nat) (v : Option Value) (h : Heap) (L : List Loc) : Prop := ∃ r, v = some (.ref r) ∧ Fr n0 L ∧ Keep h0 h [] ∧ Exa Z h r "java/lang/Long"
theorem d4_0 : decode jdk_35_method_24_code 0 = .ok (.sipush 128, 3) := by decide +kernel
theorem d4_3 : decode jdk_35_method_24_code 3 = .ok (.istore_n 2, 1) := by decide +kernel
theorem d4_4 : decode jdk_35_method_24_code 4 = .ok (.lload_n 0, 1) := by decide +kernel
theorem d4_5 : decode jdk_35_method_24_code 5 = .ok (.ldc2_w 230, 3) := by decide +kernel
theorem d4_8 : decode jdk_35_method_24_code 8 = .ok (.lcmp, 1) := by decide +kernel
theorem d4_9 : decode jdk_35_method_24_code 9 = .ok (.ifCond .lt 22, 3) := by decide +kernel
theorem d4_12 : decode jdk_35_method_24_code 12 = .ok (.lload_n 0, 1) := by decide +kernel
theorem d4_13 : decode jdk_35_method_24_code 13 = .ok (.ldc2_w 232, 3) := by decide +kernel
theorem d4_16 : decode jdk_35_method_24_code 16 = .ok (.lcmp, 1) := by decide +kernel
theorem d4_17 : decode jdk_35_method_24_code 17 = .ok (.ifCond .gt 14, 3) := by decide +kernel
theorem d4_20 : decode jdk_35_method_24_code 20 = .ok (.getstatic 234, 3) := by decide +kernel
theorem d4_23 : decode jdk_35_method_24_code 23 = .ok (.lload_n 0, 1) := by decide +kernel
theorem d4_24 : decode jdk_35_method_24_code 24 = .ok (.l2i, 1) := by decide +kernel
theorem d4_25 : decode jdk_35_method_24_code 25 = .ok (.sipush 128, 3) := by decide +kernel
theorem d4_28 : decode jdk_35_method_24_code 28 = .ok (.iadd, 1) := by decide +kernel
theorem d4_29 : decode jdk_35_method_24_code 29 = .ok (.aaload, 1) := by decide +kernel
theorem d4_30 : decode jdk_35_method_24_code 30 = .ok (.areturn, 1) := by decide +kernel
theorem d4_31 : decode jdk_35_method_24_code 31 = .ok (.new 1, 3) := by decide +kernel
theorem d4_34 : decode jdk_35_method_24_code 34 = .ok (.dup, 1) := by decide +kernel
theorem d4_35 : decode jdk_35_method_24_code 35 = .ok (.lload_n 0, 1) := by decide +kernel
theorem d4_36 : decode jdk_35_method_24_code 36 = .ok (.invokespecial 240, 3) := by decide +kernel
theorem d4_39 : decode jdk_35_method_24_code 39 = .ok (.areturn, 1) := by decide +kernel
theorem ef_4 (m : MethodId) (q0 : Int64) : entryFrame m #[(.long q0)] 3 = mkF m 0 #[.val (.long q0), .second, .unset] [] := by first | (simp [entryFrame, mkF, argsToLocals, Value.category]; done) | rfl
set_option maxRecDepth 65536 in
set_option maxHeartbeats 40000000 in
theorem rmVal (l : Launch) (Z : State) (az : Array Value) (hw : ∀ d ∈ tables_1, d.before az Z = true) (ws : List Jvm.Cond) (q0 : Int64) (ca : Addr) (h0 : Heap) (n0 : Nat) (Z0 : n0 ≤ h0.size) (Ch : Cache Z h0 ca) :
    MetFree l (⟨"java/lang/Long", "valueOf", "(J)Ljava/lang/Long;"⟩ : MethodName) (head1 (Jvm.Cond.code (⟨"java/lang/Long", "valueOf", "(J)Ljava/lang/Long;"⟩ : MethodName) jdk_35_method_24_code 3 (some (.object "java/lang/Long")) :: ws) ({ frames := 3, cells := 1, slots := 1, locals := 44 } : Room)) (fun a U => a = #[(.long q0)] ∧ Z.Warmed39 U.vm ∧ U.heap = h0) (fun _ _ _ _ _ => True) (fun _ U o U' => ∃ v L, o = .returned v ∧ (Q_rmVal Z h0 n0) v U'.heap L ∧ FrameEnd U o U' L ({ frames := 3, cells := 1, slots := 1, locals := 44 } : Room).cells ({ frames := 3, cells := 1, slots := 1, locals := 44 } : Room).slots) := by
  refine MetFree.of_bodySF (plainFor_of_name pn_1) hisR ?_
  intro p e s m args below meth c s₁ Bd hml0 hP hK
  obtain ⟨rfl, hZ, hh⟩ := hP
  have hx := Bd.exec
  have hby := Bd.bytes
  have hlk : meth.locks = false := Bd.notSynchronized
  have hml : c.maxLocals = 3 := hml0
  have hown : s.vm.findClass "java/lang/Long" = some m.cls := findClass_of_methodNamed Bd.named
  have hnm := (name_of_methodNamed Bd.named Bd.method).1
  have X0 : Stand p l e ({ frames := 3, cells := 1, slots := 1, locals := 44 } : Room) s m #[(.long q0)] below meth c s₁ [] 0 0 := Stand.of_body Bd
  have e0 : s₁.heap = h0 := by rw [← hh, Bd.state]; rfl
  have N0 := Fr.nil n0
  show Go p e below s ((Q_rmVal Z h0 n0)) ({ frames := 3, cells := 1, slots := 1, locals := 44 } : Room).cells ({ frames := 3, cells := 1, slots := 1, locals := 44 } : Room).slots (s₁.setTop (entryFrame m #[(.long q0)] 3))
  rw [ef_4 m q0]
  obtain ⟨S_cache, cc, Ac, Sc, Hc⟩ := Ch
  refine Go.st (S' := s₁.setTop (mkF m 3 #[.val (.long q0), .second, .unset] [(.int (128 : Int32))])) (fun _ kk => XS.sipush X0.here hx rfl (hb hby d4_0) kk) ?_
  refine Go.st (S' := s₁.setTop (mkF m 4 #[.val (.long q0), .second, .val (.int (128 : Int32))] [])) (fun _ kk => XS.istoreN X0.here hx rfl (hb hby d4_3) rfl (l' := #[.val (.long q0), .second, .val (.int (128 : Int32))]) rfl kk) ?_
  refine Go.st (S' := s₁.setTop (mkF m 5 #[.val (.long q0), .second, .val (.int (128 : Int32))] [(.long q0)])) (fun _ kk => XS.lloadN X0.here hx rfl (hb hby d4_4) rfl kk) ?_
  refine Go.st (S' := s₁.setTop (mkF m 8 #[.val (.long q0), .second, .val (.int (128 : Int32))] [(.long (-128 : Int64)), (.long q0)])) (fun _ kk => X0.ldc2Long hx hown (mvT hZ (hw _ (List.mem_of_getElem? (i := 28) rfl))) (g := (mkF m 5 #[.val (.long q0), .second, .val (.int (128 : Int32))] [(.long q0)])) rfl (hb hby d4_5) _ kk) ?_
  refine Go.st (S' := s₁.setTop (mkF m 9 #[.val (.long q0), .second, .val (.int (128 : Int32))] [(.int (lcmpW q0 (-128 : Int64)))])) (fun _ kk => XS.lcmp X0.here hx rfl (hb hby d4_8) rfl kk) ?_
  by_cases hc1 : q0 < (-128 : Int64)
  · refine Go.st (S' := s₁.setTop (mkF m 31 #[.val (.long q0), .second, .val (.int (128 : Int32))] [])) (fun _ kk => XS.ifYes X0.here hx rfl (pc0 := 9) (pc' := 31) rfl (hb hby d4_9) rfl ((if0 _ _).trans (tlt ((lw_lt q0 (-128 : Int64)).mpr hc1)).1) (by decide) (by decide) kk) ?_
    obtain ⟨T2, h2, X2, e2, E2, A2, D2, -, st2⟩ := newO X0 hx hZ hown (hw _ (List.mem_of_getElem? (i := 30) rfl)) (hw _ (List.mem_of_getElem? (i := 31) rfl)) (hw _ (List.mem_of_getElem? (i := 26) rfl)) e0 (g := (mkF m 31 #[.val (.long q0), .second, .val (.int (128 : Int32))] [])) rfl (hb hby d4_31) (by decide : 0 + 1 ≤ _) (by decide : 0 + 1 ≤ _)
    obtain ⟨b2, g2⟩ : ∃ z, z = h0.size := ⟨_, rfl⟩
    rw [← g2] at A2 D2 st2
    have g_b2 : n0 ≤ b2 := Nat.le_trans Z0 (Nat.le_of_eq g2.symm)
    have sz_b2 : h0.size ≤ b2 := Nat.le_trans (Keep.refl h0 []).1 (Nat.le_of_eq g2.symm)
    have S_cache := S_cache.ext E2
    have Zs3 := Nat.le_trans Z0 E2.1
    have Kp4 := (Keep.refl h0 []).ext E2
    have E_b2 := A2
    have F_value_b2 : Fld Z h2 b2 "java/lang/Long" "value" "J" (.long (0 : Int64)) := D2 (Or.inr (hw _ (List.mem_of_getElem? (i := 44) rfl))) (ty := .long) (by decide)
    refine Go.st (S' := T2.setTop (mkF m 34 #[.val (.long q0), .second, .val (.int (128 : Int32))] [(.ref b2)])) st2 ?_
    refine Go.st (S' := T2.setTop (mkF m 35 #[.val (.long q0), .second, .val (.int (128 : Int32))] [(.ref b2), (.ref b2)])) (fun _ kk => XS.dup X2.here hx rfl (hb hby d4_34) rfl rfl kk) ?_
    refine Go.st (S' := T2.setTop (mkF m 36 #[.val (.long q0), .second, .val (.int (128 : Int32))] [(.long q0), (.ref b2), (.ref b2)])) (fun _ kk => XS.lloadN X2.here hx rfl (hb hby d4_35) rfl kk) ?_
    obtain ⟨_, _, ⟨T5, L5, k5, n5⟩, -, X5, ⟨Lc5, hQ5, l5, y5, z5⟩, st5⟩ := X2.specialBack hx (y := (⟨"java/lang/Long", "<init>", "(J)V"⟩ : MethodName)) rfl hown (mvT hZ (hw _ (List.mem_of_getElem? (i := 32) rfl))) (mvT hZ (hw _ (List.mem_of_getElem? (i := 33) rfl))) (mvT hZ (hw _ (List.mem_of_getElem? (i := 35) rfl))) (by decide) (backOf (W := 1) (rmLong l Z az hw [] b2 q0 h2 n0 Zs3 E_b2 g_b2 F_value_b2) hZ (hw _ (List.mem_of_getElem? (i := 35) rfl)) (hw _ (List.mem_of_getElem? (i := 26) rfl)) (by decide) (by decide)) (g := (mkF m 36 #[.val (.long q0), .second, .val (.int (128 : Int32))] [(.long q0), (.ref b2), (.ref b2)])) rfl (by rw [hml]; rfl) (Steps.refl _) (a := b2) (argsL := [(.long q0)]) (rest := [(.ref b2)]) (lenOf pd_4 rfl) rfl (by show 2 * 0 + _ ≤ _; exact Nat.le_of_eq rfl) (hb hby d4_36) (fun _ _ => ⟨rfl, e2, (by decide : 1 + 0 ≤ _), (by decide : 1 + 0 ≤ _)⟩)
    dsimp only [Pt.U, Pt.locs, Pt.cells, Pt.slots] at X5 l5 y5 z5 st5 hQ5
    subst l5 y5 z5
    obtain ⟨rfl, N5q, K5, Ec5, Fc5_0⟩ := hQ5
    have N5 := Fr.app N0 N5q
    have E_b2 := E_b2.keep K5
    have Zs6 := Nat.le_trans Zs3 K5.1
    have Kp7 := Kp4.trans K5 (allS (Or.inr sz_b2) all0)
    refine Go.tr (S' := T5.setTop (mkF m 39 #[.val (.long q0), .second, .val (.int (128 : Int32))] [(.ref b2)])) st5 ?_
    exact Go.retA X5 hx hlk Bd.returns rfl rfl (hb hby d4_39) (⟨_, rfl, N5, Kp7, E_b2⟩) (by decide) (by decide)
  · refine Go.st (S' := s₁.setTop (mkF m 12 #[.val (.long q0), .second, .val (.int (128 : Int32))] [])) (fun _ kk => XS.ifNo X0.here hx rfl (hb hby d4_9) rfl ((if0 _ _).trans (flt (fun q => hc1 ((lw_lt q0 (-128 : Int64)).mp q))).1) kk) ?_
    refine Go.st (S' := s₁.setTop (mkF m 13 #[.val (.long q0), .second, .val (.int (128 : Int32))] [(.long q0)])) (fun _ kk => XS.lloadN X0.here hx rfl (hb hby d4_12) rfl kk) ?_
    refine Go.st (S' := s₁.setTop (mkF m 16 #[.val (.long q0), .second, .val (.int (128 : Int32))] [(.long (127 : Int64)), (.long q0)])) (fun _ kk => X0.ldc2Long hx hown (mvT hZ (hw _ (List.mem_of_getElem? (i := 29) rfl))) (g := (mkF m 13 #[.val (.long q0), .second, .val (.int (128 : Int32))] [(.long q0)])) rfl (hb hby d4_13) _ kk) ?_
    refine Go.st (S' := s₁.setTop (mkF m 17 #[.val (.long q0), .second, .val (.int (128 : Int32))] [(.int (lcmpW q0 (127 : Int64)))])) (fun _ kk => XS.lcmp X0.here hx rfl (hb hby d4_16) rfl kk) ?_
    by_cases hc8 : (127 : Int64) < q0
    · refine Go.st (S' := s₁.setTop (mkF m 31 #[.val (.long q0), .second, .val (.int (128 : Int32))] [])) (fun _ kk => XS.ifYes X0.here hx rfl (pc0 := 17) (pc' := 31) rfl (hb hby d4_17) rfl ((if0 _ _).trans (tlt ((lw_gt q0 (127 : Int64)).mpr hc8)).2.2.1) (by decide) (by decide) kk) ?_
      obtain ⟨T9, h9, X9, e9, E9, A9, D9, -, st9⟩ := newO X0 hx hZ hown (hw _ (List.mem_of_getElem? (i := 30) rfl)) (hw _ (List.mem_of_getElem? (i := 31) rfl)) (hw _ (List.mem_of_getElem? (i := 26) rfl)) e0 (g := (mkF m 31 #[.val (.long q0), .second, .val (.int (128 : Int32))] [])) rfl (hb hby d4_31) (by decide : 0 + 1 ≤ _) (by decide : 0 + 1 ≤ _)
      obtain ⟨b9, g9⟩ : ∃ z, z = h0.size := ⟨_, rfl⟩
      rw [← g9] at A9 D9 st9
      have g_b9 : n0 ≤ b9 := Nat.le_trans Z0 (Nat.le_of_eq g9.symm)
      have sz_b9 : h0.size ≤ b9 := Nat.le_trans (Keep.refl h0 []).1 (Nat.le_of_eq g9.symm)
      have S_cache := S_cache.ext E9
      have Zs10 := Nat.le_trans Z0 E9.1
      have Kp11 := (Keep.refl h0 []).ext E9
      have E_b9 := A9
      have F_value_b9 : Fld Z h9 b9 "java/lang/Long" "value" "J" (.long (0 : Int64)) := D9 (Or.inr (hw _ (List.mem_of_getElem? (i := 44) rfl))) (ty := .long) (by decide)
      refine Go.st (S' := T9.setTop (mkF m 34 #[.val (.long q0), .second, .val (.int (128 : Int32))] [(.ref b9)])) st9 ?_
      refine Go.st (S' := T9.setTop (mkF m 35 #[.val (.long q0), .second, .val (.int (128 : Int32))] [(.ref b9), (.ref b9)])) (fun _ kk => XS.dup X9.here hx rfl (hb hby d4_34) rfl rfl kk) ?_
      refine Go.st (S' := T9.setTop (mkF m 36 #[.val (.long q0), .second, .val (.int (128 : Int32))] [(.long q0), (.ref b9), (.ref b9)])) (fun _ kk => XS.lloadN X9.here hx rfl (hb hby d4_35) rfl kk) ?_
      obtain ⟨_, _, ⟨T12, L12, k12, n12⟩, -, X12, ⟨Lc12, hQ12, l12, y12, z12⟩, st12⟩ := X9.specialBack hx (y := (⟨"java/lang/Long", "<init>", "(J)V"⟩ : MethodName)) rfl hown (mvT hZ (hw _ (List.mem_of_getElem? (i := 32) rfl))) (mvT hZ (hw _ (List.mem_of_getElem? (i := 33) rfl))) (mvT hZ (hw _ (List.mem_of_getElem? (i := 35) rfl))) (by decide) (backOf (W := 1) (rmLong l Z az hw [] b9 q0 h9 n0 Zs10 E_b9 g_b9 F_value_b9) hZ (hw _ (List.mem_of_getElem? (i := 35) rfl)) (hw _ (List.mem_of_getElem? (i := 26) rfl)) (by decide) (by decide)) (g := (mkF m 36 #[.val (.long q0), .second, .val (.int (128 : Int32))] [(.long q0), (.ref b9), (.ref b9)])) rfl (by rw [hml]; rfl) (Steps.refl _) (a := b9) (argsL := [(.long q0)]) (rest := [(.ref b9)]) (lenOf pd_4 rfl) rfl (by show 2 * 0 + _ ≤ _; exact Nat.le_of_eq rfl) (hb hby d4_36) (fun _ _ => ⟨rfl, e9, (by decide : 1 + 0 ≤ _), (by decide : 1 + 0 ≤ _)⟩)
      dsimp only [Pt.U, Pt.locs, Pt.cells, Pt.slots] at X12 l12 y12 z12 st12 hQ12
      subst l12 y12 z12
      obtain ⟨rfl, N12q, K12, Ec12, Fc12_0⟩ := hQ12
      have N12 := Fr.app N0 N12q
      have E_b9 := E_b9.keep K12
      have Zs13 := Nat.le_trans Zs10 K12.1
      have Kp14 := Kp11.trans K12 (allS (Or.inr sz_b9) all0)
      refine Go.tr (S' := T12.setTop (mkF m 39 #[.val (.long q0), .second, .val (.int (128 : Int32))] [(.ref b9)])) st12 ?_
      exact Go.retA X12 hx hlk Bd.returns rfl rfl (hb hby d4_39) (⟨_, rfl, N12, Kp14, E_b9⟩) (by decide) (by decide)
    · refine Go.st (S' := s₁.setTop (mkF m 20 #[.val (.long q0), .second, .val (.int (128 : Int32))] [])) (fun _ kk => XS.ifNo X0.here hx rfl (hb hby d4_17) rfl ((if0 _ _).trans (flt (fun q => hc8 ((lw_gt q0 (127 : Int64)).mp q))).2.2.1) kk) ?_
      obtain ⟨T15, X15, e15, st15⟩ := getS2 X0 hx hZ hown (host := "") (Or.inl (hw _ (List.mem_of_getElem? (i := 48) rfl))) Via.refl e0 S_cache (g := (mkF m 20 #[.val (.long q0), .second, .val (.int (128 : Int32))] [])) rfl (hb hby d4_20)
      refine Go.st (S' := T15.setTop (mkF m 23 #[.val (.long q0), .second, .val (.int (128 : Int32))] [(.ref ca)])) st15 ?_
      refine Go.st (S' := T15.setTop (mkF m 24 #[.val (.long q0), .second, .val (.int (128 : Int32))] [(.long q0), (.ref ca)])) (fun _ kk => XS.lloadN X15.here hx rfl (hb hby d4_23) rfl kk) ?_
      refine Go.st (S' := T15.setTop (mkF m 25 #[.val (.long q0), .second, .val (.int (128 : Int32))] [(.int (q0.toInt32)), (.ref ca)])) (fun _ kk => XS.l2i X15.here hx rfl (hb hby d4_24) rfl kk) ?_
      refine Go.st (S' := T15.setTop (mkF m 28 #[.val (.long q0), .second, .val (.int (128 : Int32))] [(.int (128 : Int32)), (.int (q0.toInt32)), (.ref ca)])) (fun _ kk => XS.sipush X15.here hx rfl (hb hby d4_25) kk) ?_
      refine Go.st (S' := T15.setTop (mkF m 29 #[.val (.long q0), .second, .val (.int (128 : Int32))] [(.int ((q0.toInt32) + (128 : Int32))), (.ref ca)])) (fun _ kk => XS.iadd X15.here hx rfl (hb hby d4_28) rfl kk) ?_
      obtain ⟨hi16, hj16⟩ := own_idx hc1 hc8
      obtain ⟨r16, hr16, Er16⟩ := Hc _ hj16
      have hin16 : ¬ (((q0.toInt32) + (128 : Int32)) < 0 ∨ cc.slots.size ≤ (((q0.toInt32) + (128 : Int32))).toNatClampNeg) := fun q => q.elim hi16 (fun q => absurd hj16 (by rw [Sc] at q; exact Nat.not_lt.mpr q))
      refine Go.st (S' := T15.setTop (mkF m 30 #[.val (.long q0), .second, .val (.int (128 : Int32))] [(.ref r16)])) (fun _ kk => X15.aaload hx (j := ((q0.toInt32) + (128 : Int32))) (v := .ref r16) (by rw [e15]; exact Ac.1) (State.isArrayOf_alike hZ.alike Ac.2.1) rfl Ac.2.2 hin16 hr16 (g := (mkF m 29 #[.val (.long q0), .second, .val (.int (128 : Int32))] [(.int ((q0.toInt32) + (128 : Int32))), (.ref ca)])) rfl rfl (hb hby d4_29) _ kk) ?_
      exact Go.retA X15 hx hlk Bd.returns rfl rfl (hb hby d4_30) (by rw [e15]; exact ⟨_, rfl, N0, (Keep.refl h0 []), Er16⟩) (by decide) (by decide)
def Q_rmC (Z : State) (a0 : Addr) (p1 : Int32) (p2 : Int32) (q3 : Int64) (p4 : Int32) (h0 : Heap) (n0 : Nat) (v : Option Value) (h : Heap) (L : List Loc) : Prop := v = none ∧ Fr n0 L ∧ Keep h0 h [a0] ∧ Exa Z h a0 "com/example/offset_lookup/offsetlookup/protocol/ListOffsetsRequest$Partition" ∧ Fld Z h a0 "com/example/offset_lookup/offsetlookup/protocol/ListOffsetsRequest$Partition" "partitionIndex" "I" (.int p1) ∧ Fld Z h a0 "com/example/offset_lookup/offsetlookup/protocol/ListOffsetsRequest$Partition" "currentLeaderEpoch" "I" (.int p2) ∧ Fld Z h a0 "com/example/offset_lookup/offsetlookup/protocol/ListOffsetsRequest$Partition" "timestamp" "J" (.long q3) ∧ Fld Z h a0 "com/example/offset_lookup/offsetlookup/protocol/ListOffsetsRequest$Partition" "maxNumOffsets" "I" (.int p4)
theorem d1_0 : decode prog_67_method_1_code 0 = .ok (.aload_n 0, 1) := by decide +kernel
theorem d1_1 : decode prog_67_method_1_code 1 = .ok (.invokespecial 1, 3) := by decide +kernel
theorem d1_4 : decode prog_67_method_1_code 4 = .ok (.aload_n 0, 1) := by decide +kernel
theorem d1_5 : decode prog_67_method_1_code 5 = .ok (.iload_n 1, 1) := by decide +kernel
theorem d1_6 : decode prog_67_method_1_code 6 = .ok (.putfield 7, 3) := by decide +kernel
theorem d1_9 : decode prog_67_method_1_code 9 = .ok (.aload_n 0, 1) := by decide +kernel
theorem d1_10 : decode prog_67_method_1_code 10 = .ok (.iload_n 2, 1) := by decide +kernel
theorem d1_11 : decode prog_67_method_1_code 11 = .ok (.putfield 13, 3) := by decide +kernel
theorem d1_14 : decode prog_67_method_1_code 14 = .ok (.aload_n 0, 1) := by decide +kernel
theorem d1_15 : decode prog_67_method_1_code 15 = .ok (.lload_n 3, 1) := by decide +kernel
theorem d1_16 : decode prog_67_method_1_code 16 = .ok (.putfield 16, 3) := by decide +kernel
theorem d1_19 : decode prog_67_method_1_code 19 = .ok (.aload_n 0, 1) := by decide +kernel
theorem d1_20 : decode prog_67_method_1_code 20 = .ok (.iload 5, 2) := by decide +kernel
theorem d1_22 : decode prog_67_method_1_code 22 = .ok (.putfield 20, 3) := by decide +kernel
theorem d1_25 : decode prog_67_method_1_code 25 = .ok (.return_, 1) := by decide +kernel
theorem pn_2 : plainName "com/example/offset_lookup/offsetlookup/protocol/ListOffsetsRequest$Partition" = true := by first | (simp [plainName, overriddenIn]; done) | decide +kernel
theorem ef_1 (m : MethodId) (a0 : Addr) (p1 : Int32) (p2 : Int32) (q3 : Int64) (p4 : Int32) : entryFrame m #[(.ref a0), (.int p1), (.int p2), (.long q3), (.int p4)] 6 = mkF m 0 #[.val (.ref a0), .val (.int p1), .val (.int p2), .val (.long q3), .second, .val (.int p4)] [] := by first | (simp [entryFrame, mkF, argsToLocals, Value.category]; done) | rfl
set_option maxRecDepth 65536 in
set_option maxHeartbeats 40000000 in
theorem rmC (l : Launch) (Z : State) (az : Array Value) (hw : ∀ d ∈ tables_1, d.before az Z = true) (ws : List Jvm.Cond) (a0 : Addr) (p1 : Int32) (p2 : Int32) (q3 : Int64) (p4 : Int32)  (h0 : Heap) (n0 : Nat) (Z0 : n0 ≤ h0.size) (E_a0 : Exa Z h0 a0 "com/example/offset_lookup/offsetlookup/protocol/ListOffsetsRequest$Partition") (g_a0 : n0 ≤ a0) (F_partitionIndex : Fld Z h0 a0 "com/example/offset_lookup/offsetlookup/protocol/ListOffsetsRequest$Partition" "partitionIndex" "I" (.int (0 : Int32))) (F_currentLeaderEpoch : Fld Z h0 a0 "com/example/offset_lookup/offsetlookup/protocol/ListOffsetsRequest$Partition" "currentLeaderEpoch" "I" (.int (0 : Int32))) (F_timestamp : Fld Z h0 a0 "com/example/offset_lookup/offsetlookup/protocol/ListOffsetsRequest$Partition" "timestamp" "J" (.long (0 : Int64))) (F_maxNumOffsets : Fld Z h0 a0 "com/example/offset_lookup/offsetlookup/protocol/ListOffsetsRequest$Partition" "maxNumOffsets" "I" (.int (0 : Int32))) :
    MetFree l (⟨"com/example/offset_lookup/offsetlookup/protocol/ListOffsetsRequest$Partition", "<init>", "(IIJI)V"⟩ : MethodName) (head1 (Jvm.Cond.code (⟨"com/example/offset_lookup/offsetlookup/protocol/ListOffsetsRequest$Partition", "<init>", "(IIJI)V"⟩ : MethodName) prog_67_method_1_code 6 none :: ws) ({ frames := 1, cells := 0, slots := 0, locals := 12 } : Room)) (fun a U => a = #[(.ref a0), (.int p1), (.int p2), (.long q3), (.int p4)] ∧ Z.Warmed39 U.vm ∧ U.heap = h0) (fun _ _ _ _ _ => True) (fun _ U o U' => ∃ v L, o = .returned v ∧ (Q_rmC Z a0 p1 p2 q3 p4 h0 n0) v U'.heap L ∧ FrameEnd U o U' L ({ frames := 1, cells := 0, slots := 0, locals := 12 } : Room).cells ({ frames := 1, cells := 0, slots := 0, locals := 12 } : Room).slots) := by
  refine MetFree.of_bodySF (plainFor_of_name pn_2) hisR ?_
  intro p e s m args below meth c s₁ Bd hml0 hP hK
  obtain ⟨rfl, hZ, hh⟩ := hP
  have hx := Bd.exec
  have hby := Bd.bytes
  have hlk : meth.locks = false := Bd.notSynchronized
  have hml : c.maxLocals = 6 := hml0
  have hown : s.vm.findClass "com/example/offset_lookup/offsetlookup/protocol/ListOffsetsRequest$Partition" = some m.cls := findClass_of_methodNamed Bd.named
  have hnm := (name_of_methodNamed Bd.named Bd.method).1
  have X0 : Stand p l e ({ frames := 1, cells := 0, slots := 0, locals := 12 } : Room) s m #[(.ref a0), (.int p1), (.int p2), (.long q3), (.int p4)] below meth c s₁ [] 0 0 := Stand.of_body Bd
  have e0 : s₁.heap = h0 := by rw [← hh, Bd.state]; rfl
  have N0 := Fr.nil n0
  show Go p e below s ((Q_rmC Z a0 p1 p2 q3 p4 h0 n0)) ({ frames := 1, cells := 0, slots := 0, locals := 12 } : Room).cells ({ frames := 1, cells := 0, slots := 0, locals := 12 } : Room).slots (s₁.setTop (entryFrame m #[(.ref a0), (.int p1), (.int p2), (.long q3), (.int p4)] 6))
  rw [ef_1 m a0 p1 p2 q3 p4]
  refine Go.st (S' := s₁.setTop (mkF m 1 #[.val (.ref a0), .val (.int p1), .val (.int p2), .val (.long q3), .second, .val (.int p4)] [(.ref a0)])) (fun _ kk => XS.aloadN X0.here hx rfl (hb hby d1_0) rfl rfl kk) ?_
  obtain ⟨T1, X1, e1, st1⟩ := initO X0 hx hZ hown (hw _ (List.mem_of_getElem? (i := 6) rfl)) (hw _ (List.mem_of_getElem? (i := 7) rfl)) (hw _ (List.mem_of_getElem? (i := 8) rfl)) e0 (g := (mkF m 1 #[.val (.ref a0), .val (.int p1), .val (.int p2), .val (.long q3), .second, .val (.int p4)] [(.ref a0)])) rfl (by rw [hml]; rfl) rfl (hb hby d1_1) (by decide) (W := 0) (by show 2 * 0 + _ ≤ _; exact Nat.le_of_eq rfl) (by decide)
  refine Go.st (S' := T1.setTop (mkF m 4 #[.val (.ref a0), .val (.int p1), .val (.int p2), .val (.long q3), .second, .val (.int p4)] [])) st1 ?_
  refine Go.st (S' := T1.setTop (mkF m 5 #[.val (.ref a0), .val (.int p1), .val (.int p2), .val (.long q3), .second, .val (.int p4)] [(.ref a0)])) (fun _ kk => XS.aloadN X1.here hx rfl (hb hby d1_4) rfl rfl kk) ?_
  refine Go.st (S' := T1.setTop (mkF m 6 #[.val (.ref a0), .val (.int p1), .val (.int p2), .val (.long q3), .second, .val (.int p4)] [(.int p1), (.ref a0)])) (fun _ kk => XS.iloadN X1.here hx rfl (hb hby d1_5) rfl kk) ?_
  obtain ⟨T2, h2, X2, e2, W2, st2⟩ := putF X1 hx hZ hown (host := "") (Or.inl (hw _ (List.mem_of_getElem? (i := 9) rfl))) Via.refl e1 F_partitionIndex E_a0 (Or.inr ⟨(hw _ (List.mem_of_getElem? (i := 10) rfl)), rfl, hnm⟩) (hw _ (List.mem_of_getElem? (i := 1) rfl)) (ty := .int) (by decide) rfl rfl (g := (mkF m 6 #[.val (.ref a0), .val (.int p1), .val (.int p2), .val (.long q3), .second, .val (.int p4)] [(.int p1), (.ref a0)])) rfl rfl (hb hby d1_6)
  have N2 := Fr.snoc X2 N0 g_a0
  have F_partitionIndex := F_partitionIndex.same W2
  have E_a0 := E_a0.wr W2
  have F_currentLeaderEpoch := F_currentLeaderEpoch.other W2 (Or.inr (slot_ne (Or.inr (hw _ (List.mem_of_getElem? (i := 12) rfl))) (Or.inr (hw _ (List.mem_of_getElem? (i := 10) rfl))) (by decide) (t := .int) (t' := .int) (by decide) (by decide)))
  have F_timestamp := F_timestamp.other W2 (Or.inr (slot_ne (Or.inr (hw _ (List.mem_of_getElem? (i := 14) rfl))) (Or.inr (hw _ (List.mem_of_getElem? (i := 10) rfl))) (by decide) (t := .long) (t' := .int) (by decide) (by decide)))
  have F_maxNumOffsets := F_maxNumOffsets.other W2 (Or.inr (slot_ne (Or.inr (hw _ (List.mem_of_getElem? (i := 16) rfl))) (Or.inr (hw _ (List.mem_of_getElem? (i := 10) rfl))) (by decide) (t := .int) (t' := .int) (by decide) (by decide)))
  have Zs3 := Nat.le_trans Z0 (Keep.of_wr W2).1
  have Kp4 := (Keep.refl h0 [a0]).wr W2 (Or.inl (List.mem_of_getElem? (i := 0) rfl))
  refine Go.st (S' := T2.setTop (mkF m 9 #[.val (.ref a0), .val (.int p1), .val (.int p2), .val (.long q3), .second, .val (.int p4)] [])) st2 ?_
  refine Go.st (S' := T2.setTop (mkF m 10 #[.val (.ref a0), .val (.int p1), .val (.int p2), .val (.long q3), .second, .val (.int p4)] [(.ref a0)])) (fun _ kk => XS.aloadN X2.here hx rfl (hb hby d1_9) rfl rfl kk) ?_
  refine Go.st (S' := T2.setTop (mkF m 11 #[.val (.ref a0), .val (.int p1), .val (.int p2), .val (.long q3), .second, .val (.int p4)] [(.int p2), (.ref a0)])) (fun _ kk => XS.iloadN X2.here hx rfl (hb hby d1_10) rfl kk) ?_
  obtain ⟨T5, h5, X5, e5, W5, st5⟩ := putF X2 hx hZ hown (host := "") (Or.inl (hw _ (List.mem_of_getElem? (i := 11) rfl))) Via.refl e2 F_currentLeaderEpoch E_a0 (Or.inr ⟨(hw _ (List.mem_of_getElem? (i := 12) rfl)), rfl, hnm⟩) (hw _ (List.mem_of_getElem? (i := 1) rfl)) (ty := .int) (by decide) rfl rfl (g := (mkF m 11 #[.val (.ref a0), .val (.int p1), .val (.int p2), .val (.long q3), .second, .val (.int p4)] [(.int p2), (.ref a0)])) rfl rfl (hb hby d1_11)
  have N5 := Fr.snoc X5 N2 g_a0
  have F_currentLeaderEpoch := F_currentLeaderEpoch.same W5
  have E_a0 := E_a0.wr W5
  have F_partitionIndex := F_partitionIndex.other W5 (Or.inr (slot_ne (Or.inr (hw _ (List.mem_of_getElem? (i := 10) rfl))) (Or.inr (hw _ (List.mem_of_getElem? (i := 12) rfl))) (by decide) (t := .int) (t' := .int) (by decide) (by decide)))
  have F_timestamp := F_timestamp.other W5 (Or.inr (slot_ne (Or.inr (hw _ (List.mem_of_getElem? (i := 14) rfl))) (Or.inr (hw _ (List.mem_of_getElem? (i := 12) rfl))) (by decide) (t := .long) (t' := .int) (by decide) (by decide)))
  have F_maxNumOffsets := F_maxNumOffsets.other W5 (Or.inr (slot_ne (Or.inr (hw _ (List.mem_of_getElem? (i := 16) rfl))) (Or.inr (hw _ (List.mem_of_getElem? (i := 12) rfl))) (by decide) (t := .int) (t' := .int) (by decide) (by decide)))
  have Zs6 := Nat.le_trans Zs3 (Keep.of_wr W5).1
  have Kp7 := Kp4.wr W5 (Or.inl (List.mem_of_getElem? (i := 0) rfl))
  refine Go.st (S' := T5.setTop (mkF m 14 #[.val (.ref a0), .val (.int p1), .val (.int p2), .val (.long q3), .second, .val (.int p4)] [])) st5 ?_
  refine Go.st (S' := T5.setTop (mkF m 15 #[.val (.ref a0), .val (.int p1), .val (.int p2), .val (.long q3), .second, .val (.int p4)] [(.ref a0)])) (fun _ kk => XS.aloadN X5.here hx rfl (hb hby d1_14) rfl rfl kk) ?_
  refine Go.st (S' := T5.setTop (mkF m 16 #[.val (.ref a0), .val (.int p1), .val (.int p2), .val (.long q3), .second, .val (.int p4)] [(.long q3), (.ref a0)])) (fun _ kk => XS.lloadN X5.here hx rfl (hb hby d1_15) rfl kk) ?_
  obtain ⟨T8, h8, X8, e8, W8, st8⟩ := putF X5 hx hZ hown (host := "") (Or.inl (hw _ (List.mem_of_getElem? (i := 13) rfl))) Via.refl e5 F_timestamp E_a0 (Or.inr ⟨(hw _ (List.mem_of_getElem? (i := 14) rfl)), rfl, hnm⟩) (hw _ (List.mem_of_getElem? (i := 1) rfl)) (ty := .long) (by decide) rfl rfl (g := (mkF m 16 #[.val (.ref a0), .val (.int p1), .val (.int p2), .val (.long q3), .second, .val (.int p4)] [(.long q3), (.ref a0)])) rfl rfl (hb hby d1_16)
  have N8 := Fr.snoc X8 N5 g_a0
  have F_timestamp := F_timestamp.same W8
  have E_a0 := E_a0.wr W8
  have F_partitionIndex := F_partitionIndex.other W8 (Or.inr (slot_ne (Or.inr (hw _ (List.mem_of_getElem? (i := 10) rfl))) (Or.inr (hw _ (List.mem_of_getElem? (i := 14) rfl))) (by decide) (t := .int) (t' := .long) (by decide) (by decide)))
  have F_currentLeaderEpoch := F_currentLeaderEpoch.other W8 (Or.inr (slot_ne (Or.inr (hw _ (List.mem_of_getElem? (i := 12) rfl))) (Or.inr (hw _ (List.mem_of_getElem? (i := 14) rfl))) (by decide) (t := .int) (t' := .long) (by decide) (by decide)))
  have F_maxNumOffsets := F_maxNumOffsets.other W8 (Or.inr (slot_ne (Or.inr (hw _ (List.mem_of_getElem? (i := 16) rfl))) (Or.inr (hw _ (List.mem_of_getElem? (i := 14) rfl))) (by decide) (t := .int) (t' := .long) (by decide) (by decide)))
  have Zs9 := Nat.le_trans Zs6 (Keep.of_wr W8).1
  have Kp10 := Kp7.wr W8 (Or.inl (List.mem_of_getElem? (i := 0) rfl))
  refine Go.st (S' := T8.setTop (mkF m 19 #[.val (.ref a0), .val (.int p1), .val (.int p2), .val (.long q3), .second, .val (.int p4)] [])) st8 ?_
  refine Go.st (S' := T8.setTop (mkF m 20 #[.val (.ref a0), .val (.int p1), .val (.int p2), .val (.long q3), .second, .val (.int p4)] [(.ref a0)])) (fun _ kk => XS.aloadN X8.here hx rfl (hb hby d1_19) rfl rfl kk) ?_
  refine Go.st (S' := T8.setTop (mkF m 22 #[.val (.ref a0), .val (.int p1), .val (.int p2), .val (.long q3), .second, .val (.int p4)] [(.int p4), (.ref a0)])) (fun _ kk => XS.iload X8.here hx rfl (hb hby d1_20) rfl kk) ?_
  obtain ⟨T11, h11, X11, e11, W11, st11⟩ := putF X8 hx hZ hown (host := "") (Or.inl (hw _ (List.mem_of_getElem? (i := 15) rfl))) Via.refl e8 F_maxNumOffsets E_a0 (Or.inr ⟨(hw _ (List.mem_of_getElem? (i := 16) rfl)), rfl, hnm⟩) (hw _ (List.mem_of_getElem? (i := 1) rfl)) (ty := .int) (by decide) rfl rfl (g := (mkF m 22 #[.val (.ref a0), .val (.int p1), .val (.int p2), .val (.long q3), .second, .val (.int p4)] [(.int p4), (.ref a0)])) rfl rfl (hb hby d1_22)
  have N11 := Fr.snoc X11 N8 g_a0
  have F_maxNumOffsets := F_maxNumOffsets.same W11
  have E_a0 := E_a0.wr W11
  have F_partitionIndex := F_partitionIndex.other W11 (Or.inr (slot_ne (Or.inr (hw _ (List.mem_of_getElem? (i := 10) rfl))) (Or.inr (hw _ (List.mem_of_getElem? (i := 16) rfl))) (by decide) (t := .int) (t' := .int) (by decide) (by decide)))
  have F_currentLeaderEpoch := F_currentLeaderEpoch.other W11 (Or.inr (slot_ne (Or.inr (hw _ (List.mem_of_getElem? (i := 12) rfl))) (Or.inr (hw _ (List.mem_of_getElem? (i := 16) rfl))) (by decide) (t := .int) (t' := .int) (by decide) (by decide)))
  have F_timestamp := F_timestamp.other W11 (Or.inr (slot_ne (Or.inr (hw _ (List.mem_of_getElem? (i := 14) rfl))) (Or.inr (hw _ (List.mem_of_getElem? (i := 16) rfl))) (by decide) (t := .long) (t' := .int) (by decide) (by decide)))
  have Zs12 := Nat.le_trans Zs9 (Keep.of_wr W11).1
  have Kp13 := Kp10.wr W11 (Or.inl (List.mem_of_getElem? (i := 0) rfl))
  refine Go.st (S' := T11.setTop (mkF m 25 #[.val (.ref a0), .val (.int p1), .val (.int p2), .val (.long q3), .second, .val (.int p4)] [])) st11 ?_
  exact Go.ret0 X11 hx hlk Bd.returns (hb hby d1_25) (by rw [e11]; exact ⟨rfl, N11, Kp13, E_a0, F_partitionIndex, F_currentLeaderEpoch, F_timestamp, F_maxNumOffsets⟩) (by decide) (by decide)
def fEq (x00 : Int32) (x01 : Int32) (x02 : Int64) (x03 : Int32) (x10 : Int32) (x11 : Int32) (x12 : Int64) (x13 : Int32) : Int32 := (if x00 = x10 then (if x01 = x11 then (if x02 = x12 then (if x03 = x13 then (1 : Int32) else (0 : Int32)) else (0 : Int32)) else (0 : Int32)) else (0 : Int32))
theorem d3_0 : decode prog_67_method_6_code 0 = .ok (.aload_n 1, 1) := by decide +kernel
theorem d3_1 : decode prog_67_method_6_code 1 = .ok (.instanceof 8, 3) := by decide +kernel
theorem d3_4 : decode prog_67_method_6_code 4 = .ok (.ifCond .eq 11, 3) := by decide +kernel
theorem d3_7 : decode prog_67_method_6_code 7 = .ok (.aload_n 1, 1) := by decide +kernel
theorem d3_8 : decode prog_67_method_6_code 8 = .ok (.checkcast 8, 3) := by decide +kernel
theorem d3_11 : decode prog_67_method_6_code 11 = .ok (.astore_n 2, 1) := by decide +kernel
theorem d3_12 : decode prog_67_method_6_code 12 = .ok (.goto 5, 3) := by decide +kernel
theorem d3_15 : decode prog_67_method_6_code 15 = .ok (.iconst 0, 1) := by decide +kernel
theorem d3_16 : decode prog_67_method_6_code 16 = .ok (.ireturn, 1) := by decide +kernel
theorem d3_17 : decode prog_67_method_6_code 17 = .ok (.aload_n 0, 1) := by decide +kernel
theorem d3_18 : decode prog_67_method_6_code 18 = .ok (.getfield 7, 3) := by decide +kernel
theorem d3_21 : decode prog_67_method_6_code 21 = .ok (.aload_n 2, 1) := by decide +kernel
theorem d3_22 : decode prog_67_method_6_code 22 = .ok (.getfield 7, 3) := by decide +kernel
theorem d3_25 : decode prog_67_method_6_code 25 = .ok (.if_icmp .ne 41, 3) := by decide +kernel
theorem d3_28 : decode prog_67_method_6_code 28 = .ok (.aload_n 0, 1) := by decide +kernel
theorem d3_29 : decode prog_67_method_6_code 29 = .ok (.getfield 13, 3) := by decide +kernel
theorem d3_32 : decode prog_67_method_6_code 32 = .ok (.aload_n 2, 1) := by decide +kernel
theorem d3_33 : decode prog_67_method_6_code 33 = .ok (.getfield 13, 3) := by decide +kernel
theorem d3_36 : decode prog_67_method_6_code 36 = .ok (.if_icmp .ne 30, 3) := by decide +kernel
theorem d3_39 : decode prog_67_method_6_code 39 = .ok (.aload_n 0, 1) := by decide +kernel
theorem d3_40 : decode prog_67_method_6_code 40 = .ok (.getfield 16, 3) := by decide +kernel
theorem d3_43 : decode prog_67_method_6_code 43 = .ok (.aload_n 2, 1) := by decide +kernel
theorem d3_44 : decode prog_67_method_6_code 44 = .ok (.getfield 16, 3) := by decide +kernel
theorem d3_47 : decode prog_67_method_6_code 47 = .ok (.lcmp, 1) := by decide +kernel
theorem d3_48 : decode prog_67_method_6_code 48 = .ok (.ifCond .ne 18, 3) := by decide +kernel
theorem d3_51 : decode prog_67_method_6_code 51 = .ok (.aload_n 0, 1) := by decide +kernel
theorem d3_52 : decode prog_67_method_6_code 52 = .ok (.getfield 20, 3) := by decide +kernel
theorem d3_55 : decode prog_67_method_6_code 55 = .ok (.aload_n 2, 1) := by decide +kernel
theorem d3_56 : decode prog_67_method_6_code 56 = .ok (.getfield 20, 3) := by decide +kernel
theorem d3_59 : decode prog_67_method_6_code 59 = .ok (.if_icmp .ne 7, 3) := by decide +kernel
theorem d3_62 : decode prog_67_method_6_code 62 = .ok (.iconst 1, 1) := by decide +kernel
theorem d3_63 : decode prog_67_method_6_code 63 = .ok (.goto 4, 3) := by decide +kernel
theorem d3_66 : decode prog_67_method_6_code 66 = .ok (.iconst 0, 1) := by decide +kernel
theorem d3_67 : decode prog_67_method_6_code 67 = .ok (.ireturn, 1) := by decide +kernel
theorem ef_3 (m : MethodId) (a0 : Addr) (a1 : Addr) : entryFrame m #[(.ref a0), (.ref a1)] 3 = mkF m 0 #[.val (.ref a0), .val (.ref a1), .unset] [] := by first | (simp [entryFrame, mkF, argsToLocals, Value.category]; done) | rfl
set_option maxRecDepth 65536 in
set_option maxHeartbeats 40000000 in
theorem rmEq (l : Launch) (Z : State) (az : Array Value) (hw : ∀ d ∈ tables_1, d.before az Z = true) (ws : List Jvm.Cond) (a0 : Addr) (a1 : Addr) (x00 : Int32) (x01 : Int32) (x02 : Int64) (x03 : Int32) (x10 : Int32) (x11 : Int32) (x12 : Int64) (x13 : Int32) (h0 : Heap) (n0 : Nat) (Z0 : n0 ≤ h0.size) (E_a0 : Exa Z h0 a0 "com/example/offset_lookup/offsetlookup/protocol/ListOffsetsRequest$Partition") (F_a0_partitionIndex : Fld Z h0 a0 "com/example/offset_lookup/offsetlookup/protocol/ListOffsetsRequest$Partition" "partitionIndex" "I" (.int x00)) (F_a0_currentLeaderEpoch : Fld Z h0 a0 "com/example/offset_lookup/offsetlookup/protocol/ListOffsetsRequest$Partition" "currentLeaderEpoch" "I" (.int x01)) (F_a0_timestamp : Fld Z h0 a0 "com/example/offset_lookup/offsetlookup/protocol/ListOffsetsRequest$Partition" "timestamp" "J" (.long x02)) (F_a0_maxNumOffsets : Fld Z h0 a0 "com/example/offset_lookup/offsetlookup/protocol/ListOffsetsRequest$Partition" "maxNumOffsets" "I" (.int x03)) (E_a1 : Exa Z h0 a1 "com/example/offset_lookup/offsetlookup/protocol/ListOffsetsRequest$Partition") (F_a1_partitionIndex : Fld Z h0 a1 "com/example/offset_lookup/offsetlookup/protocol/ListOffsetsRequest$Partition" "partitionIndex" "I" (.int x10)) (F_a1_currentLeaderEpoch : Fld Z h0 a1 "com/example/offset_lookup/offsetlookup/protocol/ListOffsetsRequest$Partition" "currentLeaderEpoch" "I" (.int x11)) (F_a1_timestamp : Fld Z h0 a1 "com/example/offset_lookup/offsetlookup/protocol/ListOffsetsRequest$Partition" "timestamp" "J" (.long x12)) (F_a1_maxNumOffsets : Fld Z h0 a1 "com/example/offset_lookup/offsetlookup/protocol/ListOffsetsRequest$Partition" "maxNumOffsets" "I" (.int x13)) :
    MetFree l (⟨"com/example/offset_lookup/offsetlookup/protocol/ListOffsetsRequest$Partition", "equals", "(Ljava/lang/Object;)Z"⟩ : MethodName) (head1 (Jvm.Cond.code (⟨"com/example/offset_lookup/offsetlookup/protocol/ListOffsetsRequest$Partition", "equals", "(Ljava/lang/Object;)Z"⟩ : MethodName) prog_67_method_6_code 3 (some .boolean) :: ws) ({ frames := 0, cells := 0, slots := 0, locals := 0 } : Room)) (fun a U => a = #[(.ref a0), (.ref a1)] ∧ Z.Warmed39 U.vm ∧ U.heap = h0) (fun _ _ _ _ _ => True) (fun _ U o U' => ∃ v L, o = .returned v ∧ (PQ (.int (fEq x00 x01 x02 x03 x10 x11 x12 x13)) n0 h0) v U'.heap L ∧ FrameEnd U o U' L ({ frames := 0, cells := 0, slots := 0, locals := 0 } : Room).cells ({ frames := 0, cells := 0, slots := 0, locals := 0 } : Room).slots) := by
  refine MetFree.of_bodySF (plainFor_of_name pn_2) hisR ?_
  intro p e s m args below meth c s₁ Bd hml0 hP hK
  obtain ⟨rfl, hZ, hh⟩ := hP
  have hx := Bd.exec
  have hby := Bd.bytes
  have hlk : meth.locks = false := Bd.notSynchronized
  have hml : c.maxLocals = 3 := hml0
  have hown : s.vm.findClass "com/example/offset_lookup/offsetlookup/protocol/ListOffsetsRequest$Partition" = some m.cls := findClass_of_methodNamed Bd.named
  have hnm := (name_of_methodNamed Bd.named Bd.method).1
  have X0 : Stand p l e ({ frames := 0, cells := 0, slots := 0, locals := 0 } : Room) s m #[(.ref a0), (.ref a1)] below meth c s₁ [] 0 0 := Stand.of_body Bd
  have e0 : s₁.heap = h0 := by rw [← hh, Bd.state]; rfl
  have N0 := Fr.nil n0
  show Go p e below s ((PQ (.int (fEq x00 x01 x02 x03 x10 x11 x12 x13)) n0 h0)) ({ frames := 0, cells := 0, slots := 0, locals := 0 } : Room).cells ({ frames := 0, cells := 0, slots := 0, locals := 0 } : Room).slots (s₁.setTop (entryFrame m #[(.ref a0), (.ref a1)] 3))
  rw [ef_3 m a0 a1]
  refine Go.st (S' := s₁.setTop (mkF m 1 #[.val (.ref a0), .val (.ref a1), .unset] [(.ref a1)])) (fun _ kk => XS.aloadN X0.here hx rfl (hb hby d3_0) rfl rfl kk) ?_
  obtain ⟨T1, X1, e1, st1⟩ := instY X0 hx hZ hown (hw _ (List.mem_of_getElem? (i := 22) rfl)) e0 (Ins.self E_a1) (g := (mkF m 1 #[.val (.ref a0), .val (.ref a1), .unset] [(.ref a1)])) rfl rfl (hb hby d3_1)
  refine Go.st (S' := T1.setTop (mkF m 4 #[.val (.ref a0), .val (.ref a1), .unset] [(.int (1 : Int32))])) st1 ?_
  refine Go.st (S' := T1.setTop (mkF m 7 #[.val (.ref a0), .val (.ref a1), .unset] [])) (fun _ kk => XS.ifNo X1.here hx rfl (hb hby d3_4) rfl ((if0 _ _).trans (feq (by decide : ¬ ((1 : Int32) = (0 : Int32)))).1) kk) ?_
  refine Go.st (S' := T1.setTop (mkF m 8 #[.val (.ref a0), .val (.ref a1), .unset] [(.ref a1)])) (fun _ kk => XS.aloadN X1.here hx rfl (hb hby d3_7) rfl rfl kk) ?_
  obtain ⟨T2, X2, e2, st2⟩ := castY X1 hx hZ hown (hw _ (List.mem_of_getElem? (i := 22) rfl)) e1 (Ins.self E_a1) (g := (mkF m 8 #[.val (.ref a0), .val (.ref a1), .unset] [(.ref a1)])) rfl rfl (hb hby d3_8)
  refine Go.st (S' := T2.setTop (mkF m 11 #[.val (.ref a0), .val (.ref a1), .unset] [(.ref a1)])) st2 ?_
  refine Go.st (S' := T2.setTop (mkF m 12 #[.val (.ref a0), .val (.ref a1), .val (.ref a1)] [])) (fun _ kk => XS.astoreN X2.here hx rfl (hb hby d3_11) rfl rfl (l' := #[.val (.ref a0), .val (.ref a1), .val (.ref a1)]) rfl kk) ?_
  refine Go.st (S' := T2.setTop (mkF m 17 #[.val (.ref a0), .val (.ref a1), .val (.ref a1)] [])) (fun _ kk => XS.goto X2.here hx rfl (pc0 := 12) (pc' := 17) rfl (hb hby d3_12) (by decide) (by decide) kk) ?_
  refine Go.st (S' := T2.setTop (mkF m 18 #[.val (.ref a0), .val (.ref a1), .val (.ref a1)] [(.ref a0)])) (fun _ kk => XS.aloadN X2.here hx rfl (hb hby d3_17) rfl rfl kk) ?_
  obtain ⟨T3, X3, e3, st3⟩ := getF X2 hx hZ hown (host := "") (Or.inl (hw _ (List.mem_of_getElem? (i := 9) rfl))) Via.refl e2 F_a0_partitionIndex (g := (mkF m 18 #[.val (.ref a0), .val (.ref a1), .val (.ref a1)] [(.ref a0)])) rfl rfl (hb hby d3_18)
  refine Go.st (S' := T3.setTop (mkF m 21 #[.val (.ref a0), .val (.ref a1), .val (.ref a1)] [(.int x00)])) st3 ?_
  refine Go.st (S' := T3.setTop (mkF m 22 #[.val (.ref a0), .val (.ref a1), .val (.ref a1)] [(.ref a1), (.int x00)])) (fun _ kk => XS.aloadN X3.here hx rfl (hb hby d3_21) rfl rfl kk) ?_
  obtain ⟨T4, X4, e4, st4⟩ := getF X3 hx hZ hown (host := "") (Or.inl (hw _ (List.mem_of_getElem? (i := 9) rfl))) Via.refl e3 F_a1_partitionIndex (g := (mkF m 22 #[.val (.ref a0), .val (.ref a1), .val (.ref a1)] [(.ref a1), (.int x00)])) rfl rfl (hb hby d3_22)
  refine Go.st (S' := T4.setTop (mkF m 25 #[.val (.ref a0), .val (.ref a1), .val (.ref a1)] [(.int x10), (.int x00)])) st4 ?_
  by_cases hc5 : x00 = x10
  · refine Go.st (S' := T4.setTop (mkF m 28 #[.val (.ref a0), .val (.ref a1), .val (.ref a1)] [])) (fun _ kk => XS.icmpNo X4.here hx rfl (hb hby d3_25) rfl (teq hc5).2 kk) ?_
    refine Go.st (S' := T4.setTop (mkF m 29 #[.val (.ref a0), .val (.ref a1), .val (.ref a1)] [(.ref a0)])) (fun _ kk => XS.aloadN X4.here hx rfl (hb hby d3_28) rfl rfl kk) ?_
    obtain ⟨T6, X6, e6, st6⟩ := getF X4 hx hZ hown (host := "") (Or.inl (hw _ (List.mem_of_getElem? (i := 11) rfl))) Via.refl e4 F_a0_currentLeaderEpoch (g := (mkF m 29 #[.val (.ref a0), .val (.ref a1), .val (.ref a1)] [(.ref a0)])) rfl rfl (hb hby d3_29)
    refine Go.st (S' := T6.setTop (mkF m 32 #[.val (.ref a0), .val (.ref a1), .val (.ref a1)] [(.int x01)])) st6 ?_
    refine Go.st (S' := T6.setTop (mkF m 33 #[.val (.ref a0), .val (.ref a1), .val (.ref a1)] [(.ref a1), (.int x01)])) (fun _ kk => XS.aloadN X6.here hx rfl (hb hby d3_32) rfl rfl kk) ?_
    obtain ⟨T7, X7, e7, st7⟩ := getF X6 hx hZ hown (host := "") (Or.inl (hw _ (List.mem_of_getElem? (i := 11) rfl))) Via.refl e6 F_a1_currentLeaderEpoch (g := (mkF m 33 #[.val (.ref a0), .val (.ref a1), .val (.ref a1)] [(.ref a1), (.int x01)])) rfl rfl (hb hby d3_33)
    refine Go.st (S' := T7.setTop (mkF m 36 #[.val (.ref a0), .val (.ref a1), .val (.ref a1)] [(.int x11), (.int x01)])) st7 ?_
    by_cases hc8 : x01 = x11
    · refine Go.st (S' := T7.setTop (mkF m 39 #[.val (.ref a0), .val (.ref a1), .val (.ref a1)] [])) (fun _ kk => XS.icmpNo X7.here hx rfl (hb hby d3_36) rfl (teq hc8).2 kk) ?_
      refine Go.st (S' := T7.setTop (mkF m 40 #[.val (.ref a0), .val (.ref a1), .val (.ref a1)] [(.ref a0)])) (fun _ kk => XS.aloadN X7.here hx rfl (hb hby d3_39) rfl rfl kk) ?_
      obtain ⟨T9, X9, e9, st9⟩ := getF X7 hx hZ hown (host := "") (Or.inl (hw _ (List.mem_of_getElem? (i := 13) rfl))) Via.refl e7 F_a0_timestamp (g := (mkF m 40 #[.val (.ref a0), .val (.ref a1), .val (.ref a1)] [(.ref a0)])) rfl rfl (hb hby d3_40)
      refine Go.st (S' := T9.setTop (mkF m 43 #[.val (.ref a0), .val (.ref a1), .val (.ref a1)] [(.long x02)])) st9 ?_
      refine Go.st (S' := T9.setTop (mkF m 44 #[.val (.ref a0), .val (.ref a1), .val (.ref a1)] [(.ref a1), (.long x02)])) (fun _ kk => XS.aloadN X9.here hx rfl (hb hby d3_43) rfl rfl kk) ?_
      obtain ⟨T10, X10, e10, st10⟩ := getF X9 hx hZ hown (host := "") (Or.inl (hw _ (List.mem_of_getElem? (i := 13) rfl))) Via.refl e9 F_a1_timestamp (g := (mkF m 44 #[.val (.ref a0), .val (.ref a1), .val (.ref a1)] [(.ref a1), (.long x02)])) rfl rfl (hb hby d3_44)
      refine Go.st (S' := T10.setTop (mkF m 47 #[.val (.ref a0), .val (.ref a1), .val (.ref a1)] [(.long x12), (.long x02)])) st10 ?_
      refine Go.st (S' := T10.setTop (mkF m 48 #[.val (.ref a0), .val (.ref a1), .val (.ref a1)] [(.int (lcmpW x02 x12))])) (fun _ kk => XS.lcmp X10.here hx rfl (hb hby d3_47) rfl kk) ?_
      by_cases hc11 : x02 = x12
      · refine Go.st (S' := T10.setTop (mkF m 51 #[.val (.ref a0), .val (.ref a1), .val (.ref a1)] [])) (fun _ kk => XS.ifNo X10.here hx rfl (hb hby d3_48) rfl ((if0 _ _).trans (teq ((lw_eq x02 x12).mpr hc11)).2) kk) ?_
        refine Go.st (S' := T10.setTop (mkF m 52 #[.val (.ref a0), .val (.ref a1), .val (.ref a1)] [(.ref a0)])) (fun _ kk => XS.aloadN X10.here hx rfl (hb hby d3_51) rfl rfl kk) ?_
        obtain ⟨T12, X12, e12, st12⟩ := getF X10 hx hZ hown (host := "") (Or.inl (hw _ (List.mem_of_getElem? (i := 15) rfl))) Via.refl e10 F_a0_maxNumOffsets (g := (mkF m 52 #[.val (.ref a0), .val (.ref a1), .val (.ref a1)] [(.ref a0)])) rfl rfl (hb hby d3_52)
        refine Go.st (S' := T12.setTop (mkF m 55 #[.val (.ref a0), .val (.ref a1), .val (.ref a1)] [(.int x03)])) st12 ?_
        refine Go.st (S' := T12.setTop (mkF m 56 #[.val (.ref a0), .val (.ref a1), .val (.ref a1)] [(.ref a1), (.int x03)])) (fun _ kk => XS.aloadN X12.here hx rfl (hb hby d3_55) rfl rfl kk) ?_
        obtain ⟨T13, X13, e13, st13⟩ := getF X12 hx hZ hown (host := "") (Or.inl (hw _ (List.mem_of_getElem? (i := 15) rfl))) Via.refl e12 F_a1_maxNumOffsets (g := (mkF m 56 #[.val (.ref a0), .val (.ref a1), .val (.ref a1)] [(.ref a1), (.int x03)])) rfl rfl (hb hby d3_56)
        refine Go.st (S' := T13.setTop (mkF m 59 #[.val (.ref a0), .val (.ref a1), .val (.ref a1)] [(.int x13), (.int x03)])) st13 ?_
        by_cases hc14 : x03 = x13
        · refine Go.st (S' := T13.setTop (mkF m 62 #[.val (.ref a0), .val (.ref a1), .val (.ref a1)] [])) (fun _ kk => XS.icmpNo X13.here hx rfl (hb hby d3_59) rfl (teq hc14).2 kk) ?_
          refine Go.st (S' := T13.setTop (mkF m 63 #[.val (.ref a0), .val (.ref a1), .val (.ref a1)] [(.int (1 : Int32))])) (fun _ kk => XS.iconst X13.here hx rfl (hb hby d3_62) kk) ?_
          refine Go.st (S' := T13.setTop (mkF m 67 #[.val (.ref a0), .val (.ref a1), .val (.ref a1)] [(.int (1 : Int32))])) (fun _ kk => XS.goto X13.here hx rfl (pc0 := 63) (pc' := 67) rfl (hb hby d3_63) (by decide) (by decide) kk) ?_
          exact Go.retN X13 hx hlk (t := .boolean) Bd.returns (by simp) (hb hby d3_67) (⟨congrArg (fun q => some (Value.int q)) (Eq.symm (show fEq x00 x01 x02 x03 x10 x11 x12 x13 = (1 : Int32) from by unfold fEq; rw [if_pos hc5, if_pos hc8, if_pos hc11, if_pos hc14])), N0, e13⟩) (by decide) (by decide)
        · refine Go.st (S' := T13.setTop (mkF m 66 #[.val (.ref a0), .val (.ref a1), .val (.ref a1)] [])) (fun _ kk => XS.icmpYes X13.here hx rfl (pc0 := 59) (pc' := 66) rfl (hb hby d3_59) rfl (feq hc14).2 (by decide) (by decide) kk) ?_
          refine Go.st (S' := T13.setTop (mkF m 67 #[.val (.ref a0), .val (.ref a1), .val (.ref a1)] [(.int (0 : Int32))])) (fun _ kk => XS.iconst X13.here hx rfl (hb hby d3_66) kk) ?_
          exact Go.retN X13 hx hlk (t := .boolean) Bd.returns (by simp) (hb hby d3_67) (⟨congrArg (fun q => some (Value.int q)) (Eq.symm (show fEq x00 x01 x02 x03 x10 x11 x12 x13 = (0 : Int32) from by unfold fEq; rw [if_pos hc5, if_pos hc8, if_pos hc11, if_neg hc14])), N0, e13⟩) (by decide) (by decide)
      · refine Go.st (S' := T10.setTop (mkF m 66 #[.val (.ref a0), .val (.ref a1), .val (.ref a1)] [])) (fun _ kk => XS.ifYes X10.here hx rfl (pc0 := 48) (pc' := 66) rfl (hb hby d3_48) rfl ((if0 _ _).trans (feq (fun q => hc11 ((lw_eq x02 x12).mp q))).2) (by decide) (by decide) kk) ?_
        refine Go.st (S' := T10.setTop (mkF m 67 #[.val (.ref a0), .val (.ref a1), .val (.ref a1)] [(.int (0 : Int32))])) (fun _ kk => XS.iconst X10.here hx rfl (hb hby d3_66) kk) ?_
        exact Go.retN X10 hx hlk (t := .boolean) Bd.returns (by simp) (hb hby d3_67) (⟨congrArg (fun q => some (Value.int q)) (Eq.symm (show fEq x00 x01 x02 x03 x10 x11 x12 x13 = (0 : Int32) from by unfold fEq; rw [if_pos hc5, if_pos hc8, if_neg hc11])), N0, e10⟩) (by decide) (by decide)
    · refine Go.st (S' := T7.setTop (mkF m 66 #[.val (.ref a0), .val (.ref a1), .val (.ref a1)] [])) (fun _ kk => XS.icmpYes X7.here hx rfl (pc0 := 36) (pc' := 66) rfl (hb hby d3_36) rfl (feq hc8).2 (by decide) (by decide) kk) ?_
      refine Go.st (S' := T7.setTop (mkF m 67 #[.val (.ref a0), .val (.ref a1), .val (.ref a1)] [(.int (0 : Int32))])) (fun _ kk => XS.iconst X7.here hx rfl (hb hby d3_66) kk) ?_
      exact Go.retN X7 hx hlk (t := .boolean) Bd.returns (by simp) (hb hby d3_67) (⟨congrArg (fun q => some (Value.int q)) (Eq.symm (show fEq x00 x01 x02 x03 x10 x11 x12 x13 = (0 : Int32) from by unfold fEq; rw [if_pos hc5, if_neg hc8])), N0, e7⟩) (by decide) (by decide)
  · refine Go.st (S' := T4.setTop (mkF m 66 #[.val (.ref a0), .val (.ref a1), .val (.ref a1)] [])) (fun _ kk => XS.icmpYes X4.here hx rfl (pc0 := 25) (pc' := 66) rfl (hb hby d3_25) rfl (feq hc5).2 (by decide) (by decide) kk) ?_
    refine Go.st (S' := T4.setTop (mkF m 67 #[.val (.ref a0), .val (.ref a1), .val (.ref a1)] [(.int (0 : Int32))])) (fun _ kk => XS.iconst X4.here hx rfl (hb hby d3_66) kk) ?_
    exact Go.retN X4 hx hlk (t := .boolean) Bd.returns (by simp) (hb hby d3_67) (⟨congrArg (fun q => some (Value.int q)) (Eq.symm (show fEq x00 x01 x02 x03 x10 x11 x12 x13 = (0 : Int32) from by unfold fEq; rw [if_neg hc5])), N0, e4⟩) (by decide) (by decide)
theorem ef_3n1 (m : MethodId) (a0 : Addr) : entryFrame m #[(.ref a0), .null] 3 = mkF m 0 #[.val (.ref a0), .val .null, .unset] [] := by first | (simp [entryFrame, mkF, argsToLocals, Value.category]; done) | rfl
set_option maxRecDepth 65536 in
set_option maxHeartbeats 40000000 in
theorem rmEqN (l : Launch) (Z : State) (az : Array Value) (hw : ∀ d ∈ tables_1, d.before az Z = true) (ws : List Jvm.Cond) (a0 : Addr)  (h0 : Heap) (n0 : Nat) (Z0 : n0 ≤ h0.size)  :
    MetFree l (⟨"com/example/offset_lookup/offsetlookup/protocol/ListOffsetsRequest$Partition", "equals", "(Ljava/lang/Object;)Z"⟩ : MethodName) (head1 (Jvm.Cond.code (⟨"com/example/offset_lookup/offsetlookup/protocol/ListOffsetsRequest$Partition", "equals", "(Ljava/lang/Object;)Z"⟩ : MethodName) prog_67_method_6_code 3 (some .boolean) :: ws) ({ frames := 0, cells := 0, slots := 0, locals := 0 } : Room)) (fun a U => a = #[(.ref a0), .null] ∧ Z.Warmed39 U.vm ∧ U.heap = h0) (fun _ _ _ _ _ => True) (fun _ U o U' => ∃ v L, o = .returned v ∧ (PQ (.int 0) n0 h0) v U'.heap L ∧ FrameEnd U o U' L ({ frames := 0, cells := 0, slots := 0, locals := 0 } : Room).cells ({ frames := 0, cells := 0, slots := 0, locals := 0 } : Room).slots) := by
  refine MetFree.of_bodySF (plainFor_of_name pn_2) hisR ?_
  intro p e s m args below meth c s₁ Bd hml0 hP hK
  obtain ⟨rfl, hZ, hh⟩ := hP
  have hx := Bd.exec
  have hby := Bd.bytes
  have hlk : meth.locks = false := Bd.notSynchronized
  have hml : c.maxLocals = 3 := hml0
  have hown : s.vm.findClass "com/example/offset_lookup/offsetlookup/protocol/ListOffsetsRequest$Partition" = some m.cls := findClass_of_methodNamed Bd.named
  have hnm := (name_of_methodNamed Bd.named Bd.method).1
  have X0 : Stand p l e ({ frames := 0, cells := 0, slots := 0, locals := 0 } : Room) s m #[(.ref a0), .null] below meth c s₁ [] 0 0 := Stand.of_body Bd
  have e0 : s₁.heap = h0 := by rw [← hh, Bd.state]; rfl
  have N0 := Fr.nil n0
  show Go p e below s ((PQ (.int 0) n0 h0)) ({ frames := 0, cells := 0, slots := 0, locals := 0 } : Room).cells ({ frames := 0, cells := 0, slots := 0, locals := 0 } : Room).slots (s₁.setTop (entryFrame m #[(.ref a0), .null] 3))
  rw [ef_3n1 m a0]
  refine Go.st (S' := s₁.setTop (mkF m 1 #[.val (.ref a0), .val .null, .unset] [.null])) (fun _ kk => XS.aloadN X0.here hx rfl (hb hby d3_0) rfl rfl kk) ?_
  refine Go.st (S' := s₁.setTop (mkF m 4 #[.val (.ref a0), .val .null, .unset] [(.int (0 : Int32))])) (fun _ kk => X0.instanceofNull hx (g := (mkF m 1 #[.val (.ref a0), .val .null, .unset] [.null])) rfl rfl (hb hby d3_1) _ kk) ?_
  refine Go.st (S' := s₁.setTop (mkF m 15 #[.val (.ref a0), .val .null, .unset] [])) (fun _ kk => XS.ifYes X0.here hx rfl (pc0 := 4) (pc' := 15) rfl (hb hby d3_4) rfl ((if0 _ _).trans (teq (by decide : (0 : Int32) = (0 : Int32))).1) (by decide) (by decide) kk) ?_
  refine Go.st (S' := s₁.setTop (mkF m 16 #[.val (.ref a0), .val .null, .unset] [(.int (0 : Int32))])) (fun _ kk => XS.iconst X0.here hx rfl (hb hby d3_15) kk) ?_
  exact Go.retN X0 hx hlk (t := .boolean) Bd.returns (by simp) (hb hby d3_16) (⟨rfl, N0, e0⟩) (by decide) (by decide)
set_option maxRecDepth 65536 in
set_option maxHeartbeats 40000000 in
theorem rmEqL (l : Launch) (Z : State) (az : Array Value) (hw : ∀ d ∈ tables_1, d.before az Z = true) (ws : List Jvm.Cond) (a0 : Addr) (a1 : Addr)  (h0 : Heap) (n0 : Nat) (Z0 : n0 ≤ h0.size) (E_a1 : Exa Z h0 a1 "java/lang/Long") :
    MetFree l (⟨"com/example/offset_lookup/offsetlookup/protocol/ListOffsetsRequest$Partition", "equals", "(Ljava/lang/Object;)Z"⟩ : MethodName) (head1 (Jvm.Cond.code (⟨"com/example/offset_lookup/offsetlookup/protocol/ListOffsetsRequest$Partition", "equals", "(Ljava/lang/Object;)Z"⟩ : MethodName) prog_67_method_6_code 3 (some .boolean) :: ws) ({ frames := 0, cells := 0, slots := 0, locals := 0 } : Room)) (fun a U => a = #[(.ref a0), (.ref a1)] ∧ Z.Warmed39 U.vm ∧ U.heap = h0) (fun _ _ _ _ _ => True) (fun _ U o U' => ∃ v L, o = .returned v ∧ (PQ (.int 0) n0 h0) v U'.heap L ∧ FrameEnd U o U' L ({ frames := 0, cells := 0, slots := 0, locals := 0 } : Room).cells ({ frames := 0, cells := 0, slots := 0, locals := 0 } : Room).slots) := by
  refine MetFree.of_bodySF (plainFor_of_name pn_2) hisR ?_
  intro p e s m args below meth c s₁ Bd hml0 hP hK
  obtain ⟨rfl, hZ, hh⟩ := hP
  have hx := Bd.exec
  have hby := Bd.bytes
  have hlk : meth.locks = false := Bd.notSynchronized
  have hml : c.maxLocals = 3 := hml0
  have hown : s.vm.findClass "com/example/offset_lookup/offsetlookup/protocol/ListOffsetsRequest$Partition" = some m.cls := findClass_of_methodNamed Bd.named
  have hnm := (name_of_methodNamed Bd.named Bd.method).1
  have X0 : Stand p l e ({ frames := 0, cells := 0, slots := 0, locals := 0 } : Room) s m #[(.ref a0), (.ref a1)] below meth c s₁ [] 0 0 := Stand.of_body Bd
  have e0 : s₁.heap = h0 := by rw [← hh, Bd.state]; rfl
  have N0 := Fr.nil n0
  show Go p e below s ((PQ (.int 0) n0 h0)) ({ frames := 0, cells := 0, slots := 0, locals := 0 } : Room).cells ({ frames := 0, cells := 0, slots := 0, locals := 0 } : Room).slots (s₁.setTop (entryFrame m #[(.ref a0), (.ref a1)] 3))
  rw [ef_3 m a0 a1]
  refine Go.st (S' := s₁.setTop (mkF m 1 #[.val (.ref a0), .val (.ref a1), .unset] [(.ref a1)])) (fun _ kk => XS.aloadN X0.here hx rfl (hb hby d3_0) rfl rfl kk) ?_
  obtain ⟨T1, X1, e1, st1⟩ := instNo X0 hx hZ hown (hw _ (List.mem_of_getElem? (i := 22) rfl)) e0 E_a1 (own_notlong hw) (g := (mkF m 1 #[.val (.ref a0), .val (.ref a1), .unset] [(.ref a1)])) rfl rfl (hb hby d3_1)
  refine Go.st (S' := T1.setTop (mkF m 4 #[.val (.ref a0), .val (.ref a1), .unset] [(.int (0 : Int32))])) st1 ?_
  refine Go.st (S' := T1.setTop (mkF m 15 #[.val (.ref a0), .val (.ref a1), .unset] [])) (fun _ kk => XS.ifYes X1.here hx rfl (pc0 := 4) (pc' := 15) rfl (hb hby d3_4) rfl ((if0 _ _).trans (teq (by decide : (0 : Int32) = (0 : Int32))).1) (by decide) (by decide) kk) ?_
  refine Go.st (S' := T1.setTop (mkF m 16 #[.val (.ref a0), .val (.ref a1), .unset] [(.int (0 : Int32))])) (fun _ kk => XS.iconst X1.here hx rfl (hb hby d3_15) kk) ?_
  exact Go.retN X1 hx hlk (t := .boolean) Bd.returns (by simp) (hb hby d3_16) (⟨rfl, N0, e1⟩) (by decide) (by decide)
theorem own_cache {args : Array Value} {s : State} (hs : ∀ d ∈ jdkStatics_1, d.before args s = true) : ∃ ca, Cache s s.heap ca := by
  have w0 := hs _ (List.mem_of_getElem? (i := 0) rfl)
  have w1 := hs _ (List.mem_of_getElem? (i := 1) rfl)
  have w2 := Cond.before_iff.mp (hs _ (List.mem_of_getElem? (i := 2) rfl))
  have w4 := Cond.before_iff.mp (hs _ (List.mem_of_getElem? (i := 4) rfl))
  have w5 := Cond.before_iff.mp (hs _ (List.mem_of_getElem? (i := 5) rfl))
  obtain ⟨ca, ev⟩ := arr_v w2
  obtain ⟨c, A⟩ := Arr.start ev w2
  have ha := A.fin (Vm.Alike.refl _)
  have sz : c.slots.size = 256 := own_size (own_len ev ha w4) (by decide)
  refine ⟨ca, Sta.start ev (Or.inl w1), c, A, sz, fun j hj => ?_⟩
  have q := Cond.all_elim ev ha w5 j (by rw [sz]; exact hj)
  obtain ⟨q1, -⟩ := and_e q
  obtain ⟨r, er⟩ := exa_v q1
  have hidx : (Term.index 0).eval args s none [j] s = some (.int j.toInt32) := Term.index_eval _
  have ev' : (Jvm.Term.static "java/lang/Long$LongCache" "cache" "[Ljava/lang/Long;").eval args s none [j] s = some (.ref ca) := ev
  have hin := elem_in er ev' hidx A.1
  refine ⟨r, ?_, exa_at er q1⟩
  have hq : j.toInt32.toNatClampNeg = j := by
    have := len_toInt (n := j) (by omega)
    simp only [Int32.toNatClampNeg, this]; omega
  rw [← hq]; exact hin.2
theorem pn_3 : plainName "com/example/offset_lookup/offsetlookup/protocol/PartitionEqualsPinLaw" = true := by first | (simp [plainName, overriddenIn]; done) | decide +kernel
theorem ef_0 (m : MethodId) (p0 : Int32) (p1 : Int32) (q2 : Int64) (p3 : Int32) (q4 : Int64) (p5 : Int32) : entryFrame m #[(.int p0), (.int p1), (.long q2), (.int p3), (.long q4), (.int p5)] maxLocals = mkF m 0 #[.val (.int p0), .val (.int p1), .val (.long q2), .second, .val (.int p3), .val (.long q4), .second, .val (.int p5), .unset, .unset, .unset, .unset, .unset, .unset, .unset, .unset, .unset, .unset] [] := by first | (simp [entryFrame, mkF, argsToLocals, Value.category, maxLocals]; done) | rfl
set_option maxRecDepth 65536 in
set_option maxHeartbeats 40000000 in
theorem rm0 (l : Launch) (Z : State) (az : Array Value) (hw : ∀ d ∈ tables_1, d.before az Z = true) (ws : List Jvm.Cond) (p0 : Int32) (p1 : Int32) (q2 : Int64) (p3 : Int32) (q4 : Int64) (p5 : Int32) (ca : Addr) (h0 : Heap) (n0 : Nat) (Z0 : n0 ≤ h0.size) (Ch : Cache Z Z.heap ca) (Od : Old Z n0 h0) :
    MetFree l x (head1 (Jvm.Cond.code x code maxLocals ret :: ws) room_1) (fun a U => a = #[(.int p0), (.int p1), (.long q2), (.int p3), (.long q4), (.int p5)] ∧ Z.Warmed39 U.vm ∧ U.heap = h0) (fun _ _ _ _ _ => True) (fun _ U o U' => ∃ v L, o = .returned v ∧ (LQ n0) v U'.heap L ∧ FrameEnd U o U' L room_1.cells room_1.slots) := by
  refine MetFree.of_bodySF (plainFor_of_name pn_3) hisR ?_
  intro p e s m args below meth c s₁ Bd hml0 hP hK
  obtain ⟨rfl, hZ, hh⟩ := hP
  have hx := Bd.exec
  have hby := Bd.bytes
  have hlk : meth.locks = false := Bd.notSynchronized
  have hml : c.maxLocals = 18 := hml0
  have hown : s.vm.findClass "com/example/offset_lookup/offsetlookup/protocol/PartitionEqualsPinLaw" = some m.cls := findClass_of_methodNamed Bd.named
  have hnm := (name_of_methodNamed Bd.named Bd.method).1
  have X0 : Stand p l e room_1 s m #[(.int p0), (.int p1), (.long q2), (.int p3), (.long q4), (.int p5)] below meth c s₁ [] 0 0 := Stand.of_body Bd
  have e0 : s₁.heap = h0 := by rw [← hh, Bd.state]; rfl
  have N0 := Fr.nil n0
  show Go p e below s ((LQ n0)) room_1.cells room_1.slots (s₁.setTop (entryFrame m #[(.int p0), (.int p1), (.long q2), (.int p3), (.long q4), (.int p5)] maxLocals))
  rw [ef_0 m p0 p1 q2 p3 q4 p5]
  obtain ⟨T1, h1, X1, e1, E1, A1, D1, -, st1⟩ := newO X0 hx hZ hown (hw _ (List.mem_of_getElem? (i := 0) rfl)) (hw _ (List.mem_of_getElem? (i := 1) rfl)) (hw _ (List.mem_of_getElem? (i := 2) rfl)) e0 (g := (mkF m 0 #[.val (.int p0), .val (.int p1), .val (.long q2), .second, .val (.int p3), .val (.long q4), .second, .val (.int p5), .unset, .unset, .unset, .unset, .unset, .unset, .unset, .unset, .unset, .unset] [])) rfl (hb hby at_0) (by decide : 0 + 1 ≤ _) (by decide : 0 + 4 ≤ _)
  obtain ⟨b1, g1⟩ : ∃ z, z = h0.size := ⟨_, rfl⟩
  rw [← g1] at A1 D1 st1
  have g_b1 : n0 ≤ b1 := Nat.le_trans Z0 (Nat.le_of_eq g1.symm)
  have Od := Od.ext E1
  have Zs2 := Nat.le_trans Z0 E1.1
  have E_b1 := A1
  have F_partitionIndex_b1 : Fld Z h1 b1 "com/example/offset_lookup/offsetlookup/protocol/ListOffsetsRequest$Partition" "partitionIndex" "I" (.int (0 : Int32)) := D1 (Or.inr (hw _ (List.mem_of_getElem? (i := 10) rfl))) (ty := .int) (by decide)
  have F_currentLeaderEpoch_b1 : Fld Z h1 b1 "com/example/offset_lookup/offsetlookup/protocol/ListOffsetsRequest$Partition" "currentLeaderEpoch" "I" (.int (0 : Int32)) := D1 (Or.inr (hw _ (List.mem_of_getElem? (i := 12) rfl))) (ty := .int) (by decide)
  have F_timestamp_b1 : Fld Z h1 b1 "com/example/offset_lookup/offsetlookup/protocol/ListOffsetsRequest$Partition" "timestamp" "J" (.long (0 : Int64)) := D1 (Or.inr (hw _ (List.mem_of_getElem? (i := 14) rfl))) (ty := .long) (by decide)
  have F_maxNumOffsets_b1 : Fld Z h1 b1 "com/example/offset_lookup/offsetlookup/protocol/ListOffsetsRequest$Partition" "maxNumOffsets" "I" (.int (0 : Int32)) := D1 (Or.inr (hw _ (List.mem_of_getElem? (i := 16) rfl))) (ty := .int) (by decide)
  refine Go.st (S' := T1.setTop (mkF m 3 #[.val (.int p0), .val (.int p1), .val (.long q2), .second, .val (.int p3), .val (.long q4), .second, .val (.int p5), .unset, .unset, .unset, .unset, .unset, .unset, .unset, .unset, .unset, .unset] [(.ref b1)])) st1 ?_
  refine Go.st (S' := T1.setTop (mkF m 4 #[.val (.int p0), .val (.int p1), .val (.long q2), .second, .val (.int p3), .val (.long q4), .second, .val (.int p5), .unset, .unset, .unset, .unset, .unset, .unset, .unset, .unset, .unset, .unset] [(.ref b1), (.ref b1)])) (fun _ kk => XS.dup X1.here hx rfl (hb hby at_3) rfl rfl kk) ?_
  refine Go.st (S' := T1.setTop (mkF m 5 #[.val (.int p0), .val (.int p1), .val (.long q2), .second, .val (.int p3), .val (.long q4), .second, .val (.int p5), .unset, .unset, .unset, .unset, .unset, .unset, .unset, .unset, .unset, .unset] [(.int p0), (.ref b1), (.ref b1)])) (fun _ kk => XS.iloadN X1.here hx rfl (hb hby at_4) rfl kk) ?_
  refine Go.st (S' := T1.setTop (mkF m 6 #[.val (.int p0), .val (.int p1), .val (.long q2), .second, .val (.int p3), .val (.long q4), .second, .val (.int p5), .unset, .unset, .unset, .unset, .unset, .unset, .unset, .unset, .unset, .unset] [(.int p1), (.int p0), (.ref b1), (.ref b1)])) (fun _ kk => XS.iloadN X1.here hx rfl (hb hby at_5) rfl kk) ?_
  refine Go.st (S' := T1.setTop (mkF m 7 #[.val (.int p0), .val (.int p1), .val (.long q2), .second, .val (.int p3), .val (.long q4), .second, .val (.int p5), .unset, .unset, .unset, .unset, .unset, .unset, .unset, .unset, .unset, .unset] [(.long q2), (.int p1), (.int p0), (.ref b1), (.ref b1)])) (fun _ kk => XS.lloadN X1.here hx rfl (hb hby at_6) rfl kk) ?_
  refine Go.st (S' := T1.setTop (mkF m 9 #[.val (.int p0), .val (.int p1), .val (.long q2), .second, .val (.int p3), .val (.long q4), .second, .val (.int p5), .unset, .unset, .unset, .unset, .unset, .unset, .unset, .unset, .unset, .unset] [(.int p3), (.long q2), (.int p1), (.int p0), (.ref b1), (.ref b1)])) (fun _ kk => XS.iload X1.here hx rfl (hb hby at_7) rfl kk) ?_
  obtain ⟨_, _, ⟨T3, L3, k3, n3⟩, -, X3, ⟨Lc3, hQ3, l3, y3, z3⟩, st3⟩ := X1.specialBack hx (y := (⟨"com/example/offset_lookup/offsetlookup/protocol/ListOffsetsRequest$Partition", "<init>", "(IIJI)V"⟩ : MethodName)) rfl hown (mvT hZ (hw _ (List.mem_of_getElem? (i := 3) rfl))) (mvT hZ (hw _ (List.mem_of_getElem? (i := 4) rfl))) (mvT hZ (hw _ (List.mem_of_getElem? (i := 5) rfl))) (by decide) (backOf (W := 1) (rmC l Z az hw [] b1 p0 p1 q2 p3 h1 n0 Zs2 E_b1 g_b1 F_partitionIndex_b1 F_currentLeaderEpoch_b1 F_timestamp_b1 F_maxNumOffsets_b1) hZ (hw _ (List.mem_of_getElem? (i := 5) rfl)) (hw _ (List.mem_of_getElem? (i := 2) rfl)) (by decide) (by decide)) (g := (mkF m 9 #[.val (.int p0), .val (.int p1), .val (.long q2), .second, .val (.int p3), .val (.long q4), .second, .val (.int p5), .unset, .unset, .unset, .unset, .unset, .unset, .unset, .unset, .unset, .unset] [(.int p3), (.long q2), (.int p1), (.int p0), (.ref b1), (.ref b1)])) rfl (by rw [hml]; rfl) (Steps.refl _) (a := b1) (argsL := [(.int p0), (.int p1), (.long q2), (.int p3)]) (rest := [(.ref b1)]) (lenOf pd_0 rfl) rfl (by show 2 * 0 + _ ≤ _; exact Nat.le_of_eq rfl) (hb hby at_9) (fun _ _ => ⟨rfl, e1, (by decide : 1 + 0 ≤ _), (by decide : 4 + 0 ≤ _)⟩)
  dsimp only [Pt.U, Pt.locs, Pt.cells, Pt.slots] at X3 l3 y3 z3 st3 hQ3
  subst l3 y3 z3
  obtain ⟨rfl, N3q, K3, Ec3, Fc3_0, Fc3_1, Fc3_2, Fc3_3⟩ := hQ3
  have N3 := Fr.app N0 N3q
  have Od := Od.keep K3 (allS g_b1 all0)
  have E_b1 := E_b1.keep K3
  have Zs4 := Nat.le_trans Zs2 K3.1
  refine Go.tr (S' := T3.setTop (mkF m 12 #[.val (.int p0), .val (.int p1), .val (.long q2), .second, .val (.int p3), .val (.long q4), .second, .val (.int p5), .unset, .unset, .unset, .unset, .unset, .unset, .unset, .unset, .unset, .unset] [(.ref b1)])) st3 ?_
  refine Go.st (S' := T3.setTop (mkF m 14 #[.val (.int p0), .val (.int p1), .val (.long q2), .second, .val (.int p3), .val (.long q4), .second, .val (.int p5), .val (.ref b1), .unset, .unset, .unset, .unset, .unset, .unset, .unset, .unset, .unset] [])) (fun _ kk => XS.astore X3.here hx rfl (hb hby at_12) rfl rfl (l' := #[.val (.int p0), .val (.int p1), .val (.long q2), .second, .val (.int p3), .val (.long q4), .second, .val (.int p5), .val (.ref b1), .unset, .unset, .unset, .unset, .unset, .unset, .unset, .unset, .unset]) rfl kk) ?_
  obtain ⟨a2, hj_a2⟩ : ∃ z : Int32, z = (if (p5 &&& (1 : Int32)) = (0 : Int32) then p0 else (p0 ^^^ (q4.toInt32))) := ⟨_, rfl⟩
  have stj5 : ∀ tq, Steps p.tables e below (T3.setTop (mkF m 30 #[.val (.int p0), .val (.int p1), .val (.long q2), .second, .val (.int p3), .val (.long q4), .second, .val (.int p5), .val (.ref b1), .unset, .unset, .unset, .unset, .unset, .unset, .unset, .unset, .unset] [(.int a2)])) tq → Steps p.tables e below (T3.setTop (mkF m 14 #[.val (.int p0), .val (.int p1), .val (.long q2), .second, .val (.int p3), .val (.long q4), .second, .val (.int p5), .val (.ref b1), .unset, .unset, .unset, .unset, .unset, .unset, .unset, .unset, .unset] [])) tq := by
    intro tq kj
    refine via (S' := T3.setTop (mkF m 16 #[.val (.int p0), .val (.int p1), .val (.long q2), .second, .val (.int p3), .val (.long q4), .second, .val (.int p5), .val (.ref b1), .unset, .unset, .unset, .unset, .unset, .unset, .unset, .unset, .unset] [(.int p5)])) (fun kk => XS.iload X3.here hx rfl (hb hby at_14) rfl kk) ?_
    refine via (S' := T3.setTop (mkF m 17 #[.val (.int p0), .val (.int p1), .val (.long q2), .second, .val (.int p3), .val (.long q4), .second, .val (.int p5), .val (.ref b1), .unset, .unset, .unset, .unset, .unset, .unset, .unset, .unset, .unset] [(.int (1 : Int32)), (.int p5)])) (fun kk => XS.iconst X3.here hx rfl (hb hby at_16) kk) ?_
    refine via (S' := T3.setTop (mkF m 18 #[.val (.int p0), .val (.int p1), .val (.long q2), .second, .val (.int p3), .val (.long q4), .second, .val (.int p5), .val (.ref b1), .unset, .unset, .unset, .unset, .unset, .unset, .unset, .unset, .unset] [(.int (p5 &&& (1 : Int32)))])) (fun kk => XS.iand X3.here hx rfl (hb hby at_17) rfl kk) ?_
    by_cases hc6 : (p5 &&& (1 : Int32)) = (0 : Int32)
    · refine via (S' := T3.setTop (mkF m 29 #[.val (.int p0), .val (.int p1), .val (.long q2), .second, .val (.int p3), .val (.long q4), .second, .val (.int p5), .val (.ref b1), .unset, .unset, .unset, .unset, .unset, .unset, .unset, .unset, .unset] [])) (fun kk => XS.ifYes X3.here hx rfl (pc0 := 18) (pc' := 29) rfl (hb hby at_18) rfl ((if0 _ _).trans (teq hc6).1) (by decide) (by decide) kk) ?_
      refine via (S' := T3.setTop (mkF m 30 #[.val (.int p0), .val (.int p1), .val (.long q2), .second, .val (.int p3), .val (.long q4), .second, .val (.int p5), .val (.ref b1), .unset, .unset, .unset, .unset, .unset, .unset, .unset, .unset, .unset] [(.int p0)])) (fun kk => XS.iloadN X3.here hx rfl (hb hby at_29) rfl kk) ?_
      have qj_a2 : a2 = p0 := hj_a2.trans (by rw [if_pos hc6])
      rw [qj_a2] at kj
      exact kj
    · refine via (S' := T3.setTop (mkF m 21 #[.val (.int p0), .val (.int p1), .val (.long q2), .second, .val (.int p3), .val (.long q4), .second, .val (.int p5), .val (.ref b1), .unset, .unset, .unset, .unset, .unset, .unset, .unset, .unset, .unset] [])) (fun kk => XS.ifNo X3.here hx rfl (hb hby at_18) rfl ((if0 _ _).trans (feq hc6).1) kk) ?_
      refine via (S' := T3.setTop (mkF m 22 #[.val (.int p0), .val (.int p1), .val (.long q2), .second, .val (.int p3), .val (.long q4), .second, .val (.int p5), .val (.ref b1), .unset, .unset, .unset, .unset, .unset, .unset, .unset, .unset, .unset] [(.int p0)])) (fun kk => XS.iloadN X3.here hx rfl (hb hby at_21) rfl kk) ?_
      refine via (S' := T3.setTop (mkF m 24 #[.val (.int p0), .val (.int p1), .val (.long q2), .second, .val (.int p3), .val (.long q4), .second, .val (.int p5), .val (.ref b1), .unset, .unset, .unset, .unset, .unset, .unset, .unset, .unset, .unset] [(.long q4), (.int p0)])) (fun kk => XS.lload X3.here hx rfl (hb hby at_22) rfl kk) ?_
      refine via (S' := T3.setTop (mkF m 25 #[.val (.int p0), .val (.int p1), .val (.long q2), .second, .val (.int p3), .val (.long q4), .second, .val (.int p5), .val (.ref b1), .unset, .unset, .unset, .unset, .unset, .unset, .unset, .unset, .unset] [(.int (q4.toInt32)), (.int p0)])) (fun kk => XS.l2i X3.here hx rfl (hb hby at_24) rfl kk) ?_
      refine via (S' := T3.setTop (mkF m 26 #[.val (.int p0), .val (.int p1), .val (.long q2), .second, .val (.int p3), .val (.long q4), .second, .val (.int p5), .val (.ref b1), .unset, .unset, .unset, .unset, .unset, .unset, .unset, .unset, .unset] [(.int (p0 ^^^ (q4.toInt32)))])) (fun kk => XS.ixor X3.here hx rfl (hb hby at_25) rfl kk) ?_
      refine via (S' := T3.setTop (mkF m 30 #[.val (.int p0), .val (.int p1), .val (.long q2), .second, .val (.int p3), .val (.long q4), .second, .val (.int p5), .val (.ref b1), .unset, .unset, .unset, .unset, .unset, .unset, .unset, .unset, .unset] [(.int (p0 ^^^ (q4.toInt32)))])) (fun kk => XS.goto X3.here hx rfl (pc0 := 26) (pc' := 30) rfl (hb hby at_26) (by decide) (by decide) kk) ?_
      have qj_a2 : a2 = (p0 ^^^ (q4.toInt32)) := hj_a2.trans (by rw [if_neg hc6])
      rw [qj_a2] at kj
      exact kj
  refine Go.st (S' := T3.setTop (mkF m 30 #[.val (.int p0), .val (.int p1), .val (.long q2), .second, .val (.int p3), .val (.long q4), .second, .val (.int p5), .val (.ref b1), .unset, .unset, .unset, .unset, .unset, .unset, .unset, .unset, .unset] [(.int a2)])) stj5 ?_
  refine Go.st (S' := T3.setTop (mkF m 32 #[.val (.int p0), .val (.int p1), .val (.long q2), .second, .val (.int p3), .val (.long q4), .second, .val (.int p5), .val (.ref b1), .val (.int a2), .unset, .unset, .unset, .unset, .unset, .unset, .unset, .unset] [])) (fun _ kk => XS.istore X3.here hx rfl (hb hby at_30) rfl (l' := #[.val (.int p0), .val (.int p1), .val (.long q2), .second, .val (.int p3), .val (.long q4), .second, .val (.int p5), .val (.ref b1), .val (.int a2), .unset, .unset, .unset, .unset, .unset, .unset, .unset, .unset]) rfl kk) ?_
  obtain ⟨b2, hj_b2⟩ : ∃ z : Int32, z = (if (p5 &&& (2 : Int32)) = (0 : Int32) then p1 else (p1 ^^^ (((q4.toUInt64 >>> ((32 : Int32) &&& 0x3f).toInt64.toUInt64).toInt64).toInt32))) := ⟨_, rfl⟩
  have stj7 : ∀ tq, Steps p.tables e below (T3.setTop (mkF m 51 #[.val (.int p0), .val (.int p1), .val (.long q2), .second, .val (.int p3), .val (.long q4), .second, .val (.int p5), .val (.ref b1), .val (.int a2), .unset, .unset, .unset, .unset, .unset, .unset, .unset, .unset] [(.int b2)])) tq → Steps p.tables e below (T3.setTop (mkF m 32 #[.val (.int p0), .val (.int p1), .val (.long q2), .second, .val (.int p3), .val (.long q4), .second, .val (.int p5), .val (.ref b1), .val (.int a2), .unset, .unset, .unset, .unset, .unset, .unset, .unset, .unset] [])) tq := by
    intro tq kj
    refine via (S' := T3.setTop (mkF m 34 #[.val (.int p0), .val (.int p1), .val (.long q2), .second, .val (.int p3), .val (.long q4), .second, .val (.int p5), .val (.ref b1), .val (.int a2), .unset, .unset, .unset, .unset, .unset, .unset, .unset, .unset] [(.int p5)])) (fun kk => XS.iload X3.here hx rfl (hb hby at_32) rfl kk) ?_
    refine via (S' := T3.setTop (mkF m 35 #[.val (.int p0), .val (.int p1), .val (.long q2), .second, .val (.int p3), .val (.long q4), .second, .val (.int p5), .val (.ref b1), .val (.int a2), .unset, .unset, .unset, .unset, .unset, .unset, .unset, .unset] [(.int (2 : Int32)), (.int p5)])) (fun kk => XS.iconst X3.here hx rfl (hb hby at_34) kk) ?_
    refine via (S' := T3.setTop (mkF m 36 #[.val (.int p0), .val (.int p1), .val (.long q2), .second, .val (.int p3), .val (.long q4), .second, .val (.int p5), .val (.ref b1), .val (.int a2), .unset, .unset, .unset, .unset, .unset, .unset, .unset, .unset] [(.int (p5 &&& (2 : Int32)))])) (fun kk => XS.iand X3.here hx rfl (hb hby at_35) rfl kk) ?_
    by_cases hc8 : (p5 &&& (2 : Int32)) = (0 : Int32)
    · refine via (S' := T3.setTop (mkF m 50 #[.val (.int p0), .val (.int p1), .val (.long q2), .second, .val (.int p3), .val (.long q4), .second, .val (.int p5), .val (.ref b1), .val (.int a2), .unset, .unset, .unset, .unset, .unset, .unset, .unset, .unset] [])) (fun kk => XS.ifYes X3.here hx rfl (pc0 := 36) (pc' := 50) rfl (hb hby at_36) rfl ((if0 _ _).trans (teq hc8).1) (by decide) (by decide) kk) ?_
      refine via (S' := T3.setTop (mkF m 51 #[.val (.int p0), .val (.int p1), .val (.long q2), .second, .val (.int p3), .val (.long q4), .second, .val (.int p5), .val (.ref b1), .val (.int a2), .unset, .unset, .unset, .unset, .unset, .unset, .unset, .unset] [(.int p1)])) (fun kk => XS.iloadN X3.here hx rfl (hb hby at_50) rfl kk) ?_
      have qj_b2 : b2 = p1 := hj_b2.trans (by rw [if_pos hc8])
      rw [qj_b2] at kj
      exact kj
    · refine via (S' := T3.setTop (mkF m 39 #[.val (.int p0), .val (.int p1), .val (.long q2), .second, .val (.int p3), .val (.long q4), .second, .val (.int p5), .val (.ref b1), .val (.int a2), .unset, .unset, .unset, .unset, .unset, .unset, .unset, .unset] [])) (fun kk => XS.ifNo X3.here hx rfl (hb hby at_36) rfl ((if0 _ _).trans (feq hc8).1) kk) ?_
      refine via (S' := T3.setTop (mkF m 40 #[.val (.int p0), .val (.int p1), .val (.long q2), .second, .val (.int p3), .val (.long q4), .second, .val (.int p5), .val (.ref b1), .val (.int a2), .unset, .unset, .unset, .unset, .unset, .unset, .unset, .unset] [(.int p1)])) (fun kk => XS.iloadN X3.here hx rfl (hb hby at_39) rfl kk) ?_
      refine via (S' := T3.setTop (mkF m 42 #[.val (.int p0), .val (.int p1), .val (.long q2), .second, .val (.int p3), .val (.long q4), .second, .val (.int p5), .val (.ref b1), .val (.int a2), .unset, .unset, .unset, .unset, .unset, .unset, .unset, .unset] [(.long q4), (.int p1)])) (fun kk => XS.lload X3.here hx rfl (hb hby at_40) rfl kk) ?_
      refine via (S' := T3.setTop (mkF m 44 #[.val (.int p0), .val (.int p1), .val (.long q2), .second, .val (.int p3), .val (.long q4), .second, .val (.int p5), .val (.ref b1), .val (.int a2), .unset, .unset, .unset, .unset, .unset, .unset, .unset, .unset] [(.int (32 : Int32)), (.long q4), (.int p1)])) (fun kk => XS.bipush X3.here hx rfl (hb hby at_42) kk) ?_
      refine via (S' := T3.setTop (mkF m 45 #[.val (.int p0), .val (.int p1), .val (.long q2), .second, .val (.int p3), .val (.long q4), .second, .val (.int p5), .val (.ref b1), .val (.int a2), .unset, .unset, .unset, .unset, .unset, .unset, .unset, .unset] [(.long ((q4.toUInt64 >>> ((32 : Int32) &&& 0x3f).toInt64.toUInt64).toInt64)), (.int p1)])) (fun kk => XS.lushr X3.here hx rfl (hb hby at_44) rfl kk) ?_
      refine via (S' := T3.setTop (mkF m 46 #[.val (.int p0), .val (.int p1), .val (.long q2), .second, .val (.int p3), .val (.long q4), .second, .val (.int p5), .val (.ref b1), .val (.int a2), .unset, .unset, .unset, .unset, .unset, .unset, .unset, .unset] [(.int (((q4.toUInt64 >>> ((32 : Int32) &&& 0x3f).toInt64.toUInt64).toInt64).toInt32)), (.int p1)])) (fun kk => XS.l2i X3.here hx rfl (hb hby at_45) rfl kk) ?_
      refine via (S' := T3.setTop (mkF m 47 #[.val (.int p0), .val (.int p1), .val (.long q2), .second, .val (.int p3), .val (.long q4), .second, .val (.int p5), .val (.ref b1), .val (.int a2), .unset, .unset, .unset, .unset, .unset, .unset, .unset, .unset] [(.int (p1 ^^^ (((q4.toUInt64 >>> ((32 : Int32) &&& 0x3f).toInt64.toUInt64).toInt64).toInt32)))])) (fun kk => XS.ixor X3.here hx rfl (hb hby at_46) rfl kk) ?_
      refine via (S' := T3.setTop (mkF m 51 #[.val (.int p0), .val (.int p1), .val (.long q2), .second, .val (.int p3), .val (.long q4), .second, .val (.int p5), .val (.ref b1), .val (.int a2), .unset, .unset, .unset, .unset, .unset, .unset, .unset, .unset] [(.int (p1 ^^^ (((q4.toUInt64 >>> ((32 : Int32) &&& 0x3f).toInt64.toUInt64).toInt64).toInt32)))])) (fun kk => XS.goto X3.here hx rfl (pc0 := 47) (pc' := 51) rfl (hb hby at_47) (by decide) (by decide) kk) ?_
      have qj_b2 : b2 = (p1 ^^^ (((q4.toUInt64 >>> ((32 : Int32) &&& 0x3f).toInt64.toUInt64).toInt64).toInt32)) := hj_b2.trans (by rw [if_neg hc8])
      rw [qj_b2] at kj
      exact kj
  refine Go.st (S' := T3.setTop (mkF m 51 #[.val (.int p0), .val (.int p1), .val (.long q2), .second, .val (.int p3), .val (.long q4), .second, .val (.int p5), .val (.ref b1), .val (.int a2), .unset, .unset, .unset, .unset, .unset, .unset, .unset, .unset] [(.int b2)])) stj7 ?_
  refine Go.st (S' := T3.setTop (mkF m 53 #[.val (.int p0), .val (.int p1), .val (.long q2), .second, .val (.int p3), .val (.long q4), .second, .val (.int p5), .val (.ref b1), .val (.int a2), .val (.int b2), .unset, .unset, .unset, .unset, .unset, .unset, .unset] [])) (fun _ kk => XS.istore X3.here hx rfl (hb hby at_51) rfl (l' := #[.val (.int p0), .val (.int p1), .val (.long q2), .second, .val (.int p3), .val (.long q4), .second, .val (.int p5), .val (.ref b1), .val (.int a2), .val (.int b2), .unset, .unset, .unset, .unset, .unset, .unset, .unset]) rfl kk) ?_
  obtain ⟨t2, hj_t2⟩ : ∃ z : Int64, z = (if (p5 &&& (4 : Int32)) = (0 : Int32) then q2 else (q2 ^^^ q4)) := ⟨_, rfl⟩
  have stj9 : ∀ tq, Steps p.tables e below (T3.setTop (mkF m 68 #[.val (.int p0), .val (.int p1), .val (.long q2), .second, .val (.int p3), .val (.long q4), .second, .val (.int p5), .val (.ref b1), .val (.int a2), .val (.int b2), .unset, .unset, .unset, .unset, .unset, .unset, .unset] [(.long t2)])) tq → Steps p.tables e below (T3.setTop (mkF m 53 #[.val (.int p0), .val (.int p1), .val (.long q2), .second, .val (.int p3), .val (.long q4), .second, .val (.int p5), .val (.ref b1), .val (.int a2), .val (.int b2), .unset, .unset, .unset, .unset, .unset, .unset, .unset] [])) tq := by
    intro tq kj
    refine via (S' := T3.setTop (mkF m 55 #[.val (.int p0), .val (.int p1), .val (.long q2), .second, .val (.int p3), .val (.long q4), .second, .val (.int p5), .val (.ref b1), .val (.int a2), .val (.int b2), .unset, .unset, .unset, .unset, .unset, .unset, .unset] [(.int p5)])) (fun kk => XS.iload X3.here hx rfl (hb hby at_53) rfl kk) ?_
    refine via (S' := T3.setTop (mkF m 56 #[.val (.int p0), .val (.int p1), .val (.long q2), .second, .val (.int p3), .val (.long q4), .second, .val (.int p5), .val (.ref b1), .val (.int a2), .val (.int b2), .unset, .unset, .unset, .unset, .unset, .unset, .unset] [(.int (4 : Int32)), (.int p5)])) (fun kk => XS.iconst X3.here hx rfl (hb hby at_55) kk) ?_
    refine via (S' := T3.setTop (mkF m 57 #[.val (.int p0), .val (.int p1), .val (.long q2), .second, .val (.int p3), .val (.long q4), .second, .val (.int p5), .val (.ref b1), .val (.int a2), .val (.int b2), .unset, .unset, .unset, .unset, .unset, .unset, .unset] [(.int (p5 &&& (4 : Int32)))])) (fun kk => XS.iand X3.here hx rfl (hb hby at_56) rfl kk) ?_
    by_cases hc10 : (p5 &&& (4 : Int32)) = (0 : Int32)
    · refine via (S' := T3.setTop (mkF m 67 #[.val (.int p0), .val (.int p1), .val (.long q2), .second, .val (.int p3), .val (.long q4), .second, .val (.int p5), .val (.ref b1), .val (.int a2), .val (.int b2), .unset, .unset, .unset, .unset, .unset, .unset, .unset] [])) (fun kk => XS.ifYes X3.here hx rfl (pc0 := 57) (pc' := 67) rfl (hb hby at_57) rfl ((if0 _ _).trans (teq hc10).1) (by decide) (by decide) kk) ?_
      refine via (S' := T3.setTop (mkF m 68 #[.val (.int p0), .val (.int p1), .val (.long q2), .second, .val (.int p3), .val (.long q4), .second, .val (.int p5), .val (.ref b1), .val (.int a2), .val (.int b2), .unset, .unset, .unset, .unset, .unset, .unset, .unset] [(.long q2)])) (fun kk => XS.lloadN X3.here hx rfl (hb hby at_67) rfl kk) ?_
      have qj_t2 : t2 = q2 := hj_t2.trans (by rw [if_pos hc10])
      rw [qj_t2] at kj
      exact kj
    · refine via (S' := T3.setTop (mkF m 60 #[.val (.int p0), .val (.int p1), .val (.long q2), .second, .val (.int p3), .val (.long q4), .second, .val (.int p5), .val (.ref b1), .val (.int a2), .val (.int b2), .unset, .unset, .unset, .unset, .unset, .unset, .unset] [])) (fun kk => XS.ifNo X3.here hx rfl (hb hby at_57) rfl ((if0 _ _).trans (feq hc10).1) kk) ?_
      refine via (S' := T3.setTop (mkF m 61 #[.val (.int p0), .val (.int p1), .val (.long q2), .second, .val (.int p3), .val (.long q4), .second, .val (.int p5), .val (.ref b1), .val (.int a2), .val (.int b2), .unset, .unset, .unset, .unset, .unset, .unset, .unset] [(.long q2)])) (fun kk => XS.lloadN X3.here hx rfl (hb hby at_60) rfl kk) ?_
      refine via (S' := T3.setTop (mkF m 63 #[.val (.int p0), .val (.int p1), .val (.long q2), .second, .val (.int p3), .val (.long q4), .second, .val (.int p5), .val (.ref b1), .val (.int a2), .val (.int b2), .unset, .unset, .unset, .unset, .unset, .unset, .unset] [(.long q4), (.long q2)])) (fun kk => XS.lload X3.here hx rfl (hb hby at_61) rfl kk) ?_
      refine via (S' := T3.setTop (mkF m 64 #[.val (.int p0), .val (.int p1), .val (.long q2), .second, .val (.int p3), .val (.long q4), .second, .val (.int p5), .val (.ref b1), .val (.int a2), .val (.int b2), .unset, .unset, .unset, .unset, .unset, .unset, .unset] [(.long (q2 ^^^ q4))])) (fun kk => XS.lxor X3.here hx rfl (hb hby at_63) rfl kk) ?_
      refine via (S' := T3.setTop (mkF m 68 #[.val (.int p0), .val (.int p1), .val (.long q2), .second, .val (.int p3), .val (.long q4), .second, .val (.int p5), .val (.ref b1), .val (.int a2), .val (.int b2), .unset, .unset, .unset, .unset, .unset, .unset, .unset] [(.long (q2 ^^^ q4))])) (fun kk => XS.goto X3.here hx rfl (pc0 := 64) (pc' := 68) rfl (hb hby at_64) (by decide) (by decide) kk) ?_
      have qj_t2 : t2 = (q2 ^^^ q4) := hj_t2.trans (by rw [if_neg hc10])
      rw [qj_t2] at kj
      exact kj
  refine Go.st (S' := T3.setTop (mkF m 68 #[.val (.int p0), .val (.int p1), .val (.long q2), .second, .val (.int p3), .val (.long q4), .second, .val (.int p5), .val (.ref b1), .val (.int a2), .val (.int b2), .unset, .unset, .unset, .unset, .unset, .unset, .unset] [(.long t2)])) stj9 ?_
  refine Go.st (S' := T3.setTop (mkF m 70 #[.val (.int p0), .val (.int p1), .val (.long q2), .second, .val (.int p3), .val (.long q4), .second, .val (.int p5), .val (.ref b1), .val (.int a2), .val (.int b2), .val (.long t2), .second, .unset, .unset, .unset, .unset, .unset] [])) (fun _ kk => XS.lstore X3.here hx rfl (hb hby at_68) rfl (l' := #[.val (.int p0), .val (.int p1), .val (.long q2), .second, .val (.int p3), .val (.long q4), .second, .val (.int p5), .val (.ref b1), .val (.int a2), .val (.int b2), .val (.long t2), .second, .unset, .unset, .unset, .unset, .unset]) rfl kk) ?_
  obtain ⟨m2, hj_m2⟩ : ∃ z : Int32, z = (if (p5 &&& (8 : Int32)) = (0 : Int32) then p3 else (p3 ^^^ (((q4.toUInt64 >>> ((16 : Int32) &&& 0x3f).toInt64.toUInt64).toInt64).toInt32))) := ⟨_, rfl⟩
  have stj11 : ∀ tq, Steps p.tables e below (T3.setTop (mkF m 92 #[.val (.int p0), .val (.int p1), .val (.long q2), .second, .val (.int p3), .val (.long q4), .second, .val (.int p5), .val (.ref b1), .val (.int a2), .val (.int b2), .val (.long t2), .second, .unset, .unset, .unset, .unset, .unset] [(.int m2)])) tq → Steps p.tables e below (T3.setTop (mkF m 70 #[.val (.int p0), .val (.int p1), .val (.long q2), .second, .val (.int p3), .val (.long q4), .second, .val (.int p5), .val (.ref b1), .val (.int a2), .val (.int b2), .val (.long t2), .second, .unset, .unset, .unset, .unset, .unset] [])) tq := by
    intro tq kj
    refine via (S' := T3.setTop (mkF m 72 #[.val (.int p0), .val (.int p1), .val (.long q2), .second, .val (.int p3), .val (.long q4), .second, .val (.int p5), .val (.ref b1), .val (.int a2), .val (.int b2), .val (.long t2), .second, .unset, .unset, .unset, .unset, .unset] [(.int p5)])) (fun kk => XS.iload X3.here hx rfl (hb hby at_70) rfl kk) ?_
    refine via (S' := T3.setTop (mkF m 74 #[.val (.int p0), .val (.int p1), .val (.long q2), .second, .val (.int p3), .val (.long q4), .second, .val (.int p5), .val (.ref b1), .val (.int a2), .val (.int b2), .val (.long t2), .second, .unset, .unset, .unset, .unset, .unset] [(.int (8 : Int32)), (.int p5)])) (fun kk => XS.bipush X3.here hx rfl (hb hby at_72) kk) ?_
    refine via (S' := T3.setTop (mkF m 75 #[.val (.int p0), .val (.int p1), .val (.long q2), .second, .val (.int p3), .val (.long q4), .second, .val (.int p5), .val (.ref b1), .val (.int a2), .val (.int b2), .val (.long t2), .second, .unset, .unset, .unset, .unset, .unset] [(.int (p5 &&& (8 : Int32)))])) (fun kk => XS.iand X3.here hx rfl (hb hby at_74) rfl kk) ?_
    by_cases hc12 : (p5 &&& (8 : Int32)) = (0 : Int32)
    · refine via (S' := T3.setTop (mkF m 90 #[.val (.int p0), .val (.int p1), .val (.long q2), .second, .val (.int p3), .val (.long q4), .second, .val (.int p5), .val (.ref b1), .val (.int a2), .val (.int b2), .val (.long t2), .second, .unset, .unset, .unset, .unset, .unset] [])) (fun kk => XS.ifYes X3.here hx rfl (pc0 := 75) (pc' := 90) rfl (hb hby at_75) rfl ((if0 _ _).trans (teq hc12).1) (by decide) (by decide) kk) ?_
      refine via (S' := T3.setTop (mkF m 92 #[.val (.int p0), .val (.int p1), .val (.long q2), .second, .val (.int p3), .val (.long q4), .second, .val (.int p5), .val (.ref b1), .val (.int a2), .val (.int b2), .val (.long t2), .second, .unset, .unset, .unset, .unset, .unset] [(.int p3)])) (fun kk => XS.iload X3.here hx rfl (hb hby at_90) rfl kk) ?_
      have qj_m2 : m2 = p3 := hj_m2.trans (by rw [if_pos hc12])
      rw [qj_m2] at kj
      exact kj
    · refine via (S' := T3.setTop (mkF m 78 #[.val (.int p0), .val (.int p1), .val (.long q2), .second, .val (.int p3), .val (.long q4), .second, .val (.int p5), .val (.ref b1), .val (.int a2), .val (.int b2), .val (.long t2), .second, .unset, .unset, .unset, .unset, .unset] [])) (fun kk => XS.ifNo X3.here hx rfl (hb hby at_75) rfl ((if0 _ _).trans (feq hc12).1) kk) ?_
      refine via (S' := T3.setTop (mkF m 80 #[.val (.int p0), .val (.int p1), .val (.long q2), .second, .val (.int p3), .val (.long q4), .second, .val (.int p5), .val (.ref b1), .val (.int a2), .val (.int b2), .val (.long t2), .second, .unset, .unset, .unset, .unset, .unset] [(.int p3)])) (fun kk => XS.iload X3.here hx rfl (hb hby at_78) rfl kk) ?_
      refine via (S' := T3.setTop (mkF m 82 #[.val (.int p0), .val (.int p1), .val (.long q2), .second, .val (.int p3), .val (.long q4), .second, .val (.int p5), .val (.ref b1), .val (.int a2), .val (.int b2), .val (.long t2), .second, .unset, .unset, .unset, .unset, .unset] [(.long q4), (.int p3)])) (fun kk => XS.lload X3.here hx rfl (hb hby at_80) rfl kk) ?_
      refine via (S' := T3.setTop (mkF m 84 #[.val (.int p0), .val (.int p1), .val (.long q2), .second, .val (.int p3), .val (.long q4), .second, .val (.int p5), .val (.ref b1), .val (.int a2), .val (.int b2), .val (.long t2), .second, .unset, .unset, .unset, .unset, .unset] [(.int (16 : Int32)), (.long q4), (.int p3)])) (fun kk => XS.bipush X3.here hx rfl (hb hby at_82) kk) ?_
      refine via (S' := T3.setTop (mkF m 85 #[.val (.int p0), .val (.int p1), .val (.long q2), .second, .val (.int p3), .val (.long q4), .second, .val (.int p5), .val (.ref b1), .val (.int a2), .val (.int b2), .val (.long t2), .second, .unset, .unset, .unset, .unset, .unset] [(.long ((q4.toUInt64 >>> ((16 : Int32) &&& 0x3f).toInt64.toUInt64).toInt64)), (.int p3)])) (fun kk => XS.lushr X3.here hx rfl (hb hby at_84) rfl kk) ?_
      refine via (S' := T3.setTop (mkF m 86 #[.val (.int p0), .val (.int p1), .val (.long q2), .second, .val (.int p3), .val (.long q4), .second, .val (.int p5), .val (.ref b1), .val (.int a2), .val (.int b2), .val (.long t2), .second, .unset, .unset, .unset, .unset, .unset] [(.int (((q4.toUInt64 >>> ((16 : Int32) &&& 0x3f).toInt64.toUInt64).toInt64).toInt32)), (.int p3)])) (fun kk => XS.l2i X3.here hx rfl (hb hby at_85) rfl kk) ?_
      refine via (S' := T3.setTop (mkF m 87 #[.val (.int p0), .val (.int p1), .val (.long q2), .second, .val (.int p3), .val (.long q4), .second, .val (.int p5), .val (.ref b1), .val (.int a2), .val (.int b2), .val (.long t2), .second, .unset, .unset, .unset, .unset, .unset] [(.int (p3 ^^^ (((q4.toUInt64 >>> ((16 : Int32) &&& 0x3f).toInt64.toUInt64).toInt64).toInt32)))])) (fun kk => XS.ixor X3.here hx rfl (hb hby at_86) rfl kk) ?_
      refine via (S' := T3.setTop (mkF m 92 #[.val (.int p0), .val (.int p1), .val (.long q2), .second, .val (.int p3), .val (.long q4), .second, .val (.int p5), .val (.ref b1), .val (.int a2), .val (.int b2), .val (.long t2), .second, .unset, .unset, .unset, .unset, .unset] [(.int (p3 ^^^ (((q4.toUInt64 >>> ((16 : Int32) &&& 0x3f).toInt64.toUInt64).toInt64).toInt32)))])) (fun kk => XS.goto X3.here hx rfl (pc0 := 87) (pc' := 92) rfl (hb hby at_87) (by decide) (by decide) kk) ?_
      have qj_m2 : m2 = (p3 ^^^ (((q4.toUInt64 >>> ((16 : Int32) &&& 0x3f).toInt64.toUInt64).toInt64).toInt32)) := hj_m2.trans (by rw [if_neg hc12])
      rw [qj_m2] at kj
      exact kj
  refine Go.st (S' := T3.setTop (mkF m 92 #[.val (.int p0), .val (.int p1), .val (.long q2), .second, .val (.int p3), .val (.long q4), .second, .val (.int p5), .val (.ref b1), .val (.int a2), .val (.int b2), .val (.long t2), .second, .unset, .unset, .unset, .unset, .unset] [(.int m2)])) stj11 ?_
  refine Go.st (S' := T3.setTop (mkF m 94 #[.val (.int p0), .val (.int p1), .val (.long q2), .second, .val (.int p3), .val (.long q4), .second, .val (.int p5), .val (.ref b1), .val (.int a2), .val (.int b2), .val (.long t2), .second, .val (.int m2), .unset, .unset, .unset, .unset] [])) (fun _ kk => XS.istore X3.here hx rfl (hb hby at_92) rfl (l' := #[.val (.int p0), .val (.int p1), .val (.long q2), .second, .val (.int p3), .val (.long q4), .second, .val (.int p5), .val (.ref b1), .val (.int a2), .val (.int b2), .val (.long t2), .second, .val (.int m2), .unset, .unset, .unset, .unset]) rfl kk) ?_
  refine Go.st (S' := T3.setTop (mkF m 96 #[.val (.int p0), .val (.int p1), .val (.long q2), .second, .val (.int p3), .val (.long q4), .second, .val (.int p5), .val (.ref b1), .val (.int a2), .val (.int b2), .val (.long t2), .second, .val (.int m2), .unset, .unset, .unset, .unset] [(.int p5)])) (fun _ kk => XS.iload X3.here hx rfl (hb hby at_94) rfl kk) ?_
  refine Go.st (S' := T3.setTop (mkF m 97 #[.val (.int p0), .val (.int p1), .val (.long q2), .second, .val (.int p3), .val (.long q4), .second, .val (.int p5), .val (.ref b1), .val (.int a2), .val (.int b2), .val (.long t2), .second, .val (.int m2), .unset, .unset, .unset, .unset] [(.int (4 : Int32)), (.int p5)])) (fun _ kk => XS.iconst X3.here hx rfl (hb hby at_96) kk) ?_
  refine Go.st (S' := T3.setTop (mkF m 98 #[.val (.int p0), .val (.int p1), .val (.long q2), .second, .val (.int p3), .val (.long q4), .second, .val (.int p5), .val (.ref b1), .val (.int a2), .val (.int b2), .val (.long t2), .second, .val (.int m2), .unset, .unset, .unset, .unset] [(.int ((p5.toUInt32 >>> ((4 : Int32) &&& 31).toUInt32).toInt32))])) (fun _ kk => XS.iushr X3.here hx rfl (hb hby at_97) rfl kk) ?_
  refine Go.st (S' := T3.setTop (mkF m 99 #[.val (.int p0), .val (.int p1), .val (.long q2), .second, .val (.int p3), .val (.long q4), .second, .val (.int p5), .val (.ref b1), .val (.int a2), .val (.int b2), .val (.long t2), .second, .val (.int m2), .unset, .unset, .unset, .unset] [(.int (3 : Int32)), (.int ((p5.toUInt32 >>> ((4 : Int32) &&& 31).toUInt32).toInt32))])) (fun _ kk => XS.iconst X3.here hx rfl (hb hby at_98) kk) ?_
  refine Go.st (S' := T3.setTop (mkF m 100 #[.val (.int p0), .val (.int p1), .val (.long q2), .second, .val (.int p3), .val (.long q4), .second, .val (.int p5), .val (.ref b1), .val (.int a2), .val (.int b2), .val (.long t2), .second, .val (.int m2), .unset, .unset, .unset, .unset] [(.int (((p5.toUInt32 >>> ((4 : Int32) &&& 31).toUInt32).toInt32) &&& (3 : Int32)))])) (fun _ kk => XS.iand X3.here hx rfl (hb hby at_99) rfl kk) ?_
  obtain ⟨md, h_md⟩ : ∃ z : Int32, z = (((p5.toUInt32 >>> ((4 : Int32) &&& 31).toUInt32).toInt32) &&& (3 : Int32)) := ⟨_, rfl⟩
  rw [← h_md]
  refine Go.st (S' := T3.setTop (mkF m 102 #[.val (.int p0), .val (.int p1), .val (.long q2), .second, .val (.int p3), .val (.long q4), .second, .val (.int p5), .val (.ref b1), .val (.int a2), .val (.int b2), .val (.long t2), .second, .val (.int m2), .val (.int md), .unset, .unset, .unset] [])) (fun _ kk => XS.istore X3.here hx rfl (hb hby at_100) rfl (l' := #[.val (.int p0), .val (.int p1), .val (.long q2), .second, .val (.int p3), .val (.long q4), .second, .val (.int p5), .val (.ref b1), .val (.int a2), .val (.int b2), .val (.long t2), .second, .val (.int m2), .val (.int md), .unset, .unset, .unset]) rfl kk) ?_
  refine Go.st (S' := T3.setTop (mkF m 104 #[.val (.int p0), .val (.int p1), .val (.long q2), .second, .val (.int p3), .val (.long q4), .second, .val (.int p5), .val (.ref b1), .val (.int a2), .val (.int b2), .val (.long t2), .second, .val (.int m2), .val (.int md), .unset, .unset, .unset] [(.int md)])) (fun _ kk => XS.iload X3.here hx rfl (hb hby at_102) rfl kk) ?_
  by_cases hc13 : md = (0 : Int32)
  · refine Go.st (S' := T3.setTop (mkF m 107 #[.val (.int p0), .val (.int p1), .val (.long q2), .second, .val (.int p3), .val (.long q4), .second, .val (.int p5), .val (.ref b1), .val (.int a2), .val (.int b2), .val (.long t2), .second, .val (.int m2), .val (.int md), .unset, .unset, .unset] [])) (fun _ kk => XS.ifNo X3.here hx rfl (hb hby at_104) rfl ((if0 _ _).trans (teq hc13).2) kk) ?_
    obtain ⟨T14, h14, X14, e14, E14, A14, D14, -, st14⟩ := newO X3 hx hZ hown (hw _ (List.mem_of_getElem? (i := 0) rfl)) (hw _ (List.mem_of_getElem? (i := 1) rfl)) (hw _ (List.mem_of_getElem? (i := 2) rfl)) rfl (g := (mkF m 107 #[.val (.int p0), .val (.int p1), .val (.long q2), .second, .val (.int p3), .val (.long q4), .second, .val (.int p5), .val (.ref b1), .val (.int a2), .val (.int b2), .val (.long t2), .second, .val (.int m2), .val (.int md), .unset, .unset, .unset] [])) rfl (hb hby at_107) (by decide : 1 + 1 ≤ _) (by decide : 4 + 4 ≤ _)
    obtain ⟨b14, g14⟩ : ∃ z, z = T3.heap.size := ⟨_, rfl⟩
    rw [← g14] at A14 D14 st14
    have ne_b1_b14 : b1 ≠ b14 := Nat.ne_of_lt (Nat.lt_of_lt_of_le E_b1.lt (Nat.le_of_eq g14.symm))
    have g_b14 : n0 ≤ b14 := Nat.le_trans Zs4 (Nat.le_of_eq g14.symm)
    have Od := Od.ext E14
    have E_b1 := E_b1.ext E14
    have Fc3_0 := Fc3_0.ext E14
    have Fc3_1 := Fc3_1.ext E14
    have Fc3_2 := Fc3_2.ext E14
    have Fc3_3 := Fc3_3.ext E14
    have Zs15 := Nat.le_trans Zs4 E14.1
    have E_b14 := A14
    have F_partitionIndex_b14 : Fld Z h14 b14 "com/example/offset_lookup/offsetlookup/protocol/ListOffsetsRequest$Partition" "partitionIndex" "I" (.int (0 : Int32)) := D14 (Or.inr (hw _ (List.mem_of_getElem? (i := 10) rfl))) (ty := .int) (by decide)
    have F_currentLeaderEpoch_b14 : Fld Z h14 b14 "com/example/offset_lookup/offsetlookup/protocol/ListOffsetsRequest$Partition" "currentLeaderEpoch" "I" (.int (0 : Int32)) := D14 (Or.inr (hw _ (List.mem_of_getElem? (i := 12) rfl))) (ty := .int) (by decide)
    have F_timestamp_b14 : Fld Z h14 b14 "com/example/offset_lookup/offsetlookup/protocol/ListOffsetsRequest$Partition" "timestamp" "J" (.long (0 : Int64)) := D14 (Or.inr (hw _ (List.mem_of_getElem? (i := 14) rfl))) (ty := .long) (by decide)
    have F_maxNumOffsets_b14 : Fld Z h14 b14 "com/example/offset_lookup/offsetlookup/protocol/ListOffsetsRequest$Partition" "maxNumOffsets" "I" (.int (0 : Int32)) := D14 (Or.inr (hw _ (List.mem_of_getElem? (i := 16) rfl))) (ty := .int) (by decide)
    refine Go.st (S' := T14.setTop (mkF m 110 #[.val (.int p0), .val (.int p1), .val (.long q2), .second, .val (.int p3), .val (.long q4), .second, .val (.int p5), .val (.ref b1), .val (.int a2), .val (.int b2), .val (.long t2), .second, .val (.int m2), .val (.int md), .unset, .unset, .unset] [(.ref b14)])) st14 ?_
    refine Go.st (S' := T14.setTop (mkF m 111 #[.val (.int p0), .val (.int p1), .val (.long q2), .second, .val (.int p3), .val (.long q4), .second, .val (.int p5), .val (.ref b1), .val (.int a2), .val (.int b2), .val (.long t2), .second, .val (.int m2), .val (.int md), .unset, .unset, .unset] [(.ref b14), (.ref b14)])) (fun _ kk => XS.dup X14.here hx rfl (hb hby at_110) rfl rfl kk) ?_
    refine Go.st (S' := T14.setTop (mkF m 113 #[.val (.int p0), .val (.int p1), .val (.long q2), .second, .val (.int p3), .val (.long q4), .second, .val (.int p5), .val (.ref b1), .val (.int a2), .val (.int b2), .val (.long t2), .second, .val (.int m2), .val (.int md), .unset, .unset, .unset] [(.int a2), (.ref b14), (.ref b14)])) (fun _ kk => XS.iload X14.here hx rfl (hb hby at_111) rfl kk) ?_
    refine Go.st (S' := T14.setTop (mkF m 115 #[.val (.int p0), .val (.int p1), .val (.long q2), .second, .val (.int p3), .val (.long q4), .second, .val (.int p5), .val (.ref b1), .val (.int a2), .val (.int b2), .val (.long t2), .second, .val (.int m2), .val (.int md), .unset, .unset, .unset] [(.int b2), (.int a2), (.ref b14), (.ref b14)])) (fun _ kk => XS.iload X14.here hx rfl (hb hby at_113) rfl kk) ?_
    refine Go.st (S' := T14.setTop (mkF m 117 #[.val (.int p0), .val (.int p1), .val (.long q2), .second, .val (.int p3), .val (.long q4), .second, .val (.int p5), .val (.ref b1), .val (.int a2), .val (.int b2), .val (.long t2), .second, .val (.int m2), .val (.int md), .unset, .unset, .unset] [(.long t2), (.int b2), (.int a2), (.ref b14), (.ref b14)])) (fun _ kk => XS.lload X14.here hx rfl (hb hby at_115) rfl kk) ?_
    refine Go.st (S' := T14.setTop (mkF m 119 #[.val (.int p0), .val (.int p1), .val (.long q2), .second, .val (.int p3), .val (.long q4), .second, .val (.int p5), .val (.ref b1), .val (.int a2), .val (.int b2), .val (.long t2), .second, .val (.int m2), .val (.int md), .unset, .unset, .unset] [(.int m2), (.long t2), (.int b2), (.int a2), (.ref b14), (.ref b14)])) (fun _ kk => XS.iload X14.here hx rfl (hb hby at_117) rfl kk) ?_
    obtain ⟨_, _, ⟨T16, L16, k16, n16⟩, -, X16, ⟨Lc16, hQ16, l16, y16, z16⟩, st16⟩ := X14.specialBack hx (y := (⟨"com/example/offset_lookup/offsetlookup/protocol/ListOffsetsRequest$Partition", "<init>", "(IIJI)V"⟩ : MethodName)) rfl hown (mvT hZ (hw _ (List.mem_of_getElem? (i := 3) rfl))) (mvT hZ (hw _ (List.mem_of_getElem? (i := 4) rfl))) (mvT hZ (hw _ (List.mem_of_getElem? (i := 5) rfl))) (by decide) (backOf (W := 1) (rmC l Z az hw [] b14 a2 b2 t2 m2 h14 n0 Zs15 E_b14 g_b14 F_partitionIndex_b14 F_currentLeaderEpoch_b14 F_timestamp_b14 F_maxNumOffsets_b14) hZ (hw _ (List.mem_of_getElem? (i := 5) rfl)) (hw _ (List.mem_of_getElem? (i := 2) rfl)) (by decide) (by decide)) (g := (mkF m 119 #[.val (.int p0), .val (.int p1), .val (.long q2), .second, .val (.int p3), .val (.long q4), .second, .val (.int p5), .val (.ref b1), .val (.int a2), .val (.int b2), .val (.long t2), .second, .val (.int m2), .val (.int md), .unset, .unset, .unset] [(.int m2), (.long t2), (.int b2), (.int a2), (.ref b14), (.ref b14)])) rfl (by rw [hml]; rfl) (Steps.refl _) (a := b14) (argsL := [(.int a2), (.int b2), (.long t2), (.int m2)]) (rest := [(.ref b14)]) (lenOf pd_0 rfl) rfl (by show 2 * 0 + _ ≤ _; exact Nat.le_of_eq rfl) (hb hby at_119) (fun _ _ => ⟨rfl, e14, (by decide : 2 + 0 ≤ _), (by decide : 8 + 0 ≤ _)⟩)
    dsimp only [Pt.U, Pt.locs, Pt.cells, Pt.slots] at X16 l16 y16 z16 st16 hQ16
    subst l16 y16 z16
    obtain ⟨rfl, N16q, K16, Ec16, Fc16_0, Fc16_1, Fc16_2, Fc16_3⟩ := hQ16
    have N16 := Fr.app N3 N16q
    have Od := Od.keep K16 (allS g_b14 all0)
    have E_b1 := E_b1.keep K16
    have Fc3_0 := Fc3_0.keep K16 (ninS ne_b1_b14 nin0)
    have Fc3_1 := Fc3_1.keep K16 (ninS ne_b1_b14 nin0)
    have Fc3_2 := Fc3_2.keep K16 (ninS ne_b1_b14 nin0)
    have Fc3_3 := Fc3_3.keep K16 (ninS ne_b1_b14 nin0)
    have E_b14 := E_b14.keep K16
    have Zs17 := Nat.le_trans Zs15 K16.1
    refine Go.tr (S' := T16.setTop (mkF m 122 #[.val (.int p0), .val (.int p1), .val (.long q2), .second, .val (.int p3), .val (.long q4), .second, .val (.int p5), .val (.ref b1), .val (.int a2), .val (.int b2), .val (.long t2), .second, .val (.int m2), .val (.int md), .unset, .unset, .unset] [(.ref b14)])) st16 ?_
    refine Go.st (S' := T16.setTop (mkF m 124 #[.val (.int p0), .val (.int p1), .val (.long q2), .second, .val (.int p3), .val (.long q4), .second, .val (.int p5), .val (.ref b1), .val (.int a2), .val (.int b2), .val (.long t2), .second, .val (.int m2), .val (.int md), .unset, .val (.ref b14), .unset] [])) (fun _ kk => XS.astore X16.here hx rfl (hb hby at_122) rfl rfl (l' := #[.val (.int p0), .val (.int p1), .val (.long q2), .second, .val (.int p3), .val (.long q4), .second, .val (.int p5), .val (.ref b1), .val (.int a2), .val (.int b2), .val (.long t2), .second, .val (.int m2), .val (.int md), .unset, .val (.ref b14), .unset]) rfl kk) ?_
    refine Go.st (S' := T16.setTop (mkF m 125 #[.val (.int p0), .val (.int p1), .val (.long q2), .second, .val (.int p3), .val (.long q4), .second, .val (.int p5), .val (.ref b1), .val (.int a2), .val (.int b2), .val (.long t2), .second, .val (.int m2), .val (.int md), .unset, .val (.ref b14), .unset] [(.int p0)])) (fun _ kk => XS.iloadN X16.here hx rfl (hb hby at_124) rfl kk) ?_
    refine Go.st (S' := T16.setTop (mkF m 127 #[.val (.int p0), .val (.int p1), .val (.long q2), .second, .val (.int p3), .val (.long q4), .second, .val (.int p5), .val (.ref b1), .val (.int a2), .val (.int b2), .val (.long t2), .second, .val (.int m2), .val (.int md), .unset, .val (.ref b14), .unset] [(.int a2), (.int p0)])) (fun _ kk => XS.iload X16.here hx rfl (hb hby at_125) rfl kk) ?_
    by_cases hc18 : p0 = a2
    · refine Go.st (S' := T16.setTop (mkF m 130 #[.val (.int p0), .val (.int p1), .val (.long q2), .second, .val (.int p3), .val (.long q4), .second, .val (.int p5), .val (.ref b1), .val (.int a2), .val (.int b2), .val (.long t2), .second, .val (.int m2), .val (.int md), .unset, .val (.ref b14), .unset] [])) (fun _ kk => XS.icmpNo X16.here hx rfl (hb hby at_127) rfl (teq hc18).2 kk) ?_
      refine Go.st (S' := T16.setTop (mkF m 131 #[.val (.int p0), .val (.int p1), .val (.long q2), .second, .val (.int p3), .val (.long q4), .second, .val (.int p5), .val (.ref b1), .val (.int a2), .val (.int b2), .val (.long t2), .second, .val (.int m2), .val (.int md), .unset, .val (.ref b14), .unset] [(.int p1)])) (fun _ kk => XS.iloadN X16.here hx rfl (hb hby at_130) rfl kk) ?_
      refine Go.st (S' := T16.setTop (mkF m 133 #[.val (.int p0), .val (.int p1), .val (.long q2), .second, .val (.int p3), .val (.long q4), .second, .val (.int p5), .val (.ref b1), .val (.int a2), .val (.int b2), .val (.long t2), .second, .val (.int m2), .val (.int md), .unset, .val (.ref b14), .unset] [(.int b2), (.int p1)])) (fun _ kk => XS.iload X16.here hx rfl (hb hby at_131) rfl kk) ?_
      by_cases hc19 : p1 = b2
      · refine Go.st (S' := T16.setTop (mkF m 136 #[.val (.int p0), .val (.int p1), .val (.long q2), .second, .val (.int p3), .val (.long q4), .second, .val (.int p5), .val (.ref b1), .val (.int a2), .val (.int b2), .val (.long t2), .second, .val (.int m2), .val (.int md), .unset, .val (.ref b14), .unset] [])) (fun _ kk => XS.icmpNo X16.here hx rfl (hb hby at_133) rfl (teq hc19).2 kk) ?_
        refine Go.st (S' := T16.setTop (mkF m 137 #[.val (.int p0), .val (.int p1), .val (.long q2), .second, .val (.int p3), .val (.long q4), .second, .val (.int p5), .val (.ref b1), .val (.int a2), .val (.int b2), .val (.long t2), .second, .val (.int m2), .val (.int md), .unset, .val (.ref b14), .unset] [(.long q2)])) (fun _ kk => XS.lloadN X16.here hx rfl (hb hby at_136) rfl kk) ?_
        refine Go.st (S' := T16.setTop (mkF m 139 #[.val (.int p0), .val (.int p1), .val (.long q2), .second, .val (.int p3), .val (.long q4), .second, .val (.int p5), .val (.ref b1), .val (.int a2), .val (.int b2), .val (.long t2), .second, .val (.int m2), .val (.int md), .unset, .val (.ref b14), .unset] [(.long t2), (.long q2)])) (fun _ kk => XS.lload X16.here hx rfl (hb hby at_137) rfl kk) ?_
        refine Go.st (S' := T16.setTop (mkF m 140 #[.val (.int p0), .val (.int p1), .val (.long q2), .second, .val (.int p3), .val (.long q4), .second, .val (.int p5), .val (.ref b1), .val (.int a2), .val (.int b2), .val (.long t2), .second, .val (.int m2), .val (.int md), .unset, .val (.ref b14), .unset] [(.int (lcmpW q2 t2))])) (fun _ kk => XS.lcmp X16.here hx rfl (hb hby at_139) rfl kk) ?_
        by_cases hc20 : q2 = t2
        · refine Go.st (S' := T16.setTop (mkF m 143 #[.val (.int p0), .val (.int p1), .val (.long q2), .second, .val (.int p3), .val (.long q4), .second, .val (.int p5), .val (.ref b1), .val (.int a2), .val (.int b2), .val (.long t2), .second, .val (.int m2), .val (.int md), .unset, .val (.ref b14), .unset] [])) (fun _ kk => XS.ifNo X16.here hx rfl (hb hby at_140) rfl ((if0 _ _).trans (teq ((lw_eq q2 t2).mpr hc20)).2) kk) ?_
          refine Go.st (S' := T16.setTop (mkF m 145 #[.val (.int p0), .val (.int p1), .val (.long q2), .second, .val (.int p3), .val (.long q4), .second, .val (.int p5), .val (.ref b1), .val (.int a2), .val (.int b2), .val (.long t2), .second, .val (.int m2), .val (.int md), .unset, .val (.ref b14), .unset] [(.int p3)])) (fun _ kk => XS.iload X16.here hx rfl (hb hby at_143) rfl kk) ?_
          refine Go.st (S' := T16.setTop (mkF m 147 #[.val (.int p0), .val (.int p1), .val (.long q2), .second, .val (.int p3), .val (.long q4), .second, .val (.int p5), .val (.ref b1), .val (.int a2), .val (.int b2), .val (.long t2), .second, .val (.int m2), .val (.int md), .unset, .val (.ref b14), .unset] [(.int m2), (.int p3)])) (fun _ kk => XS.iload X16.here hx rfl (hb hby at_145) rfl kk) ?_
          by_cases hc21 : p3 = m2
          · refine Go.st (S' := T16.setTop (mkF m 150 #[.val (.int p0), .val (.int p1), .val (.long q2), .second, .val (.int p3), .val (.long q4), .second, .val (.int p5), .val (.ref b1), .val (.int a2), .val (.int b2), .val (.long t2), .second, .val (.int m2), .val (.int md), .unset, .val (.ref b14), .unset] [])) (fun _ kk => XS.icmpNo X16.here hx rfl (hb hby at_147) rfl (teq hc21).2 kk) ?_
            refine Go.st (S' := T16.setTop (mkF m 151 #[.val (.int p0), .val (.int p1), .val (.long q2), .second, .val (.int p3), .val (.long q4), .second, .val (.int p5), .val (.ref b1), .val (.int a2), .val (.int b2), .val (.long t2), .second, .val (.int m2), .val (.int md), .unset, .val (.ref b14), .unset] [(.int (1 : Int32))])) (fun _ kk => XS.iconst X16.here hx rfl (hb hby at_150) kk) ?_
            refine Go.st (S' := T16.setTop (mkF m 155 #[.val (.int p0), .val (.int p1), .val (.long q2), .second, .val (.int p3), .val (.long q4), .second, .val (.int p5), .val (.ref b1), .val (.int a2), .val (.int b2), .val (.long t2), .second, .val (.int m2), .val (.int md), .unset, .val (.ref b14), .unset] [(.int (1 : Int32))])) (fun _ kk => XS.goto X16.here hx rfl (pc0 := 151) (pc' := 155) rfl (hb hby at_151) (by decide) (by decide) kk) ?_
            refine Go.st (S' := T16.setTop (mkF m 157 #[.val (.int p0), .val (.int p1), .val (.long q2), .second, .val (.int p3), .val (.long q4), .second, .val (.int p5), .val (.ref b1), .val (.int a2), .val (.int b2), .val (.long t2), .second, .val (.int m2), .val (.int md), .unset, .val (.ref b14), .val (.int (1 : Int32))] [])) (fun _ kk => XS.istore X16.here hx rfl (hb hby at_155) rfl (l' := #[.val (.int p0), .val (.int p1), .val (.long q2), .second, .val (.int p3), .val (.long q4), .second, .val (.int p5), .val (.ref b1), .val (.int a2), .val (.int b2), .val (.long t2), .second, .val (.int m2), .val (.int md), .unset, .val (.ref b14), .val (.int (1 : Int32))]) rfl kk) ?_
            refine Go.st (S' := T16.setTop (mkF m 159 #[.val (.int p0), .val (.int p1), .val (.long q2), .second, .val (.int p3), .val (.long q4), .second, .val (.int p5), .val (.ref b1), .val (.int a2), .val (.int b2), .val (.long t2), .second, .val (.int m2), .val (.int md), .unset, .val (.ref b14), .val (.int (1 : Int32))] [(.ref b1)])) (fun _ kk => XS.aload X16.here hx rfl (hb hby at_157) rfl rfl kk) ?_
            refine Go.st (S' := T16.setTop (mkF m 161 #[.val (.int p0), .val (.int p1), .val (.long q2), .second, .val (.int p3), .val (.long q4), .second, .val (.int p5), .val (.ref b1), .val (.int a2), .val (.int b2), .val (.long t2), .second, .val (.int m2), .val (.int md), .unset, .val (.ref b14), .val (.int (1 : Int32))] [(.ref b14), (.ref b1)])) (fun _ kk => XS.aload X16.here hx rfl (hb hby at_159) rfl rfl kk) ?_
            obtain ⟨cq22, kq22, q22a, q22b, q22c⟩ := isOf hZ rfl E_b1
            obtain ⟨_, _, ⟨T22, L22, k22, n22⟩, -, X22, ⟨Lc22, hQ22, l22, y22, z22⟩, st22⟩ := X16.virtualBack hx (y := (⟨"com/example/offset_lookup/offsetlookup/protocol/ListOffsetsRequest$Partition", "equals", "(Ljava/lang/Object;)Z"⟩ : MethodName)) (z := (⟨"com/example/offset_lookup/offsetlookup/protocol/ListOffsetsRequest$Partition", "equals", "(Ljava/lang/Object;)Z"⟩ : MethodName)) hown (mvT hZ (hw _ (List.mem_of_getElem? (i := 17) rfl))) (mvT hZ (hw _ (List.mem_of_getElem? (i := 18) rfl))) (notFace_of_selects (args := #[]) (mvT hZ (hw _ (List.mem_of_getElem? (i := 20) rfl)))) (mvT hZ (hw _ (List.mem_of_getElem? (i := 20) rfl))) (mvT hZ (hw _ (List.mem_of_getElem? (i := 19) rfl))) (by decide) (backOf (W := 0) (rmEq l Z az hw [] b1 b14 p0 p1 q2 p3 a2 b2 t2 m2 T16.heap n0 Zs17 E_b1 Fc3_0 Fc3_1 Fc3_2 Fc3_3 E_b14 Fc16_0 Fc16_1 Fc16_2 Fc16_3) hZ (hw _ (List.mem_of_getElem? (i := 21) rfl)) (hw _ (List.mem_of_getElem? (i := 2) rfl)) (by decide) (by decide)) q22a q22c (g := (mkF m 161 #[.val (.int p0), .val (.int p1), .val (.long q2), .second, .val (.int p3), .val (.long q4), .second, .val (.int p5), .val (.ref b1), .val (.int a2), .val (.int b2), .val (.long t2), .second, .val (.int m2), .val (.int md), .unset, .val (.ref b14), .val (.int (1 : Int32))] [(.ref b14), (.ref b1)])) rfl (by rw [hml]; rfl) (Steps.refl _) (argsL := [(.ref b14)]) (rest := []) (lenOf pd_2 rfl) rfl (by show 2 * 0 + _ ≤ _; exact Nat.le_of_eq rfl) (hb hby at_161) (fun _ _ => ⟨rfl, rfl, (by decide : 2 + 0 ≤ _), (by decide : 8 + 0 ≤ _)⟩)
            dsimp only [Pt.U, Pt.locs, Pt.cells, Pt.slots] at X22 l22 y22 z22 st22 hQ22
            subst l22 y22 z22
            obtain ⟨hv22, N22q, e22⟩ := hQ22
            rw [show fEq p0 p1 q2 p3 a2 b2 t2 m2 = (1 : Int32) from by unfold fEq; rw [if_pos hc18, if_pos hc19, if_pos hc20, if_pos hc21]] at hv22
            subst hv22
            have N22 := Fr.app N16 N22q
            refine Go.tr (S' := T22.setTop (mkF m 164 #[.val (.int p0), .val (.int p1), .val (.long q2), .second, .val (.int p3), .val (.long q4), .second, .val (.int p5), .val (.ref b1), .val (.int a2), .val (.int b2), .val (.long t2), .second, .val (.int m2), .val (.int md), .unset, .val (.ref b14), .val (.int (1 : Int32))] [(.int (1 : Int32))])) st22 ?_
            refine Go.st (S' := T22.setTop (mkF m 166 #[.val (.int p0), .val (.int p1), .val (.long q2), .second, .val (.int p3), .val (.long q4), .second, .val (.int p5), .val (.ref b1), .val (.int a2), .val (.int b2), .val (.long t2), .second, .val (.int m2), .val (.int md), .unset, .val (.ref b14), .val (.int (1 : Int32))] [(.int (1 : Int32)), (.int (1 : Int32))])) (fun _ kk => XS.iload X22.here hx rfl (hb hby at_164) rfl kk) ?_
            refine Go.st (S' := T22.setTop (mkF m 169 #[.val (.int p0), .val (.int p1), .val (.long q2), .second, .val (.int p3), .val (.long q4), .second, .val (.int p5), .val (.ref b1), .val (.int a2), .val (.int b2), .val (.long t2), .second, .val (.int m2), .val (.int md), .unset, .val (.ref b14), .val (.int (1 : Int32))] [])) (fun _ kk => XS.icmpNo X22.here hx rfl (hb hby at_166) rfl (teq (by decide : (1 : Int32) = (1 : Int32))).2 kk) ?_
            refine Go.st (S' := T22.setTop (mkF m 171 #[.val (.int p0), .val (.int p1), .val (.long q2), .second, .val (.int p3), .val (.long q4), .second, .val (.int p5), .val (.ref b1), .val (.int a2), .val (.int b2), .val (.long t2), .second, .val (.int m2), .val (.int md), .unset, .val (.ref b14), .val (.int (1 : Int32))] [(.ref b14)])) (fun _ kk => XS.aload X22.here hx rfl (hb hby at_169) rfl rfl kk) ?_
            refine Go.st (S' := T22.setTop (mkF m 173 #[.val (.int p0), .val (.int p1), .val (.long q2), .second, .val (.int p3), .val (.long q4), .second, .val (.int p5), .val (.ref b1), .val (.int a2), .val (.int b2), .val (.long t2), .second, .val (.int m2), .val (.int md), .unset, .val (.ref b14), .val (.int (1 : Int32))] [(.ref b1), (.ref b14)])) (fun _ kk => XS.aload X22.here hx rfl (hb hby at_171) rfl rfl kk) ?_
            obtain ⟨cq23, kq23, q23a, q23b, q23c⟩ := isOf hZ e22 E_b14
            obtain ⟨_, _, ⟨T23, L23, k23, n23⟩, -, X23, ⟨Lc23, hQ23, l23, y23, z23⟩, st23⟩ := X22.virtualBack hx (y := (⟨"com/example/offset_lookup/offsetlookup/protocol/ListOffsetsRequest$Partition", "equals", "(Ljava/lang/Object;)Z"⟩ : MethodName)) (z := (⟨"com/example/offset_lookup/offsetlookup/protocol/ListOffsetsRequest$Partition", "equals", "(Ljava/lang/Object;)Z"⟩ : MethodName)) hown (mvT hZ (hw _ (List.mem_of_getElem? (i := 17) rfl))) (mvT hZ (hw _ (List.mem_of_getElem? (i := 18) rfl))) (notFace_of_selects (args := #[]) (mvT hZ (hw _ (List.mem_of_getElem? (i := 20) rfl)))) (mvT hZ (hw _ (List.mem_of_getElem? (i := 20) rfl))) (mvT hZ (hw _ (List.mem_of_getElem? (i := 19) rfl))) (by decide) (backOf (W := 0) (rmEq l Z az hw [] b14 b1 a2 b2 t2 m2 p0 p1 q2 p3 T16.heap n0 Zs17 E_b14 Fc16_0 Fc16_1 Fc16_2 Fc16_3 E_b1 Fc3_0 Fc3_1 Fc3_2 Fc3_3) hZ (hw _ (List.mem_of_getElem? (i := 21) rfl)) (hw _ (List.mem_of_getElem? (i := 2) rfl)) (by decide) (by decide)) q23a q23c (g := (mkF m 173 #[.val (.int p0), .val (.int p1), .val (.long q2), .second, .val (.int p3), .val (.long q4), .second, .val (.int p5), .val (.ref b1), .val (.int a2), .val (.int b2), .val (.long t2), .second, .val (.int m2), .val (.int md), .unset, .val (.ref b14), .val (.int (1 : Int32))] [(.ref b1), (.ref b14)])) rfl (by rw [hml]; rfl) (Steps.refl _) (argsL := [(.ref b1)]) (rest := []) (lenOf pd_2 rfl) rfl (by show 2 * 0 + _ ≤ _; exact Nat.le_of_eq rfl) (hb hby at_173) (fun _ _ => ⟨rfl, e22, (by decide : 2 + 0 ≤ _), (by decide : 8 + 0 ≤ _)⟩)
            dsimp only [Pt.U, Pt.locs, Pt.cells, Pt.slots] at X23 l23 y23 z23 st23 hQ23
            subst l23 y23 z23
            obtain ⟨hv23, N23q, e23⟩ := hQ23
            rw [show fEq a2 b2 t2 m2 p0 p1 q2 p3 = (1 : Int32) from by unfold fEq; rw [if_pos (Eq.symm hc18), if_pos (Eq.symm hc19), if_pos (Eq.symm hc20), if_pos (Eq.symm hc21)]] at hv23
            subst hv23
            have N23 := Fr.app N22 N23q
            refine Go.tr (S' := T23.setTop (mkF m 176 #[.val (.int p0), .val (.int p1), .val (.long q2), .second, .val (.int p3), .val (.long q4), .second, .val (.int p5), .val (.ref b1), .val (.int a2), .val (.int b2), .val (.long t2), .second, .val (.int m2), .val (.int md), .unset, .val (.ref b14), .val (.int (1 : Int32))] [(.int (1 : Int32))])) st23 ?_
            refine Go.st (S' := T23.setTop (mkF m 178 #[.val (.int p0), .val (.int p1), .val (.long q2), .second, .val (.int p3), .val (.long q4), .second, .val (.int p5), .val (.ref b1), .val (.int a2), .val (.int b2), .val (.long t2), .second, .val (.int m2), .val (.int md), .unset, .val (.ref b14), .val (.int (1 : Int32))] [(.int (1 : Int32)), (.int (1 : Int32))])) (fun _ kk => XS.iload X23.here hx rfl (hb hby at_176) rfl kk) ?_
            refine Go.st (S' := T23.setTop (mkF m 181 #[.val (.int p0), .val (.int p1), .val (.long q2), .second, .val (.int p3), .val (.long q4), .second, .val (.int p5), .val (.ref b1), .val (.int a2), .val (.int b2), .val (.long t2), .second, .val (.int m2), .val (.int md), .unset, .val (.ref b14), .val (.int (1 : Int32))] [])) (fun _ kk => XS.icmpNo X23.here hx rfl (hb hby at_178) rfl (teq (by decide : (1 : Int32) = (1 : Int32))).2 kk) ?_
            refine Go.st (S' := T23.setTop (mkF m 182 #[.val (.int p0), .val (.int p1), .val (.long q2), .second, .val (.int p3), .val (.long q4), .second, .val (.int p5), .val (.ref b1), .val (.int a2), .val (.int b2), .val (.long t2), .second, .val (.int m2), .val (.int md), .unset, .val (.ref b14), .val (.int (1 : Int32))] [(.int (1 : Int32))])) (fun _ kk => XS.iconst X23.here hx rfl (hb hby at_181) kk) ?_
            refine Go.st (S' := T23.setTop (mkF m 186 #[.val (.int p0), .val (.int p1), .val (.long q2), .second, .val (.int p3), .val (.long q4), .second, .val (.int p5), .val (.ref b1), .val (.int a2), .val (.int b2), .val (.long t2), .second, .val (.int m2), .val (.int md), .unset, .val (.ref b14), .val (.int (1 : Int32))] [(.int (1 : Int32))])) (fun _ kk => XS.goto X23.here hx rfl (pc0 := 182) (pc' := 186) rfl (hb hby at_182) (by decide) (by decide) kk) ?_
            refine Go.st (S' := T23.setTop (mkF m 188 #[.val (.int p0), .val (.int p1), .val (.long q2), .second, .val (.int p3), .val (.long q4), .second, .val (.int p5), .val (.ref b1), .val (.int a2), .val (.int b2), .val (.long t2), .second, .val (.int m2), .val (.int md), .val (.int (1 : Int32)), .val (.ref b14), .val (.int (1 : Int32))] [])) (fun _ kk => XS.istore X23.here hx rfl (hb hby at_186) rfl (l' := #[.val (.int p0), .val (.int p1), .val (.long q2), .second, .val (.int p3), .val (.long q4), .second, .val (.int p5), .val (.ref b1), .val (.int a2), .val (.int b2), .val (.long t2), .second, .val (.int m2), .val (.int md), .val (.int (1 : Int32)), .val (.ref b14), .val (.int (1 : Int32))]) rfl kk) ?_
            refine Go.st (S' := T23.setTop (mkF m 253 #[.val (.int p0), .val (.int p1), .val (.long q2), .second, .val (.int p3), .val (.long q4), .second, .val (.int p5), .val (.ref b1), .val (.int a2), .val (.int b2), .val (.long t2), .second, .val (.int m2), .val (.int md), .val (.int (1 : Int32)), .val (.ref b14), .val (.int (1 : Int32))] [])) (fun _ kk => XS.goto X23.here hx rfl (pc0 := 188) (pc' := 253) rfl (hb hby at_188) (by decide) (by decide) kk) ?_
            refine Go.st (S' := T23.setTop (mkF m 255 #[.val (.int p0), .val (.int p1), .val (.long q2), .second, .val (.int p3), .val (.long q4), .second, .val (.int p5), .val (.ref b1), .val (.int a2), .val (.int b2), .val (.long t2), .second, .val (.int m2), .val (.int md), .val (.int (1 : Int32)), .val (.ref b14), .val (.int (1 : Int32))] [(.int (1 : Int32))])) (fun _ kk => XS.iload X23.here hx rfl (hb hby at_253) rfl kk) ?_
            exact Go.retN X23 hx hlk (t := .boolean) Bd.returns (by simp) (hb hby at_255) (⟨rfl, N23⟩) (by decide) (by decide)
          · refine Go.st (S' := T16.setTop (mkF m 154 #[.val (.int p0), .val (.int p1), .val (.long q2), .second, .val (.int p3), .val (.long q4), .second, .val (.int p5), .val (.ref b1), .val (.int a2), .val (.int b2), .val (.long t2), .second, .val (.int m2), .val (.int md), .unset, .val (.ref b14), .unset] [])) (fun _ kk => XS.icmpYes X16.here hx rfl (pc0 := 147) (pc' := 154) rfl (hb hby at_147) rfl (feq hc21).2 (by decide) (by decide) kk) ?_
            refine Go.st (S' := T16.setTop (mkF m 155 #[.val (.int p0), .val (.int p1), .val (.long q2), .second, .val (.int p3), .val (.long q4), .second, .val (.int p5), .val (.ref b1), .val (.int a2), .val (.int b2), .val (.long t2), .second, .val (.int m2), .val (.int md), .unset, .val (.ref b14), .unset] [(.int (0 : Int32))])) (fun _ kk => XS.iconst X16.here hx rfl (hb hby at_154) kk) ?_
            refine Go.st (S' := T16.setTop (mkF m 157 #[.val (.int p0), .val (.int p1), .val (.long q2), .second, .val (.int p3), .val (.long q4), .second, .val (.int p5), .val (.ref b1), .val (.int a2), .val (.int b2), .val (.long t2), .second, .val (.int m2), .val (.int md), .unset, .val (.ref b14), .val (.int (0 : Int32))] [])) (fun _ kk => XS.istore X16.here hx rfl (hb hby at_155) rfl (l' := #[.val (.int p0), .val (.int p1), .val (.long q2), .second, .val (.int p3), .val (.long q4), .second, .val (.int p5), .val (.ref b1), .val (.int a2), .val (.int b2), .val (.long t2), .second, .val (.int m2), .val (.int md), .unset, .val (.ref b14), .val (.int (0 : Int32))]) rfl kk) ?_
            refine Go.st (S' := T16.setTop (mkF m 159 #[.val (.int p0), .val (.int p1), .val (.long q2), .second, .val (.int p3), .val (.long q4), .second, .val (.int p5), .val (.ref b1), .val (.int a2), .val (.int b2), .val (.long t2), .second, .val (.int m2), .val (.int md), .unset, .val (.ref b14), .val (.int (0 : Int32))] [(.ref b1)])) (fun _ kk => XS.aload X16.here hx rfl (hb hby at_157) rfl rfl kk) ?_
            refine Go.st (S' := T16.setTop (mkF m 161 #[.val (.int p0), .val (.int p1), .val (.long q2), .second, .val (.int p3), .val (.long q4), .second, .val (.int p5), .val (.ref b1), .val (.int a2), .val (.int b2), .val (.long t2), .second, .val (.int m2), .val (.int md), .unset, .val (.ref b14), .val (.int (0 : Int32))] [(.ref b14), (.ref b1)])) (fun _ kk => XS.aload X16.here hx rfl (hb hby at_159) rfl rfl kk) ?_
            obtain ⟨cq24, kq24, q24a, q24b, q24c⟩ := isOf hZ rfl E_b1
            obtain ⟨_, _, ⟨T24, L24, k24, n24⟩, -, X24, ⟨Lc24, hQ24, l24, y24, z24⟩, st24⟩ := X16.virtualBack hx (y := (⟨"com/example/offset_lookup/offsetlookup/protocol/ListOffsetsRequest$Partition", "equals", "(Ljava/lang/Object;)Z"⟩ : MethodName)) (z := (⟨"com/example/offset_lookup/offsetlookup/protocol/ListOffsetsRequest$Partition", "equals", "(Ljava/lang/Object;)Z"⟩ : MethodName)) hown (mvT hZ (hw _ (List.mem_of_getElem? (i := 17) rfl))) (mvT hZ (hw _ (List.mem_of_getElem? (i := 18) rfl))) (notFace_of_selects (args := #[]) (mvT hZ (hw _ (List.mem_of_getElem? (i := 20) rfl)))) (mvT hZ (hw _ (List.mem_of_getElem? (i := 20) rfl))) (mvT hZ (hw _ (List.mem_of_getElem? (i := 19) rfl))) (by decide) (backOf (W := 0) (rmEq l Z az hw [] b1 b14 p0 p1 q2 p3 a2 b2 t2 m2 T16.heap n0 Zs17 E_b1 Fc3_0 Fc3_1 Fc3_2 Fc3_3 E_b14 Fc16_0 Fc16_1 Fc16_2 Fc16_3) hZ (hw _ (List.mem_of_getElem? (i := 21) rfl)) (hw _ (List.mem_of_getElem? (i := 2) rfl)) (by decide) (by decide)) q24a q24c (g := (mkF m 161 #[.val (.int p0), .val (.int p1), .val (.long q2), .second, .val (.int p3), .val (.long q4), .second, .val (.int p5), .val (.ref b1), .val (.int a2), .val (.int b2), .val (.long t2), .second, .val (.int m2), .val (.int md), .unset, .val (.ref b14), .val (.int (0 : Int32))] [(.ref b14), (.ref b1)])) rfl (by rw [hml]; rfl) (Steps.refl _) (argsL := [(.ref b14)]) (rest := []) (lenOf pd_2 rfl) rfl (by show 2 * 0 + _ ≤ _; exact Nat.le_of_eq rfl) (hb hby at_161) (fun _ _ => ⟨rfl, rfl, (by decide : 2 + 0 ≤ _), (by decide : 8 + 0 ≤ _)⟩)
            dsimp only [Pt.U, Pt.locs, Pt.cells, Pt.slots] at X24 l24 y24 z24 st24 hQ24
            subst l24 y24 z24
            obtain ⟨hv24, N24q, e24⟩ := hQ24
            rw [show fEq p0 p1 q2 p3 a2 b2 t2 m2 = (0 : Int32) from by unfold fEq; rw [if_pos hc18, if_pos hc19, if_pos hc20, if_neg hc21]] at hv24
            subst hv24
            have N24 := Fr.app N16 N24q
            refine Go.tr (S' := T24.setTop (mkF m 164 #[.val (.int p0), .val (.int p1), .val (.long q2), .second, .val (.int p3), .val (.long q4), .second, .val (.int p5), .val (.ref b1), .val (.int a2), .val (.int b2), .val (.long t2), .second, .val (.int m2), .val (.int md), .unset, .val (.ref b14), .val (.int (0 : Int32))] [(.int (0 : Int32))])) st24 ?_
            refine Go.st (S' := T24.setTop (mkF m 166 #[.val (.int p0), .val (.int p1), .val (.long q2), .second, .val (.int p3), .val (.long q4), .second, .val (.int p5), .val (.ref b1), .val (.int a2), .val (.int b2), .val (.long t2), .second, .val (.int m2), .val (.int md), .unset, .val (.ref b14), .val (.int (0 : Int32))] [(.int (0 : Int32)), (.int (0 : Int32))])) (fun _ kk => XS.iload X24.here hx rfl (hb hby at_164) rfl kk) ?_
            refine Go.st (S' := T24.setTop (mkF m 169 #[.val (.int p0), .val (.int p1), .val (.long q2), .second, .val (.int p3), .val (.long q4), .second, .val (.int p5), .val (.ref b1), .val (.int a2), .val (.int b2), .val (.long t2), .second, .val (.int m2), .val (.int md), .unset, .val (.ref b14), .val (.int (0 : Int32))] [])) (fun _ kk => XS.icmpNo X24.here hx rfl (hb hby at_166) rfl (teq (by decide : (0 : Int32) = (0 : Int32))).2 kk) ?_
            refine Go.st (S' := T24.setTop (mkF m 171 #[.val (.int p0), .val (.int p1), .val (.long q2), .second, .val (.int p3), .val (.long q4), .second, .val (.int p5), .val (.ref b1), .val (.int a2), .val (.int b2), .val (.long t2), .second, .val (.int m2), .val (.int md), .unset, .val (.ref b14), .val (.int (0 : Int32))] [(.ref b14)])) (fun _ kk => XS.aload X24.here hx rfl (hb hby at_169) rfl rfl kk) ?_
            refine Go.st (S' := T24.setTop (mkF m 173 #[.val (.int p0), .val (.int p1), .val (.long q2), .second, .val (.int p3), .val (.long q4), .second, .val (.int p5), .val (.ref b1), .val (.int a2), .val (.int b2), .val (.long t2), .second, .val (.int m2), .val (.int md), .unset, .val (.ref b14), .val (.int (0 : Int32))] [(.ref b1), (.ref b14)])) (fun _ kk => XS.aload X24.here hx rfl (hb hby at_171) rfl rfl kk) ?_
            obtain ⟨cq25, kq25, q25a, q25b, q25c⟩ := isOf hZ e24 E_b14
            obtain ⟨_, _, ⟨T25, L25, k25, n25⟩, -, X25, ⟨Lc25, hQ25, l25, y25, z25⟩, st25⟩ := X24.virtualBack hx (y := (⟨"com/example/offset_lookup/offsetlookup/protocol/ListOffsetsRequest$Partition", "equals", "(Ljava/lang/Object;)Z"⟩ : MethodName)) (z := (⟨"com/example/offset_lookup/offsetlookup/protocol/ListOffsetsRequest$Partition", "equals", "(Ljava/lang/Object;)Z"⟩ : MethodName)) hown (mvT hZ (hw _ (List.mem_of_getElem? (i := 17) rfl))) (mvT hZ (hw _ (List.mem_of_getElem? (i := 18) rfl))) (notFace_of_selects (args := #[]) (mvT hZ (hw _ (List.mem_of_getElem? (i := 20) rfl)))) (mvT hZ (hw _ (List.mem_of_getElem? (i := 20) rfl))) (mvT hZ (hw _ (List.mem_of_getElem? (i := 19) rfl))) (by decide) (backOf (W := 0) (rmEq l Z az hw [] b14 b1 a2 b2 t2 m2 p0 p1 q2 p3 T16.heap n0 Zs17 E_b14 Fc16_0 Fc16_1 Fc16_2 Fc16_3 E_b1 Fc3_0 Fc3_1 Fc3_2 Fc3_3) hZ (hw _ (List.mem_of_getElem? (i := 21) rfl)) (hw _ (List.mem_of_getElem? (i := 2) rfl)) (by decide) (by decide)) q25a q25c (g := (mkF m 173 #[.val (.int p0), .val (.int p1), .val (.long q2), .second, .val (.int p3), .val (.long q4), .second, .val (.int p5), .val (.ref b1), .val (.int a2), .val (.int b2), .val (.long t2), .second, .val (.int m2), .val (.int md), .unset, .val (.ref b14), .val (.int (0 : Int32))] [(.ref b1), (.ref b14)])) rfl (by rw [hml]; rfl) (Steps.refl _) (argsL := [(.ref b1)]) (rest := []) (lenOf pd_2 rfl) rfl (by show 2 * 0 + _ ≤ _; exact Nat.le_of_eq rfl) (hb hby at_173) (fun _ _ => ⟨rfl, e24, (by decide : 2 + 0 ≤ _), (by decide : 8 + 0 ≤ _)⟩)
            dsimp only [Pt.U, Pt.locs, Pt.cells, Pt.slots] at X25 l25 y25 z25 st25 hQ25
            subst l25 y25 z25
            obtain ⟨hv25, N25q, e25⟩ := hQ25
            rw [show fEq a2 b2 t2 m2 p0 p1 q2 p3 = (0 : Int32) from by unfold fEq; rw [if_pos (Eq.symm hc18), if_pos (Eq.symm hc19), if_pos (Eq.symm hc20), if_neg (fun q => hc21 (Eq.symm q))]] at hv25
            subst hv25
            have N25 := Fr.app N24 N25q
            refine Go.tr (S' := T25.setTop (mkF m 176 #[.val (.int p0), .val (.int p1), .val (.long q2), .second, .val (.int p3), .val (.long q4), .second, .val (.int p5), .val (.ref b1), .val (.int a2), .val (.int b2), .val (.long t2), .second, .val (.int m2), .val (.int md), .unset, .val (.ref b14), .val (.int (0 : Int32))] [(.int (0 : Int32))])) st25 ?_
            refine Go.st (S' := T25.setTop (mkF m 178 #[.val (.int p0), .val (.int p1), .val (.long q2), .second, .val (.int p3), .val (.long q4), .second, .val (.int p5), .val (.ref b1), .val (.int a2), .val (.int b2), .val (.long t2), .second, .val (.int m2), .val (.int md), .unset, .val (.ref b14), .val (.int (0 : Int32))] [(.int (0 : Int32)), (.int (0 : Int32))])) (fun _ kk => XS.iload X25.here hx rfl (hb hby at_176) rfl kk) ?_
            refine Go.st (S' := T25.setTop (mkF m 181 #[.val (.int p0), .val (.int p1), .val (.long q2), .second, .val (.int p3), .val (.long q4), .second, .val (.int p5), .val (.ref b1), .val (.int a2), .val (.int b2), .val (.long t2), .second, .val (.int m2), .val (.int md), .unset, .val (.ref b14), .val (.int (0 : Int32))] [])) (fun _ kk => XS.icmpNo X25.here hx rfl (hb hby at_178) rfl (teq (by decide : (0 : Int32) = (0 : Int32))).2 kk) ?_
            refine Go.st (S' := T25.setTop (mkF m 182 #[.val (.int p0), .val (.int p1), .val (.long q2), .second, .val (.int p3), .val (.long q4), .second, .val (.int p5), .val (.ref b1), .val (.int a2), .val (.int b2), .val (.long t2), .second, .val (.int m2), .val (.int md), .unset, .val (.ref b14), .val (.int (0 : Int32))] [(.int (1 : Int32))])) (fun _ kk => XS.iconst X25.here hx rfl (hb hby at_181) kk) ?_
            refine Go.st (S' := T25.setTop (mkF m 186 #[.val (.int p0), .val (.int p1), .val (.long q2), .second, .val (.int p3), .val (.long q4), .second, .val (.int p5), .val (.ref b1), .val (.int a2), .val (.int b2), .val (.long t2), .second, .val (.int m2), .val (.int md), .unset, .val (.ref b14), .val (.int (0 : Int32))] [(.int (1 : Int32))])) (fun _ kk => XS.goto X25.here hx rfl (pc0 := 182) (pc' := 186) rfl (hb hby at_182) (by decide) (by decide) kk) ?_
            refine Go.st (S' := T25.setTop (mkF m 188 #[.val (.int p0), .val (.int p1), .val (.long q2), .second, .val (.int p3), .val (.long q4), .second, .val (.int p5), .val (.ref b1), .val (.int a2), .val (.int b2), .val (.long t2), .second, .val (.int m2), .val (.int md), .val (.int (1 : Int32)), .val (.ref b14), .val (.int (0 : Int32))] [])) (fun _ kk => XS.istore X25.here hx rfl (hb hby at_186) rfl (l' := #[.val (.int p0), .val (.int p1), .val (.long q2), .second, .val (.int p3), .val (.long q4), .second, .val (.int p5), .val (.ref b1), .val (.int a2), .val (.int b2), .val (.long t2), .second, .val (.int m2), .val (.int md), .val (.int (1 : Int32)), .val (.ref b14), .val (.int (0 : Int32))]) rfl kk) ?_
            refine Go.st (S' := T25.setTop (mkF m 253 #[.val (.int p0), .val (.int p1), .val (.long q2), .second, .val (.int p3), .val (.long q4), .second, .val (.int p5), .val (.ref b1), .val (.int a2), .val (.int b2), .val (.long t2), .second, .val (.int m2), .val (.int md), .val (.int (1 : Int32)), .val (.ref b14), .val (.int (0 : Int32))] [])) (fun _ kk => XS.goto X25.here hx rfl (pc0 := 188) (pc' := 253) rfl (hb hby at_188) (by decide) (by decide) kk) ?_
            refine Go.st (S' := T25.setTop (mkF m 255 #[.val (.int p0), .val (.int p1), .val (.long q2), .second, .val (.int p3), .val (.long q4), .second, .val (.int p5), .val (.ref b1), .val (.int a2), .val (.int b2), .val (.long t2), .second, .val (.int m2), .val (.int md), .val (.int (1 : Int32)), .val (.ref b14), .val (.int (0 : Int32))] [(.int (1 : Int32))])) (fun _ kk => XS.iload X25.here hx rfl (hb hby at_253) rfl kk) ?_
            exact Go.retN X25 hx hlk (t := .boolean) Bd.returns (by simp) (hb hby at_255) (⟨rfl, N25⟩) (by decide) (by decide)
        · refine Go.st (S' := T16.setTop (mkF m 154 #[.val (.int p0), .val (.int p1), .val (.long q2), .second, .val (.int p3), .val (.long q4), .second, .val (.int p5), .val (.ref b1), .val (.int a2), .val (.int b2), .val (.long t2), .second, .val (.int m2), .val (.int md), .unset, .val (.ref b14), .unset] [])) (fun _ kk => XS.ifYes X16.here hx rfl (pc0 := 140) (pc' := 154) rfl (hb hby at_140) rfl ((if0 _ _).trans (feq (fun q => hc20 ((lw_eq q2 t2).mp q))).2) (by decide) (by decide) kk) ?_
          refine Go.st (S' := T16.setTop (mkF m 155 #[.val (.int p0), .val (.int p1), .val (.long q2), .second, .val (.int p3), .val (.long q4), .second, .val (.int p5), .val (.ref b1), .val (.int a2), .val (.int b2), .val (.long t2), .second, .val (.int m2), .val (.int md), .unset, .val (.ref b14), .unset] [(.int (0 : Int32))])) (fun _ kk => XS.iconst X16.here hx rfl (hb hby at_154) kk) ?_
          refine Go.st (S' := T16.setTop (mkF m 157 #[.val (.int p0), .val (.int p1), .val (.long q2), .second, .val (.int p3), .val (.long q4), .second, .val (.int p5), .val (.ref b1), .val (.int a2), .val (.int b2), .val (.long t2), .second, .val (.int m2), .val (.int md), .unset, .val (.ref b14), .val (.int (0 : Int32))] [])) (fun _ kk => XS.istore X16.here hx rfl (hb hby at_155) rfl (l' := #[.val (.int p0), .val (.int p1), .val (.long q2), .second, .val (.int p3), .val (.long q4), .second, .val (.int p5), .val (.ref b1), .val (.int a2), .val (.int b2), .val (.long t2), .second, .val (.int m2), .val (.int md), .unset, .val (.ref b14), .val (.int (0 : Int32))]) rfl kk) ?_
          refine Go.st (S' := T16.setTop (mkF m 159 #[.val (.int p0), .val (.int p1), .val (.long q2), .second, .val (.int p3), .val (.long q4), .second, .val (.int p5), .val (.ref b1), .val (.int a2), .val (.int b2), .val (.long t2), .second, .val (.int m2), .val (.int md), .unset, .val (.ref b14), .val (.int (0 : Int32))] [(.ref b1)])) (fun _ kk => XS.aload X16.here hx rfl (hb hby at_157) rfl rfl kk) ?_
          refine Go.st (S' := T16.setTop (mkF m 161 #[.val (.int p0), .val (.int p1), .val (.long q2), .second, .val (.int p3), .val (.long q4), .second, .val (.int p5), .val (.ref b1), .val (.int a2), .val (.int b2), .val (.long t2), .second, .val (.int m2), .val (.int md), .unset, .val (.ref b14), .val (.int (0 : Int32))] [(.ref b14), (.ref b1)])) (fun _ kk => XS.aload X16.here hx rfl (hb hby at_159) rfl rfl kk) ?_
          obtain ⟨cq26, kq26, q26a, q26b, q26c⟩ := isOf hZ rfl E_b1
          obtain ⟨_, _, ⟨T26, L26, k26, n26⟩, -, X26, ⟨Lc26, hQ26, l26, y26, z26⟩, st26⟩ := X16.virtualBack hx (y := (⟨"com/example/offset_lookup/offsetlookup/protocol/ListOffsetsRequest$Partition", "equals", "(Ljava/lang/Object;)Z"⟩ : MethodName)) (z := (⟨"com/example/offset_lookup/offsetlookup/protocol/ListOffsetsRequest$Partition", "equals", "(Ljava/lang/Object;)Z"⟩ : MethodName)) hown (mvT hZ (hw _ (List.mem_of_getElem? (i := 17) rfl))) (mvT hZ (hw _ (List.mem_of_getElem? (i := 18) rfl))) (notFace_of_selects (args := #[]) (mvT hZ (hw _ (List.mem_of_getElem? (i := 20) rfl)))) (mvT hZ (hw _ (List.mem_of_getElem? (i := 20) rfl))) (mvT hZ (hw _ (List.mem_of_getElem? (i := 19) rfl))) (by decide) (backOf (W := 0) (rmEq l Z az hw [] b1 b14 p0 p1 q2 p3 a2 b2 t2 m2 T16.heap n0 Zs17 E_b1 Fc3_0 Fc3_1 Fc3_2 Fc3_3 E_b14 Fc16_0 Fc16_1 Fc16_2 Fc16_3) hZ (hw _ (List.mem_of_getElem? (i := 21) rfl)) (hw _ (List.mem_of_getElem? (i := 2) rfl)) (by decide) (by decide)) q26a q26c (g := (mkF m 161 #[.val (.int p0), .val (.int p1), .val (.long q2), .second, .val (.int p3), .val (.long q4), .second, .val (.int p5), .val (.ref b1), .val (.int a2), .val (.int b2), .val (.long t2), .second, .val (.int m2), .val (.int md), .unset, .val (.ref b14), .val (.int (0 : Int32))] [(.ref b14), (.ref b1)])) rfl (by rw [hml]; rfl) (Steps.refl _) (argsL := [(.ref b14)]) (rest := []) (lenOf pd_2 rfl) rfl (by show 2 * 0 + _ ≤ _; exact Nat.le_of_eq rfl) (hb hby at_161) (fun _ _ => ⟨rfl, rfl, (by decide : 2 + 0 ≤ _), (by decide : 8 + 0 ≤ _)⟩)
          dsimp only [Pt.U, Pt.locs, Pt.cells, Pt.slots] at X26 l26 y26 z26 st26 hQ26
          subst l26 y26 z26
          obtain ⟨hv26, N26q, e26⟩ := hQ26
          rw [show fEq p0 p1 q2 p3 a2 b2 t2 m2 = (0 : Int32) from by unfold fEq; rw [if_pos hc18, if_pos hc19, if_neg hc20]] at hv26
          subst hv26
          have N26 := Fr.app N16 N26q
          refine Go.tr (S' := T26.setTop (mkF m 164 #[.val (.int p0), .val (.int p1), .val (.long q2), .second, .val (.int p3), .val (.long q4), .second, .val (.int p5), .val (.ref b1), .val (.int a2), .val (.int b2), .val (.long t2), .second, .val (.int m2), .val (.int md), .unset, .val (.ref b14), .val (.int (0 : Int32))] [(.int (0 : Int32))])) st26 ?_
          refine Go.st (S' := T26.setTop (mkF m 166 #[.val (.int p0), .val (.int p1), .val (.long q2), .second, .val (.int p3), .val (.long q4), .second, .val (.int p5), .val (.ref b1), .val (.int a2), .val (.int b2), .val (.long t2), .second, .val (.int m2), .val (.int md), .unset, .val (.ref b14), .val (.int (0 : Int32))] [(.int (0 : Int32)), (.int (0 : Int32))])) (fun _ kk => XS.iload X26.here hx rfl (hb hby at_164) rfl kk) ?_
          refine Go.st (S' := T26.setTop (mkF m 169 #[.val (.int p0), .val (.int p1), .val (.long q2), .second, .val (.int p3), .val (.long q4), .second, .val (.int p5), .val (.ref b1), .val (.int a2), .val (.int b2), .val (.long t2), .second, .val (.int m2), .val (.int md), .unset, .val (.ref b14), .val (.int (0 : Int32))] [])) (fun _ kk => XS.icmpNo X26.here hx rfl (hb hby at_166) rfl (teq (by decide : (0 : Int32) = (0 : Int32))).2 kk) ?_
          refine Go.st (S' := T26.setTop (mkF m 171 #[.val (.int p0), .val (.int p1), .val (.long q2), .second, .val (.int p3), .val (.long q4), .second, .val (.int p5), .val (.ref b1), .val (.int a2), .val (.int b2), .val (.long t2), .second, .val (.int m2), .val (.int md), .unset, .val (.ref b14), .val (.int (0 : Int32))] [(.ref b14)])) (fun _ kk => XS.aload X26.here hx rfl (hb hby at_169) rfl rfl kk) ?_
          refine Go.st (S' := T26.setTop (mkF m 173 #[.val (.int p0), .val (.int p1), .val (.long q2), .second, .val (.int p3), .val (.long q4), .second, .val (.int p5), .val (.ref b1), .val (.int a2), .val (.int b2), .val (.long t2), .second, .val (.int m2), .val (.int md), .unset, .val (.ref b14), .val (.int (0 : Int32))] [(.ref b1), (.ref b14)])) (fun _ kk => XS.aload X26.here hx rfl (hb hby at_171) rfl rfl kk) ?_
          obtain ⟨cq27, kq27, q27a, q27b, q27c⟩ := isOf hZ e26 E_b14
          obtain ⟨_, _, ⟨T27, L27, k27, n27⟩, -, X27, ⟨Lc27, hQ27, l27, y27, z27⟩, st27⟩ := X26.virtualBack hx (y := (⟨"com/example/offset_lookup/offsetlookup/protocol/ListOffsetsRequest$Partition", "equals", "(Ljava/lang/Object;)Z"⟩ : MethodName)) (z := (⟨"com/example/offset_lookup/offsetlookup/protocol/ListOffsetsRequest$Partition", "equals", "(Ljava/lang/Object;)Z"⟩ : MethodName)) hown (mvT hZ (hw _ (List.mem_of_getElem? (i := 17) rfl))) (mvT hZ (hw _ (List.mem_of_getElem? (i := 18) rfl))) (notFace_of_selects (args := #[]) (mvT hZ (hw _ (List.mem_of_getElem? (i := 20) rfl)))) (mvT hZ (hw _ (List.mem_of_getElem? (i := 20) rfl))) (mvT hZ (hw _ (List.mem_of_getElem? (i := 19) rfl))) (by decide) (backOf (W := 0) (rmEq l Z az hw [] b14 b1 a2 b2 t2 m2 p0 p1 q2 p3 T16.heap n0 Zs17 E_b14 Fc16_0 Fc16_1 Fc16_2 Fc16_3 E_b1 Fc3_0 Fc3_1 Fc3_2 Fc3_3) hZ (hw _ (List.mem_of_getElem? (i := 21) rfl)) (hw _ (List.mem_of_getElem? (i := 2) rfl)) (by decide) (by decide)) q27a q27c (g := (mkF m 173 #[.val (.int p0), .val (.int p1), .val (.long q2), .second, .val (.int p3), .val (.long q4), .second, .val (.int p5), .val (.ref b1), .val (.int a2), .val (.int b2), .val (.long t2), .second, .val (.int m2), .val (.int md), .unset, .val (.ref b14), .val (.int (0 : Int32))] [(.ref b1), (.ref b14)])) rfl (by rw [hml]; rfl) (Steps.refl _) (argsL := [(.ref b1)]) (rest := []) (lenOf pd_2 rfl) rfl (by show 2 * 0 + _ ≤ _; exact Nat.le_of_eq rfl) (hb hby at_173) (fun _ _ => ⟨rfl, e26, (by decide : 2 + 0 ≤ _), (by decide : 8 + 0 ≤ _)⟩)
          dsimp only [Pt.U, Pt.locs, Pt.cells, Pt.slots] at X27 l27 y27 z27 st27 hQ27
          subst l27 y27 z27
          obtain ⟨hv27, N27q, e27⟩ := hQ27
          rw [show fEq a2 b2 t2 m2 p0 p1 q2 p3 = (0 : Int32) from by unfold fEq; rw [if_pos (Eq.symm hc18), if_pos (Eq.symm hc19), if_neg (fun q => hc20 (Eq.symm q))]] at hv27
          subst hv27
          have N27 := Fr.app N26 N27q
          refine Go.tr (S' := T27.setTop (mkF m 176 #[.val (.int p0), .val (.int p1), .val (.long q2), .second, .val (.int p3), .val (.long q4), .second, .val (.int p5), .val (.ref b1), .val (.int a2), .val (.int b2), .val (.long t2), .second, .val (.int m2), .val (.int md), .unset, .val (.ref b14), .val (.int (0 : Int32))] [(.int (0 : Int32))])) st27 ?_
          refine Go.st (S' := T27.setTop (mkF m 178 #[.val (.int p0), .val (.int p1), .val (.long q2), .second, .val (.int p3), .val (.long q4), .second, .val (.int p5), .val (.ref b1), .val (.int a2), .val (.int b2), .val (.long t2), .second, .val (.int m2), .val (.int md), .unset, .val (.ref b14), .val (.int (0 : Int32))] [(.int (0 : Int32)), (.int (0 : Int32))])) (fun _ kk => XS.iload X27.here hx rfl (hb hby at_176) rfl kk) ?_
          refine Go.st (S' := T27.setTop (mkF m 181 #[.val (.int p0), .val (.int p1), .val (.long q2), .second, .val (.int p3), .val (.long q4), .second, .val (.int p5), .val (.ref b1), .val (.int a2), .val (.int b2), .val (.long t2), .second, .val (.int m2), .val (.int md), .unset, .val (.ref b14), .val (.int (0 : Int32))] [])) (fun _ kk => XS.icmpNo X27.here hx rfl (hb hby at_178) rfl (teq (by decide : (0 : Int32) = (0 : Int32))).2 kk) ?_
          refine Go.st (S' := T27.setTop (mkF m 182 #[.val (.int p0), .val (.int p1), .val (.long q2), .second, .val (.int p3), .val (.long q4), .second, .val (.int p5), .val (.ref b1), .val (.int a2), .val (.int b2), .val (.long t2), .second, .val (.int m2), .val (.int md), .unset, .val (.ref b14), .val (.int (0 : Int32))] [(.int (1 : Int32))])) (fun _ kk => XS.iconst X27.here hx rfl (hb hby at_181) kk) ?_
          refine Go.st (S' := T27.setTop (mkF m 186 #[.val (.int p0), .val (.int p1), .val (.long q2), .second, .val (.int p3), .val (.long q4), .second, .val (.int p5), .val (.ref b1), .val (.int a2), .val (.int b2), .val (.long t2), .second, .val (.int m2), .val (.int md), .unset, .val (.ref b14), .val (.int (0 : Int32))] [(.int (1 : Int32))])) (fun _ kk => XS.goto X27.here hx rfl (pc0 := 182) (pc' := 186) rfl (hb hby at_182) (by decide) (by decide) kk) ?_
          refine Go.st (S' := T27.setTop (mkF m 188 #[.val (.int p0), .val (.int p1), .val (.long q2), .second, .val (.int p3), .val (.long q4), .second, .val (.int p5), .val (.ref b1), .val (.int a2), .val (.int b2), .val (.long t2), .second, .val (.int m2), .val (.int md), .val (.int (1 : Int32)), .val (.ref b14), .val (.int (0 : Int32))] [])) (fun _ kk => XS.istore X27.here hx rfl (hb hby at_186) rfl (l' := #[.val (.int p0), .val (.int p1), .val (.long q2), .second, .val (.int p3), .val (.long q4), .second, .val (.int p5), .val (.ref b1), .val (.int a2), .val (.int b2), .val (.long t2), .second, .val (.int m2), .val (.int md), .val (.int (1 : Int32)), .val (.ref b14), .val (.int (0 : Int32))]) rfl kk) ?_
          refine Go.st (S' := T27.setTop (mkF m 253 #[.val (.int p0), .val (.int p1), .val (.long q2), .second, .val (.int p3), .val (.long q4), .second, .val (.int p5), .val (.ref b1), .val (.int a2), .val (.int b2), .val (.long t2), .second, .val (.int m2), .val (.int md), .val (.int (1 : Int32)), .val (.ref b14), .val (.int (0 : Int32))] [])) (fun _ kk => XS.goto X27.here hx rfl (pc0 := 188) (pc' := 253) rfl (hb hby at_188) (by decide) (by decide) kk) ?_
          refine Go.st (S' := T27.setTop (mkF m 255 #[.val (.int p0), .val (.int p1), .val (.long q2), .second, .val (.int p3), .val (.long q4), .second, .val (.int p5), .val (.ref b1), .val (.int a2), .val (.int b2), .val (.long t2), .second, .val (.int m2), .val (.int md), .val (.int (1 : Int32)), .val (.ref b14), .val (.int (0 : Int32))] [(.int (1 : Int32))])) (fun _ kk => XS.iload X27.here hx rfl (hb hby at_253) rfl kk) ?_
          exact Go.retN X27 hx hlk (t := .boolean) Bd.returns (by simp) (hb hby at_255) (⟨rfl, N27⟩) (by decide) (by decide)
      · refine Go.st (S' := T16.setTop (mkF m 154 #[.val (.int p0), .val (.int p1), .val (.long q2), .second, .val (.int p3), .val (.long q4), .second, .val (.int p5), .val (.ref b1), .val (.int a2), .val (.int b2), .val (.long t2), .second, .val (.int m2), .val (.int md), .unset, .val (.ref b14), .unset] [])) (fun _ kk => XS.icmpYes X16.here hx rfl (pc0 := 133) (pc' := 154) rfl (hb hby at_133) rfl (feq hc19).2 (by decide) (by decide) kk) ?_
        refine Go.st (S' := T16.setTop (mkF m 155 #[.val (.int p0), .val (.int p1), .val (.long q2), .second, .val (.int p3), .val (.long q4), .second, .val (.int p5), .val (.ref b1), .val (.int a2), .val (.int b2), .val (.long t2), .second, .val (.int m2), .val (.int md), .unset, .val (.ref b14), .unset] [(.int (0 : Int32))])) (fun _ kk => XS.iconst X16.here hx rfl (hb hby at_154) kk) ?_
        refine Go.st (S' := T16.setTop (mkF m 157 #[.val (.int p0), .val (.int p1), .val (.long q2), .second, .val (.int p3), .val (.long q4), .second, .val (.int p5), .val (.ref b1), .val (.int a2), .val (.int b2), .val (.long t2), .second, .val (.int m2), .val (.int md), .unset, .val (.ref b14), .val (.int (0 : Int32))] [])) (fun _ kk => XS.istore X16.here hx rfl (hb hby at_155) rfl (l' := #[.val (.int p0), .val (.int p1), .val (.long q2), .second, .val (.int p3), .val (.long q4), .second, .val (.int p5), .val (.ref b1), .val (.int a2), .val (.int b2), .val (.long t2), .second, .val (.int m2), .val (.int md), .unset, .val (.ref b14), .val (.int (0 : Int32))]) rfl kk) ?_
        refine Go.st (S' := T16.setTop (mkF m 159 #[.val (.int p0), .val (.int p1), .val (.long q2), .second, .val (.int p3), .val (.long q4), .second, .val (.int p5), .val (.ref b1), .val (.int a2), .val (.int b2), .val (.long t2), .second, .val (.int m2), .val (.int md), .unset, .val (.ref b14), .val (.int (0 : Int32))] [(.ref b1)])) (fun _ kk => XS.aload X16.here hx rfl (hb hby at_157) rfl rfl kk) ?_
        refine Go.st (S' := T16.setTop (mkF m 161 #[.val (.int p0), .val (.int p1), .val (.long q2), .second, .val (.int p3), .val (.long q4), .second, .val (.int p5), .val (.ref b1), .val (.int a2), .val (.int b2), .val (.long t2), .second, .val (.int m2), .val (.int md), .unset, .val (.ref b14), .val (.int (0 : Int32))] [(.ref b14), (.ref b1)])) (fun _ kk => XS.aload X16.here hx rfl (hb hby at_159) rfl rfl kk) ?_
        obtain ⟨cq28, kq28, q28a, q28b, q28c⟩ := isOf hZ rfl E_b1
        obtain ⟨_, _, ⟨T28, L28, k28, n28⟩, -, X28, ⟨Lc28, hQ28, l28, y28, z28⟩, st28⟩ := X16.virtualBack hx (y := (⟨"com/example/offset_lookup/offsetlookup/protocol/ListOffsetsRequest$Partition", "equals", "(Ljava/lang/Object;)Z"⟩ : MethodName)) (z := (⟨"com/example/offset_lookup/offsetlookup/protocol/ListOffsetsRequest$Partition", "equals", "(Ljava/lang/Object;)Z"⟩ : MethodName)) hown (mvT hZ (hw _ (List.mem_of_getElem? (i := 17) rfl))) (mvT hZ (hw _ (List.mem_of_getElem? (i := 18) rfl))) (notFace_of_selects (args := #[]) (mvT hZ (hw _ (List.mem_of_getElem? (i := 20) rfl)))) (mvT hZ (hw _ (List.mem_of_getElem? (i := 20) rfl))) (mvT hZ (hw _ (List.mem_of_getElem? (i := 19) rfl))) (by decide) (backOf (W := 0) (rmEq l Z az hw [] b1 b14 p0 p1 q2 p3 a2 b2 t2 m2 T16.heap n0 Zs17 E_b1 Fc3_0 Fc3_1 Fc3_2 Fc3_3 E_b14 Fc16_0 Fc16_1 Fc16_2 Fc16_3) hZ (hw _ (List.mem_of_getElem? (i := 21) rfl)) (hw _ (List.mem_of_getElem? (i := 2) rfl)) (by decide) (by decide)) q28a q28c (g := (mkF m 161 #[.val (.int p0), .val (.int p1), .val (.long q2), .second, .val (.int p3), .val (.long q4), .second, .val (.int p5), .val (.ref b1), .val (.int a2), .val (.int b2), .val (.long t2), .second, .val (.int m2), .val (.int md), .unset, .val (.ref b14), .val (.int (0 : Int32))] [(.ref b14), (.ref b1)])) rfl (by rw [hml]; rfl) (Steps.refl _) (argsL := [(.ref b14)]) (rest := []) (lenOf pd_2 rfl) rfl (by show 2 * 0 + _ ≤ _; exact Nat.le_of_eq rfl) (hb hby at_161) (fun _ _ => ⟨rfl, rfl, (by decide : 2 + 0 ≤ _), (by decide : 8 + 0 ≤ _)⟩)
        dsimp only [Pt.U, Pt.locs, Pt.cells, Pt.slots] at X28 l28 y28 z28 st28 hQ28
        subst l28 y28 z28
        obtain ⟨hv28, N28q, e28⟩ := hQ28
        rw [show fEq p0 p1 q2 p3 a2 b2 t2 m2 = (0 : Int32) from by unfold fEq; rw [if_pos hc18, if_neg hc19]] at hv28
        subst hv28
        have N28 := Fr.app N16 N28q
        refine Go.tr (S' := T28.setTop (mkF m 164 #[.val (.int p0), .val (.int p1), .val (.long q2), .second, .val (.int p3), .val (.long q4), .second, .val (.int p5), .val (.ref b1), .val (.int a2), .val (.int b2), .val (.long t2), .second, .val (.int m2), .val (.int md), .unset, .val (.ref b14), .val (.int (0 : Int32))] [(.int (0 : Int32))])) st28 ?_
        refine Go.st (S' := T28.setTop (mkF m 166 #[.val (.int p0), .val (.int p1), .val (.long q2), .second, .val (.int p3), .val (.long q4), .second, .val (.int p5), .val (.ref b1), .val (.int a2), .val (.int b2), .val (.long t2), .second, .val (.int m2), .val (.int md), .unset, .val (.ref b14), .val (.int (0 : Int32))] [(.int (0 : Int32)), (.int (0 : Int32))])) (fun _ kk => XS.iload X28.here hx rfl (hb hby at_164) rfl kk) ?_
        refine Go.st (S' := T28.setTop (mkF m 169 #[.val (.int p0), .val (.int p1), .val (.long q2), .second, .val (.int p3), .val (.long q4), .second, .val (.int p5), .val (.ref b1), .val (.int a2), .val (.int b2), .val (.long t2), .second, .val (.int m2), .val (.int md), .unset, .val (.ref b14), .val (.int (0 : Int32))] [])) (fun _ kk => XS.icmpNo X28.here hx rfl (hb hby at_166) rfl (teq (by decide : (0 : Int32) = (0 : Int32))).2 kk) ?_
        refine Go.st (S' := T28.setTop (mkF m 171 #[.val (.int p0), .val (.int p1), .val (.long q2), .second, .val (.int p3), .val (.long q4), .second, .val (.int p5), .val (.ref b1), .val (.int a2), .val (.int b2), .val (.long t2), .second, .val (.int m2), .val (.int md), .unset, .val (.ref b14), .val (.int (0 : Int32))] [(.ref b14)])) (fun _ kk => XS.aload X28.here hx rfl (hb hby at_169) rfl rfl kk) ?_
        refine Go.st (S' := T28.setTop (mkF m 173 #[.val (.int p0), .val (.int p1), .val (.long q2), .second, .val (.int p3), .val (.long q4), .second, .val (.int p5), .val (.ref b1), .val (.int a2), .val (.int b2), .val (.long t2), .second, .val (.int m2), .val (.int md), .unset, .val (.ref b14), .val (.int (0 : Int32))] [(.ref b1), (.ref b14)])) (fun _ kk => XS.aload X28.here hx rfl (hb hby at_171) rfl rfl kk) ?_
        obtain ⟨cq29, kq29, q29a, q29b, q29c⟩ := isOf hZ e28 E_b14
        obtain ⟨_, _, ⟨T29, L29, k29, n29⟩, -, X29, ⟨Lc29, hQ29, l29, y29, z29⟩, st29⟩ := X28.virtualBack hx (y := (⟨"com/example/offset_lookup/offsetlookup/protocol/ListOffsetsRequest$Partition", "equals", "(Ljava/lang/Object;)Z"⟩ : MethodName)) (z := (⟨"com/example/offset_lookup/offsetlookup/protocol/ListOffsetsRequest$Partition", "equals", "(Ljava/lang/Object;)Z"⟩ : MethodName)) hown (mvT hZ (hw _ (List.mem_of_getElem? (i := 17) rfl))) (mvT hZ (hw _ (List.mem_of_getElem? (i := 18) rfl))) (notFace_of_selects (args := #[]) (mvT hZ (hw _ (List.mem_of_getElem? (i := 20) rfl)))) (mvT hZ (hw _ (List.mem_of_getElem? (i := 20) rfl))) (mvT hZ (hw _ (List.mem_of_getElem? (i := 19) rfl))) (by decide) (backOf (W := 0) (rmEq l Z az hw [] b14 b1 a2 b2 t2 m2 p0 p1 q2 p3 T16.heap n0 Zs17 E_b14 Fc16_0 Fc16_1 Fc16_2 Fc16_3 E_b1 Fc3_0 Fc3_1 Fc3_2 Fc3_3) hZ (hw _ (List.mem_of_getElem? (i := 21) rfl)) (hw _ (List.mem_of_getElem? (i := 2) rfl)) (by decide) (by decide)) q29a q29c (g := (mkF m 173 #[.val (.int p0), .val (.int p1), .val (.long q2), .second, .val (.int p3), .val (.long q4), .second, .val (.int p5), .val (.ref b1), .val (.int a2), .val (.int b2), .val (.long t2), .second, .val (.int m2), .val (.int md), .unset, .val (.ref b14), .val (.int (0 : Int32))] [(.ref b1), (.ref b14)])) rfl (by rw [hml]; rfl) (Steps.refl _) (argsL := [(.ref b1)]) (rest := []) (lenOf pd_2 rfl) rfl (by show 2 * 0 + _ ≤ _; exact Nat.le_of_eq rfl) (hb hby at_173) (fun _ _ => ⟨rfl, e28, (by decide : 2 + 0 ≤ _), (by decide : 8 + 0 ≤ _)⟩)
        dsimp only [Pt.U, Pt.locs, Pt.cells, Pt.slots] at X29 l29 y29 z29 st29 hQ29
        subst l29 y29 z29
        obtain ⟨hv29, N29q, e29⟩ := hQ29
        rw [show fEq a2 b2 t2 m2 p0 p1 q2 p3 = (0 : Int32) from by unfold fEq; rw [if_pos (Eq.symm hc18), if_neg (fun q => hc19 (Eq.symm q))]] at hv29
        subst hv29
        have N29 := Fr.app N28 N29q
        refine Go.tr (S' := T29.setTop (mkF m 176 #[.val (.int p0), .val (.int p1), .val (.long q2), .second, .val (.int p3), .val (.long q4), .second, .val (.int p5), .val (.ref b1), .val (.int a2), .val (.int b2), .val (.long t2), .second, .val (.int m2), .val (.int md), .unset, .val (.ref b14), .val (.int (0 : Int32))] [(.int (0 : Int32))])) st29 ?_
        refine Go.st (S' := T29.setTop (mkF m 178 #[.val (.int p0), .val (.int p1), .val (.long q2), .second, .val (.int p3), .val (.long q4), .second, .val (.int p5), .val (.ref b1), .val (.int a2), .val (.int b2), .val (.long t2), .second, .val (.int m2), .val (.int md), .unset, .val (.ref b14), .val (.int (0 : Int32))] [(.int (0 : Int32)), (.int (0 : Int32))])) (fun _ kk => XS.iload X29.here hx rfl (hb hby at_176) rfl kk) ?_
        refine Go.st (S' := T29.setTop (mkF m 181 #[.val (.int p0), .val (.int p1), .val (.long q2), .second, .val (.int p3), .val (.long q4), .second, .val (.int p5), .val (.ref b1), .val (.int a2), .val (.int b2), .val (.long t2), .second, .val (.int m2), .val (.int md), .unset, .val (.ref b14), .val (.int (0 : Int32))] [])) (fun _ kk => XS.icmpNo X29.here hx rfl (hb hby at_178) rfl (teq (by decide : (0 : Int32) = (0 : Int32))).2 kk) ?_
        refine Go.st (S' := T29.setTop (mkF m 182 #[.val (.int p0), .val (.int p1), .val (.long q2), .second, .val (.int p3), .val (.long q4), .second, .val (.int p5), .val (.ref b1), .val (.int a2), .val (.int b2), .val (.long t2), .second, .val (.int m2), .val (.int md), .unset, .val (.ref b14), .val (.int (0 : Int32))] [(.int (1 : Int32))])) (fun _ kk => XS.iconst X29.here hx rfl (hb hby at_181) kk) ?_
        refine Go.st (S' := T29.setTop (mkF m 186 #[.val (.int p0), .val (.int p1), .val (.long q2), .second, .val (.int p3), .val (.long q4), .second, .val (.int p5), .val (.ref b1), .val (.int a2), .val (.int b2), .val (.long t2), .second, .val (.int m2), .val (.int md), .unset, .val (.ref b14), .val (.int (0 : Int32))] [(.int (1 : Int32))])) (fun _ kk => XS.goto X29.here hx rfl (pc0 := 182) (pc' := 186) rfl (hb hby at_182) (by decide) (by decide) kk) ?_
        refine Go.st (S' := T29.setTop (mkF m 188 #[.val (.int p0), .val (.int p1), .val (.long q2), .second, .val (.int p3), .val (.long q4), .second, .val (.int p5), .val (.ref b1), .val (.int a2), .val (.int b2), .val (.long t2), .second, .val (.int m2), .val (.int md), .val (.int (1 : Int32)), .val (.ref b14), .val (.int (0 : Int32))] [])) (fun _ kk => XS.istore X29.here hx rfl (hb hby at_186) rfl (l' := #[.val (.int p0), .val (.int p1), .val (.long q2), .second, .val (.int p3), .val (.long q4), .second, .val (.int p5), .val (.ref b1), .val (.int a2), .val (.int b2), .val (.long t2), .second, .val (.int m2), .val (.int md), .val (.int (1 : Int32)), .val (.ref b14), .val (.int (0 : Int32))]) rfl kk) ?_
        refine Go.st (S' := T29.setTop (mkF m 253 #[.val (.int p0), .val (.int p1), .val (.long q2), .second, .val (.int p3), .val (.long q4), .second, .val (.int p5), .val (.ref b1), .val (.int a2), .val (.int b2), .val (.long t2), .second, .val (.int m2), .val (.int md), .val (.int (1 : Int32)), .val (.ref b14), .val (.int (0 : Int32))] [])) (fun _ kk => XS.goto X29.here hx rfl (pc0 := 188) (pc' := 253) rfl (hb hby at_188) (by decide) (by decide) kk) ?_
        refine Go.st (S' := T29.setTop (mkF m 255 #[.val (.int p0), .val (.int p1), .val (.long q2), .second, .val (.int p3), .val (.long q4), .second, .val (.int p5), .val (.ref b1), .val (.int a2), .val (.int b2), .val (.long t2), .second, .val (.int m2), .val (.int md), .val (.int (1 : Int32)), .val (.ref b14), .val (.int (0 : Int32))] [(.int (1 : Int32))])) (fun _ kk => XS.iload X29.here hx rfl (hb hby at_253) rfl kk) ?_
        exact Go.retN X29 hx hlk (t := .boolean) Bd.returns (by simp) (hb hby at_255) (⟨rfl, N29⟩) (by decide) (by decide)
    · refine Go.st (S' := T16.setTop (mkF m 154 #[.val (.int p0), .val (.int p1), .val (.long q2), .second, .val (.int p3), .val (.long q4), .second, .val (.int p5), .val (.ref b1), .val (.int a2), .val (.int b2), .val (.long t2), .second, .val (.int m2), .val (.int md), .unset, .val (.ref b14), .unset] [])) (fun _ kk => XS.icmpYes X16.here hx rfl (pc0 := 127) (pc' := 154) rfl (hb hby at_127) rfl (feq hc18).2 (by decide) (by decide) kk) ?_
      refine Go.st (S' := T16.setTop (mkF m 155 #[.val (.int p0), .val (.int p1), .val (.long q2), .second, .val (.int p3), .val (.long q4), .second, .val (.int p5), .val (.ref b1), .val (.int a2), .val (.int b2), .val (.long t2), .second, .val (.int m2), .val (.int md), .unset, .val (.ref b14), .unset] [(.int (0 : Int32))])) (fun _ kk => XS.iconst X16.here hx rfl (hb hby at_154) kk) ?_
      refine Go.st (S' := T16.setTop (mkF m 157 #[.val (.int p0), .val (.int p1), .val (.long q2), .second, .val (.int p3), .val (.long q4), .second, .val (.int p5), .val (.ref b1), .val (.int a2), .val (.int b2), .val (.long t2), .second, .val (.int m2), .val (.int md), .unset, .val (.ref b14), .val (.int (0 : Int32))] [])) (fun _ kk => XS.istore X16.here hx rfl (hb hby at_155) rfl (l' := #[.val (.int p0), .val (.int p1), .val (.long q2), .second, .val (.int p3), .val (.long q4), .second, .val (.int p5), .val (.ref b1), .val (.int a2), .val (.int b2), .val (.long t2), .second, .val (.int m2), .val (.int md), .unset, .val (.ref b14), .val (.int (0 : Int32))]) rfl kk) ?_
      refine Go.st (S' := T16.setTop (mkF m 159 #[.val (.int p0), .val (.int p1), .val (.long q2), .second, .val (.int p3), .val (.long q4), .second, .val (.int p5), .val (.ref b1), .val (.int a2), .val (.int b2), .val (.long t2), .second, .val (.int m2), .val (.int md), .unset, .val (.ref b14), .val (.int (0 : Int32))] [(.ref b1)])) (fun _ kk => XS.aload X16.here hx rfl (hb hby at_157) rfl rfl kk) ?_
      refine Go.st (S' := T16.setTop (mkF m 161 #[.val (.int p0), .val (.int p1), .val (.long q2), .second, .val (.int p3), .val (.long q4), .second, .val (.int p5), .val (.ref b1), .val (.int a2), .val (.int b2), .val (.long t2), .second, .val (.int m2), .val (.int md), .unset, .val (.ref b14), .val (.int (0 : Int32))] [(.ref b14), (.ref b1)])) (fun _ kk => XS.aload X16.here hx rfl (hb hby at_159) rfl rfl kk) ?_
      obtain ⟨cq30, kq30, q30a, q30b, q30c⟩ := isOf hZ rfl E_b1
      obtain ⟨_, _, ⟨T30, L30, k30, n30⟩, -, X30, ⟨Lc30, hQ30, l30, y30, z30⟩, st30⟩ := X16.virtualBack hx (y := (⟨"com/example/offset_lookup/offsetlookup/protocol/ListOffsetsRequest$Partition", "equals", "(Ljava/lang/Object;)Z"⟩ : MethodName)) (z := (⟨"com/example/offset_lookup/offsetlookup/protocol/ListOffsetsRequest$Partition", "equals", "(Ljava/lang/Object;)Z"⟩ : MethodName)) hown (mvT hZ (hw _ (List.mem_of_getElem? (i := 17) rfl))) (mvT hZ (hw _ (List.mem_of_getElem? (i := 18) rfl))) (notFace_of_selects (args := #[]) (mvT hZ (hw _ (List.mem_of_getElem? (i := 20) rfl)))) (mvT hZ (hw _ (List.mem_of_getElem? (i := 20) rfl))) (mvT hZ (hw _ (List.mem_of_getElem? (i := 19) rfl))) (by decide) (backOf (W := 0) (rmEq l Z az hw [] b1 b14 p0 p1 q2 p3 a2 b2 t2 m2 T16.heap n0 Zs17 E_b1 Fc3_0 Fc3_1 Fc3_2 Fc3_3 E_b14 Fc16_0 Fc16_1 Fc16_2 Fc16_3) hZ (hw _ (List.mem_of_getElem? (i := 21) rfl)) (hw _ (List.mem_of_getElem? (i := 2) rfl)) (by decide) (by decide)) q30a q30c (g := (mkF m 161 #[.val (.int p0), .val (.int p1), .val (.long q2), .second, .val (.int p3), .val (.long q4), .second, .val (.int p5), .val (.ref b1), .val (.int a2), .val (.int b2), .val (.long t2), .second, .val (.int m2), .val (.int md), .unset, .val (.ref b14), .val (.int (0 : Int32))] [(.ref b14), (.ref b1)])) rfl (by rw [hml]; rfl) (Steps.refl _) (argsL := [(.ref b14)]) (rest := []) (lenOf pd_2 rfl) rfl (by show 2 * 0 + _ ≤ _; exact Nat.le_of_eq rfl) (hb hby at_161) (fun _ _ => ⟨rfl, rfl, (by decide : 2 + 0 ≤ _), (by decide : 8 + 0 ≤ _)⟩)
      dsimp only [Pt.U, Pt.locs, Pt.cells, Pt.slots] at X30 l30 y30 z30 st30 hQ30
      subst l30 y30 z30
      obtain ⟨hv30, N30q, e30⟩ := hQ30
      rw [show fEq p0 p1 q2 p3 a2 b2 t2 m2 = (0 : Int32) from by unfold fEq; rw [if_neg hc18]] at hv30
      subst hv30
      have N30 := Fr.app N16 N30q
      refine Go.tr (S' := T30.setTop (mkF m 164 #[.val (.int p0), .val (.int p1), .val (.long q2), .second, .val (.int p3), .val (.long q4), .second, .val (.int p5), .val (.ref b1), .val (.int a2), .val (.int b2), .val (.long t2), .second, .val (.int m2), .val (.int md), .unset, .val (.ref b14), .val (.int (0 : Int32))] [(.int (0 : Int32))])) st30 ?_
      refine Go.st (S' := T30.setTop (mkF m 166 #[.val (.int p0), .val (.int p1), .val (.long q2), .second, .val (.int p3), .val (.long q4), .second, .val (.int p5), .val (.ref b1), .val (.int a2), .val (.int b2), .val (.long t2), .second, .val (.int m2), .val (.int md), .unset, .val (.ref b14), .val (.int (0 : Int32))] [(.int (0 : Int32)), (.int (0 : Int32))])) (fun _ kk => XS.iload X30.here hx rfl (hb hby at_164) rfl kk) ?_
      refine Go.st (S' := T30.setTop (mkF m 169 #[.val (.int p0), .val (.int p1), .val (.long q2), .second, .val (.int p3), .val (.long q4), .second, .val (.int p5), .val (.ref b1), .val (.int a2), .val (.int b2), .val (.long t2), .second, .val (.int m2), .val (.int md), .unset, .val (.ref b14), .val (.int (0 : Int32))] [])) (fun _ kk => XS.icmpNo X30.here hx rfl (hb hby at_166) rfl (teq (by decide : (0 : Int32) = (0 : Int32))).2 kk) ?_
      refine Go.st (S' := T30.setTop (mkF m 171 #[.val (.int p0), .val (.int p1), .val (.long q2), .second, .val (.int p3), .val (.long q4), .second, .val (.int p5), .val (.ref b1), .val (.int a2), .val (.int b2), .val (.long t2), .second, .val (.int m2), .val (.int md), .unset, .val (.ref b14), .val (.int (0 : Int32))] [(.ref b14)])) (fun _ kk => XS.aload X30.here hx rfl (hb hby at_169) rfl rfl kk) ?_
      refine Go.st (S' := T30.setTop (mkF m 173 #[.val (.int p0), .val (.int p1), .val (.long q2), .second, .val (.int p3), .val (.long q4), .second, .val (.int p5), .val (.ref b1), .val (.int a2), .val (.int b2), .val (.long t2), .second, .val (.int m2), .val (.int md), .unset, .val (.ref b14), .val (.int (0 : Int32))] [(.ref b1), (.ref b14)])) (fun _ kk => XS.aload X30.here hx rfl (hb hby at_171) rfl rfl kk) ?_
      obtain ⟨cq31, kq31, q31a, q31b, q31c⟩ := isOf hZ e30 E_b14
      obtain ⟨_, _, ⟨T31, L31, k31, n31⟩, -, X31, ⟨Lc31, hQ31, l31, y31, z31⟩, st31⟩ := X30.virtualBack hx (y := (⟨"com/example/offset_lookup/offsetlookup/protocol/ListOffsetsRequest$Partition", "equals", "(Ljava/lang/Object;)Z"⟩ : MethodName)) (z := (⟨"com/example/offset_lookup/offsetlookup/protocol/ListOffsetsRequest$Partition", "equals", "(Ljava/lang/Object;)Z"⟩ : MethodName)) hown (mvT hZ (hw _ (List.mem_of_getElem? (i := 17) rfl))) (mvT hZ (hw _ (List.mem_of_getElem? (i := 18) rfl))) (notFace_of_selects (args := #[]) (mvT hZ (hw _ (List.mem_of_getElem? (i := 20) rfl)))) (mvT hZ (hw _ (List.mem_of_getElem? (i := 20) rfl))) (mvT hZ (hw _ (List.mem_of_getElem? (i := 19) rfl))) (by decide) (backOf (W := 0) (rmEq l Z az hw [] b14 b1 a2 b2 t2 m2 p0 p1 q2 p3 T16.heap n0 Zs17 E_b14 Fc16_0 Fc16_1 Fc16_2 Fc16_3 E_b1 Fc3_0 Fc3_1 Fc3_2 Fc3_3) hZ (hw _ (List.mem_of_getElem? (i := 21) rfl)) (hw _ (List.mem_of_getElem? (i := 2) rfl)) (by decide) (by decide)) q31a q31c (g := (mkF m 173 #[.val (.int p0), .val (.int p1), .val (.long q2), .second, .val (.int p3), .val (.long q4), .second, .val (.int p5), .val (.ref b1), .val (.int a2), .val (.int b2), .val (.long t2), .second, .val (.int m2), .val (.int md), .unset, .val (.ref b14), .val (.int (0 : Int32))] [(.ref b1), (.ref b14)])) rfl (by rw [hml]; rfl) (Steps.refl _) (argsL := [(.ref b1)]) (rest := []) (lenOf pd_2 rfl) rfl (by show 2 * 0 + _ ≤ _; exact Nat.le_of_eq rfl) (hb hby at_173) (fun _ _ => ⟨rfl, e30, (by decide : 2 + 0 ≤ _), (by decide : 8 + 0 ≤ _)⟩)
      dsimp only [Pt.U, Pt.locs, Pt.cells, Pt.slots] at X31 l31 y31 z31 st31 hQ31
      subst l31 y31 z31
      obtain ⟨hv31, N31q, e31⟩ := hQ31
      rw [show fEq a2 b2 t2 m2 p0 p1 q2 p3 = (0 : Int32) from by unfold fEq; rw [if_neg (fun q => hc18 (Eq.symm q))]] at hv31
      subst hv31
      have N31 := Fr.app N30 N31q
      refine Go.tr (S' := T31.setTop (mkF m 176 #[.val (.int p0), .val (.int p1), .val (.long q2), .second, .val (.int p3), .val (.long q4), .second, .val (.int p5), .val (.ref b1), .val (.int a2), .val (.int b2), .val (.long t2), .second, .val (.int m2), .val (.int md), .unset, .val (.ref b14), .val (.int (0 : Int32))] [(.int (0 : Int32))])) st31 ?_
      refine Go.st (S' := T31.setTop (mkF m 178 #[.val (.int p0), .val (.int p1), .val (.long q2), .second, .val (.int p3), .val (.long q4), .second, .val (.int p5), .val (.ref b1), .val (.int a2), .val (.int b2), .val (.long t2), .second, .val (.int m2), .val (.int md), .unset, .val (.ref b14), .val (.int (0 : Int32))] [(.int (0 : Int32)), (.int (0 : Int32))])) (fun _ kk => XS.iload X31.here hx rfl (hb hby at_176) rfl kk) ?_
      refine Go.st (S' := T31.setTop (mkF m 181 #[.val (.int p0), .val (.int p1), .val (.long q2), .second, .val (.int p3), .val (.long q4), .second, .val (.int p5), .val (.ref b1), .val (.int a2), .val (.int b2), .val (.long t2), .second, .val (.int m2), .val (.int md), .unset, .val (.ref b14), .val (.int (0 : Int32))] [])) (fun _ kk => XS.icmpNo X31.here hx rfl (hb hby at_178) rfl (teq (by decide : (0 : Int32) = (0 : Int32))).2 kk) ?_
      refine Go.st (S' := T31.setTop (mkF m 182 #[.val (.int p0), .val (.int p1), .val (.long q2), .second, .val (.int p3), .val (.long q4), .second, .val (.int p5), .val (.ref b1), .val (.int a2), .val (.int b2), .val (.long t2), .second, .val (.int m2), .val (.int md), .unset, .val (.ref b14), .val (.int (0 : Int32))] [(.int (1 : Int32))])) (fun _ kk => XS.iconst X31.here hx rfl (hb hby at_181) kk) ?_
      refine Go.st (S' := T31.setTop (mkF m 186 #[.val (.int p0), .val (.int p1), .val (.long q2), .second, .val (.int p3), .val (.long q4), .second, .val (.int p5), .val (.ref b1), .val (.int a2), .val (.int b2), .val (.long t2), .second, .val (.int m2), .val (.int md), .unset, .val (.ref b14), .val (.int (0 : Int32))] [(.int (1 : Int32))])) (fun _ kk => XS.goto X31.here hx rfl (pc0 := 182) (pc' := 186) rfl (hb hby at_182) (by decide) (by decide) kk) ?_
      refine Go.st (S' := T31.setTop (mkF m 188 #[.val (.int p0), .val (.int p1), .val (.long q2), .second, .val (.int p3), .val (.long q4), .second, .val (.int p5), .val (.ref b1), .val (.int a2), .val (.int b2), .val (.long t2), .second, .val (.int m2), .val (.int md), .val (.int (1 : Int32)), .val (.ref b14), .val (.int (0 : Int32))] [])) (fun _ kk => XS.istore X31.here hx rfl (hb hby at_186) rfl (l' := #[.val (.int p0), .val (.int p1), .val (.long q2), .second, .val (.int p3), .val (.long q4), .second, .val (.int p5), .val (.ref b1), .val (.int a2), .val (.int b2), .val (.long t2), .second, .val (.int m2), .val (.int md), .val (.int (1 : Int32)), .val (.ref b14), .val (.int (0 : Int32))]) rfl kk) ?_
      refine Go.st (S' := T31.setTop (mkF m 253 #[.val (.int p0), .val (.int p1), .val (.long q2), .second, .val (.int p3), .val (.long q4), .second, .val (.int p5), .val (.ref b1), .val (.int a2), .val (.int b2), .val (.long t2), .second, .val (.int m2), .val (.int md), .val (.int (1 : Int32)), .val (.ref b14), .val (.int (0 : Int32))] [])) (fun _ kk => XS.goto X31.here hx rfl (pc0 := 188) (pc' := 253) rfl (hb hby at_188) (by decide) (by decide) kk) ?_
      refine Go.st (S' := T31.setTop (mkF m 255 #[.val (.int p0), .val (.int p1), .val (.long q2), .second, .val (.int p3), .val (.long q4), .second, .val (.int p5), .val (.ref b1), .val (.int a2), .val (.int b2), .val (.long t2), .second, .val (.int m2), .val (.int md), .val (.int (1 : Int32)), .val (.ref b14), .val (.int (0 : Int32))] [(.int (1 : Int32))])) (fun _ kk => XS.iload X31.here hx rfl (hb hby at_253) rfl kk) ?_
      exact Go.retN X31 hx hlk (t := .boolean) Bd.returns (by simp) (hb hby at_255) (⟨rfl, N31⟩) (by decide) (by decide)
  · refine Go.st (S' := T3.setTop (mkF m 191 #[.val (.int p0), .val (.int p1), .val (.long q2), .second, .val (.int p3), .val (.long q4), .second, .val (.int p5), .val (.ref b1), .val (.int a2), .val (.int b2), .val (.long t2), .second, .val (.int m2), .val (.int md), .unset, .unset, .unset] [])) (fun _ kk => XS.ifYes X3.here hx rfl (pc0 := 104) (pc' := 191) rfl (hb hby at_104) rfl ((if0 _ _).trans (feq hc13).2) (by decide) (by decide) kk) ?_
    refine Go.st (S' := T3.setTop (mkF m 193 #[.val (.int p0), .val (.int p1), .val (.long q2), .second, .val (.int p3), .val (.long q4), .second, .val (.int p5), .val (.ref b1), .val (.int a2), .val (.int b2), .val (.long t2), .second, .val (.int m2), .val (.int md), .unset, .unset, .unset] [(.int md)])) (fun _ kk => XS.iload X3.here hx rfl (hb hby at_191) rfl kk) ?_
    refine Go.st (S' := T3.setTop (mkF m 194 #[.val (.int p0), .val (.int p1), .val (.long q2), .second, .val (.int p3), .val (.long q4), .second, .val (.int p5), .val (.ref b1), .val (.int a2), .val (.int b2), .val (.long t2), .second, .val (.int m2), .val (.int md), .unset, .unset, .unset] [(.int (1 : Int32)), (.int md)])) (fun _ kk => XS.iconst X3.here hx rfl (hb hby at_193) kk) ?_
    by_cases hc32 : md = (1 : Int32)
    · refine Go.st (S' := T3.setTop (mkF m 197 #[.val (.int p0), .val (.int p1), .val (.long q2), .second, .val (.int p3), .val (.long q4), .second, .val (.int p5), .val (.ref b1), .val (.int a2), .val (.int b2), .val (.long t2), .second, .val (.int m2), .val (.int md), .unset, .unset, .unset] [])) (fun _ kk => XS.icmpNo X3.here hx rfl (hb hby at_194) rfl (teq hc32).2 kk) ?_
      refine Go.st (S' := T3.setTop (mkF m 199 #[.val (.int p0), .val (.int p1), .val (.long q2), .second, .val (.int p3), .val (.long q4), .second, .val (.int p5), .val (.ref b1), .val (.int a2), .val (.int b2), .val (.long t2), .second, .val (.int m2), .val (.int md), .unset, .unset, .unset] [(.ref b1)])) (fun _ kk => XS.aload X3.here hx rfl (hb hby at_197) rfl rfl kk) ?_
      refine Go.st (S' := T3.setTop (mkF m 201 #[.val (.int p0), .val (.int p1), .val (.long q2), .second, .val (.int p3), .val (.long q4), .second, .val (.int p5), .val (.ref b1), .val (.int a2), .val (.int b2), .val (.long t2), .second, .val (.int m2), .val (.int md), .unset, .unset, .unset] [(.ref b1), (.ref b1)])) (fun _ kk => XS.aload X3.here hx rfl (hb hby at_199) rfl rfl kk) ?_
      obtain ⟨cq33, kq33, q33a, q33b, q33c⟩ := isOf hZ rfl E_b1
      obtain ⟨_, _, ⟨T33, L33, k33, n33⟩, -, X33, ⟨Lc33, hQ33, l33, y33, z33⟩, st33⟩ := X3.virtualBack hx (y := (⟨"com/example/offset_lookup/offsetlookup/protocol/ListOffsetsRequest$Partition", "equals", "(Ljava/lang/Object;)Z"⟩ : MethodName)) (z := (⟨"com/example/offset_lookup/offsetlookup/protocol/ListOffsetsRequest$Partition", "equals", "(Ljava/lang/Object;)Z"⟩ : MethodName)) hown (mvT hZ (hw _ (List.mem_of_getElem? (i := 17) rfl))) (mvT hZ (hw _ (List.mem_of_getElem? (i := 18) rfl))) (notFace_of_selects (args := #[]) (mvT hZ (hw _ (List.mem_of_getElem? (i := 20) rfl)))) (mvT hZ (hw _ (List.mem_of_getElem? (i := 20) rfl))) (mvT hZ (hw _ (List.mem_of_getElem? (i := 19) rfl))) (by decide) (backOf (W := 0) (rmEq l Z az hw [] b1 b1 p0 p1 q2 p3 p0 p1 q2 p3 T3.heap n0 Zs4 E_b1 Fc3_0 Fc3_1 Fc3_2 Fc3_3 E_b1 Fc3_0 Fc3_1 Fc3_2 Fc3_3) hZ (hw _ (List.mem_of_getElem? (i := 21) rfl)) (hw _ (List.mem_of_getElem? (i := 2) rfl)) (by decide) (by decide)) q33a q33c (g := (mkF m 201 #[.val (.int p0), .val (.int p1), .val (.long q2), .second, .val (.int p3), .val (.long q4), .second, .val (.int p5), .val (.ref b1), .val (.int a2), .val (.int b2), .val (.long t2), .second, .val (.int m2), .val (.int md), .unset, .unset, .unset] [(.ref b1), (.ref b1)])) rfl (by rw [hml]; rfl) (Steps.refl _) (argsL := [(.ref b1)]) (rest := []) (lenOf pd_2 rfl) rfl (by show 2 * 0 + _ ≤ _; exact Nat.le_of_eq rfl) (hb hby at_201) (fun _ _ => ⟨rfl, rfl, (by decide : 1 + 0 ≤ _), (by decide : 4 + 0 ≤ _)⟩)
      dsimp only [Pt.U, Pt.locs, Pt.cells, Pt.slots] at X33 l33 y33 z33 st33 hQ33
      subst l33 y33 z33
      obtain ⟨hv33, N33q, e33⟩ := hQ33
      rw [show fEq p0 p1 q2 p3 p0 p1 q2 p3 = (1 : Int32) from by unfold fEq; rw [if_pos (rfl : p0 = p0), if_pos (rfl : p1 = p1), if_pos (rfl : q2 = q2), if_pos (rfl : p3 = p3)]] at hv33
      subst hv33
      have N33 := Fr.app N3 N33q
      refine Go.tr (S' := T33.setTop (mkF m 204 #[.val (.int p0), .val (.int p1), .val (.long q2), .second, .val (.int p3), .val (.long q4), .second, .val (.int p5), .val (.ref b1), .val (.int a2), .val (.int b2), .val (.long t2), .second, .val (.int m2), .val (.int md), .unset, .unset, .unset] [(.int (1 : Int32))])) st33 ?_
      refine Go.st (S' := T33.setTop (mkF m 206 #[.val (.int p0), .val (.int p1), .val (.long q2), .second, .val (.int p3), .val (.long q4), .second, .val (.int p5), .val (.ref b1), .val (.int a2), .val (.int b2), .val (.long t2), .second, .val (.int m2), .val (.int md), .val (.int (1 : Int32)), .unset, .unset] [])) (fun _ kk => XS.istore X33.here hx rfl (hb hby at_204) rfl (l' := #[.val (.int p0), .val (.int p1), .val (.long q2), .second, .val (.int p3), .val (.long q4), .second, .val (.int p5), .val (.ref b1), .val (.int a2), .val (.int b2), .val (.long t2), .second, .val (.int m2), .val (.int md), .val (.int (1 : Int32)), .unset, .unset]) rfl kk) ?_
      refine Go.st (S' := T33.setTop (mkF m 253 #[.val (.int p0), .val (.int p1), .val (.long q2), .second, .val (.int p3), .val (.long q4), .second, .val (.int p5), .val (.ref b1), .val (.int a2), .val (.int b2), .val (.long t2), .second, .val (.int m2), .val (.int md), .val (.int (1 : Int32)), .unset, .unset] [])) (fun _ kk => XS.goto X33.here hx rfl (pc0 := 206) (pc' := 253) rfl (hb hby at_206) (by decide) (by decide) kk) ?_
      refine Go.st (S' := T33.setTop (mkF m 255 #[.val (.int p0), .val (.int p1), .val (.long q2), .second, .val (.int p3), .val (.long q4), .second, .val (.int p5), .val (.ref b1), .val (.int a2), .val (.int b2), .val (.long t2), .second, .val (.int m2), .val (.int md), .val (.int (1 : Int32)), .unset, .unset] [(.int (1 : Int32))])) (fun _ kk => XS.iload X33.here hx rfl (hb hby at_253) rfl kk) ?_
      exact Go.retN X33 hx hlk (t := .boolean) Bd.returns (by simp) (hb hby at_255) (⟨rfl, N33⟩) (by decide) (by decide)
    · refine Go.st (S' := T3.setTop (mkF m 209 #[.val (.int p0), .val (.int p1), .val (.long q2), .second, .val (.int p3), .val (.long q4), .second, .val (.int p5), .val (.ref b1), .val (.int a2), .val (.int b2), .val (.long t2), .second, .val (.int m2), .val (.int md), .unset, .unset, .unset] [])) (fun _ kk => XS.icmpYes X3.here hx rfl (pc0 := 194) (pc' := 209) rfl (hb hby at_194) rfl (feq hc32).2 (by decide) (by decide) kk) ?_
      refine Go.st (S' := T3.setTop (mkF m 211 #[.val (.int p0), .val (.int p1), .val (.long q2), .second, .val (.int p3), .val (.long q4), .second, .val (.int p5), .val (.ref b1), .val (.int a2), .val (.int b2), .val (.long t2), .second, .val (.int m2), .val (.int md), .unset, .unset, .unset] [(.int md)])) (fun _ kk => XS.iload X3.here hx rfl (hb hby at_209) rfl kk) ?_
      refine Go.st (S' := T3.setTop (mkF m 212 #[.val (.int p0), .val (.int p1), .val (.long q2), .second, .val (.int p3), .val (.long q4), .second, .val (.int p5), .val (.ref b1), .val (.int a2), .val (.int b2), .val (.long t2), .second, .val (.int m2), .val (.int md), .unset, .unset, .unset] [(.int (2 : Int32)), (.int md)])) (fun _ kk => XS.iconst X3.here hx rfl (hb hby at_211) kk) ?_
      by_cases hc34 : md = (2 : Int32)
      · refine Go.st (S' := T3.setTop (mkF m 215 #[.val (.int p0), .val (.int p1), .val (.long q2), .second, .val (.int p3), .val (.long q4), .second, .val (.int p5), .val (.ref b1), .val (.int a2), .val (.int b2), .val (.long t2), .second, .val (.int m2), .val (.int md), .unset, .unset, .unset] [])) (fun _ kk => XS.icmpNo X3.here hx rfl (hb hby at_212) rfl (teq hc34).2 kk) ?_
        refine Go.st (S' := T3.setTop (mkF m 217 #[.val (.int p0), .val (.int p1), .val (.long q2), .second, .val (.int p3), .val (.long q4), .second, .val (.int p5), .val (.ref b1), .val (.int a2), .val (.int b2), .val (.long t2), .second, .val (.int m2), .val (.int md), .unset, .unset, .unset] [(.ref b1)])) (fun _ kk => XS.aload X3.here hx rfl (hb hby at_215) rfl rfl kk) ?_
        refine Go.st (S' := T3.setTop (mkF m 218 #[.val (.int p0), .val (.int p1), .val (.long q2), .second, .val (.int p3), .val (.long q4), .second, .val (.int p5), .val (.ref b1), .val (.int a2), .val (.int b2), .val (.long t2), .second, .val (.int m2), .val (.int md), .unset, .unset, .unset] [.null, (.ref b1)])) (fun _ kk => XS.aconstNull X3.here hx rfl (hb hby at_217) kk) ?_
        obtain ⟨cq35, kq35, q35a, q35b, q35c⟩ := isOf hZ rfl E_b1
        obtain ⟨_, _, ⟨T35, L35, k35, n35⟩, -, X35, ⟨Lc35, hQ35, l35, y35, z35⟩, st35⟩ := X3.virtualBack hx (y := (⟨"com/example/offset_lookup/offsetlookup/protocol/ListOffsetsRequest$Partition", "equals", "(Ljava/lang/Object;)Z"⟩ : MethodName)) (z := (⟨"com/example/offset_lookup/offsetlookup/protocol/ListOffsetsRequest$Partition", "equals", "(Ljava/lang/Object;)Z"⟩ : MethodName)) hown (mvT hZ (hw _ (List.mem_of_getElem? (i := 17) rfl))) (mvT hZ (hw _ (List.mem_of_getElem? (i := 18) rfl))) (notFace_of_selects (args := #[]) (mvT hZ (hw _ (List.mem_of_getElem? (i := 20) rfl)))) (mvT hZ (hw _ (List.mem_of_getElem? (i := 20) rfl))) (mvT hZ (hw _ (List.mem_of_getElem? (i := 19) rfl))) (by decide) (backOf (W := 0) (rmEqN l Z az hw [] b1  T3.heap n0 Zs4 ) hZ (hw _ (List.mem_of_getElem? (i := 21) rfl)) (hw _ (List.mem_of_getElem? (i := 2) rfl)) (by decide) (by decide)) q35a q35c (g := (mkF m 218 #[.val (.int p0), .val (.int p1), .val (.long q2), .second, .val (.int p3), .val (.long q4), .second, .val (.int p5), .val (.ref b1), .val (.int a2), .val (.int b2), .val (.long t2), .second, .val (.int m2), .val (.int md), .unset, .unset, .unset] [.null, (.ref b1)])) rfl (by rw [hml]; rfl) (Steps.refl _) (argsL := [.null]) (rest := []) (lenOf pd_2 rfl) rfl (by show 2 * 0 + _ ≤ _; exact Nat.le_of_eq rfl) (hb hby at_218) (fun _ _ => ⟨rfl, rfl, (by decide : 1 + 0 ≤ _), (by decide : 4 + 0 ≤ _)⟩)
        dsimp only [Pt.U, Pt.locs, Pt.cells, Pt.slots] at X35 l35 y35 z35 st35 hQ35
        subst l35 y35 z35
        obtain ⟨rfl, N35q, e35⟩ := hQ35
        have N35 := Fr.app N3 N35q
        refine Go.tr (S' := T35.setTop (mkF m 221 #[.val (.int p0), .val (.int p1), .val (.long q2), .second, .val (.int p3), .val (.long q4), .second, .val (.int p5), .val (.ref b1), .val (.int a2), .val (.int b2), .val (.long t2), .second, .val (.int m2), .val (.int md), .unset, .unset, .unset] [(.int (0 : Int32))])) st35 ?_
        refine Go.st (S' := T35.setTop (mkF m 224 #[.val (.int p0), .val (.int p1), .val (.long q2), .second, .val (.int p3), .val (.long q4), .second, .val (.int p5), .val (.ref b1), .val (.int a2), .val (.int b2), .val (.long t2), .second, .val (.int m2), .val (.int md), .unset, .unset, .unset] [])) (fun _ kk => XS.ifNo X35.here hx rfl (hb hby at_221) rfl ((if0 _ _).trans (teq (by decide : (0 : Int32) = (0 : Int32))).2) kk) ?_
        refine Go.st (S' := T35.setTop (mkF m 225 #[.val (.int p0), .val (.int p1), .val (.long q2), .second, .val (.int p3), .val (.long q4), .second, .val (.int p5), .val (.ref b1), .val (.int a2), .val (.int b2), .val (.long t2), .second, .val (.int m2), .val (.int md), .unset, .unset, .unset] [(.int (1 : Int32))])) (fun _ kk => XS.iconst X35.here hx rfl (hb hby at_224) kk) ?_
        refine Go.st (S' := T35.setTop (mkF m 229 #[.val (.int p0), .val (.int p1), .val (.long q2), .second, .val (.int p3), .val (.long q4), .second, .val (.int p5), .val (.ref b1), .val (.int a2), .val (.int b2), .val (.long t2), .second, .val (.int m2), .val (.int md), .unset, .unset, .unset] [(.int (1 : Int32))])) (fun _ kk => XS.goto X35.here hx rfl (pc0 := 225) (pc' := 229) rfl (hb hby at_225) (by decide) (by decide) kk) ?_
        refine Go.st (S' := T35.setTop (mkF m 231 #[.val (.int p0), .val (.int p1), .val (.long q2), .second, .val (.int p3), .val (.long q4), .second, .val (.int p5), .val (.ref b1), .val (.int a2), .val (.int b2), .val (.long t2), .second, .val (.int m2), .val (.int md), .val (.int (1 : Int32)), .unset, .unset] [])) (fun _ kk => XS.istore X35.here hx rfl (hb hby at_229) rfl (l' := #[.val (.int p0), .val (.int p1), .val (.long q2), .second, .val (.int p3), .val (.long q4), .second, .val (.int p5), .val (.ref b1), .val (.int a2), .val (.int b2), .val (.long t2), .second, .val (.int m2), .val (.int md), .val (.int (1 : Int32)), .unset, .unset]) rfl kk) ?_
        refine Go.st (S' := T35.setTop (mkF m 253 #[.val (.int p0), .val (.int p1), .val (.long q2), .second, .val (.int p3), .val (.long q4), .second, .val (.int p5), .val (.ref b1), .val (.int a2), .val (.int b2), .val (.long t2), .second, .val (.int m2), .val (.int md), .val (.int (1 : Int32)), .unset, .unset] [])) (fun _ kk => XS.goto X35.here hx rfl (pc0 := 231) (pc' := 253) rfl (hb hby at_231) (by decide) (by decide) kk) ?_
        refine Go.st (S' := T35.setTop (mkF m 255 #[.val (.int p0), .val (.int p1), .val (.long q2), .second, .val (.int p3), .val (.long q4), .second, .val (.int p5), .val (.ref b1), .val (.int a2), .val (.int b2), .val (.long t2), .second, .val (.int m2), .val (.int md), .val (.int (1 : Int32)), .unset, .unset] [(.int (1 : Int32))])) (fun _ kk => XS.iload X35.here hx rfl (hb hby at_253) rfl kk) ?_
        exact Go.retN X35 hx hlk (t := .boolean) Bd.returns (by simp) (hb hby at_255) (⟨rfl, N35⟩) (by decide) (by decide)
      · refine Go.st (S' := T3.setTop (mkF m 234 #[.val (.int p0), .val (.int p1), .val (.long q2), .second, .val (.int p3), .val (.long q4), .second, .val (.int p5), .val (.ref b1), .val (.int a2), .val (.int b2), .val (.long t2), .second, .val (.int m2), .val (.int md), .unset, .unset, .unset] [])) (fun _ kk => XS.icmpYes X3.here hx rfl (pc0 := 212) (pc' := 234) rfl (hb hby at_212) rfl (feq hc34).2 (by decide) (by decide) kk) ?_
        refine Go.st (S' := T3.setTop (mkF m 236 #[.val (.int p0), .val (.int p1), .val (.long q2), .second, .val (.int p3), .val (.long q4), .second, .val (.int p5), .val (.ref b1), .val (.int a2), .val (.int b2), .val (.long t2), .second, .val (.int m2), .val (.int md), .unset, .unset, .unset] [(.ref b1)])) (fun _ kk => XS.aload X3.here hx rfl (hb hby at_234) rfl rfl kk) ?_
        refine Go.st (S' := T3.setTop (mkF m 237 #[.val (.int p0), .val (.int p1), .val (.long q2), .second, .val (.int p3), .val (.long q4), .second, .val (.int p5), .val (.ref b1), .val (.int a2), .val (.int b2), .val (.long t2), .second, .val (.int m2), .val (.int md), .unset, .unset, .unset] [(.long q2), (.ref b1)])) (fun _ kk => XS.lloadN X3.here hx rfl (hb hby at_236) rfl kk) ?_
        obtain ⟨_, _, ⟨T36, L36, k36, n36⟩, -, X36, ⟨Lc36, hQ36, l36, y36, z36⟩, st36⟩ := Jvm.LawKit.callS X3 hx (y := (⟨"java/lang/Long", "valueOf", "(J)Ljava/lang/Long;"⟩ : MethodName)) hown (mvT hZ (hw _ (List.mem_of_getElem? (i := 24) rfl))) (mvT hZ (hw _ (List.mem_of_getElem? (i := 25) rfl))) (mvT hZ (hw _ (List.mem_of_getElem? (i := 26) rfl))) (mvT hZ (hw _ (List.mem_of_getElem? (i := 27) rfl))) (by decide) (backOf (W := 1) (rmVal l Z az hw [] q2 ca T3.heap n0 Zs4 (Ch.ext Od.2)) hZ (hw _ (List.mem_of_getElem? (i := 27) rfl)) (hw _ (List.mem_of_getElem? (i := 26) rfl)) (by decide) (by decide)) (g := (mkF m 237 #[.val (.int p0), .val (.int p1), .val (.long q2), .second, .val (.int p3), .val (.long q4), .second, .val (.int p5), .val (.ref b1), .val (.int a2), .val (.int b2), .val (.long t2), .second, .val (.int m2), .val (.int md), .unset, .unset, .unset] [(.long q2), (.ref b1)])) rfl (by rw [hml]; rfl) (argsL := [(.long q2)]) (rest := [(.ref b1)]) (lenOf pd_3 rfl) rfl (by show 2 * 0 + _ ≤ _; exact Nat.le_of_eq rfl) (hb hby at_237) (fun _ _ => ⟨rfl, rfl, (by decide : 1 + 1 ≤ _), (by decide : 4 + 1 ≤ _)⟩)
        dsimp only [Pt.U, Pt.locs, Pt.cells, Pt.slots] at X36 l36 y36 z36 st36 hQ36
        subst l36 y36 z36
        obtain ⟨r36, rfl, N36q, K36, Er36⟩ := hQ36
        have N36 := Fr.app N3 N36q
        have Od := Od.keep K36 all0
        have E_b1 := E_b1.keep K36
        have Fc3_0 := Fc3_0.keep K36 nin0
        have Fc3_1 := Fc3_1.keep K36 nin0
        have Fc3_2 := Fc3_2.keep K36 nin0
        have Fc3_3 := Fc3_3.keep K36 nin0
        have Zs37 := Nat.le_trans Zs4 K36.1
        refine Go.st (S' := T36.setTop (mkF m 240 #[.val (.int p0), .val (.int p1), .val (.long q2), .second, .val (.int p3), .val (.long q4), .second, .val (.int p5), .val (.ref b1), .val (.int a2), .val (.int b2), .val (.long t2), .second, .val (.int m2), .val (.int md), .unset, .unset, .unset] [(.ref r36), (.ref b1)])) st36 ?_
        obtain ⟨cq38, kq38, q38a, q38b, q38c⟩ := isOf hZ rfl E_b1
        obtain ⟨_, _, ⟨T38, L38, k38, n38⟩, -, X38, ⟨Lc38, hQ38, l38, y38, z38⟩, st38⟩ := X36.virtualBack hx (y := (⟨"com/example/offset_lookup/offsetlookup/protocol/ListOffsetsRequest$Partition", "equals", "(Ljava/lang/Object;)Z"⟩ : MethodName)) (z := (⟨"com/example/offset_lookup/offsetlookup/protocol/ListOffsetsRequest$Partition", "equals", "(Ljava/lang/Object;)Z"⟩ : MethodName)) hown (mvT hZ (hw _ (List.mem_of_getElem? (i := 17) rfl))) (mvT hZ (hw _ (List.mem_of_getElem? (i := 18) rfl))) (notFace_of_selects (args := #[]) (mvT hZ (hw _ (List.mem_of_getElem? (i := 20) rfl)))) (mvT hZ (hw _ (List.mem_of_getElem? (i := 20) rfl))) (mvT hZ (hw _ (List.mem_of_getElem? (i := 19) rfl))) (by decide) (backOf (W := 0) (rmEqL l Z az hw [] b1 r36  T36.heap n0 Zs37 Er36) hZ (hw _ (List.mem_of_getElem? (i := 21) rfl)) (hw _ (List.mem_of_getElem? (i := 2) rfl)) (by decide) (by decide)) q38a q38c (g := (mkF m 240 #[.val (.int p0), .val (.int p1), .val (.long q2), .second, .val (.int p3), .val (.long q4), .second, .val (.int p5), .val (.ref b1), .val (.int a2), .val (.int b2), .val (.long t2), .second, .val (.int m2), .val (.int md), .unset, .unset, .unset] [(.ref r36), (.ref b1)])) rfl (by rw [hml]; rfl) (Steps.refl _) (argsL := [(.ref r36)]) (rest := []) (lenOf pd_2 rfl) rfl (by show 2 * 0 + _ ≤ _; exact Nat.le_of_eq rfl) (hb hby at_240) (fun _ _ => ⟨rfl, rfl, (by decide : 2 + 0 ≤ _), (by decide : 5 + 0 ≤ _)⟩)
        dsimp only [Pt.U, Pt.locs, Pt.cells, Pt.slots] at X38 l38 y38 z38 st38 hQ38
        subst l38 y38 z38
        obtain ⟨rfl, N38q, e38⟩ := hQ38
        have N38 := Fr.app N36 N38q
        refine Go.tr (S' := T38.setTop (mkF m 243 #[.val (.int p0), .val (.int p1), .val (.long q2), .second, .val (.int p3), .val (.long q4), .second, .val (.int p5), .val (.ref b1), .val (.int a2), .val (.int b2), .val (.long t2), .second, .val (.int m2), .val (.int md), .unset, .unset, .unset] [(.int (0 : Int32))])) st38 ?_
        refine Go.st (S' := T38.setTop (mkF m 246 #[.val (.int p0), .val (.int p1), .val (.long q2), .second, .val (.int p3), .val (.long q4), .second, .val (.int p5), .val (.ref b1), .val (.int a2), .val (.int b2), .val (.long t2), .second, .val (.int m2), .val (.int md), .unset, .unset, .unset] [])) (fun _ kk => XS.ifNo X38.here hx rfl (hb hby at_243) rfl ((if0 _ _).trans (teq (by decide : (0 : Int32) = (0 : Int32))).2) kk) ?_
        refine Go.st (S' := T38.setTop (mkF m 247 #[.val (.int p0), .val (.int p1), .val (.long q2), .second, .val (.int p3), .val (.long q4), .second, .val (.int p5), .val (.ref b1), .val (.int a2), .val (.int b2), .val (.long t2), .second, .val (.int m2), .val (.int md), .unset, .unset, .unset] [(.int (1 : Int32))])) (fun _ kk => XS.iconst X38.here hx rfl (hb hby at_246) kk) ?_
        refine Go.st (S' := T38.setTop (mkF m 251 #[.val (.int p0), .val (.int p1), .val (.long q2), .second, .val (.int p3), .val (.long q4), .second, .val (.int p5), .val (.ref b1), .val (.int a2), .val (.int b2), .val (.long t2), .second, .val (.int m2), .val (.int md), .unset, .unset, .unset] [(.int (1 : Int32))])) (fun _ kk => XS.goto X38.here hx rfl (pc0 := 247) (pc' := 251) rfl (hb hby at_247) (by decide) (by decide) kk) ?_
        refine Go.st (S' := T38.setTop (mkF m 253 #[.val (.int p0), .val (.int p1), .val (.long q2), .second, .val (.int p3), .val (.long q4), .second, .val (.int p5), .val (.ref b1), .val (.int a2), .val (.int b2), .val (.long t2), .second, .val (.int m2), .val (.int md), .val (.int (1 : Int32)), .unset, .unset] [])) (fun _ kk => XS.istore X38.here hx rfl (hb hby at_251) rfl (l' := #[.val (.int p0), .val (.int p1), .val (.long q2), .second, .val (.int p3), .val (.long q4), .second, .val (.int p5), .val (.ref b1), .val (.int a2), .val (.int b2), .val (.long t2), .second, .val (.int m2), .val (.int md), .val (.int (1 : Int32)), .unset, .unset]) rfl kk) ?_
        refine Go.st (S' := T38.setTop (mkF m 255 #[.val (.int p0), .val (.int p1), .val (.long q2), .second, .val (.int p3), .val (.long q4), .second, .val (.int p5), .val (.ref b1), .val (.int a2), .val (.int b2), .val (.long t2), .second, .val (.int m2), .val (.int md), .val (.int (1 : Int32)), .unset, .unset] [(.int (1 : Int32))])) (fun _ kk => XS.iload X38.here hx rfl (hb hby at_253) rfl kk) ?_
        exact Go.retN X38 hx hlk (t := .boolean) Bd.returns (by simp) (hb hby at_255) (⟨rfl, N38⟩) (by decide) (by decide)
set_option maxRecDepth 65536 in
set_option maxHeartbeats 40000000 in
theorem comes_1 {Post : Tables → Env → Array Value → State → Outcome → State → Prop} (hpost : ∀ tb e args s v u, (limb_1_1.after args s (.returned v) u = true ∧ limb_1_2.after args s (.returned v) u = true ∧ True) → FrameEnd s (.returned v) u (Jvm.fieldLocs frame_1_writes args s ++ Jvm.arrayLocs frame_1_arrays args s ++ Jvm.staticLocs frame_1_statics s) 16 128 → Post tb e args s (.returned v) u) :
    ArmFor flags0 classFile x code maxLocals ret World_1 tables_1 room_1 Calls_1 rest_1 Pre_1 Post := by
  intro l hfl _ _ p e ha hc hk s m args below hf hA hF happ hP
  obtain ⟨hcalls, hrest, hpre⟩ := hP
  obtain ⟨-, -, -, hnamed, -, -, -, hat⟩ := (Spec.applies_iff hf).mp happ
  obtain ⟨hg, hn⟩ := and_e (Cond.before_iff.mp (show (Jvm.Cond.and given_1 narrow_1).before args s = true from hpre))
  obtain ⟨g0, gr0⟩ := and_e hg
  obtain ⟨ga0, gr1⟩ := and_e gr0
  obtain ⟨ga1, gr2⟩ := and_e gr1
  obtain ⟨ga2, gr3⟩ := and_e gr2
  obtain ⟨ga3, gr4⟩ := and_e gr3
  obtain ⟨ga4, gr5⟩ := and_e gr4
  have ga5 := gr5
  obtain ⟨w0, w1, w2, w3, w4, w5, rfl⟩ : ∃ w0 w1 w2 w3 w4 w5 : Value, args = #[w0, w1, w2, w3, w4, w5] := by
    have hs : args.size = 6 := by simpa [Cond.value, given_1] using g0
    obtain ⟨L⟩ := args
    match L, hs with
    | [w0, w1, w2, w3, w4, w5], _ => exact ⟨w0, w1, w2, w3, w4, w5, rfl⟩
  have hw := fun d (hd : d ∈ tables_1) => atoms_spec (ws := Jvm.Cond.code x code maxLocals ret :: tables_1) hat d (List.mem_cons_of_mem _ hd)
  have hfit : Fit s := fun {y c} hc i hi => by
    obtain ⟨ha, rfl⟩ := Array.getElem?_eq_some_iff.mp hc
    have q := List.all_eq_true.mp ((Array.all_eq_true_iff_forall_mem.mp hF) _ (Array.getElem_mem ha)) i (List.mem_range.mpr hi)
    simpa [Array.getElem?_eq_getElem hi] using q
  obtain ⟨i0, ei0⟩ := is_v ga0
  obtain rfl : w0 = (.int i0) := Option.some.inj ei0
  obtain ⟨i1, ei1⟩ := is_v ga1
  obtain rfl : w1 = (.int i1) := Option.some.inj ei1
  obtain ⟨i2, ei2⟩ := isL_v ga2
  obtain rfl : w2 = (.long i2) := Option.some.inj ei2
  obtain ⟨i3, ei3⟩ := is_v ga3
  obtain rfl : w3 = (.int i3) := Option.some.inj ei3
  obtain ⟨i4, ei4⟩ := isL_v ga4
  obtain rfl : w4 = (.long i4) := Option.some.inj ei4
  obtain ⟨i5, ei5⟩ := is_v ga5
  obtain rfl : w5 = (.int i5) := Option.some.inj ei5
  have hsets := (atoms_of jdkStatics_1 (show (jdkStatics_1.foldr Jvm.Cond.and restOwn_1).before _ s = true from by rw [← rest_1_c_eq]; exact hrest)).1
  obtain ⟨ca, Ch⟩ := own_cache hsets
  obtain ⟨n, o, h1, h2, h3, _, L, rfl, ⟨rfl, N⟩, hq⟩ := rm0 l s _ hw tables_1 i0 i1 i2 i3 i4 i5 ca s.heap s.heap.size (Nat.le_refl _) Ch (Old.start s) p e ha hc hk s m _ below hf ((Spec.applies_iff_loose hf).mp happ).1 ⟨rfl, State.Warmed39.refl s, rfl⟩ trivial
  refine ⟨n, _, h1, h2, h3, hpost _ _ _ _ _ _ ⟨Cond.after_iff.mpr rfl, Cond.after_iff.mpr (eq_i res_at (Term.int_eval (1)) rfl), trivial⟩ ⟨hq.1, hq.2.1, (hq.2.2.sift fun y hy => Or.inr (N y hy)).mono (by decide) (by decide)⟩⟩
theorem main_1_1 : Claimed_1_1 := comes_1 fun _ _ _ _ _ _ h hF => ⟨h.1, hF⟩
theorem main_1_2 : Claimed_1_2 := comes_1 fun _ _ _ _ _ _ h hF => ⟨h.2.1, hF⟩
end Jvm.Pilot.@@N@@
namespace Jvm.Pilot.@@N@@
open Jvm Jvm.ClassFile Sem Op Lib Jvm.Free Jvm.Stand Jvm.Pilot.@@N@@.Jvm.D
/-! MADE BY PROGRAM (witnessworld.py) out of the Statement's table words and the real class files: 16 classes; the members and pool entries that the words name. The judged class is class 1, her method 1. -/
namespace start1
open Jvm.ClassFile
def u (s : String) : CpInfo := .utf8 (stringToUtf16 s)
/-- a pool by its gaps: so many unusable entries, then the entry; so many at the end -/
def gap : Nat → List CpInfo → List CpInfo
  | 0, r => r
  | n + 1, r => .unusable :: gap n r
def poolList (es : List (Nat × CpInfo)) (last : Nat) : List CpInfo := es.foldr (fun e r => gap e.1 (e.2 :: r)) (gap last [])
def pool (es : List (Nat × CpInfo)) (last : Nat) : Array CpInfo := ⟨poolList es last⟩
def fileOf (pool : Array CpInfo) (this : Nat) (attrs : Array Attribute := #[]) (ms : Array MethodInfo := #[]) (fl : Nat := 33) (sup : Nat := 0) (ifs : Array Nat := #[]) (fds : Array FieldInfo := #[]) : ClassFile where
  minorVersion := 0
  majorVersion := 65
  constantPool := pool
  accessFlags := fl
  thisClass := this
  superClass := sup
  interfaces := ifs
  fields := fds
  methods := ms
  attributes := attrs
def plain (name : String) (sup : Option ClassId) : Class where
  name := name
  kind := .ordinary
  loader := none
  accessFlags := 33
  super := sup
  interfaces := #[]
  cf := none
  fields := #[]
  methods := #[]
  instanceTypes := #[]
  staticTypes := #[]
  resolved := #[]
  callSites := []
  init := .initialized
  statics := none
  mirror := none

def pool0 : Array CpInfo := pool [(5, u "<init>"), (0, u "()V"), (1, .class_ 10), (1, u "java/lang/Object")] 113

def k0c0 : Code := { maxStack := 0, maxLocals := 1, code := object_method_1_code, exceptionTable := #[], attributes := #[] }
def k0m0 : Method := { name := "<init>", desc := "()V", sig := { parameters := [], returnType := none }, accessFlags := 1, code := some k0c0 }
/-- java/lang/Object -/
def k0 : Class := { plain "java/lang/Object" none with
  accessFlags := 33
  interfaces := #[]
  cf := some (fileOf pool0 8 #[] #[{ accessFlags := 1, nameIndex := 5, descriptorIndex := 6, attributes := #[] }] 33 0 #[] #[])
  fields := #[]
  methods := #[k0m0]
  instanceTypes := #[]
  staticTypes := #[]
  resolved := Array.replicate 124 none
  statics := none }

def pool1 : Array CpInfo := pool [(2, .class_ 4), (1, u "java/lang/Object"), (0, u "<init>"), (0, u "()V"), (0, .class_ 8), (0, u "com/example/offset_lookup/offsetlookup/protocol/ListOffsetsRequest$Partition"), (0, .methodref 7 10), (0, .nameAndType 5 11), (0, u "(IIJI)V"), (0, .methodref 7 13), (0, .nameAndType 14 15), (0, u "equals"), (0, u "(Ljava/lang/Object;)Z"), (0, .methodref 17 18), (0, .class_ 19), (0, .nameAndType 20 21), (0, u "java/lang/Long"), (0, u "valueOf"), (0, u "(J)Ljava/lang/Long;"), (0, .class_ 23), (0, u "com/example/offset_lookup/offsetlookup/protocol/PartitionEqualsPinLaw"), (2, u "law"), (0, u "(IIJIJI)Z")] 7

def k1m0 : Method := { name := "<init>", desc := "()V", sig := { parameters := [], returnType := none }, accessFlags := 1, code := none }
def k1c1 : Code := { maxStack := 7, maxLocals := 18, code := code, exceptionTable := #[], attributes := #[] }
def k1m1 : Method := { name := "law", desc := "(IIJIJI)Z", sig := { parameters := [.int, .int, .long, .int, .long, .int], returnType := some .boolean }, accessFlags := 9, code := some k1c1 }
/-- com/example/offset_lookup/offsetlookup/protocol/PartitionEqualsPinLaw -/
def k1 : Class := { plain "com/example/offset_lookup/offsetlookup/protocol/PartitionEqualsPinLaw" (some 0) with
  accessFlags := 49
  interfaces := #[]
  cf := some (fileOf pool1 22 #[] #[{ accessFlags := 1, nameIndex := 5, descriptorIndex := 6, attributes := #[] }, { accessFlags := 9, nameIndex := 26, descriptorIndex := 27, attributes := #[] }] 49 2 #[] #[])
  fields := #[]
  methods := #[k1m0, k1m1]
  instanceTypes := #[]
  staticTypes := #[]
  resolved := Array.replicate 35 none
  statics := none }

def pool2 : Array CpInfo := pool [(1, .methodref 2 3), (0, .class_ 4), (0, .nameAndType 5 6), (0, u "java/lang/Object"), (0, u "<init>"), (0, u "()V"), (0, .fieldref 8 9), (0, .class_ 10), (0, .nameAndType 11 12), (0, u "com/example/offset_lookup/offsetlookup/protocol/ListOffsetsRequest$Partition"), (0, u "partitionIndex"), (0, u "I"), (0, .fieldref 8 14), (0, .nameAndType 15 12), (0, u "currentLeaderEpoch"), (0, .fieldref 8 17), (0, .nameAndType 18 19), (0, u "timestamp"), (0, u "J"), (0, .fieldref 8 21), (0, .nameAndType 22 12), (0, u "maxNumOffsets"), (21, u "(IIJI)V"), (4, u "equals"), (0, u "(Ljava/lang/Object;)Z"), (7, .class_ 59), (0, u "com/example/offset_lookup/offsetlookup/protocol/ListOffsetsRequest")] 16

def k2c0 : Code := { maxStack := 3, maxLocals := 6, code := prog_67_method_1_code, exceptionTable := #[], attributes := #[] }
def k2m0 : Method := { name := "<init>", desc := "(IIJI)V", sig := { parameters := [.int, .int, .long, .int], returnType := none }, accessFlags := 1, code := some k2c0 }
def k2c1 : Code := { maxStack := 4, maxLocals := 3, code := prog_67_method_6_code, exceptionTable := #[], attributes := #[] }
def k2m1 : Method := { name := "equals", desc := "(Ljava/lang/Object;)Z", sig := { parameters := [(.object "java/lang/Object")], returnType := some .boolean }, accessFlags := 1, code := some k2c1 }
/-- com/example/offset_lookup/offsetlookup/protocol/ListOffsetsRequest$Partition -/
def k2 : Class := { plain "com/example/offset_lookup/offsetlookup/protocol/ListOffsetsRequest$Partition" (some 0) with
  accessFlags := 33
  interfaces := #[]
  cf := some (fileOf pool2 8 #[.nestHost 58] #[{ accessFlags := 1, nameIndex := 5, descriptorIndex := 44, attributes := #[] }, { accessFlags := 1, nameIndex := 49, descriptorIndex := 50, attributes := #[] }] 33 2 #[] #[{ accessFlags := 18, nameIndex := 11, descriptorIndex := 12, attributes := #[] }, { accessFlags := 18, nameIndex := 15, descriptorIndex := 12, attributes := #[] }, { accessFlags := 18, nameIndex := 18, descriptorIndex := 19, attributes := #[] }, { accessFlags := 18, nameIndex := 22, descriptorIndex := 12, attributes := #[] }])
  fields := #[{ name := "partitionIndex", type := .int, accessFlags := 18, slot := 0, constantValue := 0 }, { name := "currentLeaderEpoch", type := .int, accessFlags := 18, slot := 1, constantValue := 0 }, { name := "timestamp", type := .long, accessFlags := 18, slot := 2, constantValue := 0 }, { name := "maxNumOffsets", type := .int, accessFlags := 18, slot := 3, constantValue := 0 }]
  methods := #[k2m0, k2m1]
  instanceTypes := #[.int, .int, .long, .int]
  staticTypes := #[]
  resolved := Array.replicate 76 none
  statics := none }

def pool3 : Array CpInfo := pool [(1, .class_ 2), (0, u "java/io/Serializable"), (0, .class_ 4), (0, u "java/lang/Object")] 2

/-- java/io/Serializable -/
def k3 : Class := { plain "java/io/Serializable" (some 0) with
  accessFlags := 1537
  interfaces := #[]
  cf := some (fileOf pool3 1 #[] #[] 1537 3 #[] #[])
  fields := #[]
  methods := #[]
  instanceTypes := #[]
  staticTypes := #[]
  resolved := Array.replicate 7 none
  statics := none }

def pool4 : Array CpInfo := pool [(1, .methodref 2 3), (0, .class_ 4), (0, .nameAndType 5 6), (0, u "java/lang/Object"), (0, u "<init>"), (0, u "()V"), (1, .class_ 10), (1, u "java/lang/Number"), (2, .class_ 14), (0, u "java/io/Serializable"), (0, u "serialVersionUID"), (0, u "J")] 20

def k4c0 : Code := { maxStack := 1, maxLocals := 1, code := jdk_18_method_1_code, exceptionTable := #[], attributes := #[] }
def k4m0 : Method := { name := "<init>", desc := "()V", sig := { parameters := [], returnType := none }, accessFlags := 1, code := some k4c0 }
/-- java/lang/Number -/
def k4 : Class := { plain "java/lang/Number" (some 0) with
  accessFlags := 1057
  interfaces := #[3]
  cf := some (fileOf pool4 8 #[] #[{ accessFlags := 1, nameIndex := 5, descriptorIndex := 6, attributes := #[] }] 1057 2 #[13] #[{ accessFlags := 26, nameIndex := 15, descriptorIndex := 16, attributes := #[] }])
  fields := #[{ name := "serialVersionUID", type := .long, accessFlags := 26, slot := 0, constantValue := 0 }]
  methods := #[k4m0]
  instanceTypes := #[]
  staticTypes := #[.long]
  resolved := Array.replicate 37 none
  statics := none }

def pool5 : Array CpInfo := pool [(1, .class_ 2), (0, u "java/lang/Comparable"), (0, .class_ 4), (0, u "java/lang/Object")] 7

/-- java/lang/Comparable -/
def k5 : Class := { plain "java/lang/Comparable" (some 0) with
  accessFlags := 1537
  interfaces := #[]
  cf := some (fileOf pool5 1 #[] #[] 1537 3 #[] #[])
  fields := #[]
  methods := #[]
  instanceTypes := #[]
  staticTypes := #[]
  resolved := Array.replicate 12 none
  statics := none }

def pool6 : Array CpInfo := pool [(1, .class_ 2), (0, u "java/lang/constant/Constable"), (0, .class_ 4), (0, u "java/lang/Object")] 6

/-- java/lang/constant/Constable -/
def k6 : Class := { plain "java/lang/constant/Constable" (some 0) with
  accessFlags := 1537
  interfaces := #[]
  cf := some (fileOf pool6 1 #[] #[] 1537 3 #[] #[])
  fields := #[]
  methods := #[]
  instanceTypes := #[]
  staticTypes := #[]
  resolved := Array.replicate 11 none
  statics := none }

def pool7 : Array CpInfo := pool [(1, .class_ 2), (0, u "java/lang/constant/ConstantDesc"), (0, .class_ 4), (0, u "java/lang/Object")] 32

/-- java/lang/constant/ConstantDesc -/
def k7 : Class := { plain "java/lang/constant/ConstantDesc" (some 0) with
  accessFlags := 1537
  interfaces := #[]
  cf := some (fileOf pool7 1 #[] #[] 1537 3 #[] #[])
  fields := #[]
  methods := #[]
  instanceTypes := #[]
  staticTypes := #[]
  resolved := Array.replicate 37 none
  statics := none }

def pool8 : Array CpInfo := pool [(1, .class_ 2), (0, u "java/lang/Long"), (55, .nameAndType 59 60), (0, u "<init>"), (0, u "()V"), (24, u "valueOf"), (143, u "(J)Ljava/lang/Long;"), (0, .long 18446744073709551488), (1, .long 127), (1, .fieldref 235 236), (0, .class_ 237), (0, .nameAndType 238 239), (0, u "java/lang/Long$LongCache"), (0, u "cache"), (0, u "[Ljava/lang/Long;"), (0, .methodref 1 241), (0, .nameAndType 59 242), (0, u "(J)V"), (27, .methodref 271 58), (0, .class_ 272), (0, u "java/lang/Number"), (0, .fieldref 1 274), (0, .nameAndType 275 276), (0, u "value"), (0, u "J"), (84, u "TYPE"), (0, u "Ljava/lang/Class;"), (0, .class_ 364), (0, u "java/lang/Comparable"), (0, .class_ 366), (0, u "java/lang/constant/Constable"), (0, .class_ 368), (0, u "java/lang/constant/ConstantDesc"), (0, u "MIN_VALUE"), (1, u "MAX_VALUE"), (4, u "SIZE"), (0, u "I"), (1, u "BYTES"), (1, u "serialVersionUID")] 142

def k8c0 : Code := { maxStack := 4, maxLocals := 3, code := jdk_35_method_24_code, exceptionTable := #[], attributes := #[] }
def k8m0 : Method := { name := "valueOf", desc := "(J)Ljava/lang/Long;", sig := { parameters := [.long], returnType := some (.object "java/lang/Long") }, accessFlags := 9, code := some k8c0 }
def k8c1 : Code := { maxStack := 3, maxLocals := 3, code := jdk_35_method_26_code, exceptionTable := #[], attributes := #[] }
def k8m1 : Method := { name := "<init>", desc := "(J)V", sig := { parameters := [.long], returnType := none }, accessFlags := 1, code := some k8c1 }
/-- java/lang/Long -/
def k8 : Class := { plain "java/lang/Long" (some 4) with
  accessFlags := 49
  interfaces := #[5, 6, 7]
  cf := some (fileOf pool8 1 #[.nestMembers #[235]] #[{ accessFlags := 9, nameIndex := 85, descriptorIndex := 229, attributes := #[] }, { accessFlags := 1, nameIndex := 59, descriptorIndex := 242, attributes := #[] }] 49 271 #[363, 365, 367] #[{ accessFlags := 25, nameIndex := 369, descriptorIndex := 276, attributes := #[] }, { accessFlags := 25, nameIndex := 371, descriptorIndex := 276, attributes := #[] }, { accessFlags := 25, nameIndex := 361, descriptorIndex := 362, attributes := #[] }, { accessFlags := 18, nameIndex := 275, descriptorIndex := 276, attributes := #[] }, { accessFlags := 25, nameIndex := 376, descriptorIndex := 377, attributes := #[] }, { accessFlags := 25, nameIndex := 379, descriptorIndex := 377, attributes := #[] }, { accessFlags := 26, nameIndex := 381, descriptorIndex := 276, attributes := #[] }])
  fields := #[{ name := "MIN_VALUE", type := .long, accessFlags := 25, slot := 0, constantValue := 0 }, { name := "MAX_VALUE", type := .long, accessFlags := 25, slot := 1, constantValue := 0 }, { name := "TYPE", type := (.object "java/lang/Class"), accessFlags := 25, slot := 2, constantValue := 0 }, { name := "value", type := .long, accessFlags := 18, slot := 0, constantValue := 0 }, { name := "SIZE", type := .int, accessFlags := 25, slot := 3, constantValue := 0 }, { name := "BYTES", type := .int, accessFlags := 25, slot := 4, constantValue := 0 }, { name := "serialVersionUID", type := .long, accessFlags := 26, slot := 5, constantValue := 0 }]
  methods := #[k8m0, k8m1]
  instanceTypes := #[.long]
  staticTypes := #[.long, .long, (.object "java/lang/Class"), .int, .int, .long]
  resolved := Array.replicate 524 none
  statics := none }

def pool9 : Array CpInfo := pool [(2, .class_ 4), (1, u "java/lang/Object"), (0, u "<init>"), (0, u "()V"), (0, .class_ 8), (0, u "java/lang/Long"), (7, .class_ 18), (1, u "java/lang/Long$LongCache"), (0, u "$assertionsDisabled"), (0, u "Z"), (8, u "archivedCache"), (0, u "[Ljava/lang/Long;"), (7, u "cache")] 24

def k9m0 : Method := { name := "<init>", desc := "()V", sig := { parameters := [], returnType := none }, accessFlags := 2, code := none }
/-- java/lang/Long$LongCache -/
def k9 : Class := { plain "java/lang/Long$LongCache" (some 0) with
  accessFlags := 48
  interfaces := #[]
  cf := some (fileOf pool9 16 #[.nestHost 7] #[{ accessFlags := 2, nameIndex := 5, descriptorIndex := 6, attributes := #[] }] 48 2 #[] #[{ accessFlags := 24, nameIndex := 38, descriptorIndex := 30, attributes := #[] }, { accessFlags := 8, nameIndex := 29, descriptorIndex := 30, attributes := #[] }, { accessFlags := 4120, nameIndex := 19, descriptorIndex := 20, attributes := #[] }])
  fields := #[{ name := "cache", type := (.array (.object "java/lang/Long")), accessFlags := 24, slot := 0, constantValue := 0 }, { name := "archivedCache", type := (.array (.object "java/lang/Long")), accessFlags := 8, slot := 1, constantValue := 0 }, { name := "$assertionsDisabled", type := .boolean, accessFlags := 4120, slot := 2, constantValue := 0 }]
  methods := #[k9m0]
  instanceTypes := #[]
  staticTypes := #[(.array (.object "java/lang/Long")), (.array (.object "java/lang/Long")), .boolean]
  resolved := Array.replicate 63 none
  statics := some 0 }

def pool10 : Array CpInfo := pool [(1, u "java/lang/Cloneable"), (0, .class_ 1), (0, u "java/lang/Object"), (0, .class_ 3)] 3

/-- java/lang/Cloneable -/
def k10 : Class := { plain "java/lang/Cloneable" (some 0) with
  accessFlags := 1537
  interfaces := #[]
  cf := some (fileOf pool10 2 #[] #[] 1537 4 #[] #[])
  fields := #[]
  methods := #[]
  instanceTypes := #[]
  staticTypes := #[]
  resolved := Array.replicate 8 none
  statics := none }

/-- the primitive byte -/
def k11 : Class := { plain "byte" none with kind := .primitive 'B', accessFlags := 0x411 }
/-- [B -/
def k12 : Class := { plain "[B" (some 0) with kind := .array 11 .byte, interfaces := #[10, 3], accessFlags := 1041 }

/-- the primitive int -/
def k13 : Class := { plain "int" none with kind := .primitive 'I', accessFlags := 0x411 }
/-- [I -/
def k14 : Class := { plain "[I" (some 0) with kind := .array 13 .int, interfaces := #[10, 3], accessFlags := 1041 }

/-- [Ljava/lang/Long; -/
def k15 : Class := { plain "[Ljava/lang/Long;" (some 0) with kind := .array 8 (.object "java/lang/Long"), interfaces := #[10, 3], accessFlags := 1041 }

def heap : Heap := #[{ cls := 9, slots := #[.ref 1, .null, .int 0], vm := .statics 9 },
  { cls := 15, slots := #[.ref 2, .ref 3, .ref 4, .ref 5, .ref 6, .ref 7, .ref 8, .ref 9, .ref 10, .ref 11, .ref 12, .ref 13, .ref 14, .ref 15, .ref 16, .ref 17, .ref 18, .ref 19, .ref 20, .ref 21, .ref 22, .ref 23, .ref 24, .ref 25, .ref 26, .ref 27, .ref 28, .ref 29, .ref 30, .ref 31, .ref 32, .ref 33, .ref 34, .ref 35, .ref 36, .ref 37, .ref 38, .ref 39, .ref 40, .ref 41, .ref 42, .ref 43, .ref 44, .ref 45, .ref 46, .ref 47, .ref 48, .ref 49, .ref 50, .ref 51, .ref 52, .ref 53, .ref 54, .ref 55, .ref 56, .ref 57, .ref 58, .ref 59, .ref 60, .ref 61, .ref 62, .ref 63, .ref 64, .ref 65, .ref 66, .ref 67, .ref 68, .ref 69, .ref 70, .ref 71, .ref 72, .ref 73, .ref 74, .ref 75, .ref 76, .ref 77, .ref 78, .ref 79, .ref 80, .ref 81, .ref 82, .ref 83, .ref 84, .ref 85, .ref 86, .ref 87, .ref 88, .ref 89, .ref 90, .ref 91, .ref 92, .ref 93, .ref 94, .ref 95, .ref 96, .ref 97, .ref 98, .ref 99, .ref 100, .ref 101, .ref 102, .ref 103, .ref 104, .ref 105, .ref 106, .ref 107, .ref 108, .ref 109, .ref 110, .ref 111, .ref 112, .ref 113, .ref 114, .ref 115, .ref 116, .ref 117, .ref 118, .ref 119, .ref 120, .ref 121, .ref 122, .ref 123, .ref 124, .ref 125, .ref 126, .ref 127, .ref 128, .ref 129, .ref 130, .ref 131, .ref 132, .ref 133, .ref 134, .ref 135, .ref 136, .ref 137, .ref 138, .ref 139, .ref 140, .ref 141, .ref 142, .ref 143, .ref 144, .ref 145, .ref 146, .ref 147, .ref 148, .ref 149, .ref 150, .ref 151, .ref 152, .ref 153, .ref 154, .ref 155, .ref 156, .ref 157, .ref 158, .ref 159, .ref 160, .ref 161, .ref 162, .ref 163, .ref 164, .ref 165, .ref 166, .ref 167, .ref 168, .ref 169, .ref 170, .ref 171, .ref 172, .ref 173, .ref 174, .ref 175, .ref 176, .ref 177, .ref 178, .ref 179, .ref 180, .ref 181, .ref 182, .ref 183, .ref 184, .ref 185, .ref 186, .ref 187, .ref 188, .ref 189, .ref 190, .ref 191, .ref 192, .ref 193, .ref 194, .ref 195, .ref 196, .ref 197, .ref 198, .ref 199, .ref 200, .ref 201, .ref 202, .ref 203, .ref 204, .ref 205, .ref 206, .ref 207, .ref 208, .ref 209, .ref 210, .ref 211, .ref 212, .ref 213, .ref 214, .ref 215, .ref 216, .ref 217, .ref 218, .ref 219, .ref 220, .ref 221, .ref 222, .ref 223, .ref 224, .ref 225, .ref 226, .ref 227, .ref 228, .ref 229, .ref 230, .ref 231, .ref 232, .ref 233, .ref 234, .ref 235, .ref 236, .ref 237, .ref 238, .ref 239, .ref 240, .ref 241, .ref 242, .ref 243, .ref 244, .ref 245, .ref 246, .ref 247, .ref 248, .ref 249, .ref 250, .ref 251, .ref 252, .ref 253, .ref 254, .ref 255, .ref 256, .ref 257], vm := .none },
  { cls := 8, slots := #[.long (-128)], vm := .none },
  { cls := 8, slots := #[.long (-127)], vm := .none },
  { cls := 8, slots := #[.long (-126)], vm := .none },
  { cls := 8, slots := #[.long (-125)], vm := .none },
  { cls := 8, slots := #[.long (-124)], vm := .none },
  { cls := 8, slots := #[.long (-123)], vm := .none },
  { cls := 8, slots := #[.long (-122)], vm := .none },
  { cls := 8, slots := #[.long (-121)], vm := .none },
  { cls := 8, slots := #[.long (-120)], vm := .none },
  { cls := 8, slots := #[.long (-119)], vm := .none },
  { cls := 8, slots := #[.long (-118)], vm := .none },
  { cls := 8, slots := #[.long (-117)], vm := .none },
  { cls := 8, slots := #[.long (-116)], vm := .none },
  { cls := 8, slots := #[.long (-115)], vm := .none },
  { cls := 8, slots := #[.long (-114)], vm := .none },
  { cls := 8, slots := #[.long (-113)], vm := .none },
  { cls := 8, slots := #[.long (-112)], vm := .none },
  { cls := 8, slots := #[.long (-111)], vm := .none },
  { cls := 8, slots := #[.long (-110)], vm := .none },
  { cls := 8, slots := #[.long (-109)], vm := .none },
  { cls := 8, slots := #[.long (-108)], vm := .none },
  { cls := 8, slots := #[.long (-107)], vm := .none },
  { cls := 8, slots := #[.long (-106)], vm := .none },
  { cls := 8, slots := #[.long (-105)], vm := .none },
  { cls := 8, slots := #[.long (-104)], vm := .none },
  { cls := 8, slots := #[.long (-103)], vm := .none },
  { cls := 8, slots := #[.long (-102)], vm := .none },
  { cls := 8, slots := #[.long (-101)], vm := .none },
  { cls := 8, slots := #[.long (-100)], vm := .none },
  { cls := 8, slots := #[.long (-99)], vm := .none },
  { cls := 8, slots := #[.long (-98)], vm := .none },
  { cls := 8, slots := #[.long (-97)], vm := .none },
  { cls := 8, slots := #[.long (-96)], vm := .none },
  { cls := 8, slots := #[.long (-95)], vm := .none },
  { cls := 8, slots := #[.long (-94)], vm := .none },
  { cls := 8, slots := #[.long (-93)], vm := .none },
  { cls := 8, slots := #[.long (-92)], vm := .none },
  { cls := 8, slots := #[.long (-91)], vm := .none },
  { cls := 8, slots := #[.long (-90)], vm := .none },
  { cls := 8, slots := #[.long (-89)], vm := .none },
  { cls := 8, slots := #[.long (-88)], vm := .none },
  { cls := 8, slots := #[.long (-87)], vm := .none },
  { cls := 8, slots := #[.long (-86)], vm := .none },
  { cls := 8, slots := #[.long (-85)], vm := .none },
  { cls := 8, slots := #[.long (-84)], vm := .none },
  { cls := 8, slots := #[.long (-83)], vm := .none },
  { cls := 8, slots := #[.long (-82)], vm := .none },
  { cls := 8, slots := #[.long (-81)], vm := .none },
  { cls := 8, slots := #[.long (-80)], vm := .none },
  { cls := 8, slots := #[.long (-79)], vm := .none },
  { cls := 8, slots := #[.long (-78)], vm := .none },
  { cls := 8, slots := #[.long (-77)], vm := .none },
  { cls := 8, slots := #[.long (-76)], vm := .none },
  { cls := 8, slots := #[.long (-75)], vm := .none },
  { cls := 8, slots := #[.long (-74)], vm := .none },
  { cls := 8, slots := #[.long (-73)], vm := .none },
  { cls := 8, slots := #[.long (-72)], vm := .none },
  { cls := 8, slots := #[.long (-71)], vm := .none },
  { cls := 8, slots := #[.long (-70)], vm := .none },
  { cls := 8, slots := #[.long (-69)], vm := .none },
  { cls := 8, slots := #[.long (-68)], vm := .none },
  { cls := 8, slots := #[.long (-67)], vm := .none },
  { cls := 8, slots := #[.long (-66)], vm := .none },
  { cls := 8, slots := #[.long (-65)], vm := .none },
  { cls := 8, slots := #[.long (-64)], vm := .none },
  { cls := 8, slots := #[.long (-63)], vm := .none },
  { cls := 8, slots := #[.long (-62)], vm := .none },
  { cls := 8, slots := #[.long (-61)], vm := .none },
  { cls := 8, slots := #[.long (-60)], vm := .none },
  { cls := 8, slots := #[.long (-59)], vm := .none },
  { cls := 8, slots := #[.long (-58)], vm := .none },
  { cls := 8, slots := #[.long (-57)], vm := .none },
  { cls := 8, slots := #[.long (-56)], vm := .none },
  { cls := 8, slots := #[.long (-55)], vm := .none },
  { cls := 8, slots := #[.long (-54)], vm := .none },
  { cls := 8, slots := #[.long (-53)], vm := .none },
  { cls := 8, slots := #[.long (-52)], vm := .none },
  { cls := 8, slots := #[.long (-51)], vm := .none },
  { cls := 8, slots := #[.long (-50)], vm := .none },
  { cls := 8, slots := #[.long (-49)], vm := .none },
  { cls := 8, slots := #[.long (-48)], vm := .none },
  { cls := 8, slots := #[.long (-47)], vm := .none },
  { cls := 8, slots := #[.long (-46)], vm := .none },
  { cls := 8, slots := #[.long (-45)], vm := .none },
  { cls := 8, slots := #[.long (-44)], vm := .none },
  { cls := 8, slots := #[.long (-43)], vm := .none },
  { cls := 8, slots := #[.long (-42)], vm := .none },
  { cls := 8, slots := #[.long (-41)], vm := .none },
  { cls := 8, slots := #[.long (-40)], vm := .none },
  { cls := 8, slots := #[.long (-39)], vm := .none },
  { cls := 8, slots := #[.long (-38)], vm := .none },
  { cls := 8, slots := #[.long (-37)], vm := .none },
  { cls := 8, slots := #[.long (-36)], vm := .none },
  { cls := 8, slots := #[.long (-35)], vm := .none },
  { cls := 8, slots := #[.long (-34)], vm := .none },
  { cls := 8, slots := #[.long (-33)], vm := .none },
  { cls := 8, slots := #[.long (-32)], vm := .none },
  { cls := 8, slots := #[.long (-31)], vm := .none },
  { cls := 8, slots := #[.long (-30)], vm := .none },
  { cls := 8, slots := #[.long (-29)], vm := .none },
  { cls := 8, slots := #[.long (-28)], vm := .none },
  { cls := 8, slots := #[.long (-27)], vm := .none },
  { cls := 8, slots := #[.long (-26)], vm := .none },
  { cls := 8, slots := #[.long (-25)], vm := .none },
  { cls := 8, slots := #[.long (-24)], vm := .none },
  { cls := 8, slots := #[.long (-23)], vm := .none },
  { cls := 8, slots := #[.long (-22)], vm := .none },
  { cls := 8, slots := #[.long (-21)], vm := .none },
  { cls := 8, slots := #[.long (-20)], vm := .none },
  { cls := 8, slots := #[.long (-19)], vm := .none },
  { cls := 8, slots := #[.long (-18)], vm := .none },
  { cls := 8, slots := #[.long (-17)], vm := .none },
  { cls := 8, slots := #[.long (-16)], vm := .none },
  { cls := 8, slots := #[.long (-15)], vm := .none },
  { cls := 8, slots := #[.long (-14)], vm := .none },
  { cls := 8, slots := #[.long (-13)], vm := .none },
  { cls := 8, slots := #[.long (-12)], vm := .none },
  { cls := 8, slots := #[.long (-11)], vm := .none },
  { cls := 8, slots := #[.long (-10)], vm := .none },
  { cls := 8, slots := #[.long (-9)], vm := .none },
  { cls := 8, slots := #[.long (-8)], vm := .none },
  { cls := 8, slots := #[.long (-7)], vm := .none },
  { cls := 8, slots := #[.long (-6)], vm := .none },
  { cls := 8, slots := #[.long (-5)], vm := .none },
  { cls := 8, slots := #[.long (-4)], vm := .none },
  { cls := 8, slots := #[.long (-3)], vm := .none },
  { cls := 8, slots := #[.long (-2)], vm := .none },
  { cls := 8, slots := #[.long (-1)], vm := .none },
  { cls := 8, slots := #[.long (0)], vm := .none },
  { cls := 8, slots := #[.long (1)], vm := .none },
  { cls := 8, slots := #[.long (2)], vm := .none },
  { cls := 8, slots := #[.long (3)], vm := .none },
  { cls := 8, slots := #[.long (4)], vm := .none },
  { cls := 8, slots := #[.long (5)], vm := .none },
  { cls := 8, slots := #[.long (6)], vm := .none },
  { cls := 8, slots := #[.long (7)], vm := .none },
  { cls := 8, slots := #[.long (8)], vm := .none },
  { cls := 8, slots := #[.long (9)], vm := .none },
  { cls := 8, slots := #[.long (10)], vm := .none },
  { cls := 8, slots := #[.long (11)], vm := .none },
  { cls := 8, slots := #[.long (12)], vm := .none },
  { cls := 8, slots := #[.long (13)], vm := .none },
  { cls := 8, slots := #[.long (14)], vm := .none },
  { cls := 8, slots := #[.long (15)], vm := .none },
  { cls := 8, slots := #[.long (16)], vm := .none },
  { cls := 8, slots := #[.long (17)], vm := .none },
  { cls := 8, slots := #[.long (18)], vm := .none },
  { cls := 8, slots := #[.long (19)], vm := .none },
  { cls := 8, slots := #[.long (20)], vm := .none },
  { cls := 8, slots := #[.long (21)], vm := .none },
  { cls := 8, slots := #[.long (22)], vm := .none },
  { cls := 8, slots := #[.long (23)], vm := .none },
  { cls := 8, slots := #[.long (24)], vm := .none },
  { cls := 8, slots := #[.long (25)], vm := .none },
  { cls := 8, slots := #[.long (26)], vm := .none },
  { cls := 8, slots := #[.long (27)], vm := .none },
  { cls := 8, slots := #[.long (28)], vm := .none },
  { cls := 8, slots := #[.long (29)], vm := .none },
  { cls := 8, slots := #[.long (30)], vm := .none },
  { cls := 8, slots := #[.long (31)], vm := .none },
  { cls := 8, slots := #[.long (32)], vm := .none },
  { cls := 8, slots := #[.long (33)], vm := .none },
  { cls := 8, slots := #[.long (34)], vm := .none },
  { cls := 8, slots := #[.long (35)], vm := .none },
  { cls := 8, slots := #[.long (36)], vm := .none },
  { cls := 8, slots := #[.long (37)], vm := .none },
  { cls := 8, slots := #[.long (38)], vm := .none },
  { cls := 8, slots := #[.long (39)], vm := .none },
  { cls := 8, slots := #[.long (40)], vm := .none },
  { cls := 8, slots := #[.long (41)], vm := .none },
  { cls := 8, slots := #[.long (42)], vm := .none },
  { cls := 8, slots := #[.long (43)], vm := .none },
  { cls := 8, slots := #[.long (44)], vm := .none },
  { cls := 8, slots := #[.long (45)], vm := .none },
  { cls := 8, slots := #[.long (46)], vm := .none },
  { cls := 8, slots := #[.long (47)], vm := .none },
  { cls := 8, slots := #[.long (48)], vm := .none },
  { cls := 8, slots := #[.long (49)], vm := .none },
  { cls := 8, slots := #[.long (50)], vm := .none },
  { cls := 8, slots := #[.long (51)], vm := .none },
  { cls := 8, slots := #[.long (52)], vm := .none },
  { cls := 8, slots := #[.long (53)], vm := .none },
  { cls := 8, slots := #[.long (54)], vm := .none },
  { cls := 8, slots := #[.long (55)], vm := .none },
  { cls := 8, slots := #[.long (56)], vm := .none },
  { cls := 8, slots := #[.long (57)], vm := .none },
  { cls := 8, slots := #[.long (58)], vm := .none },
  { cls := 8, slots := #[.long (59)], vm := .none },
  { cls := 8, slots := #[.long (60)], vm := .none },
  { cls := 8, slots := #[.long (61)], vm := .none },
  { cls := 8, slots := #[.long (62)], vm := .none },
  { cls := 8, slots := #[.long (63)], vm := .none },
  { cls := 8, slots := #[.long (64)], vm := .none },
  { cls := 8, slots := #[.long (65)], vm := .none },
  { cls := 8, slots := #[.long (66)], vm := .none },
  { cls := 8, slots := #[.long (67)], vm := .none },
  { cls := 8, slots := #[.long (68)], vm := .none },
  { cls := 8, slots := #[.long (69)], vm := .none },
  { cls := 8, slots := #[.long (70)], vm := .none },
  { cls := 8, slots := #[.long (71)], vm := .none },
  { cls := 8, slots := #[.long (72)], vm := .none },
  { cls := 8, slots := #[.long (73)], vm := .none },
  { cls := 8, slots := #[.long (74)], vm := .none },
  { cls := 8, slots := #[.long (75)], vm := .none },
  { cls := 8, slots := #[.long (76)], vm := .none },
  { cls := 8, slots := #[.long (77)], vm := .none },
  { cls := 8, slots := #[.long (78)], vm := .none },
  { cls := 8, slots := #[.long (79)], vm := .none },
  { cls := 8, slots := #[.long (80)], vm := .none },
  { cls := 8, slots := #[.long (81)], vm := .none },
  { cls := 8, slots := #[.long (82)], vm := .none },
  { cls := 8, slots := #[.long (83)], vm := .none },
  { cls := 8, slots := #[.long (84)], vm := .none },
  { cls := 8, slots := #[.long (85)], vm := .none },
  { cls := 8, slots := #[.long (86)], vm := .none },
  { cls := 8, slots := #[.long (87)], vm := .none },
  { cls := 8, slots := #[.long (88)], vm := .none },
  { cls := 8, slots := #[.long (89)], vm := .none },
  { cls := 8, slots := #[.long (90)], vm := .none },
  { cls := 8, slots := #[.long (91)], vm := .none },
  { cls := 8, slots := #[.long (92)], vm := .none },
  { cls := 8, slots := #[.long (93)], vm := .none },
  { cls := 8, slots := #[.long (94)], vm := .none },
  { cls := 8, slots := #[.long (95)], vm := .none },
  { cls := 8, slots := #[.long (96)], vm := .none },
  { cls := 8, slots := #[.long (97)], vm := .none },
  { cls := 8, slots := #[.long (98)], vm := .none },
  { cls := 8, slots := #[.long (99)], vm := .none },
  { cls := 8, slots := #[.long (100)], vm := .none },
  { cls := 8, slots := #[.long (101)], vm := .none },
  { cls := 8, slots := #[.long (102)], vm := .none },
  { cls := 8, slots := #[.long (103)], vm := .none },
  { cls := 8, slots := #[.long (104)], vm := .none },
  { cls := 8, slots := #[.long (105)], vm := .none },
  { cls := 8, slots := #[.long (106)], vm := .none },
  { cls := 8, slots := #[.long (107)], vm := .none },
  { cls := 8, slots := #[.long (108)], vm := .none },
  { cls := 8, slots := #[.long (109)], vm := .none },
  { cls := 8, slots := #[.long (110)], vm := .none },
  { cls := 8, slots := #[.long (111)], vm := .none },
  { cls := 8, slots := #[.long (112)], vm := .none },
  { cls := 8, slots := #[.long (113)], vm := .none },
  { cls := 8, slots := #[.long (114)], vm := .none },
  { cls := 8, slots := #[.long (115)], vm := .none },
  { cls := 8, slots := #[.long (116)], vm := .none },
  { cls := 8, slots := #[.long (117)], vm := .none },
  { cls := 8, slots := #[.long (118)], vm := .none },
  { cls := 8, slots := #[.long (119)], vm := .none },
  { cls := 8, slots := #[.long (120)], vm := .none },
  { cls := 8, slots := #[.long (121)], vm := .none },
  { cls := 8, slots := #[.long (122)], vm := .none },
  { cls := 8, slots := #[.long (123)], vm := .none },
  { cls := 8, slots := #[.long (124)], vm := .none },
  { cls := 8, slots := #[.long (125)], vm := .none },
  { cls := 8, slots := #[.long (126)], vm := .none },
  { cls := 8, slots := #[.long (127)], vm := .none }]
def classes : Array Class := #[k0, k1, k2, k3, k4, k5, k6, k7, k8, k9, k10, k11, k12, k13, k14, k15]
def interned : List (Array UInt16 × Addr) := []
def slotsUsed : Nat := 515
def theMethod : MethodId := ⟨1, 1⟩
def args0 : Array Value := #[.int 5, .int 6, .long 7, .int 8, .long 9, .int 3]
def aboutOver (below : List Frame) : State where
  vm := { classes := classes, interned := interned.toArray }
  heap := heap
  slotsUsed := slotsUsed
  threads := #[{ frames := .invoking theMethod args0 :: below }]
def below0 : List Frame := [.native { method := ⟨0, 0⟩, args := #[] }]
def about1 : State := aboutOver below0
def p0 : Program := .bare "" "" ""
def e0 : Env := launch0.env 0 0 0
theorem w_frames : about1.frames = Frame.invoking theMethod args0 :: below0 := rfl
set_option maxRecDepth 65536 in
theorem w_args : argsFit about1.vm theMethod args0 = true := by decide +kernel
set_option maxRecDepth 65536 in
theorem w_heap : heapFits about1 = true := by decide +kernel
set_option maxRecDepth 65536 in
theorem w_runnable : about1.curStatus? = some .runnable := by decide +kernel
set_option maxRecDepth 65536 in
theorem w_alone : about1.alone = true := by decide +kernel
set_option maxRecDepth 65536 in
theorem w_named : about1.methodNamed? x = some theMethod := by decide +kernel
set_option maxRecDepth 65536 in
theorem w_hears : about1.hears theMethod below0 = true := by decide +kernel
set_option maxRecDepth 65536 in
theorem w_ripe : about1.ripe theMethod args0 below0 = true := by decide +kernel
theorem w_running : about1.status = .running := rfl
set_option maxRecDepth 65536 in
theorem w_room : about1.hasRoom e0.platform room_1 = true :=
  launch0.hasRoom_least _ room_1 (by decide +kernel) (by decide +kernel) (by decide +kernel) (by decide +kernel) (by decide +kernel) (by decide +kernel)
theorem allAtoms_all (ts : List Jvm.Cond) (a : Array Jvm.Value) (st : Jvm.State) : (allAtoms ts).before a st = ts.all (fun c => c.before a st) := by
  induction ts with
  | nil => rfl
  | cons c t ih =>
    show (Jvm.Cond.and c (allAtoms t)).before a st = _
    rw [Jvm.Cond.before_and, ih, List.all_cons]
def words1 : List Jvm.Cond := Jvm.Cond.code x code maxLocals ret :: tables_1
/-- a 'code' word, met by the world's own term for the bytes: nothing is compared byte by byte -/
theorem code_word {y : MethodName} {bytes : ByteArray} {mx : Nat} {rt : Option FieldType} {a : Array Value} {s : State} {m : MethodId} {meth : Method} {c : Code} (h1 : s.methodNamed? y = some m) (h2 : s.vm.method? m = some meth) (h3 : meth.code = some c) (h4 : c.code = bytes)
    (h5 : (c.maxLocals == mx && c.exceptionTable.isEmpty && decide (c.maxStack ≤ mostOperands) && decide (meth.sig.returnType = rt) && !meth.locks && decide (parseMethodDescriptor y.desc = some meth.sig)) = true) : (Jvm.Cond.code y bytes mx rt).before a s = true := by
  simp only [Bool.and_eq_true, beq_iff_eq, Bool.not_eq_true', decide_eq_true_eq] at h5
  obtain ⟨⟨⟨⟨⟨g1, g2⟩, g3⟩, g4⟩, g5⟩, g6⟩ := h5
  simp [Cond.before, Cond.holds, Cond.value, h1, h2, h3, h4, g1, g2, g3, g4, g5, g6]
def isCode : Jvm.Cond → Bool
  | .code _ _ _ _ => true
  | _ => false
theorem all_split {L : List Jvm.Cond} {P : Jvm.Cond → Bool} (h1 : L.all (fun c => isCode c || P c) = true) (h2 : ∀ c ∈ L.filter isCode, P c = true) : L.all P = true := by
  refine List.all_eq_true.mpr fun c hc => ?_
  have h := List.all_eq_true.mp h1 c hc
  rcases Bool.eq_false_or_eq_true (isCode c) with hi | hi
  · exact h2 c (List.mem_filter.mpr ⟨hc, hi⟩)
  · simpa [hi] using h
set_option maxRecDepth 65536 in
theorem w_c0 : (Jvm.Cond.code x code maxLocals ret).before args0 about1 = true := code_word (m := ⟨1, 1⟩) (meth := k1m1) (c := k1c1) (by decide +kernel) rfl rfl rfl (by decide +kernel)
set_option maxRecDepth 65536 in
theorem w_c1 : (Jvm.Cond.code ({ cls := "com/example/offset_lookup/offsetlookup/protocol/ListOffsetsRequest$Partition", name := "<init>", desc := "(IIJI)V" } : Jvm.MethodName) prog_67_method_1_code (6 : Nat) (Option.none : Option Jvm.ClassFile.FieldType)).before args0 about1 = true := code_word (m := ⟨2, 0⟩) (meth := k2m0) (c := k2c0) (by decide +kernel) rfl rfl rfl (by decide +kernel)
set_option maxRecDepth 65536 in
theorem w_c2 : (Jvm.Cond.code ({ cls := "java/lang/Object", name := "<init>", desc := "()V" } : Jvm.MethodName) object_method_1_code (1 : Nat) (Option.none : Option Jvm.ClassFile.FieldType)).before args0 about1 = true := code_word (m := ⟨0, 0⟩) (meth := k0m0) (c := k0c0) (by decide +kernel) rfl rfl rfl (by decide +kernel)
set_option maxRecDepth 65536 in
theorem w_c3 : (Jvm.Cond.code ({ cls := "com/example/offset_lookup/offsetlookup/protocol/ListOffsetsRequest$Partition", name := "equals", desc := "(Ljava/lang/Object;)Z" } : Jvm.MethodName) prog_67_method_6_code (3 : Nat) (Option.some Jvm.ClassFile.FieldType.boolean)).before args0 about1 = true := code_word (m := ⟨2, 1⟩) (meth := k2m1) (c := k2c1) (by decide +kernel) rfl rfl rfl (by decide +kernel)
set_option maxRecDepth 65536 in
theorem w_c4 : (Jvm.Cond.code ({ cls := "java/lang/Long", name := "valueOf", desc := "(J)Ljava/lang/Long;" } : Jvm.MethodName) jdk_35_method_24_code (3 : Nat) (Option.some (Jvm.ClassFile.FieldType.object "java/lang/Long"))).before args0 about1 = true := code_word (m := ⟨8, 0⟩) (meth := k8m0) (c := k8c0) (by decide +kernel) rfl rfl rfl (by decide +kernel)
set_option maxRecDepth 65536 in
theorem w_c5 : (Jvm.Cond.code ({ cls := "java/lang/Long", name := "<init>", desc := "(J)V" } : Jvm.MethodName) jdk_35_method_26_code (3 : Nat) (Option.none : Option Jvm.ClassFile.FieldType)).before args0 about1 = true := code_word (m := ⟨8, 1⟩) (meth := k8m1) (c := k8c1) (by decide +kernel) rfl rfl rfl (by decide +kernel)
set_option maxRecDepth 65536 in
theorem w_c6 : (Jvm.Cond.code ({ cls := "java/lang/Number", name := "<init>", desc := "()V" } : Jvm.MethodName) jdk_18_method_1_code (1 : Nat) (Option.none : Option Jvm.ClassFile.FieldType)).before args0 about1 = true := code_word (m := ⟨4, 0⟩) (meth := k4m0) (c := k4c0) (by decide +kernel) rfl rfl rfl (by decide +kernel)
def codes1 : List Jvm.Cond := [Jvm.Cond.code x code maxLocals ret, Jvm.Cond.code ({ cls := "com/example/offset_lookup/offsetlookup/protocol/ListOffsetsRequest$Partition", name := "<init>", desc := "(IIJI)V" } : Jvm.MethodName) prog_67_method_1_code (6 : Nat) (Option.none : Option Jvm.ClassFile.FieldType), Jvm.Cond.code ({ cls := "java/lang/Object", name := "<init>", desc := "()V" } : Jvm.MethodName) object_method_1_code (1 : Nat) (Option.none : Option Jvm.ClassFile.FieldType), Jvm.Cond.code ({ cls := "com/example/offset_lookup/offsetlookup/protocol/ListOffsetsRequest$Partition", name := "equals", desc := "(Ljava/lang/Object;)Z" } : Jvm.MethodName) prog_67_method_6_code (3 : Nat) (Option.some Jvm.ClassFile.FieldType.boolean), Jvm.Cond.code ({ cls := "java/lang/Long", name := "valueOf", desc := "(J)Ljava/lang/Long;" } : Jvm.MethodName) jdk_35_method_24_code (3 : Nat) (Option.some (Jvm.ClassFile.FieldType.object "java/lang/Long")), Jvm.Cond.code ({ cls := "java/lang/Long", name := "<init>", desc := "(J)V" } : Jvm.MethodName) jdk_35_method_26_code (3 : Nat) (Option.none : Option Jvm.ClassFile.FieldType), Jvm.Cond.code ({ cls := "java/lang/Number", name := "<init>", desc := "()V" } : Jvm.MethodName) jdk_18_method_1_code (1 : Nat) (Option.none : Option Jvm.ClassFile.FieldType)]
set_option maxRecDepth 65536 in
theorem codes_eq : words1.filter isCode = codes1 := rfl
theorem w_codes : ∀ c ∈ words1.filter isCode, c.before args0 about1 = true := by
  rw [codes_eq]
  intro c hc
  simp only [codes1, List.mem_cons, List.not_mem_nil, or_false] at hc
  rcases hc with rfl | rfl | rfl | rfl | rfl | rfl | rfl
  · exact w_c0
  · exact w_c1
  · exact w_c2
  · exact w_c3
  · exact w_c4
  · exact w_c5
  · exact w_c6
set_option maxRecDepth 65536 in
theorem w_t1 : (words1.take 24).all (fun c => isCode c || c.before args0 about1) = true := by decide +kernel
set_option maxRecDepth 65536 in
theorem w_t2 : ((words1.drop 24).take 24).all (fun c => isCode c || c.before args0 about1) = true := by decide +kernel
set_option maxRecDepth 65536 in
theorem w_t3 : ((words1.drop 24).drop 24).all (fun c => isCode c || c.before args0 about1) = true := by decide +kernel
theorem w_tables : (allAtoms (Jvm.Cond.code x code maxLocals ret :: tables_1)).before args0 about1 = true := by
  rw [allAtoms_all]
  show words1.all (fun c => c.before args0 about1) = true
  refine all_split ?_ w_codes
  rw [← List.take_append_drop 24 words1, List.all_append, w_t1, ← List.take_append_drop 24 (words1.drop 24), List.all_append, w_t2, w_t3]
  rfl
set_option maxRecDepth 65536 in
theorem w_rest : rest_1_c.before args0 about1 = true := by decide +kernel
set_option maxRecDepth 65536 in
theorem w_case : (Jvm.Cond.and given_1 narrow_1).before args0 about1 = true := by decide +kernel
theorem w_applies : (headSpec (Jvm.Cond.code x code maxLocals ret :: tables_1) room_1).applies x e0.platform about1 = true :=
  (Spec.applies_iff w_frames).mpr ⟨w_running, w_runnable, w_alone, w_named, w_hears, w_ripe, w_room, w_tables⟩
theorem atStart : AtStart classFile x code maxLocals ret World_1 tables_1 room_1 Calls_1 rest_1 Pre_1 launch0 p0 e0 about1 theMethod args0 below0 :=
  ⟨lists_1, trivial, launch0.admits_env _ _ _, launch0.least_env, fairChoices_fair.cas, fairChoices_fair.clock, w_frames, w_args, w_heap, w_applies, trivial, w_rest, w_case⟩
end start1
theorem witness_1 : WitnessClaimed_1 := ⟨start1.p0, start1.e0, start1.about1, start1.theMethod, start1.args0, start1.below0, start1.atStart⟩
end Jvm.Pilot.@@N@@
